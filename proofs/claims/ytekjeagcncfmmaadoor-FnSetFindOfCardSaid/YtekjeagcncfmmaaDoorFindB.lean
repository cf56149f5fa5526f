/- spec.SetMeantIn and digestset.ZZSet, walked: the parts that begin with a text; the set of the parts in memory. -/
import Derived.Test.YtekjeagcncfmmaaDoorFindA
import Derived.Laws.Concat
import Derived.Laws.AppendOwn
import Derived.OwnWalk
set_option linter.unusedVariables false
set_option linter.unusedSimpArgs false
namespace Go.Proofs.YtekjeagcncfmmaaDoor
open Go.RowKit

theorem info_str : (Tryd.prog.info? 9).map (fun i => (i.zero, i.size, i.bytes)) = some (some (.string ⟨#[]⟩), 1, 16) := by kernel_rfl
theorem info_ent : (Tryd.prog.info? 55).map (fun i => (i.zero, i.size, i.bytes)) = some (some (.pointer none), 1, 8) := by kernel_rfl

/-- A list of texts in memory. -/
def ListAt (w : World) (ao : Option Addr) (l : List ByteArray) : Prop := ∀ i x, l[i]? = some x → ∃ a, ao = some a ∧ w.cell? (a.add i) = some (.string x)

theorem list_of_own {w : World} {base : Nat} {e : TypeId} {v : Value} {l : List ByteArray} (h : w.ownsRow base e 1 v l.length (l.map Value.string)) : ∃ ao c, v = .slice ao l.length c ∧ ListAt w ao l := by
  by_cases hl : l = []
  · subst hl
    rcases h.2 with ⟨hv, _⟩ | ⟨g, cap, cur, hv, _⟩
    · exact ⟨none, 0, hv, fun i x hx => by simp at hx⟩
    · exact ⟨_, cap, hv, fun i x hx => by simp at hx⟩
  · obtain ⟨g, c, hv, _, hs⟩ := strs_of_own h hl
    refine ⟨_, c, hv, fun i x hx => ⟨_, rfl, ?_⟩⟩
    have e : (⟨g, 0, none⟩ : Addr).add i = ⟨g, i, none⟩ := by unfold Addr.add; split <;> simp_all
    rw [e]
    exact hs i x hx

/-- What the loop of SetMeantIn holds behind k parts. -/
def MRel (t : ByteArray) (f : Nat → ByteArray) (w : World) (k : Nat) (v : Value) (wr : World) : Prop :=
  wr.ownsRow w.heap.size 9 1 v ((mts t f k).map Value.string).length ((mts t f k).map Value.string) ∧ Below w.heap.size w wr

theorem mrel_skip {t : ByteArray} {f : Nat → ByteArray} {w wr : World} {k : Nat} {v : Value} (h : MRel t f w k v wr) (hb : begB t (f k) = false) : MRel t f w (k + 1) v wr := by
  unfold MRel at h ⊢
  unfold mts
  rw [hb]
  simp only [Bool.false_eq_true, if_false, List.append_nil]
  exact h
theorem mrel_take {t : ByteArray} {f : Nat → ByteArray} {w w1 : World} {k : Nat} {v1 : Value} (hb : begB t (f k) = true)
    (hown : w1.ownsRow w.heap.size 9 1 v1 ((mts t f k).map Value.string ++ [Value.string (f k)]).length ((mts t f k).map Value.string ++ [Value.string (f k)])) (h1 : Below w.heap.size w w1) : MRel t f w (k + 1) v1 w1 := by
  unfold MRel mts
  rw [hb]
  refine ⟨?_, h1⟩
  simp only [if_true, List.map_append, List.map_cons, List.map_nil]
  exact hown

set_option maxRecDepth 100000 in
theorem meant_any (ao : Option Addr) (n c : Nat) (f : Nat → ByteArray) (t : ByteArray) (w : World) (hn : n ≤ 40) (hS : Strs w ao n f) : Calls Tryd.prog 9 #[.slice ao n c, .string t] w fun e w' =>
    (∃ bo d, e = .returned (.slice bo (mts t f n).length d) ∧ ListAt w' bo (mts t f n)) ∧ Below w.heap.size w w' := by
  have HS := hid hS
  clear hS
  go_enter Tryd.func9, Tryd.ntmps9
  go_wp2_with fail
  go_loopw [10, 5] (fun i v wr => ∃ k : Nat, k ≤ n ∧ i = .int .i64 k ∧ Hid (MRel t f w k v wr)) (fun i _ _ => n - (intOf i).toNat)
  case atStart => exact ⟨0, Nat.zero_le _, rfl, ⟨World.ownsRow_nil _ _ _ _, Below.refl _ _⟩⟩
  case round =>
    obtain ⟨k, hk, rfl, R⟩ := hrel
    have hb := R.out.2
    have HB := hid hb
    have hown := R.out.1
    have hlen := mts_len t f k
    generalize hxs : (mts t f k).map Value.string = xs at hown
    have hxl : xs.length = (mts t f k).length := by rw [← hxs]; simp
    have HX := hid hxs
    have HO := hid hown
    have HL := hid hlen
    clear hxs hown hlen hb
    have hxm : xs.length ≤ 40 := by have := HL.out; omega
    clear hxl
    by_cases hlt : k < n
    · obtain ⟨a, rfl, hc⟩ := (show Strs wr ao n f from fun i hi => (HS.out.below HB.out) i hi) k hlt
      obtain ⟨s, hs⟩ : ∃ s, f k = s := ⟨_, rfl⟩
      rw [hs] at hc
      have HSS := hid hs
      clear hs
      have hw : IntKind.i64.wrap ((k : Int) + 1) = (k : Int) + 1 := IntWalk.i64_in _ (by omega)
      cases hq : begB t s with
      | false =>
        have HQ := hid hq
        clear hq
        have C := fun w => begins_any s t w
        simp only [HQ.out] at C
        go_wp2_with (go_at_call 13; refine (C _).mono ?_; rintro e w' ⟨rfl, rfl⟩)
        go_roundw
        case rel => exact ⟨k + 1, by omega, by go_num, mrel_skip R.out (by rw [HSS.out]; exact HQ.out)⟩
        case measure => simp [intOf]; omega
      | true =>
        have HQ := hid hq
        clear hq
        have C := fun w => begins_any s t w
        simp only [HQ.out] at C
        go_wp2_with (first | (go_at_call 13; refine (C _).mono ?_; rintro e w' ⟨rfl, rfl⟩) | (at_builtin; refine app_one (w0 := w) w.heap.size rfl (.tmp 17) (.tmp 19) _ _ _ 16 rfl Tryd.underlying22 info_str rfl _ xs _ rfl rfl rfl HO.out HB.out HB.out.size (by unfold maxLen; omega) (by omega) ?_; intro v1 w1 hown1 hb1; have HO1 := hid hown1; have HB1 := hid hb1; clear hown1 hb1))
        go_roundw
        case rel => exact ⟨k + 1, by omega, by go_num, mrel_take (by rw [HSS.out]; exact HQ.out) (by rw [HX.out, HSS.out]; exact HO1.out) HB1.out⟩
        case measure => simp [intOf]; omega
    · obtain rfl : k = n := by omega
      go_wp2_with fail
      go_ret
      obtain ⟨bo, d, hv, hl⟩ := list_of_own (l := mts t f k) (by have := R.out.1; simpa using this)
      subst hv
      exact ⟨⟨bo, d, rfl, hl⟩, HB.out⟩

/-- A set: no writer, rc readers, the entries' slice v. -/
abbrev scells (rc : Int) (v : Value) : Array Value := #[.int .i32 0, .int .u32 0, .int .u32 0, .int .u32 0, .int .i32 rc, .int .i32 0, v]
/-- The digest of a part. -/
def dgOf (alg s : ByteArray) : ByteArray := alg ++ ⟨#[58]⟩ ++ s
abbrev ecells (alg s : ByteArray) : Array Value := #[.string alg, .string s, .string (dgOf alg s)]
/-- Pointers to entries. -/
abbrev ptrs (hs : List Nat) : List Value := hs.map (fun g => Value.pointer (some ⟨g, 0, none⟩))
/-- The entries' blocks. -/
def Ents (w : World) (alg : ByteArray) (f : Nat → ByteArray) (hs : List Nat) : Prop := ∀ i g, hs[i]? = some g → Blk w g 58 (ecells alg (f i))
theorem Ents.map {w w' : World} {alg : ByteArray} {f : Nat → ByteArray} {hs : List Nat} (h : Ents w alg f hs) (hm : ∀ g cs, Blk w g 58 cs → Blk w' g 58 cs) : Ents w' alg f hs := fun i g hg => hm g _ (h i g hg)
theorem Ents.below {w w' : World} {alg : ByteArray} {f : Nat → ByteArray} {hs : List Nat} (h : Ents w alg f hs) (hb : Below w.heap.size w w') : Ents w' alg f hs := fun i g hg => (h i g hg).below hb
theorem Ents.snoc {w : World} {alg : ByteArray} {f : Nat → ByteArray} {hs : List Nat} {k g : Nat} (h : Ents w alg f hs) (hk : hs.length = k) (hg : Blk w g 58 (ecells alg (f k))) : Ents w alg f (hs ++ [g]) := fun i j hj => by
  rw [List.getElem?_append] at hj
  split at hj
  · exact h i j hj
  · rcases hi : i - hs.length with _ | m
    · have : i = k := by omega
      rw [hi] at hj
      simp at hj
      subst hj
      rw [this]; exact hg
    · rw [hi] at hj
      simp at hj

/-- A block of another element type is not the row's own. -/
theorem own_ne {w : World} {base size n b : Nat} {e t : TypeId} {v : Value} {xs : List Value} {cs : Array Value} (h : w.ownsRow base e size v n xs) (hB : Blk w b t cs) (hte : t ≠ e) : ∀ k, v.ownBlock = some k → b ≠ k := by
  rintro k hk rfl
  rcases h.2 with ⟨rfl, _⟩ | ⟨g, cap, cur, rfl, _, h3, _⟩
  · cases hk
  · simp [Value.ownBlock] at hk
    subst hk
    rw [show w.heap[g]? = _ from hB] at h3
    simp at h3
    exact hte h3.2
theorem own_set {w : World} {base size n b : Nat} {e t : TypeId} {v : Value} {xs : List Value} {cs : Array Value} (h : w.ownsRow base e size v n xs) (hB : Blk w b t cs) (hte : t ≠ e) (i : Nat) (u : Value) : (w.setCell ⟨b, i, none⟩ u).ownsRow base e size v n xs := by
  refine ⟨h.1, ?_⟩
  rcases h.2 with h0 | ⟨g, cap, cur, rfl, h2, h3, h4⟩
  · exact .inl h0
  · refine .inr ⟨g, cap, cur, rfl, h2, ?_, h4⟩
    have : b ≠ g := own_ne h hB hte g rfl
    simp [World.setCell, Array.getElem?_modify, h3, this]
theorem Blk.grown {w w' : World} {g : Nat} {t : TypeId} {cs : Array Value} {row : Option Nat} (h : Blk w g t cs) (hg : w.grownBy w' row) (hr : ∀ k, row = some k → g ≠ k) : Blk w' g t cs :=
  (hg.block g h.lt (fun e => hr g e.symm rfl)).trans h
theorem Blk.set_other {w : World} {g b : Nat} {t : TypeId} {cs : Array Value} (h : Blk w g t cs) (hne : g ≠ b) (i : Nat) (u : Value) : Blk (w.setCell ⟨b, i, none⟩ u) g t cs := by
  unfold Blk at h ⊢
  simp [World.setCell, Array.getElem?_modify, h, Ne.symm hne]
theorem blk_ne {w : World} {g b : Nat} {t e : TypeId} {cs ds : Array Value} (h : Blk w g t cs) (hB : Blk w b e ds) (hte : t ≠ e) : g ≠ b := by
  rintro rfl
  unfold Blk at h hB
  rw [h] at hB
  simp at hB
  exact hte hB.2

section
variable {P : Program} {ops : Array Oper} {rest : List Oper} {o : Oper} {a : Act} {Q : Exit → Act → World → Prop}
/-- 'append(v, y)' where other blocks matter, too. -/
theorem app_more {w0 W : World} (base : Nat) (hgd : o.guard = none) (s x : Operand) (t e : TypeId) (z : Value) (bytes : Nat)
    (ho : o.op = .call { callee := .builtin .append, args := #[s, x], argTypes := #[t, t] })
    (ht : P.underlying t = some (.slice e)) (hinfo : (P.info? e).map (fun i => (i.zero, i.size, i.bytes)) = some (some z, 1, bytes)) (hz : z.cells.size = 1)
    (v : Value) (xs : List Value) (y : Value) (hs : a.eval s = v) (hx : a.eval x = .slice (some ⟨W.heap.size, 0, none⟩) 1 1) (h1 : y.oneCell' = true)
    (HO : W.ownsRow base e 1 v xs.length xs) (HB : Below base w0 W) (hbase : base ≤ W.heap.size) (hm : xs.length + 1 ≤ maxLen) (hl : (xs.length + 1) * bytes ≤ 140737488355328)
    (h : ∀ v1 w1, w1.ownsRow base e 1 v1 (xs ++ [y]).length (xs ++ [y]) → (W.alloc (.cells #[y] e)).grownBy w1 v.ownBlock → Below base w0 w1 → wpList P ops Q rest (a.put o.dst v1) w1) :
    wpList P ops Q (o :: rest) a (W.alloc (.cells #[y] e)) := by
  obtain ⟨i0, hi, hzz⟩ := Option.map_eq_some_iff.1 hinfo
  simp only [Prod.mk.injEq] at hzz
  obtain ⟨hz0, hz1, hz2⟩ := hzz
  refine wpList_append_own (W.alloc (.cells #[y] e)) hgd s x t ho base e i0 z 1 bytes ht hi hz0 hz1 hz2 hz (by omega) v xs.length xs hs (HO.alloc _) ⟨W.heap.size, 0, none⟩ 1 1 [y] hx rfl ?_ (by simpa using h1) hm hl (by simp; omega) ?_
  · intro j u hu
    have hj : j = 0 := by
      rcases j with _ | j
      · rfl
      · simp at hu
    subst hj
    simp at hu
    subst hu
    rw [Addr.add_zero']
    exact (Blk.new W e #[y]).cell 0
  · intro v1 w1 hown hg _
    exact h v1 w1 (by simpa using hown) hg ((HB.alloc hbase _).grown hg (by simp; omega) (own_low HO))
end

theorem newSet_any (w : World) : Calls Tryd.prog 14 #[] w fun e w' => (∃ g v, e = .returned (.pointer (some ⟨g, 0, none⟩)) ∧ Blk w' g 54 (scells 0 v) ∧ w.heap.size ≤ g ∧ w'.ownsRow w.heap.size 55 1 v 0 []) ∧ Below w.heap.size w w' := by
  go_enter Tryd.func14, Tryd.ntmps14
  go_wp2_with fail
  go_ret
  refine ⟨⟨_, .slice (some ⟨w.heap.size, 0, none⟩) 0 0, rfl, (by have B := Blk.new (w.alloc (.cells #[] 55)) 54 (scells 0 (.slice (some ⟨w.heap.size, 0, none⟩) 0 0)); rw [World.size_alloc] at B; exact B), by simp, ?_⟩, by go_grown⟩
  exact (World.ownsRow_made (base := w.heap.size) w #[] 0 (Nat.le_refl _) (by simp [maxLen]) (by simp)).alloc _
end Go.Proofs.YtekjeagcncfmmaaDoor
