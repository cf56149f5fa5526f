/- laws.svGood, walked: every version of a list has valid parts. -/
import Derived.Test.YtkohcmgckkenpaaDoorGood
import Derived.IntWalk
set_option linter.unusedVariables false
set_option linter.unusedSimpArgs false
namespace Go.Proofs.YtkohcmgckkenpaaDoor
open Go.RowKit

structure Ver where
  a : Int
  b : Int
  c : Int
  p : ByteArray
  m : ByteArray
abbrev Ver.s (v : Ver) : Array Value := scells v.a v.b v.c v.p v.m
abbrev Ver.v (v : Ver) : Array Value := vcells v.a v.b v.c v.p v.m
def verOk (v : Ver) : Bool := short v.p && (short v.m && goodB v.p v.m)
/-- The versions lie in block g, five cells each. -/
def VersAt (w : World) (g : Nat) (vs : List Ver) : Prop := ∀ i v, vs[i]? = some v →
  w.cell? ⟨g, i * 5, none⟩ = some (.int .u64 v.a) ∧ w.cell? ⟨g, i * 5 + 1, none⟩ = some (.int .u64 v.b) ∧ w.cell? ⟨g, i * 5 + 2, none⟩ = some (.int .u64 v.c) ∧ w.cell? ⟨g, i * 5 + 3, none⟩ = some (.string v.p) ∧ w.cell? ⟨g, i * 5 + 4, none⟩ = some (.string v.m)
theorem VersAt.below {w w' : World} {g : Nat} {vs : List Ver} (h : VersAt w g vs) (hb : Below w.heap.size w w') : VersAt w' g vs := fun i v hi => by
  obtain ⟨h0, h1, h2, h3, h4⟩ := h i v hi
  have l := World.block_lt_of_cell? w _ h0
  obtain ⟨k, _⟩ := bcell hb
  exact ⟨(k _ _ l).trans h0, (k _ _ l).trans h1, (k _ _ l).trans h2, (k _ _ l).trans h3, (k _ _ l).trans h4⟩
theorem vers_one (W : World) (t : TypeId) (v : Ver) : VersAt (W.alloc (.cells v.s t)) W.heap.size [v] := fun i x hx => by
  match i, hx with
  | 0, hx =>
    obtain rfl := Option.some.inj hx
    have h := Blk.new W t v.s
    exact ⟨h.cell 0, h.cell 1, h.cell 2, h.cell 3, h.cell 4⟩
theorem vers_two (W : World) (t : TypeId) (u v : Ver) : VersAt (W.alloc (.cells (u.s ++ v.s) t)) W.heap.size [u, v] := fun i x hx => by
  have h := Blk.new W t (u.s ++ v.s)
  match i, hx with
  | 0, hx =>
    obtain rfl := Option.some.inj hx
    exact ⟨h.cell 0, h.cell 1, h.cell 2, h.cell 3, h.cell 4⟩
  | 1, hx =>
    obtain rfl := Option.some.inj hx
    exact ⟨h.cell 5, h.cell 6, h.cell 7, h.cell 8, h.cell 9⟩

theorem strs_two (W : World) (t : TypeId) (s u : ByteArray) : StrsAt (W.alloc (.cells #[.string s, .string u] t)) W.heap.size [s, u] := fun i x hx => by
  have h := Blk.new W t #[.string s, .string u]
  match i, hx with
  | 0, hx =>
    obtain rfl := Option.some.inj hx
    exact h.cell 0
  | 1, hx =>
    obtain rfl := Option.some.inj hx
    exact h.cell 1

theorem vers_bad (vs : List Ver) (k : Nat) (h : k < vs.length) (q : Ver) (hq : vs[k] = q) (hf : verOk q = false) : vs.all verOk = false := by
  rw [List.all_eq_false]
  exact ⟨vs[k], List.getElem_mem h, by rw [hq, hf]; simp⟩

theorem svGood_any (vs : List Ver) (g c : Nat) (w : World) (hl : vs.length ≤ 1000000) (hst : VersAt w g vs) (hz : ∀ v ∈ vs, v.p.size ≤ 2147483647 ∧ v.m.size ≤ 2147483647) :
    Calls Tryd.prog 8 #[.slice (some ⟨g, 0, none⟩) vs.length c] w fun e w' => e = .returned (.bool (vs.all verOk)) ∧ Below w.heap.size w w' := by
  have HS := hid hst
  have HZ := hid hz
  clear hst hz
  have hsh : ∀ (s u : ByteArray), s.size ≤ 2147483647 → u.size ≤ 2147483647 → ∀ (W : World) (n c : Nat), n = W.heap.size → Calls Tryd.prog 19 #[.slice (some ⟨n, 0, none⟩) 2 c] (W.alloc (.cells #[.string s, .string u] 9)) fun e w' => e = .returned (.bool (short s && short u)) ∧ W.alloc (.cells #[.string s, .string u] 9) = w' := fun s u hs hu W n c hn => by
    subst hn
    have := svShort_any [s, u] W.heap.size c (W.alloc (.cells #[.string s, .string u] 9)) (by simp) (strs_two W _ s u) (by simp; omega)
    simpa using this
  have HSH := hid hsh
  clear hsh
  go_enter Tryd.func8, Tryd.ntmps8
  go_wp2_with fail
  go_loopw [4, 7] (fun _ i wr => ∃ k : Nat, k ≤ vs.length ∧ i = .int .i64 k ∧ (vs.take k).all verOk = true ∧ Below w.heap.size w wr) (fun _ i _ => vs.length - (intOf i).toNat)
  case atStart => exact ⟨0, Nat.zero_le _, rfl, by simp, Below.refl _ _⟩
  case round =>
    obtain ⟨k, hk, rfl, ha, hb⟩ := hrel
    have HA := hid ha
    have HB := hid hb
    clear ha hb
    by_cases hlt : k < vs.length
    · obtain ⟨x0, x1, x2, x3, x4⟩ := (HS.out.below HB.out) k vs[k] (List.getElem?_eq_getElem hlt)
      obtain ⟨z1, z2⟩ := HZ.out vs[k] (List.getElem_mem hlt)
      have hi0 : (0 : Int) ≤ (k : Int) := by omega
      have hik : (k : Int) < (vs.length : Int) := by omega
      have hok : verOk vs[k] = (short vs[k].p && (short vs[k].m && goodB vs[k].p vs[k].m)) := rfl
      have HOK := hid hok
      clear hok
      generalize hq : vs[k] = q at *
      have HQ := hid hq
      clear hq
      cases hs : (short q.p && short q.m)
      · go_wp2_with (go_at_call 19; refine (HSH.out q.p q.m z1 z2 _ _ _ (by simp)).mono ?_; rintro e w' ⟨rfl, rfl⟩)
        go_ret
        refine ⟨ret_b (vers_bad vs k hlt q HQ.out ?_).symm, bt0 HB.out (by go_grown)⟩
        rw [HOK.out, ← Bool.and_assoc, hs]
        rfl
      · have h6 : q.p.size ≤ 2147483647 ∧ q.m.size ≤ 2147483647 := by
          have h65 : q.p.size ≤ 65536 ∧ q.m.size ≤ 65536 := by simpa [short] using hs
          exact ⟨by omega, by omega⟩
        obtain ⟨h6, h7⟩ := h6
        cases hg : goodB q.p q.m
        · go_wp2_with (first | (go_at_call 19; refine (HSH.out q.p q.m z1 z2 _ _ _ (by simp)).mono ?_; rintro e w' ⟨rfl, rfl⟩) | (go_at_call 20; refine (good_any q.a q.b q.c q.p q.m _ h6 h7).mono ?_; rintro e w3 ⟨rfl, hb3⟩))
          go_ret
          refine ⟨ret_b (vers_bad vs k hlt q HQ.out ?_).symm, bt0 (bt0 HB.out ?_) hb3⟩
          · rw [HOK.out, hg]
            simp
          · go_grown
        · go_wp2_with (first | (go_at_call 19; refine (HSH.out q.p q.m z1 z2 _ _ _ (by simp)).mono ?_; rintro e w' ⟨rfl, rfl⟩) | (go_at_call 20; refine (good_any q.a q.b q.c q.p q.m _ h6 h7).mono ?_; rintro e w3 ⟨rfl, hb3⟩))
          go_roundw
          case rel =>
            refine ⟨k + 1, by omega, by go_num, ?_, bt0 (bt0 HB.out ?_) hb3⟩
            · rw [List.take_succ_eq_append_getElem hlt, List.all_append, HA.out, HQ.out]
              simp only [List.all_cons, List.all_nil, Bool.and_true, Bool.true_and]
              rw [HOK.out, ← Bool.and_assoc, hs, hg]
              rfl
            · go_grown
          case measure => simp [intOf]; omega
    · have hkn : k = vs.length := by omega
      subst hkn
      have := HA.out
      rw [List.take_length] at this
      go_wp2_with fail
      go_ret
      exact ⟨ret_b this.symm, HB.out⟩
end Go.Proofs.YtkohcmgckkenpaaDoor
