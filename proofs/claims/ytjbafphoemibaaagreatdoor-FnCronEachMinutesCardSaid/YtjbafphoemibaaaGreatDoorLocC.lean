/- A location out of a good zone with what its lists hold: UTC or one made of the zone's lists. Walked. -/
import Derived.Test.YtjbafphoemibaaaGreatDoorCivil
import Derived.Test.YtjbafphoemibaaaGreatDoorMomentK
import Derived.Deep.RegionLaw
import Derived.Deep.RegionLawGrows
import Derived.Lib.SmallJoins
import Derived.Laws.AppendOwn
set_option linter.unusedVariables false
set_option linter.unusedSimpArgs false
namespace Go.Proofs.YtjbafphoemibaaaGreatDoor
open Go.RowKit

theorem utc_any (w : World) : Calls Tryz.prog 26 #[] w fun e w' => (∃ g, e = .returned (.pointer (some ⟨g, 0, none⟩)) ∧ w'.cell? ⟨g, 0, none⟩ = some (.bool true)) ∧ Below w.heap.size w w' := by
  go_enter Tryz.func26, Tryz.ntmps26
  go_wp2
  go_ret
  exact ⟨⟨_, rfl, (Blk.new w 109 _).cell 0⟩, by go_grown⟩

/-- append of whatever elements to a row of the call's own, as one step of a region that draws. -/
theorem step_append_own {P : Program} {ops : Array Oper} {o : Oper} {a : Act} {w : World} {K : Act → World → Prop} {Q : Exit → Act → World → Prop} {E : Prop}
    (hg : o.guard = none) (s x : Operand) (t : TypeId) (hop : o.op = Op.call { callee := Callee.builtin Builtin.append, args := #[s, x], argTypes := #[t, t] })
    (e : TypeId) (z : Value) (size bytes : Nat) (h1 : P.underlying t = some (.slice e)) (hinfo : (P.info? e).map (fun i => (i.zero, i.size, i.bytes)) = some (some z, size, bytes)) (h6 : z.cells.size = size) (h7 : 0 < size)
    (base : Nat) (v : Value) (n : Nat) (xs : List Value) (hs : a.eval s = v) (hown : w.ownsRow base e size v n xs)
    (ad : Addr) (m c : Nat) (news : List Value) (hx : a.eval x = .slice (some ad) m c) (hn : news.length = m * size) (hc : ∀ j u, news[j]? = some u → w.cell? (ad.add j) = some u) (h1c : ∀ u ∈ news, u.oneCell' = true)
    (b1 : n + m ≤ maxLen) (b2 : (n + m) * bytes ≤ 140737488355328) (hbase : base ≤ w.heap.size)
    (hK : ∀ v' w', w'.ownsRow base e size v' (n + m) (xs ++ news) → w.grownBy w' v.ownBlock → K (a.put o.dst v') w') :
    if Region.wanted o (yielded ops a.tmps) = true then Oper.wp P o a w K Q else E := by
  have hw : Region.wanted o (yielded ops a.tmps) = true := by simp [Region.wanted, hg]
  rw [if_pos hw]
  obtain ⟨i, h2, hzz⟩ := Option.map_eq_some_iff.1 hinfo
  simp only [Prod.mk.injEq] at hzz
  obtain ⟨h3, h4, h5⟩ := hzz
  obtain ⟨v', w', hrun, r1, r2, _⟩ := run_append_own (P := P) w base t o.type e i z size bytes h1 h2 h3 h4 h5 h6 h7 v n xs hown ad m c news hn hc h1c b1 b2 hbase
  unfold Oper.wp
  simp [execOp, hop, resolve, invoke, builtin, hs, hx, hrun, Result.andThen]
  exact hK v' w' r1 r2

theorem Blk.grown {w w' : World} {g : Nat} {t : TypeId} {cs : Array Value} {row : Option Nat} (h : Blk w g t cs) (hg : w.grownBy w' row) (hr : ∀ k, row = some k → g ≠ k) : Blk w' g t cs :=
  (hg.block g h.lt (fun e => hr g e.symm rfl)).trans h

theorem own_other {w : World} {base size n b : Nat} {e : TypeId} {v : Value} {xs : List Value} (h : w.ownsRow base e size v n xs) (hb : b < base) (i : Nat) (u : Value) : (w.setCell ⟨b, i, none⟩ u).ownsRow base e size v n xs := by
  refine ⟨h.1, ?_⟩
  rcases h.2 with h0 | ⟨g, cap, cur, h1, h2, h3, h4⟩
  · exact .inl h0
  · refine .inr ⟨g, cap, cur, h1, h2, ?_, h4⟩
    have : b ≠ g := by omega
    simp [World.setCell, Array.getElem?_modify, h3, this]

theorem news_cells (w : World) (e : TypeId) (cs : List Value) : ∀ (j : Nat) (u : Value), cs[j]? = some u → (w.alloc (.cells cs.toArray e)).cell? ((⟨w.heap.size, 0, none⟩ : Addr).add j) = some u := fun j u h => by
  have h1 := (Blk.new w e cs.toArray).cell j
  have e : (⟨w.heap.size, 0, none⟩ : Addr).add j = ⟨w.heap.size, j, none⟩ := by unfold Addr.add; split <;> simp_all
  rw [e, h1]
  simpa using h
theorem info_zone : (Tryz.prog.info? 111).map (fun i => (i.zero, i.size, i.bytes)) = some (some (.agg #[.string ⟨#[]⟩, .int .i64 0, .bool false]), 3, 32) := by kernel_rfl
theorem info_tx : (Tryz.prog.info? 113).map (fun i => (i.zero, i.size, i.bytes)) = some (some (.agg #[.int .i64 0, .int .u8 0, .bool false, .bool false]), 4, 16) := by kernel_rfl

/-- A location's block. -/
abbrev lcells (u : Bool) (nm : ByteArray) (v2 v3 : Value) : Array Value := #[.bool u, .string nm, v2, v3, .string ⟨#[]⟩, .int .i64 0, .int .i64 0, .pointer none]


/-- The cells of a zone's first k offsets, of its first k transitions. -/
def zrow (O : Nat → Int) (D : Nat → Bool) : Nat → List Value
  | 0 => []
  | k + 1 => zrow O D k ++ [.string ⟨#[122, 111, 110, 101]⟩, .int .i64 (O k), .bool (D k)]
def trow (W I : Nat → Int) : Nat → List Value
  | 0 => []
  | k + 1 => trow W I k ++ [.int .i64 (W k), .int .u8 (I k), .bool false, .bool false]
theorem zrow_len (O : Nat → Int) (D : Nat → Bool) : ∀ k, (zrow O D k).length = 3 * k
  | 0 => rfl
  | k + 1 => by simp [zrow, zrow_len O D k]; omega
theorem trow_len (W I : Nat → Int) : ∀ k, (trow W I k).length = 4 * k
  | 0 => rfl
  | k + 1 => by simp [trow, trow_len W I k]; omega
theorem zrow_get (O : Nat → Int) (D : Nat → Bool) (i : Nat) : ∀ k, i < k → (zrow O D k)[3 * i]? = some (.string ⟨#[122, 111, 110, 101]⟩) ∧ (zrow O D k)[3 * i + 1]? = some (.int .i64 (O i)) ∧ (zrow O D k)[3 * i + 2]? = some (.bool (D i))
  | 0, h => absurd h (Nat.not_lt_zero _)
  | k + 1, h => by
    have hl := zrow_len O D k
    by_cases hk : i < k
    · obtain ⟨h1, h2, h3⟩ := zrow_get O D i k hk
      rw [zrow, List.getElem?_append_left (by omega), List.getElem?_append_left (by omega), List.getElem?_append_left (by omega)]
      exact ⟨h1, h2, h3⟩
    · obtain rfl : i = k := by omega
      rw [zrow, List.getElem?_append_right (by omega), List.getElem?_append_right (by omega), List.getElem?_append_right (by omega), hl]
      exact ⟨by rw [Nat.sub_self]; rfl, by rw [show 3 * i + 1 - 3 * i = 1 by omega]; rfl, by rw [show 3 * i + 2 - 3 * i = 2 by omega]; rfl⟩
theorem trow_get (W I : Nat → Int) (i : Nat) : ∀ k, i < k → (trow W I k)[4 * i]? = some (.int .i64 (W i)) ∧ (trow W I k)[4 * i + 1]? = some (.int .u8 (I i))
  | 0, h => absurd h (Nat.not_lt_zero _)
  | k + 1, h => by
    have hl := trow_len W I k
    by_cases hk : i < k
    · obtain ⟨h1, h2⟩ := trow_get W I i k hk
      rw [trow, List.getElem?_append_left (by omega), List.getElem?_append_left (by omega)]
      exact ⟨h1, h2⟩
    · obtain rfl : i = k := by omega
      rw [trow, List.getElem?_append_right (by omega), List.getElem?_append_right (by omega), hl]
      exact ⟨by rw [Nat.sub_self]; rfl, by rw [show 4 * i + 1 - 4 * i = 1 by omega]; rfl⟩

/-- A location that a zone's lists made. -/
structure ZLoc (w : World) (g gz gt n0 n2 cz ct : Nat) (O : Nat → Int) (D : Nat → Bool) (W I : Nat → Int) : Prop where
  loc : Blk w g 109 (lcells false ⟨#[122, 111, 110, 101]⟩ (.slice (some ⟨gz, 0, none⟩) n0 cz) (.slice (some ⟨gt, 0, none⟩) n2 ct))
  zones : ∀ i, i < n0 → w.cell? ⟨gz, 3 * i, none⟩ = some (.string ⟨#[122, 111, 110, 101]⟩) ∧ w.cell? ⟨gz, 3 * i + 1, none⟩ = some (.int .i64 (O i)) ∧ w.cell? ⟨gz, 3 * i + 2, none⟩ = some (.bool (D i))
  trs : ∀ i, i < n2 → w.cell? ⟨gt, 4 * i, none⟩ = some (.int .i64 (W i)) ∧ w.cell? ⟨gt, 4 * i + 1, none⟩ = some (.int .u8 (I i))
theorem ZLoc.below {w w' : World} {g gz gt n0 n2 cz ct : Nat} {O : Nat → Int} {D : Nat → Bool} {W I : Nat → Int} (z : ZLoc w g gz gt n0 n2 cz ct O D W I) (hb : Below w.heap.size w w') : ZLoc w' g gz gt n0 n2 cz ct O D W I :=
  have go : ∀ {a : Addr} {v : Value}, w.cell? a = some v → w'.cell? a = some v := fun h => (hb.cell (World.block_lt_of_cell? w _ h)).trans h
  ⟨z.loc.below hb, fun i hi => ⟨go (z.zones i hi).1, go (z.zones i hi).2.1, go (z.zones i hi).2.2⟩, fun i hi => ⟨go (z.trs i hi).1, go (z.trs i hi).2⟩⟩
theorem own_blk {w : World} {base size n : Nat} {e : TypeId} {v : Value} {xs : List Value} (h : w.ownsRow base e size v n xs) (hn : 0 < n) : ∃ g cap cur, v = .slice (some ⟨g, 0, none⟩) n cap ∧ base ≤ g ∧ Blk w g e cur ∧ cur.toList.take (n * size) = xs := by
  rcases h.2 with ⟨_, h0⟩ | ⟨g, cap, cur, h1, h2, h3, _, _, _, h4⟩
  · omega
  · exact ⟨g, cap, cur, h1, h2, h3, h4⟩
theorem take_get {w : World} {g : Nat} {e : TypeId} {cur : Array Value} {m : Nat} {xs : List Value} (h : Blk w g e cur) (ht : cur.toList.take m = xs) {j : Nat} {u : Value} (hj : xs[j]? = some u) : w.cell? ⟨g, j, none⟩ = some u := by
  rw [h.cell j, ← Array.getElem?_toList]
  rw [← ht, List.getElem?_take] at hj
  split at hj
  · exact hj
  · cases hj

set_option maxHeartbeats 3200000 in
set_option maxRecDepth 100000 in
theorem zzZone_c (o d h x : Option Addr) (n0 c0 c1 n2 c2 c3 : Nat) (w : World) (O : Nat → Int) (D : Nat → Bool) (W I : Nat → Int) (h0 : n0 ≤ 64) (h2 : n2 ≤ 4096) (p0 : 0 < n0) (p2 : 0 < n2) (hI : ∀ i, i < n2 → 0 ≤ I i ∧ I i < n0) (hO : Ints w o n0 O) (hD : Bols w d n0 D) (hH : Ints w h n2 W) (hX : Ints w x n2 I) : Calls Tryz.prog 27 #[.slice o n0 c0, .slice d n0 c1, .slice h n2 c2, .slice x n2 c3] w fun e w' => (∃ g gz gt cz ct, e = .returned (.pointer (some ⟨g, 0, none⟩)) ∧ ZLoc w' g gz gt n0 n2 cz ct O D W I) ∧ Below w.heap.size w w' := by
  have HI := hid hI
  clear hI
  have HB0 : ∀ {wr : World}, Below w.heap.size w wr → Below w.heap.size w wr := fun h => h
  go_enter Tryz.func27, Tryz.ntmps27
  go_wp2_with fail
  go_loopw [18] (fun i wr => ∃ (k : Nat) (v : Value), k ≤ n0 ∧ i = .int .i64 k ∧ Blk wr w.heap.size 109 (lcells false ⟨#[122, 111, 110, 101]⟩ v (.slice none 0 0)) ∧ wr.ownsRow (w.heap.size + 1) 111 3 v k (zrow O D k) ∧ Below w.heap.size w wr) (fun i _ => n0 - (intOf i).toNat)
  case atStart => exact ⟨0, (.slice none 0 0), Nat.zero_le _, rfl, Blk.new w 109 _, World.ownsRow_nil _ _ _ _, by go_grown⟩
  case round =>
    obtain ⟨k, v2, hk, rfl, hR, hown, hb⟩ := hrel
    obtain ⟨xs, hxs⟩ : ∃ xs, zrow O D k = xs := ⟨_, rfl⟩
    rw [hxs] at hown
    have HXS := hid hxs
    clear hxs
    have HB := hid hb
    have HR := hid hR
    have HW := hid hown
    have hsz := hb.size
    clear hb hR hown
    by_cases hlt : k < n0
    · obtain ⟨oa, rfl, hy⟩ := (hO.below (HB0 HB.out)) k hlt
      obtain ⟨da, rfl, hyd⟩ := (hD.below (HB0 HB.out)) k hlt
      obtain ⟨v, hv⟩ : ∃ v, O k = v := ⟨_, rfl⟩
      obtain ⟨b, hbv⟩ : ∃ b, D k = b := ⟨_, rfl⟩
      rw [hv] at hy
      rw [hbv] at hyd
      have HN := hid (show zrow O D (k + 1) = xs ++ [.string ⟨#[122, 111, 110, 101]⟩, .int .i64 v, .bool b] by rw [zrow, HXS.out, hv, hbv])
      clear hv hbv
      have u1 : (k : Int) < (n0 : Int) := by omega
      have u2 : ¬ (n0 : Int) ≤ (k : Int) := by omega
      have hw : IntKind.i64.wrap ((k : Int) + 1) = (k : Int) + 1 := IntWalk.i64_in _ (by omega)
      have c2 : wr.cell? ⟨w.heap.size, 2, none⟩ = some v2 := HR.out.cell 2
      have RD := hid (show Blk wr.drew w.heap.size 109 (lcells false ⟨#[122, 111, 110, 101]⟩ v2 (.slice none 0 0)) from HR.out)
      have WD := hid (show wr.drew.ownsRow (w.heap.size + 1) 111 3 v2 k xs from HW.out)
      have BD := hid (show Below w.heap.size w wr.drew from ⟨HB.out.os, HB.out.tape, HB.out.output, HB.out.size, HB.out.block⟩)
      go_wp2_with fail
      have CN := hid (news_cells wr.drew 111 [.string ⟨#[122, 111, 110, 101]⟩, .int .i64 v, .bool b])
      have ca : (wr.alloc (.cells #[.string ⟨#[122, 111, 110, 101]⟩, .int .i64 v, .bool b] 111)).cell? ⟨w.heap.size, 2, none⟩ = some v2 := (HR.out.alloc _).cell 2
      go_region_law (refine step_append_own rfl (.tmp 27) (.tmp 34) 105 rfl 111 (.agg #[.string ⟨#[]⟩, .int .i64 0, .bool false]) 3 32 Tryz.underlying105 info_zone rfl (by decide) (w.heap.size + 1) v2 k xs (by simp [Act.eval, Act.put]) (WD.out.alloc _) ⟨wr.drew.heap.size, 0, none⟩ 1 1 [.string ⟨#[122, 111, 110, 101]⟩, .int .i64 v, .bool b] (by simp [Act.eval, Act.put]) rfl CN.out (by simp [Value.oneCell']) (by simp [maxLen]; omega) (by omega) (by have := (WD.out.alloc (.cells #[] 0)).1; simp; omega) ?_; intro v' w' hown hgrow; obtain ⟨g', cap', rfl⟩ := Go.Joins.ownsRow_form hown (by omega); have RB := hid (Blk.grown (RD.out.alloc _) hgrow (fun j hj => by have := (WD.out.lt j hj).1; omega)); have BB := hid (Below.grown (BD.out.alloc (by have := BD.out.size; exact this) _) hgrow (by have := BD.out.size; simp; omega) (fun j hj => by have := (WD.out.lt j hj).1; omega)); have q2 := RB.out.cell 2; have q2f := RB.out.frozen 2; have WB := hid hown; clear hown hgrow)
      all_goals
        have RB2 := hid (RB.out.set 2 (.slice (some ⟨g', 0, none⟩) (k + 1) cap'))
        have WB2 := hid (own_other WB.out (Nat.lt_succ_self _) 2 (.slice (some ⟨g', 0, none⟩) (k + 1) cap'))
        have BB2 := hid (below_set BB.out (Nat.le_refl _) 2 (.slice (some ⟨g', 0, none⟩) (k + 1) cap'))
        go_wp2_with fail
        go_roundw
        case rel => exact ⟨k + 1, _, by omega, by go_num, RB2.out, by rw [HN.out]; exact WB2.out, BB2.out⟩
        case measure => simp [intOf]; omega
    · obtain rfl : n0 = k := by omega
      have u1 : ¬ (n0 : Int) < (n0 : Int) := by omega
      obtain ⟨gz, cz, curz, rfl, hgz, hbz, hcz⟩ := own_blk HW.out p0
      have HBZ := hid hbz
      have HXSZ := hid HXS.out
      clear HXS
      have HCZ := hid hcz
      have hltz := hbz.lt
      obtain ⟨ws, hws⟩ : ∃ ws, wr.heap.size = ws := ⟨_, rfl⟩
      rw [hws] at hltz hsz
      clear hbz hcz HW
      go_wp2_with fail
      go_loopw [41] (fun i wr => ∃ (k : Nat) (v : Value), k ≤ n2 ∧ i = .int .i64 k ∧ Blk wr w.heap.size 109 (lcells false ⟨#[122, 111, 110, 101]⟩ (.slice (some ⟨gz, 0, none⟩) n0 cz) v) ∧ wr.ownsRow ws 113 4 v k (trow W I k) ∧ ws ≤ wr.heap.size ∧ Blk wr gz 111 curz ∧ Below w.heap.size w wr) (fun i _ => n2 - (intOf i).toNat)
      case atStart => exact ⟨0, (.slice none 0 0), Nat.zero_le _, rfl, HR.out, World.ownsRow_nil _ _ _ _, by rw [hws]; exact Nat.le_refl _, HBZ.out, HB.out⟩
      case round =>
        obtain ⟨k, v3, hk, rfl, hR, hown, hwsz, hZ, hb⟩ := hrel
        obtain ⟨xs, hxs⟩ : ∃ xs, trow W I k = xs := ⟨_, rfl⟩
        rw [hxs] at hown
        have HXS := hid hxs
        have HZ := hid hZ
        have hltw : w.heap.size < ws := by omega
        clear hxs hZ
        have HB := hid hb
        have HR := hid hR
        have HW := hid hown
        have hsz := hb.size
        clear hb hR hown
        by_cases hlt : k < n2
        · obtain ⟨oa, rfl, hy⟩ := (hH.below (HB0 HB.out)) k hlt
          obtain ⟨da, rfl, hyd⟩ := (hX.below (HB0 HB.out)) k hlt
          obtain ⟨i1, i2⟩ := HI.out k hlt
          obtain ⟨v, hv⟩ : ∃ v, W k = v := ⟨_, rfl⟩
          obtain ⟨b, hbv⟩ : ∃ b, I k = b := ⟨_, rfl⟩
          rw [hv] at hy
          rw [hbv] at hyd i1 i2
          have HN := hid (show trow W I (k + 1) = xs ++ [.int .i64 v, .int .u8 b, .bool false, .bool false] by rw [trow, HXS.out, hv, hbv])
          have hb8 : IntKind.u8.wrap b = b := by unfold IntKind.wrap; simp [IntKind.bits, IntKind.signed]; omega
          clear hv hbv i1 i2
          have u1 : (k : Int) < (n2 : Int) := by omega
          have u2 : ¬ (n2 : Int) ≤ (k : Int) := by omega
          have hw : IntKind.i64.wrap ((k : Int) + 1) = (k : Int) + 1 := IntWalk.i64_in _ (by omega)
          have c2 : wr.cell? ⟨w.heap.size, 3, none⟩ = some v3 := HR.out.cell 3
          have RD := hid (show Blk wr.drew w.heap.size 109 (lcells false ⟨#[122, 111, 110, 101]⟩ (.slice (some ⟨gz, 0, none⟩) n0 cz) v3) from HR.out)
          have WD := hid (show wr.drew.ownsRow ws 113 4 v3 k xs from HW.out)
          have ZD := hid (show Blk wr.drew gz 111 curz from HZ.out)
          have hwsd : ws ≤ wr.drew.heap.size := hwsz
          have BD := hid (show Below w.heap.size w wr.drew from ⟨HB.out.os, HB.out.tape, HB.out.output, HB.out.size, HB.out.block⟩)
          go_wp2_with fail
          have CN := hid (news_cells wr.drew 113 [.int .i64 v, .int .u8 b, .bool false, .bool false])
          have ca : (wr.alloc (.cells #[.int .i64 v, .int .u8 b, .bool false, .bool false] 113)).cell? ⟨w.heap.size, 3, none⟩ = some v3 := (HR.out.alloc _).cell 3
          go_region_law (refine step_append_own rfl (.tmp 50) (.tmp 58) 106 rfl 113 (.agg #[.int .i64 0, .int .u8 0, .bool false, .bool false]) 4 16 Tryz.underlying106 info_tx rfl (by decide) ws v3 k xs (by simp [Act.eval, Act.put]) (WD.out.alloc _) ⟨wr.drew.heap.size, 0, none⟩ 1 1 [.int .i64 v, .int .u8 b, .bool false, .bool false] (by simp [Act.eval, Act.put]) rfl CN.out (by simp [Value.oneCell']) (by simp [maxLen]; omega) (by omega) (by have := (WD.out.alloc (.cells #[] 0)).1; simp; omega) ?_; intro v' w' hown hgrow; obtain ⟨g', cap', rfl⟩ := Go.Joins.ownsRow_form hown (by omega); have RB := hid (Blk.grown (RD.out.alloc _) hgrow (fun j hj => by have := (WD.out.lt j hj).1; omega)); have BB := hid (Below.grown (BD.out.alloc (by have := BD.out.size; exact this) _) hgrow (by have := BD.out.size; simp; omega) (fun j hj => by have := (WD.out.lt j hj).1; omega)); have q2 := RB.out.cell 3; have q2f := RB.out.frozen 3; have ZB := hid (Blk.grown (ZD.out.alloc _) hgrow (fun j hj => by have := (WD.out.lt j hj).1; omega)); have hws2 := hgrow.size; have WB := hid hown; clear hown hgrow)
          all_goals
            have RB2 := hid (RB.out.set 3 (.slice (some ⟨g', 0, none⟩) (k + 1) cap'))
            have WB2 := hid (own_other WB.out hltw 3 (.slice (some ⟨g', 0, none⟩) (k + 1) cap'))
            have BB2 := hid (below_set BB.out (Nat.le_refl _) 3 (.slice (some ⟨g', 0, none⟩) (k + 1) cap'))
            have ZB2 := hid (ZB.out.other (show gz ≠ w.heap.size by omega) 3 (.slice (some ⟨g', 0, none⟩) (k + 1) cap'))
            go_wp2_with fail
            go_roundw
            case rel => exact ⟨k + 1, _, by omega, by go_num, RB2.out, by rw [HN.out]; exact WB2.out, by have := hws2; simp at this ⊢; omega, ZB2.out, BB2.out⟩
            case measure => simp [intOf]; omega
        · obtain rfl : n2 = k := by omega
          have u1 : ¬ (n2 : Int) < (n2 : Int) := by omega
          go_wp2_with fail
          obtain ⟨gt, ct, curt, rfl, hgt, hbt, hct⟩ := own_blk HW.out p2
          have HBT := hid hbt
          have HCT := hid hct
          clear hbt hct
          go_ret
          exact ⟨⟨_, rfl, gz, gt, cz, ct, HR.out, fun i hi => ⟨take_get HZ.out (HCZ.out.trans HXSZ.out.symm) (zrow_get O D i _ hi).1, take_get HZ.out (HCZ.out.trans HXSZ.out.symm) (zrow_get O D i _ hi).2.1, take_get HZ.out (HCZ.out.trans HXSZ.out.symm) (zrow_get O D i _ hi).2.2⟩, fun i hi => ⟨take_get HBT.out (HCT.out.trans HXS.out.symm) (trow_get W I i _ hi).1, take_get HBT.out (HCT.out.trans HXS.out.symm) (trow_get W I i _ hi).2⟩⟩, HB.out⟩


set_option maxRecDepth 100000 in
theorem location_utc (o d h x : Option Addr) (n0 c0 n1 c1 n2 c2 n3 c3 : Nat) (w : World) (h0 : n0 = 0) : Calls Tryz.prog 17 #[.agg (zcells o d h x n0 c0 n1 c1 n2 c2 n3 c3)] w fun e w' => (∃ g, e = .returned (.pointer (some ⟨g, 0, none⟩)) ∧ w'.cell? ⟨g, 0, none⟩ = some (.bool true)) ∧ Below w.heap.size w w' := by
  subst h0
  have B := hid (show Below w.heap.size w (w.alloc (.cells (zcells o d h x 0 c0 n1 c1 n2 c2 n3 c3) 37)) by go_grown)
  go_enter Tryz.func17, Tryz.ntmps17
  go_wp2_with (go_at_call 26; refine (utc_any _).mono ?_; rintro e w' ⟨⟨g, rfl, hc⟩, hb⟩; replace hb := hid (bt B.out hb); replace hc := hid hc)
  go_ret
  exact ⟨⟨_, rfl, hc.out⟩, hb.out⟩

set_option maxRecDepth 100000 in
theorem location_zone (o d h x : Option Addr) (n0 c0 n1 c1 n2 c2 n3 c3 : Nat) (w : World) (O : Nat → Int) (D : Nat → Bool) (W I : Nat → Int) (h0 : 0 < n0) (h1 : n1 = n0) (h3 : n3 = n2) (hn0 : n0 ≤ 64) (hn2 : n2 ≤ 4096) (p2 : 0 < n2) (hz : ZIn w o d h x n0 n1 n2 n3 O D W I) : Calls Tryz.prog 17 #[.agg (zcells o d h x n0 c0 n1 c1 n2 c2 n3 c3)] w fun e w' => (∃ g gz gt cz ct, e = .returned (.pointer (some ⟨g, 0, none⟩)) ∧ ZLoc w' g gz gt n0 n2 cz ct O D W I) ∧ Below w.heap.size w w' := by
  subst h1 h3
  have z0 : ((n1 : Int) == 0) = false := by rw [beq_eq_false_iff_ne]; omega
  have B0 : Below w.heap.size w (w.alloc (.cells (zcells o d h x n1 c0 n1 c1 n3 c2 n3 c3) 37)) := by go_grown
  have B := hid B0
  have hz' := hz.below B0
  have CZ := hid (zzZone_c o d h x n1 c0 c1 n3 c2 c3 _ O D W I hn0 hn2 h0 p2 hz.cont.2.2.1 hz'.off hz'.dst hz'.whn hz'.idx)
  clear B0 hz hz' h0 hn0 hn2 p2
  go_enter Tryz.func17, Tryz.ntmps17
  go_wp2_with (go_at_call 27; refine CZ.out.mono ?_; rintro e w' ⟨⟨g, gz, gt, cz, ct, rfl, hc⟩, hb⟩; replace hb := hid (bt B.out hb); replace hc := hid hc)
  go_ret
  exact ⟨⟨_, _, _, _, _, rfl, hc.out⟩, hb.out⟩
end Go.Proofs.YtjbafphoemibaaaGreatDoor
