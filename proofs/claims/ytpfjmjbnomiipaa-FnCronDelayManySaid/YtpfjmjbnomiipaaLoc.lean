/- A location out of a good zone: UTC or one made of the zone's lists; of its block what the rest asks. Walked. -/
import Derived.Test.YtpfjmjbnomiipaaZoneB
import Derived.Deep.RegionLaw
import Derived.Deep.RegionLawGrows
import Derived.Lib.SmallJoins
import Derived.Laws.AppendOwn
set_option linter.unusedVariables false
set_option linter.unusedSimpArgs false
namespace Go.Proofs.Ytpfjmjbnomiipaa
open Go.RowKit

theorem goodZone_any (o d h x : Option Addr) (n0 c0 n1 c1 n2 c2 n3 c3 : Nat) (w : World) (hO : Sl w o n0 isI) (hH : Sl w h n2 isI) (hX : Sl w x n3 isI) : Calls Try.prog 6 #[.agg (zcells o d h x n0 c0 n1 c1 n2 c2 n3 c3)] w fun e w' => Says e (goodZ n0 n1 n2 n3) ∧ Below w.heap.size w w' := by
  by_cases h0 : n0 = 0
  · by_cases h1 : n1 = 0
    · by_cases h2 : n2 = 0
      · by_cases h3 : n3 = 0
        · exact gz_000 o d h x n0 c0 n1 c1 n2 c2 n3 c3 w h0 h1 h2 h3
        · exact gz_0x o d h x n0 c0 n1 c1 n2 c2 n3 c3 w h0 h1 h2 h3
      · exact gz_0h o d h x n0 c0 n1 c1 n2 c2 n3 c3 w h0 h1 h2
    · exact gz_0d o d h x n0 c0 n1 c1 n2 c2 n3 c3 w h0 h1
  · by_cases h1 : n0 ≤ 64
    · by_cases h2 : n1 = n0
      · by_cases h3 : n2 = 0
        · exact gz_h0 o d h x n0 c0 n1 c1 n2 c2 n3 c3 w h0 h1 h2 h3
        · by_cases h4 : n2 ≤ 4096
          · by_cases h5 : n3 = n2
            · exact gz_full o d h x n0 c0 n1 c1 n2 c2 n3 c3 w h0 h1 h2 h3 h4 h5 hO hH hX
            · exact gz_x o d h x n0 c0 n1 c1 n2 c2 n3 c3 w h0 h1 h2 h3 h4 h5
          · exact gz_h4096 o d h x n0 c0 n1 c1 n2 c2 n3 c3 w h0 h1 h2 h3 h4
      · exact gz_d o d h x n0 c0 n1 c1 n2 c2 n3 c3 w h0 h1 h2
    · exact gz_o64 o d h x n0 c0 n1 c1 n2 c2 n3 c3 w h0 h1

theorem utc_any (w : World) : Calls Try.prog 18 #[] w fun e w' => (∃ g, e = .returned (.pointer (some ⟨g, 0, none⟩)) ∧ w'.cell? ⟨g, 0, none⟩ = some (.bool true)) ∧ Below w.heap.size w w' := by
  go_enter Try.func18, Try.ntmps18
  go_wp2
  go_ret
  exact ⟨⟨_, rfl, (Blk.new w 71 _).cell 0⟩, by go_grown⟩

/-- append of whatever elements to a row of the call's own, as one step of a region that draws. -/
theorem step_append_own {P : Program} {ops : Array Oper} {o : Oper} {a : Act} {w : World} {K : Act → World → Prop} {Q : Exit → Act → World → Prop} {E : Prop}
    (hg : o.guard = none) (s x : Operand) (t : TypeId) (hop : o.op = Op.call { callee := Callee.builtin Builtin.append, args := #[s, x], argTypes := #[t, t] })
    (e : TypeId) (z : Value) (size bytes : Nat) (h1 : P.underlying t = some (.slice e)) (hinfo : (P.info? e).map (fun i => (i.zero, i.size, i.bytes)) = some (some z, size, bytes)) (h6 : z.cells.size = size) (h7 : 0 < size)
    (base : Nat) (v : Value) (n : Nat) (xs : List Value) (hs : a.eval s = v) (hown : w.ownsRow base e size v n xs)
    (ad : Addr) (m c : Nat) (news : List Value) (hx : a.eval x = .slice (some ad) m c) (hn : news.length = m * size) (hc : ∀ j u, news[j]? = some u → w.cell? (ad.add j) = some u) (h1c : ∀ u ∈ news, u.oneCell' = true)
    (b1 : n + m ≤ maxLen) (b2 : (n + m) * bytes ≤ 140737488355328) (hbase : base ≤ w.heap.size)
    (hK : ∀ v' w', w'.ownsRow base e size v' (n + m) (xs ++ news) → w.grownBy w' v.ownBlock → K (a.put o.dst v') w') :
    if Region.wanted o (yielded ops a.tmps) = true then Oper.wp P o a w K Q else E := by
  have hw : Region.wanted o (yielded ops a.tmps) = true := by simp [Region.wanted, hg]
  rw [if_pos hw]
  obtain ⟨i, h2, hzz⟩ := Option.map_eq_some_iff.1 hinfo
  simp only [Prod.mk.injEq] at hzz
  obtain ⟨h3, h4, h5⟩ := hzz
  obtain ⟨v', w', hrun, r1, r2, _⟩ := run_append_own (P := P) w base t o.type e i z size bytes h1 h2 h3 h4 h5 h6 h7 v n xs hown ad m c news hn hc h1c b1 b2 hbase
  unfold Oper.wp
  simp [execOp, hop, resolve, invoke, builtin, hs, hx, hrun, Result.andThen]
  exact hK v' w' r1 r2

theorem Blk.grown {w w' : World} {g : Nat} {t : TypeId} {cs : Array Value} {row : Option Nat} (h : Blk w g t cs) (hg : w.grownBy w' row) (hr : ∀ k, row = some k → g ≠ k) : Blk w' g t cs :=
  (hg.block g h.lt (fun e => hr g e.symm rfl)).trans h

theorem own_other {w : World} {base size n b : Nat} {e : TypeId} {v : Value} {xs : List Value} (h : w.ownsRow base e size v n xs) (hb : b < base) (i : Nat) (u : Value) : (w.setCell ⟨b, i, none⟩ u).ownsRow base e size v n xs := by
  refine ⟨h.1, ?_⟩
  rcases h.2 with h0 | ⟨g, cap, cur, h1, h2, h3, h4⟩
  · exact .inl h0
  · refine .inr ⟨g, cap, cur, h1, h2, ?_, h4⟩
    have : b ≠ g := by omega
    simp [World.setCell, Array.getElem?_modify, h3, this]

theorem news_cells (w : World) (e : TypeId) (cs : List Value) : ∀ (j : Nat) (u : Value), cs[j]? = some u → (w.alloc (.cells cs.toArray e)).cell? ((⟨w.heap.size, 0, none⟩ : Addr).add j) = some u := fun j u h => by
  have h1 := (Blk.new w e cs.toArray).cell j
  have e : (⟨w.heap.size, 0, none⟩ : Addr).add j = ⟨w.heap.size, j, none⟩ := by unfold Addr.add; split <;> simp_all
  rw [e, h1]
  simpa using h
theorem info_zone : (Try.prog.info? 73).map (fun i => (i.zero, i.size, i.bytes)) = some (some (.agg #[.string ⟨#[]⟩, .int .i64 0, .bool false]), 3, 32) := by kernel_rfl
theorem info_tx : (Try.prog.info? 75).map (fun i => (i.zero, i.size, i.bytes)) = some (some (.agg #[.int .i64 0, .int .u8 0, .bool false, .bool false]), 4, 16) := by kernel_rfl

/-- A location's block. -/
abbrev lcells (u : Bool) (nm : ByteArray) (v2 v3 : Value) : Array Value := #[.bool u, .string nm, v2, v3, .string ⟨#[]⟩, .int .i64 0, .int .i64 0, .pointer none]

set_option maxHeartbeats 3200000 in
set_option maxRecDepth 100000 in
theorem zzZone_any (o d h x : Option Addr) (n0 c0 c1 n2 c2 c3 : Nat) (w : World) (h0 : n0 ≤ 64) (h2 : n2 ≤ 4096) (hO : Sl w o n0 isI) (hD : Sl w d n0 isB) (hH : Sl w h n2 isI) (hX : Sl w x n2 isI) : Calls Try.prog 19 #[.slice o n0 c0, .slice d n0 c1, .slice h n2 c2, .slice x n2 c3] w fun e w' => (∃ g, e = .returned (.pointer (some ⟨g, 0, none⟩)) ∧ w'.cell? ⟨g, 0, none⟩ = some (.bool false)) ∧ Below w.heap.size w w' := by
  have HB0 : ∀ {wr : World}, Below w.heap.size w wr → Below w.heap.size w wr := fun h => h
  go_enter Try.func19, Try.ntmps19
  go_wp2_with fail
  go_loopw [18] (fun i wr => ∃ (k : Nat) (v : Value) (xs : List Value), k ≤ n0 ∧ i = .int .i64 k ∧ Blk wr w.heap.size 71 (lcells false ⟨#[122, 111, 110, 101]⟩ v (.slice none 0 0)) ∧ wr.ownsRow (w.heap.size + 1) 73 3 v k xs ∧ Below w.heap.size w wr) (fun i _ => n0 - (intOf i).toNat)
  case atStart => exact ⟨0, (.slice none 0 0), [], Nat.zero_le _, rfl, Blk.new w 71 _, World.ownsRow_nil _ _ _ _, by go_grown⟩
  case round =>
    obtain ⟨k, v2, xs, hk, rfl, hR, hown, hb⟩ := hrel
    have HB := hid hb
    have HR := hid hR
    have HW := hid hown
    have hsz := hb.size
    clear hb hR hown
    by_cases hlt : k < n0
    · obtain ⟨oa, y, rfl, hy, v, rfl⟩ := (hO.below (HB0 HB.out)) k hlt
      obtain ⟨da, yd, rfl, hyd, b, rfl⟩ := (hD.below (HB0 HB.out)) k hlt
      have u1 : (k : Int) < (n0 : Int) := by omega
      have u2 : ¬ (n0 : Int) ≤ (k : Int) := by omega
      have hw : IntKind.i64.wrap ((k : Int) + 1) = (k : Int) + 1 := IntWalk.i64_in _ (by omega)
      have c2 : wr.cell? ⟨w.heap.size, 2, none⟩ = some v2 := HR.out.cell 2
      have RD := hid (show Blk wr.drew w.heap.size 71 (lcells false ⟨#[122, 111, 110, 101]⟩ v2 (.slice none 0 0)) from HR.out)
      have WD := hid (show wr.drew.ownsRow (w.heap.size + 1) 73 3 v2 k xs from HW.out)
      have BD := hid (show Below w.heap.size w wr.drew from ⟨HB.out.os, HB.out.tape, HB.out.output, HB.out.size, HB.out.block⟩)
      go_wp2_with fail
      have CN := hid (news_cells wr.drew 73 [.string ⟨#[122, 111, 110, 101]⟩, .int .i64 v, .bool b])
      have ca : (wr.alloc (.cells #[.string ⟨#[122, 111, 110, 101]⟩, .int .i64 v, .bool b] 73)).cell? ⟨w.heap.size, 2, none⟩ = some v2 := (HR.out.alloc _).cell 2
      go_region_law (refine step_append_own rfl (.tmp 27) (.tmp 34) 67 rfl 73 (.agg #[.string ⟨#[]⟩, .int .i64 0, .bool false]) 3 32 Try.underlying67 info_zone rfl (by decide) (w.heap.size + 1) v2 k xs (by simp [Act.eval, Act.put]) (WD.out.alloc _) ⟨wr.drew.heap.size, 0, none⟩ 1 1 [.string ⟨#[122, 111, 110, 101]⟩, .int .i64 v, .bool b] (by simp [Act.eval, Act.put]) rfl CN.out (by simp [Value.oneCell']) (by simp [maxLen]; omega) (by omega) (by have := (WD.out.alloc (.cells #[] 0)).1; simp; omega) ?_; intro v' w' hown hgrow; obtain ⟨g', cap', rfl⟩ := Go.Joins.ownsRow_form hown (by omega); have RB := hid (Blk.grown (RD.out.alloc _) hgrow (fun j hj => by have := (WD.out.lt j hj).1; omega)); have BB := hid (Below.grown (BD.out.alloc (by have := BD.out.size; exact this) _) hgrow (by have := BD.out.size; simp; omega) (fun j hj => by have := (WD.out.lt j hj).1; omega)); have q2 := RB.out.cell 2; have q2f := RB.out.frozen 2; have WB := hid hown; clear hown hgrow)
      all_goals
        have RB2 := hid (RB.out.set 2 (.slice (some ⟨g', 0, none⟩) (k + 1) cap'))
        have WB2 := hid (own_other WB.out (Nat.lt_succ_self _) 2 (.slice (some ⟨g', 0, none⟩) (k + 1) cap'))
        have BB2 := hid (below_set BB.out (Nat.le_refl _) 2 (.slice (some ⟨g', 0, none⟩) (k + 1) cap'))
        go_wp2_with fail
        go_roundw
        case rel => exact ⟨k + 1, _, _, by omega, by go_num, RB2.out, WB2.out, BB2.out⟩
        case measure => simp [intOf]; omega
    · obtain rfl : n0 = k := by omega
      have u1 : ¬ (n0 : Int) < (n0 : Int) := by omega
      go_wp2_with fail
      go_loopw [41] (fun i wr => ∃ (k : Nat) (v : Value) (xs : List Value), k ≤ n2 ∧ i = .int .i64 k ∧ Blk wr w.heap.size 71 (lcells false ⟨#[122, 111, 110, 101]⟩ v2 v) ∧ wr.ownsRow (w.heap.size + 1) 75 4 v k xs ∧ Below w.heap.size w wr) (fun i _ => n2 - (intOf i).toNat)
      case atStart => exact ⟨0, (.slice none 0 0), [], Nat.zero_le _, rfl, HR.out, World.ownsRow_nil _ _ _ _, HB.out⟩
      case round =>
        obtain ⟨k, v3, xs, hk, rfl, hR, hown, hb⟩ := hrel
        have HB := hid hb
        have HR := hid hR
        have HW := hid hown
        have hsz := hb.size
        clear hb hR hown
        by_cases hlt : k < n2
        · obtain ⟨oa, y, rfl, hy, v, rfl⟩ := (hH.below (HB0 HB.out)) k hlt
          obtain ⟨da, yd, rfl, hyd, b0, rfl⟩ := (hX.below (HB0 HB.out)) k hlt
          obtain ⟨b, hb8⟩ : ∃ b, IntKind.u8.wrap b0 = b := ⟨_, rfl⟩
          have u1 : (k : Int) < (n2 : Int) := by omega
          have u2 : ¬ (n2 : Int) ≤ (k : Int) := by omega
          have hw : IntKind.i64.wrap ((k : Int) + 1) = (k : Int) + 1 := IntWalk.i64_in _ (by omega)
          have c2 : wr.cell? ⟨w.heap.size, 3, none⟩ = some v3 := HR.out.cell 3
          have RD := hid (show Blk wr.drew w.heap.size 71 (lcells false ⟨#[122, 111, 110, 101]⟩ v2 v3) from HR.out)
          have WD := hid (show wr.drew.ownsRow (w.heap.size + 1) 75 4 v3 k xs from HW.out)
          have BD := hid (show Below w.heap.size w wr.drew from ⟨HB.out.os, HB.out.tape, HB.out.output, HB.out.size, HB.out.block⟩)
          go_wp2_with fail
          have CN := hid (news_cells wr.drew 75 [.int .i64 v, .int .u8 b, .bool false, .bool false])
          have ca : (wr.alloc (.cells #[.int .i64 v, .int .u8 b, .bool false, .bool false] 75)).cell? ⟨w.heap.size, 3, none⟩ = some v3 := (HR.out.alloc _).cell 3
          go_region_law (refine step_append_own rfl (.tmp 50) (.tmp 58) 68 rfl 75 (.agg #[.int .i64 0, .int .u8 0, .bool false, .bool false]) 4 16 Try.underlying68 info_tx rfl (by decide) (w.heap.size + 1) v3 k xs (by simp [Act.eval, Act.put]) (WD.out.alloc _) ⟨wr.drew.heap.size, 0, none⟩ 1 1 [.int .i64 v, .int .u8 b, .bool false, .bool false] (by simp [Act.eval, Act.put]) rfl CN.out (by simp [Value.oneCell']) (by simp [maxLen]; omega) (by omega) (by have := (WD.out.alloc (.cells #[] 0)).1; simp; omega) ?_; intro v' w' hown hgrow; obtain ⟨g', cap', rfl⟩ := Go.Joins.ownsRow_form hown (by omega); have RB := hid (Blk.grown (RD.out.alloc _) hgrow (fun j hj => by have := (WD.out.lt j hj).1; omega)); have BB := hid (Below.grown (BD.out.alloc (by have := BD.out.size; exact this) _) hgrow (by have := BD.out.size; simp; omega) (fun j hj => by have := (WD.out.lt j hj).1; omega)); have q2 := RB.out.cell 3; have q2f := RB.out.frozen 3; have WB := hid hown; clear hown hgrow)
          all_goals
            have RB2 := hid (RB.out.set 3 (.slice (some ⟨g', 0, none⟩) (k + 1) cap'))
            have WB2 := hid (own_other WB.out (Nat.lt_succ_self _) 3 (.slice (some ⟨g', 0, none⟩) (k + 1) cap'))
            have BB2 := hid (below_set BB.out (Nat.le_refl _) 3 (.slice (some ⟨g', 0, none⟩) (k + 1) cap'))
            go_wp2_with fail
            go_roundw
            case rel => exact ⟨k + 1, _, _, by omega, by go_num, RB2.out, WB2.out, BB2.out⟩
            case measure => simp [intOf]; omega
        · obtain rfl : n2 = k := by omega
          have u1 : ¬ (n2 : Int) < (n2 : Int) := by omega
          go_wp2_with fail
          go_ret
          exact ⟨⟨_, rfl, HR.out.cell 0⟩, HB.out⟩

set_option maxRecDepth 100000 in
theorem location_utc (o d h x : Option Addr) (n0 c0 n1 c1 n2 c2 n3 c3 : Nat) (w : World) (h0 : n0 = 0) : Calls Try.prog 13 #[.agg (zcells o d h x n0 c0 n1 c1 n2 c2 n3 c3)] w fun e w' => (∃ g b, e = .returned (.pointer (some ⟨g, 0, none⟩)) ∧ w'.cell? ⟨g, 0, none⟩ = some (.bool b)) ∧ Below w.heap.size w w' := by
  subst h0
  have B := hid (show Below w.heap.size w (w.alloc (.cells (zcells o d h x 0 c0 n1 c1 n2 c2 n3 c3) 28)) by go_grown)
  go_enter Try.func13, Try.ntmps13
  go_wp2_with (go_at_call 18; refine (utc_any _).mono ?_; rintro e w' ⟨⟨g, rfl, hc⟩, hb⟩; replace hb := hid (bt B.out hb); replace hc := hid hc)
  go_ret
  exact ⟨⟨_, _, rfl, hc.out⟩, hb.out⟩

set_option maxRecDepth 100000 in
theorem location_zone (o d h x : Option Addr) (n0 c0 n1 c1 n2 c2 n3 c3 : Nat) (w : World) (h0 : ¬ n0 = 0) (h1 : n1 = n0) (h3 : n3 = n2) (hn0 : n0 ≤ 64) (hn2 : n2 ≤ 4096) (hO : Sl w o n0 isI) (hD : Sl w d n1 isB) (hH : Sl w h n2 isI) (hX : Sl w x n3 isI) : Calls Try.prog 13 #[.agg (zcells o d h x n0 c0 n1 c1 n2 c2 n3 c3)] w fun e w' => (∃ g b, e = .returned (.pointer (some ⟨g, 0, none⟩)) ∧ w'.cell? ⟨g, 0, none⟩ = some (.bool b)) ∧ Below w.heap.size w w' := by
  subst h1 h3
  have z0 : ((n1 : Int) == 0) = false := by rw [beq_eq_false_iff_ne]; omega
  have B0 : Below w.heap.size w (w.alloc (.cells (zcells o d h x n1 c0 n1 c1 n3 c2 n3 c3) 28)) := by go_grown
  have B := hid B0
  have CZ := hid (zzZone_any o d h x n1 c0 c1 n3 c2 c3 _ hn0 hn2 (hO.below B0) (hD.below B0) (hH.below B0) (hX.below B0))
  clear B0 hO hD hH hX h0 hn0 hn2
  go_enter Try.func13, Try.ntmps13
  go_wp2_with (go_at_call 19; refine CZ.out.mono ?_; rintro e w' ⟨⟨g, rfl, hc⟩, hb⟩; replace hb := hid (bt B.out hb); replace hc := hid hc)
  go_ret
  exact ⟨⟨_, _, rfl, hc.out⟩, hb.out⟩

theorem location_any (o d h x : Option Addr) (n0 c0 n1 c1 n2 c2 n3 c3 : Nat) (w : World) (hg : goodZ n0 n1 n2 n3) (hO : Sl w o n0 isI) (hD : Sl w d n1 isB) (hH : Sl w h n2 isI) (hX : Sl w x n3 isI) : Calls Try.prog 13 #[.agg (zcells o d h x n0 c0 n1 c1 n2 c2 n3 c3)] w fun e w' => (∃ g b, e = .returned (.pointer (some ⟨g, 0, none⟩)) ∧ w'.cell? ⟨g, 0, none⟩ = some (.bool b)) ∧ Below w.heap.size w w' := by
  rcases hg with ⟨h0, _⟩ | ⟨h0, h1, h2, h3, h4, h5⟩
  · exact location_utc o d h x n0 c0 n1 c1 n2 c2 n3 c3 w h0
  · exact location_zone o d h x n0 c0 n1 c1 n2 c2 n3 c3 w (by omega) h2 h5 h1 h4 hO hD hH hX
end Go.Proofs.Ytpfjmjbnomiipaa
