/- cronNone at UTC's clocks, and the zone of one offset. Walked. -/
import Derived.Test.YtfmagbkcfeckhaaLawK
import Derived.Deep.RegionHeld3
import Derived.Deep.DeepCutAuto
set_option linter.unusedVariables false
set_option linter.unusedSimpArgs false
namespace Go.Proofs.Ytfmagbkcfeckhaa
open Go.RowKit

set_option maxHeartbeats 3200000 in
set_option maxRecDepth 100000 in
theorem none_utc (dl : Int) (S : Sets) (s n x : Int) (b : Bool) (w : World) (hS : setsAll S) (hg : goodT s n) (ha : IsAns S s 0 x b) :
    Calls Try.prog 11 #[.agg (schCells dl S), .agg (icells s n), .agg (zcells none none none none 0 0 0 0 0 0 0 0)] w fun e w' => e = .returned (.bool (!b)) ∧ Below w.heap.size w w' := by
  have z1 : (w.alloc (.cells (schCells dl S) 24)).heap.size = w.heap.size + 1 := by simp
  have z2 : ((w.alloc (.cells (schCells dl S) 24)).alloc (.cells (icells s n) 26)).heap.size = w.heap.size + 1 + 1 := by simp
  have B := hid (show Below w.heap.size w (((w.alloc (.cells (schCells dl S) 24)).alloc (.cells (icells s n) 26)).alloc (.cells (zcells none none none none 0 0 0 0 0 0 0 0) 34)) by go_grown)
  have KS := hid (((Blk.new w 24 (schCells dl S)).alloc (.cells (icells s n) 26)).alloc (.cells (zcells none none none none 0 0 0 0 0 0 0 0) 34))
  have KT := hid ((Blk.new (w.alloc (.cells (schCells dl S) 24)) 26 (icells s n)).alloc (.cells (zcells none none none none 0 0 0 0 0 0 0 0) 34))
  have KZ := hid (Blk.new ((w.alloc (.cells (schCells dl S) 24)).alloc (.cells (icells s n) 26)) 34 (zcells none none none none 0 0 0 0 0 0 0 0))
  rw [z1] at KT
  rw [z2] at KZ
  have CF := hid (fun X => fieldsOf_any dl S hS X)
  have CN := hid (fun X => ref_utc S s n x b X hg ha)
  clear z1 z2 hS hg ha
  go_enter Try.func11, Try.ntmps11
  go_upto_region 1 with fail
  generalize (((w.alloc (.cells (schCells dl S) 24)).alloc (.cells (icells s n) 26)).alloc (.cells (zcells none none none none 0 0 0 0 0 0 0 0) 34)) = w1 at B KS KT KZ ⊢
  go_cut [7, 8] (fun pv bv wx => ∃ g, pv = .pointer (some ⟨g, 0, none⟩) ∧ bv = .bool b ∧ Blk wx g 26 (icells x 0) ∧ w1.heap.size ≤ g ∧ Below w1.heap.size w1 wx)
  case first =>
    go_region_held3 (fun w' => w'.cell? ⟨w.heap.size, 0, none⟩ = some (.bool false) ∧ w'.cell? ⟨w.heap.size, 1, none⟩ = some (.int .i64 dl) ∧ w'.cell? ⟨w.heap.size, 2, none⟩ = some (.int .u64 S.sec) ∧ w'.cell? ⟨w.heap.size, 3, none⟩ = some (.int .u64 S.min) ∧ w'.cell? ⟨w.heap.size, 4, none⟩ = some (.int .u64 S.hour) ∧ w'.cell? ⟨w.heap.size, 5, none⟩ = some (.int .u64 S.dom) ∧ w'.cell? ⟨w.heap.size, 6, none⟩ = some (.int .u64 S.month) ∧ w'.cell? ⟨w.heap.size, 7, none⟩ = some (.int .u64 S.dow) ∧
      w'.cell? ⟨w.heap.size + 1, 0, none⟩ = some (.int .i64 s) ∧ w'.cell? ⟨w.heap.size + 1, 1, none⟩ = some (.int .i64 n) ∧ w'.cell? ⟨w.heap.size + 1 + 1, 0, none⟩ = some (.slice none 0 0) ∧ w'.cell? ⟨w.heap.size + 1 + 1, 1, none⟩ = some (.slice none 0 0) ∧ w'.cell? ⟨w.heap.size + 1 + 1, 2, none⟩ = some (.slice none 0 0) ∧ w'.cell? ⟨w.heap.size + 1 + 1, 3, none⟩ = some (.slice none 0 0))
      ((refine keepN KS.out KT.out KZ.out ?_; first | (go_grown; done) | (exact H3.out; done) | (exact H3.out.alloc H3.out.size _; done) | (exact H2.out; done) | (exact H2.out.alloc H2.out.size _; done) | (exact below_set2 H3.out (Nat.le_refl _) _ _; done) | (exact below_set2 H3.out H2.out.size _ _; done) | (exact below_set2 (H3.out.alloc H3.out.size _) H3.out.size _ _; done)))
      (first
        | (go_at_call 16; refine (CF.out _).mono ?_; rintro e' w2 ⟨rfl, hb⟩; have H2 := hid (bt (X := w1) (by go_grown) hb); (first | have A := hid (Blk.below (w' := w2) (show Blk (w1.alloc (.cells (icells 0 0) 26)).drew w1.heap.size 26 (icells 0 0) from Blk.new w1 26 _) hb) | skip); clear hb)
        | (go_at_call 15; refine (CN.out _).mono ?_; rintro e' w3 ⟨rfl, hb⟩; have H3 := hid (bt (X := w1) (by first | exact H2.out | exact H2.out.alloc H2.out.size _) hb); (first | have A := hid (Blk.below (Blk.new _ _ _) hb) | have A := hid (Blk.below A.out hb) | skip); (first | (have a0 := A.out.cell 0; have a1 := A.out.cell 1; have f0 := A.out.frozen 0; have f1 := A.out.frozen 1) | skip); clear hb))
    all_goals
      go_wp2_with fail
      go_meet
      first
        | exact ⟨_, rfl, rfl, Blk.new w3 _ _, H3.out.size, H3.out.alloc H3.out.size _⟩
        | exact ⟨_, rfl, rfl, (A.out.set 0 _).set 1 _, H2.out.size, below_set2 H3.out H2.out.size _ _⟩
        | exact ⟨_, rfl, rfl, (A.out.set 0 _).set 1 _, Nat.le_refl _, below_set2 H3.out (Nat.le_refl _) _ _⟩
  case rest =>
    obtain ⟨g, rfl, rfl, hbk, hle, hbw⟩ := hcut
    have B2 := hid (bt B.out hbw)
    clear hbk hle hbw
    go_wp2_with fail
    go_ret
    exact ⟨rfl, B2.out⟩

theorem ints_one {X : World} {g : Nat} {t : TypeId} {v : Int} (h : Blk X g t #[.int .i64 v]) : Ints X (some ⟨g, 0, none⟩) 1 (fun _ => v) := fun i hi => by
  obtain rfl : i = 0 := by omega
  exact ⟨_, rfl, by rw [Addr.add_zero']; exact h.cell 0⟩
theorem bols_one {X : World} {g : Nat} {t : TypeId} {v : Bool} (h : Blk X g t #[.bool v]) : Bols X (some ⟨g, 0, none⟩) 1 (fun _ => v) := fun i hi => by
  obtain rfl : i = 0 := by omega
  exact ⟨_, rfl, by rw [Addr.add_zero']; exact h.cell 0⟩
/-- The world behind the zone's lists. -/
def fixW (w : World) (v : Int) : World := (((((w.alloc (.cells (zcells (some ⟨w.heap.size + 1, 0, none⟩) (some ⟨w.heap.size + 1 + 1, 0, none⟩) (some ⟨w.heap.size + 1 + 1 + 1, 0, none⟩) (some ⟨w.heap.size + 1 + 1 + 1 + 1, 0, none⟩) 1 1 1 1 1 1 1 1) 34)).alloc (.cells #[.int .i64 v] 3)).alloc (.cells #[.bool false] 4)).alloc (.cells #[.int .i64 (-9223372036854775808)] 2)).alloc (.cells #[.int .i64 0] 3))
theorem fix_blk (w : World) (v : Int) : Blk (fixW w v) w.heap.size 34 (zcells (some ⟨w.heap.size + 1, 0, none⟩) (some ⟨w.heap.size + 1 + 1, 0, none⟩) (some ⟨w.heap.size + 1 + 1 + 1, 0, none⟩) (some ⟨w.heap.size + 1 + 1 + 1 + 1, 0, none⟩) 1 1 1 1 1 1 1 1) ∧
    Blk (fixW w v) (w.heap.size + 1) 3 #[.int .i64 v] ∧ Blk (fixW w v) (w.heap.size + 1 + 1) 4 #[.bool false] ∧ Blk (fixW w v) (w.heap.size + 1 + 1 + 1) 2 #[.int .i64 (-9223372036854775808)] ∧ Blk (fixW w v) (w.heap.size + 1 + 1 + 1 + 1) 3 #[.int .i64 0] := by
  unfold fixW
  refine ⟨((((Blk.new w _ _).alloc _).alloc _).alloc _).alloc _, ?_, ?_, ?_, ?_⟩
  · have := (((Blk.new (w.alloc (.cells (zcells (some ⟨w.heap.size + 1, 0, none⟩) (some ⟨w.heap.size + 1 + 1, 0, none⟩) (some ⟨w.heap.size + 1 + 1 + 1, 0, none⟩) (some ⟨w.heap.size + 1 + 1 + 1 + 1, 0, none⟩) 1 1 1 1 1 1 1 1) 34)) 3 #[.int .i64 v]).alloc (.cells #[.bool false] 4)).alloc (.cells #[.int .i64 (-9223372036854775808)] 2)).alloc (.cells #[.int .i64 0] 3)
    simpa only [World.size_alloc] using this
  · have := ((Blk.new ((w.alloc (.cells (zcells (some ⟨w.heap.size + 1, 0, none⟩) (some ⟨w.heap.size + 1 + 1, 0, none⟩) (some ⟨w.heap.size + 1 + 1 + 1, 0, none⟩) (some ⟨w.heap.size + 1 + 1 + 1 + 1, 0, none⟩) 1 1 1 1 1 1 1 1) 34)).alloc (.cells #[.int .i64 v] 3)) 4 #[.bool false]).alloc (.cells #[.int .i64 (-9223372036854775808)] 2)).alloc (.cells #[.int .i64 0] 3)
    simpa only [World.size_alloc] using this
  · have := (Blk.new (((w.alloc (.cells (zcells (some ⟨w.heap.size + 1, 0, none⟩) (some ⟨w.heap.size + 1 + 1, 0, none⟩) (some ⟨w.heap.size + 1 + 1 + 1, 0, none⟩) (some ⟨w.heap.size + 1 + 1 + 1 + 1, 0, none⟩) 1 1 1 1 1 1 1 1) 34)).alloc (.cells #[.int .i64 v] 3)).alloc (.cells #[.bool false] 4)) 2 #[.int .i64 (-9223372036854775808)]).alloc (.cells #[.int .i64 0] 3)
    simpa only [World.size_alloc] using this
  · have := Blk.new ((((w.alloc (.cells (zcells (some ⟨w.heap.size + 1, 0, none⟩) (some ⟨w.heap.size + 1 + 1, 0, none⟩) (some ⟨w.heap.size + 1 + 1 + 1, 0, none⟩) (some ⟨w.heap.size + 1 + 1 + 1 + 1, 0, none⟩) 1 1 1 1 1 1 1 1) 34)).alloc (.cells #[.int .i64 v] 3)).alloc (.cells #[.bool false] 4)).alloc (.cells #[.int .i64 (-9223372036854775808)] 2)) 3 #[.int .i64 0]
    simpa only [World.size_alloc] using this

set_option maxHeartbeats 3200000 in
set_option maxRecDepth 100000 in
theorem cfixed_any (v : Int) (w : World) (v1 : -86400 ≤ v) (v2 : v ≤ 86400) : Calls Try.prog 14 #[.int .i64 v] w fun e w' => (∃ o d h x, e = .returned (.agg (zcells o d h x 1 1 1 1 1 1 1 1)) ∧ ZIn w' o d h x 1 1 1 1 (fun _ => v) (fun _ => false) (fun _ => -9223372036854775808) (fun _ => 0)) ∧ Below w.heap.size w w' := by
  go_enter Try.func14, Try.ntmps14
  go_wp2_with fail
  obtain ⟨b0, b1, b2, b3, b4⟩ := fix_blk w v
  refine bodyPost_ret (results_cell_row rfl _ _ w.heap.size 34 _ (0, 0) _ rfl b0 Try.underlying34 rfl (by kernel_rfl)) rfl ⟨⟨_, _, _, _, rfl, .inr ⟨by omega, by omega, rfl, by omega, by omega, rfl⟩, ⟨fun _ _ => ⟨v1, v2⟩, fun _ => rfl, fun _ _ => ⟨Int.le_refl 0, by show (0 : Int) < ((1 : Nat) : Int); decide⟩, fun i hi => absurd hi (by omega)⟩, ints_one b1, bols_one b2, ints_one b3, ints_one b4⟩, by go_grown⟩
theorem impl_fix (dl : Int) (S : Sets) (s n off x : Int) (b : Bool) (o d h y : Option Addr) (w : World) (hS : setsAll S) (hg : goodT s n) (o1 : -86400 ≤ off) (o2 : off ≤ 86400) (h60 : off % 60 = 0) (ha : IsAns S (s + off) off x b)
    (hz : ZIn w o d h y 1 1 1 1 (fun _ => off) (fun _ => false) (fun _ => -9223372036854775808) (fun _ => 0)) :
    Calls Try.prog 9 #[.agg (schCells dl S), .agg (icells s n), .agg (zcells o d h y 1 1 1 1 1 1 1 1)] w fun e w' => e = .returned (.tuple #[.agg (icells x 0), .bool b]) ∧ Below w.heap.size w w' := by
  refine (implNext_any dl S s n off false o d h y 1 1 1 1 1 1 1 1 w (SetsOk6.ok hS) ⟨o1, o2⟩ h60 hg (fun X hX => locB_zone o d h y 1 1 1 1 1 1 1 off X _ _ _ _ (by omega) rfl rfl (by omega) (hz.below hX) rfl)).mono ?_
  rintro e w' ⟨ho, hb⟩
  exact ⟨ans_of ha ho, hb⟩
theorem ref_fix (S : Sets) (s n off x : Int) (b : Bool) (o d h y : Option Addr) (w : World) (hg : goodT s n) (o1 : -86400 ≤ off) (o2 : off ≤ 86400) (ha : IsAns S (s + off) off x b)
    (hz : ZIn w o d h y 1 1 1 1 (fun _ => off) (fun _ => false) (fun _ => -9223372036854775808) (fun _ => 0)) :
    Calls Try.prog 15 #[.agg (bcells 384 (fldB S)), .agg (icells s n), .agg (zcells o d h y 1 1 1 1 1 1 1 1)] w fun e w' => e = .returned (.tuple #[.agg (icells x 0), .bool b]) ∧ Below w.heap.size w w' :=
  ref_ans S s n off x b o d h y 1 1 1 1 1 1 1 1 w hg o1 o2 ha (zc_one o d h y 1 1 1 1 1 1 1 off w _ _ _ _ rfl (by omega) hz rfl)
end Go.Proofs.Ytfmagbkcfeckhaa
