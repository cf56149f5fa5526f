/- Time.AddDate by one month, by one day, over the contract of Date. Walked. -/
import Derived.Test.YtjbafphoemibaaaGreatDoorTrunc
import Derived.Deep.RegionHeld3
set_option linter.unusedVariables false
set_option linter.unusedSimpArgs false
namespace Go.Proofs.YtjbafphoemibaaaGreatDoor
open Go.RowKit

theorem below_set3 {B : Nat} {w w1 : World} (h : Below B w w1) {g : Nat} (hg : B ≤ g) (x y z : Value) : Below B w (((w1.setCell ⟨g, 0, none⟩ x).setCell ⟨g, 1, none⟩ y).setCell ⟨g, 2, none⟩ z) := below_set (below_set (below_set h hg 0 _) hg 1 _) hg 2 _
theorem keepT {n e : Int} {p : Option Addr} {b : Nat} {t : TypeId} {w w' : World} (h1 : Blk w b t (tcells n e p)) (hb : Below w.heap.size w w') :
    w'.cell? ⟨b, 0, none⟩ = some (.int .u64 n) ∧ w'.cell? ⟨b, 1, none⟩ = some (.int .i64 e) ∧ w'.cell? ⟨b, 2, none⟩ = some (.pointer p) := by
  have k := h1.below hb
  exact ⟨k.cell 0, k.cell 1, k.cell 2⟩
theorem keepU {n e : Int} {p : Option Addr} {b g : Nat} {t : TypeId} {w : World} (h1 : Blk w b t (tcells n e p)) (hne : b ≠ g) (x y z : Value) :
    (((w.setCell ⟨g, 0, none⟩ x).setCell ⟨g, 1, none⟩ y).setCell ⟨g, 2, none⟩ z).cell? ⟨b, 0, none⟩ = some (.int .u64 n) ∧ (((w.setCell ⟨g, 0, none⟩ x).setCell ⟨g, 1, none⟩ y).setCell ⟨g, 2, none⟩ z).cell? ⟨b, 1, none⟩ = some (.int .i64 e) ∧ (((w.setCell ⟨g, 0, none⟩ x).setCell ⟨g, 1, none⟩ y).setCell ⟨g, 2, none⟩ z).cell? ⟨b, 2, none⟩ = some (.pointer p) := by
  have k := ((h1.other hne 0 x).other hne 1 y).other hne 2 z
  exact ⟨k.cell 0, k.cell 1, k.cell 2⟩

set_option maxHeartbeats 3200000 in
set_option maxRecDepth 100000 in
theorem addDate_month (l off l' : Int) (g0 : Nat) (b : Bool) (Y M D : Int) (h m c : Nat) (w : World) (hl : near l) (ho : offOk off) (hloc : LocB w g0 b off) (hY : yP (l / 86400) = Y) (hM : mP (l / 86400) = M) (hD : dP (l / 86400) = D) (hh : l % 86400 / 3600 = h) (hm : l % 3600 / 60 = m) (hc : l % 60 = c)
    (y1 : -100000 ≤ Y) (y2 : Y ≤ 100000) (m1 : 0 ≤ M) (m2 : M ≤ 13) (d1 : 0 ≤ D) (d2 : D ≤ 40)
    (hN : ∀ X g, LocB X g b off → Calls Tryz.prog 121 #[.int .i64 Y, .int .i64 (M + 1), .int .i64 D, .int .i64 h, .int .i64 m, .int .i64 c, .int .i64 0, .pointer (some ⟨g, 0, none⟩)] X fun e w' => e = .returned (.agg (tcells 0 (eL off l') (locOf b g))) ∧ Below X.heap.size X w') :
    Calls Tryz.prog 122 #[.agg (tcells 0 (eL off l) (locOf b g0)), .int .i64 0, .int .i64 1, .int .i64 0] w fun e' w' => e' = .returned (.agg (tcells 0 (eL off l') (locOf b g0))) ∧ Below w.heap.size w w' := by
  have CT := hid (fun X (hx : LocB X g0 b off) => dateF_any 0 l off (locOf b g0) X (by omega) (by omega) hl ho hx.fx)
  have CC := hid (fun X (hx : LocB X g0 b off) => clockF_any 0 l off (locOf b g0) h m c X (by omega) (by omega) hl ho hx.fx hh hm hc)
  rw [hY, hM, hD] at CT
  obtain ⟨E, hE⟩ : ∃ E, eL off l = E := ⟨_, rfl⟩
  obtain ⟨E', hE'⟩ : ∃ E, eL off l' = E := ⟨_, rfl⟩
  have CL := hid (fun X (hx : LocB X g0 b off) => locationT_any 0 E off g0 b X hx)
  have CN := hid (fun X hg => nsec_any w.heap.size 0 E (locOf b g0) X hg (by omega) (by omega))
  have CD := hid hN
  obtain ⟨p, hp⟩ : ∃ p, locOf b g0 = p := ⟨_, rfl⟩
  rw [hE, hp] at CT CC ⊢
  rw [hp] at CL CN
  rw [hE'] at CD ⊢
  have B0 : Below w.heap.size w ((w.alloc (.cells (tcells 0 E p) 52)).alloc (.cells (tcells 0 0 none) 52)) := by go_grown
  have B := hid B0
  have Q := hid ((Blk.new w 52 (tcells 0 E p)).alloc (.cells (tcells 0 0 none) 52))
  have R := hid (Blk.new (w.alloc (.cells (tcells 0 E p) 52)) 52 (tcells 0 0 none))
  have hsz : (w.alloc (.cells (tcells 0 E p) 52)).heap.size = w.heap.size + 1 := by simp
  rw [hsz] at R
  have L := hid (hloc.below B0)
  have wY : IntKind.i64.wrap Y = Y := IntWalk.i64_in _ (by omega)
  have wY' : wrap64 Y = Y := IntWalk.wrap64_in _ (by omega)
  have wM : IntKind.i64.wrap (M + 1) = M + 1 := IntWalk.i64_in _ (by omega)
  have wM' : wrap64 (M + 1) = M + 1 := IntWalk.wrap64_in _ (by omega)
  have wD : IntKind.i64.wrap D = D := IntWalk.i64_in _ (by omega)
  have wD' : wrap64 D = D := IntWalk.wrap64_in _ (by omega)
  clear hl ho hloc hY hM hD hh hm hc y1 y2 m1 m2 d1 d2 hN hE hE' hsz B0
  go_enter Tryz.func122, Tryz.ntmps122
  go_upto_region 1 with fail
  generalize ((w.alloc (.cells (tcells 0 E p) 52)).alloc (.cells (tcells 0 0 none) 52)) = w1 at B Q R L ⊢
  have k0 : w1.cell? ⟨w.heap.size, 0, none⟩ = some (.int .u64 0) := Q.out.cell 0
  have k1 : w1.cell? ⟨w.heap.size, 1, none⟩ = some (.int .i64 E) := Q.out.cell 1
  have k2 : w1.cell? ⟨w.heap.size, 2, none⟩ = some (.pointer p) := Q.out.cell 2
  go_upto_region 3 with (first
    | (go_at_call 139; refine (CT.out _ L.out).mono ?_; rintro e' w2 ⟨rfl, hb⟩; have B2 := hid (bt B.out hb); have Q2 := hid (Q.out.below hb); have R2 := hid (R.out.below hb); have L2 := hid (L.out.below hb); have j0 := Q2.out.cell 0; have j1 := Q2.out.cell 1; have j2 := Q2.out.cell 2; clear hb)
    | (go_at_call 140; refine (CC.out _ L2.out).mono ?_; rintro e' w3 ⟨rfl, hb⟩; have B3 := hid (bt B2.out hb); have Q3 := hid (Q2.out.below hb); have R3 := hid (R2.out.below hb); have L3 := hid (L2.out.below hb); clear hb))
  clear k0 k1 k2 j0 j1 j2 B Q R L B2 Q2 R2 L2
  go_region_held3 (fun w' => w'.cell? ⟨w.heap.size, 0, none⟩ = some (.int .u64 0) ∧ w'.cell? ⟨w.heap.size, 1, none⟩ = some (.int .i64 E) ∧ w'.cell? ⟨w.heap.size, 2, none⟩ = some (.pointer p))
    ((first | (exact keepU (Q3.out.below H5.out) (Nat.ne_of_lt (Nat.lt_succ_self _)) _ _ _; done) | (refine keepT Q3.out ?_; first | (go_grown; done) | (exact H5.out; done) | (exact H4.out; done))))
    (first
      | (go_at_call 72; refine (CN.out _ (by exact Q3.out)).mono ?_; rintro e' w' ⟨rfl, rfl⟩)
      | (go_at_call 117; refine (CL.out _ (L3.out.below (by go_grown))).mono ?_; rintro e' w4 ⟨⟨g, rfl, hl, hlo, _⟩, hb⟩; have H4 := hid (bt (X := w3) (by go_grown) hb); have L4 := hid hl; have HLO := hid hlo; clear hb hl hlo)
      | (go_at_call 121; refine (CD.out _ g (L4.out.below (by go_grown))).mono ?_; rintro e' w5 ⟨rfl, hb⟩; have H5 := hid (bt (X := w3) (by first | exact H4.out | exact bt H4.out (by go_grown)) hb); have A := hid (R3.out.below H5.out); have hge := hid (show w3.heap.size ≤ w3.heap.size from Nat.le_refl _); have a0 := A.out.cell 0; have a1 := A.out.cell 1; have a2 := A.out.cell 2; have f0 := A.out.frozen 0; have f1 := A.out.frozen 1; have f2 := A.out.frozen 2; clear hb))
  all_goals
    go_wp2_with fail
    rw [HLO.out] at *
    exact bodyPost_ret (results_cell_row rfl _ _ (w.heap.size + 1) 52 _ (0, 0) _ rfl (((A.out.set 0 _).set 1 _).set 2 _) Tryz.underlying52 rfl (by kernel_rfl)) rfl ⟨rfl, below_set3 (bt B3.out H5.out) (Nat.le_succ _) _ _ _⟩

set_option maxHeartbeats 3200000 in
set_option maxRecDepth 100000 in
theorem addDate_day (l off l' : Int) (g0 : Nat) (b : Bool) (Y M D : Int) (h m c : Nat) (w : World) (hl : near l) (ho : offOk off) (hloc : LocB w g0 b off) (hY : yP (l / 86400) = Y) (hM : mP (l / 86400) = M) (hD : dP (l / 86400) = D) (hh : l % 86400 / 3600 = h) (hm : l % 3600 / 60 = m) (hc : l % 60 = c)
    (y1 : -100000 ≤ Y) (y2 : Y ≤ 100000) (m1 : 0 ≤ M) (m2 : M ≤ 13) (d1 : 0 ≤ D) (d2 : D ≤ 40)
    (hN : ∀ X g, LocB X g b off → Calls Tryz.prog 121 #[.int .i64 Y, .int .i64 M, .int .i64 (D + 1), .int .i64 h, .int .i64 m, .int .i64 c, .int .i64 0, .pointer (some ⟨g, 0, none⟩)] X fun e w' => e = .returned (.agg (tcells 0 (eL off l') (locOf b g))) ∧ Below X.heap.size X w') :
    Calls Tryz.prog 122 #[.agg (tcells 0 (eL off l) (locOf b g0)), .int .i64 0, .int .i64 0, .int .i64 1] w fun e' w' => e' = .returned (.agg (tcells 0 (eL off l') (locOf b g0))) ∧ Below w.heap.size w w' := by
  have CT := hid (fun X (hx : LocB X g0 b off) => dateF_any 0 l off (locOf b g0) X (by omega) (by omega) hl ho hx.fx)
  have CC := hid (fun X (hx : LocB X g0 b off) => clockF_any 0 l off (locOf b g0) h m c X (by omega) (by omega) hl ho hx.fx hh hm hc)
  rw [hY, hM, hD] at CT
  obtain ⟨E, hE⟩ : ∃ E, eL off l = E := ⟨_, rfl⟩
  obtain ⟨E', hE'⟩ : ∃ E, eL off l' = E := ⟨_, rfl⟩
  have CL := hid (fun X (hx : LocB X g0 b off) => locationT_any 0 E off g0 b X hx)
  have CN := hid (fun X hg => nsec_any w.heap.size 0 E (locOf b g0) X hg (by omega) (by omega))
  have CD := hid hN
  obtain ⟨p, hp⟩ : ∃ p, locOf b g0 = p := ⟨_, rfl⟩
  rw [hE, hp] at CT CC ⊢
  rw [hp] at CL CN
  rw [hE'] at CD ⊢
  have B0 : Below w.heap.size w ((w.alloc (.cells (tcells 0 E p) 52)).alloc (.cells (tcells 0 0 none) 52)) := by go_grown
  have B := hid B0
  have Q := hid ((Blk.new w 52 (tcells 0 E p)).alloc (.cells (tcells 0 0 none) 52))
  have R := hid (Blk.new (w.alloc (.cells (tcells 0 E p) 52)) 52 (tcells 0 0 none))
  have hsz : (w.alloc (.cells (tcells 0 E p) 52)).heap.size = w.heap.size + 1 := by simp
  rw [hsz] at R
  have L := hid (hloc.below B0)
  have wY : IntKind.i64.wrap Y = Y := IntWalk.i64_in _ (by omega)
  have wY' : wrap64 Y = Y := IntWalk.wrap64_in _ (by omega)
  have wM : IntKind.i64.wrap M = M := IntWalk.i64_in _ (by omega)
  have wM' : wrap64 M = M := IntWalk.wrap64_in _ (by omega)
  have wD : IntKind.i64.wrap (D + 1) = D + 1 := IntWalk.i64_in _ (by omega)
  have wD' : wrap64 (D + 1) = D + 1 := IntWalk.wrap64_in _ (by omega)
  clear hl ho hloc hY hM hD hh hm hc y1 y2 m1 m2 d1 d2 hN hE hE' hsz B0
  go_enter Tryz.func122, Tryz.ntmps122
  go_upto_region 1 with fail
  generalize ((w.alloc (.cells (tcells 0 E p) 52)).alloc (.cells (tcells 0 0 none) 52)) = w1 at B Q R L ⊢
  have k0 : w1.cell? ⟨w.heap.size, 0, none⟩ = some (.int .u64 0) := Q.out.cell 0
  have k1 : w1.cell? ⟨w.heap.size, 1, none⟩ = some (.int .i64 E) := Q.out.cell 1
  have k2 : w1.cell? ⟨w.heap.size, 2, none⟩ = some (.pointer p) := Q.out.cell 2
  go_upto_region 3 with (first
    | (go_at_call 139; refine (CT.out _ L.out).mono ?_; rintro e' w2 ⟨rfl, hb⟩; have B2 := hid (bt B.out hb); have Q2 := hid (Q.out.below hb); have R2 := hid (R.out.below hb); have L2 := hid (L.out.below hb); have j0 := Q2.out.cell 0; have j1 := Q2.out.cell 1; have j2 := Q2.out.cell 2; clear hb)
    | (go_at_call 140; refine (CC.out _ L2.out).mono ?_; rintro e' w3 ⟨rfl, hb⟩; have B3 := hid (bt B2.out hb); have Q3 := hid (Q2.out.below hb); have R3 := hid (R2.out.below hb); have L3 := hid (L2.out.below hb); clear hb))
  clear k0 k1 k2 j0 j1 j2 B Q R L B2 Q2 R2 L2
  go_region_held3 (fun w' => w'.cell? ⟨w.heap.size, 0, none⟩ = some (.int .u64 0) ∧ w'.cell? ⟨w.heap.size, 1, none⟩ = some (.int .i64 E) ∧ w'.cell? ⟨w.heap.size, 2, none⟩ = some (.pointer p))
    ((first | (exact keepU (Q3.out.below H5.out) (Nat.ne_of_lt (Nat.lt_succ_self _)) _ _ _; done) | (refine keepT Q3.out ?_; first | (go_grown; done) | (exact H5.out; done) | (exact H4.out; done))))
    (first
      | (go_at_call 72; refine (CN.out _ (by exact Q3.out)).mono ?_; rintro e' w' ⟨rfl, rfl⟩)
      | (go_at_call 117; refine (CL.out _ (L3.out.below (by go_grown))).mono ?_; rintro e' w4 ⟨⟨g, rfl, hl, hlo, _⟩, hb⟩; have H4 := hid (bt (X := w3) (by go_grown) hb); have L4 := hid hl; have HLO := hid hlo; clear hb hl hlo)
      | (go_at_call 121; refine (CD.out _ g (L4.out.below (by go_grown))).mono ?_; rintro e' w5 ⟨rfl, hb⟩; have H5 := hid (bt (X := w3) (by first | exact H4.out | exact bt H4.out (by go_grown)) hb); have A := hid (R3.out.below H5.out); have hge := hid (show w3.heap.size ≤ w3.heap.size from Nat.le_refl _); have a0 := A.out.cell 0; have a1 := A.out.cell 1; have a2 := A.out.cell 2; have f0 := A.out.frozen 0; have f1 := A.out.frozen 1; have f2 := A.out.frozen 2; clear hb))
  all_goals
    go_wp2_with fail
    rw [HLO.out] at *
    exact bodyPost_ret (results_cell_row rfl _ _ (w.heap.size + 1) 52 _ (0, 0) _ rfl (((A.out.set 0 _).set 1 _).set 2 _) Tryz.underlying52 rfl (by kernel_rfl)) rfl ⟨rfl, below_set3 (bt B3.out H5.out) (Nat.le_succ _) _ _ _⟩
end Go.Proofs.YtjbafphoemibaaaGreatDoor
