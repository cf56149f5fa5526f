/- Time.Truncate to whole minutes and to whole seconds. Walked. -/
import Derived.Test.YtjbafphoemibaaaGreatDoorAdd
set_option linter.unusedVariables false
set_option linter.unusedSimpArgs false
namespace Go.Proofs.YtjbafphoemibaaaGreatDoor
open Go.RowKit

/-- A quotient's last bit, and this rest. -/
def DivIs (e : Ending) (r : Int) : Prop := ∃ q, e = .returned (.tuple #[.int .i64 q, .int .i64 r])

theorem div_min (e r : Int) (p : Option Addr) (w : World) (h0 : 0 ≤ e) (h1 : e ≤ 1000000000000) (hr : e % 60 = r) :
    Calls Tryz.prog 142 #[.agg (tcells 0 e p), .int .i64 60000000000] w fun e' w' => DivIs e' (r * 1000000000) ∧ Below w.heap.size w w' := by
  have B := hid (show Below w.heap.size w (w.alloc (.cells (tcells 0 e p) 52)) by go_grown)
  have R := hid (Blk.new w 52 (tcells 0 e p))
  have CN := hid (fun X hg => nsec_any w.heap.size 0 e p X hg (by omega) (by omega))
  have CS := hid (fun X hg => sec_any w.heap.size 0 e p X hg (by omega) (by omega))
  have u0 : ¬ e < 0 := by omega
  have q1 : e.tmod 60 = r := by rw [Int.tmod_eq_emod_of_nonneg h0]; exact hr
  obtain ⟨x, hx⟩ : ∃ x, e.tdiv 60 = x := ⟨_, rfl⟩
  obtain ⟨v, hv⟩ : ∃ v, r * 1000000000 = v := ⟨_, rfl⟩
  have w1 : IntKind.i64.wrap (r * 1000000000) = v := by rw [hv]; exact IntWalk.i64_in _ (by omega)
  have w1' : wrap64 (r * 1000000000) = v := by rw [hv]; exact IntWalk.wrap64_in _ (by omega)
  have w2 : IntKind.i64.wrap v = v := IntWalk.i64_in _ (by omega)
  have w2' : wrap64 v = v := IntWalk.wrap64_in _ (by omega)
  have w3 : IntKind.i64.wrap r = r := IntWalk.i64_in _ (by omega)
  have w3' : wrap64 r = r := IntWalk.wrap64_in _ (by omega)
  rw [hv]
  clear hr hv h0 h1
  go_enter Tryz.func142, Tryz.ntmps142
  go_wp2_with (first
    | (go_at_call 72; refine (CN.out _ R.out).mono ?_; rintro e' w' ⟨rfl, rfl⟩)
    | (go_at_call 85; refine (CS.out _ R.out).mono ?_; rintro e' w' ⟨rfl, rfl⟩))
  go_returns
  exact ⟨⟨_, rfl⟩, B.out⟩

set_option maxHeartbeats 1600000 in
set_option maxRecDepth 100000 in
theorem trunc_min (e r : Int) (p : Option Addr) (w : World) (h0 : 0 ≤ e) (h1 : e ≤ 500000000000) (hr : e % 60 = r) :
    Calls Tryz.prog 126 #[.agg (tcells 0 e p), .int .i64 60000000000] w fun e' w' => e' = .returned (.agg (tcells 0 (e - r) p)) ∧ Below w.heap.size w w' := by
  have B := hid (show Below w.heap.size w ((w.alloc (.cells (tcells 0 e p) 52)).alloc (.cells (tcells 0 0 none) 52)) by go_grown)
  have Q := hid ((Blk.new w 52 (tcells 0 e p)).alloc (.cells (tcells 0 0 none) 52))
  have R := hid (Blk.new (w.alloc (.cells (tcells 0 e p) 52)) 52 (tcells 0 0 none))
  have hsz : (w.alloc (.cells (tcells 0 e p) 52)).heap.size = w.heap.size + 1 := by simp
  rw [hsz] at R
  have CS := hid (fun X hg => strip_any w.heap.size 0 e p X hg (by omega) (by omega))
  have CD := hid (fun w => div_min e r p w h0 (by omega) hr)
  obtain ⟨v, hv⟩ : ∃ v, r * 1000000000 = v := ⟨_, rfl⟩
  rw [hv] at CD
  have w1 : IntKind.i64.wrap (-v) = -v := IntWalk.i64_in _ (by omega)
  have w1' : wrap64 (-v) = -v := IntWalk.wrap64_in _ (by omega)
  have CA := hid (fun w => add_any e (-v) (-r) (e - r) p w (by omega) (by omega) (by omega) (by omega) (by omega) (by omega))
  obtain ⟨f, hf⟩ : ∃ f, e - r = f := ⟨_, rfl⟩
  rw [hf] at CA ⊢
  clear hr hv h0 h1 hf hsz
  go_enter Tryz.func126, Tryz.ntmps126
  go_upto_region 1 with fail
  generalize ((w.alloc (.cells (tcells 0 e p) 52)).alloc (.cells (tcells 0 0 none) 52)) = w1 at B Q R ⊢
  have k0 : w1.cell? ⟨w.heap.size, 0, none⟩ = some (.int .u64 0) := Q.out.cell 0
  have k1 : w1.cell? ⟨w.heap.size, 1, none⟩ = some (.int .i64 e) := Q.out.cell 1
  have k2 : w1.cell? ⟨w.heap.size, 2, none⟩ = some (.pointer p) := Q.out.cell 2
  go_wp2_with (first
    | (go_at_call 73; refine (CS.out _ Q.out).mono ?_; rintro e' w' ⟨rfl, rfl⟩)
    | (go_at_call 142; refine (CD.out _).mono ?_; rintro e' w2 ⟨⟨q, rfl⟩, hb⟩; have B2 := hid (bt B.out hb); have Q2 := hid (Q.out.below hb); have R2 := hid (R.out.below hb); have j0 := Q2.out.cell 0; have j1 := Q2.out.cell 1; have j2 := Q2.out.cell 2; clear hb)
    | (go_at_call 118; refine (CA.out _).mono ?_; rintro e' w3 ⟨rfl, hb⟩; have B3 := hid (bt B2.out hb); have R3 := hid (R2.out.below hb); have T0 := hid (there_blk R3.out 3 (Nat.le_refl 3)); clear hb)
    | (refine wpList_store_mid rfl 52 (.tmp 4) (.tmp 20) rfl (w.heap.size + 1) 0 (tcells 0 f p) (by rfl) (by rfl) T0.out (by kernel_rfl) (by simp [Value.oneCell']) ?_; have R4 := hid (set3_blk R3.out rfl 0 f p); have B4 := hid (set3_below B3.out (Nat.le_succ _) 0 f p); generalize w3.setCells (w.heap.size + 1) 0 (tcells 0 f p).toList = w4 at R4 B4 ⊢))
  exact bodyPost_ret (results_cell_row rfl _ _ (w.heap.size + 1) 52 _ (0, 0) _ rfl R4.out Tryz.underlying52 rfl (by kernel_rfl)) rfl ⟨rfl, B4.out⟩

theorem div_sec (e : Int) (p : Option Addr) (w : World) (h0 : 0 ≤ e) (h1 : e ≤ 1000000000000) :
    Calls Tryz.prog 142 #[.agg (tcells 0 e p), .int .i64 1000000000] w fun e' w' => DivIs e' 0 ∧ Below w.heap.size w w' := by
  have B := hid (show Below w.heap.size w (w.alloc (.cells (tcells 0 e p) 52)) by go_grown)
  have R := hid (Blk.new w 52 (tcells 0 e p))
  have CN := hid (fun X hg => nsec_any w.heap.size 0 e p X hg (by omega) (by omega))
  have CS := hid (fun X hg => sec_any w.heap.size 0 e p X hg (by omega) (by omega))
  have u0 : ¬ e < 0 := by omega
  have q1 : e.tmod 1 = 0 := Int.tmod_one e
  have q2 : e.tdiv 1 = e := Int.tdiv_one e
  have w3 : IntKind.i64.wrap e = e := IntWalk.i64_in _ (by omega)
  have w3' : wrap64 e = e := IntWalk.wrap64_in _ (by omega)
  clear h0 h1
  go_enter Tryz.func142, Tryz.ntmps142
  go_wp2_with (first
    | (go_at_call 72; refine (CN.out _ R.out).mono ?_; rintro e' w' ⟨rfl, rfl⟩)
    | (go_at_call 85; refine (CS.out _ R.out).mono ?_; rintro e' w' ⟨rfl, rfl⟩))
  go_returns
  exact ⟨⟨_, rfl⟩, B.out⟩

set_option maxHeartbeats 1600000 in
set_option maxRecDepth 100000 in
theorem trunc_sec (e : Int) (p : Option Addr) (w : World) (h0 : 0 ≤ e) (h1 : e ≤ 500000000000) :
    Calls Tryz.prog 126 #[.agg (tcells 0 e p), .int .i64 1000000000] w fun e' w' => e' = .returned (.agg (tcells 0 e p)) ∧ Below w.heap.size w w' := by
  have B := hid (show Below w.heap.size w ((w.alloc (.cells (tcells 0 e p) 52)).alloc (.cells (tcells 0 0 none) 52)) by go_grown)
  have Q := hid ((Blk.new w 52 (tcells 0 e p)).alloc (.cells (tcells 0 0 none) 52))
  have R := hid (Blk.new (w.alloc (.cells (tcells 0 e p) 52)) 52 (tcells 0 0 none))
  have hsz : (w.alloc (.cells (tcells 0 e p) 52)).heap.size = w.heap.size + 1 := by simp
  rw [hsz] at R
  have CS := hid (fun X hg => strip_any w.heap.size 0 e p X hg (by omega) (by omega))
  have CD := hid (fun w => div_sec e p w h0 (by omega))
  have CA := hid (fun w => add_any e 0 0 e p w (by omega) (by omega) (by omega) (by omega) (by omega) (by omega))
  clear h0 h1 hsz
  go_enter Tryz.func126, Tryz.ntmps126
  go_upto_region 1 with fail
  generalize ((w.alloc (.cells (tcells 0 e p) 52)).alloc (.cells (tcells 0 0 none) 52)) = w1 at B Q R ⊢
  have k0 : w1.cell? ⟨w.heap.size, 0, none⟩ = some (.int .u64 0) := Q.out.cell 0
  have k1 : w1.cell? ⟨w.heap.size, 1, none⟩ = some (.int .i64 e) := Q.out.cell 1
  have k2 : w1.cell? ⟨w.heap.size, 2, none⟩ = some (.pointer p) := Q.out.cell 2
  go_wp2_with (first
    | (go_at_call 73; refine (CS.out _ Q.out).mono ?_; rintro e' w' ⟨rfl, rfl⟩)
    | (go_at_call 142; refine (CD.out _).mono ?_; rintro e' w2 ⟨⟨q, rfl⟩, hb⟩; have B2 := hid (bt B.out hb); have Q2 := hid (Q.out.below hb); have R2 := hid (R.out.below hb); have j0 := Q2.out.cell 0; have j1 := Q2.out.cell 1; have j2 := Q2.out.cell 2; clear hb)
    | (go_at_call 118; refine (CA.out _).mono ?_; rintro e' w3 ⟨rfl, hb⟩; have B3 := hid (bt B2.out hb); have R3 := hid (R2.out.below hb); have T0 := hid (there_blk R3.out 3 (Nat.le_refl 3)); clear hb)
    | (refine wpList_store_mid rfl 52 (.tmp 4) (.tmp 20) rfl (w.heap.size + 1) 0 (tcells 0 e p) (by rfl) (by rfl) T0.out (by kernel_rfl) (by simp [Value.oneCell']) ?_; have R4 := hid (set3_blk R3.out rfl 0 e p); have B4 := hid (set3_below B3.out (Nat.le_succ _) 0 e p); generalize w3.setCells (w.heap.size + 1) 0 (tcells 0 e p).toList = w4 at R4 B4 ⊢))
  exact bodyPost_ret (results_cell_row rfl _ _ (w.heap.size + 1) 52 _ (0, 0) _ rfl R4.out Tryz.underlying52 rfl (by kernel_rfl)) rfl ⟨rfl, B4.out⟩
end Go.Proofs.YtjbafphoemibaaaGreatDoor
