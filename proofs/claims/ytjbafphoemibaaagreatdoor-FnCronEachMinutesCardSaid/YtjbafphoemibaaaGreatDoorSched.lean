/- The thin package's schedule and answer: a schedule of sets as the package's, the moment found as an instant. Walked. -/
import Derived.Test.YtjbafphoemibaaaGreatDoorNextW
set_option linter.unusedVariables false
set_option linter.unusedSimpArgs false
namespace Go.Proofs.YtjbafphoemibaaaGreatDoor
open Go.RowKit

abbrev schCells (dl : Int) (S : Sets) : Array Value := #[.bool false, .int .i64 dl, .int .u64 S.sec, .int .u64 S.min, .int .u64 S.hour, .int .u64 S.dom, .int .u64 S.month, .int .u64 S.dow]
set_option maxHeartbeats 1600000 in
set_option maxRecDepth 100000 in
theorem scheduleS_any (dl : Int) (S : Sets) (w : World) : Calls Tryz.prog 15 #[.agg (schCells dl S), .pointer none] w fun e w' => (∃ g, e = .returned (.iface 58 (.pointer (some ⟨g, 0, none⟩))) ∧ Blk w' g 60 (scd S.sec S.min S.hour S.dom S.month S.dow none) ∧ w.heap.size ≤ g) ∧ Below w.heap.size w w' := by
  have hn := Blk.new (w.alloc (.cells (schCells dl S) 27)) 60 (scd S.sec S.min S.hour S.dom S.month S.dow none)
  rw [World.size_alloc] at hn
  have HN := hid hn
  clear hn
  go_enter Tryz.func15, Tryz.ntmps15
  go_wp2_with fail
  go_ret
  exact ⟨⟨_, rfl, HN.out, Nat.le_succ _⟩, by go_grown⟩

theorem isZero_nil (p : Option Addr) (w : World) : Calls Tryz.prog 22 #[.agg (tcells 0 0 p)] w fun e' w' => e' = .returned (.bool true) ∧ Below w.heap.size w w' := by
  go_enter Tryz.func22, Tryz.ntmps22
  go_wp2
  go_ret
  exact ⟨rfl, by go_grown⟩

set_option maxHeartbeats 1600000 in
set_option maxRecDepth 100000 in
theorem answer_none (p : Option Addr) (w : World) : Calls Tryz.prog 14 #[.agg (tcells 0 0 p)] w fun e' w' => e' = .returned (.tuple #[.agg (icells 0 0), .bool false]) ∧ Below w.heap.size w w' := by
  have B := hid (show Below w.heap.size w ((w.alloc (.cells (tcells 0 0 p) 52)).alloc (.cells (icells 0 0) 23)) by go_grown)
  have R := hid (Blk.new (w.alloc (.cells (tcells 0 0 p) 52)) 23 (icells 0 0))
  have hsz : (w.alloc (.cells (tcells 0 0 p) 52)).heap.size = w.heap.size + 1 := by simp
  rw [hsz] at R
  have CZ := hid (fun X => isZero_nil p X)
  clear hsz
  go_enter Tryz.func14, Tryz.ntmps14
  go_wp2_with (first
    | (go_at_call 22; refine (CZ.out _).mono ?_; rintro e w2 ⟨rfl, hb⟩; have B2 := hid (bt B.out hb); have R2 := hid (R.out.below hb); have T0 := hid (there_blk R2.out 2 (Nat.le_refl 2)); clear hb)
    | (refine wpList_store_mid rfl 23 (.tmp 2) (.tmp 6) rfl (w.heap.size + 1) 0 (icells 0 0) (by rfl) (by rfl) T0.out (by kernel_rfl) (by simp [Value.oneCell']) ?_; have R3 := hid (set2_blk R2.out rfl 0 0); have B3 := hid (set2_below B2.out (Nat.le_succ _) 0 0); generalize w2.setCells (w.heap.size + 1) 0 (icells 0 0).toList = w3 at R3 B3 ⊢))
  refine bodyPost_ret (results_row_tmp rfl _ _ (w.heap.size + 1) 23 _ (0, 0) _ rfl R3.out Tryz.underlying23 rfl (by kernel_rfl)) rfl ⟨rfl, B3.out⟩
end Go.Proofs.YtjbafphoemibaaaGreatDoor
