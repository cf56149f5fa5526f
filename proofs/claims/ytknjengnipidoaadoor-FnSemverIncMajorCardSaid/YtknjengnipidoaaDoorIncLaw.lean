/- The law FnSemverIncMajor: the next major version has one major more, minor and patch 0, no prerelease and no metadata. Joined. -/
import Derived.Test.YtknjengnipidoaaDoorInc
import Derived.Test.YtknjengnipidoaaDoorSvGoodR
set_option linter.unusedVariables false
set_option linter.unusedSimpArgs false
namespace Go.Proofs.YtknjengnipidoaaDoor
open Go.RowKit

theorem goodOne_at (a b c : Int) (p m : ByteArray) (hp : p.size ≤ 2147483647) (hm : m.size ≤ 2147483647) {v : Bool} (hv : verOk ⟨a, b, c, p, m⟩ = v) (W : World) (g k : Nat) (h0 : W.cell? ⟨g, 0, none⟩ = some (.int .u64 a)) (h1 : W.cell? ⟨g, 1, none⟩ = some (.int .u64 b)) (h2 : W.cell? ⟨g, 2, none⟩ = some (.int .u64 c)) (h3 : W.cell? ⟨g, 3, none⟩ = some (.string p)) (h4 : W.cell? ⟨g, 4, none⟩ = some (.string m)) :
    Calls Tryd.prog 14 #[.slice (some ⟨g, 0, none⟩) 1 k] W fun e w' => e = .returned (.bool v) ∧ Below W.heap.size W w' := by
  have hst : VersAt W g [⟨a, b, c, p, m⟩] := fun i x hx => by
    match i, hx with
    | 0, hx =>
      obtain rfl := Option.some.inj hx
      exact ⟨h0, h1, h2, h3, h4⟩
  have := svGood_any [⟨a, b, c, p, m⟩] g k W (by simp) hst (by simp; exact ⟨hp, hm⟩)
  rw [show [(⟨a, b, c, p, m⟩ : Ver)].all verOk = v by simpa using hv] at this
  exact this

theorem inc_unfit (a b c : Int) (p m : ByteArray) (w : World) (hF : ∀ w, Calls Tryd.prog 11 #[.agg (scells a b c p m)] w fun e w' => e = .returned (.bool false) ∧ Below w.heap.size w w') : Calls Tryd.prog 6 #[.agg (scells a b c p m)] w fun e w' => e = .returned (.bool true) ∧ Below w.heap.size w w' := by
  go_enter Tryd.func6, Tryd.ntmps6
  go_wp2_with (go_at_call 11; refine (hF _).mono ?_; rintro e w1 ⟨rfl, hb⟩; replace hb := hid hb)
  go_ret
  exact ⟨rfl, btx (by go_grown) hb.out⟩

set_option maxHeartbeats 8000000 in
set_option maxRecDepth 100000 in
theorem inc_bad (a b c : Int) (p m : ByteArray) (w : World) (hF : ∀ w, Calls Tryd.prog 11 #[.agg (scells a b c p m)] w fun e w' => e = .returned (.bool true) ∧ Below w.heap.size w w') (HG : Hid (∀ (W : World) (g k : Nat), W.cell? ⟨g, 0, none⟩ = some (.int .u64 a) → W.cell? ⟨g, 1, none⟩ = some (.int .u64 b) → W.cell? ⟨g, 2, none⟩ = some (.int .u64 c) → W.cell? ⟨g, 3, none⟩ = some (.string p) → W.cell? ⟨g, 4, none⟩ = some (.string m) → Calls Tryd.prog 14 #[.slice (some ⟨g, 0, none⟩) 1 k] W fun e w' => e = .returned (.bool false) ∧ Below W.heap.size W w')) : Calls Tryd.prog 6 #[.agg (scells a b c p m)] w fun e w' => e = .returned (.bool true) ∧ Below w.heap.size w w' := by
  go_enter Tryd.func6, Tryd.ntmps6
  go_wp2_with fail
  go_at_call 11
  refine (hF _).mono ?_
  rintro e w1 ⟨rfl, hb⟩
  have Q := hid ((Blk.new w 27 (scells a b c p m)).below hb)
  have B := hid (btx ((Below.refl _ _).alloc (Nat.le_refl _) _) hb)
  have hz := Q.out.lt
  clear hb
  have x0 : w1.cell? ⟨w.heap.size, 0, none⟩ = some (.int .u64 a) := Q.out.cell 0
  have x1 : w1.cell? ⟨w.heap.size, 1, none⟩ = some (.int .u64 b) := Q.out.cell 1
  have x2 : w1.cell? ⟨w.heap.size, 2, none⟩ = some (.int .u64 c) := Q.out.cell 2
  have x3 : w1.cell? ⟨w.heap.size, 3, none⟩ = some (.string p) := Q.out.cell 3
  have x4 : w1.cell? ⟨w.heap.size, 4, none⟩ = some (.string m) := Q.out.cell 4
  go_wp2_with fail
  first | go_region_with (first | (go_at_call 14; refine (HG.out _ _ _ (by simp [go_sem]) (by simp [go_sem]) (by simp [go_sem]) (by simp [go_sem]) (by simp [go_sem])).mono ?_; rintro e wG ⟨rfl, hbG⟩; have QG := hid (Blk.below (by first | exact QG.out | exact Q.out.alloc _) hbG); have BG := hid (bel_of hbG (by first | exact BG.out | exact btx B.out (by go_grown))); have yG0 : wG.cell? ⟨w.heap.size, 0, none⟩ = some (.int .u64 a) := QG.out.cell 0; have yG1 : wG.cell? ⟨w.heap.size, 1, none⟩ = some (.int .u64 b) := QG.out.cell 1; have yG2 : wG.cell? ⟨w.heap.size, 2, none⟩ = some (.int .u64 c) := QG.out.cell 2; have yG3 : wG.cell? ⟨w.heap.size, 3, none⟩ = some (.string p) := QG.out.cell 3; have yG4 : wG.cell? ⟨w.heap.size, 4, none⟩ = some (.string m) := QG.out.cell 4; clear hbG)) | fail
  all_goals
    go_wp2_with fail
    go_ret
    first | exact ⟨rfl, BS.out⟩ | exact ⟨rfl, BI.out⟩ | exact ⟨rfl, BG.out⟩ | exact ⟨ret_b (by simp), BS.out⟩ | exact ⟨ret_b (by simp), BI.out⟩

set_option maxHeartbeats 8000000 in
set_option maxRecDepth 100000 in
theorem inc_top (a b c : Int) (p m : ByteArray) (w : World) (hF : ∀ w, Calls Tryd.prog 11 #[.agg (scells a b c p m)] w fun e w' => e = .returned (.bool true) ∧ Below w.heap.size w w') (HG : Hid (∀ (W : World) (g k : Nat), W.cell? ⟨g, 0, none⟩ = some (.int .u64 a) → W.cell? ⟨g, 1, none⟩ = some (.int .u64 b) → W.cell? ⟨g, 2, none⟩ = some (.int .u64 c) → W.cell? ⟨g, 3, none⟩ = some (.string p) → W.cell? ⟨g, 4, none⟩ = some (.string m) → Calls Tryd.prog 14 #[.slice (some ⟨g, 0, none⟩) 1 k] W fun e w' => e = .returned (.bool true) ∧ Below W.heap.size W w')) (h0 : (IntKind.u64.wrap (a + 1) == 0) = true) : Calls Tryd.prog 6 #[.agg (scells a b c p m)] w fun e w' => e = .returned (.bool true) ∧ Below w.heap.size w w' := by
  go_enter Tryd.func6, Tryd.ntmps6
  go_wp2_with fail
  go_at_call 11
  refine (hF _).mono ?_
  rintro e w1 ⟨rfl, hb⟩
  have Q := hid ((Blk.new w 27 (scells a b c p m)).below hb)
  have B := hid (btx ((Below.refl _ _).alloc (Nat.le_refl _) _) hb)
  have hz := Q.out.lt
  clear hb
  have x0 : w1.cell? ⟨w.heap.size, 0, none⟩ = some (.int .u64 a) := Q.out.cell 0
  have x1 : w1.cell? ⟨w.heap.size, 1, none⟩ = some (.int .u64 b) := Q.out.cell 1
  have x2 : w1.cell? ⟨w.heap.size, 2, none⟩ = some (.int .u64 c) := Q.out.cell 2
  have x3 : w1.cell? ⟨w.heap.size, 3, none⟩ = some (.string p) := Q.out.cell 3
  have x4 : w1.cell? ⟨w.heap.size, 4, none⟩ = some (.string m) := Q.out.cell 4
  go_wp2_with fail
  first | go_region_with (first | (go_at_call 14; refine (HG.out _ _ _ (by simp [go_sem]) (by simp [go_sem]) (by simp [go_sem]) (by simp [go_sem]) (by simp [go_sem])).mono ?_; rintro e wG ⟨rfl, hbG⟩; have QG := hid (Blk.below (by first | exact QG.out | exact Q.out.alloc _) hbG); have BG := hid (bel_of hbG (by first | exact BG.out | exact btx B.out (by go_grown))); have yG0 : wG.cell? ⟨w.heap.size, 0, none⟩ = some (.int .u64 a) := QG.out.cell 0; have yG1 : wG.cell? ⟨w.heap.size, 1, none⟩ = some (.int .u64 b) := QG.out.cell 1; have yG2 : wG.cell? ⟨w.heap.size, 2, none⟩ = some (.int .u64 c) := QG.out.cell 2; have yG3 : wG.cell? ⟨w.heap.size, 3, none⟩ = some (.string p) := QG.out.cell 3; have yG4 : wG.cell? ⟨w.heap.size, 4, none⟩ = some (.string m) := QG.out.cell 4; clear hbG)) | fail
  all_goals
    go_wp2_with fail
    go_ret
    first | exact ⟨rfl, BS.out⟩ | exact ⟨rfl, BI.out⟩ | exact ⟨rfl, BG.out⟩ | exact ⟨ret_b (by simp), BS.out⟩ | exact ⟨ret_b (by simp), BI.out⟩

set_option maxHeartbeats 8000000 in
set_option maxRecDepth 100000 in
theorem inc_good (a b c : Int) (p m : ByteArray) (w : World) (hF : ∀ w, Calls Tryd.prog 11 #[.agg (scells a b c p m)] w fun e w' => e = .returned (.bool true) ∧ Below w.heap.size w w') (HG : Hid (∀ (W : World) (g k : Nat), W.cell? ⟨g, 0, none⟩ = some (.int .u64 a) → W.cell? ⟨g, 1, none⟩ = some (.int .u64 b) → W.cell? ⟨g, 2, none⟩ = some (.int .u64 c) → W.cell? ⟨g, 3, none⟩ = some (.string p) → W.cell? ⟨g, 4, none⟩ = some (.string m) → Calls Tryd.prog 14 #[.slice (some ⟨g, 0, none⟩) 1 k] W fun e w' => e = .returned (.bool true) ∧ Below W.heap.size W w')) (n : Nat) (h1 : IntKind.u64.wrap (a + 1) = (n : Int)) (h0 : ((n : Int) == 0) = false) (HI : Hid (∀ w, Tab w → Calls Tryd.prog 15 #[.agg (scells a b c p m)] w fun e w' => e = .returned (.agg (scells n 0 0 ByteArray.empty ByteArray.empty)) ∧ Below w.heap.size w w')) (HS : Hid (∀ w, Calls Tryd.prog 16 #[.agg (scells a b c p m)] w fun e w' => e = .returned (.agg (scells n 0 0 ByteArray.empty ByteArray.empty)) ∧ Below w.heap.size w w')) (ht : Tab w) : Calls Tryd.prog 6 #[.agg (scells a b c p m)] w fun e w' => e = .returned (.bool true) ∧ Below w.heap.size w w' := by
  go_enter Tryd.func6, Tryd.ntmps6
  go_wp2_with fail
  go_at_call 11
  refine (hF _).mono ?_
  rintro e w1 ⟨rfl, hb⟩
  have Q := hid ((Blk.new w 27 (scells a b c p m)).below hb)
  have B := hid (btx ((Below.refl _ _).alloc (Nat.le_refl _) _) hb)
  have hz := Q.out.lt
  clear hb
  have HT := hid (tab_below ht B.out)
  clear ht
  have x0 : w1.cell? ⟨w.heap.size, 0, none⟩ = some (.int .u64 a) := Q.out.cell 0
  have x1 : w1.cell? ⟨w.heap.size, 1, none⟩ = some (.int .u64 b) := Q.out.cell 1
  have x2 : w1.cell? ⟨w.heap.size, 2, none⟩ = some (.int .u64 c) := Q.out.cell 2
  have x3 : w1.cell? ⟨w.heap.size, 3, none⟩ = some (.string p) := Q.out.cell 3
  have x4 : w1.cell? ⟨w.heap.size, 4, none⟩ = some (.string m) := Q.out.cell 4
  go_wp2_with fail
  first | go_region_with (first | (go_at_call 14; refine (HG.out _ _ _ (by simp [go_sem]) (by simp [go_sem]) (by simp [go_sem]) (by simp [go_sem]) (by simp [go_sem])).mono ?_; rintro e wG ⟨rfl, hbG⟩; have QG := hid (Blk.below (by first | exact QG.out | exact Q.out.alloc _) hbG); have BG := hid (bel_of hbG (by first | exact BG.out | exact btx B.out (by go_grown))); replace HT := hid (tab_below (by first | exact HT.out | exact tab_below HT.out (by go_grown)) hbG); have yG0 : wG.cell? ⟨w.heap.size, 0, none⟩ = some (.int .u64 a) := QG.out.cell 0; have yG1 : wG.cell? ⟨w.heap.size, 1, none⟩ = some (.int .u64 b) := QG.out.cell 1; have yG2 : wG.cell? ⟨w.heap.size, 2, none⟩ = some (.int .u64 c) := QG.out.cell 2; have yG3 : wG.cell? ⟨w.heap.size, 3, none⟩ = some (.string p) := QG.out.cell 3; have yG4 : wG.cell? ⟨w.heap.size, 4, none⟩ = some (.string m) := QG.out.cell 4; clear hbG) | (go_at_call 15; refine (HI.out _ (by first | exact HT.out | exact tab_below HT.out (by go_grown))).mono ?_; rintro e wI ⟨rfl, hbI⟩; have QI := hid (Blk.below (by first | exact QS.out | exact QG.out | exact Q.out.alloc _) hbI); have BI := hid (bel_of hbI (by first | exact BS.out | exact BG.out | exact btx B.out (by go_grown))); replace HT := hid (tab_below (by first | exact HT.out | exact tab_below HT.out (by go_grown)) hbI); have yI0 : wI.cell? ⟨w.heap.size, 0, none⟩ = some (.int .u64 a) := QI.out.cell 0; have yI1 : wI.cell? ⟨w.heap.size, 1, none⟩ = some (.int .u64 b) := QI.out.cell 1; have yI2 : wI.cell? ⟨w.heap.size, 2, none⟩ = some (.int .u64 c) := QI.out.cell 2; have yI3 : wI.cell? ⟨w.heap.size, 3, none⟩ = some (.string p) := QI.out.cell 3; have yI4 : wI.cell? ⟨w.heap.size, 4, none⟩ = some (.string m) := QI.out.cell 4; clear hbI) | (go_at_call 16; refine (HS.out _).mono ?_; rintro e wS ⟨rfl, hbS⟩; have QS := hid (Blk.below (by first | exact QI.out | exact QG.out | exact Q.out.alloc _) hbS); have BS := hid (bel_of hbS (by first | exact BI.out | exact BG.out | exact btx B.out (by go_grown))); replace HT := hid (tab_below (by first | exact HT.out | exact tab_below HT.out (by go_grown)) hbS); have yS0 : wS.cell? ⟨w.heap.size, 0, none⟩ = some (.int .u64 a) := QS.out.cell 0; have yS1 : wS.cell? ⟨w.heap.size, 1, none⟩ = some (.int .u64 b) := QS.out.cell 1; have yS2 : wS.cell? ⟨w.heap.size, 2, none⟩ = some (.int .u64 c) := QS.out.cell 2; have yS3 : wS.cell? ⟨w.heap.size, 3, none⟩ = some (.string p) := QS.out.cell 3; have yS4 : wS.cell? ⟨w.heap.size, 4, none⟩ = some (.string m) := QS.out.cell 4; clear hbS)) | fail
  all_goals
    go_wp2_with fail
    go_ret
    first | exact ⟨rfl, BS.out⟩ | exact ⟨rfl, BI.out⟩ | exact ⟨rfl, BG.out⟩ | exact ⟨ret_b (by simp), BS.out⟩ | exact ⟨ret_b (by simp), BI.out⟩

theorem fnSemverIncMajor_walk (a b c : Int) (p m : ByteArray) (w : World) (wa : (Lit.int .u64 a).wf = true) (wb : (Lit.int .u64 b).wf = true) (wc : (Lit.int .u64 c).wf = true) (hp : p.size ≤ maxLen) (hm : m.size ≤ maxLen) (ht : Tab w) :
    Calls Tryd.prog 6 #[.agg #[.int .u64 a, .int .u64 b, .int .u64 c, .string p, .string m]] w fun e w' => e = .returned (.bool true) ∧ Below w.heap.size w w' := by
  have ba := wf_u64 wa
  cases hf : (decide (p.size ≤ 2147483647) && decide (m.size ≤ 2147483647))
  · exact inc_unfit a b c p m w (fun w => by have := fits14_any a b c p m w hp hm; rw [hf] at this; exact this)
  have hF : ∀ w, Calls Tryd.prog 11 #[.agg (scells a b c p m)] w fun e w' => e = .returned (.bool true) ∧ Below w.heap.size w w' := fun w => by have := fits14_any a b c p m w hp hm; rw [hf] at this; exact this
  have hz : p.size ≤ 2147483647 ∧ m.size ≤ 2147483647 := by simpa using hf
  cases hg : verOk ⟨a, b, c, p, m⟩
  · exact inc_bad a b c p m w hF (hid (goodOne_at a b c p m hz.1 hz.2 hg))
  by_cases ht0 : a = 18446744073709551615
  · exact inc_top a b c p m w hF (hid (goodOne_at a b c p m hz.1 hz.2 hg)) (by rw [ht0]; rfl)
  obtain ⟨x, rfl⟩ : ∃ x : Nat, a = x := ⟨a.toNat, by omega⟩
  exact inc_good x b c p m w hF (hid (goodOne_at x b c p m hz.1 hz.2 hg)) (x + 1) (by rw [IntWalk.u64_in _ (by omega)]; omega) (by rw [beq_eq_false_iff_ne]; omega)
    (hid fun w h => implInc_any x (x + 1) b c p m w rfl (by omega) h) (hid fun w => specInc_any x (x + 1) b c p m w rfl (by omega)) ht
end Go.Proofs.YtknjengnipidoaaDoor
