/- The law FnSemverPrints: a version prints as its numbers, its prerelease and its metadata. Joined. -/
import Derived.Test.YtknjengnipidoaaDoorText
import Derived.Test.YtknjengnipidoaaDoorShort
set_option linter.unusedVariables false
set_option linter.unusedSimpArgs false
namespace Go.Proofs.YtknjengnipidoaaDoor
open Go.RowKit

theorem implText_any (a b c : Int) (p m T : ByteArray) (w : World) (hT : ∀ w, Tab w → Calls Tryd.prog 23 #[.agg (vcells a b c p m)] w fun e w' => e = .returned (.string T) ∧ Below w.heap.size w w') (ht : Tab w) :
    Calls Tryd.prog 12 #[.agg (scells a b c p m)] w fun e w' => e = .returned (.string T) ∧ Below w.heap.size w w' := by
  have HT := hid ht
  have HS := hid hT
  clear ht hT
  go_enter Tryd.func12, Tryd.ntmps12
  go_wp2_with (first | (go_at_call 22; refine (version_any a b c p m _).mono ?_; rintro e w1 ⟨rfl, rfl⟩) | (go_at_call 23; refine (HS.out _ (tab_below HT.out (by go_grown))).mono ?_; rintro e w2 ⟨rfl, hb⟩; replace hb := hid hb))
  go_ret
  exact ⟨rfl, bel_of hb.out (by go_grown)⟩

theorem strs_two_at {W : World} {g : Nat} {s u : ByteArray} (h0 : W.cell? ⟨g, 0, none⟩ = some (.string s)) (h1 : W.cell? ⟨g, 1, none⟩ = some (.string u)) : StrsAt W g [s, u] := fun i x hx => by
  match i, hx with
  | 0, hx => simp at hx; subst hx; exact h0
  | 1, hx => simp at hx; subst hx; exact h1
  | i + 2, hx => simp at hx
theorem shortTwo_at (s u : ByteArray) (hs : s.size ≤ 2147483647) (hu : u.size ≤ 2147483647) {v : Bool} (hv : (short s && short u) = v) (W : World) (g c : Nat) (h0 : W.cell? ⟨g, 0, none⟩ = some (.string s)) (h1 : W.cell? ⟨g, 1, none⟩ = some (.string u)) :
    Calls Tryd.prog 7 #[.slice (some ⟨g, 0, none⟩) 2 c] W fun e w' => e = .returned (.bool v) ∧ W = w' := by
  have := svShort_any [s, u] g c W (by simp) (strs_two_at h0 h1) (by simp; omega)
  rw [show [s, u].all short = v by simpa using hv] at this
  exact this

theorem prints_unfit (a b c : Int) (p m : ByteArray) (w : World) (hF : ∀ w, Calls Tryd.prog 11 #[.agg (scells a b c p m)] w fun e w' => e = .returned (.bool false) ∧ Below w.heap.size w w') : Calls Tryd.prog 5 #[.agg (scells a b c p m)] w fun e w' => e = .returned (.bool true) ∧ Below w.heap.size w w' := by
  go_enter Tryd.func5, Tryd.ntmps5
  go_wp2_with (go_at_call 11; refine (hF _).mono ?_; rintro e w1 ⟨rfl, hb⟩; replace hb := hid hb)
  go_ret
  exact ⟨rfl, bel_of hb.out (by go_grown)⟩

set_option maxHeartbeats 4000000 in
set_option maxRecDepth 100000 in
theorem prints_long (a b c : Int) (p m : ByteArray) (w : World) (hF : ∀ w, Calls Tryd.prog 11 #[.agg (scells a b c p m)] w fun e w' => e = .returned (.bool true) ∧ Below w.heap.size w w') (HSH : Hid (∀ (W : World) (g k : Nat), W.cell? ⟨g, 0, none⟩ = some (.string p) → W.cell? ⟨g, 1, none⟩ = some (.string m) → Calls Tryd.prog 7 #[.slice (some ⟨g, 0, none⟩) 2 k] W fun e w' => e = .returned (.bool false) ∧ W = w')) : Calls Tryd.prog 5 #[.agg (scells a b c p m)] w fun e w' => e = .returned (.bool true) ∧ Below w.heap.size w w' := by
  go_enter Tryd.func5, Tryd.ntmps5
  go_wp2_with fail
  go_at_call 11
  refine (hF _).mono ?_
  rintro e w1 ⟨rfl, hb⟩
  have Q := hid ((Blk.new w 27 (scells a b c p m)).below hb)
  have B := hid (btx ((Below.refl _ _).alloc (Nat.le_refl _) _) hb)
  have hz := Q.out.lt
  clear hb
  have x0 : w1.cell? ⟨w.heap.size, 0, none⟩ = some (.int .u64 a) := Q.out.cell 0
  have x1 : w1.cell? ⟨w.heap.size, 1, none⟩ = some (.int .u64 b) := Q.out.cell 1
  have x2 : w1.cell? ⟨w.heap.size, 2, none⟩ = some (.int .u64 c) := Q.out.cell 2
  have x3 : w1.cell? ⟨w.heap.size, 3, none⟩ = some (.string p) := Q.out.cell 3
  have x4 : w1.cell? ⟨w.heap.size, 4, none⟩ = some (.string m) := Q.out.cell 4
  go_wp2_with fail
  first | go_region_with (first | (go_at_call 7; refine (HSH.out _ _ _ (by simp [go_sem]) (by simp [go_sem])).mono ?_; rintro e w' ⟨rfl, rfl⟩)) | fail
  all_goals
    go_wp2_with fail
    go_ret
    first | exact ⟨rfl, BS.out⟩ | exact ⟨rfl, BI.out⟩ | exact ⟨rfl, btx B.out (by go_grown)⟩

set_option maxHeartbeats 4000000 in
set_option maxRecDepth 100000 in
theorem prints_short (a b c : Int) (p m : ByteArray) (w : World) (hF : ∀ w, Calls Tryd.prog 11 #[.agg (scells a b c p m)] w fun e w' => e = .returned (.bool true) ∧ Below w.heap.size w w') (HSH : Hid (∀ (W : World) (g k : Nat), W.cell? ⟨g, 0, none⟩ = some (.string p) → W.cell? ⟨g, 1, none⟩ = some (.string m) → Calls Tryd.prog 7 #[.slice (some ⟨g, 0, none⟩) 2 k] W fun e w' => e = .returned (.bool true) ∧ W = w')) (T : ByteArray) (HI : Hid (∀ w, Tab w → Calls Tryd.prog 12 #[.agg (scells a b c p m)] w fun e w' => e = .returned (.string T) ∧ Below w.heap.size w w')) (HS : Hid (∀ w, Calls Tryd.prog 13 #[.agg (scells a b c p m)] w fun e w' => e = .returned (.string T) ∧ Below w.heap.size w w')) (ht : Tab w) : Calls Tryd.prog 5 #[.agg (scells a b c p m)] w fun e w' => e = .returned (.bool true) ∧ Below w.heap.size w w' := by
  go_enter Tryd.func5, Tryd.ntmps5
  go_wp2_with fail
  go_at_call 11
  refine (hF _).mono ?_
  rintro e w1 ⟨rfl, hb⟩
  have Q := hid ((Blk.new w 27 (scells a b c p m)).below hb)
  have B := hid (btx ((Below.refl _ _).alloc (Nat.le_refl _) _) hb)
  have hz := Q.out.lt
  clear hb
  have HT := hid (tab_below ht B.out)
  clear ht
  have x0 : w1.cell? ⟨w.heap.size, 0, none⟩ = some (.int .u64 a) := Q.out.cell 0
  have x1 : w1.cell? ⟨w.heap.size, 1, none⟩ = some (.int .u64 b) := Q.out.cell 1
  have x2 : w1.cell? ⟨w.heap.size, 2, none⟩ = some (.int .u64 c) := Q.out.cell 2
  have x3 : w1.cell? ⟨w.heap.size, 3, none⟩ = some (.string p) := Q.out.cell 3
  have x4 : w1.cell? ⟨w.heap.size, 4, none⟩ = some (.string m) := Q.out.cell 4
  go_wp2_with fail
  first | go_region_with (first | (go_at_call 7; refine (HSH.out _ _ _ (by simp [go_sem]) (by simp [go_sem])).mono ?_; rintro e w' ⟨rfl, rfl⟩) | (go_at_call 12; refine (HI.out _ (by first | exact HT.out | exact tab_below HT.out (by go_grown))).mono ?_; rintro e wI ⟨rfl, hbI⟩; have QI := hid (Blk.below (by first | exact QS.out | exact Q.out.alloc _) hbI); have BI := hid (bel_of hbI (by first | exact BS.out | exact btx B.out (by go_grown))); replace HT := hid (tab_below (by first | exact HT.out | exact tab_below HT.out (by go_grown)) hbI); have yI0 : wI.cell? ⟨w.heap.size, 0, none⟩ = some (.int .u64 a) := QI.out.cell 0; have yI1 : wI.cell? ⟨w.heap.size, 1, none⟩ = some (.int .u64 b) := QI.out.cell 1; have yI2 : wI.cell? ⟨w.heap.size, 2, none⟩ = some (.int .u64 c) := QI.out.cell 2; have yI3 : wI.cell? ⟨w.heap.size, 3, none⟩ = some (.string p) := QI.out.cell 3; have yI4 : wI.cell? ⟨w.heap.size, 4, none⟩ = some (.string m) := QI.out.cell 4; clear hbI) | (go_at_call 13; refine (HS.out _).mono ?_; rintro e wS ⟨rfl, hbS⟩; have QS := hid (Blk.below (by first | exact QI.out | exact Q.out.alloc _) hbS); have BS := hid (bel_of hbS (by first | exact BI.out | exact btx B.out (by go_grown))); replace HT := hid (tab_below (by first | exact HT.out | exact tab_below HT.out (by go_grown)) hbS); have yS0 : wS.cell? ⟨w.heap.size, 0, none⟩ = some (.int .u64 a) := QS.out.cell 0; have yS1 : wS.cell? ⟨w.heap.size, 1, none⟩ = some (.int .u64 b) := QS.out.cell 1; have yS2 : wS.cell? ⟨w.heap.size, 2, none⟩ = some (.int .u64 c) := QS.out.cell 2; have yS3 : wS.cell? ⟨w.heap.size, 3, none⟩ = some (.string p) := QS.out.cell 3; have yS4 : wS.cell? ⟨w.heap.size, 4, none⟩ = some (.string m) := QS.out.cell 4; clear hbS)) | fail
  all_goals
    go_wp2_with fail
    go_ret
    first | exact ⟨rfl, BS.out⟩ | exact ⟨rfl, BI.out⟩ | exact ⟨rfl, btx B.out (by go_grown)⟩

theorem fnSemverPrints_walk (a b c : Int) (p m : ByteArray) (w : World) (wa : (Lit.int .u64 a).wf = true) (wb : (Lit.int .u64 b).wf = true) (wc : (Lit.int .u64 c).wf = true) (hp : p.size ≤ maxLen) (hm : m.size ≤ maxLen) (ht : Tab w) :
    Calls Tryd.prog 5 #[.agg #[.int .u64 a, .int .u64 b, .int .u64 c, .string p, .string m]] w fun e w' => e = .returned (.bool true) ∧ Below w.heap.size w w' := by
  have ba := wf_u64 wa
  have bb := wf_u64 wb
  have bc := wf_u64 wc
  cases hf : (decide (p.size ≤ 2147483647) && decide (m.size ≤ 2147483647))
  · exact prints_unfit a b c p m w (fun w => by have := fits14_any a b c p m w hp hm; rw [hf] at this; exact this)
  have hF : ∀ w, Calls Tryd.prog 11 #[.agg (scells a b c p m)] w fun e w' => e = .returned (.bool true) ∧ Below w.heap.size w w' := fun w => by have := fits14_any a b c p m w hp hm; rw [hf] at this; exact this
  have hz : p.size ≤ 2147483647 ∧ m.size ≤ 2147483647 := by simpa using hf
  cases hs : (short p && short m)
  · exact prints_long a b c p m w hF (hid (shortTwo_at p m hz.1 hz.2 hs))
  obtain ⟨x, rfl⟩ : ∃ x : Nat, a = x := ⟨a.toNat, by omega⟩
  obtain ⟨y, rfl⟩ : ∃ x : Nat, b = x := ⟨b.toNat, by omega⟩
  obtain ⟨z, rfl⟩ : ∃ x : Nat, c = x := ⟨c.toNat, by omega⟩
  exact prints_short x y z p m w hF (hid (shortTwo_at p m hz.1 hz.2 hs)) _ (hid fun w h => implText_any x y z p m _ w (fun w h => string_any x y z p m w (by omega) (by omega) (by omega) hz.1 hz.2 h) h) (hid fun w => specText_any x y z p m w (by omega) (by omega) (by omega) hz.1 hz.2) ht
end Go.Proofs.YtknjengnipidoaaDoor
