/- The references' package's splitting of a familiar name into a domain and a rest, walked: one theorem for each way through. -/
import Derived.Test.YtknjengnipidoaaLower
set_option linter.unusedVariables false
set_option linter.unusedSimpArgs false
namespace Go.Proofs.Ytknjengnipidoaa
open Go.RowKit

def dkB : ByteArray := ⟨#[100, 111, 99, 107, 101, 114, 46, 105, 111]⟩
def libB : ByteArray := ⟨#[108, 105, 98, 114, 97, 114, 121, 47]⟩
def hasPt (x : ByteArray) : Bool := decide (0 ≤ Lib.idxFunc isPt true x)
def hasSl (x : ByteArray) : Bool := decide (0 ≤ Lib.idxFunc isSl true x)
/-- What is left of a rest in the default domain. -/
def rem (x : ByteArray) : ByteArray := if hasSl x then x else libB ++ x

theorem cany_at (x : ByteArray) {b : Bool} (h : hasPt x = b) (w : World) : Calls Try.prog 37 #[.string x, .string ⟨#[46, 58]⟩] w fun e w' => e = .returned (.bool b) ∧ Below w.heap.size w w' := by
  have := cany_any x w
  rw [show decide (0 ≤ Lib.idxFunc isPt true x) = b from h] at this
  exact this
theorem crune_at (x : ByteArray) {b : Bool} (h : hasSl x = b) (w : World) : Calls Try.prog 39 #[.string x, .int .i32 47] w fun e w' => e = .returned (.bool b) ∧ Below w.heap.size w w' := by
  have := crune_any x w
  rw [show decide (0 ≤ Lib.idxFunc isSl true x) = b from h] at this
  exact this
theorem rem_yes {x : ByteArray} (h : hasSl x = true) : rem x = x := by unfold rem; rw [if_pos h]
theorem rem_no {x : ByteArray} (h : hasSl x = false) : rem x = libB ++ x := by unfold rem; rw [h]; rfl
theorem ret_pair {a b c d : ByteArray} (h : a = c) (k : b = d) : Ending.returned (.tuple #[.string a, .string b]) = .returned (.tuple #[.string c, .string d]) := by rw [h, k]

set_option maxHeartbeats 800000 in
set_option maxRecDepth 100000 in
theorem sd_none (s : ByteArray) (w : World) (hs : s.size ≤ 65536) (hF : Fst 47 s (-1)) : Calls Try.prog 33 #[.string s] w fun e w' => e = .returned (.tuple #[.string dkB, .string (libB ++ s)]) ∧ Below w.heap.size w w' := by
  have HS := hid (show s.size ≤ 2147483647 by omega)
  have HF := hid hF
  clear hF
  have c1 : ¬ 9223372036854775807 < 8 + s.size := by omega
  clear hs
  go_enter Try.func33, Try.ntmps33
  go_wp2_with (first | (go_at_call 36; refine (rcut_none s _ HS.out HF.out).mono ?_; rintro e w1 ⟨rfl, rfl⟩))
  go_returns
  exact ⟨rfl, by go_grown⟩

set_option maxHeartbeats 800000 in
set_option maxRecDepth 100000 in
theorem sd_local (s : ByteArray) (w : World) (hs : s.size ≤ 65536) (k : Nat) (hF : Fst 47 s k) (D R : ByteArray) (hD : s.extract 0 k = D) (hR : s.extract (k + 1) s.size = R) (e1 : ((D.toList == [108, 111, 99, 97, 108, 104, 111, 115, 116]) = true)) (e2 : ((D.toList == [100, 111, 99, 107, 101, 114, 46, 105, 111]) = false)) : Calls Try.prog 33 #[.string s] w fun e w' => e = .returned (.tuple #[.string D, .string R]) ∧ Below w.heap.size w w' := by
  have HS := hid (show s.size ≤ 2147483647 by omega)
  have HF := hid hF
  clear hF
  have hds : D.size ≤ 65536 := by rw [← hD, ByteArray.size_extract]; omega
  have HDS := hid hds
  have hrs : R.size ≤ 65536 := by rw [← hR, ByteArray.size_extract]; omega
  have c1 : ¬ 9223372036854775807 < 8 + R.size := by omega
  have c2 : ¬ 9223372036854775807 < 8 + s.size := by omega
  clear hds hrs hs
  go_enter Try.func33, Try.ntmps33
  go_wp2_with (first | (go_at_call 36; refine (rcut_some s k _ HS.out HF.out).mono ?_; rintro e w1 ⟨rfl, rfl⟩))
  go_returns
  exact ⟨rfl, by go_grown⟩

set_option maxHeartbeats 800000 in
set_option maxRecDepth 100000 in
theorem sd_old_true (s : ByteArray) (w : World) (hs : s.size ≤ 65536) (k : Nat) (hF : Fst 47 s k) (D R : ByteArray) (hD : s.extract 0 k = D) (hR : s.extract (k + 1) s.size = R) (e1 : ((D.toList == [108, 111, 99, 97, 108, 104, 111, 115, 116]) = false)) (e2 : ((D.toList == [105, 110, 100, 101, 120, 46, 100, 111, 99, 107, 101, 114, 46, 105, 111]) = true)) (hx : hasSl R = true) : Calls Try.prog 33 #[.string s] w fun e w' => e = .returned (.tuple #[.string dkB, .string R]) ∧ Below w.heap.size w w' := by
  have HS := hid (show s.size ≤ 2147483647 by omega)
  have HF := hid hF
  clear hF
  have hds : D.size ≤ 65536 := by rw [← hD, ByteArray.size_extract]; omega
  have HDS := hid hds
  have hrs : R.size ≤ 65536 := by rw [← hR, ByteArray.size_extract]; omega
  have c1 : ¬ 9223372036854775807 < 8 + R.size := by omega
  have c2 : ¬ 9223372036854775807 < 8 + s.size := by omega
  clear hds hrs hs
  have HX := hid hx
  clear hx
  go_enter Try.func33, Try.ntmps33
  go_wp2_with (first | (go_at_call 36; refine (rcut_some s k _ HS.out HF.out).mono ?_; rintro e w1 ⟨rfl, rfl⟩) | (go_at_call 39; refine (crune_at R HX.out _).mono ?_; rintro e w4 ⟨rfl, hb4⟩; replace hb4 := hid hb4))
  go_returns
  exact ⟨rfl, (Below.refl _ _).drew.trans hb4.out⟩

set_option maxHeartbeats 800000 in
set_option maxRecDepth 100000 in
theorem sd_old_false (s : ByteArray) (w : World) (hs : s.size ≤ 65536) (k : Nat) (hF : Fst 47 s k) (D R : ByteArray) (hD : s.extract 0 k = D) (hR : s.extract (k + 1) s.size = R) (e1 : ((D.toList == [108, 111, 99, 97, 108, 104, 111, 115, 116]) = false)) (e2 : ((D.toList == [105, 110, 100, 101, 120, 46, 100, 111, 99, 107, 101, 114, 46, 105, 111]) = true)) (hx : hasSl R = false) : Calls Try.prog 33 #[.string s] w fun e w' => e = .returned (.tuple #[.string dkB, .string (libB ++ R)]) ∧ Below w.heap.size w w' := by
  have HS := hid (show s.size ≤ 2147483647 by omega)
  have HF := hid hF
  clear hF
  have hds : D.size ≤ 65536 := by rw [← hD, ByteArray.size_extract]; omega
  have HDS := hid hds
  have hrs : R.size ≤ 65536 := by rw [← hR, ByteArray.size_extract]; omega
  have c1 : ¬ 9223372036854775807 < 8 + R.size := by omega
  have c2 : ¬ 9223372036854775807 < 8 + s.size := by omega
  clear hds hrs hs
  have HX := hid hx
  clear hx
  go_enter Try.func33, Try.ntmps33
  go_wp2_with (first | (go_at_call 36; refine (rcut_some s k _ HS.out HF.out).mono ?_; rintro e w1 ⟨rfl, rfl⟩) | (go_at_call 39; refine (crune_at R HX.out _).mono ?_; rintro e w4 ⟨rfl, hb4⟩; replace hb4 := hid hb4))
  go_returns
  exact ⟨rfl, (Below.refl _ _).drew.trans hb4.out⟩

set_option maxHeartbeats 800000 in
set_option maxRecDepth 100000 in
theorem sd_point (s : ByteArray) (w : World) (hs : s.size ≤ 65536) (k : Nat) (hF : Fst 47 s k) (D R : ByteArray) (hD : s.extract 0 k = D) (hR : s.extract (k + 1) s.size = R) (e1 : ((D.toList == [108, 111, 99, 97, 108, 104, 111, 115, 116]) = false)) (e2 : ((D.toList == [105, 110, 100, 101, 120, 46, 100, 111, 99, 107, 101, 114, 46, 105, 111]) = false)) (e3 : ((D.toList == [100, 111, 99, 107, 101, 114, 46, 105, 111]) = false)) (hp : hasPt D = true) : Calls Try.prog 33 #[.string s] w fun e w' => e = .returned (.tuple #[.string D, .string R]) ∧ Below w.heap.size w w' := by
  have HS := hid (show s.size ≤ 2147483647 by omega)
  have HF := hid hF
  clear hF
  have hds : D.size ≤ 65536 := by rw [← hD, ByteArray.size_extract]; omega
  have HDS := hid hds
  have hrs : R.size ≤ 65536 := by rw [← hR, ByteArray.size_extract]; omega
  have c1 : ¬ 9223372036854775807 < 8 + R.size := by omega
  have c2 : ¬ 9223372036854775807 < 8 + s.size := by omega
  clear hds hrs hs
  have HP := hid hp
  clear hp
  go_enter Try.func33, Try.ntmps33
  go_wp2_with (first | (go_at_call 36; refine (rcut_some s k _ HS.out HF.out).mono ?_; rintro e w1 ⟨rfl, rfl⟩) | (go_at_call 37; refine (cany_at D HP.out _).mono ?_; rintro e w2 ⟨rfl, hb2⟩; replace hb2 := hid hb2))
  go_returns
  exact ⟨rfl, (Below.refl _ _).drew.trans hb2.out⟩

set_option maxHeartbeats 800000 in
set_option maxRecDepth 100000 in
theorem sd_hub_true (s : ByteArray) (w : World) (hs : s.size ≤ 65536) (k : Nat) (hF : Fst 47 s k) (D R : ByteArray) (hD : s.extract 0 k = D) (hR : s.extract (k + 1) s.size = R) (e1 : ((D.toList == [108, 111, 99, 97, 108, 104, 111, 115, 116]) = false)) (e2 : ((D.toList == [105, 110, 100, 101, 120, 46, 100, 111, 99, 107, 101, 114, 46, 105, 111]) = false)) (e3 : ((D.toList == [100, 111, 99, 107, 101, 114, 46, 105, 111]) = true)) (hp : hasPt D = true) (hx : hasSl R = true) : Calls Try.prog 33 #[.string s] w fun e w' => e = .returned (.tuple #[.string D, .string R]) ∧ Below w.heap.size w w' := by
  have HS := hid (show s.size ≤ 2147483647 by omega)
  have HF := hid hF
  clear hF
  have hds : D.size ≤ 65536 := by rw [← hD, ByteArray.size_extract]; omega
  have HDS := hid hds
  have hrs : R.size ≤ 65536 := by rw [← hR, ByteArray.size_extract]; omega
  have c1 : ¬ 9223372036854775807 < 8 + R.size := by omega
  have c2 : ¬ 9223372036854775807 < 8 + s.size := by omega
  clear hds hrs hs
  have HP := hid hp
  have HX := hid hx
  clear hp hx
  go_enter Try.func33, Try.ntmps33
  go_wp2_with (first | (go_at_call 36; refine (rcut_some s k _ HS.out HF.out).mono ?_; rintro e w1 ⟨rfl, rfl⟩) | (go_at_call 37; refine (cany_at D HP.out _).mono ?_; rintro e w2 ⟨rfl, hb2⟩; replace hb2 := hid hb2) | (go_at_call 39; refine (crune_at R HX.out _).mono ?_; rintro e w4 ⟨rfl, hb4⟩; replace hb4 := hid hb4))
  go_returns
  exact ⟨rfl, ((Below.refl _ _).drew.trans hb2.out).trans (hb4.out.mono hb2.out.size)⟩

set_option maxHeartbeats 800000 in
set_option maxRecDepth 100000 in
theorem sd_hub_false (s : ByteArray) (w : World) (hs : s.size ≤ 65536) (k : Nat) (hF : Fst 47 s k) (D R : ByteArray) (hD : s.extract 0 k = D) (hR : s.extract (k + 1) s.size = R) (e1 : ((D.toList == [108, 111, 99, 97, 108, 104, 111, 115, 116]) = false)) (e2 : ((D.toList == [105, 110, 100, 101, 120, 46, 100, 111, 99, 107, 101, 114, 46, 105, 111]) = false)) (e3 : ((D.toList == [100, 111, 99, 107, 101, 114, 46, 105, 111]) = true)) (hp : hasPt D = true) (hx : hasSl R = false) : Calls Try.prog 33 #[.string s] w fun e w' => e = .returned (.tuple #[.string D, .string (libB ++ R)]) ∧ Below w.heap.size w w' := by
  have HS := hid (show s.size ≤ 2147483647 by omega)
  have HF := hid hF
  clear hF
  have hds : D.size ≤ 65536 := by rw [← hD, ByteArray.size_extract]; omega
  have HDS := hid hds
  have hrs : R.size ≤ 65536 := by rw [← hR, ByteArray.size_extract]; omega
  have c1 : ¬ 9223372036854775807 < 8 + R.size := by omega
  have c2 : ¬ 9223372036854775807 < 8 + s.size := by omega
  clear hds hrs hs
  have HP := hid hp
  have HX := hid hx
  clear hp hx
  go_enter Try.func33, Try.ntmps33
  go_wp2_with (first | (go_at_call 36; refine (rcut_some s k _ HS.out HF.out).mono ?_; rintro e w1 ⟨rfl, rfl⟩) | (go_at_call 37; refine (cany_at D HP.out _).mono ?_; rintro e w2 ⟨rfl, hb2⟩; replace hb2 := hid hb2) | (go_at_call 39; refine (crune_at R HX.out _).mono ?_; rintro e w4 ⟨rfl, hb4⟩; replace hb4 := hid hb4))
  go_returns
  exact ⟨rfl, ((Below.refl _ _).drew.trans hb2.out).trans (hb4.out.mono hb2.out.size)⟩

set_option maxHeartbeats 800000 in
set_option maxRecDepth 100000 in
theorem sd_big (s : ByteArray) (w : World) (hs : s.size ≤ 65536) (k : Nat) (hF : Fst 47 s k) (D R : ByteArray) (hD : s.extract 0 k = D) (hR : s.extract (k + 1) s.size = R) (e1 : ((D.toList == [108, 111, 99, 97, 108, 104, 111, 115, 116]) = false)) (e2 : ((D.toList == [105, 110, 100, 101, 120, 46, 100, 111, 99, 107, 101, 114, 46, 105, 111]) = false)) (e3 : ((D.toList == [100, 111, 99, 107, 101, 114, 46, 105, 111]) = false)) (hp : hasPt D = false) (hl : ((low D).toList == D.toList) = false) : Calls Try.prog 33 #[.string s] w fun e w' => e = .returned (.tuple #[.string D, .string R]) ∧ Below w.heap.size w w' := by
  have HS := hid (show s.size ≤ 2147483647 by omega)
  have HF := hid hF
  clear hF
  have hds : D.size ≤ 65536 := by rw [← hD, ByteArray.size_extract]; omega
  have HDS := hid hds
  have hrs : R.size ≤ 65536 := by rw [← hR, ByteArray.size_extract]; omega
  have c1 : ¬ 9223372036854775807 < 8 + R.size := by omega
  have c2 : ¬ 9223372036854775807 < 8 + s.size := by omega
  clear hds hrs hs
  have HP := hid hp
  clear hp
  go_enter Try.func33, Try.ntmps33
  go_wp2_with (first | (go_at_call 36; refine (rcut_some s k _ HS.out HF.out).mono ?_; rintro e w1 ⟨rfl, rfl⟩) | (go_at_call 37; refine (cany_at D HP.out _).mono ?_; rintro e w2 ⟨rfl, hb2⟩; replace hb2 := hid hb2) | (go_at_call 38; refine (lower_any D _ HDS.out).mono ?_; rintro e w3 ⟨rfl, hb3⟩; replace hb3 := hid hb3))
  go_returns
  exact ⟨rfl, ((Below.refl _ _).drew.trans hb2.out).trans (hb3.out.mono hb2.out.size)⟩

set_option maxHeartbeats 800000 in
set_option maxRecDepth 100000 in
theorem sd_else_true (s : ByteArray) (w : World) (hs : s.size ≤ 65536) (k : Nat) (hF : Fst 47 s k) (D R : ByteArray) (hD : s.extract 0 k = D) (hR : s.extract (k + 1) s.size = R) (e1 : ((D.toList == [108, 111, 99, 97, 108, 104, 111, 115, 116]) = false)) (e2 : ((D.toList == [105, 110, 100, 101, 120, 46, 100, 111, 99, 107, 101, 114, 46, 105, 111]) = false)) (hp : hasPt D = false) (hl : ((low D).toList == D.toList) = true) (hx : hasSl s = true) : Calls Try.prog 33 #[.string s] w fun e w' => e = .returned (.tuple #[.string dkB, .string s]) ∧ Below w.heap.size w w' := by
  have HS := hid (show s.size ≤ 2147483647 by omega)
  have HF := hid hF
  clear hF
  have hds : D.size ≤ 65536 := by rw [← hD, ByteArray.size_extract]; omega
  have HDS := hid hds
  have hrs : R.size ≤ 65536 := by rw [← hR, ByteArray.size_extract]; omega
  have c1 : ¬ 9223372036854775807 < 8 + R.size := by omega
  have c2 : ¬ 9223372036854775807 < 8 + s.size := by omega
  clear hds hrs hs
  have HP := hid hp
  have HX := hid hx
  clear hp hx
  go_enter Try.func33, Try.ntmps33
  go_wp2_with (first | (go_at_call 36; refine (rcut_some s k _ HS.out HF.out).mono ?_; rintro e w1 ⟨rfl, rfl⟩) | (go_at_call 37; refine (cany_at D HP.out _).mono ?_; rintro e w2 ⟨rfl, hb2⟩; replace hb2 := hid hb2) | (go_at_call 38; refine (lower_any D _ HDS.out).mono ?_; rintro e w3 ⟨rfl, hb3⟩; replace hb3 := hid hb3) | (go_at_call 39; refine (crune_at s HX.out _).mono ?_; rintro e w4 ⟨rfl, hb4⟩; replace hb4 := hid hb4))
  go_returns
  exact ⟨rfl, (((Below.refl _ _).drew.trans hb2.out).trans (hb3.out.mono hb2.out.size)).trans (hb4.out.mono (Nat.le_trans hb2.out.size hb3.out.size))⟩

set_option maxHeartbeats 800000 in
set_option maxRecDepth 100000 in
theorem sd_else_false (s : ByteArray) (w : World) (hs : s.size ≤ 65536) (k : Nat) (hF : Fst 47 s k) (D R : ByteArray) (hD : s.extract 0 k = D) (hR : s.extract (k + 1) s.size = R) (e1 : ((D.toList == [108, 111, 99, 97, 108, 104, 111, 115, 116]) = false)) (e2 : ((D.toList == [105, 110, 100, 101, 120, 46, 100, 111, 99, 107, 101, 114, 46, 105, 111]) = false)) (hp : hasPt D = false) (hl : ((low D).toList == D.toList) = true) (hx : hasSl s = false) : Calls Try.prog 33 #[.string s] w fun e w' => e = .returned (.tuple #[.string dkB, .string (libB ++ s)]) ∧ Below w.heap.size w w' := by
  have HS := hid (show s.size ≤ 2147483647 by omega)
  have HF := hid hF
  clear hF
  have hds : D.size ≤ 65536 := by rw [← hD, ByteArray.size_extract]; omega
  have HDS := hid hds
  have hrs : R.size ≤ 65536 := by rw [← hR, ByteArray.size_extract]; omega
  have c1 : ¬ 9223372036854775807 < 8 + R.size := by omega
  have c2 : ¬ 9223372036854775807 < 8 + s.size := by omega
  clear hds hrs hs
  have HP := hid hp
  have HX := hid hx
  clear hp hx
  go_enter Try.func33, Try.ntmps33
  go_wp2_with (first | (go_at_call 36; refine (rcut_some s k _ HS.out HF.out).mono ?_; rintro e w1 ⟨rfl, rfl⟩) | (go_at_call 37; refine (cany_at D HP.out _).mono ?_; rintro e w2 ⟨rfl, hb2⟩; replace hb2 := hid hb2) | (go_at_call 38; refine (lower_any D _ HDS.out).mono ?_; rintro e w3 ⟨rfl, hb3⟩; replace hb3 := hid hb3) | (go_at_call 39; refine (crune_at s HX.out _).mono ?_; rintro e w4 ⟨rfl, hb4⟩; replace hb4 := hid hb4))
  go_returns
  exact ⟨rfl, (((Below.refl _ _).drew.trans hb2.out).trans (hb3.out.mono hb2.out.size)).trans (hb4.out.mono (Nat.le_trans hb2.out.size hb3.out.size))⟩
end Go.Proofs.Ytknjengnipidoaa
