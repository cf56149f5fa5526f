/- matchChunk of a class of one range over a name of plain bytes. Walked. -/
import Derived.Test.YtjddckigiinjgaaDoorMatC
import Derived.Deep.RegionWith
import Derived.Deep.QuietTactic
set_option linter.unusedVariables false
set_option linter.unusedSimpArgs false
namespace Go.Proofs.YtjddckigiinjgaaDoor
open Go.RowKit

theorem three (p q : Prop) : (p ∧ q) ∨ (p ∧ ¬ q) ∨ ¬ p := by
  by_cases hp : p
  · by_cases hq : q
    · exact .inl ⟨hp, hq⟩
    · exact .inr (.inl ⟨hp, hq⟩)
  · exact .inr (.inr hp)
def lenOf : Value → Nat
  | .string s => s.size
  | _ => 0
/-- The texts of a class of one range, from behind '[' (and '^') on. -/
structure Klass (L1 L2 L3 L4 L5 L6 L7 : ByteArray) (lo hi : Nat) : Prop where
  z1 : 0 < L1.size
  e1 : L1[0].toNat = 92
  s1 : Tail1 L1 L2
  z2 : 0 < L2.size
  e2 : L2[0].toNat = lo
  s2 : Tail1 L2 L3
  z3 : 0 < L3.size
  e3 : L3[0].toNat = 45
  s3 : Tail1 L3 L4
  z4 : 0 < L4.size
  e4 : L4[0].toNat = 92
  s4 : Tail1 L4 L5
  z5 : 0 < L5.size
  e5 : L5[0].toNat = hi
  s5 : Tail1 L5 L6
  z6 : 0 < L6.size
  e6 : L6[0].toNat = 93
  s6 : Tail1 L6 L7
  z7 : L7.size = 0
  d : L6.size < L1.size

set_option maxHeartbeats 3200000 in
set_option maxRecDepth 100000 in
theorem chunk_plain (L0 L1 L2 L3 L4 L5 L6 L7 nm nm1 : ByteArray) (lo hi r : Nat) (m : Bool) (w : World) (K : Klass L1 L2 L3 L4 L5 L6 L7 lo hi) (z0 : 0 < L0.size) (e0 : L0[0].toNat = 91) (s0 : Tail1 L0 L1) (hlo : lo < 128) (hhi : hi < 128) (hr : r < 128) (y0 : 0 < nm.size) (y1 : nm[0].toNat = r) (y2 : Tail1 nm nm1)
    (hm : m = (decide ((lo : Int) ≤ r) && decide ((r : Int) ≤ hi))) :
    Calls Tryd.prog 18 #[.string L0, .string nm] w fun e w' => e = .returned (.tuple #[.string (if m then nm1 else ⟨#[]⟩), .bool m, .nilIface]) ∧ w = w' := by
  obtain ⟨z1, e1, s1, z2, e2, s2, z3, e3, s3, z4, e4, s4, z5, e5, s5, z6, e6, s6, z7, dd⟩ := K
  have CD := hid (fun X => decode_any nm r X y0 y1 hr)
  have G1 := hid (fun X => getEsc_any L1 L2 L3 lo X z1 e1 s1 z2 e2 hlo s2 z3)
  have G4 := hid (fun X => getEsc_any L4 L5 L6 hi X z4 e4 s4 z5 e5 hhi s5 z6)
  have p0 : (0 : Int) < L0.size := by omega
  have p1 : (0 : Int) < L1.size := by omega
  have p3 : (0 : Int) < L3.size := by omega
  have p6 : (0 : Int) < L6.size := by omega
  have p7 : ¬ (0 : Int) < L7.size := by omega
  have pn : ((nm.size : Int) == 0) = false := beq_eq_false_iff_ne.2 (by omega)
  have HD := hid dd
  have H0 := hid z0
  have H7 := hid z7
  have HM := hid hm
  unfold Tail1 at s0 s3 s6 y2
  clear e2 s1 s2 z2 e4 s4 s5 z5 e5 hlo hhi hr y1 dd z7 z4 hm
  go_enter Tryd.func18, Tryd.ntmps18
  go_wp2_with fail
  go_loop [0, 1, 7] (fun v0 v1 v7 => (v0 = .string L0 ∧ v1 = .string nm ∧ v7 = .bool false) ∨ (v0 = .string L7 ∧ v1 = .string nm1 ∧ v7 = .bool (!m))) (fun v0 _ _ => lenOf v0)
  case atStart => exact .inl ⟨rfl, rfl, rfl⟩
  case round =>
    rcases hrel with ⟨rfl, rfl, rfl⟩ | ⟨rfl, rfl, rfl⟩
    · go_wp2_with (go_at_call 19; refine (CD.out _).mono ?_; rintro e w' ⟨rfl, rfl⟩)
      go_loop [0, 11, 12] (fun v0 v11 v12 => (v0 = .string L1 ∧ v11 = .bool false ∧ v12 = .int .i64 0) ∨ (v0 = .string L6 ∧ v11 = .bool m ∧ v12 = .int .i64 1)) (fun v0 _ _ => lenOf v0)
      case atStart => exact .inl ⟨rfl, rfl, rfl⟩
      case round =>
        rcases hrel with ⟨rfl, rfl, rfl⟩ | ⟨rfl, rfl, rfl⟩
        · rcases three ((lo : Int) ≤ r) ((r : Int) ≤ hi) with ⟨hA, hB⟩ | ⟨hA, hB⟩ | hA
          · have em := HM.out
            rw [decide_eq_true hA, decide_eq_true hB] at em
            have EM := hid em
            clear em
            go_wp2_with (first
              | (go_at_call_of 20 (Value.string L1); refine (G1.out _).mono ?_; rintro e w' ⟨rfl, rfl⟩)
              | (go_at_call_of 20 (Value.string L4); refine (G4.out _).mono ?_; rintro e w' ⟨rfl, rfl⟩))
            exact ⟨.inr ⟨rfl, by rw [EM.out]; rfl, rfl⟩, HD.out⟩
          · have HB2 := hid (show ¬ r ≤ hi from fun h => hB (Int.ofNat_le.2 h))
            have em := HM.out
            rw [decide_eq_true hA, decide_eq_false hB] at em
            have EM := hid em
            clear em
            go_wp2_with (first
              | (go_at_call_of 20 (Value.string L1); refine (G1.out _).mono ?_; rintro e w' ⟨rfl, rfl⟩)
              | (go_at_call_of 20 (Value.string L4); refine (G4.out _).mono ?_; rintro e w' ⟨rfl, rfl⟩))
            exact ⟨.inr ⟨rfl, by rw [EM.out]; exact congrArg Value.bool (decide_eq_false HB2.out), rfl⟩, HD.out⟩
          · have em := HM.out
            rw [decide_eq_false hA] at em
            have EM := hid em
            clear em
            go_wp2_with (first
              | (go_at_call_of 20 (Value.string L1); refine (G1.out _).mono ?_; rintro e w' ⟨rfl, rfl⟩)
              | (go_at_call_of 20 (Value.string L4); refine (G4.out _).mono ?_; rintro e w' ⟨rfl, rfl⟩))
            exact ⟨.inr ⟨rfl, by rw [EM.out]; rfl, rfl⟩, HD.out⟩
        · go_wp2_with fail
          exact ⟨.inr ⟨rfl, rfl, rfl⟩, by show L7.size < L0.size; rw [H7.out]; exact H0.out⟩
    · cases m
      · go_wp2_with fail
        go_returns
        exact ⟨rfl, rfl⟩
      · go_wp2_with fail
        go_returns
        exact ⟨rfl, rfl⟩
end Go.Proofs.YtjddckigiinjgaaDoor
