/- The reference's reading of a number: cronZeros, isDigit, cronUpper, cronForeign, CronNumber. Walked. -/
import Derived.Test.YtomkhhpigpilfaaGreatDoorVal
import Derived.Test.YtomkhhpigpilfaaGreatDoorCSplit
set_option linter.unusedVariables false
set_option linter.unusedSimpArgs false
namespace Go.Proofs.YtomkhhpigpilfaaGreatDoor
open Go.RowKit

theorem isDigit_any (b : UInt8) (w : World) : Calls Tryz.prog 109 #[.int .u8 b.toNat] w fun e w' => e = .returned (.bool (isDig b)) ∧ w = w' := by
  obtain ⟨n, hn⟩ : ∃ n, b.toNat = n := ⟨_, rfl⟩
  unfold isDig
  rw [hn]
  clear hn
  by_cases h1 : 48 ≤ n
  · by_cases h2 : n ≤ 57
    · have e : decide (48 ≤ n ∧ n ≤ 57) = true := decide_eq_true ⟨h1, h2⟩
      rw [e]
      have g1 : (48 : Int) ≤ (n : Int) := by omega
      have g2 : (n : Int) ≤ 57 := by omega
      clear h1 h2 e
      go_enter Tryz.func109, Tryz.ntmps109
      go_wp2
      go_ret
      exact ⟨rfl, rfl⟩
    · have e : decide (48 ≤ n ∧ n ≤ 57) = false := decide_eq_false (fun h => h2 h.2)
      rw [e]
      have g1 : (48 : Int) ≤ (n : Int) := by omega
      have g2 : ¬ (n : Int) ≤ 57 := by omega
      clear h1 h2 e
      go_enter Tryz.func109, Tryz.ntmps109
      go_wp2
      go_ret
      exact ⟨rfl, rfl⟩
  · have e : decide (48 ≤ n ∧ n ≤ 57) = false := decide_eq_false (fun h => h1 h.1)
    rw [e]
    have g1 : ¬ (48 : Int) ≤ (n : Int) := by omega
    clear h1 e
    go_enter Tryz.func109, Tryz.ntmps109
    go_wp2
    go_ret
    exact ⟨rfl, rfl⟩
theorem byte_eq (b : UInt8) (n : Nat) (h : b.toNat = n) : ((b.toNat : Int) == (n : Int)) = true := by rw [h]; simp
theorem byte_ne (b : UInt8) (n : Nat) (h : b.toNat ≠ n) : ((b.toNat : Int) == (n : Int)) = false := by rw [beq_eq_false_iff_ne]; omega
theorem all_take (s : ByteArray) (p : UInt8 → Bool) (k : Nat) (hk : k < s.size) (b : UInt8) (hb : s[k] = b) (h : (s.toList.take k).all p = true) (hp : p b = true) : (s.toList.take (k + 1)).all p = true := by
  rw [take_list s k hk, List.all_append, h, hb]
  simp [hp]
theorem all_stop (s : ByteArray) (p : UInt8 → Bool) (k : Nat) (hk : k < s.size) (b : UInt8) (hb : s[k] = b) (hp : p b = false) : s.toList.all p = false := by
  rw [List.all_eq_false]
  exact ⟨b, List.mem_of_getElem? (by rw [at_list s k hk, hb]), by simp [hp]⟩
theorem all_end (s : ByteArray) (p : UInt8 → Bool) (k : Nat) (hk : k = s.size) (h : (s.toList.take k).all p = true) : s.toList.all p = true := by
  rw [hk, take_all] at h
  exact h
theorem ret_bool {x y : Bool} (h : y = x) : Ending.returned (.bool x) = Ending.returned (.bool y) := by rw [h]
theorem zeros_any (s : ByteArray) (w : World) (hs : s.size ≤ 65536) : Calls Tryz.prog 125 #[.string s] w fun e w' => e = .returned (.bool (s.toList.all (· == 48))) ∧ w = w' := by
  go_enter Tryz.func125, Tryz.ntmps125
  go_wp2_with fail
  go_loop [6] (fun i => ∃ k : Nat, k ≤ s.size ∧ i = .int .i64 k ∧ Hid ((s.toList.take k).all (· == 48) = true)) (fun i => s.size - (intOf i).toNat)
  case atStart => exact ⟨0, Nat.zero_le _, rfl, hid rfl⟩
  case round =>
    obtain ⟨k, hk, rfl, HN⟩ := hrel
    by_cases hlt : k < s.size
    · obtain ⟨b, hb⟩ : ∃ b, s[k] = b := ⟨_, rfl⟩
      have HB := hid hb
      by_cases h48 : b = 48
      · have e := byte_eq b 48 (by rw [h48]; rfl)
        have HP := hid (show (b == 48) = true by rw [h48]; rfl)
        clear h48
        go_wp2_with fail
        go_round
        case rel => exact ⟨k + 1, by omega, by go_num, hid (all_take s _ k hlt b HB.out HN.out HP.out)⟩
        case measure => simp [intOf]; omega
      · have e := byte_ne b 48 (fun h => h48 (UInt8.toNat_inj.1 h))
        have HP := hid (show (b == 48) = false from beq_eq_false_iff_ne.2 h48)
        clear h48
        go_wp2_with fail
        go_ret
        exact ⟨ret_bool (all_stop s (· == 48) k hlt b HB.out HP.out), rfl⟩
    · have HE := hid (show k = s.size by omega)
      go_wp2_with fail
      go_ret
      exact ⟨ret_bool (all_end s (· == 48) k HE.out HN.out), rfl⟩
theorem foreign_any (s : ByteArray) (w : World) (hs : s.size ≤ 65536) : Calls Tryz.prog 59 #[.string s] w fun e w' => e = .returned (.bool (foreign s.toList)) ∧ w = w' := by
  have hf : foreign s.toList = !(s.toList.all fun b => !decide (128 ≤ b.toNat)) := by
    unfold foreign
    rw [List.not_all_eq_any_not]
    congr 1
    funext b
    simp
  rw [hf]
  clear hf
  go_enter Tryz.func59, Tryz.ntmps59
  go_wp2_with fail
  go_loop [6] (fun i => ∃ k : Nat, k ≤ s.size ∧ i = .int .i64 k ∧ Hid ((s.toList.take k).all (fun b => !decide (128 ≤ b.toNat)) = true)) (fun i => s.size - (intOf i).toNat)
  case atStart => exact ⟨0, Nat.zero_le _, rfl, hid rfl⟩
  case round =>
    obtain ⟨k, hk, rfl, HN⟩ := hrel
    by_cases hlt : k < s.size
    · obtain ⟨b, hb⟩ : ∃ b, s[k] = b := ⟨_, rfl⟩
      have HB := hid hb
      by_cases h128 : 128 ≤ b.toNat
      · have e : (128 : Int) ≤ (b.toNat : Int) := by omega
        have HP := hid (show (!decide (128 ≤ b.toNat)) = false by rw [decide_eq_true h128]; rfl)
        clear h128
        go_wp2_with fail
        go_ret
        exact ⟨ret_bool (by rw [all_stop s _ k hlt b HB.out HP.out]; rfl), rfl⟩
      · have e : ¬ (128 : Int) ≤ (b.toNat : Int) := by omega
        have HP := hid (show (!decide (128 ≤ b.toNat)) = true by rw [decide_eq_false h128]; rfl)
        clear h128
        go_wp2_with fail
        go_round
        case rel => exact ⟨k + 1, by omega, by go_num, hid (all_take s _ k hlt b HB.out HN.out HP.out)⟩
        case measure => simp [intOf]; omega
    · have HE := hid (show k = s.size by omega)
      go_wp2_with fail
      go_ret
      exact ⟨ret_bool (by rw [all_end s _ k HE.out HN.out]; rfl), rfl⟩
theorem upper_any (b : UInt8) (w : World) : Calls Tryz.prog 132 #[.int .u8 b.toNat] w fun e w' => e = .returned (.int .u8 (upB b).toNat) ∧ w = w' := by
  obtain ⟨n, hn⟩ : ∃ n, b.toNat = n := ⟨_, rfl⟩
  have hlt := b.toNat_lt
  by_cases h1 : 97 ≤ n ∧ n ≤ 122
  · have e : (upB b).toNat = n - 32 := by
      unfold upB
      rw [hn, if_pos h1, UInt8.toNat_ofNat']
      omega
    rw [e, hn]
    obtain ⟨h1, h2⟩ := h1
    have g1 : (97 : Int) ≤ (n : Int) := by omega
    have g2 : (n : Int) ≤ 122 := by omega
    have g3 : IntKind.u8.wrap ((n : Int) - 97) = (n : Int) - 97 := by simp [IntKind.wrap, IntKind.bits, IntKind.signed]; omega
    have g4 : IntKind.u8.wrap ((n : Int) - 97 + 65) = ((n - 32 : Nat) : Int) := by simp [IntKind.wrap, IntKind.bits, IntKind.signed]; omega
    clear h1 h2 e hn hlt
    go_enter Tryz.func132, Tryz.ntmps132
    go_wp2
    go_ret
    exact ⟨rfl, rfl⟩
  · have e : upB b = b := by
      unfold upB
      rw [hn, if_neg h1]
    rw [e, hn]
    by_cases h97 : 97 ≤ n
    · have g1 : (97 : Int) ≤ (n : Int) := by omega
      have g2 : ¬ (n : Int) ≤ 122 := by omega
      clear h1 h97 e hn hlt
      go_enter Tryz.func132, Tryz.ntmps132
      go_wp2
      go_ret
      exact ⟨rfl, rfl⟩
    · have g1 : ¬ (97 : Int) ≤ (n : Int) := by omega
      clear h1 h97 e hn hlt
      go_enter Tryz.func132, Tryz.ntmps132
      go_wp2
      go_ret
      exact ⟨rfl, rfl⟩
end Go.Proofs.YtomkhhpigpilfaaGreatDoor
