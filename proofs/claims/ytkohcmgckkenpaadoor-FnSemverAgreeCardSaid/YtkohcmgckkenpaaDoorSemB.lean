/- The reference's tests of identifiers, walked. -/
import Derived.Test.YtkohcmgckkenpaaDoorKit
import Derived.Test.YtkohcmgckkenpaaDoorStrP
import Derived.Test.YtkohcmgckkenpaaDoorSemP
set_option linter.unusedVariables false
set_option linter.unusedSimpArgs false
namespace Go.Proofs.YtkohcmgckkenpaaDoor
open Go.RowKit

theorem isDigit_any (c : UInt8) (w : World) : Calls Tryd.prog 52 #[.int .u8 (c.toNat : Int)] w fun e w' => e = .returned (.bool (isDig c)) ∧ w = w' := by
  go_enter Tryd.func52, Tryd.ntmps52
  go_wp2_with fail
  all_goals go_ret
  · refine ⟨ret_b ?_, rfl⟩
    show decide ((c.toNat : Int) ≤ 57) = isDig c
    unfold isDig
    rw [decide_eq_decide]; omega
  · refine ⟨ret_b ?_, rfl⟩
    show false = isDig c
    unfold isDig
    symm; rw [decide_eq_false_iff_not]; omega

theorem isIdent_any (c : UInt8) (w : World) : Calls Tryd.prog 51 #[.int .u8 (c.toNat : Int)] w fun e w' => e = .returned (.bool (isId c)) ∧ w = w' := by
  cases hd : isDig c with
  | true =>
    go_enter Tryd.func51, Tryd.ntmps51
    go_wp2_with (go_at_call 52; refine (isDigit_any c _).mono ?_; rintro e w' ⟨rfl, rfl⟩)
    all_goals go_ret
    all_goals refine ⟨ret_b ?_, rfl⟩
    all_goals simp [isDig] at hd
    all_goals simp [isId]
    all_goals omega
  | false =>
    go_enter Tryd.func51, Tryd.ntmps51
    go_wp2_with (go_at_call 52; refine (isDigit_any c _).mono ?_; rintro e w' ⟨rfl, rfl⟩)
    all_goals go_ret
    all_goals refine ⟨ret_b ?_, rfl⟩
    all_goals simp [isDig] at hd
    all_goals simp [isId]
    all_goals first | omega | (rw [Bool.eq_iff_iff]; simp; omega)

theorem all_take_succ (p : UInt8 → Bool) (s : ByteArray) (k : Nat) (h : k < s.size) : (s.toList.take (k + 1)).all p = ((s.toList.take k).all p && p s[k]) := by
  rw [take_list s k h, List.all_append]; simp

theorem validIdent_any (s : ByteArray) (w : World) (hs : s.size ≤ 2147483647) : Calls Tryd.prog 39 #[.string s] w fun e w' => e = .returned (.bool (validId s.toList)) ∧ w = w' := by
  go_enter Tryd.func39, Tryd.ntmps39
  go_wp2
  go_loop [3] (fun i => ∃ k : Nat, k ≤ s.size ∧ i = .int .i64 k ∧ (s.toList.take k).all isId = true) (fun i => s.size - (intOf i).toNat)
  case atStart => exact ⟨0, Nat.zero_le _, rfl, by simp⟩
  case round =>
    obtain ⟨k, hk, rfl, ha⟩ := hrel
    have HA := hid ha
    clear ha
    by_cases hlt : k < s.size
    · cases hb : isId s[k]
      · have HB := hid hb
        go_wp2_with (go_at_call 51; refine (isIdent_any _ _).mono ?_; rintro e w' ⟨rfl, rfl⟩)
        go_ret
        refine ⟨ret_b ?_, rfl⟩
        have hm : s[k] ∈ s.toList := by
          have := at_list s k hlt
          exact List.mem_of_getElem? this
        show false = validId s.toList
        symm
        unfold validId
        rw [Bool.and_eq_false_iff]
        right
        rw [List.all_eq_false]
        exact ⟨_, hm, by rw [HB.out]; simp⟩
      · have HB := hid hb
        go_wp2_with (go_at_call 51; refine (isIdent_any _ _).mono ?_; rintro e w' ⟨rfl, rfl⟩)
        go_round
        case rel => exact ⟨k + 1, by omega, by go_num, by rw [all_take_succ isId s k hlt, HA.out, HB.out]; rfl⟩
        case measure => simp [intOf]; omega
    · go_wp2
      go_ret
      refine ⟨ret_b ?_, rfl⟩
      have e : k = s.size := by omega
      have hA := HA.out
      rw [e, take_all] at hA
      show (!s.toList.isEmpty) = validId s.toList
      unfold validId
      rw [hA]; simp

end Go.Proofs.YtkohcmgckkenpaaDoor
