/- The semver package's splitting at dots, walked. -/
import Derived.Test.YtkohcmgckkenpaaDoorSemC
import Derived.IntWalk
import Derived.Laws.Strings2
import Derived.Laws.Strings3
set_option linter.unusedVariables false
set_option linter.unusedSimpArgs false
namespace Go.Proofs.YtkohcmgckkenpaaDoor
open Go.RowKit

theorem ext_one (s : ByteArray) (k : Nat) (h : k < s.size) : (s.extract k (k + 1)).toList = [s[k]] := by
  rw [ext_list, drop_list s k h]
  simp

theorem slice_mid (s : ByteArray) (k : Nat) (h : k < s.size) (w : World) : (Instr.slice 9 (.string s) (some (.int .i64 (k : Int))) (some (.int .i64 ((k : Int) + 1))) none).run Tryd.prog w = .ok (.string (s.extract k (k + 1))) w := by
  have := run_slice_string (P := Tryd.prog) w 9 s .i64 .i64 (k : Int) ((k : Int) + 1) Tryd.underlying9 (by omega) (by omega) (by omega)
  have e : ((k : Int) + 1).toNat = k + 1 := by omega
  rw [e] at this
  simpa using this
theorem slice_to (s : ByteArray) (k : Nat) (h : k ≤ s.size) (w : World) : (Instr.slice 9 (.string s) none (some (.int .i64 (k : Int))) none).run Tryd.prog w = .ok (.string (s.extract 0 k)) w := by
  rw [run_slice_string_to_if _ _ _ _ _ Tryd.underlying9, if_pos ⟨by omega, by omega⟩]
  simp
theorem slice_from (s : ByteArray) (k : Nat) (h : k < s.size) (w : World) : (Instr.slice 9 (.string s) (some (.int .i64 ((k : Int) + 1))) none none).run Tryd.prog w = .ok (.string (s.extract (k + 1) s.size)) w := by
  rw [run_slice_string_from_if _ _ _ _ _ Tryd.underlying9, if_pos ⟨by omega, by omega⟩]
  have e : ((k : Int) + 1).toNat = k + 1 := by omega
  rw [e]

set_option maxRecDepth 100000 in
theorem index_any (s : ByteArray) (w : World) (hs : s.size ≤ 2147483647) : Calls Tryd.prog 65 #[.string s, .string ⟨#[46]⟩] w fun e w' =>
    ∃ n : Int, e = .returned (.int .i64 n) ∧ w = w' ∧ ((n = -1 ∧ (46 : UInt8) ∉ s.toList) ∨ ∃ k : Nat, n = k ∧ k < s.size ∧ s.toList[k]? = some 46 ∧ (46 : UInt8) ∉ s.toList.take k) := by
  go_enter Tryd.func65, Tryd.ntmps65
  go_wp2_with fail
  go_loop [5] (fun i => ∃ k : Nat, k ≤ s.size ∧ i = .int .i64 k ∧ (46 : UInt8) ∉ s.toList.take k) (fun i => s.size - (intOf i).toNat)
  case atStart => exact ⟨0, Nat.zero_le _, rfl, by simp⟩
  case round =>
    obtain ⟨k, hk, rfl, hn⟩ := hrel
    have HN := hid hn
    clear hn
    by_cases hlt : k < s.size
    · have hsl := slice_mid s k hlt
      have hw : IntKind.i64.wrap ((k : Int) + 1) = (k : Int) + 1 := IntWalk.i64_in _ (by omega)
      by_cases hd : s[k] = 46
      · have hx : (s.extract k (k + 1)).toList = [46] := by rw [ext_one s k hlt, hd]
        have HD := hid hd
        clear hd
        go_wp2_with fail
        go_ret
        exact ⟨_, rfl, rfl, .inr ⟨k, rfl, hlt, by rw [at_list s k hlt, HD.out], HN.out⟩⟩
      · have hx : ((s.extract k (k + 1)).toList == [46]) = false := by
          rw [ext_one s k hlt]
          simp [hd]
        have HD := hid hd
        clear hd
        go_wp2_with fail
        go_round
        case rel => exact ⟨k + 1, by omega, by go_num, by rw [take_list s k hlt]; simp [HN.out, Ne.symm HD.out]⟩
        case measure => simp [intOf]; omega
    · have hks : k = s.size := by omega
      have hw : IntKind.i64.wrap ((k : Int) + 1) = (k : Int) + 1 := IntWalk.i64_in _ (by omega)
      have := HN.out
      rw [hks, take_all] at this
      have HA := hid this
      clear this
      go_wp2_with fail
      go_ret
      exact ⟨_, rfl, rfl, .inl ⟨rfl, HA.out⟩⟩
end Go.Proofs.YtkohcmgckkenpaaDoor
