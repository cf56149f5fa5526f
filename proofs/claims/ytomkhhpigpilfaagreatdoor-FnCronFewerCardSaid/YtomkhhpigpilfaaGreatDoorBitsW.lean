/- The walks of cron.getBits, ZZBits and impl.CronBits. -/
import Derived.Test.YtomkhhpigpilfaaGreatDoorBits
set_option linter.unusedVariables false
set_option linter.unusedSimpArgs false
namespace Go.Proofs.YtomkhhpigpilfaaGreatDoor
open Go.RowKit

theorem getBits_one (lo hi : Nat) (w : World) (h1 : lo ≤ hi) (h2 : hi ≤ 63) :
    Calls Tryz.prog 83 #[.int .u64 lo, .int .u64 hi, .int .u64 1] w fun e w' => e = .returned (.int .u64 (gb lo hi 1 : Nat)) ∧ w = w' := by
  go_enter Tryz.func83, Tryz.ntmps83
  have hs : IntKind.u64.signed = false := rfl
  go_wp2
  go_ret
  refine ⟨?_, rfl⟩
  show Ending.returned (.int .u64 _) = _
  rw [shifted_one lo hi h1 h2]

theorem getBits_more (lo hi st : Nat) (w : World) (h1 : lo ≤ hi) (h2 : hi ≤ 63) (h3 : 2 ≤ st) (h4 : st ≤ 4294967296) :
    Calls Tryz.prog 83 #[.int .u64 lo, .int .u64 hi, .int .u64 st] w fun e w' => e = .returned (.int .u64 (gb lo hi st : Nat)) ∧ w = w' := by
  have hne : ((st : Int) == 1) = false := by simp; omega
  have hs : IntKind.u64.signed = false := rfl
  go_enter Tryz.func83, Tryz.ntmps83
  go_wp2
  go_loop [7, 8] (fun b i => ∃ n : Nat, lo ≤ n ∧ n ≤ hi + st ∧ (n - lo) % st = 0 ∧ i = .int .u64 n ∧ b = .int .u64 (gbn lo st n : Nat)) (fun _ i => hi + st + 1 - (intOf i).toNat)
  case atStart =>
    refine ⟨lo, Nat.le_refl _, by omega, by simp, rfl, ?_⟩
    have : gbn lo st lo = 0 := by
      apply Nat.eq_of_testBit_eq
      intro i
      rw [testBit_gbn]
      simp
      omega
    rw [this]; rfl
  case round =>
    obtain ⟨n, n1, n2, n3, rfl, rfl⟩ := hrel
    have H := hid n3
    clear n3
    by_cases hlt : n ≤ hi
    · have hlt' := gbn_lt lo st n (by omega)
      go_wp2
      go_round
      case rel =>
        refine ⟨n + st, by omega, by omega, ?_, by go_num, ?_⟩
        · have e : n + st - lo = (n - lo) + st := by omega
          rw [e, Nat.add_mod_right]; exact H.out
        · rw [gbn_step lo st n (by omega) n1 H.out, ← or_bit _ _ hlt' (by omega)]
      case measure => simp [intOf]; omega
    · go_wp2
      go_ret
      refine ⟨?_, rfl⟩
      show Ending.returned (.int .u64 _) = _
      rw [gbn_end lo st hi n (by omega) n1 H.out (by omega) n2 h1]

theorem getBits_any (lo hi st : Nat) (w : World) (h1 : lo ≤ hi) (h2 : hi ≤ 63) (h3 : 1 ≤ st) (h4 : st ≤ 4294967296) :
    Calls Tryz.prog 83 #[.int .u64 lo, .int .u64 hi, .int .u64 st] w fun e w' => e = .returned (.int .u64 (gb lo hi st : Nat)) ∧ w = w' := by
  by_cases h : st = 1
  · subst h; exact getBits_one lo hi w h1 h2
  · exact getBits_more lo hi st w h1 h2 (by omega) h4

end Go.Proofs.YtomkhhpigpilfaaGreatDoor
