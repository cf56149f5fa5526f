/- The law FnCronNumber: every number, with any zeros ahead, is read as it is. Walked and joined. -/
import Derived.Test.YtcaabeocflfboaaDoorKit
import Derived.Test.YtcaabeocflfboaaDoorStrP
import Derived.Test.YtcaabeocflfboaaDoorShelf
import Derived.Test.YtcaabeocflfboaaDoorNumP
import Derived.Lib.AppendIntMem
import Derived.Lib.AtoiErrMem
import Derived.WalkSpells
import Derived.IntWalk
set_option linter.unusedVariables false
set_option linter.unusedSimpArgs false
namespace Go.Proofs.YtcaabeocflfboaaDoor
open Go.RowKit

/-- The table of powers of ten reads as it must, and goes on so. -/
abbrev Tab (w : World) : Prop := Lib.TabBelow Tryd.prog w.heap.size w "internal/strconv.uint64pow10" .u64 Lib.pow10Tab
theorem tab_below {w w' : World} (h : Tab w) (hb : Below w.heap.size w w') : Tab w' := fun w2 hb2 => h w2 (hb.trans (hb2.mono hb.size))
theorem bt {w w1 w2 : World} (h : Below w.heap.size w w1) (k : Below w1.heap.size w1 w2) : Below w.heap.size w w2 := h.trans (k.mono h.size)

def dec (u : Nat) : ByteArray := ⟨(Lib.decDigits u).toArray⟩
theorem dec_size (u : Nat) (h : u < 18446744073709551616) : (dec u).size ≤ 20 := by
  show (Lib.decDigits u).length ≤ 20
  rw [Lib.decDigits_length]
  by_cases h1 : 1 ≤ u
  · have := Lib.numDigits_eq u h1 h; split at this <;> omega
  · have e : u = 0 := by omega
    rw [e, Lib.nDigits_small (by omega)]; omega
theorem dec_list (u : Nat) : (dec u).toList = Lib.decDigits u := by rw [ByteArray.toList_eq]; rfl

theorem itoa_any (n : Nat) (h : n ≤ 9223372036854775807) (w : World) (ht : Tab w) : Calls Tryd.prog 7 #[.int .i64 n] w fun e w' => e = .returned (.string (dec n)) ∧ Below w.heap.size w w' := by
  refine (Tryd.strconv_Itoa n (by omega) (by omega) w ht.here).mono ?_
  rintro e w' ⟨rfl, k, os, rfl⟩
  exact ⟨by rw [Lib.itoa_nonneg]; rfl, Lib.below_grow _ _ (Nat.le_refl _) k os⟩

theorem atoi_any (s : ByteArray) (v : Nat) (hz : s.size ≤ 9223372036854775806) (h : Lib.atoiAll s.toList = .ok (v : Int)) (w : World) : Calls Tryd.prog 46 #[.string s] w fun e w' => e = .returned (.tuple #[.int .i64 v, .nilIface]) ∧ Below w.heap.size w w' := by
  refine (Tryd.strconv_Atoi_ok s hz v (by rw [ByteArray.toList_eq] at h; exact h) w).mono ?_
  rintro e w' ⟨rfl, rfl | ⟨t, rfl⟩⟩
  · exact ⟨rfl, Below.refl _ _⟩
  · exact ⟨rfl, Lib.bytesWorld_below _ _ _⟩

theorem must_any (s : ByteArray) (v : Nat) (hz : s.size ≤ 9223372036854775806) (h : Lib.atoiAll s.toList = .ok (v : Int)) (hv : v ≤ 9223372036854775807) (w : World) : Calls Tryd.prog 35 #[.string s] w fun e w' => e = .returned (.tuple #[.int .u64 v, .nilIface]) ∧ Below w.heap.size w w' := by
  have h0 : ¬ (v : Int) < 0 := by omega
  have hw : IntKind.u64.wrap (v : Int) = (v : Int) := IntWalk.u64_in _ (by omega)
  have H := hid h
  have HZ := hid hz
  clear h hz hv
  go_enter Tryd.func35, Tryd.ntmps35
  go_wp2_with (go_at_call 46; refine (atoi_any s v HZ.out H.out _).mono ?_; rintro e w' ⟨rfl, hb⟩; replace hb := hid hb)
  go_returns
  exact ⟨rfl, hb.out⟩

theorem number_any (s : ByteArray) (v : Nat) (hz : s.size ≤ 9223372036854775806) (h : Lib.atoiAll s.toList = .ok (v : Int)) (hv : v ≤ 9223372036854775807) (w : World) : Calls Tryd.prog 8 #[.string s] w fun e w' => e = .returned (.tuple #[.int .u64 v, .bool true]) ∧ Below w.heap.size w w' := by
  have H := hid h
  have HZ := hid hz
  have HV := hid hv
  clear h hz hv
  go_enter Tryd.func8, Tryd.ntmps8
  go_wp2_with (first | (go_at_call 23; go_in) | (go_at_call 22; go_in) | (go_at_call 35; refine (must_any s v HZ.out H.out HV.out _).mono ?_; rintro e w' ⟨rfl, hb⟩; replace hb := hid hb))
  go_returns
  exact ⟨rfl, hb.out⟩

/-- The numeral behind z zeros. -/
def zt (z n : Nat) : ByteArray := ⟨(List.replicate z 48 ++ Lib.decDigits n).toArray⟩
theorem zt_list (z n : Nat) : (zt z n).toList = List.replicate z 48 ++ Lib.decDigits n := by rw [ByteArray.toList_eq]; rfl
theorem zt_zero (n : Nat) : zt 0 n = dec n := rfl
theorem zt_succ (z n : Nat) : (⟨#[48]⟩ : ByteArray) ++ zt z n = zt (z + 1) n := by
  apply bytes_inj
  rw [app_list, zt_list, zt_list, ByteArray.toList_eq, List.replicate_succ]
  rfl
theorem zt_size (z n : Nat) (h : n < 18446744073709551616) : (zt z n).size ≤ z + 20 := by
  have := dec_size n h
  rw [← size_list, zt_list, List.length_append, List.length_replicate, ← dec_list, size_list]; omega
theorem zt_atoi (z n : Nat) (h : n ≤ 9223372036854775807) : Lib.atoiAll (zt z n).toList = .ok (n : Int) := by
  obtain ⟨h1, h2, h3⟩ := dec_digits n
  rw [zt_list, atoi_num _ (by simp [h2]) (zeros_all z _ h1) (by rw [zeros_val, h3]; omega), zeros_val, h3]

theorem number_out (n z : Int) (w : World) (h : n < 0 ∨ (¬ n < 0 ∧ z < 0) ∨ (¬ n < 0 ∧ ¬ z < 0 ∧ 64 < z)) : Calls Tryd.prog 3 #[.int .i64 n, .int .i64 z] w fun e w' => e = .returned (.bool true) ∧ Below w.heap.size w w' := by
  rcases h with h1 | ⟨h1, h2⟩ | ⟨h1, h2, h3⟩
  all_goals
    go_enter Tryd.func3, Tryd.ntmps3
    go_wp2_with fail
    go_ret
    exact ⟨rfl, Below.refl _ _⟩

set_option maxHeartbeats 800000 in
theorem number_in (n z : Nat) (w : World) (hn : n ≤ 9223372036854775807) (hz : z ≤ 64) (ht : Tab w) : Calls Tryd.prog 3 #[.int .i64 n, .int .i64 z] w fun e w' => e = .returned (.bool true) ∧ Below w.heap.size w w' := by
  have h1 : ¬ (n : Int) < 0 := by omega
  have h2 : ¬ (z : Int) < 0 := by omega
  have h3 : ¬ (64 : Int) < (z : Int) := by omega
  have hw : IntKind.u64.wrap (n : Int) = (n : Int) := IntWalk.u64_in _ (by omega)
  have HN := hid hn
  have HT := hid ht
  clear hn ht
  go_enter Tryd.func3, Tryd.ntmps3
  go_wp2_with (go_at_call 7; refine (itoa_any n HN.out _ HT.out).mono ?_; rintro e w1 ⟨rfl, hb⟩; replace hb := hid hb)
  go_loop [5, 21] (fun s i => ∃ k : Nat, k ≤ z ∧ i = .int .i64 k ∧ s = .string (zt k n)) (fun _ i => z - (intOf i).toNat)
  case atStart => exact ⟨0, Nat.zero_le _, rfl, rfl⟩
  case round =>
    obtain ⟨k, hk, rfl, rfl⟩ := hrel
    by_cases hlt : k < z
    · have hs := zt_size k n (by have := HN.out; omega)
      have hc : ¬ 9223372036854775807 < 1 + (zt k n).size := by omega
      have hst := zt_succ k n
      go_wp2_with fail
      go_round
      case rel => exact ⟨k + 1, by omega, by go_num, by simp [hst]⟩
      case measure => simp [intOf]; omega
    · have hkz : k = z := by omega
      subst hkz
      go_wp2_with (go_at_call 8; refine (number_any _ n (by have := zt_size k n (by have := HN.out; omega); omega) (zt_atoi k n HN.out) HN.out _).mono ?_; rintro e w2 ⟨rfl, hb2⟩; replace hb2 := hid hb2)
      go_ret
      exact ⟨ret_b (by simp), bt hb.out hb2.out⟩

theorem fnCronNumber_walk (n z : Int) (w : World) (wn : (Lit.int .i64 n).wf = true) (wz : (Lit.int .i64 z).wf = true) (ht : Tab w) : Calls Tryd.prog 3 #[.int .i64 n, .int .i64 z] w fun e w' => e = .returned (.bool true) ∧ Below w.heap.size w w' := by
  have bn := wf_i64 wn
  by_cases h : 0 ≤ n ∧ 0 ≤ z ∧ z ≤ 64
  · obtain ⟨a, rfl⟩ := Int.eq_ofNat_of_zero_le h.1
    obtain ⟨b, rfl⟩ := Int.eq_ofNat_of_zero_le h.2.1
    exact number_in a b w (by omega) (by omega) ht
  · exact number_out n z w (by omega)
end Go.Proofs.YtcaabeocflfboaaDoor
