/- Decimal numerals and what strconv.Atoi reads of them. No program in sight. -/
import Derived.Test.YtomkhhpigpilfaaGreatDoorSemP
import Derived.Lib.AtoiAll
import Derived.Lib.ItoaNum
set_option linter.unusedVariables false
set_option linter.unusedSimpArgs false
namespace Go.Proofs.YtomkhhpigpilfaaGreatDoor

theorem valFrom_snoc (l : List UInt8) (c : UInt8) : ∀ acc : Nat, valFrom acc (l ++ [c]) = valFrom acc l * 10 + (c.toNat - 48) := by
  induction l with
  | nil => intro acc; rfl
  | cons x r ih => intro acc; exact ih _

theorem dig_byte (u : Nat) (h : u < 10) : (UInt8.ofNat (48 + u)).toNat = 48 + u := by
  rw [UInt8.toNat_ofNat']
  exact Nat.mod_eq_of_lt (by omega)
theorem isDig_byte (u : Nat) (h : u < 10) : isDig (UInt8.ofNat (48 + u)) = true := by
  unfold isDig
  rw [dig_byte u h, decide_eq_true_eq]; omega

theorem dec_digits : ∀ u : Nat, (Lib.decDigits u).all isDig = true ∧ Lib.decDigits u ≠ [] ∧ val (Lib.decDigits u) = u := by
  intro u
  induction u using Nat.strongRecOn with
  | _ u ih =>
    rw [Lib.decDigits]
    by_cases h : u < 10
    · rw [dif_pos h]
      refine ⟨by rw [List.all_cons, isDig_byte u h]; rfl, by simp, ?_⟩
      show 0 * 10 + ((UInt8.ofNat (48 + u)).toNat - 48) = u
      rw [dig_byte u h]; omega
    · rw [dif_neg h]
      obtain ⟨h1, h2, h3⟩ := ih (u / 10) (by omega)
      refine ⟨?_, by simp, ?_⟩
      · rw [List.all_append, h1, List.all_cons, isDig_byte (u % 10) (by omega)]; rfl
      · unfold val at h3 ⊢
        rw [valFrom_snoc, h3, dig_byte _ (by omega)]; omega

theorem atoi_num (l : List UInt8) (h : l ≠ []) (hd : l.all isDig = true) (hv : val l < 9223372036854775808) : Lib.atoiAll l = .ok (val l : Int) := by
  match l, h with
  | c :: r, _ =>
    have hc : isDig c = true := by
      simp only [List.all_cons, Bool.and_eq_true] at hd
      exact hd.1
    simp only [isDig, decide_eq_true_eq] at hc
    have h1 : ¬ (c.toNat = 43 ∨ c.toNat = 45) := by omega
    have h2 : ¬ c.toNat = 45 := by omega
    have hm : Lib.parseMag (c :: r) = .ok (val (c :: r)) := by
      unfold Lib.parseMag
      rw [if_neg (by simp)]
      exact parse_digits (c :: r) 0 hd (by omega)
    unfold Lib.atoiAll
    have h3 : ¬ c.toNat = 43 := by omega
    simp only [h2, h3, or_self, if_false]
    rw [hm]
    simp only [not_false_eq_true, true_and, false_and, if_false]
    rw [if_neg (by omega)]

theorem zeros_all (z : Nat) (l : List UInt8) (h : l.all isDig = true) : (List.replicate z 48 ++ l).all isDig = true := by
  rw [List.all_append, h, Bool.and_true, List.all_eq_true]
  intro b hb
  rw [(List.mem_replicate.1 hb).2]; rfl
theorem zeros_val (l : List UInt8) : ∀ z : Nat, val (List.replicate z 48 ++ l) = val l
  | 0 => rfl
  | z + 1 => by
    rw [List.replicate_succ, List.cons_append]
    exact zeros_val l z
end Go.Proofs.YtomkhhpigpilfaaGreatDoor
