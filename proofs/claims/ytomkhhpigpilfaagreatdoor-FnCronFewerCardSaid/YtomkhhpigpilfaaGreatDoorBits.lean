/- cron.getBits: the set of low, low + step, .. up to high, as bits; in plain numbers. -/
import Derived.Test.YtomkhhpigpilfaaGreatDoorKit
import Derived.Laws.BitsAllLaws
set_option linter.unusedVariables false
set_option linter.unusedSimpArgs false
namespace Go.Proofs.YtomkhhpigpilfaaGreatDoor
open Go.RowKit

/-- The bits of lo, lo + st, .. below n. -/
def gbn (lo st : Nat) : Nat → Nat
  | 0 => 0
  | n + 1 => gbn lo st n ||| (if lo ≤ n ∧ (n - lo) % st = 0 then 2 ^ n else 0)

theorem testBit_gbn (lo st n i : Nat) : (gbn lo st n).testBit i = decide (i < n ∧ lo ≤ i ∧ (i - lo) % st = 0) := by
  induction n with
  | zero => simp [gbn]
  | succ n ih =>
    simp only [gbn, Nat.testBit_or, ih]
    by_cases h : lo ≤ n ∧ (n - lo) % st = 0
    · rw [if_pos h, Nat.testBit_two_pow]
      by_cases e : n = i
      · subst e; simp [h]
      · simp only [e, decide_false, Bool.or_false]
        congr 1
        apply propext
        constructor <;> intro ⟨a, b, c⟩ <;> exact ⟨by omega, b, c⟩
    · rw [if_neg h]
      simp only [Nat.zero_testBit, Bool.or_false]
      congr 1
      apply propext
      constructor
      · intro ⟨a, b, c⟩; exact ⟨by omega, b, c⟩
      · intro ⟨a, b, c⟩
        refine ⟨?_, b, c⟩
        rcases Nat.lt_or_ge i n with h' | h'
        · exact h'
        · have : i = n := by omega
          subst this
          exact absurd ⟨b, c⟩ h

def gb (lo hi st : Nat) : Nat := gbn lo st (hi + 1)

theorem testBit_gb (lo hi st i : Nat) : (gb lo hi st).testBit i = decide (lo ≤ i ∧ i ≤ hi ∧ (i - lo) % st = 0) := by
  rw [gb, testBit_gbn]
  congr 1
  apply propext
  constructor <;> intro ⟨a, b, c⟩ <;> exact ⟨by omega, by omega, c⟩

theorem gbn_lt (lo st n : Nat) (h : n ≤ 64) : gbn lo st n < 18446744073709551616 := by
  have : gbn lo st n < 2 ^ 64 := by
    apply Nat.lt_pow_two_of_testBit
    intro i hi
    rw [testBit_gbn]
    simp
    omega
  exact this

theorem gbn_step (lo st n : Nat) (hst : 0 < st) (hlo : lo ≤ n) (hm : (n - lo) % st = 0) : gbn lo st (n + st) = gbn lo st n ||| 2 ^ n := by
  apply Nat.eq_of_testBit_eq
  intro i
  rw [Nat.testBit_or, testBit_gbn, testBit_gbn, Nat.testBit_two_pow, ← Bool.decide_or]
  congr 1
  apply propext
  constructor
  · intro ⟨a, b, c⟩
    rcases Nat.lt_or_ge i n with h | h
    · exact .inl ⟨h, b, c⟩
    · right
      have e : i - lo = (n - lo) + (i - n) := by omega
      rw [e, Nat.add_mod, hm, Nat.zero_add, Nat.mod_mod] at c
      have : i - n < st := by omega
      rw [Nat.mod_eq_of_lt this] at c
      omega
  · rintro (⟨a, b, c⟩ | h)
    · exact ⟨by omega, b, c⟩
    · subst h; exact ⟨by omega, hlo, hm⟩

/-- What stands behind the last value of the set is of no matter. -/
theorem gbn_end (lo st hi n : Nat) (hst : 0 < st) (hlo : lo ≤ n) (hm : (n - lo) % st = 0) (h1 : hi < n) (h2 : n ≤ hi + st) (h3 : lo ≤ hi) : gbn lo st n = gb lo hi st := by
  apply Nat.eq_of_testBit_eq
  intro i
  rw [testBit_gbn, testBit_gb]
  congr 1
  apply propext
  constructor
  · intro ⟨a, b, c⟩
    refine ⟨b, ?_, c⟩
    rcases Nat.lt_or_ge hi i with h | h
    · exfalso
      have e : n - lo = (i - lo) + (n - i) := by omega
      rw [e, Nat.add_mod, c, Nat.zero_add, Nat.mod_mod] at hm
      have : n - i < st := by omega
      rw [Nat.mod_eq_of_lt this] at hm
      omega
    · exact h
  · intro ⟨a, b, c⟩; exact ⟨by omega, a, c⟩

/-- With step 1, by shifts, as the program does it. -/
theorem gb_one : ∀ lo, lo < 64 → ∀ hi, hi < 64 → lo ≤ hi →
    ((18446744073709551615 ^^^ ((18446744073709551615 * 2 ^ (hi + 1)) % 18446744073709551616)) &&& ((18446744073709551615 * 2 ^ lo) % 18446744073709551616)) = gb lo hi 1 := by
  decide +kernel

theorem u64_wrap_nat (n : Nat) : IntKind.u64.wrap (n : Int) = ((n % 18446744073709551616 : Nat) : Int) := by
  simp [IntKind.wrap, IntKind.bits, IntKind.signed]

theorem shifted_one (lo hi : Nat) (h1 : lo ≤ hi) (h2 : hi ≤ 63) :
    bits BinOp.and IntKind.u64 (bits BinOp.xor IntKind.u64 IntKind.u64.max (IntKind.u64.wrap (18446744073709551615 * 2 ^ (hi + 1)))) (IntKind.u64.wrap (18446744073709551615 * 2 ^ lo)) = ((gb lo hi 1 : Nat) : Int) := by
  have e1 : (18446744073709551615 * 2 ^ (hi + 1) : Int) = ((18446744073709551615 * 2 ^ (hi + 1) : Nat) : Int) := by simp
  have e2 : (18446744073709551615 * 2 ^ lo : Int) = ((18446744073709551615 * 2 ^ lo : Nat) : Int) := by simp
  have e3 : IntKind.u64.max = ((18446744073709551615 : Nat) : Int) := by decide
  rw [e1, e2, e3, u64_wrap_nat, u64_wrap_nat, u64_xor_nat _ _ (by omega) (Nat.mod_lt _ (by omega)), u64_and_nat _ _ ?_ (Nat.mod_lt _ (by omega)), gb_one lo (by omega) hi (by omega) h1]
  exact Nat.xor_lt_two_pow (n := 64) (by omega) (Nat.mod_lt _ (by omega))

/-- One round of the loop. -/
theorem or_bit (b i : Nat) (hb : b < 18446744073709551616) (hi : i ≤ 63) : bits BinOp.or IntKind.u64 (b : Int) (IntKind.u64.wrap (2 ^ i)) = ((b ||| 2 ^ i : Nat) : Int) := by
  have e1 : (2 ^ i : Int) = ((2 ^ i : Nat) : Int) := by simp
  have h : (2 : Nat) ^ i ≤ 2 ^ 63 := Nat.pow_le_pow_right (by omega) hi
  rw [e1, u64_wrap_nat, Nat.mod_eq_of_lt (by omega), u64_or_nat _ _ hb (by omega)]

end Go.Proofs.YtomkhhpigpilfaaGreatDoor
