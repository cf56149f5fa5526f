/- The law FnCronBitsNext: a set of steps is its first value and the set of steps from the next one on. -/
import Derived.Test.YtknjengnipidoaaBitsW
set_option linter.unusedVariables false
set_option linter.unusedSimpArgs false
namespace Go.Proofs.Ytknjengnipidoaa
open Go.RowKit

theorem gb_next (lo hi st : Nat) (h1 : lo ≤ hi) (h3 : 0 < st) (h : lo + st ≤ hi) : 2 ^ lo ||| gb (lo + st) hi st = gb lo hi st := by
  apply Nat.eq_of_testBit_eq
  intro i
  rw [Nat.testBit_or, Nat.testBit_two_pow, testBit_gb, testBit_gb, ← Bool.decide_or]
  congr 1
  apply propext
  constructor
  · rintro (h | ⟨a, b, c⟩)
    · subst h; exact ⟨Nat.le_refl _, h1, by simp⟩
    · refine ⟨by omega, b, ?_⟩
      have e : i - lo = (i - (lo + st)) + st := by omega
      rw [e, Nat.add_mod_right]; exact c
  · intro ⟨a, b, c⟩
    by_cases e : lo = i
    · exact .inl e
    · right
      have hge : lo + st ≤ i := by
        rcases Nat.lt_or_ge i (lo + st) with h | h
        · rw [Nat.mod_eq_of_lt (by omega)] at c; omega
        · exact h
      refine ⟨hge, b, ?_⟩
      have e : i - lo = (i - (lo + st)) + st := by omega
      rw [e, Nat.add_mod_right] at c; exact c

theorem gb_last (lo hi st : Nat) (h1 : lo ≤ hi) (h3 : 0 < st) (h : hi < lo + st) : 2 ^ lo = gb lo hi st := by
  apply Nat.eq_of_testBit_eq
  intro i
  rw [Nat.testBit_two_pow, testBit_gb]
  congr 1
  apply propext
  constructor
  · intro h; subst h; exact ⟨Nat.le_refl _, h1, by simp⟩
  · intro ⟨a, b, c⟩
    rw [Nat.mod_eq_of_lt (by omega)] at c; omega

/-- The law's own last test. -/
theorem bits_same (lo hi st : Int) (h0 : 0 ≤ lo) (h1 : lo ≤ hi) (h2 : hi ≤ 63) (h3 : 1 ≤ st) (h5 : lo + st ≤ hi) :
    ((gb lo.toNat hi.toNat st.toNat : Nat) : Int) = bits .or .u64 (IntKind.u64.wrap (2 ^ lo.toNat)) ((gb (lo + st).toNat hi.toNat st.toNat : Nat) : Int) := by
  have hl : gb (lo + st).toNat hi.toNat st.toNat < 18446744073709551616 := gbn_lt (lo + st).toNat st.toNat (hi.toNat + 1) (by omega)
  have e1 : (2 ^ lo.toNat : Int) = ((2 ^ lo.toNat : Nat) : Int) := by simp
  have h : (2 : Nat) ^ lo.toNat ≤ 2 ^ 63 := Nat.pow_le_pow_right (by omega) (by omega)
  rw [e1, u64_wrap_nat, Nat.mod_eq_of_lt (by omega), u64_or_nat _ _ (by omega) hl, show (lo + st).toNat = lo.toNat + st.toNat by omega]
  rw [gb_next lo.toNat hi.toNat st.toNat (by omega) (by omega) (by omega)]

theorem bits_alone (lo hi st : Int) (h0 : 0 ≤ lo) (h1 : lo ≤ hi) (h2 : hi ≤ 63) (h3 : 1 ≤ st) (h5 : hi < lo + st) :
    ((gb lo.toNat hi.toNat st.toNat : Nat) : Int) = IntKind.u64.wrap (2 ^ lo.toNat) := by
  have e1 : (2 ^ lo.toNat : Int) = ((2 ^ lo.toNat : Nat) : Int) := by simp
  have h : (2 : Nat) ^ lo.toNat ≤ 2 ^ 63 := Nat.pow_le_pow_right (by omega) (by omega)
  rw [e1, u64_wrap_nat, Nat.mod_eq_of_lt (by omega), ← gb_last lo.toNat hi.toNat st.toNat (by omega) (by omega) (by omega)]

theorem bitsNext_out (lo hi st : Int) (w : World) (h0 : 0 ≤ lo) (hh : 0 ≤ hi) (hst : 0 ≤ st) (h : hi < lo ∨ (¬ hi < lo ∧ 63 < hi) ∨ (¬ hi < lo ∧ ¬ 63 < hi ∧ st < 1) ∨ (¬ hi < lo ∧ ¬ 63 < hi ∧ ¬ st < 1 ∧ 4294967296 < st)) :
    Calls Try.prog 4 #[.int .u64 lo, .int .u64 hi, .int .u64 st] w fun e w' => e = .returned (.bool true) ∧ w = w' := by
  rcases h with h1 | ⟨h1, h2⟩ | ⟨h1, h2, h3⟩ | ⟨h1, h2, h3, h4⟩
  all_goals
    go_enter Try.func4, Try.ntmps4
    go_wp2
    all_goals (go_ret; exact ⟨rfl, rfl⟩)

theorem bitsNext_more (lo hi st : Int) (w : World) (h0 : 0 ≤ lo) (h1 : lo ≤ hi) (h2 : hi ≤ 63) (h3 : 1 ≤ st) (h4 : st ≤ 4294967296) (h5 : lo + st ≤ hi) :
    Calls Try.prog 4 #[.int .u64 lo, .int .u64 hi, .int .u64 st] w fun e w' => e = .returned (.bool true) ∧ w = w' := by
  have hs : IntKind.u64.signed = false := rfl
  go_enter Try.func4, Try.ntmps4
  go_wp2_with (go_at_call 10; refine (cronBits_int _ _ _ _ (by omega) (by omega) (by omega) (by omega) (by omega)).mono ?_; rintro e w' ⟨rfl, rfl⟩)
  go_ret
  exact ⟨ret_b (beq_iff_eq.mpr (bits_same lo hi st h0 h1 h2 h3 h5)), rfl⟩

theorem bitsNext_last (lo hi st : Int) (w : World) (h0 : 0 ≤ lo) (h1 : lo ≤ hi) (h2 : hi ≤ 63) (h3 : 1 ≤ st) (h4 : st ≤ 4294967296) (h5 : hi < lo + st) :
    Calls Try.prog 4 #[.int .u64 lo, .int .u64 hi, .int .u64 st] w fun e w' => e = .returned (.bool true) ∧ w = w' := by
  have hs : IntKind.u64.signed = false := rfl
  go_enter Try.func4, Try.ntmps4
  go_wp2_with (go_at_call 10; refine (cronBits_int _ _ _ _ (by omega) (by omega) (by omega) (by omega) (by omega)).mono ?_; rintro e w' ⟨rfl, rfl⟩)
  go_ret
  exact ⟨ret_b (beq_iff_eq.mpr (bits_alone lo hi st h0 h1 h2 h3 h5)), rfl⟩

theorem fnCronBitsNext_walk (lo hi st : Int) (w : World) (w0 : (Lit.int .u64 lo).wf = true) (w1 : (Lit.int .u64 hi).wf = true) (w2 : (Lit.int .u64 st).wf = true) :
    Calls Try.prog 4 #[.int .u64 lo, .int .u64 hi, .int .u64 st] w fun e w' => e = .returned (.bool true) ∧ Below w.heap.size w w' := by
  have b0 := wf_u64 w0
  have b1 := wf_u64 w1
  have b2 := wf_u64 w2
  suffices h : Calls Try.prog 4 #[.int .u64 lo, .int .u64 hi, .int .u64 st] w fun e w' => e = .returned (.bool true) ∧ w = w' from
    h.mono fun e w' ⟨he, hw⟩ => ⟨he, hw ▸ Below.refl _ _⟩
  by_cases h1 : lo ≤ hi ∧ hi ≤ 63 ∧ 1 ≤ st ∧ st ≤ 4294967296
  · obtain ⟨h1, h2, h3, h4⟩ := h1
    by_cases h5 : lo + st ≤ hi
    · exact bitsNext_more lo hi st w b0.1 h1 h2 h3 h4 h5
    · exact bitsNext_last lo hi st w b0.1 h1 h2 h3 h4 (by omega)
  · exact bitsNext_out lo hi st w b0.1 b1.1 b2.1 (by omega)

end Go.Proofs.Ytknjengnipidoaa
