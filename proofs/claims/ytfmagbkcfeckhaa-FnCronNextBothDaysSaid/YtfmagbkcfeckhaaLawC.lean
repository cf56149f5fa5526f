/- What an answer's date and time are; stars of two sets. Plain. -/
import Derived.Test.YtfmagbkcfeckhaaClockX
set_option linter.unusedVariables false
set_option linter.unusedSimpArgs false
namespace Go.Proofs.Ytfmagbkcfeckhaa
open Go.RowKit

theorem or_star (a b : Int) (a0 : 0 ≤ a) (a1 : a < 18446744073709551616) (b0 : 0 ≤ b) (b1 : b < 18446744073709551616) : (bits .and .u64 (bits .or .u64 a b) 9223372036854775808 == 0) = !(starB a || starB b) := by
  obtain ⟨m, rfl⟩ : ∃ n : Nat, a = n := ⟨a.toNat, by omega⟩
  obtain ⟨n, rfl⟩ : ∃ n : Nat, b = n := ⟨b.toNat, by omega⟩
  have hm : m < 2 ^ 64 := by omega
  have hn : n < 2 ^ 64 := by omega
  have ho : m ||| n < 2 ^ 64 := Nat.or_lt_two_pow hm hn
  have e0 : bits .or .u64 (m : Int) (n : Int) = ((m ||| n : Nat) : Int) := u64_or_nat _ _ (by omega) (by omega)
  have e1 : bits .and .u64 ((m ||| n : Nat) : Int) 9223372036854775808 = (((m ||| n) &&& 9223372036854775808 : Nat) : Int) := u64_and_nat _ 9223372036854775808 (by omega) (by omega)
  have e2 : bits .and .u64 (m : Int) 9223372036854775808 = ((m &&& 9223372036854775808 : Nat) : Int) := u64_and_nat _ 9223372036854775808 (by omega) (by omega)
  have e3 : bits .and .u64 (n : Int) 9223372036854775808 = ((n &&& 9223372036854775808 : Nat) : Int) := u64_and_nat _ 9223372036854775808 (by omega) (by omega)
  unfold starB
  rw [e0, e1, e2, e3, Nat.and_or_distrib_right]
  generalize m &&& 9223372036854775808 = x
  generalize n &&& 9223372036854775808 = y
  by_cases hx : x = 0
  · subst hx
    rw [Nat.zero_or]
    by_cases hy : y = 0
    · subst hy
      rfl
    · rw [beq_eq_false_iff_ne.2 (by omega), decide_eq_true (show (0 : Int) < (y : Int) by omega)]
      simp
  · have : x ||| y ≠ 0 := fun h => hx (Nat.or_eq_zero_iff.1 h).1
    rw [beq_eq_false_iff_ne.2 (by omega), decide_eq_true (show (0 : Int) < (x : Int) by omega)]
    simp
/-- The bits that an answer's date and time ask. -/
theorem ans_bits {S : Sets} {s x : Int} (hS : setsAll S) (h1 : -62135596800 ≤ s) (h2 : s ≤ 253402300799) (h : IsAns S s 0 x true) (hst : starB S.dom = true ∨ starB S.dow = true) :
    s < x ∧ x ≤ 258000000000 ∧ ∃ (M D H Mi Se : Nat), mP (x / 86400) = M ∧ dP (x / 86400) = D ∧ x % 86400 / 3600 = H ∧ x % 3600 / 60 = Mi ∧ x % 60 = Se ∧
      (bits .and .u64 (S.dom / 2 ^ D) 1 == 1) = true ∧ (bits .and .u64 (S.dow / 2 ^ (wdN (x / 86400))) 1 == 1) = true ∧ (bits .and .u64 (S.month / 2 ^ M) 1 == 1) = true ∧ (bits .and .u64 (S.hour / 2 ^ H) 1 == 1) = true ∧ (bits .and .u64 (S.min / 2 ^ Mi) 1 == 1) = true ∧ (bits .and .u64 (S.sec / 2 ^ Se) 1 == 1) = true ∧ M < 63 ∧ D < 63 ∧ H < 63 ∧ Mi < 63 ∧ Se < 63 := by
  have hgt := ans_gt h
  rcases h with ⟨_, l, rfl, hf⟩ | ⟨h, _⟩
  · rw [Int.sub_zero] at hgt ⊢
    obtain ⟨f1, f2, f3, ⟨g1, g2, g3, g4, g5⟩, f5⟩ := hf
    have y := year_10000 (day := (s + 1) / 86400) (by omega) (by omega)
    have hd := year_3000000 (day := l / 86400) (by omega) (by omega) (Int.le_trans f3 (by omega))
    obtain ⟨p1, p2, p3, p4⟩ := mP_bounds (day := l / 86400) (by omega) (by omega)
    have p5 := Int.le_trans p4 (md_pos (yP (l / 86400)) (mP (l / 86400))).2
    obtain ⟨M, hM⟩ : ∃ M : Nat, mP (l / 86400) = M := Int.eq_ofNat_of_zero_le (Int.le_trans (by decide) p1)
    obtain ⟨D, hD⟩ : ∃ D : Nat, dP (l / 86400) = D := Int.eq_ofNat_of_zero_le (Int.le_trans (by decide) p3)
    obtain ⟨H, hH⟩ : ∃ D : Nat, l % 86400 / 3600 = D := Int.eq_ofNat_of_zero_le (by omega)
    obtain ⟨Mi, hMi⟩ : ∃ D : Nat, l % 3600 / 60 = D := Int.eq_ofNat_of_zero_le (by omega)
    obtain ⟨Se, hSe⟩ : ∃ D : Nat, l % 60 = D := Int.eq_ofNat_of_zero_le (by omega)
    have dm : mdN (ydN (absD (l / 86400))) = D := by unfold dP at hD; exact Int.ofNat_inj.1 hD
    have hw := wdN_le (l / 86400)
    unfold monOK at g1
    unfold dayOK at g2
    unfold hourOK at g3
    unfold minOK at g4
    unfold secOK at g5
    rw [hM, Int.toNat_natCast] at g1
    rw [dm] at g2
    rw [hH, Int.toNat_natCast] at g3
    rw [hMi, Int.toNat_natCast] at g4
    rw [hSe, Int.toNat_natCast] at g5
    have hstb : (starB S.dom || starB S.dow) = true := by rw [Bool.or_eq_true]; exact hst
    unfold dmB at g2
    rw [if_pos hstb, Bool.and_eq_true] at g2
    have q1 : M ≤ 12 := Int.ofNat_le.1 (hM ▸ p2)
    have q2 : D ≤ 31 := Int.ofNat_le.1 (hD ▸ p5)
    have s3 : 0 ≤ S.dom ∧ S.dom < 18446744073709551616 := hS 3 (by omega)
    have s5 : 0 ≤ S.dow ∧ S.dow < 18446744073709551616 := hS 5 (by omega)
    have s4 : 0 ≤ S.month ∧ S.month < 18446744073709551616 := hS 4 (by omega)
    have s2 : 0 ≤ S.hour ∧ S.hour < 18446744073709551616 := hS 2 (by omega)
    have s1 : 0 ≤ S.min ∧ S.min < 18446744073709551616 := hS 1 (by omega)
    have s0 : 0 ≤ S.sec ∧ S.sec < 18446744073709551616 := hS 0 (by omega)
    refine ⟨hgt, by omega, M, D, H, Mi, Se, hM, hD, hH, hMi, hSe, ?_, ?_, ?_, ?_, ?_, ?_, Nat.lt_of_le_of_lt q1 (by decide), Nat.lt_of_le_of_lt q2 (by decide), by clear hM hD dm; omega, by clear hM hD dm; omega, by clear hM hD dm; omega⟩
    · rw [shr_bit _ _ s3.1 s3.2 (Nat.lt_of_le_of_lt q2 (by decide))]; exact g2.1
    · rw [shr_bit _ _ s5.1 s5.2 (Nat.lt_of_le_of_lt hw (by decide))]; exact g2.2
    · rw [shr_bit _ _ s4.1 s4.2 (Nat.lt_of_le_of_lt q1 (by decide))]; exact g1
    · rw [shr_bit _ _ s2.1 s2.2 (by clear hM hD dm; omega)]; exact g3
    · rw [shr_bit _ _ s1.1 s1.2 (by clear hM hD dm; omega)]; exact g4
    · rw [shr_bit _ _ s0.1 s0.2 (by clear hM hD dm; omega)]; exact g5
  · cases h
/-- The store of a whole date and time, as one step of the walk. -/
theorem sc38 (w : World) (b : Nat) (Y M D h m s n d : Int) (ht : w.there b 0 8) : (storeCells ⟨b, 0, none⟩ [.int .i64 Y, .int .i64 M, .int .i64 D, .int .i64 h, .int .i64 m, .int .i64 s, .int .i64 n, .int .i64 d] 0).run Try.prog w = .ok () (w.setCells b 0 [.int .i64 Y, .int .i64 M, .int .i64 D, .int .i64 h, .int .i64 m, .int .i64 s, .int .i64 n, .int .i64 d]) :=
  run_storeCells_cells (P := Try.prog) b 0 [.int .i64 Y, .int .i64 M, .int .i64 D, .int .i64 h, .int .i64 m, .int .i64 s, .int .i64 n, .int .i64 d] 0 w (fun j hj => by simpa using (ht j (by simpa using hj)).1) (fun j hj => by simpa using (ht j (by simpa using hj)).2) (fun v hv => by
    simp only [List.mem_cons, List.not_mem_nil, or_false] at hv
    rcases hv with rfl | rfl | rfl | rfl | rfl | rfl | rfl | rfl <;> rfl)
theorem keepI {x n : Int} {g : Nat} {t : TypeId} {w w' : World} (h : Blk w g t (icells x n)) (hb : Below w.heap.size w w') : w'.cell? ⟨g, 0, none⟩ = some (.int .i64 x) ∧ w'.cell? ⟨g, 1, none⟩ = some (.int .i64 n) := ⟨(h.below hb).cell 0, (h.below hb).cell 1⟩
end Go.Proofs.Ytfmagbkcfeckhaa
