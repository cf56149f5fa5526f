/- The semver package's constraint functions: one contract each. -/
import Derived.Test.YtkohcmgckkenpaaDoorOpCaret
import Derived.Test.YtkohcmgckkenpaaDoorOpLeast
import Derived.Test.YtkohcmgckkenpaaDoorOpMost
import Derived.Test.YtkohcmgckkenpaaDoorOpAbove
import Derived.Test.YtkohcmgckkenpaaDoorOpTilde
import Derived.Test.YtkohcmgckkenpaaDoorOpTildeB
import Derived.Test.YtkohcmgckkenpaaDoorOpEq
import Derived.Test.YtkohcmgckkenpaaDoorOpNot
import Derived.Test.YtkohcmgckkenpaaDoorOpNotB
set_option linter.unusedVariables false
set_option linter.unusedSimpArgs false
namespace Go.Proofs.YtkohcmgckkenpaaDoor
open Go.RowKit

theorem caret_any (g h k : Nat) (a b c : Int) (p m : ByteArray) (a' b' c' : Int) (p' m' op og : ByteArray) (mi di pa : Bool) (pre : Bool) (n : Int) (w : World) (hcf : CF w g h k a b c p m a' b' c' p' m' op og mi di pa) (hv : Vars w) (hc : CmpIs g h k a b c p m a' b' c' p' m' op og mi di pa n) (ra : 0 ≤ a) (rb : 0 ≤ b) (ra' : 0 ≤ a') (rb' : 0 ≤ b') :
    Calls Tryd.prog 49 #[.pointer (some ⟨g, 0, none⟩), .pointer (some ⟨k, 0, none⟩), .bool pre] w fun e w' => (∃ er, e = .returned (.tuple #[.bool (opCaret (preBar p pre) n a b c a' b' c' mi pa), er])) ∧ Below w.heap.size w w' := by
  cases hB : preBar p pre
  · have hbar := preBar_no hB
    by_cases hn : n < 0
    · exact (caret_2 _ _ _ _ _ _ _ _ _ _ _ _ _ _ _ _ _ _ pre n w hcf hv hc hn hbar).mono fun _ _ ⟨⟨er, he⟩, hb⟩ => ⟨⟨er, he.trans (rett (by first | (simp [opCaret, *]; done) | (simp_all [opCaret]; done) | (simp only [beq_eq_false_iff_ne, beq_iff_eq, ne_eq] at *; simp [opCaret, *] <;> omega)))⟩, hb⟩
    · by_cases ha : 0 < a'
      · cases hq : (a == a')
        · exact (caret_5 _ _ _ _ _ _ _ _ _ _ _ _ _ _ _ _ _ _ pre n w hcf hv hc hn ha hq hbar).mono fun _ _ ⟨⟨er, he⟩, hb⟩ => ⟨⟨er, he.trans (rett (by first | (simp [opCaret, *]; done) | (simp_all [opCaret]; done) | (simp only [beq_eq_false_iff_ne, beq_iff_eq, ne_eq] at *; simp [opCaret, *] <;> omega)))⟩, hb⟩
        · exact (caret_3 _ _ _ _ _ _ _ _ _ _ _ _ _ _ _ _ _ _ pre n w hcf hv hc hn ha hq hbar).mono fun _ _ ⟨⟨er, he⟩, hb⟩ => ⟨⟨er, he.trans (rett (by first | (simp [opCaret, *]; done) | (simp_all [opCaret]; done) | (simp only [beq_eq_false_iff_ne, beq_iff_eq, ne_eq] at *; simp [opCaret, *] <;> omega)))⟩, hb⟩
      · have ha0 : a' = 0 := by omega
        cases mi
        · by_cases hx : 0 < a
          · exact (caret_7 _ _ _ _ _ _ _ _ _ _ _ _ _ _ _ _ _ _ pre n w hcf hv hc hn ha0 rfl hx hbar).mono fun _ _ ⟨⟨er, he⟩, hb⟩ => ⟨⟨er, he.trans (rett (by first | (simp [opCaret, *]; done) | (simp_all [opCaret]; done) | (simp only [beq_eq_false_iff_ne, beq_iff_eq, ne_eq] at *; simp [opCaret, *] <;> omega)))⟩, hb⟩
          · have hza : a = 0 := by omega
            by_cases hb' : 0 < b'
            · cases hq : (b == b')
              · exact (caret_10 _ _ _ _ _ _ _ _ _ _ _ _ _ _ _ _ _ _ pre n w hcf hv hc hn ha0 rfl hza hb' hq hbar).mono fun _ _ ⟨⟨er, he⟩, hb⟩ => ⟨⟨er, he.trans (rett (by first | (simp [opCaret, *]; done) | (simp_all [opCaret]; done) | (simp only [beq_eq_false_iff_ne, beq_iff_eq, ne_eq] at *; simp [opCaret, *] <;> omega)))⟩, hb⟩
              · exact (caret_8 _ _ _ _ _ _ _ _ _ _ _ _ _ _ _ _ _ _ pre n w hcf hv hc hn ha0 rfl hza hb' hq hbar).mono fun _ _ ⟨⟨er, he⟩, hb⟩ => ⟨⟨er, he.trans (rett (by first | (simp [opCaret, *]; done) | (simp_all [opCaret]; done) | (simp only [beq_eq_false_iff_ne, beq_iff_eq, ne_eq] at *; simp [opCaret, *] <;> omega)))⟩, hb⟩
            · have hb0 : b' = 0 := by omega
              cases pa
              · by_cases hy : 0 < b
                · exact (caret_12 _ _ _ _ _ _ _ _ _ _ _ _ _ _ _ _ _ _ pre n w hcf hv hc hn ha0 rfl hza hb0 rfl hy hbar).mono fun _ _ ⟨⟨er, he⟩, hb⟩ => ⟨⟨er, he.trans (rett (by first | (simp [opCaret, *]; done) | (simp_all [opCaret]; done) | (simp only [beq_eq_false_iff_ne, beq_iff_eq, ne_eq] at *; simp [opCaret, *] <;> omega)))⟩, hb⟩
                · have hzb : b = 0 := by omega
                  cases hq : (c' == c)
                  · exact (caret_14 _ _ _ _ _ _ _ _ _ _ _ _ _ _ _ _ _ _ pre n w hcf hv hc hn ha0 rfl hza hb0 rfl hzb hq hbar).mono fun _ _ ⟨⟨er, he⟩, hb⟩ => ⟨⟨er, he.trans (rett (by first | (simp [opCaret, *]; done) | (simp_all [opCaret]; done) | (simp only [beq_eq_false_iff_ne, beq_iff_eq, ne_eq] at *; simp [opCaret, *] <;> omega)))⟩, hb⟩
                  · exact (caret_13 _ _ _ _ _ _ _ _ _ _ _ _ _ _ _ _ _ _ pre n w hcf hv hc hn ha0 rfl hza hb0 rfl hzb hq hbar).mono fun _ _ ⟨⟨er, he⟩, hb⟩ => ⟨⟨er, he.trans (rett (by first | (simp [opCaret, *]; done) | (simp_all [opCaret]; done) | (simp only [beq_eq_false_iff_ne, beq_iff_eq, ne_eq] at *; simp [opCaret, *] <;> omega)))⟩, hb⟩
              · cases hq : (b == b')
                · exact (caret_11 _ _ _ _ _ _ _ _ _ _ _ _ _ _ _ _ _ _ pre n w hcf hv hc hn ha0 rfl hza hb0 rfl hq hbar).mono fun _ _ ⟨⟨er, he⟩, hb⟩ => ⟨⟨er, he.trans (rett (by first | (simp [opCaret, *]; done) | (simp_all [opCaret]; done) | (simp only [beq_eq_false_iff_ne, beq_iff_eq, ne_eq] at *; simp [opCaret, *] <;> omega)))⟩, hb⟩
                · exact (caret_9 _ _ _ _ _ _ _ _ _ _ _ _ _ _ _ _ _ _ pre n w hcf hv hc hn ha0 rfl hza hb0 rfl hq hbar).mono fun _ _ ⟨⟨er, he⟩, hb⟩ => ⟨⟨er, he.trans (rett (by first | (simp [opCaret, *]; done) | (simp_all [opCaret]; done) | (simp only [beq_eq_false_iff_ne, beq_iff_eq, ne_eq] at *; simp [opCaret, *] <;> omega)))⟩, hb⟩
        · cases hq : (a == a')
          · exact (caret_6 _ _ _ _ _ _ _ _ _ _ _ _ _ _ _ _ _ _ pre n w hcf hv hc hn ha0 rfl hq hbar).mono fun _ _ ⟨⟨er, he⟩, hb⟩ => ⟨⟨er, he.trans (rett (by first | (simp [opCaret, *]; done) | (simp_all [opCaret]; done) | (simp only [beq_eq_false_iff_ne, beq_iff_eq, ne_eq] at *; simp [opCaret, *] <;> omega)))⟩, hb⟩
          · exact (caret_4 _ _ _ _ _ _ _ _ _ _ _ _ _ _ _ _ _ _ pre n w hcf hv hc hn ha0 rfl hq hbar).mono fun _ _ ⟨⟨er, he⟩, hb⟩ => ⟨⟨er, he.trans (rett (by first | (simp [opCaret, *]; done) | (simp_all [opCaret]; done) | (simp only [beq_eq_false_iff_ne, beq_iff_eq, ne_eq] at *; simp [opCaret, *] <;> omega)))⟩, hb⟩
  · obtain ⟨hB1, hB2⟩ := preBar_yes hB
    exact (caret_1 _ _ _ _ _ _ _ _ _ _ _ _ _ _ _ _ _ _ pre n w hcf hv hc hB1 hB2).mono fun _ _ ⟨⟨er, he⟩, hb⟩ => ⟨⟨er, he.trans (rett (by first | (simp [opCaret, *]; done) | (simp_all [opCaret]; done) | (simp only [beq_eq_false_iff_ne, beq_iff_eq, ne_eq] at *; simp [opCaret, *] <;> omega)))⟩, hb⟩

theorem least_any (g h k : Nat) (a b c : Int) (p m : ByteArray) (a' b' c' : Int) (p' m' op og : ByteArray) (mi di pa : Bool) (pre : Bool) (n : Int) (w : World) (hcf : CF w g h k a b c p m a' b' c' p' m' op og mi di pa) (hv : Vars w) (hc : CmpIs g h k a b c p m a' b' c' p' m' op og mi di pa n) :
    Calls Tryd.prog 46 #[.pointer (some ⟨g, 0, none⟩), .pointer (some ⟨k, 0, none⟩), .bool pre] w fun e w' => (∃ er, e = .returned (.tuple #[.bool (opLeast (preBar p pre) n), er])) ∧ Below w.heap.size w w' := by
  cases hB : preBar p pre
  · have hbar := preBar_no hB
    by_cases hn : 0 ≤ n
    · exact (least_2 _ _ _ _ _ _ _ _ _ _ _ _ _ _ _ _ _ _ pre n w hcf hv hc hn hbar).mono fun _ _ ⟨⟨er, he⟩, hb⟩ => ⟨⟨er, he.trans (rett (by first | (simp [opLeast, *]; done) | (simp_all [opLeast]; done) | (simp only [beq_eq_false_iff_ne, beq_iff_eq, ne_eq] at *; simp [opLeast, *] <;> omega)))⟩, hb⟩
    · exact (least_3 _ _ _ _ _ _ _ _ _ _ _ _ _ _ _ _ _ _ pre n w hcf hv hc hn hbar).mono fun _ _ ⟨⟨er, he⟩, hb⟩ => ⟨⟨er, he.trans (rett (by first | (simp [opLeast, *]; done) | (simp_all [opLeast]; done) | (simp only [beq_eq_false_iff_ne, beq_iff_eq, ne_eq] at *; simp [opLeast, *] <;> omega)))⟩, hb⟩
  · obtain ⟨hB1, hB2⟩ := preBar_yes hB
    exact (least_1 _ _ _ _ _ _ _ _ _ _ _ _ _ _ _ _ _ _ pre n w hcf hv hc hB1 hB2).mono fun _ _ ⟨⟨er, he⟩, hb⟩ => ⟨⟨er, he.trans (rett (by first | (simp [opLeast, *]; done) | (simp_all [opLeast]; done) | (simp only [beq_eq_false_iff_ne, beq_iff_eq, ne_eq] at *; simp [opLeast, *] <;> omega)))⟩, hb⟩

theorem below_any (g h k : Nat) (a b c : Int) (p m : ByteArray) (a' b' c' : Int) (p' m' op og : ByteArray) (mi di pa : Bool) (pre : Bool) (n : Int) (w : World) (hcf : CF w g h k a b c p m a' b' c' p' m' op og mi di pa) (hv : Vars w) (hc : CmpIs g h k a b c p m a' b' c' p' m' op og mi di pa n) :
    Calls Tryd.prog 45 #[.pointer (some ⟨g, 0, none⟩), .pointer (some ⟨k, 0, none⟩), .bool pre] w fun e w' => (∃ er, e = .returned (.tuple #[.bool (opBelow (preBar p pre) n), er])) ∧ Below w.heap.size w w' := by
  cases hB : preBar p pre
  · have hbar := preBar_no hB
    by_cases hn : n < 0
    · exact (below_2 _ _ _ _ _ _ _ _ _ _ _ _ _ _ _ _ _ _ pre n w hcf hv hc hn hbar).mono fun _ _ ⟨⟨er, he⟩, hb⟩ => ⟨⟨er, he.trans (rett (by first | (simp [opBelow, *]; done) | (simp_all [opBelow]; done) | (simp only [beq_eq_false_iff_ne, beq_iff_eq, ne_eq] at *; simp [opBelow, *] <;> omega)))⟩, hb⟩
    · exact (below_3 _ _ _ _ _ _ _ _ _ _ _ _ _ _ _ _ _ _ pre n w hcf hv hc hn hbar).mono fun _ _ ⟨⟨er, he⟩, hb⟩ => ⟨⟨er, he.trans (rett (by first | (simp [opBelow, *]; done) | (simp_all [opBelow]; done) | (simp only [beq_eq_false_iff_ne, beq_iff_eq, ne_eq] at *; simp [opBelow, *] <;> omega)))⟩, hb⟩
  · obtain ⟨hB1, hB2⟩ := preBar_yes hB
    exact (below_1 _ _ _ _ _ _ _ _ _ _ _ _ _ _ _ _ _ _ pre n w hcf hv hc hB1 hB2).mono fun _ _ ⟨⟨er, he⟩, hb⟩ => ⟨⟨er, he.trans (rett (by first | (simp [opBelow, *]; done) | (simp_all [opBelow]; done) | (simp only [beq_eq_false_iff_ne, beq_iff_eq, ne_eq] at *; simp [opBelow, *] <;> omega)))⟩, hb⟩

theorem most_any (g h k : Nat) (a b c : Int) (p m : ByteArray) (a' b' c' : Int) (p' m' op og : ByteArray) (mi di pa : Bool) (pre : Bool) (n : Int) (w : World) (hcf : CF w g h k a b c p m a' b' c' p' m' op og mi di pa) (hv : Vars w) (hc : CmpIs g h k a b c p m a' b' c' p' m' op og mi di pa n) :
    Calls Tryd.prog 47 #[.pointer (some ⟨g, 0, none⟩), .pointer (some ⟨k, 0, none⟩), .bool pre] w fun e w' => (∃ er, e = .returned (.tuple #[.bool (opMost (preBar p pre) n a b a' b' mi di), er])) ∧ Below w.heap.size w w' := by
  cases hB : preBar p pre
  · have hbar := preBar_no hB
    cases di
    · by_cases hn : n ≤ 0
      · exact (most_2 _ _ _ _ _ _ _ _ _ _ _ _ _ _ _ _ _ _ pre n w hcf hv hc rfl hn hbar).mono fun _ _ ⟨⟨er, he⟩, hb⟩ => ⟨⟨er, he.trans (rett (by first | (simp [opMost, *]; done) | (simp_all [opMost]; done) | (simp only [beq_eq_false_iff_ne, beq_iff_eq, ne_eq] at *; simp [opMost, *] <;> omega)))⟩, hb⟩
      · exact (most_3 _ _ _ _ _ _ _ _ _ _ _ _ _ _ _ _ _ _ pre n w hcf hv hc rfl hn hbar).mono fun _ _ ⟨⟨er, he⟩, hb⟩ => ⟨⟨er, he.trans (rett (by first | (simp [opMost, *]; done) | (simp_all [opMost]; done) | (simp only [beq_eq_false_iff_ne, beq_iff_eq, ne_eq] at *; simp [opMost, *] <;> omega)))⟩, hb⟩
    · by_cases ha : a' < a
      · exact (most_4 _ _ _ _ _ _ _ _ _ _ _ _ _ _ _ _ _ _ pre n w hcf hv hc rfl ha hbar).mono fun _ _ ⟨⟨er, he⟩, hb⟩ => ⟨⟨er, he.trans (rett (by first | (simp [opMost, *]; done) | (simp_all [opMost]; done) | (simp only [beq_eq_false_iff_ne, beq_iff_eq, ne_eq] at *; simp [opMost, *] <;> omega)))⟩, hb⟩
      · cases hq : (a == a')
        · have hqe : a ≠ a' := by simpa using hq
          exact (most_5 _ _ _ _ _ _ _ _ _ _ _ _ _ _ _ _ _ _ pre n w hcf hv hc rfl ha hq hbar).mono fun _ _ ⟨⟨er, he⟩, hb⟩ => ⟨⟨er, he.trans (rett (by first | (simp [opMost, *]; done) | (simp_all [opMost]; done) | (simp only [beq_eq_false_iff_ne, beq_iff_eq, ne_eq] at *; simp [opMost, *] <;> omega)))⟩, hb⟩
        · have hqe : a = a' := by simpa using hq
          by_cases hb : b' < b
          · cases mi
            · exact (most_6 _ _ _ _ _ _ _ _ _ _ _ _ _ _ _ _ _ _ pre n w hcf hv hc rfl ha hq hb rfl hbar).mono fun _ _ ⟨⟨er, he⟩, hb⟩ => ⟨⟨er, he.trans (rett (by first | (simp [opMost, *]; done) | (simp_all [opMost]; done) | (simp only [beq_eq_false_iff_ne, beq_iff_eq, ne_eq] at *; simp [opMost, *] <;> omega)))⟩, hb⟩
            · exact (most_7 _ _ _ _ _ _ _ _ _ _ _ _ _ _ _ _ _ _ pre n w hcf hv hc rfl ha hq hb rfl hbar).mono fun _ _ ⟨⟨er, he⟩, hb⟩ => ⟨⟨er, he.trans (rett (by first | (simp [opMost, *]; done) | (simp_all [opMost]; done) | (simp only [beq_eq_false_iff_ne, beq_iff_eq, ne_eq] at *; simp [opMost, *] <;> omega)))⟩, hb⟩
          · exact (most_8 _ _ _ _ _ _ _ _ _ _ _ _ _ _ _ _ _ _ pre n w hcf hv hc rfl ha hq hb hbar).mono fun _ _ ⟨⟨er, he⟩, hb⟩ => ⟨⟨er, he.trans (rett (by first | (simp [opMost, *]; done) | (simp_all [opMost]; done) | (simp only [beq_eq_false_iff_ne, beq_iff_eq, ne_eq] at *; simp [opMost, *] <;> omega)))⟩, hb⟩
  · obtain ⟨hB1, hB2⟩ := preBar_yes hB
    exact (most_1 _ _ _ _ _ _ _ _ _ _ _ _ _ _ _ _ _ _ pre n w hcf hv hc hB1 hB2).mono fun _ _ ⟨⟨er, he⟩, hb⟩ => ⟨⟨er, he.trans (rett (by first | (simp [opMost, *]; done) | (simp_all [opMost]; done) | (simp only [beq_eq_false_iff_ne, beq_iff_eq, ne_eq] at *; simp [opMost, *] <;> omega)))⟩, hb⟩

theorem above_any (g h k : Nat) (a b c : Int) (p m : ByteArray) (a' b' c' : Int) (p' m' op og : ByteArray) (mi di pa : Bool) (pre : Bool) (n : Int) (w : World) (hcf : CF w g h k a b c p m a' b' c' p' m' op og mi di pa) (hv : Vars w) (hc : CmpIs g h k a b c p m a' b' c' p' m' op og mi di pa n) :
    Calls Tryd.prog 44 #[.pointer (some ⟨g, 0, none⟩), .pointer (some ⟨k, 0, none⟩), .bool pre] w fun e w' => (∃ er, e = .returned (.tuple #[.bool (opAbove (preBar p pre) n a b a' b' mi di pa), er])) ∧ Below w.heap.size w w' := by
  cases hB : preBar p pre
  · have hbar := preBar_no hB
    cases di
    · cases hn : (n == 1)
      · exact (above_3 _ _ _ _ _ _ _ _ _ _ _ _ _ _ _ _ _ _ pre n w hcf hv hc rfl hn hbar).mono fun _ _ ⟨⟨er, he⟩, hb⟩ => ⟨⟨er, he.trans (rett (by first | (simp [opAbove, *]; done) | (simp_all [opAbove]; done) | (simp only [beq_eq_false_iff_ne, beq_iff_eq, ne_eq] at *; simp [opAbove, *] <;> omega)))⟩, hb⟩
      · exact (above_2 _ _ _ _ _ _ _ _ _ _ _ _ _ _ _ _ _ _ pre n w hcf hv hc rfl hn hbar).mono fun _ _ ⟨⟨er, he⟩, hb⟩ => ⟨⟨er, he.trans (rett (by first | (simp [opAbove, *]; done) | (simp_all [opAbove]; done) | (simp only [beq_eq_false_iff_ne, beq_iff_eq, ne_eq] at *; simp [opAbove, *] <;> omega)))⟩, hb⟩
    · by_cases ha : a' < a
      · exact (above_4 _ _ _ _ _ _ _ _ _ _ _ _ _ _ _ _ _ _ pre n w hcf hv hc rfl ha hbar).mono fun _ _ ⟨⟨er, he⟩, hb⟩ => ⟨⟨er, he.trans (rett (by first | (simp [opAbove, *]; done) | (simp_all [opAbove]; done) | (simp only [beq_eq_false_iff_ne, beq_iff_eq, ne_eq] at *; simp [opAbove, *] <;> omega)))⟩, hb⟩
      · by_cases hl : a < a'
        · exact (above_5 _ _ _ _ _ _ _ _ _ _ _ _ _ _ _ _ _ _ pre n w hcf hv hc rfl ha hl hbar).mono fun _ _ ⟨⟨er, he⟩, hb⟩ => ⟨⟨er, he.trans (rett (by first | (simp [opAbove, *]; done) | (simp_all [opAbove]; done) | (simp only [beq_eq_false_iff_ne, beq_iff_eq, ne_eq] at *; simp [opAbove, *] <;> omega)))⟩, hb⟩
        · cases mi
          · cases pa
            · cases hn : (n == 1)
              · exact (above_10 _ _ _ _ _ _ _ _ _ _ _ _ _ _ _ _ _ _ pre n w hcf hv hc rfl ha hl rfl rfl hn hbar).mono fun _ _ ⟨⟨er, he⟩, hb⟩ => ⟨⟨er, he.trans (rett (by first | (simp [opAbove, *]; done) | (simp_all [opAbove]; done) | (simp only [beq_eq_false_iff_ne, beq_iff_eq, ne_eq] at *; simp [opAbove, *] <;> omega)))⟩, hb⟩
              · exact (above_9 _ _ _ _ _ _ _ _ _ _ _ _ _ _ _ _ _ _ pre n w hcf hv hc rfl ha hl rfl rfl hn hbar).mono fun _ _ ⟨⟨er, he⟩, hb⟩ => ⟨⟨er, he.trans (rett (by first | (simp [opAbove, *]; done) | (simp_all [opAbove]; done) | (simp only [beq_eq_false_iff_ne, beq_iff_eq, ne_eq] at *; simp [opAbove, *] <;> omega)))⟩, hb⟩
            · by_cases hb : b' < b
              · exact (above_7 _ _ _ _ _ _ _ _ _ _ _ _ _ _ _ _ _ _ pre n w hcf hv hc rfl ha hl rfl rfl hb hbar).mono fun _ _ ⟨⟨er, he⟩, hb⟩ => ⟨⟨er, he.trans (rett (by first | (simp [opAbove, *]; done) | (simp_all [opAbove]; done) | (simp only [beq_eq_false_iff_ne, beq_iff_eq, ne_eq] at *; simp [opAbove, *] <;> omega)))⟩, hb⟩
              · exact (above_8 _ _ _ _ _ _ _ _ _ _ _ _ _ _ _ _ _ _ pre n w hcf hv hc rfl ha hl rfl rfl hb hbar).mono fun _ _ ⟨⟨er, he⟩, hb⟩ => ⟨⟨er, he.trans (rett (by first | (simp [opAbove, *]; done) | (simp_all [opAbove]; done) | (simp only [beq_eq_false_iff_ne, beq_iff_eq, ne_eq] at *; simp [opAbove, *] <;> omega)))⟩, hb⟩
          · exact (above_6 _ _ _ _ _ _ _ _ _ _ _ _ _ _ _ _ _ _ pre n w hcf hv hc rfl ha hl rfl hbar).mono fun _ _ ⟨⟨er, he⟩, hb⟩ => ⟨⟨er, he.trans (rett (by first | (simp [opAbove, *]; done) | (simp_all [opAbove]; done) | (simp only [beq_eq_false_iff_ne, beq_iff_eq, ne_eq] at *; simp [opAbove, *] <;> omega)))⟩, hb⟩
  · obtain ⟨hB1, hB2⟩ := preBar_yes hB
    exact (above_1 _ _ _ _ _ _ _ _ _ _ _ _ _ _ _ _ _ _ pre n w hcf hv hc hB1 hB2).mono fun _ _ ⟨⟨er, he⟩, hb⟩ => ⟨⟨er, he.trans (rett (by first | (simp [opAbove, *]; done) | (simp_all [opAbove]; done) | (simp only [beq_eq_false_iff_ne, beq_iff_eq, ne_eq] at *; simp [opAbove, *] <;> omega)))⟩, hb⟩

theorem tilde_any (g h k : Nat) (a b c : Int) (p m : ByteArray) (a' b' c' : Int) (p' m' op og : ByteArray) (mi di pa : Bool) (pre : Bool) (n : Int) (w : World) (hcf : CF w g h k a b c p m a' b' c' p' m' op og mi di pa) (hv : Vars w) (hc : CmpIs g h k a b c p m a' b' c' p' m' op og mi di pa n) (hmp : mi = true → pa ≠ true) :
    Calls Tryd.prog 48 #[.pointer (some ⟨g, 0, none⟩), .pointer (some ⟨k, 0, none⟩), .bool pre] w fun e w' => (∃ er, e = .returned (.tuple #[.bool (opTilde (preBar p pre) n a b a' b' c' mi pa), er])) ∧ Below w.heap.size w w' := by
  cases hB : preBar p pre
  · have hbar := preBar_no hB
    by_cases hn : n < 0
    · exact (tilde_2 _ _ _ _ _ _ _ _ _ _ _ _ _ _ _ _ _ _ pre n w hcf hv hc hn hbar).mono fun _ _ ⟨⟨er, he⟩, hb⟩ => ⟨⟨er, he.trans (rett (by first | (simp [opTilde, *]; done) | (simp_all [opTilde]; done) | (simp only [beq_eq_false_iff_ne, beq_iff_eq, ne_eq] at *; simp [opTilde, *] <;> omega)))⟩, hb⟩
    · by_cases ha : a' = 0
      · by_cases hb : b' = 0
        · by_cases hc0 : c' = 0
          · cases mi
            · cases pa
              · exact (tilde_3 _ _ _ _ _ _ _ _ _ _ _ _ _ _ _ _ _ _ pre n w hcf hv hc hn ha hb hc0 rfl rfl hbar).mono fun _ _ ⟨⟨er, he⟩, hb⟩ => ⟨⟨er, he.trans (rett (by first | (simp [opTilde, *]; done) | (simp_all [opTilde]; done) | (simp only [beq_eq_false_iff_ne, beq_iff_eq, ne_eq] at *; simp [opTilde, *] <;> omega)))⟩, hb⟩
              · cases hq : (a == a')
                · have hqe : a ≠ a' := by simpa using hq
                  exact (tilde_108 _ _ _ _ _ _ _ _ _ _ _ _ _ _ _ _ _ _ pre n w hcf hv hc hn ha hb hc0 rfl rfl hq hbar).mono fun _ _ ⟨⟨er, he⟩, hb⟩ => ⟨⟨er, he.trans (rett (by first | (simp [opTilde, *]; done) | (simp_all [opTilde]; done) | (simp only [beq_eq_false_iff_ne, beq_iff_eq, ne_eq] at *; simp [opTilde, *] <;> omega)))⟩, hb⟩
                · have hqe : a = a' := by simpa using hq
                  cases hq2 : (b == b')
                  · have hqe2 : b ≠ b' := by simpa using hq2
                    exact (tilde_110 _ _ _ _ _ _ _ _ _ _ _ _ _ _ _ _ _ _ pre n w hcf hv hc hn ha hb hc0 rfl rfl hq hq2 hbar).mono fun _ _ ⟨⟨er, he⟩, hb⟩ => ⟨⟨er, he.trans (rett (by first | (simp [opTilde, *]; done) | (simp_all [opTilde]; done) | (simp only [beq_eq_false_iff_ne, beq_iff_eq, ne_eq] at *; simp [opTilde, *] <;> omega)))⟩, hb⟩
                  · have hqe2 : b = b' := by simpa using hq2
                    exact (tilde_109 _ _ _ _ _ _ _ _ _ _ _ _ _ _ _ _ _ _ pre n w hcf hv hc hn ha hb hc0 rfl rfl hq hq2 hbar).mono fun _ _ ⟨⟨er, he⟩, hb⟩ => ⟨⟨er, he.trans (rett (by first | (simp [opTilde, *]; done) | (simp_all [opTilde]; done) | (simp only [beq_eq_false_iff_ne, beq_iff_eq, ne_eq] at *; simp [opTilde, *] <;> omega)))⟩, hb⟩
            · cases pa
              · cases hq : (a == a')
                · have hqe : a ≠ a' := by simpa using hq
                  exact (tilde_105 _ _ _ _ _ _ _ _ _ _ _ _ _ _ _ _ _ _ pre n w hcf hv hc hn ha hb hc0 rfl hq hbar).mono fun _ _ ⟨⟨er, he⟩, hb⟩ => ⟨⟨er, he.trans (rett (by first | (simp [opTilde, *]; done) | (simp_all [opTilde]; done) | (simp only [beq_eq_false_iff_ne, beq_iff_eq, ne_eq] at *; simp [opTilde, *] <;> omega)))⟩, hb⟩
                · have hqe : a = a' := by simpa using hq
                  cases hq2 : (b == b')
                  · have hqe2 : b ≠ b' := by simpa using hq2
                    exact (tilde_107 _ _ _ _ _ _ _ _ _ _ _ _ _ _ _ _ _ _ pre n w hcf hv hc hn ha hb hc0 rfl hq hq2 hbar).mono fun _ _ ⟨⟨er, he⟩, hb⟩ => ⟨⟨er, he.trans (rett (by first | (simp [opTilde, *]; done) | (simp_all [opTilde]; done) | (simp only [beq_eq_false_iff_ne, beq_iff_eq, ne_eq] at *; simp [opTilde, *] <;> omega)))⟩, hb⟩
                  · have hqe2 : b = b' := by simpa using hq2
                    exact (tilde_106 _ _ _ _ _ _ _ _ _ _ _ _ _ _ _ _ _ _ pre n w hcf hv hc hn ha hb hc0 rfl hq hq2 hbar).mono fun _ _ ⟨⟨er, he⟩, hb⟩ => ⟨⟨er, he.trans (rett (by first | (simp [opTilde, *]; done) | (simp_all [opTilde]; done) | (simp only [beq_eq_false_iff_ne, beq_iff_eq, ne_eq] at *; simp [opTilde, *] <;> omega)))⟩, hb⟩
              · exact absurd rfl (hmp rfl)
          · cases hq : (a == a')
            · have hqe : a ≠ a' := by simpa using hq
              exact (tilde_101 _ _ _ _ _ _ _ _ _ _ _ _ _ _ _ _ _ _ pre n w hcf hv hc hn ha hb hc0 hq hbar).mono fun _ _ ⟨⟨er, he⟩, hb⟩ => ⟨⟨er, he.trans (rett (by first | (simp [opTilde, *]; done) | (simp_all [opTilde]; done) | (simp only [beq_eq_false_iff_ne, beq_iff_eq, ne_eq] at *; simp [opTilde, *] <;> omega)))⟩, hb⟩
            · have hqe : a = a' := by simpa using hq
              cases hq2 : (b == b')
              · have hqe2 : b ≠ b' := by simpa using hq2
                cases mi
                · exact (tilde_103 _ _ _ _ _ _ _ _ _ _ _ _ _ _ _ _ _ _ pre n w hcf hv hc hn ha hb hc0 hq hq2 rfl hbar).mono fun _ _ ⟨⟨er, he⟩, hb⟩ => ⟨⟨er, he.trans (rett (by first | (simp [opTilde, *]; done) | (simp_all [opTilde]; done) | (simp only [beq_eq_false_iff_ne, beq_iff_eq, ne_eq] at *; simp [opTilde, *] <;> omega)))⟩, hb⟩
                · exact (tilde_104 _ _ _ _ _ _ _ _ _ _ _ _ _ _ _ _ _ _ pre n w hcf hv hc hn ha hb hc0 hq hq2 rfl hbar).mono fun _ _ ⟨⟨er, he⟩, hb⟩ => ⟨⟨er, he.trans (rett (by first | (simp [opTilde, *]; done) | (simp_all [opTilde]; done) | (simp only [beq_eq_false_iff_ne, beq_iff_eq, ne_eq] at *; simp [opTilde, *] <;> omega)))⟩, hb⟩
              · have hqe2 : b = b' := by simpa using hq2
                exact (tilde_102 _ _ _ _ _ _ _ _ _ _ _ _ _ _ _ _ _ _ pre n w hcf hv hc hn ha hb hc0 hq hq2 hbar).mono fun _ _ ⟨⟨er, he⟩, hb⟩ => ⟨⟨er, he.trans (rett (by first | (simp [opTilde, *]; done) | (simp_all [opTilde]; done) | (simp only [beq_eq_false_iff_ne, beq_iff_eq, ne_eq] at *; simp [opTilde, *] <;> omega)))⟩, hb⟩
        · cases hq : (a == a')
          · have hqe : a ≠ a' := by simpa using hq
            exact (tilde_8 _ _ _ _ _ _ _ _ _ _ _ _ _ _ _ _ _ _ pre n w hcf hv hc hn ha hb hq hbar).mono fun _ _ ⟨⟨er, he⟩, hb⟩ => ⟨⟨er, he.trans (rett (by first | (simp [opTilde, *]; done) | (simp_all [opTilde]; done) | (simp only [beq_eq_false_iff_ne, beq_iff_eq, ne_eq] at *; simp [opTilde, *] <;> omega)))⟩, hb⟩
          · have hqe : a = a' := by simpa using hq
            cases hq2 : (b == b')
            · have hqe2 : b ≠ b' := by simpa using hq2
              cases mi
              · exact (tilde_10 _ _ _ _ _ _ _ _ _ _ _ _ _ _ _ _ _ _ pre n w hcf hv hc hn ha hb hq hq2 rfl hbar).mono fun _ _ ⟨⟨er, he⟩, hb⟩ => ⟨⟨er, he.trans (rett (by first | (simp [opTilde, *]; done) | (simp_all [opTilde]; done) | (simp only [beq_eq_false_iff_ne, beq_iff_eq, ne_eq] at *; simp [opTilde, *] <;> omega)))⟩, hb⟩
              · exact (tilde_11 _ _ _ _ _ _ _ _ _ _ _ _ _ _ _ _ _ _ pre n w hcf hv hc hn ha hb hq hq2 rfl hbar).mono fun _ _ ⟨⟨er, he⟩, hb⟩ => ⟨⟨er, he.trans (rett (by first | (simp [opTilde, *]; done) | (simp_all [opTilde]; done) | (simp only [beq_eq_false_iff_ne, beq_iff_eq, ne_eq] at *; simp [opTilde, *] <;> omega)))⟩, hb⟩
            · have hqe2 : b = b' := by simpa using hq2
              exact (tilde_9 _ _ _ _ _ _ _ _ _ _ _ _ _ _ _ _ _ _ pre n w hcf hv hc hn ha hb hq hq2 hbar).mono fun _ _ ⟨⟨er, he⟩, hb⟩ => ⟨⟨er, he.trans (rett (by first | (simp [opTilde, *]; done) | (simp_all [opTilde]; done) | (simp only [beq_eq_false_iff_ne, beq_iff_eq, ne_eq] at *; simp [opTilde, *] <;> omega)))⟩, hb⟩
      · cases hq : (a == a')
        · have hqe : a ≠ a' := by simpa using hq
          exact (tilde_4 _ _ _ _ _ _ _ _ _ _ _ _ _ _ _ _ _ _ pre n w hcf hv hc hn ha hq hbar).mono fun _ _ ⟨⟨er, he⟩, hb⟩ => ⟨⟨er, he.trans (rett (by first | (simp [opTilde, *]; done) | (simp_all [opTilde]; done) | (simp only [beq_eq_false_iff_ne, beq_iff_eq, ne_eq] at *; simp [opTilde, *] <;> omega)))⟩, hb⟩
        · have hqe : a = a' := by simpa using hq
          cases hq2 : (b == b')
          · have hqe2 : b ≠ b' := by simpa using hq2
            cases mi
            · exact (tilde_6 _ _ _ _ _ _ _ _ _ _ _ _ _ _ _ _ _ _ pre n w hcf hv hc hn ha hq hq2 rfl hbar).mono fun _ _ ⟨⟨er, he⟩, hb⟩ => ⟨⟨er, he.trans (rett (by first | (simp [opTilde, *]; done) | (simp_all [opTilde]; done) | (simp only [beq_eq_false_iff_ne, beq_iff_eq, ne_eq] at *; simp [opTilde, *] <;> omega)))⟩, hb⟩
            · exact (tilde_7 _ _ _ _ _ _ _ _ _ _ _ _ _ _ _ _ _ _ pre n w hcf hv hc hn ha hq hq2 rfl hbar).mono fun _ _ ⟨⟨er, he⟩, hb⟩ => ⟨⟨er, he.trans (rett (by first | (simp [opTilde, *]; done) | (simp_all [opTilde]; done) | (simp only [beq_eq_false_iff_ne, beq_iff_eq, ne_eq] at *; simp [opTilde, *] <;> omega)))⟩, hb⟩
          · have hqe2 : b = b' := by simpa using hq2
            exact (tilde_5 _ _ _ _ _ _ _ _ _ _ _ _ _ _ _ _ _ _ pre n w hcf hv hc hn ha hq hq2 hbar).mono fun _ _ ⟨⟨er, he⟩, hb⟩ => ⟨⟨er, he.trans (rett (by first | (simp [opTilde, *]; done) | (simp_all [opTilde]; done) | (simp only [beq_eq_false_iff_ne, beq_iff_eq, ne_eq] at *; simp [opTilde, *] <;> omega)))⟩, hb⟩
  · obtain ⟨hB1, hB2⟩ := preBar_yes hB
    exact (tilde_1 _ _ _ _ _ _ _ _ _ _ _ _ _ _ _ _ _ _ pre n w hcf hv hc hB1 hB2).mono fun _ _ ⟨⟨er, he⟩, hb⟩ => ⟨⟨er, he.trans (rett (by first | (simp [opTilde, *]; done) | (simp_all [opTilde]; done) | (simp only [beq_eq_false_iff_ne, beq_iff_eq, ne_eq] at *; simp [opTilde, *] <;> omega)))⟩, hb⟩

theorem noteq_any (g h k : Nat) (a b c : Int) (p m : ByteArray) (a' b' c' : Int) (p' m' op og : ByteArray) (mi di pa : Bool) (pre : Bool) (n : Int) (w : World) (hcf : CF w g h k a b c p m a' b' c' p' m' op og mi di pa) (hv : Vars w) (hc : CmpIs g h k a b c p m a' b' c' p' m' op og mi di pa n) (np : Int) (hp : PreIs p p' np) (hpa : pa = true → p'.toList.isEmpty = true) :
    Calls Tryd.prog 43 #[.pointer (some ⟨g, 0, none⟩), .pointer (some ⟨k, 0, none⟩), .bool pre] w fun e w' => (∃ er, e = .returned (.tuple #[.bool (opNot (preBar p pre) n np a b c a' b' c' mi di pa p.toList.isEmpty), er])) ∧ Below w.heap.size w w' := by
  cases hB : preBar p pre
  · have hbar := preBar_no hB
    cases di
    · cases hn : (n == 0)
      · exact (noteq_3 _ _ _ _ _ _ _ _ _ _ _ _ _ _ _ _ _ _ pre n w hcf hv hc np hp rfl hn hbar).mono fun _ _ ⟨⟨er, he⟩, hb⟩ => ⟨⟨er, he.trans (rett (by first | (simp [opNot, *]; done) | (simp_all [opNot]; done) | (simp only [beq_eq_false_iff_ne, beq_iff_eq, ne_eq] at *; simp [opNot, *] <;> omega)))⟩, hb⟩
      · exact (noteq_2 _ _ _ _ _ _ _ _ _ _ _ _ _ _ _ _ _ _ pre n w hcf hv hc np hp rfl hn hbar).mono fun _ _ ⟨⟨er, he⟩, hb⟩ => ⟨⟨er, he.trans (rett (by first | (simp [opNot, *]; done) | (simp_all [opNot]; done) | (simp only [beq_eq_false_iff_ne, beq_iff_eq, ne_eq] at *; simp [opNot, *] <;> omega)))⟩, hb⟩
    · cases hqa : (a' == a)
      · have hqae : a' ≠ a := by simpa using hqa
        exact (noteq_4 _ _ _ _ _ _ _ _ _ _ _ _ _ _ _ _ _ _ pre n w hcf hv hc np hp rfl hqa hbar).mono fun _ _ ⟨⟨er, he⟩, hb⟩ => ⟨⟨er, he.trans (rett (by first | (simp [opNot, *]; done) | (simp_all [opNot]; done) | (simp only [beq_eq_false_iff_ne, beq_iff_eq, ne_eq] at *; simp [opNot, *] <;> omega)))⟩, hb⟩
      · have hqae : a' = a := by simpa using hqa
        cases mi
        · cases hqb : (b' == b)
          · have hqbe : b' ≠ b := by simpa using hqb
            exact (noteq_5 _ _ _ _ _ _ _ _ _ _ _ _ _ _ _ _ _ _ pre n w hcf hv hc np hp rfl hqa hqb rfl hbar).mono fun _ _ ⟨⟨er, he⟩, hb⟩ => ⟨⟨er, he.trans (rett (by first | (simp [opNot, *]; done) | (simp_all [opNot]; done) | (simp only [beq_eq_false_iff_ne, beq_iff_eq, ne_eq] at *; simp [opNot, *] <;> omega)))⟩, hb⟩
          · have hqbe : b' = b := by simpa using hqb
            cases pa
            · cases hqc : (c' == c)
              · have hqce : c' ≠ c := by simpa using hqc
                exact (noteq_8 _ _ _ _ _ _ _ _ _ _ _ _ _ _ _ _ _ _ pre n w hcf hv hc np hp rfl hqa hqb rfl hqc rfl hbar).mono fun _ _ ⟨⟨er, he⟩, hb⟩ => ⟨⟨er, he.trans (rett (by first | (simp [opNot, *]; done) | (simp_all [opNot]; done) | (simp only [beq_eq_false_iff_ne, beq_iff_eq, ne_eq] at *; simp [opNot, *] <;> omega)))⟩, hb⟩
              · have hqce : c' = c := by simpa using hqc
                cases hn : (n == 0)
                · exact (noteq_10 _ _ _ _ _ _ _ _ _ _ _ _ _ _ _ _ _ _ pre n w hcf hv hc np hp rfl hqa hqb rfl hqc rfl hn hbar).mono fun _ _ ⟨⟨er, he⟩, hb⟩ => ⟨⟨er, he.trans (rett (by first | (simp [opNot, *]; done) | (simp_all [opNot]; done) | (simp only [beq_eq_false_iff_ne, beq_iff_eq, ne_eq] at *; simp [opNot, *] <;> omega)))⟩, hb⟩
                · exact (noteq_9 _ _ _ _ _ _ _ _ _ _ _ _ _ _ _ _ _ _ pre n w hcf hv hc np hp rfl hqa hqb rfl hqc rfl hn hbar).mono fun _ _ ⟨⟨er, he⟩, hb⟩ => ⟨⟨er, he.trans (rett (by first | (simp [opNot, *]; done) | (simp_all [opNot]; done) | (simp only [beq_eq_false_iff_ne, beq_iff_eq, ne_eq] at *; simp [opNot, *] <;> omega)))⟩, hb⟩
            · have hpe := hpa rfl
              cases hqc : (c' == c)
              · by_cases hpm : p.toList.isEmpty = true
                · exact (noteq_104 _ _ _ _ _ _ _ _ _ _ _ _ _ _ _ _ _ _ pre n w hcf hv hc np hp rfl hqa hqb rfl hqc rfl hpe hpm).mono fun _ _ ⟨⟨er, he⟩, hb⟩ => ⟨⟨er, he.trans (rett (by first | (simp [opNot, *]; done) | (simp_all [opNot]; done) | (simp only [beq_eq_false_iff_ne, beq_iff_eq, ne_eq] at *; simp [opNot, *] <;> omega)))⟩, hb⟩
                · have hpm2 := hbar.resolve_left hpm
                  cases hnp : (np == 0)
                  · exact (noteq_106 _ _ _ _ _ _ _ _ _ _ _ _ _ _ _ _ _ _ pre n w hcf hv hc np hp rfl hqa hqb rfl hqc rfl hpe hnp hpm2.1 hpm2.2).mono fun _ _ ⟨⟨er, he⟩, hb⟩ => ⟨⟨er, he.trans (rett (by first | (simp [opNot, *]; done) | (simp_all [opNot]; done) | (simp only [beq_eq_false_iff_ne, beq_iff_eq, ne_eq] at *; simp [opNot, *] <;> omega)))⟩, hb⟩
                  · exact (noteq_105 _ _ _ _ _ _ _ _ _ _ _ _ _ _ _ _ _ _ pre n w hcf hv hc np hp rfl hqa hqb rfl hqc rfl hpe hnp hpm2.1 hpm2.2).mono fun _ _ ⟨⟨er, he⟩, hb⟩ => ⟨⟨er, he.trans (rett (by first | (simp [opNot, *]; done) | (simp_all [opNot]; done) | (simp only [beq_eq_false_iff_ne, beq_iff_eq, ne_eq] at *; simp [opNot, *] <;> omega)))⟩, hb⟩
              · by_cases hpm : p.toList.isEmpty = true
                · exact (noteq_101 _ _ _ _ _ _ _ _ _ _ _ _ _ _ _ _ _ _ pre n w hcf hv hc np hp rfl hqa hqb rfl hqc rfl hpe hpm).mono fun _ _ ⟨⟨er, he⟩, hb⟩ => ⟨⟨er, he.trans (rett (by first | (simp [opNot, *]; done) | (simp_all [opNot]; done) | (simp only [beq_eq_false_iff_ne, beq_iff_eq, ne_eq] at *; simp [opNot, *] <;> omega)))⟩, hb⟩
                · have hpm2 := hbar.resolve_left hpm
                  cases hnp : (np == 0)
                  · exact (noteq_103 _ _ _ _ _ _ _ _ _ _ _ _ _ _ _ _ _ _ pre n w hcf hv hc np hp rfl hqa hqb rfl hqc rfl hpe hnp hpm2.1 hpm2.2).mono fun _ _ ⟨⟨er, he⟩, hb⟩ => ⟨⟨er, he.trans (rett (by first | (simp [opNot, *]; done) | (simp_all [opNot]; done) | (simp only [beq_eq_false_iff_ne, beq_iff_eq, ne_eq] at *; simp [opNot, *] <;> omega)))⟩, hb⟩
                  · exact (noteq_102 _ _ _ _ _ _ _ _ _ _ _ _ _ _ _ _ _ _ pre n w hcf hv hc np hp rfl hqa hqb rfl hqc rfl hpe hnp hpm2.1 hpm2.2).mono fun _ _ ⟨⟨er, he⟩, hb⟩ => ⟨⟨er, he.trans (rett (by first | (simp [opNot, *]; done) | (simp_all [opNot]; done) | (simp only [beq_eq_false_iff_ne, beq_iff_eq, ne_eq] at *; simp [opNot, *] <;> omega)))⟩, hb⟩
        · cases hqb : (b' == b)
          · exact (noteq_7 _ _ _ _ _ _ _ _ _ _ _ _ _ _ _ _ _ _ pre n w hcf hv hc np hp rfl hqa hqb rfl hbar).mono fun _ _ ⟨⟨er, he⟩, hb⟩ => ⟨⟨er, he.trans (rett (by first | (simp [opNot, *]; done) | (simp_all [opNot]; done) | (simp only [beq_eq_false_iff_ne, beq_iff_eq, ne_eq] at *; simp [opNot, *] <;> omega)))⟩, hb⟩
          · exact (noteq_6 _ _ _ _ _ _ _ _ _ _ _ _ _ _ _ _ _ _ pre n w hcf hv hc np hp rfl hqa hqb rfl hbar).mono fun _ _ ⟨⟨er, he⟩, hb⟩ => ⟨⟨er, he.trans (rett (by first | (simp [opNot, *]; done) | (simp_all [opNot]; done) | (simp only [beq_eq_false_iff_ne, beq_iff_eq, ne_eq] at *; simp [opNot, *] <;> omega)))⟩, hb⟩
  · obtain ⟨hB1, hB2⟩ := preBar_yes hB
    exact (noteq_1 _ _ _ _ _ _ _ _ _ _ _ _ _ _ _ _ _ _ pre n w hcf hv hc np hp hB1 hB2).mono fun _ _ ⟨⟨er, he⟩, hb⟩ => ⟨⟨er, he.trans (rett (by first | (simp [opNot, *]; done) | (simp_all [opNot]; done) | (simp only [beq_eq_false_iff_ne, beq_iff_eq, ne_eq] at *; simp [opNot, *] <;> omega)))⟩, hb⟩

def opEq (bar : Bool) (n a b a' b' c' : Int) (mi di pa : Bool) : Bool := if bar = true then false else if di = true then opTilde bar n a b a' b' c' mi pa else n == 0
set_option maxHeartbeats 1600000 in
set_option maxRecDepth 100000 in
theorem eq_dirty (g h k : Nat) (a b c : Int) (p m : ByteArray) (a' b' c' : Int) (p' m' op og : ByteArray) (mi di pa : Bool) (pre : Bool) (r : Bool) (w : World) (hcf : CF w g h k a b c p m a' b' c' p' m' op og mi di pa) (hv : Vars w) (hd : di = true) (hbar : p.toList.isEmpty = true ∨ (p.toList.isEmpty = false ∧ pre = true))
    (ht : ∀ W, CF W g h k a b c p m a' b' c' p' m' op og mi di pa → Vars W → Calls Tryd.prog 48 #[.pointer (some ⟨g, 0, none⟩), .pointer (some ⟨k, 0, none⟩), .bool pre] W fun e w' => (∃ er, e = .returned (.tuple #[.bool r, er])) ∧ Below W.heap.size W w') :
    Calls Tryd.prog 42 #[.pointer (some ⟨g, 0, none⟩), .pointer (some ⟨k, 0, none⟩), .bool pre] w fun e w' => (∃ er, e = .returned (.tuple #[.bool r, er])) ∧ Below w.heap.size w w' := by
  subst hd
  have MPr1 := hid (fun d os => Calls.gr_box (prerelease_any a b c p m (Go.Sort.grow (redrawn w d) os)))
  have MPr2 := hid (fun d os => Calls.gr_box (prerelease_any a' b' c' p' m' (Go.Sort.grow (redrawn w d) os)))
  have HT := hid (fun d os => ht (Go.Sort.grow (redrawn w d) os) (hcf.below (below_regrown w d os)) (hv.below (below_regrown w d os)))
  obtain ⟨k0, k1, k2, k3, k4, k5, k6, k7, k8, k9, k10, k11, k12, k13, k14, k15, k16, k17⟩ := hcf.each
  clear hcf hv ht
  refine gr_start fun d os => ?_
  go_enter Tryd.func42, Tryd.ntmps42
  rcases hbar with hbar | ⟨hbar, hpre⟩
  · go_wp2_with (first | (go_at_call 48; refine (HT.out _ _).mono ?_; rintro e w' ⟨⟨er, rfl⟩, hb1⟩; obtain ⟨⟨d1, os1⟩, rfl⟩ := gr_of hb1) | ((first | (go_at_call_of 53 (Value.string m); refine (MPr1.out _ _).mono ?_) | (go_at_call_of 53 (Value.string m'); refine (MPr2.out _ _).mono ?_)); rintro e w' ⟨rfl, ⟨⟨d1, os1⟩, rfl⟩⟩) | (go_at_call 54; refine (new_gr _ _ _ _).mono ?_; rintro e w' ⟨⟨tz, qz, rfl⟩, ⟨⟨d1, os1⟩, rfl⟩⟩))
    go_returns
    exact ⟨⟨_, rfl⟩, below_regrown w _ _⟩
  · subst hpre
    go_wp2_with (first | (go_at_call 48; refine (HT.out _ _).mono ?_; rintro e w' ⟨⟨er, rfl⟩, hb1⟩; obtain ⟨⟨d1, os1⟩, rfl⟩ := gr_of hb1) | ((first | (go_at_call_of 53 (Value.string m); refine (MPr1.out _ _).mono ?_) | (go_at_call_of 53 (Value.string m'); refine (MPr2.out _ _).mono ?_)); rintro e w' ⟨rfl, ⟨⟨d1, os1⟩, rfl⟩⟩) | (go_at_call 54; refine (new_gr _ _ _ _).mono ?_; rintro e w' ⟨⟨tz, qz, rfl⟩, ⟨⟨d1, os1⟩, rfl⟩⟩))
    go_returns
    exact ⟨⟨_, rfl⟩, below_regrown w _ _⟩

theorem eq_any (g h k : Nat) (a b c : Int) (p m : ByteArray) (a' b' c' : Int) (p' m' op og : ByteArray) (mi di pa : Bool) (pre : Bool) (n : Int) (w : World) (hcf : CF w g h k a b c p m a' b' c' p' m' op og mi di pa) (hv : Vars w) (hc : CmpIs g h k a b c p m a' b' c' p' m' op og mi di pa n) (hmp : mi = true → pa ≠ true) :
    Calls Tryd.prog 42 #[.pointer (some ⟨g, 0, none⟩), .pointer (some ⟨k, 0, none⟩), .bool pre] w fun e w' => (∃ er, e = .returned (.tuple #[.bool (opEq (preBar p pre) n a b a' b' c' mi di pa), er])) ∧ Below w.heap.size w w' := by
  cases hB : preBar p pre
  · have hbar := preBar_no hB
    cases di
    · cases hn : (n == 0)
      · exact (eq_3 _ _ _ _ _ _ _ _ _ _ _ _ _ _ _ _ _ _ pre n w hcf hv hc rfl hn hbar).mono fun _ _ ⟨⟨er, he⟩, hb⟩ => ⟨⟨er, he.trans (rett (by simp [opEq, *]))⟩, hb⟩
      · exact (eq_2 _ _ _ _ _ _ _ _ _ _ _ _ _ _ _ _ _ _ pre n w hcf hv hc rfl hn hbar).mono fun _ _ ⟨⟨er, he⟩, hb⟩ => ⟨⟨er, he.trans (rett (by simp [opEq, *]))⟩, hb⟩
    · refine (eq_dirty _ _ _ _ _ _ _ _ _ _ _ _ _ _ _ _ _ _ pre _ w hcf hv rfl hbar (fun W h1 h2 => tilde_any _ _ _ _ _ _ _ _ _ _ _ _ _ _ _ _ _ _ pre n W h1 h2 hc hmp)).mono fun _ _ ⟨⟨er, he⟩, hb⟩ => ⟨⟨er, he.trans (rett (by rw [hB]; simp [opEq]))⟩, hb⟩
  · obtain ⟨hB1, hB2⟩ := preBar_yes hB
    exact (eq_1 _ _ _ _ _ _ _ _ _ _ _ _ _ _ _ _ _ _ pre n w hcf hv hc hB1 hB2).mono fun _ _ ⟨⟨er, he⟩, hb⟩ => ⟨⟨er, he.trans (rett (by simp [opEq]))⟩, hb⟩

end Go.Proofs.YtkohcmgckkenpaaDoor
