/- The order of versions in plain lists: what stands right behind a version. -/
import Derived.Test.YtkohcmgckkenpaaDoorPreC
import Derived.Test.YtkohcmgckkenpaaDoorVerC
import Derived.Test.YtkohcmgckkenpaaDoorGood
set_option linter.unusedVariables false
set_option linter.unusedSimpArgs false
namespace Go.Proofs.YtkohcmgckkenpaaDoor
open Go.RowKit

def lexL : List (List UInt8) → List (List UInt8) → Int
  | [], [] => 0
  | [], _ :: _ => -1
  | _ :: _, [] => 1
  | x :: xs, y :: ys => if cpp x y = 0 then lexL xs ys else cpp x y

theorem cpp_self (x : List UInt8) : cpp x x = 0 := by simp [cpp]
theorem cpp_nil (y : List UInt8) (h : y ≠ []) : cpp [] y = -1 := by
  unfold cpp
  rw [if_neg (Ne.symm h), if_pos rfl]
theorem cpp_to_nil (x : List UInt8) (h : x ≠ []) : cpp x [] = 1 := by
  unfold cpp
  rw [if_neg h, if_neg h, if_pos rfl]
theorem atL_succ (x : List UInt8) (xs : List (List UInt8)) (k : Nat) : atL (x :: xs) (k + 1) = atL xs k := by simp [atL]
theorem atL_nil (k : Nat) : atL [] k = [] := by simp [atL]
theorem firstL_cons (x y : List UInt8) (xs ys : List (List UInt8)) : ∀ n, firstL (x :: xs) (y :: ys) (n + 1) = if cpp x y = 0 then firstL xs ys n else cpp x y
  | 0 => by
    simp only [firstL, atL, List.getElem?_cons_zero, Option.getD_some, if_true]
    by_cases h : cpp x y = 0
    · rw [if_pos h, h]
    · rw [if_neg h]
  | n + 1 => by
    rw [firstL, firstL_cons x y xs ys n, atL_succ, atL_succ]
    by_cases h : cpp x y = 0
    · rw [if_pos h, if_pos h]
      rfl
    · rw [if_neg h, if_neg h, if_neg h]
theorem firstL_left (y : List UInt8) (ys : List (List UInt8)) (n : Nat) (h : y ≠ []) : firstL [] (y :: ys) (n + 1) = -1 := by
  have e : cpp (atL [] 0) (atL (y :: ys) 0) = -1 := cpp_nil y h
  rw [firstL_stop _ _ 0 (n + 1) (by omega) rfl (by rw [e]; decide), e]
theorem firstL_right (x : List UInt8) (xs : List (List UInt8)) (n : Nat) (h : x ≠ []) : firstL (x :: xs) [] (n + 1) = 1 := by
  have e : cpp (atL (x :: xs) 0) (atL [] 0) = 1 := cpp_to_nil x h
  rw [firstL_stop _ _ 0 (n + 1) (by omega) rfl (by rw [e]; decide), e]
theorem first_lex : ∀ (xs ys : List (List UInt8)), (∀ x ∈ xs, x ≠ []) → (∀ y ∈ ys, y ≠ []) → firstL xs ys (max xs.length ys.length) = lexL xs ys
  | [], [], _, _ => rfl
  | [], y :: ys, _, hy => by
    have e : max ([] : List (List UInt8)).length (y :: ys).length = ys.length + 1 := by simp
    rw [e, firstL_left y ys _ (hy y (List.mem_cons_self ..))]
    rfl
  | x :: xs, [], hx, _ => by
    have e : max (x :: xs).length ([] : List (List UInt8)).length = xs.length + 1 := by simp
    rw [e, firstL_right x xs _ (hx x (List.mem_cons_self ..))]
    rfl
  | x :: xs, y :: ys, hx, hy => by
    have e : max (x :: xs).length (y :: ys).length = max xs.length ys.length + 1 := by simp only [List.length_cons]; omega
    rw [e, firstL_cons, first_lex xs ys (fun z hz => hx z (List.mem_cons_of_mem _ hz)) (fun z hz => hy z (List.mem_cons_of_mem _ hz))]
    rfl

theorem okid_zero : Okid [48] := okid_of [48] (by decide) (by decide)
theorem zero_least (x : List UInt8) (h : Okid x) : 0 ≤ cpp x [48] := by
  rw [cpp_eq x [48] h okid_zero]
  by_cases e : x = [48]
  · rw [(cps_zero x [48]).2 e]; decide
  · cases hd : digs x
    · rw [cps_high x [48] hd (by decide)]; decide
    · rw [cps_num x [48] e hd (by decide)]
      have h0 : 1 ≤ x.length := by
        cases x
        · exact absurd rfl h.ne
        · simp
      have hnl : ¬ x.length < ([48] : List UInt8).length := by show ¬ x.length < 1; omega
      rw [if_neg hnl]
      by_cases h1 : ([48] : List UInt8).length < x.length
      · rw [if_pos h1]; decide
      · rw [if_neg h1]
        match x, h, hd, h0, h1, e with
        | [c], h, hd, _, _, e =>
          have hc : 48 ≤ c.toNat ∧ c.toNat ≤ 57 := by simpa [digs, isDig] using hd
          have : Op.bytesLess [c] [48] = false := by
            have hcc : ¬ c < 48 := by
              intro hlt
              have : c.toNat < 48 := hlt
              omega
            by_cases hc2 : c = 48
            · subst hc2; decide
            · have hgt : (48 : UInt8) < c := by
                have : c.toNat ≠ 48 := fun h => hc2 (UInt8.toNat_inj.1 (by rw [h]; rfl))
                show (48 : UInt8).toNat < c.toNat
                have : (48 : UInt8).toNat = 48 := rfl
                omega
              simp [Op.bytesLess, hcc, hgt, hc2]
          rw [this]
          decide
        | _ :: _ :: _, _, _, _, h1, _ => simp at h1

theorem lex_more : ∀ (ys : List (List UInt8)) (z : List UInt8), lexL ys (ys ++ [z]) = -1
  | [], z => rfl
  | y :: ys, z => by
    show (if cpp y y = 0 then lexL ys (ys ++ [z]) else cpp y y) = -1
    rw [if_pos (cpp_self y), lex_more ys z]
theorem lex_end (xs : List (List UInt8)) : 0 ≤ lexL xs [] := by cases xs <;> simp [lexL]
theorem lex_next : ∀ (xs ys : List (List UInt8)), (∀ x ∈ xs, Okid x) → (0 < lexL xs ys ↔ 0 ≤ lexL xs (ys ++ [[48]]))
  | [], [], _ => by simp [lexL]
  | [], _ :: _, _ => by simp [lexL]
  | x :: xs, [], h => by
    have hz := zero_least x (h x (List.mem_cons_self ..))
    have he := lex_end xs
    show (0 < (1 : Int) ↔ 0 ≤ (if cpp x [48] = 0 then lexL xs [] else cpp x [48]))
    by_cases e : cpp x [48] = 0
    · rw [if_pos e]; simp [he]
    · rw [if_neg e]; simp [hz]
  | x :: xs, y :: ys, h => by
    show (0 < (if cpp x y = 0 then lexL xs ys else cpp x y) ↔ 0 ≤ (if cpp x y = 0 then lexL xs (ys ++ [[48]]) else cpp x y))
    by_cases e : cpp x y = 0
    · rw [if_pos e, if_pos e]
      exact lex_next xs ys fun z hz => h z (List.mem_cons_of_mem _ hz)
    · rw [if_neg e, if_neg e]; omega
end Go.Proofs.YtkohcmgckkenpaaDoor
