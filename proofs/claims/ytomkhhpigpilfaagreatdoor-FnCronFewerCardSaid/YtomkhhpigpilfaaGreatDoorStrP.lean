/- Texts as lists of bytes: parts between a byte, cuts. No program in sight. -/
import Derived.Laws.Strings3
import Derived.Laws.Strings2
set_option linter.unusedVariables false
set_option linter.unusedSimpArgs false
namespace Go.Proofs.YtomkhhpigpilfaaGreatDoor

theorem size_list (s : ByteArray) : s.toList.length = s.size := by rw [ByteArray.toList_eq, Array.length_toList]; rfl
theorem bytes_inj {a b : ByteArray} (h : a.toList = b.toList) : a = b := by
  rw [ByteArray.toList_eq, ByteArray.toList_eq] at h
  exact ByteArray.ext (Array.toList_inj.1 h)
theorem ext_list (s : ByteArray) (a b : Nat) : (s.extract a b).toList = (s.toList.drop a).take (b - a) := by
  rw [ByteArray.toList_eq, ByteArray.toList_eq, ByteArray.data_extract, Array.toList_extract, List.extract_eq_take_drop]
theorem app_list (a b : ByteArray) : (a ++ b).toList = a.toList ++ b.toList := by
  rw [ByteArray.toList_eq, ByteArray.toList_eq, ByteArray.toList_eq, ByteArray.data_append, Array.toList_append]
theorem at_list (s : ByteArray) (k : Nat) (h : k < s.size) : s.toList[k]? = some s[k] := by
  rw [ByteArray.toList_eq, Array.getElem?_toList]
  exact Array.getElem?_eq_getElem h
theorem drop_list (s : ByteArray) (k : Nat) (h : k < s.size) : s.toList.drop k = s[k] :: s.toList.drop (k + 1) := by
  have hl : k < s.toList.length := by rw [size_list]; exact h
  rw [List.drop_eq_getElem_cons hl]
  congr 1
  have := at_list s k h
  rw [List.getElem?_eq_getElem hl] at this
  exact Option.some.inj this
theorem take_list (s : ByteArray) (k : Nat) (h : k < s.size) : s.toList.take (k + 1) = s.toList.take k ++ [s[k]] := by
  have hl : k < s.toList.length := by rw [size_list]; exact h
  rw [List.take_succ_eq_append_getElem hl]
  have := at_list s k h
  rw [List.getElem?_eq_getElem hl] at this
  rw [Option.some.inj this]
theorem take_all (s : ByteArray) : s.toList.take s.size = s.toList := List.take_of_length_le (by rw [size_list]; exact Nat.le_refl _)

/-- The parts of a text between the bytes c: one more than there are of these. -/
def cut (c : UInt8) : List UInt8 → List (List UInt8)
  | [] => [[]]
  | x :: r => if x = c then [] :: cut c r else match cut c r with | [] => [[x]] | h :: t => (x :: h) :: t

theorem cut_same (c : UInt8) (r : List UInt8) : cut c (c :: r) = [] :: cut c r := by simp [cut]
theorem cut_other (c x : UInt8) (r : List UInt8) (h : x ≠ c) : cut c (x :: r) = match cut c r with | [] => [[x]] | h :: t => (x :: h) :: t := by
  show (if x = c then [] :: cut c r else match cut c r with | [] => [[x]] | h :: t => (x :: h) :: t) = _
  rw [if_neg h]

theorem cut_ne (c : UInt8) : ∀ l, cut c l ≠ []
  | [] => by simp [cut]
  | x :: r => by
    unfold cut
    split
    · simp
    · split <;> simp

theorem cut_none (c : UInt8) : ∀ a : List UInt8, c ∉ a → cut c a = [a]
  | [], _ => rfl
  | x :: r, h => by
    simp only [List.mem_cons, not_or] at h
    rw [cut_other c x _ (fun e => h.1 e.symm), cut_none c r h.2]

theorem cut_at (c : UInt8) (r : List UInt8) : ∀ a : List UInt8, c ∉ a → cut c (a ++ c :: r) = a :: cut c r
  | [], _ => by simp [cut]
  | x :: a, h => by
    simp only [List.mem_cons, not_or] at h
    show cut c (x :: (a ++ c :: r)) = _
    rw [cut_other c x _ (fun e => h.1 e.symm), cut_at c r a h.2]

theorem cut_free (c : UInt8) : ∀ l, ∀ p ∈ cut c l, c ∉ p
  | [], p, h => by simp [cut] at h; subst h; simp
  | x :: r, p, h => by
    have ih := cut_free c r
    unfold cut at h
    split at h
    · rcases List.mem_cons.1 h with rfl | h
      · simp
      · exact ih p h
    · rename_i hx
      split at h
      · simp at h; subst h; simp; exact fun e => hx e.symm
      · rename_i q t e
        rw [e] at ih
        rcases List.mem_cons.1 h with rfl | h
        · simp only [List.mem_cons, not_or]
          exact ⟨fun e => hx e.symm, ih q (List.mem_cons_self ..)⟩
        · exact ih p (List.mem_cons_of_mem _ h)

theorem cut_size (c : UInt8) : ∀ l, ∀ p ∈ cut c l, p.length ≤ l.length
  | [], p, h => by simp [cut] at h; subst h; simp
  | x :: r, p, h => by
    have ih := cut_size c r
    unfold cut at h
    split at h
    · rcases List.mem_cons.1 h with rfl | h
      · simp
      · have := ih p h; simp; omega
    · split at h
      · simp at h; subst h; simp
      · rename_i q t e
        rw [e] at ih
        rcases List.mem_cons.1 h with rfl | h
        · have := ih q (List.mem_cons_self ..); simp; omega
        · have := ih p (List.mem_cons_of_mem _ h); simp; omega

theorem cut_count (c : UInt8) : ∀ l, (cut c l).length ≤ l.length + 1
  | [] => by simp [cut]
  | x :: r => by
    have ih := cut_count c r
    unfold cut
    split
    · simp; omega
    · split
      · simp
      · rename_i q t e
        rw [e] at ih
        simp at ih ⊢; omega

theorem cut_inj (c : UInt8) : ∀ a b : List UInt8, cut c a = cut c b → a = b
  | [], [], _ => rfl
  | [], y :: b, h => by
    unfold cut at h
    split at h
    · have := congrArg List.length h
      simp at this
      exact absurd this (cut_ne c b)
    · split at h <;> simp at h
  | x :: a, [], h => by
    unfold cut at h
    split at h
    · have := congrArg List.length h
      simp at this
      exact absurd this (cut_ne c a)
    · split at h <;> simp at h
  | x :: a, y :: b, h => by
    have ih := cut_inj c a b
    unfold cut at h
    by_cases hx : x = c <;> by_cases hy : y = c
    · rw [if_pos hx, if_pos hy] at h
      simp only [List.cons.injEq, true_and] at h
      rw [hx, hy, ih h]
    · rw [if_pos hx, if_neg hy] at h
      split at h <;> simp at h
    · rw [if_neg hx, if_pos hy] at h
      split at h <;> simp at h
    · rw [if_neg hx, if_neg hy] at h
      obtain ⟨p, t, hp⟩ := List.exists_cons_of_ne_nil (cut_ne c a)
      obtain ⟨q, u, hq⟩ := List.exists_cons_of_ne_nil (cut_ne c b)
      rw [hp, hq] at h ih
      simp only [List.cons.injEq] at h ih
      obtain ⟨⟨h1, h2⟩, h3⟩ := h
      rw [h1, ih ⟨h2, h3⟩]

/-- What lies between f and k, and what stands from k on. -/
theorem mid_drop (l : List UInt8) (f k : Nat) (h : f ≤ k) : l.drop f = (l.drop f).take (k - f) ++ l.drop k := by
  have e : l.drop k = (l.drop f).drop (k - f) := by rw [List.drop_drop]; congr 1; omega
  rw [e, List.take_append_drop]
theorem mid_succ (s : ByteArray) (f k : Nat) (h : f ≤ k) (hk : k < s.size) : (s.toList.drop f).take (k + 1 - f) = (s.toList.drop f).take (k - f) ++ [s[k]] := by
  have e : k + 1 - f = (k - f) + 1 := by omega
  have hl : k - f < (s.toList.drop f).length := by rw [List.length_drop, size_list]; omega
  rw [e, List.take_succ_eq_append_getElem hl]
  congr 2
  have := at_list s k hk
  rw [List.getElem_drop]
  have hl2 : k < s.toList.length := by rw [size_list]; exact hk
  rw [List.getElem?_eq_getElem hl2] at this
  have e2 : f + (k - f) = k := by omega
  simp only [e2]
  exact Option.some.inj this

end Go.Proofs.YtomkhhpigpilfaaGreatDoor
