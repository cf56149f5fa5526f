/- The words of a text as lists: what a word is, the words of words with a space between every two, the words of a text without the blanks at its ends. -/
import Derived.Test.YtomkhhpigpilfaaGreatDoorWds
set_option linter.unusedVariables false
set_option linter.unusedSimpArgs false
namespace Go.Proofs.YtomkhhpigpilfaaGreatDoor
open Go.RowKit

/-- One byte read: the words so far and the one under way. -/
def stepW (q : List (List UInt8) × Option (List UInt8)) (b : UInt8) : List (List UInt8) × Option (List UInt8) :=
  if isSp b = true then (match q.2 with | none => (q.1, none) | some c => (q.1 ++ [c], none)) else (q.1, some (q.2.getD [] ++ [b]))
def stL (l : List UInt8) : List (List UInt8) × Option (List UInt8) := l.foldl stepW ([], none)
def outW (q : List (List UInt8) × Option (List UInt8)) : List (List UInt8) := match q.2 with | none => q.1 | some c => q.1 ++ [c]
def wl (l : List UInt8) : List (List UInt8) := outW (stL l)
theorem stL_snoc (l : List UInt8) (b : UInt8) : stL (l ++ [b]) = stepW (stL l) b := by unfold stL; rw [List.foldl_append]; rfl

/-- The words of a text by their places are those of its list. -/
theorem stF_list (s : ByteArray) : ∀ k, k ≤ s.size → ((stF s k).1.map (·.toList) = (stL (s.toList.take k)).1) ∧
    ((0 ≤ (stF s k).2 ∧ (stF s k).2 < k ∧ (stL (s.toList.take k)).2 = some ((s.toList.drop (stF s k).2.toNat).take (k - (stF s k).2.toNat))) ∨ ((stF s k).2 < 0 ∧ (stL (s.toList.take k)).2 = none))
  | 0, _ => ⟨rfl, .inr ⟨by show (-1 : Int) < 0; omega, rfl⟩⟩
  | k + 1, hk => by
    obtain ⟨h1, h2⟩ := stF_list s k (by omega)
    have hg := get_bang s k (by omega)
    rw [take_list s k (by omega), stL_snoc]
    generalize hX : stF s k = X at h1 h2
    generalize stL (s.toList.take k) = q at h1 h2 ⊢
    obtain ⟨q1, q2⟩ := q
    obtain ⟨xs, n⟩ := X
    simp only at h1 h2
    have he : stF s (k + 1) = if isSp (s.get! k) then (if 0 ≤ (stF s k).2 then ((stF s k).1 ++ [s.extract (stF s k).2.toNat k], -1) else stF s k) else (if (stF s k).2 < 0 then ((stF s k).1, (k : Int)) else stF s k) := rfl
    rw [hX, hg] at he
    simp only at he
    by_cases hb : isSp s[k] = true
    · rw [if_pos hb] at he
      rcases h2 with ⟨h2, h3, h4⟩ | ⟨h2, h4⟩
      · rw [if_pos h2] at he
        subst h4
        rw [he]
        refine ⟨?_, .inr ⟨by show (-1 : Int) < 0; omega, by simp [stepW, hb]⟩⟩
        simp [stepW, hb, h1, ext_list]
      · rw [if_neg (by omega)] at he
        subst h4
        rw [he]
        exact ⟨by simp [stepW, hb, h1], .inr ⟨h2, by simp [stepW, hb]⟩⟩
    · rw [if_neg hb] at he
      rcases h2 with ⟨h2, h3, h4⟩ | ⟨h2, h4⟩
      · rw [if_neg (by omega)] at he
        subst h4
        rw [he]
        refine ⟨by simp [stepW, hb, h1], .inl ⟨h2, by simp only; omega, ?_⟩⟩
        simp only [stepW, if_neg hb, Option.getD_some]
        rw [mid_succ s n.toNat k (by omega) (by omega)]
      · rw [if_pos h2] at he
        subst h4
        rw [he]
        refine ⟨by simp [stepW, hb, h1], .inl ⟨by simp only; omega, by simp only; omega, ?_⟩⟩
        simp only [stepW, if_neg hb, Option.getD_none, List.nil_append, Int.toNat_natCast]
        rw [drop_list s k (by omega), show k + 1 - k = 1 by omega]
        rfl
theorem wds_list (s : ByteArray) : (wds s).map (·.toList) = wl s.toList := by
  obtain ⟨h1, h2⟩ := stF_list s s.size (Nat.le_refl _)
  rw [take_all] at h1 h2
  unfold wds wl outW
  rcases h2 with ⟨h2, h3, h4⟩ | ⟨h2, h4⟩
  · rw [if_pos h2, h4, List.map_append, h1]
    simp [ext_list]
  · rw [if_neg (by omega), h4, h1]

/-- A word: not empty, without a blank. -/
def Word (l : List UInt8) : Prop := l ≠ [] ∧ ∀ b ∈ l, isSp b = false
theorem fold_word (q : List (List UInt8)) : ∀ (l : List UInt8) (c : Option (List UInt8)), l ≠ [] → (∀ b ∈ l, isSp b = false) → l.foldl stepW (q, c) = (q, some (c.getD [] ++ l))
  | [], _, h, _ => absurd rfl h
  | [b], c, _, h => by
    have hb := h b (by simp)
    simp [stepW, hb]
  | b :: b2 :: r, c, _, h => by
    have hb := h b (by simp)
    rw [List.foldl_cons]
    have e : stepW (q, c) b = (q, some (c.getD [] ++ [b])) := by simp [stepW, hb]
    rw [e, fold_word q (b2 :: r) _ (by simp) (fun x hx => h x (List.mem_cons_of_mem _ hx))]
    simp
/-- Words with a space between every two. -/
def joinL : List (List UInt8) → List UInt8
  | [] => []
  | [x] => x
  | x :: y :: r => x ++ 32 :: joinL (y :: r)
theorem fold_join : ∀ (xs : List (List UInt8)) (q : List (List UInt8)), (∀ x ∈ xs, Word x) → outW ((joinL xs).foldl stepW (q, none)) = q ++ xs
  | [], q, _ => by simp [joinL, outW]
  | [x], q, h => by
    obtain ⟨h1, h2⟩ := h x (by simp)
    show outW (x.foldl stepW (q, none)) = _
    rw [fold_word q x none h1 h2]
    simp [outW]
  | x :: y :: r, q, h => by
    obtain ⟨h1, h2⟩ := h x (by simp)
    show outW ((x ++ 32 :: joinL (y :: r)).foldl stepW (q, none)) = _
    rw [List.foldl_append, fold_word q x none h1 h2, List.foldl_cons]
    have e : stepW (q, some ((none : Option (List UInt8)).getD [] ++ x)) 32 = (q ++ [x], none) := by simp [stepW, isSp]
    rw [e, fold_join (y :: r) (q ++ [x]) (fun z hz => h z (List.mem_cons_of_mem _ hz))]
    simp
theorem wl_join (xs : List (List UInt8)) (h : ∀ x ∈ xs, Word x) : wl (joinL xs) = xs := by
  unfold wl stL
  rw [fold_join xs [] h]
  rfl
/-- What a reading holds: words, and bytes of the text alone. -/
theorem stL_good : ∀ (l m : List UInt8), (∀ x ∈ (stL l).1, Word x ∧ ∀ b ∈ x, b ∈ l) ∧ ∀ c, (stL l).2 = some c → Word c ∧ ∀ b ∈ c, b ∈ l := by
  intro l _
  have key : ∀ n, ∀ l : List UInt8, l.length = n → (∀ x ∈ (stL l).1, Word x ∧ ∀ b ∈ x, b ∈ l) ∧ ∀ c, (stL l).2 = some c → Word c ∧ ∀ b ∈ c, b ∈ l := by
    intro n
    induction n with
    | zero =>
      intro l hl
      rw [List.length_eq_zero_iff.1 hl]
      exact ⟨fun x hx => by simp [stL] at hx, fun c hc => by simp [stL] at hc⟩
    | succ n ih =>
      intro l hl
      have hne : l ≠ [] := by intro h; rw [h] at hl; cases hl
      obtain ⟨i1, i2⟩ := ih l.dropLast (by rw [List.length_dropLast]; omega)
      have hl2 := List.dropLast_concat_getLast hne
      generalize l.getLast hne = b at hl2
      generalize l.dropLast = m at hl2 i1 i2
      subst hl2
      rw [stL_snoc]
      have up : ∀ x : List UInt8, (Word x ∧ ∀ b ∈ x, b ∈ m) → Word x ∧ ∀ c ∈ x, c ∈ m ++ [b] := fun x ⟨a, c⟩ => ⟨a, fun d hd => List.mem_append_left _ (c d hd)⟩
      generalize stL m = q at i1 i2
      obtain ⟨q1, q2⟩ := q
      simp only at i1 i2
      by_cases hb : isSp b = true
      · rcases q2 with _ | c
        · simp only [stepW, hb, if_true]
          exact ⟨fun x hx => up x (i1 x hx), fun c hc => nomatch hc⟩
        · simp only [stepW, hb, if_true]
          refine ⟨fun x hx => ?_, fun c hc => nomatch hc⟩
          rcases List.mem_append.1 hx with h | h
          · exact up x (i1 x h)
          · rw [List.mem_singleton.1 h]
            exact up c (i2 c rfl)
      · simp only [stepW, if_neg hb]
        refine ⟨fun x hx => up x (i1 x hx), fun c hc => ?_⟩
        injection hc with hc
        subst hc
        rcases q2 with _ | c
        · refine ⟨⟨by simp, fun d hd => ?_⟩, fun d hd => ?_⟩
          · simp at hd; subst hd; simpa using hb
          · simp at hd; subst hd; simp
        · obtain ⟨⟨j1, j2⟩, j3⟩ := i2 c rfl
          refine ⟨⟨by simp, fun d hd => ?_⟩, fun d hd => ?_⟩
          · rcases List.mem_append.1 hd with h | h
            · exact j2 d h
            · rw [List.mem_singleton.1 h]; simpa using hb
          · rcases List.mem_append.1 hd with h | h
            · exact List.mem_append_left _ (j3 d h)
            · rw [List.mem_singleton.1 h]; simp
  exact key l.length l rfl
theorem wl_good {l x : List UInt8} (h : x ∈ wl l) : Word x ∧ ∀ b ∈ x, b ∈ l := by
  obtain ⟨h1, h2⟩ := stL_good l []
  unfold wl outW at h
  generalize stL l = q at h h1 h2
  obtain ⟨q1, q2⟩ := q
  rcases q2 with _ | c
  · exact h1 x h
  · rcases List.mem_append.1 h with h | h
    · exact h1 x h
    · rw [List.mem_singleton.1 h]
      exact h2 c rfl
/-- How many bytes the words of a text hold. -/
theorem stL_size : ∀ n (l : List UInt8), l.length = n → ((stL l).1.map (fun x => x.length + 1)).sum + (match (stL l).2 with | none => 0 | some c => c.length) ≤ n := by
  intro n
  induction n with
  | zero =>
    intro l hl
    rw [List.length_eq_zero_iff.1 hl]
    simp [stL]
  | succ n ih =>
    intro l hl
    have hne : l ≠ [] := by intro h; rw [h] at hl; cases hl
    have i := ih l.dropLast (by rw [List.length_dropLast]; omega)
    have hl2 := List.dropLast_concat_getLast hne
    generalize l.getLast hne = b at hl2
    generalize l.dropLast = m at hl2 i
    subst hl2
    rw [stL_snoc]
    generalize stL m = q at i ⊢
    obtain ⟨q1, q2⟩ := q
    by_cases hb : isSp b = true
    · rcases q2 with _ | c
      · have i' : (q1.map (fun x => x.length + 1)).sum ≤ n := i
        simp only [stepW, hb, if_true]
        show (q1.map (fun x => x.length + 1)).sum ≤ n + 1
        omega
      · have i' : (q1.map (fun x => x.length + 1)).sum + c.length ≤ n := i
        have e : ((q1 ++ [c]).map (fun x : List UInt8 => x.length + 1)).sum = (q1.map (fun x => x.length + 1)).sum + (c.length + 1) := by rw [List.map_append, List.sum_append]; simp
        simp only [stepW, hb, if_true]
        show ((q1 ++ [c]).map (fun x : List UInt8 => x.length + 1)).sum ≤ n + 1
        omega
    · rcases q2 with _ | c
      · have i' : (q1.map (fun x => x.length + 1)).sum ≤ n := i
        simp only [stepW, if_neg hb]
        show (q1.map (fun x => x.length + 1)).sum + 1 ≤ n + 1
        omega
      · have i' : (q1.map (fun x => x.length + 1)).sum + c.length ≤ n := i
        have e : (c ++ [b]).length = c.length + 1 := by simp
        simp only [stepW, if_neg hb]
        show (q1.map (fun x => x.length + 1)).sum + (c ++ [b]).length ≤ n + 1
        omega
theorem wl_size (l : List UInt8) : ((wl l).map (fun x => x.length + 1)).sum ≤ l.length + 1 := by
  have h := stL_size l.length l rfl
  unfold wl outW
  generalize stL l = q at h ⊢
  obtain ⟨q1, q2⟩ := q
  rcases q2 with _ | c
  · simp only at h ⊢
    omega
  · simp only [List.map_append, List.sum_append] at h ⊢
    simp
    omega
end Go.Proofs.YtomkhhpigpilfaaGreatDoor
