/- Texts in ascending order: which of them begin with a text. Plain. -/
import Derived.Test.YtekjeagcncfmmaaDoorStrP
import Derived.Sort.Walk0
set_option linter.unusedVariables false
set_option linter.unusedSimpArgs false
namespace Go.Proofs.YtekjeagcncfmmaaDoor

/-- s begins with t. -/
def begB (t s : ByteArray) : Bool := t.toList.isPrefixOf s.toList
/-- a lies below b. -/
def lowB (a b : ByteArray) : Bool := Op.bytesLess a.toList b.toList

theorem lowB_iff (a b : ByteArray) : lowB a b = true ↔ a.toList < b.toList := by
  unfold lowB
  rw [Go.Proofs.bytesLess_eq]
  simp
theorem lowB_trans {a b c : ByteArray} (h1 : lowB a b = true) (h2 : lowB b c = true) : lowB a c = true := by
  rw [lowB_iff] at *
  exact List.lt_trans h1 h2
theorem lowB_irrefl (a : ByteArray) : lowB a a = false := by
  rw [Bool.eq_false_iff, Ne, lowB_iff]
  exact List.lt_irrefl _

theorem pre_not_low : ∀ (t s : List UInt8), t.isPrefixOf s = true → ¬ s < t
  | [], s, _ => by intro h; cases s <;> cases h
  | x :: t, [], h => by simp at h
  | x :: t, y :: s, h => by
    simp only [List.isPrefixOf, Bool.and_eq_true, beq_iff_eq] at h
    obtain ⟨rfl, h⟩ := h
    rw [List.cons_lt_cons_iff]
    rintro (hl | ⟨_, hl⟩)
    · exact absurd hl (UInt8.lt_irrefl _)
    · exact pre_not_low t s h hl
theorem pre_between : ∀ (t x y : List UInt8), t.isPrefixOf y = true → ¬ x < t → x < y → t.isPrefixOf x = true
  | [], x, y, _, _, _ => by simp
  | c :: t, [], y, _, h1, _ => absurd (List.nil_lt_cons c t) h1
  | c :: t, d :: x, [], h, _, _ => by simp at h
  | c :: t, d :: x, e :: y, h, h1, h2 => by
    simp only [List.isPrefixOf, Bool.and_eq_true, beq_iff_eq] at h ⊢
    obtain ⟨rfl, h⟩ := h
    rw [List.cons_lt_cons_iff] at h1 h2
    have hdc : ¬ d < c := fun hd => h1 (.inl hd)
    rcases h2 with hl | ⟨rfl, hl⟩
    · exact absurd hl hdc
    · exact ⟨rfl, pre_between t x y h (fun hx => h1 (.inr ⟨rfl, hx⟩)) hl⟩
theorem pre_same {t s : List UInt8} (h : t.isPrefixOf s = true) (hl : t.length = s.length) : t = s := by
  rw [List.isPrefixOf_iff_prefix] at h
  exact h.eq_of_length hl

/-- Those of the first k texts that begin with t. -/
def mts (t : ByteArray) (f : Nat → ByteArray) : Nat → List ByteArray
  | 0 => []
  | k + 1 => mts t f k ++ (if begB t (f k) then [f k] else [])

theorem mts_len (t : ByteArray) (f : Nat → ByteArray) : ∀ k, (mts t f k).length ≤ k
  | 0 => Nat.le_refl _
  | k + 1 => by
    have := mts_len t f k
    unfold mts
    split <;> simp <;> omega

/-- Ascending. -/
def Asc (f : Nat → ByteArray) (n : Nat) : Prop := ∀ i, i + 1 < n → lowB (f i) (f (i + 1)) = true
theorem Asc.lt {f : Nat → ByteArray} {n : Nat} (h : Asc f n) : ∀ {i j : Nat}, i < j → j < n → lowB (f i) (f j) = true := by
  intro i j hij
  induction j with
  | zero => omega
  | succ j ih =>
    intro hj
    rcases Nat.lt_or_ge i j with h1 | h1
    · exact lowB_trans (ih h1 (by omega)) (h j hj)
    · obtain rfl : i = j := by omega
      exact h i hj
/-- Once not below t, never below it again. -/
theorem Asc.mono {f : Nat → ByteArray} {n : Nat} (h : Asc f n) (t : ByteArray) : ∀ a b, a ≤ b → b < n → (!lowB (f a) t) = true → (!lowB (f b) t) = true := by
  intro a b hab hb ha
  rcases Nat.lt_or_ge a b with h1 | h1
  · have := h.lt h1 hb
    cases hq : lowB (f b) t with
    | false => rfl
    | true => rw [lowB_trans this hq] at ha; cases ha
  · obtain rfl : a = b := by omega
    exact ha

/-- idx: the first place that is not below t. -/
structure Place (f : Nat → ByteArray) (n : Nat) (t : ByteArray) (idx : Nat) : Prop where
  le : idx ≤ n
  below : ∀ i, i < idx → lowB (f i) t = true
  at_ : idx < n → lowB (f idx) t = false

theorem Place.not_before {f : Nat → ByteArray} {n : Nat} {t : ByteArray} {idx : Nat} (p : Place f n t idx) (i : Nat) (hi : i < idx) : begB t (f i) = false := by
  cases h : begB t (f i) with
  | false => rfl
  | true => exact absurd ((lowB_iff _ _).1 (p.below i hi)) (pre_not_low _ _ h)
theorem Place.between {f : Nat → ByteArray} {n : Nat} {t : ByteArray} {idx : Nat} (p : Place f n t idx) (ha : Asc f n) {i j : Nat} (h1 : idx ≤ i) (h2 : i < j) (h3 : j < n) (h : begB t (f j) = true) : begB t (f i) = true := by
  have hq := ha.mono t idx i h1 (by omega) (by rw [p.at_ (by omega)]; rfl)
  refine pre_between _ _ _ h ?_ ((lowB_iff _ _).1 (ha.lt h2 h3))
  intro hl
  rw [(lowB_iff _ _).2 hl] at hq
  cases hq

theorem Place.head {f : Nat → ByteArray} {n : Nat} {t : ByteArray} {idx : Nat} (p : Place f n t idx) : ∀ k, k ≤ idx → mts t f k = []
  | 0, _ => rfl
  | k + 1, h => by
    unfold mts
    rw [Place.head p k (by omega), p.not_before k (by omega)]
    rfl
/-- None. -/
theorem Place.none {f : Nat → ByteArray} {n : Nat} {t : ByteArray} {idx : Nat} (p : Place f n t idx) (ha : Asc f n) (h : idx = n ∨ begB t (f idx) = false) : mts t f n = [] := by
  rcases h with rfl | h
  · exact p.head idx (Nat.le_refl _)
  · have : ∀ k, k ≤ n → mts t f k = [] := by
      intro k
      induction k with
      | zero => intro _; rfl
      | succ k ih =>
        intro hk
        unfold mts
        rw [ih (by omega)]
        have hb : begB t (f k) = false := by
          rcases Nat.lt_trichotomy k idx with h1 | h1 | h1
          · exact p.not_before k h1
          · rw [h1]; exact h
          · cases hb : begB t (f k) with
            | false => rfl
            | true => rw [p.between ha (Nat.le_refl _) h1 (by omega) hb] at h; cases h
        rw [hb]
        rfl
    exact this n (Nat.le_refl _)
/-- One. -/
theorem Place.one {f : Nat → ByteArray} {n : Nat} {t : ByteArray} {idx : Nat} (p : Place f n t idx) (ha : Asc f n) (hn : idx < n) (h : begB t (f idx) = true) (h2 : idx + 1 = n ∨ begB t (f (idx + 1)) = false) : mts t f n = [f idx] := by
  have : ∀ k, idx + 1 ≤ k → k ≤ n → mts t f k = [f idx] := by
    intro k
    induction k with
    | zero => intro h0; omega
    | succ k ih =>
      intro h0 hk
      unfold mts
      rcases Nat.lt_or_ge idx k with h1 | h1
      · rw [ih (by omega) (by omega)]
        have hb : begB t (f k) = false := by
          rcases h2 with h2 | h2
          · omega
          · rcases Nat.lt_or_ge (idx + 1) k with h3 | h3
            · cases hb : begB t (f k) with
              | false => rfl
              | true => rw [p.between ha (by omega) h3 (by omega) hb] at h2; cases h2
            · obtain rfl : k = idx + 1 := by omega
              exact h2
        rw [hb]
        rfl
      · obtain rfl : k = idx := by omega
        rw [p.head k (Nat.le_refl _), h]
        rfl
  exact this n (by omega) (Nat.le_refl _)
/-- Many. -/
theorem Place.many {f : Nat → ByteArray} {n : Nat} {t : ByteArray} {idx : Nat} (p : Place f n t idx) (hn : idx + 1 < n) (h : begB t (f idx) = true) (h2 : begB t (f (idx + 1)) = true) : 2 ≤ (mts t f n).length := by
  have : ∀ k, idx + 2 ≤ k → 2 ≤ (mts t f k).length := by
    intro k
    induction k with
    | zero => intro h0; omega
    | succ k ih =>
      intro h0
      unfold mts
      rcases Nat.lt_or_ge (idx + 1) k with h1 | h1
      · have := ih (by omega)
        simp only [List.length_append]
        omega
      · obtain rfl : k = idx + 1 := by omega
        unfold mts
        rw [p.head idx (Nat.le_refl _), h, h2]
        simp
  exact this n (by omega)

/-- A whole text that stands among others of its length: only one begins with it. -/
theorem begB_whole {t a b : ByteArray} (h : begB t a = true) (hl : t.size = a.size) : t = a := bytes_inj (pre_same h (by rw [size_list, size_list]; exact hl))

/-- How many places below n are below t: the place. -/
theorem place_count {f : Nat → ByteArray} {n : Nat} (ha : Asc f n) (t : ByteArray) : Place f n t ((List.range n).countP (fun i => !(!lowB (f i) t))) := by
  have key : ∀ m, m ≤ n → Place f m t ((List.range m).countP (fun i => !(!lowB (f i) t))) := by
    intro m
    induction m with
    | zero => intro _; exact ⟨Nat.le_refl _, fun i hi => absurd hi (Nat.not_lt_zero _), fun h => absurd h (Nat.not_lt_zero _)⟩
    | succ m ih =>
      intro hm
      have p := ih (by omega)
      rw [List.range_succ, List.countP_append]
      generalize hc : (List.range m).countP (fun i => !(!lowB (f i) t)) = c at p ⊢
      simp only [List.countP_cons, List.countP_nil, Nat.zero_add, Bool.not_not]
      cases hb : lowB (f m) t with
      | true =>
        have hcm : c = m := by
          rcases Nat.lt_or_ge c m with h1 | h1
          · have := ha.mono t c m (by omega) (by omega) (by rw [p.at_ h1]; rfl)
            rw [hb] at this
            cases this
          · have := p.le
            omega
        subst hcm
        refine ⟨by simp, fun i hi => ?_, fun h => by simp at h⟩
        rcases Nat.lt_or_ge i c with h1 | h1
        · exact p.below i h1
        · have e : i = c := by simp at hi; omega
          rw [e]; exact hb
      | false =>
        refine ⟨by have := p.le; simp; omega, fun i hi => p.below i (by simpa using hi), fun h => ?_⟩
        simp only [Bool.false_eq_true, if_false, Nat.add_zero]
        rcases Nat.lt_or_ge c m with h1 | h1
        · exact p.at_ h1
        · have e : c = m := by have := p.le; omega
          rw [e]; exact hb
  exact key n (Nat.le_refl _)
end Go.Proofs.YtekjeagcncfmmaaDoor
