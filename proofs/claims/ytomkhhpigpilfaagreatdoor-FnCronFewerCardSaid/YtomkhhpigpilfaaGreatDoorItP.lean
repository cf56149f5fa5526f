/- An item of a field of a cron text, in plain words: as the reference reads it and as the package does. -/
import Derived.Test.YtomkhhpigpilfaaGreatDoorVal
import Derived.Test.YtomkhhpigpilfaaGreatDoorBits
set_option linter.unusedVariables false
set_option linter.unusedSimpArgs false
namespace Go.Proofs.YtomkhhpigpilfaaGreatDoor

def sB : Nat := 9223372036854775808
def starT (l : List UInt8) : Bool := l == [42] || l == [63]
/-- The package's ends: first, last, whether a star. -/
def endsI (lo hi : Nat) (f : List UInt8 → Option Nat) : List (List UInt8) → Option (Nat × Nat × Bool)
  | [] => none
  | x :: r => if starT x = true then some (lo, hi, true) else match f x with
    | none => none
    | some a => match r with
      | [] => some (a, a, false)
      | [y] => match f y with | none => none | some b => some (a, b, false)
      | _ :: _ :: _ => none
def fin (lo hi a b k : Nat) (star : Bool) : Option Nat := if a < lo then none else if hi < b then none else if b < a then none else if k = 0 then none else some (gb a b k ||| if star = true then sB else 0)
/-- The package's item: its bits, or none. -/
def itemI (lo hi : Nat) (f : List UInt8 → Option Nat) (l : List UInt8) : Option Nat := match cut 47 l with
  | [] => none
  | h :: t => match endsI lo hi f (cut 45 h) with
    | none => none
    | some (a, b, star) => match t with
      | [] => fin lo hi a b 1 star
      | [s] => match inum s with
        | none => none
        | some k => fin lo hi a (if (cut 45 h).length = 1 then hi else b) k (star && decide (k ≤ 1))
      | _ :: _ :: _ => none

def worse (a b : Nat) : Nat := if a = 0 ∨ b = 0 then 0 else max a b
/-- The reference's ends. -/
structure EndR where
  low : Nat
  high : Nat
  star : Bool
  single : Bool
  vd : Nat
def endsR (lo hi : Nat) (day : Bool) (f : List UInt8 → Nat × Nat) : List (List UInt8) → EndR
  | [] => ⟨0, 0, false, false, 0⟩
  | x :: r => if starT x = true then ⟨lo, hi, true, r.isEmpty, if (!r.isEmpty || (x == [63] && !day)) = true then 2 else 1⟩ else match r with
    | [] => ⟨(f x).1, (f x).1, false, true, (f x).2⟩
    | [y] => ⟨(f x).1, (f y).1, false, false, worse (f x).2 (f y).2⟩
    | _ :: _ :: _ => ⟨0, 0, false, false, 0⟩
def stepR (l : List UInt8) : Nat × Nat := if (numR l).2 = 0 ∨ (numR l).1 = 0 then (0, 0) else if (numR l).1 = H40 then (0, 2) else numR l
def finR (lo hi low high step : Nat) (star : Bool) (vd : Nat) : Nat × Nat := if vd ≠ 1 then (0, vd) else if low < lo ∨ hi < high ∨ high < low then (0, 0) else (gb low high step ||| (if (star && step == 1) = true then sB else 0), 1)
/-- The reference's item: its bits, and the verdict. -/
def itemR (lo hi : Nat) (day : Bool) (f : List UInt8 → Nat × Nat) (l : List UInt8) : Nat × Nat := match cut 47 l with
  | [h] => finR lo hi (endsR lo hi day f (cut 45 h)).low (endsR lo hi day f (cut 45 h)).high 1 (endsR lo hi day f (cut 45 h)).star (endsR lo hi day f (cut 45 h)).vd
  | [h, s] => finR lo hi (endsR lo hi day f (cut 45 h)).low (if ((endsR lo hi day f (cut 45 h)).single && !(endsR lo hi day f (cut 45 h)).star) = true then hi else (endsR lo hi day f (cut 45 h)).high) (stepR s).1 (endsR lo hi day f (cut 45 h)).star (worse (endsR lo hi day f (cut 45 h)).vd (stepR s).2)
  | _ => (0, 0)

theorem worse_zero {a b : Nat} (h : worse a b = 0) : a = 0 ∨ b = 0 := by
  unfold worse at h
  split at h
  · assumption
  · omega
theorem worse_one {a b : Nat} (h : worse a b = 1) : a = 1 ∧ b = 1 := by
  unfold worse at h
  split at h
  · cases h
  · omega
theorem fin_out {lo hi a b low high k : Nat} {star : Bool} (hh : hi ≤ 62) (hl : lo ≤ hi) (ha : Near a low) (hb : Near b high) (h : low < lo ∨ hi < high ∨ high < low) : fin lo hi a b k star = none := by
  unfold fin
  unfold Near H40 at ha hb
  split
  · rfl
  · split
    · rfl
    · split
      · rfl
      · omega
theorem fin_in {lo hi a b low high k : Nat} {star : Bool} (hh : hi ≤ 62) (ha : Near a low) (hb : Near b high) (h : ¬ (low < lo ∨ hi < high ∨ high < low)) (hk : k ≠ 0) : fin lo hi a b k star = some (gb low high k ||| if star = true then sB else 0) := by
  unfold Near H40 at ha hb
  have ea : a = low := by omega
  have eb : b = high := by omega
  subst ea
  subst eb
  unfold fin
  rw [if_neg (by omega), if_neg (by omega), if_neg (by omega), if_neg hk]
theorem fin_zero {lo hi a b : Nat} {star : Bool} : fin lo hi a b 0 star = none := by
  unfold fin
  split
  · rfl
  · split
    · rfl
    · split
      · rfl
      · rfl

/-- What the two readings of the ends have to do with one another. -/
def EndMet (lo hi : Nat) (o : Option (Nat × Nat × Bool)) (e : EndR) : Prop :=
  (e.star = true ∧ o = some (lo, hi, true) ∧ e.low = lo ∧ e.high = hi) ∨ (e.star = false ∧ o = none ∧ (H40 ≤ e.low ∨ (e.single = false ∧ H40 ≤ e.high))) ∨ (e.star = false ∧ ∃ a b, o = some (a, b, false) ∧ Near a e.low ∧ Near b e.high)
section
variable (lo hi : Nat) (day : Bool) (fR : List UInt8 → Nat × Nat) (fI : List UInt8 → Option Nat) (x y z : List UInt8) (r : List (List UInt8))
theorem endsR_star (h : starT x = true) : endsR lo hi day fR (x :: r) = ⟨lo, hi, true, r.isEmpty, if (!r.isEmpty || (x == [63] && !day)) = true then 2 else 1⟩ := by unfold endsR; exact if_pos h
theorem endsI_star (h : starT x = true) : endsI lo hi fI (x :: r) = some (lo, hi, true) := by unfold endsI; exact if_pos h
theorem endsR_one (h : ¬ starT x = true) : endsR lo hi day fR [x] = ⟨(fR x).1, (fR x).1, false, true, (fR x).2⟩ := by unfold endsR; exact if_neg h
theorem endsI_one (h : ¬ starT x = true) : endsI lo hi fI [x] = match fI x with | none => none | some a => some (a, a, false) := by unfold endsI; exact if_neg h
theorem endsR_two (h : ¬ starT x = true) : endsR lo hi day fR [x, y] = ⟨(fR x).1, (fR y).1, false, false, worse (fR x).2 (fR y).2⟩ := by unfold endsR; exact if_neg h
theorem endsI_two (h : ¬ starT x = true) : endsI lo hi fI [x, y] = match fI x with | none => none | some a => match fI y with | none => none | some b => some (a, b, false) := by unfold endsI; exact if_neg h
theorem endsR_more (h : ¬ starT x = true) : endsR lo hi day fR (x :: y :: z :: r) = ⟨0, 0, false, false, 0⟩ := by unfold endsR; exact if_neg h
theorem endsI_more (h : ¬ starT x = true) : endsI lo hi fI (x :: y :: z :: r) = none := by
  unfold endsI
  exact (if_neg h).trans (by cases fI x <;> rfl)
variable (l h s : List UInt8)
theorem itemR_one (hc : cut 47 l = [h]) : itemR lo hi day fR l = finR lo hi (endsR lo hi day fR (cut 45 h)).low (endsR lo hi day fR (cut 45 h)).high 1 (endsR lo hi day fR (cut 45 h)).star (endsR lo hi day fR (cut 45 h)).vd := by unfold itemR; rw [hc]
theorem itemI_one (hc : cut 47 l = [h]) : itemI lo hi fI l = match endsI lo hi fI (cut 45 h) with | none => none | some (a, b, star) => fin lo hi a b 1 star := by unfold itemI; rw [hc]
theorem itemR_two (hc : cut 47 l = [h, s]) : itemR lo hi day fR l = finR lo hi (endsR lo hi day fR (cut 45 h)).low (if ((endsR lo hi day fR (cut 45 h)).single && !(endsR lo hi day fR (cut 45 h)).star) = true then hi else (endsR lo hi day fR (cut 45 h)).high) (stepR s).1 (endsR lo hi day fR (cut 45 h)).star (worse (endsR lo hi day fR (cut 45 h)).vd (stepR s).2) := by unfold itemR; rw [hc]
theorem itemI_two (hc : cut 47 l = [h, s]) : itemI lo hi fI l = match endsI lo hi fI (cut 45 h) with | none => none | some (a, b, star) => match inum s with | none => none | some k => fin lo hi a (if (cut 45 h).length = 1 then hi else b) k (star && decide (k ≤ 1)) := by unfold itemI; rw [hc]
theorem itemR_more (hc : cut 47 l = h :: s :: z :: r) : itemR lo hi day fR l = (0, 0) := by unfold itemR; rw [hc]
theorem itemI_more (hc : cut 47 l = h :: s :: z :: r) : itemI lo hi fI l = none := by
  unfold itemI
  rw [hc]
  simp only
  split
  · rfl
  · rfl
end
theorem ends_law (lo hi : Nat) (day : Bool) (fR : List UInt8 → Nat × Nat) (fI : List UInt8 → Option Nat) (h0 : ∀ x, (fR x).2 = 0 → fI x = none) (h1 : ∀ x n, fR x = (n, 1) → Met (fI x) n) (es : List (List UInt8)) :
    ((endsR lo hi day fR es).vd = 0 → endsI lo hi fI es = none) ∧ ((endsR lo hi day fR es).vd = 1 → EndMet lo hi (endsI lo hi fI es) (endsR lo hi day fR es)) ∧ ((endsR lo hi day fR es).single = true → es.length = 1) ∧ ((endsR lo hi day fR es).vd = 1 → (endsR lo hi day fR es).single = false → es.length ≠ 1) := by
  cases es with
  | nil => exact ⟨fun _ => rfl, fun h => (by cases h), fun h => (by cases h), fun h => (by cases h)⟩
  | cons x r =>
    by_cases hs : starT x = true
    · rw [endsR_star lo hi day fR x r hs, endsI_star lo hi fI x r hs]
      refine ⟨fun h => ?_, fun h => .inl ⟨rfl, rfl, rfl, rfl⟩, fun h => ?_, fun _ h => ?_⟩
      · have h : (if (!r.isEmpty || (x == [63] && !day)) = true then 2 else 1) = 0 := h
        split at h <;> cases h
      · cases r with
        | nil => rfl
        | cons y t => cases h
      · cases r with
        | nil => cases h
        | cons y t => simp
    · cases r with
      | nil =>
        rw [endsR_one lo hi day fR x hs, endsI_one lo hi fI x hs]
        refine ⟨fun h => by rw [h0 x h], fun h => ?_, fun _ => rfl, fun _ h => (by cases h)⟩
        rcases h1 x (fR x).1 (Prod.ext rfl h) with ⟨h2, h3⟩ | ⟨a, h2, h3⟩
        · rw [h2]; exact .inr (.inl ⟨rfl, rfl, .inl h3⟩)
        · rw [h2]; exact .inr (.inr ⟨rfl, a, a, rfl, h3, h3⟩)
      | cons y t =>
        cases t with
        | nil =>
          rw [endsR_two lo hi day fR x y hs, endsI_two lo hi fI x y hs]
          refine ⟨fun h => ?_, fun h => ?_, fun h => (by cases h), fun _ _ => (by simp)⟩
          · rcases worse_zero h with h | h
            · rw [h0 x h]
            · rw [h0 y h]
              cases fI x <;> rfl
          · obtain ⟨e1, e2⟩ := worse_one h
            rcases h1 x (fR x).1 (Prod.ext rfl e1) with ⟨h2, h3⟩ | ⟨a, h2, h3⟩
            · rw [h2]; exact .inr (.inl ⟨rfl, rfl, .inl h3⟩)
            · rw [h2]
              rcases h1 y (fR y).1 (Prod.ext rfl e2) with ⟨k2, k3⟩ | ⟨b, k2, k3⟩
              · rw [k2]; exact .inr (.inl ⟨rfl, rfl, .inr ⟨rfl, k3⟩⟩)
              · rw [k2]; exact .inr (.inr ⟨rfl, a, b, rfl, h3, k3⟩)
        | cons z u =>
          rw [endsR_more lo hi day fR x y z u hs, endsI_more lo hi fI x y z u hs]
          exact ⟨fun _ => rfl, fun h => (by cases h), fun h => (by cases h), fun h => (by cases h)⟩
theorem step_one {l : List UInt8} (h : (stepR l).2 = 1) : inum l = some (stepR l).1 ∧ 1 ≤ (stepR l).1 := by
  unfold stepR at h ⊢
  split
  · rename_i hz
    rw [if_pos hz] at h
    cases h
  · rename_i hz
    rw [if_neg hz] at h
    split
    · rename_i hb
      rw [if_pos hb] at h
      cases h
    · rename_i hb
      rw [if_neg hb] at h
      rcases num_met (Prod.ext rfl h : numR l = ((numR l).1, 1)) with ⟨_, h3⟩ | ⟨a, h2, h3⟩
      · have := (num_fine (Prod.ext rfl h : numR l = ((numR l).1, 1))).2
        omega
      · have := (num_fine (Prod.ext rfl h : numR l = ((numR l).1, 1))).2
        rcases h3 with rfl | ⟨h3, h4⟩
        · exact ⟨h2, by omega⟩
        · omega
theorem step_zero {l : List UInt8} (h : (stepR l).2 = 0) : inum l = none ∨ inum l = some 0 := by
  unfold stepR at h
  split at h
  · rename_i hz
    rcases hz with hz | hz
    · exact .inl (num_bad hz)
    · rcases hi : inum l with _ | m
      · exact .inl rfl
      · rw [num_none hz hi]
        exact .inr rfl
  · rename_i hz
    split at h
    · cases h
    · exact absurd (.inl h) hz

theorem item_law (lo hi : Nat) (day : Bool) (fR : List UInt8 → Nat × Nat) (fI : List UInt8 → Option Nat) (h0 : ∀ x, (fR x).2 = 0 → fI x = none) (h1 : ∀ x n, fR x = (n, 1) → Met (fI x) n) (hl : lo ≤ hi) (hh : hi ≤ 62) (l : List UInt8) :
    ((itemR lo hi day fR l).2 = 0 → itemI lo hi fI l = none) ∧ ((itemR lo hi day fR l).2 = 1 → itemI lo hi fI l = some (itemR lo hi day fR l).1) := by
  have hne := cut_ne 47 l
  cases hc : cut 47 l with
  | nil => exact absurd hc hne
  | cons h t =>
    obtain ⟨e1, e2, e3, e4⟩ := ends_law lo hi day fR fI h0 h1 (cut 45 h)
    cases t with
    | nil =>
      rw [itemR_one lo hi day fR l h hc, itemI_one lo hi fI l h hc]
      generalize cut 45 h = es at e1 e2 e3 e4 ⊢
      generalize endsR lo hi day fR es = e at e1 e2 e3 e4 ⊢
      generalize endsI lo hi fI es = o at e1 e2 ⊢
      by_cases v0 : e.vd = 1
      · unfold finR
        rw [if_neg (fun h => h v0)]
        have hm := e2 v0
        by_cases hb : e.low < lo ∨ hi < e.high ∨ e.high < e.low
        · rw [if_pos hb]
          refine ⟨fun _ => ?_, fun h => absurd h (by decide)⟩
          rcases hm with ⟨_, rfl, k1, k2⟩ | ⟨_, rfl, _⟩ | ⟨_, a, b, rfl, k1, k2⟩
          · omega
          · rfl
          · exact fin_out hh hl k1 k2 hb
        · rw [if_neg hb]
          refine ⟨fun h => (by cases h), fun _ => ?_⟩
          rcases hm with ⟨ks, rfl, k1, k2⟩ | ⟨_, rfl, k⟩ | ⟨ks, a, b, rfl, k1, k2⟩
          · simp only
            rw [fin_in hh (.inl rfl) (.inl rfl) (by omega) (by decide), k1, k2, ks]
            rfl
          · unfold H40 at k
            omega
          · simp only
            rw [fin_in hh k1 k2 hb (by decide), ks]
            rfl
      · unfold finR
        rw [if_pos v0]
        refine ⟨fun h => ?_, fun h => absurd h v0⟩
        rw [e1 h]
    | cons s u =>
      cases u with
      | nil =>
        rw [itemR_two lo hi day fR l h s hc, itemI_two lo hi fI l h s hc]
        generalize cut 45 h = es at e1 e2 e3 e4 ⊢
        generalize endsR lo hi day fR es = e at e1 e2 e3 e4 ⊢
        generalize endsI lo hi fI es = o at e1 e2 ⊢
        by_cases v0 : worse e.vd (stepR s).2 = 1
        · obtain ⟨v1, v2⟩ := worse_one v0
          obtain ⟨i1, i2⟩ := step_one v2
          unfold finR
          rw [if_neg (fun h => h v0)]
          have hm := e2 v1
          rw [i1]
          simp only
          have hd : (decide ((stepR s).1 ≤ 1)) = ((stepR s).1 == 1) := by
            by_cases q : (stepR s).1 = 1
            · rw [q]; rfl
            · rw [show ((stepR s).1 == 1) = false from beq_eq_false_iff_ne.2 q]; exact decide_eq_false (by omega)
          rw [hd]
          have hlen : (es.length = 1) ↔ e.single = true := ⟨fun h => by
            cases q : e.single
            · exact absurd h (e4 v1 q)
            · rfl, e3⟩
          generalize (stepR s).1 = k at i2 ⊢
          rcases hm with ⟨ks, rfl, k1, k2⟩ | ⟨ks, rfl, k⟩ | ⟨ks, a, b, rfl, k1, k2⟩
          · rw [ks, k1, k2]
            simp only [Bool.not_true, Bool.and_false, if_false, Bool.true_and]
            have hb : ¬ (lo < lo ∨ hi < hi ∨ hi < lo) := by omega
            rw [if_neg (by simpa using hb)]
            refine ⟨fun h => (by cases h), fun _ => ?_⟩
            rw [show (if es.length = 1 then hi else hi) = hi by split <;> rfl, fin_in hh (.inl rfl) (.inl rfl) hb (by omega)]
            rfl
          · rw [ks]
            simp only [Bool.not_false, Bool.and_true, Bool.false_and]
            have hb : e.low < lo ∨ hi < (if e.single = true then hi else e.high) ∨ (if e.single = true then hi else e.high) < e.low := by
              unfold H40 at k
              rcases k with k | ⟨q, k⟩
              · by_cases q : e.single = true
                · rw [if_pos q]; omega
                · rw [if_neg q]; omega
              · rw [if_neg (by rw [q]; decide)]; omega
            rw [if_pos hb]
            exact ⟨fun _ => trivial, fun h => (by cases h)⟩
          · rw [ks]
            simp only [Bool.not_false, Bool.and_true, Bool.false_and]
            have hB : Near (if es.length = 1 then hi else b) (if e.single = true then hi else e.high) := by
              by_cases q : e.single = true
              · rw [if_pos q, if_pos (hlen.2 q)]; exact .inl rfl
              · rw [if_neg q, if_neg (fun h => q (hlen.1 h))]; exact k2
            by_cases hb : e.low < lo ∨ hi < (if e.single = true then hi else e.high) ∨ (if e.single = true then hi else e.high) < e.low
            · rw [if_pos hb]
              exact ⟨fun _ => fin_out hh hl k1 hB hb, fun h => absurd h (by decide)⟩
            · rw [if_neg hb]
              refine ⟨fun h => (by cases h), fun _ => ?_⟩
              rw [fin_in hh k1 hB hb (by omega)]
        · unfold finR
          rw [if_pos v0]
          refine ⟨fun h => ?_, fun h => absurd h v0⟩
          rcases worse_zero h with h | h
          · rw [e1 h]
          · rcases step_zero h with h | h <;> rw [h]
            · cases o with
              | none => rfl
              | some p => rfl
            · cases o with
              | none => rfl
              | some p => exact fin_zero
      | cons s2 u2 =>
        rw [itemR_more lo hi day fR s2 u2 l h s hc, itemI_more lo hi fI s2 u2 l h s hc]
        exact ⟨fun _ => rfl, fun h => (by cases h)⟩
end Go.Proofs.YtomkhhpigpilfaaGreatDoor
