/- The next activation, in plain numbers: what a schedule's sets allow, and how far a search may go. -/
import Derived.Test.YtjbafphoemibaaaGreatDoorAddD
import Derived.Test.YtjbafphoemibaaaGreatDoorDayM
set_option linter.unusedVariables false
set_option linter.unusedSimpArgs false
namespace Go.Proofs.YtjbafphoemibaaaGreatDoor

/-- The six sets of a schedule. -/
structure Sets where
  sec : Int
  min : Int
  hour : Int
  dom : Int
  month : Int
  dow : Int

def wdN (day : Int) : Nat := (absD day + 3) % 7
def monOK (S : Sets) (day : Int) : Bool := hasB S.month (mP day).toNat
def dayOK (S : Sets) (day : Int) : Bool := dmB S.dom S.dow (mdN (ydN (absD day))) (wdN day)
def hourOK (S : Sets) (l : Int) : Bool := hasB S.hour (l % 86400 / 3600).toNat
def minOK (S : Sets) (l : Int) : Bool := hasB S.min (l % 3600 / 60).toNat
def secOK (S : Sets) (l : Int) : Bool := hasB S.sec (l % 60).toNat
/-- A schedule is activated at a second of the clocks. -/
def fits (S : Sets) (l : Int) : Prop := monOK S (l / 86400) = true ∧ dayOK S (l / 86400) = true ∧ hourOK S l = true ∧ minOK S l = true ∧ secOK S l = true
def noFit (S : Sets) (a b : Int) : Prop := ∀ l, a ≤ l → l < b → ¬ fits S l
theorem noFit.ext {S : Sets} {a b c : Int} (h : noFit S a b) (h2 : ∀ l, b ≤ l → l < c → ¬ fits S l) : noFit S a c := fun l h1 h3 => by
  rcases Int.lt_or_le l b with g | g
  · exact h l h1 g
  · exact h2 l g h3

def monthStart (l : Int) : Prop := dP (l / 86400) = 1 ∧ l % 86400 = 0
/-- What a search that has put its moment forward stands on. -/
def Al (S : Sets) (l : Int) : Prop :=
  monthStart l ∨ (monOK S ((l - 1) / 86400) = true ∧ (l % 86400 = 0 ∨ (dayOK S ((l - 1) / 86400) = true ∧ (l % 3600 = 0 ∨ (hourOK S (l - 1) = true ∧ l % 60 = 0)))))
/-- A search under way: no second from the first one on is activated; it stands at the first one or where it was put. -/
structure Way (S : Sets) (l0 lim : Int) (added : Bool) (l : Int) : Prop where
  ge : l0 ≤ l
  no : noFit S l0 l
  same : added = false → l = l0
  al : added = true → Al S l
  year : yP (l / 86400) ≤ lim + 1

theorem mP_bounds {day : Int} (h1 : -1000000 ≤ day) (h2 : day ≤ 10000000) : 1 ≤ mP day ∧ mP day ≤ 12 ∧ 1 ≤ dP day ∧ dP day ≤ md (yP day) (mP day) := (abs_date day h1 h2).2

/-- The first day of the next month. -/
def nextM (day : Int) : Int := day - dP day + 1 + md (yP day) (mP day)
theorem in_month {day d : Int} (h1 : -1000000 ≤ day) (h2 : d ≤ 10000000) (h3 : day ≤ d) (h4 : d < nextM day) : yP d = yP day ∧ mP d = mP day ∧ dP d = dP day + (d - day) := by
  obtain ⟨p, q⟩ := abs_date day h1 (by omega)
  obtain ⟨c1, c2, c3, c4⟩ := q
  rw [dateIs_iff] at p
  unfold nextM at h4
  have ok : okDate (yP day) (mP day) (dP day + (d - day)) := ⟨c1, c2, by omega, by omega⟩
  have e : dayOf (yP day) (mP day) (dP day + (d - day)) = d := by
    have : dayOf (yP day) (mP day) (dP day + (d - day)) = dayOf (yP day) (mP day) (dP day) + (d - day) := by unfold dayOf; omega
    omega
  obtain ⟨x, y, z⟩ := date_of (by omega) h2 ok e
  exact ⟨x.symm, y.symm, z.symm⟩
theorem next_month {day : Int} (h1 : -1000000 ≤ day) (h2 : day ≤ 9000000) : dP (nextM day) = 1 ∧ day < nextM day ∧ nextM day ≤ day + 31 ∧
    ((mP day < 12 ∧ yP (nextM day) = yP day ∧ mP (nextM day) = mP day + 1 ∧ nextM day = dayOf (yP day) (mP day + 1) 1) ∨ (mP day = 12 ∧ yP (nextM day) = yP day + 1 ∧ mP (nextM day) = 1 ∧ nextM day = dayOf (yP day + 1) 1 1)) := by
  obtain ⟨c1, c2, c3, c4⟩ := mP_bounds h1 (show day ≤ 10000000 by omega)
  have mb := md_pos (yP day) (mP day)
  obtain ⟨d, hd⟩ : ∃ d, nextM day - 1 = d := ⟨_, rfl⟩
  have hd' : nextM day = d + 1 := by omega
  have hn : nextM day = day - dP day + 1 + md (yP day) (mP day) := rfl
  obtain ⟨x, y, z⟩ := in_month h1 (show d ≤ 10000000 by omega) (by omega) (by omega)
  have hz : dP d = md (yP d) (mP d) := by rw [x, y, z]; omega
  have key := day_next (day := d) (by omega) (by omega)
  obtain ⟨p, q⟩ := abs_date (d + 1) (by omega) (by omega)
  rw [dateIs_iff] at p
  rw [hd']
  rcases key with k | ⟨_, k2, k3, k4, k5⟩ | ⟨_, k2, k3, k4, k5⟩
  · omega
  · refine ⟨k5, by omega, by omega, .inl ⟨by omega, by omega, by omega, ?_⟩⟩
    rw [k3, k4, k5, x, y] at p
    exact p
  · refine ⟨k5, by omega, by omega, .inr ⟨by omega, by omega, by omega, ?_⟩⟩
    rw [k3, k4, k5, x] at p
    exact p

/-- A year's days end early. -/
theorem year_day {day y : Int} (h1 : -1000000 ≤ day) (h2 : day ≤ 10000000) (h : yP day ≤ y) (hy : y ≤ 12000) : day < 3700000 := by
  obtain ⟨p, q⟩ := abs_date day h1 h2
  rw [dateIs_iff] at p
  have a := (dayOf_year q).2
  have b := ys_mono (show yP day + 1 ≤ 12001 by omega)
  have c : ys 12001 = 3663748 := by unfold ys; omega
  omega
theorem day_year {day y : Int} (h1 : -1000000 ≤ day) (h2 : day ≤ 10000000) (h : -700000 ≤ day) : 0 ≤ yP day := by
  obtain ⟨p, q⟩ := abs_date day h1 h2
  rw [dateIs_iff] at p
  have a := (dayOf_year q).2
  rcases Int.lt_or_le (yP day) 0 with g | g
  · have b := ys_mono (show yP day + 1 ≤ 0 by omega)
    have c : ys 0 = -719528 := by unfold ys; omega
    omega
  · exact g

/- The steps of the search. lim: the last year. -/
def okL (l : Int) : Prop := -62200000000 ≤ l ∧ l ≤ 330000000000
theorem okL.near {l : Int} (h : okL l) : near l := ⟨by have := h.1; omega, by have := h.2; omega⟩
theorem okL_of {l0 l lim : Int} (h0 : okL l0) (hl : l0 ≤ l) (h2 : l ≤ 390000000000) (hy : yP (l / 86400) ≤ lim) (hlim : lim ≤ 12000) : okL l := by
  obtain ⟨a, b⟩ := h0
  have := year_day (day := l / 86400) (by omega) (by omega) hy hlim
  exact ⟨by omega, by omega⟩

/-- The month does not match: on to the next one. -/
theorem way_month {S : Sets} {l0 lim : Int} {added : Bool} {l : Int} (h : Way S l0 lim added l) (hl : okL l) (hy : yP (l / 86400) ≤ lim) (hm : monOK S (l / 86400) = false) (hs : added = true → monthStart l) :
    Way S l0 lim true (86400 * nextM (l / 86400)) ∧ l < 86400 * nextM (l / 86400) ∧ 86400 * nextM (l / 86400) ≤ l + 2800000 := by
  obtain ⟨a, b⟩ := hl
  obtain ⟨d, hd⟩ : ∃ d, l / 86400 = d := ⟨_, rfl⟩
  rw [hd] at hm hy ⊢
  have n := next_month (day := d) (by omega) (by omega)
  have e : 86400 * nextM d / 86400 = nextM d := by omega
  refine ⟨⟨by have := h.ge; omega, h.no.ext fun l' h1 h2 f => ?_, fun e => (by cases e), fun _ => .inl ⟨by rw [e]; exact n.1, by omega⟩, ?_⟩, by omega, by omega⟩
  · have i := in_month (day := d) (d := l' / 86400) (by omega) (by omega) (by omega) (by omega)
    have : monOK S (l' / 86400) = monOK S d := by unfold monOK; rw [i.2.1]
    have f1 := f.1
    rw [this, hm] at f1
    cases f1
  · rw [e]
    rcases n.2.2.2 with k | k <;> omega

theorem al_month {S : Sets} {l : Int} (hl : okL l) (h : Al S l) (hm : monOK S (l / 86400) = false) : monthStart l := by
  obtain ⟨a, b⟩ := hl
  rcases h with h | ⟨h, h'⟩
  · exact h
  · by_cases hd : (l - 1) / 86400 = l / 86400
    · rw [hd, hm] at h
      cases h
    · have e : (l - 1) / 86400 + 1 = l / 86400 := by omega
      rcases day_next (day := (l - 1) / 86400) (by omega) (by omega) with k | k | k
      · have : monOK S (l / 86400) = monOK S ((l - 1) / 86400) := by
          unfold monOK
          rw [← e, k.2.2.1]
        rw [this, h] at hm
        cases hm
      · exact ⟨by rw [← e]; exact k.2.2.2.2, by omega⟩
      · exact ⟨by rw [← e]; exact k.2.2.2.2, by omega⟩

/-- The day does not match: on to the next one. -/
theorem way_day {S : Sets} {l0 lim : Int} {added : Bool} {l : Int} (h : Way S l0 lim added l) (hl : okL l) (hy : yP (l / 86400) ≤ lim) (hm : monOK S (l / 86400) = true) (hd : dayOK S (l / 86400) = false) :
    Way S l0 lim true (86400 * (l / 86400 + 1)) ∧ (dP (l / 86400 + 1) ≠ 1 → yP (l / 86400 + 1) ≤ lim ∧ monOK S (l / 86400 + 1) = true) := by
  obtain ⟨a, b⟩ := hl
  obtain ⟨d, hdd⟩ : ∃ d, l / 86400 = d := ⟨_, rfl⟩
  rw [hdd] at hm hy hd ⊢
  have e : 86400 * (d + 1) / 86400 = d + 1 := by omega
  have e1 : (86400 * (d + 1) - 1) / 86400 = d := by omega
  have k := day_next (day := d) (by omega) (by omega)
  refine ⟨⟨by have := h.ge; omega, h.no.ext fun l' h1 h2 f => ?_, fun e => (by cases e), fun _ => .inr ⟨by rw [e1]; exact hm, .inl (by omega)⟩, ?_⟩, fun hn => ?_⟩
  · have : l' / 86400 = d := by omega
    have f1 := f.2.1
    rw [this, hd] at f1
    cases f1
  · rw [e]
    rcases k with k | k | k <;> omega
  · rcases k with k | k | k
    · exact ⟨by omega, by unfold monOK at hm ⊢; rw [k.2.2.1]; exact hm⟩
    · exact absurd k.2.2.2.2 hn
    · exact absurd k.2.2.2.2 hn
theorem al_day {S : Sets} {l : Int} (h : Al S l) (hd : dayOK S (l / 86400) = false) : l % 86400 = 0 := by
  rcases h with h | ⟨h, h' | ⟨h', h''⟩⟩
  · exact h.2
  · exact h'
  · by_cases g : l % 86400 = 0
    · exact g
    · have e : (l - 1) / 86400 = l / 86400 := by omega
      rw [e, hd] at h'
      cases h'

/-- The hour does not match: on to the next one. -/
theorem way_hour {S : Sets} {l0 lim : Int} {added : Bool} {l : Int} (h : Way S l0 lim added l) (hl : okL l) (hy : yP (l / 86400) ≤ lim) (hm : monOK S (l / 86400) = true) (hd : dayOK S (l / 86400) = true) (hh : hourOK S l = false) :
    Way S l0 lim true (3600 * (l / 3600 + 1)) ∧ (3600 * (l / 3600 + 1) % 86400 ≠ 0 → 3600 * (l / 3600 + 1) / 86400 = l / 86400) := by
  obtain ⟨a, b⟩ := hl
  obtain ⟨q, hq⟩ : ∃ q, l / 3600 = q := ⟨_, rfl⟩
  rw [hq]
  obtain ⟨r, hr⟩ : ∃ r, 3600 * (q + 1) = r := ⟨_, rfl⟩
  rw [hr]
  have e1 : (r - 1) / 86400 = l / 86400 := by omega
  refine ⟨⟨by have := h.ge; omega, h.no.ext fun l' h1 h2 f => ?_, fun e => (by cases e), fun _ => .inr ⟨by rw [e1]; exact hm, .inr ⟨by rw [e1]; exact hd, .inl (by omega)⟩⟩, ?_⟩, fun hn => by omega⟩
  · have : hourOK S l' = hourOK S l := by unfold hourOK; rw [show l' % 86400 / 3600 = l % 86400 / 3600 by omega]
    have f1 := f.2.2.1
    rw [this, hh] at f1
    cases f1
  · by_cases g : r / 86400 = l / 86400
    · rw [g]; omega
    · have e : r / 86400 = l / 86400 + 1 := by omega
      rw [e]
      rcases day_next (day := l / 86400) (by omega) (by omega) with k | k | k <;> omega
theorem al_hour {S : Sets} {l : Int} (h : Al S l) (hh : hourOK S l = false) : l % 3600 = 0 := by
  rcases h with h | ⟨h, h' | ⟨h', h'' | ⟨h'', _⟩⟩⟩
  · have := h.2; omega
  · omega
  · exact h''
  · by_cases g : l % 3600 = 0
    · exact g
    · have : hourOK S (l - 1) = hourOK S l := by unfold hourOK; rw [show (l - 1) % 86400 / 3600 = l % 86400 / 3600 by omega]
      rw [this, hh] at h''
      cases h''

/-- The minute does not match: on to the next one. -/
theorem way_min {S : Sets} {l0 lim : Int} {added : Bool} {l : Int} (h : Way S l0 lim added l) (hl : okL l) (hy : yP (l / 86400) ≤ lim) (hm : monOK S (l / 86400) = true) (hd : dayOK S (l / 86400) = true) (hh : hourOK S l = true) (hi : minOK S l = false) :
    Way S l0 lim true (60 * (l / 60 + 1)) ∧ (60 * (l / 60 + 1) % 3600 / 60 ≠ 0 → 60 * (l / 60 + 1) / 86400 = l / 86400 ∧ hourOK S (60 * (l / 60 + 1)) = true) := by
  obtain ⟨a, b⟩ := hl
  obtain ⟨q, hq⟩ : ∃ q, l / 60 = q := ⟨_, rfl⟩
  rw [hq]
  obtain ⟨r, hr⟩ : ∃ r, 60 * (q + 1) = r := ⟨_, rfl⟩
  rw [hr]
  have e1 : (r - 1) / 86400 = l / 86400 := by omega
  have e2 : hourOK S (r - 1) = hourOK S l := by unfold hourOK; rw [show (r - 1) % 86400 / 3600 = l % 86400 / 3600 by omega]
  refine ⟨⟨by have := h.ge; omega, h.no.ext fun l' h1 h2 f => ?_, fun e => (by cases e), fun _ => .inr ⟨by rw [e1]; exact hm, .inr ⟨by rw [e1]; exact hd, .inr ⟨by rw [e2]; exact hh, by omega⟩⟩⟩, ?_⟩, fun hn => ⟨by omega, ?_⟩⟩
  · have : minOK S l' = minOK S l := by unfold minOK; rw [show l' % 3600 / 60 = l % 3600 / 60 by omega]
    have f1 := f.2.2.2.1
    rw [this, hi] at f1
    cases f1
  · by_cases g : r / 86400 = l / 86400
    · rw [g]; omega
    · have e : r / 86400 = l / 86400 + 1 := by omega
      rw [e]
      rcases day_next (day := l / 86400) (by omega) (by omega) with k | k | k <;> omega
  · rw [← hh]
    unfold hourOK
    rw [show r % 86400 / 3600 = l % 86400 / 3600 by omega]
theorem al_min {S : Sets} {l : Int} (h : Al S l) (hi : minOK S l = false) : l % 60 = 0 := by
  rcases h with h | ⟨h, h' | ⟨h', h'' | ⟨h'', h3⟩⟩⟩
  · have := h.2; omega
  · omega
  · omega
  · exact h3

/-- The second does not match: on to the next one. -/
theorem way_sec {S : Sets} {l0 lim : Int} {l : Int} (hge : l0 ≤ l) (hno : noFit S l0 l) (hl : okL l) (hy : yP (l / 86400) ≤ lim) (hm : monOK S (l / 86400) = true) (hd : dayOK S (l / 86400) = true) (hh : hourOK S l = true) (hi : minOK S l = true) (hs : secOK S l = false) :
    (∀ l', l0 ≤ l' → l' < l + 1 → ¬ fits S l') ∧ ((l + 1) % 60 = 0 → Way S l0 lim true (l + 1)) ∧ ((l + 1) % 60 ≠ 0 → (l + 1) / 86400 = l / 86400 ∧ hourOK S (l + 1) = true ∧ minOK S (l + 1) = true) := by
  obtain ⟨a, b⟩ := hl
  have no : noFit S l0 (l + 1) := hno.ext fun l' h1 h2 f => by
    obtain rfl : l' = l := by omega
    have f1 := f.2.2.2.2
    rw [hs] at f1
    cases f1
  refine ⟨no, fun g => ⟨by have := hge; omega, no, fun e => (by cases e), fun _ => .inr ⟨by rw [show l + 1 - 1 = l by omega]; exact hm, .inr ⟨by rw [show l + 1 - 1 = l by omega]; exact hd, .inr ⟨by rw [show l + 1 - 1 = l by omega]; exact hh, g⟩⟩⟩, ?_⟩, fun g => ⟨by omega, ?_, ?_⟩⟩
  · by_cases g2 : (l + 1) / 86400 = l / 86400
    · rw [g2]; omega
    · have e : (l + 1) / 86400 = l / 86400 + 1 := by omega
      rw [e]
      rcases day_next (day := l / 86400) (by omega) (by omega) with k | k | k <;> omega
  · rw [← hh]
    unfold hourOK
    rw [show (l + 1) % 86400 / 3600 = l % 86400 / 3600 by omega]
  · rw [← hi]
    unfold minOK
    rw [show (l + 1) % 3600 / 60 = l % 3600 / 60 by omega]

/-- What a search gives. -/
def Found (S : Sets) (l0 lim l : Int) : Prop := l0 ≤ l ∧ l ≤ 330000000000 ∧ yP (l / 86400) ≤ lim ∧ fits S l ∧ noFit S l0 l
def Nothing (S : Sets) (l0 lim : Int) : Prop := ∀ l, l0 ≤ l → l ≤ 390000000000 → yP (l / 86400) ≤ lim → ¬ fits S l
theorem way_over {S : Sets} {l0 lim : Int} {added : Bool} {l : Int} (h : Way S l0 lim added l) (h0 : okL l0) (hy : lim < yP (l / 86400)) (hl : l ≤ 390000000000) : Nothing S l0 lim := fun l' h1 h2 h3 f => by
  obtain ⟨a, b⟩ := h0
  have g := h.ge
  rcases Int.lt_or_le l' l with k | k
  · exact h.no l' h1 k f
  · have := year_mono (a := l / 86400) (b := l' / 86400) (by omega) (by omega) (by omega)
    omega

theorem ms_facts {day : Int} (h1 : -900000 ≤ day) (h2 : day ≤ 9000000) : yP (day - dP day + 1) = yP day ∧ mP (day - dP day + 1) = mP day ∧ dP (day - dP day + 1) = 1 ∧ nextM (day - dP day + 1) = nextM day := by
  obtain ⟨c1, c2, c3, c4⟩ := mP_bounds (day := day) (by omega) (by omega)
  have mb := md_pos (yP day) (mP day)
  have p := dateIs_iff.1 (abs_date day (by omega) (by omega)).1
  have ok : okDate (yP day) (mP day) 1 := ⟨c1, c2, by omega, by omega⟩
  have e : dayOf (yP day) (mP day) 1 = day - dP day + 1 := by
    have : dayOf (yP day) (mP day) 1 = dayOf (yP day) (mP day) (dP day) - dP day + 1 := by unfold dayOf; omega
    omega
  obtain ⟨x, y, z⟩ := date_of (by omega) (by omega) ok e
  refine ⟨x.symm, y.symm, z.symm, ?_⟩
  unfold nextM
  rw [← x, ← y, ← z]
  omega
def setsOk (S : Sets) : Prop := (0 ≤ S.sec ∧ S.sec < 18446744073709551616) ∧ (0 ≤ S.min ∧ S.min < 18446744073709551616) ∧ (0 ≤ S.hour ∧ S.hour < 18446744073709551616) ∧ (0 ≤ S.month ∧ S.month < 18446744073709551616)
theorem has_zero (m : Int) (k : Nat) (q y : Int) (h : 0 ≤ m ∧ m < 18446744073709551616) (hk : k < 64) (hq : ((2 ^ k : Nat) : Int) = q) (hy : bits .and .u64 q m = y) : (y == 0) = !hasB m k := by
  have h2 : 2 ^ k < 2 ^ 64 := Nat.pow_lt_pow_right (by decide) hk
  have y0 : 0 ≤ y := by
    have q0 : 0 ≤ q := by rw [← hq]; exact Int.natCast_nonneg _
    have q1 : q < 18446744073709551616 := by rw [← hq]; exact Int.ofNat_lt.2 h2
    rw [← hy, Go.u64_and _ _ q0 q1 h.1 h.2]
    exact Int.natCast_nonneg _
  unfold hasB
  rw [hq, hy]
  by_cases g : 0 < y
  · rw [decide_eq_true g, beq_eq_false_iff_ne.2 (by omega)]; rfl
  · obtain rfl : y = 0 := by omega
    rfl

theorem year_top {day : Int} (h1 : -1000000 ≤ day) (h2 : day ≤ 3000000) : yP day ≤ 10994 := by
  obtain ⟨p, q⟩ := abs_date day h1 (by omega)
  rw [dateIs_iff] at p
  have a := (dayOf_year q).1
  rcases Int.lt_or_le (yP day) 10995 with g | g
  · omega
  · have b := ys_mono g
    have c : ys 10995 = 3296314 := by unfold ys; omega
    omega
end Go.Proofs.YtjbafphoemibaaaGreatDoor
