/- A number and a value of a field of a cron text, in plain words: as the reference reads them and as the package does. -/
import Derived.Test.YtomkhhpigpilfaaGreatDoorStrP
import Derived.Test.YtomkhhpigpilfaaGreatDoorNumP
import Derived.Lib.AtoiAllCases
set_option linter.unusedVariables false
set_option linter.unusedSimpArgs false
namespace Go.Proofs.YtomkhhpigpilfaaGreatDoor

/-- The package's number. -/
def inum (l : List UInt8) : Option Nat := match Lib.atoiAll l with | .ok v => if 0 ≤ v then some v.toNat else none | _ => none
def H40 : Nat := 1099511627776
/-- What stands behind a sign that is left open, and the verdict: 0 wrong, 1 fine, 2 open. -/
def numBody : List UInt8 → List UInt8 × Nat
  | [] => ([], 1)
  | c :: r => if c = 43 then (r, 2) else if c = 45 ∧ r.all (· == 48) = true then (r, 2) else (c :: r, 1)
/-- The reference's number. -/
def numR (l : List UInt8) : Nat × Nat := if digs (numBody l).1 = true then (min (val (numBody l).1) H40, (numBody l).2) else (0, 0)

theorem body_cons (c : UInt8) (r : List UInt8) : numBody (c :: r) = if c = 43 then (r, 2) else if c = 45 ∧ r.all (· == 48) = true then (r, 2) else (c :: r, 1) := rfl
theorem pu_ok : ∀ (l : List UInt8) (acc u : Nat), Lib.parseUint10 acc l = .ok u → l.all isDig = true ∧ u = valFrom acc l
  | [], acc, u, h => by
    have h' : Lib.NumEnd.ok acc = Lib.NumEnd.ok u := h
    injection h' with h'
    exact ⟨rfl, h'.symm⟩
  | c :: r, acc, u, h => by
    unfold Lib.parseUint10 at h
    split at h
    · rename_i hc
      split at h
      · cases h
      · split at h
        · cases h
        · obtain ⟨h1, h2⟩ := pu_ok r _ u h
          exact ⟨by rw [List.all_cons, h1, Bool.and_true]; exact decide_eq_true hc, h2⟩
    · cases h
theorem mag_ok {l : List UInt8} {u : Nat} (h : Lib.parseMag l = .ok u) : digs l = true ∧ u = val l := by
  unfold Lib.parseMag at h
  split at h
  · cases h
  · rename_i hne
    obtain ⟨h1, h2⟩ := pu_ok l 0 u h
    refine ⟨?_, h2⟩
    unfold digs
    rw [h1, Bool.and_true]
    cases l with
    | nil => exact absurd rfl hne
    | cons c r => rfl
theorem inum_some {l : List UInt8} {n : Nat} (h : inum l = some n) :
    (∃ r, l = 43 :: r ∧ digs r = true ∧ n = val r) ∨ (∃ r, l = 45 :: r ∧ digs r = true ∧ n = 0 ∧ val r = 0) ∨ (digs l = true ∧ n = val l ∧ n < 9223372036854775808) := by
  unfold inum at h
  cases l with
  | nil => cases h
  | cons c r =>
    by_cases h43 : c.toNat = 43
    · have hc : c = 43 := UInt8.toNat_inj.1 h43
      subst hc
      rw [Lib.atoiAll_plus] at h
      rcases hm : Lib.parseMag r with u | _ | _ <;> rw [hm] at h
      · obtain ⟨h1, h2⟩ := mag_ok hm
        refine .inl ⟨r, rfl, h1, ?_⟩
        simp only [Lib.signless] at h
        split at h
        · split at h
          · rename_i v hv hz
            split at hv
            · cases hv
            · injection hv with hv
              injection h with h
              omega
          · cases h
        · cases h
      · cases h
      · cases h
    · by_cases h45 : c.toNat = 45
      · have hc : c = 45 := UInt8.toNat_inj.1 h45
        subst hc
        rw [Lib.atoiAll_minus] at h
        rcases hm : Lib.parseMag r with u | _ | _ <;> rw [hm] at h
        · obtain ⟨h1, h2⟩ := mag_ok hm
          simp only [Lib.signed] at h
          split at h
          · split at h
            · rename_i v hv hz
              split at hv
              · cases hv
              · injection hv with hv
                injection h with h
                exact .inr (.inl ⟨r, rfl, h1, by omega, by omega⟩)
            · cases h
          · cases h
        · cases h
        · cases h
      · rw [Lib.atoiAll_plain c r h43 h45] at h
        rcases hm : Lib.parseMag (c :: r) with u | _ | _ <;> rw [hm] at h
        · obtain ⟨h1, h2⟩ := mag_ok hm
          simp only [Lib.signless] at h
          split at h
          · split at h
            · rename_i v hv hz
              split at hv
              · cases hv
              · injection hv with hv
                injection h with h
                exact .inr (.inr ⟨h1, by omega, by omega⟩)
            · cases h
          · cases h
        · cases h
        · cases h

theorem digs_parts {l : List UInt8} (h : digs l = true) : l ≠ [] ∧ l.all isDig = true := by
  unfold digs at h
  rw [Bool.and_eq_true] at h
  exact ⟨fun e => by rw [e] at h; exact absurd h.1 (by decide), h.2⟩
theorem digs_head {c : UInt8} {r : List UInt8} (h : digs (c :: r) = true) : 48 ≤ c.toNat ∧ c.toNat ≤ 57 := by
  have := (digs_parts h).2
  rw [List.all_cons, Bool.and_eq_true] at this
  exact of_decide_eq_true this.1
theorem body_digs {l : List UInt8} (h : digs l = true) : numBody l = (l, 1) := by
  cases l with
  | nil => rfl
  | cons c r =>
    have hc := digs_head h
    rw [body_cons, if_neg (fun e => by rw [e] at hc; exact absurd hc (by decide)), if_neg (fun e => by rw [e.1] at hc; exact absurd hc (by decide))]
theorem num_digs {l : List UInt8} (h : digs l = true) : numR l = (min (val l) H40, 1) := by
  unfold numR
  rw [body_digs h, if_pos h]
theorem num_fine {l : List UInt8} {n : Nat} (h : numR l = (n, 1)) : digs l = true ∧ n = min (val l) H40 := by
  have hd : digs l = true := by
    unfold numR at h
    split at h
    · rename_i hd
      injection h with _ h2
      cases l with
      | nil => exact hd
      | cons c r =>
        rw [body_cons] at h2 hd
        split at h2
        · cases h2
        · rename_i h43
          rw [if_neg h43] at hd
          split at h2
          · cases h2
          · rename_i h45
            rw [if_neg h45] at hd
            exact hd
    · injection h with _ h2
      cases h2
  rw [num_digs hd] at h
  injection h with h1 _
  exact ⟨hd, h1.symm⟩
theorem inum_digs {l : List UInt8} (h : digs l = true) : inum l = if val l < 9223372036854775808 then some (val l) else none := by
  split
  · rename_i hv
    unfold inum
    rw [atoi_num l (digs_parts h).1 (digs_parts h).2 hv]
    simp
  · rename_i hv
    rcases hi : inum l with _ | m
    · rfl
    · rcases inum_some hi with ⟨r, rfl, _, _⟩ | ⟨r, rfl, _, _, _⟩ | ⟨_, h1, h2⟩
      · exact absurd (digs_head h) (by decide)
      · exact absurd (digs_head h) (by decide)
      · omega
theorem zeros_of : ∀ l : List UInt8, l.all isDig = true → val l = 0 → l.all (· == 48) = true
  | [], _, _ => rfl
  | c :: r, h, hv => by
    rw [List.all_cons, Bool.and_eq_true] at h
    have hc := of_decide_eq_true h.1
    rw [val_cons] at hv
    have hp : 0 < 10 ^ r.length := Nat.pow_pos (by decide)
    have h1 : (c.toNat - 48) * 10 ^ r.length = 0 := by omega
    have h2 : c.toNat - 48 = 0 := by
      rcases Nat.mul_eq_zero.1 h1 with h | h
      · exact h
      · omega
    have h3 : c = 48 := UInt8.toNat_inj.1 (show c.toNat = 48 by omega)
    rw [List.all_cons, zeros_of r h.2 (by omega), h3]
    rfl
theorem num_bad {l : List UInt8} (h : (numR l).2 = 0) : inum l = none := by
  rcases hi : inum l with _ | m
  · rfl
  · exfalso
    rcases inum_some hi with ⟨r, rfl, h1, _⟩ | ⟨r, rfl, h1, _, h2⟩ | ⟨h1, _, _⟩
    · unfold numR at h
      rw [show numBody (43 :: r) = (r, 2) from rfl, if_pos h1] at h
      cases h
    · unfold numR at h
      have e : numBody (45 :: r) = (r, 2) := by
        rw [body_cons, if_neg (by decide), if_pos ⟨rfl, zeros_of r (digs_parts h1).2 h2⟩]
      rw [e, if_pos h1] at h
      cases h
    · rw [num_digs h1] at h
      cases h
theorem num_none {l : List UInt8} {m : Nat} (h : (numR l).1 = 0) (hi : inum l = some m) : m = 0 := by
  rcases inum_some hi with ⟨r, rfl, h1, h2⟩ | ⟨r, rfl, h1, h2, _⟩ | ⟨h1, h2, _⟩
  · unfold numR at h
    rw [show numBody (43 :: r) = (r, 2) from rfl, if_pos h1] at h
    have h : min (val r) H40 = 0 := h
    unfold H40 at h
    omega
  · exact h2
  · rw [num_digs h1] at h
    have h : min (val l) H40 = 0 := h
    unfold H40 at h
    omega

/-- Names in small letters. -/
def nm (k : Nat) : List (List UInt8 × Nat) :=
  if k = 4 then [([106, 97, 110], 1), ([102, 101, 98], 2), ([109, 97, 114], 3), ([97, 112, 114], 4), ([109, 97, 121], 5), ([106, 117, 110], 6), ([106, 117, 108], 7), ([97, 117, 103], 8), ([115, 101, 112], 9), ([111, 99, 116], 10), ([110, 111, 118], 11), ([100, 101, 99], 12)]
  else if k = 5 then [([115, 117, 110], 0), ([109, 111, 110], 1), ([116, 117, 101], 2), ([119, 101, 100], 3), ([116, 104, 117], 4), ([102, 114, 105], 5), ([115, 97, 116], 6)]
  else []
def nameIn (t : List (List UInt8 × Nat)) (l : List UInt8) : Option Nat := (t.find? (fun p => p.1 == l)).map (·.2)
def lowB (b : UInt8) : UInt8 := if 65 ≤ b.toNat ∧ b.toNat ≤ 90 then UInt8.ofNat (b.toNat + 32) else b
def upB (b : UInt8) : UInt8 := if 97 ≤ b.toNat ∧ b.toNat ≤ 122 then UInt8.ofNat (b.toNat - 32) else b
def foreign (l : List UInt8) : Bool := l.any (fun b => decide (128 ≤ b.toNat))
/-- The reference's value of a field. -/
def valR (k : Nat) (l : List UInt8) : Nat × Nat := match nameIn (nm k) (l.map lowB) with | some v => (v, 1) | none => if (k = 4 ∨ k = 5) ∧ foreign l = true then (0, 2) else numR l
/-- The package's, where lw are the small letters. -/
def ival (k : Nat) (lw : List UInt8 → List UInt8) (l : List UInt8) : Option Nat := match nameIn (nm k) (lw l) with | some v => some v | none => inum l

theorem nm_ascii (k : Nat) : ∀ p ∈ nm k, p.1.all (fun b => decide (b.toNat < 128)) = true ∧ p.2 ≤ 12 := by
  have h4 : ∀ p ∈ nm 4, p.1.all (fun b => decide (b.toNat < 128)) = true ∧ p.2 ≤ 12 := by decide +kernel
  have h5 : ∀ p ∈ nm 5, p.1.all (fun b => decide (b.toNat < 128)) = true ∧ p.2 ≤ 12 := by decide +kernel
  by_cases e : k = 4
  · subst e; exact h4
  · by_cases e5 : k = 5
    · subst e5; exact h5
    · unfold nm
      rw [if_neg e, if_neg e5]
      exact fun p hp => absurd hp (List.not_mem_nil)
theorem nm_other {k : Nat} (h : ¬ (k = 4 ∨ k = 5)) : nm k = [] := by
  unfold nm
  rw [if_neg (fun e => h (.inl e)), if_neg (fun e => h (.inr e))]
theorem name_mem {t : List (List UInt8 × Nat)} {l : List UInt8} {v : Nat} (h : nameIn t l = some v) : (l, v) ∈ t := by
  unfold nameIn at h
  obtain ⟨p, hp, rfl⟩ := Option.map_eq_some_iff.1 h
  have h1 := List.mem_of_find?_eq_some hp
  have h2 := List.find?_some hp
  have h3 : p.1 = l := by simpa using h2
  rw [← h3]
  exact h1
theorem low_ascii {l : List UInt8} (h : (l.map lowB).all (fun b => decide (b.toNat < 128)) = true) : foreign l = false := by
  unfold foreign
  rw [List.any_eq_false]
  intro b hb hc
  have h1 := List.all_eq_true.1 h (lowB b) (List.mem_map_of_mem hb)
  have h1 := of_decide_eq_true h1
  have hc := of_decide_eq_true hc
  unfold lowB at h1
  rw [if_neg (by omega)] at h1
  omega
theorem digs_ascii {l : List UInt8} (h : digs l = true) : foreign l = false := by
  unfold foreign
  rw [List.any_eq_false]
  intro b hb hc
  have h1 := List.all_eq_true.1 (digs_parts h).2 b hb
  have h1 := of_decide_eq_true h1
  have hc := of_decide_eq_true hc
  omega
theorem val_bad {k : Nat} {lw : List UInt8 → List UInt8} {l : List UInt8} (hlw : foreign l = false → lw l = l.map lowB) (h : (valR k l).2 = 0) : ival k lw l = none := by
  unfold valR at h
  split at h
  · cases h
  · rename_i hn
    split at h
    · cases h
    · rename_i hf
      unfold ival
      by_cases hk : k = 4 ∨ k = 5
      · have hf : foreign l = false := by
          cases e : foreign l
          · rfl
          · exact absurd ⟨hk, e⟩ hf
        rw [hlw hf, hn]
        exact num_bad h
      · rw [nm_other hk]
        exact num_bad h
/-- A number that is met: as it is, or both too great for any field. -/
def Near (a n : Nat) : Prop := a = n ∨ (H40 ≤ n ∧ H40 ≤ a)
def Met (o : Option Nat) (n : Nat) : Prop := (o = none ∧ H40 ≤ n) ∨ ∃ a, o = some a ∧ Near a n
theorem num_met {l : List UInt8} {n : Nat} (h : numR l = (n, 1)) : Met (inum l) n := by
  obtain ⟨hd, hn⟩ := num_fine h
  unfold Met Near
  rw [inum_digs hd]
  unfold H40 at hn ⊢
  by_cases hv : val l < 9223372036854775808
  · rw [if_pos hv]
    exact .inr ⟨_, rfl, by omega⟩
  · rw [if_neg hv]
    exact .inl ⟨rfl, by omega⟩
theorem val_fine {k : Nat} {lw : List UInt8 → List UInt8} {l : List UInt8} {n : Nat} (hlw : foreign l = false → lw l = l.map lowB) (h : valR k l = (n, 1)) : Met (ival k lw l) n := by
  unfold valR at h
  split at h
  · rename_i v hv
    injection h with h _
    subst h
    have hm := nm_ascii k _ (name_mem hv)
    have hf := low_ascii hm.1
    unfold ival
    rw [hlw hf, hv]
    exact .inr ⟨_, rfl, .inl rfl⟩
  · rename_i hn
    split at h
    · injection h with _ h
      cases h
    · have hf := digs_ascii (num_fine h).1
      unfold ival
      rw [hlw hf, hn]
      exact num_met h
end Go.Proofs.YtomkhhpigpilfaaGreatDoor
