/- Identifiers of prereleases, in plain lists of bytes: what ParseUint makes of them, and their order. No program in sight. -/
import Derived.Lib.ParseIntBCases
import GoSem.Op.String
set_option linter.unusedVariables false
set_option linter.unusedSimpArgs false
namespace Go.Proofs.YtomkhhpigpilfaaGreatDoor
open Go.Op (bytesLess)

theorem bl_irrefl : ∀ x : List UInt8, bytesLess x x = false
  | [] => rfl
  | a :: x => by simp [bytesLess, bl_irrefl x]

theorem bl_asymm : ∀ x y : List UInt8, bytesLess x y = true → bytesLess y x = false
  | _, [], h => by cases ‹List UInt8› <;> simp [bytesLess] at h
  | [], _ :: _, _ => rfl
  | a :: x, b :: y, h => by
    simp only [bytesLess, Bool.or_eq_true, decide_eq_true_eq, Bool.and_eq_true, beq_iff_eq, UInt8.lt_iff_toNat_lt] at h
    simp only [bytesLess, Bool.or_eq_false_iff, decide_eq_false_iff_not, Bool.and_eq_false_iff, beq_eq_false_iff_ne, UInt8.lt_iff_toNat_lt]
    rcases h with h | ⟨rfl, h⟩
    · exact ⟨by omega, .inl (fun e => by subst e; omega)⟩
    · exact ⟨by omega, .inr (bl_asymm x y h)⟩

theorem bl_trans : ∀ x y z : List UInt8, bytesLess x y = true → bytesLess y z = true → bytesLess x z = true
  | _, _, [], _, h => by cases ‹List UInt8› <;> simp [bytesLess] at h
  | _, [], _ :: _, h, _ => by cases ‹List UInt8› <;> simp [bytesLess] at h
  | [], _ :: _, _ :: _, _, _ => rfl
  | a :: x, b :: y, c :: z, h, k => by
    simp only [bytesLess, Bool.or_eq_true, decide_eq_true_eq, Bool.and_eq_true, beq_iff_eq, UInt8.lt_iff_toNat_lt] at h k ⊢
    rcases h with h | ⟨rfl, h⟩ <;> rcases k with k | ⟨rfl, k⟩
    · exact .inl (by omega)
    · exact .inl h
    · exact .inl k
    · exact .inr ⟨rfl, bl_trans x y z h k⟩

theorem bl_total : ∀ x y : List UInt8, x ≠ y → bytesLess x y = false → bytesLess y x = true
  | [], [], h, _ => absurd rfl h
  | [], _ :: _, _, h => by simp [bytesLess] at h
  | _ :: _, [], _, _ => rfl
  | a :: x, b :: y, hne, h => by
    simp only [bytesLess, Bool.or_eq_false_iff, decide_eq_false_iff_not, Bool.and_eq_false_iff, beq_eq_false_iff_ne, UInt8.lt_iff_toNat_lt] at h
    simp only [bytesLess, Bool.or_eq_true, decide_eq_true_eq, Bool.and_eq_true, beq_iff_eq, UInt8.lt_iff_toNat_lt]
    by_cases e : a = b
    · subst e
      refine .inr ⟨rfl, bl_total x y (fun e => hne (by rw [e])) ?_⟩
      rcases h.2 with h | h
      · exact absurd rfl h
      · exact h
    · left
      have h1 := h.1
      have : a.toNat ≠ b.toNat := fun h => e (UInt8.toNat_inj.1 h)
      omega

/-! ### Digits -/
def isDig (c : UInt8) : Bool := decide (48 ≤ c.toNat ∧ c.toNat ≤ 57)
/-- A byte that may stand in an identifier: a digit, a letter of ASCII or a hyphen. -/
def isId (c : UInt8) : Bool := decide ((48 ≤ c.toNat ∧ c.toNat ≤ 57) ∨ (65 ≤ c.toNat ∧ c.toNat ≤ 90) ∨ (97 ≤ c.toNat ∧ c.toNat ≤ 122) ∨ c.toNat = 45)
def validId (l : List UInt8) : Bool := !l.isEmpty && l.all isId
/-- Digits alone, one at least. -/
def digs (l : List UInt8) : Bool := !l.isEmpty && l.all isDig
def valFrom (acc : Nat) : List UInt8 → Nat
  | [] => acc
  | c :: r => valFrom (acc * 10 + (c.toNat - 48)) r
def val (l : List UInt8) : Nat := valFrom 0 l
/-- What ParseUint(s, 10, 64) reads, if it reads a number. -/
def PUn (l : List UInt8) : Option Nat := match Lib.parseUintB 64 l with | .ok u => some u | _ => none

theorem valFrom_eq : ∀ (l : List UInt8) (acc : Nat), valFrom acc l = acc * 10 ^ l.length + val l
  | [], acc => by show acc = acc * 10 ^ 0 + 0; omega
  | c :: r, acc => by
    show valFrom (acc * 10 + (c.toNat - 48)) r = acc * 10 ^ (r.length + 1) + valFrom (0 * 10 + (c.toNat - 48)) r
    rw [valFrom_eq r (acc * 10 + (c.toNat - 48)), valFrom_eq r (0 * 10 + (c.toNat - 48)), Nat.zero_mul, Nat.zero_add, Nat.add_mul, Nat.pow_succ, Nat.mul_assoc, Nat.mul_comm 10, Nat.add_assoc]

theorem val_cons (c : UInt8) (r : List UInt8) : val (c :: r) = (c.toNat - 48) * 10 ^ r.length + val r := by
  show valFrom (0 * 10 + (c.toNat - 48)) r = _
  rw [valFrom_eq]; simp

theorem val_lt : ∀ (l : List UInt8), l.all isDig = true → val l < 10 ^ l.length
  | [], _ => by show (0 : Nat) < 10 ^ 0; omega
  | c :: r, h => by
    simp only [List.all_cons, Bool.and_eq_true, isDig, decide_eq_true_eq] at h
    have := val_lt r (by simpa [isDig] using h.2)
    rw [val_cons, List.length_cons, Nat.pow_succ]
    have h1 : (c.toNat - 48) * 10 ^ r.length ≤ 9 * 10 ^ r.length := Nat.mul_le_mul_right _ (by omega)
    omega

theorem parse_digits : ∀ (l : List UInt8) (acc : Nat), l.all isDig = true → acc * 10 ^ l.length + val l < 18446744073709551616 → Lib.parseUint10 acc l = .ok (valFrom acc l)
  | [], acc, _, _ => rfl
  | c :: r, acc, h, hb => by
    have h' := h
    simp only [List.all_cons, Bool.and_eq_true, isDig, decide_eq_true_eq] at h
    rw [val_cons, List.length_cons, Nat.pow_succ] at hb
    have hp : 1 ≤ 10 ^ r.length := Nat.one_le_pow _ _ (by omega)
    have e1 : acc * (10 ^ r.length * 10) = (acc * 10) * 10 ^ r.length := by rw [Nat.mul_comm (10 ^ r.length) 10, Nat.mul_assoc]
    have h2 : (acc * 10 + (c.toNat - 48)) * 10 ^ r.length + val r < 18446744073709551616 := by rw [Nat.add_mul]; omega
    have h3 : acc * 10 + (c.toNat - 48) ≤ (acc * 10 + (c.toNat - 48)) * 10 ^ r.length := Nat.le_mul_of_pos_right _ hp
    have a1 : ¬ 1844674407370955162 ≤ acc := by omega
    have a2 : ¬ 18446744073709551616 ≤ acc * 10 + (c.toNat - 48) := by omega
    have ih := parse_digits r (acc * 10 + (c.toNat - 48)) (by simpa [isDig] using h.2) h2
    unfold Lib.parseUint10
    rw [if_pos h.1, if_neg a1, if_neg a2, ih]
    rfl

theorem parse_other : ∀ (l : List UInt8) (acc : Nat), l.all isDig = false → ∀ u, Lib.parseUint10 acc l ≠ .ok u
  | [], _, h, _ => by simp at h
  | c :: r, acc, h, u => by
    simp only [Lib.parseUint10]
    split
    · rename_i hc
      split
      · simp
      · split
        · simp
        · refine parse_other r _ ?_ u
          simpa [isDig, hc] using h
    · simp

theorem PUn_digits (l : List UInt8) (h : digs l = true) (hl : l.length ≤ 19) : PUn l = some (val l) := by
  simp only [digs, Bool.and_eq_true, Bool.not_eq_true'] at h
  have hne : l ≠ [] := by rintro rfl; simp at h
  have hlt := val_lt l h.2
  have hp : 10 ^ l.length ≤ 10 ^ 19 := Nat.pow_le_pow_right (by omega) hl
  unfold PUn
  rw [Lib.parseUintB_64, Lib.parseMag, if_neg hne, parse_digits l 0 h.2 (by omega)]
  rfl

theorem PUn_other (l : List UInt8) (h : digs l = false) : PUn l = none := by
  unfold PUn
  rw [Lib.parseUintB_64, Lib.parseMag]
  by_cases hne : l = []
  · rw [if_pos hne]
  · rw [if_neg hne]
    have h' : l.all isDig = false := by
      simp only [digs, Bool.and_eq_false_iff, Bool.not_eq_false'] at h
      rcases h with h | h
      · simp at h; exact absurd h hne
      · exact h
    have := parse_other l 0 h'
    split
    · rename_i u hu; exact absurd hu (this u)
    · rfl

/-! ### Numbers without leading zeros: by their lengths, then by their letters -/
/-- No leading zero. -/
def canon : List UInt8 → Bool
  | [] => false
  | [_] => true
  | c :: _ :: _ => c != 48

theorem val_low : ∀ (l : List UInt8), digs l = true → canon l = true → 2 ≤ l.length → 10 ^ (l.length - 1) ≤ val l
  | [], _, _, h => by simp at h
  | [_], _, _, h => by simp at h
  | c :: d :: r, h, hc, _ => by
    simp only [digs, Bool.and_eq_true, List.all_cons, isDig, decide_eq_true_eq] at h
    simp only [canon, bne_iff_ne, ne_eq] at hc
    have h1 : 1 ≤ c.toNat - 48 := by
      have : c.toNat ≠ 48 := fun e => hc (UInt8.toNat_inj.1 e)
      omega
    rw [val_cons]
    show 10 ^ (d :: r).length ≤ _
    have := Nat.mul_le_mul_right (10 ^ (d :: r).length) h1
    omega

theorem val_same_len : ∀ (a b : List UInt8), a.all isDig = true → b.all isDig = true → a.length = b.length → (val a < val b ↔ bytesLess a b = true)
  | [], [], _, _, _ => by show (0 : Nat) < 0 ↔ false = true; simp
  | [], _ :: _, _, _, h => by simp at h
  | _ :: _, [], _, _, h => by simp at h
  | c :: a, d :: b, ha, hb, hl => by
    simp only [List.all_cons, Bool.and_eq_true] at ha hb
    have ih := val_same_len a b ha.2 hb.2 (by simpa using hl)
    have hla := val_lt a ha.2
    have hlb := val_lt b hb.2
    have e : a.length = b.length := by simpa using hl
    have hc := ha.1
    have hd := hb.1
    simp only [isDig, decide_eq_true_eq] at hc hd
    rw [val_cons, val_cons]
    simp only [bytesLess, Bool.or_eq_true, decide_eq_true_eq, Bool.and_eq_true, beq_iff_eq, UInt8.lt_iff_toNat_lt]
    rw [e] at hla ⊢
    rcases Nat.lt_trichotomy c.toNat d.toNat with h | h | h
    · constructor
      · intro _; exact .inl h
      · intro _
        have := Nat.mul_le_mul_right (10 ^ b.length) (show (c.toNat - 48) + 1 ≤ d.toNat - 48 by omega)
        rw [Nat.add_mul, Nat.one_mul] at this
        omega
    · have h' : c = d := UInt8.toNat_inj.1 h
      subst h'
      constructor
      · intro h; exact .inr ⟨rfl, ih.1 (by omega)⟩
      · rintro (h | ⟨_, h⟩)
        · omega
        · have := ih.2 h; omega
    · constructor
      · intro hh
        have := Nat.mul_le_mul_right (10 ^ b.length) (show (d.toNat - 48) + 1 ≤ c.toNat - 48 by omega)
        rw [Nat.add_mul, Nat.one_mul] at this
        omega
      · rintro (hh | ⟨hh, _⟩)
        · omega
        · subst hh; omega

theorem val_len_lt (a b : List UInt8) (ha : digs a = true) (hb : digs b = true) (cb : canon b = true) (h : a.length < b.length) : val a < val b := by
  have h1 : a.all isDig = true := by simp only [digs, Bool.and_eq_true] at ha; exact ha.2
  have h0 : 1 ≤ a.length := by
    simp only [digs, Bool.and_eq_true, Bool.not_eq_true'] at ha
    cases a
    · simp at ha
    · simp
  have := val_lt a h1
  have := val_low b hb cb (by omega)
  have hp : 10 ^ a.length ≤ 10 ^ (b.length - 1) := Nat.pow_le_pow_right (by omega) (by omega)
  omega

theorem val_inj (a b : List UInt8) (ha : digs a = true) (hb : digs b = true) (ca : canon a = true) (cb : canon b = true) (h : val a = val b) : a = b := by
  rcases Nat.lt_trichotomy a.length b.length with hl | hl | hl
  · have := val_len_lt a b ha hb cb hl; omega
  · have h1 : a.all isDig = true := by simp only [digs, Bool.and_eq_true] at ha; exact ha.2
    have h2 : b.all isDig = true := by simp only [digs, Bool.and_eq_true] at hb; exact hb.2
    apply Classical.byContradiction
    intro hne
    cases hb' : bytesLess a b
    · have := (val_same_len b a h2 h1 hl.symm).2 (bl_total a b hne hb'); omega
    · have := (val_same_len a b h1 h2 hl).2 hb'; omega
  · have := val_len_lt b a hb ha ca hl; omega

/-- An identifier that clause 9 lets be. -/
def preId (l : List UInt8) : Bool := validId l && !(digs l && decide (1 < l.length) && (l.head? == some 48))
def smallId (l : List UInt8) : Bool := !(digs l && decide (19 < l.length))

/-! ### Two identifiers -/
/-- What the package's comparePrePart gives. -/
def cpp (s o : List UInt8) : Int :=
  if s = o then 0 else if s = [] then -1 else if o = [] then 1 else
  match PUn s, PUn o with
  | none, none => if bytesLess s o = true then -1 else 1
  | some _, none => -1
  | none, some _ => 1
  | some a, some b => if b < a then 1 else -1

/-- What clause 11 asks: of two of digits alone the shorter one is below (no leading zeros), then byte by byte; digits alone below any other. -/
def cps (s o : List UInt8) : Int :=
  if s = o then 0
  else if digs s = true ∧ digs o = true ∧ s.length ≠ o.length then (if s.length < o.length then -1 else 1)
  else if digs s ≠ digs o then (if digs s = true then -1 else 1)
  else if bytesLess s o = true then -1 else 1

theorem cps_num (s o : List UInt8) (e : s ≠ o) (ds : digs s = true) (d : digs o = true) :
    cps s o = if s.length < o.length then -1 else if o.length < s.length then 1 else if bytesLess s o = true then -1 else 1 := by
  unfold cps
  rw [if_neg e, ds, d]
  rcases Nat.lt_trichotomy s.length o.length with hl | hl | hl
  · simp [hl, Nat.ne_of_lt hl]
  · simp [hl]
  · simp [hl, Nat.ne_of_gt hl, Nat.lt_asymm hl]
theorem cps_words (s o : List UInt8) (e : s ≠ o) (ds : digs s = false) (d : digs o = false) : cps s o = if bytesLess s o = true then -1 else 1 := by
  unfold cps
  rw [if_neg e, ds, d]
  simp
theorem cps_low (s o : List UInt8) (ds : digs s = true) (d : digs o = false) : cps s o = -1 := by
  unfold cps
  have e : s ≠ o := by rintro rfl; rw [ds] at d; cases d
  rw [if_neg e, ds, d]
  simp
theorem cps_high (s o : List UInt8) (ds : digs s = false) (d : digs o = true) : cps s o = 1 := by
  unfold cps
  have e : s ≠ o := by rintro rfl; rw [ds] at d; cases d
  rw [if_neg e, ds, d]
  simp

/-- An identifier as clause 9 lets it be, a number of at most 19 digits. -/
structure Okid (l : List UInt8) : Prop where
  ne : l ≠ []
  num : digs l = true → canon l = true ∧ l.length ≤ 19

theorem okid_of (l : List UInt8) (h : preId l = true) (h2 : smallId l = true) : Okid l := by
  simp only [preId, Bool.and_eq_true, validId, Bool.not_eq_true'] at h
  refine ⟨fun e => by subst e; simp at h, fun hd => ⟨?_, ?_⟩⟩
  · have h3 := h.2
    rw [hd] at h3
    match l, h, h3 with
    | [], h, _ => simp at h
    | [_], _, _ => rfl
    | c :: d :: r, _, h3 =>
      simp at h3
      simp [canon, h3]
  · simp only [smallId, hd, Bool.true_and, Bool.not_eq_true', decide_eq_false_iff_not] at h2
    omega

theorem cpp_eq (s o : List UInt8) (hs : Okid s) (ho : Okid o) : cpp s o = cps s o := by
  by_cases e : s = o
  · unfold cpp cps; rw [if_pos e, if_pos e]
  unfold cpp
  rw [if_neg e, if_neg hs.ne, if_neg ho.ne]
  cases ds : digs s <;> cases d : digs o
  · rw [PUn_other s ds, PUn_other o d, cps_words s o e ds d]
  · rw [PUn_other s ds, PUn_digits o d (ho.num d).2, cps_high s o ds d]
  · rw [PUn_digits s ds (hs.num ds).2, PUn_other o d, cps_low s o ds d]
  · rw [PUn_digits s ds (hs.num ds).2, PUn_digits o d (ho.num d).2, cps_num s o e ds d]
    have h1 : s.all isDig = true := by simp only [digs, Bool.and_eq_true] at ds; exact ds.2
    have h2 : o.all isDig = true := by simp only [digs, Bool.and_eq_true] at d; exact d.2
    show (if val o < val s then (1 : Int) else -1) = _
    rcases Nat.lt_trichotomy s.length o.length with hl | hl | hl
    · have := val_len_lt s o ds d (ho.num d).1 hl
      rw [if_neg (show ¬ val o < val s by omega), if_pos hl]
    · have e2 : (if s.length < o.length then (-1 : Int) else if o.length < s.length then 1 else if bytesLess s o = true then -1 else 1) = if bytesLess s o = true then -1 else 1 := by simp [hl]
      rw [e2]
      cases hb : bytesLess s o
      · have := (val_same_len o s h2 h1 hl.symm).2 (bl_total s o e hb)
        simp [this]
      · have := (val_same_len s o h1 h2 hl).2 hb
        simp [Nat.lt_asymm this]
    · have := val_len_lt o s d ds (hs.num ds).1 hl
      simp [this, hl, Nat.lt_asymm hl]

theorem cps_range (s o : List UInt8) : -1 ≤ cps s o ∧ cps s o ≤ 1 := by
  unfold cps
  repeat' split
  all_goals omega

theorem cps_zero (s o : List UInt8) : cps s o = 0 ↔ s = o := by
  unfold cps
  constructor
  · intro h
    by_cases e : s = o
    · exact e
    · rw [if_neg e] at h
      repeat' split at h
      all_goals omega
  · intro h; rw [if_pos h]

theorem cps_turn (s o : List UInt8) : cps o s = -cps s o := by
  by_cases e : s = o
  · subst e; unfold cps; simp
  · have e' : o ≠ s := fun h => e h.symm
    have hb2 : (if bytesLess o s = true then (-1 : Int) else 1) = -(if bytesLess s o = true then -1 else 1) := by
      cases hb : bytesLess s o
      · rw [bl_total s o e hb]; simp
      · rw [bl_asymm s o hb]; simp
    cases ds : digs s <;> cases d : digs o
    · rw [cps_words s o e ds d, cps_words o s e' d ds]; exact hb2
    · rw [cps_high s o ds d, cps_low o s d ds]
    · rw [cps_low s o ds d, cps_high o s d ds]; rfl
    · rw [cps_num s o e ds d, cps_num o s e' d ds]
      rcases Nat.lt_trichotomy s.length o.length with hl | hl | hl
      · simp [hl, Nat.lt_asymm hl]
      · simp only [hl, Nat.lt_irrefl, if_false]; exact hb2
      · simp [hl, Nat.lt_asymm hl]

theorem cps_neg (s o : List UInt8) : cps s o = -1 ↔ s ≠ o ∧ ((digs s = true ∧ digs o = false) ∨ (digs s = true ∧ digs o = true ∧ s.length < o.length) ∨ (digs s = digs o ∧ (digs s = true → s.length = o.length) ∧ bytesLess s o = true)) := by
  by_cases e : s = o
  · unfold cps; rw [if_pos e]; simp [e]
  · cases ds : digs s <;> cases d : digs o
    · rw [cps_words s o e ds d]; simp [e]
    · rw [cps_high s o ds d]; simp
    · rw [cps_low s o ds d]; simp [e]
    · rw [cps_num s o e ds d]
      rcases Nat.lt_trichotomy s.length o.length with hl | hl | hl
      · simp [hl, e]
      · simp [hl, e]
      · simp [hl, Nat.lt_asymm hl, Nat.ne_of_gt hl, e]

theorem cps_trans (a b c : List UInt8) (h : cps a b = -1) (k : cps b c = -1) : cps a c = -1 := by
  rw [cps_neg] at h k ⊢
  obtain ⟨_, h⟩ := h
  obtain ⟨_, k⟩ := k
  have hne : ∀ x y : List UInt8, bytesLess x y = true → x ≠ y := fun x y h e => by subst e; rw [bl_irrefl] at h; cases h
  rcases h with ⟨h1, h2⟩ | ⟨h1, h2, h3⟩ | ⟨h1, h2, h3⟩ <;> rcases k with ⟨k1, k2⟩ | ⟨k1, k2, k3⟩ | ⟨k1, k2, k3⟩
  · simp [h2] at k1
  · simp [h2] at k1
  · refine ⟨fun e => ?_, .inl ⟨h1, by rw [← k1]; exact h2⟩⟩
    subst e; rw [h1] at k1; simp [h2] at k1
  · refine ⟨fun e => ?_, .inl ⟨h1, k2⟩⟩
    subst e; simp [h1] at k2
  · refine ⟨fun e => ?_, .inr (.inl ⟨h1, k2, by omega⟩)⟩
    subst e; omega
  · have := k2 h2
    refine ⟨fun e => ?_, .inr (.inl ⟨h1, by rw [← k1]; exact h2, by omega⟩)⟩
    subst e; omega
  · refine ⟨fun e => ?_, .inl ⟨by rw [h1]; exact k1, k2⟩⟩
    subst e; rw [h1] at k2; simp [k1] at k2
  · have := h2 (by rw [h1]; exact k1)
    refine ⟨fun e => ?_, .inr (.inl ⟨by rw [h1]; exact k1, k2, by omega⟩)⟩
    subst e; omega
  · have hb := bl_trans a b c h3 k3
    exact ⟨hne a c hb, .inr (.inr ⟨h1.trans k1, fun hd => (h2 hd).trans (k2 (by rw [← h1]; exact hd)), hb⟩)⟩

/-- The law's last line. -/
theorem cps_order (a b c : List UInt8) (h1 : cps a b ≤ 0) (h2 : cps b c ≤ 0) : cps a c ≤ 0 ∧ (cps a c < 0 ∨ a = c) := by
  have r1 := cps_range a b
  have r2 := cps_range b c
  by_cases e1 : cps a b = 0
  · obtain rfl := (cps_zero a b).1 e1
    refine ⟨h2, ?_⟩
    by_cases e2 : cps a c = 0
    · exact .inr ((cps_zero a c).1 e2)
    · exact .inl (by omega)
  · by_cases e2 : cps b c = 0
    · obtain rfl := (cps_zero b c).1 e2
      exact ⟨h1, .inl (by omega)⟩
    · have := cps_trans a b c (by omega) (by omega)
      exact ⟨by omega, .inl (by omega)⟩

end Go.Proofs.YtomkhhpigpilfaaGreatDoor
