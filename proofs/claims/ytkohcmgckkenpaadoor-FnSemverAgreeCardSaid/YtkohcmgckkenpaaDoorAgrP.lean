/- Where what a term says of releases may change, in plain words: its least version and what lies right above those of its first one, two or three numbers. Releases in memory; spec.Block, Least, blocks, once, walked. Lists of releases in memory; spec.blocks and spec.once, walked. spec.once, walked. spec.Points, walked. The points of lists of terms; laws.siGood, siEach, siAll, walked. The law FnSemverAgree, walked. FnSemverAgree: lists of lists of terms out of an argument's reading; the walk as the row asks it. -/
import Derived.Test.YtkohcmgckkenpaaDoorTmsG
import Derived.Laws.StructEq
import Derived.Maps.AppendAt
import Derived.Deep.RegionLaw
import Derived.Deep.DeepCutAuto
import Derived.Test.YtkohcmgckkenpaaDoorTmsL
import Derived.Test.YtkohcmgckkenpaaDoorTmsM
import Derived.Test.YtkohcmgckkenpaaDoorAfter
import Derived.Test.YtkohcmgckkenpaaDoorLaid
import Derived.OpenShut
import Derived.Deep.Slices
import Derived.ProofKit
set_option linter.unusedVariables false
set_option linter.unusedSimpArgs false
namespace Go.Proofs.YtkohcmgckkenpaaDoor
open Go.RowKit

/-- Three numbers. -/
structure V3 where
  a : Int
  b : Int
  c : Int
deriving DecidableEq
/-- x lies not above v. -/
def V3.le (x v : V3) : Prop := x.a < v.a ∨ (x.a = v.a ∧ (x.b < v.b ∨ (x.b = v.b ∧ x.c ≤ v.c)))
def V3.lt (x v : V3) : Prop := x.a < v.a ∨ (x.a = v.a ∧ (x.b < v.b ∨ (x.b = v.b ∧ x.c < v.c)))
instance (x v : V3) : Decidable (x.le v) := by unfold V3.le; infer_instance
instance (x v : V3) : Decidable (x.lt v) := by unfold V3.lt; infer_instance
def mx64 : Int := 18446744073709551615
/-- Numbers of 64 bits. -/
def V3.ok (v : V3) : Prop := (0 ≤ v.a ∧ v.a ≤ 18446744073709551615) ∧ (0 ≤ v.b ∧ v.b ≤ 18446744073709551615) ∧ (0 ≤ v.c ∧ v.c ≤ 18446744073709551615)

theorem num3_q (x v : V3) : num3 v.a v.b v.c x.a x.b x.c = if x.lt v then 1 else if x.le v then 0 else -1 := by
  unfold num3 segC V3.lt V3.le
  rcases Int.lt_trichotomy v.a x.a with h | h | h
  · have h1 : ¬ x.a < v.a := by omega
    have h2 : ¬ x.a = v.a := by omega
    simp [h, h1, h2]
  · have h1 : ¬ v.a < x.a := by omega
    have h2 : ¬ x.a < v.a := by omega
    rcases Int.lt_trichotomy v.b x.b with g | g | g
    · have g1 : ¬ x.b < v.b := by omega
      have g2 : ¬ x.b = v.b := by omega
      simp [h, h1, h2, g, g1, g2]
    · have g1 : ¬ v.b < x.b := by omega
      have g2 : ¬ x.b < v.b := by omega
      rcases Int.lt_trichotomy v.c x.c with f | f | f
      · have f1 : ¬ x.c < v.c := by omega
        have f2 : ¬ x.c ≤ v.c := by omega
        simp [h, g, f, f1, f2]
      · have f1 : ¬ v.c < x.c := by omega
        simp [h, g, f]
      · have f1 : ¬ v.c < x.c := by omega
        simp [h, g, f, f1]
    · have g1 : ¬ v.b < x.b := by omega
      simp [h, g, g1]
  · have h1 : ¬ v.a < x.a := by omega
    simp [h, h1]

/-- What Compare says of a release v and the version of x with a prerelease (or none). -/
def cmpQ (pe q0 q1 : Bool) : Int := if q1 = true then 1 else if q0 = true then (if pe = true then 0 else 1) else -1
theorem cmp_q (x v : V3) (p' : ByteArray) : cmpV (num3 v.a v.b v.c x.a x.b x.c) [] p'.toList = cmpQ p'.toList.isEmpty (decide (x.le v)) (decide (x.lt v)) := by
  rw [num3_q]
  unfold cmpV cmpQ preCmp
  by_cases h1 : x.lt v
  · simp [h1]
  · by_cases h0 : x.le v
    · by_cases hp : p'.toList = []
      · simp [h0, h1, hp]
      · have : p'.toList.isEmpty = false := by simpa using hp
        simp [h0, h1, hp, this]
    · simp [h0, h1]

/-- The four questions that decide what a term says. -/
def Q2 (x v : V3) : Prop := x.a < v.a ∨ (x.a = v.a ∧ x.b < v.b)
def Q3 (x v : V3) : Prop := x.a < v.a
instance (x v : V3) : Decidable (Q2 x v) := by unfold Q2; infer_instance
instance (x v : V3) : Decidable (Q3 x v) := by unfold Q3; infer_instance

/-- Two releases that stand alike to x. -/
structure Alike (x v w : V3) : Prop where
  q0 : x.le v ↔ x.le w
  q1 : x.lt v ↔ x.lt w
  q2 : Q2 x v ↔ Q2 x w
  q3 : Q3 x v ↔ Q3 x w


theorem Alike.cmp {x v w : V3} (h : Alike x v w) (p' : ByteArray) : cmpV (num3 v.a v.b v.c x.a x.b x.c) [] p'.toList = cmpV (num3 w.a w.b w.c x.a x.b x.c) [] p'.toList := by
  rw [cmp_q, cmp_q]
  have e0 : decide (x.le v) = decide (x.le w) := decide_eq_decide.2 h.q0
  have e1 : decide (x.lt v) = decide (x.lt w) := decide_eq_decide.2 h.q1
  rw [e0, e1]
theorem cmpQ_neg (x v : V3) (pe : Bool) : cmpQ pe (decide (x.le v)) (decide (x.lt v)) < 0 ↔ ¬ x.le v := by
  unfold cmpQ
  by_cases h0 : x.le v
  · by_cases h1 : x.lt v
    · simp [h0, h1]
    · cases pe <;> simp [h0, h1]
  · have h1 : ¬ x.lt v := by unfold V3.lt; unfold V3.le at h0; omega
    simp [h0, h1]
theorem cmpV_neg (x v : V3) (p' : ByteArray) : cmpV (num3 v.a v.b v.c x.a x.b x.c) [] p'.toList < 0 ↔ ¬ x.le v := by
  rw [cmp_q]
  exact cmpQ_neg x v _

section
variable {x v w : V3} (h : Alike x v w)
include h
/-- Not below: the same first number, or not. -/
theorem Alike.ea (l : x.le v) : (v.a = x.a) ↔ (w.a = x.a) := by
  have l2 := h.q0.1 l
  have q := h.q3
  unfold Q3 at q
  unfold V3.le at l l2
  omega
theorem Alike.eb (l : x.le v) (e : v.a = x.a) : (v.b = x.b) ↔ (w.b = x.b) := by
  have e2 := (h.ea l).1 e
  have l2 := h.q0.1 l
  have q := h.q2
  unfold Q2 at q
  unfold V3.le at l l2
  omega
theorem Alike.ec (l : x.le v) (e : v.a = x.a) (e' : v.b = x.b) : (v.c = x.c) ↔ (w.c = x.c) := by
  have e2 := (h.ea l).1 e
  have e3 := (h.eb l e).1 e'
  have l2 := h.q0.1 l
  have q := h.q1
  unfold V3.lt at q
  unfold V3.le at l l2
  omega
theorem tilde_alike (n : Int) (hn : n < 0 ↔ ¬ x.le v) (mi pa : Bool) : opTilde false n v.a v.b x.a x.b x.c mi pa = opTilde false n w.a w.b x.a x.b x.c mi pa := by
  unfold opTilde
  by_cases hl : n < 0
  · simp [hl]
  · have l : x.le v := Classical.byContradiction fun hh => hl (hn.2 hh)
    by_cases ea : v.a = x.a
    · have ea2 := (h.ea l).1 ea
      by_cases eb : v.b = x.b
      · have eb2 := (h.eb l ea).1 eb
        simp [hl, ea, ea2, eb, eb2]
      · have eb2 : ¬ w.b = x.b := fun e => eb ((h.eb l ea).2 e)
        simp [hl, ea, ea2, eb, eb2]
    · have ea2 : ¬ w.a = x.a := fun e => ea ((h.ea l).2 e)
      simp [hl, ea, ea2]
theorem eq_alike (n : Int) (hn : n < 0 ↔ ¬ x.le v) (mi di pa : Bool) : opEq false n v.a v.b x.a x.b x.c mi di pa = opEq false n w.a w.b x.a x.b x.c mi di pa := by
  unfold opEq
  rw [tilde_alike h n hn mi pa]
theorem caret_alike (n : Int) (hn : n < 0 ↔ ¬ x.le v) (hv : v.ok) (hw : w.ok) (hx : 0 ≤ x.a ∧ 0 ≤ x.b) (mi pa : Bool) : opCaret false n v.a v.b v.c x.a x.b x.c mi pa = opCaret false n w.a w.b w.c x.a x.b x.c mi pa := by
  unfold opCaret
  by_cases hl : n < 0
  · simp [hl]
  · have l : x.le v := Classical.byContradiction fun hh => hl (hn.2 hh)
    obtain ⟨⟨v0, _⟩, ⟨v1, _⟩, _⟩ := hv
    obtain ⟨⟨w0, _⟩, ⟨w1, _⟩, _⟩ := hw
    by_cases ea : v.a = x.a
    · have ea2 := (h.ea l).1 ea
      by_cases eb : v.b = x.b
      · have eb2 := (h.eb l ea).1 eb
        by_cases ec : v.c = x.c
        · have ec2 := (h.ec l ea eb).1 ec
          simp [hl, ea, ea2, eb, eb2, ec, ec2]
        · have ec2 : ¬ w.c = x.c := fun e => ec ((h.ec l ea eb).2 e)
          have f1 : (x.c == v.c) = false := by simpa using Ne.symm ec
          have f2 : (x.c == w.c) = false := by simpa using Ne.symm ec2
          simp only [ea, ea2, eb, eb2, f1, f2]
      · have eb2 : ¬ w.b = x.b := fun e => eb ((h.eb l ea).2 e)
        have f1 : (v.b == x.b) = false := by simpa using eb
        have f2 : (w.b == x.b) = false := by simpa using eb2
        simp only [ea, ea2, f1, f2]
        by_cases z1 : 0 < x.a ∨ mi = true
        · simp only [z1, if_true]
        · by_cases z2 : 0 < x.b ∨ pa = true
          · simp only [z2, if_true]
          · have zb : x.b = 0 := by have := hx.2; omega
            have g1 : 0 < v.b := by omega
            have g2 : 0 < w.b := by omega
            rw [if_neg z1, if_neg z1, if_neg z2, if_neg z2, if_pos g1, if_pos g2]
    · have ea2 : ¬ w.a = x.a := fun e => ea ((h.ea l).2 e)
      have f1 : (v.a == x.a) = false := by simpa using ea
      have f2 : (w.a == x.a) = false := by simpa using ea2
      simp only [f1, f2]
      by_cases z1 : 0 < x.a ∨ mi = true
      · simp only [z1, if_true]
      · have za : x.a = 0 := by have := hx.1; omega
        have g1 : 0 < v.a := by omega
        have g2 : 0 < w.a := by omega
        rw [if_neg z1, if_neg z1, if_pos g1, if_pos g2]
theorem most_alike (n : Int) (mi di : Bool) : opMost false n v.a v.b x.a x.b mi di = opMost false n w.a w.b x.a x.b mi di := by
  have q3 := h.q3
  have q2 := h.q2
  unfold Q3 at q3
  unfold Q2 at q2
  unfold opMost
  by_cases h3 : x.a < v.a
  · have h3' := q3.1 h3
    simp [h3, h3']
  · have h3' : ¬ x.a < w.a := fun e => h3 (q3.2 e)
    have e : (v.a = x.a ∧ x.b < v.b) ↔ (w.a = x.a ∧ x.b < w.b) := by omega
    simp only [Bool.false_eq_true, if_false, h3, h3', ← and_assoc, e]
theorem above_alike (n : Int) (hn : n < 0 ↔ ¬ x.le v) (mi di pa : Bool) (hd : di = true → x.c = 0 ∧ (mi = true → x.b = 0)) (hv : v.ok) (hw : w.ok) (hn1 : n = 1 → x.le v) :
    opAbove false n v.a v.b x.a x.b mi di pa = opAbove false n w.a w.b x.a x.b mi di pa := by
  have q3 := h.q3
  have q2 := h.q2
  unfold Q3 at q3
  unfold Q2 at q2
  unfold opAbove
  cases di with
  | false => simp
  | true =>
    obtain ⟨hc, hb⟩ := hd rfl
    by_cases h3 : x.a < v.a
    · have h3' := q3.1 h3
      simp [h3, h3']
    · have h3' : ¬ x.a < w.a := fun e => h3 (q3.2 e)
      simp only [Bool.false_eq_true, if_false, h3, h3']
      by_cases l : x.le v
      · have ea : v.a = x.a := by unfold V3.le at l; omega
        have ea2 := (h.ea l).1 ea
        have g : ¬ v.a < x.a := by omega
        have g2 : ¬ w.a < x.a := by omega
        have e : decide (x.b < v.b) = decide (x.b < w.b) := decide_eq_decide.2 (by omega)
        simp only [g, g2, if_false, e]
      · have l2 : ¬ x.le w := fun e => l (h.q0.2 e)
        have hn0 : (n == 1) = false := by
          rw [beq_eq_false_iff_ne]
          intro e
          exact l (hn1 e)
        rw [hn0]
        have e1 : ¬ v.a < x.a → decide (x.b < v.b) = false := fun g => decide_eq_false (by unfold V3.le at l; omega)
        have e2 : ¬ w.a < x.a → decide (x.b < w.b) = false := fun g => decide_eq_false (by unfold V3.le at l2; omega)
        by_cases g : v.a < x.a
        · by_cases g2 : w.a < x.a
          · rw [if_pos g, if_pos g2]
          · rw [if_pos g, if_neg g2, e2 g2]
            simp
        · by_cases g2 : w.a < x.a
          · rw [if_neg g, if_pos g2, e1 g]
            simp
          · rw [if_neg g, if_neg g2, e1 g, e2 g2]
theorem not_alike (n np : Int) (hn : n < 0 ↔ ¬ x.le v) (hz : n = 0 → x.le v) (mi di pa : Bool) (hd : di = true → x.c = 0 ∧ (mi = true → x.b = 0) ∧ (mi = false → pa = false → x.a = 0 ∧ x.b = 0)) (hp : pa = true → mi = false) (hv : v.ok) (hw : w.ok) :
    opNot false n np v.a v.b v.c x.a x.b x.c mi di pa true = opNot false n np w.a w.b w.c x.a x.b x.c mi di pa true := by
  unfold opNot
  cases di with
  | false => simp
  | true =>
    obtain ⟨hc, hb, hab⟩ := hd rfl
    obtain ⟨⟨v0, _⟩, ⟨v1, _⟩, ⟨v2, _⟩⟩ := hv
    obtain ⟨⟨w0, _⟩, ⟨w1, _⟩, ⟨w2, _⟩⟩ := hw
    by_cases l : x.le v
    · by_cases ea : v.a = x.a
      · have ea2 := (h.ea l).1 ea
        by_cases eb : v.b = x.b
        · have eb2 := (h.eb l ea).1 eb
          by_cases ec : v.c = x.c
          · have ec2 := (h.ec l ea eb).1 ec
            simp [ea, ea2, eb, eb2, ec, ec2]
          · have ec2 : ¬ w.c = x.c := fun e => ec ((h.ec l ea eb).2 e)
            have f1 : x.c ≠ v.c := Ne.symm ec
            have f2 : x.c ≠ w.c := Ne.symm ec2
            simp [ea, ea2, eb, eb2, f1, f2]
        · have eb2 : ¬ w.b = x.b := fun e => eb ((h.eb l ea).2 e)
          have f1 : x.b ≠ v.b := Ne.symm eb
          have f2 : x.b ≠ w.b := Ne.symm eb2
          simp [ea, ea2, f1, f2]
      · have ea2 : ¬ w.a = x.a := fun e => ea ((h.ea l).2 e)
        have f1 : x.a ≠ v.a := Ne.symm ea
        have f2 : x.a ≠ w.a := Ne.symm ea2
        simp [f1, f2]
    · have l2 : ¬ x.le w := fun e => l (h.q0.2 e)
      unfold V3.le at l l2
      have key : ∀ u : V3, 0 ≤ u.b → 0 ≤ u.c → ¬ (x.a < u.a ∨ x.a = u.a ∧ (x.b < u.b ∨ x.b = u.b ∧ x.c ≤ u.c)) →
          (if x.a ≠ u.a then true else if mi = true then false else if x.b ≠ u.b then true else if pa = true then (if true = true then false else !(np == 0)) else if x.c ≠ u.c then true else !(n == 0)) = true := by
        intro u u1 u2 hu
        by_cases e1 : x.a = u.a
        · cases mi with
          | true => have := hb rfl; omega
          | false =>
            have e2 : x.b ≠ u.b := by omega
            simp [e1, e2]
        · simp [e1]
      have kv := key v v1 v2 l
      have kw := key w w1 w2 l2
      simp only [Bool.false_eq_true, if_false, reduceCtorEq]
      exact kv.trans kw.symm
end

theorem cmpV_one {x v : V3} {p' : ByteArray} (h : cmpV (num3 v.a v.b v.c x.a x.b x.c) [] p'.toList = 1) : x.le v := by
  refine Classical.byContradiction fun hh => ?_
  have := (cmpV_neg x v p').2 hh
  omega
theorem cmpV_zero {x v : V3} {p' : ByteArray} (h : cmpV (num3 v.a v.b v.c x.a x.b x.c) [] p'.toList = 0) : x.le v := by
  refine Classical.byContradiction fun hh => ?_
  have := (cmpV_neg x v p').2 hh
  omega

/-- The numbers of a term. -/
abbrev low (t : Tm) : V3 := ⟨t.a, t.b, t.c⟩
theorem term_alike (t : Tm) (g : goodT t.o t.k t.a t.b t.c t.p = true) (ha : 0 ≤ t.a) (hb : 0 ≤ t.b) {v w : V3} (h : Alike (low t) v w) (hv : v.ok) (hw : w.ok) (pre : Bool) :
    tv v.a v.b v.c ByteArray.empty pre t = tv w.a w.b w.c ByteArray.empty pre t := by
  obtain ⟨⟨o0, o8⟩, ⟨k0, k3⟩, hc, hbb, haa, _, _⟩ := goodT_parts g
  have he : (ByteArray.empty).toList = [] := by rw [ByteArray.toList_eq]; rfl
  have hbar : preBar ByteArray.empty pre = false := by unfold preBar; rw [he]; rfl
  unfold tv opV
  rw [hbar, he, h.cmp t.p]
  have hneg : cmpV (num3 w.a w.b w.c t.a t.b t.c) [] t.p.toList < 0 ↔ ¬ (low t).le v := by
    rw [h.q0]
    exact cmpV_neg (low t) w t.p
  have hone : cmpV (num3 w.a w.b w.c t.a t.b t.c) [] t.p.toList = 1 → (low t).le v := fun e => h.q0.2 (cmpV_one (x := low t) e)
  have hzero : cmpV (num3 w.a w.b w.c t.a t.b t.c) [] t.p.toList = 0 → (low t).le v := fun e => h.q0.2 (cmpV_zero (x := low t) e)
  generalize cmpV (num3 w.a w.b w.c t.a t.b t.c) [] t.p.toList = n at hneg hone hzero ⊢
  have hk1 : (t.k.toNat == 1) = true → t.b = 0 := fun e => hbb (by have := beq_iff_eq.1 e; omega)
  have hk3 : decide (t.k.toNat < 3) = true → t.c = 0 := fun e => (hc (by have := of_decide_eq_true e; omega)).1
  have hk0 : decide (t.k.toNat < 3) = true → (t.k.toNat == 1) = false → (t.k.toNat == 2) = false → t.a = 0 ∧ t.b = 0 := fun e1 e2 e3 => by
    have h1 := of_decide_eq_true e1
    have h2 := beq_eq_false_iff_ne.1 e2
    have h3 := beq_eq_false_iff_ne.1 e3
    exact ⟨haa (by omega), hbb (by omega)⟩
  unfold opR
  obtain ho | ho | ho | ho | ho | ho | ho | ho : t.o.toNat = 0 ∨ t.o.toNat = 1 ∨ t.o.toNat = 2 ∨ t.o.toNat = 3 ∨ t.o.toNat = 4 ∨ t.o.toNat = 5 ∨ t.o.toNat = 6 ∨ t.o.toNat = 7 := by omega
  · rw [ho]
    exact eq_alike (x := low t) h n hneg _ _ _
  · rw [ho]
    exact not_alike (x := low t) h n _ hneg hzero _ _ _ (fun e => ⟨hk3 e, hk1, fun e1 e2 => hk0 e e1 e2⟩) (fun e => by
      have := beq_iff_eq.1 e
      exact beq_eq_false_iff_ne.2 (by omega)) hv hw
  · rw [ho]
    exact above_alike (x := low t) h n hneg _ _ _ (fun e => ⟨hk3 e, hk1⟩) hv hw hone
  · rw [ho]; rfl
  · rw [ho]; rfl
  · rw [ho]
    exact most_alike (x := low t) h n _ _
  · rw [ho]
    exact tilde_alike (x := low t) h n hneg _ _
  · rw [ho]
    exact caret_alike (x := low t) h n hneg hv hw ⟨ha, hb⟩ _ _

/-- What lies right above all that begins with the first three, two numbers, the first number of x. -/
def bk3 (x : V3) : Option V3 := if x.c < 18446744073709551615 then some ⟨x.a, x.b, x.c + 1⟩ else if x.b < 18446744073709551615 then some ⟨x.a, x.b + 1, 0⟩ else if x.a < 18446744073709551615 then some ⟨x.a + 1, 0, 0⟩ else none
def bk2 (x : V3) : Option V3 := if x.b < 18446744073709551615 then some ⟨x.a, x.b + 1, 0⟩ else if x.a < 18446744073709551615 then some ⟨x.a + 1, 0, 0⟩ else none
def bk1 (x : V3) : Option V3 := if x.a < 18446744073709551615 then some ⟨x.a + 1, 0, 0⟩ else none
theorem bk3_ok {x y : V3} (hx : x.ok) (h : bk3 x = some y) : y.ok := by
  obtain ⟨⟨_, _⟩, ⟨_, _⟩, _, _⟩ := hx
  unfold bk3 at h
  split at h
  · obtain rfl := Option.some.inj h; exact ⟨⟨by assumption, by assumption⟩, ⟨by assumption, by assumption⟩, by simp only; omega, by simp only; omega⟩
  · split at h
    · obtain rfl := Option.some.inj h; exact ⟨⟨by assumption, by assumption⟩, ⟨by simp only; omega, by simp only; omega⟩, by simp only; omega, by simp only; omega⟩
    · split at h
      · obtain rfl := Option.some.inj h; exact ⟨⟨by simp only; omega, by simp only; omega⟩, ⟨by simp only; omega, by simp only; omega⟩, by simp only; omega, by simp only; omega⟩
      · cases h
theorem bk2_ok {x y : V3} (hx : x.ok) (h : bk2 x = some y) : y.ok := by
  obtain ⟨⟨_, _⟩, ⟨_, _⟩, _, _⟩ := hx
  unfold bk2 at h
  split at h
  · obtain rfl := Option.some.inj h; exact ⟨⟨by assumption, by assumption⟩, ⟨by simp only; omega, by simp only; omega⟩, by simp only; omega, by simp only; omega⟩
  · split at h
    · obtain rfl := Option.some.inj h; exact ⟨⟨by simp only; omega, by simp only; omega⟩, ⟨by simp only; omega, by simp only; omega⟩, by simp only; omega, by simp only; omega⟩
    · cases h
theorem bk1_ok {x y : V3} (hx : x.ok) (h : bk1 x = some y) : y.ok := by
  obtain ⟨⟨_, _⟩, ⟨_, _⟩, _, _⟩ := hx
  unfold bk1 at h
  split at h
  · obtain rfl := Option.some.inj h; exact ⟨⟨by simp only; omega, by simp only; omega⟩, ⟨by simp only; omega, by simp only; omega⟩, by simp only; omega, by simp only; omega⟩
  · cases h

/-- The points of x: two releases that stand alike to these stand alike to x. -/
structure PtsIn (x : V3) (P : List V3) : Prop where
  p0 : x ∈ P
  p1 : ∀ q, bk1 x = some q → q ∈ P
  p2 : ∀ q, bk2 x = some q → q ∈ P
  p3 : ∀ q, bk3 x = some q → q ∈ P
theorem alike_of {x v w : V3} {P : List V3} (hx : x.ok) (hv : v.ok) (hw : w.ok) (hp : PtsIn x P) (h : ∀ q ∈ P, q.le v ↔ q.le w) : Alike x v w := by
  obtain ⟨⟨x0, x1⟩, ⟨x2, x3⟩, x4, x5⟩ := hx
  obtain ⟨⟨v0, v1⟩, ⟨v2, v3⟩, v4, v5⟩ := hv
  obtain ⟨⟨w0, w1⟩, ⟨w2, w3⟩, w4, w5⟩ := hw
  refine ⟨h x hp.p0, ?_, ?_, ?_⟩
  · have k := hp.p3
    unfold bk3 at k
    unfold V3.lt
    by_cases a1 : x.c < 18446744073709551615
    · have := h _ (k _ (if_pos a1))
      unfold V3.le at this
      simp only at this
      omega
    · rw [if_neg a1] at k
      by_cases a2 : x.b < 18446744073709551615
      · have := h _ (k _ (if_pos a2))
        unfold V3.le at this
        simp only at this
        omega
      · rw [if_neg a2] at k
        by_cases a3 : x.a < 18446744073709551615
        · have := h _ (k _ (if_pos a3))
          unfold V3.le at this
          simp only at this
          omega
        · omega
  · have k := hp.p2
    unfold bk2 at k
    unfold Q2
    by_cases a2 : x.b < 18446744073709551615
    · have := h _ (k _ (if_pos a2))
      unfold V3.le at this
      simp only at this
      omega
    · rw [if_neg a2] at k
      by_cases a3 : x.a < 18446744073709551615
      · have := h _ (k _ (if_pos a3))
        unfold V3.le at this
        simp only at this
        omega
      · omega
  · have k := hp.p1
    unfold bk1 at k
    unfold Q3
    by_cases a3 : x.a < 18446744073709551615
    · have := h _ (k _ (if_pos a3))
      unfold V3.le at this
      simp only at this
      omega
    · omega

/-- The greatest point not above v. -/
theorem landing (v : V3) : ∀ (P : List V3), (∃ z ∈ P, z.le v) → ∃ w ∈ P, w.le v ∧ ∀ q ∈ P, q.le v → q.le w
  | [], h => by obtain ⟨z, hz, _⟩ := h; cases hz
  | p :: r, h => by
    by_cases hr : ∃ z ∈ r, z.le v
    · obtain ⟨w, hw, hwv, hall⟩ := landing v r hr
      by_cases hp : p.le v ∧ ¬ p.le w
      · refine ⟨p, List.mem_cons_self .., hp.1, fun q hq hqv => ?_⟩
        rcases List.mem_cons.1 hq with rfl | hq
        · unfold V3.le; omega
        · have h1 := hall q hq hqv
          have h2 := hp.2
          unfold V3.le at h1 h2 ⊢
          omega
      · refine ⟨w, List.mem_cons_of_mem _ hw, hwv, fun q hq hqv => ?_⟩
        rcases List.mem_cons.1 hq with rfl | hq
        · exact Classical.byContradiction fun hh => hp ⟨hqv, hh⟩
        · exact hall q hq hqv
    · obtain ⟨z, hz, hzv⟩ := h
      rcases List.mem_cons.1 hz with rfl | hz
      · refine ⟨z, List.mem_cons_self .., hzv, fun q hq hqv => ?_⟩
        rcases List.mem_cons.1 hq with rfl | hq
        · unfold V3.le; omega
        · exact absurd ⟨q, hq, hqv⟩ hr
      · exact absurd ⟨z, hz, hzv⟩ hr

theorem any_alike {v w : V3} {L : List (List Tm)} (h : ∀ l ∈ L, ∀ t ∈ l, ∀ pre, tv v.a v.b v.c ByteArray.empty pre t = tv w.a w.b w.c ByteArray.empty pre t) : anyL v.a v.b v.c ByteArray.empty L = anyL w.a w.b w.c ByteArray.empty L := by
  unfold anyL
  induction L with
  | nil => rfl
  | cons l r ih =>
    rw [List.any_cons, List.any_cons, ih (fun x hx => h x (List.mem_cons_of_mem _ hx))]
    congr 1
    have hl := h l (List.mem_cons_self ..)
    generalize hasP l = pre
    induction l with
    | nil => rfl
    | cons t s ih2 =>
      rw [List.all_cons, List.all_cons, hl t (List.mem_cons_self ..) pre, ih2 (fun x hx => by
        rcases List.mem_cons.1 hx with rfl | hx
        · exact fun t ht => hl t (List.mem_cons_of_mem _ ht)
        · exact h x (List.mem_cons_of_mem _ hx)) (fun x hx => hl x (List.mem_cons_of_mem _ hx))]

/-- THE LAW in plain words. -/
theorem agree_law {C D : List (List Tm)} {P : List V3} (hg : ∀ l ∈ C ++ D, ∀ t ∈ l, goodT t.o t.k t.a t.b t.c t.p = true ∧ (low t).ok) (h0 : (⟨0, 0, 0⟩ : V3) ∈ P) (hok : ∀ q ∈ P, q.ok) (hp : ∀ l ∈ C ++ D, ∀ t ∈ l, PtsIn (low t) P)
    (hs : ∀ w ∈ P, anyL w.a w.b w.c ByteArray.empty C = anyL w.a w.b w.c ByteArray.empty D) {v : V3} (hv : v.ok) : anyL v.a v.b v.c ByteArray.empty C = anyL v.a v.b v.c ByteArray.empty D := by
  obtain ⟨w, hw, hwv, hall⟩ := landing v P ⟨_, h0, by obtain ⟨⟨_, _⟩, ⟨_, _⟩, _, _⟩ := hv; unfold V3.le; simp only; omega⟩
  have hwo := hok w hw
  have hiff : ∀ q ∈ P, q.le v ↔ q.le w := fun q hq => ⟨hall q hq, fun h => by unfold V3.le at h hwv ⊢; omega⟩
  have key : ∀ l ∈ C ++ D, ∀ t ∈ l, ∀ pre, tv v.a v.b v.c ByteArray.empty pre t = tv w.a w.b w.c ByteArray.empty pre t := fun l hl t ht pre => by
    obtain ⟨g, ho⟩ := hg l hl t ht
    exact term_alike t g ho.1.1 ho.2.1.1 (alike_of ho hv hwo (hp l hl t ht) hiff) hv hwo pre
  rw [any_alike (L := C) (fun l hl => key l (List.mem_append_left _ hl)), any_alike (L := D) (fun l hl => key l (List.mem_append_right _ hl))]
  exact hs w hw
end Go.Proofs.YtkohcmgckkenpaaDoor

set_option linter.unusedVariables false
set_option linter.unusedSimpArgs false
namespace Go.Proofs.YtkohcmgckkenpaaDoor
open Go.RowKit

/-- A release's cells. -/
abbrev vc3 (x : V3) : Array Value := scells x.a x.b x.c ByteArray.empty ByteArray.empty

set_option maxRecDepth 100000 in
theorem blk_1 (x : V3) (hx : x.ok) (w : World) : Calls Tryd.prog 50 #[.agg (vc3 x), .int .i64 1] w fun e w' =>
    e = .returned (.tuple #[.agg (vc3 ((bk1 x).getD ⟨0, 0, 0⟩)), .bool (bk1 x).isSome]) ∧ Below w.heap.size w w' := by
  obtain ⟨a, b, c⟩ := x
  obtain ⟨⟨a0, a1⟩, ⟨b0, b1⟩, c0, c1⟩ := hx
  simp only at a0 a1 b0 b1 c0 c1
  have hmin : min (3 : Int) 1 = 1 := by decide
  have hwm : IntKind.u64.wrap (18446744073709551615 + 1) = 0 := by decide
  by_cases ha : a < 18446744073709551615
  · have he : bk1 ⟨a, b, c⟩ = some ⟨a + 1, 0, 0⟩ := by unfold bk1; simp [ha]
    rw [he]
    have hw : IntKind.u64.wrap (a + 1) = a + 1 := IntWalk.u64_in _ (by omega)
    have hne : (a + 1 == 0) = false := by simp; omega
    clear he ha
    go_enter Tryd.func50, Tryd.ntmps50
    go_wp2_with fail
    go_rounds 5
    go_rounds 5
    go_returns
    exact ⟨rfl, by go_grown⟩
  obtain rfl : a = 18446744073709551615 := by omega
  clear ha
  have he : bk1 ⟨18446744073709551615, b, c⟩ = none := by unfold bk1; simp
  rw [he]
  clear he
  go_enter Tryd.func50, Tryd.ntmps50
  go_wp2_with fail
  go_rounds 5
  go_rounds 5
  go_returns
  exact ⟨rfl, by go_grown⟩


set_option maxRecDepth 100000 in
theorem blk_2 (x : V3) (hx : x.ok) (w : World) : Calls Tryd.prog 50 #[.agg (vc3 x), .int .i64 2] w fun e w' =>
    e = .returned (.tuple #[.agg (vc3 ((bk2 x).getD ⟨0, 0, 0⟩)), .bool (bk2 x).isSome]) ∧ Below w.heap.size w w' := by
  obtain ⟨a, b, c⟩ := x
  obtain ⟨⟨a0, a1⟩, ⟨b0, b1⟩, c0, c1⟩ := hx
  simp only at a0 a1 b0 b1 c0 c1
  have hmin : min (3 : Int) 2 = 2 := by decide
  have hwm : IntKind.u64.wrap (18446744073709551615 + 1) = 0 := by decide
  by_cases hb : b < 18446744073709551615
  · have he : bk2 ⟨a, b, c⟩ = some ⟨a, b + 1, 0⟩ := by unfold bk2; simp [hb]
    rw [he]
    have hw : IntKind.u64.wrap (b + 1) = b + 1 := IntWalk.u64_in _ (by omega)
    have hne : (b + 1 == 0) = false := by simp; omega
    clear he hb
    go_enter Tryd.func50, Tryd.ntmps50
    go_wp2_with fail
    go_rounds 5
    go_rounds 5
    go_returns
    exact ⟨rfl, by go_grown⟩
  obtain rfl : b = 18446744073709551615 := by omega
  clear hb
  by_cases ha : a < 18446744073709551615
  · have he : bk2 ⟨a, 18446744073709551615, c⟩ = some ⟨a + 1, 0, 0⟩ := by unfold bk2; simp [ha]
    rw [he]
    have hw : IntKind.u64.wrap (a + 1) = a + 1 := IntWalk.u64_in _ (by omega)
    have hne : (a + 1 == 0) = false := by simp; omega
    clear he ha
    go_enter Tryd.func50, Tryd.ntmps50
    go_wp2_with fail
    go_rounds 5
    go_rounds 5
    go_rounds 5
    go_returns
    exact ⟨rfl, by go_grown⟩
  obtain rfl : a = 18446744073709551615 := by omega
  clear ha
  have he : bk2 ⟨18446744073709551615, 18446744073709551615, c⟩ = none := by unfold bk2; simp
  rw [he]
  clear he
  go_enter Tryd.func50, Tryd.ntmps50
  go_wp2_with fail
  go_rounds 5
  go_rounds 5
  go_rounds 5
  go_returns
  exact ⟨rfl, by go_grown⟩


set_option maxHeartbeats 1600000 in
set_option maxRecDepth 100000 in
theorem blk_3 (x : V3) (hx : x.ok) (w : World) : Calls Tryd.prog 50 #[.agg (vc3 x), .int .i64 3] w fun e w' =>
    e = .returned (.tuple #[.agg (vc3 ((bk3 x).getD ⟨0, 0, 0⟩)), .bool (bk3 x).isSome]) ∧ Below w.heap.size w w' := by
  obtain ⟨a, b, c⟩ := x
  obtain ⟨⟨a0, a1⟩, ⟨b0, b1⟩, c0, c1⟩ := hx
  simp only at a0 a1 b0 b1 c0 c1
  have hwm : IntKind.u64.wrap (18446744073709551615 + 1) = 0 := by decide
  by_cases hc : c < 18446744073709551615
  · have he : bk3 ⟨a, b, c⟩ = some ⟨a, b, c + 1⟩ := by unfold bk3; simp [hc]
    rw [he]
    have hw : IntKind.u64.wrap (c + 1) = c + 1 := IntWalk.u64_in _ (by omega)
    have hne : (c + 1 == 0) = false := by simp; omega
    clear he hc
    go_enter Tryd.func50, Tryd.ntmps50
    go_wp2_with fail
    go_rounds 5
    go_rounds 5
    go_returns
    exact ⟨rfl, by go_grown⟩
  obtain rfl : c = 18446744073709551615 := by omega
  clear hc
  by_cases hb : b < 18446744073709551615
  · have he : bk3 ⟨a, b, 18446744073709551615⟩ = some ⟨a, b + 1, 0⟩ := by unfold bk3; simp [hb]
    rw [he]
    have hw : IntKind.u64.wrap (b + 1) = b + 1 := IntWalk.u64_in _ (by omega)
    have hne : (b + 1 == 0) = false := by simp; omega
    clear he hb
    go_enter Tryd.func50, Tryd.ntmps50
    go_wp2_with fail
    go_rounds 5
    go_rounds 5
    go_rounds 5
    go_returns
    exact ⟨rfl, by go_grown⟩
  obtain rfl : b = 18446744073709551615 := by omega
  clear hb
  by_cases ha : a < 18446744073709551615
  · have he : bk3 ⟨a, 18446744073709551615, 18446744073709551615⟩ = some ⟨a + 1, 0, 0⟩ := by unfold bk3; simp [ha]
    rw [he]
    have hw : IntKind.u64.wrap (a + 1) = a + 1 := IntWalk.u64_in _ (by omega)
    have hne : (a + 1 == 0) = false := by simp; omega
    clear he ha
    go_enter Tryd.func50, Tryd.ntmps50
    go_wp2_with fail
    go_rounds 5
    go_rounds 5
    go_rounds 5
    go_rounds 5
    go_returns
    exact ⟨rfl, by go_grown⟩
  obtain rfl : a = 18446744073709551615 := by omega
  clear ha
  have he : bk3 ⟨18446744073709551615, 18446744073709551615, 18446744073709551615⟩ = none := by unfold bk3; simp
  rw [he]
  clear he
  go_enter Tryd.func50, Tryd.ntmps50
  go_wp2_with fail
  go_rounds 5
  go_rounds 5
  go_rounds 5
  go_rounds 5
  go_returns
  exact ⟨rfl, by go_grown⟩

theorem leastT_any (t : Tm) (w : World) : Calls Tryd.prog 35 #[.agg (tm6 t)] w fun e w' => e = .returned (.agg (scells t.a t.b t.c t.p ByteArray.empty)) ∧ Below w.heap.size w w' := by
  go_enter Tryd.func35, Tryd.ntmps35
  go_wp2_with fail
  go_returns
  exact ⟨rfl, by go_grown⟩
end Go.Proofs.YtkohcmgckkenpaaDoor

set_option linter.unusedVariables false
set_option linter.unusedSimpArgs false
namespace Go.Proofs.YtkohcmgckkenpaaDoor
open Go.RowKit

/-- The cells of releases, one behind the other. -/
def vcs : List V3 → List Value
  | [] => []
  | x :: l => (vc3 x).toList ++ vcs l
theorem vcs_len (l : List V3) : (vcs l).length = l.length * 5 := by
  induction l with
  | nil => rfl
  | cons x l ih => simp only [vcs, List.length_append, ih, List.length_cons]; simp; omega
theorem vcs_app (l m : List V3) : vcs (l ++ m) = vcs l ++ vcs m := by
  induction l with
  | nil => rfl
  | cons x l ih => simp only [vcs, List.cons_append, ih, List.append_assoc]
theorem vcs_one (x : V3) : vcs [x] = (vc3 x).toList := by simp [vcs]
theorem vcs_get (l : List V3) (j : Nat) (x : V3) (h : l[j]? = some x) (i : Nat) (u : Value) (hu : (vc3 x)[i]? = some u) : (vcs l)[j * 5 + i]? = some u := by
  induction l generalizing j with
  | nil => simp at h
  | cons y l ih =>
    have hi : i < 5 := (Array.getElem?_eq_some_iff.1 hu).1
    cases j with
    | zero =>
      obtain rfl : y = x := by simpa using h
      show ((vc3 y).toList ++ vcs l)[0 * 5 + i]? = some u
      rw [List.getElem?_append_left (by simp; omega), Array.getElem?_toList]
      simpa using hu
    | succ j =>
      have h' : l[j]? = some x := by simpa using h
      show ((vc3 y).toList ++ vcs l)[(j + 1) * 5 + i]? = some u
      rw [List.getElem?_append_right (by simp; omega)]
      have e : (j + 1) * 5 + i - (vc3 y).toList.length = j * 5 + i := by simp; omega
      rw [e]
      exact ih j h'

/-- The release x stands from address a on. -/
structure V3At (w : World) (a : Addr) (x : V3) : Prop where
  c0 : w.cell? a = some (.int .u64 x.a)
  c1 : w.cell? { block := a.block, off := a.off + 1 } = some (.int .u64 x.b)
  c2 : w.cell? { block := a.block, off := a.off + 2 } = some (.int .u64 x.c)
  c3 : w.cell? { block := a.block, off := a.off + 3 } = some (.string ByteArray.empty)
  c4 : w.cell? { block := a.block, off := a.off + 4 } = some (.string ByteArray.empty)
/-- A list of releases in memory. -/
def VL (w : World) (bo : Option Addr) (l : List V3) : Prop := ∀ j x, l[j]? = some x → ∃ b, bo = some b ∧ V3At w (b.add (j * 5)) x
theorem add_block (b : Addr) (n : Nat) : (b.add n).block = b.block := by unfold Addr.add; split <;> rfl
theorem V3At.grown {w w' : World} {a : Addr} {x : V3} {row : Option Nat} (h : V3At w a x) (hg : w.grownBy w' row) (hne : some a.block ≠ row) : V3At w' a x :=
  ⟨hg.cell h.c0 hne, hg.cell h.c1 hne, hg.cell h.c2 hne, hg.cell h.c3 hne, hg.cell h.c4 hne⟩
theorem VL.grown {w w' : World} {bo : Option Addr} {l : List V3} {row : Option Nat} (h : VL w bo l) (hg : w.grownBy w' row) (hne : ∀ b, bo = some b → some b.block ≠ row) : VL w' bo l := fun j x hj => by
  obtain ⟨b, e, h⟩ := h j x hj
  exact ⟨b, e, h.grown hg (by rw [add_block]; exact hne b e)⟩
theorem grown_below {w w' : World} (h : Below w.heap.size w w') (row : Option Nat) : w.grownBy w' row := ⟨h.os, h.tape, h.output, h.size, fun k hk _ => h.block k hk⟩
theorem VL.below {w w' : World} {bo : Option Addr} {l : List V3} (h : VL w bo l) (hb : Below w.heap.size w w') : VL w' bo l := h.grown (grown_below hb none) (fun _ _ => by simp)
theorem VL.of_own {w : World} {base : Nat} {v : Value} {l : List V3} (h : w.ownsRow base 25 5 v l.length (vcs l)) : ∃ bo cap, v = .slice bo l.length cap ∧ VL w bo l ∧ ∀ b, bo = some b → v.ownBlock = some b.block ∧ base ≤ b.block := by
  rcases h.2 with ⟨rfl, h0⟩ | ⟨g, cap, cur, rfl, hb, _⟩
  · refine ⟨none, 0, by rw [h0], fun j x hj => ?_, fun b hb => by cases hb⟩
    have := (List.getElem?_eq_some_iff.1 hj).1
    omega
  · refine ⟨some ⟨g, 0, none⟩, cap, rfl, fun j x hj => ⟨_, rfl, ?_⟩, fun b hbb => by obtain rfl := Option.some.inj hbb; exact ⟨rfl, hb⟩⟩
    have key : ∀ i u, (vc3 x)[i]? = some u → w.cell? ⟨g, j * 5 + i, none⟩ = some u := fun i u hu => by
      have := h.cells (g := g) rfl (j * 5 + i) u (vcs_get l j x hj i u hu)
      rwa [add_blk] at this
    rw [add_blk]
    exact ⟨key 0 _ rfl, key 1 _ rfl, key 2 _ rfl, key 3 _ rfl, key 4 _ rfl⟩

/-- Behind a call that appends to the row v: the row v' of the releases l, all else as it was. -/
structure OnR (base : Nat) (w w' : World) (v v' : Value) (l : List V3) : Prop where
  own : w'.ownsRow base 25 5 v' l.length (vcs l)
  grown : w.grownBy w' v.ownBlock
  at_ : v'.ownBlock = v.ownBlock ∨ ∃ g, v'.ownBlock = some g ∧ w.heap.size ≤ g
theorem OnR.on {base : Nat} {w w1 w2 : World} {v v1 : Value} {l : List V3} (h : OnR base w w1 v v1 l) (hb : Below w1.heap.size w1 w2) : OnR base w w2 v v1 l :=
  ⟨own_below h.own hb, h.grown.trans (grown_below hb _), h.at_⟩
theorem OnR.trans {base : Nat} {w w1 w2 : World} {v v1 v2 : Value} {l1 l2 : List V3} (h : OnR base w w1 v v1 l1) (k : OnR base w1 w2 v1 v2 l2) : OnR base w w2 v v2 l2 := by
  refine ⟨k.own, ⟨k.grown.os.trans h.grown.os, k.grown.tape.trans h.grown.tape, k.grown.output.trans h.grown.output, Nat.le_trans h.grown.size k.grown.size, fun i hi hne => ?_⟩, ?_⟩
  · refine (k.grown.block i (Nat.lt_of_lt_of_le hi h.grown.size) ?_).trans (h.grown.block i hi hne)
    rcases h.at_ with e | ⟨g, e, hg⟩
    · rw [e]; exact hne
    · rw [e]
      intro hh
      have := Option.some.inj hh
      omega
  · rcases k.at_ with e | ⟨g, e, hg⟩
    · rw [e]; exact h.at_
    · exact .inr ⟨g, e, Nat.le_trans h.grown.size hg⟩
theorem OnR.below {base B : Nat} {w0 w w' : World} {v v' : Value} {l : List V3} (h : OnR base w w' v v' l) (hb : Below B w0 w) (hB : B ≤ w.heap.size) (hv : ∀ k, v.ownBlock = some k → B ≤ k) : Below B w0 w' := hb.grown h.grown hB hv

section
variable {P : Program} {ops : Array Oper} {rest : List Oper} {o : Oper} {a : Act} {Q : Exit → Act → World → Prop}
/-- append of one element of several cells, where the new row lies too. -/
theorem app_row_at {W : World} (base : Nat) (hgd : o.guard = none) (s x : Operand) (t e : TypeId) (z : Value) (size bytes : Nat)
    (ho : o.op = .call { callee := .builtin .append, args := #[s, x], argTypes := #[t, t] })
    (ht : P.underlying t = some (.slice e)) (hinfo : (P.info? e).map (fun i => (i.zero, i.size, i.bytes)) = some (some z, size, bytes)) (hz : z.cells.size = size) (hsz : 0 < size)
    (v : Value) (n : Nat) (xs ys : List Value) (hy : ys.length = size) (hs : a.eval s = v) (hx : a.eval x = .slice (some ⟨W.heap.size, 0, none⟩) 1 1) (h1 : ∀ u ∈ ys, u.oneCell' = true)
    (HO : W.ownsRow base e size v n xs) (hbase : base ≤ W.heap.size) (hm : n + 1 ≤ maxLen) (hl : (n + 1) * bytes ≤ 140737488355328)
    (h : ∀ v1 w1, w1.ownsRow base e size v1 (n + 1) (xs ++ ys) → W.grownBy w1 v.ownBlock → (v1.ownBlock = v.ownBlock ∨ ∃ g, v1.ownBlock = some g ∧ W.heap.size ≤ g) → wpList P ops Q rest (a.put o.dst v1) w1) :
    wpList P ops Q (o :: rest) a (W.alloc (.cells ys.toArray e)) := by
  obtain ⟨i0, hi, hzz⟩ := Option.map_eq_some_iff.1 hinfo
  simp only [Prod.mk.injEq] at hzz
  obtain ⟨hz0, hz1, hz2⟩ := hzz
  refine wpList_append_own_at (W.alloc (.cells ys.toArray e)) hgd s x t ho base e i0 z size bytes ht hi hz0 hz1 hz2 hz hsz v n xs hs (HO.alloc _) ⟨W.heap.size, 0, none⟩ 1 1 ys hx (by omega) ?_ h1 hm hl (by simp; omega) ?_
  · intro j u hu
    have e1 : (⟨W.heap.size, 0, none⟩ : Addr).add j = ⟨W.heap.size, j, none⟩ := by unfold Addr.add; split <;> simp_all
    rw [e1, (Blk.new W e ys.toArray).cell j]
    simpa using hu
  · intro v1 w1 hown hg _ hat
    refine h v1 w1 hown ((grown_below (show Below W.heap.size W (W.alloc (.cells ys.toArray e)) by go_grown) _).trans hg) ?_
    rcases hat with e | e
    · exact .inl e
    · exact .inr ⟨_, e, by simp⟩
end
theorem info_iver : (Tryd.prog.info? 25).map (fun i => (i.zero, i.size, i.bytes)) = some (some (.agg #[.int .u64 0, .int .u64 0, .int .u64 0, .string ⟨#[]⟩, .string ⟨#[]⟩]), 5, 56) := by kernel_rfl

/-- What lies right above all that begins with the first k + 1 numbers. -/
def bkk (k : Nat) (x : V3) : Option V3 := if k = 0 then bk1 x else if k = 1 then bk2 x else bk3 x
def blkUp (x : V3) (k : Nat) : List V3 := (List.range k).flatMap (fun i => (bkk i x).toList)
theorem blkUp_succ (x : V3) (k : Nat) : blkUp x (k + 1) = blkUp x k ++ (bkk k x).toList := by
  unfold blkUp
  rw [List.range_succ, List.flatMap_append]
  simp
theorem blkUp_len (x : V3) (k : Nat) : (blkUp x k).length ≤ k := by
  induction k with
  | zero => simp [blkUp]
  | succ k ih =>
    rw [blkUp_succ, List.length_append]
    cases bkk k x <;> simp <;> omega
theorem blk_k (k : Nat) (hk : k < 3) (x : V3) (hx : x.ok) (w : World) : Calls Tryd.prog 50 #[.agg (vc3 x), .int .i64 ((k : Int) + 1)] w fun e w' =>
    e = .returned (.tuple #[.agg (vc3 ((bkk k x).getD ⟨0, 0, 0⟩)), .bool (bkk k x).isSome]) ∧ Below w.heap.size w w' := by
  obtain rfl | rfl | rfl : k = 0 ∨ k = 1 ∨ k = 2 := by omega
  · exact blk_1 x hx w
  · exact blk_2 x hx w
  · exact blk_3 x hx w

/-- What the loop of blocks holds behind k rounds. -/
structure BRel (w : World) (x : V3) (k : Nat) (v : Value) (wr : World) : Prop where
  own : wr.ownsRow w.heap.size 25 5 v (blkUp x k).length (vcs (blkUp x k))
  below : Below w.heap.size w wr
  box : Blk wr w.heap.size 25 (vc3 x)
  ne : ∀ g, v.ownBlock = some g → w.heap.size < g
theorem BRel.on {w wr w' : World} {x : V3} {k : Nat} {v : Value} (R : BRel w x k v wr) (hb : Below wr.heap.size wr w') : BRel w x k v w' := ⟨own_below R.own hb, bt R.below hb, R.box.below hb, R.ne⟩
theorem BRel.skip {w wr w' : World} {x : V3} {k : Nat} {v : Value} (R : BRel w x k v wr) (hq : bkk k x = none) (hb : Below wr.heap.size wr w') : BRel w x (k + 1) v w' := by
  have R3 := R.on hb
  have e : blkUp x (k + 1) = blkUp x k := by rw [blkUp_succ, hq]; simp
  exact ⟨by rw [e]; exact R3.own, R3.below, R3.box, R3.ne⟩
theorem BRel.step {w wr w1 : World} {x y : V3} {k : Nat} {v v1 : Value} (R : BRel w x k v wr) (hy : bkk k x = some y)
    (hown : w1.ownsRow w.heap.size 25 5 v1 ((blkUp x k).length + 1) (vcs (blkUp x k) ++ (vc3 y).toList)) (hg : wr.grownBy w1 v.ownBlock) (hat : v1.ownBlock = v.ownBlock ∨ ∃ g, v1.ownBlock = some g ∧ wr.heap.size ≤ g) : BRel w x (k + 1) v1 w1 := by
  refine ⟨?_, R.below.grown hg R.below.size (fun k hk => Nat.le_of_lt (R.ne k hk)), R.box.grown hg (fun g hg e => by have := R.ne g hg; omega), fun g hg => ?_⟩
  · rw [blkUp_succ, hy, vcs_app, List.length_append]
    simpa [vcs_one] using hown
  · rcases hat with e | ⟨g', e, hg'⟩
    · exact R.ne g (e ▸ hg)
    · have := R.box.lt
      obtain rfl := Option.some.inj (hg.symm.trans e)
      omega

set_option maxHeartbeats 1600000 in
set_option maxRecDepth 100000 in
theorem blocks_any (x : V3) (hx : x.ok) (w : World) : Calls Tryd.prog 37 #[.agg (vc3 x)] w fun e w' =>
    (∃ bo cap, e = .returned (.slice bo (blkUp x 3).length cap) ∧ VL w' bo (blkUp x 3) ∧ ∀ b, bo = some b → w.heap.size ≤ b.block) ∧ Below w.heap.size w w' := by
  have HX := hid hx
  clear hx
  go_enter Tryd.func37, Tryd.ntmps37
  go_wp2_with fail
  have R0 := hid (show BRel w x 0 (.slice none 0 0) (w.alloc (.cells (vc3 x) 25)) from ⟨World.ownsRow_nil _ _ _ _, by go_grown, Blk.new w _ _, fun g hg => by cases hg⟩)
  generalize (w.alloc (.cells (vc3 x) 25)) = w0 at R0 ⊢
  go_loopw [4, 3] (fun i v wr => ∃ k : Nat, k ≤ 3 ∧ i = .int .i64 ((k : Int) + 1) ∧ Hid (BRel w x k v wr)) (fun i _ _ => 4 - (intOf i).toNat)
  case atStart => exact ⟨0, by omega, rfl, R0.out⟩
  case round =>
    obtain ⟨k, hk, rfl, R⟩ := hrel
    clear R0
    by_cases hlt : k < 3
    · have hw : IntKind.i64.wrap ((k : Int) + 1 + 1) = (k : Int) + 1 + 1 := IntWalk.i64_in _ (by omega)
      have C := hid (fun w => blk_k k hlt x HX.out w)
      have x0 : wr.cell? ⟨w.heap.size, 0, none⟩ = some (.int .u64 x.a) := R.out.box.cell 0
      have x1 : wr.cell? ⟨w.heap.size, 1, none⟩ = some (.int .u64 x.b) := R.out.box.cell 1
      have x2 : wr.cell? ⟨w.heap.size, 2, none⟩ = some (.int .u64 x.c) := R.out.box.cell 2
      have x3 : wr.cell? ⟨w.heap.size, 3, none⟩ = some (.string ByteArray.empty) := R.out.box.cell 3
      have x4 : wr.cell? ⟨w.heap.size, 4, none⟩ = some (.string ByteArray.empty) := R.out.box.cell 4
      cases hq : bkk k x with
      | none =>
        rw [hq] at C
        simp only [Option.getD_none, Option.isSome_none] at C
        have HQ := hid hq
        clear hq
        go_wp2_with (go_at_call 50; refine (C.out _).mono ?_; rintro e w7 ⟨rfl, hb⟩; have R2 := hid (R.out.on hb); clear hb)
        go_roundw
        case rel =>
          refine ⟨k + 1, by omega, by go_num, ?_⟩
          exact R2.out.skip HQ.out (by go_grown)
        case measure => simp [intOf]; omega
      | some y =>
        rw [hq] at C
        simp only [Option.getD_some, Option.isSome_some] at C
        have HQ := hid hq
        clear hq
        have hln := blkUp_len x k
        obtain ⟨n, hn⟩ : ∃ n, (blkUp x k).length = n := ⟨_, rfl⟩
        rw [hn] at hln
        have HN := hid hn
        clear hn
        go_wp2_with (first
          | (go_at_call 50; refine (C.out _).mono ?_; rintro e w7 ⟨rfl, hb⟩; have R2 := hid (R.out.on hb); clear hb)
          | (at_builtin; refine app_row_at (W := w7.alloc (.cells (vc3 y) 25)) w.heap.size rfl (.tmp 18) (.tmp 20) _ _ _ 5 56 rfl Tryd.underlying43 info_iver rfl (by decide) _ n (vcs (blkUp x k)) (vc3 y).toList rfl rfl (by simp [Act.eval]) (by simp [Value.oneCell']) (by rw [← HN.out]; exact R2.out.own.alloc _) (by have := R2.out.below.size; simp; omega) (by unfold maxLen; omega) (by omega) ?_; intro v1 w8 hown1 hg1 hat1
             have R3 := hid ((R2.out.on (show Below w7.heap.size w7 (w7.alloc (.cells (vc3 y) 25)) by go_grown)).step HQ.out (by rw [HN.out]; exact hown1) hg1 hat1)
             clear hown1 hg1 hat1))
        go_roundw
        case rel => exact ⟨k + 1, by omega, by go_num, R3.out⟩
        case measure => simp [intOf]; omega
    · obtain rfl : k = 3 := by omega
      obtain ⟨bo, cap, hv, hV, hb⟩ := VL.of_own R.out.own
      subst hv
      have HV := hid hV
      have HB := hid hb
      clear hV hb
      go_wp2_with fail
      go_ret
      exact ⟨⟨bo, cap, rfl, HV.out, fun b e => (HB.out b e).2⟩, R.out.below⟩
end Go.Proofs.YtkohcmgckkenpaaDoor

set_option linter.unusedVariables false
set_option linter.unusedSimpArgs false
namespace Go.Proofs.YtkohcmgckkenpaaDoor
open Go.RowKit

/-- Two releases compared. -/
theorem eql_v3 (x y : V3) (w : World) : (binOp .eql 25 (.agg (vc3 x)) (.agg (vc3 y))).run Tryd.prog w = .ok (.bool (decide (x = y))) w := by
  have hS : Tryd.prog.underlying 25 = some (.struct (Tryd.prog.fieldsOf 25)) := by kernel_rfl
  have hp : Tryd.prog.stoodInHeld 25 = false := by kernel_rfl
  rw [run_eql_struct, show (10000 : Nat) = 9999 + 1 from rfl, run_equalIn_agg w 9999 25 _ _ hS hp]
  simp only [Program.fieldsOf, Tryd.underlying25]
  go_simp
  obtain ⟨a, b, c⟩ := x
  obtain ⟨a', b', c'⟩ := y
  by_cases h1 : a = a' <;> by_cases h2 : b = b' <;> by_cases h3 : c = c' <;> simp [h1, h2, h3]

/-- A list with those of others behind it that are not in it. -/
def onceL (l ms : List V3) : List V3 := ms.foldl (fun l x => if x ∈ l then l else l ++ [x]) l
theorem onceL_in {l ms : List V3} {k : Nat} {x : V3} (h : ms[k]? = some x) (hx : x ∈ onceL l (ms.take k)) : onceL l (ms.take (k + 1)) = onceL l (ms.take k) := by
  unfold onceL at hx ⊢
  rw [List.take_add_one, h, List.foldl_append]
  simp [hx]
theorem onceL_new {l ms : List V3} {k : Nat} {x : V3} (h : ms[k]? = some x) (hx : x ∉ onceL l (ms.take k)) : onceL l (ms.take (k + 1)) = onceL l (ms.take k) ++ [x] := by
  unfold onceL at hx ⊢
  rw [List.take_add_one, h, List.foldl_append]
  simp [hx]
theorem onceL_len (l ms : List V3) : (onceL l ms).length ≤ l.length + ms.length := by
  unfold onceL
  induction ms generalizing l with
  | nil => simp
  | cons x ms ih =>
    rw [List.foldl_cons]
    refine Nat.le_trans (ih _) ?_
    split <;> simp <;> omega
theorem onceL_sub {l ms : List V3} {y : V3} (h : y ∈ l) : y ∈ onceL l ms := by
  unfold onceL
  induction ms generalizing l with
  | nil => exact h
  | cons x ms ih =>
    rw [List.foldl_cons]
    refine ih ?_
    split
    · exact h
    · exact List.mem_append_left _ h
theorem onceL_mem {l ms : List V3} {y : V3} (h : y ∈ ms) : y ∈ onceL l ms := by
  unfold onceL
  induction ms generalizing l with
  | nil => cases h
  | cons x ms ih =>
    rw [List.foldl_cons]
    rcases List.mem_cons.1 h with rfl | h
    · refine onceL_sub (ms := ms) ?_
      split
      · assumption
      · simp
    · exact ih h
theorem onceL_of {l ms : List V3} {y : V3} (h : y ∈ onceL l ms) : y ∈ l ∨ y ∈ ms := by
  unfold onceL at h
  induction ms generalizing l with
  | nil => exact .inl h
  | cons x ms ih =>
    rw [List.foldl_cons] at h
    rcases ih h with h | h
    · split at h
      · exact .inl h
      · rcases List.mem_append.1 h with h | h
        · exact .inl h
        · exact .inr (by rw [List.mem_singleton.1 h]; exact List.mem_cons_self ..)
    · exact .inr (List.mem_cons_of_mem _ h)
theorem mem_take {l : List V3} {j : Nat} {x y : V3} (h : l[j]? = some y) : decide (x ∈ l.take (j + 1)) = (decide (x ∈ l.take j) || decide (x = y)) := by
  rw [List.take_add_one, h]
  by_cases h1 : x ∈ l.take j <;> by_cases h2 : x = y <;> simp [h1, h2]

set_option maxHeartbeats 3200000 in
set_option maxRecDepth 100000 in
theorem once_any (base : Nat) (v : Value) (l : List V3) (bo : Option Addr) (ms : List V3) (cp : Nat) (w : World) (hown : w.ownsRow base 25 5 v l.length (vcs l)) (hm : VL w bo ms) (hne : ∀ b, bo = some b → some b.block ≠ v.ownBlock) (hbase : base ≤ w.heap.size) (hlen : l.length + ms.length ≤ 100000) :
    Calls Tryd.prog 36 #[v, .slice bo ms.length cp] w fun e w' => ∃ v', e = .returned v' ∧ OnR base w w' v v' (onceL l ms) := by
  obtain ⟨m, hml⟩ : ∃ m, ms.length = m := ⟨_, rfl⟩
  rw [hml] at hlen ⊢
  have HM := hid hm
  have HNE := hid hne
  have HML := hid hml
  have hln := onceL_len l
  have HLN := hid (show ∀ k, (onceL l (ms.take k)).length ≤ 100000 from fun k => by
    have := onceL_len l (ms.take k)
    rw [List.length_take] at this
    omega)
  have R0 := hid (show OnR base w w v v (onceL l (ms.take 0)) from ⟨hown, ⟨rfl, rfl, rfl, Nat.le_refl _, fun _ _ _ => rfl⟩, .inl rfl⟩)
  clear hm hne hml hown hln
  go_enter Tryd.func36, Tryd.ntmps36
  go_wp2_with fail
  go_loopw [12, 0] (fun i v1 wr => ∃ k : Nat, k ≤ m ∧ i = .int .i64 k ∧ Hid (OnR base w wr v v1 (onceL l (ms.take k)))) (fun i _ _ => m - (intOf i).toNat)
  case atStart => exact ⟨0, Nat.zero_le _, rfl, R0.out⟩
  case round =>
    obtain ⟨k, hk, rfl, R⟩ := hrel
    rename World => wo
    clear R0
    by_cases hlt : k < m
    · obtain ⟨x, hx⟩ : ∃ x, ms[k]? = some x := ⟨_, List.getElem?_eq_getElem (by rw [HML.out]; exact hlt)⟩
      obtain ⟨b, hb, hc⟩ := HM.out k x hx
      have hc2 := hc.grown R.out.grown (by rw [add_block]; exact HNE.out b hb)
      subst hb
      obtain ⟨c0, c1, c2, c3, c4⟩ := hc2
      have HK := hid hx
      obtain ⟨l1, hl1⟩ : ∃ l1, onceL l (ms.take k) = l1 := ⟨_, rfl⟩
      have hn1 := HLN.out k
      rw [hl1] at R hn1
      obtain ⟨b1, cap1, hv1, hV1, hB1⟩ := VL.of_own R.out.own
      subst hv1
      obtain ⟨n, hn⟩ : ∃ n, l1.length = n := ⟨_, rfl⟩
      rw [hn] at hn1 R ⊢
      have HN := hid hn
      have HL1 := hid hl1
      have HV1 := hid hV1
      clear hc hx hl1 hV1 hB1 hn
      have hw : IntKind.i64.wrap ((k : Int) + 1) = (k : Int) + 1 := IntWalk.i64_in _ (by omega)
      go_wp2_with fail
      have X6 := hid (Blk.new wo 25 (vc3 x))
      have B6 := hid (show Below wo.heap.size wo (wo.alloc (.cells (vc3 x) 25)) by go_grown)
      generalize (wo.alloc (.cells (vc3 x) 25)) = w6 at X6 B6 ⊢
      go_loopw [18, 7] (fun i r wr => ∃ (j : Nat) (q : Bool), j ≤ n ∧ i = .int .i64 j ∧ r = .bool q ∧ Hid (q = decide (x ∈ l1.take j)) ∧ Hid (Below w6.heap.size w6 wr)) (fun i _ _ => n - (intOf i).toNat)
      case atStart => exact ⟨0, false, Nat.zero_le _, rfl, rfl, (by simp : false = decide (x ∈ l1.take 0)), Below.refl _ _⟩
      case round =>
        obtain ⟨j, q, hj, rfl, rfl, Q, BI⟩ := hrel
        by_cases hlt2 : j < n
        · obtain ⟨y, hy⟩ : ∃ y, l1[j]? = some y := ⟨_, List.getElem?_eq_getElem (by rw [HN.out]; exact hlt2)⟩
          obtain ⟨b2, hb2, hd⟩ := ((HV1.out.below B6.out).below BI.out) j y hy
          subst hb2
          obtain ⟨d0, d1, d2, d3, d4⟩ := hd
          have z0 : wr.cell? ⟨wo.heap.size, 0, none⟩ = some (.int .u64 x.a) := (X6.out.below BI.out).cell 0
          have z1 : wr.cell? ⟨wo.heap.size, 1, none⟩ = some (.int .u64 x.b) := (X6.out.below BI.out).cell 1
          have z2 : wr.cell? ⟨wo.heap.size, 2, none⟩ = some (.int .u64 x.c) := (X6.out.below BI.out).cell 2
          have z3 : wr.cell? ⟨wo.heap.size, 3, none⟩ = some (.string ByteArray.empty) := (X6.out.below BI.out).cell 3
          have z4 : wr.cell? ⟨wo.heap.size, 4, none⟩ = some (.string ByteArray.empty) := (X6.out.below BI.out).cell 4
          have VA := hid ((X6.out.below BI.out).alloc (.cells #[.int .u64 y.a, .int .u64 y.b, .int .u64 y.c, .string ByteArray.empty, .string ByteArray.empty] 25))
          have y0 : (wr.alloc (.cells #[.int .u64 y.a, .int .u64 y.b, .int .u64 y.c, .string ByteArray.empty, .string ByteArray.empty] 25)).cell? ⟨wo.heap.size, 0, none⟩ = some (.int .u64 x.a) := VA.out.cell 0
          have y1 : (wr.alloc (.cells #[.int .u64 y.a, .int .u64 y.b, .int .u64 y.c, .string ByteArray.empty, .string ByteArray.empty] 25)).cell? ⟨wo.heap.size, 1, none⟩ = some (.int .u64 x.b) := VA.out.cell 1
          have y2 : (wr.alloc (.cells #[.int .u64 y.a, .int .u64 y.b, .int .u64 y.c, .string ByteArray.empty, .string ByteArray.empty] 25)).cell? ⟨wo.heap.size, 2, none⟩ = some (.int .u64 x.c) := VA.out.cell 2
          have y3 : (wr.alloc (.cells #[.int .u64 y.a, .int .u64 y.b, .int .u64 y.c, .string ByteArray.empty, .string ByteArray.empty] 25)).cell? ⟨wo.heap.size, 3, none⟩ = some (.string ByteArray.empty) := VA.out.cell 3
          have y4 : (wr.alloc (.cells #[.int .u64 y.a, .int .u64 y.b, .int .u64 y.c, .string ByteArray.empty, .string ByteArray.empty] 25)).cell? ⟨wo.heap.size, 4, none⟩ = some (.string ByteArray.empty) := VA.out.cell 4
          have hE := eql_v3 x y
          have HT := hid (mem_take (x := x) hy)
          obtain ⟨r, hr⟩ : ∃ r, decide (x = y) = r := ⟨_, rfl⟩
          rw [hr] at hE HT
          have hw2 : IntKind.i64.wrap ((j : Int) + 1) = (j : Int) + 1 := IntWalk.i64_in _ (by omega)
          clear hr hy
          cases q with
          | true =>
            go_wp2_with fail
            go_roundw
            case rel => exact ⟨j + 1, true, by omega, by go_num, rfl, by rw [HT.out, ← Q.out]; rfl, bt BI.out (by go_grown)⟩
            case measure => simp [intOf]; omega
          | false =>
            go_wp2_with fail
            go_roundw
            case rel => exact ⟨j + 1, r, by omega, by go_num, rfl, by rw [HT.out, ← Q.out]; rfl, bt BI.out (by go_grown)⟩
            case measure => simp [intOf]; omega
        · have hjn : j = n := by omega
          have HQ := hid (show q = decide (x ∈ l1) by have := Q.out; rwa [List.take_of_length_le (by rw [HN.out]; omega)] at this)
          have R2 := hid ((R.out.on B6.out).on BI.out)
          clear Q
          cases q with
          | true =>
            have HI := hid (onceL_in HK.out (show x ∈ onceL l (ms.take k) by rw [HL1.out]; exact of_decide_eq_true HQ.out.symm))
            go_wp2_with fail
            go_roundw
            case rel => exact ⟨k + 1, by omega, by go_num, by rw [HI.out, HL1.out]; exact R2.out⟩
            case measure => simp [intOf]; omega
          | false =>
            have HI := hid (onceL_new HK.out (show x ∉ onceL l (ms.take k) by rw [HL1.out]; exact of_decide_eq_false HQ.out.symm))
            have z0 : wr.cell? ⟨wo.heap.size, 0, none⟩ = some (.int .u64 x.a) := (X6.out.below BI.out).cell 0
            have z1 : wr.cell? ⟨wo.heap.size, 1, none⟩ = some (.int .u64 x.b) := (X6.out.below BI.out).cell 1
            have z2 : wr.cell? ⟨wo.heap.size, 2, none⟩ = some (.int .u64 x.c) := (X6.out.below BI.out).cell 2
            have z3 : wr.cell? ⟨wo.heap.size, 3, none⟩ = some (.string ByteArray.empty) := (X6.out.below BI.out).cell 3
            have z4 : wr.cell? ⟨wo.heap.size, 4, none⟩ = some (.string ByteArray.empty) := (X6.out.below BI.out).cell 4
            go_wp2_with (at_builtin; refine app_row_at (W := wr) base rfl (.tmp 31) (.tmp 33) _ _ _ 5 56 rfl Tryd.underlying43 info_iver rfl (by decide) _ n (vcs l1) (vc3 x).toList rfl rfl (by simp [Act.eval]) (by simp [Value.oneCell']) (by have := R2.out.own; rw [HN.out] at this; exact this) (Nat.le_trans hbase R2.out.grown.size) (by unfold maxLen; omega) (by omega) ?_; intro v1 w8 hown1 hg1 hat1
                         have R3 := hid (R2.out.trans (l2 := l1 ++ [x]) ⟨by rw [List.length_append, vcs_app, vcs_one, HN.out]; exact hown1, hg1, hat1⟩)
                         clear hown1 hg1 hat1)
            go_roundw
            case rel => exact ⟨k + 1, by omega, by go_num, by rw [HI.out, HL1.out]; exact R3.out⟩
            case measure => simp [intOf]; omega
    · obtain rfl : m = k := by omega
      have R2 := hid (show OnR base w wo v _ (onceL l ms) by have := R.out; rwa [List.take_of_length_le (by rw [HML.out]; exact Nat.le_refl _)] at this)
      go_wp2_with fail
      go_ret
      exact ⟨_, rfl, R2.out⟩
end Go.Proofs.YtkohcmgckkenpaaDoor

set_option linter.unusedVariables false
set_option linter.unusedSimpArgs false
namespace Go.Proofs.YtkohcmgckkenpaaDoor
open Go.RowKit

def stepV (P : List V3) (y : V3) : List V3 := onceL (onceL P [y]) (blkUp y 3)
def stepT (P : List V3) (t : Tm) : List V3 := (blkUp (low t) 3).foldl stepV (onceL P [low t])
def ptsL (P : List V3) (l : List Tm) : List V3 := l.foldl stepT P
def pts (L : List (List Tm)) : List V3 := L.foldl ptsL [⟨0, 0, 0⟩]
theorem foldl_take {α β : Type} (f : β → α → β) (b : β) {l : List α} {k : Nat} {x : α} (h : l[k]? = some x) : (l.take (k + 1)).foldl f b = f ((l.take k).foldl f b) x := by
  rw [List.take_add_one, h, List.foldl_append]
  rfl
theorem stepV_len (P : List V3) (y : V3) : (stepV P y).length ≤ P.length + 4 := by
  unfold stepV
  have h1 := onceL_len (onceL P [y]) (blkUp y 3)
  have h2 := onceL_len P [y]
  have h3 := blkUp_len y 3
  simp only [List.length_cons, List.length_nil] at h2
  omega
theorem foldV_len (P : List V3) (l : List V3) : (l.foldl stepV P).length ≤ P.length + 4 * l.length := by
  induction l generalizing P with
  | nil => simp
  | cons x l ih =>
    rw [List.foldl_cons, List.length_cons]
    have h1 := ih (stepV P x)
    have h2 := stepV_len P x
    omega
theorem stepT_len (P : List V3) (t : Tm) : (stepT P t).length ≤ P.length + 13 := by
  unfold stepT
  have h1 := foldV_len (onceL P [low t]) (blkUp (low t) 3)
  have h2 := onceL_len P [low t]
  have h3 := blkUp_len (low t) 3
  simp only [List.length_cons, List.length_nil] at h2
  omega
theorem ptsL_len (P : List V3) (l : List Tm) : (ptsL P l).length ≤ P.length + 13 * l.length := by
  unfold ptsL
  induction l generalizing P with
  | nil => simp
  | cons x l ih =>
    rw [List.foldl_cons, List.length_cons]
    have h1 := ih (stepT P x)
    have h2 := stepT_len P x
    omega
theorem pts_len (L : List (List Tm)) (h : ∀ l ∈ L, l.length ≤ 100) : (pts L).length ≤ 1 + 1300 * L.length := by
  unfold pts
  have key : ∀ (L : List (List Tm)) (P : List V3), (∀ l ∈ L, l.length ≤ 100) → (L.foldl ptsL P).length ≤ P.length + 1300 * L.length := by
    intro L
    induction L with
    | nil => intro P _; simp
    | cons l L ih =>
      intro P h
      rw [List.foldl_cons, List.length_cons]
      have h1 := ih (ptsL P l) (fun x hx => h x (List.mem_cons_of_mem _ hx))
      have h2 := ptsL_len P l
      have h3 := h l (List.mem_cons_self ..)
      omega
  exact key L _ h
theorem blkUp_ok {x y : V3} (hx : x.ok) (h : y ∈ blkUp x 3) : y.ok := by
  unfold blkUp at h
  rw [List.mem_flatMap] at h
  obtain ⟨i, hi, h⟩ := h
  have hi := List.mem_range.1 hi
  rw [Option.mem_toList] at h
  unfold bkk at h
  obtain rfl | rfl | rfl : i = 0 ∨ i = 1 ∨ i = 2 := by omega
  · exact bk1_ok hx h
  · exact bk2_ok hx h
  · exact bk3_ok hx h

/-- The row of points so far. -/
structure PRel (w wr : World) (v : Value) (P : List V3) : Prop where
  own : wr.ownsRow w.heap.size 25 5 v P.length (vcs P)
  below : Below w.heap.size w wr
theorem PRel.on {w wr w' : World} {v : Value} {P : List V3} (R : PRel w wr v P) (hb : Below wr.heap.size wr w') : PRel w w' v P := ⟨own_below R.own hb, bt R.below hb⟩
theorem PRel.step {w wr w' : World} {v v' : Value} {P P' : List V3} (R : PRel w wr v P) (h : OnR w.heap.size wr w' v v' P') : PRel w w' v' P' := ⟨h.own, R.below.grown h.grown R.below.size (own_low R.own)⟩
theorem PRel.first (w : World) : PRel w (w.alloc (.cells (vc3 ⟨0, 0, 0⟩) 25)) (.slice (some ⟨w.heap.size, 0, none⟩) 1 1) [⟨0, 0, 0⟩] :=
  ⟨⟨rfl, .inr ⟨w.heap.size, 1, _, rfl, Nat.le_refl _, heap_alloc_new w _, Nat.le_refl _, by unfold maxLen; omega, rfl, rfl⟩⟩, by go_grown⟩

theorem vl_one {w : World} {g : Nat} {y : V3} (h : Blk w g 25 (vc3 y)) : VL w (some ⟨g, 0, none⟩) [y] := fun j x hj => by
  have hj0 : j = 0 := by
    rcases j with _ | j
    · rfl
    · simp at hj
  subst hj0
  obtain rfl : y = x := by simpa using hj
  refine ⟨_, rfl, ?_⟩
  rw [Nat.zero_mul, Addr.add_zero']
  exact ⟨h.cell 0, h.cell 1, h.cell 2, h.cell 3, h.cell 4⟩
/-- once of a single release that was just laid. -/
theorem once1 {w W : World} {v : Value} {P : List V3} (y : V3) (R : PRel w W v P) (hl : P.length ≤ 90000) (g : Nat) (hg : g = W.heap.size) : Calls Tryd.prog 36 #[v, .slice (some ⟨g, 0, none⟩) 1 1] (W.alloc (.cells (vc3 y) 25)) fun e w' =>
    ∃ v', e = .returned v' ∧ OnR w.heap.size W w' v v' (onceL P [y]) := by
  subst hg
  have hb : Below W.heap.size W (W.alloc (.cells (vc3 y) 25)) := by go_grown
  have h := once_any w.heap.size v P (some ⟨W.heap.size, 0, none⟩) [y] 1 (W.alloc (.cells (vc3 y) 25)) (R.on hb).own (vl_one (Blk.new W _ _)) (fun b e => by
    obtain rfl := Option.some.inj e
    intro he
    have := (R.own.lt _ he.symm).2
    exact Nat.lt_irrefl _ this) (R.on hb).below.size (by simp; omega)
  refine h.mono ?_
  rintro e w' ⟨v', rfl, hR⟩
  exact ⟨v', rfl, (show OnR w.heap.size W (W.alloc (.cells (vc3 y) 25)) v v P from ⟨(R.on hb).own, grown_below hb _, .inl rfl⟩).trans hR⟩

/-- What the inner loop of Points holds. -/
structure NRel (w wr : World) (v : Value) (P : List V3) (bo : Option Addr) (l : List V3) : Prop where
  row : PRel w wr v P
  vl : VL wr bo l
  ne : ∀ b, bo = some b → some b.block ≠ v.ownBlock
theorem NRel.step {w wr w' : World} {v v' : Value} {P P' : List V3} {bo : Option Addr} {l : List V3} (R : NRel w wr v P bo l) (h : OnR w.heap.size wr w' v v' P') (hl : l ≠ []) : NRel w w' v' P' bo l := by
  refine ⟨R.row.step h, R.vl.grown h.grown R.ne, fun b hb => ?_⟩
  rcases h.at_ with e | ⟨g, e, hg⟩
  · rw [e]; exact R.ne b hb
  · rw [e]
    intro he
    have he := Option.some.inj he
    cases l with
    | nil => exact hl rfl
    | cons x r =>
      obtain ⟨b', hb', hc⟩ := R.vl 0 x rfl
      obtain rfl := Option.some.inj (hb.symm.trans hb')
      have := World.block_lt_of_cell? _ _ hc.c0
      rw [add_block] at this
      omega
theorem NRel.on {w wr w' : World} {v : Value} {P : List V3} {bo : Option Addr} {l : List V3} (R : NRel w wr v P bo l) (hb : Below wr.heap.size wr w') : NRel w w' v P bo l := ⟨R.row.on hb, R.vl.below hb, R.ne⟩
theorem onR_refl {w wr : World} {v : Value} {P : List V3} (R : PRel w wr v P) : OnR w.heap.size wr wr v v P := ⟨R.own, ⟨rfl, rfl, rfl, Nat.le_refl _, fun _ _ _ => rfl⟩, .inl rfl⟩

set_option maxHeartbeats 6400000 in
set_option maxRecDepth 100000 in
theorem points_any (ao : Option Addr) (L : List (List Tm)) (cp : Nat) (w : World) (hN : L.length ≤ 20) (hL : LL w ao L) (hO : ∀ l ∈ L, l.length ≤ 100 ∧ ∀ t ∈ l, (low t).ok) :
    Calls Tryd.prog 25 #[.slice ao L.length cp] w fun e w' => ∃ v', e = .returned v' ∧ PRel w w' v' (pts L) := by
  obtain ⟨N, hNN⟩ : ∃ N, L.length = N := ⟨_, rfl⟩
  rw [hNN] at hN ⊢
  have HL := hid hL
  have HO := hid hO
  have HN := hid hNN
  have HPL := hid (show ∀ k, (pts (L.take k)).length ≤ 26001 from fun k => by
    have := pts_len (L.take k) (fun l hl => (hO l (List.mem_of_mem_take hl)).1)
    rw [List.length_take] at this
    omega)
  have hen1 : ∀ args w, (callFunc 36 args).run Tryd.prog w = .ok (.enter 36 args) w := enters_of Tryd.func36 (by kernel_rfl) rfl
  have hen2 : ∀ args w, (callFunc 37 args).run Tryd.prog w = .ok (.enter 37 args) w := enters_of Tryd.func37 (by kernel_rfl) rfl
  clear hL hO hNN
  go_enter Tryd.func25, Tryd.ntmps25
  go_wp2_with fail
  have R0 := hid (PRel.first w)
  go_loopw [15, 3] (fun i v wr => ∃ k : Nat, k ≤ N ∧ i = .int .i64 k ∧ Hid (PRel w wr v (pts (L.take k)))) (fun i _ _ => N - (intOf i).toNat)
  case atStart => exact ⟨0, Nat.zero_le _, rfl, R0.out⟩
  case round =>
    obtain ⟨k, hk, rfl, R⟩ := hrel
    rename World => wo
    clear R0
    by_cases hlt : k < N
    · obtain ⟨l, hl⟩ : ∃ l, L[k]? = some l := ⟨_, List.getElem?_eq_getElem (by rw [HN.out]; exact hlt)⟩
      obtain ⟨a, b5, cq, rfl, hc0, hT⟩ := HL.out k l hl
      have hc := cell_on R.out.below hc0
      obtain ⟨hm100, hok⟩ := HO.out l (List.mem_of_getElem? hl)
      have hP0 := HPL.out k
      obtain ⟨P0, hP0e⟩ : ∃ P0, pts (L.take k) = P0 := ⟨_, rfl⟩
      rw [hP0e] at R hP0
      have HPK := hid (show pts (L.take (k + 1)) = ptsL P0 l by rw [← hP0e]; exact foldl_take ptsL _ hl)
      obtain ⟨m, hm⟩ : ∃ m, l.length = m := ⟨_, rfl⟩
      rw [hm] at hc hm100
      have HLQ := hid (show ∀ q, (ptsL P0 (l.take q)).length ≤ 28000 from fun q => by
        have := ptsL_len P0 (l.take q)
        rw [List.length_take] at this
        omega)
      have HM := hid hm
      have HT := hid hT
      have HOK := hid hok
      have RM0 := hid (show PRel w wo _ (ptsL P0 (l.take 0)) from R.out)
      have BO := hid R.out.below
      clear hl hm hT hok hP0e hP0 R hc0
      have hw : IntKind.i64.wrap ((k : Int) + 1) = (k : Int) + 1 := IntWalk.i64_in _ (by omega)
      go_wp2_with fail
      go_loopw [21, 3] (fun i v wr => ∃ q : Nat, q ≤ m ∧ i = .int .i64 q ∧ Hid (PRel w wr v (ptsL P0 (l.take q))) ) (fun i _ _ => m - (intOf i).toNat)
      case atStart => exact ⟨0, Nat.zero_le _, rfl, RM0.out⟩
      case round =>
        obtain ⟨q, hq, rfl, R⟩ := hrel
        rename World => wm
        clear RM0
        by_cases hlt2 : q < m
        · obtain ⟨t, ht⟩ : ∃ t, l[q]? = some t := ⟨_, List.getElem?_eq_getElem (by rw [HM.out]; exact hlt2)⟩
          obtain ⟨b, rfl, h6⟩ := (HT.out.below R.out.below) q t ht
          have OK1 := hid (HOK.out t (List.mem_of_getElem? ht))
          have hP1 := HLQ.out q
          obtain ⟨P1, hP1e⟩ : ∃ P1, ptsL P0 (l.take q) = P1 := ⟨_, rfl⟩
          rw [hP1e] at R hP1
          have HPQ := hid (show ptsL P0 (l.take (q + 1)) = stepT P1 t by rw [← hP1e]; exact foldl_take stepT _ ht)
          clear ht hP1e
          obtain ⟨c0, c1, c2, c3, c4, c5⟩ := h6
          have hw2 : IntKind.i64.wrap ((q : Int) + 1) = (q : Int) + 1 := IntWalk.i64_in _ (by omega)
          obtain ⟨bk, hbk⟩ : ∃ bk, blkUp (low t) 3 = bk := ⟨_, rfl⟩
          have hbl := blkUp_len (low t) 3
          have BC := hid (blocks_any (low t) OK1.out)
          rw [hbk] at hbl BC
          obtain ⟨n, hn⟩ : ∃ n, bk.length = n := ⟨_, rfl⟩
          rw [hn] at hbl BC
          have HNB := hid hn
          have HBK := hid (show ∀ y ∈ bk, y.ok from fun y hy => blkUp_ok OK1.out (by rw [hbk]; exact hy))
          have HST := hid (show stepT P1 t = bk.foldl stepV (onceL P1 [low t]) by rw [← hbk]; rfl)
          have HVL := hid (show ∀ j, ((bk.take j).foldl stepV (onceL P1 [low t])).length ≤ 28100 from fun j => by
            have h1 := foldV_len (onceL P1 [low t]) (bk.take j)
            have h2 := onceL_len P1 [low t]
            simp only [List.length_cons, List.length_nil] at h2
            rw [List.length_take] at h1
            omega)
          clear hbk hn
          go_wp2_with (first
            | (go_at_call 35; refine (leastT_any t _).mono ?_; rintro e w7 ⟨rfl, hb⟩; have R7 := hid (R.out.on (bt (show Below wm.heap.size wm _ by go_grown) hb)); clear hb)
            | (go_at_call 12; refine (bare_any t.a t.b t.c t.p ByteArray.empty _).mono ?_; rintro e w8 ⟨rfl, hb⟩; have R8 := hid (R7.out.on hb); clear hb)
            | (go_at_call 36; refine (once1 (low t) (R8.out.on (show Below w8.heap.size w8 (w8.alloc (.cells (vc3 (low t)) 25)) by go_grown)) (by omega) _ (by simp)).mono ?_
               rintro e w9 ⟨v9, rfl, h9⟩
               have R9 := hid ((R8.out.on (show Below w8.heap.size w8 (w8.alloc (.cells (vc3 (low t)) 25)) by go_grown)).step h9)
               have X9 := hid ((Blk.new w8 25 (vc3 (low t))).grown h9.grown (fun g hg e => by have := (R8.out.own.lt g hg).2; omega))
               have z0 : w9.cell? ⟨w8.heap.size, 0, none⟩ = some (.int .u64 t.a) := X9.out.cell 0
               have z1 : w9.cell? ⟨w8.heap.size, 1, none⟩ = some (.int .u64 t.b) := X9.out.cell 1
               have z2 : w9.cell? ⟨w8.heap.size, 2, none⟩ = some (.int .u64 t.c) := X9.out.cell 2
               have z3 : w9.cell? ⟨w8.heap.size, 3, none⟩ = some (.string ByteArray.empty) := X9.out.cell 3
               have z4 : w9.cell? ⟨w8.heap.size, 4, none⟩ = some (.string ByteArray.empty) := X9.out.cell 4
               clear h9)
            | (go_at_call 37; refine (BC.out _).mono ?_
               rintro e w10 ⟨⟨bo, cb, rfl, hV, hbb⟩, hb⟩
               have N0 := hid (show NRel w w10 v9 (onceL P1 [low t]) bo bk from ⟨R9.out.on hb, hV, fun b e he => by have := (R9.out.own.lt _ he.symm).2; have := hbb b e; omega⟩)
               clear hV hbb hb))
          go_loopw [35, 3] (fun i v wr => ∃ j : Nat, j ≤ n ∧ i = .int .i64 j ∧ Hid (NRel w wr v ((bk.take j).foldl stepV (onceL P1 [low t])) bo bk)) (fun i _ _ => n - (intOf i).toNat)
          case atStart => exact ⟨0, Nat.zero_le _, rfl, N0.out⟩
          case round =>
            obtain ⟨j, hj, rfl, R⟩ := hrel
            clear N0 z0 z1 z2 z3 z4
            by_cases hlt3 : j < n
            · obtain ⟨y, hy⟩ : ∃ y, bk[j]? = some y := ⟨_, List.getElem?_eq_getElem (by rw [HNB.out]; exact hlt3)⟩
              obtain ⟨b2, rfl, hd⟩ := R.out.vl j y hy
              have YOK := hid (HBK.out y (List.mem_of_getElem? hy))
              have hP2 := HVL.out j
              obtain ⟨P2, hP2e⟩ : ∃ P2, (bk.take j).foldl stepV (onceL P1 [low t]) = P2 := ⟨_, rfl⟩
              rw [hP2e] at R hP2
              have HPJ := hid (show (bk.take (j + 1)).foldl stepV (onceL P1 [low t]) = stepV P2 y by rw [← hP2e]; exact foldl_take stepV _ hy)
              have HNE := hid (show bk ≠ [] from fun e => by rw [e] at hy; simp at hy)
              clear hy hP2e
              obtain ⟨d0, d1, d2, d3, d4⟩ := hd
              have hw3 : IntKind.i64.wrap ((j : Int) + 1) = (j : Int) + 1 := IntWalk.i64_in _ (by omega)
              go_wp2_with fail
              have Y10 := hid (Blk.new wr 25 (vc3 y))
              have R10 := hid (R.out.on (show Below wr.heap.size wr (wr.alloc (.cells (vc3 y) 25)) by go_grown))
              obtain ⟨g, hg⟩ : ∃ g, wr.heap.size = g := ⟨_, rfl⟩
              generalize (wr.alloc (.cells (vc3 y) 25)) = w10 at Y10 R10 ⊢
              have NG := hid (show ∀ v0, wr.ownsRow w.heap.size 25 5 v0 P2.length (vcs P2) → v0.ownBlock ≠ some g from fun v0 hv0 he => by have := (hv0.lt _ he).2; omega)
              rw [hg] at Y10 ⊢
              clear hg
              have y0 : w10.cell? ⟨g, 0, none⟩ = some (.int .u64 y.a) := Y10.out.cell 0
              have y1 : w10.cell? ⟨g, 1, none⟩ = some (.int .u64 y.b) := Y10.out.cell 1
              have y2 : w10.cell? ⟨g, 2, none⟩ = some (.int .u64 y.c) := Y10.out.cell 2
              have y3 : w10.cell? ⟨g, 3, none⟩ = some (.string ByteArray.empty) := Y10.out.cell 3
              have y4 : w10.cell? ⟨g, 4, none⟩ = some (.string ByteArray.empty) := Y10.out.cell 4
              have Y11 := hid (Y10.out.alloc (.cells #[.int .u64 y.a, .int .u64 y.b, .int .u64 y.c, .string ByteArray.empty, .string ByteArray.empty] 25))
              have z0 : (w10.alloc (.cells #[.int .u64 y.a, .int .u64 y.b, .int .u64 y.c, .string ByteArray.empty, .string ByteArray.empty] 25)).cell? ⟨g, 0, none⟩ = some (.int .u64 y.a) := Y11.out.cell 0
              have z1 : (w10.alloc (.cells #[.int .u64 y.a, .int .u64 y.b, .int .u64 y.c, .string ByteArray.empty, .string ByteArray.empty] 25)).cell? ⟨g, 1, none⟩ = some (.int .u64 y.b) := Y11.out.cell 1
              have z2 : (w10.alloc (.cells #[.int .u64 y.a, .int .u64 y.b, .int .u64 y.c, .string ByteArray.empty, .string ByteArray.empty] 25)).cell? ⟨g, 2, none⟩ = some (.int .u64 y.c) := Y11.out.cell 2
              have z3 : (w10.alloc (.cells #[.int .u64 y.a, .int .u64 y.b, .int .u64 y.c, .string ByteArray.empty, .string ByteArray.empty] 25)).cell? ⟨g, 3, none⟩ = some (.string ByteArray.empty) := Y11.out.cell 3
              have z4 : (w10.alloc (.cells #[.int .u64 y.a, .int .u64 y.b, .int .u64 y.c, .string ByteArray.empty, .string ByteArray.empty] 25)).cell? ⟨g, 4, none⟩ = some (.string ByteArray.empty) := Y11.out.cell 4
              have R10d := hid (show PRel w w10.drew _ P2 from R10.out.row.on (show Below w10.heap.size w10 w10.drew by go_grown))
              go_region_law (first
                | (refine step_call rfl 36 _ _ #[_, .slice (some ⟨w10.heap.size, 0, none⟩) 1 1] rfl hen1 (by simp [Act.eval, Act.put]) _ (once1 y R10d.out (by omega) w10.heap.size rfl) ?_
                   rintro e w11 ⟨v11, rfl, h11⟩
                   refine ⟨_, rfl, ?_⟩
                   have R11 := hid ((onR_refl R10.out.row).trans ((show OnR w.heap.size w10 w10.drew _ _ P2 from (onR_refl R10.out.row).on (show Below w10.heap.size w10 w10.drew by go_grown)).trans h11))
                   have Y12 := hid (Y10.out.grown R11.out.grown (fun k hk e => by subst e; exact NG.out _ R.out.row.own hk))
                   have u0 : w11.cell? ⟨g, 0, none⟩ = some (.int .u64 y.a) := Y12.out.cell 0
                   have u1 : w11.cell? ⟨g, 1, none⟩ = some (.int .u64 y.b) := Y12.out.cell 1
                   have u2 : w11.cell? ⟨g, 2, none⟩ = some (.int .u64 y.c) := Y12.out.cell 2
                   have u3 : w11.cell? ⟨g, 3, none⟩ = some (.string ByteArray.empty) := Y12.out.cell 3
                   have u4 : w11.cell? ⟨g, 4, none⟩ = some (.string ByteArray.empty) := Y12.out.cell 4
                   clear h11)
                | (refine step_call rfl 37 _ _ #[.agg (vc3 y)] rfl hen2 (by simp [Act.eval, Act.put]) _ (blocks_any y YOK.out _) ?_
                   rintro e w12 ⟨⟨bo3, cb3, rfl, hV3, hbb3⟩, hb12⟩
                   refine ⟨_, rfl, ?_⟩
                   have R12 := hid (R11.out.on hb12)
                   have V12 := hid hV3
                   have NE12 := hid (show ∀ b, bo3 = some b → some b.block ≠ v11.ownBlock from fun b e he => by have := (R11.out.own.lt _ he.symm).2; have := hbb3 b e; omega)
                   clear hV3 hbb3 hb12)
                | (refine step_call rfl 36 _ _ #[v11, .slice bo3 (blkUp y 3).length cb3] rfl hen1 (by simp [Act.eval, Act.put]) _ (once_any w.heap.size v11 _ bo3 (blkUp y 3) cb3 w12 R12.out.own V12.out NE12.out (R10.out.row.step R12.out).below.size (by have h1 := blkUp_len y 3; have h2 := onceL_len P2 [y]; simp only [List.length_cons, List.length_nil] at h2; omega)) ?_
                   rintro e w13 ⟨v13, rfl, h13⟩
                   refine ⟨_, rfl, ?_⟩
                   have R13 := hid (R12.out.trans h13)
                   clear h13))
              all_goals
                have R14 := hid (R10.out.step (show OnR w.heap.size w10 w13 _ v13 (stepV P2 y) from R13.out) HNE.out)
                go_simp
                go_wp2_with fail
                go_roundw
                · exact ⟨j + 1, by omega, by go_num, by rw [HPJ.out]; exact R14.out⟩
                · simp [intOf]; omega
            · have hjn : j = bk.length := by rw [HNB.out]; omega
              have R2 := hid (show PRel w wr _ (ptsL P0 (l.take (q + 1))) by rw [HPQ.out, HST.out]; have := R.out.row; rw [hjn, List.take_length] at this; exact this)
              go_wp2_with fail
              go_roundw
              case rel => exact ⟨q + 1, by omega, by go_num, R2.out⟩
              case measure => simp [intOf]; omega
        · have hqm : q = l.length := by rw [HM.out]; omega
          have R2 := hid (show PRel w wm _ (pts (L.take (k + 1))) by rw [HPK.out]; have := R.out; rw [hqm, List.take_length] at this; exact this)
          go_wp2_with fail
          go_roundw
          case rel => exact ⟨k + 1, by omega, by go_num, R2.out⟩
          case measure => simp [intOf]; omega
    · obtain rfl : N = k := by omega
      have R2 := hid (show PRel w wo _ (pts L) by have := R.out; rwa [List.take_of_length_le (by rw [HN.out]; exact Nat.le_refl _)] at this)
      go_wp2_with fail
      go_ret
      exact ⟨_, rfl, R2.out⟩
end Go.Proofs.YtkohcmgckkenpaaDoor

set_option linter.unusedVariables false
set_option linter.unusedSimpArgs false
namespace Go.Proofs.YtkohcmgckkenpaaDoor
open Go.RowKit

theorem stepV_sub {P : List V3} {x y : V3} (h : y ∈ P) : y ∈ stepV P x := onceL_sub (onceL_sub h)
theorem stepV_self (P : List V3) (x : V3) : x ∈ stepV P x := onceL_sub (onceL_mem (List.mem_singleton.2 rfl))
theorem foldV_sub {l P : List V3} {y : V3} (h : y ∈ P) : y ∈ l.foldl stepV P := by
  induction l generalizing P with
  | nil => exact h
  | cons x l ih => exact ih (stepV_sub h)
theorem foldV_mem {l P : List V3} {y : V3} (h : y ∈ l) : y ∈ l.foldl stepV P := by
  induction l generalizing P with
  | nil => cases h
  | cons x l ih =>
    rw [List.foldl_cons]
    rcases List.mem_cons.1 h with rfl | h
    · exact foldV_sub (stepV_self P _)
    · exact ih h
theorem stepT_sub {P : List V3} {t : Tm} {y : V3} (h : y ∈ P) : y ∈ stepT P t := foldV_sub (onceL_sub h)
theorem blkUp_has {x q : V3} {k : Nat} (hk : k < 3) (h : bkk k x = some q) : q ∈ blkUp x 3 := by
  unfold blkUp
  rw [List.mem_flatMap]
  exact ⟨k, List.mem_range.2 hk, Option.mem_toList.2 h⟩
theorem stepT_in (P : List V3) (t : Tm) : PtsIn (low t) (stepT P t) :=
  ⟨foldV_sub (onceL_mem (List.mem_singleton.2 rfl)), fun q h => foldV_mem (blkUp_has (k := 0) (by omega) h), fun q h => foldV_mem (blkUp_has (k := 1) (by omega) h), fun q h => foldV_mem (blkUp_has (k := 2) (by omega) h)⟩
theorem PtsIn.sub {x : V3} {P P' : List V3} (h : PtsIn x P) (hs : ∀ y, y ∈ P → y ∈ P') : PtsIn x P' := ⟨hs _ h.p0, fun q e => hs _ (h.p1 q e), fun q e => hs _ (h.p2 q e), fun q e => hs _ (h.p3 q e)⟩
theorem ptsL_sub {P : List V3} {l : List Tm} {y : V3} (h : y ∈ P) : y ∈ ptsL P l := by
  unfold ptsL
  induction l generalizing P with
  | nil => exact h
  | cons x l ih => exact ih (stepT_sub h)
theorem ptsL_in {P : List V3} {l : List Tm} {t : Tm} (h : t ∈ l) : PtsIn (low t) (ptsL P l) := by
  unfold ptsL
  induction l generalizing P with
  | nil => cases h
  | cons x l ih =>
    rw [List.foldl_cons]
    rcases List.mem_cons.1 h with rfl | h
    · exact (stepT_in P _).sub (fun y hy => ptsL_sub (l := l) hy)
    · exact ih h
theorem ptsF_sub {P : List V3} {L : List (List Tm)} {y : V3} (h : y ∈ P) : y ∈ L.foldl ptsL P := by
  induction L generalizing P with
  | nil => exact h
  | cons x l ih => exact ih (ptsL_sub h)
theorem ptsF_in {P : List V3} {L : List (List Tm)} {l : List Tm} (hl : l ∈ L) {t : Tm} (h : t ∈ l) : PtsIn (low t) (L.foldl ptsL P) := by
  induction L generalizing P with
  | nil => cases hl
  | cons x r ih =>
    rw [List.foldl_cons]
    rcases List.mem_cons.1 hl with rfl | hl
    · exact (ptsL_in h).sub (fun y hy => ptsF_sub hy)
    · exact ih hl
theorem pts_zero (L : List (List Tm)) : (⟨0, 0, 0⟩ : V3) ∈ pts L := ptsF_sub (List.mem_singleton.2 rfl)
theorem pts_in {L : List (List Tm)} : ∀ l ∈ L, ∀ t ∈ l, PtsIn (low t) (pts L) := fun l hl t ht => ptsF_in hl ht
theorem stepV_ok {P : List V3} {x : V3} (hP : ∀ q ∈ P, q.ok) (hx : x.ok) : ∀ q ∈ stepV P x, q.ok := fun q hq => by
  rcases onceL_of hq with h | h
  · rcases onceL_of h with h | h
    · exact hP q h
    · rw [List.mem_singleton.1 h]; exact hx
  · exact blkUp_ok hx h
theorem foldV_ok {P l : List V3} (hP : ∀ q ∈ P, q.ok) (hl : ∀ q ∈ l, q.ok) : ∀ q ∈ l.foldl stepV P, q.ok := by
  induction l generalizing P with
  | nil => exact hP
  | cons x l ih => exact ih (stepV_ok hP (hl x (List.mem_cons_self ..))) (fun q hq => hl q (List.mem_cons_of_mem _ hq))
theorem stepT_ok {P : List V3} {t : Tm} (hP : ∀ q ∈ P, q.ok) (ht : (low t).ok) : ∀ q ∈ stepT P t, q.ok := foldV_ok (fun q hq => by
  rcases onceL_of hq with h | h
  · exact hP q h
  · rw [List.mem_singleton.1 h]; exact ht) (fun q hq => blkUp_ok ht hq)
theorem ptsL_ok {P : List V3} {l : List Tm} (hP : ∀ q ∈ P, q.ok) (hl : ∀ t ∈ l, (low t).ok) : ∀ q ∈ ptsL P l, q.ok := by
  unfold ptsL
  induction l generalizing P with
  | nil => exact hP
  | cons x l ih => exact ih (stepT_ok hP (hl x (List.mem_cons_self ..))) (fun q hq => hl q (List.mem_cons_of_mem _ hq))
theorem ptsF_ok {P : List V3} {L : List (List Tm)} (hP : ∀ q ∈ P, q.ok) (hl : ∀ l ∈ L, ∀ t ∈ l, (low t).ok) : ∀ q ∈ L.foldl ptsL P, q.ok := by
  induction L generalizing P with
  | nil => exact hP
  | cons x l ih => exact ih (ptsL_ok hP (hl x (List.mem_cons_self ..))) (fun q hq => hl q (List.mem_cons_of_mem _ hq))
theorem pts_ok {L : List (List Tm)} (hl : ∀ l ∈ L, ∀ t ∈ l, (low t).ok) : ∀ q ∈ pts L, q.ok := ptsF_ok (fun q hq => by
  rw [List.mem_singleton.1 hq]
  exact ⟨⟨Int.le_refl _, by decide⟩, ⟨Int.le_refl _, by decide⟩, Int.le_refl _, by decide⟩) hl

set_option maxHeartbeats 3200000 in
set_option maxRecDepth 100000 in
theorem goodTerms10_any (ao : Option Addr) (L : List (List Tm)) (cp : Nat) (w : World) (hn : L.length ≤ 2147483647) (hp : ∀ l ∈ L, l.length ≤ 2147483647 ∧ ∀ t ∈ l, t.p.size ≤ 2147483647) (hL : LL w ao L) : Calls Tryd.prog 18 #[.slice ao L.length cp, .int .i64 10] w fun e w' =>
    Says e (0 < L.length ∧ L.length ≤ 10 ∧ ∀ l ∈ L, GoodL l) ∧ Below w.heap.size w w' := by
  obtain ⟨N, hN⟩ : ∃ N, L.length = N := ⟨_, rfl⟩
  rw [hN] at hn ⊢
  have HL := hid hL
  have HN := hid hN
  have HP := hid hp
  clear hL hN hp
  go_enter Tryd.func18, Tryd.ntmps18
  go_wp2_with fail
  go_loopw [12, 5] (fun i s wr => ∃ k n : Nat, k ≤ N ∧ i = .int .i64 k ∧ s = .int .i64 n ∧ k ≤ n ∧ n ≤ 10 ∧ (k = 0 → n = 0) ∧ Hid (∀ j l, j < k → L[j]? = some l → GoodL l) ∧ Hid (Below w.heap.size w wr)) (fun i _ _ => N - (intOf i).toNat)
  case atStart => exact ⟨0, 0, Nat.zero_le _, rfl, rfl, Nat.le_refl _, by omega, fun _ => rfl, (fun j l hj => absurd hj (Nat.not_lt_zero _) : ∀ j l, j < 0 → L[j]? = some l → GoodL l), Below.refl _ _⟩
  case round =>
    obtain ⟨k, n, hk, rfl, rfl, hkn, hn10, hz, G0, B0⟩ := hrel
    have HZ := hid hz
    clear hz
    rename World => wo
    by_cases hlt : k < N
    · obtain ⟨l, hl⟩ : ∃ l, L[k]? = some l := ⟨_, List.getElem?_eq_getElem (by rw [HN.out]; exact hlt)⟩
      obtain ⟨a, bo, cq, rfl, hc, hT⟩ := (HL.out.below B0.out) k l hl
      obtain ⟨hm0, hps⟩ := HP.out l (List.mem_of_getElem? hl)
      obtain ⟨m, hm⟩ : ∃ m, l.length = m := ⟨_, rfl⟩
      rw [hm] at hc hm0
      have HK := hid hl
      have HM := hid hm
      have HT := hid hT
      have HPS := hid hps
      clear hl hm hT hps
      have hw : IntKind.i64.wrap ((k : Int) + 1) = (k : Int) + 1 := IntWalk.i64_in _ (by omega)
      have hw3 : IntKind.i64.wrap ((n : Int) + (m : Int)) = ((n + m : Nat) : Int) := by rw [IntWalk.i64_in _ (by omega)]; omega
      go_wp2_with fail
      go_loopw [18] (fun j wr2 => ∃ q : Nat, q ≤ m ∧ j = .int .i64 q ∧ Hid (∀ i t, i < q → l[i]? = some t → goodT t.o t.k t.a t.b t.c t.p = true) ∧ Hid (Below wo.heap.size wo wr2)) (fun j _ => m - (intOf j).toNat)
      case atStart => exact ⟨0, Nat.zero_le _, rfl, (fun i t hi => absurd hi (Nat.not_lt_zero _) : ∀ i t, i < 0 → l[i]? = some t → goodT t.o t.k t.a t.b t.c t.p = true), Below.refl _ _⟩
      case round =>
        obtain ⟨q, hq, rfl, A1, B1⟩ := hrel
        by_cases hlt2 : q < m
        · obtain ⟨t, ht⟩ : ∃ t, l[q]? = some t := ⟨_, List.getElem?_eq_getElem (by rw [HM.out]; exact hlt2)⟩
          obtain ⟨b, rfl, c0, c1, c2, c3, c4, c5⟩ := (HT.out.below B1.out) q t ht
          have C := fun w => goodTerm_any t.o t.k t.a t.b t.c t.p w (HPS.out t (List.mem_of_getElem? ht))
          obtain ⟨r, hr⟩ : ∃ r, goodT t.o t.k t.a t.b t.c t.p = r := ⟨_, rfl⟩
          rw [hr] at C
          have CC := hid C
          have HR := hid hr
          have H1 := hid ht
          clear C hr ht
          have hw2 : IntKind.i64.wrap ((q : Int) + 1) = (q : Int) + 1 := IntWalk.i64_in _ (by omega)
          cases r with
          | true =>
            go_wp2_with (go_at_call 27; refine (CC.out _).mono ?_; rintro e w2 ⟨rfl, hb2⟩; have B2 := hid (bt (bt B1.out (by go_grown)) hb2); clear hb2)
            go_roundw
            case rel =>
              refine ⟨q + 1, by omega, by go_num, (fun i s hi hs => ?_ : ∀ i t, i < q + 1 → l[i]? = some t → goodT t.o t.k t.a t.b t.c t.p = true), B2.out⟩
              rcases Nat.lt_or_ge i q with h | h
              · exact A1.out i s h hs
              · obtain rfl : i = q := by omega
                obtain rfl : t = s := Option.some.inj (H1.out.symm.trans hs)
                exact HR.out
            case measure => simp [intOf]; omega
          | false =>
            go_wp2_with (go_at_call 27; refine (CC.out _).mono ?_; rintro e w2 ⟨rfl, hb2⟩; have B2 := hid (bt (bt B1.out (by go_grown)) hb2); clear hb2)
            go_ret
            exact ⟨⟨_, rfl, fun h => by cases h⟩, bt B0.out B2.out⟩
        · have hqm : q = m := by omega
          have GA : Hid (∀ t ∈ l, goodT t.o t.k t.a t.b t.c t.p = true) := hid fun t ht => by
            obtain ⟨j, hj⟩ := List.getElem?_of_mem ht
            exact A1.out j t (by have := (List.getElem?_eq_some_iff.1 hj).1; rw [HM.out] at this; omega) hj
          by_cases hm1 : m = 0
          · subst hm1
            go_wp2_with fail
            go_ret
            exact ⟨⟨_, rfl, fun h => by cases h⟩, bt B0.out B1.out⟩
          · have e0 : ((m : Int) == 0) = false := by simp; omega
            by_cases hs : n + m ≤ 10
            · have u1 : ¬ (10 : Int) < ((n + m : Nat) : Int) := by omega
              have HS := hid (show n + m ≤ 10 ∧ m ≠ 0 from ⟨hs, hm1⟩)
              clear hs hm1
              go_wp2_with fail
              go_roundw
              case rel =>
                have hs := HS.out
                refine ⟨k + 1, n + m, by omega, by go_num, by first | rfl | (rw [hw3]) | simp, by omega, by omega, by omega, (fun j s hj hs => ?_ : ∀ j l, j < k + 1 → L[j]? = some l → GoodL l), bt B0.out B1.out⟩
                rcases Nat.lt_or_ge j k with h | h
                · exact G0.out j s h hs
                · obtain rfl : j = k := by omega
                  obtain rfl : l = s := Option.some.inj (HK.out.symm.trans hs)
                  refine ⟨fun e => ?_, ?_, GA.out⟩
                  · have := HM.out
                    rw [e] at this
                    simp at this
                    omega
                  · rw [HM.out]; omega
              case measure => simp [intOf]; omega
            · have u1 : (10 : Int) < ((n + m : Nat) : Int) := by omega
              clear hs hm1
              go_wp2_with fail
              go_ret
              exact ⟨⟨_, rfl, fun h => by cases h⟩, bt B0.out B1.out⟩
    · have hkN : k = N := by omega
      go_wp2_with fail
      go_ret
      refine ⟨⟨_, rfl, fun h => ⟨?_, by omega, fun l hl => ?_⟩⟩, B0.out⟩
      · have hz := HZ.out
        have : (0 : Int) < (n : Int) := by simpa using h
        omega
      · obtain ⟨j, hj⟩ := List.getElem?_of_mem hl
        exact G0.out j l (by have := (List.getElem?_eq_some_iff.1 hj).1; rw [HN.out] at this; omega) hj


/-- A constraint that is good. -/
def GoodC (L : List (List Tm)) : Prop := 0 < L.length ∧ L.length ≤ 10 ∧ ∀ l ∈ L, GoodL l
/-- A constraint of a size that fits. -/
def FitC (L : List (List Tm)) : Prop := L.length ≤ 2147483647 ∧ ∀ l ∈ L, l.length ≤ 2147483647 ∧ ∀ t ∈ l, t.p.size ≤ 2147483647

set_option maxHeartbeats 3200000 in
set_option maxRecDepth 100000 in
theorem siGood_any (g cq : Nat) (E : List (Option Addr × List (List Tm) × Nat)) (w : World) (hlen : E.length ≤ 10) (hc : ∀ j x, E[j]? = some x → w.cell? ⟨g, j, none⟩ = some (.slice x.1 x.2.1.length x.2.2)) (hE : ∀ x ∈ E, LL w x.1 x.2.1 ∧ FitC x.2.1) :
    Calls Tryd.prog 13 #[.slice (some ⟨g, 0, none⟩) E.length cq] w fun e w' => Says e (∀ x ∈ E, GoodC x.2.1) ∧ Below w.heap.size w w' := by
  obtain ⟨n, hn⟩ : ∃ n, E.length = n := ⟨_, rfl⟩
  rw [hn] at hlen ⊢
  have HC := hid hc
  have HE := hid hE
  have HN := hid hn
  clear hc hE hn
  go_enter Tryd.func13, Tryd.ntmps13
  go_wp2_with fail
  go_loopw [7] (fun i wr => ∃ k : Nat, k ≤ n ∧ i = .int .i64 k ∧ Hid (∀ j x, j < k → E[j]? = some x → GoodC x.2.1) ∧ Hid (Below w.heap.size w wr)) (fun i _ => n - (intOf i).toNat)
  case atStart => exact ⟨0, Nat.zero_le _, rfl, (fun j x hj => absurd hj (Nat.not_lt_zero _) : ∀ j x, j < 0 → E[j]? = some x → GoodC x.2.1), Below.refl _ _⟩
  case round =>
    obtain ⟨k, hk, rfl, G0, B0⟩ := hrel
    by_cases hlt : k < n
    · obtain ⟨x, hx⟩ : ∃ x, E[k]? = some x := ⟨_, List.getElem?_eq_getElem (by rw [HN.out]; exact hlt)⟩
      have hcell := cell_on B0.out (HC.out k x hx)
      obtain ⟨hL, hf1, hf2⟩ := HE.out x (List.mem_of_getElem? hx)
      obtain ⟨xo, L, cp⟩ := x
      simp only at hcell hL hf1 hf2
      have CG := hid (fun w h => goodTerms10_any xo L cp w hf1 hf2 h)
      have CS := hid (fun w h => scGood_any xo L cp w hf1 hf2 h)
      have HX := hid hx
      have HL := hid (hL.below B0.out)
      clear hx hL hf1 hf2
      obtain ⟨m, hm⟩ : ∃ m, L.length = m := ⟨_, rfl⟩
      rw [hm] at hcell CG CS
      have HM := hid hm
      clear hm
      have hw : IntKind.i64.wrap ((k : Int) + 1) = (k : Int) + 1 := IntWalk.i64_in _ (by omega)
      go_wp2_with fail
      go_at_call 18
      refine (CG.out _ HL.out).mono ?_
      rintro e w1 ⟨⟨b, rfl, hs⟩, hb⟩
      have HL1 := hid (HL.out.below hb)
      have B1 := hid (bt B0.out hb)
      clear hb
      cases b with
      | false =>
        clear hs
        go_wp2_with fail
        go_ret
        exact ⟨⟨_, rfl, fun h => by cases h⟩, B1.out⟩
      | true =>
      have HS := hid (hs rfl)
      clear hs
      go_wp2_with fail
      go_at_call 7
      refine (CS.out _ HL1.out).mono ?_
      rintro e w2 ⟨⟨b, rfl, hs⟩, hb⟩
      have B2 := hid (bt B1.out hb)
      clear hb hs
      cases b with
      | false =>
        go_wp2_with fail
        go_ret
        exact ⟨⟨_, rfl, fun h => by cases h⟩, B2.out⟩
      | true =>
      go_wp2_with fail
      go_roundw
      case rel =>
        refine ⟨k + 1, by omega, by go_num, (fun j s hj hs => ?_ : ∀ j x, j < k + 1 → E[j]? = some x → GoodC x.2.1), B2.out⟩
        rcases Nat.lt_or_ge j k with h | h
        · exact G0.out j s h hs
        · obtain rfl : j = k := by omega
          obtain rfl := Option.some.inj (HX.out.symm.trans hs)
          have h3 := HS.out
          rw [← HM.out] at h3
          exact h3
      case measure => simp [intOf]; omega
    · have hkn : k = n := by omega
      go_wp2_with fail
      go_ret
      refine ⟨⟨_, rfl, fun _ x hx => ?_⟩, B0.out⟩
      obtain ⟨j, hj⟩ := List.getElem?_of_mem hx
      exact G0.out j x (by have := (List.getElem?_eq_some_iff.1 hj).1; rw [HN.out] at this; omega) hj

/-- The comparison that the law hands in. -/
theorem same_any (x y : Bool) (w : World) : Calls Tryd.prog 15 #[.bool x, .bool y] w fun e w' => e = .returned (.bool (x == y)) ∧ Below w.heap.size w w' := by
  go_enter Tryd.func15, Tryd.ntmps15
  go_wp2_with fail
  go_ret
  exact ⟨rfl, Below.refl _ _⟩

abbrev tAll : Tm := ⟨4, 3, 0, 0, 0, ⟨#[48]⟩⟩
theorem ll_all (w : World) : LL ((w.alloc (.cells (tm6 tAll) 30)).alloc (.cells #[.slice (some ⟨w.heap.size, 0, none⟩) 1 1] 32)) (some ⟨w.heap.size + 1, 0, none⟩) [[tAll]] := fun i l hi => by
  have h0 : i = 0 := by
    rcases i with _ | i
    · rfl
    · simp at hi
  subst h0
  obtain rfl : [tAll] = l := by simpa using hi
  obtain ⟨h1, h2⟩ := two_new w (tm6 tAll) #[.slice (some ⟨w.heap.size, 0, none⟩) 1 1] 30 32
  refine ⟨_, some ⟨w.heap.size, 0, none⟩, 1, rfl, ?_, tl_one h1⟩
  rw [Addr.add_zero']
  exact h2.cell 0
theorem siAll_any (w : World) : Calls Tryd.prog 16 #[] w fun e w' => ∃ g, e = .returned (.slice (some ⟨g, 0, none⟩) 1 1) ∧ LL w' (some ⟨g, 0, none⟩) [[tAll]] ∧ Below w.heap.size w w' := by
  go_enter Tryd.func16, Tryd.ntmps16
  go_wp2_with fail
  go_ret
  exact ⟨w.heap.size + 1, rfl, ll_all w, by go_grown⟩
theorem okt_all : ∀ l ∈ [[tAll]], l ≠ [] ∧ l.length ≤ 100 ∧ ∀ t ∈ l, Okt t := okt_own 4 (by decide) (by decide) 0 0 0 _ (by decide) (by decide) (by decide)
theorem all_true {v : V3} (hv : v.ok) : anyL v.a v.b v.c ByteArray.empty [[tAll]] = true := by
  have hp : (tAll.p).toList.isEmpty = false := by rw [ByteArray.toList_eq]; rfl
  have he : (ByteArray.empty).toList = [] := by rw [ByteArray.toList_eq]; rfl
  unfold anyL
  simp only [List.any_cons, List.any_nil, Bool.or_false, hasP_one tAll hp, List.all_cons, List.all_nil, Bool.and_true]
  unfold tv opV opR opLeast
  have e : preBar ByteArray.empty true = false := by simp [preBar]
  rw [e, he]
  have h := cmpV_neg ⟨0, 0, 0⟩ v tAll.p
  have hle : (⟨0, 0, 0⟩ : V3).le v := by obtain ⟨⟨_, _⟩, ⟨_, _⟩, _, _⟩ := hv; unfold V3.le; simp only; omega
  have h2 : ¬ cmpV (num3 v.a v.b v.c 0 0 0) [] tAll.p.toList < 0 := fun hh => h.1 hh hle
  show (if false = true then false else decide (0 ≤ cmpV (num3 v.a v.b v.c 0 0 0) [] tAll.p.toList)) = true
  simp only [Bool.false_eq_true, if_false, decide_eq_true_eq]
  exact Int.not_lt.1 h2

/-- A row of one's own that holds lists of terms. -/
theorem ll_own {w : World} {base n : Nat} {v : Value} {ys : List Value} {X : List (List Tm)} (hown : w.ownsRow base 32 1 v n ys) (hX : X.length = n) (h0 : 0 < n)
    (hat : ∀ (i : Nat) (l : List Tm), X[i]? = some l → ∃ bo cq, ys[i]? = some (Value.slice bo l.length cq) ∧ TL w bo l) : ∃ x cap, v = .slice (some x) n cap ∧ LL w (some x) X := by
  obtain ⟨g, cap, hv⟩ := Go.Joins.ownsRow_form hown h0
  subst hv
  refine ⟨_, cap, rfl, fun i l hi => ?_⟩
  obtain ⟨bo, cq, h1, h2⟩ := hat i l hi
  exact ⟨_, bo, cq, rfl, hown.cells (g := g) rfl i _ h1, h2⟩
theorem vals_app {w : World} {X Y : List (List Tm)} {xs ys : List Value} (hl : xs.length = X.length) (hx : ∀ (i : Nat) (l : List Tm), X[i]? = some l → ∃ bo cq, xs[i]? = some (Value.slice bo l.length cq) ∧ TL w bo l) (hy : ∀ (i : Nat) (l : List Tm), Y[i]? = some l → ∃ bo cq, ys[i]? = some (Value.slice bo l.length cq) ∧ TL w bo l)
    (i : Nat) (l : List Tm) (h : (X ++ Y)[i]? = some l) : ∃ bo cq, (xs ++ ys)[i]? = some (Value.slice bo l.length cq) ∧ TL w bo l := by
  by_cases hlt : i < X.length
  · rw [List.getElem?_append_left hlt] at h
    rw [List.getElem?_append_left (by omega)]
    exact hx i l h
  · rw [List.getElem?_append_right (by omega)] at h
    rw [List.getElem?_append_right (by omega), hl]
    exact hy _ l h

section
variable {P : Program} {ops : Array Oper} {rest : List Oper} {o : Oper} {a : Act} {Q : Exit → Act → World → Prop}
/-- append of many elements. -/
theorem app_many {W : World} (base : Nat) (hgd : o.guard = none) (s x : Operand) (t e : TypeId) (z : Value) (size bytes : Nat)
    (ho : o.op = .call { callee := .builtin .append, args := #[s, x], argTypes := #[t, t] })
    (ht : P.underlying t = some (.slice e)) (hinfo : (P.info? e).map (fun i => (i.zero, i.size, i.bytes)) = some (some z, size, bytes)) (hz : z.cells.size = size) (hsz : 0 < size)
    (v : Value) (n : Nat) (xs ys : List Value) (hs : a.eval s = v) (ad : Addr) (m c : Nat) (hx : a.eval x = .slice (some ad) m c) (hy : ys.length = m * size) (hc : ∀ j u, ys[j]? = some u → W.cell? (ad.add j) = some u) (h1 : ∀ u ∈ ys, u.oneCell' = true)
    (HO : W.ownsRow base e size v n xs) (hbase : base ≤ W.heap.size) (hm : n + m ≤ maxLen) (hl : (n + m) * bytes ≤ 140737488355328)
    (h : ∀ v1 w1, w1.ownsRow base e size v1 (n + m) (xs ++ ys) → W.grownBy w1 v.ownBlock → wpList P ops Q rest (a.put o.dst v1) w1) :
    wpList P ops Q (o :: rest) a W := by
  obtain ⟨i0, hi, hzz⟩ := Option.map_eq_some_iff.1 hinfo
  simp only [Prod.mk.injEq] at hzz
  obtain ⟨hz0, hz1, hz2⟩ := hzz
  exact wpList_append_own W hgd s x t ho base e i0 z size bytes ht hi hz0 hz1 hz2 hz hsz v n xs hs HO ad m c ys hx hy hc h1 hm hl hbase (fun v1 w1 h2 h3 _ => h v1 w1 h2 h3)
end

set_option maxHeartbeats 6400000 in
set_option maxRecDepth 100000 in
theorem siEach_any (co : Option Addr) (C : List (List Tm)) (cp : Nat) (dO : Option Addr) (D : List (List Tm)) (dp : Nat) (w : World) (hC : LL w co C) (hD : LL w dO D) (gC : GoodC C) (gD : GoodC D) (oC : ∀ l ∈ C, ∀ t ∈ l, Okt t ∧ (low t).ok) (oD : ∀ l ∈ D, ∀ t ∈ l, Okt t ∧ (low t).ok) (hv : Vars w) :
    Calls Tryd.prog 14 #[.slice co C.length cp, .slice dO D.length dp, .func (.func 15) #[] #[]] w fun e w' => Says e (∀ q ∈ pts (C ++ D), anyL q.a q.b q.c ByteArray.empty C = anyL q.a q.b q.c ByteArray.empty D) ∧ Below w.heap.size w w' := by
  have okC : ∀ l ∈ C, l ≠ [] ∧ l.length ≤ 100 ∧ ∀ t ∈ l, Okt t := fun l hl => ⟨(gC.2.2 l hl).1, by have := (gC.2.2 l hl).2.1; omega, fun t ht => (oC l hl t ht).1⟩
  have okD : ∀ l ∈ D, l ≠ [] ∧ l.length ≤ 100 ∧ ∀ t ∈ l, Okt t := fun l hl => ⟨(gD.2.2 l hl).1, by have := (gD.2.2 l hl).2.1; omega, fun t ht => (oD l hl t ht).1⟩
  have hX : ∀ l ∈ C ++ D, l.length ≤ 100 ∧ ∀ t ∈ l, (low t).ok := fun l hl => by
    rcases List.mem_append.1 hl with hl | hl
    · exact ⟨(okC l hl).2.1, fun t ht => (oC l hl t ht).2⟩
    · exact ⟨(okD l hl).2.1, fun t ht => (oD l hl t ht).2⟩
  have HQ := hid (pts_ok (fun l hl => (hX l hl).2))
  have hC0 := gC.1
  have hC1 := gC.2.1
  have hD0 := gD.1
  have hD1 := gD.2.1
  have CH := hid (fun (q : V3) (hq : q.ok) W (h : Below w.heap.size w W) => termsHold_any co C cp q.a q.b q.c ByteArray.empty ByteArray.empty W hC0 (by omega) (hC.below h) okC (by decide) hq.1.1 hq.2.1.1 (hv.below h))
  have DH := hid (fun (q : V3) (hq : q.ok) W (h : Below w.heap.size w W) => termsHold_any dO D dp q.a q.b q.c ByteArray.empty ByteArray.empty W hD0 (by omega) (hD.below h) okD (by decide) hq.1.1 hq.2.1.1 (hv.below h))
  have hPL := pts_len (C ++ D) (fun l hl => (hX l hl).1)
  rw [List.length_append] at hPL
  have hXl : (C ++ D).length = C.length + D.length := List.length_append
  have PT := hid (fun xo cap W h => points_any xo (C ++ D) cap W (by omega) h hX)
  rw [hXl] at PT
  obtain ⟨ca, cs, rfl, hcl, hcc, hcT⟩ := hC.vals hC0
  obtain ⟨da, ds, rfl, hdl, hdc, hdT⟩ := hD.vals hD0
  obtain ⟨N, hN⟩ : ∃ N, C.length = N := ⟨_, rfl⟩
  obtain ⟨M, hM⟩ : ∃ M, D.length = M := ⟨_, rfl⟩
  rw [hN, hM] at PT hXl hPL
  rw [hN] at hC0 hC1 CH ⊢
  rw [hM] at hD0 hD1 DH ⊢
  have HCL := hid hcl
  have HDL := hid hdl
  have HCC := hid hcc
  have HDC := hid hdc
  have HCT := hid hcT
  have HDT := hid hdT
  have HN := hid hN
  have HM := hid hM
  have HXL := hid hXl
  have HPL := hid hPL
  clear hC hD gC gD oC oD hv okC okD hX hcl hdl hcc hdc hcT hdT hN hM hXl hPL
  have hPL := HPL.out
  obtain ⟨P, hP⟩ : ∃ P, pts (C ++ D) = P := ⟨_, rfl⟩
  rw [hP] at HQ PT hPL ⊢
  obtain ⟨n, hn⟩ : ∃ n, P.length = n := ⟨_, rfl⟩
  rw [hn] at hPL
  have HNP := hid hn
  clear hP hn HPL
  have OA := hid (World.ownsRow_made (base := w.heap.size) (e := 32) (size := 1) w #[] 0 (Nat.le_refl _) (by simp [maxLen]) (by simp))
  have BA := hid (show Below w.heap.size w (w.alloc (.cells #[] 32)) by go_grown)
  go_enter Tryd.func14, Tryd.ntmps14
  go_wp2_with (first
    | (at_builtin; refine app_many w.heap.size rfl (.tmp 9) (.tmp 10) _ _ _ 1 24 rfl Tryd.underlying22 info_lst rfl (by decide) _ 0 [] cs rfl ca N cp rfl (by rw [HCL.out, HN.out]; omega) (fun j u h => cell_on BA.out (HCC.out j u h).1) (fun u hu => by obtain ⟨j, hj⟩ := List.getElem?_of_mem hu; exact (HCC.out j u hj).2) OA.out (by simp) (by unfold maxLen; omega) (by omega) ?_
       intro v1 w1 hown1 hg1
       rw [Nat.zero_add, List.nil_append] at hown1
       have O1 := hid hown1
       have B1 := hid (Below.grown BA.out hg1 (by simp) (own_low OA.out))
       clear hown1 hg1)
    | (at_builtin; refine app_many w.heap.size rfl (.tmp 11) (.tmp 12) _ _ _ 1 24 rfl Tryd.underlying22 info_lst rfl (by decide) v1 N cs ds rfl da M dp rfl (by rw [HDL.out, HM.out]; omega) (fun j u h => cell_on B1.out (HDC.out j u h).1) (fun u hu => by obtain ⟨j, hj⟩ := List.getElem?_of_mem hu; exact (HDC.out j u hj).2) O1.out B1.out.size (by unfold maxLen; omega) (by omega) ?_
       intro v2 w2 hown2 hg2
       have B2 := hid (Below.grown B1.out hg2 B1.out.size (own_low O1.out))
       obtain ⟨x2, cap2, hv2, hL2⟩ := ll_own hown2 HXL.out (by omega) (vals_app HCL.out (fun i l h => by obtain ⟨bo, cq, h1, h2⟩ := HCT.out i l h; exact ⟨bo, cq, h1, h2.below B2.out⟩) (fun i l h => by obtain ⟨bo, cq, h1, h2⟩ := HDT.out i l h; exact ⟨bo, cq, h1, h2.below B2.out⟩))
       subst hv2
       have L2 := hid hL2
       clear hown2 hg2 hL2)
    | (go_at_call 25; refine (PT.out _ _ _ L2.out).mono ?_; rintro e w3 ⟨v3, rfl, R3⟩
       obtain ⟨bo, cap3, hv3, hV3, _⟩ := VL.of_own R3.own
       rw [HNP.out] at hv3
       subst hv3
       have B3 := hid (bt B2.out R3.below)
       have V3 := hid hV3
       clear R3 hV3))
  go_loopw [16] (fun i wr => ∃ j : Nat, j ≤ n ∧ i = .int .i64 j ∧ Hid (∀ r q, r < j → P[r]? = some q → anyL q.a q.b q.c ByteArray.empty C = anyL q.a q.b q.c ByteArray.empty D) ∧ Hid (Below w3.heap.size w3 wr)) (fun i _ => n - (intOf i).toNat)
  case atStart => exact ⟨0, Nat.zero_le _, rfl, (fun r q hr => absurd hr (Nat.not_lt_zero _) : ∀ r q, r < 0 → P[r]? = some q → anyL q.a q.b q.c ByteArray.empty C = anyL q.a q.b q.c ByteArray.empty D), Below.refl _ _⟩
  case round =>
    obtain ⟨j, hj, rfl, A0, B0⟩ := hrel
    by_cases hlt : j < n
    · obtain ⟨q, hq⟩ : ∃ q, P[j]? = some q := ⟨_, List.getElem?_eq_getElem (by rw [HNP.out]; exact hlt)⟩
      obtain ⟨b, rfl, hd⟩ := (V3.out.below B0.out) j q hq
      have QOK := hid (HQ.out q (List.mem_of_getElem? hq))
      have HJ := hid hq
      clear hq
      obtain ⟨d0, d1, d2, d3, d4⟩ := hd
      have hw : IntKind.i64.wrap ((j : Int) + 1) = (j : Int) + 1 := IntWalk.i64_in _ (by omega)
      go_wp2_with fail
      have Y8 := hid (Blk.new wr 25 (vc3 q))
      have B8 := hid (bt B0.out (show Below wr.heap.size wr (wr.alloc (.cells (vc3 q) 25)) by go_grown))
      obtain ⟨g, hg⟩ : ∃ g, wr.heap.size = g := ⟨_, rfl⟩
      generalize (wr.alloc (.cells (vc3 q) 25)) = w8 at Y8 B8 ⊢
      rw [hg] at Y8 ⊢
      clear hg
      obtain ⟨r1, hr1⟩ : ∃ r, anyL q.a q.b q.c ByteArray.empty C = r := ⟨_, rfl⟩
      obtain ⟨r2, hr2⟩ : ∃ r, anyL q.a q.b q.c ByteArray.empty D = r := ⟨_, rfl⟩
      have CA := fun (d : Nat) (os : Array Obj) => Calls.regrown_of (CH.out q QOK.out (Go.Sort.grow (redrawn w8 d) os) (bt (bt B3.out B8.out) (below_regrown w8 d os)))
      have CB := fun (d : Nat) (os : Array Obj) => Calls.regrown_of (DH.out q QOK.out (Go.Sort.grow (redrawn w8 d) os) (bt (bt B3.out B8.out) (below_regrown w8 d os)))
      rw [hr1] at CA
      rw [hr2] at CB
      have HCA := hid CA
      have HCB := hid CB
      have HCS := hid (fun x y (d : Nat) (os : Array Obj) => Calls.regrown_of (same_any x y (Go.Sort.grow (redrawn w8 d) os)))
      have k0 : ∀ d os, (Go.Sort.grow (redrawn w8 d) os).cell? ⟨g, 0, none⟩ = some (.int .u64 q.a) := fun d os => (blk_gr Y8.out d os).cell 0
      have k1 : ∀ d os, (Go.Sort.grow (redrawn w8 d) os).cell? ⟨g, 1, none⟩ = some (.int .u64 q.b) := fun d os => (blk_gr Y8.out d os).cell 1
      have k2 : ∀ d os, (Go.Sort.grow (redrawn w8 d) os).cell? ⟨g, 2, none⟩ = some (.int .u64 q.c) := fun d os => (blk_gr Y8.out d os).cell 2
      have k3 : ∀ d os, (Go.Sort.grow (redrawn w8 d) os).cell? ⟨g, 3, none⟩ = some (.string ByteArray.empty) := fun d os => (blk_gr Y8.out d os).cell 3
      have k4 : ∀ d os, (Go.Sort.grow (redrawn w8 d) os).cell? ⟨g, 4, none⟩ = some (.string ByteArray.empty) := fun d os => (blk_gr Y8.out d os).cell 4
      have HR := hid (show anyL q.a q.b q.c ByteArray.empty C = r1 ∧ anyL q.a q.b q.c ByteArray.empty D = r2 from ⟨hr1, hr2⟩)
      clear CA CB hr1 hr2
      refine wp_region_quiet_below (by kernel_rfl) (by kernel_rfl) ?_
      repeat (go_big_quiet_step ((first | (go_at_call_of 11 (Value.slice (some ca) N cp); exact HCA.out _ _) | (go_at_call_of 11 (Value.slice (some da) M dp); exact HCB.out _ _) | (go_at_call 15; exact HCS.out _ _ _ _) | fail)))
      refine wpQuiet_nil ?_
      intro _ hw'
      obtain ⟨⟨dq, osq⟩, hw''⟩ := hw'
      subst hw''
      have B9 := hid (bt B8.out (below_regrown w8 dq osq))
      generalize (Go.Sort.grow (redrawn w8 dq) osq) = w9 at B9 ⊢
      obtain ⟨e, he⟩ : ∃ e, (r1 == r2) = e := ⟨_, rfl⟩
      have HE := hid he
      rw [he]
      clear he
      cases e with
      | true =>
        go_wp2_with fail
        go_roundw
        case rel =>
          refine ⟨j + 1, by omega, by go_num, (fun r s hr hs => ?_ : ∀ r q, r < j + 1 → P[r]? = some q → anyL q.a q.b q.c ByteArray.empty C = anyL q.a q.b q.c ByteArray.empty D), B9.out⟩
          rcases Nat.lt_or_ge r j with h | h
          · exact A0.out r s h hs
          · obtain rfl : r = j := by omega
            obtain rfl := Option.some.inj (HJ.out.symm.trans hs)
            rw [HR.out.1, HR.out.2]
            exact beq_iff_eq.1 HE.out
        case measure => simp [intOf]; omega
      | false =>
        go_wp2_with fail
        go_ret
        exact ⟨⟨_, rfl, fun h => by cases h⟩, bt B3.out B9.out⟩
    · have hjn : j = n := by omega
      go_wp2_with fail
      go_ret
      refine ⟨⟨_, rfl, fun _ q hq => ?_⟩, bt B3.out B0.out⟩
      obtain ⟨i, hi⟩ := List.getElem?_of_mem hq
      exact A0.out i q (by have := (List.getElem?_eq_some_iff.1 hi).1; rw [HNP.out] at this; omega) hi
end Go.Proofs.YtkohcmgckkenpaaDoor

set_option linter.unusedVariables false
set_option linter.unusedSimpArgs false
namespace Go.Proofs.YtkohcmgckkenpaaDoor
open Go.RowKit

/-- A call of a function of the program's, as one step of a region that draws, under a guard. -/
theorem step_call_w {P : Program} {ops : Array Oper} {o : Oper} {a : Act} {w : World} {K : Act → World → Prop} {Q : Exit → Act → World → Prop} {E : Prop}
    (hw : Region.wanted o (yielded ops a.tmps) = true) (f : FuncId) (args : Array Operand) (tys : Array TypeId) (vals : Array Value) (hop : o.op = .call { callee := .value (.func f), args := args, argTypes := tys })
    (hen : ∀ args w, (callFunc f args).run P w = .ok (.enter f args) w) (hv : args.map a.eval = vals) (R : Ending → World → Prop) (hc : Calls P f vals w R) (hR : ∀ e w', R e w' → ∃ v, e = .returned v ∧ K (a.put o.dst v) w') :
    if Region.wanted o (yielded ops a.tmps) = true then Oper.wp P o a w K Q else E := by
  rw [if_pos hw]
  unfold Oper.wp
  simp [execOp, hop, resolve, invoke, hen, hv, Result.andThen, Act.eval, Deferred.ofValue, Oper.upon]
  refine hc.mono fun e w' h => ?_
  obtain ⟨v, rfl, hk⟩ := hR e w' h
  exact hk

theorem siGood2 (co : Option Addr) (C : List (List Tm)) (cp : Nat) (dO : Option Addr) (D : List (List Tm)) (dp : Nat) (W : World) (hC : LL W co C) (hD : LL W dO D) (fC : FitC C) (fD : FitC D) (n cq : Nat) (hn : n = W.heap.size) :
    Calls Tryd.prog 13 #[.slice (some ⟨n, 0, none⟩) 2 cq] (W.alloc (.cells #[.slice co C.length cp, .slice dO D.length dp] 22)) fun e w' => Says e (GoodC C ∧ GoodC D) ∧ Below W.heap.size W w' := by
  subst hn
  have hb : Below W.heap.size W (W.alloc (.cells #[.slice co C.length cp, .slice dO D.length dp] 22)) := by go_grown
  have hB := Blk.new W 22 #[.slice co C.length cp, .slice dO D.length dp]
  refine (siGood_any W.heap.size cq [(co, C, cp), (dO, D, dp)] _ (by simp) (fun j x hj => ?_) (fun x hx => ?_)).mono ?_
  · rw [hB.cell j]
    rcases j with _ | _ | j
    · obtain rfl : (co, C, cp) = x := by simpa using hj
      rfl
    · obtain rfl : (dO, D, dp) = x := by simpa using hj
      rfl
    · simp at hj
  · rcases List.mem_cons.1 hx with rfl | hx
    · exact ⟨hC.below hb, fC⟩
    · obtain rfl := List.mem_singleton.1 hx
      exact ⟨hD.below hb, fD⟩
  · rintro e w' ⟨⟨b, rfl, h⟩, hb2⟩
    exact ⟨⟨b, rfl, fun hb => ⟨h hb _ (List.mem_cons_self ..), h hb _ (List.mem_cons_of_mem _ (List.mem_cons_self ..))⟩⟩, bt hb hb2⟩

/-- A term out of an argument. -/
def TmIn (t : Tm) : Prop := t.p.size ≤ maxLen ∧ (low t).ok
theorem goodC_okt {C : List (List Tm)} (g : GoodC C) (f : FitC C) (z : ∀ l ∈ C, ∀ t ∈ l, TmIn t) : ∀ l ∈ C, ∀ t ∈ l, Okt t ∧ (low t).ok := fun l hl t ht => by
  have ho := (z l hl t ht).2
  exact ⟨(goodL_okt (g.2.2 l hl) (fun t ht => ⟨(f.2 l hl).2 t ht, (z l hl t ht).2.1.1, (z l hl t ht).2.2.1.1⟩)).2.2 t ht, ho⟩
theorem agree_of {C D : List (List Tm)} (gC : GoodC C) (gD : GoodC D) (zC : ∀ l ∈ C, ∀ t ∈ l, TmIn t) (zD : ∀ l ∈ D, ∀ t ∈ l, TmIn t) (hs : ∀ q ∈ pts (C ++ D), anyL q.a q.b q.c ByteArray.empty C = anyL q.a q.b q.c ByteArray.empty D) {v : V3} (hv : v.ok) :
    anyL v.a v.b v.c ByteArray.empty C = anyL v.a v.b v.c ByteArray.empty D := by
  have hg : ∀ l ∈ C ++ D, ∀ t ∈ l, goodT t.o t.k t.a t.b t.c t.p = true ∧ (low t).ok := fun l hl t ht => by
    rcases List.mem_append.1 hl with hl | hl
    · exact ⟨(gC.2.2 l hl).2.2 t ht, (zC l hl t ht).2⟩
    · exact ⟨(gD.2.2 l hl).2.2 t ht, (zD l hl t ht).2⟩
  exact agree_law hg (pts_zero _) (pts_ok (fun l hl t ht => (hg l hl t ht).2)) pts_in hs hv

set_option maxHeartbeats 6400000 in
set_option maxRecDepth 100000 in
theorem agree_core (co : Option Addr) (C : List (List Tm)) (cp : Nat) (dO : Option Addr) (D : List (List Tm)) (dp : Nat) (a b c : Int) (p m : ByteArray) (w : World) (hC : LL w co C) (hD : LL w dO D) (zC : ∀ l ∈ C, ∀ t ∈ l, TmIn t) (zD : ∀ l ∈ D, ∀ t ∈ l, TmIn t) (hp : p.size ≤ maxLen) (hm : m.size ≤ maxLen) (ho : (V3.mk a b c).ok) (hv : Vars w) :
    Calls Tryd.prog 4 #[.slice co C.length cp, .slice dO D.length dp, .agg (scells a b c p m)] w fun e w' => e = .returned (.bool true) ∧ Below w.heap.size w w' := by
  have F11 := hid (fun W (h : Below w.heap.size w W) => fits11_any co C cp W (fun l hl t ht => (zC l hl t ht).1) (hC.below h))
  have F12 := hid (fun W (h : Below w.heap.size w W) => fits11_any dO D dp W (fun l hl t ht => (zD l hl t ht).1) (hD.below h))
  have SG := hid (fun W (h : Below w.heap.size w W) fC fD n cq hn => siGood2 co C cp dO D dp W (hC.below h) (hD.below h) fC fD n cq hn)
  have SE := hid (fun W (h : Below w.heap.size w W) (gC : GoodC C) (gD : GoodC D) fC fD => siEach_any co C cp dO D dp W (hC.below h) (hD.below h) gC gD (goodC_okt gC fC zC) (goodC_okt gD fD zD) (hv.below h))
  have CH := hid (fun W (h : Below w.heap.size w W) (gC : GoodC C) (fC : FitC C) => termsHold_any co C cp a b c ByteArray.empty ByteArray.empty W gC.1 (by have := gC.2.1; omega) (hC.below h) (fun l hl => ⟨(gC.2.2 l hl).1, by have := (gC.2.2 l hl).2.1; omega, fun t ht => (goodC_okt gC fC zC l hl t ht).1⟩) (by decide) ho.1.1 ho.2.1.1 (hv.below h))
  have DH := hid (fun W (h : Below w.heap.size w W) (gC : GoodC D) (fC : FitC D) => termsHold_any dO D dp a b c ByteArray.empty ByteArray.empty W gC.1 (by have := gC.2.1; omega) (hD.below h) (fun l hl => ⟨(gC.2.2 l hl).1, by have := (gC.2.2 l hl).2.1; omega, fun t ht => (goodC_okt gC fC zD l hl t ht).1⟩) (by decide) ho.1.1 ho.2.1.1 (hv.below h))
  have HA := hid (fun g W (hl : LL W (some ⟨g, 0, none⟩) [[tAll]]) (h : Below w.heap.size w W) => termsHold_any (some ⟨g, 0, none⟩) [[tAll]] 1 a b c ByteArray.empty ByteArray.empty W (by decide) (by decide) hl okt_all (by decide) ho.1.1 ho.2.1.1 (hv.below h))
  have HAT := hid (all_true ho)
  simp only at HAT
  rw [HAT.out] at HA
  have AG := hid (fun gC gD hs => agree_of gC gD zC zD hs ho)
  simp only at AG
  have HPM := hid (show p.size ≤ maxLen ∧ m.size ≤ maxLen from ⟨hp, hm⟩)
  obtain ⟨N, hN⟩ : ∃ N, C.length = N := ⟨_, rfl⟩
  obtain ⟨M, hM⟩ : ∃ M, D.length = M := ⟨_, rfl⟩
  have HN := hid hN
  have HM := hid hM
  rw [hN] at F11 SG SE CH ⊢
  rw [hM] at F12 SG SE DH ⊢
  obtain ⟨r, hr⟩ : ∃ r, anyL a b c ByteArray.empty C = r := ⟨_, rfl⟩
  obtain ⟨r2, hr2⟩ : ∃ r, anyL a b c ByteArray.empty D = r := ⟨_, rfl⟩
  rw [hr] at CH AG
  rw [hr2] at DH AG
  clear hN hM hC hD zC zD hp hm ho hv hr hr2 HAT
  have hen1 : ∀ args w, (callFunc 16 args).run Tryd.prog w = .ok (.enter 16 args) w := enters_of Tryd.func16 (by kernel_rfl) rfl
  have hen2 : ∀ args w, (callFunc 11 args).run Tryd.prog w = .ok (.enter 11 args) w := enters_of Tryd.func11 (by kernel_rfl) rfl
  go_enter Tryd.func4, Tryd.ntmps4
  go_wp2_with fail
  have V0 := hid (Blk.new w 25 (scells a b c p m))
  have B0 := hid (show Below w.heap.size w (w.alloc (.cells (scells a b c p m) 25)) by go_grown)
  generalize (w.alloc (.cells (scells a b c p m) 25)) = w0 at V0 B0 ⊢
  go_at_call_of 5 (Value.slice co N cp)
  refine (F11.out _ B0.out).mono ?_
  rintro e w1 ⟨⟨q, rfl, hs⟩, hb⟩
  have V1 := hid (V0.out.below hb)
  have B1 := hid (bt B0.out hb)
  clear hb V0 B0
  cases q with
  | false =>
    clear hs
    go_wp2_with fail
    go_ret
    exact ⟨rfl, B1.out⟩
  | true =>
  have HF := hid (show FitC C from by have h := hs rfl; rw [← HN.out] at h; exact h)
  clear hs
  go_wp2_with fail
  go_at_call 5
  refine (F12.out _ B1.out).mono ?_
  rintro e w2 ⟨⟨q, rfl, hs⟩, hb⟩
  have V2 := hid (V1.out.below hb)
  have B2 := hid (bt B1.out hb)
  clear hb V1 B1
  cases q with
  | false =>
    clear hs
    go_wp2_with fail
    go_ret
    exact ⟨rfl, B2.out⟩
  | true =>
  have HG := hid (show FitC D from by have h := hs rfl; rw [← HM.out] at h; exact h)
  clear hs
  have x0 : w2.cell? ⟨w.heap.size, 0, none⟩ = some (.int .u64 a) := V2.out.cell 0
  have x1 : w2.cell? ⟨w.heap.size, 1, none⟩ = some (.int .u64 b) := V2.out.cell 1
  have x2 : w2.cell? ⟨w.heap.size, 2, none⟩ = some (.int .u64 c) := V2.out.cell 2
  have x3 : w2.cell? ⟨w.heap.size, 3, none⟩ = some (.string p) := V2.out.cell 3
  have x4 : w2.cell? ⟨w.heap.size, 4, none⟩ = some (.string m) := V2.out.cell 4
  go_wp2_with fail
  go_at_call 6
  refine (fits14_any a b c p m _ HPM.out.1 HPM.out.2).mono ?_
  rintro e w3 ⟨rfl, hb⟩
  have V3' := hid (V2.out.below hb)
  have B3 := hid (bt B2.out hb)
  clear hb V2 B2 x0 x1 x2 x3 x4
  obtain ⟨q, hq⟩ : ∃ q, (decide (p.size ≤ 2147483647) && decide (m.size ≤ 2147483647)) = q := ⟨_, rfl⟩
  rw [hq]
  clear hq
  cases q with
  | false =>
    go_wp2_with fail
    go_ret
    exact ⟨rfl, B3.out⟩
  | true =>
  have x0 : w3.cell? ⟨w.heap.size, 0, none⟩ = some (.int .u64 a) := V3'.out.cell 0
  have x1 : w3.cell? ⟨w.heap.size, 1, none⟩ = some (.int .u64 b) := V3'.out.cell 1
  have x2 : w3.cell? ⟨w.heap.size, 2, none⟩ = some (.int .u64 c) := V3'.out.cell 2
  have x3 : w3.cell? ⟨w.heap.size, 3, none⟩ = some (.string p) := V3'.out.cell 3
  have x4 : w3.cell? ⟨w.heap.size, 4, none⟩ = some (.string m) := V3'.out.cell 4
  go_wp2_with fail
  go_at_call 12
  refine (bare_any a b c p m _).mono ?_
  rintro e w4 ⟨rfl, hb⟩
  have V4 := hid (V3'.out.below hb)
  have B4 := hid (bt B3.out hb)
  clear hb V3' B3 x0 x1 x2 x3 x4
  have t1 : w4.there w.heap.size 0 5 := there_blk V4.out 5 (Nat.le_refl 5)
  have V5 := hid (setCells_blk V4.out rfl a b c ByteArray.empty ByteArray.empty)
  have B5 := hid (setCells_below B4.out (Nat.le_refl _) a b c ByteArray.empty ByteArray.empty)
  go_wp2_with (first | (refine wpList_store_mid rfl 25 (.tmp 5) (.tmp 21) rfl w.heap.size 0 (scells a b c ByteArray.empty ByteArray.empty) (by rfl) (by rfl) t1 (by kernel_rfl) (by simp [Value.oneCell']) ?_; generalize w4.setCells w.heap.size 0 (scells a b c ByteArray.empty ByteArray.empty).toList = w5 at *) | fail)
  go_at_call 13
  refine (SG.out _ B5.out HF.out HG.out _ _ rfl).mono ?_
  rintro e w6 ⟨⟨q, rfl, hs⟩, hb⟩
  have V6 := hid (V5.out.below hb)
  have B6 := hid (bt B5.out hb)
  clear hb V5 B5 t1
  cases q with
  | false =>
    clear hs
    go_wp2_with fail
    go_ret
    exact ⟨rfl, B6.out⟩
  | true =>
  have GG := hid (hs rfl)
  clear hs
  go_wp2_with fail
  go_at_call 14
  refine (SE.out _ B6.out GG.out.1 GG.out.2 HF.out HG.out).mono ?_
  rintro e w7 ⟨⟨q, rfl, hs⟩, hb⟩
  have V7 := hid (V6.out.below hb)
  have B7 := hid (bt B6.out hb)
  clear hb V6 B6
  have x0 : w7.cell? ⟨w.heap.size, 0, none⟩ = some (.int .u64 a) := V7.out.cell 0
  have x1 : w7.cell? ⟨w.heap.size, 1, none⟩ = some (.int .u64 b) := V7.out.cell 1
  have x2 : w7.cell? ⟨w.heap.size, 2, none⟩ = some (.int .u64 c) := V7.out.cell 2
  have x3 : w7.cell? ⟨w.heap.size, 3, none⟩ = some (.string ByteArray.empty) := V7.out.cell 3
  have x4 : w7.cell? ⟨w.heap.size, 4, none⟩ = some (.string ByteArray.empty) := V7.out.cell 4
  cases q with
  | false =>
    clear hs
    go_wp2_with fail
    go_region_law (first
      | (refine step_call rfl 16 _ _ #[] rfl hen1 (by simp) _ (siAll_any _) ?_
         rintro e w8 ⟨g, rfl, hl, hb8⟩
         refine ⟨_, rfl, ?_⟩
         have L8 := hid hl
         have B8 := hid (bt B7.out (bt (show Below w7.heap.size w7 w7.drew by go_grown) hb8))
         have V8 := hid (V7.out.below (bt (show Below w7.heap.size w7 w7.drew by go_grown) hb8))
         have z0 : w8.cell? ⟨w.heap.size, 0, none⟩ = some (.int .u64 a) := V8.out.cell 0
         have z1 : w8.cell? ⟨w.heap.size, 1, none⟩ = some (.int .u64 b) := V8.out.cell 1
         have z2 : w8.cell? ⟨w.heap.size, 2, none⟩ = some (.int .u64 c) := V8.out.cell 2
         have z3 : w8.cell? ⟨w.heap.size, 3, none⟩ = some (.string ByteArray.empty) := V8.out.cell 3
         have z4 : w8.cell? ⟨w.heap.size, 4, none⟩ = some (.string ByteArray.empty) := V8.out.cell 4
         clear hl hb8)
      | (refine step_call rfl 11 _ _ #[.slice (some ⟨g, 0, none⟩) 1 1, .agg (scells a b c ByteArray.empty ByteArray.empty), .bool false] rfl hen2 (by simp [Act.eval, Act.put]) _ (HA.out g _ L8.out B8.out) ?_
         rintro e w9 ⟨rfl, hb9⟩
         refine ⟨_, rfl, ?_⟩
         have B9 := hid (bt B8.out hb9)
         clear hb9))
    all_goals
      go_simp
      go_wp2_with fail
      go_ret
      exact ⟨rfl, B9.out⟩
  | true =>
  have HE := AG.out GG.out.1 GG.out.2 (hs rfl)
  obtain rfl : r = r2 := HE
  have CC := hid (fun W h => CH.out W h GG.out.1 HF.out)
  have DD := hid (fun W h => DH.out W h GG.out.2 HG.out)
  clear hs CH DH F11 F12 SG SE AG HF HG GG
  cases r
  all_goals
    go_wp2_with fail
    go_region_law (first
      | (refine step_call rfl 11 _ _ #[.slice co N cp, .agg (scells a b c ByteArray.empty ByteArray.empty), .bool false] rfl hen2 (by simp [Act.eval, Act.put]) _ (CC.out _ (bt B7.out (show Below w7.heap.size w7 w7.drew by go_grown))) ?_
         rintro e w8 ⟨rfl, hb8⟩
         refine ⟨_, rfl, ?_⟩
         have B8 := hid (bt B7.out (bt (show Below w7.heap.size w7 w7.drew by go_grown) hb8))
         have V8 := hid (V7.out.below (bt (show Below w7.heap.size w7 w7.drew by go_grown) hb8))
         have z0 : w8.cell? ⟨w.heap.size, 0, none⟩ = some (.int .u64 a) := V8.out.cell 0
         have z1 : w8.cell? ⟨w.heap.size, 1, none⟩ = some (.int .u64 b) := V8.out.cell 1
         have z2 : w8.cell? ⟨w.heap.size, 2, none⟩ = some (.int .u64 c) := V8.out.cell 2
         have z3 : w8.cell? ⟨w.heap.size, 3, none⟩ = some (.string ByteArray.empty) := V8.out.cell 3
         have z4 : w8.cell? ⟨w.heap.size, 4, none⟩ = some (.string ByteArray.empty) := V8.out.cell 4
         clear hb8)
      | (refine step_call rfl 11 _ _ #[.slice dO M dp, .agg (scells a b c ByteArray.empty ByteArray.empty), .bool false] rfl hen2 (by simp [Act.eval, Act.put]) _ (DD.out _ B8.out) ?_
         rintro e w9 ⟨rfl, hb9⟩
         refine ⟨_, rfl, ?_⟩
         have B9 := hid (bt B8.out hb9)
         have V9 := hid (V8.out.below hb9)
         have y0 : w9.cell? ⟨w.heap.size, 0, none⟩ = some (.int .u64 a) := V9.out.cell 0
         have y1 : w9.cell? ⟨w.heap.size, 1, none⟩ = some (.int .u64 b) := V9.out.cell 1
         have y2 : w9.cell? ⟨w.heap.size, 2, none⟩ = some (.int .u64 c) := V9.out.cell 2
         have y3 : w9.cell? ⟨w.heap.size, 3, none⟩ = some (.string ByteArray.empty) := V9.out.cell 3
         have y4 : w9.cell? ⟨w.heap.size, 4, none⟩ = some (.string ByteArray.empty) := V9.out.cell 4
         clear hb9)
      | (refine step_call_w (by simp [Region.wanted, yielded, Act.put]) 16 _ _ #[] rfl hen1 (by simp) _ (siAll_any _) ?_
         rintro e w10 ⟨g, rfl, hl, hb10⟩
         refine ⟨_, rfl, ?_⟩
         have L10 := hid hl
         have B10 := hid (bt B9.out hb10)
         have V10 := hid (V9.out.below hb10)
         have u0 : w10.cell? ⟨w.heap.size, 0, none⟩ = some (.int .u64 a) := V10.out.cell 0
         have u1 : w10.cell? ⟨w.heap.size, 1, none⟩ = some (.int .u64 b) := V10.out.cell 1
         have u2 : w10.cell? ⟨w.heap.size, 2, none⟩ = some (.int .u64 c) := V10.out.cell 2
         have u3 : w10.cell? ⟨w.heap.size, 3, none⟩ = some (.string ByteArray.empty) := V10.out.cell 3
         have u4 : w10.cell? ⟨w.heap.size, 4, none⟩ = some (.string ByteArray.empty) := V10.out.cell 4
         clear hl hb10)
      | (refine step_call_w (by simp [Region.wanted, yielded, Act.put]) 11 _ _ #[.slice (some ⟨g, 0, none⟩) 1 1, .agg (scells a b c ByteArray.empty ByteArray.empty), .bool false] rfl hen2 (by simp [Act.eval, Act.put]) _ (HA.out g _ L10.out B10.out) ?_
         rintro e w11 ⟨rfl, hb11⟩
         refine ⟨_, rfl, ?_⟩
         have B11 := hid (bt B10.out hb11)
         clear hb11))
    all_goals
      go_simp
      go_wp2_with fail
      go_ret
      exact ⟨rfl, B11.out⟩
end Go.Proofs.YtkohcmgckkenpaaDoor

set_option linter.unusedVariables false
set_option linter.unusedSimpArgs false
namespace Go.Proofs.YtkohcmgckkenpaaDoor
open Go.RowKit

section
open Go.ChangeShapes Go.WideShapes Go.ChangeAt Go.Deep
variable {H : Type} {enc : TypeId × Value → H} {P : Program} {w : World} {base : Nat} {spare : Nat → Bool} {held : Bool}
/-- A struct whose fields are one cell each, out of its cells. -/
theorem open_cellsn {t : TypeId} {fs : Array Field} {fuel : Nat} {cs : List Value} {x : DataW H × List MemPlace} (hs : P.underlying t = some (.struct fs)) (hone : oneCellFields P fs = true) (hC : P.cellsOf t = fs.size)
    (h : DataW.trod enc P w base spare held fuel t cs = some x) : cs.length = fs.size ∧ ∃ n, ∀ (j : Nat) (f : Field), fs[j]? = some f → ∃ (c : Value) (y : DataW H × List MemPlace), cs[j]? = some c ∧ DataW.trod enc P w base spare held n f.type [c] = some y := by
  obtain ⟨xs, n, _, hx, hl, hxl, hg⟩ := DataW.trod_struct hs h
  refine ⟨by rw [hl, hC], n, fun j f hj => ?_⟩
  have hjl : j < fs.size := (Array.getElem?_eq_some_iff.1 hj).1
  obtain ⟨ho, hk⟩ := hone_of hone j f hj
  have h1 := hg j f hj
  rw [ho, hk] at h1
  have e1 : (cs.drop j).take 1 = [cs[j]'(by omega)] := by
    rw [List.drop_eq_getElem_cons (by omega)]
    rfl
  rw [e1] at h1
  have e2 : xs[j]? = some (xs[j]'(by omega)) := List.getElem?_eq_getElem (by omega)
  exact ⟨_, _, List.getElem?_eq_getElem (by omega), h1.trans e2⟩

theorem open_term {fuel : Nat} {cs : List Value} {x : DataW H × List MemPlace} (h : DataW.trod enc Tryd.prog w base spare held fuel 30 cs = some x) : ∃ t : Tm, cs = (tm6 t).toList ∧ TmIn t := by
  obtain ⟨hl, n, hg⟩ := open_cellsn Tryd.underlying30 (by kernel_rfl) (by kernel_rfl) h
  obtain ⟨c0, y0, e0, h0⟩ := hg 0 _ rfl
  obtain ⟨c1, y1, e1, h1⟩ := hg 1 _ rfl
  obtain ⟨c2, y2, e2, h2⟩ := hg 2 _ rfl
  obtain ⟨c3, y3, e3, h3⟩ := hg 3 _ rfl
  obtain ⟨c4, y4, e4, h4⟩ := hg 4 _ rfl
  obtain ⟨c5, y5, e5, h5⟩ := hg 5 _ rfl
  obtain ⟨o, q0, _, w0⟩ := DataW.trod_int Tryd.underlying3 h0
  obtain ⟨k, q1, _, w1⟩ := DataW.trod_int Tryd.underlying3 h1
  obtain ⟨a, q2, _, w2⟩ := DataW.trod_int Tryd.underlying23 h2
  obtain ⟨b, q3, _, w3⟩ := DataW.trod_int Tryd.underlying23 h3
  obtain ⟨c, q4, _, w4⟩ := DataW.trod_int Tryd.underlying23 h4
  obtain ⟨p, q5, _, w5⟩ := DataW.trod_string Tryd.underlying9 h5
  simp only [List.cons.injEq, and_true] at q0 q1 q2 q3 q4 q5
  subst q0 q1 q2 q3 q4 q5
  refine ⟨⟨o, k, a, b, c, p⟩, ?_, w5, wf_u64 w2, wf_u64 w3, wf_u64 w4⟩
  match cs, hl with
  | [d0, d1, d2, d3, d4, d5], _ =>
    simp only [List.getElem?_cons_zero, List.getElem?_cons_succ, Option.some.injEq] at e0 e1 e2 e3 e4 e5
    subst e0 e1 e2 e3 e4 e5
    rfl

theorem open_tl {fuel : Nat} {c : Value} {x : DataW H × List MemPlace} (h : DataW.trod enc Tryd.prog w base spare held fuel 32 [c] = some x) : ∃ bo l cp, c = .slice bo l.length cp ∧ TL w bo l ∧ ∀ t ∈ l, TmIn t := by
  rcases open_slice Tryd.underlying32 h with ⟨h0, _⟩ | ⟨a, len, cap, m, n, D, Pl, h0, _, _, _, hm, _, hx⟩
  · simp only [List.cons.injEq, and_true] at h0
    exact ⟨none, [], 0, h0, fun j t hj => by simp at hj, fun t ht => by cases ht⟩
  · simp only [List.cons.injEq, and_true] at h0
    have hle : len ≤ m := by rw [hm]; split <;> first | omega | assumption | exact Nat.le_refl _
    have hC : Tryd.prog.cellsOf 30 = 6 := by kernel_rfl
    rw [hC] at hx
    have key : ∀ i, ∃ t : Tm, i < len → TmAt w (a.add (i * 6)) t ∧ TmIn t := fun i => by
      by_cases hi : i < len
      · obtain ⟨cs', h1, h2⟩ := hx i (by omega)
        obtain ⟨t, rfl, ht⟩ := open_term h2
        obtain ⟨_, hl, hc⟩ := World.cells?_some h1
        refine ⟨t, fun _ => ⟨TmAt.of fun q v hq => ?_, ht⟩⟩
        have hq6 : q < 6 := by
          have := (Array.getElem?_eq_some_iff.1 hq).1
          exact this
        rw [hc q hq6]
        simpa using hq
      · exact ⟨⟨0, 0, 0, 0, 0, ByteArray.empty⟩, fun h => absurd h hi⟩
    obtain ⟨f, hf⟩ := Classical.axiomOfChoice key
    refine ⟨some a, (List.range len).map f, cap, by rw [h0]; simp, fun j t hj => ?_, fun t ht => ?_⟩
    · rw [List.getElem?_map] at hj
      have hlt : j < len := by
        rcases Nat.lt_or_ge j len with h | h
        · exact h
        · rw [List.getElem?_eq_none (by simpa using h)] at hj
          cases hj
      rw [List.getElem?_range hlt] at hj
      obtain rfl : f j = t := by simpa using hj
      exact ⟨a, rfl, (hf j hlt).1⟩
    · obtain ⟨j, hj, rfl⟩ := List.mem_map.1 ht
      exact (hf j (List.mem_range.1 hj)).2

set_option maxRecDepth 100000 in
theorem open_ll {r : Reach} {b0 : Nat} {v : Value} {d : DataW H} {p : List MemPlace} (hv : Value.okWide Tryd.prog w r b0 22 v) (h : DataW.Trod enc Tryd.prog w base spare held 22 v d p) :
    ∃ ao L cp, v = .slice ao L.length cp ∧ LL w ao L ∧ ∀ l ∈ L, ∀ t ∈ l, TmIn t := by
  obtain ⟨fuel, hf⟩ := h
  unfold Value.okWide at hv
  simp only [Tryd.underlying22] at hv
  unfold Cell.okWide at hv
  cases v <;> simp [Cell.ok, Tryd.underlying22] at hv
  rename_i so sl sc
  rcases open_slice1 (cs := [.slice so sl sc]) Tryd.underlying22 (by kernel_rfl) hf with ⟨h0, _⟩ | ⟨a, len, cap, m, n, V, D, Pl, h0, _, _, _, hm, _, hx⟩
  · simp only [List.cons.injEq, and_true] at h0
    exact ⟨none, [], 0, h0, fun j t hj => by simp at hj, fun t ht => by cases ht⟩
  · simp only [List.cons.injEq, and_true] at h0
    have hle : len ≤ m := by rw [hm]; split <;> first | omega | assumption | exact Nat.le_refl _
    have key : ∀ i, ∃ y : List Tm, i < len → (∃ bo cp, w.cell? (a.add i) = some (.slice bo y.length cp) ∧ TL w bo y) ∧ ∀ t ∈ y, TmIn t := fun i => by
      by_cases hi : i < len
      · obtain ⟨h1, h2⟩ := hx i (by omega)
        obtain ⟨bo, l, cp, e, hT, hk⟩ := open_tl h2
        exact ⟨l, fun _ => ⟨⟨bo, cp, by rw [h1, e], hT⟩, hk⟩⟩
      · exact ⟨[], fun h => absurd h hi⟩
    obtain ⟨f, hf⟩ := Classical.axiomOfChoice key
    refine ⟨some a, (List.range len).map f, cap, by rw [h0]; simp, fun j l hj => ?_, fun l hl => ?_⟩
    · rw [List.getElem?_map] at hj
      have hlt : j < len := by
        rcases Nat.lt_or_ge j len with h | h
        · exact h
        · rw [List.getElem?_eq_none (by simpa using h)] at hj
          cases hj
      rw [List.getElem?_range hlt] at hj
      obtain rfl : f j = l := by simpa using hj
      obtain ⟨⟨bo, cp, h1, h2⟩, _⟩ := hf j hlt
      exact ⟨a, bo, cp, rfl, h1, h2⟩
    · obtain ⟨j, hj, rfl⟩ := List.mem_map.1 hl
      exact (hf j (List.mem_range.1 hj)).2
end

theorem vars_agree {W : World} (h : laidMetH Tryd.prog Rows.fnSemverAgreeRow.laid W) : Vars W := by
  obtain ⟨⟨ps, h', _⟩, _⟩ := laidMetH_iff.1 h
  refine ⟨?_, ?_⟩
  · exact laid_cell (n := "strconv.ErrSyntax") (ti := 70) (by kernel_rfl) (by kernel_rfl) Tryd.underlying70 h' (List.mem_filter.2 ⟨.tail _ (.tail _ (.tail _ (.tail _ (.head _)))), rfl⟩)
  · exact laid_cell (n := "strconv.ErrRange") (ti := 70) (by kernel_rfl) (by kernel_rfl) Tryd.underlying70 h' (List.mem_filter.2 ⟨.tail _ (.tail _ (.tail _ (.head _))), rfl⟩)

theorem fnSemverAgree_walk (co : Option Addr) (C : List (List Tm)) (cp : Nat) (dO : Option Addr) (D : List (List Tm)) (dp : Nat) (a b c : Int) (p m : ByteArray) (w : World) (hC : LL w co C ∧ ∀ l ∈ C, ∀ t ∈ l, TmIn t) (hD : LL w dO D ∧ ∀ l ∈ D, ∀ t ∈ l, TmIn t) (ha : (Lit.int .u64 a).wf = true) (hb : (Lit.int .u64 b).wf = true) (hc : (Lit.int .u64 c).wf = true) (hp : p.size ≤ maxLen) (hm : m.size ≤ maxLen) (hv : Vars w) :
    Calls Tryd.prog 4 #[.slice co C.length cp, .slice dO D.length dp, .agg #[.int .u64 a, .int .u64 b, .int .u64 c, .string p, .string m]] w fun e w' => e = .returned (.bool true) ∧ Below w.heap.size w w' :=
  agree_core co C cp dO D dp a b c p m w hC.1 hD.1 hC.2 hD.2 hp hm ⟨wf_u64 ha, wf_u64 hb, wf_u64 hc⟩ hv
end Go.Proofs.YtkohcmgckkenpaaDoor
