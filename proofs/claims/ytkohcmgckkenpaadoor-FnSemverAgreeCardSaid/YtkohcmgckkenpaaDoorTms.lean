/- The law FnSemverTermLetIn, walked. The law FnSemverTermLetIn: the plain law, and the ways joined. Lists of terms in memory; spec.HasPre, zzFits12, zzFits11, walked. -/
import Derived.Test.YtkohcmgckkenpaaDoorGoodT
set_option linter.unusedVariables false
set_option linter.unusedSimpArgs false
namespace Go.Proofs.YtkohcmgckkenpaaDoor
open Go.RowKit

end Go.Proofs.YtkohcmgckkenpaaDoor

set_option linter.unusedVariables false
set_option linter.unusedSimpArgs false
namespace Go.Proofs.YtkohcmgckkenpaaDoor
open Go.RowKit

theorem goodT_parts {o k a b c : Int} {p : ByteArray} (h : goodT o k a b c p = true) : (0 ≤ o ∧ o < 8) ∧ (0 ≤ k ∧ k ≤ 3) ∧ (k < 3 → c = 0 ∧ p.toList.isEmpty = true) ∧ (k < 2 → b = 0) ∧ (k < 1 → a = 0) ∧ preOk p = true ∧ gt1 o k a b c = false := by
  unfold goodT at h
  cases h1 : gt1 o k a b c
  · rw [h1] at h
    cases h2 : gt2 o k
    · rw [h2] at h
      cases h3 : gt3 k a b c p.toList.isEmpty
      · rw [h3] at h
        simp only [Bool.false_eq_true, if_false] at h
        simp only [gt2, Bool.or_eq_false_iff, decide_eq_false_iff_not] at h2
        simp only [gt3, Bool.or_eq_false_iff, Bool.and_eq_false_iff, decide_eq_false_iff_not, Bool.not_eq_false', beq_iff_eq] at h3
        obtain ⟨⟨⟨h21, h22⟩, h23⟩, h24⟩ := h2
        obtain ⟨⟨h31, h32⟩, h33⟩ := h3
        refine ⟨⟨by omega, by omega⟩, ⟨by omega, by omega⟩, fun hk => ?_, fun hk => ?_, fun hk => ?_, h, rfl⟩
        · rcases h31 with h31 | h31
          · exact absurd hk h31
          · exact ⟨h31.1, h31.2⟩
        · rcases h32 with h32 | h32
          · exact absurd hk h32
          · exact h32
        · rcases h33 with h33 | h33
          · exact absurd hk h33
          · exact h33
      · rw [h3] at h; simp at h
    · rw [h2] at h; simp at h
  · rw [h1] at h; simp at h
theorem opR_barred (o : Nat) (ho : o < 8) (n np a b c a' b' c' : Int) (k : Nat) (pe : Bool) : opR o true n np a b c a' b' c' k pe = false := by
  obtain rfl | rfl | rfl | rfl | rfl | rfl | rfl | rfl : o = 0 ∨ o = 1 ∨ o = 2 ∨ o = 3 ∨ o = 4 ∨ o = 5 ∨ o = 6 ∨ o = 7 := by omega
  all_goals simp [opR, opEq, opNot, opAbove, opBelow, opLeast, opMost, opTilde, opCaret]
theorem firstL_self (x : List (List UInt8)) (n : Nat) : firstL x x n = 0 := by
  induction n with
  | zero => rfl
  | succ n ih => simp [firstL, ih, cpp_self]
theorem preCmp_self (p : List UInt8) : preCmp p p = 0 := by
  unfold preCmp
  by_cases h : p = []
  · simp [h]
  · rw [if_neg h, if_neg h]; unfold preC; exact firstL_self _ _
theorem own_least (a b c : Int) (p : ByteArray) : opV 4 a b c p a b c p 3 true = true := by
  unfold opV opR opLeast
  have e : preBar p true = false := by simp [preBar]
  rw [e, num3_self]
  simp [cmpV, preCmp_self]
theorem letin_full (o : Nat) (ho : o < 8) (a b c : Int) (p : ByteArray) (a' b' c' : Int) (p' : ByteArray) (k : Nat) (h : p.toList.isEmpty = false) : opV o a b c p a' b' c' p' k false = false := by
  unfold opV
  have e : preBar p false = true := by simp [preBar, h]
  rw [e]
  exact opR_barred o ho _ _ _ _ _ _ _ _ _ _
theorem letin_bare (o : Nat) (a b c : Int) (p : ByteArray) (a' b' c' : Int) (p' : ByteArray) (k : Nat) (h : p.toList.isEmpty = true) : opV o a b c p a' b' c' p' k false = opV o a b c p a' b' c' p' k true := by
  unfold opV
  have e : preBar p false = false := by simp [preBar, h]
  have e2 : preBar p true = false := by simp [preBar]
  rw [e, e2]

end Go.Proofs.YtkohcmgckkenpaaDoor

set_option linter.unusedVariables false
set_option linter.unusedSimpArgs false
namespace Go.Proofs.YtkohcmgckkenpaaDoor
open Go.RowKit

/-- A term. -/
structure Tm where
  o : Int
  k : Int
  a : Int
  b : Int
  c : Int
  p : ByteArray
abbrev tm6 (t : Tm) : Array Value := #[.int .i64 t.o, .int .i64 t.k, .int .u64 t.a, .int .u64 t.b, .int .u64 t.c, .string t.p]
/-- The term t stands from address x on. -/
structure TmAt (w : World) (x : Addr) (t : Tm) : Prop where
  c0 : w.cell? x = some (.int .i64 t.o)
  c1 : w.cell? { block := x.block, off := x.off + 1 } = some (.int .i64 t.k)
  c2 : w.cell? { block := x.block, off := x.off + 2 } = some (.int .u64 t.a)
  c3 : w.cell? { block := x.block, off := x.off + 3 } = some (.int .u64 t.b)
  c4 : w.cell? { block := x.block, off := x.off + 4 } = some (.int .u64 t.c)
  c5 : w.cell? { block := x.block, off := x.off + 5 } = some (.string t.p)
theorem TmAt.of {w : World} {x : Addr} {t : Tm} (h : ∀ i v, (tm6 t)[i]? = some v → w.cell? (x.add i) = some v) : TmAt w x t := by
  refine ⟨?_, ?_, ?_, ?_, ?_, ?_⟩
  · have := h 0 _ rfl; rwa [Addr.add_zero'] at this
  · have := h 1 _ rfl; simpa [Addr.add] using this
  · have := h 2 _ rfl; simpa [Addr.add] using this
  · have := h 3 _ rfl; simpa [Addr.add] using this
  · have := h 4 _ rfl; simpa [Addr.add] using this
  · have := h 5 _ rfl; simpa [Addr.add] using this
theorem TmAt.below {w w' : World} {x : Addr} {t : Tm} (h : TmAt w x t) (hb : Below w.heap.size w w') : TmAt w' x t :=
  ⟨(hb.cell (World.block_lt_of_cell? w _ h.c0)).trans h.c0, (hb.cell (World.block_lt_of_cell? w _ h.c1)).trans h.c1, (hb.cell (World.block_lt_of_cell? w _ h.c2)).trans h.c2, (hb.cell (World.block_lt_of_cell? w _ h.c3)).trans h.c3, (hb.cell (World.block_lt_of_cell? w _ h.c4)).trans h.c4, (hb.cell (World.block_lt_of_cell? w _ h.c5)).trans h.c5⟩
/-- A list of terms in memory. -/
def TL (w : World) (bo : Option Addr) (l : List Tm) : Prop := ∀ j t, l[j]? = some t → ∃ b, bo = some b ∧ TmAt w (b.add (j * 6)) t
theorem TL.below {w w' : World} {bo : Option Addr} {l : List Tm} (h : TL w bo l) (hb : Below w.heap.size w w') : TL w' bo l := fun j t hj => by
  obtain ⟨b, e, h⟩ := h j t hj
  exact ⟨b, e, h.below hb⟩
/-- Lists of terms in memory. -/
def LL (w : World) (ao : Option Addr) (L : List (List Tm)) : Prop := ∀ i l, L[i]? = some l → ∃ a bo cp, ao = some a ∧ w.cell? (a.add i) = some (.slice bo l.length cp) ∧ TL w bo l
theorem LL.below {w w' : World} {ao : Option Addr} {L : List (List Tm)} (h : LL w ao L) (hb : Below w.heap.size w w') : LL w' ao L := fun i l hi => by
  obtain ⟨a, bo, cp, e, h1, h2⟩ := h i l hi
  exact ⟨a, bo, cp, e, (hb.cell (World.block_lt_of_cell? w _ h1)).trans h1, h2.below hb⟩
/-- A Bool, true only where p. -/
def Says (e : Ending) (p : Prop) : Prop := ∃ b : Bool, e = .returned (.bool b) ∧ (b = true → p)

def hasP (l : List Tm) : Bool := l.any (fun t => !t.p.toList.isEmpty)
theorem hasP_take {l : List Tm} {j : Nat} {t : Tm} (h : l[j]? = some t) (h0 : hasP (l.take j) = false) : hasP (l.take (j + 1)) = !t.p.toList.isEmpty := by
  unfold hasP at h0 ⊢
  rw [List.take_add_one, h, List.any_append, h0]
  simp
theorem hasP_at {l : List Tm} {j : Nat} {t : Tm} (h : l[j]? = some t) (hp : t.p.toList.isEmpty = false) : hasP l = true := by
  unfold hasP
  rw [List.any_eq_true]
  exact ⟨t, List.mem_of_getElem? h, by simp [hp]⟩

theorem hasPre_any (bo : Option Addr) (l : List Tm) (cp : Nat) (w : World) (hl : l.length ≤ 2147483647) (hT : TL w bo l) : Calls Tryd.prog 10 #[.slice bo l.length cp] w fun e w' => e = .returned (.bool (hasP l)) ∧ Below w.heap.size w w' := by
  obtain ⟨n, hn⟩ : ∃ n, l.length = n := ⟨_, rfl⟩
  rw [hn] at hl ⊢
  have HT := hid hT
  have HN := hid hn
  clear hT hn
  go_enter Tryd.func10, Tryd.ntmps10
  go_wp2_with fail
  go_loopw [7] (fun i wr => ∃ k : Nat, k ≤ n ∧ i = .int .i64 k ∧ Hid (hasP (l.take k) = false) ∧ Hid (Below w.heap.size w wr)) (fun i _ => n - (intOf i).toNat)
  case atStart => exact ⟨0, Nat.zero_le _, rfl, (rfl : hasP (l.take 0) = false), Below.refl _ _⟩
  case round =>
    obtain ⟨k, hk, rfl, H0, HB⟩ := hrel
    by_cases hlt : k < n
    · obtain ⟨t, ht⟩ : ∃ t, l[k]? = some t := ⟨_, List.getElem?_eq_getElem (by rw [HN.out]; exact hlt)⟩
      obtain ⟨b, rfl, hc⟩ := (HT.out.below HB.out) k t ht
      have H1 := hid ht
      clear ht
      obtain ⟨c0, c1, c2, c3, c4, c5⟩ := hc
      have hw : IntKind.i64.wrap ((k : Int) + 1) = (k : Int) + 1 := IntWalk.i64_in _ (by omega)
      cases hp : t.p.toList.isEmpty with
      | true =>
        have e1 : (t.p.toList == []) = true := by simpa using hp
        have HP := hid hp
        clear hp
        go_wp2_with fail
        go_roundw
        case rel => exact ⟨k + 1, by omega, by go_num, by rw [hasP_take H1.out H0.out, HP.out]; rfl, bt HB.out (by go_grown)⟩
        case measure => simp [intOf]; omega
      | false =>
        have e1 : (t.p.toList == []) = false := by simpa using hp
        have HP := hid hp
        clear hp
        go_wp2_with fail
        go_ret
        exact ⟨ret_b (hasP_at H1.out HP.out).symm, bt HB.out (by go_grown)⟩
    · have hkn : k = n := by omega
      have HH : hasP l = false := by
        have := H0.out
        rwa [List.take_of_length_le (by rw [HN.out]; omega)] at this
      go_wp2_with fail
      go_ret
      exact ⟨ret_b HH.symm, HB.out⟩

theorem fits12_any (bo : Option Addr) (l : List Tm) (cp : Nat) (w : World) (hp : ∀ t ∈ l, t.p.size ≤ maxLen) (hT : TL w bo l) : Calls Tryd.prog 17 #[.slice bo l.length cp] w fun e w' => Says e (l.length ≤ 2147483647 ∧ ∀ t ∈ l, t.p.size ≤ 2147483647) ∧ Below w.heap.size w w' := by
  obtain ⟨n, hn⟩ : ∃ n, l.length = n := ⟨_, rfl⟩
  rw [hn]
  have HT := hid hT
  have HN := hid hn
  have HP := hid hp
  clear hT hn hp
  go_enter Tryd.func17, Tryd.ntmps17
  by_cases hm : n ≤ 2147483647
  · have u0 : ¬ (2147483647 : Int) < (n : Int) := by omega
    go_wp2_with fail
    go_loopw [10] (fun i wr => ∃ k : Nat, k ≤ n ∧ i = .int .i64 k ∧ Hid (∀ j t, j < k → l[j]? = some t → t.p.size ≤ 2147483647) ∧ Hid (Below w.heap.size w wr)) (fun i _ => n - (intOf i).toNat)
    case atStart => exact ⟨0, Nat.zero_le _, rfl, (fun j t hj => absurd hj (Nat.not_lt_zero _) : ∀ j t, j < 0 → l[j]? = some t → t.p.size ≤ 2147483647), Below.refl _ _⟩
    case round =>
      obtain ⟨k, hk, rfl, H0, HB⟩ := hrel
      by_cases hlt : k < n
      · obtain ⟨t, ht⟩ : ∃ t, l[k]? = some t := ⟨_, List.getElem?_eq_getElem (by rw [HN.out]; exact hlt)⟩
        obtain ⟨b, rfl, hc⟩ := (HT.out.below HB.out) k t ht
        have hpm := hid (HP.out t (List.mem_of_getElem? ht))
        have H1 := hid ht
        clear ht
        obtain ⟨c0, c1, c2, c3, c4, c5⟩ := hc
        have hw : IntKind.i64.wrap ((k : Int) + 1) = (k : Int) + 1 := IntWalk.i64_in _ (by omega)
        by_cases hs : t.p.size ≤ 2147483647
        · have es : decide (t.p.size ≤ 2147483647) = true := by simpa using hs
          have HS := hid hs
          have C := fun w => fits13_any t.o t.k t.a t.b t.c t.p w hpm.out
          rw [es] at C
          clear hs es
          go_wp2_with (go_at_call 26; refine (C _).mono ?_; rintro e w' ⟨rfl, hb⟩; have HB2 := hid (bt (bt HB.out (show Below _ _ _ by go_grown)) hb); clear hb)
          go_roundw
          case rel =>
            refine ⟨k + 1, by omega, by go_num, (fun j s hj hs => ?_ : ∀ j t, j < k + 1 → l[j]? = some t → t.p.size ≤ 2147483647), HB2.out⟩
            rcases Nat.lt_or_ge j k with h | h
            · exact H0.out j s h hs
            · obtain rfl : j = k := by omega
              obtain rfl : t = s := Option.some.inj (H1.out.symm.trans hs)
              exact HS.out
          case measure => simp [intOf]; omega
        · have es : decide (t.p.size ≤ 2147483647) = false := by simpa using hs
          have C := fun w => fits13_any t.o t.k t.a t.b t.c t.p w hpm.out
          rw [es] at C
          clear hs es
          go_wp2_with (go_at_call 26; refine (C _).mono ?_; rintro e w' ⟨rfl, hb⟩; have HB2 := hid (bt (bt HB.out (show Below _ _ _ by go_grown)) hb); clear hb)
          go_ret
          exact ⟨⟨_, rfl, fun h => by cases h⟩, HB2.out⟩
      · have hkn : k = n := by omega
        go_wp2_with fail
        go_ret
        refine ⟨⟨_, rfl, fun _ => ⟨hm, fun t ht => ?_⟩⟩, HB.out⟩
        obtain ⟨j, hj⟩ := List.getElem?_of_mem ht
        exact H0.out j t (by have := (List.getElem?_eq_some_iff.1 hj).1; rw [HN.out] at this; omega) hj
  · have u0 : (2147483647 : Int) < (n : Int) := by omega
    go_wp2_with fail
    go_ret
    exact ⟨⟨_, rfl, fun h => by cases h⟩, Below.refl _ _⟩

theorem fits11_any (ao : Option Addr) (L : List (List Tm)) (cp : Nat) (w : World) (hp : ∀ l ∈ L, ∀ t ∈ l, t.p.size ≤ maxLen) (hL : LL w ao L) : Calls Tryd.prog 5 #[.slice ao L.length cp] w fun e w' => Says e (L.length ≤ 2147483647 ∧ ∀ l ∈ L, l.length ≤ 2147483647 ∧ ∀ t ∈ l, t.p.size ≤ 2147483647) ∧ Below w.heap.size w w' := by
  obtain ⟨n, hn⟩ : ∃ n, L.length = n := ⟨_, rfl⟩
  rw [hn]
  have HL := hid hL
  have HN := hid hn
  have HP := hid hp
  clear hL hn hp
  go_enter Tryd.func5, Tryd.ntmps5
  by_cases hm : n ≤ 2147483647
  · have u0 : ¬ (2147483647 : Int) < (n : Int) := by omega
    go_wp2_with fail
    go_loopw [10] (fun i wr => ∃ k : Nat, k ≤ n ∧ i = .int .i64 k ∧ Hid (∀ j l, j < k → L[j]? = some l → l.length ≤ 2147483647 ∧ ∀ t ∈ l, t.p.size ≤ 2147483647) ∧ Hid (Below w.heap.size w wr)) (fun i _ => n - (intOf i).toNat)
    case atStart => exact ⟨0, Nat.zero_le _, rfl, (fun j l hj => absurd hj (Nat.not_lt_zero _) : ∀ j l, j < 0 → L[j]? = some l → l.length ≤ 2147483647 ∧ ∀ t ∈ l, t.p.size ≤ 2147483647), Below.refl _ _⟩
    case round =>
      obtain ⟨k, hk, rfl, H0, HB⟩ := hrel
      by_cases hlt : k < n
      · obtain ⟨l, hl⟩ : ∃ l, L[k]? = some l := ⟨_, List.getElem?_eq_getElem (by rw [HN.out]; exact hlt)⟩
        obtain ⟨a, bo, c1, rfl, hc, hT⟩ := (HL.out.below HB.out) k l hl
        have C := hid (fun w h => fits12_any bo l c1 w (HP.out l (List.mem_of_getElem? hl)) h)
        have HT := hid hT
        have H1 := hid hl
        clear hl hT
        have hw : IntKind.i64.wrap ((k : Int) + 1) = (k : Int) + 1 := IntWalk.i64_in _ (by omega)
        go_wp2_with fail
        go_at_call 17
        refine (C.out _ HT.out).mono ?_
        rintro e w' ⟨⟨b, rfl, hs⟩, hb⟩
        have HB2 := hid (bt HB.out hb)
        clear hb
        cases b with
        | true =>
          have HS := hid (hs rfl)
          clear hs
          go_wp2_with fail
          go_roundw
          case rel =>
            refine ⟨k + 1, by omega, by go_num, (fun j s hj hs => ?_ : ∀ j l, j < k + 1 → L[j]? = some l → l.length ≤ 2147483647 ∧ ∀ t ∈ l, t.p.size ≤ 2147483647), HB2.out⟩
            rcases Nat.lt_or_ge j k with h | h
            · exact H0.out j s h hs
            · obtain rfl : j = k := by omega
              obtain rfl : l = s := Option.some.inj (H1.out.symm.trans hs)
              exact HS.out
          case measure => simp [intOf]; omega
        | false =>
          clear hs
          go_wp2_with fail
          go_ret
          exact ⟨⟨_, rfl, fun h => by cases h⟩, HB2.out⟩
      · have hkn : k = n := by omega
        go_wp2_with fail
        go_ret
        refine ⟨⟨_, rfl, fun _ => ⟨hm, fun l hl => ?_⟩⟩, HB.out⟩
        obtain ⟨j, hj⟩ := List.getElem?_of_mem hl
        exact H0.out j l (by have := (List.getElem?_eq_some_iff.1 hj).1; rw [HN.out] at this; omega) hj
  · have u0 : (2147483647 : Int) < (n : Int) := by omega
    go_wp2_with fail
    go_ret
    exact ⟨⟨_, rfl, fun h => by cases h⟩, Below.refl _ _⟩
end Go.Proofs.YtkohcmgckkenpaaDoor
