/- The law FnSemverPartOrder: over valid identifiers (numbers of at most 19 digits) the comparison is a total order; for all texts. -/
import Derived.Test.YtmlbjcdildaldaaDoorSemE
import Derived.Deep.QuietTactic
set_option linter.unusedVariables false
set_option linter.unusedSimpArgs false
namespace Go.Proofs.YtmlbjcdildaldaaDoor
open Go.RowKit

theorem partOrder_big (a b c : ByteArray) (w : World) (ha : a.size ≤ maxLen) (hb : b.size ≤ maxLen) (hc : c.size ≤ maxLen)
    (h : 2147483647 < a.size ∨ (a.size ≤ 2147483647 ∧ 2147483647 < b.size) ∨ (a.size ≤ 2147483647 ∧ b.size ≤ 2147483647 ∧ 2147483647 < c.size)) :
    Calls Tryd.prog 3 #[.string a, .string b, .string c] w fun e w' => e = .returned (.bool true) ∧ Below w.heap.size w w' := by
  unfold maxLen at ha hb hc
  rcases h with h | ⟨h0, h⟩ | ⟨h0, h1, h⟩
  all_goals
    go_enter Tryd.func3, Tryd.ntmps3
    go_wp2_with fail
    all_goals (go_ret; exact ⟨rfl, Below.refl _ _⟩)

theorem partOrder_none (a b c : ByteArray) (w : World) (ha : a.size ≤ 2147483647) (hb : b.size ≤ 2147483647) (hc : c.size ≤ 2147483647)
    (h : identB a = false ∨ (identB a = true ∧ identB b = false) ∨ (identB a = true ∧ identB b = true ∧ identB c = false)) :
    Calls Tryd.prog 3 #[.string a, .string b, .string c] w fun e w' => e = .returned (.bool true) ∧ Below w.heap.size w w' := by
  rcases h with h | ⟨h1, h2⟩ | ⟨h1, h2, h3⟩
  · go_enter Tryd.func3, Tryd.ntmps3
    go_wp2_with (go_at_call_of 15 (Value.string a); refine (svIdent_any a _ (by omega)).mono ?_; rintro e w1 ⟨rfl, hb1⟩)
    go_ret
    exact ⟨rfl, hb1⟩
  · go_enter Tryd.func3, Tryd.ntmps3
    go_wp2_with (first | (go_at_call_of 15 (Value.string a); refine (svIdent_any a _ (by omega)).mono ?_; rintro e w1 ⟨rfl, hb1⟩) | (go_at_call_of 15 (Value.string b); refine (svIdent_any b _ (by omega)).mono ?_; rintro e w2 ⟨rfl, hb2⟩))
    go_ret
    exact ⟨rfl, hb1.trans (hb2.mono hb1.size)⟩
  · go_enter Tryd.func3, Tryd.ntmps3
    go_wp2_with (first | (go_at_call_of 15 (Value.string a); refine (svIdent_any a _ (by omega)).mono ?_; rintro e w1 ⟨rfl, hb1⟩) | (go_at_call_of 15 (Value.string b); refine (svIdent_any b _ (by omega)).mono ?_; rintro e w2 ⟨rfl, hb2⟩) | (go_at_call_of 15 (Value.string c); refine (svIdent_any c _ (by omega)).mono ?_; rintro e w3 ⟨rfl, hb3⟩))
    go_ret
    exact ⟨rfl, (hb1.trans (hb2.mono hb1.size)).trans (hb3.mono (Nat.le_trans hb1.size hb2.size))⟩

theorem implPart_is (s o : ByteArray) (r : Int) (w : World) (hs : s.size ≤ 65536) (ho : o.size ≤ 65536) (hv : Vars w) (hr : cpp s.toList o.toList = r) :
    Calls Tryd.prog 16 #[.string s, .string o] w fun e w' => e = .returned (.int .i64 r) ∧ Below w.heap.size w w' := hr ▸ implPart_any s o w hs ho hv

set_option maxHeartbeats 1000000 in
theorem partOrder_up (a b c : ByteArray) (ab bc ac : Int) (w : World) (hv : Vars w) (sa : a.size ≤ 65536) (sb : b.size ≤ 65536) (sc : c.size ≤ 65536) (ia : identB a = true) (ib : identB b = true) (ic : identB c = true)
    (rab : cpp a.toList b.toList = ab) (rbc : cpp b.toList c.toList = bc) (rac : cpp a.toList c.toList = ac) (rba : cpp b.toList a.toList = -ab) (l1 : -1 ≤ ab) (l2 : ab ≤ 1) (hn : (a.toList == b.toList) = false) (hz : (ab == 0) = false) (h0 : 0 < ab) :
    Calls Tryd.prog 3 #[.string a, .string b, .string c] w fun e w' => e = .returned (.bool true) ∧ Below w.heap.size w w' := by
  have Rab := hid rab
  have Rbc := hid rbc
  have Rac := hid rac
  have Rba := hid rba
  have HV := hid hv
  clear rab rbc rac rba hv
  go_enter Tryd.func3, Tryd.ntmps3
  go_wp2_with (first | (go_at_call_of 15 (Value.string a); refine (svIdent_any a _ (by omega)).mono ?_; rintro e w1 ⟨rfl, hb1⟩) | (go_at_call_of 15 (Value.string b); refine (svIdent_any b _ (by omega)).mono ?_; rintro e w2 ⟨rfl, hb2⟩) | (go_at_call_of 15 (Value.string c); refine (svIdent_any c _ (by omega)).mono ?_; rintro e w3 ⟨rfl, hb3⟩))
  have HV3 := hid (((HV.out.below hb1).below hb2).below hb3)
  go_at_call 16
  refine (implPart_is a b ab _ sa sb HV3.out Rab.out).mono ?_
  rintro e w4 ⟨rfl, hb4⟩
  have HV4 := hid (HV3.out.below hb4)
  go_wp2_with fail
  go_at_call 16
  refine (implPart_is b c bc _ sb sc HV4.out Rbc.out).mono ?_
  rintro e w5 ⟨rfl, hb5⟩
  have HV5 := hid (HV4.out.below hb5)
  go_wp2_with fail
  go_at_call 16
  refine (implPart_is a c ac _ sa sc HV5.out Rac.out).mono ?_
  rintro e w6 ⟨rfl, hb6⟩
  have HV6 := hid (HV5.out.below hb6)
  go_wp2_with fail
  go_at_call 16
  refine (implPart_is b a (-ab) _ sb sa HV6.out Rba.out).mono ?_
  rintro e w7 ⟨rfl, hb7⟩
  have HV7 := hid (HV6.out.below hb7)
  have hB : Below w.heap.size w w7 := by
    have h12 := hb1.trans (hb2.mono hb1.size)
    have h13 := h12.trans (hb3.mono h12.size)
    have h14 := h13.trans (hb4.mono h13.size)
    have h15 := h14.trans (hb5.mono h14.size)
    have h16 := h15.trans (hb6.mono h15.size)
    exact h16.trans (hb7.mono h16.size)
  go_wp2_with fail
  go_ret
  exact ⟨rfl, hB⟩

set_option maxHeartbeats 1000000 in
theorem partOrder_next (a b c : ByteArray) (ab bc ac : Int) (w : World) (hv : Vars w) (sa : a.size ≤ 65536) (sb : b.size ≤ 65536) (sc : c.size ≤ 65536) (ia : identB a = true) (ib : identB b = true) (ic : identB c = true)
    (rab : cpp a.toList b.toList = ab) (rbc : cpp b.toList c.toList = bc) (rac : cpp a.toList c.toList = ac) (rba : cpp b.toList a.toList = -ab) (l1 : -1 ≤ ab) (l2 : ab ≤ 1) (hn : (a.toList == b.toList) = false) (hz : (ab == 0) = false) (h0 : ab < 0) (h1 : 0 < bc) :
    Calls Tryd.prog 3 #[.string a, .string b, .string c] w fun e w' => e = .returned (.bool true) ∧ Below w.heap.size w w' := by
  have Rab := hid rab
  have Rbc := hid rbc
  have Rac := hid rac
  have Rba := hid rba
  have HV := hid hv
  clear rab rbc rac rba hv
  go_enter Tryd.func3, Tryd.ntmps3
  go_wp2_with (first | (go_at_call_of 15 (Value.string a); refine (svIdent_any a _ (by omega)).mono ?_; rintro e w1 ⟨rfl, hb1⟩) | (go_at_call_of 15 (Value.string b); refine (svIdent_any b _ (by omega)).mono ?_; rintro e w2 ⟨rfl, hb2⟩) | (go_at_call_of 15 (Value.string c); refine (svIdent_any c _ (by omega)).mono ?_; rintro e w3 ⟨rfl, hb3⟩))
  have HV3 := hid (((HV.out.below hb1).below hb2).below hb3)
  go_at_call 16
  refine (implPart_is a b ab _ sa sb HV3.out Rab.out).mono ?_
  rintro e w4 ⟨rfl, hb4⟩
  have HV4 := hid (HV3.out.below hb4)
  go_wp2_with fail
  go_at_call 16
  refine (implPart_is b c bc _ sb sc HV4.out Rbc.out).mono ?_
  rintro e w5 ⟨rfl, hb5⟩
  have HV5 := hid (HV4.out.below hb5)
  go_wp2_with fail
  go_at_call 16
  refine (implPart_is a c ac _ sa sc HV5.out Rac.out).mono ?_
  rintro e w6 ⟨rfl, hb6⟩
  have HV6 := hid (HV5.out.below hb6)
  go_wp2_with fail
  go_at_call 16
  refine (implPart_is b a (-ab) _ sb sa HV6.out Rba.out).mono ?_
  rintro e w7 ⟨rfl, hb7⟩
  have HV7 := hid (HV6.out.below hb7)
  have hB : Below w.heap.size w w7 := by
    have h12 := hb1.trans (hb2.mono hb1.size)
    have h13 := h12.trans (hb3.mono h12.size)
    have h14 := h13.trans (hb4.mono h13.size)
    have h15 := h14.trans (hb5.mono h14.size)
    have h16 := h15.trans (hb6.mono h15.size)
    exact h16.trans (hb7.mono h16.size)
  go_wp2_with fail
  go_ret
  exact ⟨rfl, hB⟩

set_option maxHeartbeats 1000000 in
theorem partOrder_low (a b c : ByteArray) (ab bc ac : Int) (w : World) (hv : Vars w) (sa : a.size ≤ 65536) (sb : b.size ≤ 65536) (sc : c.size ≤ 65536) (ia : identB a = true) (ib : identB b = true) (ic : identB c = true)
    (rab : cpp a.toList b.toList = ab) (rbc : cpp b.toList c.toList = bc) (rac : cpp a.toList c.toList = ac) (rba : cpp b.toList a.toList = -ab) (l1 : -1 ≤ ab) (l2 : ab ≤ 1) (hn : (a.toList == b.toList) = false) (hz : (ab == 0) = false) (h0 : ab < 0) (h1 : bc ≤ 0) (h2 : ac < 0) :
    Calls Tryd.prog 3 #[.string a, .string b, .string c] w fun e w' => e = .returned (.bool true) ∧ Below w.heap.size w w' := by
  have Rab := hid rab
  have Rbc := hid rbc
  have Rac := hid rac
  have Rba := hid rba
  have HV := hid hv
  clear rab rbc rac rba hv
  go_enter Tryd.func3, Tryd.ntmps3
  go_wp2_with (first | (go_at_call_of 15 (Value.string a); refine (svIdent_any a _ (by omega)).mono ?_; rintro e w1 ⟨rfl, hb1⟩) | (go_at_call_of 15 (Value.string b); refine (svIdent_any b _ (by omega)).mono ?_; rintro e w2 ⟨rfl, hb2⟩) | (go_at_call_of 15 (Value.string c); refine (svIdent_any c _ (by omega)).mono ?_; rintro e w3 ⟨rfl, hb3⟩))
  have HV3 := hid (((HV.out.below hb1).below hb2).below hb3)
  go_at_call 16
  refine (implPart_is a b ab _ sa sb HV3.out Rab.out).mono ?_
  rintro e w4 ⟨rfl, hb4⟩
  have HV4 := hid (HV3.out.below hb4)
  go_wp2_with fail
  go_at_call 16
  refine (implPart_is b c bc _ sb sc HV4.out Rbc.out).mono ?_
  rintro e w5 ⟨rfl, hb5⟩
  have HV5 := hid (HV4.out.below hb5)
  go_wp2_with fail
  go_at_call 16
  refine (implPart_is a c ac _ sa sc HV5.out Rac.out).mono ?_
  rintro e w6 ⟨rfl, hb6⟩
  have HV6 := hid (HV5.out.below hb6)
  go_wp2_with fail
  go_at_call 16
  refine (implPart_is b a (-ab) _ sb sa HV6.out Rba.out).mono ?_
  rintro e w7 ⟨rfl, hb7⟩
  have HV7 := hid (HV6.out.below hb7)
  have hB : Below w.heap.size w w7 := by
    have h12 := hb1.trans (hb2.mono hb1.size)
    have h13 := h12.trans (hb3.mono h12.size)
    have h14 := h13.trans (hb4.mono h13.size)
    have h15 := h14.trans (hb5.mono h14.size)
    have h16 := h15.trans (hb6.mono h15.size)
    exact h16.trans (hb7.mono h16.size)
  go_wp2_with fail
  go_ret
  exact ⟨rfl, hB⟩

set_option maxHeartbeats 1000000 in
theorem partOrder_same (a b c : ByteArray) (ab bc ac : Int) (w : World) (hv : Vars w) (sa : a.size ≤ 65536) (sb : b.size ≤ 65536) (sc : c.size ≤ 65536) (ia : identB a = true) (ib : identB b = true) (ic : identB c = true)
    (rab : cpp a.toList b.toList = ab) (rbc : cpp b.toList c.toList = bc) (rac : cpp a.toList c.toList = ac) (rba : cpp b.toList a.toList = -ab) (l1 : -1 ≤ ab) (l2 : ab ≤ 1) (hn : (a.toList == b.toList) = true) (hz : (ab == 0) = true) (h0 : ab ≤ 0) (h1 : 0 < bc) :
    Calls Tryd.prog 3 #[.string a, .string b, .string c] w fun e w' => e = .returned (.bool true) ∧ Below w.heap.size w w' := by
  have Rab := hid rab
  have Rbc := hid rbc
  have Rac := hid rac
  have Rba := hid rba
  have HV := hid hv
  clear rab rbc rac rba hv
  go_enter Tryd.func3, Tryd.ntmps3
  go_wp2_with (first | (go_at_call_of 15 (Value.string a); refine (svIdent_any a _ (by omega)).mono ?_; rintro e w1 ⟨rfl, hb1⟩) | (go_at_call_of 15 (Value.string b); refine (svIdent_any b _ (by omega)).mono ?_; rintro e w2 ⟨rfl, hb2⟩) | (go_at_call_of 15 (Value.string c); refine (svIdent_any c _ (by omega)).mono ?_; rintro e w3 ⟨rfl, hb3⟩))
  have HV3 := hid (((HV.out.below hb1).below hb2).below hb3)
  go_at_call 16
  refine (implPart_is a b ab _ sa sb HV3.out Rab.out).mono ?_
  rintro e w4 ⟨rfl, hb4⟩
  have HV4 := hid (HV3.out.below hb4)
  go_wp2_with fail
  go_at_call 16
  refine (implPart_is b c bc _ sb sc HV4.out Rbc.out).mono ?_
  rintro e w5 ⟨rfl, hb5⟩
  have HV5 := hid (HV4.out.below hb5)
  go_wp2_with fail
  go_at_call 16
  refine (implPart_is a c ac _ sa sc HV5.out Rac.out).mono ?_
  rintro e w6 ⟨rfl, hb6⟩
  have HV6 := hid (HV5.out.below hb6)
  go_wp2_with fail
  go_at_call 16
  refine (implPart_is b a (-ab) _ sb sa HV6.out Rba.out).mono ?_
  rintro e w7 ⟨rfl, hb7⟩
  have HV7 := hid (HV6.out.below hb7)
  have hB : Below w.heap.size w w7 := by
    have h12 := hb1.trans (hb2.mono hb1.size)
    have h13 := h12.trans (hb3.mono h12.size)
    have h14 := h13.trans (hb4.mono h13.size)
    have h15 := h14.trans (hb5.mono h14.size)
    have h16 := h15.trans (hb6.mono h15.size)
    exact h16.trans (hb7.mono h16.size)
  go_wp2_with fail
  go_ret
  exact ⟨rfl, hB⟩

set_option maxHeartbeats 1000000 in
theorem partOrder_same_low (a b c : ByteArray) (ab bc ac : Int) (w : World) (hv : Vars w) (sa : a.size ≤ 65536) (sb : b.size ≤ 65536) (sc : c.size ≤ 65536) (ia : identB a = true) (ib : identB b = true) (ic : identB c = true)
    (rab : cpp a.toList b.toList = ab) (rbc : cpp b.toList c.toList = bc) (rac : cpp a.toList c.toList = ac) (rba : cpp b.toList a.toList = -ab) (l1 : -1 ≤ ab) (l2 : ab ≤ 1) (hn : (a.toList == b.toList) = true) (hz : (ab == 0) = true) (h0 : ab ≤ 0) (h1 : bc ≤ 0) (h2 : ac < 0) :
    Calls Tryd.prog 3 #[.string a, .string b, .string c] w fun e w' => e = .returned (.bool true) ∧ Below w.heap.size w w' := by
  have Rab := hid rab
  have Rbc := hid rbc
  have Rac := hid rac
  have Rba := hid rba
  have HV := hid hv
  clear rab rbc rac rba hv
  go_enter Tryd.func3, Tryd.ntmps3
  go_wp2_with (first | (go_at_call_of 15 (Value.string a); refine (svIdent_any a _ (by omega)).mono ?_; rintro e w1 ⟨rfl, hb1⟩) | (go_at_call_of 15 (Value.string b); refine (svIdent_any b _ (by omega)).mono ?_; rintro e w2 ⟨rfl, hb2⟩) | (go_at_call_of 15 (Value.string c); refine (svIdent_any c _ (by omega)).mono ?_; rintro e w3 ⟨rfl, hb3⟩))
  have HV3 := hid (((HV.out.below hb1).below hb2).below hb3)
  go_at_call 16
  refine (implPart_is a b ab _ sa sb HV3.out Rab.out).mono ?_
  rintro e w4 ⟨rfl, hb4⟩
  have HV4 := hid (HV3.out.below hb4)
  go_wp2_with fail
  go_at_call 16
  refine (implPart_is b c bc _ sb sc HV4.out Rbc.out).mono ?_
  rintro e w5 ⟨rfl, hb5⟩
  have HV5 := hid (HV4.out.below hb5)
  go_wp2_with fail
  go_at_call 16
  refine (implPart_is a c ac _ sa sc HV5.out Rac.out).mono ?_
  rintro e w6 ⟨rfl, hb6⟩
  have HV6 := hid (HV5.out.below hb6)
  go_wp2_with fail
  go_at_call 16
  refine (implPart_is b a (-ab) _ sb sa HV6.out Rba.out).mono ?_
  rintro e w7 ⟨rfl, hb7⟩
  have HV7 := hid (HV6.out.below hb7)
  have hB : Below w.heap.size w w7 := by
    have h12 := hb1.trans (hb2.mono hb1.size)
    have h13 := h12.trans (hb3.mono h12.size)
    have h14 := h13.trans (hb4.mono h13.size)
    have h15 := h14.trans (hb5.mono h14.size)
    have h16 := h15.trans (hb6.mono h15.size)
    exact h16.trans (hb7.mono h16.size)
  go_wp2_with fail
  go_ret
  exact ⟨rfl, hB⟩

set_option maxHeartbeats 1000000 in
theorem partOrder_same_all (a b c : ByteArray) (ab bc ac : Int) (w : World) (hv : Vars w) (sa : a.size ≤ 65536) (sb : b.size ≤ 65536) (sc : c.size ≤ 65536) (ia : identB a = true) (ib : identB b = true) (ic : identB c = true)
    (rab : cpp a.toList b.toList = ab) (rbc : cpp b.toList c.toList = bc) (rac : cpp a.toList c.toList = ac) (rba : cpp b.toList a.toList = -ab) (l1 : -1 ≤ ab) (l2 : ab ≤ 1) (hn : (a.toList == b.toList) = true) (hz : (ab == 0) = true) (h0 : ab ≤ 0) (h1 : bc ≤ 0) (h2 : ac ≤ 0) (h3 : 0 ≤ ac) (hac : (a.toList == c.toList) = true) :
    Calls Tryd.prog 3 #[.string a, .string b, .string c] w fun e w' => e = .returned (.bool true) ∧ Below w.heap.size w w' := by
  have Rab := hid rab
  have Rbc := hid rbc
  have Rac := hid rac
  have Rba := hid rba
  have HV := hid hv
  clear rab rbc rac rba hv
  go_enter Tryd.func3, Tryd.ntmps3
  go_wp2_with (first | (go_at_call_of 15 (Value.string a); refine (svIdent_any a _ (by omega)).mono ?_; rintro e w1 ⟨rfl, hb1⟩) | (go_at_call_of 15 (Value.string b); refine (svIdent_any b _ (by omega)).mono ?_; rintro e w2 ⟨rfl, hb2⟩) | (go_at_call_of 15 (Value.string c); refine (svIdent_any c _ (by omega)).mono ?_; rintro e w3 ⟨rfl, hb3⟩))
  have HV3 := hid (((HV.out.below hb1).below hb2).below hb3)
  go_at_call 16
  refine (implPart_is a b ab _ sa sb HV3.out Rab.out).mono ?_
  rintro e w4 ⟨rfl, hb4⟩
  have HV4 := hid (HV3.out.below hb4)
  go_wp2_with fail
  go_at_call 16
  refine (implPart_is b c bc _ sb sc HV4.out Rbc.out).mono ?_
  rintro e w5 ⟨rfl, hb5⟩
  have HV5 := hid (HV4.out.below hb5)
  go_wp2_with fail
  go_at_call 16
  refine (implPart_is a c ac _ sa sc HV5.out Rac.out).mono ?_
  rintro e w6 ⟨rfl, hb6⟩
  have HV6 := hid (HV5.out.below hb6)
  go_wp2_with fail
  go_at_call 16
  refine (implPart_is b a (-ab) _ sb sa HV6.out Rba.out).mono ?_
  rintro e w7 ⟨rfl, hb7⟩
  have HV7 := hid (HV6.out.below hb7)
  have hB : Below w.heap.size w w7 := by
    have h12 := hb1.trans (hb2.mono hb1.size)
    have h13 := h12.trans (hb3.mono h12.size)
    have h14 := h13.trans (hb4.mono h13.size)
    have h15 := h14.trans (hb5.mono h14.size)
    have h16 := h15.trans (hb6.mono h15.size)
    exact h16.trans (hb7.mono h16.size)
  go_wp2_with fail
  go_ret
  exact ⟨rfl, hB⟩

theorem fnSemverPartOrder_walk (a b c : ByteArray) (w : World) (ha : a.size ≤ maxLen) (hb : b.size ≤ maxLen) (hc : c.size ≤ maxLen) (hv : Vars w) :
    Calls Tryd.prog 3 #[.string a, .string b, .string c] w fun e w' => e = .returned (.bool true) ∧ Below w.heap.size w w' := by
  by_cases h0 : 2147483647 < a.size ∨ (a.size ≤ 2147483647 ∧ 2147483647 < b.size) ∨ (a.size ≤ 2147483647 ∧ b.size ≤ 2147483647 ∧ 2147483647 < c.size)
  · exact partOrder_big a b c w ha hb hc h0
  have za : a.size ≤ 2147483647 := by omega
  have zb : b.size ≤ 2147483647 := by omega
  have zc : c.size ≤ 2147483647 := by omega
  cases ia : identB a
  · exact partOrder_none a b c w za zb zc (.inl ia)
  cases ib : identB b
  · exact partOrder_none a b c w za zb zc (.inr (.inl ⟨ia, ib⟩))
  cases ic : identB c
  · exact partOrder_none a b c w za zb zc (.inr (.inr ⟨ia, ib, ic⟩))
  obtain ⟨oa, sa⟩ := okid_ident a ia
  obtain ⟨ob, sb⟩ := okid_ident b ib
  obtain ⟨oc, sc⟩ := okid_ident c ic
  have rab := cpp_eq _ _ oa ob
  have rbc := cpp_eq _ _ ob oc
  have rac := cpp_eq _ _ oa oc
  have rba : cpp b.toList a.toList = -cps a.toList b.toList := by rw [cpp_eq _ _ ob oa, cps_turn]
  have r1 := cps_range a.toList b.toList
  have r2 := cps_range b.toList c.toList
  have z1 := cps_zero a.toList b.toList
  have zac := cps_zero a.toList c.toList
  have key := cps_order a.toList b.toList c.toList
  by_cases e : a.toList = b.toList
  · have hz : (cps a.toList b.toList == 0) = true := beq_iff_eq.mpr (z1.2 e)
    have h0 : cps a.toList b.toList ≤ 0 := by have := z1.2 e; omega
    by_cases h1 : 0 < cps b.toList c.toList
    · exact partOrder_same a b c _ _ _ w hv sa sb sc ia ib ic rab rbc rac rba r1.1 r1.2 (beq_iff_eq.mpr e) hz h0 h1
    · obtain ⟨k1, k2⟩ := key h0 (by omega)
      by_cases h2 : cps a.toList c.toList < 0
      · exact partOrder_same_low a b c _ _ _ w hv sa sb sc ia ib ic rab rbc rac rba r1.1 r1.2 (beq_iff_eq.mpr e) hz h0 (by omega) h2
      · exact partOrder_same_all a b c _ _ _ w hv sa sb sc ia ib ic rab rbc rac rba r1.1 r1.2 (beq_iff_eq.mpr e) hz h0 (by omega) k1 (by omega) (beq_iff_eq.mpr (k2.resolve_left h2))
  · have hne : ¬ cps a.toList b.toList = 0 := fun h => e (z1.1 h)
    have hz : (cps a.toList b.toList == 0) = false := beq_eq_false_iff_ne.mpr hne
    have hn : (a.toList == b.toList) = false := beq_eq_false_iff_ne.mpr e
    by_cases h0 : 0 < cps a.toList b.toList
    · exact partOrder_up a b c _ _ _ w hv sa sb sc ia ib ic rab rbc rac rba r1.1 r1.2 hn hz h0
    · by_cases h1 : 0 < cps b.toList c.toList
      · exact partOrder_next a b c _ _ _ w hv sa sb sc ia ib ic rab rbc rac rba r1.1 r1.2 hn hz (by omega) h1
      · obtain ⟨k1, k2⟩ := key (by omega) (by omega)
        have h2 : cps a.toList c.toList < 0 := by
          rcases k2 with k2 | k2
          · exact k2
          · exfalso
            rw [← k2, cps_turn] at h1
            omega
        exact partOrder_low a b c _ _ _ w hv sa sb sc ia ib ic rab rbc rac rba r1.1 r1.2 hn hz (by omega) (by omega) h2

end Go.Proofs.YtmlbjcdildaldaaDoor
