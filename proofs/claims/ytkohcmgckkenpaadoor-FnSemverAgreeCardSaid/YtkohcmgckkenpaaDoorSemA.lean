/- The semver package's comparison of two identifiers of prereleases, walked. -/
import Derived.Test.YtkohcmgckkenpaaDoorKit
import Derived.Test.YtkohcmgckkenpaaDoorShelf
import Derived.Test.YtkohcmgckkenpaaDoorSemP
set_option linter.unusedVariables false
set_option linter.unusedSimpArgs false
namespace Go.Proofs.YtkohcmgckkenpaaDoor
open Go.RowKit

/-- What the walks ask of the package-level variables: two hold interface values. -/
structure Vars (w : World) : Prop where
  syn : ∃ t p, w.cell? ⟨0, 0, none⟩ = some (.iface t p)
  ran : ∃ t p, w.cell? ⟨1, 0, none⟩ = some (.iface t p)

theorem Vars.below {w w' : World} (h : Vars w) (hb : Below w.heap.size w w') : Vars w' := by
  obtain ⟨⟨t, p, h1⟩, ⟨u, q, h2⟩⟩ := h
  exact ⟨⟨t, p, (hb.cell (World.block_lt_of_cell? w _ h1)).trans h1⟩, ⟨u, q, (hb.cell (World.block_lt_of_cell? w _ h2)).trans h2⟩⟩
theorem Vars.alloc {w : World} (h : Vars w) (o : Obj) : Vars (w.alloc o) := h.below ((Below.refl _ _).alloc (Nat.le_refl _) o)
theorem Vars.drew {w : World} (h : Vars w) : Vars w.drew := ⟨h.1, h.2⟩
theorem Vars.drewN {w : World} (h : Vars w) (n : Nat) : Vars (w.drewN n) := ⟨h.1, h.2⟩

theorem parseUint_ok (s : ByteArray) (hs : s.size ≤ 2147483647) (u : Nat) (h : PUn s.toList = some u) (w : World) :
    Calls Tryd.prog 66 #[.string s, .int .i64 10, .int .i64 64] w fun e w' => e = .returned (.tuple #[.int .u64 u, .nilIface]) ∧ Below w.heap.size w w' := by
  have h' : Lib.parseUintB 64 s.data.toList = .ok u := by
    unfold PUn at h
    rw [ByteArray.toList_eq] at h
    split at h
    · rename_i v hv; rw [hv]; injection h with h; rw [h]
    · cases h
  refine (Tryd.strconv_ParseUint_10_at64_ok s (by omega) u h' w).mono ?_
  rintro e w' ⟨rfl, rfl | rfl⟩
  · exact ⟨rfl, Below.refl _ _⟩
  · exact ⟨rfl, Lib.bytesWorld_below _ _ _⟩

theorem parseUint_bad (s : ByteArray) (hs : s.size ≤ 2147483647) (h : PUn s.toList = none) (w : World) (hv : Vars w) :
    Calls Tryd.prog 66 #[.string s, .int .i64 10, .int .i64 64] w fun e w' => (∃ (u : Int) (t : TypeId) (q : Addr), e = .returned (.tuple #[.int .u64 u, .iface t (.pointer (some q))])) ∧ Below w.heap.size w w' := by
  obtain ⟨⟨t, p, h1⟩, ⟨v, q, h2⟩⟩ := hv
  unfold PUn at h
  rw [ByteArray.toList_eq] at h
  rcases hp : Lib.parseUintB 64 s.data.toList with u | _ | _
  · rw [hp] at h; cases h
  · refine (Any.strconv_ParseUint_10_at64_syntax Tryd.laysPu14 s (by omega) hp _ w h1 (.inr ⟨t, p, rfl⟩)).mono ?_
    rintro e w' ⟨N, rfl, _, _, hb⟩
    exact ⟨⟨_, _, _, rfl⟩, hb⟩
  · refine (Tryd.strconv_ParseUint_10_at64_range s (by omega) hp _ w h2 (.inr ⟨v, q, rfl⟩)).mono ?_
    rintro e w' ⟨N, rfl, _, _, hb⟩
    exact ⟨⟨_, _, _, rfl⟩, hb⟩

theorem part_same (s : ByteArray) (w : World) : Calls Tryd.prog 63 #[.string s, .string s] w fun e w' => e = .returned (.int .i64 0) ∧ w = w' := by
  go_enter Tryd.func63, Tryd.ntmps63
  go_wp2_with fail
  go_ret
  exact ⟨rfl, rfl⟩

theorem part_empty (s o : ByteArray) (w : World) (h : (s.toList == o.toList) = false) (h0 : s.toList.isEmpty = true) (h1 : o.toList.isEmpty = false) : Calls Tryd.prog 63 #[.string s, .string o] w fun e w' => e = .returned (.int .i64 (-1)) ∧ w = w' := by
  go_enter Tryd.func63, Tryd.ntmps63
  go_wp2_with fail
  go_ret
  exact ⟨rfl, rfl⟩

theorem part_behind (s o : ByteArray) (w : World) (h : (s.toList == o.toList) = false) (h0 : s.toList.isEmpty = false) (h1 : o.toList.isEmpty = true) : Calls Tryd.prog 63 #[.string s, .string o] w fun e w' => e = .returned (.int .i64 1) ∧ w = w' := by
  go_enter Tryd.func63, Tryd.ntmps63
  go_wp2_with fail
  go_ret
  exact ⟨rfl, rfl⟩

theorem part_words_low (s o : ByteArray) (w : World) (hs : s.size ≤ 2147483647) (ho : o.size ≤ 2147483647) (hv : Vars w) (h : (s.toList == o.toList) = false) (h0 : s.toList.isEmpty = false) (h1 : o.toList.isEmpty = false) (hl : Op.bytesLess s.toList o.toList = true)
    (ps : PUn s.toList = none) (po : PUn o.toList = none) :
    Calls Tryd.prog 63 #[.string s, .string o] w fun e w' => e = .returned (.int .i64 (-1)) ∧ Below w.heap.size w w' := by
  have PS := hid ps
  have PO := hid po
  have HV := hid hv
  clear ps po hv
  go_enter Tryd.func63, Tryd.ntmps63
  go_wp2_with fail
  go_at_call 66
  refine (parseUint_bad o ho PO.out _ HV.out).mono ?_
  rintro e w1 ⟨⟨u1, t1, q1, rfl⟩, hb1⟩
  go_wp2_with fail
  go_at_call 66
  refine (parseUint_bad s hs PS.out _ (HV.out.below hb1)).mono ?_
  rintro e w2 ⟨⟨u2, t2, q2, rfl⟩, hb2⟩
  have hb := hb1.trans (hb2.mono hb1.size)
  go_wp2_with fail
  go_ret
  exact ⟨rfl, hb⟩

theorem part_words_high (s o : ByteArray) (w : World) (hs : s.size ≤ 2147483647) (ho : o.size ≤ 2147483647) (hv : Vars w) (h : (s.toList == o.toList) = false) (h0 : s.toList.isEmpty = false) (h1 : o.toList.isEmpty = false) (hl : Op.bytesLess s.toList o.toList = false)
    (ps : PUn s.toList = none) (po : PUn o.toList = none) :
    Calls Tryd.prog 63 #[.string s, .string o] w fun e w' => e = .returned (.int .i64 1) ∧ Below w.heap.size w w' := by
  have PS := hid ps
  have PO := hid po
  have HV := hid hv
  clear ps po hv
  go_enter Tryd.func63, Tryd.ntmps63
  go_wp2_with fail
  go_at_call 66
  refine (parseUint_bad o ho PO.out _ HV.out).mono ?_
  rintro e w1 ⟨⟨u1, t1, q1, rfl⟩, hb1⟩
  go_wp2_with fail
  go_at_call 66
  refine (parseUint_bad s hs PS.out _ (HV.out.below hb1)).mono ?_
  rintro e w2 ⟨⟨u2, t2, q2, rfl⟩, hb2⟩
  have hb := hb1.trans (hb2.mono hb1.size)
  go_wp2_with fail
  go_ret
  exact ⟨rfl, hb⟩

theorem part_num_word (s o : ByteArray) (w : World) (hs : s.size ≤ 2147483647) (ho : o.size ≤ 2147483647) (hv : Vars w) (h : (s.toList == o.toList) = false) (h0 : s.toList.isEmpty = false) (h1 : o.toList.isEmpty = false) (u : Nat)
    (ps : PUn s.toList = some u) (po : PUn o.toList = none) :
    Calls Tryd.prog 63 #[.string s, .string o] w fun e w' => e = .returned (.int .i64 (-1)) ∧ Below w.heap.size w w' := by
  have PS := hid ps
  have PO := hid po
  have HV := hid hv
  clear ps po hv
  go_enter Tryd.func63, Tryd.ntmps63
  go_wp2_with fail
  go_at_call 66
  refine (parseUint_bad o ho PO.out _ HV.out).mono ?_
  rintro e w1 ⟨⟨u1, t1, q1, rfl⟩, hb1⟩
  go_wp2_with fail
  go_at_call 66
  refine (parseUint_ok s hs u PS.out _).mono ?_
  rintro e w2 ⟨rfl, hb2⟩
  have hb := hb1.trans (hb2.mono hb1.size)
  go_wp2_with fail
  go_ret
  exact ⟨rfl, hb⟩

theorem part_word_num (s o : ByteArray) (w : World) (hs : s.size ≤ 2147483647) (ho : o.size ≤ 2147483647) (hv : Vars w) (h : (s.toList == o.toList) = false) (h0 : s.toList.isEmpty = false) (h1 : o.toList.isEmpty = false) (v : Nat)
    (ps : PUn s.toList = none) (po : PUn o.toList = some v) :
    Calls Tryd.prog 63 #[.string s, .string o] w fun e w' => e = .returned (.int .i64 1) ∧ Below w.heap.size w w' := by
  have PS := hid ps
  have PO := hid po
  have HV := hid hv
  clear ps po hv
  go_enter Tryd.func63, Tryd.ntmps63
  go_wp2_with fail
  go_at_call 66
  refine (parseUint_ok o ho v PO.out _).mono ?_
  rintro e w1 ⟨rfl, hb1⟩
  go_wp2_with fail
  go_at_call 66
  refine (parseUint_bad s hs PS.out _ (HV.out.below hb1)).mono ?_
  rintro e w2 ⟨⟨u2, t2, q2, rfl⟩, hb2⟩
  have hb := hb1.trans (hb2.mono hb1.size)
  go_wp2_with fail
  go_ret
  exact ⟨rfl, hb⟩

theorem part_nums_high (s o : ByteArray) (w : World) (hs : s.size ≤ 2147483647) (ho : o.size ≤ 2147483647) (hv : Vars w) (h : (s.toList == o.toList) = false) (h0 : s.toList.isEmpty = false) (h1 : o.toList.isEmpty = false) (u v : Nat) (hl : v < u)
    (ps : PUn s.toList = some u) (po : PUn o.toList = some v) :
    Calls Tryd.prog 63 #[.string s, .string o] w fun e w' => e = .returned (.int .i64 1) ∧ Below w.heap.size w w' := by
  have PS := hid ps
  have PO := hid po
  have HV := hid hv
  clear ps po hv
  go_enter Tryd.func63, Tryd.ntmps63
  go_wp2_with fail
  go_at_call 66
  refine (parseUint_ok o ho v PO.out _).mono ?_
  rintro e w1 ⟨rfl, hb1⟩
  go_wp2_with fail
  go_at_call 66
  refine (parseUint_ok s hs u PS.out _).mono ?_
  rintro e w2 ⟨rfl, hb2⟩
  have hb := hb1.trans (hb2.mono hb1.size)
  go_wp2_with fail
  go_ret
  exact ⟨rfl, hb⟩

theorem part_nums_low (s o : ByteArray) (w : World) (hs : s.size ≤ 2147483647) (ho : o.size ≤ 2147483647) (hv : Vars w) (h : (s.toList == o.toList) = false) (h0 : s.toList.isEmpty = false) (h1 : o.toList.isEmpty = false) (u v : Nat) (hl : ¬ v < u)
    (ps : PUn s.toList = some u) (po : PUn o.toList = some v) :
    Calls Tryd.prog 63 #[.string s, .string o] w fun e w' => e = .returned (.int .i64 (-1)) ∧ Below w.heap.size w w' := by
  have PS := hid ps
  have PO := hid po
  have HV := hid hv
  clear ps po hv
  go_enter Tryd.func63, Tryd.ntmps63
  go_wp2_with fail
  go_at_call 66
  refine (parseUint_ok o ho v PO.out _).mono ?_
  rintro e w1 ⟨rfl, hb1⟩
  go_wp2_with fail
  go_at_call 66
  refine (parseUint_ok s hs u PS.out _).mono ?_
  rintro e w2 ⟨rfl, hb2⟩
  have hb := hb1.trans (hb2.mono hb1.size)
  go_wp2_with fail
  go_ret
  exact ⟨rfl, hb⟩

theorem prePart_any (s o : ByteArray) (w : World) (hs : s.size ≤ 2147483647) (ho : o.size ≤ 2147483647) (hv : Vars w) :
    Calls Tryd.prog 63 #[.string s, .string o] w fun e w' => e = .returned (.int .i64 (cpp s.toList o.toList)) ∧ Below w.heap.size w w' := by
  unfold cpp
  by_cases h : s.toList = o.toList
  · have e : s = o := by
      rw [ByteArray.toList_eq, ByteArray.toList_eq] at h
      exact WideShapes.bytes_inj h
    subst e
    rw [if_pos rfl]
    exact (part_same s w).mono fun e w' ⟨he, hw⟩ => ⟨he, hw ▸ Below.refl _ _⟩
  have hb : (s.toList == o.toList) = false := by simpa using h
  rw [if_neg h]
  by_cases h0 : s.toList = []
  · rw [if_pos h0]
    have h1 : o.toList.isEmpty = false := by
      cases ho : o.toList with
      | nil => rw [h0, ho] at h; exact absurd rfl h
      | cons => rfl
    exact (part_empty s o w hb (by rw [h0]; rfl) h1).mono fun e w' ⟨he, hw⟩ => ⟨he, hw ▸ Below.refl _ _⟩
  have h0' : s.toList.isEmpty = false := by simpa using h0
  rw [if_neg h0]
  by_cases h1 : o.toList = []
  · rw [if_pos h1]
    exact (part_behind s o w hb h0' (by rw [h1]; rfl)).mono fun e w' ⟨he, hw⟩ => ⟨he, hw ▸ Below.refl _ _⟩
  have h1' : o.toList.isEmpty = false := by simpa using h1
  rw [if_neg h1]
  cases ps : PUn s.toList with
  | none =>
    cases po : PUn o.toList with
    | none =>
      cases hl : Op.bytesLess s.toList o.toList with
      | true => exact part_words_low s o w hs ho hv hb h0' h1' hl ps po
      | false => exact part_words_high s o w hs ho hv hb h0' h1' hl ps po
    | some v => exact part_word_num s o w hs ho hv hb h0' h1' v ps po
  | some u =>
    cases po : PUn o.toList with
    | none => exact part_num_word s o w hs ho hv hb h0' h1' u ps po
    | some v =>
      by_cases hl : v < u
      · simp only [hl, if_true]
        exact part_nums_high s o w hs ho hv hb h0' h1' u v hl ps po
      · simp only [hl, if_false]
        exact part_nums_low s o w hs ho hv hb h0' h1' u v hl ps po

end Go.Proofs.YtkohcmgckkenpaaDoor
