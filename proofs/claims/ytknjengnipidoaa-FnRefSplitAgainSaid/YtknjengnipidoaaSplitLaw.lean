/- The law FnRefSplitAgain: domain and rest, put together again, are split into the same. Joined. -/
import Derived.Test.YtknjengnipidoaaSplitDk
set_option linter.unusedVariables false
set_option linter.unusedSimpArgs false
namespace Go.Proofs.Ytknjengnipidoaa
open Go.RowKit

theorem dock_of {s P Q : ByteArray} (h : (∀ w, Calls Try.prog 33 #[.string s] w fun e w' => e = .returned (.tuple #[.string P, .string Q]) ∧ Below w.heap.size w w')) (w : World) : Calls Try.prog 19 #[.string s] w fun e w' => e = .returned (.tuple #[.string P, .string Q]) ∧ Below w.heap.size w w' := by
  go_enter Try.func19, Try.ntmps19
  go_wp2_with (first | (go_at_call 27; go_in) | (go_at_call 33; refine (h _).mono ?_; rintro e w1 ⟨rfl, hb⟩; replace hb := hid hb))
  go_returns
  exact ⟨rfl, hb.out⟩

/-- The rest of the law, behind what the two splittings give. -/
theorem again_law (s P Q : ByteArray) (w : World) (h1 : (∀ w, Calls Try.prog 33 #[.string s] w fun e w' => e = .returned (.tuple #[.string P, .string Q]) ∧ Below w.heap.size w w')) (h2 : (∀ w, Calls Try.prog 33 #[.string (P ++ ⟨#[47]⟩ ++ Q)] w fun e w' => e = .returned (.tuple #[.string P, .string Q]) ∧ Below w.heap.size w w')) (hs : s.size ≤ 65436) (hp : P.toList.isEmpty = false) (hF : Fst 47 P (-1)) (hleg : (P.toList == [105, 110, 100, 101, 120, 46, 100, 111, 99, 107, 101, 114, 46, 105, 111]) = false) (hz : P.size + Q.size ≤ 131072) :
    Calls Try.prog 7 #[.string s] w fun e w' => e = .returned (.bool true) ∧ Below w.heap.size w w' := by
  have z1 : ¬ (2147483647 : Int) < (s.size : Int) := by omega
  have z2 : ¬ (65436 : Int) < (s.size : Int) := by omega
  have c1 : ¬ 9223372036854775807 < P.size + 1 := by omega
  have c2 : ¬ 9223372036854775807 < P.size + 1 + Q.size := by omega
  have HPS := hid (show P.size ≤ 2147483647 by omega)
  have HF := hid hF
  have D1 := hid (dock_of h1)
  have D2 := hid (dock_of h2)
  clear hs hz hF h1 h2
  go_enter Try.func7, Try.ntmps7
  go_wp2_with fail
  go_at_call 19
  refine (D1.out _).mono ?_
  rintro e w1 ⟨rfl, hb1⟩
  replace hb1 := hid hb1
  go_wp2_with fail
  go_at_call 19
  refine (D2.out _).mono ?_
  rintro e w2 ⟨rfl, hb2⟩
  replace hb2 := hid hb2
  go_wp2_with (go_at_call 11; refine (first_slash P _ HPS.out).mono ?_; rintro e w' ⟨n, rfl, rfl, h⟩; obtain rfl := h.same HF.out; clear h)
  go_ret
  exact ⟨ret_b (by simp), hb1.out.trans (hb2.out.mono hb1.out.size)⟩

theorem again_long (s : ByteArray) (w : World) (hs : 65436 < s.size) : Calls Try.prog 7 #[.string s] w fun e w' => e = .returned (.bool true) ∧ Below w.heap.size w w' := by
  by_cases h : 2147483647 < s.size
  · have z1 : (2147483647 : Int) < (s.size : Int) := by omega
    clear hs h
    go_enter Try.func7, Try.ntmps7
    go_wp2_with fail
    go_ret
    exact ⟨rfl, Below.refl _ _⟩
  · have z1 : ¬ (2147483647 : Int) < (s.size : Int) := by omega
    have z2 : (65436 : Int) < (s.size : Int) := by omega
    clear hs h
    go_enter Try.func7, Try.ntmps7
    go_wp2_with fail
    go_ret
    exact ⟨rfl, Below.refl _ _⟩

theorem idx_step (p : Nat → Bool) (s : ByteArray) (f pos b : Nat) (h : pos < s.size) (hb : (s[pos]'h).toNat = b) (hl : b < 128) (hp : p b = false) : Lib.idxFuncFrom p true s (f + 1) pos = Lib.idxFuncFrom p true s f (pos + 1) := by
  have e := decode_ascii s pos h (by rw [hb]; exact hl)
  rw [hb] at e
  simp only [Lib.idxFuncFrom, h, if_true, e, hp]
  simp
theorem idx_hit (p : Nat → Bool) (s : ByteArray) (f pos b : Nat) (h : pos < s.size) (hb : (s[pos]'h).toNat = b) (hl : b < 128) (hp : p b = true) : Lib.idxFuncFrom p true s (f + 1) pos = pos := by
  have e := decode_ascii s pos h (by rw [hb]; exact hl)
  rw [hb] at e
  simp only [Lib.idxFuncFrom, h, if_true, e, hp]

theorem lib_size (x : ByteArray) : (libB ++ x).size = x.size + 8 := by rw [ByteArray.size_append]; exact Nat.add_comm _ _
theorem lib_at (x : ByteArray) (i : Nat) (hi : i < 8) : (((libB ++ x)[i]'(by rw [lib_size]; omega)).toNat) = ((libB[i]'hi).toNat) := by
  rw [ByteArray.getElem_append_left hi]
theorem lib_sl (x : ByteArray) : hasSl (libB ++ x) = true := by
  unfold hasSl Lib.idxFunc
  rw [lib_size]
  have e := lib_at x
  have hz := lib_size x
  rw [idx_step _ _ (x.size + 7) 0 108 (by omega) (e 0 (by omega)) (by omega) rfl, idx_step _ _ (x.size + 6) 1 105 (by omega) (e 1 (by omega)) (by omega) rfl,
    idx_step _ _ (x.size + 5) 2 98 (by omega) (e 2 (by omega)) (by omega) rfl, idx_step _ _ (x.size + 4) 3 114 (by omega) (e 3 (by omega)) (by omega) rfl,
    idx_step _ _ (x.size + 3) 4 97 (by omega) (e 4 (by omega)) (by omega) rfl, idx_step _ _ (x.size + 2) 5 114 (by omega) (e 5 (by omega)) (by omega) rfl,
    idx_step _ _ (x.size + 1) 6 121 (by omega) (e 6 (by omega)) (by omega) rfl, idx_hit _ _ x.size 7 47 (by omega) (e 7 (by omega)) (by omega) rfl]
  rfl
theorem rem_sl (x : ByteArray) : hasSl (rem x) = true := by
  unfold rem
  cases h : hasSl x
  · exact lib_sl x
  · exact h
theorem rem_size (x : ByteArray) : (rem x).size ≤ x.size + 8 := by
  unfold rem
  split
  · omega
  · rw [lib_size]; exact Nat.le_refl _

theorem mk_list (a : Array UInt8) : (⟨a⟩ : ByteArray).toList = a.toList := by rw [ByteArray.toList_eq]
theorem dk_list : dkB.toList = [100, 111, 99, 107, 101, 114, 46, 105, 111] := mk_list _
theorem dk_free : (47 : UInt8) ∉ dkB.toList := by rw [dk_list]; decide
theorem one_list : (⟨#[47]⟩ : ByteArray).toList = [47] := mk_list _
theorem dk_pt : hasPt dkB = true := by kernel_rfl

section
variable {D R : ByteArray}
theorem join_at (h : (47 : UInt8) ∉ D.toList) : Fst 47 (D ++ ⟨#[47]⟩ ++ R) (D.size : Nat) := by
  right
  have e : (D ++ (⟨#[47]⟩ : ByteArray) ++ R).toList = D.toList ++ 47 :: R.toList := by
    rw [app_list, app_list, List.append_assoc, one_list]; rfl
  refine ⟨D.size, rfl, ?_, ?_, ?_⟩
  · rw [ByteArray.size_append, ByteArray.size_append]; show D.size < D.size + 1 + R.size; omega
  · rw [e, List.getElem?_append_right (by rw [size_list]; exact Nat.le_refl _), size_list]; simp
  · rw [e, List.take_left' (size_list D)]; exact h
theorem join_left : (D ++ ⟨#[47]⟩ ++ R).extract 0 D.size = D := by
  apply bytes_inj
  rw [ext_list, app_list, app_list, List.append_assoc, List.drop_zero, Nat.sub_zero, List.take_left' (size_list D)]
theorem join_right : (D ++ ⟨#[47]⟩ ++ R).extract (D.size + 1) (D ++ ⟨#[47]⟩ ++ R).size = R := by
  apply bytes_inj
  have z : (D ++ (⟨#[47]⟩ : ByteArray) ++ R).size = D.size + 1 + R.size := by rw [ByteArray.size_append, ByteArray.size_append]; rfl
  have hl : (D.toList ++ (⟨#[47]⟩ : ByteArray).toList).length = D.size + 1 := by rw [List.length_append, size_list, one_list]; rfl
  rw [ext_list, app_list, app_list, z, List.drop_left' hl]
  apply List.take_of_length_le
  rw [size_list]; omega
theorem join_size : (D ++ ⟨#[47]⟩ ++ R).size = D.size + 1 + R.size := by rw [ByteArray.size_append, ByteArray.size_append]; rfl
end

/-- Both splittings, and what the law asks of the domain. -/
def Both (s : ByteArray) : Prop := ∃ P Q : ByteArray, (∀ w, Calls Try.prog 33 #[.string s] w fun e w' => e = .returned (.tuple #[.string P, .string Q]) ∧ Below w.heap.size w w') ∧ (∀ w, Calls Try.prog 33 #[.string (P ++ ⟨#[47]⟩ ++ Q)] w fun e w' => e = .returned (.tuple #[.string P, .string Q]) ∧ Below w.heap.size w w') ∧ P.toList.isEmpty = false ∧ Fst 47 P (-1) ∧ (P.toList == [105, 110, 100, 101, 120, 46, 100, 111, 99, 107, 101, 114, 46, 105, 111]) = false ∧ P.size + Q.size ≤ 131072

theorem both_hub (s x : ByteArray) (hx : x.size ≤ 65450) (h : (∀ w, Calls Try.prog 33 #[.string s] w fun e w' => e = .returned (.tuple #[.string dkB, .string (rem x)]) ∧ Below w.heap.size w w')) : Both s := by
  refine ⟨dkB, rem x, h, fun w => ?_, by rw [dk_list]; rfl, .inl ⟨rfl, dk_free⟩, by rw [dk_list]; rfl, ?_⟩
  · have hz := rem_size x
    exact sd_hub_true _ w (by rw [join_size]; show 9 + 1 + (rem x).size ≤ 65536; omega) 9 (join_at (D := dkB) dk_free) dkB (rem x) (join_left (D := dkB)) (join_right (D := dkB)) (by rw [dk_list]; rfl) (by rw [dk_list]; rfl) (by rw [dk_list]; rfl) dk_pt (rem_sl x)
  · have hz := rem_size x
    show 9 + (rem x).size ≤ 131072; omega

theorem both_own (s : ByteArray) (k : Nat) (hs : s.size ≤ 65436) (hF : Fst 47 s k) (hne : (s.extract 0 k).toList.isEmpty = false) (hleg : ((s.extract 0 k).toList == [105, 110, 100, 101, 120, 46, 100, 111, 99, 107, 101, 114, 46, 105, 111]) = false)
    (f : ∀ (s' : ByteArray) (w : World), s'.size ≤ 65536 → ∀ k' : Nat, Fst 47 s' k' → s'.extract 0 k' = s.extract 0 k → s'.extract (k' + 1) s'.size = s.extract (k + 1) s.size → Calls Try.prog 33 #[.string s'] w fun e w' => e = .returned (.tuple #[.string (s.extract 0 k), .string (s.extract (k + 1) s.size)]) ∧ Below w.heap.size w w') : Both s := by
  have hk := hF.range
  have z1 : (s.extract 0 k).size ≤ k := by rw [ByteArray.size_extract]; omega
  have z2 : (s.extract (k + 1) s.size).size ≤ s.size - (k + 1) := by rw [ByteArray.size_extract]; omega
  have hn : (47 : UInt8) ∉ (s.extract 0 k).toList := by
    rw [ext_list, List.drop_zero, Nat.sub_zero]
    rcases hF with ⟨h, _⟩ | ⟨k', h, _, _, h4⟩
    · omega
    · have : k = k' := by omega
      rw [this]; exact h4
  refine ⟨s.extract 0 k, s.extract (k + 1) s.size, fun w => f s w (by omega) k hF rfl rfl, fun w => ?_, hne, .inl ⟨rfl, hn⟩, hleg, by omega⟩
  exact f _ w (by rw [join_size]; omega) _ (join_at hn) join_left join_right

theorem empty_of {D : ByteArray} (h : D.toList.isEmpty = true) : D = ⟨#[]⟩ := by
  apply bytes_inj
  rw [List.isEmpty_iff.1 h, mk_list]

theorem both_any (s : ByteArray) (hs : s.size ≤ 65436) : Both s := by
  obtain ⟨n, hF⟩ := fst_ex 47 s
  by_cases hn : n < 0
  · have e : n = -1 := by have := hF.range; omega
    subst e
    exact both_hub s (libB ++ s) (by rw [lib_size]; omega) (fun w => by rw [rem_yes (lib_sl s)]; exact sd_none s w (by omega) hF)
  obtain ⟨k, rfl⟩ : ∃ k : Nat, n = k := ⟨n.toNat, by omega⟩
  have hk := hF.range
  have z2 : (s.extract (k + 1) s.size).size ≤ 65436 := by rw [ByteArray.size_extract]; omega
  cases e1 : ((s.extract 0 k).toList == [108, 111, 99, 97, 108, 104, 111, 115, 116])
  case true =>
    have e := beq_iff_eq.1 e1
    have eD : ((s.extract 0 k).toList == [100, 111, 99, 107, 101, 114, 46, 105, 111]) = false := by rw [e]; rfl
    exact both_own s k hs hF (by rw [e]; rfl) (by rw [e]; rfl) (fun s' w hs' k' hF' hl hr => sd_local s' w hs' k' hF' _ _ hl hr e1 eD)
  cases e2 : ((s.extract 0 k).toList == [105, 110, 100, 101, 120, 46, 100, 111, 99, 107, 101, 114, 46, 105, 111])
  case true =>
    refine both_hub s (s.extract (k + 1) s.size) (by omega) (fun w => ?_)
    cases hx : hasSl (s.extract (k + 1) s.size)
    · rw [rem_no hx]; exact sd_old_false s w (by omega) k hF _ _ rfl rfl e1 e2 hx
    · rw [rem_yes hx]; exact sd_old_true s w (by omega) k hF _ _ rfl rfl e1 e2 hx
  cases hp : hasPt (s.extract 0 k)
  case true =>
    cases e3 : ((s.extract 0 k).toList == [100, 111, 99, 107, 101, 114, 46, 105, 111])
    · have hne : (s.extract 0 k).toList.isEmpty = false := by
        cases hz : (s.extract 0 k).toList.isEmpty
        · rfl
        · rw [empty_of hz] at hp; cases hp
      exact both_own s k hs hF hne e2 (fun s' w hs' k' hF' hl hr => sd_point s' w hs' k' hF' _ _ hl hr e1 e2 e3 hp)
    · refine both_hub s (s.extract (k + 1) s.size) (by omega) (fun w => ?_)
      cases hx : hasSl (s.extract (k + 1) s.size)
      · rw [rem_no hx]
        have := sd_hub_false s w (by omega) k hF _ _ rfl rfl e1 e2 e3 hp hx
        rw [bytes_inj ((beq_iff_eq.1 e3).trans dk_list.symm)] at this
        exact this
      · rw [rem_yes hx]
        have := sd_hub_true s w (by omega) k hF _ _ rfl rfl e1 e2 e3 hp hx
        rw [bytes_inj ((beq_iff_eq.1 e3).trans dk_list.symm)] at this
        exact this
  have e3 : ((s.extract 0 k).toList == [100, 111, 99, 107, 101, 114, 46, 105, 111]) = false := by
    cases e3 : ((s.extract 0 k).toList == [100, 111, 99, 107, 101, 114, 46, 105, 111])
    · rfl
    · rw [bytes_inj ((beq_iff_eq.1 e3).trans dk_list.symm), dk_pt] at hp; cases hp
  cases hl : ((low (s.extract 0 k)).toList == (s.extract 0 k).toList)
  · have hne : (s.extract 0 k).toList.isEmpty = false := by
      cases hz : (s.extract 0 k).toList.isEmpty
      · rfl
      · rw [empty_of hz, show low ⟨#[]⟩ = ⟨#[]⟩ from rfl, beq_self_eq_true] at hl; cases hl
    exact both_own s k hs hF hne e2 (fun s' w hs' k' hF' hl' hr => sd_big s' w hs' k' hF' _ _ hl' hr e1 e2 e3 hp hl)
  · refine both_hub s s (by omega) (fun w => ?_)
    cases hx : hasSl s
    · rw [rem_no hx]; exact sd_else_false s w (by omega) k hF _ _ rfl rfl e1 e2 hp hl hx
    · rw [rem_yes hx]; exact sd_else_true s w (by omega) k hF _ _ rfl rfl e1 e2 hp hl hx

theorem fnRefSplitAgain_walk (s : ByteArray) (w : World) (_hm : s.size ≤ maxLen) : Calls Try.prog 7 #[.string s] w fun e w' => e = .returned (.bool true) ∧ Below w.heap.size w w' := by
  by_cases hs : s.size ≤ 65436
  · obtain ⟨P, Q, h1, h2, h3, h4, h5, h6⟩ := both_any s hs
    exact again_law s P Q w h1 h2 hs h3 h4 h5 h6
  · exact again_long s w (by omega)
end Go.Proofs.Ytknjengnipidoaa
