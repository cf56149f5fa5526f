/- The specification's comparisons: ComparePart, ComparePre, Compare, walked. spec.Compare, tildeNumbers, caretNumbers, walked. spec.Compares at = and ^, snWant, walked. The law FnSemverCaretHolds, walked. The law FnSemverEqualHolds, walked. The laws FnSemverCaretHolds and FnSemverEqualHolds: the plain laws, and the ways joined. -/
import Derived.Test.YtmlbjcdildaldaaDoorNextQ
import Derived.Test.YtmlbjcdildaldaaDoorPreC
import Derived.Test.YtmlbjcdildaldaaDoorVerC
import Derived.Test.YtmlbjcdildaldaaDoorNumFirst
import Derived.Test.YtmlbjcdildaldaaDoorGrow
import Derived.BigQuiet
import Derived.Test.YtmlbjcdildaldaaDoorAsked
import Derived.Test.YtmlbjcdildaldaaDoorLetIn
import Derived.WalkLawsBesides
set_option linter.unusedVariables false
set_option linter.unusedSimpArgs false
namespace Go.Proofs.YtmlbjcdildaldaaDoor
open Go.RowKit

theorem wrap_len {n : Nat} (h : n ≤ 9223372036854775807) : IntKind.u64.wrap (n : Int) = (n : Int) := IntWalk.u64_in _ (by omega)

set_option maxHeartbeats 800000 in
theorem specPart_any (s o : ByteArray) (w : World) (hs : s.size ≤ 2147483647) (ho : o.size ≤ 2147483647) :
    Calls Tryd.prog 122 #[.string s, .string o] w fun e w' => e = .returned (.int .i64 (cps s.toList o.toList)) ∧ w = w' := by
  have es : s.toList.length = s.size := by rw [ByteArray.toList_eq]; simp
  have eo : o.toList.length = o.size := by rw [ByteArray.toList_eq]; simp
  have HES := hid es
  have HEO := hid eo
  clear es eo
  have ws := wrap_len (n := s.size) (by omega)
  have wo := wrap_len (n := o.size) (by omega)
  cases he : (s.toList == o.toList)
  · have hne : s.toList ≠ o.toList := by simpa using he
    have HNE := hid hne
    clear hne
    cases ds : digs s.toList
    · cases d : digs o.toList
      · cases hl : Go.Op.bytesLess s.toList o.toList
        · go_enter Tryd.func122, Tryd.ntmps122
          go_wp2_with (first | (go_at_call_of 87 (Value.string s); refine (digits_any s _ hs).mono ?_; rintro e w' ⟨rfl, rfl⟩) | (go_at_call_of 87 (Value.string o); refine (digits_any o _ ho).mono ?_; rintro e w' ⟨rfl, rfl⟩))
          go_ret
          exact ⟨ret_i (by rw [cps_words _ _ HNE.out ds d, hl]; rfl), rfl⟩
        · go_enter Tryd.func122, Tryd.ntmps122
          go_wp2_with (first | (go_at_call_of 87 (Value.string s); refine (digits_any s _ hs).mono ?_; rintro e w' ⟨rfl, rfl⟩) | (go_at_call_of 87 (Value.string o); refine (digits_any o _ ho).mono ?_; rintro e w' ⟨rfl, rfl⟩))
          go_ret
          exact ⟨ret_i (by rw [cps_words _ _ HNE.out ds d, hl]; rfl), rfl⟩
      · go_enter Tryd.func122, Tryd.ntmps122
        go_wp2_with (first | (go_at_call_of 87 (Value.string s); refine (digits_any s _ hs).mono ?_; rintro e w' ⟨rfl, rfl⟩) | (go_at_call_of 87 (Value.string o); refine (digits_any o _ ho).mono ?_; rintro e w' ⟨rfl, rfl⟩))
        go_ret
        exact ⟨ret_i (cps_high _ _ ds d).symm, rfl⟩
    · cases d : digs o.toList
      · go_enter Tryd.func122, Tryd.ntmps122
        go_wp2_with (first | (go_at_call_of 87 (Value.string s); refine (digits_any s _ hs).mono ?_; rintro e w' ⟨rfl, rfl⟩) | (go_at_call_of 87 (Value.string o); refine (digits_any o _ ho).mono ?_; rintro e w' ⟨rfl, rfl⟩))
        go_ret
        exact ⟨ret_i (cps_low _ _ ds d).symm, rfl⟩
      · rcases Nat.lt_trichotomy s.size o.size with hl | hl | hl
        · have h1 : ((s.size : Int) != (o.size : Int)) = true := by rw [bne_iff_ne]; omega
          have hi : (s.size : Int) < (o.size : Int) := by omega
          go_enter Tryd.func122, Tryd.ntmps122
          go_wp2_with (first | (go_at_call_of 87 (Value.string s); refine (digits_any s _ hs).mono ?_; rintro e w' ⟨rfl, rfl⟩) | (go_at_call_of 87 (Value.string o); refine (digits_any o _ ho).mono ?_; rintro e w' ⟨rfl, rfl⟩) | (go_at_call 57; refine (order_any _ _ _).mono ?_; rintro e w' ⟨rfl, rfl⟩))
          go_ret
          exact ⟨ret_i (by rw [cps_num _ _ HNE.out ds d, HES.out, HEO.out, if_pos hl]; unfold segC; rw [if_pos (by omega)]), rfl⟩
        · have h1 : ((s.size : Int) != (o.size : Int)) = false := by simp [hl]
          have hz1 : ¬ s.size < o.size := by omega
          have hz2 : ¬ o.size < s.size := by omega
          have HL := hid hl
          clear hl
          cases hb : Go.Op.bytesLess s.toList o.toList
          · go_enter Tryd.func122, Tryd.ntmps122
            go_wp2_with (first | (go_at_call_of 87 (Value.string s); refine (digits_any s _ hs).mono ?_; rintro e w' ⟨rfl, rfl⟩) | (go_at_call_of 87 (Value.string o); refine (digits_any o _ ho).mono ?_; rintro e w' ⟨rfl, rfl⟩))
            go_ret
            exact ⟨ret_i (by rw [cps_num _ _ HNE.out ds d, HES.out, HEO.out, if_neg hz1, if_neg hz2, hb]; rfl), rfl⟩
          · go_enter Tryd.func122, Tryd.ntmps122
            go_wp2_with (first | (go_at_call_of 87 (Value.string s); refine (digits_any s _ hs).mono ?_; rintro e w' ⟨rfl, rfl⟩) | (go_at_call_of 87 (Value.string o); refine (digits_any o _ ho).mono ?_; rintro e w' ⟨rfl, rfl⟩))
            go_ret
            exact ⟨ret_i (by rw [cps_num _ _ HNE.out ds d, HES.out, HEO.out, if_neg hz1, if_neg hz2, hb]; rfl), rfl⟩
        · have h1 : ((s.size : Int) != (o.size : Int)) = true := by rw [bne_iff_ne]; omega
          have hi : (o.size : Int) < (s.size : Int) := by omega
          have hz1 : ¬ s.size < o.size := by omega
          have hi2 : ¬ (s.size : Int) < (o.size : Int) := by omega
          go_enter Tryd.func122, Tryd.ntmps122
          go_wp2_with (first | (go_at_call_of 87 (Value.string s); refine (digits_any s _ hs).mono ?_; rintro e w' ⟨rfl, rfl⟩) | (go_at_call_of 87 (Value.string o); refine (digits_any o _ ho).mono ?_; rintro e w' ⟨rfl, rfl⟩) | (go_at_call 57; refine (order_any _ _ _).mono ?_; rintro e w' ⟨rfl, rfl⟩))
          go_ret
          exact ⟨ret_i (by rw [cps_num _ _ HNE.out ds d, HES.out, HEO.out, if_neg hz1, if_pos hl]; unfold segC; rw [if_neg (by omega), if_pos (by omega)]), rfl⟩
  · have heq : s.toList = o.toList := by simpa using he
    have HEQ := hid heq
    clear heq
    go_enter Tryd.func122, Tryd.ntmps122
    go_wp2_with fail
    go_ret
    exact ⟨ret_i (by unfold cps; rw [if_pos HEQ.out]), rfl⟩

/-- Of two lists of identifiers the first that differ decide, by clause 11. -/
def lexS : List (List UInt8) → List (List UInt8) → Int
  | [], [] => 0
  | [], _ :: _ => -1
  | _ :: _, [] => 1
  | x :: xs, y :: ys => if cps x y = 0 then lexS xs ys else cps x y
def specC (p q : List UInt8) : Int := if p = q then 0 else if p = [] then 1 else if q = [] then -1 else lexS (cut 46 p) (cut 46 q)
theorem lexS_step (xs ys : List (List UInt8)) (k : Nat) (hx : k < xs.length) (hy : k < ys.length) : lexS (xs.drop k) (ys.drop k) = if cps xs[k] ys[k] = 0 then lexS (xs.drop (k + 1)) (ys.drop (k + 1)) else cps xs[k] ys[k] := by
  rw [List.drop_eq_getElem_cons hx, List.drop_eq_getElem_cons hy]
  rfl
theorem lexS_end (xs ys : List (List UInt8)) (k : Nat) (hx : k ≤ xs.length) (hy : k ≤ ys.length) (h : ¬ (k < xs.length ∧ k < ys.length)) : lexS (xs.drop k) (ys.drop k) = segC (xs.length : Int) (ys.length : Int) := by
  unfold segC
  by_cases h1 : k < xs.length
  · have h2 : ys.drop k = [] := List.drop_eq_nil_of_le (by omega)
    rw [h2, List.drop_eq_getElem_cons h1, if_neg (by omega), if_pos (by omega)]
    rfl
  · have h2 : xs.drop k = [] := List.drop_eq_nil_of_le (by omega)
    rw [h2]
    by_cases h3 : k < ys.length
    · rw [List.drop_eq_getElem_cons h3, if_pos (by omega)]
      rfl
    · rw [List.drop_eq_nil_of_le (by omega : ys.length ≤ k), if_neg (by omega), if_neg (by omega)]
      rfl

theorem part_size2 (xs : List ByteArray) (s : ByteArray) (h : xs.map (·.toList) = cut 46 s.toList) (hs : s.size ≤ 2147483647) (x : ByteArray) (hx : x ∈ xs) : x.size ≤ 2147483647 := by
  obtain ⟨k, hk, rfl⟩ := List.mem_iff_getElem.1 hx
  have h1 := atP_size xs s h k hs
  have h2 := atP_in xs k hk
  rw [List.getElem?_eq_getElem hk] at h2
  injection h2 with h2
  rw [h2]
  exact h1

set_option maxHeartbeats 1600000 in
set_option maxRecDepth 100000 in
theorem specPre_any (p o : ByteArray) (w : World) (hp : p.size ≤ 2147483647) (ho : o.size ≤ 2147483647) :
    Calls Tryd.prog 117 #[.string p, .string o] w fun e w' => e = .returned (.int .i64 (specC p.toList o.toList)) ∧ Below w.heap.size w w' := by
  cases he : (p.toList == o.toList)
  · have hne : p.toList ≠ o.toList := by simpa using he
    have HNE := hid hne
    clear hne
    cases h1 : p.toList.isEmpty
    · cases h2 : o.toList.isEmpty
      · have n1 : p.toList ≠ [] := by simpa using h1
        have n2 : o.toList ≠ [] := by simpa using h2
        have HSC := hid (show specC p.toList o.toList = lexS (cut 46 p.toList) (cut 46 o.toList) by unfold specC; rw [if_neg HNE.out, if_neg n1, if_neg n2])
        clear n1 n2
        go_enter Tryd.func117, Tryd.ntmps117
        go_wp2_with fail
        go_at_call 86
        refine (identifiers_any p _ hp).mono ?_
        rintro e w1 ⟨xs, g, c, rfl, hx, hst, hb1⟩
        have HX := hid hx
        have HS1 := hid hst
        have HB1 := hid hb1
        clear hx hst hb1
        go_wp2_with fail
        go_at_call 86
        refine (identifiers_any o _ ho).mono ?_
        rintro e w2 ⟨ys, h, d, rfl, hy, hst, hb⟩
        have HY := hid hy
        have HS := hid (HS1.out.below hb)
        have HT := hid hst
        have HB := hid (HB1.out.trans (hb.mono HB1.out.size))
        have lx := parts_len xs p HX.out
        have ly := parts_len ys o HY.out
        have LX := hid (show (cut 46 p.toList).length = xs.length by rw [← HX.out, List.length_map])
        have LY := hid (show (cut 46 o.toList).length = ys.length by rw [← HY.out, List.length_map])
        have GX := hid (show ∀ k (hk : k < xs.length), ∃ h', (cut 46 p.toList)[k]'h' = xs[k].toList from fun k hk => ⟨by rw [LX.out]; exact hk, by simp only [← HX.out, List.getElem_map]⟩)
        have GY := hid (show ∀ k (hk : k < ys.length), ∃ h', (cut 46 o.toList)[k]'h' = ys[k].toList from fun k hk => ⟨by rw [LY.out]; exact hk, by simp only [← HY.out, List.getElem_map]⟩)
        have ZX := hid (show ∀ k (hk : k < xs.length), xs[k].size ≤ 2147483647 from fun k hk => part_size2 xs p HX.out hp _ (List.getElem_mem hk))
        have ZY := hid (show ∀ k (hk : k < ys.length), ys[k].size ≤ 2147483647 from fun k hk => part_size2 ys o HY.out ho _ (List.getElem_mem hk))
        have wx := wrap_len (n := xs.length) (by omega)
        have wy := wrap_len (n := ys.length) (by omega)
        clear hy hst hb
        go_wp2_with fail
        go_loopw [7] (fun i wr => ∃ k : Nat, k ≤ xs.length ∧ k ≤ ys.length ∧ i = .int .i64 k ∧ lexS (cut 46 p.toList) (cut 46 o.toList) = lexS ((cut 46 p.toList).drop k) ((cut 46 o.toList).drop k) ∧ Below w2.heap.size w2 wr) (fun i _ => xs.length - (intOf i).toNat)
        case atStart => exact ⟨0, Nat.zero_le _, Nat.zero_le _, rfl, rfl, Below.refl _ _⟩
        case round =>
          obtain ⟨k, hkx, hky, rfl, hz, hb⟩ := hrel
          have HZ := hid hz
          have HR := hid hb
          clear hz hb
          by_cases hlt : k < xs.length ∧ k < ys.length
          · obtain ⟨a1, a2⟩ := hlt
            have ha := (HS.out.below HR.out) k xs[k] (List.getElem?_eq_getElem a1)
            have hb' := (HT.out.below HR.out) k ys[k] (List.getElem?_eq_getElem a2)
            have hst : lexS (cut 46 p.toList) (cut 46 o.toList) = if cps xs[k].toList ys[k].toList = 0 then lexS ((cut 46 p.toList).drop (k + 1)) ((cut 46 o.toList).drop (k + 1)) else cps xs[k].toList ys[k].toList := by
              obtain ⟨b1, e1⟩ := GX.out k a1
              obtain ⟨b2, e2⟩ := GY.out k a2
              rw [HZ.out, lexS_step _ _ k b1 b2, e1, e2]
            have HST := hid hst
            have zx := ZX.out k a1
            have zy := ZY.out k a2
            clear hst
            generalize xs[k] = x at *
            generalize ys[k] = y at *
            have kx := fun d os => cell_regrown ha d os
            have ky := fun d os => cell_regrown hb' d os
            have C1 := hid (fun d os => Calls.regrown_of ((specPart_any x y (Go.Sort.grow (redrawn wr d) os) zx zy).mono fun _ _ ⟨h, e⟩ => ⟨h, e ▸ Below.refl _ _⟩))
            have hi0 : (0 : Int) ≤ (k : Int) := by omega
            have hix : (k : Int) < (xs.length : Int) := by omega
            have hiy : (k : Int) < (ys.length : Int) := by omega
            clear zx zy
            generalize hn : cps x.toList y.toList = n at *
            clear hn
            cases h0 : (n == 0)
            · have h0n : (n != 0) = true := by simp [bne, h0]
              go_wp2_with fail
              refine wp_region_quiet_below (by kernel_rfl) (by kernel_rfl) ?_
              repeat (go_big_quiet_step ((go_at_call 122; exact C1.out _ _)))
              refine wpQuiet_nil ?_
              intro _ hw'
              obtain ⟨⟨dq, osq⟩, hw''⟩ := hw'
              subst hw''
              go_wp2_with fail
              go_ret
              exact ⟨ret_i (by rw [HSC.out, HST.out, if_neg (by simpa using h0)]), bt1 HB.out (bt1 HR.out (below_regrown _ _ _))⟩
            · have h0n : (n != 0) = false := by simp [bne, h0]
              go_wp2_with fail
              refine wp_region_quiet_below (by kernel_rfl) (by kernel_rfl) ?_
              repeat (go_big_quiet_step ((go_at_call 122; exact C1.out _ _)))
              refine wpQuiet_nil ?_
              intro _ hw'
              obtain ⟨⟨dq, osq⟩, hw''⟩ := hw'
              subst hw''
              go_wp2_with fail
              go_roundw
              case rel => exact ⟨k + 1, by omega, by omega, by go_num, by rw [HST.out, if_pos (by simpa using h0)], bt1 HR.out (below_regrown _ _ _)⟩
              case measure => simp [intOf]; omega
          · have hend := lexS_end (cut 46 p.toList) (cut 46 o.toList) k (by rw [LX.out]; exact hkx) (by rw [LY.out]; exact hky) (by rw [LX.out, LY.out]; exact hlt)
            rw [LX.out, LY.out] at hend
            have HE := hid (HSC.out.trans (HZ.out.trans hend))
            clear hend
            by_cases a1 : k < xs.length
            · have a2 : ¬ k < ys.length := fun h => hlt ⟨a1, h⟩
              go_wp2_with (go_at_call 57; refine (order_any _ _ _).mono ?_; rintro e w' ⟨rfl, rfl⟩)
              go_ret
              exact ⟨ret_i HE.out.symm, bt1 HB.out HR.out⟩
            · go_wp2_with (go_at_call 57; refine (order_any _ _ _).mono ?_; rintro e w' ⟨rfl, rfl⟩)
              go_ret
              exact ⟨ret_i HE.out.symm, bt1 HB.out HR.out⟩
      · have n2 : o.toList = [] := by simpa using h2
        have n1 : p.toList ≠ [] := by simpa using h1
        have HSC := hid (show specC p.toList o.toList = -1 by unfold specC; rw [if_neg HNE.out, if_neg n1, if_pos n2])
        clear n1 n2
        go_enter Tryd.func117, Tryd.ntmps117
        go_wp2_with fail
        go_ret
        exact ⟨ret_i HSC.out.symm, Below.refl _ _⟩
    · have n1 : p.toList = [] := by simpa using h1
      have HSC := hid (show specC p.toList o.toList = 1 by unfold specC; rw [if_neg HNE.out, if_pos n1])
      clear n1
      go_enter Tryd.func117, Tryd.ntmps117
      go_wp2_with fail
      go_ret
      exact ⟨ret_i HSC.out.symm, Below.refl _ _⟩
  · have heq : p.toList = o.toList := by simpa using he
    have HSC := hid (show specC p.toList o.toList = 0 by unfold specC; rw [if_pos heq])
    clear heq
    go_enter Tryd.func117, Tryd.ntmps117
    go_wp2_with fail
    go_ret
    exact ⟨ret_i HSC.out.symm, Below.refl _ _⟩
end Go.Proofs.YtmlbjcdildaldaaDoor

set_option linter.unusedVariables false
set_option linter.unusedSimpArgs false
namespace Go.Proofs.YtmlbjcdildaldaaDoor
open Go.RowKit

def specV (n : Int) (p q : List UInt8) : Int := if n = 0 then specC p q else n
theorem lexL_lexS : ∀ (xs ys : List (List UInt8)), (∀ x ∈ xs, Okid x) → (∀ y ∈ ys, Okid y) → lexL xs ys = lexS xs ys
  | [], [], _, _ => rfl
  | [], _ :: _, _, _ => rfl
  | _ :: _, [], _, _ => rfl
  | x :: xs, y :: ys, hx, hy => by
    have e := cpp_eq x y (hx x (.head _)) (hy y (.head _))
    simp only [lexL, lexS, e]
    rw [lexL_lexS xs ys (fun z hz => hx z (.tail _ hz)) (fun z hz => hy z (.tail _ hz))]
theorem specC_pre (p q : List UInt8) (hp : p ≠ [] → ∀ x ∈ cut 46 p, Okid x) (hq : q ≠ [] → ∀ x ∈ cut 46 q, Okid x) : specC p q = preCmp p q := by
  unfold specC
  by_cases h : p = q
  · rw [if_pos h, h, preCmp_self]
  · rw [if_neg h]
    unfold preCmp
    by_cases h1 : p = []
    · have h2 : q ≠ [] := fun e => h (h1.trans e.symm)
      rw [if_pos h1, if_pos h1, if_neg h2]
    · rw [if_neg h1, if_neg h1]
      by_cases h2 : q = []
      · rw [if_pos h2, if_pos h2]
      · rw [if_neg h2, if_neg h2, preC_lex p q (hp h1) (fun x hx => (hq h2 x hx).ne), lexL_lexS _ _ (hp h1) (hq h2)]

set_option maxRecDepth 100000 in
theorem specCompare_any (a b c : Int) (p m : ByteArray) (a' b' c' : Int) (p' m' : ByteArray) (w : World) (hp : p.size ≤ 2147483647) (hp' : p'.size ≤ 2147483647) :
    Calls Tryd.prog 100 #[.agg (scells a b c p m), .agg (scells a' b' c' p' m')] w fun e w' => e = .returned (.int .i64 (specV (num3 a b c a' b' c') p.toList p'.toList)) ∧ Below w.heap.size w w' := by
  have hn := numbers_any a b c p m a' b' c' p' m' 3 (by omega)
  rw [first3] at hn
  have HN := hid hn
  clear hn
  obtain ⟨q1, q2⟩ := two_new w (scells a b c p m) (scells a' b' c' p' m') 27 27
  have Q1 := hid q1
  have Q2 := hid q2
  have HW := hid (show Below w.heap.size w ((w.alloc (.cells (scells a b c p m) 27)).alloc (.cells (scells a' b' c' p' m') 27)) by go_grown)
  clear q1 q2
  have e : num3 a b c a' b' c' = (if segC a a' = 0 then (if segC b b' = 0 then segC c c' else segC b b') else segC a a') := rfl
  rw [← e] at HN
  clear e
  generalize num3 a b c a' b' c' = n at *
  cases h0 : (n == 0)
  · have h0n : (n != 0) = true := by simp [bne, h0]
    go_enter Tryd.func100, Tryd.ntmps100
    go_wp2_with fail
    go_at_call 18
    refine (HN.out _).mono ?_
    rintro e w1 ⟨rfl, hb⟩
    have B1 := hid (bt HW.out hb)
    clear hb
    go_wp2_with fail
    go_ret
    exact ⟨ret_i (by unfold specV; rw [if_neg (by simpa using h0)]), B1.out⟩
  · have h0n : (n != 0) = false := by simp [bne, h0]
    go_enter Tryd.func100, Tryd.ntmps100
    go_wp2_with fail
    go_at_call 18
    refine (HN.out _).mono ?_
    rintro e w1 ⟨rfl, hb⟩
    have x3 : w1.cell? ⟨w.heap.size, 3, none⟩ = some (.string p) := (Q1.out.below hb).cell 3
    have y3 : w1.cell? ⟨w.heap.size + 1, 3, none⟩ = some (.string p') := (Q2.out.below hb).cell 3
    have B1 := hid (bt HW.out hb)
    clear hb
    go_wp2_with fail
    go_at_call 117
    refine (specPre_any p p' _ hp hp').mono ?_
    rintro e w2 ⟨rfl, hb⟩
    have B2 := hid (bt B1.out hb)
    clear hb
    go_wp2_with fail
    go_ret
    exact ⟨ret_i (by unfold specV; rw [if_pos (by simpa using h0)]), B2.out⟩

theorem tildeN_any (o : Int) (k : Nat) (hk : k ≤ 3) (a b c : Int) (p : ByteArray) (w : World) :
    Calls Tryd.prog 101 #[.agg #[.int .i64 o, .int .i64 k, .int .u64 a, .int .u64 b, .int .u64 c, .string p]] w fun e w' => e = .returned (.int .i64 ((min 2 k : Nat) : Int)) ∧ Below w.heap.size w w' := by
  obtain rfl | rfl | rfl | rfl : k = 0 ∨ k = 1 ∨ k = 2 ∨ k = 3 := by omega
  all_goals
    go_enter Tryd.func101, Tryd.ntmps101
    go_wp2_with fail
    go_ret
    exact ⟨rfl, by go_grown⟩

def caretN (k : Nat) (a b c : Int) : Nat := if a ≠ 0 then 1 else if b ≠ 0 then 2 else if c ≠ 0 then 3 else k
theorem caretN_a (o k : Int) (a b c : Int) (p : ByteArray) (w : World) (h : (a != 0) = true) :
    Calls Tryd.prog 102 #[.agg #[.int .i64 o, .int .i64 k, .int .u64 a, .int .u64 b, .int .u64 c, .string p]] w fun e w' => e = .returned (.int .i64 1) ∧ Below w.heap.size w w' := by
  go_enter Tryd.func102, Tryd.ntmps102
  go_wp2_with fail
  go_rounds 4
  all_goals (go_ret; exact ⟨rfl, by go_grown⟩)
theorem caretN_b (o k : Int) (a b c : Int) (p : ByteArray) (w : World) (h : (a != 0) = false) (h2 : (b != 0) = true) :
    Calls Tryd.prog 102 #[.agg #[.int .i64 o, .int .i64 k, .int .u64 a, .int .u64 b, .int .u64 c, .string p]] w fun e w' => e = .returned (.int .i64 2) ∧ Below w.heap.size w w' := by
  go_enter Tryd.func102, Tryd.ntmps102
  go_wp2_with fail
  go_rounds 4
  all_goals (go_ret; exact ⟨rfl, by go_grown⟩)
theorem caretN_c (o k : Int) (a b c : Int) (p : ByteArray) (w : World) (h : (a != 0) = false) (h2 : (b != 0) = false) (h3 : (c != 0) = true) :
    Calls Tryd.prog 102 #[.agg #[.int .i64 o, .int .i64 k, .int .u64 a, .int .u64 b, .int .u64 c, .string p]] w fun e w' => e = .returned (.int .i64 3) ∧ Below w.heap.size w w' := by
  go_enter Tryd.func102, Tryd.ntmps102
  go_wp2_with fail
  go_rounds 4
  all_goals (go_ret; exact ⟨rfl, by go_grown⟩)
theorem caretN_k (o k : Int) (a b c : Int) (p : ByteArray) (w : World) (h : (a != 0) = false) (h2 : (b != 0) = false) (h3 : (c != 0) = false) :
    Calls Tryd.prog 102 #[.agg #[.int .i64 o, .int .i64 k, .int .u64 a, .int .u64 b, .int .u64 c, .string p]] w fun e w' => e = .returned (.int .i64 k) ∧ Below w.heap.size w w' := by
  go_enter Tryd.func102, Tryd.ntmps102
  go_wp2_with fail
  go_rounds 4
  all_goals (go_ret; exact ⟨rfl, by go_grown⟩)
theorem caretN_any (o : Int) (k : Nat) (a b c : Int) (p : ByteArray) (w : World) :
    Calls Tryd.prog 102 #[.agg #[.int .i64 o, .int .i64 k, .int .u64 a, .int .u64 b, .int .u64 c, .string p]] w fun e w' => e = .returned (.int .i64 ((caretN k a b c : Nat) : Int)) ∧ Below w.heap.size w w' := by
  by_cases ha : a ≠ 0
  · have e : caretN k a b c = 1 := by unfold caretN; rw [if_pos ha]
    rw [e]
    exact caretN_a o k a b c p w (by simpa using ha)
  · have ha' : (a != 0) = false := by simpa using ha
    by_cases hb : b ≠ 0
    · have e : caretN k a b c = 2 := by unfold caretN; rw [if_neg ha, if_pos hb]
      rw [e]
      exact caretN_b o k a b c p w ha' (by simpa using hb)
    · have hb' : (b != 0) = false := by simpa using hb
      by_cases hc : c ≠ 0
      · have e : caretN k a b c = 3 := by unfold caretN; rw [if_neg ha, if_neg hb, if_pos hc]
        rw [e]
        exact caretN_c o k a b c p w ha' hb' (by simpa using hc)
      · have e : caretN k a b c = k := by unfold caretN; rw [if_neg ha, if_neg hb, if_neg hc]
        rw [e]
        exact caretN_k o k a b c p w ha' hb' (by simpa using hc)
end Go.Proofs.YtmlbjcdildaldaaDoor

set_option linter.unusedVariables false
set_option linter.unusedSimpArgs false
namespace Go.Proofs.YtmlbjcdildaldaaDoor
open Go.RowKit

set_option maxHeartbeats 800000 in
set_option maxRecDepth 100000 in
theorem cmp0_3t (k : Nat) (a b c : Int) (p : ByteArray) (a' b' c' : Int) (p' m' : ByteArray) (V n1 n2 : Int) (w : World) (hcmp : ∀ W, Calls Tryd.prog 100 #[.agg (scells a' b' c' p' m'), .agg (scells a b c p ByteArray.empty)] W fun e w' => e = .returned (.int .i64 V) ∧ Below W.heap.size W w') (hcn : ∀ W, Calls Tryd.prog 18 #[.agg (scells a' b' c' p' m'), .agg (scells a b c p ByteArray.empty), .int .i64 (k : Int)] W fun e w' => e = .returned (.int .i64 n1) ∧ Below W.heap.size W w') (hcar : ∀ W, Calls Tryd.prog 18 #[.agg (scells a' b' c' p' m'), .agg (scells a b c p ByteArray.empty), .int .i64 ((caretN k a b c : Nat) : Int)] W fun e w' => e = .returned (.int .i64 n2) ∧ Below W.heap.size W w') (hk3 : ((k : Int) == 3) = true) (hV : (V == 0) = true) :
    Calls Tryd.prog 70 #[.agg #[.int .i64 0, .int .i64 (k : Int), .int .u64 a, .int .u64 b, .int .u64 c, .string p], .agg (scells a' b' c' p' m')] w fun e w' => e = .returned (.bool true) ∧ Below w.heap.size w w' := by
  have B := hid (show Below w.heap.size w ((w.alloc (.cells #[.int .i64 0, .int .i64 (k : Int), .int .u64 a, .int .u64 b, .int .u64 c, .string p] 36)).alloc (.cells #[.int .u64 a', .int .u64 b', .int .u64 c', .string p', .string m'] 27)) by go_grown)
  have Z := hid (show w.heap.size + 2 ≤ ((w.alloc (.cells #[.int .i64 0, .int .i64 (k : Int), .int .u64 a, .int .u64 b, .int .u64 c, .string p] 36)).alloc (.cells #[.int .u64 a', .int .u64 b', .int .u64 c', .string p', .string m'] 27)).heap.size by simp only [World.size_alloc]; omega)
  obtain ⟨qa, qb⟩ := two_new w (#[.int .i64 0, .int .i64 (k : Int), .int .u64 a, .int .u64 b, .int .u64 c, .string p]) (#[.int .u64 a', .int .u64 b', .int .u64 c', .string p', .string m']) 36 27
  have Qa := hid qa
  have Qb := hid qb
  clear qa qb
  have HC := hid hcmp
  clear hcmp
  have HN := hid hcn
  clear hcn
  have HR := hid hcar
  clear hcar
  go_enter Tryd.func70, Tryd.ntmps70
  go_wp2_with fail
  go_at_call 31
  refine (leastV_any _ _ a b c p _).mono ?_
  rintro e w1 ⟨rfl, hb⟩
  replace Qa := hid ((Qa.out).below hb)
  replace Qb := hid ((Qb.out).below hb)
  replace Z := hid (Nat.le_trans (Nat.le_trans Z.out (by first | exact Nat.le_refl _ | omega | (simp only [World.size_alloc, World.size_drew]; omega))) hb.size)
  replace B := hid (bt B.out hb)
  clear hb
  have xa0 : w1.cell? ⟨w.heap.size, 0, none⟩ = some (.int .i64 0) := Qa.out.cell 0
  have xa1 : w1.cell? ⟨w.heap.size, 1, none⟩ = some (.int .i64 (k : Int)) := Qa.out.cell 1
  have xa2 : w1.cell? ⟨w.heap.size, 2, none⟩ = some (.int .u64 a) := Qa.out.cell 2
  have xa3 : w1.cell? ⟨w.heap.size, 3, none⟩ = some (.int .u64 b) := Qa.out.cell 3
  have xa4 : w1.cell? ⟨w.heap.size, 4, none⟩ = some (.int .u64 c) := Qa.out.cell 4
  have xa5 : w1.cell? ⟨w.heap.size, 5, none⟩ = some (.string p) := Qa.out.cell 5
  have xb0 : w1.cell? ⟨w.heap.size + 1, 0, none⟩ = some (.int .u64 a') := Qb.out.cell 0
  have xb1 : w1.cell? ⟨w.heap.size + 1, 1, none⟩ = some (.int .u64 b') := Qb.out.cell 1
  have xb2 : w1.cell? ⟨w.heap.size + 1, 2, none⟩ = some (.int .u64 c') := Qb.out.cell 2
  have xb3 : w1.cell? ⟨w.heap.size + 1, 3, none⟩ = some (.string p') := Qb.out.cell 3
  have xb4 : w1.cell? ⟨w.heap.size + 1, 4, none⟩ = some (.string m') := Qb.out.cell 4
  have hz0 : w.heap.size < w1.heap.size := by have := Z.out; omega
  have hz1 : w.heap.size + 1 < w1.heap.size := by have := Z.out; omega
  go_wp2_with fail
  go_at_call 18
  refine (HN.out _).mono ?_
  rintro e w2 ⟨rfl, hb⟩
  replace Qa := hid (((Qa.out.alloc _)).below hb)
  replace Qb := hid (((Qb.out.alloc _)).below hb)
  have Ql := hid (((Blk.new _ _ _)).below hb)
  replace Z := hid (Nat.le_trans (Nat.le_trans Z.out (by first | exact Nat.le_refl _ | omega | (simp only [World.size_alloc, World.size_drew]; omega))) hb.size)
  replace B := hid (bt (B.out.alloc (by have := B.out.size; first | omega | (simp only [World.size_alloc]; omega)) _) hb)
  clear hb
  have xa0 : w2.cell? ⟨w.heap.size, 0, none⟩ = some (.int .i64 0) := Qa.out.cell 0
  have xa1 : w2.cell? ⟨w.heap.size, 1, none⟩ = some (.int .i64 (k : Int)) := Qa.out.cell 1
  have xa2 : w2.cell? ⟨w.heap.size, 2, none⟩ = some (.int .u64 a) := Qa.out.cell 2
  have xa3 : w2.cell? ⟨w.heap.size, 3, none⟩ = some (.int .u64 b) := Qa.out.cell 3
  have xa4 : w2.cell? ⟨w.heap.size, 4, none⟩ = some (.int .u64 c) := Qa.out.cell 4
  have xa5 : w2.cell? ⟨w.heap.size, 5, none⟩ = some (.string p) := Qa.out.cell 5
  have xb0 : w2.cell? ⟨w.heap.size + 1, 0, none⟩ = some (.int .u64 a') := Qb.out.cell 0
  have xb1 : w2.cell? ⟨w.heap.size + 1, 1, none⟩ = some (.int .u64 b') := Qb.out.cell 1
  have xb2 : w2.cell? ⟨w.heap.size + 1, 2, none⟩ = some (.int .u64 c') := Qb.out.cell 2
  have xb3 : w2.cell? ⟨w.heap.size + 1, 3, none⟩ = some (.string p') := Qb.out.cell 3
  have xb4 : w2.cell? ⟨w.heap.size + 1, 4, none⟩ = some (.string m') := Qb.out.cell 4
  have xl0 : w2.cell? ⟨w1.heap.size, 0, none⟩ = some (.int .u64 a) := Ql.out.cell 0
  have xl1 : w2.cell? ⟨w1.heap.size, 1, none⟩ = some (.int .u64 b) := Ql.out.cell 1
  have xl2 : w2.cell? ⟨w1.heap.size, 2, none⟩ = some (.int .u64 c) := Ql.out.cell 2
  have xl3 : w2.cell? ⟨w1.heap.size, 3, none⟩ = some (.string p) := Ql.out.cell 3
  have xl4 : w2.cell? ⟨w1.heap.size, 4, none⟩ = some (.string ByteArray.empty) := Ql.out.cell 4
  go_wp2_with fail
  go_at_call 100
  refine (HC.out _).mono ?_
  rintro e w3 ⟨rfl, hb⟩
  replace Qa := hid ((Qa.out).below hb)
  replace Qb := hid ((Qb.out).below hb)
  replace Ql := hid ((Ql.out).below hb)
  replace Z := hid (Nat.le_trans (Nat.le_trans Z.out (by first | exact Nat.le_refl _ | omega | (simp only [World.size_alloc, World.size_drew]; omega))) hb.size)
  replace B := hid (bt B.out hb)
  clear hb
  have xa0 : w3.cell? ⟨w.heap.size, 0, none⟩ = some (.int .i64 0) := Qa.out.cell 0
  have xa1 : w3.cell? ⟨w.heap.size, 1, none⟩ = some (.int .i64 (k : Int)) := Qa.out.cell 1
  have xa2 : w3.cell? ⟨w.heap.size, 2, none⟩ = some (.int .u64 a) := Qa.out.cell 2
  have xa3 : w3.cell? ⟨w.heap.size, 3, none⟩ = some (.int .u64 b) := Qa.out.cell 3
  have xa4 : w3.cell? ⟨w.heap.size, 4, none⟩ = some (.int .u64 c) := Qa.out.cell 4
  have xa5 : w3.cell? ⟨w.heap.size, 5, none⟩ = some (.string p) := Qa.out.cell 5
  have xb0 : w3.cell? ⟨w.heap.size + 1, 0, none⟩ = some (.int .u64 a') := Qb.out.cell 0
  have xb1 : w3.cell? ⟨w.heap.size + 1, 1, none⟩ = some (.int .u64 b') := Qb.out.cell 1
  have xb2 : w3.cell? ⟨w.heap.size + 1, 2, none⟩ = some (.int .u64 c') := Qb.out.cell 2
  have xb3 : w3.cell? ⟨w.heap.size + 1, 3, none⟩ = some (.string p') := Qb.out.cell 3
  have xb4 : w3.cell? ⟨w.heap.size + 1, 4, none⟩ = some (.string m') := Qb.out.cell 4
  have xl0 : w3.cell? ⟨w1.heap.size, 0, none⟩ = some (.int .u64 a) := Ql.out.cell 0
  have xl1 : w3.cell? ⟨w1.heap.size, 1, none⟩ = some (.int .u64 b) := Ql.out.cell 1
  have xl2 : w3.cell? ⟨w1.heap.size, 2, none⟩ = some (.int .u64 c) := Ql.out.cell 2
  have xl3 : w3.cell? ⟨w1.heap.size, 3, none⟩ = some (.string p) := Ql.out.cell 3
  have xl4 : w3.cell? ⟨w1.heap.size, 4, none⟩ = some (.string ByteArray.empty) := Ql.out.cell 4
  go_wp2_with fail
  go_ret
  exact ⟨rfl, B.out⟩

set_option maxHeartbeats 800000 in
set_option maxRecDepth 100000 in
theorem cmp0_3f (k : Nat) (a b c : Int) (p : ByteArray) (a' b' c' : Int) (p' m' : ByteArray) (V n1 n2 : Int) (w : World) (hcmp : ∀ W, Calls Tryd.prog 100 #[.agg (scells a' b' c' p' m'), .agg (scells a b c p ByteArray.empty)] W fun e w' => e = .returned (.int .i64 V) ∧ Below W.heap.size W w') (hcn : ∀ W, Calls Tryd.prog 18 #[.agg (scells a' b' c' p' m'), .agg (scells a b c p ByteArray.empty), .int .i64 (k : Int)] W fun e w' => e = .returned (.int .i64 n1) ∧ Below W.heap.size W w') (hcar : ∀ W, Calls Tryd.prog 18 #[.agg (scells a' b' c' p' m'), .agg (scells a b c p ByteArray.empty), .int .i64 ((caretN k a b c : Nat) : Int)] W fun e w' => e = .returned (.int .i64 n2) ∧ Below W.heap.size W w') (hk3 : ((k : Int) == 3) = true) (hV : (V == 0) = false) :
    Calls Tryd.prog 70 #[.agg #[.int .i64 0, .int .i64 (k : Int), .int .u64 a, .int .u64 b, .int .u64 c, .string p], .agg (scells a' b' c' p' m')] w fun e w' => e = .returned (.bool false) ∧ Below w.heap.size w w' := by
  have B := hid (show Below w.heap.size w ((w.alloc (.cells #[.int .i64 0, .int .i64 (k : Int), .int .u64 a, .int .u64 b, .int .u64 c, .string p] 36)).alloc (.cells #[.int .u64 a', .int .u64 b', .int .u64 c', .string p', .string m'] 27)) by go_grown)
  have Z := hid (show w.heap.size + 2 ≤ ((w.alloc (.cells #[.int .i64 0, .int .i64 (k : Int), .int .u64 a, .int .u64 b, .int .u64 c, .string p] 36)).alloc (.cells #[.int .u64 a', .int .u64 b', .int .u64 c', .string p', .string m'] 27)).heap.size by simp only [World.size_alloc]; omega)
  obtain ⟨qa, qb⟩ := two_new w (#[.int .i64 0, .int .i64 (k : Int), .int .u64 a, .int .u64 b, .int .u64 c, .string p]) (#[.int .u64 a', .int .u64 b', .int .u64 c', .string p', .string m']) 36 27
  have Qa := hid qa
  have Qb := hid qb
  clear qa qb
  have HC := hid hcmp
  clear hcmp
  have HN := hid hcn
  clear hcn
  have HR := hid hcar
  clear hcar
  go_enter Tryd.func70, Tryd.ntmps70
  go_wp2_with fail
  go_at_call 31
  refine (leastV_any _ _ a b c p _).mono ?_
  rintro e w1 ⟨rfl, hb⟩
  replace Qa := hid ((Qa.out).below hb)
  replace Qb := hid ((Qb.out).below hb)
  replace Z := hid (Nat.le_trans (Nat.le_trans Z.out (by first | exact Nat.le_refl _ | omega | (simp only [World.size_alloc, World.size_drew]; omega))) hb.size)
  replace B := hid (bt B.out hb)
  clear hb
  have xa0 : w1.cell? ⟨w.heap.size, 0, none⟩ = some (.int .i64 0) := Qa.out.cell 0
  have xa1 : w1.cell? ⟨w.heap.size, 1, none⟩ = some (.int .i64 (k : Int)) := Qa.out.cell 1
  have xa2 : w1.cell? ⟨w.heap.size, 2, none⟩ = some (.int .u64 a) := Qa.out.cell 2
  have xa3 : w1.cell? ⟨w.heap.size, 3, none⟩ = some (.int .u64 b) := Qa.out.cell 3
  have xa4 : w1.cell? ⟨w.heap.size, 4, none⟩ = some (.int .u64 c) := Qa.out.cell 4
  have xa5 : w1.cell? ⟨w.heap.size, 5, none⟩ = some (.string p) := Qa.out.cell 5
  have xb0 : w1.cell? ⟨w.heap.size + 1, 0, none⟩ = some (.int .u64 a') := Qb.out.cell 0
  have xb1 : w1.cell? ⟨w.heap.size + 1, 1, none⟩ = some (.int .u64 b') := Qb.out.cell 1
  have xb2 : w1.cell? ⟨w.heap.size + 1, 2, none⟩ = some (.int .u64 c') := Qb.out.cell 2
  have xb3 : w1.cell? ⟨w.heap.size + 1, 3, none⟩ = some (.string p') := Qb.out.cell 3
  have xb4 : w1.cell? ⟨w.heap.size + 1, 4, none⟩ = some (.string m') := Qb.out.cell 4
  have hz0 : w.heap.size < w1.heap.size := by have := Z.out; omega
  have hz1 : w.heap.size + 1 < w1.heap.size := by have := Z.out; omega
  go_wp2_with fail
  go_at_call 18
  refine (HN.out _).mono ?_
  rintro e w2 ⟨rfl, hb⟩
  replace Qa := hid (((Qa.out.alloc _)).below hb)
  replace Qb := hid (((Qb.out.alloc _)).below hb)
  have Ql := hid (((Blk.new _ _ _)).below hb)
  replace Z := hid (Nat.le_trans (Nat.le_trans Z.out (by first | exact Nat.le_refl _ | omega | (simp only [World.size_alloc, World.size_drew]; omega))) hb.size)
  replace B := hid (bt (B.out.alloc (by have := B.out.size; first | omega | (simp only [World.size_alloc]; omega)) _) hb)
  clear hb
  have xa0 : w2.cell? ⟨w.heap.size, 0, none⟩ = some (.int .i64 0) := Qa.out.cell 0
  have xa1 : w2.cell? ⟨w.heap.size, 1, none⟩ = some (.int .i64 (k : Int)) := Qa.out.cell 1
  have xa2 : w2.cell? ⟨w.heap.size, 2, none⟩ = some (.int .u64 a) := Qa.out.cell 2
  have xa3 : w2.cell? ⟨w.heap.size, 3, none⟩ = some (.int .u64 b) := Qa.out.cell 3
  have xa4 : w2.cell? ⟨w.heap.size, 4, none⟩ = some (.int .u64 c) := Qa.out.cell 4
  have xa5 : w2.cell? ⟨w.heap.size, 5, none⟩ = some (.string p) := Qa.out.cell 5
  have xb0 : w2.cell? ⟨w.heap.size + 1, 0, none⟩ = some (.int .u64 a') := Qb.out.cell 0
  have xb1 : w2.cell? ⟨w.heap.size + 1, 1, none⟩ = some (.int .u64 b') := Qb.out.cell 1
  have xb2 : w2.cell? ⟨w.heap.size + 1, 2, none⟩ = some (.int .u64 c') := Qb.out.cell 2
  have xb3 : w2.cell? ⟨w.heap.size + 1, 3, none⟩ = some (.string p') := Qb.out.cell 3
  have xb4 : w2.cell? ⟨w.heap.size + 1, 4, none⟩ = some (.string m') := Qb.out.cell 4
  have xl0 : w2.cell? ⟨w1.heap.size, 0, none⟩ = some (.int .u64 a) := Ql.out.cell 0
  have xl1 : w2.cell? ⟨w1.heap.size, 1, none⟩ = some (.int .u64 b) := Ql.out.cell 1
  have xl2 : w2.cell? ⟨w1.heap.size, 2, none⟩ = some (.int .u64 c) := Ql.out.cell 2
  have xl3 : w2.cell? ⟨w1.heap.size, 3, none⟩ = some (.string p) := Ql.out.cell 3
  have xl4 : w2.cell? ⟨w1.heap.size, 4, none⟩ = some (.string ByteArray.empty) := Ql.out.cell 4
  go_wp2_with fail
  go_at_call 100
  refine (HC.out _).mono ?_
  rintro e w3 ⟨rfl, hb⟩
  replace Qa := hid ((Qa.out).below hb)
  replace Qb := hid ((Qb.out).below hb)
  replace Ql := hid ((Ql.out).below hb)
  replace Z := hid (Nat.le_trans (Nat.le_trans Z.out (by first | exact Nat.le_refl _ | omega | (simp only [World.size_alloc, World.size_drew]; omega))) hb.size)
  replace B := hid (bt B.out hb)
  clear hb
  have xa0 : w3.cell? ⟨w.heap.size, 0, none⟩ = some (.int .i64 0) := Qa.out.cell 0
  have xa1 : w3.cell? ⟨w.heap.size, 1, none⟩ = some (.int .i64 (k : Int)) := Qa.out.cell 1
  have xa2 : w3.cell? ⟨w.heap.size, 2, none⟩ = some (.int .u64 a) := Qa.out.cell 2
  have xa3 : w3.cell? ⟨w.heap.size, 3, none⟩ = some (.int .u64 b) := Qa.out.cell 3
  have xa4 : w3.cell? ⟨w.heap.size, 4, none⟩ = some (.int .u64 c) := Qa.out.cell 4
  have xa5 : w3.cell? ⟨w.heap.size, 5, none⟩ = some (.string p) := Qa.out.cell 5
  have xb0 : w3.cell? ⟨w.heap.size + 1, 0, none⟩ = some (.int .u64 a') := Qb.out.cell 0
  have xb1 : w3.cell? ⟨w.heap.size + 1, 1, none⟩ = some (.int .u64 b') := Qb.out.cell 1
  have xb2 : w3.cell? ⟨w.heap.size + 1, 2, none⟩ = some (.int .u64 c') := Qb.out.cell 2
  have xb3 : w3.cell? ⟨w.heap.size + 1, 3, none⟩ = some (.string p') := Qb.out.cell 3
  have xb4 : w3.cell? ⟨w.heap.size + 1, 4, none⟩ = some (.string m') := Qb.out.cell 4
  have xl0 : w3.cell? ⟨w1.heap.size, 0, none⟩ = some (.int .u64 a) := Ql.out.cell 0
  have xl1 : w3.cell? ⟨w1.heap.size, 1, none⟩ = some (.int .u64 b) := Ql.out.cell 1
  have xl2 : w3.cell? ⟨w1.heap.size, 2, none⟩ = some (.int .u64 c) := Ql.out.cell 2
  have xl3 : w3.cell? ⟨w1.heap.size, 3, none⟩ = some (.string p) := Ql.out.cell 3
  have xl4 : w3.cell? ⟨w1.heap.size, 4, none⟩ = some (.string ByteArray.empty) := Ql.out.cell 4
  go_wp2_with fail
  go_ret
  exact ⟨rfl, B.out⟩

set_option maxHeartbeats 800000 in
set_option maxRecDepth 100000 in
theorem cmp0_n (k : Nat) (a b c : Int) (p : ByteArray) (a' b' c' : Int) (p' m' : ByteArray) (V n1 n2 : Int) (w : World) (hcmp : ∀ W, Calls Tryd.prog 100 #[.agg (scells a' b' c' p' m'), .agg (scells a b c p ByteArray.empty)] W fun e w' => e = .returned (.int .i64 V) ∧ Below W.heap.size W w') (hcn : ∀ W, Calls Tryd.prog 18 #[.agg (scells a' b' c' p' m'), .agg (scells a b c p ByteArray.empty), .int .i64 (k : Int)] W fun e w' => e = .returned (.int .i64 n1) ∧ Below W.heap.size W w') (hcar : ∀ W, Calls Tryd.prog 18 #[.agg (scells a' b' c' p' m'), .agg (scells a b c p ByteArray.empty), .int .i64 ((caretN k a b c : Nat) : Int)] W fun e w' => e = .returned (.int .i64 n2) ∧ Below W.heap.size W w') (hk3 : ((k : Int) == 3) = false) (h1 : (n1 == 0) = false) :
    Calls Tryd.prog 70 #[.agg #[.int .i64 0, .int .i64 (k : Int), .int .u64 a, .int .u64 b, .int .u64 c, .string p], .agg (scells a' b' c' p' m')] w fun e w' => e = .returned (.bool false) ∧ Below w.heap.size w w' := by
  have B := hid (show Below w.heap.size w ((w.alloc (.cells #[.int .i64 0, .int .i64 (k : Int), .int .u64 a, .int .u64 b, .int .u64 c, .string p] 36)).alloc (.cells #[.int .u64 a', .int .u64 b', .int .u64 c', .string p', .string m'] 27)) by go_grown)
  have Z := hid (show w.heap.size + 2 ≤ ((w.alloc (.cells #[.int .i64 0, .int .i64 (k : Int), .int .u64 a, .int .u64 b, .int .u64 c, .string p] 36)).alloc (.cells #[.int .u64 a', .int .u64 b', .int .u64 c', .string p', .string m'] 27)).heap.size by simp only [World.size_alloc]; omega)
  obtain ⟨qa, qb⟩ := two_new w (#[.int .i64 0, .int .i64 (k : Int), .int .u64 a, .int .u64 b, .int .u64 c, .string p]) (#[.int .u64 a', .int .u64 b', .int .u64 c', .string p', .string m']) 36 27
  have Qa := hid qa
  have Qb := hid qb
  clear qa qb
  have HC := hid hcmp
  clear hcmp
  have HN := hid hcn
  clear hcn
  have HR := hid hcar
  clear hcar
  go_enter Tryd.func70, Tryd.ntmps70
  go_wp2_with fail
  go_at_call 31
  refine (leastV_any _ _ a b c p _).mono ?_
  rintro e w1 ⟨rfl, hb⟩
  replace Qa := hid ((Qa.out).below hb)
  replace Qb := hid ((Qb.out).below hb)
  replace Z := hid (Nat.le_trans (Nat.le_trans Z.out (by first | exact Nat.le_refl _ | omega | (simp only [World.size_alloc, World.size_drew]; omega))) hb.size)
  replace B := hid (bt B.out hb)
  clear hb
  have xa0 : w1.cell? ⟨w.heap.size, 0, none⟩ = some (.int .i64 0) := Qa.out.cell 0
  have xa1 : w1.cell? ⟨w.heap.size, 1, none⟩ = some (.int .i64 (k : Int)) := Qa.out.cell 1
  have xa2 : w1.cell? ⟨w.heap.size, 2, none⟩ = some (.int .u64 a) := Qa.out.cell 2
  have xa3 : w1.cell? ⟨w.heap.size, 3, none⟩ = some (.int .u64 b) := Qa.out.cell 3
  have xa4 : w1.cell? ⟨w.heap.size, 4, none⟩ = some (.int .u64 c) := Qa.out.cell 4
  have xa5 : w1.cell? ⟨w.heap.size, 5, none⟩ = some (.string p) := Qa.out.cell 5
  have xb0 : w1.cell? ⟨w.heap.size + 1, 0, none⟩ = some (.int .u64 a') := Qb.out.cell 0
  have xb1 : w1.cell? ⟨w.heap.size + 1, 1, none⟩ = some (.int .u64 b') := Qb.out.cell 1
  have xb2 : w1.cell? ⟨w.heap.size + 1, 2, none⟩ = some (.int .u64 c') := Qb.out.cell 2
  have xb3 : w1.cell? ⟨w.heap.size + 1, 3, none⟩ = some (.string p') := Qb.out.cell 3
  have xb4 : w1.cell? ⟨w.heap.size + 1, 4, none⟩ = some (.string m') := Qb.out.cell 4
  have hz0 : w.heap.size < w1.heap.size := by have := Z.out; omega
  have hz1 : w.heap.size + 1 < w1.heap.size := by have := Z.out; omega
  go_wp2_with fail
  go_at_call 18
  refine (HN.out _).mono ?_
  rintro e w2 ⟨rfl, hb⟩
  replace Qa := hid (((Qa.out.alloc _)).below hb)
  replace Qb := hid (((Qb.out.alloc _)).below hb)
  have Ql := hid (((Blk.new _ _ _)).below hb)
  replace Z := hid (Nat.le_trans (Nat.le_trans Z.out (by first | exact Nat.le_refl _ | omega | (simp only [World.size_alloc, World.size_drew]; omega))) hb.size)
  replace B := hid (bt (B.out.alloc (by have := B.out.size; first | omega | (simp only [World.size_alloc]; omega)) _) hb)
  clear hb
  have xa0 : w2.cell? ⟨w.heap.size, 0, none⟩ = some (.int .i64 0) := Qa.out.cell 0
  have xa1 : w2.cell? ⟨w.heap.size, 1, none⟩ = some (.int .i64 (k : Int)) := Qa.out.cell 1
  have xa2 : w2.cell? ⟨w.heap.size, 2, none⟩ = some (.int .u64 a) := Qa.out.cell 2
  have xa3 : w2.cell? ⟨w.heap.size, 3, none⟩ = some (.int .u64 b) := Qa.out.cell 3
  have xa4 : w2.cell? ⟨w.heap.size, 4, none⟩ = some (.int .u64 c) := Qa.out.cell 4
  have xa5 : w2.cell? ⟨w.heap.size, 5, none⟩ = some (.string p) := Qa.out.cell 5
  have xb0 : w2.cell? ⟨w.heap.size + 1, 0, none⟩ = some (.int .u64 a') := Qb.out.cell 0
  have xb1 : w2.cell? ⟨w.heap.size + 1, 1, none⟩ = some (.int .u64 b') := Qb.out.cell 1
  have xb2 : w2.cell? ⟨w.heap.size + 1, 2, none⟩ = some (.int .u64 c') := Qb.out.cell 2
  have xb3 : w2.cell? ⟨w.heap.size + 1, 3, none⟩ = some (.string p') := Qb.out.cell 3
  have xb4 : w2.cell? ⟨w.heap.size + 1, 4, none⟩ = some (.string m') := Qb.out.cell 4
  have xl0 : w2.cell? ⟨w1.heap.size, 0, none⟩ = some (.int .u64 a) := Ql.out.cell 0
  have xl1 : w2.cell? ⟨w1.heap.size, 1, none⟩ = some (.int .u64 b) := Ql.out.cell 1
  have xl2 : w2.cell? ⟨w1.heap.size, 2, none⟩ = some (.int .u64 c) := Ql.out.cell 2
  have xl3 : w2.cell? ⟨w1.heap.size, 3, none⟩ = some (.string p) := Ql.out.cell 3
  have xl4 : w2.cell? ⟨w1.heap.size, 4, none⟩ = some (.string ByteArray.empty) := Ql.out.cell 4
  go_wp2_with fail
  go_ret
  exact ⟨rfl, B.out⟩

set_option maxHeartbeats 800000 in
set_option maxRecDepth 100000 in
theorem cmp0_vt (k : Nat) (a b c : Int) (p : ByteArray) (a' b' c' : Int) (p' m' : ByteArray) (V n1 n2 : Int) (w : World) (hcmp : ∀ W, Calls Tryd.prog 100 #[.agg (scells a' b' c' p' m'), .agg (scells a b c p ByteArray.empty)] W fun e w' => e = .returned (.int .i64 V) ∧ Below W.heap.size W w') (hcn : ∀ W, Calls Tryd.prog 18 #[.agg (scells a' b' c' p' m'), .agg (scells a b c p ByteArray.empty), .int .i64 (k : Int)] W fun e w' => e = .returned (.int .i64 n1) ∧ Below W.heap.size W w') (hcar : ∀ W, Calls Tryd.prog 18 #[.agg (scells a' b' c' p' m'), .agg (scells a b c p ByteArray.empty), .int .i64 ((caretN k a b c : Nat) : Int)] W fun e w' => e = .returned (.int .i64 n2) ∧ Below W.heap.size W w') (hk3 : ((k : Int) == 3) = false) (h1 : (n1 == 0) = true) (hV : 0 ≤ V) :
    Calls Tryd.prog 70 #[.agg #[.int .i64 0, .int .i64 (k : Int), .int .u64 a, .int .u64 b, .int .u64 c, .string p], .agg (scells a' b' c' p' m')] w fun e w' => e = .returned (.bool true) ∧ Below w.heap.size w w' := by
  have B := hid (show Below w.heap.size w ((w.alloc (.cells #[.int .i64 0, .int .i64 (k : Int), .int .u64 a, .int .u64 b, .int .u64 c, .string p] 36)).alloc (.cells #[.int .u64 a', .int .u64 b', .int .u64 c', .string p', .string m'] 27)) by go_grown)
  have Z := hid (show w.heap.size + 2 ≤ ((w.alloc (.cells #[.int .i64 0, .int .i64 (k : Int), .int .u64 a, .int .u64 b, .int .u64 c, .string p] 36)).alloc (.cells #[.int .u64 a', .int .u64 b', .int .u64 c', .string p', .string m'] 27)).heap.size by simp only [World.size_alloc]; omega)
  obtain ⟨qa, qb⟩ := two_new w (#[.int .i64 0, .int .i64 (k : Int), .int .u64 a, .int .u64 b, .int .u64 c, .string p]) (#[.int .u64 a', .int .u64 b', .int .u64 c', .string p', .string m']) 36 27
  have Qa := hid qa
  have Qb := hid qb
  clear qa qb
  have HC := hid hcmp
  clear hcmp
  have HN := hid hcn
  clear hcn
  have HR := hid hcar
  clear hcar
  go_enter Tryd.func70, Tryd.ntmps70
  go_wp2_with fail
  go_at_call 31
  refine (leastV_any _ _ a b c p _).mono ?_
  rintro e w1 ⟨rfl, hb⟩
  replace Qa := hid ((Qa.out).below hb)
  replace Qb := hid ((Qb.out).below hb)
  replace Z := hid (Nat.le_trans (Nat.le_trans Z.out (by first | exact Nat.le_refl _ | omega | (simp only [World.size_alloc, World.size_drew]; omega))) hb.size)
  replace B := hid (bt B.out hb)
  clear hb
  have xa0 : w1.cell? ⟨w.heap.size, 0, none⟩ = some (.int .i64 0) := Qa.out.cell 0
  have xa1 : w1.cell? ⟨w.heap.size, 1, none⟩ = some (.int .i64 (k : Int)) := Qa.out.cell 1
  have xa2 : w1.cell? ⟨w.heap.size, 2, none⟩ = some (.int .u64 a) := Qa.out.cell 2
  have xa3 : w1.cell? ⟨w.heap.size, 3, none⟩ = some (.int .u64 b) := Qa.out.cell 3
  have xa4 : w1.cell? ⟨w.heap.size, 4, none⟩ = some (.int .u64 c) := Qa.out.cell 4
  have xa5 : w1.cell? ⟨w.heap.size, 5, none⟩ = some (.string p) := Qa.out.cell 5
  have xb0 : w1.cell? ⟨w.heap.size + 1, 0, none⟩ = some (.int .u64 a') := Qb.out.cell 0
  have xb1 : w1.cell? ⟨w.heap.size + 1, 1, none⟩ = some (.int .u64 b') := Qb.out.cell 1
  have xb2 : w1.cell? ⟨w.heap.size + 1, 2, none⟩ = some (.int .u64 c') := Qb.out.cell 2
  have xb3 : w1.cell? ⟨w.heap.size + 1, 3, none⟩ = some (.string p') := Qb.out.cell 3
  have xb4 : w1.cell? ⟨w.heap.size + 1, 4, none⟩ = some (.string m') := Qb.out.cell 4
  have hz0 : w.heap.size < w1.heap.size := by have := Z.out; omega
  have hz1 : w.heap.size + 1 < w1.heap.size := by have := Z.out; omega
  go_wp2_with fail
  go_at_call 18
  refine (HN.out _).mono ?_
  rintro e w2 ⟨rfl, hb⟩
  replace Qa := hid (((Qa.out.alloc _)).below hb)
  replace Qb := hid (((Qb.out.alloc _)).below hb)
  have Ql := hid (((Blk.new _ _ _)).below hb)
  replace Z := hid (Nat.le_trans (Nat.le_trans Z.out (by first | exact Nat.le_refl _ | omega | (simp only [World.size_alloc, World.size_drew]; omega))) hb.size)
  replace B := hid (bt (B.out.alloc (by have := B.out.size; first | omega | (simp only [World.size_alloc]; omega)) _) hb)
  clear hb
  have xa0 : w2.cell? ⟨w.heap.size, 0, none⟩ = some (.int .i64 0) := Qa.out.cell 0
  have xa1 : w2.cell? ⟨w.heap.size, 1, none⟩ = some (.int .i64 (k : Int)) := Qa.out.cell 1
  have xa2 : w2.cell? ⟨w.heap.size, 2, none⟩ = some (.int .u64 a) := Qa.out.cell 2
  have xa3 : w2.cell? ⟨w.heap.size, 3, none⟩ = some (.int .u64 b) := Qa.out.cell 3
  have xa4 : w2.cell? ⟨w.heap.size, 4, none⟩ = some (.int .u64 c) := Qa.out.cell 4
  have xa5 : w2.cell? ⟨w.heap.size, 5, none⟩ = some (.string p) := Qa.out.cell 5
  have xb0 : w2.cell? ⟨w.heap.size + 1, 0, none⟩ = some (.int .u64 a') := Qb.out.cell 0
  have xb1 : w2.cell? ⟨w.heap.size + 1, 1, none⟩ = some (.int .u64 b') := Qb.out.cell 1
  have xb2 : w2.cell? ⟨w.heap.size + 1, 2, none⟩ = some (.int .u64 c') := Qb.out.cell 2
  have xb3 : w2.cell? ⟨w.heap.size + 1, 3, none⟩ = some (.string p') := Qb.out.cell 3
  have xb4 : w2.cell? ⟨w.heap.size + 1, 4, none⟩ = some (.string m') := Qb.out.cell 4
  have xl0 : w2.cell? ⟨w1.heap.size, 0, none⟩ = some (.int .u64 a) := Ql.out.cell 0
  have xl1 : w2.cell? ⟨w1.heap.size, 1, none⟩ = some (.int .u64 b) := Ql.out.cell 1
  have xl2 : w2.cell? ⟨w1.heap.size, 2, none⟩ = some (.int .u64 c) := Ql.out.cell 2
  have xl3 : w2.cell? ⟨w1.heap.size, 3, none⟩ = some (.string p) := Ql.out.cell 3
  have xl4 : w2.cell? ⟨w1.heap.size, 4, none⟩ = some (.string ByteArray.empty) := Ql.out.cell 4
  go_wp2_with fail
  go_at_call 100
  refine (HC.out _).mono ?_
  rintro e w3 ⟨rfl, hb⟩
  replace Qa := hid ((Qa.out).below hb)
  replace Qb := hid ((Qb.out).below hb)
  replace Ql := hid ((Ql.out).below hb)
  replace Z := hid (Nat.le_trans (Nat.le_trans Z.out (by first | exact Nat.le_refl _ | omega | (simp only [World.size_alloc, World.size_drew]; omega))) hb.size)
  replace B := hid (bt B.out hb)
  clear hb
  have xa0 : w3.cell? ⟨w.heap.size, 0, none⟩ = some (.int .i64 0) := Qa.out.cell 0
  have xa1 : w3.cell? ⟨w.heap.size, 1, none⟩ = some (.int .i64 (k : Int)) := Qa.out.cell 1
  have xa2 : w3.cell? ⟨w.heap.size, 2, none⟩ = some (.int .u64 a) := Qa.out.cell 2
  have xa3 : w3.cell? ⟨w.heap.size, 3, none⟩ = some (.int .u64 b) := Qa.out.cell 3
  have xa4 : w3.cell? ⟨w.heap.size, 4, none⟩ = some (.int .u64 c) := Qa.out.cell 4
  have xa5 : w3.cell? ⟨w.heap.size, 5, none⟩ = some (.string p) := Qa.out.cell 5
  have xb0 : w3.cell? ⟨w.heap.size + 1, 0, none⟩ = some (.int .u64 a') := Qb.out.cell 0
  have xb1 : w3.cell? ⟨w.heap.size + 1, 1, none⟩ = some (.int .u64 b') := Qb.out.cell 1
  have xb2 : w3.cell? ⟨w.heap.size + 1, 2, none⟩ = some (.int .u64 c') := Qb.out.cell 2
  have xb3 : w3.cell? ⟨w.heap.size + 1, 3, none⟩ = some (.string p') := Qb.out.cell 3
  have xb4 : w3.cell? ⟨w.heap.size + 1, 4, none⟩ = some (.string m') := Qb.out.cell 4
  have xl0 : w3.cell? ⟨w1.heap.size, 0, none⟩ = some (.int .u64 a) := Ql.out.cell 0
  have xl1 : w3.cell? ⟨w1.heap.size, 1, none⟩ = some (.int .u64 b) := Ql.out.cell 1
  have xl2 : w3.cell? ⟨w1.heap.size, 2, none⟩ = some (.int .u64 c) := Ql.out.cell 2
  have xl3 : w3.cell? ⟨w1.heap.size, 3, none⟩ = some (.string p) := Ql.out.cell 3
  have xl4 : w3.cell? ⟨w1.heap.size, 4, none⟩ = some (.string ByteArray.empty) := Ql.out.cell 4
  go_wp2_with fail
  go_ret
  exact ⟨ret_b (by first | rfl | (simp; done) | (simp; omega)), B.out⟩

set_option maxHeartbeats 800000 in
set_option maxRecDepth 100000 in
theorem cmp0_vf (k : Nat) (a b c : Int) (p : ByteArray) (a' b' c' : Int) (p' m' : ByteArray) (V n1 n2 : Int) (w : World) (hcmp : ∀ W, Calls Tryd.prog 100 #[.agg (scells a' b' c' p' m'), .agg (scells a b c p ByteArray.empty)] W fun e w' => e = .returned (.int .i64 V) ∧ Below W.heap.size W w') (hcn : ∀ W, Calls Tryd.prog 18 #[.agg (scells a' b' c' p' m'), .agg (scells a b c p ByteArray.empty), .int .i64 (k : Int)] W fun e w' => e = .returned (.int .i64 n1) ∧ Below W.heap.size W w') (hcar : ∀ W, Calls Tryd.prog 18 #[.agg (scells a' b' c' p' m'), .agg (scells a b c p ByteArray.empty), .int .i64 ((caretN k a b c : Nat) : Int)] W fun e w' => e = .returned (.int .i64 n2) ∧ Below W.heap.size W w') (hk3 : ((k : Int) == 3) = false) (h1 : (n1 == 0) = true) (hV : V < 0) :
    Calls Tryd.prog 70 #[.agg #[.int .i64 0, .int .i64 (k : Int), .int .u64 a, .int .u64 b, .int .u64 c, .string p], .agg (scells a' b' c' p' m')] w fun e w' => e = .returned (.bool false) ∧ Below w.heap.size w w' := by
  have B := hid (show Below w.heap.size w ((w.alloc (.cells #[.int .i64 0, .int .i64 (k : Int), .int .u64 a, .int .u64 b, .int .u64 c, .string p] 36)).alloc (.cells #[.int .u64 a', .int .u64 b', .int .u64 c', .string p', .string m'] 27)) by go_grown)
  have Z := hid (show w.heap.size + 2 ≤ ((w.alloc (.cells #[.int .i64 0, .int .i64 (k : Int), .int .u64 a, .int .u64 b, .int .u64 c, .string p] 36)).alloc (.cells #[.int .u64 a', .int .u64 b', .int .u64 c', .string p', .string m'] 27)).heap.size by simp only [World.size_alloc]; omega)
  obtain ⟨qa, qb⟩ := two_new w (#[.int .i64 0, .int .i64 (k : Int), .int .u64 a, .int .u64 b, .int .u64 c, .string p]) (#[.int .u64 a', .int .u64 b', .int .u64 c', .string p', .string m']) 36 27
  have Qa := hid qa
  have Qb := hid qb
  clear qa qb
  have HC := hid hcmp
  clear hcmp
  have HN := hid hcn
  clear hcn
  have HR := hid hcar
  clear hcar
  go_enter Tryd.func70, Tryd.ntmps70
  go_wp2_with fail
  go_at_call 31
  refine (leastV_any _ _ a b c p _).mono ?_
  rintro e w1 ⟨rfl, hb⟩
  replace Qa := hid ((Qa.out).below hb)
  replace Qb := hid ((Qb.out).below hb)
  replace Z := hid (Nat.le_trans (Nat.le_trans Z.out (by first | exact Nat.le_refl _ | omega | (simp only [World.size_alloc, World.size_drew]; omega))) hb.size)
  replace B := hid (bt B.out hb)
  clear hb
  have xa0 : w1.cell? ⟨w.heap.size, 0, none⟩ = some (.int .i64 0) := Qa.out.cell 0
  have xa1 : w1.cell? ⟨w.heap.size, 1, none⟩ = some (.int .i64 (k : Int)) := Qa.out.cell 1
  have xa2 : w1.cell? ⟨w.heap.size, 2, none⟩ = some (.int .u64 a) := Qa.out.cell 2
  have xa3 : w1.cell? ⟨w.heap.size, 3, none⟩ = some (.int .u64 b) := Qa.out.cell 3
  have xa4 : w1.cell? ⟨w.heap.size, 4, none⟩ = some (.int .u64 c) := Qa.out.cell 4
  have xa5 : w1.cell? ⟨w.heap.size, 5, none⟩ = some (.string p) := Qa.out.cell 5
  have xb0 : w1.cell? ⟨w.heap.size + 1, 0, none⟩ = some (.int .u64 a') := Qb.out.cell 0
  have xb1 : w1.cell? ⟨w.heap.size + 1, 1, none⟩ = some (.int .u64 b') := Qb.out.cell 1
  have xb2 : w1.cell? ⟨w.heap.size + 1, 2, none⟩ = some (.int .u64 c') := Qb.out.cell 2
  have xb3 : w1.cell? ⟨w.heap.size + 1, 3, none⟩ = some (.string p') := Qb.out.cell 3
  have xb4 : w1.cell? ⟨w.heap.size + 1, 4, none⟩ = some (.string m') := Qb.out.cell 4
  have hz0 : w.heap.size < w1.heap.size := by have := Z.out; omega
  have hz1 : w.heap.size + 1 < w1.heap.size := by have := Z.out; omega
  go_wp2_with fail
  go_at_call 18
  refine (HN.out _).mono ?_
  rintro e w2 ⟨rfl, hb⟩
  replace Qa := hid (((Qa.out.alloc _)).below hb)
  replace Qb := hid (((Qb.out.alloc _)).below hb)
  have Ql := hid (((Blk.new _ _ _)).below hb)
  replace Z := hid (Nat.le_trans (Nat.le_trans Z.out (by first | exact Nat.le_refl _ | omega | (simp only [World.size_alloc, World.size_drew]; omega))) hb.size)
  replace B := hid (bt (B.out.alloc (by have := B.out.size; first | omega | (simp only [World.size_alloc]; omega)) _) hb)
  clear hb
  have xa0 : w2.cell? ⟨w.heap.size, 0, none⟩ = some (.int .i64 0) := Qa.out.cell 0
  have xa1 : w2.cell? ⟨w.heap.size, 1, none⟩ = some (.int .i64 (k : Int)) := Qa.out.cell 1
  have xa2 : w2.cell? ⟨w.heap.size, 2, none⟩ = some (.int .u64 a) := Qa.out.cell 2
  have xa3 : w2.cell? ⟨w.heap.size, 3, none⟩ = some (.int .u64 b) := Qa.out.cell 3
  have xa4 : w2.cell? ⟨w.heap.size, 4, none⟩ = some (.int .u64 c) := Qa.out.cell 4
  have xa5 : w2.cell? ⟨w.heap.size, 5, none⟩ = some (.string p) := Qa.out.cell 5
  have xb0 : w2.cell? ⟨w.heap.size + 1, 0, none⟩ = some (.int .u64 a') := Qb.out.cell 0
  have xb1 : w2.cell? ⟨w.heap.size + 1, 1, none⟩ = some (.int .u64 b') := Qb.out.cell 1
  have xb2 : w2.cell? ⟨w.heap.size + 1, 2, none⟩ = some (.int .u64 c') := Qb.out.cell 2
  have xb3 : w2.cell? ⟨w.heap.size + 1, 3, none⟩ = some (.string p') := Qb.out.cell 3
  have xb4 : w2.cell? ⟨w.heap.size + 1, 4, none⟩ = some (.string m') := Qb.out.cell 4
  have xl0 : w2.cell? ⟨w1.heap.size, 0, none⟩ = some (.int .u64 a) := Ql.out.cell 0
  have xl1 : w2.cell? ⟨w1.heap.size, 1, none⟩ = some (.int .u64 b) := Ql.out.cell 1
  have xl2 : w2.cell? ⟨w1.heap.size, 2, none⟩ = some (.int .u64 c) := Ql.out.cell 2
  have xl3 : w2.cell? ⟨w1.heap.size, 3, none⟩ = some (.string p) := Ql.out.cell 3
  have xl4 : w2.cell? ⟨w1.heap.size, 4, none⟩ = some (.string ByteArray.empty) := Ql.out.cell 4
  go_wp2_with fail
  go_at_call 100
  refine (HC.out _).mono ?_
  rintro e w3 ⟨rfl, hb⟩
  replace Qa := hid ((Qa.out).below hb)
  replace Qb := hid ((Qb.out).below hb)
  replace Ql := hid ((Ql.out).below hb)
  replace Z := hid (Nat.le_trans (Nat.le_trans Z.out (by first | exact Nat.le_refl _ | omega | (simp only [World.size_alloc, World.size_drew]; omega))) hb.size)
  replace B := hid (bt B.out hb)
  clear hb
  have xa0 : w3.cell? ⟨w.heap.size, 0, none⟩ = some (.int .i64 0) := Qa.out.cell 0
  have xa1 : w3.cell? ⟨w.heap.size, 1, none⟩ = some (.int .i64 (k : Int)) := Qa.out.cell 1
  have xa2 : w3.cell? ⟨w.heap.size, 2, none⟩ = some (.int .u64 a) := Qa.out.cell 2
  have xa3 : w3.cell? ⟨w.heap.size, 3, none⟩ = some (.int .u64 b) := Qa.out.cell 3
  have xa4 : w3.cell? ⟨w.heap.size, 4, none⟩ = some (.int .u64 c) := Qa.out.cell 4
  have xa5 : w3.cell? ⟨w.heap.size, 5, none⟩ = some (.string p) := Qa.out.cell 5
  have xb0 : w3.cell? ⟨w.heap.size + 1, 0, none⟩ = some (.int .u64 a') := Qb.out.cell 0
  have xb1 : w3.cell? ⟨w.heap.size + 1, 1, none⟩ = some (.int .u64 b') := Qb.out.cell 1
  have xb2 : w3.cell? ⟨w.heap.size + 1, 2, none⟩ = some (.int .u64 c') := Qb.out.cell 2
  have xb3 : w3.cell? ⟨w.heap.size + 1, 3, none⟩ = some (.string p') := Qb.out.cell 3
  have xb4 : w3.cell? ⟨w.heap.size + 1, 4, none⟩ = some (.string m') := Qb.out.cell 4
  have xl0 : w3.cell? ⟨w1.heap.size, 0, none⟩ = some (.int .u64 a) := Ql.out.cell 0
  have xl1 : w3.cell? ⟨w1.heap.size, 1, none⟩ = some (.int .u64 b) := Ql.out.cell 1
  have xl2 : w3.cell? ⟨w1.heap.size, 2, none⟩ = some (.int .u64 c) := Ql.out.cell 2
  have xl3 : w3.cell? ⟨w1.heap.size, 3, none⟩ = some (.string p) := Ql.out.cell 3
  have xl4 : w3.cell? ⟨w1.heap.size, 4, none⟩ = some (.string ByteArray.empty) := Ql.out.cell 4
  go_wp2_with fail
  go_ret
  exact ⟨ret_b (by first | rfl | (simp; done) | (simp; omega)), B.out⟩

set_option maxHeartbeats 800000 in
set_option maxRecDepth 100000 in
theorem cmp7_tn (k : Nat) (a b c : Int) (p : ByteArray) (a' b' c' : Int) (p' m' : ByteArray) (V n1 n2 : Int) (w : World) (hcmp : ∀ W, Calls Tryd.prog 100 #[.agg (scells a' b' c' p' m'), .agg (scells a b c p ByteArray.empty)] W fun e w' => e = .returned (.int .i64 V) ∧ Below W.heap.size W w') (hcn : ∀ W, Calls Tryd.prog 18 #[.agg (scells a' b' c' p' m'), .agg (scells a b c p ByteArray.empty), .int .i64 (k : Int)] W fun e w' => e = .returned (.int .i64 n1) ∧ Below W.heap.size W w') (hcar : ∀ W, Calls Tryd.prog 18 #[.agg (scells a' b' c' p' m'), .agg (scells a b c p ByteArray.empty), .int .i64 ((caretN k a b c : Nat) : Int)] W fun e w' => e = .returned (.int .i64 n2) ∧ Below W.heap.size W w') (hk3 : ((k : Int) == 3) = true) (hV : V < 0) :
    Calls Tryd.prog 70 #[.agg #[.int .i64 7, .int .i64 (k : Int), .int .u64 a, .int .u64 b, .int .u64 c, .string p], .agg (scells a' b' c' p' m')] w fun e w' => e = .returned (.bool false) ∧ Below w.heap.size w w' := by
  have hVd : decide (0 ≤ V) = false := decide_eq_false (by omega)
  have B := hid (show Below w.heap.size w ((w.alloc (.cells #[.int .i64 7, .int .i64 (k : Int), .int .u64 a, .int .u64 b, .int .u64 c, .string p] 36)).alloc (.cells #[.int .u64 a', .int .u64 b', .int .u64 c', .string p', .string m'] 27)) by go_grown)
  have Z := hid (show w.heap.size + 2 ≤ ((w.alloc (.cells #[.int .i64 7, .int .i64 (k : Int), .int .u64 a, .int .u64 b, .int .u64 c, .string p] 36)).alloc (.cells #[.int .u64 a', .int .u64 b', .int .u64 c', .string p', .string m'] 27)).heap.size by simp only [World.size_alloc]; omega)
  obtain ⟨qa, qb⟩ := two_new w (#[.int .i64 7, .int .i64 (k : Int), .int .u64 a, .int .u64 b, .int .u64 c, .string p]) (#[.int .u64 a', .int .u64 b', .int .u64 c', .string p', .string m']) 36 27
  have Qa := hid qa
  have Qb := hid qb
  clear qa qb
  have HC := hid hcmp
  clear hcmp
  have HN := hid hcn
  clear hcn
  have HR := hid hcar
  clear hcar
  go_enter Tryd.func70, Tryd.ntmps70
  go_wp2_with fail
  go_at_call 31
  refine (leastV_any _ _ a b c p _).mono ?_
  rintro e w1 ⟨rfl, hb⟩
  replace Qa := hid ((Qa.out).below hb)
  replace Qb := hid ((Qb.out).below hb)
  replace Z := hid (Nat.le_trans (Nat.le_trans Z.out (by first | exact Nat.le_refl _ | omega | (simp only [World.size_alloc, World.size_drew]; omega))) hb.size)
  replace B := hid (bt B.out hb)
  clear hb
  have xa0 : w1.cell? ⟨w.heap.size, 0, none⟩ = some (.int .i64 7) := Qa.out.cell 0
  have xa1 : w1.cell? ⟨w.heap.size, 1, none⟩ = some (.int .i64 (k : Int)) := Qa.out.cell 1
  have xa2 : w1.cell? ⟨w.heap.size, 2, none⟩ = some (.int .u64 a) := Qa.out.cell 2
  have xa3 : w1.cell? ⟨w.heap.size, 3, none⟩ = some (.int .u64 b) := Qa.out.cell 3
  have xa4 : w1.cell? ⟨w.heap.size, 4, none⟩ = some (.int .u64 c) := Qa.out.cell 4
  have xa5 : w1.cell? ⟨w.heap.size, 5, none⟩ = some (.string p) := Qa.out.cell 5
  have xb0 : w1.cell? ⟨w.heap.size + 1, 0, none⟩ = some (.int .u64 a') := Qb.out.cell 0
  have xb1 : w1.cell? ⟨w.heap.size + 1, 1, none⟩ = some (.int .u64 b') := Qb.out.cell 1
  have xb2 : w1.cell? ⟨w.heap.size + 1, 2, none⟩ = some (.int .u64 c') := Qb.out.cell 2
  have xb3 : w1.cell? ⟨w.heap.size + 1, 3, none⟩ = some (.string p') := Qb.out.cell 3
  have xb4 : w1.cell? ⟨w.heap.size + 1, 4, none⟩ = some (.string m') := Qb.out.cell 4
  have hz0 : w.heap.size < w1.heap.size := by have := Z.out; omega
  have hz1 : w.heap.size + 1 < w1.heap.size := by have := Z.out; omega
  go_wp2_with fail
  go_at_call 18
  refine (HN.out _).mono ?_
  rintro e w2 ⟨rfl, hb⟩
  replace Qa := hid (((Qa.out.alloc _)).below hb)
  replace Qb := hid (((Qb.out.alloc _)).below hb)
  have Ql := hid (((Blk.new _ _ _)).below hb)
  replace Z := hid (Nat.le_trans (Nat.le_trans Z.out (by first | exact Nat.le_refl _ | omega | (simp only [World.size_alloc, World.size_drew]; omega))) hb.size)
  replace B := hid (bt (B.out.alloc (by have := B.out.size; first | omega | (simp only [World.size_alloc]; omega)) _) hb)
  clear hb
  have xa0 : w2.cell? ⟨w.heap.size, 0, none⟩ = some (.int .i64 7) := Qa.out.cell 0
  have xa1 : w2.cell? ⟨w.heap.size, 1, none⟩ = some (.int .i64 (k : Int)) := Qa.out.cell 1
  have xa2 : w2.cell? ⟨w.heap.size, 2, none⟩ = some (.int .u64 a) := Qa.out.cell 2
  have xa3 : w2.cell? ⟨w.heap.size, 3, none⟩ = some (.int .u64 b) := Qa.out.cell 3
  have xa4 : w2.cell? ⟨w.heap.size, 4, none⟩ = some (.int .u64 c) := Qa.out.cell 4
  have xa5 : w2.cell? ⟨w.heap.size, 5, none⟩ = some (.string p) := Qa.out.cell 5
  have xb0 : w2.cell? ⟨w.heap.size + 1, 0, none⟩ = some (.int .u64 a') := Qb.out.cell 0
  have xb1 : w2.cell? ⟨w.heap.size + 1, 1, none⟩ = some (.int .u64 b') := Qb.out.cell 1
  have xb2 : w2.cell? ⟨w.heap.size + 1, 2, none⟩ = some (.int .u64 c') := Qb.out.cell 2
  have xb3 : w2.cell? ⟨w.heap.size + 1, 3, none⟩ = some (.string p') := Qb.out.cell 3
  have xb4 : w2.cell? ⟨w.heap.size + 1, 4, none⟩ = some (.string m') := Qb.out.cell 4
  have xl0 : w2.cell? ⟨w1.heap.size, 0, none⟩ = some (.int .u64 a) := Ql.out.cell 0
  have xl1 : w2.cell? ⟨w1.heap.size, 1, none⟩ = some (.int .u64 b) := Ql.out.cell 1
  have xl2 : w2.cell? ⟨w1.heap.size, 2, none⟩ = some (.int .u64 c) := Ql.out.cell 2
  have xl3 : w2.cell? ⟨w1.heap.size, 3, none⟩ = some (.string p) := Ql.out.cell 3
  have xl4 : w2.cell? ⟨w1.heap.size, 4, none⟩ = some (.string ByteArray.empty) := Ql.out.cell 4
  go_wp2_with fail
  go_at_call 100
  refine (HC.out _).mono ?_
  rintro e w3 ⟨rfl, hb⟩
  replace Qa := hid ((Qa.out).below hb)
  replace Qb := hid ((Qb.out).below hb)
  replace Ql := hid ((Ql.out).below hb)
  replace Z := hid (Nat.le_trans (Nat.le_trans Z.out (by first | exact Nat.le_refl _ | omega | (simp only [World.size_alloc, World.size_drew]; omega))) hb.size)
  replace B := hid (bt B.out hb)
  clear hb
  have xa0 : w3.cell? ⟨w.heap.size, 0, none⟩ = some (.int .i64 7) := Qa.out.cell 0
  have xa1 : w3.cell? ⟨w.heap.size, 1, none⟩ = some (.int .i64 (k : Int)) := Qa.out.cell 1
  have xa2 : w3.cell? ⟨w.heap.size, 2, none⟩ = some (.int .u64 a) := Qa.out.cell 2
  have xa3 : w3.cell? ⟨w.heap.size, 3, none⟩ = some (.int .u64 b) := Qa.out.cell 3
  have xa4 : w3.cell? ⟨w.heap.size, 4, none⟩ = some (.int .u64 c) := Qa.out.cell 4
  have xa5 : w3.cell? ⟨w.heap.size, 5, none⟩ = some (.string p) := Qa.out.cell 5
  have xb0 : w3.cell? ⟨w.heap.size + 1, 0, none⟩ = some (.int .u64 a') := Qb.out.cell 0
  have xb1 : w3.cell? ⟨w.heap.size + 1, 1, none⟩ = some (.int .u64 b') := Qb.out.cell 1
  have xb2 : w3.cell? ⟨w.heap.size + 1, 2, none⟩ = some (.int .u64 c') := Qb.out.cell 2
  have xb3 : w3.cell? ⟨w.heap.size + 1, 3, none⟩ = some (.string p') := Qb.out.cell 3
  have xb4 : w3.cell? ⟨w.heap.size + 1, 4, none⟩ = some (.string m') := Qb.out.cell 4
  have xl0 : w3.cell? ⟨w1.heap.size, 0, none⟩ = some (.int .u64 a) := Ql.out.cell 0
  have xl1 : w3.cell? ⟨w1.heap.size, 1, none⟩ = some (.int .u64 b) := Ql.out.cell 1
  have xl2 : w3.cell? ⟨w1.heap.size, 2, none⟩ = some (.int .u64 c) := Ql.out.cell 2
  have xl3 : w3.cell? ⟨w1.heap.size, 3, none⟩ = some (.string p) := Ql.out.cell 3
  have xl4 : w3.cell? ⟨w1.heap.size, 4, none⟩ = some (.string ByteArray.empty) := Ql.out.cell 4
  go_wp2_with fail
  have C1 := hid (fun d os => Calls.regrown_of (HC.out (Go.Sort.grow (redrawn w3 d) os)))
  have C2 := hid (fun d os => Calls.regrown_of (caretN_any 7 k a b c p (Go.Sort.grow (redrawn w3 d) os)))
  have C3 := hid (fun d os => Calls.regrown_of (HR.out (Go.Sort.grow (redrawn w3 d) os)))
  have kQa0 : ∀ d os, (Go.Sort.grow (redrawn w3 d) os).cell? ⟨w.heap.size, 0, none⟩ = some (.int .i64 7) := fun d os => (blk_gr Qa.out d os).cell 0
  have kQa1 : ∀ d os, (Go.Sort.grow (redrawn w3 d) os).cell? ⟨w.heap.size, 1, none⟩ = some (.int .i64 (k : Int)) := fun d os => (blk_gr Qa.out d os).cell 1
  have kQa2 : ∀ d os, (Go.Sort.grow (redrawn w3 d) os).cell? ⟨w.heap.size, 2, none⟩ = some (.int .u64 a) := fun d os => (blk_gr Qa.out d os).cell 2
  have kQa3 : ∀ d os, (Go.Sort.grow (redrawn w3 d) os).cell? ⟨w.heap.size, 3, none⟩ = some (.int .u64 b) := fun d os => (blk_gr Qa.out d os).cell 3
  have kQa4 : ∀ d os, (Go.Sort.grow (redrawn w3 d) os).cell? ⟨w.heap.size, 4, none⟩ = some (.int .u64 c) := fun d os => (blk_gr Qa.out d os).cell 4
  have kQa5 : ∀ d os, (Go.Sort.grow (redrawn w3 d) os).cell? ⟨w.heap.size, 5, none⟩ = some (.string p) := fun d os => (blk_gr Qa.out d os).cell 5
  have kQb0 : ∀ d os, (Go.Sort.grow (redrawn w3 d) os).cell? ⟨w.heap.size + 1, 0, none⟩ = some (.int .u64 a') := fun d os => (blk_gr Qb.out d os).cell 0
  have kQb1 : ∀ d os, (Go.Sort.grow (redrawn w3 d) os).cell? ⟨w.heap.size + 1, 1, none⟩ = some (.int .u64 b') := fun d os => (blk_gr Qb.out d os).cell 1
  have kQb2 : ∀ d os, (Go.Sort.grow (redrawn w3 d) os).cell? ⟨w.heap.size + 1, 2, none⟩ = some (.int .u64 c') := fun d os => (blk_gr Qb.out d os).cell 2
  have kQb3 : ∀ d os, (Go.Sort.grow (redrawn w3 d) os).cell? ⟨w.heap.size + 1, 3, none⟩ = some (.string p') := fun d os => (blk_gr Qb.out d os).cell 3
  have kQb4 : ∀ d os, (Go.Sort.grow (redrawn w3 d) os).cell? ⟨w.heap.size + 1, 4, none⟩ = some (.string m') := fun d os => (blk_gr Qb.out d os).cell 4
  have kQl0 : ∀ d os, (Go.Sort.grow (redrawn w3 d) os).cell? ⟨w1.heap.size, 0, none⟩ = some (.int .u64 a) := fun d os => (blk_gr Ql.out d os).cell 0
  have kQl1 : ∀ d os, (Go.Sort.grow (redrawn w3 d) os).cell? ⟨w1.heap.size, 1, none⟩ = some (.int .u64 b) := fun d os => (blk_gr Ql.out d os).cell 1
  have kQl2 : ∀ d os, (Go.Sort.grow (redrawn w3 d) os).cell? ⟨w1.heap.size, 2, none⟩ = some (.int .u64 c) := fun d os => (blk_gr Ql.out d os).cell 2
  have kQl3 : ∀ d os, (Go.Sort.grow (redrawn w3 d) os).cell? ⟨w1.heap.size, 3, none⟩ = some (.string p) := fun d os => (blk_gr Ql.out d os).cell 3
  have kQl4 : ∀ d os, (Go.Sort.grow (redrawn w3 d) os).cell? ⟨w1.heap.size, 4, none⟩ = some (.string ByteArray.empty) := fun d os => (blk_gr Ql.out d os).cell 4
  refine wp_region_quiet_below (by kernel_rfl) (by kernel_rfl) ?_
  repeat (go_big_quiet_step ((first | (go_at_call 100; exact C1.out _ _) | (go_at_call 102; exact C2.out _ _) | (go_at_call 18; exact C3.out _ _) | fail)))
  refine wpQuiet_nil ?_
  intro _ hw'
  obtain ⟨⟨dq, osq⟩, hw''⟩ := hw'
  subst hw''
  go_wp2_with fail
  go_ret
  exact ⟨rfl, bt B.out (below_regrown _ _ _)⟩

set_option maxHeartbeats 800000 in
set_option maxRecDepth 100000 in
theorem cmp7_tt (k : Nat) (a b c : Int) (p : ByteArray) (a' b' c' : Int) (p' m' : ByteArray) (V n1 n2 : Int) (w : World) (hcmp : ∀ W, Calls Tryd.prog 100 #[.agg (scells a' b' c' p' m'), .agg (scells a b c p ByteArray.empty)] W fun e w' => e = .returned (.int .i64 V) ∧ Below W.heap.size W w') (hcn : ∀ W, Calls Tryd.prog 18 #[.agg (scells a' b' c' p' m'), .agg (scells a b c p ByteArray.empty), .int .i64 (k : Int)] W fun e w' => e = .returned (.int .i64 n1) ∧ Below W.heap.size W w') (hcar : ∀ W, Calls Tryd.prog 18 #[.agg (scells a' b' c' p' m'), .agg (scells a b c p ByteArray.empty), .int .i64 ((caretN k a b c : Nat) : Int)] W fun e w' => e = .returned (.int .i64 n2) ∧ Below W.heap.size W w') (hk3 : ((k : Int) == 3) = true) (hV : 0 ≤ V) (h2 : (n2 == 0) = true) :
    Calls Tryd.prog 70 #[.agg #[.int .i64 7, .int .i64 (k : Int), .int .u64 a, .int .u64 b, .int .u64 c, .string p], .agg (scells a' b' c' p' m')] w fun e w' => e = .returned (.bool true) ∧ Below w.heap.size w w' := by
  have B := hid (show Below w.heap.size w ((w.alloc (.cells #[.int .i64 7, .int .i64 (k : Int), .int .u64 a, .int .u64 b, .int .u64 c, .string p] 36)).alloc (.cells #[.int .u64 a', .int .u64 b', .int .u64 c', .string p', .string m'] 27)) by go_grown)
  have Z := hid (show w.heap.size + 2 ≤ ((w.alloc (.cells #[.int .i64 7, .int .i64 (k : Int), .int .u64 a, .int .u64 b, .int .u64 c, .string p] 36)).alloc (.cells #[.int .u64 a', .int .u64 b', .int .u64 c', .string p', .string m'] 27)).heap.size by simp only [World.size_alloc]; omega)
  obtain ⟨qa, qb⟩ := two_new w (#[.int .i64 7, .int .i64 (k : Int), .int .u64 a, .int .u64 b, .int .u64 c, .string p]) (#[.int .u64 a', .int .u64 b', .int .u64 c', .string p', .string m']) 36 27
  have Qa := hid qa
  have Qb := hid qb
  clear qa qb
  have HC := hid hcmp
  clear hcmp
  have HN := hid hcn
  clear hcn
  have HR := hid hcar
  clear hcar
  go_enter Tryd.func70, Tryd.ntmps70
  go_wp2_with fail
  go_at_call 31
  refine (leastV_any _ _ a b c p _).mono ?_
  rintro e w1 ⟨rfl, hb⟩
  replace Qa := hid ((Qa.out).below hb)
  replace Qb := hid ((Qb.out).below hb)
  replace Z := hid (Nat.le_trans (Nat.le_trans Z.out (by first | exact Nat.le_refl _ | omega | (simp only [World.size_alloc, World.size_drew]; omega))) hb.size)
  replace B := hid (bt B.out hb)
  clear hb
  have xa0 : w1.cell? ⟨w.heap.size, 0, none⟩ = some (.int .i64 7) := Qa.out.cell 0
  have xa1 : w1.cell? ⟨w.heap.size, 1, none⟩ = some (.int .i64 (k : Int)) := Qa.out.cell 1
  have xa2 : w1.cell? ⟨w.heap.size, 2, none⟩ = some (.int .u64 a) := Qa.out.cell 2
  have xa3 : w1.cell? ⟨w.heap.size, 3, none⟩ = some (.int .u64 b) := Qa.out.cell 3
  have xa4 : w1.cell? ⟨w.heap.size, 4, none⟩ = some (.int .u64 c) := Qa.out.cell 4
  have xa5 : w1.cell? ⟨w.heap.size, 5, none⟩ = some (.string p) := Qa.out.cell 5
  have xb0 : w1.cell? ⟨w.heap.size + 1, 0, none⟩ = some (.int .u64 a') := Qb.out.cell 0
  have xb1 : w1.cell? ⟨w.heap.size + 1, 1, none⟩ = some (.int .u64 b') := Qb.out.cell 1
  have xb2 : w1.cell? ⟨w.heap.size + 1, 2, none⟩ = some (.int .u64 c') := Qb.out.cell 2
  have xb3 : w1.cell? ⟨w.heap.size + 1, 3, none⟩ = some (.string p') := Qb.out.cell 3
  have xb4 : w1.cell? ⟨w.heap.size + 1, 4, none⟩ = some (.string m') := Qb.out.cell 4
  have hz0 : w.heap.size < w1.heap.size := by have := Z.out; omega
  have hz1 : w.heap.size + 1 < w1.heap.size := by have := Z.out; omega
  go_wp2_with fail
  go_at_call 18
  refine (HN.out _).mono ?_
  rintro e w2 ⟨rfl, hb⟩
  replace Qa := hid (((Qa.out.alloc _)).below hb)
  replace Qb := hid (((Qb.out.alloc _)).below hb)
  have Ql := hid (((Blk.new _ _ _)).below hb)
  replace Z := hid (Nat.le_trans (Nat.le_trans Z.out (by first | exact Nat.le_refl _ | omega | (simp only [World.size_alloc, World.size_drew]; omega))) hb.size)
  replace B := hid (bt (B.out.alloc (by have := B.out.size; first | omega | (simp only [World.size_alloc]; omega)) _) hb)
  clear hb
  have xa0 : w2.cell? ⟨w.heap.size, 0, none⟩ = some (.int .i64 7) := Qa.out.cell 0
  have xa1 : w2.cell? ⟨w.heap.size, 1, none⟩ = some (.int .i64 (k : Int)) := Qa.out.cell 1
  have xa2 : w2.cell? ⟨w.heap.size, 2, none⟩ = some (.int .u64 a) := Qa.out.cell 2
  have xa3 : w2.cell? ⟨w.heap.size, 3, none⟩ = some (.int .u64 b) := Qa.out.cell 3
  have xa4 : w2.cell? ⟨w.heap.size, 4, none⟩ = some (.int .u64 c) := Qa.out.cell 4
  have xa5 : w2.cell? ⟨w.heap.size, 5, none⟩ = some (.string p) := Qa.out.cell 5
  have xb0 : w2.cell? ⟨w.heap.size + 1, 0, none⟩ = some (.int .u64 a') := Qb.out.cell 0
  have xb1 : w2.cell? ⟨w.heap.size + 1, 1, none⟩ = some (.int .u64 b') := Qb.out.cell 1
  have xb2 : w2.cell? ⟨w.heap.size + 1, 2, none⟩ = some (.int .u64 c') := Qb.out.cell 2
  have xb3 : w2.cell? ⟨w.heap.size + 1, 3, none⟩ = some (.string p') := Qb.out.cell 3
  have xb4 : w2.cell? ⟨w.heap.size + 1, 4, none⟩ = some (.string m') := Qb.out.cell 4
  have xl0 : w2.cell? ⟨w1.heap.size, 0, none⟩ = some (.int .u64 a) := Ql.out.cell 0
  have xl1 : w2.cell? ⟨w1.heap.size, 1, none⟩ = some (.int .u64 b) := Ql.out.cell 1
  have xl2 : w2.cell? ⟨w1.heap.size, 2, none⟩ = some (.int .u64 c) := Ql.out.cell 2
  have xl3 : w2.cell? ⟨w1.heap.size, 3, none⟩ = some (.string p) := Ql.out.cell 3
  have xl4 : w2.cell? ⟨w1.heap.size, 4, none⟩ = some (.string ByteArray.empty) := Ql.out.cell 4
  go_wp2_with fail
  go_at_call 100
  refine (HC.out _).mono ?_
  rintro e w3 ⟨rfl, hb⟩
  replace Qa := hid ((Qa.out).below hb)
  replace Qb := hid ((Qb.out).below hb)
  replace Ql := hid ((Ql.out).below hb)
  replace Z := hid (Nat.le_trans (Nat.le_trans Z.out (by first | exact Nat.le_refl _ | omega | (simp only [World.size_alloc, World.size_drew]; omega))) hb.size)
  replace B := hid (bt B.out hb)
  clear hb
  have xa0 : w3.cell? ⟨w.heap.size, 0, none⟩ = some (.int .i64 7) := Qa.out.cell 0
  have xa1 : w3.cell? ⟨w.heap.size, 1, none⟩ = some (.int .i64 (k : Int)) := Qa.out.cell 1
  have xa2 : w3.cell? ⟨w.heap.size, 2, none⟩ = some (.int .u64 a) := Qa.out.cell 2
  have xa3 : w3.cell? ⟨w.heap.size, 3, none⟩ = some (.int .u64 b) := Qa.out.cell 3
  have xa4 : w3.cell? ⟨w.heap.size, 4, none⟩ = some (.int .u64 c) := Qa.out.cell 4
  have xa5 : w3.cell? ⟨w.heap.size, 5, none⟩ = some (.string p) := Qa.out.cell 5
  have xb0 : w3.cell? ⟨w.heap.size + 1, 0, none⟩ = some (.int .u64 a') := Qb.out.cell 0
  have xb1 : w3.cell? ⟨w.heap.size + 1, 1, none⟩ = some (.int .u64 b') := Qb.out.cell 1
  have xb2 : w3.cell? ⟨w.heap.size + 1, 2, none⟩ = some (.int .u64 c') := Qb.out.cell 2
  have xb3 : w3.cell? ⟨w.heap.size + 1, 3, none⟩ = some (.string p') := Qb.out.cell 3
  have xb4 : w3.cell? ⟨w.heap.size + 1, 4, none⟩ = some (.string m') := Qb.out.cell 4
  have xl0 : w3.cell? ⟨w1.heap.size, 0, none⟩ = some (.int .u64 a) := Ql.out.cell 0
  have xl1 : w3.cell? ⟨w1.heap.size, 1, none⟩ = some (.int .u64 b) := Ql.out.cell 1
  have xl2 : w3.cell? ⟨w1.heap.size, 2, none⟩ = some (.int .u64 c) := Ql.out.cell 2
  have xl3 : w3.cell? ⟨w1.heap.size, 3, none⟩ = some (.string p) := Ql.out.cell 3
  have xl4 : w3.cell? ⟨w1.heap.size, 4, none⟩ = some (.string ByteArray.empty) := Ql.out.cell 4
  go_wp2_with fail
  have C1 := hid (fun d os => Calls.regrown_of (HC.out (Go.Sort.grow (redrawn w3 d) os)))
  have C2 := hid (fun d os => Calls.regrown_of (caretN_any 7 k a b c p (Go.Sort.grow (redrawn w3 d) os)))
  have C3 := hid (fun d os => Calls.regrown_of (HR.out (Go.Sort.grow (redrawn w3 d) os)))
  have kQa0 : ∀ d os, (Go.Sort.grow (redrawn w3 d) os).cell? ⟨w.heap.size, 0, none⟩ = some (.int .i64 7) := fun d os => (blk_gr Qa.out d os).cell 0
  have kQa1 : ∀ d os, (Go.Sort.grow (redrawn w3 d) os).cell? ⟨w.heap.size, 1, none⟩ = some (.int .i64 (k : Int)) := fun d os => (blk_gr Qa.out d os).cell 1
  have kQa2 : ∀ d os, (Go.Sort.grow (redrawn w3 d) os).cell? ⟨w.heap.size, 2, none⟩ = some (.int .u64 a) := fun d os => (blk_gr Qa.out d os).cell 2
  have kQa3 : ∀ d os, (Go.Sort.grow (redrawn w3 d) os).cell? ⟨w.heap.size, 3, none⟩ = some (.int .u64 b) := fun d os => (blk_gr Qa.out d os).cell 3
  have kQa4 : ∀ d os, (Go.Sort.grow (redrawn w3 d) os).cell? ⟨w.heap.size, 4, none⟩ = some (.int .u64 c) := fun d os => (blk_gr Qa.out d os).cell 4
  have kQa5 : ∀ d os, (Go.Sort.grow (redrawn w3 d) os).cell? ⟨w.heap.size, 5, none⟩ = some (.string p) := fun d os => (blk_gr Qa.out d os).cell 5
  have kQb0 : ∀ d os, (Go.Sort.grow (redrawn w3 d) os).cell? ⟨w.heap.size + 1, 0, none⟩ = some (.int .u64 a') := fun d os => (blk_gr Qb.out d os).cell 0
  have kQb1 : ∀ d os, (Go.Sort.grow (redrawn w3 d) os).cell? ⟨w.heap.size + 1, 1, none⟩ = some (.int .u64 b') := fun d os => (blk_gr Qb.out d os).cell 1
  have kQb2 : ∀ d os, (Go.Sort.grow (redrawn w3 d) os).cell? ⟨w.heap.size + 1, 2, none⟩ = some (.int .u64 c') := fun d os => (blk_gr Qb.out d os).cell 2
  have kQb3 : ∀ d os, (Go.Sort.grow (redrawn w3 d) os).cell? ⟨w.heap.size + 1, 3, none⟩ = some (.string p') := fun d os => (blk_gr Qb.out d os).cell 3
  have kQb4 : ∀ d os, (Go.Sort.grow (redrawn w3 d) os).cell? ⟨w.heap.size + 1, 4, none⟩ = some (.string m') := fun d os => (blk_gr Qb.out d os).cell 4
  have kQl0 : ∀ d os, (Go.Sort.grow (redrawn w3 d) os).cell? ⟨w1.heap.size, 0, none⟩ = some (.int .u64 a) := fun d os => (blk_gr Ql.out d os).cell 0
  have kQl1 : ∀ d os, (Go.Sort.grow (redrawn w3 d) os).cell? ⟨w1.heap.size, 1, none⟩ = some (.int .u64 b) := fun d os => (blk_gr Ql.out d os).cell 1
  have kQl2 : ∀ d os, (Go.Sort.grow (redrawn w3 d) os).cell? ⟨w1.heap.size, 2, none⟩ = some (.int .u64 c) := fun d os => (blk_gr Ql.out d os).cell 2
  have kQl3 : ∀ d os, (Go.Sort.grow (redrawn w3 d) os).cell? ⟨w1.heap.size, 3, none⟩ = some (.string p) := fun d os => (blk_gr Ql.out d os).cell 3
  have kQl4 : ∀ d os, (Go.Sort.grow (redrawn w3 d) os).cell? ⟨w1.heap.size, 4, none⟩ = some (.string ByteArray.empty) := fun d os => (blk_gr Ql.out d os).cell 4
  refine wp_region_quiet_below (by kernel_rfl) (by kernel_rfl) ?_
  repeat (go_big_quiet_step ((first | (go_at_call 100; exact C1.out _ _) | (go_at_call 102; exact C2.out _ _) | (go_at_call 18; exact C3.out _ _) | fail)))
  refine wpQuiet_nil ?_
  intro _ hw'
  obtain ⟨⟨dq, osq⟩, hw''⟩ := hw'
  subst hw''
  go_wp2_with fail
  go_ret
  exact ⟨rfl, bt B.out (below_regrown _ _ _)⟩

set_option maxHeartbeats 800000 in
set_option maxRecDepth 100000 in
theorem cmp7_tf (k : Nat) (a b c : Int) (p : ByteArray) (a' b' c' : Int) (p' m' : ByteArray) (V n1 n2 : Int) (w : World) (hcmp : ∀ W, Calls Tryd.prog 100 #[.agg (scells a' b' c' p' m'), .agg (scells a b c p ByteArray.empty)] W fun e w' => e = .returned (.int .i64 V) ∧ Below W.heap.size W w') (hcn : ∀ W, Calls Tryd.prog 18 #[.agg (scells a' b' c' p' m'), .agg (scells a b c p ByteArray.empty), .int .i64 (k : Int)] W fun e w' => e = .returned (.int .i64 n1) ∧ Below W.heap.size W w') (hcar : ∀ W, Calls Tryd.prog 18 #[.agg (scells a' b' c' p' m'), .agg (scells a b c p ByteArray.empty), .int .i64 ((caretN k a b c : Nat) : Int)] W fun e w' => e = .returned (.int .i64 n2) ∧ Below W.heap.size W w') (hk3 : ((k : Int) == 3) = true) (hV : 0 ≤ V) (h2 : (n2 == 0) = false) :
    Calls Tryd.prog 70 #[.agg #[.int .i64 7, .int .i64 (k : Int), .int .u64 a, .int .u64 b, .int .u64 c, .string p], .agg (scells a' b' c' p' m')] w fun e w' => e = .returned (.bool false) ∧ Below w.heap.size w w' := by
  have B := hid (show Below w.heap.size w ((w.alloc (.cells #[.int .i64 7, .int .i64 (k : Int), .int .u64 a, .int .u64 b, .int .u64 c, .string p] 36)).alloc (.cells #[.int .u64 a', .int .u64 b', .int .u64 c', .string p', .string m'] 27)) by go_grown)
  have Z := hid (show w.heap.size + 2 ≤ ((w.alloc (.cells #[.int .i64 7, .int .i64 (k : Int), .int .u64 a, .int .u64 b, .int .u64 c, .string p] 36)).alloc (.cells #[.int .u64 a', .int .u64 b', .int .u64 c', .string p', .string m'] 27)).heap.size by simp only [World.size_alloc]; omega)
  obtain ⟨qa, qb⟩ := two_new w (#[.int .i64 7, .int .i64 (k : Int), .int .u64 a, .int .u64 b, .int .u64 c, .string p]) (#[.int .u64 a', .int .u64 b', .int .u64 c', .string p', .string m']) 36 27
  have Qa := hid qa
  have Qb := hid qb
  clear qa qb
  have HC := hid hcmp
  clear hcmp
  have HN := hid hcn
  clear hcn
  have HR := hid hcar
  clear hcar
  go_enter Tryd.func70, Tryd.ntmps70
  go_wp2_with fail
  go_at_call 31
  refine (leastV_any _ _ a b c p _).mono ?_
  rintro e w1 ⟨rfl, hb⟩
  replace Qa := hid ((Qa.out).below hb)
  replace Qb := hid ((Qb.out).below hb)
  replace Z := hid (Nat.le_trans (Nat.le_trans Z.out (by first | exact Nat.le_refl _ | omega | (simp only [World.size_alloc, World.size_drew]; omega))) hb.size)
  replace B := hid (bt B.out hb)
  clear hb
  have xa0 : w1.cell? ⟨w.heap.size, 0, none⟩ = some (.int .i64 7) := Qa.out.cell 0
  have xa1 : w1.cell? ⟨w.heap.size, 1, none⟩ = some (.int .i64 (k : Int)) := Qa.out.cell 1
  have xa2 : w1.cell? ⟨w.heap.size, 2, none⟩ = some (.int .u64 a) := Qa.out.cell 2
  have xa3 : w1.cell? ⟨w.heap.size, 3, none⟩ = some (.int .u64 b) := Qa.out.cell 3
  have xa4 : w1.cell? ⟨w.heap.size, 4, none⟩ = some (.int .u64 c) := Qa.out.cell 4
  have xa5 : w1.cell? ⟨w.heap.size, 5, none⟩ = some (.string p) := Qa.out.cell 5
  have xb0 : w1.cell? ⟨w.heap.size + 1, 0, none⟩ = some (.int .u64 a') := Qb.out.cell 0
  have xb1 : w1.cell? ⟨w.heap.size + 1, 1, none⟩ = some (.int .u64 b') := Qb.out.cell 1
  have xb2 : w1.cell? ⟨w.heap.size + 1, 2, none⟩ = some (.int .u64 c') := Qb.out.cell 2
  have xb3 : w1.cell? ⟨w.heap.size + 1, 3, none⟩ = some (.string p') := Qb.out.cell 3
  have xb4 : w1.cell? ⟨w.heap.size + 1, 4, none⟩ = some (.string m') := Qb.out.cell 4
  have hz0 : w.heap.size < w1.heap.size := by have := Z.out; omega
  have hz1 : w.heap.size + 1 < w1.heap.size := by have := Z.out; omega
  go_wp2_with fail
  go_at_call 18
  refine (HN.out _).mono ?_
  rintro e w2 ⟨rfl, hb⟩
  replace Qa := hid (((Qa.out.alloc _)).below hb)
  replace Qb := hid (((Qb.out.alloc _)).below hb)
  have Ql := hid (((Blk.new _ _ _)).below hb)
  replace Z := hid (Nat.le_trans (Nat.le_trans Z.out (by first | exact Nat.le_refl _ | omega | (simp only [World.size_alloc, World.size_drew]; omega))) hb.size)
  replace B := hid (bt (B.out.alloc (by have := B.out.size; first | omega | (simp only [World.size_alloc]; omega)) _) hb)
  clear hb
  have xa0 : w2.cell? ⟨w.heap.size, 0, none⟩ = some (.int .i64 7) := Qa.out.cell 0
  have xa1 : w2.cell? ⟨w.heap.size, 1, none⟩ = some (.int .i64 (k : Int)) := Qa.out.cell 1
  have xa2 : w2.cell? ⟨w.heap.size, 2, none⟩ = some (.int .u64 a) := Qa.out.cell 2
  have xa3 : w2.cell? ⟨w.heap.size, 3, none⟩ = some (.int .u64 b) := Qa.out.cell 3
  have xa4 : w2.cell? ⟨w.heap.size, 4, none⟩ = some (.int .u64 c) := Qa.out.cell 4
  have xa5 : w2.cell? ⟨w.heap.size, 5, none⟩ = some (.string p) := Qa.out.cell 5
  have xb0 : w2.cell? ⟨w.heap.size + 1, 0, none⟩ = some (.int .u64 a') := Qb.out.cell 0
  have xb1 : w2.cell? ⟨w.heap.size + 1, 1, none⟩ = some (.int .u64 b') := Qb.out.cell 1
  have xb2 : w2.cell? ⟨w.heap.size + 1, 2, none⟩ = some (.int .u64 c') := Qb.out.cell 2
  have xb3 : w2.cell? ⟨w.heap.size + 1, 3, none⟩ = some (.string p') := Qb.out.cell 3
  have xb4 : w2.cell? ⟨w.heap.size + 1, 4, none⟩ = some (.string m') := Qb.out.cell 4
  have xl0 : w2.cell? ⟨w1.heap.size, 0, none⟩ = some (.int .u64 a) := Ql.out.cell 0
  have xl1 : w2.cell? ⟨w1.heap.size, 1, none⟩ = some (.int .u64 b) := Ql.out.cell 1
  have xl2 : w2.cell? ⟨w1.heap.size, 2, none⟩ = some (.int .u64 c) := Ql.out.cell 2
  have xl3 : w2.cell? ⟨w1.heap.size, 3, none⟩ = some (.string p) := Ql.out.cell 3
  have xl4 : w2.cell? ⟨w1.heap.size, 4, none⟩ = some (.string ByteArray.empty) := Ql.out.cell 4
  go_wp2_with fail
  go_at_call 100
  refine (HC.out _).mono ?_
  rintro e w3 ⟨rfl, hb⟩
  replace Qa := hid ((Qa.out).below hb)
  replace Qb := hid ((Qb.out).below hb)
  replace Ql := hid ((Ql.out).below hb)
  replace Z := hid (Nat.le_trans (Nat.le_trans Z.out (by first | exact Nat.le_refl _ | omega | (simp only [World.size_alloc, World.size_drew]; omega))) hb.size)
  replace B := hid (bt B.out hb)
  clear hb
  have xa0 : w3.cell? ⟨w.heap.size, 0, none⟩ = some (.int .i64 7) := Qa.out.cell 0
  have xa1 : w3.cell? ⟨w.heap.size, 1, none⟩ = some (.int .i64 (k : Int)) := Qa.out.cell 1
  have xa2 : w3.cell? ⟨w.heap.size, 2, none⟩ = some (.int .u64 a) := Qa.out.cell 2
  have xa3 : w3.cell? ⟨w.heap.size, 3, none⟩ = some (.int .u64 b) := Qa.out.cell 3
  have xa4 : w3.cell? ⟨w.heap.size, 4, none⟩ = some (.int .u64 c) := Qa.out.cell 4
  have xa5 : w3.cell? ⟨w.heap.size, 5, none⟩ = some (.string p) := Qa.out.cell 5
  have xb0 : w3.cell? ⟨w.heap.size + 1, 0, none⟩ = some (.int .u64 a') := Qb.out.cell 0
  have xb1 : w3.cell? ⟨w.heap.size + 1, 1, none⟩ = some (.int .u64 b') := Qb.out.cell 1
  have xb2 : w3.cell? ⟨w.heap.size + 1, 2, none⟩ = some (.int .u64 c') := Qb.out.cell 2
  have xb3 : w3.cell? ⟨w.heap.size + 1, 3, none⟩ = some (.string p') := Qb.out.cell 3
  have xb4 : w3.cell? ⟨w.heap.size + 1, 4, none⟩ = some (.string m') := Qb.out.cell 4
  have xl0 : w3.cell? ⟨w1.heap.size, 0, none⟩ = some (.int .u64 a) := Ql.out.cell 0
  have xl1 : w3.cell? ⟨w1.heap.size, 1, none⟩ = some (.int .u64 b) := Ql.out.cell 1
  have xl2 : w3.cell? ⟨w1.heap.size, 2, none⟩ = some (.int .u64 c) := Ql.out.cell 2
  have xl3 : w3.cell? ⟨w1.heap.size, 3, none⟩ = some (.string p) := Ql.out.cell 3
  have xl4 : w3.cell? ⟨w1.heap.size, 4, none⟩ = some (.string ByteArray.empty) := Ql.out.cell 4
  go_wp2_with fail
  have C1 := hid (fun d os => Calls.regrown_of (HC.out (Go.Sort.grow (redrawn w3 d) os)))
  have C2 := hid (fun d os => Calls.regrown_of (caretN_any 7 k a b c p (Go.Sort.grow (redrawn w3 d) os)))
  have C3 := hid (fun d os => Calls.regrown_of (HR.out (Go.Sort.grow (redrawn w3 d) os)))
  have kQa0 : ∀ d os, (Go.Sort.grow (redrawn w3 d) os).cell? ⟨w.heap.size, 0, none⟩ = some (.int .i64 7) := fun d os => (blk_gr Qa.out d os).cell 0
  have kQa1 : ∀ d os, (Go.Sort.grow (redrawn w3 d) os).cell? ⟨w.heap.size, 1, none⟩ = some (.int .i64 (k : Int)) := fun d os => (blk_gr Qa.out d os).cell 1
  have kQa2 : ∀ d os, (Go.Sort.grow (redrawn w3 d) os).cell? ⟨w.heap.size, 2, none⟩ = some (.int .u64 a) := fun d os => (blk_gr Qa.out d os).cell 2
  have kQa3 : ∀ d os, (Go.Sort.grow (redrawn w3 d) os).cell? ⟨w.heap.size, 3, none⟩ = some (.int .u64 b) := fun d os => (blk_gr Qa.out d os).cell 3
  have kQa4 : ∀ d os, (Go.Sort.grow (redrawn w3 d) os).cell? ⟨w.heap.size, 4, none⟩ = some (.int .u64 c) := fun d os => (blk_gr Qa.out d os).cell 4
  have kQa5 : ∀ d os, (Go.Sort.grow (redrawn w3 d) os).cell? ⟨w.heap.size, 5, none⟩ = some (.string p) := fun d os => (blk_gr Qa.out d os).cell 5
  have kQb0 : ∀ d os, (Go.Sort.grow (redrawn w3 d) os).cell? ⟨w.heap.size + 1, 0, none⟩ = some (.int .u64 a') := fun d os => (blk_gr Qb.out d os).cell 0
  have kQb1 : ∀ d os, (Go.Sort.grow (redrawn w3 d) os).cell? ⟨w.heap.size + 1, 1, none⟩ = some (.int .u64 b') := fun d os => (blk_gr Qb.out d os).cell 1
  have kQb2 : ∀ d os, (Go.Sort.grow (redrawn w3 d) os).cell? ⟨w.heap.size + 1, 2, none⟩ = some (.int .u64 c') := fun d os => (blk_gr Qb.out d os).cell 2
  have kQb3 : ∀ d os, (Go.Sort.grow (redrawn w3 d) os).cell? ⟨w.heap.size + 1, 3, none⟩ = some (.string p') := fun d os => (blk_gr Qb.out d os).cell 3
  have kQb4 : ∀ d os, (Go.Sort.grow (redrawn w3 d) os).cell? ⟨w.heap.size + 1, 4, none⟩ = some (.string m') := fun d os => (blk_gr Qb.out d os).cell 4
  have kQl0 : ∀ d os, (Go.Sort.grow (redrawn w3 d) os).cell? ⟨w1.heap.size, 0, none⟩ = some (.int .u64 a) := fun d os => (blk_gr Ql.out d os).cell 0
  have kQl1 : ∀ d os, (Go.Sort.grow (redrawn w3 d) os).cell? ⟨w1.heap.size, 1, none⟩ = some (.int .u64 b) := fun d os => (blk_gr Ql.out d os).cell 1
  have kQl2 : ∀ d os, (Go.Sort.grow (redrawn w3 d) os).cell? ⟨w1.heap.size, 2, none⟩ = some (.int .u64 c) := fun d os => (blk_gr Ql.out d os).cell 2
  have kQl3 : ∀ d os, (Go.Sort.grow (redrawn w3 d) os).cell? ⟨w1.heap.size, 3, none⟩ = some (.string p) := fun d os => (blk_gr Ql.out d os).cell 3
  have kQl4 : ∀ d os, (Go.Sort.grow (redrawn w3 d) os).cell? ⟨w1.heap.size, 4, none⟩ = some (.string ByteArray.empty) := fun d os => (blk_gr Ql.out d os).cell 4
  refine wp_region_quiet_below (by kernel_rfl) (by kernel_rfl) ?_
  repeat (go_big_quiet_step ((first | (go_at_call 100; exact C1.out _ _) | (go_at_call 102; exact C2.out _ _) | (go_at_call 18; exact C3.out _ _) | fail)))
  refine wpQuiet_nil ?_
  intro _ hw'
  obtain ⟨⟨dq, osq⟩, hw''⟩ := hw'
  subst hw''
  go_wp2_with fail
  go_ret
  exact ⟨rfl, bt B.out (below_regrown _ _ _)⟩

set_option maxHeartbeats 800000 in
set_option maxRecDepth 100000 in
theorem cmp7_fn (k : Nat) (a b c : Int) (p : ByteArray) (a' b' c' : Int) (p' m' : ByteArray) (V n1 n2 : Int) (w : World) (hcmp : ∀ W, Calls Tryd.prog 100 #[.agg (scells a' b' c' p' m'), .agg (scells a b c p ByteArray.empty)] W fun e w' => e = .returned (.int .i64 V) ∧ Below W.heap.size W w') (hcn : ∀ W, Calls Tryd.prog 18 #[.agg (scells a' b' c' p' m'), .agg (scells a b c p ByteArray.empty), .int .i64 (k : Int)] W fun e w' => e = .returned (.int .i64 n1) ∧ Below W.heap.size W w') (hcar : ∀ W, Calls Tryd.prog 18 #[.agg (scells a' b' c' p' m'), .agg (scells a b c p ByteArray.empty), .int .i64 ((caretN k a b c : Nat) : Int)] W fun e w' => e = .returned (.int .i64 n2) ∧ Below W.heap.size W w') (hk3 : ((k : Int) == 3) = false) (hV : V < 0) :
    Calls Tryd.prog 70 #[.agg #[.int .i64 7, .int .i64 (k : Int), .int .u64 a, .int .u64 b, .int .u64 c, .string p], .agg (scells a' b' c' p' m')] w fun e w' => e = .returned (.bool false) ∧ Below w.heap.size w w' := by
  have hVd : decide (0 ≤ V) = false := decide_eq_false (by omega)
  have B := hid (show Below w.heap.size w ((w.alloc (.cells #[.int .i64 7, .int .i64 (k : Int), .int .u64 a, .int .u64 b, .int .u64 c, .string p] 36)).alloc (.cells #[.int .u64 a', .int .u64 b', .int .u64 c', .string p', .string m'] 27)) by go_grown)
  have Z := hid (show w.heap.size + 2 ≤ ((w.alloc (.cells #[.int .i64 7, .int .i64 (k : Int), .int .u64 a, .int .u64 b, .int .u64 c, .string p] 36)).alloc (.cells #[.int .u64 a', .int .u64 b', .int .u64 c', .string p', .string m'] 27)).heap.size by simp only [World.size_alloc]; omega)
  obtain ⟨qa, qb⟩ := two_new w (#[.int .i64 7, .int .i64 (k : Int), .int .u64 a, .int .u64 b, .int .u64 c, .string p]) (#[.int .u64 a', .int .u64 b', .int .u64 c', .string p', .string m']) 36 27
  have Qa := hid qa
  have Qb := hid qb
  clear qa qb
  have HC := hid hcmp
  clear hcmp
  have HN := hid hcn
  clear hcn
  have HR := hid hcar
  clear hcar
  go_enter Tryd.func70, Tryd.ntmps70
  go_wp2_with fail
  go_at_call 31
  refine (leastV_any _ _ a b c p _).mono ?_
  rintro e w1 ⟨rfl, hb⟩
  replace Qa := hid ((Qa.out).below hb)
  replace Qb := hid ((Qb.out).below hb)
  replace Z := hid (Nat.le_trans (Nat.le_trans Z.out (by first | exact Nat.le_refl _ | omega | (simp only [World.size_alloc, World.size_drew]; omega))) hb.size)
  replace B := hid (bt B.out hb)
  clear hb
  have xa0 : w1.cell? ⟨w.heap.size, 0, none⟩ = some (.int .i64 7) := Qa.out.cell 0
  have xa1 : w1.cell? ⟨w.heap.size, 1, none⟩ = some (.int .i64 (k : Int)) := Qa.out.cell 1
  have xa2 : w1.cell? ⟨w.heap.size, 2, none⟩ = some (.int .u64 a) := Qa.out.cell 2
  have xa3 : w1.cell? ⟨w.heap.size, 3, none⟩ = some (.int .u64 b) := Qa.out.cell 3
  have xa4 : w1.cell? ⟨w.heap.size, 4, none⟩ = some (.int .u64 c) := Qa.out.cell 4
  have xa5 : w1.cell? ⟨w.heap.size, 5, none⟩ = some (.string p) := Qa.out.cell 5
  have xb0 : w1.cell? ⟨w.heap.size + 1, 0, none⟩ = some (.int .u64 a') := Qb.out.cell 0
  have xb1 : w1.cell? ⟨w.heap.size + 1, 1, none⟩ = some (.int .u64 b') := Qb.out.cell 1
  have xb2 : w1.cell? ⟨w.heap.size + 1, 2, none⟩ = some (.int .u64 c') := Qb.out.cell 2
  have xb3 : w1.cell? ⟨w.heap.size + 1, 3, none⟩ = some (.string p') := Qb.out.cell 3
  have xb4 : w1.cell? ⟨w.heap.size + 1, 4, none⟩ = some (.string m') := Qb.out.cell 4
  have hz0 : w.heap.size < w1.heap.size := by have := Z.out; omega
  have hz1 : w.heap.size + 1 < w1.heap.size := by have := Z.out; omega
  go_wp2_with fail
  go_at_call 18
  refine (HN.out _).mono ?_
  rintro e w2 ⟨rfl, hb⟩
  replace Qa := hid (((Qa.out.alloc _)).below hb)
  replace Qb := hid (((Qb.out.alloc _)).below hb)
  have Ql := hid (((Blk.new _ _ _)).below hb)
  replace Z := hid (Nat.le_trans (Nat.le_trans Z.out (by first | exact Nat.le_refl _ | omega | (simp only [World.size_alloc, World.size_drew]; omega))) hb.size)
  replace B := hid (bt (B.out.alloc (by have := B.out.size; first | omega | (simp only [World.size_alloc]; omega)) _) hb)
  clear hb
  have xa0 : w2.cell? ⟨w.heap.size, 0, none⟩ = some (.int .i64 7) := Qa.out.cell 0
  have xa1 : w2.cell? ⟨w.heap.size, 1, none⟩ = some (.int .i64 (k : Int)) := Qa.out.cell 1
  have xa2 : w2.cell? ⟨w.heap.size, 2, none⟩ = some (.int .u64 a) := Qa.out.cell 2
  have xa3 : w2.cell? ⟨w.heap.size, 3, none⟩ = some (.int .u64 b) := Qa.out.cell 3
  have xa4 : w2.cell? ⟨w.heap.size, 4, none⟩ = some (.int .u64 c) := Qa.out.cell 4
  have xa5 : w2.cell? ⟨w.heap.size, 5, none⟩ = some (.string p) := Qa.out.cell 5
  have xb0 : w2.cell? ⟨w.heap.size + 1, 0, none⟩ = some (.int .u64 a') := Qb.out.cell 0
  have xb1 : w2.cell? ⟨w.heap.size + 1, 1, none⟩ = some (.int .u64 b') := Qb.out.cell 1
  have xb2 : w2.cell? ⟨w.heap.size + 1, 2, none⟩ = some (.int .u64 c') := Qb.out.cell 2
  have xb3 : w2.cell? ⟨w.heap.size + 1, 3, none⟩ = some (.string p') := Qb.out.cell 3
  have xb4 : w2.cell? ⟨w.heap.size + 1, 4, none⟩ = some (.string m') := Qb.out.cell 4
  have xl0 : w2.cell? ⟨w1.heap.size, 0, none⟩ = some (.int .u64 a) := Ql.out.cell 0
  have xl1 : w2.cell? ⟨w1.heap.size, 1, none⟩ = some (.int .u64 b) := Ql.out.cell 1
  have xl2 : w2.cell? ⟨w1.heap.size, 2, none⟩ = some (.int .u64 c) := Ql.out.cell 2
  have xl3 : w2.cell? ⟨w1.heap.size, 3, none⟩ = some (.string p) := Ql.out.cell 3
  have xl4 : w2.cell? ⟨w1.heap.size, 4, none⟩ = some (.string ByteArray.empty) := Ql.out.cell 4
  go_wp2_with fail
  have C1 := hid (fun d os => Calls.regrown_of (HC.out (Go.Sort.grow (redrawn w2 d) os)))
  have C2 := hid (fun d os => Calls.regrown_of (caretN_any 7 k a b c p (Go.Sort.grow (redrawn w2 d) os)))
  have C3 := hid (fun d os => Calls.regrown_of (HR.out (Go.Sort.grow (redrawn w2 d) os)))
  have kQa0 : ∀ d os, (Go.Sort.grow (redrawn w2 d) os).cell? ⟨w.heap.size, 0, none⟩ = some (.int .i64 7) := fun d os => (blk_gr Qa.out d os).cell 0
  have kQa1 : ∀ d os, (Go.Sort.grow (redrawn w2 d) os).cell? ⟨w.heap.size, 1, none⟩ = some (.int .i64 (k : Int)) := fun d os => (blk_gr Qa.out d os).cell 1
  have kQa2 : ∀ d os, (Go.Sort.grow (redrawn w2 d) os).cell? ⟨w.heap.size, 2, none⟩ = some (.int .u64 a) := fun d os => (blk_gr Qa.out d os).cell 2
  have kQa3 : ∀ d os, (Go.Sort.grow (redrawn w2 d) os).cell? ⟨w.heap.size, 3, none⟩ = some (.int .u64 b) := fun d os => (blk_gr Qa.out d os).cell 3
  have kQa4 : ∀ d os, (Go.Sort.grow (redrawn w2 d) os).cell? ⟨w.heap.size, 4, none⟩ = some (.int .u64 c) := fun d os => (blk_gr Qa.out d os).cell 4
  have kQa5 : ∀ d os, (Go.Sort.grow (redrawn w2 d) os).cell? ⟨w.heap.size, 5, none⟩ = some (.string p) := fun d os => (blk_gr Qa.out d os).cell 5
  have kQb0 : ∀ d os, (Go.Sort.grow (redrawn w2 d) os).cell? ⟨w.heap.size + 1, 0, none⟩ = some (.int .u64 a') := fun d os => (blk_gr Qb.out d os).cell 0
  have kQb1 : ∀ d os, (Go.Sort.grow (redrawn w2 d) os).cell? ⟨w.heap.size + 1, 1, none⟩ = some (.int .u64 b') := fun d os => (blk_gr Qb.out d os).cell 1
  have kQb2 : ∀ d os, (Go.Sort.grow (redrawn w2 d) os).cell? ⟨w.heap.size + 1, 2, none⟩ = some (.int .u64 c') := fun d os => (blk_gr Qb.out d os).cell 2
  have kQb3 : ∀ d os, (Go.Sort.grow (redrawn w2 d) os).cell? ⟨w.heap.size + 1, 3, none⟩ = some (.string p') := fun d os => (blk_gr Qb.out d os).cell 3
  have kQb4 : ∀ d os, (Go.Sort.grow (redrawn w2 d) os).cell? ⟨w.heap.size + 1, 4, none⟩ = some (.string m') := fun d os => (blk_gr Qb.out d os).cell 4
  have kQl0 : ∀ d os, (Go.Sort.grow (redrawn w2 d) os).cell? ⟨w1.heap.size, 0, none⟩ = some (.int .u64 a) := fun d os => (blk_gr Ql.out d os).cell 0
  have kQl1 : ∀ d os, (Go.Sort.grow (redrawn w2 d) os).cell? ⟨w1.heap.size, 1, none⟩ = some (.int .u64 b) := fun d os => (blk_gr Ql.out d os).cell 1
  have kQl2 : ∀ d os, (Go.Sort.grow (redrawn w2 d) os).cell? ⟨w1.heap.size, 2, none⟩ = some (.int .u64 c) := fun d os => (blk_gr Ql.out d os).cell 2
  have kQl3 : ∀ d os, (Go.Sort.grow (redrawn w2 d) os).cell? ⟨w1.heap.size, 3, none⟩ = some (.string p) := fun d os => (blk_gr Ql.out d os).cell 3
  have kQl4 : ∀ d os, (Go.Sort.grow (redrawn w2 d) os).cell? ⟨w1.heap.size, 4, none⟩ = some (.string ByteArray.empty) := fun d os => (blk_gr Ql.out d os).cell 4
  refine wp_region_quiet_below (by kernel_rfl) (by kernel_rfl) ?_
  repeat (go_big_quiet_step ((first | (go_at_call 100; exact C1.out _ _) | (go_at_call 102; exact C2.out _ _) | (go_at_call 18; exact C3.out _ _) | fail)))
  refine wpQuiet_nil ?_
  intro _ hw'
  obtain ⟨⟨dq, osq⟩, hw''⟩ := hw'
  subst hw''
  go_wp2_with fail
  go_ret
  exact ⟨rfl, bt B.out (below_regrown _ _ _)⟩

set_option maxHeartbeats 800000 in
set_option maxRecDepth 100000 in
theorem cmp7_ft (k : Nat) (a b c : Int) (p : ByteArray) (a' b' c' : Int) (p' m' : ByteArray) (V n1 n2 : Int) (w : World) (hcmp : ∀ W, Calls Tryd.prog 100 #[.agg (scells a' b' c' p' m'), .agg (scells a b c p ByteArray.empty)] W fun e w' => e = .returned (.int .i64 V) ∧ Below W.heap.size W w') (hcn : ∀ W, Calls Tryd.prog 18 #[.agg (scells a' b' c' p' m'), .agg (scells a b c p ByteArray.empty), .int .i64 (k : Int)] W fun e w' => e = .returned (.int .i64 n1) ∧ Below W.heap.size W w') (hcar : ∀ W, Calls Tryd.prog 18 #[.agg (scells a' b' c' p' m'), .agg (scells a b c p ByteArray.empty), .int .i64 ((caretN k a b c : Nat) : Int)] W fun e w' => e = .returned (.int .i64 n2) ∧ Below W.heap.size W w') (hk3 : ((k : Int) == 3) = false) (hV : 0 ≤ V) (h2 : (n2 == 0) = true) :
    Calls Tryd.prog 70 #[.agg #[.int .i64 7, .int .i64 (k : Int), .int .u64 a, .int .u64 b, .int .u64 c, .string p], .agg (scells a' b' c' p' m')] w fun e w' => e = .returned (.bool true) ∧ Below w.heap.size w w' := by
  have B := hid (show Below w.heap.size w ((w.alloc (.cells #[.int .i64 7, .int .i64 (k : Int), .int .u64 a, .int .u64 b, .int .u64 c, .string p] 36)).alloc (.cells #[.int .u64 a', .int .u64 b', .int .u64 c', .string p', .string m'] 27)) by go_grown)
  have Z := hid (show w.heap.size + 2 ≤ ((w.alloc (.cells #[.int .i64 7, .int .i64 (k : Int), .int .u64 a, .int .u64 b, .int .u64 c, .string p] 36)).alloc (.cells #[.int .u64 a', .int .u64 b', .int .u64 c', .string p', .string m'] 27)).heap.size by simp only [World.size_alloc]; omega)
  obtain ⟨qa, qb⟩ := two_new w (#[.int .i64 7, .int .i64 (k : Int), .int .u64 a, .int .u64 b, .int .u64 c, .string p]) (#[.int .u64 a', .int .u64 b', .int .u64 c', .string p', .string m']) 36 27
  have Qa := hid qa
  have Qb := hid qb
  clear qa qb
  have HC := hid hcmp
  clear hcmp
  have HN := hid hcn
  clear hcn
  have HR := hid hcar
  clear hcar
  go_enter Tryd.func70, Tryd.ntmps70
  go_wp2_with fail
  go_at_call 31
  refine (leastV_any _ _ a b c p _).mono ?_
  rintro e w1 ⟨rfl, hb⟩
  replace Qa := hid ((Qa.out).below hb)
  replace Qb := hid ((Qb.out).below hb)
  replace Z := hid (Nat.le_trans (Nat.le_trans Z.out (by first | exact Nat.le_refl _ | omega | (simp only [World.size_alloc, World.size_drew]; omega))) hb.size)
  replace B := hid (bt B.out hb)
  clear hb
  have xa0 : w1.cell? ⟨w.heap.size, 0, none⟩ = some (.int .i64 7) := Qa.out.cell 0
  have xa1 : w1.cell? ⟨w.heap.size, 1, none⟩ = some (.int .i64 (k : Int)) := Qa.out.cell 1
  have xa2 : w1.cell? ⟨w.heap.size, 2, none⟩ = some (.int .u64 a) := Qa.out.cell 2
  have xa3 : w1.cell? ⟨w.heap.size, 3, none⟩ = some (.int .u64 b) := Qa.out.cell 3
  have xa4 : w1.cell? ⟨w.heap.size, 4, none⟩ = some (.int .u64 c) := Qa.out.cell 4
  have xa5 : w1.cell? ⟨w.heap.size, 5, none⟩ = some (.string p) := Qa.out.cell 5
  have xb0 : w1.cell? ⟨w.heap.size + 1, 0, none⟩ = some (.int .u64 a') := Qb.out.cell 0
  have xb1 : w1.cell? ⟨w.heap.size + 1, 1, none⟩ = some (.int .u64 b') := Qb.out.cell 1
  have xb2 : w1.cell? ⟨w.heap.size + 1, 2, none⟩ = some (.int .u64 c') := Qb.out.cell 2
  have xb3 : w1.cell? ⟨w.heap.size + 1, 3, none⟩ = some (.string p') := Qb.out.cell 3
  have xb4 : w1.cell? ⟨w.heap.size + 1, 4, none⟩ = some (.string m') := Qb.out.cell 4
  have hz0 : w.heap.size < w1.heap.size := by have := Z.out; omega
  have hz1 : w.heap.size + 1 < w1.heap.size := by have := Z.out; omega
  go_wp2_with fail
  go_at_call 18
  refine (HN.out _).mono ?_
  rintro e w2 ⟨rfl, hb⟩
  replace Qa := hid (((Qa.out.alloc _)).below hb)
  replace Qb := hid (((Qb.out.alloc _)).below hb)
  have Ql := hid (((Blk.new _ _ _)).below hb)
  replace Z := hid (Nat.le_trans (Nat.le_trans Z.out (by first | exact Nat.le_refl _ | omega | (simp only [World.size_alloc, World.size_drew]; omega))) hb.size)
  replace B := hid (bt (B.out.alloc (by have := B.out.size; first | omega | (simp only [World.size_alloc]; omega)) _) hb)
  clear hb
  have xa0 : w2.cell? ⟨w.heap.size, 0, none⟩ = some (.int .i64 7) := Qa.out.cell 0
  have xa1 : w2.cell? ⟨w.heap.size, 1, none⟩ = some (.int .i64 (k : Int)) := Qa.out.cell 1
  have xa2 : w2.cell? ⟨w.heap.size, 2, none⟩ = some (.int .u64 a) := Qa.out.cell 2
  have xa3 : w2.cell? ⟨w.heap.size, 3, none⟩ = some (.int .u64 b) := Qa.out.cell 3
  have xa4 : w2.cell? ⟨w.heap.size, 4, none⟩ = some (.int .u64 c) := Qa.out.cell 4
  have xa5 : w2.cell? ⟨w.heap.size, 5, none⟩ = some (.string p) := Qa.out.cell 5
  have xb0 : w2.cell? ⟨w.heap.size + 1, 0, none⟩ = some (.int .u64 a') := Qb.out.cell 0
  have xb1 : w2.cell? ⟨w.heap.size + 1, 1, none⟩ = some (.int .u64 b') := Qb.out.cell 1
  have xb2 : w2.cell? ⟨w.heap.size + 1, 2, none⟩ = some (.int .u64 c') := Qb.out.cell 2
  have xb3 : w2.cell? ⟨w.heap.size + 1, 3, none⟩ = some (.string p') := Qb.out.cell 3
  have xb4 : w2.cell? ⟨w.heap.size + 1, 4, none⟩ = some (.string m') := Qb.out.cell 4
  have xl0 : w2.cell? ⟨w1.heap.size, 0, none⟩ = some (.int .u64 a) := Ql.out.cell 0
  have xl1 : w2.cell? ⟨w1.heap.size, 1, none⟩ = some (.int .u64 b) := Ql.out.cell 1
  have xl2 : w2.cell? ⟨w1.heap.size, 2, none⟩ = some (.int .u64 c) := Ql.out.cell 2
  have xl3 : w2.cell? ⟨w1.heap.size, 3, none⟩ = some (.string p) := Ql.out.cell 3
  have xl4 : w2.cell? ⟨w1.heap.size, 4, none⟩ = some (.string ByteArray.empty) := Ql.out.cell 4
  go_wp2_with fail
  have C1 := hid (fun d os => Calls.regrown_of (HC.out (Go.Sort.grow (redrawn w2 d) os)))
  have C2 := hid (fun d os => Calls.regrown_of (caretN_any 7 k a b c p (Go.Sort.grow (redrawn w2 d) os)))
  have C3 := hid (fun d os => Calls.regrown_of (HR.out (Go.Sort.grow (redrawn w2 d) os)))
  have kQa0 : ∀ d os, (Go.Sort.grow (redrawn w2 d) os).cell? ⟨w.heap.size, 0, none⟩ = some (.int .i64 7) := fun d os => (blk_gr Qa.out d os).cell 0
  have kQa1 : ∀ d os, (Go.Sort.grow (redrawn w2 d) os).cell? ⟨w.heap.size, 1, none⟩ = some (.int .i64 (k : Int)) := fun d os => (blk_gr Qa.out d os).cell 1
  have kQa2 : ∀ d os, (Go.Sort.grow (redrawn w2 d) os).cell? ⟨w.heap.size, 2, none⟩ = some (.int .u64 a) := fun d os => (blk_gr Qa.out d os).cell 2
  have kQa3 : ∀ d os, (Go.Sort.grow (redrawn w2 d) os).cell? ⟨w.heap.size, 3, none⟩ = some (.int .u64 b) := fun d os => (blk_gr Qa.out d os).cell 3
  have kQa4 : ∀ d os, (Go.Sort.grow (redrawn w2 d) os).cell? ⟨w.heap.size, 4, none⟩ = some (.int .u64 c) := fun d os => (blk_gr Qa.out d os).cell 4
  have kQa5 : ∀ d os, (Go.Sort.grow (redrawn w2 d) os).cell? ⟨w.heap.size, 5, none⟩ = some (.string p) := fun d os => (blk_gr Qa.out d os).cell 5
  have kQb0 : ∀ d os, (Go.Sort.grow (redrawn w2 d) os).cell? ⟨w.heap.size + 1, 0, none⟩ = some (.int .u64 a') := fun d os => (blk_gr Qb.out d os).cell 0
  have kQb1 : ∀ d os, (Go.Sort.grow (redrawn w2 d) os).cell? ⟨w.heap.size + 1, 1, none⟩ = some (.int .u64 b') := fun d os => (blk_gr Qb.out d os).cell 1
  have kQb2 : ∀ d os, (Go.Sort.grow (redrawn w2 d) os).cell? ⟨w.heap.size + 1, 2, none⟩ = some (.int .u64 c') := fun d os => (blk_gr Qb.out d os).cell 2
  have kQb3 : ∀ d os, (Go.Sort.grow (redrawn w2 d) os).cell? ⟨w.heap.size + 1, 3, none⟩ = some (.string p') := fun d os => (blk_gr Qb.out d os).cell 3
  have kQb4 : ∀ d os, (Go.Sort.grow (redrawn w2 d) os).cell? ⟨w.heap.size + 1, 4, none⟩ = some (.string m') := fun d os => (blk_gr Qb.out d os).cell 4
  have kQl0 : ∀ d os, (Go.Sort.grow (redrawn w2 d) os).cell? ⟨w1.heap.size, 0, none⟩ = some (.int .u64 a) := fun d os => (blk_gr Ql.out d os).cell 0
  have kQl1 : ∀ d os, (Go.Sort.grow (redrawn w2 d) os).cell? ⟨w1.heap.size, 1, none⟩ = some (.int .u64 b) := fun d os => (blk_gr Ql.out d os).cell 1
  have kQl2 : ∀ d os, (Go.Sort.grow (redrawn w2 d) os).cell? ⟨w1.heap.size, 2, none⟩ = some (.int .u64 c) := fun d os => (blk_gr Ql.out d os).cell 2
  have kQl3 : ∀ d os, (Go.Sort.grow (redrawn w2 d) os).cell? ⟨w1.heap.size, 3, none⟩ = some (.string p) := fun d os => (blk_gr Ql.out d os).cell 3
  have kQl4 : ∀ d os, (Go.Sort.grow (redrawn w2 d) os).cell? ⟨w1.heap.size, 4, none⟩ = some (.string ByteArray.empty) := fun d os => (blk_gr Ql.out d os).cell 4
  refine wp_region_quiet_below (by kernel_rfl) (by kernel_rfl) ?_
  repeat (go_big_quiet_step ((first | (go_at_call 100; exact C1.out _ _) | (go_at_call 102; exact C2.out _ _) | (go_at_call 18; exact C3.out _ _) | fail)))
  refine wpQuiet_nil ?_
  intro _ hw'
  obtain ⟨⟨dq, osq⟩, hw''⟩ := hw'
  subst hw''
  go_wp2_with fail
  go_ret
  exact ⟨rfl, bt B.out (below_regrown _ _ _)⟩

set_option maxHeartbeats 800000 in
set_option maxRecDepth 100000 in
theorem cmp7_ff (k : Nat) (a b c : Int) (p : ByteArray) (a' b' c' : Int) (p' m' : ByteArray) (V n1 n2 : Int) (w : World) (hcmp : ∀ W, Calls Tryd.prog 100 #[.agg (scells a' b' c' p' m'), .agg (scells a b c p ByteArray.empty)] W fun e w' => e = .returned (.int .i64 V) ∧ Below W.heap.size W w') (hcn : ∀ W, Calls Tryd.prog 18 #[.agg (scells a' b' c' p' m'), .agg (scells a b c p ByteArray.empty), .int .i64 (k : Int)] W fun e w' => e = .returned (.int .i64 n1) ∧ Below W.heap.size W w') (hcar : ∀ W, Calls Tryd.prog 18 #[.agg (scells a' b' c' p' m'), .agg (scells a b c p ByteArray.empty), .int .i64 ((caretN k a b c : Nat) : Int)] W fun e w' => e = .returned (.int .i64 n2) ∧ Below W.heap.size W w') (hk3 : ((k : Int) == 3) = false) (hV : 0 ≤ V) (h2 : (n2 == 0) = false) :
    Calls Tryd.prog 70 #[.agg #[.int .i64 7, .int .i64 (k : Int), .int .u64 a, .int .u64 b, .int .u64 c, .string p], .agg (scells a' b' c' p' m')] w fun e w' => e = .returned (.bool false) ∧ Below w.heap.size w w' := by
  have B := hid (show Below w.heap.size w ((w.alloc (.cells #[.int .i64 7, .int .i64 (k : Int), .int .u64 a, .int .u64 b, .int .u64 c, .string p] 36)).alloc (.cells #[.int .u64 a', .int .u64 b', .int .u64 c', .string p', .string m'] 27)) by go_grown)
  have Z := hid (show w.heap.size + 2 ≤ ((w.alloc (.cells #[.int .i64 7, .int .i64 (k : Int), .int .u64 a, .int .u64 b, .int .u64 c, .string p] 36)).alloc (.cells #[.int .u64 a', .int .u64 b', .int .u64 c', .string p', .string m'] 27)).heap.size by simp only [World.size_alloc]; omega)
  obtain ⟨qa, qb⟩ := two_new w (#[.int .i64 7, .int .i64 (k : Int), .int .u64 a, .int .u64 b, .int .u64 c, .string p]) (#[.int .u64 a', .int .u64 b', .int .u64 c', .string p', .string m']) 36 27
  have Qa := hid qa
  have Qb := hid qb
  clear qa qb
  have HC := hid hcmp
  clear hcmp
  have HN := hid hcn
  clear hcn
  have HR := hid hcar
  clear hcar
  go_enter Tryd.func70, Tryd.ntmps70
  go_wp2_with fail
  go_at_call 31
  refine (leastV_any _ _ a b c p _).mono ?_
  rintro e w1 ⟨rfl, hb⟩
  replace Qa := hid ((Qa.out).below hb)
  replace Qb := hid ((Qb.out).below hb)
  replace Z := hid (Nat.le_trans (Nat.le_trans Z.out (by first | exact Nat.le_refl _ | omega | (simp only [World.size_alloc, World.size_drew]; omega))) hb.size)
  replace B := hid (bt B.out hb)
  clear hb
  have xa0 : w1.cell? ⟨w.heap.size, 0, none⟩ = some (.int .i64 7) := Qa.out.cell 0
  have xa1 : w1.cell? ⟨w.heap.size, 1, none⟩ = some (.int .i64 (k : Int)) := Qa.out.cell 1
  have xa2 : w1.cell? ⟨w.heap.size, 2, none⟩ = some (.int .u64 a) := Qa.out.cell 2
  have xa3 : w1.cell? ⟨w.heap.size, 3, none⟩ = some (.int .u64 b) := Qa.out.cell 3
  have xa4 : w1.cell? ⟨w.heap.size, 4, none⟩ = some (.int .u64 c) := Qa.out.cell 4
  have xa5 : w1.cell? ⟨w.heap.size, 5, none⟩ = some (.string p) := Qa.out.cell 5
  have xb0 : w1.cell? ⟨w.heap.size + 1, 0, none⟩ = some (.int .u64 a') := Qb.out.cell 0
  have xb1 : w1.cell? ⟨w.heap.size + 1, 1, none⟩ = some (.int .u64 b') := Qb.out.cell 1
  have xb2 : w1.cell? ⟨w.heap.size + 1, 2, none⟩ = some (.int .u64 c') := Qb.out.cell 2
  have xb3 : w1.cell? ⟨w.heap.size + 1, 3, none⟩ = some (.string p') := Qb.out.cell 3
  have xb4 : w1.cell? ⟨w.heap.size + 1, 4, none⟩ = some (.string m') := Qb.out.cell 4
  have hz0 : w.heap.size < w1.heap.size := by have := Z.out; omega
  have hz1 : w.heap.size + 1 < w1.heap.size := by have := Z.out; omega
  go_wp2_with fail
  go_at_call 18
  refine (HN.out _).mono ?_
  rintro e w2 ⟨rfl, hb⟩
  replace Qa := hid (((Qa.out.alloc _)).below hb)
  replace Qb := hid (((Qb.out.alloc _)).below hb)
  have Ql := hid (((Blk.new _ _ _)).below hb)
  replace Z := hid (Nat.le_trans (Nat.le_trans Z.out (by first | exact Nat.le_refl _ | omega | (simp only [World.size_alloc, World.size_drew]; omega))) hb.size)
  replace B := hid (bt (B.out.alloc (by have := B.out.size; first | omega | (simp only [World.size_alloc]; omega)) _) hb)
  clear hb
  have xa0 : w2.cell? ⟨w.heap.size, 0, none⟩ = some (.int .i64 7) := Qa.out.cell 0
  have xa1 : w2.cell? ⟨w.heap.size, 1, none⟩ = some (.int .i64 (k : Int)) := Qa.out.cell 1
  have xa2 : w2.cell? ⟨w.heap.size, 2, none⟩ = some (.int .u64 a) := Qa.out.cell 2
  have xa3 : w2.cell? ⟨w.heap.size, 3, none⟩ = some (.int .u64 b) := Qa.out.cell 3
  have xa4 : w2.cell? ⟨w.heap.size, 4, none⟩ = some (.int .u64 c) := Qa.out.cell 4
  have xa5 : w2.cell? ⟨w.heap.size, 5, none⟩ = some (.string p) := Qa.out.cell 5
  have xb0 : w2.cell? ⟨w.heap.size + 1, 0, none⟩ = some (.int .u64 a') := Qb.out.cell 0
  have xb1 : w2.cell? ⟨w.heap.size + 1, 1, none⟩ = some (.int .u64 b') := Qb.out.cell 1
  have xb2 : w2.cell? ⟨w.heap.size + 1, 2, none⟩ = some (.int .u64 c') := Qb.out.cell 2
  have xb3 : w2.cell? ⟨w.heap.size + 1, 3, none⟩ = some (.string p') := Qb.out.cell 3
  have xb4 : w2.cell? ⟨w.heap.size + 1, 4, none⟩ = some (.string m') := Qb.out.cell 4
  have xl0 : w2.cell? ⟨w1.heap.size, 0, none⟩ = some (.int .u64 a) := Ql.out.cell 0
  have xl1 : w2.cell? ⟨w1.heap.size, 1, none⟩ = some (.int .u64 b) := Ql.out.cell 1
  have xl2 : w2.cell? ⟨w1.heap.size, 2, none⟩ = some (.int .u64 c) := Ql.out.cell 2
  have xl3 : w2.cell? ⟨w1.heap.size, 3, none⟩ = some (.string p) := Ql.out.cell 3
  have xl4 : w2.cell? ⟨w1.heap.size, 4, none⟩ = some (.string ByteArray.empty) := Ql.out.cell 4
  go_wp2_with fail
  have C1 := hid (fun d os => Calls.regrown_of (HC.out (Go.Sort.grow (redrawn w2 d) os)))
  have C2 := hid (fun d os => Calls.regrown_of (caretN_any 7 k a b c p (Go.Sort.grow (redrawn w2 d) os)))
  have C3 := hid (fun d os => Calls.regrown_of (HR.out (Go.Sort.grow (redrawn w2 d) os)))
  have kQa0 : ∀ d os, (Go.Sort.grow (redrawn w2 d) os).cell? ⟨w.heap.size, 0, none⟩ = some (.int .i64 7) := fun d os => (blk_gr Qa.out d os).cell 0
  have kQa1 : ∀ d os, (Go.Sort.grow (redrawn w2 d) os).cell? ⟨w.heap.size, 1, none⟩ = some (.int .i64 (k : Int)) := fun d os => (blk_gr Qa.out d os).cell 1
  have kQa2 : ∀ d os, (Go.Sort.grow (redrawn w2 d) os).cell? ⟨w.heap.size, 2, none⟩ = some (.int .u64 a) := fun d os => (blk_gr Qa.out d os).cell 2
  have kQa3 : ∀ d os, (Go.Sort.grow (redrawn w2 d) os).cell? ⟨w.heap.size, 3, none⟩ = some (.int .u64 b) := fun d os => (blk_gr Qa.out d os).cell 3
  have kQa4 : ∀ d os, (Go.Sort.grow (redrawn w2 d) os).cell? ⟨w.heap.size, 4, none⟩ = some (.int .u64 c) := fun d os => (blk_gr Qa.out d os).cell 4
  have kQa5 : ∀ d os, (Go.Sort.grow (redrawn w2 d) os).cell? ⟨w.heap.size, 5, none⟩ = some (.string p) := fun d os => (blk_gr Qa.out d os).cell 5
  have kQb0 : ∀ d os, (Go.Sort.grow (redrawn w2 d) os).cell? ⟨w.heap.size + 1, 0, none⟩ = some (.int .u64 a') := fun d os => (blk_gr Qb.out d os).cell 0
  have kQb1 : ∀ d os, (Go.Sort.grow (redrawn w2 d) os).cell? ⟨w.heap.size + 1, 1, none⟩ = some (.int .u64 b') := fun d os => (blk_gr Qb.out d os).cell 1
  have kQb2 : ∀ d os, (Go.Sort.grow (redrawn w2 d) os).cell? ⟨w.heap.size + 1, 2, none⟩ = some (.int .u64 c') := fun d os => (blk_gr Qb.out d os).cell 2
  have kQb3 : ∀ d os, (Go.Sort.grow (redrawn w2 d) os).cell? ⟨w.heap.size + 1, 3, none⟩ = some (.string p') := fun d os => (blk_gr Qb.out d os).cell 3
  have kQb4 : ∀ d os, (Go.Sort.grow (redrawn w2 d) os).cell? ⟨w.heap.size + 1, 4, none⟩ = some (.string m') := fun d os => (blk_gr Qb.out d os).cell 4
  have kQl0 : ∀ d os, (Go.Sort.grow (redrawn w2 d) os).cell? ⟨w1.heap.size, 0, none⟩ = some (.int .u64 a) := fun d os => (blk_gr Ql.out d os).cell 0
  have kQl1 : ∀ d os, (Go.Sort.grow (redrawn w2 d) os).cell? ⟨w1.heap.size, 1, none⟩ = some (.int .u64 b) := fun d os => (blk_gr Ql.out d os).cell 1
  have kQl2 : ∀ d os, (Go.Sort.grow (redrawn w2 d) os).cell? ⟨w1.heap.size, 2, none⟩ = some (.int .u64 c) := fun d os => (blk_gr Ql.out d os).cell 2
  have kQl3 : ∀ d os, (Go.Sort.grow (redrawn w2 d) os).cell? ⟨w1.heap.size, 3, none⟩ = some (.string p) := fun d os => (blk_gr Ql.out d os).cell 3
  have kQl4 : ∀ d os, (Go.Sort.grow (redrawn w2 d) os).cell? ⟨w1.heap.size, 4, none⟩ = some (.string ByteArray.empty) := fun d os => (blk_gr Ql.out d os).cell 4
  refine wp_region_quiet_below (by kernel_rfl) (by kernel_rfl) ?_
  repeat (go_big_quiet_step ((first | (go_at_call 100; exact C1.out _ _) | (go_at_call 102; exact C2.out _ _) | (go_at_call 18; exact C3.out _ _) | fail)))
  refine wpQuiet_nil ?_
  intro _ hw'
  obtain ⟨⟨dq, osq⟩, hw''⟩ := hw'
  subst hw''
  go_wp2_with fail
  go_ret
  exact ⟨rfl, bt B.out (below_regrown _ _ _)⟩

theorem compares_0 (k : Nat) (a b c : Int) (p : ByteArray) (a' b' c' : Int) (p' m' : ByteArray) (V n1 n2 : Int) (w : World) (hcmp : ∀ W, Calls Tryd.prog 100 #[.agg (scells a' b' c' p' m'), .agg (scells a b c p ByteArray.empty)] W fun e w' => e = .returned (.int .i64 V) ∧ Below W.heap.size W w') (hcn : ∀ W, Calls Tryd.prog 18 #[.agg (scells a' b' c' p' m'), .agg (scells a b c p ByteArray.empty), .int .i64 (k : Int)] W fun e w' => e = .returned (.int .i64 n1) ∧ Below W.heap.size W w') (hcar : ∀ W, Calls Tryd.prog 18 #[.agg (scells a' b' c' p' m'), .agg (scells a b c p ByteArray.empty), .int .i64 ((caretN k a b c : Nat) : Int)] W fun e w' => e = .returned (.int .i64 n2) ∧ Below W.heap.size W w') :
    Calls Tryd.prog 70 #[.agg #[.int .i64 0, .int .i64 (k : Int), .int .u64 a, .int .u64 b, .int .u64 c, .string p], .agg (scells a' b' c' p' m')] w fun e w' => e = .returned (.bool (if ((k : Int) == 3) = true then V == 0 else (n1 == 0) && decide (0 ≤ V))) ∧ Below w.heap.size w w' := by
  cases hk : ((k : Int) == 3)
  · cases h1 : (n1 == 0)
    · exact cmp0_n k a b c p a' b' c' p' m' V n1 n2 w hcmp hcn hcar hk h1
    · by_cases hV : 0 ≤ V
      · have q := cmp0_vt k a b c p a' b' c' p' m' V n1 n2 w hcmp hcn hcar hk h1 hV
        simpa [hV] using q
      · have q := cmp0_vf k a b c p a' b' c' p' m' V n1 n2 w hcmp hcn hcar hk h1 (by omega)
        simpa [hV] using q
  · cases hV : (V == 0)
    · exact cmp0_3f k a b c p a' b' c' p' m' V n1 n2 w hcmp hcn hcar hk hV
    · exact cmp0_3t k a b c p a' b' c' p' m' V n1 n2 w hcmp hcn hcar hk hV
theorem compares_7 (k : Nat) (a b c : Int) (p : ByteArray) (a' b' c' : Int) (p' m' : ByteArray) (V n1 n2 : Int) (w : World) (hcmp : ∀ W, Calls Tryd.prog 100 #[.agg (scells a' b' c' p' m'), .agg (scells a b c p ByteArray.empty)] W fun e w' => e = .returned (.int .i64 V) ∧ Below W.heap.size W w') (hcn : ∀ W, Calls Tryd.prog 18 #[.agg (scells a' b' c' p' m'), .agg (scells a b c p ByteArray.empty), .int .i64 (k : Int)] W fun e w' => e = .returned (.int .i64 n1) ∧ Below W.heap.size W w') (hcar : ∀ W, Calls Tryd.prog 18 #[.agg (scells a' b' c' p' m'), .agg (scells a b c p ByteArray.empty), .int .i64 ((caretN k a b c : Nat) : Int)] W fun e w' => e = .returned (.int .i64 n2) ∧ Below W.heap.size W w') :
    Calls Tryd.prog 70 #[.agg #[.int .i64 7, .int .i64 (k : Int), .int .u64 a, .int .u64 b, .int .u64 c, .string p], .agg (scells a' b' c' p' m')] w fun e w' => e = .returned (.bool (decide (0 ≤ V) && (n2 == 0))) ∧ Below w.heap.size w w' := by
  by_cases hV : 0 ≤ V
  · rw [decide_eq_true hV]
    cases h2 : (n2 == 0)
    · cases hk : ((k : Int) == 3)
      · exact cmp7_ff k a b c p a' b' c' p' m' V n1 n2 w hcmp hcn hcar hk hV h2
      · exact cmp7_tf k a b c p a' b' c' p' m' V n1 n2 w hcmp hcn hcar hk hV h2
    · cases hk : ((k : Int) == 3)
      · exact cmp7_ft k a b c p a' b' c' p' m' V n1 n2 w hcmp hcn hcar hk hV h2
      · exact cmp7_tt k a b c p a' b' c' p' m' V n1 n2 w hcmp hcn hcar hk hV h2
  · rw [decide_eq_false hV]
    cases hk : ((k : Int) == 3)
    · exact cmp7_fn k a b c p a' b' c' p' m' V n1 n2 w hcmp hcn hcar hk (by omega)
    · exact cmp7_tn k a b c p a' b' c' p' m' V n1 n2 w hcmp hcn hcar hk (by omega)

set_option maxHeartbeats 800000 in
set_option maxRecDepth 100000 in
theorem want0_in (o k : Int) (a b c : Int) (p : ByteArray) (a' b' c' : Int) (p' m' : ByteArray) (C : Bool) (w : World) (hC : ∀ W, Calls Tryd.prog 70 #[.agg #[.int .i64 0, .int .i64 k, .int .u64 a, .int .u64 b, .int .u64 c, .string p], .agg (scells a' b' c' p' m')] W fun e w' => e = .returned (.bool C) ∧ Below W.heap.size W w') :
    Calls Tryd.prog 28 #[.agg #[.int .i64 o, .int .i64 k, .int .u64 a, .int .u64 b, .int .u64 c, .string p], .int .i64 0, .agg (scells a' b' c' p' m'), .bool true] w fun e w' => e = .returned (.bool C) ∧ Below w.heap.size w w' := by
  have hsn := fun (W : World) => (snAs_exact o 0 k a b c p W).mono fun e w' (h : _ ∧ _) => (⟨h.1, by rw [h.2]; go_grown⟩ : _ ∧ Below W.heap.size W w')
  have HSN := hid hsn
  clear hsn
  have B := hid (show Below w.heap.size w ((w.alloc (.cells #[.int .i64 o, .int .i64 k, .int .u64 a, .int .u64 b, .int .u64 c, .string p] 36)).alloc (.cells #[.int .u64 a', .int .u64 b', .int .u64 c', .string p', .string m'] 27)) by go_grown)
  have Z := hid (show w.heap.size + 2 ≤ ((w.alloc (.cells #[.int .i64 o, .int .i64 k, .int .u64 a, .int .u64 b, .int .u64 c, .string p] 36)).alloc (.cells #[.int .u64 a', .int .u64 b', .int .u64 c', .string p', .string m'] 27)).heap.size by simp only [World.size_alloc]; omega)
  obtain ⟨qa, qb⟩ := two_new w (#[.int .i64 o, .int .i64 k, .int .u64 a, .int .u64 b, .int .u64 c, .string p]) (#[.int .u64 a', .int .u64 b', .int .u64 c', .string p', .string m']) 36 27
  have Qa := hid qa
  have Qb := hid qb
  clear qa qb
  have HC := hid hC
  clear hC
  go_enter Tryd.func28, Tryd.ntmps28
  go_wp2_with fail
  generalize hw0 : ((w.alloc (.cells #[.int .i64 o, .int .i64 k, .int .u64 a, .int .u64 b, .int .u64 c, .string p] 36)).alloc (.cells #[.int .u64 a', .int .u64 b', .int .u64 c', .string p', .string m'] 27)) = w0 at *
  clear hw0
  have C1 := hid (fun d os => Calls.regrown_of (HSN.out (Go.Sort.grow (redrawn w0 d) os)))
  have C2 := hid (fun d os => Calls.regrown_of (HC.out (Go.Sort.grow (redrawn w0 d) os)))
  have kQa0 : ∀ d os, (Go.Sort.grow (redrawn w0 d) os).cell? ⟨w.heap.size, 0, none⟩ = some (.int .i64 o) := fun d os => (blk_gr Qa.out d os).cell 0
  have kQa1 : ∀ d os, (Go.Sort.grow (redrawn w0 d) os).cell? ⟨w.heap.size, 1, none⟩ = some (.int .i64 k) := fun d os => (blk_gr Qa.out d os).cell 1
  have kQa2 : ∀ d os, (Go.Sort.grow (redrawn w0 d) os).cell? ⟨w.heap.size, 2, none⟩ = some (.int .u64 a) := fun d os => (blk_gr Qa.out d os).cell 2
  have kQa3 : ∀ d os, (Go.Sort.grow (redrawn w0 d) os).cell? ⟨w.heap.size, 3, none⟩ = some (.int .u64 b) := fun d os => (blk_gr Qa.out d os).cell 3
  have kQa4 : ∀ d os, (Go.Sort.grow (redrawn w0 d) os).cell? ⟨w.heap.size, 4, none⟩ = some (.int .u64 c) := fun d os => (blk_gr Qa.out d os).cell 4
  have kQa5 : ∀ d os, (Go.Sort.grow (redrawn w0 d) os).cell? ⟨w.heap.size, 5, none⟩ = some (.string p) := fun d os => (blk_gr Qa.out d os).cell 5
  have kQb0 : ∀ d os, (Go.Sort.grow (redrawn w0 d) os).cell? ⟨w.heap.size + 1, 0, none⟩ = some (.int .u64 a') := fun d os => (blk_gr Qb.out d os).cell 0
  have kQb1 : ∀ d os, (Go.Sort.grow (redrawn w0 d) os).cell? ⟨w.heap.size + 1, 1, none⟩ = some (.int .u64 b') := fun d os => (blk_gr Qb.out d os).cell 1
  have kQb2 : ∀ d os, (Go.Sort.grow (redrawn w0 d) os).cell? ⟨w.heap.size + 1, 2, none⟩ = some (.int .u64 c') := fun d os => (blk_gr Qb.out d os).cell 2
  have kQb3 : ∀ d os, (Go.Sort.grow (redrawn w0 d) os).cell? ⟨w.heap.size + 1, 3, none⟩ = some (.string p') := fun d os => (blk_gr Qb.out d os).cell 3
  have kQb4 : ∀ d os, (Go.Sort.grow (redrawn w0 d) os).cell? ⟨w.heap.size + 1, 4, none⟩ = some (.string m') := fun d os => (blk_gr Qb.out d os).cell 4
  refine wp_region_quiet_below (by kernel_rfl) (by kernel_rfl) ?_
  repeat (go_big_quiet_step ((first | (go_at_call 66; exact C1.out _ _) | (go_at_call 70; exact C2.out _ _) | fail)))
  refine wpQuiet_nil ?_
  intro _ hw'
  obtain ⟨⟨dq, osq⟩, hw''⟩ := hw'
  subst hw''
  go_wp2_with fail
  go_ret
  exact ⟨rfl, bt B.out (below_regrown _ _ _)⟩

set_option maxHeartbeats 800000 in
set_option maxRecDepth 100000 in
theorem want0_rel (o k : Int) (a b c : Int) (p : ByteArray) (a' b' c' : Int) (p' m' : ByteArray) (C : Bool) (w : World) (hC : ∀ W, Calls Tryd.prog 70 #[.agg #[.int .i64 0, .int .i64 k, .int .u64 a, .int .u64 b, .int .u64 c, .string p], .agg (scells a' b' c' p' m')] W fun e w' => e = .returned (.bool C) ∧ Below W.heap.size W w') (he : p'.toList.isEmpty = true) :
    Calls Tryd.prog 28 #[.agg #[.int .i64 o, .int .i64 k, .int .u64 a, .int .u64 b, .int .u64 c, .string p], .int .i64 0, .agg (scells a' b' c' p' m'), .bool false] w fun e w' => e = .returned (.bool C) ∧ Below w.heap.size w w' := by
  have hsn := fun (W : World) => (snAs_exact o 0 k a b c p W).mono fun e w' (h : _ ∧ _) => (⟨h.1, by rw [h.2]; go_grown⟩ : _ ∧ Below W.heap.size W w')
  have HSN := hid hsn
  clear hsn
  have B := hid (show Below w.heap.size w ((w.alloc (.cells #[.int .i64 o, .int .i64 k, .int .u64 a, .int .u64 b, .int .u64 c, .string p] 36)).alloc (.cells #[.int .u64 a', .int .u64 b', .int .u64 c', .string p', .string m'] 27)) by go_grown)
  have Z := hid (show w.heap.size + 2 ≤ ((w.alloc (.cells #[.int .i64 o, .int .i64 k, .int .u64 a, .int .u64 b, .int .u64 c, .string p] 36)).alloc (.cells #[.int .u64 a', .int .u64 b', .int .u64 c', .string p', .string m'] 27)).heap.size by simp only [World.size_alloc]; omega)
  obtain ⟨qa, qb⟩ := two_new w (#[.int .i64 o, .int .i64 k, .int .u64 a, .int .u64 b, .int .u64 c, .string p]) (#[.int .u64 a', .int .u64 b', .int .u64 c', .string p', .string m']) 36 27
  have Qa := hid qa
  have Qb := hid qb
  clear qa qb
  have HC := hid hC
  clear hC
  go_enter Tryd.func28, Tryd.ntmps28
  go_wp2_with fail
  generalize hw0 : ((w.alloc (.cells #[.int .i64 o, .int .i64 k, .int .u64 a, .int .u64 b, .int .u64 c, .string p] 36)).alloc (.cells #[.int .u64 a', .int .u64 b', .int .u64 c', .string p', .string m'] 27)) = w0 at *
  clear hw0
  have C1 := hid (fun d os => Calls.regrown_of (HSN.out (Go.Sort.grow (redrawn w0 d) os)))
  have C2 := hid (fun d os => Calls.regrown_of (HC.out (Go.Sort.grow (redrawn w0 d) os)))
  have kQa0 : ∀ d os, (Go.Sort.grow (redrawn w0 d) os).cell? ⟨w.heap.size, 0, none⟩ = some (.int .i64 o) := fun d os => (blk_gr Qa.out d os).cell 0
  have kQa1 : ∀ d os, (Go.Sort.grow (redrawn w0 d) os).cell? ⟨w.heap.size, 1, none⟩ = some (.int .i64 k) := fun d os => (blk_gr Qa.out d os).cell 1
  have kQa2 : ∀ d os, (Go.Sort.grow (redrawn w0 d) os).cell? ⟨w.heap.size, 2, none⟩ = some (.int .u64 a) := fun d os => (blk_gr Qa.out d os).cell 2
  have kQa3 : ∀ d os, (Go.Sort.grow (redrawn w0 d) os).cell? ⟨w.heap.size, 3, none⟩ = some (.int .u64 b) := fun d os => (blk_gr Qa.out d os).cell 3
  have kQa4 : ∀ d os, (Go.Sort.grow (redrawn w0 d) os).cell? ⟨w.heap.size, 4, none⟩ = some (.int .u64 c) := fun d os => (blk_gr Qa.out d os).cell 4
  have kQa5 : ∀ d os, (Go.Sort.grow (redrawn w0 d) os).cell? ⟨w.heap.size, 5, none⟩ = some (.string p) := fun d os => (blk_gr Qa.out d os).cell 5
  have kQb0 : ∀ d os, (Go.Sort.grow (redrawn w0 d) os).cell? ⟨w.heap.size + 1, 0, none⟩ = some (.int .u64 a') := fun d os => (blk_gr Qb.out d os).cell 0
  have kQb1 : ∀ d os, (Go.Sort.grow (redrawn w0 d) os).cell? ⟨w.heap.size + 1, 1, none⟩ = some (.int .u64 b') := fun d os => (blk_gr Qb.out d os).cell 1
  have kQb2 : ∀ d os, (Go.Sort.grow (redrawn w0 d) os).cell? ⟨w.heap.size + 1, 2, none⟩ = some (.int .u64 c') := fun d os => (blk_gr Qb.out d os).cell 2
  have kQb3 : ∀ d os, (Go.Sort.grow (redrawn w0 d) os).cell? ⟨w.heap.size + 1, 3, none⟩ = some (.string p') := fun d os => (blk_gr Qb.out d os).cell 3
  have kQb4 : ∀ d os, (Go.Sort.grow (redrawn w0 d) os).cell? ⟨w.heap.size + 1, 4, none⟩ = some (.string m') := fun d os => (blk_gr Qb.out d os).cell 4
  refine wp_region_quiet_below (by kernel_rfl) (by kernel_rfl) ?_
  repeat (go_big_quiet_step ((first | (go_at_call 66; exact C1.out _ _) | (go_at_call 70; exact C2.out _ _) | fail)))
  refine wpQuiet_nil ?_
  intro _ hw'
  obtain ⟨⟨dq, osq⟩, hw''⟩ := hw'
  subst hw''
  go_wp2_with fail
  go_ret
  exact ⟨rfl, bt B.out (below_regrown _ _ _)⟩

set_option maxHeartbeats 800000 in
set_option maxRecDepth 100000 in
theorem want0_out (o k : Int) (a b c : Int) (p : ByteArray) (a' b' c' : Int) (p' m' : ByteArray) (C : Bool) (w : World) (hC : ∀ W, Calls Tryd.prog 70 #[.agg #[.int .i64 0, .int .i64 k, .int .u64 a, .int .u64 b, .int .u64 c, .string p], .agg (scells a' b' c' p' m')] W fun e w' => e = .returned (.bool C) ∧ Below W.heap.size W w') (he : p'.toList.isEmpty = false) :
    Calls Tryd.prog 28 #[.agg #[.int .i64 o, .int .i64 k, .int .u64 a, .int .u64 b, .int .u64 c, .string p], .int .i64 0, .agg (scells a' b' c' p' m'), .bool false] w fun e w' => e = .returned (.bool false) ∧ Below w.heap.size w w' := by
  have hsn := fun (W : World) => (snAs_exact o 0 k a b c p W).mono fun e w' (h : _ ∧ _) => (⟨h.1, by rw [h.2]; go_grown⟩ : _ ∧ Below W.heap.size W w')
  have HSN := hid hsn
  clear hsn
  have B := hid (show Below w.heap.size w ((w.alloc (.cells #[.int .i64 o, .int .i64 k, .int .u64 a, .int .u64 b, .int .u64 c, .string p] 36)).alloc (.cells #[.int .u64 a', .int .u64 b', .int .u64 c', .string p', .string m'] 27)) by go_grown)
  have Z := hid (show w.heap.size + 2 ≤ ((w.alloc (.cells #[.int .i64 o, .int .i64 k, .int .u64 a, .int .u64 b, .int .u64 c, .string p] 36)).alloc (.cells #[.int .u64 a', .int .u64 b', .int .u64 c', .string p', .string m'] 27)).heap.size by simp only [World.size_alloc]; omega)
  obtain ⟨qa, qb⟩ := two_new w (#[.int .i64 o, .int .i64 k, .int .u64 a, .int .u64 b, .int .u64 c, .string p]) (#[.int .u64 a', .int .u64 b', .int .u64 c', .string p', .string m']) 36 27
  have Qa := hid qa
  have Qb := hid qb
  clear qa qb
  have HC := hid hC
  clear hC
  go_enter Tryd.func28, Tryd.ntmps28
  go_wp2_with fail
  generalize hw0 : ((w.alloc (.cells #[.int .i64 o, .int .i64 k, .int .u64 a, .int .u64 b, .int .u64 c, .string p] 36)).alloc (.cells #[.int .u64 a', .int .u64 b', .int .u64 c', .string p', .string m'] 27)) = w0 at *
  clear hw0
  have C1 := hid (fun d os => Calls.regrown_of (HSN.out (Go.Sort.grow (redrawn w0 d) os)))
  have C2 := hid (fun d os => Calls.regrown_of (HC.out (Go.Sort.grow (redrawn w0 d) os)))
  have kQa0 : ∀ d os, (Go.Sort.grow (redrawn w0 d) os).cell? ⟨w.heap.size, 0, none⟩ = some (.int .i64 o) := fun d os => (blk_gr Qa.out d os).cell 0
  have kQa1 : ∀ d os, (Go.Sort.grow (redrawn w0 d) os).cell? ⟨w.heap.size, 1, none⟩ = some (.int .i64 k) := fun d os => (blk_gr Qa.out d os).cell 1
  have kQa2 : ∀ d os, (Go.Sort.grow (redrawn w0 d) os).cell? ⟨w.heap.size, 2, none⟩ = some (.int .u64 a) := fun d os => (blk_gr Qa.out d os).cell 2
  have kQa3 : ∀ d os, (Go.Sort.grow (redrawn w0 d) os).cell? ⟨w.heap.size, 3, none⟩ = some (.int .u64 b) := fun d os => (blk_gr Qa.out d os).cell 3
  have kQa4 : ∀ d os, (Go.Sort.grow (redrawn w0 d) os).cell? ⟨w.heap.size, 4, none⟩ = some (.int .u64 c) := fun d os => (blk_gr Qa.out d os).cell 4
  have kQa5 : ∀ d os, (Go.Sort.grow (redrawn w0 d) os).cell? ⟨w.heap.size, 5, none⟩ = some (.string p) := fun d os => (blk_gr Qa.out d os).cell 5
  have kQb0 : ∀ d os, (Go.Sort.grow (redrawn w0 d) os).cell? ⟨w.heap.size + 1, 0, none⟩ = some (.int .u64 a') := fun d os => (blk_gr Qb.out d os).cell 0
  have kQb1 : ∀ d os, (Go.Sort.grow (redrawn w0 d) os).cell? ⟨w.heap.size + 1, 1, none⟩ = some (.int .u64 b') := fun d os => (blk_gr Qb.out d os).cell 1
  have kQb2 : ∀ d os, (Go.Sort.grow (redrawn w0 d) os).cell? ⟨w.heap.size + 1, 2, none⟩ = some (.int .u64 c') := fun d os => (blk_gr Qb.out d os).cell 2
  have kQb3 : ∀ d os, (Go.Sort.grow (redrawn w0 d) os).cell? ⟨w.heap.size + 1, 3, none⟩ = some (.string p') := fun d os => (blk_gr Qb.out d os).cell 3
  have kQb4 : ∀ d os, (Go.Sort.grow (redrawn w0 d) os).cell? ⟨w.heap.size + 1, 4, none⟩ = some (.string m') := fun d os => (blk_gr Qb.out d os).cell 4
  refine wp_region_quiet_below (by kernel_rfl) (by kernel_rfl) ?_
  repeat (go_big_quiet_step ((first | (go_at_call 66; exact C1.out _ _) | (go_at_call 70; exact C2.out _ _) | fail)))
  refine wpQuiet_nil ?_
  intro _ hw'
  obtain ⟨⟨dq, osq⟩, hw''⟩ := hw'
  subst hw''
  go_wp2_with fail
  go_ret
  exact ⟨rfl, bt B.out (below_regrown _ _ _)⟩

theorem want0 (o k : Int) (a b c : Int) (p : ByteArray) (a' b' c' : Int) (p' m' : ByteArray) (pre C : Bool) (w : World) (hC : ∀ W, Calls Tryd.prog 70 #[.agg #[.int .i64 0, .int .i64 k, .int .u64 a, .int .u64 b, .int .u64 c, .string p], .agg (scells a' b' c' p' m')] W fun e w' => e = .returned (.bool C) ∧ Below W.heap.size W w') :
    Calls Tryd.prog 28 #[.agg #[.int .i64 o, .int .i64 k, .int .u64 a, .int .u64 b, .int .u64 c, .string p], .int .i64 0, .agg (scells a' b' c' p' m'), .bool pre] w fun e w' => e = .returned (.bool (!preBar p' pre && C)) ∧ Below w.heap.size w w' := by
  unfold preBar
  cases pre
  · cases he : p'.toList.isEmpty
    · have q := want0_out o k a b c p a' b' c' p' m' C w hC he
      simpa using q
    · have q := want0_rel o k a b c p a' b' c' p' m' C w hC he
      simpa using q
  · have q := want0_in o k a b c p a' b' c' p' m' C w hC
    simpa using q

set_option maxHeartbeats 800000 in
set_option maxRecDepth 100000 in
theorem want7_in (o k : Int) (a b c : Int) (p : ByteArray) (a' b' c' : Int) (p' m' : ByteArray) (C : Bool) (w : World) (hC : ∀ W, Calls Tryd.prog 70 #[.agg #[.int .i64 7, .int .i64 k, .int .u64 a, .int .u64 b, .int .u64 c, .string p], .agg (scells a' b' c' p' m')] W fun e w' => e = .returned (.bool C) ∧ Below W.heap.size W w') :
    Calls Tryd.prog 28 #[.agg #[.int .i64 o, .int .i64 k, .int .u64 a, .int .u64 b, .int .u64 c, .string p], .int .i64 7, .agg (scells a' b' c' p' m'), .bool true] w fun e w' => e = .returned (.bool C) ∧ Below w.heap.size w w' := by
  have hsn := fun (W : World) => (snAs_exact o 7 k a b c p W).mono fun e w' (h : _ ∧ _) => (⟨h.1, by rw [h.2]; go_grown⟩ : _ ∧ Below W.heap.size W w')
  have HSN := hid hsn
  clear hsn
  have B := hid (show Below w.heap.size w ((w.alloc (.cells #[.int .i64 o, .int .i64 k, .int .u64 a, .int .u64 b, .int .u64 c, .string p] 36)).alloc (.cells #[.int .u64 a', .int .u64 b', .int .u64 c', .string p', .string m'] 27)) by go_grown)
  have Z := hid (show w.heap.size + 2 ≤ ((w.alloc (.cells #[.int .i64 o, .int .i64 k, .int .u64 a, .int .u64 b, .int .u64 c, .string p] 36)).alloc (.cells #[.int .u64 a', .int .u64 b', .int .u64 c', .string p', .string m'] 27)).heap.size by simp only [World.size_alloc]; omega)
  obtain ⟨qa, qb⟩ := two_new w (#[.int .i64 o, .int .i64 k, .int .u64 a, .int .u64 b, .int .u64 c, .string p]) (#[.int .u64 a', .int .u64 b', .int .u64 c', .string p', .string m']) 36 27
  have Qa := hid qa
  have Qb := hid qb
  clear qa qb
  have HC := hid hC
  clear hC
  go_enter Tryd.func28, Tryd.ntmps28
  go_wp2_with fail
  generalize hw0 : ((w.alloc (.cells #[.int .i64 o, .int .i64 k, .int .u64 a, .int .u64 b, .int .u64 c, .string p] 36)).alloc (.cells #[.int .u64 a', .int .u64 b', .int .u64 c', .string p', .string m'] 27)) = w0 at *
  clear hw0
  have C1 := hid (fun d os => Calls.regrown_of (HSN.out (Go.Sort.grow (redrawn w0 d) os)))
  have C2 := hid (fun d os => Calls.regrown_of (HC.out (Go.Sort.grow (redrawn w0 d) os)))
  have kQa0 : ∀ d os, (Go.Sort.grow (redrawn w0 d) os).cell? ⟨w.heap.size, 0, none⟩ = some (.int .i64 o) := fun d os => (blk_gr Qa.out d os).cell 0
  have kQa1 : ∀ d os, (Go.Sort.grow (redrawn w0 d) os).cell? ⟨w.heap.size, 1, none⟩ = some (.int .i64 k) := fun d os => (blk_gr Qa.out d os).cell 1
  have kQa2 : ∀ d os, (Go.Sort.grow (redrawn w0 d) os).cell? ⟨w.heap.size, 2, none⟩ = some (.int .u64 a) := fun d os => (blk_gr Qa.out d os).cell 2
  have kQa3 : ∀ d os, (Go.Sort.grow (redrawn w0 d) os).cell? ⟨w.heap.size, 3, none⟩ = some (.int .u64 b) := fun d os => (blk_gr Qa.out d os).cell 3
  have kQa4 : ∀ d os, (Go.Sort.grow (redrawn w0 d) os).cell? ⟨w.heap.size, 4, none⟩ = some (.int .u64 c) := fun d os => (blk_gr Qa.out d os).cell 4
  have kQa5 : ∀ d os, (Go.Sort.grow (redrawn w0 d) os).cell? ⟨w.heap.size, 5, none⟩ = some (.string p) := fun d os => (blk_gr Qa.out d os).cell 5
  have kQb0 : ∀ d os, (Go.Sort.grow (redrawn w0 d) os).cell? ⟨w.heap.size + 1, 0, none⟩ = some (.int .u64 a') := fun d os => (blk_gr Qb.out d os).cell 0
  have kQb1 : ∀ d os, (Go.Sort.grow (redrawn w0 d) os).cell? ⟨w.heap.size + 1, 1, none⟩ = some (.int .u64 b') := fun d os => (blk_gr Qb.out d os).cell 1
  have kQb2 : ∀ d os, (Go.Sort.grow (redrawn w0 d) os).cell? ⟨w.heap.size + 1, 2, none⟩ = some (.int .u64 c') := fun d os => (blk_gr Qb.out d os).cell 2
  have kQb3 : ∀ d os, (Go.Sort.grow (redrawn w0 d) os).cell? ⟨w.heap.size + 1, 3, none⟩ = some (.string p') := fun d os => (blk_gr Qb.out d os).cell 3
  have kQb4 : ∀ d os, (Go.Sort.grow (redrawn w0 d) os).cell? ⟨w.heap.size + 1, 4, none⟩ = some (.string m') := fun d os => (blk_gr Qb.out d os).cell 4
  refine wp_region_quiet_below (by kernel_rfl) (by kernel_rfl) ?_
  repeat (go_big_quiet_step ((first | (go_at_call 66; exact C1.out _ _) | (go_at_call 70; exact C2.out _ _) | fail)))
  refine wpQuiet_nil ?_
  intro _ hw'
  obtain ⟨⟨dq, osq⟩, hw''⟩ := hw'
  subst hw''
  go_wp2_with fail
  go_ret
  exact ⟨rfl, bt B.out (below_regrown _ _ _)⟩

set_option maxHeartbeats 800000 in
set_option maxRecDepth 100000 in
theorem want7_rel (o k : Int) (a b c : Int) (p : ByteArray) (a' b' c' : Int) (p' m' : ByteArray) (C : Bool) (w : World) (hC : ∀ W, Calls Tryd.prog 70 #[.agg #[.int .i64 7, .int .i64 k, .int .u64 a, .int .u64 b, .int .u64 c, .string p], .agg (scells a' b' c' p' m')] W fun e w' => e = .returned (.bool C) ∧ Below W.heap.size W w') (he : p'.toList.isEmpty = true) :
    Calls Tryd.prog 28 #[.agg #[.int .i64 o, .int .i64 k, .int .u64 a, .int .u64 b, .int .u64 c, .string p], .int .i64 7, .agg (scells a' b' c' p' m'), .bool false] w fun e w' => e = .returned (.bool C) ∧ Below w.heap.size w w' := by
  have hsn := fun (W : World) => (snAs_exact o 7 k a b c p W).mono fun e w' (h : _ ∧ _) => (⟨h.1, by rw [h.2]; go_grown⟩ : _ ∧ Below W.heap.size W w')
  have HSN := hid hsn
  clear hsn
  have B := hid (show Below w.heap.size w ((w.alloc (.cells #[.int .i64 o, .int .i64 k, .int .u64 a, .int .u64 b, .int .u64 c, .string p] 36)).alloc (.cells #[.int .u64 a', .int .u64 b', .int .u64 c', .string p', .string m'] 27)) by go_grown)
  have Z := hid (show w.heap.size + 2 ≤ ((w.alloc (.cells #[.int .i64 o, .int .i64 k, .int .u64 a, .int .u64 b, .int .u64 c, .string p] 36)).alloc (.cells #[.int .u64 a', .int .u64 b', .int .u64 c', .string p', .string m'] 27)).heap.size by simp only [World.size_alloc]; omega)
  obtain ⟨qa, qb⟩ := two_new w (#[.int .i64 o, .int .i64 k, .int .u64 a, .int .u64 b, .int .u64 c, .string p]) (#[.int .u64 a', .int .u64 b', .int .u64 c', .string p', .string m']) 36 27
  have Qa := hid qa
  have Qb := hid qb
  clear qa qb
  have HC := hid hC
  clear hC
  go_enter Tryd.func28, Tryd.ntmps28
  go_wp2_with fail
  generalize hw0 : ((w.alloc (.cells #[.int .i64 o, .int .i64 k, .int .u64 a, .int .u64 b, .int .u64 c, .string p] 36)).alloc (.cells #[.int .u64 a', .int .u64 b', .int .u64 c', .string p', .string m'] 27)) = w0 at *
  clear hw0
  have C1 := hid (fun d os => Calls.regrown_of (HSN.out (Go.Sort.grow (redrawn w0 d) os)))
  have C2 := hid (fun d os => Calls.regrown_of (HC.out (Go.Sort.grow (redrawn w0 d) os)))
  have kQa0 : ∀ d os, (Go.Sort.grow (redrawn w0 d) os).cell? ⟨w.heap.size, 0, none⟩ = some (.int .i64 o) := fun d os => (blk_gr Qa.out d os).cell 0
  have kQa1 : ∀ d os, (Go.Sort.grow (redrawn w0 d) os).cell? ⟨w.heap.size, 1, none⟩ = some (.int .i64 k) := fun d os => (blk_gr Qa.out d os).cell 1
  have kQa2 : ∀ d os, (Go.Sort.grow (redrawn w0 d) os).cell? ⟨w.heap.size, 2, none⟩ = some (.int .u64 a) := fun d os => (blk_gr Qa.out d os).cell 2
  have kQa3 : ∀ d os, (Go.Sort.grow (redrawn w0 d) os).cell? ⟨w.heap.size, 3, none⟩ = some (.int .u64 b) := fun d os => (blk_gr Qa.out d os).cell 3
  have kQa4 : ∀ d os, (Go.Sort.grow (redrawn w0 d) os).cell? ⟨w.heap.size, 4, none⟩ = some (.int .u64 c) := fun d os => (blk_gr Qa.out d os).cell 4
  have kQa5 : ∀ d os, (Go.Sort.grow (redrawn w0 d) os).cell? ⟨w.heap.size, 5, none⟩ = some (.string p) := fun d os => (blk_gr Qa.out d os).cell 5
  have kQb0 : ∀ d os, (Go.Sort.grow (redrawn w0 d) os).cell? ⟨w.heap.size + 1, 0, none⟩ = some (.int .u64 a') := fun d os => (blk_gr Qb.out d os).cell 0
  have kQb1 : ∀ d os, (Go.Sort.grow (redrawn w0 d) os).cell? ⟨w.heap.size + 1, 1, none⟩ = some (.int .u64 b') := fun d os => (blk_gr Qb.out d os).cell 1
  have kQb2 : ∀ d os, (Go.Sort.grow (redrawn w0 d) os).cell? ⟨w.heap.size + 1, 2, none⟩ = some (.int .u64 c') := fun d os => (blk_gr Qb.out d os).cell 2
  have kQb3 : ∀ d os, (Go.Sort.grow (redrawn w0 d) os).cell? ⟨w.heap.size + 1, 3, none⟩ = some (.string p') := fun d os => (blk_gr Qb.out d os).cell 3
  have kQb4 : ∀ d os, (Go.Sort.grow (redrawn w0 d) os).cell? ⟨w.heap.size + 1, 4, none⟩ = some (.string m') := fun d os => (blk_gr Qb.out d os).cell 4
  refine wp_region_quiet_below (by kernel_rfl) (by kernel_rfl) ?_
  repeat (go_big_quiet_step ((first | (go_at_call 66; exact C1.out _ _) | (go_at_call 70; exact C2.out _ _) | fail)))
  refine wpQuiet_nil ?_
  intro _ hw'
  obtain ⟨⟨dq, osq⟩, hw''⟩ := hw'
  subst hw''
  go_wp2_with fail
  go_ret
  exact ⟨rfl, bt B.out (below_regrown _ _ _)⟩

set_option maxHeartbeats 800000 in
set_option maxRecDepth 100000 in
theorem want7_out (o k : Int) (a b c : Int) (p : ByteArray) (a' b' c' : Int) (p' m' : ByteArray) (C : Bool) (w : World) (hC : ∀ W, Calls Tryd.prog 70 #[.agg #[.int .i64 7, .int .i64 k, .int .u64 a, .int .u64 b, .int .u64 c, .string p], .agg (scells a' b' c' p' m')] W fun e w' => e = .returned (.bool C) ∧ Below W.heap.size W w') (he : p'.toList.isEmpty = false) :
    Calls Tryd.prog 28 #[.agg #[.int .i64 o, .int .i64 k, .int .u64 a, .int .u64 b, .int .u64 c, .string p], .int .i64 7, .agg (scells a' b' c' p' m'), .bool false] w fun e w' => e = .returned (.bool false) ∧ Below w.heap.size w w' := by
  have hsn := fun (W : World) => (snAs_exact o 7 k a b c p W).mono fun e w' (h : _ ∧ _) => (⟨h.1, by rw [h.2]; go_grown⟩ : _ ∧ Below W.heap.size W w')
  have HSN := hid hsn
  clear hsn
  have B := hid (show Below w.heap.size w ((w.alloc (.cells #[.int .i64 o, .int .i64 k, .int .u64 a, .int .u64 b, .int .u64 c, .string p] 36)).alloc (.cells #[.int .u64 a', .int .u64 b', .int .u64 c', .string p', .string m'] 27)) by go_grown)
  have Z := hid (show w.heap.size + 2 ≤ ((w.alloc (.cells #[.int .i64 o, .int .i64 k, .int .u64 a, .int .u64 b, .int .u64 c, .string p] 36)).alloc (.cells #[.int .u64 a', .int .u64 b', .int .u64 c', .string p', .string m'] 27)).heap.size by simp only [World.size_alloc]; omega)
  obtain ⟨qa, qb⟩ := two_new w (#[.int .i64 o, .int .i64 k, .int .u64 a, .int .u64 b, .int .u64 c, .string p]) (#[.int .u64 a', .int .u64 b', .int .u64 c', .string p', .string m']) 36 27
  have Qa := hid qa
  have Qb := hid qb
  clear qa qb
  have HC := hid hC
  clear hC
  go_enter Tryd.func28, Tryd.ntmps28
  go_wp2_with fail
  generalize hw0 : ((w.alloc (.cells #[.int .i64 o, .int .i64 k, .int .u64 a, .int .u64 b, .int .u64 c, .string p] 36)).alloc (.cells #[.int .u64 a', .int .u64 b', .int .u64 c', .string p', .string m'] 27)) = w0 at *
  clear hw0
  have C1 := hid (fun d os => Calls.regrown_of (HSN.out (Go.Sort.grow (redrawn w0 d) os)))
  have C2 := hid (fun d os => Calls.regrown_of (HC.out (Go.Sort.grow (redrawn w0 d) os)))
  have kQa0 : ∀ d os, (Go.Sort.grow (redrawn w0 d) os).cell? ⟨w.heap.size, 0, none⟩ = some (.int .i64 o) := fun d os => (blk_gr Qa.out d os).cell 0
  have kQa1 : ∀ d os, (Go.Sort.grow (redrawn w0 d) os).cell? ⟨w.heap.size, 1, none⟩ = some (.int .i64 k) := fun d os => (blk_gr Qa.out d os).cell 1
  have kQa2 : ∀ d os, (Go.Sort.grow (redrawn w0 d) os).cell? ⟨w.heap.size, 2, none⟩ = some (.int .u64 a) := fun d os => (blk_gr Qa.out d os).cell 2
  have kQa3 : ∀ d os, (Go.Sort.grow (redrawn w0 d) os).cell? ⟨w.heap.size, 3, none⟩ = some (.int .u64 b) := fun d os => (blk_gr Qa.out d os).cell 3
  have kQa4 : ∀ d os, (Go.Sort.grow (redrawn w0 d) os).cell? ⟨w.heap.size, 4, none⟩ = some (.int .u64 c) := fun d os => (blk_gr Qa.out d os).cell 4
  have kQa5 : ∀ d os, (Go.Sort.grow (redrawn w0 d) os).cell? ⟨w.heap.size, 5, none⟩ = some (.string p) := fun d os => (blk_gr Qa.out d os).cell 5
  have kQb0 : ∀ d os, (Go.Sort.grow (redrawn w0 d) os).cell? ⟨w.heap.size + 1, 0, none⟩ = some (.int .u64 a') := fun d os => (blk_gr Qb.out d os).cell 0
  have kQb1 : ∀ d os, (Go.Sort.grow (redrawn w0 d) os).cell? ⟨w.heap.size + 1, 1, none⟩ = some (.int .u64 b') := fun d os => (blk_gr Qb.out d os).cell 1
  have kQb2 : ∀ d os, (Go.Sort.grow (redrawn w0 d) os).cell? ⟨w.heap.size + 1, 2, none⟩ = some (.int .u64 c') := fun d os => (blk_gr Qb.out d os).cell 2
  have kQb3 : ∀ d os, (Go.Sort.grow (redrawn w0 d) os).cell? ⟨w.heap.size + 1, 3, none⟩ = some (.string p') := fun d os => (blk_gr Qb.out d os).cell 3
  have kQb4 : ∀ d os, (Go.Sort.grow (redrawn w0 d) os).cell? ⟨w.heap.size + 1, 4, none⟩ = some (.string m') := fun d os => (blk_gr Qb.out d os).cell 4
  refine wp_region_quiet_below (by kernel_rfl) (by kernel_rfl) ?_
  repeat (go_big_quiet_step ((first | (go_at_call 66; exact C1.out _ _) | (go_at_call 70; exact C2.out _ _) | fail)))
  refine wpQuiet_nil ?_
  intro _ hw'
  obtain ⟨⟨dq, osq⟩, hw''⟩ := hw'
  subst hw''
  go_wp2_with fail
  go_ret
  exact ⟨rfl, bt B.out (below_regrown _ _ _)⟩

theorem want7 (o k : Int) (a b c : Int) (p : ByteArray) (a' b' c' : Int) (p' m' : ByteArray) (pre C : Bool) (w : World) (hC : ∀ W, Calls Tryd.prog 70 #[.agg #[.int .i64 7, .int .i64 k, .int .u64 a, .int .u64 b, .int .u64 c, .string p], .agg (scells a' b' c' p' m')] W fun e w' => e = .returned (.bool C) ∧ Below W.heap.size W w') :
    Calls Tryd.prog 28 #[.agg #[.int .i64 o, .int .i64 k, .int .u64 a, .int .u64 b, .int .u64 c, .string p], .int .i64 7, .agg (scells a' b' c' p' m'), .bool pre] w fun e w' => e = .returned (.bool (!preBar p' pre && C)) ∧ Below w.heap.size w w' := by
  unfold preBar
  cases pre
  · cases he : p'.toList.isEmpty
    · have q := want7_out o k a b c p a' b' c' p' m' C w hC he
      simpa using q
    · have q := want7_rel o k a b c p a' b' c' p' m' C w hC he
      simpa using q
  · have q := want7_in o k a b c p a' b' c' p' m' C w hC
    simpa using q

end Go.Proofs.YtmlbjcdildaldaaDoor

set_option linter.unusedVariables false
set_option linter.unusedSimpArgs false
namespace Go.Proofs.YtmlbjcdildaldaaDoor
open Go.RowKit

set_option maxHeartbeats 800000 in
set_option maxRecDepth 100000 in
theorem CHold_unfit1 (o k : Int) (a b c : Int) (p : ByteArray) (a' b' c' : Int) (p' m' : ByteArray) (pre : Bool) (w : World) (hp : p.size ≤ maxLen) (hp' : p'.size ≤ maxLen) (hm' : m'.size ≤ maxLen) (hv : Vars w) (f0 : decide (p.size ≤ 2147483647) = false) :
    Calls Tryd.prog 6 #[.agg #[.int .i64 o, .int .i64 k, .int .u64 a, .int .u64 b, .int .u64 c, .string p], .agg (scells a' b' c' p' m'), .bool pre] w fun e w' => e = .returned (.bool true) ∧ Below w.heap.size w w' := by
  have B := hid (show Below w.heap.size w ((w.alloc (.cells #[.int .i64 o, .int .i64 k, .int .u64 a, .int .u64 b, .int .u64 c, .string p] 36)).alloc (.cells #[.int .u64 a', .int .u64 b', .int .u64 c', .string p', .string m'] 27)) by go_grown)
  have Z := hid (show w.heap.size + 2 ≤ ((w.alloc (.cells #[.int .i64 o, .int .i64 k, .int .u64 a, .int .u64 b, .int .u64 c, .string p] 36)).alloc (.cells #[.int .u64 a', .int .u64 b', .int .u64 c', .string p', .string m'] 27)).heap.size by simp only [World.size_alloc]; omega)
  obtain ⟨qa, qb⟩ := two_new w (#[.int .i64 o, .int .i64 k, .int .u64 a, .int .u64 b, .int .u64 c, .string p]) (#[.int .u64 a', .int .u64 b', .int .u64 c', .string p', .string m']) 36 27
  have Qa := hid qa
  have Qb := hid qb
  clear qa qb
  have HV := hid hv
  clear hv
  go_enter Tryd.func6, Tryd.ntmps6
  go_wp2_with fail
  go_at_call 25
  refine (fits13_any _ _ a b c p _ hp).mono ?_
  rintro e w1 ⟨rfl, hb⟩
  replace Qa := hid ((Qa.out).below hb)
  replace Qb := hid ((Qb.out).below hb)
  replace Z := hid (Nat.le_trans (Nat.le_trans Z.out (by first | exact Nat.le_refl _ | omega | (simp only [World.size_alloc, World.size_drew]; omega))) hb.size)
  replace B := hid (bt B.out hb)
  clear hb
  have xa0 : w1.cell? ⟨w.heap.size, 0, none⟩ = some (.int .i64 o) := Qa.out.cell 0
  have xa1 : w1.cell? ⟨w.heap.size, 1, none⟩ = some (.int .i64 k) := Qa.out.cell 1
  have xa2 : w1.cell? ⟨w.heap.size, 2, none⟩ = some (.int .u64 a) := Qa.out.cell 2
  have xa3 : w1.cell? ⟨w.heap.size, 3, none⟩ = some (.int .u64 b) := Qa.out.cell 3
  have xa4 : w1.cell? ⟨w.heap.size, 4, none⟩ = some (.int .u64 c) := Qa.out.cell 4
  have xa5 : w1.cell? ⟨w.heap.size, 5, none⟩ = some (.string p) := Qa.out.cell 5
  have xb0 : w1.cell? ⟨w.heap.size + 1, 0, none⟩ = some (.int .u64 a') := Qb.out.cell 0
  have xb1 : w1.cell? ⟨w.heap.size + 1, 1, none⟩ = some (.int .u64 b') := Qb.out.cell 1
  have xb2 : w1.cell? ⟨w.heap.size + 1, 2, none⟩ = some (.int .u64 c') := Qb.out.cell 2
  have xb3 : w1.cell? ⟨w.heap.size + 1, 3, none⟩ = some (.string p') := Qb.out.cell 3
  have xb4 : w1.cell? ⟨w.heap.size + 1, 4, none⟩ = some (.string m') := Qb.out.cell 4
  go_wp2_with fail
  go_ret
  exact ⟨rfl, B.out⟩

set_option maxHeartbeats 800000 in
set_option maxRecDepth 100000 in
theorem CHold_unfit2 (o k : Int) (a b c : Int) (p : ByteArray) (a' b' c' : Int) (p' m' : ByteArray) (pre : Bool) (w : World) (hp : p.size ≤ maxLen) (hp' : p'.size ≤ maxLen) (hm' : m'.size ≤ maxLen) (hv : Vars w) (f0 : decide (p.size ≤ 2147483647) = true) (f1 : fitB p' m' = false) :
    Calls Tryd.prog 6 #[.agg #[.int .i64 o, .int .i64 k, .int .u64 a, .int .u64 b, .int .u64 c, .string p], .agg (scells a' b' c' p' m'), .bool pre] w fun e w' => e = .returned (.bool true) ∧ Below w.heap.size w w' := by
  have B := hid (show Below w.heap.size w ((w.alloc (.cells #[.int .i64 o, .int .i64 k, .int .u64 a, .int .u64 b, .int .u64 c, .string p] 36)).alloc (.cells #[.int .u64 a', .int .u64 b', .int .u64 c', .string p', .string m'] 27)) by go_grown)
  have Z := hid (show w.heap.size + 2 ≤ ((w.alloc (.cells #[.int .i64 o, .int .i64 k, .int .u64 a, .int .u64 b, .int .u64 c, .string p] 36)).alloc (.cells #[.int .u64 a', .int .u64 b', .int .u64 c', .string p', .string m'] 27)).heap.size by simp only [World.size_alloc]; omega)
  obtain ⟨qa, qb⟩ := two_new w (#[.int .i64 o, .int .i64 k, .int .u64 a, .int .u64 b, .int .u64 c, .string p]) (#[.int .u64 a', .int .u64 b', .int .u64 c', .string p', .string m']) 36 27
  have Qa := hid qa
  have Qb := hid qb
  clear qa qb
  have HV := hid hv
  clear hv
  go_enter Tryd.func6, Tryd.ntmps6
  go_wp2_with fail
  go_at_call 25
  refine (fits13_any _ _ a b c p _ hp).mono ?_
  rintro e w1 ⟨rfl, hb⟩
  replace Qa := hid ((Qa.out).below hb)
  replace Qb := hid ((Qb.out).below hb)
  replace Z := hid (Nat.le_trans (Nat.le_trans Z.out (by first | exact Nat.le_refl _ | omega | (simp only [World.size_alloc, World.size_drew]; omega))) hb.size)
  replace B := hid (bt B.out hb)
  clear hb
  have xa0 : w1.cell? ⟨w.heap.size, 0, none⟩ = some (.int .i64 o) := Qa.out.cell 0
  have xa1 : w1.cell? ⟨w.heap.size, 1, none⟩ = some (.int .i64 k) := Qa.out.cell 1
  have xa2 : w1.cell? ⟨w.heap.size, 2, none⟩ = some (.int .u64 a) := Qa.out.cell 2
  have xa3 : w1.cell? ⟨w.heap.size, 3, none⟩ = some (.int .u64 b) := Qa.out.cell 3
  have xa4 : w1.cell? ⟨w.heap.size, 4, none⟩ = some (.int .u64 c) := Qa.out.cell 4
  have xa5 : w1.cell? ⟨w.heap.size, 5, none⟩ = some (.string p) := Qa.out.cell 5
  have xb0 : w1.cell? ⟨w.heap.size + 1, 0, none⟩ = some (.int .u64 a') := Qb.out.cell 0
  have xb1 : w1.cell? ⟨w.heap.size + 1, 1, none⟩ = some (.int .u64 b') := Qb.out.cell 1
  have xb2 : w1.cell? ⟨w.heap.size + 1, 2, none⟩ = some (.int .u64 c') := Qb.out.cell 2
  have xb3 : w1.cell? ⟨w.heap.size + 1, 3, none⟩ = some (.string p') := Qb.out.cell 3
  have xb4 : w1.cell? ⟨w.heap.size + 1, 4, none⟩ = some (.string m') := Qb.out.cell 4
  go_wp2_with fail
  go_at_call 17
  refine (fitB_any a' b' c' p' m' _ hp' hm').mono ?_
  rintro e w2 ⟨rfl, hb⟩
  replace Qa := hid ((Qa.out).below hb)
  replace Qb := hid ((Qb.out).below hb)
  replace Z := hid (Nat.le_trans (Nat.le_trans Z.out (by first | exact Nat.le_refl _ | omega | (simp only [World.size_alloc, World.size_drew]; omega))) hb.size)
  replace B := hid (bt B.out hb)
  clear hb
  have xa0 : w2.cell? ⟨w.heap.size, 0, none⟩ = some (.int .i64 o) := Qa.out.cell 0
  have xa1 : w2.cell? ⟨w.heap.size, 1, none⟩ = some (.int .i64 k) := Qa.out.cell 1
  have xa2 : w2.cell? ⟨w.heap.size, 2, none⟩ = some (.int .u64 a) := Qa.out.cell 2
  have xa3 : w2.cell? ⟨w.heap.size, 3, none⟩ = some (.int .u64 b) := Qa.out.cell 3
  have xa4 : w2.cell? ⟨w.heap.size, 4, none⟩ = some (.int .u64 c) := Qa.out.cell 4
  have xa5 : w2.cell? ⟨w.heap.size, 5, none⟩ = some (.string p) := Qa.out.cell 5
  have xb0 : w2.cell? ⟨w.heap.size + 1, 0, none⟩ = some (.int .u64 a') := Qb.out.cell 0
  have xb1 : w2.cell? ⟨w.heap.size + 1, 1, none⟩ = some (.int .u64 b') := Qb.out.cell 1
  have xb2 : w2.cell? ⟨w.heap.size + 1, 2, none⟩ = some (.int .u64 c') := Qb.out.cell 2
  have xb3 : w2.cell? ⟨w.heap.size + 1, 3, none⟩ = some (.string p') := Qb.out.cell 3
  have xb4 : w2.cell? ⟨w.heap.size + 1, 4, none⟩ = some (.string m') := Qb.out.cell 4
  go_wp2_with fail
  go_ret
  exact ⟨rfl, B.out⟩

set_option maxHeartbeats 800000 in
set_option maxRecDepth 100000 in
theorem CHold_unasked (o k : Int) (a b c : Int) (p : ByteArray) (a' b' c' : Int) (p' m' : ByteArray) (pre : Bool) (w : World) (hp : p.size ≤ maxLen) (hp' : p'.size ≤ maxLen) (hm' : m'.size ≤ maxLen) (hv : Vars w) (f0 : decide (p.size ≤ 2147483647) = true) (f1 : fitB p' m' = true) (s0 : p.size ≤ 2147483647) (s1 : p'.size ≤ 2147483647 ∧ m'.size ≤ 2147483647) (f2 : (goodT 7 k a b c p && verOk ⟨0, 0, 0, p', m'⟩) = false) :
    Calls Tryd.prog 6 #[.agg #[.int .i64 o, .int .i64 k, .int .u64 a, .int .u64 b, .int .u64 c, .string p], .agg (scells a' b' c' p' m'), .bool pre] w fun e w' => e = .returned (.bool true) ∧ Below w.heap.size w w' := by
  have B := hid (show Below w.heap.size w ((w.alloc (.cells #[.int .i64 o, .int .i64 k, .int .u64 a, .int .u64 b, .int .u64 c, .string p] 36)).alloc (.cells #[.int .u64 a', .int .u64 b', .int .u64 c', .string p', .string m'] 27)) by go_grown)
  have Z := hid (show w.heap.size + 2 ≤ ((w.alloc (.cells #[.int .i64 o, .int .i64 k, .int .u64 a, .int .u64 b, .int .u64 c, .string p] 36)).alloc (.cells #[.int .u64 a', .int .u64 b', .int .u64 c', .string p', .string m'] 27)).heap.size by simp only [World.size_alloc]; omega)
  obtain ⟨qa, qb⟩ := two_new w (#[.int .i64 o, .int .i64 k, .int .u64 a, .int .u64 b, .int .u64 c, .string p]) (#[.int .u64 a', .int .u64 b', .int .u64 c', .string p', .string m']) 36 27
  have Qa := hid qa
  have Qb := hid qb
  clear qa qb
  have HV := hid hv
  clear hv
  go_enter Tryd.func6, Tryd.ntmps6
  go_wp2_with fail
  go_at_call 25
  refine (fits13_any _ _ a b c p _ hp).mono ?_
  rintro e w1 ⟨rfl, hb⟩
  replace Qa := hid ((Qa.out).below hb)
  replace Qb := hid ((Qb.out).below hb)
  replace Z := hid (Nat.le_trans (Nat.le_trans Z.out (by first | exact Nat.le_refl _ | omega | (simp only [World.size_alloc, World.size_drew]; omega))) hb.size)
  replace B := hid (bt B.out hb)
  clear hb
  have xa0 : w1.cell? ⟨w.heap.size, 0, none⟩ = some (.int .i64 o) := Qa.out.cell 0
  have xa1 : w1.cell? ⟨w.heap.size, 1, none⟩ = some (.int .i64 k) := Qa.out.cell 1
  have xa2 : w1.cell? ⟨w.heap.size, 2, none⟩ = some (.int .u64 a) := Qa.out.cell 2
  have xa3 : w1.cell? ⟨w.heap.size, 3, none⟩ = some (.int .u64 b) := Qa.out.cell 3
  have xa4 : w1.cell? ⟨w.heap.size, 4, none⟩ = some (.int .u64 c) := Qa.out.cell 4
  have xa5 : w1.cell? ⟨w.heap.size, 5, none⟩ = some (.string p) := Qa.out.cell 5
  have xb0 : w1.cell? ⟨w.heap.size + 1, 0, none⟩ = some (.int .u64 a') := Qb.out.cell 0
  have xb1 : w1.cell? ⟨w.heap.size + 1, 1, none⟩ = some (.int .u64 b') := Qb.out.cell 1
  have xb2 : w1.cell? ⟨w.heap.size + 1, 2, none⟩ = some (.int .u64 c') := Qb.out.cell 2
  have xb3 : w1.cell? ⟨w.heap.size + 1, 3, none⟩ = some (.string p') := Qb.out.cell 3
  have xb4 : w1.cell? ⟨w.heap.size + 1, 4, none⟩ = some (.string m') := Qb.out.cell 4
  go_wp2_with fail
  go_at_call 17
  refine (fitB_any a' b' c' p' m' _ hp' hm').mono ?_
  rintro e w2 ⟨rfl, hb⟩
  replace Qa := hid ((Qa.out).below hb)
  replace Qb := hid ((Qb.out).below hb)
  replace Z := hid (Nat.le_trans (Nat.le_trans Z.out (by first | exact Nat.le_refl _ | omega | (simp only [World.size_alloc, World.size_drew]; omega))) hb.size)
  replace B := hid (bt B.out hb)
  clear hb
  have xa0 : w2.cell? ⟨w.heap.size, 0, none⟩ = some (.int .i64 o) := Qa.out.cell 0
  have xa1 : w2.cell? ⟨w.heap.size, 1, none⟩ = some (.int .i64 k) := Qa.out.cell 1
  have xa2 : w2.cell? ⟨w.heap.size, 2, none⟩ = some (.int .u64 a) := Qa.out.cell 2
  have xa3 : w2.cell? ⟨w.heap.size, 3, none⟩ = some (.int .u64 b) := Qa.out.cell 3
  have xa4 : w2.cell? ⟨w.heap.size, 4, none⟩ = some (.int .u64 c) := Qa.out.cell 4
  have xa5 : w2.cell? ⟨w.heap.size, 5, none⟩ = some (.string p) := Qa.out.cell 5
  have xb0 : w2.cell? ⟨w.heap.size + 1, 0, none⟩ = some (.int .u64 a') := Qb.out.cell 0
  have xb1 : w2.cell? ⟨w.heap.size + 1, 1, none⟩ = some (.int .u64 b') := Qb.out.cell 1
  have xb2 : w2.cell? ⟨w.heap.size + 1, 2, none⟩ = some (.int .u64 c') := Qb.out.cell 2
  have xb3 : w2.cell? ⟨w.heap.size + 1, 3, none⟩ = some (.string p') := Qb.out.cell 3
  have xb4 : w2.cell? ⟨w.heap.size + 1, 4, none⟩ = some (.string m') := Qb.out.cell 4
  go_wp2_with fail
  have C1 := hid (fun d os => Calls.regrown_of (asked_7 o k a b c p a' b' c' p' m' (Go.Sort.grow (redrawn w2 d) os) s0 s1))
  have kQa0 : ∀ d os, (Go.Sort.grow (redrawn w2 d) os).cell? ⟨w.heap.size, 0, none⟩ = some (.int .i64 o) := fun d os => (blk_gr Qa.out d os).cell 0
  have kQa1 : ∀ d os, (Go.Sort.grow (redrawn w2 d) os).cell? ⟨w.heap.size, 1, none⟩ = some (.int .i64 k) := fun d os => (blk_gr Qa.out d os).cell 1
  have kQa2 : ∀ d os, (Go.Sort.grow (redrawn w2 d) os).cell? ⟨w.heap.size, 2, none⟩ = some (.int .u64 a) := fun d os => (blk_gr Qa.out d os).cell 2
  have kQa3 : ∀ d os, (Go.Sort.grow (redrawn w2 d) os).cell? ⟨w.heap.size, 3, none⟩ = some (.int .u64 b) := fun d os => (blk_gr Qa.out d os).cell 3
  have kQa4 : ∀ d os, (Go.Sort.grow (redrawn w2 d) os).cell? ⟨w.heap.size, 4, none⟩ = some (.int .u64 c) := fun d os => (blk_gr Qa.out d os).cell 4
  have kQa5 : ∀ d os, (Go.Sort.grow (redrawn w2 d) os).cell? ⟨w.heap.size, 5, none⟩ = some (.string p) := fun d os => (blk_gr Qa.out d os).cell 5
  have kQb0 : ∀ d os, (Go.Sort.grow (redrawn w2 d) os).cell? ⟨w.heap.size + 1, 0, none⟩ = some (.int .u64 a') := fun d os => (blk_gr Qb.out d os).cell 0
  have kQb1 : ∀ d os, (Go.Sort.grow (redrawn w2 d) os).cell? ⟨w.heap.size + 1, 1, none⟩ = some (.int .u64 b') := fun d os => (blk_gr Qb.out d os).cell 1
  have kQb2 : ∀ d os, (Go.Sort.grow (redrawn w2 d) os).cell? ⟨w.heap.size + 1, 2, none⟩ = some (.int .u64 c') := fun d os => (blk_gr Qb.out d os).cell 2
  have kQb3 : ∀ d os, (Go.Sort.grow (redrawn w2 d) os).cell? ⟨w.heap.size + 1, 3, none⟩ = some (.string p') := fun d os => (blk_gr Qb.out d os).cell 3
  have kQb4 : ∀ d os, (Go.Sort.grow (redrawn w2 d) os).cell? ⟨w.heap.size + 1, 4, none⟩ = some (.string m') := fun d os => (blk_gr Qb.out d os).cell 4
  refine wp_region_quiet_below (by kernel_rfl) (by kernel_rfl) ?_
  repeat (go_big_quiet_step ((first | (go_at_call 26; exact C1.out _ _) | fail)))
  refine wpQuiet_nil ?_
  intro _ hw'
  obtain ⟨⟨dq, osq⟩, hw''⟩ := hw'
  subst hw''
  go_wp2_with fail
  go_ret
  exact ⟨rfl, bt B.out (below_regrown _ _ _)⟩

set_option maxHeartbeats 800000 in
set_option maxRecDepth 100000 in
theorem CHold_main (o : Int) (k : Nat) (a b c : Int) (p : ByteArray) (a' b' c' : Int) (p' m' : ByteArray) (pre : Bool) (w : World) (hp : p.size ≤ maxLen) (hp' : p'.size ≤ maxLen) (hm' : m'.size ≤ maxLen) (hv : Vars w) (f0 : decide (p.size ≤ 2147483647) = true) (f1 : fitB p' m' = true) (s0 : p.size ≤ 2147483647) (s1 : p'.size ≤ 2147483647 ∧ m'.size ≤ 2147483647) (f2 : (goodT 7 (k : Int) a b c p && verOk ⟨0, 0, 0, p', m'⟩) = true) (hk : k ≤ 3) (r : Bool) (hr : ∀ g h, OpIs 97 g h a' b' c' p' m' a b c p ByteArray.empty (opS (opM o)) ByteArray.empty (k == 1) (decide (k < 3)) (k == 2) pre r) (hC : ∀ W, Calls Tryd.prog 28 #[.agg #[.int .i64 o, .int .i64 (k : Int), .int .u64 a, .int .u64 b, .int .u64 c, .string p], .int .i64 7, .agg (scells a' b' c' p' m'), .bool pre] W fun e w' => e = .returned (.bool r) ∧ Below W.heap.size W w') :
    Calls Tryd.prog 6 #[.agg #[.int .i64 o, .int .i64 (k : Int), .int .u64 a, .int .u64 b, .int .u64 c, .string p], .agg (scells a' b' c' p' m'), .bool pre] w fun e w' => e = .returned (.bool true) ∧ Below w.heap.size w w' := by
  have B := hid (show Below w.heap.size w ((w.alloc (.cells #[.int .i64 o, .int .i64 (k : Int), .int .u64 a, .int .u64 b, .int .u64 c, .string p] 36)).alloc (.cells #[.int .u64 a', .int .u64 b', .int .u64 c', .string p', .string m'] 27)) by go_grown)
  have Z := hid (show w.heap.size + 2 ≤ ((w.alloc (.cells #[.int .i64 o, .int .i64 (k : Int), .int .u64 a, .int .u64 b, .int .u64 c, .string p] 36)).alloc (.cells #[.int .u64 a', .int .u64 b', .int .u64 c', .string p', .string m'] 27)).heap.size by simp only [World.size_alloc]; omega)
  obtain ⟨qa, qb⟩ := two_new w (#[.int .i64 o, .int .i64 (k : Int), .int .u64 a, .int .u64 b, .int .u64 c, .string p]) (#[.int .u64 a', .int .u64 b', .int .u64 c', .string p', .string m']) 36 27
  have Qa := hid qa
  have Qb := hid qb
  clear qa qb
  have HV := hid hv
  clear hv
  have HR := hid hr
  clear hr
  have HC := hid hC
  clear hC
  have HK := hid hk
  clear hk
  go_enter Tryd.func6, Tryd.ntmps6
  go_wp2_with fail
  go_at_call 25
  refine (fits13_any _ _ a b c p _ hp).mono ?_
  rintro e w1 ⟨rfl, hb⟩
  replace Qa := hid ((Qa.out).below hb)
  replace Qb := hid ((Qb.out).below hb)
  replace Z := hid (Nat.le_trans (Nat.le_trans Z.out (by first | exact Nat.le_refl _ | omega | (simp only [World.size_alloc, World.size_drew]; omega))) hb.size)
  replace B := hid (bt B.out hb)
  clear hb
  have xa0 : w1.cell? ⟨w.heap.size, 0, none⟩ = some (.int .i64 o) := Qa.out.cell 0
  have xa1 : w1.cell? ⟨w.heap.size, 1, none⟩ = some (.int .i64 (k : Int)) := Qa.out.cell 1
  have xa2 : w1.cell? ⟨w.heap.size, 2, none⟩ = some (.int .u64 a) := Qa.out.cell 2
  have xa3 : w1.cell? ⟨w.heap.size, 3, none⟩ = some (.int .u64 b) := Qa.out.cell 3
  have xa4 : w1.cell? ⟨w.heap.size, 4, none⟩ = some (.int .u64 c) := Qa.out.cell 4
  have xa5 : w1.cell? ⟨w.heap.size, 5, none⟩ = some (.string p) := Qa.out.cell 5
  have xb0 : w1.cell? ⟨w.heap.size + 1, 0, none⟩ = some (.int .u64 a') := Qb.out.cell 0
  have xb1 : w1.cell? ⟨w.heap.size + 1, 1, none⟩ = some (.int .u64 b') := Qb.out.cell 1
  have xb2 : w1.cell? ⟨w.heap.size + 1, 2, none⟩ = some (.int .u64 c') := Qb.out.cell 2
  have xb3 : w1.cell? ⟨w.heap.size + 1, 3, none⟩ = some (.string p') := Qb.out.cell 3
  have xb4 : w1.cell? ⟨w.heap.size + 1, 4, none⟩ = some (.string m') := Qb.out.cell 4
  go_wp2_with fail
  go_at_call 17
  refine (fitB_any a' b' c' p' m' _ hp' hm').mono ?_
  rintro e w2 ⟨rfl, hb⟩
  replace Qa := hid ((Qa.out).below hb)
  replace Qb := hid ((Qb.out).below hb)
  replace Z := hid (Nat.le_trans (Nat.le_trans Z.out (by first | exact Nat.le_refl _ | omega | (simp only [World.size_alloc, World.size_drew]; omega))) hb.size)
  replace B := hid (bt B.out hb)
  clear hb
  have xa0 : w2.cell? ⟨w.heap.size, 0, none⟩ = some (.int .i64 o) := Qa.out.cell 0
  have xa1 : w2.cell? ⟨w.heap.size, 1, none⟩ = some (.int .i64 (k : Int)) := Qa.out.cell 1
  have xa2 : w2.cell? ⟨w.heap.size, 2, none⟩ = some (.int .u64 a) := Qa.out.cell 2
  have xa3 : w2.cell? ⟨w.heap.size, 3, none⟩ = some (.int .u64 b) := Qa.out.cell 3
  have xa4 : w2.cell? ⟨w.heap.size, 4, none⟩ = some (.int .u64 c) := Qa.out.cell 4
  have xa5 : w2.cell? ⟨w.heap.size, 5, none⟩ = some (.string p) := Qa.out.cell 5
  have xb0 : w2.cell? ⟨w.heap.size + 1, 0, none⟩ = some (.int .u64 a') := Qb.out.cell 0
  have xb1 : w2.cell? ⟨w.heap.size + 1, 1, none⟩ = some (.int .u64 b') := Qb.out.cell 1
  have xb2 : w2.cell? ⟨w.heap.size + 1, 2, none⟩ = some (.int .u64 c') := Qb.out.cell 2
  have xb3 : w2.cell? ⟨w.heap.size + 1, 3, none⟩ = some (.string p') := Qb.out.cell 3
  have xb4 : w2.cell? ⟨w.heap.size + 1, 4, none⟩ = some (.string m') := Qb.out.cell 4
  go_wp2_with fail
  have C1 := hid (fun d os => Calls.regrown_of (asked_7 o (k : Int) a b c p a' b' c' p' m' (Go.Sort.grow (redrawn w2 d) os) s0 s1))
  have C2 := hid (fun d os => Calls.regrown_of (caretHoldsM o k HK.out a' b' c' p' m' a b c p pre r (Go.Sort.grow (redrawn w2 d) os) (HV.out.below (bt B.out (below_regrown w2 d os))) HR.out))
  have C3 := hid (fun d os => Calls.regrown_of (HC.out (Go.Sort.grow (redrawn w2 d) os)))
  have kQa0 : ∀ d os, (Go.Sort.grow (redrawn w2 d) os).cell? ⟨w.heap.size, 0, none⟩ = some (.int .i64 o) := fun d os => (blk_gr Qa.out d os).cell 0
  have kQa1 : ∀ d os, (Go.Sort.grow (redrawn w2 d) os).cell? ⟨w.heap.size, 1, none⟩ = some (.int .i64 (k : Int)) := fun d os => (blk_gr Qa.out d os).cell 1
  have kQa2 : ∀ d os, (Go.Sort.grow (redrawn w2 d) os).cell? ⟨w.heap.size, 2, none⟩ = some (.int .u64 a) := fun d os => (blk_gr Qa.out d os).cell 2
  have kQa3 : ∀ d os, (Go.Sort.grow (redrawn w2 d) os).cell? ⟨w.heap.size, 3, none⟩ = some (.int .u64 b) := fun d os => (blk_gr Qa.out d os).cell 3
  have kQa4 : ∀ d os, (Go.Sort.grow (redrawn w2 d) os).cell? ⟨w.heap.size, 4, none⟩ = some (.int .u64 c) := fun d os => (blk_gr Qa.out d os).cell 4
  have kQa5 : ∀ d os, (Go.Sort.grow (redrawn w2 d) os).cell? ⟨w.heap.size, 5, none⟩ = some (.string p) := fun d os => (blk_gr Qa.out d os).cell 5
  have kQb0 : ∀ d os, (Go.Sort.grow (redrawn w2 d) os).cell? ⟨w.heap.size + 1, 0, none⟩ = some (.int .u64 a') := fun d os => (blk_gr Qb.out d os).cell 0
  have kQb1 : ∀ d os, (Go.Sort.grow (redrawn w2 d) os).cell? ⟨w.heap.size + 1, 1, none⟩ = some (.int .u64 b') := fun d os => (blk_gr Qb.out d os).cell 1
  have kQb2 : ∀ d os, (Go.Sort.grow (redrawn w2 d) os).cell? ⟨w.heap.size + 1, 2, none⟩ = some (.int .u64 c') := fun d os => (blk_gr Qb.out d os).cell 2
  have kQb3 : ∀ d os, (Go.Sort.grow (redrawn w2 d) os).cell? ⟨w.heap.size + 1, 3, none⟩ = some (.string p') := fun d os => (blk_gr Qb.out d os).cell 3
  have kQb4 : ∀ d os, (Go.Sort.grow (redrawn w2 d) os).cell? ⟨w.heap.size + 1, 4, none⟩ = some (.string m') := fun d os => (blk_gr Qb.out d os).cell 4
  refine wp_region_quiet_below (by kernel_rfl) (by kernel_rfl) ?_
  repeat (go_big_quiet_step ((first | (go_at_call 26; exact C1.out _ _) | (go_at_call 27; exact C2.out _ _) | (go_at_call 28; exact C3.out _ _) | fail)))
  refine wpQuiet_nil ?_
  intro _ hw'
  obtain ⟨⟨dq, osq⟩, hw''⟩ := hw'
  subst hw''
  go_wp2_with fail
  go_ret
  exact ⟨rfl, bt B.out (below_regrown _ _ _)⟩

theorem firstC_1 (a b c x y z : Int) : (firstC (three a b c) (three x y z) 1 == 0) = (a == x) := by
  simp only [firstC, three, segC]
  by_cases h : a < x
  · have : a ≠ x := by omega
    simp [h, this]
  · by_cases h2 : x < a
    · have : a ≠ x := by omega
      simp [h, h2, this]
    · have : a = x := by omega
      simp [this]
theorem firstC_2 (a b c x y z : Int) : (firstC (three a b c) (three x y z) 2 == 0) = (a == x && b == y) := by
  rw [Bool.eq_iff_iff]
  simp only [firstC, three, segC, beq_iff_eq, Bool.and_eq_true]
  constructor
  · intro h
    simp at h
    omega
  · rintro ⟨rfl, rfl⟩
    simp
theorem firstC_3 (a b c x y z : Int) : (firstC (three a b c) (three x y z) 3 == 0) = (a == x && (b == y && c == z)) := by
  rw [Bool.eq_iff_iff]
  simp only [firstC, three, segC, beq_iff_eq, Bool.and_eq_true]
  constructor
  · intro h
    simp at h
    omega
  · rintro ⟨rfl, rfl, rfl⟩
    simp

end Go.Proofs.YtmlbjcdildaldaaDoor

set_option linter.unusedVariables false
set_option linter.unusedSimpArgs false
namespace Go.Proofs.YtmlbjcdildaldaaDoor
open Go.RowKit

set_option maxHeartbeats 800000 in
set_option maxRecDepth 100000 in
theorem EHold_unfit1 (o k : Int) (a b c : Int) (p : ByteArray) (a' b' c' : Int) (p' m' : ByteArray) (pre : Bool) (w : World) (hp : p.size ≤ maxLen) (hp' : p'.size ≤ maxLen) (hm' : m'.size ≤ maxLen) (hv : Vars w) (f0 : decide (p.size ≤ 2147483647) = false) :
    Calls Tryd.prog 7 #[.agg #[.int .i64 o, .int .i64 k, .int .u64 a, .int .u64 b, .int .u64 c, .string p], .agg (scells a' b' c' p' m'), .bool pre] w fun e w' => e = .returned (.bool true) ∧ Below w.heap.size w w' := by
  have B := hid (show Below w.heap.size w ((w.alloc (.cells #[.int .i64 o, .int .i64 k, .int .u64 a, .int .u64 b, .int .u64 c, .string p] 36)).alloc (.cells #[.int .u64 a', .int .u64 b', .int .u64 c', .string p', .string m'] 27)) by go_grown)
  have Z := hid (show w.heap.size + 2 ≤ ((w.alloc (.cells #[.int .i64 o, .int .i64 k, .int .u64 a, .int .u64 b, .int .u64 c, .string p] 36)).alloc (.cells #[.int .u64 a', .int .u64 b', .int .u64 c', .string p', .string m'] 27)).heap.size by simp only [World.size_alloc]; omega)
  obtain ⟨qa, qb⟩ := two_new w (#[.int .i64 o, .int .i64 k, .int .u64 a, .int .u64 b, .int .u64 c, .string p]) (#[.int .u64 a', .int .u64 b', .int .u64 c', .string p', .string m']) 36 27
  have Qa := hid qa
  have Qb := hid qb
  clear qa qb
  have HV := hid hv
  clear hv
  go_enter Tryd.func7, Tryd.ntmps7
  go_wp2_with fail
  go_at_call 25
  refine (fits13_any _ _ a b c p _ hp).mono ?_
  rintro e w1 ⟨rfl, hb⟩
  replace Qa := hid ((Qa.out).below hb)
  replace Qb := hid ((Qb.out).below hb)
  replace Z := hid (Nat.le_trans (Nat.le_trans Z.out (by first | exact Nat.le_refl _ | omega | (simp only [World.size_alloc, World.size_drew]; omega))) hb.size)
  replace B := hid (bt B.out hb)
  clear hb
  have xa0 : w1.cell? ⟨w.heap.size, 0, none⟩ = some (.int .i64 o) := Qa.out.cell 0
  have xa1 : w1.cell? ⟨w.heap.size, 1, none⟩ = some (.int .i64 k) := Qa.out.cell 1
  have xa2 : w1.cell? ⟨w.heap.size, 2, none⟩ = some (.int .u64 a) := Qa.out.cell 2
  have xa3 : w1.cell? ⟨w.heap.size, 3, none⟩ = some (.int .u64 b) := Qa.out.cell 3
  have xa4 : w1.cell? ⟨w.heap.size, 4, none⟩ = some (.int .u64 c) := Qa.out.cell 4
  have xa5 : w1.cell? ⟨w.heap.size, 5, none⟩ = some (.string p) := Qa.out.cell 5
  have xb0 : w1.cell? ⟨w.heap.size + 1, 0, none⟩ = some (.int .u64 a') := Qb.out.cell 0
  have xb1 : w1.cell? ⟨w.heap.size + 1, 1, none⟩ = some (.int .u64 b') := Qb.out.cell 1
  have xb2 : w1.cell? ⟨w.heap.size + 1, 2, none⟩ = some (.int .u64 c') := Qb.out.cell 2
  have xb3 : w1.cell? ⟨w.heap.size + 1, 3, none⟩ = some (.string p') := Qb.out.cell 3
  have xb4 : w1.cell? ⟨w.heap.size + 1, 4, none⟩ = some (.string m') := Qb.out.cell 4
  go_wp2_with fail
  go_ret
  exact ⟨rfl, B.out⟩

set_option maxHeartbeats 800000 in
set_option maxRecDepth 100000 in
theorem EHold_unfit2 (o k : Int) (a b c : Int) (p : ByteArray) (a' b' c' : Int) (p' m' : ByteArray) (pre : Bool) (w : World) (hp : p.size ≤ maxLen) (hp' : p'.size ≤ maxLen) (hm' : m'.size ≤ maxLen) (hv : Vars w) (f0 : decide (p.size ≤ 2147483647) = true) (f1 : fitB p' m' = false) :
    Calls Tryd.prog 7 #[.agg #[.int .i64 o, .int .i64 k, .int .u64 a, .int .u64 b, .int .u64 c, .string p], .agg (scells a' b' c' p' m'), .bool pre] w fun e w' => e = .returned (.bool true) ∧ Below w.heap.size w w' := by
  have B := hid (show Below w.heap.size w ((w.alloc (.cells #[.int .i64 o, .int .i64 k, .int .u64 a, .int .u64 b, .int .u64 c, .string p] 36)).alloc (.cells #[.int .u64 a', .int .u64 b', .int .u64 c', .string p', .string m'] 27)) by go_grown)
  have Z := hid (show w.heap.size + 2 ≤ ((w.alloc (.cells #[.int .i64 o, .int .i64 k, .int .u64 a, .int .u64 b, .int .u64 c, .string p] 36)).alloc (.cells #[.int .u64 a', .int .u64 b', .int .u64 c', .string p', .string m'] 27)).heap.size by simp only [World.size_alloc]; omega)
  obtain ⟨qa, qb⟩ := two_new w (#[.int .i64 o, .int .i64 k, .int .u64 a, .int .u64 b, .int .u64 c, .string p]) (#[.int .u64 a', .int .u64 b', .int .u64 c', .string p', .string m']) 36 27
  have Qa := hid qa
  have Qb := hid qb
  clear qa qb
  have HV := hid hv
  clear hv
  go_enter Tryd.func7, Tryd.ntmps7
  go_wp2_with fail
  go_at_call 25
  refine (fits13_any _ _ a b c p _ hp).mono ?_
  rintro e w1 ⟨rfl, hb⟩
  replace Qa := hid ((Qa.out).below hb)
  replace Qb := hid ((Qb.out).below hb)
  replace Z := hid (Nat.le_trans (Nat.le_trans Z.out (by first | exact Nat.le_refl _ | omega | (simp only [World.size_alloc, World.size_drew]; omega))) hb.size)
  replace B := hid (bt B.out hb)
  clear hb
  have xa0 : w1.cell? ⟨w.heap.size, 0, none⟩ = some (.int .i64 o) := Qa.out.cell 0
  have xa1 : w1.cell? ⟨w.heap.size, 1, none⟩ = some (.int .i64 k) := Qa.out.cell 1
  have xa2 : w1.cell? ⟨w.heap.size, 2, none⟩ = some (.int .u64 a) := Qa.out.cell 2
  have xa3 : w1.cell? ⟨w.heap.size, 3, none⟩ = some (.int .u64 b) := Qa.out.cell 3
  have xa4 : w1.cell? ⟨w.heap.size, 4, none⟩ = some (.int .u64 c) := Qa.out.cell 4
  have xa5 : w1.cell? ⟨w.heap.size, 5, none⟩ = some (.string p) := Qa.out.cell 5
  have xb0 : w1.cell? ⟨w.heap.size + 1, 0, none⟩ = some (.int .u64 a') := Qb.out.cell 0
  have xb1 : w1.cell? ⟨w.heap.size + 1, 1, none⟩ = some (.int .u64 b') := Qb.out.cell 1
  have xb2 : w1.cell? ⟨w.heap.size + 1, 2, none⟩ = some (.int .u64 c') := Qb.out.cell 2
  have xb3 : w1.cell? ⟨w.heap.size + 1, 3, none⟩ = some (.string p') := Qb.out.cell 3
  have xb4 : w1.cell? ⟨w.heap.size + 1, 4, none⟩ = some (.string m') := Qb.out.cell 4
  go_wp2_with fail
  go_at_call 17
  refine (fitB_any a' b' c' p' m' _ hp' hm').mono ?_
  rintro e w2 ⟨rfl, hb⟩
  replace Qa := hid ((Qa.out).below hb)
  replace Qb := hid ((Qb.out).below hb)
  replace Z := hid (Nat.le_trans (Nat.le_trans Z.out (by first | exact Nat.le_refl _ | omega | (simp only [World.size_alloc, World.size_drew]; omega))) hb.size)
  replace B := hid (bt B.out hb)
  clear hb
  have xa0 : w2.cell? ⟨w.heap.size, 0, none⟩ = some (.int .i64 o) := Qa.out.cell 0
  have xa1 : w2.cell? ⟨w.heap.size, 1, none⟩ = some (.int .i64 k) := Qa.out.cell 1
  have xa2 : w2.cell? ⟨w.heap.size, 2, none⟩ = some (.int .u64 a) := Qa.out.cell 2
  have xa3 : w2.cell? ⟨w.heap.size, 3, none⟩ = some (.int .u64 b) := Qa.out.cell 3
  have xa4 : w2.cell? ⟨w.heap.size, 4, none⟩ = some (.int .u64 c) := Qa.out.cell 4
  have xa5 : w2.cell? ⟨w.heap.size, 5, none⟩ = some (.string p) := Qa.out.cell 5
  have xb0 : w2.cell? ⟨w.heap.size + 1, 0, none⟩ = some (.int .u64 a') := Qb.out.cell 0
  have xb1 : w2.cell? ⟨w.heap.size + 1, 1, none⟩ = some (.int .u64 b') := Qb.out.cell 1
  have xb2 : w2.cell? ⟨w.heap.size + 1, 2, none⟩ = some (.int .u64 c') := Qb.out.cell 2
  have xb3 : w2.cell? ⟨w.heap.size + 1, 3, none⟩ = some (.string p') := Qb.out.cell 3
  have xb4 : w2.cell? ⟨w.heap.size + 1, 4, none⟩ = some (.string m') := Qb.out.cell 4
  go_wp2_with fail
  go_ret
  exact ⟨rfl, B.out⟩

set_option maxHeartbeats 800000 in
set_option maxRecDepth 100000 in
theorem EHold_unasked (o k : Int) (a b c : Int) (p : ByteArray) (a' b' c' : Int) (p' m' : ByteArray) (pre : Bool) (w : World) (hp : p.size ≤ maxLen) (hp' : p'.size ≤ maxLen) (hm' : m'.size ≤ maxLen) (hv : Vars w) (f0 : decide (p.size ≤ 2147483647) = true) (f1 : fitB p' m' = true) (s0 : p.size ≤ 2147483647) (s1 : p'.size ≤ 2147483647 ∧ m'.size ≤ 2147483647) (f2 : (goodT 0 k a b c p && verOk ⟨0, 0, 0, p', m'⟩) = false) :
    Calls Tryd.prog 7 #[.agg #[.int .i64 o, .int .i64 k, .int .u64 a, .int .u64 b, .int .u64 c, .string p], .agg (scells a' b' c' p' m'), .bool pre] w fun e w' => e = .returned (.bool true) ∧ Below w.heap.size w w' := by
  have B := hid (show Below w.heap.size w ((w.alloc (.cells #[.int .i64 o, .int .i64 k, .int .u64 a, .int .u64 b, .int .u64 c, .string p] 36)).alloc (.cells #[.int .u64 a', .int .u64 b', .int .u64 c', .string p', .string m'] 27)) by go_grown)
  have Z := hid (show w.heap.size + 2 ≤ ((w.alloc (.cells #[.int .i64 o, .int .i64 k, .int .u64 a, .int .u64 b, .int .u64 c, .string p] 36)).alloc (.cells #[.int .u64 a', .int .u64 b', .int .u64 c', .string p', .string m'] 27)).heap.size by simp only [World.size_alloc]; omega)
  obtain ⟨qa, qb⟩ := two_new w (#[.int .i64 o, .int .i64 k, .int .u64 a, .int .u64 b, .int .u64 c, .string p]) (#[.int .u64 a', .int .u64 b', .int .u64 c', .string p', .string m']) 36 27
  have Qa := hid qa
  have Qb := hid qb
  clear qa qb
  have HV := hid hv
  clear hv
  go_enter Tryd.func7, Tryd.ntmps7
  go_wp2_with fail
  go_at_call 25
  refine (fits13_any _ _ a b c p _ hp).mono ?_
  rintro e w1 ⟨rfl, hb⟩
  replace Qa := hid ((Qa.out).below hb)
  replace Qb := hid ((Qb.out).below hb)
  replace Z := hid (Nat.le_trans (Nat.le_trans Z.out (by first | exact Nat.le_refl _ | omega | (simp only [World.size_alloc, World.size_drew]; omega))) hb.size)
  replace B := hid (bt B.out hb)
  clear hb
  have xa0 : w1.cell? ⟨w.heap.size, 0, none⟩ = some (.int .i64 o) := Qa.out.cell 0
  have xa1 : w1.cell? ⟨w.heap.size, 1, none⟩ = some (.int .i64 k) := Qa.out.cell 1
  have xa2 : w1.cell? ⟨w.heap.size, 2, none⟩ = some (.int .u64 a) := Qa.out.cell 2
  have xa3 : w1.cell? ⟨w.heap.size, 3, none⟩ = some (.int .u64 b) := Qa.out.cell 3
  have xa4 : w1.cell? ⟨w.heap.size, 4, none⟩ = some (.int .u64 c) := Qa.out.cell 4
  have xa5 : w1.cell? ⟨w.heap.size, 5, none⟩ = some (.string p) := Qa.out.cell 5
  have xb0 : w1.cell? ⟨w.heap.size + 1, 0, none⟩ = some (.int .u64 a') := Qb.out.cell 0
  have xb1 : w1.cell? ⟨w.heap.size + 1, 1, none⟩ = some (.int .u64 b') := Qb.out.cell 1
  have xb2 : w1.cell? ⟨w.heap.size + 1, 2, none⟩ = some (.int .u64 c') := Qb.out.cell 2
  have xb3 : w1.cell? ⟨w.heap.size + 1, 3, none⟩ = some (.string p') := Qb.out.cell 3
  have xb4 : w1.cell? ⟨w.heap.size + 1, 4, none⟩ = some (.string m') := Qb.out.cell 4
  go_wp2_with fail
  go_at_call 17
  refine (fitB_any a' b' c' p' m' _ hp' hm').mono ?_
  rintro e w2 ⟨rfl, hb⟩
  replace Qa := hid ((Qa.out).below hb)
  replace Qb := hid ((Qb.out).below hb)
  replace Z := hid (Nat.le_trans (Nat.le_trans Z.out (by first | exact Nat.le_refl _ | omega | (simp only [World.size_alloc, World.size_drew]; omega))) hb.size)
  replace B := hid (bt B.out hb)
  clear hb
  have xa0 : w2.cell? ⟨w.heap.size, 0, none⟩ = some (.int .i64 o) := Qa.out.cell 0
  have xa1 : w2.cell? ⟨w.heap.size, 1, none⟩ = some (.int .i64 k) := Qa.out.cell 1
  have xa2 : w2.cell? ⟨w.heap.size, 2, none⟩ = some (.int .u64 a) := Qa.out.cell 2
  have xa3 : w2.cell? ⟨w.heap.size, 3, none⟩ = some (.int .u64 b) := Qa.out.cell 3
  have xa4 : w2.cell? ⟨w.heap.size, 4, none⟩ = some (.int .u64 c) := Qa.out.cell 4
  have xa5 : w2.cell? ⟨w.heap.size, 5, none⟩ = some (.string p) := Qa.out.cell 5
  have xb0 : w2.cell? ⟨w.heap.size + 1, 0, none⟩ = some (.int .u64 a') := Qb.out.cell 0
  have xb1 : w2.cell? ⟨w.heap.size + 1, 1, none⟩ = some (.int .u64 b') := Qb.out.cell 1
  have xb2 : w2.cell? ⟨w.heap.size + 1, 2, none⟩ = some (.int .u64 c') := Qb.out.cell 2
  have xb3 : w2.cell? ⟨w.heap.size + 1, 3, none⟩ = some (.string p') := Qb.out.cell 3
  have xb4 : w2.cell? ⟨w.heap.size + 1, 4, none⟩ = some (.string m') := Qb.out.cell 4
  go_wp2_with fail
  have C1 := hid (fun d os => Calls.regrown_of (asked_0 o k a b c p a' b' c' p' m' (Go.Sort.grow (redrawn w2 d) os) s0 s1))
  have kQa0 : ∀ d os, (Go.Sort.grow (redrawn w2 d) os).cell? ⟨w.heap.size, 0, none⟩ = some (.int .i64 o) := fun d os => (blk_gr Qa.out d os).cell 0
  have kQa1 : ∀ d os, (Go.Sort.grow (redrawn w2 d) os).cell? ⟨w.heap.size, 1, none⟩ = some (.int .i64 k) := fun d os => (blk_gr Qa.out d os).cell 1
  have kQa2 : ∀ d os, (Go.Sort.grow (redrawn w2 d) os).cell? ⟨w.heap.size, 2, none⟩ = some (.int .u64 a) := fun d os => (blk_gr Qa.out d os).cell 2
  have kQa3 : ∀ d os, (Go.Sort.grow (redrawn w2 d) os).cell? ⟨w.heap.size, 3, none⟩ = some (.int .u64 b) := fun d os => (blk_gr Qa.out d os).cell 3
  have kQa4 : ∀ d os, (Go.Sort.grow (redrawn w2 d) os).cell? ⟨w.heap.size, 4, none⟩ = some (.int .u64 c) := fun d os => (blk_gr Qa.out d os).cell 4
  have kQa5 : ∀ d os, (Go.Sort.grow (redrawn w2 d) os).cell? ⟨w.heap.size, 5, none⟩ = some (.string p) := fun d os => (blk_gr Qa.out d os).cell 5
  have kQb0 : ∀ d os, (Go.Sort.grow (redrawn w2 d) os).cell? ⟨w.heap.size + 1, 0, none⟩ = some (.int .u64 a') := fun d os => (blk_gr Qb.out d os).cell 0
  have kQb1 : ∀ d os, (Go.Sort.grow (redrawn w2 d) os).cell? ⟨w.heap.size + 1, 1, none⟩ = some (.int .u64 b') := fun d os => (blk_gr Qb.out d os).cell 1
  have kQb2 : ∀ d os, (Go.Sort.grow (redrawn w2 d) os).cell? ⟨w.heap.size + 1, 2, none⟩ = some (.int .u64 c') := fun d os => (blk_gr Qb.out d os).cell 2
  have kQb3 : ∀ d os, (Go.Sort.grow (redrawn w2 d) os).cell? ⟨w.heap.size + 1, 3, none⟩ = some (.string p') := fun d os => (blk_gr Qb.out d os).cell 3
  have kQb4 : ∀ d os, (Go.Sort.grow (redrawn w2 d) os).cell? ⟨w.heap.size + 1, 4, none⟩ = some (.string m') := fun d os => (blk_gr Qb.out d os).cell 4
  refine wp_region_quiet_below (by kernel_rfl) (by kernel_rfl) ?_
  repeat (go_big_quiet_step ((first | (go_at_call 26; exact C1.out _ _) | fail)))
  refine wpQuiet_nil ?_
  intro _ hw'
  obtain ⟨⟨dq, osq⟩, hw''⟩ := hw'
  subst hw''
  go_wp2_with fail
  go_ret
  exact ⟨rfl, bt B.out (below_regrown _ _ _)⟩

set_option maxHeartbeats 800000 in
set_option maxRecDepth 100000 in
theorem EHold_main (o : Int) (k : Nat) (a b c : Int) (p : ByteArray) (a' b' c' : Int) (p' m' : ByteArray) (pre : Bool) (w : World) (hp : p.size ≤ maxLen) (hp' : p'.size ≤ maxLen) (hm' : m'.size ≤ maxLen) (hv : Vars w) (f0 : decide (p.size ≤ 2147483647) = true) (f1 : fitB p' m' = true) (s0 : p.size ≤ 2147483647) (s1 : p'.size ≤ 2147483647 ∧ m'.size ≤ 2147483647) (f2 : (goodT 0 (k : Int) a b c p && verOk ⟨0, 0, 0, p', m'⟩) = true) (hk : k ≤ 3) (r : Bool) (hr : ∀ g h, OpIs 103 g h a' b' c' p' m' a b c p ByteArray.empty (opS (opM o)) ByteArray.empty (k == 1) (decide (k < 3)) (k == 2) pre r) (hC : ∀ W, Calls Tryd.prog 28 #[.agg #[.int .i64 o, .int .i64 (k : Int), .int .u64 a, .int .u64 b, .int .u64 c, .string p], .int .i64 0, .agg (scells a' b' c' p' m'), .bool pre] W fun e w' => e = .returned (.bool r) ∧ Below W.heap.size W w') :
    Calls Tryd.prog 7 #[.agg #[.int .i64 o, .int .i64 (k : Int), .int .u64 a, .int .u64 b, .int .u64 c, .string p], .agg (scells a' b' c' p' m'), .bool pre] w fun e w' => e = .returned (.bool true) ∧ Below w.heap.size w w' := by
  have B := hid (show Below w.heap.size w ((w.alloc (.cells #[.int .i64 o, .int .i64 (k : Int), .int .u64 a, .int .u64 b, .int .u64 c, .string p] 36)).alloc (.cells #[.int .u64 a', .int .u64 b', .int .u64 c', .string p', .string m'] 27)) by go_grown)
  have Z := hid (show w.heap.size + 2 ≤ ((w.alloc (.cells #[.int .i64 o, .int .i64 (k : Int), .int .u64 a, .int .u64 b, .int .u64 c, .string p] 36)).alloc (.cells #[.int .u64 a', .int .u64 b', .int .u64 c', .string p', .string m'] 27)).heap.size by simp only [World.size_alloc]; omega)
  obtain ⟨qa, qb⟩ := two_new w (#[.int .i64 o, .int .i64 (k : Int), .int .u64 a, .int .u64 b, .int .u64 c, .string p]) (#[.int .u64 a', .int .u64 b', .int .u64 c', .string p', .string m']) 36 27
  have Qa := hid qa
  have Qb := hid qb
  clear qa qb
  have HV := hid hv
  clear hv
  have HR := hid hr
  clear hr
  have HC := hid hC
  clear hC
  have HK := hid hk
  clear hk
  go_enter Tryd.func7, Tryd.ntmps7
  go_wp2_with fail
  go_at_call 25
  refine (fits13_any _ _ a b c p _ hp).mono ?_
  rintro e w1 ⟨rfl, hb⟩
  replace Qa := hid ((Qa.out).below hb)
  replace Qb := hid ((Qb.out).below hb)
  replace Z := hid (Nat.le_trans (Nat.le_trans Z.out (by first | exact Nat.le_refl _ | omega | (simp only [World.size_alloc, World.size_drew]; omega))) hb.size)
  replace B := hid (bt B.out hb)
  clear hb
  have xa0 : w1.cell? ⟨w.heap.size, 0, none⟩ = some (.int .i64 o) := Qa.out.cell 0
  have xa1 : w1.cell? ⟨w.heap.size, 1, none⟩ = some (.int .i64 (k : Int)) := Qa.out.cell 1
  have xa2 : w1.cell? ⟨w.heap.size, 2, none⟩ = some (.int .u64 a) := Qa.out.cell 2
  have xa3 : w1.cell? ⟨w.heap.size, 3, none⟩ = some (.int .u64 b) := Qa.out.cell 3
  have xa4 : w1.cell? ⟨w.heap.size, 4, none⟩ = some (.int .u64 c) := Qa.out.cell 4
  have xa5 : w1.cell? ⟨w.heap.size, 5, none⟩ = some (.string p) := Qa.out.cell 5
  have xb0 : w1.cell? ⟨w.heap.size + 1, 0, none⟩ = some (.int .u64 a') := Qb.out.cell 0
  have xb1 : w1.cell? ⟨w.heap.size + 1, 1, none⟩ = some (.int .u64 b') := Qb.out.cell 1
  have xb2 : w1.cell? ⟨w.heap.size + 1, 2, none⟩ = some (.int .u64 c') := Qb.out.cell 2
  have xb3 : w1.cell? ⟨w.heap.size + 1, 3, none⟩ = some (.string p') := Qb.out.cell 3
  have xb4 : w1.cell? ⟨w.heap.size + 1, 4, none⟩ = some (.string m') := Qb.out.cell 4
  go_wp2_with fail
  go_at_call 17
  refine (fitB_any a' b' c' p' m' _ hp' hm').mono ?_
  rintro e w2 ⟨rfl, hb⟩
  replace Qa := hid ((Qa.out).below hb)
  replace Qb := hid ((Qb.out).below hb)
  replace Z := hid (Nat.le_trans (Nat.le_trans Z.out (by first | exact Nat.le_refl _ | omega | (simp only [World.size_alloc, World.size_drew]; omega))) hb.size)
  replace B := hid (bt B.out hb)
  clear hb
  have xa0 : w2.cell? ⟨w.heap.size, 0, none⟩ = some (.int .i64 o) := Qa.out.cell 0
  have xa1 : w2.cell? ⟨w.heap.size, 1, none⟩ = some (.int .i64 (k : Int)) := Qa.out.cell 1
  have xa2 : w2.cell? ⟨w.heap.size, 2, none⟩ = some (.int .u64 a) := Qa.out.cell 2
  have xa3 : w2.cell? ⟨w.heap.size, 3, none⟩ = some (.int .u64 b) := Qa.out.cell 3
  have xa4 : w2.cell? ⟨w.heap.size, 4, none⟩ = some (.int .u64 c) := Qa.out.cell 4
  have xa5 : w2.cell? ⟨w.heap.size, 5, none⟩ = some (.string p) := Qa.out.cell 5
  have xb0 : w2.cell? ⟨w.heap.size + 1, 0, none⟩ = some (.int .u64 a') := Qb.out.cell 0
  have xb1 : w2.cell? ⟨w.heap.size + 1, 1, none⟩ = some (.int .u64 b') := Qb.out.cell 1
  have xb2 : w2.cell? ⟨w.heap.size + 1, 2, none⟩ = some (.int .u64 c') := Qb.out.cell 2
  have xb3 : w2.cell? ⟨w.heap.size + 1, 3, none⟩ = some (.string p') := Qb.out.cell 3
  have xb4 : w2.cell? ⟨w.heap.size + 1, 4, none⟩ = some (.string m') := Qb.out.cell 4
  go_wp2_with fail
  have C1 := hid (fun d os => Calls.regrown_of (asked_0 o (k : Int) a b c p a' b' c' p' m' (Go.Sort.grow (redrawn w2 d) os) s0 s1))
  have C2 := hid (fun d os => Calls.regrown_of (equalHoldsM o k HK.out a' b' c' p' m' a b c p pre r (Go.Sort.grow (redrawn w2 d) os) (HV.out.below (bt B.out (below_regrown w2 d os))) HR.out))
  have C3 := hid (fun d os => Calls.regrown_of (HC.out (Go.Sort.grow (redrawn w2 d) os)))
  have kQa0 : ∀ d os, (Go.Sort.grow (redrawn w2 d) os).cell? ⟨w.heap.size, 0, none⟩ = some (.int .i64 o) := fun d os => (blk_gr Qa.out d os).cell 0
  have kQa1 : ∀ d os, (Go.Sort.grow (redrawn w2 d) os).cell? ⟨w.heap.size, 1, none⟩ = some (.int .i64 (k : Int)) := fun d os => (blk_gr Qa.out d os).cell 1
  have kQa2 : ∀ d os, (Go.Sort.grow (redrawn w2 d) os).cell? ⟨w.heap.size, 2, none⟩ = some (.int .u64 a) := fun d os => (blk_gr Qa.out d os).cell 2
  have kQa3 : ∀ d os, (Go.Sort.grow (redrawn w2 d) os).cell? ⟨w.heap.size, 3, none⟩ = some (.int .u64 b) := fun d os => (blk_gr Qa.out d os).cell 3
  have kQa4 : ∀ d os, (Go.Sort.grow (redrawn w2 d) os).cell? ⟨w.heap.size, 4, none⟩ = some (.int .u64 c) := fun d os => (blk_gr Qa.out d os).cell 4
  have kQa5 : ∀ d os, (Go.Sort.grow (redrawn w2 d) os).cell? ⟨w.heap.size, 5, none⟩ = some (.string p) := fun d os => (blk_gr Qa.out d os).cell 5
  have kQb0 : ∀ d os, (Go.Sort.grow (redrawn w2 d) os).cell? ⟨w.heap.size + 1, 0, none⟩ = some (.int .u64 a') := fun d os => (blk_gr Qb.out d os).cell 0
  have kQb1 : ∀ d os, (Go.Sort.grow (redrawn w2 d) os).cell? ⟨w.heap.size + 1, 1, none⟩ = some (.int .u64 b') := fun d os => (blk_gr Qb.out d os).cell 1
  have kQb2 : ∀ d os, (Go.Sort.grow (redrawn w2 d) os).cell? ⟨w.heap.size + 1, 2, none⟩ = some (.int .u64 c') := fun d os => (blk_gr Qb.out d os).cell 2
  have kQb3 : ∀ d os, (Go.Sort.grow (redrawn w2 d) os).cell? ⟨w.heap.size + 1, 3, none⟩ = some (.string p') := fun d os => (blk_gr Qb.out d os).cell 3
  have kQb4 : ∀ d os, (Go.Sort.grow (redrawn w2 d) os).cell? ⟨w.heap.size + 1, 4, none⟩ = some (.string m') := fun d os => (blk_gr Qb.out d os).cell 4
  refine wp_region_quiet_below (by kernel_rfl) (by kernel_rfl) ?_
  repeat (go_big_quiet_step ((first | (go_at_call 26; exact C1.out _ _) | (go_at_call 29; exact C2.out _ _) | (go_at_call 28; exact C3.out _ _) | fail)))
  refine wpQuiet_nil ?_
  intro _ hw'
  obtain ⟨⟨dq, osq⟩, hw''⟩ := hw'
  subst hw''
  go_wp2_with fail
  go_ret
  exact ⟨rfl, bt B.out (below_regrown _ _ _)⟩

end Go.Proofs.YtmlbjcdildaldaaDoor

set_option linter.unusedVariables false
set_option linter.unusedSimpArgs false
namespace Go.Proofs.YtmlbjcdildaldaaDoor
open Go.RowKit

theorem okids_of {p : ByteArray} (h : preOk p = true) : p.toList ≠ [] → ∀ x ∈ cut 46 p.toList, Okid x := by
  intro hne x hx
  simp only [preOk, Bool.or_eq_true, Bool.and_eq_true] at h
  rcases h with h | ⟨h1, h2⟩
  · exact absurd (by simpa using h) hne
  · exact okid_of x (List.all_eq_true.1 h1 x hx) (List.all_eq_true.1 h2 x hx)
theorem verOk_pre {p m : ByteArray} (h : verOk ⟨0, 0, 0, p, m⟩ = true) : preOk p = true := by
  simp only [verOk, goodB, Bool.and_eq_true] at h
  exact h.2.2.1
theorem specV_cmp (n : Int) (p q : ByteArray) (hp : preOk p = true) (hq : preOk q = true) : specV n p.toList q.toList = cmpV n p.toList q.toList := by
  unfold specV cmpV
  rw [specC_pre _ _ (okids_of hp) (okids_of hq)]

theorem caret_law (n a' b' c' a b c : Int) (k : Nat) (hk1 : 1 ≤ k) (hk3 : k ≤ 3) (g3 : k < 3 → c = 0) (g2 : k < 2 → b = 0) (ra' : 0 ≤ a') (rb' : 0 ≤ b') (ra : 0 ≤ a) (rb : 0 ≤ b) :
    opCaret false n a' b' c' a b c (k == 1) (k == 2) = (decide (0 ≤ n) && (firstC (three a' b' c') (three a b c) (caretN k a b c) == 0)) := by
  unfold opCaret
  by_cases hn : n < 0
  · have h0 : ¬ 0 ≤ n := by omega
    simp [hn, h0]
  · have h0 : 0 ≤ n := by omega
    rw [decide_eq_true h0, Bool.true_and, if_neg (by decide), if_neg hn]
    by_cases ha : a = 0
    · by_cases hb : b = 0
      · subst ha hb
        obtain rfl | rfl | rfl : k = 1 ∨ k = 2 ∨ k = 3 := by omega
        · have hc := g3 (by omega)
          subst hc
          rw [show caretN 1 0 0 0 = 1 from rfl, firstC_1]
          simp
        · have hc := g3 (by omega)
          subst hc
          rw [show caretN 2 0 0 0 = 2 from rfl, firstC_2, Bool.eq_iff_iff]
          by_cases h1 : 0 < a' <;> simp [h1] <;> omega
        · have e : caretN 3 0 0 c = 3 := by unfold caretN; simp
          rw [e, firstC_3, Bool.eq_iff_iff]
          by_cases h1 : 0 < a' <;> by_cases h2 : 0 < b' <;> simp [h1, h2] <;> omega
      · subst ha
        have hk : k ≠ 1 := fun e => hb (g2 (by omega))
        have e : caretN k 0 b c = 2 := by unfold caretN; simp [hb]
        have hb' : 0 < b := by omega
        rw [e, firstC_2, Bool.eq_iff_iff]
        by_cases h1 : 0 < a' <;> simp [h1, hb', hk] <;> omega
    · have e : caretN k a b c = 1 := by unfold caretN; simp [ha]
      have ha' : 0 < a := by omega
      rw [e, firstC_1]
      simp [ha']
theorem equal_law (n a' b' c' a b c : Int) (k : Nat) (hk3 : k ≤ 3) (g3 : k < 3 → c = 0) (g2 : k < 2 → b = 0) (g1 : k < 1 → a = 0) :
    opEq false n a' b' a b c (k == 1) (decide (k < 3)) (k == 2) = (if ((k : Int) == 3) = true then n == 0 else (firstC (three a' b' c') (three a b c) k == 0) && decide (0 ≤ n)) := by
  unfold opEq
  obtain rfl | rfl | rfl | rfl : k = 0 ∨ k = 1 ∨ k = 2 ∨ k = 3 := by omega
  · have h1 := g1 (by omega)
    have h2 := g2 (by omega)
    have h3 := g3 (by omega)
    subst h1 h2 h3
    by_cases hn : n < 0
    · have h0 : ¬ 0 ≤ n := by omega
      simp [opTilde, hn, h0]
    · have h0 : 0 ≤ n := by omega
      simp [opTilde, hn, h0, firstC]
  · have h2 := g2 (by omega)
    have h3 := g3 (by omega)
    subst h2 h3
    rw [firstC_1]
    by_cases hn : n < 0
    · have h0 : ¬ 0 ≤ n := by omega
      simp [opTilde, hn, h0]
    · have h0 : 0 ≤ n := by omega
      by_cases h : a' = a <;> simp [opTilde, hn, h0, h]
  · have h3 := g3 (by omega)
    subst h3
    rw [firstC_2]
    by_cases hn : n < 0
    · have h0 : ¬ 0 ≤ n := by omega
      simp [opTilde, hn, h0]
    · have h0 : 0 ≤ n := by omega
      by_cases h : a' = a <;> by_cases h' : b' = b <;> simp [opTilde, hn, h0, h, h']
  · simp

theorem fnSemverCaretHolds_walk (o k : Int) (a b c : Int) (p : ByteArray) (a' b' c' : Int) (p' m' : ByteArray) (pre : Bool) (w : World) (w0 : (Lit.int .i64 o).wf = true) (w1 : (Lit.int .i64 k).wf = true) (wa : (Lit.int .u64 a).wf = true) (wb : (Lit.int .u64 b).wf = true) (wc : (Lit.int .u64 c).wf = true) (hp : p.size ≤ maxLen) (wa' : (Lit.int .u64 a').wf = true) (wb' : (Lit.int .u64 b').wf = true) (wc' : (Lit.int .u64 c').wf = true) (hp' : p'.size ≤ maxLen) (hm' : m'.size ≤ maxLen) (hv : Vars w) :
    Calls Tryd.prog 6 #[.agg #[.int .i64 o, .int .i64 k, .int .u64 a, .int .u64 b, .int .u64 c, .string p], .agg (scells a' b' c' p' m'), .bool pre] w fun e w' => e = .returned (.bool true) ∧ Below w.heap.size w w' := by
  have ra := wf_u64 wa
  have rb := wf_u64 wb
  have ra' := wf_u64 wa'
  have rb' := wf_u64 wb'
  cases f0 : decide (p.size ≤ 2147483647)
  · exact CHold_unfit1 o k a b c p a' b' c' p' m' pre w hp hp' hm' hv f0
  have s0 : p.size ≤ 2147483647 := of_decide_eq_true f0
  cases f1 : fitB p' m'
  · exact CHold_unfit2 o k a b c p a' b' c' p' m' pre w hp hp' hm' hv f0 f1
  have s1 := fitB_size f1
  cases f2 : (goodT 7 k a b c p && verOk ⟨0, 0, 0, p', m'⟩)
  · exact CHold_unasked o k a b c p a' b' c' p' m' pre w hp hp' hm' hv f0 f1 s0 s1 f2
  obtain ⟨fg, fv⟩ := Bool.and_eq_true_iff.1 f2
  obtain ⟨_, ⟨k0, k3⟩, g3, g2, g1, gp, gq⟩ := goodT_parts fg
  obtain ⟨kn, rfl⟩ := Int.eq_ofNat_of_zero_le k0
  have hk : kn ≤ 3 := by omega
  have hcn3 : caretN kn a b c ≤ 3 := by unfold caretN; (repeat' split) <;> omega
  have e : opV 7 a' b' c' p' a b c p kn pre = (!preBar p' pre && (decide (0 ≤ cmpV (num3 a' b' c' a b c) p'.toList p.toList) && (firstC (three a' b' c') (three a b c) (caretN kn a b c) == 0))) := by
    have hk1 : 1 ≤ kn := by
      rcases Nat.eq_zero_or_pos kn with h | h
      · subst h; simp [gt1] at gq
      · exact h
    unfold opV opR
    cases hB : preBar p' pre
    · rw [Bool.not_false, Bool.true_and]
      exact caret_law _ a' b' c' a b c kn hk1 hk (fun h => (g3 (by omega)).1) (fun h => g2 (by omega)) ra'.1 rb'.1 ra.1 rb.1
    · simp [opCaret]
  have hcmp : ∀ W, Calls Tryd.prog 100 #[.agg (scells a' b' c' p' m'), .agg (scells a b c p ByteArray.empty)] W fun e w' => e = .returned (.int .i64 (cmpV (num3 a' b' c' a b c) p'.toList p.toList)) ∧ Below W.heap.size W w' := fun W => by
    have q := specCompare_any a' b' c' p' m' a b c p ByteArray.empty W s1.1 s0
    rw [specV_cmp _ _ _ (verOk_pre fv) gp] at q
    exact q
  have hcn := fun W => numbers_any a' b' c' p' m' a b c p ByteArray.empty kn hk W
  have hcar := fun W => numbers_any a' b' c' p' m' a b c p ByteArray.empty (caretN kn a b c) hcn3 W
  have hC := fun W => want7 o (kn : Int) a b c p a' b' c' p' m' pre _ W (fun W2 => compares_7 kn a b c p a' b' c' p' m' _ _ _ W2 hcmp hcn hcar)
  have hr := fun g h => opIs_any 7 (by omega) kn a' b' c' p' m' a b c p ByteArray.empty (opS (opM o)) ByteArray.empty pre s1.1 s0 (fun e => (g3 (by omega)).2) ra'.1 rb'.1 ra.1 rb.1 g h
  rw [← e] at hC
  exact CHold_main o kn a b c p a' b' c' p' m' pre w hp hp' hm' hv f0 f1 s0 s1 f2 hk _ hr hC

theorem fnSemverEqualHolds_walk (o k : Int) (a b c : Int) (p : ByteArray) (a' b' c' : Int) (p' m' : ByteArray) (pre : Bool) (w : World) (w0 : (Lit.int .i64 o).wf = true) (w1 : (Lit.int .i64 k).wf = true) (wa : (Lit.int .u64 a).wf = true) (wb : (Lit.int .u64 b).wf = true) (wc : (Lit.int .u64 c).wf = true) (hp : p.size ≤ maxLen) (wa' : (Lit.int .u64 a').wf = true) (wb' : (Lit.int .u64 b').wf = true) (wc' : (Lit.int .u64 c').wf = true) (hp' : p'.size ≤ maxLen) (hm' : m'.size ≤ maxLen) (hv : Vars w) :
    Calls Tryd.prog 7 #[.agg #[.int .i64 o, .int .i64 k, .int .u64 a, .int .u64 b, .int .u64 c, .string p], .agg (scells a' b' c' p' m'), .bool pre] w fun e w' => e = .returned (.bool true) ∧ Below w.heap.size w w' := by
  have ra := wf_u64 wa
  have rb := wf_u64 wb
  have ra' := wf_u64 wa'
  have rb' := wf_u64 wb'
  cases f0 : decide (p.size ≤ 2147483647)
  · exact EHold_unfit1 o k a b c p a' b' c' p' m' pre w hp hp' hm' hv f0
  have s0 : p.size ≤ 2147483647 := of_decide_eq_true f0
  cases f1 : fitB p' m'
  · exact EHold_unfit2 o k a b c p a' b' c' p' m' pre w hp hp' hm' hv f0 f1
  have s1 := fitB_size f1
  cases f2 : (goodT 0 k a b c p && verOk ⟨0, 0, 0, p', m'⟩)
  · exact EHold_unasked o k a b c p a' b' c' p' m' pre w hp hp' hm' hv f0 f1 s0 s1 f2
  obtain ⟨fg, fv⟩ := Bool.and_eq_true_iff.1 f2
  obtain ⟨_, ⟨k0, k3⟩, g3, g2, g1, gp, gq⟩ := goodT_parts fg
  obtain ⟨kn, rfl⟩ := Int.eq_ofNat_of_zero_le k0
  have hk : kn ≤ 3 := by omega
  have hcn3 : caretN kn a b c ≤ 3 := by unfold caretN; (repeat' split) <;> omega
  have e : opV 0 a' b' c' p' a b c p kn pre = (!preBar p' pre && (if ((kn : Int) == 3) = true then cmpV (num3 a' b' c' a b c) p'.toList p.toList == 0 else (firstC (three a' b' c') (three a b c) kn == 0) && decide (0 ≤ cmpV (num3 a' b' c' a b c) p'.toList p.toList))) := by
    unfold opV opR
    cases hB : preBar p' pre
    · rw [Bool.not_false, Bool.true_and]
      exact equal_law _ a' b' c' a b c kn hk (fun h => (g3 (by omega)).1) (fun h => g2 (by omega)) (fun h => g1 (by omega))
    · simp [opEq]
  have hcmp : ∀ W, Calls Tryd.prog 100 #[.agg (scells a' b' c' p' m'), .agg (scells a b c p ByteArray.empty)] W fun e w' => e = .returned (.int .i64 (cmpV (num3 a' b' c' a b c) p'.toList p.toList)) ∧ Below W.heap.size W w' := fun W => by
    have q := specCompare_any a' b' c' p' m' a b c p ByteArray.empty W s1.1 s0
    rw [specV_cmp _ _ _ (verOk_pre fv) gp] at q
    exact q
  have hcn := fun W => numbers_any a' b' c' p' m' a b c p ByteArray.empty kn hk W
  have hcar := fun W => numbers_any a' b' c' p' m' a b c p ByteArray.empty (caretN kn a b c) hcn3 W
  have hC := fun W => want0 o (kn : Int) a b c p a' b' c' p' m' pre _ W (fun W2 => compares_0 kn a b c p a' b' c' p' m' _ _ _ W2 hcmp hcn hcar)
  have hr := fun g h => opIs_any 0 (by omega) kn a' b' c' p' m' a b c p ByteArray.empty (opS (opM o)) ByteArray.empty pre s1.1 s0 (fun e => (g3 (by omega)).2) ra'.1 rb'.1 ra.1 rb.1 g h
  rw [← e] at hC
  exact EHold_main o kn a b c p a' b' c' p' m' pre w hp hp' hm' hv f0 f1 s0 s1 f2 hk _ hr hC
end Go.Proofs.YtmlbjcdildaldaaDoor
