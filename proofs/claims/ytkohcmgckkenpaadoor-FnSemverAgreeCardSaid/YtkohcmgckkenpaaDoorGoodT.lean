/- spec.GoodTerm, zzFits13, walked. -/
import Derived.Test.YtkohcmgckkenpaaDoorTermH
import Derived.Test.YtkohcmgckkenpaaDoorGood
import Derived.Deep.DeepCutAuto
set_option linter.unusedVariables false
set_option linter.unusedSimpArgs false
namespace Go.Proofs.YtkohcmgckkenpaaDoor
open Go.RowKit

theorem fits13_any (o k : Int) (a b c : Int) (p : ByteArray) (w : World) (hp : p.size ≤ maxLen) : Calls Tryd.prog 26 #[.agg #[.int .i64 o, .int .i64 k, .int .u64 a, .int .u64 b, .int .u64 c, .string p]] w fun e w' =>
    e = .returned (.bool (decide (p.size ≤ 2147483647))) ∧ Below w.heap.size w w' := by
  unfold maxLen at hp
  go_enter Tryd.func26, Tryd.ntmps26
  by_cases h1 : p.size ≤ 2147483647
  · go_wp2_with fail
    go_ret
    exact ⟨ret_b (by simp [h1]), by go_grown⟩
  · go_wp2_with fail
    go_ret
    exact ⟨ret_b (by simp [h1]), by go_grown⟩

def zer (a b c : Int) : Bool := a == 0 && b == 0 && c == 0
def gt1 (o k a b c : Int) : Bool := (k == 0 && !(o == 0) && !(o == 4) && !(o == 6)) || (k == 3 && o == 6 && zer a b c)
def gt2 (o k : Int) : Bool := decide (o < 0) || decide (8 ≤ o) || decide (k < 0) || decide (3 < k)
def gt3 (k a b c : Int) (pe : Bool) : Bool := (decide (k < 3) && (!(c == 0) || !pe)) || (decide (k < 2) && !(b == 0)) || (decide (k < 1) && !(a == 0))
def goodT (o k a b c : Int) (p : ByteArray) : Bool := if gt1 o k a b c = true then false else if gt2 o k = true then false else if gt3 k a b c p.toList.isEmpty = true then false else preOk p

theorem ne_of {x y : Int} {r : Bool} (h : (x == y) = r) : (x != y) = !r := by simp [bne, h]

set_option maxHeartbeats 1600000 in
set_option maxRecDepth 100000 in
theorem goodTerm_any (o k a b c : Int) (p : ByteArray) (w : World) (hp : p.size ≤ 2147483647) :
    Calls Tryd.prog 27 #[.agg #[.int .i64 o, .int .i64 k, .int .u64 a, .int .u64 b, .int .u64 c, .string p]] w fun e w' => e = .returned (.bool (goodT o k a b c p)) ∧ Below w.heap.size w w' := by
  have Q := Blk.new w 30 #[.int .i64 o, .int .i64 k, .int .u64 a, .int .u64 b, .int .u64 c, .string p]
  have hbw : Below w.heap.size w (w.alloc (.cells #[.int .i64 o, .int .i64 k, .int .u64 a, .int .u64 b, .int .u64 c, .string p] 30)) := by go_grown
  have HQ := hid Q
  have HW := hid hbw
  clear Q hbw
  go_enter Tryd.func27, Tryd.ntmps27
  go_upto_region 1 with fail
  go_cut [3] (fun s wx => s = .bool (zer a b c) ∧ wx = w.alloc (.cells #[.int .i64 o, .int .i64 k, .int .u64 a, .int .u64 b, .int .u64 c, .string p] 30))
  case first =>
    cases h1 : (a == 0)
    · go_wp2_with fail
      go_meet
      exact ⟨by simp [zer, h1], rfl⟩
    · cases h2 : (b == 0)
      · go_wp2_with fail
        go_meet
        exact ⟨by simp [zer, h1, h2], rfl⟩
      · cases h3 : (c == 0)
        · go_wp2_with fail
          go_meet
          exact ⟨by simp [zer, h1, h2, h3], rfl⟩
        · go_wp2_with fail
          go_meet
          exact ⟨by simp [zer, h1, h2, h3], rfl⟩
  case rest =>
    obtain ⟨rfl, rfl⟩ := hcut
    go_upto_region 2 with fail
    go_cut [17] (fun s wx => s = .bool (gt1 o k a b c) ∧ wx = w.alloc (.cells #[.int .i64 o, .int .i64 k, .int .u64 a, .int .u64 b, .int .u64 c, .string p] 30))
    case first =>
      cases hk0 : (k == 0)
      · have hk0_n := ne_of hk0
        cases hk3 : (k == 3)
        · have hk3_n := ne_of hk3
          go_wp2_with fail
          go_meet
          exact ⟨by simp [gt1, hk0, hk3] <;> omega, rfl⟩
        · have hk3_n := ne_of hk3
          cases ho6 : (o == 6)
          · have ho6_n := ne_of ho6
            go_wp2_with fail
            go_meet
            exact ⟨by simp [gt1, hk0, hk3, ho6] <;> omega, rfl⟩
          · have ho6_n := ne_of ho6
            go_wp2_with fail
            go_meet
            exact ⟨by simp [gt1, hk0, hk3, ho6] <;> omega, rfl⟩
      · have hk0_n := ne_of hk0
        cases ho0 : (o == 0)
        · have ho0_n := ne_of ho0
          cases ho4 : (o == 4)
          · have ho4_n := ne_of ho4
            cases ho6 : (o == 6)
            · have ho6_n := ne_of ho6
              go_wp2_with fail
              go_meet
              exact ⟨by simp [gt1, hk0, ho0, ho4, ho6] <;> omega, rfl⟩
            · have ho6_n := ne_of ho6
              have hk3 : (k == 3) = false := beq_eq_false_iff_ne.2 (by have := beq_iff_eq.1 hk0; omega)
              go_wp2_with fail
              go_meet
              exact ⟨by simp [gt1, hk0, ho0, ho4, ho6, hk3] <;> omega, rfl⟩
          · have ho4_n := ne_of ho4
            have hk3 : (k == 3) = false := beq_eq_false_iff_ne.2 (by have := beq_iff_eq.1 hk0; omega)
            go_wp2_with fail
            go_meet
            exact ⟨by simp [gt1, hk0, ho0, ho4, hk3] <;> omega, rfl⟩
        · have ho0_n := ne_of ho0
          have hk3 : (k == 3) = false := beq_eq_false_iff_ne.2 (by have := beq_iff_eq.1 hk0; omega)
          go_wp2_with fail
          go_meet
          exact ⟨by simp [gt1, hk0, ho0, hk3] <;> omega, rfl⟩
    case rest =>
      obtain ⟨rfl, rfl⟩ := hcut
      cases g1 : gt1 o k a b c
      · skip
        go_upto_region 4 with fail
        go_cut [49] (fun s wx => s = .bool (gt2 o k) ∧ wx = w.alloc (.cells #[.int .i64 o, .int .i64 k, .int .u64 a, .int .u64 b, .int .u64 c, .string p] 30))
        case first =>
          rcases Int.lt_or_le o 0 with h1 | h1
          · go_wp2_with fail
            go_meet
            exact ⟨by simp [gt2, h1] <;> omega, rfl⟩
          · rcases Int.lt_or_le o 8 with h2 | h2
            · rcases Int.lt_or_le k 0 with h3 | h3
              · go_wp2_with fail
                go_meet
                exact ⟨by simp [gt2, Int.not_lt.2 h1, h2, h3] <;> omega, rfl⟩
              · rcases Int.lt_or_le 3 k with h4 | h4
                · go_wp2_with fail
                  go_meet
                  exact ⟨by simp [gt2, Int.not_lt.2 h1, h2, Int.not_lt.2 h3, h4] <;> omega, rfl⟩
                · go_wp2_with fail
                  go_meet
                  exact ⟨by simp [gt2, Int.not_lt.2 h1, h2, Int.not_lt.2 h3, Int.not_lt.2 h4] <;> omega, rfl⟩
            · go_wp2_with fail
              go_meet
              exact ⟨by simp [gt2, Int.not_lt.2 h1, Int.not_lt.2 h2] <;> omega, rfl⟩
        case rest =>
          obtain ⟨rfl, rfl⟩ := hcut
          cases g2 : gt2 o k
          · skip
            go_upto_region 6 with fail
            go_cut [68] (fun s wx => s = .bool (gt3 k a b c p.toList.isEmpty) ∧ wx = w.alloc (.cells #[.int .i64 o, .int .i64 k, .int .u64 a, .int .u64 b, .int .u64 c, .string p] 30))
            case first =>
              rcases Int.lt_or_le k 3 with h1 | h1
              · cases hc : (c == 0)
                · have hc_n := ne_of hc
                  go_wp2_with fail
                  go_meet
                  exact ⟨by simp [gt3, h1, hc] <;> omega, rfl⟩
                · have hc_n := ne_of hc
                  cases hpe : p.toList.isEmpty
                  · go_wp2_with fail
                    go_meet
                    exact ⟨by simp [gt3, h1, hc, hpe] <;> omega, rfl⟩
                  · rcases Int.lt_or_le k 2 with h2 | h2
                    · cases hb : (b == 0)
                      · have hb_n := ne_of hb
                        go_wp2_with fail
                        go_meet
                        exact ⟨by simp [gt3, h1, hc, hpe, h2, hb] <;> omega, rfl⟩
                      · have hb_n := ne_of hb
                        rcases Int.lt_or_le k 1 with h3 | h3
                        · cases ha : (a == 0)
                          · have ha_n := ne_of ha
                            go_wp2_with fail
                            go_meet
                            exact ⟨by simp [gt3, h1, hc, hpe, h2, hb, h3, ha] <;> omega, rfl⟩
                          · have ha_n := ne_of ha
                            go_wp2_with fail
                            go_meet
                            exact ⟨by simp [gt3, h1, hc, hpe, h2, hb, h3, ha] <;> omega, rfl⟩
                        · go_wp2_with fail
                          go_meet
                          exact ⟨by simp [gt3, h1, hc, hpe, h2, hb, Int.not_lt.2 h3] <;> omega, rfl⟩
                    · go_wp2_with fail
                      go_meet
                      exact ⟨by simp [gt3, h1, hc, hpe, Int.not_lt.2 h2] <;> omega, rfl⟩
              · go_wp2_with fail
                go_meet
                exact ⟨by simp [gt3, Int.not_lt.2 h1] <;> omega, rfl⟩
            case rest =>
              obtain ⟨rfl, rfl⟩ := hcut
              cases g3 : gt3 k a b c p.toList.isEmpty
              · cases hpe : p.toList.isEmpty
                · cases hv : (cut 46 p.toList).all preId
                  · go_wp2_with (first | (go_at_call 28; refine (validPre_any p _ hp).mono ?_; rintro e w2 ⟨rfl, hb2⟩))
                    go_ret
                    exact ⟨ret_b (by rw [hpe] at g3; simp [goodT, preOk, g1, g2, g3, hpe, hv]), bt0 HW.out hb2⟩
                  · go_wp2_with fail
                    go_at_call 28
                    refine (validPre_any p _ hp).mono ?_
                    rintro e w2 ⟨rfl, hb2⟩
                    have x5 : w2.cell? ⟨w.heap.size, 5, none⟩ = some (.string p) := (HQ.out.below hb2).cell 5
                    go_wp2_with (first | (go_at_call 29; refine (smallPre_any p _ hp).mono ?_; rintro e w3 ⟨rfl, hb3⟩))
                    go_ret
                    exact ⟨ret_b (by rw [hpe] at g3; simp only [goodT, preOk, g1, g2, g3, hpe, hv, Bool.false_eq_true, if_false, Bool.false_or, Bool.true_and]), bt0 (bt0 HW.out hb2) hb3⟩
                · go_wp2_with fail
                  go_ret
                  exact ⟨ret_b (by rw [hpe] at g3; simp [goodT, preOk, g1, g2, g3, hpe]), HW.out⟩
              · go_wp2_with fail
                go_ret
                exact ⟨ret_b (by simp [goodT, g1, g2, g3]), HW.out⟩
          · go_wp2_with fail
            go_ret
            exact ⟨ret_b (by simp [goodT, g1, g2]), HW.out⟩
      · go_wp2_with fail
        go_ret
        exact ⟨ret_b (by simp [goodT, g1]), HW.out⟩
end Go.Proofs.YtkohcmgckkenpaaDoor
