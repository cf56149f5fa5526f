/- The reference's CronNumber. Walked. -/
import Derived.Test.YtomkhhpigpilfaaGreatDoorRefM
import Derived.Deep.CutBlock
set_option linter.unusedVariables false
set_option linter.unusedSimpArgs false
namespace Go.Proofs.YtomkhhpigpilfaaGreatDoor
open Go.RowKit

theorem slice_tail (s : ByteArray) (h : 1 ≤ s.size) (w : World) : (Instr.slice 9 (.string s) (some (.int .i64 1)) none none).run Tryz.prog w = .ok (.string (s.extract 1 s.size)) w := by
  have := slice_from s 0 (by omega) w
  simpa using this
theorem tail_list (s : ByteArray) (c : UInt8) (r : List UInt8) (h : s.toList = c :: r) : (s.extract 1 s.size).toList = r := by
  rw [ext_list, h]
  have : s.size = r.length + 1 := by rw [← size_list, h]; rfl
  rw [this]
  simp
theorem val_min (l : List UInt8) (c : UInt8) : min (10 * min (val l) H40 + (c.toNat - 48)) H40 = min (val (l ++ [c])) H40 := by
  unfold val
  rw [valFrom_snoc]
  unfold H40
  omega
/-- What the digits of a text make, saturated. -/
def numT (l : List UInt8) (vd : Nat) : Nat × Nat := if digs l = true then (min (val l) H40, vd) else (0, 0)
theorem numR_body (l : List UInt8) : numR l = numT (numBody l).1 (numBody l).2 := rfl

set_option maxHeartbeats 3200000 in
set_option maxRecDepth 100000 in
theorem number_any (s : ByteArray) (hs : s.size ≤ 65536) (w : World) : Calls Tryz.prog 120 #[.string s] w fun e w' => e = .returned (.tuple #[.int .i64 ((numR s.toList).1 : Nat), .int .i64 ((numR s.toList).2 : Nat)]) ∧ w = w' := by
  have HS := hid hs
  go_enter Tryz.func120, Tryz.ntmps120
  go_upto_region 2 with fail
  go_cut [24] (fun tv wx => ∃ q : Bool, tv = .bool q ∧ wx = w ∧ Hid (numBody s.toList = if q = true then (s.toList.tail, 2) else (s.toList, 1)) ∧ Hid (q = true → 1 ≤ s.size))
  case first =>
    by_cases h0 : s.size = 0
    · have e : s.toList = [] := List.length_eq_zero_iff.1 (by rw [size_list]; exact h0)
      have g : ¬ (0 : Int) < (s.size : Int) := by omega
      have HE := hid e
      clear e h0
      go_wp2_with fail
      go_meet
      exact ⟨false, rfl, rfl, hid (by rw [HE.out]; rfl), hid (fun h => by cases h)⟩
    · have g : (0 : Int) < (s.size : Int) := by omega
      have hp : 0 < s.size := by omega
      obtain ⟨b, hb⟩ : ∃ b, s[0] = b := ⟨_, rfl⟩
      have hl : s.toList = b :: s.toList.tail := by
        have := drop_list s 0 hp
        rw [hb] at this
        rw [List.drop_zero] at this
        rw [this]
        rfl
      have HL := hid hl
      have HP := hid (show 1 ≤ s.size by omega)
      have ht := tail_list s b _ hl
      have hsl := slice_tail s (by omega)
      have hz : (s.extract 1 s.size).size ≤ 65536 := by rw [← size_list, ht]; have := congrArg List.length hl; rw [size_list] at this; simp at this ⊢; omega
      have CZ := hid (fun w => zeros_any (s.extract 1 s.size) w hz)
      rw [ht] at CZ
      clear hl ht hz h0 hs
      by_cases h43 : b = 43
      · have e : ((b.toNat : Int) == 43) = true := byte_eq b 43 (by rw [h43]; rfl)
        have HB := hid h43
        clear h43
        go_wp2_with fail
        go_meet
        exact ⟨true, rfl, rfl, hid (by rw [HL.out, body_cons, if_pos HB.out]; rfl), hid (fun _ => HP.out)⟩
      · have e : ((b.toNat : Int) == 43) = false := byte_ne b 43 (fun h => h43 (UInt8.toNat_inj.1 h))
        have HB := hid h43
        clear h43
        by_cases h45 : b = 45
        · have e5 : ((b.toNat : Int) == 45) = true := byte_eq b 45 (by rw [h45]; rfl)
          have HC := hid h45
          clear h45
          obtain ⟨z, hzz⟩ : ∃ z, s.toList.tail.all (· == 48) = z := ⟨_, rfl⟩
          rw [hzz] at CZ
          have HZ := hid hzz
          clear hzz
          cases z with
          | true =>
            go_wp2_with (go_at_call 125; refine (CZ.out _).mono ?_; rintro e w' ⟨rfl, rfl⟩)
            go_meet
            exact ⟨true, rfl, rfl, hid (by rw [HL.out, body_cons, if_neg HB.out, if_pos ⟨HC.out, HZ.out⟩]; rfl), hid (fun _ => HP.out)⟩
          | false =>
            go_wp2_with (go_at_call 125; refine (CZ.out _).mono ?_; rintro e w' ⟨rfl, rfl⟩)
            go_meet
            exact ⟨false, rfl, rfl, hid (by
              rw [HL.out, body_cons, if_neg HB.out, if_neg (fun h => by rw [HZ.out] at h; exact absurd h.2 (by decide))]; rfl), hid (fun h => by cases h)⟩
        · have e5 : ((b.toNat : Int) == 45) = false := byte_ne b 45 (fun h => h45 (UInt8.toNat_inj.1 h))
          have HC := hid h45
          clear h45
          go_wp2_with fail
          go_meet
          exact ⟨false, rfl, rfl, hid (by rw [HL.out, body_cons, if_neg HB.out, if_neg (fun h => HC.out h.1)]; rfl), hid (fun h => by cases h)⟩
  case rest =>
    obtain ⟨q, rfl, hwc, HB, HP⟩ := hcut
    replace hwc := hwc.symm
    subst hwc
    go_upto_if 24 with fail
    go_cut [0, 4] (fun tv vv wx => ∃ (t : ByteArray) (vd : Nat), tv = .string t ∧ vv = .int .i64 (vd : Nat) ∧ wx = w ∧ Hid (numR s.toList = numT t.toList vd) ∧ Hid (t.size ≤ 65536))
    case first =>
      cases q with
      | true =>
        have hp := HP.out rfl
        have hsl := slice_tail s hp
        obtain ⟨b, r, hl⟩ : ∃ b r, s.toList = b :: r := by
          cases h : s.toList with
          | nil => have h2 := size_list s; rw [h] at h2; have h3 : 0 = s.size := h2; omega
          | cons b r => exact ⟨b, r, rfl⟩
        have ht := tail_list s b _ hl
        have HT := hid (show numR s.toList = numT (s.extract 1 s.size).toList 2 by rw [numR_body, HB.out, if_pos rfl, ht, hl]; rfl)
        have HZ := hid (show (s.extract 1 s.size).size ≤ 65536 by rw [← size_list, ht]; have := congrArg List.length hl; rw [size_list] at this; simp at this; have := HS.out; omega)
        clear hl ht hs
        go_wp2_with fail
        go_meet
        exact ⟨_, 2, rfl, rfl, rfl, HT, HZ⟩
      | false =>
        go_wp2_with fail
        go_meet
        exact ⟨s, 1, rfl, rfl, rfl, hid (by rw [numR_body, HB.out]; rfl), HS⟩
    case rest =>
      obtain ⟨t, vd, rfl, rfl, hwc, HR, HT⟩ := hcut
      replace hwc := hwc.symm
      subst hwc
      by_cases h0 : t.size = 0
      · have e : t.toList = [] := List.length_eq_zero_iff.1 (by rw [size_list]; exact h0)
        have hq : (t.toList == []) = true := by rw [e]; rfl
        have HE := hid (show numR s.toList = (0, 0) by rw [HR.out, e]; rfl)
        clear e h0 hs
        go_wp2_with fail
        go_returns
        exact ⟨by rw [HE.out]; rfl, rfl⟩
      · have hq : (t.toList == []) = false := by
          rw [beq_eq_false_iff_ne]
          intro e
          have := size_list t
          rw [e] at this
          exact h0 this.symm
        have H0 := hid h0
        clear h0 hs
        go_wp2_with fail
        go_loop [5, 31] (fun nv i => ∃ k : Nat, k ≤ t.size ∧ i = .int .i64 k ∧ nv = .int .i64 ((min (val (t.toList.take k)) H40 : Nat)) ∧ Hid ((t.toList.take k).all isDig = true)) (fun _ i => t.size - (intOf i).toNat)
        case atStart => exact ⟨0, Nat.zero_le _, rfl, rfl, hid rfl⟩
        case round =>
          obtain ⟨k, hk, rfl, rfl, HN⟩ := hrel
          by_cases hlt : k < t.size
          · obtain ⟨b, hb⟩ : ∃ b, t[k] = b := ⟨_, rfl⟩
            have HB := hid hb
            have CD := hid (fun w => isDigit_any b w)
            obtain ⟨d, hd⟩ : ∃ d, isDig b = d := ⟨_, rfl⟩
            rw [hd] at CD
            have HD := hid hd
            cases d with
            | false =>
              clear hd
              go_wp2_with (go_at_call 109; refine (CD.out _).mono ?_; rintro e w' ⟨rfl, rfl⟩)
              go_returns
              exact ⟨by
                have h1 : digs t.toList = false := by unfold digs; rw [all_stop t isDig k hlt b HB.out HD.out, Bool.and_false]
                rw [HR.out]
                unfold numT
                rw [h1]
                rfl, rfl⟩
            | true =>
              have hd2 := of_decide_eq_true hd
              obtain ⟨n, hn⟩ : ∃ n, min (val (t.toList.take k)) H40 = n := ⟨_, rfl⟩
              have hn2 : n ≤ 1099511627776 := by rw [← hn]; exact Nat.min_le_right _ _
              have hm := val_min (t.toList.take k) b
              rw [hn, ← hb, ← take_list t k hlt, hb] at hm
              rw [hn]
              obtain ⟨c, hc⟩ : ∃ c, b.toNat = c := ⟨_, rfl⟩
              rw [hc] at hd2 hm CD
              have HM := hid hm
              have g1 : IntKind.u8.wrap ((c : Int) - 48) = (c : Int) - 48 := by simp [IntKind.wrap, IntKind.bits, IntKind.signed]; omega
              have g2 : IntKind.i64.wrap (10 * (n : Int)) = 10 * (n : Int) := IntWalk.i64_in _ (by omega)
              have g3 : IntKind.i64.wrap (10 * (n : Int) + ((c : Int) - 48)) = 10 * (n : Int) + ((c : Int) - 48) := IntWalk.i64_in _ (by omega)
              have gk : wrap64 ((k : Int) + 1) = (k : Int) + 1 := by unfold wrap64; have := HT.out; omega
              have HD2 := hid hd2
              clear hd hm hn
              go_wp2_with (go_at_call 109; refine (CD.out _).mono ?_; rintro e w' ⟨rfl, rfl⟩)
              refine ⟨⟨k + 1, by omega, by rw [gk]; go_num, congrArg (Value.int .i64) ?_, hid (all_take t isDig k hlt b HB.out HN.out HD.out)⟩, by rw [gk]; simp [intOf]; omega⟩
              have h1 := HD2.out
              rw [← HM.out]
              unfold H40
              split <;> omega
          · have HE := hid (show k = t.size by omega)
            go_wp2_with fail
            go_returns
            refine ⟨?_, rfl⟩
            have h1 : digs t.toList = true := by
              unfold digs
              rw [all_end t isDig k HE.out HN.out, Bool.and_true]
              cases h : t.toList with
              | nil => exact absurd (by have := size_list t; rw [h] at this; exact this.symm) H0.out
              | cons x r => rfl
            rw [HR.out]
            unfold numT
            rw [if_pos h1, HE.out, take_all]
            rfl
end Go.Proofs.YtomkhhpigpilfaaGreatDoor
