/- The reference's cronTime: the least second of a day whose hour, minute and second are in the sets. Walked. -/
import Derived.Test.YtfmagbkcfeckhaaFields
import Derived.Test.YtfmagbkcfeckhaaTimeK
import Derived.LoopTactic
set_option linter.unusedVariables false
set_option linter.unusedSimpArgs false
namespace Go.Proofs.Ytfmagbkcfeckhaa
open Go.RowKit

/-- Second u of a day is in the sets of hours, minutes and seconds. -/
def inT (F : Nat → Bool) (u : Int) : Prop := F (129 + (u / 3600).toNat) = true ∧ F (65 + (u % 3600 / 60).toNat) = true ∧ F (1 + (u % 60).toNat) = true
def noT (F : Nat → Bool) (a b : Int) : Prop := ∀ u, a ≤ u → u < b → ¬ inT F u
def TimeSays (F : Nat → Bool) (a t : Int) : Prop := (a ≤ t ∧ t < 86400 ∧ inT F t ∧ noT F a t) ∨ (t = -1 ∧ noT F a 86400)
theorem noT_hour {F : Nat → Bool} {a : Int} {h : Nat} (a0 : 0 ≤ a) (hn : noT F a (3600 * h)) (hf : F (129 + h) = false) : noT F a (3600 * (h + 1 : Nat)) := fun u h1 h2 h3 => by
  by_cases g : u < 3600 * h
  · exact hn u h1 g h3
  · have e : (u / 3600).toNat = h := by omega
    have := h3.1
    rw [e, hf] at this
    cases this
theorem noT_min {F : Nat → Bool} {a : Int} {h m : Nat} (a0 : 0 ≤ a) (hm : m < 60) (hn : noT F a (3600 * h + 60 * m)) (hf : F (65 + m) = false ∨ (3600 * h + 60 * m + 59 : Int) < a) : noT F a (3600 * h + 60 * (m + 1 : Nat)) := fun u h1 h2 h3 => by
  by_cases g : u < 3600 * h + 60 * m
  · exact hn u h1 g h3
  · rcases hf with hf | hf
    · have e : (u % 3600 / 60).toNat = m := by omega
      have := h3.2.1
      rw [e, hf] at this
      cases this
    · omega
theorem noT_sec {F : Nat → Bool} {a : Int} {h m s : Nat} (a0 : 0 ≤ a) (hm : m < 60) (hs : s < 60) (hn : noT F a (3600 * h + 60 * m + s)) (hf : F (1 + s) = false) : noT F a (3600 * h + 60 * m + (s + 1 : Nat)) := fun u h1 h2 h3 => by
  by_cases g : u < 3600 * h + 60 * m + s
  · exact hn u h1 g h3
  · have e : (u % 60).toNat = s := by omega
    have := h3.2.2
    rw [e, hf] at this
    cases this
theorem inT_of {F : Nat → Bool} {h m s : Nat} (hm : m < 60) (hs : s < 60) (f1 : F (129 + h) = true) (f2 : F (65 + m) = true) (f3 : F (1 + s) = true) : inT F (3600 * h + 60 * m + s) := by
  refine ⟨?_, ?_, ?_⟩
  · rw [show ((3600 * h + 60 * m + s : Int) / 3600).toNat = h by omega, f1]
  · rw [show ((3600 * h + 60 * m + s : Int) % 3600 / 60).toNat = m by omega, f2]
  · rw [show ((3600 * h + 60 * m + s : Int) % 60).toNat = s by omega, f3]

theorem hh_next {F : Nat → Bool} {a t : Int} {hr m : Nat} (ht : (3600 * hr + 60 * m : Int) = t) (hh : noT F a (t + 60)) : noT F a (3600 * hr + 60 * (m + 1 : Nat)) := by
  have e : (3600 * hr + 60 * (m + 1 : Nat) : Int) = t + 60 := by omega
  rw [e]
  exact hh
theorem sec_next {F : Nat → Bool} {a t : Int} {hr m s : Nat} (a0 : 0 ≤ a) (hd : m < 60) (ht : (3600 * hr + 60 * m : Int) = t) (hs : s < 60) (hn : noT F a (t + s)) (hf : F (1 + s) = false) : noT F a (t + (s + 1 : Nat)) := by
  subst ht
  exact noT_sec a0 hd hs hn hf
theorem sec_in {F : Nat → Bool} {t : Int} {hr m s : Nat} (hd : m < 60) (ht : (3600 * hr + 60 * m : Int) = t) (f1 : F (129 + hr) = true) (f2 : F (65 + m) = true) (hs : s < 60) (hf : F (1 + s) = true) : inT F (t + s) := by
  subst ht
  exact inT_of hd hs f1 f2 hf
theorem sec_zero {F : Nat → Bool} {a t : Int} (h : t < a) : noT F a (t + ((a - t).toNat : Nat)) := fun u u1 u2 => by omega
theorem sec_one {F : Nat → Bool} {a t : Int} {hr m : Nat} (ht : (3600 * hr + 60 * m : Int) = t) (hn : noT F a (3600 * hr + 60 * m)) : noT F a (t + (0 : Nat)) := by
  rw [← ht, Int.natCast_zero, Int.add_zero]
  exact hn
theorem sec_le {a t : Int} (h1 : t < a) (h2 : ¬ t + 59 < a) : (a - t).toNat ≤ 60 ∧ a ≤ t + ((a - t).toNat : Nat) ∧ (((a - t).toNat : Nat) : Int) = a - t := by omega

set_option maxHeartbeats 3200000 in
set_option maxRecDepth 100000 in
theorem cronTime_any (F : Nat → Bool) (a : Int) (w : World) (a0 : 0 ≤ a) (a1 : a < 86400) : Calls Try.prog 49 #[.agg (bcells 384 F), .int .i64 a] w fun e w' => (∃ t, e = .returned (.int .i64 t) ∧ TimeSays F a t) ∧ Below w.heap.size w w' := by
  have B := hid (show Below w.heap.size w (w.alloc (.cells (bcells 384 F) 47)) by go_grown)
  have K := hid (Blk.new w 47 (bcells 384 F))
  obtain ⟨q, hq⟩ : ∃ q : Nat, a / 3600 = (q : Int) := ⟨(a / 3600).toNat, by omega⟩
  have q1 : q < 24 := by omega
  have e0 : a.tdiv 3600 = (q : Int) := by rw [Int.tdiv_eq_ediv_of_nonneg a0, hq]
  have HST := hid (show noT F a (3600 * q) from fun u h1 h2 => by omega)
  have e1 : IntKind.i64.wrap (q : Int) = q := IntWalk.i64_in _ (by omega)
  have e2 : wrap64 (q : Int) = q := by unfold wrap64; omega
  clear hq
  go_enter Try.func49, Try.ntmps49
  go_upto_region 1 with fail
  generalize (w.alloc (.cells (bcells 384 F) 47)) = w1 at B K ⊢
  go_wp2_with fail
  go_loop [5] (fun v => ∃ hr : Nat, v = .int .i64 hr ∧ hr ≤ 24 ∧ noT F a (3600 * hr)) (fun v => 24 - (intOf v).toNat)
  case atStart => exact ⟨q, rfl, by omega, HST.out⟩
  case round =>
    obtain ⟨hr, rfl, h1, hn⟩ := hrel
    have HN := hid hn
    clear hn
    by_cases hc : hr < 24
    · have c1 : (hr : Int) < 24 := by omega
      have c2 : (0 : Int) ≤ hr := by omega
      have c3 : (hr : Int) < 63 := by omega
      have f1 := K.out.cell (129 + hr)
      rw [bcells_get (by omega)] at f1
      obtain ⟨x, hx⟩ : ∃ x, F (129 + hr) = x := ⟨_, rfl⟩
      rw [hx] at f1
      have HX := hid hx
      clear hx
      have e3 : IntKind.i64.wrap ((hr : Int) + 1) = hr + 1 := IntWalk.i64_in _ (by omega)
      rcases x with _ | _
      · go_wp2_with fail
        go_round
        case rel => exact ⟨hr + 1, by go_num, by omega, noT_hour a0 HN.out HX.out⟩
        case measure => simp [intOf]; omega
      · go_wp2_with fail
        go_loop [21] (fun v => ∃ m : Nat, v = .int .i64 m ∧ m ≤ 60 ∧ noT F a (3600 * hr + 60 * m)) (fun v => 60 - (intOf v).toNat)
        case atStart => exact ⟨0, rfl, by omega, by simpa using HN.out⟩
        case round =>
          obtain ⟨m, rfl, m1, hn⟩ := hrel
          have HM := hid hn
          clear hn
          by_cases hd : m < 60
          · have d1 : (m : Int) < 60 := by omega
            have d2 : (0 : Int) ≤ m := by omega
            have d3 : (m : Int) < 63 := by omega
            have f2 := K.out.cell (65 + m)
            rw [bcells_get (by omega)] at f2
            obtain ⟨y, hy⟩ : ∃ y, F (65 + m) = y := ⟨_, rfl⟩
            rw [hy] at f2
            have HY := hid hy
            clear hy
            obtain ⟨t, ht⟩ : ∃ t, (3600 * hr + 60 * m : Int) = t := ⟨_, rfl⟩
            have t0 : 0 ≤ t := by omega
            have t1 : t ≤ 86400 := by omega
            have t2 : t ≤ 86340 := by omega
            have HH := hid (hh_next (F := F) (a := a) ht)
            have HSEC := hid (fun s hs hn hf => sec_next (F := F) (a := a) (s := s) a0 hd ht hs hn hf)
            have HIN := hid (fun hy s hs hf => sec_in (F := F) (s := s) hd ht HX.out hy hs hf)
            have HS0 := hid (fun h => sec_zero (F := F) (a := a) (t := t) h)
            have HS1 := hid (sec_one ht HM.out)
            have HLE := hid (fun h1 h2 => sec_le (a := a) (t := t) h1 h2)
            have g1 : IntKind.i64.wrap (3600 * (hr : Int)) = 3600 * hr := IntWalk.i64_in _ (by omega)
            have g2 : IntKind.i64.wrap (60 * (m : Int)) = 60 * m := IntWalk.i64_in _ (by omega)
            have g3 : IntKind.i64.wrap (3600 * (hr : Int) + 60 * m) = t := by rw [ht]; exact IntWalk.i64_in _ (by omega)
            have g1' : wrap64 (3600 * (hr : Int)) = 3600 * hr := by unfold wrap64; omega
            have g2' : wrap64 (60 * (m : Int)) = 60 * m := by unfold wrap64; omega
            have g3' : wrap64 (3600 * (hr : Int) + 60 * m) = t := by rw [ht]; unfold wrap64; omega
            have g4 : IntKind.i64.wrap (t + 59) = t + 59 := IntWalk.i64_in _ (by omega)
            have g5 : IntKind.i64.wrap (a - t) = a - t := IntWalk.i64_in _ (by omega)
            have HT := hid ht
            clear ht
            rcases y with _ | _
            · go_wp2_with fail
              go_round
              case rel => exact ⟨m + 1, by go_num, by omega, noT_min a0 hd HM.out (.inl HY.out)⟩
              case measure => simp [intOf]; omega
            · by_cases hl : t + 59 < a
              · go_wp2_with fail
                go_round
                case rel => exact ⟨m + 1, by go_num, by omega, noT_min a0 hd HM.out (.inr (by rw [HT.out]; exact hl))⟩
                case measure => simp [intOf]; omega
              · go_wp2_with fail
                all_goals
                  have hs := h
                  clear h
                  clear g1 g2 g3 g1' g2' g3' g4 g5
                  go_loop [8] (fun v => ∃ s : Nat, v = .int .i64 s ∧ s ≤ 60 ∧ a ≤ t + s ∧ noT F a (t + s)) (fun v => 60 - (intOf v).toNat)
                  case atStart =>
                    first
                      | exact ⟨0, rfl, Nat.zero_le _, by rw [Int.natCast_zero, Int.add_zero]; exact hs, HS1.out⟩
                      | exact ⟨(a - t).toNat, by rw [(HLE.out hs hl).2.2], (HLE.out hs hl).1, (HLE.out hs hl).2.1, HS0.out hs⟩
                  case round =>
                    obtain ⟨s, rfl, s1, s2, hn⟩ := hrel
                    have HSN := hid hn
                    clear hn
                    by_cases he : s < 60
                    · have r1 : (s : Int) < 60 := by omega
                      have r2 : (0 : Int) ≤ s := by omega
                      have r3 : (s : Int) < 63 := by omega
                      have f3 := K.out.cell (1 + s)
                      rw [bcells_get (by omega)] at f3
                      obtain ⟨z, hz⟩ : ∃ z, F (1 + s) = z := ⟨_, rfl⟩
                      rw [hz] at f3
                      have HZ := hid hz
                      clear hz
                      have g6 : IntKind.i64.wrap (t + s) = t + s := IntWalk.i64_in _ (by omega)
                      have g7 : IntKind.i64.wrap ((s : Int) + 1) = s + 1 := IntWalk.i64_in _ (by omega)
                      have r9 : s + 1 ≤ 60 ∧ a ≤ t + ((s + 1 : Nat) : Int) ∧ t + s < 86400 := by clear g6 g7 e3 e0 e1 e2; omega
                      rcases z with _ | _
                      · go_wp2_with fail
                        go_round
                        case rel => exact ⟨s + 1, by go_num, r9.1, r9.2.1, HSEC.out s he HSN.out HZ.out⟩
                        case measure => clear g6 g7 e3 e0 e1 e2; simp [intOf]; omega
                      · go_wp2_with fail
                        go_ret
                        exact ⟨⟨_, rfl, .inl ⟨s2, r9.2.2, HIN.out HY.out s he HZ.out, HSN.out⟩⟩, B.out⟩
                    · obtain rfl : s = 60 := by omega
                      have r1 : ¬ (((60 : Nat) : Int) < 60) := by omega
                      go_wp2_with fail
                      go_round
                      case rel => exact ⟨m + 1, by go_num, by omega, HH.out HSN.out⟩
                      case measure => simp [intOf]; omega
          · obtain rfl : m = 60 := by omega
            have d1 : ¬ (((60 : Nat) : Int) < 60) := by omega
            go_wp2_with fail
            go_round
            case rel => exact ⟨hr + 1, by go_num, by omega, by have := HM.out; rwa [show (3600 * hr + 60 * (60 : Nat) : Int) = 3600 * (hr + 1 : Nat) by omega] at this⟩
            case measure => simp [intOf]; omega
    · obtain rfl : hr = 24 := by omega
      have c1 : ¬ (((24 : Nat) : Int) < 24) := by omega
      go_wp2_with fail
      go_ret
      exact ⟨⟨_, rfl, .inr ⟨rfl, HN.out⟩⟩, B.out⟩
end Go.Proofs.Ytfmagbkcfeckhaa
