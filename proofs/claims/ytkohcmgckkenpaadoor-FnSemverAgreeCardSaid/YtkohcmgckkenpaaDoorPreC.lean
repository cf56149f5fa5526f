/- The semver package's comparison of prereleases, walked. -/
import Derived.Test.YtkohcmgckkenpaaDoorSplitB
import Derived.Test.YtkohcmgckkenpaaDoorSemA
import Derived.Test.YtkohcmgckkenpaaDoorSemD
set_option linter.unusedVariables false
set_option linter.unusedSimpArgs false
namespace Go.Proofs.YtkohcmgckkenpaaDoor
open Go.RowKit

theorem bt1 {w w1 w2 : World} (h : Below w.heap.size w w1) (k : Below w1.heap.size w1 w2) : Below w.heap.size w w2 := h.trans (k.mono h.size)

def atL (l : List (List UInt8)) (k : Nat) : List UInt8 := (l[k]?).getD []
/-- The first of the first n comparisons that is not 0. -/
def firstL (xs ys : List (List UInt8)) : Nat → Int
  | 0 => 0
  | n + 1 => if firstL xs ys n = 0 then cpp (atL xs n) (atL ys n) else firstL xs ys n
def preC (p o : List UInt8) : Int := firstL (cut 46 p) (cut 46 o) (max (cut 46 p).length (cut 46 o).length)

theorem firstL_stop (x y : List (List UInt8)) (k n : Nat) (h : k < n) (hz : firstL x y k = 0) (h0 : cpp (atL x k) (atL y k) ≠ 0) : firstL x y n = cpp (atL x k) (atL y k) := by
  induction n with
  | zero => omega
  | succ n ih =>
    by_cases hk : k < n
    · have e := ih hk
      simp only [firstL]
      rw [e, if_neg h0]
    · obtain rfl : k = n := by omega
      simp only [firstL]
      rw [hz, if_pos rfl]

def atP (xs : List ByteArray) (k : Nat) : ByteArray := (xs[k]?).getD ⟨#[]⟩
theorem atP_in (xs : List ByteArray) (k : Nat) (h : k < xs.length) : xs[k]? = some (atP xs k) := by simp [atP, List.getElem?_eq_getElem h]
theorem atP_out (xs : List ByteArray) (k : Nat) (h : ¬ k < xs.length) : atP xs k = ⟨#[]⟩ := by simp [atP, List.getElem?_eq_none (Nat.le_of_not_lt h)]
theorem atP_list (xs : List ByteArray) (k : Nat) : (atP xs k).toList = atL (xs.map (·.toList)) k := by
  unfold atP atL
  rw [List.getElem?_map]
  cases xs[k]? with
  | none => simp
  | some x => rfl
theorem atP_size (xs : List ByteArray) (s : ByteArray) (h : xs.map (·.toList) = cut 46 s.toList) (k : Nat) (hs : s.size ≤ 2147483647) : (atP xs k).size ≤ 2147483647 := by
  by_cases hk : k < xs.length
  · have := part_size xs s h k hk
    have e : atP xs k = xs[k] := by simp [atP, List.getElem?_eq_getElem hk]
    rw [e]; omega
  · rw [atP_out xs k hk]; decide

theorem comparePre_at (p o : ByteArray) (w : World) (xs ys : List ByteArray) (hp : p.size ≤ 2147483647) (ho : o.size ≤ 2147483647) (hx : xs.map (·.toList) = cut 46 p.toList) (hy : ys.map (·.toList) = cut 46 o.toList) (hv : Vars w) (k : Nat) :
    Calls Tryd.prog 63 #[.string (atP xs k), .string (atP ys k)] w fun e w' => e = .returned (.int .i64 (cpp (atL (cut 46 p.toList) k) (atL (cut 46 o.toList) k))) ∧ Below w.heap.size w w' := by
  have := prePart_any (atP xs k) (atP ys k) w (atP_size xs p hx k hp) (atP_size ys o hy k ho) hv
  rwa [atP_list, atP_list, hx, hy] at this

set_option maxRecDepth 100000 in
theorem comparePre_any (p o : ByteArray) (w : World) (hp : p.size ≤ 2147483647) (ho : o.size ≤ 2147483647) (hv : Vars w) :
    Calls Tryd.prog 59 #[.string p, .string o] w fun e w' => e = .returned (.int .i64 (preC p.toList o.toList)) ∧ Below w.heap.size w w' := by
  have HV := hid hv
  clear hv
  go_enter Tryd.func59, Tryd.ntmps59
  go_wp2_with fail
  go_at_call 62
  refine (split_any p _ hp).mono ?_
  rintro e w1 ⟨xs, g, c, rfl, hx, hst, hb1⟩
  have HX := hid hx
  have HS1 := hid hst
  have HB1 := hid hb1
  clear hx hst hb1
  go_wp2_with fail
  go_at_call 62
  refine (split_any o _ ho).mono ?_
  rintro e w2 ⟨ys, h, d, rfl, hy, hst, hb⟩
  have HY := hid hy
  have HS := hid (HS1.out.below hb)
  have HT := hid hst
  have HB := hid (HB1.out.trans (hb.mono HB1.out.size))
  have lx := parts_len xs p HX.out
  have ly := parts_len ys o HY.out
  clear hy hst hb
  have hm : ∀ n : Nat, n = max xs.length ys.length → preC p.toList o.toList = firstL (cut 46 p.toList) (cut 46 o.toList) n := fun n hn => by
    unfold preC
    rw [← HX.out, ← HY.out, hn, List.length_map, List.length_map]
  have HM := hid hm
  clear hm
  by_cases hlen : xs.length < ys.length
  · go_wp2_with fail
    go_loopw [10] (fun i wr => ∃ k : Nat, k ≤ ys.length ∧ i = .int .i64 k ∧ firstL (cut 46 p.toList) (cut 46 o.toList) k = 0 ∧ Below w2.heap.size w2 wr) (fun i _ => ys.length - (intOf i).toNat)
    case atStart => exact ⟨0, Nat.zero_le _, rfl, rfl, Below.refl _ _⟩
    case round =>
      obtain ⟨k, hk, rfl, hz, hb⟩ := hrel
      have HZ := hid hz
      have HR := hid hb
      clear hz hb
      have hw : IntKind.i64.wrap ((k : Int) + 1) = (k : Int) + 1 := IntWalk.i64_in _ (by omega)
      by_cases hlt : k < ys.length
      · by_cases hkx : k < xs.length
        · by_cases hky : k < ys.length
          · have hi0 : (0 : Int) ≤ (k : Int) := by omega
            have hix : (k : Int) < (xs.length : Int) := by omega
            have hiy : (k : Int) < (ys.length : Int) := by omega
            have HP := comparePre_at p o wr xs ys hp ho HX.out HY.out (HV.out.below (HB.out.trans (HR.out.mono HB.out.size))) k
            have ha := (HS.out.below HR.out) k (atP xs k) (atP_in xs k hkx)
            have hb' := (HT.out.below HR.out) k (atP ys k) (atP_in ys k hky)
            have HQ := hid HP
            clear HP
            by_cases h0 : cpp (atL (cut 46 p.toList) k) (atL (cut 46 o.toList) k) = 0
            · go_wp2_with (go_at_call 63; refine HQ.out.mono ?_; rintro e w4 ⟨rfl, hb4⟩)
              go_roundw
              case rel => exact ⟨k + 1, by omega, by go_num, by simp [firstL, HZ.out, h0], bt1 HR.out hb4⟩
              case measure => simp [intOf]; omega
            · have hf : (cpp (atL (cut 46 p.toList) k) (atL (cut 46 o.toList) k) == 0) = false := by simpa using h0
              go_wp2_with (go_at_call 63; refine HQ.out.mono ?_; rintro e w4 ⟨rfl, hb4⟩)
              go_ret
              exact ⟨ret_i (((HM.out _ (by omega)).trans (firstL_stop _ _ k _ hlt HZ.out h0)).symm), bt1 HB.out (bt1 HR.out hb4)⟩
          · exact absurd hlt hky
        · by_cases hky : k < ys.length
          · have hi0 : (0 : Int) ≤ (k : Int) := by omega
            have hiy : (k : Int) < (ys.length : Int) := by omega
            have HP := comparePre_at p o wr xs ys hp ho HX.out HY.out (HV.out.below (HB.out.trans (HR.out.mono HB.out.size))) k
            have ha := atP_out xs k hkx
            have hb' := (HT.out.below HR.out) k (atP ys k) (atP_in ys k hky)
            rw [ha] at HP
            have HQ := hid HP
            clear HP
            by_cases h0 : cpp (atL (cut 46 p.toList) k) (atL (cut 46 o.toList) k) = 0
            · go_wp2_with (go_at_call 63; refine HQ.out.mono ?_; rintro e w4 ⟨rfl, hb4⟩)
              go_roundw
              case rel => exact ⟨k + 1, by omega, by go_num, by simp [firstL, HZ.out, h0], bt1 HR.out hb4⟩
              case measure => simp [intOf]; omega
            · have hf : (cpp (atL (cut 46 p.toList) k) (atL (cut 46 o.toList) k) == 0) = false := by simpa using h0
              go_wp2_with (go_at_call 63; refine HQ.out.mono ?_; rintro e w4 ⟨rfl, hb4⟩)
              go_ret
              exact ⟨ret_i (((HM.out _ (by omega)).trans (firstL_stop _ _ k _ hlt HZ.out h0)).symm), bt1 HB.out (bt1 HR.out hb4)⟩
          · exact absurd hlt hky
      · have hkn : k = ys.length := by omega
        subst hkn
        go_wp2_with fail
        go_ret
        exact ⟨ret_i (((HM.out _ (by omega)).trans HZ.out).symm), bt1 HB.out HR.out⟩
  · go_wp2_with fail
    go_loopw [10] (fun i wr => ∃ k : Nat, k ≤ xs.length ∧ i = .int .i64 k ∧ firstL (cut 46 p.toList) (cut 46 o.toList) k = 0 ∧ Below w2.heap.size w2 wr) (fun i _ => xs.length - (intOf i).toNat)
    case atStart => exact ⟨0, Nat.zero_le _, rfl, rfl, Below.refl _ _⟩
    case round =>
      obtain ⟨k, hk, rfl, hz, hb⟩ := hrel
      have HZ := hid hz
      have HR := hid hb
      clear hz hb
      have hw : IntKind.i64.wrap ((k : Int) + 1) = (k : Int) + 1 := IntWalk.i64_in _ (by omega)
      by_cases hlt : k < xs.length
      · by_cases hkx : k < xs.length
        · by_cases hky : k < ys.length
          · have hi0 : (0 : Int) ≤ (k : Int) := by omega
            have hix : (k : Int) < (xs.length : Int) := by omega
            have hiy : (k : Int) < (ys.length : Int) := by omega
            have HP := comparePre_at p o wr xs ys hp ho HX.out HY.out (HV.out.below (HB.out.trans (HR.out.mono HB.out.size))) k
            have ha := (HS.out.below HR.out) k (atP xs k) (atP_in xs k hkx)
            have hb' := (HT.out.below HR.out) k (atP ys k) (atP_in ys k hky)
            have HQ := hid HP
            clear HP
            by_cases h0 : cpp (atL (cut 46 p.toList) k) (atL (cut 46 o.toList) k) = 0
            · go_wp2_with (go_at_call 63; refine HQ.out.mono ?_; rintro e w4 ⟨rfl, hb4⟩)
              go_roundw
              case rel => exact ⟨k + 1, by omega, by go_num, by simp [firstL, HZ.out, h0], bt1 HR.out hb4⟩
              case measure => simp [intOf]; omega
            · have hf : (cpp (atL (cut 46 p.toList) k) (atL (cut 46 o.toList) k) == 0) = false := by simpa using h0
              go_wp2_with (go_at_call 63; refine HQ.out.mono ?_; rintro e w4 ⟨rfl, hb4⟩)
              go_ret
              exact ⟨ret_i (((HM.out _ (by omega)).trans (firstL_stop _ _ k _ hlt HZ.out h0)).symm), bt1 HB.out (bt1 HR.out hb4)⟩
          · have hi0 : (0 : Int) ≤ (k : Int) := by omega
            have hix : (k : Int) < (xs.length : Int) := by omega
            have HP := comparePre_at p o wr xs ys hp ho HX.out HY.out (HV.out.below (HB.out.trans (HR.out.mono HB.out.size))) k
            have ha := (HS.out.below HR.out) k (atP xs k) (atP_in xs k hkx)
            have hb' := atP_out ys k hky
            rw [hb'] at HP
            have HQ := hid HP
            clear HP
            by_cases h0 : cpp (atL (cut 46 p.toList) k) (atL (cut 46 o.toList) k) = 0
            · go_wp2_with (go_at_call 63; refine HQ.out.mono ?_; rintro e w4 ⟨rfl, hb4⟩)
              go_roundw
              case rel => exact ⟨k + 1, by omega, by go_num, by simp [firstL, HZ.out, h0], bt1 HR.out hb4⟩
              case measure => simp [intOf]; omega
            · have hf : (cpp (atL (cut 46 p.toList) k) (atL (cut 46 o.toList) k) == 0) = false := by simpa using h0
              go_wp2_with (go_at_call 63; refine HQ.out.mono ?_; rintro e w4 ⟨rfl, hb4⟩)
              go_ret
              exact ⟨ret_i (((HM.out _ (by omega)).trans (firstL_stop _ _ k _ hlt HZ.out h0)).symm), bt1 HB.out (bt1 HR.out hb4)⟩
        · exact absurd hlt hkx
      · have hkn : k = xs.length := by omega
        subst hkn
        go_wp2_with fail
        go_ret
        exact ⟨ret_i (((HM.out _ (by omega)).trans HZ.out).symm), bt1 HB.out HR.out⟩
end Go.Proofs.YtkohcmgckkenpaaDoor
