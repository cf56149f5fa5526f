/- spec.ValidPre, ValidMeta, SmallPre and laws.svShort, svIdent, walked. -/
import Derived.Test.YtkohcmgckkenpaaDoorSemC
set_option linter.unusedVariables false
set_option linter.unusedSimpArgs false
namespace Go.Proofs.YtkohcmgckkenpaaDoor
open Go.RowKit

theorem all_succ (p : List UInt8 → Bool) (xs : List ByteArray) (k : Nat) (h : k < xs.length) :
    ((xs.take (k + 1)).all fun x => p x.toList) = (((xs.take k).all fun x => p x.toList) && p xs[k].toList) := by
  rw [List.take_succ_eq_append_getElem h, List.all_append]; simp
theorem all_no (p : List UInt8 → Bool) (xs : List ByteArray) (k : Nat) (h : k < xs.length) (hp : p xs[k].toList = false) : (xs.all fun x => p x.toList) = false := by
  rw [List.all_eq_false]
  exact ⟨xs[k], List.getElem_mem h, by rw [hp]; simp⟩
theorem all_parts (p : List UInt8 → Bool) (xs : List ByteArray) (l : List UInt8) (h : xs.map (·.toList) = cut 46 l) : (xs.all fun x => p x.toList) = (cut 46 l).all p := by
  rw [← h, List.all_map]; rfl
theorem part_size (xs : List ByteArray) (s : ByteArray) (h : xs.map (·.toList) = cut 46 s.toList) (k : Nat) (hk : k < xs.length) : xs[k].size ≤ s.size := by
  have hm : xs[k].toList ∈ cut 46 s.toList := by rw [← h]; exact List.mem_map_of_mem (List.getElem_mem hk)
  have := cut_size 46 _ _ hm
  rwa [size_list, size_list] at this
theorem parts_len (xs : List ByteArray) (s : ByteArray) (h : xs.map (·.toList) = cut 46 s.toList) : xs.length ≤ s.size + 1 := by
  have := congrArg List.length h
  rw [List.length_map] at this
  have := cut_count 46 s.toList
  rw [size_list] at this
  omega
theorem head_at (x : ByteArray) (h : 0 < x.size) : x.toList.head? = some x[0] := by
  have := at_list x 0 h
  rw [← this, List.head?_eq_getElem?]

theorem smallPre_any (s : ByteArray) (w : World) (hs : s.size ≤ 2147483647) : Calls Tryd.prog 29 #[.string s] w fun e w' => e = .returned (.bool ((cut 46 s.toList).all smallId)) ∧ Below w.heap.size w w' := by
  go_enter Tryd.func29, Tryd.ntmps29
  go_wp2_with (go_at_call 38; refine (identifiers_any s _ hs).mono ?_; rintro e w1 ⟨xs, g, c, rfl, hx, hst, hb⟩)
  have HX := hid hx
  have HB := hid hb
  have HS := hid hst
  have hn := parts_len xs s hx
  clear hx hb hst
  go_loop [4, 8] (fun _ i => ∃ k : Nat, k ≤ xs.length ∧ i = .int .i64 k ∧ ((xs.take k).all fun x => smallId x.toList) = true) (fun _ i => xs.length - (intOf i).toNat)
  case atStart => exact ⟨0, Nat.zero_le _, rfl, by simp⟩
  case round =>
    obtain ⟨k, hk, rfl, ha⟩ := hrel
    have HA := hid ha
    clear ha
    by_cases hlt : k < xs.length
    · have hcell := HS.out k xs[k] (List.getElem?_eq_getElem hlt)
      have hsz := part_size xs s HX.out k hlt
      have hls := size_list xs[k]
      have HL := hid hls
      clear hls
      cases hd : digs xs[k].toList
      · have HD := hid hd
        go_wp2_with (go_at_call 40; refine (digits_any xs[k] _ (by omega)).mono ?_; rintro e w' ⟨rfl, rfl⟩)
        go_round
        case rel => exact ⟨k + 1, by omega, by go_num, by rw [all_succ _ xs k hlt, HA.out]; simp [smallId, HD.out]⟩
        case measure => simp [intOf]; omega
      · have HD := hid hd
        by_cases h19 : 19 < xs[k].size
        · go_wp2_with (go_at_call 40; refine (digits_any xs[k] _ (by omega)).mono ?_; rintro e w' ⟨rfl, rfl⟩)
          go_ret
          refine ⟨ret_b ?_, HB.out⟩
          show false = _
          rw [← all_parts _ xs _ HX.out]
          symm
          exact all_no _ xs k hlt (by simp [smallId, HD.out, HL.out, h19])
        · go_wp2_with (go_at_call 40; refine (digits_any xs[k] _ (by omega)).mono ?_; rintro e w' ⟨rfl, rfl⟩)
          go_round
          case rel => exact ⟨k + 1, by omega, by go_num, by rw [all_succ _ xs k hlt, HA.out]; simp [smallId, HD.out, HL.out, h19]⟩
          case measure => simp [intOf]; omega
    · go_wp2
      go_ret
      refine ⟨ret_b ?_, HB.out⟩
      show true = _
      rw [← all_parts _ xs _ HX.out, ← HA.out, List.take_of_length_le (by omega)]

theorem validMeta_any (s : ByteArray) (w : World) (hs : s.size ≤ 2147483647) : Calls Tryd.prog 30 #[.string s] w fun e w' => e = .returned (.bool ((cut 46 s.toList).all validId)) ∧ Below w.heap.size w w' := by
  go_enter Tryd.func30, Tryd.ntmps30
  go_wp2_with (go_at_call 38; refine (identifiers_any s _ hs).mono ?_; rintro e w1 ⟨xs, g, c, rfl, hx, hst, hb⟩)
  have HX := hid hx
  have HB := hid hb
  have HS := hid hst
  have hn := parts_len xs s hx
  clear hx hb hst
  go_loop [4, 8] (fun _ i => ∃ k : Nat, k ≤ xs.length ∧ i = .int .i64 k ∧ ((xs.take k).all fun x => validId x.toList) = true) (fun _ i => xs.length - (intOf i).toNat)
  case atStart => exact ⟨0, Nat.zero_le _, rfl, by simp⟩
  case round =>
    obtain ⟨k, hk, rfl, ha⟩ := hrel
    have HA := hid ha
    clear ha
    by_cases hlt : k < xs.length
    · have hcell := HS.out k xs[k] (List.getElem?_eq_getElem hlt)
      have hsz := part_size xs s HX.out k hlt
      have hls := size_list xs[k]
      have HL := hid hls
      clear hls
      cases hv : validId xs[k].toList
      · have HV := hid hv
        go_wp2_with (go_at_call 39; refine (validIdent_any xs[k] _ (by omega)).mono ?_; rintro e w' ⟨rfl, rfl⟩)
        go_ret
        refine ⟨ret_b ?_, HB.out⟩
        show false = _
        rw [← all_parts _ xs _ HX.out]
        symm
        exact all_no _ xs k hlt (by exact HV.out)
      · have HV := hid hv
        go_wp2_with (go_at_call 39; refine (validIdent_any xs[k] _ (by omega)).mono ?_; rintro e w' ⟨rfl, rfl⟩)
        go_round
        case rel => exact ⟨k + 1, by omega, by go_num, by rw [all_succ _ xs k hlt, HA.out]; simp [HV.out]⟩
        case measure => simp [intOf]; omega
    · go_wp2
      go_ret
      refine ⟨ret_b ?_, HB.out⟩
      show true = _
      rw [← all_parts _ xs _ HX.out, ← HA.out, List.take_of_length_le (by omega)]

set_option maxHeartbeats 800000 in
theorem validPre_any (s : ByteArray) (w : World) (hs : s.size ≤ 2147483647) : Calls Tryd.prog 28 #[.string s] w fun e w' => e = .returned (.bool ((cut 46 s.toList).all preId)) ∧ Below w.heap.size w w' := by
  go_enter Tryd.func28, Tryd.ntmps28
  go_wp2_with (go_at_call 38; refine (identifiers_any s _ hs).mono ?_; rintro e w1 ⟨xs, g, c, rfl, hx, hst, hb⟩)
  have HX := hid hx
  have HB := hid hb
  have HS := hid hst
  have hn := parts_len xs s hx
  clear hx hb hst
  go_loop [4, 8] (fun _ i => ∃ k : Nat, k ≤ xs.length ∧ i = .int .i64 k ∧ ((xs.take k).all fun x => preId x.toList) = true) (fun _ i => xs.length - (intOf i).toNat)
  case atStart => exact ⟨0, Nat.zero_le _, rfl, by simp⟩
  case round =>
    obtain ⟨k, hk, rfl, ha⟩ := hrel
    have HA := hid ha
    clear ha
    by_cases hlt : k < xs.length
    · have hcell := HS.out k xs[k] (List.getElem?_eq_getElem hlt)
      have hsz := part_size xs s HX.out k hlt
      have hls := size_list xs[k]
      have HL := hid hls
      clear hls
      cases hv : validId xs[k].toList
      · have HV := hid hv
        go_wp2_with (go_at_call 39; refine (validIdent_any xs[k] _ (by omega)).mono ?_; rintro e w' ⟨rfl, rfl⟩)
        go_ret
        refine ⟨ret_b ?_, HB.out⟩
        show false = _
        rw [← all_parts _ xs _ HX.out]
        symm
        exact all_no _ xs k hlt (by simp [preId, HV.out])
      · have HV := hid hv
        cases hd : digs xs[k].toList
        · have HD := hid hd
          go_wp2_with (first | (go_at_call 39; refine (validIdent_any xs[k] _ (by omega)).mono ?_; rintro e w' ⟨rfl, rfl⟩) | (go_at_call 40; refine (digits_any xs[k] _ (by omega)).mono ?_; rintro e w' ⟨rfl, rfl⟩))
          go_round
          case rel => exact ⟨k + 1, by omega, by go_num, by rw [all_succ _ xs k hlt, HA.out]; simp [preId, HV.out, HD.out]⟩
          case measure => simp [intOf]; omega
        · have HD := hid hd
          by_cases h1 : 1 < xs[k].size
          · have h0 : 0 < xs[k].size := by omega
            have HH := hid (head_at xs[k] h0)
            by_cases hz : xs[k][0] = 48
            · have hz' : ((xs[k][0].toNat : Int) == 48) = true := by rw [hz]; rfl
              have HZ := hid hz
              clear hz
              go_wp2_with (first | (go_at_call 39; refine (validIdent_any xs[k] _ (by omega)).mono ?_; rintro e w' ⟨rfl, rfl⟩) | (go_at_call 40; refine (digits_any xs[k] _ (by omega)).mono ?_; rintro e w' ⟨rfl, rfl⟩))
              go_ret
              refine ⟨ret_b ?_, HB.out⟩
              show false = _
              rw [← all_parts _ xs _ HX.out]
              symm
              exact all_no _ xs k hlt (by simp [preId, HV.out, HD.out, HL.out, h1, HH.out, HZ.out])
            · have hz' : ((xs[k][0].toNat : Int) == 48) = false := by
                simp
                intro h
                exact hz (UInt8.toNat_inj.1 (by have : xs[k][0].toNat = 48 := by omega
                                                rw [this]; rfl))
              have HZ := hid hz
              clear hz
              go_wp2_with (first | (go_at_call 39; refine (validIdent_any xs[k] _ (by omega)).mono ?_; rintro e w' ⟨rfl, rfl⟩) | (go_at_call 40; refine (digits_any xs[k] _ (by omega)).mono ?_; rintro e w' ⟨rfl, rfl⟩))
              go_round
              case rel => exact ⟨k + 1, by omega, by go_num, by rw [all_succ _ xs k hlt, HA.out]; simp [preId, HV.out, HD.out, HL.out, h1, HH.out, HZ.out]⟩
              case measure => simp [intOf]; omega
          · go_wp2_with (first | (go_at_call 39; refine (validIdent_any xs[k] _ (by omega)).mono ?_; rintro e w' ⟨rfl, rfl⟩) | (go_at_call 40; refine (digits_any xs[k] _ (by omega)).mono ?_; rintro e w' ⟨rfl, rfl⟩))
            go_round
            case rel => exact ⟨k + 1, by omega, by go_num, by rw [all_succ _ xs k hlt, HA.out]; simp [preId, HV.out, HD.out, HL.out, h1]⟩
            case measure => simp [intOf]; omega
    · go_wp2
      go_ret
      refine ⟨ret_b ?_, HB.out⟩
      show true = _
      rw [← all_parts _ xs _ HX.out, ← HA.out, List.take_of_length_le (by omega)]

end Go.Proofs.YtkohcmgckkenpaaDoor
