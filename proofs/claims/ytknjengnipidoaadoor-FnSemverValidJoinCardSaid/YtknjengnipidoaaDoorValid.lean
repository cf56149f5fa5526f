/- The semver package's tests of prereleases and metadata, walked. -/
import Derived.Test.YtknjengnipidoaaDoorOnly
import Derived.Test.YtknjengnipidoaaDoorSplitB
import Derived.Test.YtknjengnipidoaaDoorShort
import Derived.WalkSpells
set_option linter.unusedVariables false
set_option linter.unusedSimpArgs false
namespace Go.Proofs.YtknjengnipidoaaDoor
open Go.RowKit

/-- What the walks ask of the package-level variables: they hold errors. -/
structure Vars (w : World) : Prop where
  pre : ∃ t p, w.cell? ⟨0, 0, none⟩ = some (.iface t p)
  zero : ∃ t p, w.cell? ⟨1, 0, none⟩ = some (.iface t p)
theorem Vars.below {w w' : World} (h : Vars w) (hb : Below w.heap.size w w') : Vars w' := by
  obtain ⟨⟨t, p, h1⟩, ⟨u, q, h2⟩⟩ := h
  exact ⟨⟨t, p, (hb.cell (World.block_lt_of_cell? w _ h1)).trans h1⟩, ⟨u, q, (hb.cell (World.block_lt_of_cell? w _ h2)).trans h2⟩⟩
def VarsM (w : World) : Prop := ∃ t p, w.cell? ⟨2, 0, none⟩ = some (.iface t p)
theorem VarsM.below {w w' : World} (h : VarsM w) (hb : Below w.heap.size w w') : VarsM w' := by
  obtain ⟨t, p, h1⟩ := h
  exact ⟨t, p, (hb.cell (World.block_lt_of_cell? w _ h1)).trans h1⟩

theorem preId_eq (l : List UInt8) : preId l = if l.isEmpty then false else if l.all isDig then !(decide (1 < l.length) && (l.head? == some 48)) else l.all isId := by
  unfold preId validId digs
  cases h : l.isEmpty
  · cases hd : l.all isDig
    · simp
    · have : l.all isId = true := by
        rw [List.all_eq_true] at hd ⊢
        intro b hb
        have := hd b hb
        simp only [isDig, decide_eq_true_eq] at this
        simp only [isId, decide_eq_true_eq]
        omega
      simp [this]
  · simp
theorem validId_eq (l : List UInt8) : validId l = if l.isEmpty then false else l.all isId := by
  unfold validId
  cases h : l.isEmpty <;> simp
theorem bt {w w1 w2 : World} (h : Below w.heap.size w w1) (k : Below w1.heap.size w1 w2) : Below w.heap.size w w2 := h.trans (k.mono h.size)

set_option maxHeartbeats 1600000 in
theorem vpre_any (s : ByteArray) (w : World) (hs : s.size ≤ 2147483647) (hv : Vars w) : Calls Tryd.prog 28 #[.string s] w fun e w' =>
    ∃ v, e = .returned v ∧ Below w.heap.size w w' ∧ (((cut 46 s.toList).all preId = true ∧ v = .nilIface) ∨ ((cut 46 s.toList).all preId = false ∧ ∃ t p, v = .iface t p)) := by
  have HV := hid hv
  clear hv
  go_enter Tryd.func28, Tryd.ntmps28
  go_wp2_with (go_at_call 42; refine (split_any s _ hs).mono ?_; rintro e w1 ⟨xs, g, c, rfl, hx, hst, hb⟩)
  have HX := hid hx
  have HB := hid hb
  have HS := hid hst
  have hn := parts_len xs s hx
  clear hx hb hst
  go_loopg [5, 10] xs.length (fun gf _ i wx => ∃ k : Nat, k + gf = xs.length ∧ i = .int .i64 k ∧ Below w.heap.size w wx ∧ StrsAt wx g xs ∧ ((xs.take k).all fun x => preId x.toList) = true)
  case atStart => exact ⟨0, by omega, rfl, HB.out, HS.out, by simp⟩
  case round =>
    obtain ⟨k, hk, rfl, hbr, hstr, ha⟩ := hrel
    have HA := hid ha
    have HBR := hid hbr
    have HSR := hid hstr
    obtain ⟨t0, p0, hg0⟩ := (HV.out.below hbr).pre
    obtain ⟨t1, p1, hg1⟩ := (HV.out.below hbr).zero
    clear ha hbr hstr
    by_cases hlt : k < xs.length
    · obtain ⟨g', rfl⟩ : ∃ g', gk = g' + 1 := ⟨gk - 1, by omega⟩
      have hcell := HSR.out k xs[k] (List.getElem?_eq_getElem hlt)
      have hsz := part_size xs s HX.out k hlt
      have HL := hid (size_list xs[k])
      cases he : xs[k].toList.isEmpty
      case true =>
        have HE := hid he
        go_wp2_with fail
        go_ret
        exact ⟨_, rfl, HBR.out, .inr ⟨by rw [← all_parts _ xs _ HX.out]; exact all_no _ xs k hlt (by simp [preId_eq, HE.out]), _, _, rfl⟩⟩
      have HE := hid he
      cases hd : xs[k].toList.all isDig
      case false =>
        have CN := hid (fun w => (only_num xs[k] w).mono fun e w' (h : _ ∧ _) => (⟨by rw [h.1, hd], h.2⟩ : e = .returned (.bool false) ∧ Below w.heap.size w w'))
        have HD := hid hd
        clear hd
        cases hi : xs[k].toList.all isId
        case false =>
          have CA := hid (fun w => (only_id xs[k] w).mono fun e w' (h : _ ∧ _) => (⟨by rw [h.1, hi], h.2⟩ : e = .returned (.bool false) ∧ Below w.heap.size w w'))
          have HI := hid hi
          clear hi
          go_wp2_with (first | (go_at_call_of 43 (Value.string { data := #[48, 49, 50, 51, 52, 53, 54, 55, 56, 57] }); refine (CN.out _).mono ?_; rintro e w2 ⟨rfl, hb2⟩; have hs2 := hid (HSR.out.below hb2); have hg02 := (hb2.cell (World.block_lt_of_cell? _ _ hg0)).trans hg0; have hg12 := (hb2.cell (World.block_lt_of_cell? _ _ hg1)).trans hg1; replace hb2 := hid (bt HBR.out hb2)) | (go_at_call 43; refine (CA.out _).mono ?_; rintro e w3 ⟨rfl, hb3⟩; have hg03 := (hb3.cell (World.block_lt_of_cell? _ _ hg02)).trans hg02; have hs3 := hid (hs2.out.below hb3); replace hb3 := hid (bt hb2.out hb3)))
          go_ret
          exact ⟨_, rfl, hb3.out, .inr ⟨by rw [← all_parts _ xs _ HX.out]; exact all_no _ xs k hlt (by simp [preId_eq, HE.out, HD.out, HI.out]), _, _, rfl⟩⟩
        case true =>
          have CA := hid (fun w => (only_id xs[k] w).mono fun e w' (h : _ ∧ _) => (⟨by rw [h.1, hi], h.2⟩ : e = .returned (.bool true) ∧ Below w.heap.size w w'))
          have HI := hid hi
          clear hi
          go_wp2_with (first | (go_at_call_of 43 (Value.string { data := #[48, 49, 50, 51, 52, 53, 54, 55, 56, 57] }); refine (CN.out _).mono ?_; rintro e w2 ⟨rfl, hb2⟩; have hs2 := hid (HSR.out.below hb2); have hg02 := (hb2.cell (World.block_lt_of_cell? _ _ hg0)).trans hg0; have hg12 := (hb2.cell (World.block_lt_of_cell? _ _ hg1)).trans hg1; replace hb2 := hid (bt HBR.out hb2)) | (go_at_call 43; refine (CA.out _).mono ?_; rintro e w3 ⟨rfl, hb3⟩; have hg03 := (hb3.cell (World.block_lt_of_cell? _ _ hg02)).trans hg02; have hs3 := hid (hs2.out.below hb3); replace hb3 := hid (bt hb2.out hb3)))
          go_roundg g'
          case measure => omega
          case rel => exact ⟨k + 1, by omega, by go_num, hb3.out, hs3.out, by rw [all_succ _ xs k hlt, HA.out]; simp [preId_eq, HE.out, HD.out, HI.out]⟩
      have CN := hid (fun w => (only_num xs[k] w).mono fun e w' (h : _ ∧ _) => (⟨by rw [h.1, hd], h.2⟩ : e = .returned (.bool true) ∧ Below w.heap.size w w'))
      have HD := hid hd
      clear hd
      by_cases h1 : 1 < xs[k].size
      · have h0 : 0 < xs[k].size := by omega
        have HH := hid (head_at xs[k] h0)
        by_cases hz : xs[k][0] = 48
        · have hz' : ((xs[k][0].toNat : Int) == 48) = true := by rw [hz]; rfl
          have HZ := hid hz
          clear hz
          go_wp2_with (go_at_call_of 43 (Value.string { data := #[48, 49, 50, 51, 52, 53, 54, 55, 56, 57] }); refine (CN.out _).mono ?_; rintro e w2 ⟨rfl, hb2⟩; have hs2 := hid (HSR.out.below hb2); have hg02 := (hb2.cell (World.block_lt_of_cell? _ _ hg0)).trans hg0; have hg12 := (hb2.cell (World.block_lt_of_cell? _ _ hg1)).trans hg1; replace hb2 := hid (bt HBR.out hb2))
          go_ret
          exact ⟨_, rfl, hb2.out, .inr ⟨by rw [← all_parts _ xs _ HX.out]; exact all_no _ xs k hlt (by simp [preId_eq, HE.out, HD.out, HL.out, h1, HH.out, HZ.out]), _, _, rfl⟩⟩
        · have hz' : ((xs[k][0].toNat : Int) == 48) = false := by
            simp
            intro h
            exact hz (UInt8.toNat_inj.1 (by have : xs[k][0].toNat = 48 := by omega
                                            rw [this]; rfl))
          have HZ := hid hz
          clear hz
          go_wp2_with (go_at_call_of 43 (Value.string { data := #[48, 49, 50, 51, 52, 53, 54, 55, 56, 57] }); refine (CN.out _).mono ?_; rintro e w2 ⟨rfl, hb2⟩; have hs2 := hid (HSR.out.below hb2); have hg02 := (hb2.cell (World.block_lt_of_cell? _ _ hg0)).trans hg0; have hg12 := (hb2.cell (World.block_lt_of_cell? _ _ hg1)).trans hg1; replace hb2 := hid (bt HBR.out hb2))
          go_roundg g'
          case measure => omega
          case rel => exact ⟨k + 1, by omega, by go_num, hb2.out, hs2.out, by rw [all_succ _ xs k hlt, HA.out]; simp [preId_eq, HE.out, HD.out, HL.out, h1, HH.out, HZ.out]⟩
      · go_wp2_with (go_at_call_of 43 (Value.string { data := #[48, 49, 50, 51, 52, 53, 54, 55, 56, 57] }); refine (CN.out _).mono ?_; rintro e w2 ⟨rfl, hb2⟩; have hs2 := hid (HSR.out.below hb2); have hg02 := (hb2.cell (World.block_lt_of_cell? _ _ hg0)).trans hg0; have hg12 := (hb2.cell (World.block_lt_of_cell? _ _ hg1)).trans hg1; replace hb2 := hid (bt HBR.out hb2))
        go_roundg g'
        case measure => omega
        case rel => exact ⟨k + 1, by omega, by go_num, hb2.out, hs2.out, by rw [all_succ _ xs k hlt, HA.out]; simp [preId_eq, HE.out, HD.out, HL.out, h1]⟩
    · go_wp2_with fail
      go_ret
      refine ⟨_, rfl, HBR.out, .inl ⟨?_, rfl⟩⟩
      rw [← all_parts _ xs _ HX.out, ← HA.out, List.take_of_length_le (by omega)]

set_option maxHeartbeats 1600000 in
theorem vmeta_any (s : ByteArray) (w : World) (hs : s.size ≤ 2147483647) (hv : VarsM w) : Calls Tryd.prog 31 #[.string s] w fun e w' =>
    ∃ v, e = .returned v ∧ Below w.heap.size w w' ∧ (((cut 46 s.toList).all validId = true ∧ v = .nilIface) ∨ ((cut 46 s.toList).all validId = false ∧ ∃ t p, v = .iface t p)) := by
  have HV := hid hv
  clear hv
  go_enter Tryd.func31, Tryd.ntmps31
  go_wp2_with (go_at_call 42; refine (split_any s _ hs).mono ?_; rintro e w1 ⟨xs, g, c, rfl, hx, hst, hb⟩)
  have HX := hid hx
  have HB := hid hb
  have HS := hid hst
  have hn := parts_len xs s hx
  clear hx hb hst
  go_loopg [5, 10] xs.length (fun gf _ i wx => ∃ k : Nat, k + gf = xs.length ∧ i = .int .i64 k ∧ Below w.heap.size w wx ∧ StrsAt wx g xs ∧ ((xs.take k).all fun x => validId x.toList) = true)
  case atStart => exact ⟨0, by omega, rfl, HB.out, HS.out, by simp⟩
  case round =>
    obtain ⟨k, hk, rfl, hbr, hstr, ha⟩ := hrel
    have HA := hid ha
    have HBR := hid hbr
    have HSR := hid hstr
    obtain ⟨t0, p0, hg0⟩ := HV.out.below hbr
    clear ha hbr hstr
    by_cases hlt : k < xs.length
    · obtain ⟨g', rfl⟩ : ∃ g', gk = g' + 1 := ⟨gk - 1, by omega⟩
      have hcell := HSR.out k xs[k] (List.getElem?_eq_getElem hlt)
      have hsz := part_size xs s HX.out k hlt
      have HL := hid (size_list xs[k])
      cases he : xs[k].toList.isEmpty
      case true =>
        have HE := hid he
        go_wp2_with fail
        go_ret
        exact ⟨_, rfl, HBR.out, .inr ⟨by rw [← all_parts _ xs _ HX.out]; exact all_no _ xs k hlt (by simp [validId_eq, HE.out]), _, _, rfl⟩⟩
      have HE := hid he
      cases hi : xs[k].toList.all isId
      case false =>
        have CA := hid (fun w => (only_id xs[k] w).mono fun e w' (h : _ ∧ _) => (⟨by rw [h.1, hi], h.2⟩ : e = .returned (.bool false) ∧ Below w.heap.size w w'))
        have HI := hid hi
        clear hi
        go_wp2_with ((go_at_call 43; refine (CA.out _).mono ?_; rintro e w3 ⟨rfl, hb3⟩; have hg03 := (hb3.cell (World.block_lt_of_cell? _ _ hg0)).trans hg0; have hs3 := hid (HSR.out.below hb3); replace hb3 := hid (bt HBR.out hb3)))
        go_ret
        exact ⟨_, rfl, hb3.out, .inr ⟨by rw [← all_parts _ xs _ HX.out]; exact all_no _ xs k hlt (by simp [validId_eq, HE.out, HI.out]), _, _, rfl⟩⟩
      case true =>
        have CA := hid (fun w => (only_id xs[k] w).mono fun e w' (h : _ ∧ _) => (⟨by rw [h.1, hi], h.2⟩ : e = .returned (.bool true) ∧ Below w.heap.size w w'))
        have HI := hid hi
        clear hi
        go_wp2_with ((go_at_call 43; refine (CA.out _).mono ?_; rintro e w3 ⟨rfl, hb3⟩; have hg03 := (hb3.cell (World.block_lt_of_cell? _ _ hg0)).trans hg0; have hs3 := hid (HSR.out.below hb3); replace hb3 := hid (bt HBR.out hb3)))
        go_roundg g'
        case measure => omega
        case rel => exact ⟨k + 1, by omega, by go_num, hb3.out, hs3.out, by rw [all_succ _ xs k hlt, HA.out]; simp [validId_eq, HE.out, HI.out]⟩
    · go_wp2_with fail
      go_ret
      refine ⟨_, rfl, HBR.out, .inl ⟨?_, rfl⟩⟩
      rw [← all_parts _ xs _ HX.out, ← HA.out, List.take_of_length_le (by omega)]

theorem ivpre_any (s : ByteArray) (w : World) (hs : s.size ≤ 2147483647) (hv : Vars w) : Calls Tryd.prog 8 #[.string s] w fun e w' =>
    e = .returned (.bool ((cut 46 s.toList).all preId)) ∧ Below w.heap.size w w' := by
  have HV := hid hv
  clear hv
  cases hc : (cut 46 s.toList).all preId
  · have C := hid (fun w (hv : Vars w) => (vpre_any s w hs hv).mono fun e w' ⟨v, he, hb, h⟩ => (show ∃ t p, e = Ending.returned (.iface t p) ∧ Below w.heap.size w w' by
      rcases h with ⟨h, _⟩ | ⟨_, t, p, h⟩
      · rw [hc] at h; cases h
      · exact ⟨t, p, by rw [he, h], hb⟩))
    clear hc
    go_enter Tryd.func8, Tryd.ntmps8
    go_wp2_with (first | (go_at_call 17; go_in) | (go_at_call 28; refine (C.out _ HV.out).mono ?_; rintro e w1 ⟨t, p, rfl, hb⟩; replace hb := hid hb))
    go_ret
    exact ⟨rfl, hb.out⟩
  · have C := hid (fun w (hv : Vars w) => (vpre_any s w hs hv).mono fun e w' ⟨v, he, hb, h⟩ => (show e = Ending.returned .nilIface ∧ Below w.heap.size w w' by
      rcases h with ⟨_, h⟩ | ⟨h, _⟩
      · exact ⟨by rw [he, h], hb⟩
      · rw [hc] at h; cases h))
    clear hc
    go_enter Tryd.func8, Tryd.ntmps8
    go_wp2_with (first | (go_at_call 17; go_in) | (go_at_call 28; refine (C.out _ HV.out).mono ?_; rintro e w1 ⟨rfl, hb⟩; replace hb := hid hb))
    go_ret
    exact ⟨rfl, hb.out⟩

theorem ivmeta_any (s : ByteArray) (w : World) (hs : s.size ≤ 2147483647) (hv : VarsM w) : Calls Tryd.prog 10 #[.string s] w fun e w' =>
    e = .returned (.bool ((cut 46 s.toList).all validId)) ∧ Below w.heap.size w w' := by
  have HV := hid hv
  clear hv
  cases hc : (cut 46 s.toList).all validId
  · have C := hid (fun w (hv : VarsM w) => (vmeta_any s w hs hv).mono fun e w' ⟨v, he, hb, h⟩ => (show ∃ t p, e = Ending.returned (.iface t p) ∧ Below w.heap.size w w' by
      rcases h with ⟨h, _⟩ | ⟨_, t, p, h⟩
      · rw [hc] at h; cases h
      · exact ⟨t, p, by rw [he, h], hb⟩))
    clear hc
    go_enter Tryd.func10, Tryd.ntmps10
    go_wp2_with (first | (go_at_call 21; go_in) | (go_at_call 31; refine (C.out _ HV.out).mono ?_; rintro e w1 ⟨t, p, rfl, hb⟩; replace hb := hid hb))
    go_ret
    exact ⟨rfl, hb.out⟩
  · have C := hid (fun w (hv : VarsM w) => (vmeta_any s w hs hv).mono fun e w' ⟨v, he, hb, h⟩ => (show e = Ending.returned .nilIface ∧ Below w.heap.size w w' by
      rcases h with ⟨_, h⟩ | ⟨h, _⟩
      · exact ⟨by rw [he, h], hb⟩
      · rw [hc] at h; cases h))
    clear hc
    go_enter Tryd.func10, Tryd.ntmps10
    go_wp2_with (first | (go_at_call 21; go_in) | (go_at_call 31; refine (C.out _ HV.out).mono ?_; rintro e w1 ⟨rfl, hb⟩; replace hb := hid hb))
    go_ret
    exact ⟨rfl, hb.out⟩
end Go.Proofs.YtknjengnipidoaaDoor
