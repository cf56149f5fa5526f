/- The reference's CronNumber, cronSame. Walked. -/
import Derived.Test.YtomkhhpigpilfaaGreatDoorRefN
import Derived.Test.YtomkhhpigpilfaaGreatDoorGrow
import Derived.Deep.DeepCutAuto
import Derived.Deep.RegionWith
import Derived.BigQuiet
set_option linter.unusedVariables false
set_option linter.unusedSimpArgs false
namespace Go.Proofs.YtomkhhpigpilfaaGreatDoor
open Go.RowKit

theorem bq {w w1 w2 : World} (h : Below w.heap.size w w1) (k : Below w1.heap.size w1 w2) : Below w.heap.size w w2 := h.trans (k.mono h.size)
/-- The same but for small and capital letters. -/
def sameB (a b : List UInt8) : Bool := a.map upB == b.map upB
theorem take_map (s : ByteArray) (k : Nat) (hk : k < s.size) (b : UInt8) (hb : s[k] = b) : (s.toList.take (k + 1)).map upB = (s.toList.take k).map upB ++ [upB b] := by
  rw [take_list s k hk, List.map_append, hb]
  rfl
set_option maxHeartbeats 1600000 in
theorem same_any (a c : ByteArray) (w : World) (ha : a.size ≤ 65536) (hc : c.size ≤ 65536) : Calls Tryz.prog 124 #[.string a, .string c] w fun e w' => e = .returned (.bool (sameB a.toList c.toList)) ∧ Below w.heap.size w w' := by
  by_cases hz : a.size = c.size
  case neg =>
    have e : sameB a.toList c.toList = false := by
      unfold sameB
      rw [beq_eq_false_iff_ne]
      intro h
      have := congrArg List.length h
      rw [List.length_map, List.length_map, size_list, size_list] at this
      exact hz this
    rw [e]
    have g : ((a.size : Int) == (c.size : Int)) = false := by rw [beq_eq_false_iff_ne]; omega
    clear e hz
    go_enter Tryz.func124, Tryz.ntmps124
    go_wp2_with fail
    go_ret
    exact ⟨rfl, Below.refl _ _⟩
  have g : ((a.size : Int) == (c.size : Int)) = true := by rw [beq_iff_eq]; omega
  have HZ := hid hz
  clear hz
  go_enter Tryz.func124, Tryz.ntmps124
  go_wp2_with fail
  go_loopw [13] (fun i wr => ∃ k : Nat, k ≤ a.size ∧ i = .int .i64 k ∧ Hid ((a.toList.take k).map upB = (c.toList.take k).map upB) ∧ Hid (Below w.heap.size w wr)) (fun i _ => a.size - (intOf i).toNat)
  case atStart => exact ⟨0, Nat.zero_le _, rfl, hid rfl, hid (Below.refl _ _)⟩
  case round =>
    obtain ⟨k, hk, rfl, HN, HB⟩ := hrel
    by_cases hlt : k < a.size
    · obtain ⟨x, hx⟩ : ∃ x, a[k] = x := ⟨_, rfl⟩
      have hlc : k < c.size := by have := HZ.out; omega
      obtain ⟨y, hy⟩ : ∃ y, c[k] = y := ⟨_, rfl⟩
      have HX := hid hx
      have HY := hid hy
      have C1 := hid (fun d os => Calls.regrown_of ((upper_any x (Go.Sort.grow (redrawn wr d) os)).mono fun _ _ h => ⟨h.1, h.2 ▸ Below.refl _ _⟩))
      have C2 := hid (fun d os => Calls.regrown_of ((upper_any y (Go.Sort.grow (redrawn wr d) os)).mono fun _ _ h => ⟨h.1, h.2 ▸ Below.refl _ _⟩))
      go_upto_region 6 with fail
      refine wp_region_quiet_below (by kernel_rfl) (by kernel_rfl) ?_
      repeat (go_big_quiet_step ((first | (go_at_call_of 132 (Value.int IntKind.u8 (x.toNat : Int)); exact C1.out _ _) | (go_at_call 132; exact C2.out _ _) | fail)))
      refine wpQuiet_nil ?_
      intro _ hw'
      obtain ⟨⟨dq, osq⟩, hw''⟩ := hw'
      subst hw''
      have B2 := hid (bq HB.out (below_regrown wr dq osq))
      clear C1 C2
      generalize Go.Sort.grow (redrawn wr dq) osq = w2 at B2 ⊢
      by_cases hu : upB x = upB y
      · have e : (((upB x).toNat : Int) == ((upB y).toNat : Int)) = true := by rw [hu]; simp
        have HU := hid hu
        clear hu
        go_wp2_with fail
        go_roundw
        case rel => exact ⟨k + 1, by omega, by go_num, hid (by rw [take_map a k hlt x HX.out, take_map c k hlc y HY.out, HN.out, HU.out]), B2⟩
        case measure => simp [intOf]; omega
      · have e : (((upB x).toNat : Int) == ((upB y).toNat : Int)) = false := by
          rw [beq_eq_false_iff_ne]
          intro h
          exact hu (UInt8.toNat_inj.1 (by omega))
        have HU := hid hu
        clear hu
        go_wp2_with fail
        go_ret
        refine ⟨ret_bool ?_, B2.out⟩
        unfold sameB
        rw [beq_eq_false_iff_ne]
        intro h
        have h1 := congrArg (·[k]?) h
        simp only [List.getElem?_map, at_list a k hlt, at_list c k hlc, HX.out, HY.out, Option.map_some] at h1
        exact HU.out (Option.some.inj h1)
    · have HE := hid (show k = a.size by omega)
      go_wp2_with fail
      go_ret
      refine ⟨ret_bool ?_, HB.out⟩
      have h := HN.out
      have h2 : k = c.size := HE.out.trans HZ.out
      rw [HE.out, take_all, ← HE.out, h2, take_all] at h
      unfold sameB
      rw [h]
      exact beq_self_eq_true _
end Go.Proofs.YtomkhhpigpilfaaGreatDoor
