/- The reference's Decimal: the decimal numeral, by recursion. Walked. -/
import Derived.Test.YtknjengnipidoaaDoorFmt
import Derived.Deep.RegionHeld3
import Derived.Deep.RegionWith
set_option linter.unusedVariables false
set_option linter.unusedSimpArgs false
namespace Go.Proofs.YtknjengnipidoaaDoor
open Go.RowKit

theorem conv_one (W : World) (g : Nat) (b : Nat) (hb : b < 256) (h : W.cell? ⟨g, 0, none⟩ = some (.int .u8 (b : Int))) : (convert 49 9 (.slice (some ⟨g, 0, none⟩) 1 1)).run Tryd.prog W = .ok (.string ⟨#[UInt8.ofNat b]⟩) W := by
  have e : ((UInt8.ofNat b).toNat : Int) = (b : Int) := by
    rw [UInt8.toNat_ofNat']
    have : b % 2 ^ 8 = b := Nat.mod_eq_of_lt hb
    rw [this]
  exact run_convert_bytes_back W _ _ 5 ⟨g, 0, none⟩ 1 [UInt8.ofNat b] Tryd.underlying49 Tryd.underlying5 Tryd.underlying9 (fun j hj => by
    have : j = 0 := by simp at hj; exact hj
    subst this
    show W.cell? ((⟨g, 0, none⟩ : Addr).add 0) = some (.int .u8 ((UInt8.ofNat b).toNat : Int))
    rw [Addr.add_zero', h, e])

theorem conv_after {W w' : World} {r : Nat} {B : UInt8} (hr : 48 + r < 256) (hB : UInt8.ofNat (48 + r) = B) (hb : Below W.heap.size W w') : ∀ g, W.cell? ⟨g, 0, none⟩ = some (.int .u8 (48 + (r : Int))) → (convert 49 9 (.slice (some ⟨g, 0, none⟩) 1 1)).run Tryd.prog w' = .ok (.string ⟨#[B]⟩) w' := fun g h => by
  rw [← hB]
  exact conv_one w' g (48 + r) hr (by rw [hb.cell (World.block_lt_of_cell? W _ h), h]; simp)

theorem bel_of {w X w' : World} (h : Below X.heap.size X w') (k : Below w.heap.size w X) : Below w.heap.size w w' := k.trans (h.mono k.size)

theorem dec_small (u : Nat) (h : u < 10) : dec u = ⟨#[UInt8.ofNat (48 + u)]⟩ := by
  unfold dec
  rw [Lib.decDigits_one h]
theorem dec_step (u : Nat) (h : ¬ u < 10) : dec u = dec (u / 10) ++ ⟨#[UInt8.ofNat (48 + u % 10)]⟩ := by
  apply bytes_inj
  rw [app_list, ByteArray.toList_eq, ByteArray.toList_eq, ByteArray.toList_eq]
  show (Lib.decDigits u) = Lib.decDigits (u / 10) ++ [UInt8.ofNat (48 + u % 10)]
  rw [Lib.decDigits, dif_neg h]
theorem dec_size (u : Nat) (h : u < 18446744073709551616) : (dec u).size ≤ 20 := by
  show (Lib.decDigits u).length ≤ 20
  rw [Lib.decDigits_length]
  by_cases h1 : 1 ≤ u
  · have := Lib.numDigits_eq u h1 h; split at this <;> omega
  · have e : u = 0 := by omega
    rw [e, Lib.nDigits_small (by omega)]; omega

theorem decimal_small (u : Nat) (h : u < 10) (w : World) : Calls Tryd.prog 24 #[.int .u64 u] w fun e w' => e = .returned (.string (dec u)) ∧ Below w.heap.size w w' := by
  have h0 : (u : Int) < 10 := by omega
  have e1 : IntKind.u8.wrap (u : Int) = (u : Int) := IntWalk.u8_in _ (by omega)
  have e2 : IntKind.u8.wrap (48 + (u : Int)) = 48 + (u : Int) := IntWalk.u8_in _ (by omega)
  have hc : (convert 49 9 (.slice (some ⟨w.heap.size, 0, none⟩) 1 1)).run Tryd.prog (w.alloc (.cells #[.int .u8 (48 + (u : Int))] 5)) = _ := conv_one _ w.heap.size (48 + u) (by omega) (by rw [(Blk.new w 5 #[.int .u8 (48 + (u : Int))]).cell 0]; simp)
  obtain ⟨B, hB⟩ : ∃ B, UInt8.ofNat (48 + u) = B := ⟨_, rfl⟩
  rw [hB] at hc
  rw [dec_small u h, hB]
  clear h hB
  go_enter Tryd.func24, Tryd.ntmps24
  go_wp2_with fail
  go_ret
  exact ⟨rfl, by go_grown⟩

set_option maxHeartbeats 3200000 in
set_option maxRecDepth 100000 in
theorem decimal_step (u : Nat) (h : ¬ u < 10) (hu : u < 18446744073709551616) (w : World) (ih : ∀ w, Calls Tryd.prog 24 #[.int .u64 (u / 10 : Nat)] w fun e w' => e = .returned (.string (dec (u / 10))) ∧ Below w.heap.size w w') :
    Calls Tryd.prog 24 #[.int .u64 u] w fun e w' => e = .returned (.string (dec u)) ∧ Below w.heap.size w w' := by
  have h0 : ¬ (u : Int) < 10 := by omega
  obtain ⟨q, hq⟩ : ∃ q, u / 10 = q := ⟨_, rfl⟩
  obtain ⟨r, hr⟩ : ∃ r, u % 10 = r := ⟨_, rfl⟩
  have hr9 : r < 10 := by omega
  have d1 : IntKind.u64.wrap ((u : Int) / 10) = (q : Int) := by
    rw [IntWalk.u64_in _ (by omega)]; omega
  have d2 : (u : Int).tmod 10 = (r : Int) := by
    rw [Int.tmod_eq_emod_of_nonneg (by omega)]; omega
  have e1 : IntKind.u8.wrap (r : Int) = (r : Int) := IntWalk.u8_in _ (by omega)
  have e2 : IntKind.u8.wrap (48 + (r : Int)) = 48 + (r : Int) := IntWalk.u8_in _ (by omega)
  have hc : ∀ (W : World) (g : Nat), W.cell? ⟨g, 0, none⟩ = some (.int .u8 (48 + (r : Int))) → (convert 49 9 (.slice (some ⟨g, 0, none⟩) 1 1)).run Tryd.prog W = .ok (.string ⟨#[UInt8.ofNat (48 + r)]⟩) W := fun W g h => conv_one W g (48 + r) (by omega) (by rw [h]; simp)
  obtain ⟨B, hB⟩ : ∃ B, UInt8.ofNat (48 + r) = B := ⟨_, rfl⟩
  rw [hB] at hc
  have hB48 := hid (show 48 + r < 256 by omega)
  have hc0 := hid hB
  have hz := dec_size q (by omega)
  have c1 : ¬ 9223372036854775807 < (dec q).size + 1 := by omega
  rw [dec_step u h, hq, hr, hB]
  rw [hq] at ih
  have IH := hid ih
  clear ih h hu hz hq hr hB
  go_enter Tryd.func24, Tryd.ntmps24
  go_wp2_with fail
  first | go_region_with (first | (go_at_call 24; refine (IH.out _).mono ?_; rintro e w' ⟨rfl, hb⟩; have hc2 := conv_after hB48.out hc0.out hb; replace hb := hid hb)) | fail
  all_goals
    go_wp2_with fail
    go_ret
    first | exact ⟨rfl, bel_of hb.out (by go_grown)⟩ | exact ⟨rfl, (bel_of hb.out (by go_grown)).alloc (bel_of hb.out (by go_grown)).size _⟩

theorem decimal_any : ∀ (u : Nat), u < 18446744073709551616 → ∀ w : World, Calls Tryd.prog 24 #[.int .u64 u] w fun e w' => e = .returned (.string (dec u)) ∧ Below w.heap.size w w' := by
  intro u
  induction u using Nat.strongRecOn with
  | _ u ih =>
    intro hu w
    by_cases h : u < 10
    · exact decimal_small u h w
    · exact decimal_step u h hu w (fun w => ih (u / 10) (by omega) (by omega) w)
end Go.Proofs.YtknjengnipidoaaDoor
