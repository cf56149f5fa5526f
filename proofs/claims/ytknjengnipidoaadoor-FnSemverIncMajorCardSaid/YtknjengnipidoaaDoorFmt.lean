/- strconv.FormatUint at base 10, for every uint64; and the reference's Decimal. Walked: both give the decimal numeral. -/
import Derived.Test.YtknjengnipidoaaDoorKit
import Derived.Test.YtknjengnipidoaaDoorStrP
import Derived.Test.YtknjengnipidoaaDoorShelf
import Derived.Lib.AppendIntMem
import Derived.Lib.ItoaMem
import Derived.WalkKit
import Derived.BigCall
import Derived.BigGuard
import Derived.IntWalk
set_option linter.unusedVariables false
set_option linter.unusedSimpArgs false
namespace Go.Proofs.YtknjengnipidoaaDoor
open Go.Shelf Go.RowKit Go.Sort Go.Lib

/-- The table of powers of ten reads as it must, and goes on so. -/
abbrev Tab (w : World) : Prop := TabBelow Tryd.prog w.heap.size w "internal/strconv.uint64pow10" .u64 pow10Tab
theorem tab_below {w w' : World} (h : Tab w) (hb : Below w.heap.size w w') : Tab w' := fun w2 hb2 => h w2 (hb.trans (hb2.mono hb.size))

def dec (u : Nat) : ByteArray := ⟨(decDigits u).toArray⟩

theorem ifmt_small (i : Nat) (hi : i < 100) (w : World) : Calls Tryd.prog 44 #[.int .u64 i, .int .i64 10] w fun e w' => e = .returned (.string (dec i)) ∧ w = w' := by
  have h0 : (i : Int) < 100 := by omega
  have hw : IntKind.i64.wrap (i : Int) = (i : Int) := IntWalk.i64_in _ (by omega)
  go_enter Tryd.func44, Tryd.ntmps44
  go_wp2_with (go_at_call 49; refine (Tryd.internal_strconv_small i hi _).mono ?_; rintro e w' ⟨rfl, rfl⟩)
  go_ret
  exact ⟨rfl, rfl⟩

set_option maxHeartbeats 6400000 in
set_option maxRecDepth 100000 in
theorem ifmt_big (u : Nat) (h1 : 100 ≤ u) (hu64 : u < 18446744073709551616) (w : World) (htab : Tab w) : Calls Tryd.prog 44 #[.int .u64 u, .int .i64 10] w fun e w' => e = .returned (.string (dec u)) ∧ Below w.heap.size w w' := by
  have h0 : ¬ (u : Int) < 100 := by omega
  have hu1 : 1 ≤ u := by omega
  have hnd20 : nDigits u ≤ 20 := by have := numDigits_eq u hu1 hu64; split at this <;> omega
  have hal : Tryd.prog.arrayLen 57 = 24 := by kernel_rfl
  have hsl : ∀ W, (Instr.sliceAt 57 (.pointer (some ⟨w.heap.size, 0, none⟩)) none (some (.int .i64 (nDigits u : Int))) none).run Tryd.prog W = .ok (.slice (some ⟨w.heap.size, 0, none⟩) (nDigits u) 24) W := fun W => by
    rw [run_sliceAt_array_h W 57 ⟨w.heap.size, 0, none⟩ (by kernel_rfl) .i64 (nDigits u : Int) (by omega) (by rw [hal]; omega)]
    go_simp
  have hH0 := holds_zero0 w 57 (nDigits u) (by omega)
  have hfmt := Tryd.internal_strconv_formatBase10 w.heap.size 0 24 u (Array.replicate (nDigits u) 0) (w.alloc (.cells zeros24 57)) hH0 (by rw [Array.size_replicate]; exact lt_pow_nDigits u) hu64 (by rw [Array.size_replicate]; omega)
  rw [Array.size_replicate] at hfmt
  have HH0 := Lib.hid hH0
  have HT := Lib.hid ((htab _ ((Below.refl _ _).alloc (Nat.le_refl _) (.cells zeros24 57))))
  clear hH0 hal htab
  go_enter Tryd.func44, Tryd.ntmps44
  go_wp2_with (first
    | (go_at_call 50; refine (Tryd.internal_strconv_numDigits u hu1 hu64 _ HT.out).mono ?_; rintro e w' ⟨rfl, rfl⟩))
  go_at_call 51
  refine hfmt.mono ?_
  rintro e w' ⟨rfl, k, v', dk, rfl, hF⟩
  have hcv : (convert 49 9 (.slice (some ⟨w.heap.size, 0, none⟩) (nDigits u) 24)).run Tryd.prog ((putRow (fun (b : UInt8) => Value.int .u8 (b.toNat : Int)) (w.alloc (.cells zeros24 57)) w.heap.size 0 dk).drewN k) = .ok (.string (dec u)) ((putRow (fun (b : UInt8) => Value.int .u8 (b.toNat : Int)) (w.alloc (.cells zeros24 57)) w.heap.size 0 dk).drewN k) := by
    have h := run_convert_bytes_back (P := Tryd.prog) ((putRow (fun (b : UInt8) => Value.int .u8 (b.toNat : Int)) (w.alloc (.cells zeros24 57)) w.heap.size 0 dk).drewN k) 49 9 5 ⟨w.heap.size, 0, none⟩ 24 (decDigits u) Tryd.underlying49 Tryd.underlying5 Tryd.underlying9 (fun j hj => by
      rw [row_is_numeral hF j hj, add_plain, World.cell?_drewN]
      exact cell?_putRow (fun (b : UInt8) => Value.int .u8 (b.toNat : Int)) _ w.heap.size 0 _ dk HH0.out (by rw [hF.size, Array.size_replicate]) j (by rw [hF.size]; rw [decDigits_length] at hj; exact hj))
    rw [decDigits_length] at h
    exact h
  go_wp2
  go_ret
  obtain ⟨os, eo⟩ := fin_at w (.cells zeros24 57) dk k 0
  refine ⟨rfl, ?_⟩
  have := below_grow w.heap.size w (Nat.le_refl _) k os
  rw [← eo] at this
  exact this

theorem fmt_any (u : Nat) (hu64 : u < 18446744073709551616) (w : World) (htab : Tab w) : Calls Tryd.prog 33 #[.int .u64 u, .int .i64 10] w fun e w' => e = .returned (.string (dec u)) ∧ Below w.heap.size w w' := by
  by_cases h : u < 100
  · have H := Lib.hid h
    go_enter Tryd.func33, Tryd.ntmps33
    go_wp2_with (go_at_call 44; refine (ifmt_small u H.out _).mono ?_; rintro e w' ⟨rfl, rfl⟩)
    go_ret
    exact ⟨rfl, Below.refl _ _⟩
  · have H := Lib.hid (show 100 ≤ u by omega)
    have HT := Lib.hid htab
    have HU := Lib.hid hu64
    clear h htab hu64
    go_enter Tryd.func33, Tryd.ntmps33
    go_wp2_with (go_at_call 44; refine (ifmt_big u H.out HU.out _ HT.out).mono ?_; rintro e w' ⟨rfl, hb⟩; replace hb := Lib.hid hb)
    go_ret
    exact ⟨rfl, hb.out⟩
end Go.Proofs.YtknjengnipidoaaDoor
