/- The law FnCronNumber: every number, with any zeros ahead, is read as it is. Walked and joined. -/
import Derived.Test.YtomkhhpigpilfaaGreatDoorKit
import Derived.Test.YtomkhhpigpilfaaGreatDoorStrP
import Derived.Test.YtomkhhpigpilfaaGreatDoorShelf
import Derived.Test.YtomkhhpigpilfaaGreatDoorNumP
import Derived.Lib.AppendIntMem
import Derived.Lib.AtoiErrMem
import Derived.WalkSpells
import Derived.IntWalk
set_option linter.unusedVariables false
set_option linter.unusedSimpArgs false
namespace Go.Proofs.YtomkhhpigpilfaaGreatDoor
open Go.RowKit

/-- The table of powers of ten reads as it must, and goes on so. -/
abbrev Tab (w : World) : Prop := Lib.TabBelow Tryz.prog w.heap.size w "internal/strconv.uint64pow10" .u64 Lib.pow10Tab
theorem tab_below {w w' : World} (h : Tab w) (hb : Below w.heap.size w w') : Tab w' := fun w2 hb2 => h w2 (hb.trans (hb2.mono hb.size))
theorem bt {w w1 w2 : World} (h : Below w.heap.size w w1) (k : Below w1.heap.size w1 w2) : Below w.heap.size w w2 := h.trans (k.mono h.size)

def dec (u : Nat) : ByteArray := ⟨(Lib.decDigits u).toArray⟩
theorem dec_size (u : Nat) (h : u < 18446744073709551616) : (dec u).size ≤ 20 := by
  show (Lib.decDigits u).length ≤ 20
  rw [Lib.decDigits_length]
  by_cases h1 : 1 ≤ u
  · have := Lib.numDigits_eq u h1 h; split at this <;> omega
  · have e : u = 0 := by omega
    rw [e, Lib.nDigits_small (by omega)]; omega
theorem dec_list (u : Nat) : (dec u).toList = Lib.decDigits u := by rw [ByteArray.toList_eq]; rfl

theorem itoa_any (n : Nat) (h : n ≤ 9223372036854775807) (w : World) (ht : Tab w) : Calls Tryz.prog 105 #[.int .i64 n] w fun e w' => e = .returned (.string (dec n)) ∧ Below w.heap.size w w' := by
  refine (Tryz.strconv_Itoa n (by omega) (by omega) w ht.here).mono ?_
  rintro e w' ⟨rfl, k, os, rfl⟩
  exact ⟨by rw [Lib.itoa_nonneg]; rfl, Lib.below_grow _ _ (Nat.le_refl _) k os⟩

theorem atoi_any (s : ByteArray) (v : Nat) (hz : s.size ≤ 9223372036854775806) (h : Lib.atoiAll s.toList = .ok (v : Int)) (w : World) : Calls Tryz.prog 100 #[.string s] w fun e w' => e = .returned (.tuple #[.int .i64 v, .nilIface]) ∧ Below w.heap.size w w' := by
  refine (Tryz.strconv_Atoi_ok s hz v (by rw [ByteArray.toList_eq] at h; exact h) w).mono ?_
  rintro e w' ⟨rfl, rfl | ⟨t, rfl⟩⟩
  · exact ⟨rfl, Below.refl _ _⟩
  · exact ⟨rfl, Lib.bytesWorld_below _ _ _⟩

theorem must_any (s : ByteArray) (v : Nat) (hz : s.size ≤ 9223372036854775806) (h : Lib.atoiAll s.toList = .ok (v : Int)) (hv : v ≤ 9223372036854775807) (w : World) : Calls Tryz.prog 90 #[.string s] w fun e w' => e = .returned (.tuple #[.int .u64 v, .nilIface]) ∧ Below w.heap.size w w' := by
  have h0 : ¬ (v : Int) < 0 := by omega
  have hw : IntKind.u64.wrap (v : Int) = (v : Int) := IntWalk.u64_in _ (by omega)
  have H := hid h
  have HZ := hid hz
  clear h hz hv
  go_enter Tryz.func90, Tryz.ntmps90
  go_wp2_with (go_at_call 100; refine (atoi_any s v HZ.out H.out _).mono ?_; rintro e w' ⟨rfl, hb⟩; replace hb := hid hb)
  go_returns
  exact ⟨rfl, hb.out⟩

/-- The numeral behind z zeros. -/
def zt (z n : Nat) : ByteArray := ⟨(List.replicate z 48 ++ Lib.decDigits n).toArray⟩
theorem zt_list (z n : Nat) : (zt z n).toList = List.replicate z 48 ++ Lib.decDigits n := by rw [ByteArray.toList_eq]; rfl
theorem zt_zero (n : Nat) : zt 0 n = dec n := rfl
theorem zt_succ (z n : Nat) : (⟨#[48]⟩ : ByteArray) ++ zt z n = zt (z + 1) n := by
  apply bytes_inj
  rw [app_list, zt_list, zt_list, ByteArray.toList_eq, List.replicate_succ]
  rfl
theorem zt_size (z n : Nat) (h : n < 18446744073709551616) : (zt z n).size ≤ z + 20 := by
  have := dec_size n h
  rw [← size_list, zt_list, List.length_append, List.length_replicate, ← dec_list, size_list]; omega
theorem zt_atoi (z n : Nat) (h : n ≤ 9223372036854775807) : Lib.atoiAll (zt z n).toList = .ok (n : Int) := by
  obtain ⟨h1, h2, h3⟩ := dec_digits n
  rw [zt_list, atoi_num _ (by simp [h2]) (zeros_all z _ h1) (by rw [zeros_val, h3]; omega), zeros_val, h3]

end Go.Proofs.YtomkhhpigpilfaaGreatDoor
