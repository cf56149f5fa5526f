/- The cron package's getField: the items between commas, each read, their sets together. Walked. -/
import Derived.Test.YtomkhhpigpilfaaGreatDoorRange
import Derived.Test.YtomkhhpigpilfaaGreatDoorShelf
import Derived.Test.YtomkhhpigpilfaaGreatDoorFieldsP
import Derived.Deep.LoopGhost
set_option linter.unusedVariables false
set_option linter.unusedSimpArgs false
namespace Go.Proofs.YtomkhhpigpilfaaGreatDoor
open Go.RowKit

theorem comma_pred (w : World) : PredGrows Tryz.prog 76 #[] isComma w := by
  intro W x hx hb
  show Calls Tryz.prog 76 #[.int .i32 (x : Int)] W _
  go_enter Tryz.func76, Tryz.ntmps76
  go_wp2_with fail
  go_ret
  refine ⟨ret_b ?_, Below.refl _ _⟩
  show decide ((x : Int) = 44) = (x == 44)
  rw [Bool.eq_iff_iff, decide_eq_true_eq, beq_iff_eq]
  omega
theorem comma_enters (args : Array Value) (w : World) : (callFunc 76 args).run Tryz.prog w = .ok (.enter 76 args) w := by kernel_rfl

theorem fields_any (s : ByteArray) (w : World) (hs : s.size ≤ 2147483647) (ha : ascii s) (hf : full (cut 44 s.toList)) : Calls Tryz.prog 75 #[.string s, .func (.func 76) #[] #[]] w fun e w' =>
    ∃ (xs : List ByteArray) (g : Nat), e = .returned (.slice (some ⟨g, 0, none⟩) xs.length xs.length) ∧ xs.map (·.toList) = cut 44 s.toList ∧ StrsAt w' g xs ∧ Below w.heap.size w w' := by
  refine (Tryz.strings_FieldsFunc_grows 76 #[] comma_enters isComma s w (by omega) (comma_pred w)).mono ?_
  rintro e w' ⟨A, rfl, _, hown, hb⟩
  have hne : Lib.goFieldsP isComma s ≠ [] := by
    intro e
    have := fields_cut s ha hf
    rw [e] at this
    exact cut_ne 44 s.toList this.symm
  obtain ⟨g, c, hv, _, hst⟩ := strs_of_own hown hne
  injection hv with h1 h2 h3
  injection h1 with h1
  injection h1 with h1
  subst h1
  exact ⟨_, _, rfl, fields_cut s ha hf, hst, hb⟩

/-- The sets of the first items together. -/
def orAll (f : ByteArray → Nat) (xs : List ByteArray) : Nat := xs.foldl (fun a x => a ||| f x) 0
theorem orAll_snoc (f : ByteArray → Nat) (xs : List ByteArray) (x : ByteArray) : orAll f (xs ++ [x]) = orAll f xs ||| f x := by unfold orAll; rw [List.foldl_append]; rfl
theorem or_lt {a b : Nat} (ha : a < 18446744073709551616) (hb : b < 18446744073709551616) : a ||| b < 18446744073709551616 := by
  have : a ||| b < 2 ^ 64 := Nat.or_lt_two_pow ha hb
  exact this
theorem orAll_lt (f : ByteArray → Nat) (hf : ∀ x, f x < 18446744073709551616) (xs : List ByteArray) : orAll f xs < 18446744073709551616 := by
  have : ∀ (l : List ByteArray) (a : Nat), a < 18446744073709551616 → l.foldl (fun a x => a ||| f x) a < 18446744073709551616 := by
    intro l
    induction l with
    | nil => intro a h; exact h
    | cons x t ih => intro a h; exact ih _ (or_lt h (hf x))
  exact this xs 0 (by omega)

set_option maxHeartbeats 1600000 in
set_option maxRecDepth 100000 in
theorem field_any (s : ByteArray) (lo hi : Nat) (mv : Value) (f : ByteArray → Nat) (w : World) (M : World → Prop) (hM : Kept M) (hw : M w) (hs : s.size ≤ 2147483647) (ha : ascii s) (hfl : full (cut 44 s.toList)) (hf : ∀ x, f x < 18446744073709551616)
    (hR : ∀ x : ByteArray, x.toList ∈ cut 44 s.toList → ∀ w, M w → Calls Tryz.prog 77 #[.string x, .agg #[.int .u64 lo, .int .u64 hi, mv]] w fun e w' => ∃ v : Int, e = .returned (.tuple #[.int .u64 v, .nilIface]) ∧ v = (f x : Int) ∧ Below w.heap.size w w') :
    Calls Tryz.prog 48 #[.string s, .agg #[.int .u64 lo, .int .u64 hi, mv]] w fun e w' => ∃ xs : List ByteArray, xs.map (·.toList) = cut 44 s.toList ∧ e = .returned (.tuple #[.int .u64 (orAll f xs : Nat), .nilIface]) ∧ Below w.heap.size w w' := by
  have HS := hid hs
  have HA := hid ha
  have HF := hid hfl
  have HB := hid hf
  have HR := hid hR
  have HM := hid hM
  have HW := hid hw
  clear hs ha hfl hf hR hM hw
  go_enter Tryz.func48, Tryz.ntmps48
  go_wp2_with fail
  have R0 := hid (Blk.new w 100 #[.int .u64 lo, .int .u64 hi, mv])
  have B0 := hid (show Below w.heap.size w (w.alloc (.cells #[.int .u64 lo, .int .u64 hi, mv] 100)) from (Below.refl _ _).alloc (Nat.le_refl _) _)
  generalize (w.alloc (.cells #[.int .u64 lo, .int .u64 hi, mv] 100)) = w0 at R0 B0 ⊢
  go_at_call 75
  refine (fields_any s _ HS.out HA.out HF.out).mono ?_
  rintro e w1 ⟨xs, g, rfl, hx, hst, hb⟩
  have HX := hid hx
  have S1 := hid hst
  have R1 := hid (R0.out.below hb)
  have B1 := hid (bt B0.out hb)
  have M1 := hid (HM.out _ _ HW.out B1.out)
  have hlen : xs.length ≤ 2147483648 := by
    have h1 := congrArg List.length hx
    rw [List.length_map] at h1
    have h2 := cut_count 44 s.toList
    rw [size_list] at h2
    have h3 := HS.out
    omega
  clear hx hst hb
  go_wp2_with fail
  go_loopg [6, 16] xs.length (fun gf b i wx => ∃ k : Nat, k + gf = xs.length ∧ i = .int .i64 k ∧ b = .int .u64 (orAll f (xs.take k) : Nat) ∧ StrsAt wx g xs ∧ Blk wx w.heap.size 100 #[.int .u64 lo, .int .u64 hi, mv] ∧ Below w.heap.size w wx ∧ M wx)
  case atStart => exact ⟨0, by omega, rfl, rfl, S1.out, R1.out, B1.out, M1.out⟩
  case round =>
    obtain ⟨k, hk, rfl, rfl, hst, hr, hb, hm⟩ := hrel
    have S2 := hid hst
    have R2 := hid hr
    have B2 := hid hb
    have M2 := hid hm
    clear hst hr hb hm
    by_cases hlt : k < xs.length
    · obtain ⟨g', rfl⟩ : ∃ g', gk = g' + 1 := ⟨gk - 1, by omega⟩
      have hcell := S2.out k xs[k] (List.getElem?_eq_getElem hlt)
      have r0 : wr.cell? ⟨w.heap.size, 0, none⟩ = some (.int .u64 lo) := R2.out.cell 0
      have r1 : wr.cell? ⟨w.heap.size, 1, none⟩ = some (.int .u64 hi) := R2.out.cell 1
      have r2 : wr.cell? ⟨w.heap.size, 2, none⟩ = some mv := R2.out.cell 2
      have hmem : xs[k].toList ∈ cut 44 s.toList := by rw [← HX.out]; exact List.mem_map.2 ⟨_, List.getElem_mem hlt, rfl⟩
      have hor := u64_or_nat (orAll f (xs.take k)) (f xs[k]) (orAll_lt f HB.out _) (HB.out _)
      rw [← orAll_snoc, ← List.take_succ_eq_append_getElem hlt] at hor
      go_wp2_with (go_at_call 77; refine (HR.out _ hmem _ M2.out).mono ?_; rintro e w3 ⟨v, rfl, rfl, hb⟩; replace hb := hid hb)
      go_roundg g'
      case measure => omega
      case rel => exact ⟨k + 1, by omega, by go_num, by simp [hor], S2.out.below hb.out, R2.out.below hb.out, bt B2.out hb.out, HM.out _ _ M2.out hb.out⟩
    · go_wp2_with fail
      go_returns
      have e : xs.take k = xs := List.take_of_length_le (by omega)
      exact ⟨xs, HX.out, by rw [← e]; simp [List.take_take], B2.out⟩
end Go.Proofs.YtomkhhpigpilfaaGreatDoor
