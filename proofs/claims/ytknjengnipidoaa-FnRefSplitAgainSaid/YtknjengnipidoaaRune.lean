/- The references' package: the cut at the first slash, and searches for runes, walked. -/
import Derived.Test.YtknjengnipidoaaFst
import Derived.Shelf.GgClosure.StringsIndexFunc
import Derived.Deep.LoopGhost
set_option linter.unusedVariables false
set_option linter.unusedSimpArgs false
namespace Go.Proofs.Ytknjengnipidoaa
open Go.RowKit

theorem rcut_some (s : ByteArray) (k : Nat) (w : World) (hs : s.size ≤ 2147483647) (hF : Fst 47 s k) : Calls Try.prog 36 #[.string s, .string ⟨#[47]⟩] w fun e w' =>
    e = .returned (.tuple #[.string (s.extract 0 k), .string (s.extract (k + 1) s.size), .bool true]) ∧ w' = w.drew := by
  have hk := hF.range
  have hk0 : (0 : Int) ≤ (k : Int) := by omega
  have hsl := slice_from 9 Try.underlying9 s k (by omega)
  have hsm := slice_to 9 Try.underlying9 s k (by omega)
  have hw : IntKind.i64.wrap ((k : Int) + 1) = (k : Int) + 1 := IntWalk.i64_in _ (by omega)
  have HF := hid hF
  clear hF
  go_enter Try.func36, Try.ntmps36
  go_wp2_with (go_at_call 40; refine (rindex_any s _ hs).mono ?_; rintro e w' ⟨n, rfl, rfl, h⟩; obtain rfl := h.same HF.out; clear h)
  go_region
  go_wp2
  go_returns
  exact ⟨rfl, rfl⟩

theorem rcut_none (s : ByteArray) (w : World) (hs : s.size ≤ 2147483647) (hF : Fst 47 s (-1)) : Calls Try.prog 36 #[.string s, .string ⟨#[47]⟩] w fun e w' =>
    e = .returned (.tuple #[.string s, .string ByteArray.empty, .bool false]) ∧ w = w' := by
  have HF := hid hF
  clear hF
  go_enter Try.func36, Try.ntmps36
  go_wp2_with (go_at_call 40; refine (rindex_any s _ hs).mono ?_; rintro e w' ⟨n, rfl, rfl, h⟩; obtain rfl := h.same HF.out; clear h)
  go_returns
  exact ⟨rfl, rfl⟩

def isSl (r : Nat) : Bool := r == 47
def isPt (r : Nat) : Bool := r == 46 || r == 58

theorem irune_any (s : ByteArray) (w : World) : Calls Try.prog 42 #[.string s, .int .i32 47] w fun e w' =>
    e = .returned (.int .i64 (Lib.idxFunc isSl true s)) ∧ Below w.heap.size w w' := by
  go_enter Try.func42, Try.ntmps42
  go_wp2
  go_loopg [] s.size (fun gf wx => ∃ pos : Nat, wx.heap[w.heap.size]? = some (.stringIter s pos) ∧ Below w.heap.size w wx ∧ Lib.idxFuncFrom isSl true s gf pos = Lib.idxFunc isSl true s ∧ s.size ≤ pos + gf)
  case atStart => exact ⟨0, World.iter_heap w s 0, (Below.refl _ w).alloc (Nat.le_refl _) _, rfl, by omega⟩
  case round =>
    obtain ⟨pos, hit, hbw, hleft, hfu⟩ := hrel
    by_cases hps : pos < s.size
    · obtain ⟨g', rfl⟩ : ∃ g', gk = g' + 1 := ⟨gk - 1, by omega⟩
      have hnx : ∀ ty, (Instr.next (.pointer (some ⟨w.heap.size, 0, none⟩)) true ty).run Try.prog wr = _ := fun ty => Lib.run_next_any_at wr w.heap.size s pos ty hit hps
      have hwd := Lib.width_pos s pos
      obtain ⟨R, hR⟩ : ∃ R, (Utf8.decode s pos).1 = R := ⟨_, rfl⟩
      obtain ⟨K, hK⟩ : ∃ K, (Utf8.decode s pos).2 = K := ⟨_, rfl⟩
      simp only [Lib.idxFuncFrom, hps, if_true, hR, hK] at hleft
      rw [hR, hK] at hnx
      rw [hK] at hwd
      have hit2 := Lib.iterAt_heap wr w.heap.size s pos (pos + K) hit
      have hbw2 := Lib.below_iterAt hbw (k := w.heap.size) (Nat.le_refl _) s (pos + K)
      obtain ⟨W, hWd⟩ : ∃ W, wr.iterAt w.heap.size s (pos + K) = W := ⟨_, rfl⟩
      rw [hWd] at hnx hit2 hbw2
      by_cases h : R = 47
      · have hb : ((R : Int) == 47) = true := by rw [h]; rfl
        have hp : isSl R = true := by rw [h]; rfl
        rw [hp] at hleft
        have HL := hid hleft
        clear hleft
        go_wp2_with fail
        go_ret
        exact ⟨ret_i (by rw [← HL.out]; rfl), hbw2⟩
      · have hb : ((R : Int) == 47) = false := by rw [beq_eq_false_iff_ne]; omega
        have hp : isSl R = false := by unfold isSl; rw [beq_eq_false_iff_ne]; exact h
        rw [hp] at hleft
        have HL := hid hleft
        clear hleft
        go_wp2_with fail
        go_roundg g'
        case measure => omega
        case rel => exact ⟨pos + K, hit2, hbw2, by simpa using HL.out, by omega⟩
    · have hnx : ∀ ty, (Instr.next (.pointer (some ⟨w.heap.size, 0, none⟩)) true ty).run Try.prog wr = _ := fun ty => Lib.run_next_end_at wr w.heap.size s pos ty hit hps
      rw [Lib.idxFuncFrom_end isSl true s gk pos hps] at hleft
      have HL := hid hleft
      clear hleft
      go_wp2_with fail
      go_ret
      exact ⟨ret_i HL.out, hbw⟩

theorem crune_any (s : ByteArray) (w : World) : Calls Try.prog 39 #[.string s, .int .i32 47] w fun e w' =>
    e = .returned (.bool (decide (0 ≤ Lib.idxFunc isSl true s))) ∧ Below w.heap.size w w' := by
  go_enter Try.func39, Try.ntmps39
  go_wp2_with (go_at_call 42; refine (irune_any s _).mono ?_; rintro e w' ⟨rfl, hb⟩; replace hb := hid hb)
  go_ret
  exact ⟨rfl, hb.out⟩

theorem iany_any (s : ByteArray) (w : World) : Calls Try.prog 41 #[.string s, .string ⟨#[46, 58]⟩] w fun e w' =>
    e = .returned (.int .i64 (Lib.idxFunc isPt true s)) ∧ Below w.heap.size w w' := by
  go_enter Try.func41, Try.ntmps41
  go_wp2
  go_loopg [] s.size (fun gf wx => ∃ pos : Nat, wx.heap[w.heap.size]? = some (.stringIter s pos) ∧ Below w.heap.size w wx ∧ Lib.idxFuncFrom isPt true s gf pos = Lib.idxFunc isPt true s ∧ s.size ≤ pos + gf)
  case atStart => exact ⟨0, World.iter_heap w s 0, (Below.refl _ w).alloc (Nat.le_refl _) _, rfl, by omega⟩
  case round =>
    obtain ⟨pos, hit, hbw, hleft, hfu⟩ := hrel
    by_cases hps : pos < s.size
    · obtain ⟨g', rfl⟩ : ∃ g', gk = g' + 1 := ⟨gk - 1, by omega⟩
      have hnx : ∀ ty, (Instr.next (.pointer (some ⟨w.heap.size, 0, none⟩)) true ty).run Try.prog wr = _ := fun ty => Lib.run_next_any_at wr w.heap.size s pos ty hit hps
      have hwd := Lib.width_pos s pos
      obtain ⟨R, hR⟩ : ∃ R, (Utf8.decode s pos).1 = R := ⟨_, rfl⟩
      obtain ⟨K, hK⟩ : ∃ K, (Utf8.decode s pos).2 = K := ⟨_, rfl⟩
      simp only [Lib.idxFuncFrom, hps, if_true, hR, hK] at hleft
      rw [hR, hK] at hnx
      rw [hK] at hwd
      have hit2 := Lib.iterAt_heap wr w.heap.size s pos (pos + K) hit
      have hbw2 := Lib.below_iterAt hbw (k := w.heap.size) (Nat.le_refl _) s (pos + K)
      obtain ⟨W, hWd⟩ : ∃ W, wr.iterAt w.heap.size s (pos + K) = W := ⟨_, rfl⟩
      rw [hWd] at hnx hit2 hbw2
      have hltW : w.heap.size < W.heap.size := (Array.getElem?_eq_some_iff.1 hit2).1
      have n0 : ∀ ty, (Instr.next (.pointer (some ⟨W.heap.size, 0, none⟩)) true ty).run Try.prog (W.iter ⟨#[46, 58]⟩ 0) = .ok (.tuple #[.bool true, .int .i64 0, .int .i32 46]) (W.iter ⟨#[46, 58]⟩ 1) := fun ty => run_next_ascii W ⟨#[46, 58]⟩ 0 ty (by decide) (by decide)
      have n1 : ∀ ty, (Instr.next (.pointer (some ⟨W.heap.size, 0, none⟩)) true ty).run Try.prog (W.iter ⟨#[46, 58]⟩ 1) = .ok (.tuple #[.bool true, .int .i64 1, .int .i32 58]) (W.iter ⟨#[46, 58]⟩ 2) := fun ty => run_next_ascii W ⟨#[46, 58]⟩ 1 ty (by decide) (by decide)
      have n2 : ∀ ty, (Instr.next (.pointer (some ⟨W.heap.size, 0, none⟩)) true ty).run Try.prog (W.iter ⟨#[46, 58]⟩ 2) = .ok (.tuple #[.bool false]) (W.iter ⟨#[46, 58]⟩ 2) := fun ty => run_next_end W ⟨#[46, 58]⟩ 2 ty (by decide)
      have iold : ∀ q, (W.iter ⟨#[46, 58]⟩ q).heap[w.heap.size]? = some (.stringIter s (pos + K)) := fun q => (Lib.alloc_old W _ _ hltW).trans hit2
      have iblw : ∀ q, Below w.heap.size w (W.iter ⟨#[46, 58]⟩ q) := fun q => hbw2.alloc (Nat.le_of_lt hltW) _
      by_cases h : R = 46
      · have hb : ((R : Int) == 46) = true := by rw [h]; rfl
        have hp : isPt R = true := by rw [h]; rfl
        rw [hp] at hleft
        have HL := hid hleft
        clear hleft
        go_wp2_with fail
        go_rounds 1
        go_ret
        exact ⟨ret_i (by rw [← HL.out]; rfl), iblw _⟩
      by_cases h2 : R = 58
      · have hb : ((R : Int) == 58) = true := by rw [h2]; rfl
        have hp : isPt R = true := by rw [h2]; rfl
        rw [hp] at hleft
        have HL := hid hleft
        clear hleft
        go_wp2_with fail
        go_rounds 2
        go_ret
        exact ⟨ret_i (by rw [← HL.out]; rfl), iblw _⟩
      · have hb : ((R : Int) == 46) = false := by rw [beq_eq_false_iff_ne]; omega
        have hb2 : ((R : Int) == 58) = false := by rw [beq_eq_false_iff_ne]; omega
        have hp : isPt R = false := by unfold isPt; simp [h, h2]
        rw [hp] at hleft
        have HL := hid hleft
        clear hleft
        go_wp2_with fail
        go_rounds 3
        go_roundg g'
        case measure => omega
        case rel => exact ⟨pos + K, iold _, iblw _, by simpa using HL.out, by omega⟩
    · have hnx : ∀ ty, (Instr.next (.pointer (some ⟨w.heap.size, 0, none⟩)) true ty).run Try.prog wr = _ := fun ty => Lib.run_next_end_at wr w.heap.size s pos ty hit hps
      rw [Lib.idxFuncFrom_end isPt true s gk pos hps] at hleft
      have HL := hid hleft
      clear hleft
      go_wp2_with fail
      go_ret
      exact ⟨ret_i HL.out, hbw⟩

theorem cany_any (s : ByteArray) (w : World) : Calls Try.prog 37 #[.string s, .string ⟨#[46, 58]⟩] w fun e w' =>
    e = .returned (.bool (decide (0 ≤ Lib.idxFunc isPt true s))) ∧ Below w.heap.size w w' := by
  go_enter Try.func37, Try.ntmps37
  go_wp2_with (go_at_call 41; refine (iany_any s _).mono ?_; rintro e w' ⟨rfl, hb⟩; replace hb := hid hb)
  go_ret
  exact ⟨rfl, hb.out⟩
end Go.Proofs.Ytknjengnipidoaa
