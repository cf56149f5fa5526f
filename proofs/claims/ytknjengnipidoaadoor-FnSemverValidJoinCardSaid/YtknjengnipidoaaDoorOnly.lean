/- The semver package's containsOnly: a closure over the set of bytes, handed to strings.IndexFunc. Walked; in plain words: every byte lies in the set. -/
import Derived.Test.YtknjengnipidoaaDoorSemD
import Derived.Test.YtknjengnipidoaaDoorShelf
import Derived.Shelf.Strings.FuncGrows
import Derived.Deep.LoopGhost
set_option linter.unusedVariables false
set_option linter.unusedSimpArgs false
namespace Go.Proofs.YtknjengnipidoaaDoor
open Go.RowKit

def inS (s : ByteArray) (R : Nat) : Bool := s.toList.any fun b => b.toNat == R
def asciiB (s : ByteArray) : Bool := s.toList.all fun b => decide (b.toNat < 128)
theorem ascii_at {s : ByteArray} (h : asciiB s = true) (k : Nat) (hk : k < s.size) : (s[k]'hk).toNat < 128 := by
  have := List.all_eq_true.1 h _ (List.mem_of_getElem? (at_list s k hk))
  simpa using this
theorem inS_high {s : ByteArray} (h : asciiB s = true) (R : Nat) (hR : 128 ≤ R) : inS s R = false := by
  rw [inS, List.any_eq_false]
  intro b hb
  have := List.all_eq_true.1 h b hb
  simp at this ⊢
  omega

set_option maxRecDepth 100000 in
theorem irune_fffd (s : ByteArray) (ha : asciiB s = true) (w : World) : Calls Tryd.prog 54 #[.string s, .int .i32 65533] w fun e w' =>
    e = .returned (.int .i64 (-1)) ∧ Below w.heap.size w w' := by
  have HA := hid ha
  clear ha
  go_enter Tryd.func54, Tryd.ntmps54
  go_wp2_with fail
  go_loopg [] s.size (fun gf wx => ∃ pos : Nat, wx.heap[w.heap.size]? = some (.stringIter s pos) ∧ Below w.heap.size w wx ∧ pos + gf = s.size)
  case atStart => exact ⟨0, World.iter_heap w s 0, (Below.refl _ w).alloc (Nat.le_refl _) _, by omega⟩
  case round =>
    obtain ⟨pos, hit, hbw, hfu⟩ := hrel
    by_cases hps : pos < s.size
    · obtain ⟨g', rfl⟩ : ∃ g', gk = g' + 1 := ⟨gk - 1, by omega⟩
      have hnx : ∀ ty, (Instr.next (.pointer (some ⟨w.heap.size, 0, none⟩)) true ty).run Tryd.prog wr = _ := fun ty => Lib.run_next_ascii_at wr w.heap.size s pos ty hit hps (ascii_at HA.out pos hps)
      have hit2 := Lib.iterAt_heap wr w.heap.size s pos (pos + 1) hit
      have hbw2 := Lib.below_iterAt hbw (k := w.heap.size) (Nat.le_refl _) s (pos + 1)
      obtain ⟨W, hWd⟩ : ∃ W, wr.iterAt w.heap.size s (pos + 1) = W := ⟨_, rfl⟩
      rw [hWd] at hnx hit2 hbw2
      have hl := ascii_at HA.out pos hps
      have hb : ((s[pos].toNat : Int) == 65533) = false := by rw [beq_eq_false_iff_ne]; omega
      go_wp2_with fail
      go_roundg g'
      case measure => omega
      case rel => exact ⟨pos + 1, hit2, hbw2, by omega⟩
    · have hnx : ∀ ty, (Instr.next (.pointer (some ⟨w.heap.size, 0, none⟩)) true ty).run Tryd.prog wr = _ := fun ty => Lib.run_next_end_at wr w.heap.size s pos ty hit hps
      go_wp2_with fail
      go_ret
      exact ⟨rfl, hbw⟩

set_option maxRecDepth 100000 in
theorem irune_ascii (s : ByteArray) (ha : asciiB s = true) (R : Nat) (hR : R ≤ 1114111) (w : World) : Calls Tryd.prog 54 #[.string s, .int .i32 (R : Int)] w fun e w' =>
    ∃ n : Int, e = .returned (.int .i64 n) ∧ Below w.heap.size w w' ∧ decide (0 ≤ n) = inS s R := by
  by_cases hsur : 55296 ≤ R ∧ R ≤ 57343
  · have HI := hid (inS_high ha R (by omega))
    obtain ⟨h1, h2⟩ := hsur
    have g0 : ((R : Int) == 65533) = false := by rw [beq_eq_false_iff_ne]; omega
    have g1 : ¬ (R : Int) < 0 := by omega
    have g2 : ¬ (1114111 : Int) < (R : Int) := by omega
    have g3 : (55296 : Int) ≤ (R : Int) := by omega
    have g4 : (R : Int) ≤ 57343 := by omega
    clear ha
    go_enter Tryd.func54, Tryd.ntmps54
    go_wp2_with fail
    go_ret
    exact ⟨_, rfl, Below.refl _ _, by rw [HI.out]; rfl⟩
  have HA := hid ha
  clear ha
  have hcut : (((R : Int) == 65533) = true) ∨ (((R : Int) == 65533) = false ∧ ¬ (R : Int) < 0 ∧ ¬ (1114111 : Int) < (R : Int) ∧ ¬ (55296 : Int) ≤ (R : Int)) ∨ (((R : Int) == 65533) = false ∧ ¬ (R : Int) < 0 ∧ ¬ (1114111 : Int) < (R : Int) ∧ (55296 : Int) ≤ (R : Int) ∧ ¬ (R : Int) ≤ 57343) := by
    by_cases h : R = 65533
    · left; rw [h]; rfl
    · right
      have g0 : ((R : Int) == 65533) = false := by rw [beq_eq_false_iff_ne]; omega
      by_cases h2 : 55296 ≤ R
      · right; exact ⟨g0, by omega, by omega, by omega, by omega⟩
      · left; exact ⟨g0, by omega, by omega, by omega⟩
  clear hsur
  rcases hcut with g0 | ⟨g0, g1, g2, g3⟩ | ⟨g0, g1, g2, g3, g4⟩
  · have e : R = 65533 := by have := beq_iff_eq.1 g0; omega
    subst e
    exact (irune_fffd s HA.out w).mono fun e w' ⟨he, hb⟩ => ⟨_, he, hb, by rw [inS_high HA.out _ (by omega)]; rfl⟩
  · go_enter Tryd.func54, Tryd.ntmps54
    go_wp2_with fail
    clear g0 g1 g2 g3
    go_loopg [] s.size (fun gf wx => ∃ pos : Nat, wx.heap[w.heap.size]? = some (.stringIter s pos) ∧ Below w.heap.size w wx ∧ ((s.toList.take pos).any fun b => b.toNat == R) = false ∧ pos + gf = s.size)
    case atStart => exact ⟨0, World.iter_heap w s 0, (Below.refl _ w).alloc (Nat.le_refl _) _, by simp, by omega⟩
    case round =>
      obtain ⟨pos, hit, hbw, hno, hfu⟩ := hrel
      have HN := hid hno
      clear hno
      by_cases hps : pos < s.size
      · obtain ⟨g', rfl⟩ : ∃ g', gk = g' + 1 := ⟨gk - 1, by omega⟩
        have hnx : ∀ ty, (Instr.next (.pointer (some ⟨w.heap.size, 0, none⟩)) true ty).run Tryd.prog wr = _ := fun ty => Lib.run_next_ascii_at wr w.heap.size s pos ty hit hps (ascii_at HA.out pos hps)
        have hit2 := Lib.iterAt_heap wr w.heap.size s pos (pos + 1) hit
        have hbw2 := Lib.below_iterAt hbw (k := w.heap.size) (Nat.le_refl _) s (pos + 1)
        obtain ⟨W, hWd⟩ : ∃ W, wr.iterAt w.heap.size s (pos + 1) = W := ⟨_, rfl⟩
        rw [hWd] at hnx hit2 hbw2
        by_cases h : s[pos].toNat = R
        · have hb : ((s[pos].toNat : Int) == (R : Int)) = true := by rw [h]; exact beq_self_eq_true _
          have HH := hid h
          clear h
          go_wp2_with fail
          go_ret
          refine ⟨_, rfl, hbw2, ?_⟩
          have : inS s R = true := by
            rw [inS, List.any_eq_true]
            exact ⟨_, List.mem_of_getElem? (at_list s pos hps), by rw [HH.out]; exact beq_self_eq_true _⟩
          rw [this]
          simp
        · have hb : ((s[pos].toNat : Int) == (R : Int)) = false := by rw [beq_eq_false_iff_ne]; omega
          have HH := hid h
          clear h
          go_wp2_with fail
          go_roundg g'
          case measure => omega
          case rel => exact ⟨pos + 1, hit2, hbw2, by rw [take_list s pos hps, List.any_append, HN.out]; simp [HH.out], by omega⟩
      · have hnx : ∀ ty, (Instr.next (.pointer (some ⟨w.heap.size, 0, none⟩)) true ty).run Tryd.prog wr = _ := fun ty => Lib.run_next_end_at wr w.heap.size s pos ty hit hps
        have e : pos = s.size := by omega
        go_wp2_with fail
        go_ret
        refine ⟨_, rfl, hbw, ?_⟩
        have h1 := HN.out
        rw [e, take_all] at h1
        rw [show inS s R = false from h1]
        rfl
  · have gb : ((R : Int) != 65533) = true := by rw [bne, g0]; rfl
    have gn : ¬ (R : Int) = 65533 := by intro e; rw [e] at g0; cases g0
    go_enter Tryd.func54, Tryd.ntmps54
    go_wp2_with fail
    clear g0 g1 g2 g3 g4 gb gn
    go_loopg [] s.size (fun gf wx => ∃ pos : Nat, wx.heap[w.heap.size]? = some (.stringIter s pos) ∧ Below w.heap.size w wx ∧ ((s.toList.take pos).any fun b => b.toNat == R) = false ∧ pos + gf = s.size)
    case atStart => exact ⟨0, World.iter_heap w s 0, (Below.refl _ w).alloc (Nat.le_refl _) _, by simp, by omega⟩
    case round =>
      obtain ⟨pos, hit, hbw, hno, hfu⟩ := hrel
      have HN := hid hno
      clear hno
      by_cases hps : pos < s.size
      · obtain ⟨g', rfl⟩ : ∃ g', gk = g' + 1 := ⟨gk - 1, by omega⟩
        have hnx : ∀ ty, (Instr.next (.pointer (some ⟨w.heap.size, 0, none⟩)) true ty).run Tryd.prog wr = _ := fun ty => Lib.run_next_ascii_at wr w.heap.size s pos ty hit hps (ascii_at HA.out pos hps)
        have hit2 := Lib.iterAt_heap wr w.heap.size s pos (pos + 1) hit
        have hbw2 := Lib.below_iterAt hbw (k := w.heap.size) (Nat.le_refl _) s (pos + 1)
        obtain ⟨W, hWd⟩ : ∃ W, wr.iterAt w.heap.size s (pos + 1) = W := ⟨_, rfl⟩
        rw [hWd] at hnx hit2 hbw2
        by_cases h : s[pos].toNat = R
        · have hb : ((s[pos].toNat : Int) == (R : Int)) = true := by rw [h]; exact beq_self_eq_true _
          have HH := hid h
          clear h
          go_wp2_with fail
          go_ret
          refine ⟨_, rfl, hbw2, ?_⟩
          have : inS s R = true := by
            rw [inS, List.any_eq_true]
            exact ⟨_, List.mem_of_getElem? (at_list s pos hps), by rw [HH.out]; exact beq_self_eq_true _⟩
          rw [this]
          simp
        · have hb : ((s[pos].toNat : Int) == (R : Int)) = false := by rw [beq_eq_false_iff_ne]; omega
          have HH := hid h
          clear h
          go_wp2_with fail
          go_roundg g'
          case measure => omega
          case rel => exact ⟨pos + 1, hit2, hbw2, by rw [take_list s pos hps, List.any_append, HN.out]; simp [HH.out], by omega⟩
      · have hnx : ∀ ty, (Instr.next (.pointer (some ⟨w.heap.size, 0, none⟩)) true ty).run Tryd.prog wr = _ := fun ty => Lib.run_next_end_at wr w.heap.size s pos ty hit hps
        have e : pos = s.size := by omega
        go_wp2_with fail
        go_ret
        refine ⟨_, rfl, hbw, ?_⟩
        have h1 := HN.out
        rw [e, take_all] at h1
        rw [show inS s R = false from h1]
        rfl

theorem crune_ascii (s : ByteArray) (ha : asciiB s = true) (R : Nat) (hR : R ≤ 1114111) (w : World) : Calls Tryd.prog 48 #[.string s, .int .i32 (R : Int)] w fun e w' =>
    e = .returned (.bool (inS s R)) ∧ Below w.heap.size w w' := by
  go_enter Tryd.func48, Tryd.ntmps48
  go_wp2_with (go_at_call 54; refine (irune_ascii s ha R hR _).mono ?_; rintro e w' ⟨n, rfl, hb, hn⟩; replace hb := hid hb; replace hn := hid hn)
  go_ret
  exact ⟨ret_b hn.out, hb.out⟩

theorem only_pred (s : ByteArray) (ha : asciiB s = true) (g : Nat) (w : World) (hc : w.cell? ⟨g, 0, none⟩ = some (.string s)) (hg : g < w.heap.size) : PredGrows Tryd.prog 47 #[.pointer (some ⟨g, 0, none⟩)] (fun R => !inS s R) w := by
  intro W x hx hb
  have hcW : W.cell? ⟨g, 0, none⟩ = some (.string s) := (hb.cell (p := ⟨g, 0, none⟩) hg).trans hc
  clear hc hb
  have HA := hid ha
  clear ha
  show Calls Tryd.prog 47 #[.int .i32 (x : Int), .pointer (some ⟨g, 0, none⟩)] W _
  go_enter Tryd.func47, Tryd.ntmps47
  go_wp2_with (go_at_call 48; refine (crune_ascii s HA.out x hx _).mono ?_; rintro e w' ⟨rfl, hb⟩; replace hb := hid hb)
  go_ret
  exact ⟨rfl, hb.out⟩

theorem only_enters (args : Array Value) (w : World) : (callFunc 47 args).run Tryd.prog w = .ok (.enter 47 args) w := by kernel_rfl

theorem decode_high (s : ByteArray) (pos : Nat) (h : pos < s.size) (ha : 128 ≤ (s[pos]'h).toNat) : 128 ≤ (Utf8.decode s pos).1 := by
  have e : s.get! (pos + 0) = s[pos]'h := by
    show s.get! pos = _
    simp [ByteArray.get!, getElem!_pos, h]
    rfl
  simp only [Utf8.decode, e, Utf8.runeError]
  rw [if_neg (by omega)]
  repeat' split
  all_goals first | (simp only []; omega) | (simp_all; omega) | simp_all

theorem idx_none (p : Nat → Bool) (hp : ∀ R, 128 ≤ R → p R = true) (s : ByteArray) : ∀ f pos : Nat, s.size ≤ pos + f → ((Lib.idxFuncFrom p true s f pos == -1) = (s.toList.drop pos).all fun b => !p b.toNat)
  | 0, pos, h => by
    have e : s.toList.drop pos = [] := List.drop_eq_nil_of_le (by rw [size_list]; omega)
    rw [e]; rfl
  | f + 1, pos, h => by
    by_cases hps : pos < s.size
    · rw [drop_list s pos hps, List.all_cons]
      by_cases hl : (s[pos]'hps).toNat < 128
      · have hd := decode_ascii s pos hps hl
        simp only [Lib.idxFuncFrom, hps, if_true, hd]
        cases hpc : p (s[pos]'hps).toNat
        · rw [if_neg (by simp)]
          rw [idx_none p hp s f (pos + 1) (by omega)]
          simp
        · rw [if_pos rfl]
          simp only [Bool.not_true, Bool.false_and]
          rw [beq_eq_false_iff_ne]; omega
      · have hd := decode_high s pos hps (by omega)
        simp only [Lib.idxFuncFrom, hps, if_true, hp _ hd]
        rw [hp _ (by omega : 128 ≤ (s[pos]'hps).toNat)]
        simp only [Bool.not_true, Bool.false_and]
        rw [beq_eq_false_iff_ne]; omega
    · have e : s.toList.drop pos = [] := List.drop_eq_nil_of_le (by rw [size_list]; omega)
      rw [e, Lib.idxFuncFrom_end p true s (f + 1) pos hps]; rfl

theorem only_eq (c s : ByteArray) (ha : asciiB c = true) : (Lib.idxFunc (fun R => !inS c R) true s == -1) = s.toList.all fun b => inS c b.toNat := by
  unfold Lib.idxFunc
  rw [idx_none (fun R => !inS c R) (fun R hR => by rw [inS_high ha R hR]; rfl) s s.size 0 (by omega), List.drop_zero]
  simp only [Bool.not_not]

theorem only_any (s c : ByteArray) (ha : asciiB c = true) (w : World) : Calls Tryd.prog 43 #[.string s, .string c] w fun e w' =>
    e = .returned (.bool (s.toList.all fun b => inS c b.toNat)) ∧ Below w.heap.size w w' := by
  have hmf : ∀ (fn : Fn) (first cap : Array Value) (w : World), (Instr.makeFunc fn first cap).run Tryd.prog w = .ok (.func fn first cap) w := fun _ _ _ _ => rfl
  have HA := hid ha
  clear ha
  go_enter Tryd.func43, Tryd.ntmps43
  go_wp2_with fail
  go_at_call 46
  refine (Tryd.strings_IndexFunc_grows 47 #[.pointer (some ⟨w.heap.size, 0, none⟩)] only_enters (fun R => !inS c R) s _ (only_pred c HA.out w.heap.size _ ((Blk.new w _ #[.string c]).cell 0) (Blk.new w _ #[.string c]).lt)).mono ?_
  rintro e w1 ⟨rfl, hb⟩
  replace hb := hid hb
  go_wp2_with fail
  go_ret
  exact ⟨ret_b (only_eq c s HA.out), ((Below.refl _ w).alloc (Nat.le_refl _) _).trans (hb.out.mono (Nat.le_of_lt (Blk.new w _ #[.string c]).lt))⟩

def numC : ByteArray := ⟨#[48, 49, 50, 51, 52, 53, 54, 55, 56, 57]⟩
def allC : ByteArray := ⟨#[97, 98, 99, 100, 101, 102, 103, 104, 105, 106, 107, 108, 109, 110, 111, 112, 113, 114, 115, 116, 117, 118, 119, 120, 121, 122, 65, 66, 67, 68, 69, 70, 71, 72, 73, 74, 75, 76, 77, 78, 79, 80, 81, 82, 83, 84, 85, 86, 87, 88, 89, 90, 45, 48, 49, 50, 51, 52, 53, 54, 55, 56, 57]⟩
def byteAll (f : UInt8 → Bool) : Bool := (List.range 256).all fun n => f (UInt8.ofNat n)
theorem byteAll_at {f : UInt8 → Bool} (h : byteAll f = true) (b : UInt8) : f b = true := by
  have := List.all_eq_true.1 h b.toNat (List.mem_range.2 b.toNat_lt)
  rwa [UInt8.ofNat_toNat] at this
theorem mk_list (a : Array UInt8) : (⟨a⟩ : ByteArray).toList = a.toList := by rw [ByteArray.toList_eq]
theorem num_dig (b : UInt8) : inS numC b.toNat = isDig b := by
  have h : byteAll (fun b => (numC.data.toList.any fun c => c.toNat == b.toNat) == isDig b) = true := by kernel_rfl
  have := beq_iff_eq.1 (byteAll_at h b)
  rw [inS, show numC.toList = numC.data.toList from mk_list _]
  exact this
theorem all_id (b : UInt8) : inS allC b.toNat = isId b := by
  have h : byteAll (fun b => (allC.data.toList.any fun c => c.toNat == b.toNat) == isId b) = true := by kernel_rfl
  have := beq_iff_eq.1 (byteAll_at h b)
  rw [inS, show allC.toList = allC.data.toList from mk_list _]
  exact this
theorem num_ascii : asciiB numC = true := by rw [asciiB, show numC.toList = numC.data.toList from mk_list _]; decide
theorem all_ascii : asciiB allC = true := by rw [asciiB, show allC.toList = allC.data.toList from mk_list _]; decide

theorem only_num (s : ByteArray) (w : World) : Calls Tryd.prog 43 #[.string s, .string numC] w fun e w' => e = .returned (.bool (s.toList.all isDig)) ∧ Below w.heap.size w w' :=
  (only_any s numC num_ascii w).mono fun e w' ⟨he, hb⟩ => ⟨by rw [he]; simp only [num_dig], hb⟩
theorem only_id (s : ByteArray) (w : World) : Calls Tryd.prog 43 #[.string s, .string allC] w fun e w' => e = .returned (.bool (s.toList.all isId)) ∧ Below w.heap.size w w' :=
  (only_any s allC all_ascii w).mono fun e w' ⟨he, hb⟩ => ⟨by rw [he]; simp only [all_id], hb⟩
end Go.Proofs.YtknjengnipidoaaDoor
