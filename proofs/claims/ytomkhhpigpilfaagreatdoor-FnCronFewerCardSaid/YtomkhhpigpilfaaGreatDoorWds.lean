/- The words of a text of ASCII: zzSpace, zzFields, walked. -/
import Derived.Test.YtomkhhpigpilfaaGreatDoorCSplit
import Derived.Test.YtomkhhpigpilfaaGreatDoorApp
import Derived.Deep.LoopGhost
import Derived.WalkSmall
set_option linter.unusedVariables false
set_option linter.unusedSimpArgs false
namespace Go.Proofs.YtomkhhpigpilfaaGreatDoor
open Go.RowKit

/-- White space of ASCII. -/
def isSp (b : UInt8) : Bool := b.toNat == 9 || b.toNat == 10 || b.toNat == 11 || b.toNat == 12 || b.toNat == 13 || b.toNat == 32
/-- The words found in the first bytes, and where the word under way begins. -/
def stF (s : ByteArray) : Nat → List ByteArray × Int
  | 0 => ([], -1)
  | n + 1 => if isSp (s.get! n) then (if 0 ≤ (stF s n).2 then ((stF s n).1 ++ [s.extract (stF s n).2.toNat n], -1) else stF s n) else (if (stF s n).2 < 0 then ((stF s n).1, (n : Int)) else stF s n)
/-- The words of a text. -/
def wds (s : ByteArray) : List ByteArray := if 0 ≤ (stF s s.size).2 then (stF s s.size).1 ++ [s.extract (stF s s.size).2.toNat s.size] else (stF s s.size).1

theorem space_any (R : Nat) (h : R < 128) (b : UInt8) (hb : b.toNat = R) (w : World) : Calls Tryz.prog 69 #[.int .i32 R] w fun e w' => e = .returned (.bool (isSp b)) ∧ w = w' := by
  by_cases h9 : R = 9
  · subst h9
    have e : isSp b = true := by unfold isSp; simp [hb]
    rw [e]
    go_enter Tryz.func69, Tryz.ntmps69
    go_wp2_with fail
    go_ret
    exact ⟨rfl, rfl⟩
  by_cases h10 : R = 10
  · subst h10
    have e : isSp b = true := by unfold isSp; simp [hb]
    rw [e]
    go_enter Tryz.func69, Tryz.ntmps69
    go_wp2_with fail
    go_ret
    exact ⟨rfl, rfl⟩
  by_cases h11 : R = 11
  · subst h11
    have e : isSp b = true := by unfold isSp; simp [hb]
    rw [e]
    go_enter Tryz.func69, Tryz.ntmps69
    go_wp2_with fail
    go_ret
    exact ⟨rfl, rfl⟩
  by_cases h12 : R = 12
  · subst h12
    have e : isSp b = true := by unfold isSp; simp [hb]
    rw [e]
    go_enter Tryz.func69, Tryz.ntmps69
    go_wp2_with fail
    go_ret
    exact ⟨rfl, rfl⟩
  by_cases h13 : R = 13
  · subst h13
    have e : isSp b = true := by unfold isSp; simp [hb]
    rw [e]
    go_enter Tryz.func69, Tryz.ntmps69
    go_wp2_with fail
    go_ret
    exact ⟨rfl, rfl⟩
  by_cases h32 : R = 32
  · subst h32
    have e : isSp b = true := by unfold isSp; simp [hb]
    rw [e]
    go_enter Tryz.func69, Tryz.ntmps69
    go_wp2_with fail
    go_ret
    exact ⟨rfl, rfl⟩
  have e : isSp b = false := by unfold isSp; simp [hb, h9, h10, h11, h12, h13, h32]
  rw [e]
  have e9 : ((R : Int) == 9) = false := by rw [beq_eq_false_iff_ne]; omega
  have e10 : ((R : Int) == 10) = false := by rw [beq_eq_false_iff_ne]; omega
  have e11 : ((R : Int) == 11) = false := by rw [beq_eq_false_iff_ne]; omega
  have e12 : ((R : Int) == 12) = false := by rw [beq_eq_false_iff_ne]; omega
  have e13 : ((R : Int) == 13) = false := by rw [beq_eq_false_iff_ne]; omega
  have e32 : ((R : Int) == 32) = false := by rw [beq_eq_false_iff_ne]; omega
  have f0 : ((R : Int) == 133) = false := by rw [beq_eq_false_iff_ne]; omega
  have f1 : ((R : Int) == 160) = false := by rw [beq_eq_false_iff_ne]; omega
  have f2 : ((R : Int) == 5760) = false := by rw [beq_eq_false_iff_ne]; omega
  have f3 : ((R : Int) == 8232) = false := by rw [beq_eq_false_iff_ne]; omega
  have f4 : ((R : Int) == 8233) = false := by rw [beq_eq_false_iff_ne]; omega
  have f5 : ((R : Int) == 8239) = false := by rw [beq_eq_false_iff_ne]; omega
  have f6 : ((R : Int) == 8287) = false := by rw [beq_eq_false_iff_ne]; omega
  have f7 : ((R : Int) == 12288) = false := by rw [beq_eq_false_iff_ne]; omega
  have f8 : decide ((8192 : Int) ≤ (R : Int)) = false := by rw [decide_eq_false_iff_not]; omega
  have f9 : ¬ (8192 : Int) ≤ (R : Int) := by omega
  clear h9 h10 h11 h12 h13 h32 h
  go_enter Tryz.func69, Tryz.ntmps69
  go_wp2_with fail
  go_ret
  exact ⟨rfl, rfl⟩

theorem wsl_ft (s : ByteArray) (n : Int) (k : Nat) (h0 : 0 ≤ n) (h1 : n ≤ k) (h : k ≤ s.size) (w : World) : (Instr.slice 9 (.string s) (some (.int .i64 n)) (some (.int .i64 (k : Int))) none).run Tryz.prog w = .ok (.string (s.extract n.toNat k)) w := by
  have := run_slice_string (P := Tryz.prog) w 9 s .i64 .i64 n (k : Int) Tryz.underlying9 h0 h1 (by omega)
  simpa using this
theorem wsl_fe (s : ByteArray) (n : Int) (h0 : 0 ≤ n) (h1 : n ≤ s.size) (w : World) : (Instr.slice 9 (.string s) (some (.int .i64 n)) none none).run Tryz.prog w = .ok (.string (s.extract n.toNat s.size)) w := by
  rw [run_slice_string_from_if _ _ _ _ _ Tryz.underlying9, if_pos ⟨by omega, by omega⟩]

/-- What the loop of zzFields holds behind k bytes. -/
structure FRel (s : ByteArray) (w : World) (k : Nat) (xs : List ByteArray) (n : Int) (v : Value) (wr : World) : Prop where
  it : wr.heap[w.heap.size]? = some (.stringIter s k)
  below : Below w.heap.size w wr
  sz : w.heap.size + 1 ≤ wr.heap.size
  own : wr.ownsRow (w.heap.size + 1) 9 1 v xs.length (xs.map Value.string)
  st : stF s k = (xs, n)
  lo : -1 ≤ n
  hi : n ≤ k
  len : xs.length ≤ k
  ks : k ≤ s.size
theorem get_bang (s : ByteArray) (k : Nat) (h : k < s.size) : s.get! k = s[k] := by
  show s.data[k]! = s.data[k]
  exact getElem!_pos s.data k h

set_option maxHeartbeats 3200000 in
set_option maxRecDepth 100000 in
theorem words_any (s : ByteArray) (ha : ∀ k (h : k < s.size), (s[k]'h).toNat < 128) (w : World) (hs : s.size ≤ 400000) : Calls Tryz.prog 45 #[.string s] w fun e w' =>
    ∃ v, e = .returned v ∧ w'.ownsRow (w.heap.size + 1) 9 1 v (wds s).length ((wds s).map Value.string) ∧ Below w.heap.size w w' := by
  have HA := hid ha
  have HS := hid hs
  clear ha hs
  go_enter Tryz.func45, Tryz.ntmps45
  go_wp2_with fail
  go_loopg [3, 4] s.size (fun gf v f wx => ∃ (pos : Nat) (xs : List ByteArray) (n : Int), f = .int .i64 n ∧ pos + gf = s.size ∧ Hid (FRel s w pos xs n v wx))
  case atStart => exact ⟨0, [], -1, rfl, by omega, ⟨World.iter_heap w s 0, (Below.refl _ w).alloc (Nat.le_refl _) _, by rw [show (w.iter s 0).heap = w.heap.push (.stringIter s 0) from rfl, Array.size_push]; exact Nat.le_refl _, World.ownsRow_nil _ _ _ _, rfl, by omega, by omega, Nat.le_refl _, Nat.zero_le _⟩⟩
  case round =>
    obtain ⟨pos, xs, n, rfl, hgf, F⟩ := hrel
    by_cases hps : pos < s.size
    · obtain ⟨g', rfl⟩ : ∃ g', gk = g' + 1 := ⟨gk - 1, by omega⟩
      have hnx : ∀ ty, (Instr.next (.pointer (some ⟨w.heap.size, 0, none⟩)) true ty).run Tryz.prog wr = _ := fun ty => Lib.run_next_any_at wr w.heap.size s pos ty F.out.it hps
      have hd := decode_ascii s pos hps (HA.out pos hps)
      rw [hd] at hnx
      simp only at hnx
      obtain ⟨b, hb⟩ : ∃ b, s[pos]'hps = b := ⟨_, rfl⟩
      have hlt := HA.out pos hps
      rw [hb] at hnx hlt
      obtain ⟨R, hR⟩ : ∃ R, b.toNat = R := ⟨_, rfl⟩
      have hit2 := Lib.iterAt_heap wr w.heap.size s pos (pos + 1) F.out.it
      have hbw2 := Lib.below_iterAt F.out.below (k := w.heap.size) (Nat.le_refl _) s (pos + 1)
      have hownW := ownsRow_iterAt F.out.own (k := w.heap.size) (Nat.lt_succ_self _) s (pos + 1)
      have hsz2 : w.heap.size + 1 ≤ (wr.iterAt w.heap.size s (pos + 1)).heap.size := by have := (Array.getElem?_eq_some_iff.1 hit2).1; omega
      have CS := hid (fun W => space_any R (by omega) b hR W)
      obtain ⟨W, hWd⟩ : ∃ W, wr.iterAt w.heap.size s (pos + 1) = W := ⟨_, rfl⟩
      rw [hWd, hR] at hnx
      rw [hWd] at hit2 hbw2 hownW hsz2
      have HIT := hid hit2
      have HB := hid hbw2
      have HSZ := hid hsz2
      have HO := hid hownW
      have HBB := hid (show s.get! pos = b by rw [get_bang s pos hps]; exact hb)
      have hst := F.out.st
      have hlo := F.out.lo
      have hhi := F.out.hi
      have hlen := F.out.len
      have hs2 := HS.out
      clear hit2 hbw2 hsz2 hownW hWd hd hb hR hlt F
      have HST := hid hst
      clear hst
      obtain ⟨q, hq⟩ : ∃ q, isSp b = q := ⟨_, rfl⟩
      rw [hq] at CS
      have HQ := hid hq
      clear hq
      cases q with
      | true =>
        by_cases hn : 0 ≤ n
        · have hsl := wsl_ft s n pos hn hhi (by omega)
          have HN := hid hn
          go_wp2_with (first
            | (go_at_call 69; refine (CS.out _).mono ?_; rintro e w2 ⟨rfl, rfl⟩)
            | (at_builtin; refine app_one (w0 := W) (w.heap.size + 1) rfl (.tmp 17) (.tmp 22) _ _ _ 16 rfl Tryz.underlying22 info_str rfl _ (xs.map Value.string) (.string (s.extract n.toNat pos)) rfl rfl rfl (by rw [List.length_map]; exact HO.out) (Below.refl _ _) HSZ.out (by rw [List.length_map]; simp [maxLen]; omega) (by rw [List.length_map]; omega) ?_; intro v1 w1 hown1 hb1; replace hown1 := hid hown1; replace hb1 := hid hb1))
          go_roundg g'
          case measure => omega
          case rel =>
            refine ⟨pos + 1, xs ++ [s.extract n.toNat pos], -1, rfl, by omega, (hb1.out.block _ (Nat.lt_succ_self _)).trans HIT.out, HB.out.trans (hb1.out.mono (Nat.le_succ _)), Nat.le_trans HSZ.out hb1.out.size, ?_, ?_, by omega, by omega, by rw [List.length_append]; simp; omega, by omega⟩
            · have := hown1.out
              rw [List.length_append, List.length_map] at this
              rw [List.length_append, List.map_append]
              exact this
            · show (if isSp (s.get! pos) then _ else _) = _
              rw [HBB.out, HQ.out, HST.out, if_pos rfl]
              simp only
              rw [if_pos HN.out]
        · go_wp2_with (go_at_call 69; refine (CS.out _).mono ?_; rintro e w2 ⟨rfl, rfl⟩)
          go_roundg g'
          case measure => omega
          case rel =>
            refine ⟨pos + 1, xs, n, rfl, by omega, HIT.out, HB.out, HSZ.out, HO.out, ?_, hlo, by omega, by omega, by omega⟩
            show (if isSp (s.get! pos) then _ else _) = _
            rw [HBB.out, HQ.out, HST.out, if_pos rfl]
            simp only
            rw [if_neg (by omega)]
      | false =>
        by_cases hn : n < 0
        · go_wp2_with (go_at_call 69; refine (CS.out _).mono ?_; rintro e w2 ⟨rfl, rfl⟩)
          go_roundg g'
          case measure => omega
          case rel =>
            refine ⟨pos + 1, xs, pos, rfl, by omega, HIT.out, HB.out, HSZ.out, HO.out, ?_, by omega, by omega, by omega, by omega⟩
            show (if isSp (s.get! pos) then _ else _) = _
            rw [HBB.out, HQ.out, HST.out, if_neg (by decide)]
            simp only
            rw [if_pos hn]
        · go_wp2_with (go_at_call 69; refine (CS.out _).mono ?_; rintro e w2 ⟨rfl, rfl⟩)
          go_roundg g'
          case measure => omega
          case rel =>
            refine ⟨pos + 1, xs, n, rfl, by omega, HIT.out, HB.out, HSZ.out, HO.out, ?_, hlo, by omega, by omega, by omega⟩
            show (if isSp (s.get! pos) then _ else _) = _
            rw [HBB.out, HQ.out, HST.out, if_neg (by decide)]
            simp only
            rw [if_neg (by omega)]
    · have hnx : ∀ ty, (Instr.next (.pointer (some ⟨w.heap.size, 0, none⟩)) true ty).run Tryz.prog wr = _ := fun ty => Lib.run_next_end_at wr w.heap.size s pos ty F.out.it hps
      have hpe : pos = s.size := by omega
      subst hpe
      have hst := F.out.st
      have hlo := F.out.lo
      have hhi := F.out.hi
      have hlen := F.out.len
      have hs2 := HS.out
      have HO := hid F.out.own
      have HB := hid F.out.below
      have HSZ := hid F.out.sz
      have HST := hid hst
      clear F hst hps
      by_cases hn : 0 ≤ n
      · have hsl := wsl_fe s n hn hhi
        have HN := hid hn
        go_wp2_with (at_builtin; refine app_one (w0 := wr) (w.heap.size + 1) rfl (.tmp 29) (.tmp 33) _ _ _ 16 rfl Tryz.underlying22 info_str rfl _ (xs.map Value.string) (.string (s.extract n.toNat s.size)) rfl rfl rfl (by rw [List.length_map]; exact HO.out) (Below.refl _ _) HSZ.out (by rw [List.length_map]; simp [maxLen]; omega) (by rw [List.length_map]; omega) ?_; intro v1 w1 hown1 hb1; replace hown1 := hid hown1; replace hb1 := hid hb1)
        go_ret
        refine ⟨_, rfl, ?_, HB.out.trans (hb1.out.mono (Nat.le_succ _))⟩
        have e : wds s = xs ++ [s.extract n.toNat s.size] := by unfold wds; rw [HST.out]; simp only; rw [if_pos HN.out]
        rw [e, List.length_append, List.map_append]
        have := hown1.out
        rw [List.length_append, List.length_map] at this
        exact this
      · go_wp2_with fail
        go_ret
        refine ⟨_, rfl, ?_, HB.out⟩
        have e : wds s = xs := by unfold wds; rw [HST.out]; simp only; rw [if_neg (by omega)]
        rw [e]
        exact HO.out
end Go.Proofs.YtomkhhpigpilfaaGreatDoor
