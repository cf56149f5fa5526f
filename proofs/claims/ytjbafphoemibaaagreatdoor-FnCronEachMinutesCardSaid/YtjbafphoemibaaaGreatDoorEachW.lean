/- The words of a text of ASCII: zzSpace, zzFields, walked. normalizeFields of five texts by the standard parser's options, walked. A star alone; a field of one item; the closure of Parse, walked. "*/k * * * *" in plain words: the seconds that leave nothing when divided by 60 k. Parse of five words by the standard parser, walked. The texts "*/k * * * *", k a divisor of 60: what stands in them. CronComing at the twelve divisors; the thin package's reading of "*/k * * * *", walked. FnCronEachMinutes: "*/k * * * *", k a divisor of 60, is activated each k minutes. Walked. (wip/gen/gen_eachw.py) -/
import Derived.Test.YtjbafphoemibaaaGreatDoorCSplit
import Derived.Test.YtjbafphoemibaaaGreatDoorApp
import Derived.Deep.LoopGhost
import Derived.WalkSmall
import Derived.Test.YtjbafphoemibaaaGreatDoorTimeK
import Derived.Laws.MakeOwn
import Derived.Laws.CopyOwn
import Derived.Test.YtjbafphoemibaaaGreatDoorRange
import Derived.Test.YtjbafphoemibaaaGreatDoorField
import Derived.Test.YtjbafphoemibaaaGreatDoorNextM
import Derived.Test.YtjbafphoemibaaaGreatDoorBits
import Derived.Test.YtjbafphoemibaaaGreatDoorNames
import Derived.Test.YtjbafphoemibaaaGreatDoorSched
import Derived.Test.YtjbafphoemibaaaGreatDoorShelf
import Derived.Test.YtjbafphoemibaaaGreatDoorNextJ
import Derived.Test.YtjbafphoemibaaaGreatDoorQTail
set_option linter.unusedVariables false
set_option linter.unusedSimpArgs false
namespace Go.Proofs.YtjbafphoemibaaaGreatDoor
open Go.RowKit

/-- White space of ASCII. -/
def isSp (b : UInt8) : Bool := b.toNat == 9 || b.toNat == 10 || b.toNat == 11 || b.toNat == 12 || b.toNat == 13 || b.toNat == 32
/-- The words found in the first bytes, and where the word under way begins. -/
def stF (s : ByteArray) : Nat → List ByteArray × Int
  | 0 => ([], -1)
  | n + 1 => if isSp (s.get! n) then (if 0 ≤ (stF s n).2 then ((stF s n).1 ++ [s.extract (stF s n).2.toNat n], -1) else stF s n) else (if (stF s n).2 < 0 then ((stF s n).1, (n : Int)) else stF s n)
/-- The words of a text. -/
def wds (s : ByteArray) : List ByteArray := if 0 ≤ (stF s s.size).2 then (stF s s.size).1 ++ [s.extract (stF s s.size).2.toNat s.size] else (stF s s.size).1

theorem space_any (R : Nat) (h : R < 128) (b : UInt8) (hb : b.toNat = R) (w : World) : Calls Tryz.prog 57 #[.int .i32 R] w fun e w' => e = .returned (.bool (isSp b)) ∧ w = w' := by
  by_cases h9 : R = 9
  · subst h9
    have e : isSp b = true := by unfold isSp; simp [hb]
    rw [e]
    go_enter Tryz.func57, Tryz.ntmps57
    go_wp2_with fail
    go_ret
    exact ⟨rfl, rfl⟩
  by_cases h10 : R = 10
  · subst h10
    have e : isSp b = true := by unfold isSp; simp [hb]
    rw [e]
    go_enter Tryz.func57, Tryz.ntmps57
    go_wp2_with fail
    go_ret
    exact ⟨rfl, rfl⟩
  by_cases h11 : R = 11
  · subst h11
    have e : isSp b = true := by unfold isSp; simp [hb]
    rw [e]
    go_enter Tryz.func57, Tryz.ntmps57
    go_wp2_with fail
    go_ret
    exact ⟨rfl, rfl⟩
  by_cases h12 : R = 12
  · subst h12
    have e : isSp b = true := by unfold isSp; simp [hb]
    rw [e]
    go_enter Tryz.func57, Tryz.ntmps57
    go_wp2_with fail
    go_ret
    exact ⟨rfl, rfl⟩
  by_cases h13 : R = 13
  · subst h13
    have e : isSp b = true := by unfold isSp; simp [hb]
    rw [e]
    go_enter Tryz.func57, Tryz.ntmps57
    go_wp2_with fail
    go_ret
    exact ⟨rfl, rfl⟩
  by_cases h32 : R = 32
  · subst h32
    have e : isSp b = true := by unfold isSp; simp [hb]
    rw [e]
    go_enter Tryz.func57, Tryz.ntmps57
    go_wp2_with fail
    go_ret
    exact ⟨rfl, rfl⟩
  have e : isSp b = false := by unfold isSp; simp [hb, h9, h10, h11, h12, h13, h32]
  rw [e]
  have e9 : ((R : Int) == 9) = false := by rw [beq_eq_false_iff_ne]; omega
  have e10 : ((R : Int) == 10) = false := by rw [beq_eq_false_iff_ne]; omega
  have e11 : ((R : Int) == 11) = false := by rw [beq_eq_false_iff_ne]; omega
  have e12 : ((R : Int) == 12) = false := by rw [beq_eq_false_iff_ne]; omega
  have e13 : ((R : Int) == 13) = false := by rw [beq_eq_false_iff_ne]; omega
  have e32 : ((R : Int) == 32) = false := by rw [beq_eq_false_iff_ne]; omega
  have f0 : ((R : Int) == 133) = false := by rw [beq_eq_false_iff_ne]; omega
  have f1 : ((R : Int) == 160) = false := by rw [beq_eq_false_iff_ne]; omega
  have f2 : ((R : Int) == 5760) = false := by rw [beq_eq_false_iff_ne]; omega
  have f3 : ((R : Int) == 8232) = false := by rw [beq_eq_false_iff_ne]; omega
  have f4 : ((R : Int) == 8233) = false := by rw [beq_eq_false_iff_ne]; omega
  have f5 : ((R : Int) == 8239) = false := by rw [beq_eq_false_iff_ne]; omega
  have f6 : ((R : Int) == 8287) = false := by rw [beq_eq_false_iff_ne]; omega
  have f7 : ((R : Int) == 12288) = false := by rw [beq_eq_false_iff_ne]; omega
  have f8 : decide ((8192 : Int) ≤ (R : Int)) = false := by rw [decide_eq_false_iff_not]; omega
  have f9 : ¬ (8192 : Int) ≤ (R : Int) := by omega
  clear h9 h10 h11 h12 h13 h32 h
  go_enter Tryz.func57, Tryz.ntmps57
  go_wp2_with fail
  go_ret
  exact ⟨rfl, rfl⟩

theorem slice_ft (s : ByteArray) (n : Int) (k : Nat) (h0 : 0 ≤ n) (h1 : n ≤ k) (h : k ≤ s.size) (w : World) : (Instr.slice 9 (.string s) (some (.int .i64 n)) (some (.int .i64 (k : Int))) none).run Tryz.prog w = .ok (.string (s.extract n.toNat k)) w := by
  have := run_slice_string (P := Tryz.prog) w 9 s .i64 .i64 n (k : Int) Tryz.underlying9 h0 h1 (by omega)
  simpa using this
theorem slice_fe (s : ByteArray) (n : Int) (h0 : 0 ≤ n) (h1 : n ≤ s.size) (w : World) : (Instr.slice 9 (.string s) (some (.int .i64 n)) none none).run Tryz.prog w = .ok (.string (s.extract n.toNat s.size)) w := by
  rw [run_slice_string_from_if _ _ _ _ _ Tryz.underlying9, if_pos ⟨by omega, by omega⟩]

/-- What the loop of zzFields holds behind k bytes. -/
structure FRel (s : ByteArray) (w : World) (k : Nat) (xs : List ByteArray) (n : Int) (v : Value) (wr : World) : Prop where
  it : wr.heap[w.heap.size]? = some (.stringIter s k)
  below : Below w.heap.size w wr
  sz : w.heap.size + 1 ≤ wr.heap.size
  own : wr.ownsRow (w.heap.size + 1) 9 1 v xs.length (xs.map Value.string)
  st : stF s k = (xs, n)
  lo : -1 ≤ n
  hi : n ≤ k
  len : xs.length ≤ k
  ks : k ≤ s.size
theorem get_bang (s : ByteArray) (k : Nat) (h : k < s.size) : s.get! k = s[k] := by
  show s.data[k]! = s.data[k]
  exact getElem!_pos s.data k h

set_option maxHeartbeats 3200000 in
set_option maxRecDepth 100000 in
theorem words_any (s : ByteArray) (ha : ∀ k (h : k < s.size), (s[k]'h).toNat < 128) (w : World) (hs : s.size ≤ 65536) : Calls Tryz.prog 36 #[.string s] w fun e w' =>
    ∃ v, e = .returned v ∧ w'.ownsRow (w.heap.size + 1) 9 1 v (wds s).length ((wds s).map Value.string) ∧ Below w.heap.size w w' := by
  have HA := hid ha
  have HS := hid hs
  clear ha hs
  go_enter Tryz.func36, Tryz.ntmps36
  go_wp2_with fail
  go_loopg [3, 4] s.size (fun gf v f wx => ∃ (pos : Nat) (xs : List ByteArray) (n : Int), f = .int .i64 n ∧ pos + gf = s.size ∧ Hid (FRel s w pos xs n v wx))
  case atStart => exact ⟨0, [], -1, rfl, by omega, ⟨World.iter_heap w s 0, (Below.refl _ w).alloc (Nat.le_refl _) _, by rw [show (w.iter s 0).heap = w.heap.push (.stringIter s 0) from rfl, Array.size_push]; exact Nat.le_refl _, World.ownsRow_nil _ _ _ _, rfl, by omega, by omega, Nat.le_refl _, Nat.zero_le _⟩⟩
  case round =>
    obtain ⟨pos, xs, n, rfl, hgf, F⟩ := hrel
    by_cases hps : pos < s.size
    · obtain ⟨g', rfl⟩ : ∃ g', gk = g' + 1 := ⟨gk - 1, by omega⟩
      have hnx : ∀ ty, (Instr.next (.pointer (some ⟨w.heap.size, 0, none⟩)) true ty).run Tryz.prog wr = _ := fun ty => Lib.run_next_any_at wr w.heap.size s pos ty F.out.it hps
      have hd := decode_ascii s pos hps (HA.out pos hps)
      rw [hd] at hnx
      simp only at hnx
      obtain ⟨b, hb⟩ : ∃ b, s[pos]'hps = b := ⟨_, rfl⟩
      have hlt := HA.out pos hps
      rw [hb] at hnx hlt
      obtain ⟨R, hR⟩ : ∃ R, b.toNat = R := ⟨_, rfl⟩
      have hit2 := Lib.iterAt_heap wr w.heap.size s pos (pos + 1) F.out.it
      have hbw2 := Lib.below_iterAt F.out.below (k := w.heap.size) (Nat.le_refl _) s (pos + 1)
      have hownW := ownsRow_iterAt F.out.own (k := w.heap.size) (Nat.lt_succ_self _) s (pos + 1)
      have hsz2 : w.heap.size + 1 ≤ (wr.iterAt w.heap.size s (pos + 1)).heap.size := by have := (Array.getElem?_eq_some_iff.1 hit2).1; omega
      have CS := hid (fun W => space_any R (by omega) b hR W)
      obtain ⟨W, hWd⟩ : ∃ W, wr.iterAt w.heap.size s (pos + 1) = W := ⟨_, rfl⟩
      rw [hWd, hR] at hnx
      rw [hWd] at hit2 hbw2 hownW hsz2
      have HIT := hid hit2
      have HB := hid hbw2
      have HSZ := hid hsz2
      have HO := hid hownW
      have HBB := hid (show s.get! pos = b by rw [get_bang s pos hps]; exact hb)
      have hst := F.out.st
      have hlo := F.out.lo
      have hhi := F.out.hi
      have hlen := F.out.len
      have hs2 := HS.out
      clear hit2 hbw2 hsz2 hownW hWd hd hb hR hlt F
      have HST := hid hst
      clear hst
      obtain ⟨q, hq⟩ : ∃ q, isSp b = q := ⟨_, rfl⟩
      rw [hq] at CS
      have HQ := hid hq
      clear hq
      cases q with
      | true =>
        by_cases hn : 0 ≤ n
        · have hsl := slice_ft s n pos hn hhi (by omega)
          have HN := hid hn
          go_wp2_with (first
            | (go_at_call 57; refine (CS.out _).mono ?_; rintro e w2 ⟨rfl, rfl⟩)
            | (at_builtin; refine app_one (w0 := W) (w.heap.size + 1) rfl (.tmp 17) (.tmp 22) _ _ _ 16 rfl Tryz.underlying83 info_str rfl _ (xs.map Value.string) (.string (s.extract n.toNat pos)) rfl rfl rfl (by rw [List.length_map]; exact HO.out) (Below.refl _ _) HSZ.out (by rw [List.length_map]; simp [maxLen]; omega) (by rw [List.length_map]; omega) ?_; intro v1 w1 hown1 hb1; replace hown1 := hid hown1; replace hb1 := hid hb1))
          go_roundg g'
          case measure => omega
          case rel =>
            refine ⟨pos + 1, xs ++ [s.extract n.toNat pos], -1, rfl, by omega, (hb1.out.block _ (Nat.lt_succ_self _)).trans HIT.out, HB.out.trans (hb1.out.mono (Nat.le_succ _)), Nat.le_trans HSZ.out hb1.out.size, ?_, ?_, by omega, by omega, by rw [List.length_append]; simp; omega, by omega⟩
            · have := hown1.out
              rw [List.length_append, List.length_map] at this
              rw [List.length_append, List.map_append]
              exact this
            · show (if isSp (s.get! pos) then _ else _) = _
              rw [HBB.out, HQ.out, HST.out, if_pos rfl]
              simp only
              rw [if_pos HN.out]
        · go_wp2_with (go_at_call 57; refine (CS.out _).mono ?_; rintro e w2 ⟨rfl, rfl⟩)
          go_roundg g'
          case measure => omega
          case rel =>
            refine ⟨pos + 1, xs, n, rfl, by omega, HIT.out, HB.out, HSZ.out, HO.out, ?_, hlo, by omega, by omega, by omega⟩
            show (if isSp (s.get! pos) then _ else _) = _
            rw [HBB.out, HQ.out, HST.out, if_pos rfl]
            simp only
            rw [if_neg (by omega)]
      | false =>
        by_cases hn : n < 0
        · go_wp2_with (go_at_call 57; refine (CS.out _).mono ?_; rintro e w2 ⟨rfl, rfl⟩)
          go_roundg g'
          case measure => omega
          case rel =>
            refine ⟨pos + 1, xs, pos, rfl, by omega, HIT.out, HB.out, HSZ.out, HO.out, ?_, by omega, by omega, by omega, by omega⟩
            show (if isSp (s.get! pos) then _ else _) = _
            rw [HBB.out, HQ.out, HST.out, if_neg (by decide)]
            simp only
            rw [if_pos hn]
        · go_wp2_with (go_at_call 57; refine (CS.out _).mono ?_; rintro e w2 ⟨rfl, rfl⟩)
          go_roundg g'
          case measure => omega
          case rel =>
            refine ⟨pos + 1, xs, n, rfl, by omega, HIT.out, HB.out, HSZ.out, HO.out, ?_, hlo, by omega, by omega, by omega⟩
            show (if isSp (s.get! pos) then _ else _) = _
            rw [HBB.out, HQ.out, HST.out, if_neg (by decide)]
            simp only
            rw [if_neg (by omega)]
    · have hnx : ∀ ty, (Instr.next (.pointer (some ⟨w.heap.size, 0, none⟩)) true ty).run Tryz.prog wr = _ := fun ty => Lib.run_next_end_at wr w.heap.size s pos ty F.out.it hps
      have hpe : pos = s.size := by omega
      subst hpe
      have hst := F.out.st
      have hlo := F.out.lo
      have hhi := F.out.hi
      have hlen := F.out.len
      have hs2 := HS.out
      have HO := hid F.out.own
      have HB := hid F.out.below
      have HSZ := hid F.out.sz
      have HST := hid hst
      clear F hst hps
      by_cases hn : 0 ≤ n
      · have hsl := slice_fe s n hn hhi
        have HN := hid hn
        go_wp2_with (at_builtin; refine app_one (w0 := wr) (w.heap.size + 1) rfl (.tmp 29) (.tmp 33) _ _ _ 16 rfl Tryz.underlying83 info_str rfl _ (xs.map Value.string) (.string (s.extract n.toNat s.size)) rfl rfl rfl (by rw [List.length_map]; exact HO.out) (Below.refl _ _) HSZ.out (by rw [List.length_map]; simp [maxLen]; omega) (by rw [List.length_map]; omega) ?_; intro v1 w1 hown1 hb1; replace hown1 := hid hown1; replace hb1 := hid hb1)
        go_ret
        refine ⟨_, rfl, ?_, HB.out.trans (hb1.out.mono (Nat.le_succ _))⟩
        have e : wds s = xs ++ [s.extract n.toNat s.size] := by unfold wds; rw [HST.out]; simp only; rw [if_pos HN.out]
        rw [e, List.length_append, List.map_append]
        have := hown1.out
        rw [List.length_append, List.length_map] at this
        exact this
      · go_wp2_with fail
        go_ret
        refine ⟨_, rfl, ?_, HB.out⟩
        have e : wds s = xs := by unfold wds; rw [HST.out]; simp only; rw [if_neg (by omega)]
        rw [e]
        exact HO.out
end Go.Proofs.YtjbafphoemibaaaGreatDoor

set_option linter.unusedVariables false
set_option linter.unusedSimpArgs false
namespace Go.Proofs.YtjbafphoemibaaaGreatDoor
open Go.RowKit

theorem places_any (w : World) : Calls Tryz.prog 61 #[] w fun e w' => e = .returned (.slice (some ⟨w.heap.size, 0, none⟩) 6 6) ∧ w' = w.alloc (.cells #[.int .i64 1, .int .i64 4, .int .i64 8, .int .i64 16, .int .i64 32, .int .i64 64] 64) := by
  go_enter Tryz.func61, Tryz.ntmps61
  go_wp2_with fail
  go_ret
  exact ⟨rfl, rfl⟩
theorem defaults_any (w : World) : Calls Tryz.prog 62 #[] w fun e w' => e = .returned (.slice (some ⟨w.heap.size, 0, none⟩) 6 6) ∧ w' = w.alloc (.cells #[.string ⟨#[48]⟩, .string ⟨#[48]⟩, .string ⟨#[48]⟩, .string ⟨#[42]⟩, .string ⟨#[42]⟩, .string ⟨#[42]⟩] 9) := by
  go_enter Tryz.func62, Tryz.ntmps62
  go_wp2_with fail
  go_ret
  exact ⟨rfl, rfl⟩

theorem make_six (W : World) : (Instr.makeSlice 83 (.int .i64 6) (.int .i64 6)).run Tryz.prog W = .ok (.slice (some ⟨W.heap.size, 0, none⟩) 6 6) (W.alloc (.cells #[.string ⟨#[]⟩, .string ⟨#[]⟩, .string ⟨#[]⟩, .string ⟨#[]⟩, .string ⟨#[]⟩, .string ⟨#[]⟩] 9)) := by
  obtain ⟨i, hi, hz⟩ := Option.map_eq_some_iff.1 info_str
  simp only [Prod.mk.injEq] at hz
  obtain ⟨z1, z2, z3⟩ := hz
  have h := run_makeSlice (P := Tryz.prog) W 83 9 i _ Tryz.underlying83 hi z1 .i64 .i64 6 6 (by omega) (by omega) (by rw [z2]; decide) (by rw [z3]; decide) (by omega)
  have e : madeCells (Value.string ⟨#[]⟩).cells (Int.toNat 6 * 1) = #[.string ⟨#[]⟩, .string ⟨#[]⟩, .string ⟨#[]⟩, .string ⟨#[]⟩, .string ⟨#[]⟩, .string ⟨#[]⟩] := by kernel_rfl
  rw [h, z2, e]
  rfl
theorem defs_at (W : World) (g : Nat) (h : Blk W g 9 #[.string ⟨#[48]⟩, .string ⟨#[48]⟩, .string ⟨#[48]⟩, .string ⟨#[42]⟩, .string ⟨#[42]⟩, .string ⟨#[42]⟩]) : ∀ (j : Nat) (v : Value), [Value.string ⟨#[48]⟩, .string ⟨#[48]⟩, .string ⟨#[48]⟩, .string ⟨#[42]⟩, .string ⟨#[42]⟩, .string ⟨#[42]⟩][j]? = some v → W.cell? ((⟨g, 0, none⟩ : Addr).add j) = some v := fun j v hj => by
  have e : (⟨g, 0, none⟩ : Addr).add j = ⟨g, j, none⟩ := by unfold Addr.add; split <;> simp_all
  rw [e, h.cell j]
  simpa using hj

def arrN (a0 a1 a2 a3 a4 : ByteArray) (k : Nat) : Array Value := #[.string ⟨#[48]⟩, if 2 ≤ k then .string a0 else .string ⟨#[48]⟩, if 3 ≤ k then .string a1 else .string ⟨#[48]⟩, if 4 ≤ k then .string a2 else .string ⟨#[42]⟩, if 5 ≤ k then .string a3 else .string ⟨#[42]⟩, if 6 ≤ k then .string a4 else .string ⟨#[42]⟩]
theorem cell_on {w w' : World} {x : Addr} {v : Value} (hb : Below w.heap.size w w') (h : w.cell? x = some v) : w'.cell? x = some v := (hb.cell (World.block_lt_of_cell? w _ h)).trans h

set_option maxHeartbeats 3200000 in
set_option maxRecDepth 100000 in
theorem norm_any (a0 a1 a2 a3 a4 : ByteArray) (g cap : Nat) (w : World) (h0 : w.cell? ⟨g, 0, none⟩ = some (.string a0)) (h1 : w.cell? ⟨g, 1, none⟩ = some (.string a1)) (h2 : w.cell? ⟨g, 2, none⟩ = some (.string a2)) (h3 : w.cell? ⟨g, 3, none⟩ = some (.string a3)) (h4 : w.cell? ⟨g, 4, none⟩ = some (.string a4)) :
    Calls Tryz.prog 37 #[.slice (some ⟨g, 0, none⟩) 5 cap, .int .i64 380] w fun e w' => (∃ h, e = .returned (.tuple #[.slice (some ⟨h, 0, none⟩) 6 6, .nilIface]) ∧ Blk w' h 9 #[.string ⟨#[48]⟩, .string a0, .string a1, .string a2, .string a3, .string a4]) ∧ Below w.heap.size w w' := by
  have m1 : bits .and .i64 380 1 = 0 := by decide +kernel
  have m2 : bits .and .i64 380 2 = 0 := by decide +kernel
  have m4 : bits .and .i64 380 4 = 4 := by decide +kernel
  have m8 : bits .and .i64 380 8 = 8 := by decide +kernel
  have m16 : bits .and .i64 380 16 = 16 := by decide +kernel
  have m32 : bits .and .i64 380 32 = 32 := by decide +kernel
  have m64 : bits .and .i64 380 64 = 64 := by decide +kernel
  have m128 : bits .and .i64 380 128 = 0 := by decide +kernel
  go_enter Tryz.func37, Tryz.ntmps37
  go_wp2_with (go_at_call 61; refine (places_any _).mono ?_; rintro e w1 ⟨rfl, rfl⟩)
  have hmk := make_six
  have HG := hid (World.block_lt_of_cell? w _ h0)
  have KM := hid ((Blk.new ((w.alloc (.cells #[.int .i64 1, .int .i64 4, .int .i64 8, .int .i64 16, .int .i64 32, .int .i64 64] 64)).alloc (.cells #[.int .i64 1, .int .i64 4, .int .i64 8, .int .i64 16, .int .i64 32, .int .i64 64] 64)) 9 #[.string ⟨#[]⟩, .string ⟨#[]⟩, .string ⟨#[]⟩, .string ⟨#[]⟩, .string ⟨#[]⟩, .string ⟨#[]⟩]).alloc (.cells #[.string ⟨#[48]⟩, .string ⟨#[48]⟩, .string ⟨#[48]⟩, .string ⟨#[42]⟩, .string ⟨#[42]⟩, .string ⟨#[42]⟩] 9))
  have KD := hid (Blk.new (((w.alloc (.cells #[.int .i64 1, .int .i64 4, .int .i64 8, .int .i64 16, .int .i64 32, .int .i64 64] 64)).alloc (.cells #[.int .i64 1, .int .i64 4, .int .i64 8, .int .i64 16, .int .i64 32, .int .i64 64] 64)).alloc (.cells #[.string ⟨#[]⟩, .string ⟨#[]⟩, .string ⟨#[]⟩, .string ⟨#[]⟩, .string ⟨#[]⟩, .string ⟨#[]⟩] 9)) 9 #[.string ⟨#[48]⟩, .string ⟨#[48]⟩, .string ⟨#[48]⟩, .string ⟨#[42]⟩, .string ⟨#[42]⟩, .string ⟨#[42]⟩])
  have s2 : ((w.alloc (.cells #[.int .i64 1, .int .i64 4, .int .i64 8, .int .i64 16, .int .i64 32, .int .i64 64] 64)).alloc (.cells #[.int .i64 1, .int .i64 4, .int .i64 8, .int .i64 16, .int .i64 32, .int .i64 64] 64)).heap.size = w.heap.size + 1 + 1 := by simp
  have s3 : (((w.alloc (.cells #[.int .i64 1, .int .i64 4, .int .i64 8, .int .i64 16, .int .i64 32, .int .i64 64] 64)).alloc (.cells #[.int .i64 1, .int .i64 4, .int .i64 8, .int .i64 16, .int .i64 32, .int .i64 64] 64)).alloc (.cells #[.string ⟨#[]⟩, .string ⟨#[]⟩, .string ⟨#[]⟩, .string ⟨#[]⟩, .string ⟨#[]⟩, .string ⟨#[]⟩] 9)).heap.size = w.heap.size + 1 + 1 + 1 := by simp
  rw [s2] at KM
  rw [s3] at KD
  have BW := hid (show Below w.heap.size w ((((w.alloc (.cells #[.int .i64 1, .int .i64 4, .int .i64 8, .int .i64 16, .int .i64 32, .int .i64 64] 64)).alloc (.cells #[.int .i64 1, .int .i64 4, .int .i64 8, .int .i64 16, .int .i64 32, .int .i64 64] 64)).alloc (.cells #[.string ⟨#[]⟩, .string ⟨#[]⟩, .string ⟨#[]⟩, .string ⟨#[]⟩, .string ⟨#[]⟩, .string ⟨#[]⟩] 9)).alloc (.cells #[.string ⟨#[48]⟩, .string ⟨#[48]⟩, .string ⟨#[48]⟩, .string ⟨#[42]⟩, .string ⟨#[42]⟩, .string ⟨#[42]⟩] 9)) by go_grown)
  have H0 := hid h0
  have H1 := hid h1
  have H2 := hid h2
  have H3 := hid h3
  have H4 := hid h4
  clear s2 s3
  clear h0 h1 h2 h3 h4
  go_loopw [35, 7] (fun i c wr => ∃ k : Nat, k ≤ 6 ∧ i = .int .i64 k ∧ c = .int .i64 ((k - 1 : Nat) : Int) ∧ wr = w.alloc (.cells #[.int .i64 1, .int .i64 4, .int .i64 8, .int .i64 16, .int .i64 32, .int .i64 64] 64)) (fun i _ _ => 6 - (intOf i).toNat)
  case atStart => exact ⟨0, by omega, rfl, rfl, rfl⟩
  case round =>
    obtain ⟨k, hk, rfl, rfl, rfl⟩ := hrel
    by_cases hlt : k < 6
    · obtain rfl | rfl | rfl | rfl | rfl | rfl : k = 0 ∨ k = 1 ∨ k = 2 ∨ k = 3 ∨ k = 4 ∨ k = 5 := by omega
      · go_wp2_with fail
        go_roundw
        case rel => exact ⟨1, by omega, rfl, rfl, trivial⟩
        case measure => simp [intOf]
      · go_wp2_with fail
        go_roundw
        case rel => exact ⟨2, by omega, rfl, rfl, trivial⟩
        case measure => simp [intOf]
      · go_wp2_with fail
        go_roundw
        case rel => exact ⟨3, by omega, rfl, rfl, trivial⟩
        case measure => simp [intOf]
      · go_wp2_with fail
        go_roundw
        case rel => exact ⟨4, by omega, rfl, rfl, trivial⟩
        case measure => simp [intOf]
      · go_wp2_with fail
        go_roundw
        case rel => exact ⟨5, by omega, rfl, rfl, trivial⟩
        case measure => simp [intOf]
      · go_wp2_with fail
        go_roundw
        case rel => exact ⟨6, by omega, rfl, rfl, trivial⟩
        case measure => simp [intOf]
    · obtain rfl : k = 6 := by omega
      go_wp2_with (first
        | (go_at_call 62; refine (defaults_any _).mono ?_; rintro e w1 ⟨rfl, rfl⟩
           generalize ((((w.alloc (.cells #[.int .i64 1, .int .i64 4, .int .i64 8, .int .i64 16, .int .i64 32, .int .i64 64] 64)).alloc (.cells #[.int .i64 1, .int .i64 4, .int .i64 8, .int .i64 16, .int .i64 32, .int .i64 64] 64)).alloc (.cells #[.string ⟨#[]⟩, .string ⟨#[]⟩, .string ⟨#[]⟩, .string ⟨#[]⟩, .string ⟨#[]⟩, .string ⟨#[]⟩] 9)).alloc (.cells #[.string ⟨#[48]⟩, .string ⟨#[48]⟩, .string ⟨#[48]⟩, .string ⟨#[42]⟩, .string ⟨#[42]⟩, .string ⟨#[42]⟩] 9)) = w4 at KM KD BW ⊢)
        | (refine wpList_copy_splice (o := { dst := some 99, op := _, type := _, pos := _, after := _, guard := _ }) rfl (.tmp 97) (.tmp 98) 83 83 rfl 9 Tryz.underlying83 (by kernel_rfl) (some ⟨w.heap.size + 1 + 1, 0, none⟩) (some ⟨w.heap.size + 1 + 1 + 1, 0, none⟩) 6 6 6 6 rfl (by simp [Act.eval, Act.put]) (w.heap.size + 1 + 1) 0 [.string ⟨#[]⟩, .string ⟨#[]⟩, .string ⟨#[]⟩, .string ⟨#[]⟩, .string ⟨#[]⟩, .string ⟨#[]⟩] 9 KM.out [.string ⟨#[48]⟩, .string ⟨#[48]⟩, .string ⟨#[48]⟩, .string ⟨#[42]⟩, .string ⟨#[42]⟩, .string ⟨#[42]⟩] rfl (fun _ => ⟨rfl, _, rfl, defs_at _ _ KD.out⟩) (by decide) (by decide) w.heap.size w BW.out (by omega) ?_
           intro w5 h5 b5
           have K5 := hid (show Blk w5 (w.heap.size + 1 + 1) 9 #[.string ⟨#[48]⟩, .string ⟨#[48]⟩, .string ⟨#[48]⟩, .string ⟨#[42]⟩, .string ⟨#[42]⟩, .string ⟨#[42]⟩] from h5.out)
           have B5 := hid b5
           clear h5 b5)
        | (go_at_call 61; refine (places_any _).mono ?_; rintro e w1 ⟨rfl, rfl⟩; (try (have KP := hid (Blk.new w5 64 #[.int .i64 1, .int .i64 4, .int .i64 8, .int .i64 16, .int .i64 32, .int .i64 64]); obtain ⟨PB, hPB⟩ : ∃ PB, w5.heap.size = PB := ⟨_, rfl⟩; have HPB := hid (show PB ≠ w.heap.size + 1 + 1 from fun e => by have := K5.out.lt; omega); rw [hPB] at KP ⊢))))
      go_loopw [102, 12] (fun i c wr => ∃ k : Nat, k ≤ 6 ∧ i = .int .i64 k ∧ c = .int .i64 ((k - 1 : Nat) : Int) ∧ Hid (Blk wr (w.heap.size + 1 + 1) 9 (arrN a0 a1 a2 a3 a4 k)) ∧ Hid (Below w.heap.size w wr) ∧ Hid (Blk wr PB 64 #[.int .i64 1, .int .i64 4, .int .i64 8, .int .i64 16, .int .i64 32, .int .i64 64])) (fun i _ _ => 6 - (intOf i).toNat)
      case atStart => exact ⟨0, by omega, rfl, rfl, K5.out.below (by go_grown), bt B5.out (by go_grown), KP.out⟩
      case round =>
        clear K5 B5 KP KM KD BW
        obtain ⟨k, hk, rfl, rfl, K, B, KP⟩ := hrel
        have g0 : wr.cell? ⟨g, 0, none⟩ = some (.string a0) := cell_on B.out H0.out
        have g1 : wr.cell? ⟨g, 1, none⟩ = some (.string a1) := cell_on B.out H1.out
        have g2 : wr.cell? ⟨g, 2, none⟩ = some (.string a2) := cell_on B.out H2.out
        have g3 : wr.cell? ⟨g, 3, none⟩ = some (.string a3) := cell_on B.out H3.out
        have g4 : wr.cell? ⟨g, 4, none⟩ = some (.string a4) := cell_on B.out H4.out
        have p0 : wr.cell? ⟨PB, 0, none⟩ = some (.int .i64 1) := KP.out.cell 0
        have p1 : wr.cell? ⟨PB, 1, none⟩ = some (.int .i64 4) := KP.out.cell 1
        have p2 : wr.cell? ⟨PB, 2, none⟩ = some (.int .i64 8) := KP.out.cell 2
        have p3 : wr.cell? ⟨PB, 3, none⟩ = some (.int .i64 16) := KP.out.cell 3
        have p4 : wr.cell? ⟨PB, 4, none⟩ = some (.int .i64 32) := KP.out.cell 4
        have p5 : wr.cell? ⟨PB, 5, none⟩ = some (.int .i64 64) := KP.out.cell 5
        have f1 := K.out.frozen 1
        have f2 := K.out.frozen 2
        have f3 := K.out.frozen 3
        have f4 := K.out.frozen 4
        have f5 := K.out.frozen 5
        by_cases hlt : k < 6
        · obtain rfl | rfl | rfl | rfl | rfl | rfl : k = 0 ∨ k = 1 ∨ k = 2 ∨ k = 3 ∨ k = 4 ∨ k = 5 := by omega
          · go_wp2_with fail
            go_roundw
            case rel => exact ⟨1, by omega, rfl, rfl, K.out, B.out, KP.out⟩
            case measure => simp [intOf]
          · have c1 : wr.cell? ⟨w.heap.size + 1 + 1, 1, none⟩ = some _ := K.out.cell 1
            go_wp2_with fail
            go_roundw
            case rel => exact ⟨2, by omega, rfl, rfl, K.out.set 1 (.string a0), below_set B.out (by omega) _ _, KP.out.other HPB.out _ _⟩
            case measure => simp [intOf]
          · have c2 : wr.cell? ⟨w.heap.size + 1 + 1, 2, none⟩ = some _ := K.out.cell 2
            go_wp2_with fail
            go_roundw
            case rel => exact ⟨3, by omega, rfl, rfl, K.out.set 2 (.string a1), below_set B.out (by omega) _ _, KP.out.other HPB.out _ _⟩
            case measure => simp [intOf]
          · have c3 : wr.cell? ⟨w.heap.size + 1 + 1, 3, none⟩ = some _ := K.out.cell 3
            go_wp2_with fail
            go_roundw
            case rel => exact ⟨4, by omega, rfl, rfl, K.out.set 3 (.string a2), below_set B.out (by omega) _ _, KP.out.other HPB.out _ _⟩
            case measure => simp [intOf]
          · have c4 : wr.cell? ⟨w.heap.size + 1 + 1, 4, none⟩ = some _ := K.out.cell 4
            go_wp2_with fail
            go_roundw
            case rel => exact ⟨5, by omega, rfl, rfl, K.out.set 4 (.string a3), below_set B.out (by omega) _ _, KP.out.other HPB.out _ _⟩
            case measure => simp [intOf]
          · have c5 : wr.cell? ⟨w.heap.size + 1 + 1, 5, none⟩ = some _ := K.out.cell 5
            go_wp2_with fail
            go_roundw
            case rel => exact ⟨6, by omega, rfl, rfl, K.out.set 5 (.string a4), below_set B.out (by omega) _ _, KP.out.other HPB.out _ _⟩
            case measure => simp [intOf]
        · obtain rfl : k = 6 := by omega
          go_wp2_with fail
          go_returns
          exact ⟨⟨_, rfl, K.out⟩, B.out⟩
end Go.Proofs.YtjbafphoemibaaaGreatDoor

set_option linter.unusedVariables false
set_option linter.unusedSimpArgs false
namespace Go.Proofs.YtjbafphoemibaaaGreatDoor
open Go.RowKit

set_option maxHeartbeats 1600000 in
set_option maxRecDepth 100000 in
theorem range_all (lo hi : Nat) (mv : Value) (w : World) (hh : hi ≤ 62) (hlh : lo ≤ hi) :
    Calls Tryz.prog 65 #[.string ⟨#[42]⟩, .agg #[.int .u64 lo, .int .u64 hi, mv]] w fun e w' => ∃ v : Int, e = .returned (.tuple #[.int .u64 v, .nilIface]) ∧ v = ((gb lo hi 1 ||| 9223372036854775808 : Nat) : Int) ∧ Below w.heap.size w w' := by
  have b1 : ¬ (lo : Int) < (lo : Int) := by omega
  have b2 : ¬ (hi : Int) < (hi : Int) := by omega
  have b3 : ¬ (hi : Int) < (lo : Int) := by omega
  have HQ := hid (fun w => getBits_any lo hi 1 w (by omega) (by omega) (by omega) (by omega))
  have HH := hid hh
  clear hh hlh
  go_enter Tryz.func65, Tryz.ntmps65
  go_wp2_with fail
  have R0 := hid (Blk.new w 90 #[.int .u64 lo, .int .u64 hi, mv])
  have B0 := hid (show Below w.heap.size w (w.alloc (.cells #[.int .u64 lo, .int .u64 hi, mv] 90)) from (Below.refl _ _).alloc (Nat.le_refl _) _)
  generalize (w.alloc (.cells #[.int .u64 lo, .int .u64 hi, mv] 90)) = w0 at R0 B0 ⊢
  go_at_call 80
  refine (slash_one (⟨#[42]⟩ : ByteArray) _ (by show 1 ≤ _; omega) (by rw [star_list]; decide)).mono ?_
  rintro e w1 ⟨g, c, rfl, p0, hb⟩
  have R1 := hid (R0.out.below hb)
  have B1 := hid (bt B0.out hb)
  clear hb
  go_wp2_with fail
  go_at_call 80
  refine (hyphen_one (⟨#[42]⟩ : ByteArray) _ (by show 1 ≤ _; omega) (by rw [star_list]; decide)).mono ?_
  rintro e w2 ⟨h, c2, rfl, q0, hb⟩
  have R2 := hid (R1.out.below hb)
  have B2 := hid (bt B1.out hb)
  clear hb p0
  have r0 : w2.cell? ⟨w.heap.size, 0, none⟩ = some (.int .u64 lo) := R2.out.cell 0
  have r1 : w2.cell? ⟨w.heap.size, 1, none⟩ = some (.int .u64 hi) := R2.out.cell 1
  go_wp2_with (go_at_call 75; refine (HQ.out _).mono ?_; rintro e w' ⟨rfl, rfl⟩)
  go_returns
  exact ⟨_, rfl, gb_or_star _ _ _ (by have := HH.out; omega), B2.out⟩

/-- What a field's text means within bounds: one item alone. -/
def FieldIs (s : ByteArray) (lo hi : Nat) (mv : Value) (V : Nat) : Prop := ∀ w, Calls Tryz.prog 39 #[.string s, .agg #[.int .u64 lo, .int .u64 hi, mv]] w fun e w' => e = .returned (.tuple #[.int .u64 (V : Nat), .nilIface]) ∧ Below w.heap.size w w'
theorem field_one (s : ByteArray) (lo hi : Nat) (mv : Value) (V : Nat) (hs : s.size ≤ 2147483647) (ha : ascii s) (hc : cut 44 s.toList = [s.toList]) (hne : s.toList ≠ []) (hV : V < 18446744073709551616)
    (hR : ∀ w, Calls Tryz.prog 65 #[.string s, .agg #[.int .u64 lo, .int .u64 hi, mv]] w fun e w' => ∃ v : Int, e = .returned (.tuple #[.int .u64 v, .nilIface]) ∧ v = (V : Int) ∧ Below w.heap.size w w') : FieldIs s lo hi mv V := fun w => by
  refine (field_any s lo hi mv (fun _ => V) w (fun _ => True) (fun _ _ _ _ => trivial) trivial hs ha (fun q hq => by rw [hc] at hq; rw [List.mem_singleton.1 hq]; exact hne) (fun _ => hV) (fun x hx w _ => by
    rw [hc] at hx
    have : x = s := bytes_inj (List.mem_singleton.1 hx)
    rw [this]
    exact hR w)).mono ?_
  rintro e w' ⟨xs, hx, rfl, hb⟩
  rw [hc] at hx
  have hxs : xs = [s] := parts_one hx
  subst hxs
  refine ⟨?_, hb⟩
  unfold orAll
  simp

theorem below_same {B : Nat} {w w1 : World} {g : Nat} {t : TypeId} {u : Value} (h : Below B w w1) (hb : Blk w1 g t #[u]) : Below B w (w1.setCell ⟨g, 0, none⟩ u) := by
  refine ⟨h.os, h.tape, h.output, by have := h.size; simpa [World.setCell] using this, fun k hk => ?_⟩
  by_cases e : k = g
  · subst e
    have h1 := hb.set 0 u
    have h2 : (#[u].setIfInBounds 0 u : Array Value) = #[u] := rfl
    rw [h2] at h1
    exact (show (w1.setCell ⟨k, 0, none⟩ u).heap[k]? = w1.heap[k]? from h1.trans hb.symm).trans (h.block k hk)
  · exact (Below.heap_setCell w1 ⟨g, 0, none⟩ u k e).trans (h.block k hk)

set_option maxRecDepth 100000 in
theorem closure_any (s : ByteArray) (lo hi : Nat) (mv : Value) (V g : Nat) (w : World) (hF : FieldIs s lo hi mv V) (he : Blk w g 46 #[.nilIface]) :
    Calls Tryz.prog 38 #[.string s, .agg #[.int .u64 lo, .int .u64 hi, mv], .pointer (some ⟨g, 0, none⟩)] w fun e w' => e = .returned (.int .u64 (V : Nat)) ∧ Below w.heap.size w w' := by
  have E0 := hid (he.alloc (.cells #[.int .u64 lo, .int .u64 hi, mv] 90))
  have B0 := hid (show Below w.heap.size w (w.alloc (.cells #[.int .u64 lo, .int .u64 hi, mv] 90)) from (Below.refl _ _).alloc (Nat.le_refl _) _)
  have R0 := hid (Blk.new w 90 #[.int .u64 lo, .int .u64 hi, mv])
  have HF := hid hF
  clear hF he
  go_enter Tryz.func38, Tryz.ntmps38
  go_upto_region 1 with fail
  generalize (w.alloc (.cells #[.int .u64 lo, .int .u64 hi, mv] 90)) = w0 at E0 B0 R0 ⊢
  have e0 : w0.cell? ⟨g, 0, none⟩ = some .nilIface := E0.out.cell 0
  have r0 : w0.cell? ⟨w.heap.size, 0, none⟩ = some (.int .u64 lo) := R0.out.cell 0
  have r1 : w0.cell? ⟨w.heap.size, 1, none⟩ = some (.int .u64 hi) := R0.out.cell 1
  have r2 : w0.cell? ⟨w.heap.size, 2, none⟩ = some mv := R0.out.cell 2
  go_wp2_with (go_at_call 39; refine (HF.out _).mono ?_; rintro e w2 ⟨rfl, hb⟩; have E2 := hid (E0.out.below hb); have B2 := hid (bt B0.out hb); have c0 : w2.cell? ⟨g, 0, none⟩ = some .nilIface := E2.out.cell 0; have f0 : w2.frozen? ⟨g, 0, none⟩ = false := E2.out.frozen 0; clear hb)
  go_ret
  exact ⟨rfl, below_same B2.out E2.out⟩
end Go.Proofs.YtjbafphoemibaaaGreatDoor

set_option linter.unusedVariables false
set_option linter.unusedSimpArgs false
namespace Go.Proofs.YtjbafphoemibaaaGreatDoor
open Go.RowKit

theorem hasB_bit (m : Int) (k : Nat) (h0 : 0 ≤ m) (h1 : m < 18446744073709551616) (hk : k < 64) : hasB m k = m.toNat.testBit k := by
  obtain ⟨n, rfl⟩ : ∃ n : Nat, m = n := ⟨m.toNat, by omega⟩
  have h2 : 2 ^ k < 2 ^ 64 := Nat.pow_lt_pow_right (by decide) hk
  unfold hasB
  rw [u64_and_nat _ _ (by omega) (by omega), Int.toNat_natCast]
  cases g : n.testBit k
  · have e : 2 ^ k &&& n = 0 := Nat.eq_of_testBit_eq fun i => by
      rw [Nat.testBit_and, Nat.testBit_two_pow, Nat.zero_testBit]
      by_cases hi : k = i
      · subst hi; simp [g]
      · simp [hi]
    rw [e]
    rfl
  · have e : (2 ^ k &&& n).testBit k = true := by rw [Nat.testBit_and, Nat.testBit_two_pow, g]; simp
    have : 0 < 2 ^ k &&& n := by
      rcases Nat.eq_zero_or_pos (2 ^ k &&& n) with h | h
      · rw [h] at e; simp at e
      · exact h
    exact decide_eq_true (by omega)

def starN : Nat := 9223372036854775808
theorem star_bit (i : Nat) (h : i ≤ 62) : starN.testBit i = false := by
  have : starN = 2 ^ 63 := by decide
  rw [this, Nat.testBit_two_pow]
  simp
  omega
theorem has_star (lo hi st i : Nat) (h : hi ≤ 62) (hi2 : i ≤ 62) : hasB ((gb lo hi st ||| starN : Nat) : Int) i = decide (lo ≤ i ∧ i ≤ hi ∧ (i - lo) % st = 0) := by
  have b1 : gb lo hi st < 2 ^ 64 := Nat.lt_of_lt_of_le (gbn_lt lo st (hi + 1) (by omega)) (by decide)
  have b2 : gb lo hi st ||| starN < 2 ^ 64 := Nat.or_lt_two_pow b1 (by decide)
  rw [hasB_bit _ i (by omega) (by omega) (by omega), Int.toNat_natCast, Nat.testBit_or, star_bit i hi2, Bool.or_false, testBit_gb]
theorem has_gb (lo hi st i : Nat) (h : hi ≤ 62) (hi2 : i ≤ 62) : hasB ((gb lo hi st : Nat) : Int) i = decide (lo ≤ i ∧ i ≤ hi ∧ (i - lo) % st = 0) := by
  have b1 : gb lo hi st < 2 ^ 64 := Nat.lt_of_lt_of_le (gbn_lt lo st (hi + 1) (by omega)) (by decide)
  rw [hasB_bit _ i (by omega) (by omega) (by omega), Int.toNat_natCast, testBit_gb]

/-- The sets of "*/k * * * *". -/
def minN (k : Nat) : Nat := if k = 1 then gb 0 59 1 ||| starN else gb 0 59 k
def eachS (k : Nat) : Sets := ⟨(gb 0 0 1 : Nat), (minN k : Nat), (gb 0 23 1 ||| starN : Nat), (gb 1 31 1 ||| starN : Nat), (gb 1 12 1 ||| starN : Nat), (gb 0 6 1 ||| starN : Nat)⟩
theorem has_min (k i : Nat) (hi : i ≤ 59) : hasB ((minN k : Nat) : Int) i = decide (i % k = 0) := by
  unfold minN
  split
  · rename_i h
    subst h
    rw [has_star 0 59 1 i (by omega) (by omega)]
    exact decide_eq_decide.2 ⟨fun _ => Nat.mod_one _, fun _ => ⟨by omega, by omega, Nat.mod_one _⟩⟩
  · rw [has_gb 0 59 k i (by omega) (by omega)]
    exact decide_eq_decide.2 ⟨fun h => by simpa using h.2.2, fun h => ⟨by omega, by omega, by simpa using h⟩⟩
theorem each_fits (k : Nat) (l : Int) (h1 : -80000000000 ≤ l) (h2 : l ≤ 390000000000) : fits (eachS k) l ↔ l % 60 = 0 ∧ (l % 3600 / 60).toNat % k = 0 := by
  obtain ⟨p1, p2, p3, p4⟩ := mP_bounds (day := l / 86400) (by omega) (by omega)
  have p5 := Int.le_trans p4 (md_pos (yP (l / 86400)) (mP (l / 86400))).2
  have q1 : monOK (eachS k) (l / 86400) = true := by
    unfold monOK eachS
    rw [has_star 1 12 1 _ (by omega) (by omega)]
    exact decide_eq_true ⟨by omega, by omega, Nat.mod_one _⟩
  have q2 : dayOK (eachS k) (l / 86400) = true := by
    obtain ⟨D, hD⟩ : ∃ D : Nat, dP (l / 86400) = D := Int.eq_ofNat_of_zero_le (Int.le_trans (by decide) p3)
    have dm : mdN (ydN (absD (l / 86400))) = D := by unfold dP at hD; exact Int.ofNat_inj.1 hD
    have hw : wdN (l / 86400) < 7 := Nat.mod_lt _ (by decide)
    unfold dayOK dmB eachS
    simp only
    have s1 : starB ((gb 1 31 1 ||| starN : Nat) : Int) = true := by decide +kernel
    rw [s1, dm]
    simp only [Bool.true_or, if_true]
    rw [has_star 1 31 1 _ (by omega) (by omega), has_star 0 6 1 _ (by omega) (by omega), Bool.and_eq_true]
    exact ⟨decide_eq_true ⟨by omega, by omega, Nat.mod_one _⟩, decide_eq_true ⟨by omega, by omega, Nat.mod_one _⟩⟩
  have q3 : hourOK (eachS k) l = true := by
    unfold hourOK eachS
    rw [has_star 0 23 1 _ (by omega) (by omega)]
    exact decide_eq_true ⟨by omega, by omega, Nat.mod_one _⟩
  have q4 : minOK (eachS k) l = decide ((l % 3600 / 60).toNat % k = 0) := by
    unfold minOK eachS
    exact has_min k _ (by omega)
  have q5 : secOK (eachS k) l = decide (l % 60 = 0) := by
    unfold secOK eachS
    rw [has_gb 0 0 1 _ (by omega) (by omega)]
    exact decide_eq_decide.2 ⟨fun h => by omega, fun h => ⟨by omega, by omega, Nat.mod_one _⟩⟩
  unfold fits
  rw [q1, q2, q3, q4, q5]
  simp only [true_and, decide_eq_true_eq]
  exact And.comm
/-- k divides 60. -/
def Div60 (k : Nat) : Prop := k = 1 ∨ k = 2 ∨ k = 3 ∨ k = 4 ∨ k = 5 ∨ k = 6 ∨ k = 10 ∨ k = 12 ∨ k = 15 ∨ k = 20 ∨ k = 30 ∨ k = 60
theorem each_mod (k : Nat) (hk : Div60 k) (l : Int) (h1 : -80000000000 ≤ l) (h2 : l ≤ 390000000000) : fits (eachS k) l ↔ l % (60 * (k : Int)) = 0 := by
  rw [each_fits k l h1 h2]
  rcases hk with rfl | rfl | rfl | rfl | rfl | rfl | rfl | rfl | rfl | rfl | rfl | rfl <;> omega
/-- The least second behind s that leaves nothing. -/
def coming (s : Int) (k : Nat) : Int := s + 1 + (-(s + 1)) % (60 * (k : Int))
theorem coming_mod (s : Int) (k : Nat) (hk : Div60 k) : coming s k % (60 * (k : Int)) = 0 ∧ s + 1 ≤ coming s k ∧ coming s k ≤ s + 3600 ∧ ∀ l, s + 1 ≤ l → l < coming s k → l % (60 * (k : Int)) ≠ 0 := by
  unfold coming
  rcases hk with rfl | rfl | rfl | rfl | rfl | rfl | rfl | rfl | rfl | rfl | rfl | rfl <;> (refine ⟨by omega, by omega, by omega, fun l a b => by omega⟩)
theorem next_year {d : Int} (h1 : -1000000 ≤ d) (h2 : d ≤ 9000000) : yP (d + 1) ≤ yP d + 1 := by
  rcases day_next (day := d) (by omega) (by omega) with k | ⟨_, k2, k3, k4, k5⟩ | ⟨_, k2, k3, k4, k5⟩ <;> omega
theorem each_found (k : Nat) (hk : Div60 k) (s : Int) (h1 : -62135596800 ≤ s) (h2 : s ≤ 253402300799) : Found (eachS k) (s + 1) (yP ((s + 1) / 86400) + 5) (coming s k) := by
  obtain ⟨c1, c2, c3, c4⟩ := coming_mod s k hk
  refine ⟨c2, by omega, ?_, (each_mod k hk _ (by omega) (by omega)).2 c1, fun l a b f => c4 l a b ((each_mod k hk l (by omega) (by omega)).1 f)⟩
  obtain ⟨d, hd⟩ : ∃ d, (s + 1) / 86400 = d := ⟨_, rfl⟩
  have hy := next_year (d := d) (by omega) (by omega)
  rw [hd]
  have hc : coming s k / 86400 = d ∨ coming s k / 86400 = d + 1 := by omega
  rcases hc with e | e <;> rw [e] <;> omega
end Go.Proofs.YtjbafphoemibaaaGreatDoor

set_option linter.unusedVariables false
set_option linter.unusedSimpArgs false
namespace Go.Proofs.YtjbafphoemibaaaGreatDoor
open Go.RowKit

set_option maxHeartbeats 3200000 in
set_option maxRecDepth 100000 in
theorem dowB_any (w : World) : Calls Tryz.prog 45 #[] w fun e w' => e = .returned (.agg #[.int .u64 0, .int .u64 6, .map (some (w.heap.size + 1))]) ∧ w' = (w.alloc (.cells #[.int .u64 0, .int .u64 6, .map (some (w.heap.size + 1))] 90)).alloc (.map #[{ key := .string ⟨#[115, 117, 110]⟩, val := .int .u64 0, born := 0 }, { key := .string ⟨#[109, 111, 110]⟩, val := .int .u64 1, born := 1 }, { key := .string ⟨#[116, 117, 101]⟩, val := .int .u64 2, born := 2 }, { key := .string ⟨#[119, 101, 100]⟩, val := .int .u64 3, born := 3 }, { key := .string ⟨#[116, 104, 117]⟩, val := .int .u64 4, born := 4 }, { key := .string ⟨#[102, 114, 105]⟩, val := .int .u64 5, born := 5 }, { key := .string ⟨#[115, 97, 116]⟩, val := .int .u64 6, born := 6 }] 7) := by
  have hmk : (Instr.makeMap 88 none).run Tryz.prog (w.alloc (.cells #[.int .u64 0, .int .u64 0, .map none] 90)) = .ok (.map (some (w.heap.size + 1))) ((w.alloc (.cells #[.int .u64 0, .int .u64 0, .map none] 90)).alloc (.map #[] 0)) := by
    have := run_newMap (w.alloc (.cells #[.int .u64 0, .int .u64 0, .map none] 90))
    rwa [World.size_alloc] at this
  have i0 : (Instr.mapUpdate 88 (.map (some (w.heap.size + 1))) (.string ⟨#[115, 117, 110]⟩) (.int .u64 0)).run Tryz.prog ((w.alloc (.cells #[.int .u64 0, .int .u64 0, .map none] 90)).alloc (.map #[] 0)) = .ok () ((w.alloc (.cells #[.int .u64 0, .int .u64 0, .map none] 90)).alloc (.map #[{ key := .string ⟨#[115, 117, 110]⟩, val := .int .u64 0, born := 0 }] 1)) :=
    run_insert_none (w.alloc (.cells #[.int .u64 0, .int .u64 0, .map none] 90)) _ (by rw [World.size_alloc]) #[] 0 ⟨#[115, 117, 110]⟩ (by decide) _ (by
      intro e he
      simp only [List.mem_cons, List.not_mem_nil, or_false] at he
)
  have i1 : (Instr.mapUpdate 88 (.map (some (w.heap.size + 1))) (.string ⟨#[109, 111, 110]⟩) (.int .u64 1)).run Tryz.prog ((w.alloc (.cells #[.int .u64 0, .int .u64 0, .map none] 90)).alloc (.map #[{ key := .string ⟨#[115, 117, 110]⟩, val := .int .u64 0, born := 0 }] 1)) = .ok () ((w.alloc (.cells #[.int .u64 0, .int .u64 0, .map none] 90)).alloc (.map #[{ key := .string ⟨#[115, 117, 110]⟩, val := .int .u64 0, born := 0 }, { key := .string ⟨#[109, 111, 110]⟩, val := .int .u64 1, born := 1 }] 2)) :=
    run_insert_none (w.alloc (.cells #[.int .u64 0, .int .u64 0, .map none] 90)) _ (by rw [World.size_alloc]) #[{ key := .string ⟨#[115, 117, 110]⟩, val := .int .u64 0, born := 0 }] 1 ⟨#[109, 111, 110]⟩ (by decide) _ (by
      intro e he
      simp only [List.mem_cons, List.not_mem_nil, or_false] at he
      rcases he with rfl
      all_goals exact ⟨_, rfl, by decide, by decide⟩)
  have i2 : (Instr.mapUpdate 88 (.map (some (w.heap.size + 1))) (.string ⟨#[116, 117, 101]⟩) (.int .u64 2)).run Tryz.prog ((w.alloc (.cells #[.int .u64 0, .int .u64 0, .map none] 90)).alloc (.map #[{ key := .string ⟨#[115, 117, 110]⟩, val := .int .u64 0, born := 0 }, { key := .string ⟨#[109, 111, 110]⟩, val := .int .u64 1, born := 1 }] 2)) = .ok () ((w.alloc (.cells #[.int .u64 0, .int .u64 0, .map none] 90)).alloc (.map #[{ key := .string ⟨#[115, 117, 110]⟩, val := .int .u64 0, born := 0 }, { key := .string ⟨#[109, 111, 110]⟩, val := .int .u64 1, born := 1 }, { key := .string ⟨#[116, 117, 101]⟩, val := .int .u64 2, born := 2 }] 3)) :=
    run_insert_none (w.alloc (.cells #[.int .u64 0, .int .u64 0, .map none] 90)) _ (by rw [World.size_alloc]) #[{ key := .string ⟨#[115, 117, 110]⟩, val := .int .u64 0, born := 0 }, { key := .string ⟨#[109, 111, 110]⟩, val := .int .u64 1, born := 1 }] 2 ⟨#[116, 117, 101]⟩ (by decide) _ (by
      intro e he
      simp only [List.mem_cons, List.not_mem_nil, or_false] at he
      rcases he with rfl | rfl
      all_goals exact ⟨_, rfl, by decide, by decide⟩)
  have i3 : (Instr.mapUpdate 88 (.map (some (w.heap.size + 1))) (.string ⟨#[119, 101, 100]⟩) (.int .u64 3)).run Tryz.prog ((w.alloc (.cells #[.int .u64 0, .int .u64 0, .map none] 90)).alloc (.map #[{ key := .string ⟨#[115, 117, 110]⟩, val := .int .u64 0, born := 0 }, { key := .string ⟨#[109, 111, 110]⟩, val := .int .u64 1, born := 1 }, { key := .string ⟨#[116, 117, 101]⟩, val := .int .u64 2, born := 2 }] 3)) = .ok () ((w.alloc (.cells #[.int .u64 0, .int .u64 0, .map none] 90)).alloc (.map #[{ key := .string ⟨#[115, 117, 110]⟩, val := .int .u64 0, born := 0 }, { key := .string ⟨#[109, 111, 110]⟩, val := .int .u64 1, born := 1 }, { key := .string ⟨#[116, 117, 101]⟩, val := .int .u64 2, born := 2 }, { key := .string ⟨#[119, 101, 100]⟩, val := .int .u64 3, born := 3 }] 4)) :=
    run_insert_none (w.alloc (.cells #[.int .u64 0, .int .u64 0, .map none] 90)) _ (by rw [World.size_alloc]) #[{ key := .string ⟨#[115, 117, 110]⟩, val := .int .u64 0, born := 0 }, { key := .string ⟨#[109, 111, 110]⟩, val := .int .u64 1, born := 1 }, { key := .string ⟨#[116, 117, 101]⟩, val := .int .u64 2, born := 2 }] 3 ⟨#[119, 101, 100]⟩ (by decide) _ (by
      intro e he
      simp only [List.mem_cons, List.not_mem_nil, or_false] at he
      rcases he with rfl | rfl | rfl
      all_goals exact ⟨_, rfl, by decide, by decide⟩)
  have i4 : (Instr.mapUpdate 88 (.map (some (w.heap.size + 1))) (.string ⟨#[116, 104, 117]⟩) (.int .u64 4)).run Tryz.prog ((w.alloc (.cells #[.int .u64 0, .int .u64 0, .map none] 90)).alloc (.map #[{ key := .string ⟨#[115, 117, 110]⟩, val := .int .u64 0, born := 0 }, { key := .string ⟨#[109, 111, 110]⟩, val := .int .u64 1, born := 1 }, { key := .string ⟨#[116, 117, 101]⟩, val := .int .u64 2, born := 2 }, { key := .string ⟨#[119, 101, 100]⟩, val := .int .u64 3, born := 3 }] 4)) = .ok () ((w.alloc (.cells #[.int .u64 0, .int .u64 0, .map none] 90)).alloc (.map #[{ key := .string ⟨#[115, 117, 110]⟩, val := .int .u64 0, born := 0 }, { key := .string ⟨#[109, 111, 110]⟩, val := .int .u64 1, born := 1 }, { key := .string ⟨#[116, 117, 101]⟩, val := .int .u64 2, born := 2 }, { key := .string ⟨#[119, 101, 100]⟩, val := .int .u64 3, born := 3 }, { key := .string ⟨#[116, 104, 117]⟩, val := .int .u64 4, born := 4 }] 5)) :=
    run_insert_none (w.alloc (.cells #[.int .u64 0, .int .u64 0, .map none] 90)) _ (by rw [World.size_alloc]) #[{ key := .string ⟨#[115, 117, 110]⟩, val := .int .u64 0, born := 0 }, { key := .string ⟨#[109, 111, 110]⟩, val := .int .u64 1, born := 1 }, { key := .string ⟨#[116, 117, 101]⟩, val := .int .u64 2, born := 2 }, { key := .string ⟨#[119, 101, 100]⟩, val := .int .u64 3, born := 3 }] 4 ⟨#[116, 104, 117]⟩ (by decide) _ (by
      intro e he
      simp only [List.mem_cons, List.not_mem_nil, or_false] at he
      rcases he with rfl | rfl | rfl | rfl
      all_goals exact ⟨_, rfl, by decide, by decide⟩)
  have i5 : (Instr.mapUpdate 88 (.map (some (w.heap.size + 1))) (.string ⟨#[102, 114, 105]⟩) (.int .u64 5)).run Tryz.prog ((w.alloc (.cells #[.int .u64 0, .int .u64 0, .map none] 90)).alloc (.map #[{ key := .string ⟨#[115, 117, 110]⟩, val := .int .u64 0, born := 0 }, { key := .string ⟨#[109, 111, 110]⟩, val := .int .u64 1, born := 1 }, { key := .string ⟨#[116, 117, 101]⟩, val := .int .u64 2, born := 2 }, { key := .string ⟨#[119, 101, 100]⟩, val := .int .u64 3, born := 3 }, { key := .string ⟨#[116, 104, 117]⟩, val := .int .u64 4, born := 4 }] 5)) = .ok () ((w.alloc (.cells #[.int .u64 0, .int .u64 0, .map none] 90)).alloc (.map #[{ key := .string ⟨#[115, 117, 110]⟩, val := .int .u64 0, born := 0 }, { key := .string ⟨#[109, 111, 110]⟩, val := .int .u64 1, born := 1 }, { key := .string ⟨#[116, 117, 101]⟩, val := .int .u64 2, born := 2 }, { key := .string ⟨#[119, 101, 100]⟩, val := .int .u64 3, born := 3 }, { key := .string ⟨#[116, 104, 117]⟩, val := .int .u64 4, born := 4 }, { key := .string ⟨#[102, 114, 105]⟩, val := .int .u64 5, born := 5 }] 6)) :=
    run_insert_none (w.alloc (.cells #[.int .u64 0, .int .u64 0, .map none] 90)) _ (by rw [World.size_alloc]) #[{ key := .string ⟨#[115, 117, 110]⟩, val := .int .u64 0, born := 0 }, { key := .string ⟨#[109, 111, 110]⟩, val := .int .u64 1, born := 1 }, { key := .string ⟨#[116, 117, 101]⟩, val := .int .u64 2, born := 2 }, { key := .string ⟨#[119, 101, 100]⟩, val := .int .u64 3, born := 3 }, { key := .string ⟨#[116, 104, 117]⟩, val := .int .u64 4, born := 4 }] 5 ⟨#[102, 114, 105]⟩ (by decide) _ (by
      intro e he
      simp only [List.mem_cons, List.not_mem_nil, or_false] at he
      rcases he with rfl | rfl | rfl | rfl | rfl
      all_goals exact ⟨_, rfl, by decide, by decide⟩)
  have i6 : (Instr.mapUpdate 88 (.map (some (w.heap.size + 1))) (.string ⟨#[115, 97, 116]⟩) (.int .u64 6)).run Tryz.prog ((w.alloc (.cells #[.int .u64 0, .int .u64 0, .map none] 90)).alloc (.map #[{ key := .string ⟨#[115, 117, 110]⟩, val := .int .u64 0, born := 0 }, { key := .string ⟨#[109, 111, 110]⟩, val := .int .u64 1, born := 1 }, { key := .string ⟨#[116, 117, 101]⟩, val := .int .u64 2, born := 2 }, { key := .string ⟨#[119, 101, 100]⟩, val := .int .u64 3, born := 3 }, { key := .string ⟨#[116, 104, 117]⟩, val := .int .u64 4, born := 4 }, { key := .string ⟨#[102, 114, 105]⟩, val := .int .u64 5, born := 5 }] 6)) = .ok () ((w.alloc (.cells #[.int .u64 0, .int .u64 0, .map none] 90)).alloc (.map #[{ key := .string ⟨#[115, 117, 110]⟩, val := .int .u64 0, born := 0 }, { key := .string ⟨#[109, 111, 110]⟩, val := .int .u64 1, born := 1 }, { key := .string ⟨#[116, 117, 101]⟩, val := .int .u64 2, born := 2 }, { key := .string ⟨#[119, 101, 100]⟩, val := .int .u64 3, born := 3 }, { key := .string ⟨#[116, 104, 117]⟩, val := .int .u64 4, born := 4 }, { key := .string ⟨#[102, 114, 105]⟩, val := .int .u64 5, born := 5 }, { key := .string ⟨#[115, 97, 116]⟩, val := .int .u64 6, born := 6 }] 7)) :=
    run_insert_none (w.alloc (.cells #[.int .u64 0, .int .u64 0, .map none] 90)) _ (by rw [World.size_alloc]) #[{ key := .string ⟨#[115, 117, 110]⟩, val := .int .u64 0, born := 0 }, { key := .string ⟨#[109, 111, 110]⟩, val := .int .u64 1, born := 1 }, { key := .string ⟨#[116, 117, 101]⟩, val := .int .u64 2, born := 2 }, { key := .string ⟨#[119, 101, 100]⟩, val := .int .u64 3, born := 3 }, { key := .string ⟨#[116, 104, 117]⟩, val := .int .u64 4, born := 4 }, { key := .string ⟨#[102, 114, 105]⟩, val := .int .u64 5, born := 5 }] 6 ⟨#[115, 97, 116]⟩ (by decide) _ (by
      intro e he
      simp only [List.mem_cons, List.not_mem_nil, or_false] at he
      rcases he with rfl | rfl | rfl | rfl | rfl | rfl
      all_goals exact ⟨_, rfl, by decide, by decide⟩)
  go_enter Tryz.func45, Tryz.ntmps45
  go_wp2_with fail
  go_returns
  exact ⟨rfl, rfl⟩

theorem seconds_any (w : World) : Calls Tryz.prog 40 #[] w fun e w' => e = .returned (.agg #[.int .u64 0, .int .u64 59, .map none]) ∧ Below w.heap.size w w' := by
  go_enter Tryz.func40, Tryz.ntmps40
  go_wp2_with fail
  go_returns
  exact ⟨rfl, by go_grown⟩
theorem minutes_any (w : World) : Calls Tryz.prog 41 #[] w fun e w' => e = .returned (.agg #[.int .u64 0, .int .u64 59, .map none]) ∧ Below w.heap.size w w' := by
  go_enter Tryz.func41, Tryz.ntmps41
  go_wp2_with fail
  go_returns
  exact ⟨rfl, by go_grown⟩
theorem hours_any (w : World) : Calls Tryz.prog 42 #[] w fun e w' => e = .returned (.agg #[.int .u64 0, .int .u64 23, .map none]) ∧ Below w.heap.size w w' := by
  go_enter Tryz.func42, Tryz.ntmps42
  go_wp2_with fail
  go_returns
  exact ⟨rfl, by go_grown⟩
theorem domB_any (w : World) : Calls Tryz.prog 43 #[] w fun e w' => e = .returned (.agg #[.int .u64 1, .int .u64 31, .map none]) ∧ Below w.heap.size w w' := by
  go_enter Tryz.func43, Tryz.ntmps43
  go_wp2_with fail
  go_returns
  exact ⟨rfl, by go_grown⟩
theorem newParser_any (w : World) : Calls Tryz.prog 29 #[.int .i64 380] w fun e w' => e = .returned (.agg #[.int .i64 380]) ∧ Below w.heap.size w w' := by
  have m2 : bits .and .i64 380 2 = 0 := by decide +kernel
  have m128 : bits .and .i64 380 128 = 0 := by decide +kernel
  go_enter Tryz.func29, Tryz.ntmps29
  go_wp2_with fail
  go_returns
  exact ⟨rfl, by go_grown⟩
theorem parser_any (w : World) : Calls Tryz.prog 19 #[] w fun e w' => e = .returned (.agg #[.int .i64 380]) ∧ Below w.heap.size w w' := by
  have CN := hid newParser_any
  have B0 := hid (show Below w.heap.size w (w.alloc (.cells #[.int .i64 0] 66)) by go_grown)
  have K0 := hid (Blk.new w 66 #[.int .i64 0])
  go_enter Tryz.func19, Tryz.ntmps19
  go_wp2_with (go_at_call 29; refine (CN.out _).mono ?_; rintro e w2 ⟨rfl, hb⟩; have B2 := hid (bt B0.out hb); have K2 := hid (K0.out.below hb); have c0 : w2.cell? ⟨w.heap.size, 0, none⟩ = some (.int .i64 0) := K2.out.cell 0; have f0 : w2.frozen? ⟨w.heap.size, 0, none⟩ = false := K2.out.frozen 0; clear hb)
  have K3 := hid (K2.out.set 0 (.int .i64 380))
  have B3 := hid (below_set B2.out (Nat.le_refl _) 0 (.int .i64 380))
  exact bodyPost_ret (results_cell_row rfl _ _ w.heap.size 66 _ (0, 0) _ rfl K3.out Tryz.underlying66 rfl (by kernel_rfl)) rfl ⟨rfl, B3.out⟩
theorem months_w (w : World) : Calls Tryz.prog 44 #[] w fun e w' => ∃ mv : Value, e = .returned (.agg #[.int .u64 1, .int .u64 12, mv]) ∧ Below w.heap.size w w' :=
  (months_any w).mono fun _ _ ⟨h1, h2⟩ => ⟨_, h1, h2 ▸ (by go_grown)⟩
theorem dow_w (w : World) : Calls Tryz.prog 45 #[] w fun e w' => ∃ mv : Value, e = .returned (.agg #[.int .u64 0, .int .u64 6, mv]) ∧ Below w.heap.size w w' :=
  (dowB_any w).mono fun _ _ ⟨h1, h2⟩ => ⟨_, h1, h2 ▸ (by go_grown)⟩
theorem words5_any (s a0 a1 a2 a3 a4 : ByteArray) (ha : ∀ k (h : k < s.size), (s[k]'h).toNat < 128) (hs : s.size ≤ 65536) (hw : wds s = [a0, a1, a2, a3, a4]) (w : World) : Calls Tryz.prog 36 #[.string s] w fun e w' =>
    ∃ g c : Nat, e = .returned (.slice (some ⟨g, 0, none⟩) 5 c) ∧ w'.cell? ⟨g, 0, none⟩ = some (.string a0) ∧ w'.cell? ⟨g, 1, none⟩ = some (.string a1) ∧ w'.cell? ⟨g, 2, none⟩ = some (.string a2) ∧ w'.cell? ⟨g, 3, none⟩ = some (.string a3) ∧ w'.cell? ⟨g, 4, none⟩ = some (.string a4) ∧ Below w.heap.size w w' := by
  refine (words_any s ha w hs).mono ?_
  rintro e w' ⟨v, rfl, hown, hb⟩
  obtain ⟨g, c, rfl, _, hst⟩ := strs_of_own hown (by rw [hw]; simp)
  rw [hw] at hst
  refine ⟨g, c, by rw [hw]; rfl, hst 0 _ rfl, hst 1 _ rfl, hst 2 _ rfl, hst 3 _ rfl, hst 4 _ rfl, hb⟩
theorem prefix_no (s p : ByteArray) (h : Lib.hasPrefix s.data.toList p.data.toList = false) (w : World) : Calls Tryz.prog 31 #[.string s, .string p] w fun e w' => e = .returned (.bool false) ∧ w' = w :=
  (Tryz.strings_HasPrefix s p w).mono fun e w' ⟨h1, h2⟩ => ⟨by rw [h1, h], h2⟩
theorem blk_apart {w : World} {g b : Nat} {t e : TypeId} {cs ds : Array Value} (h : Blk w g t cs) (hB : Blk w b e ds) (hte : t ≠ e) : g ≠ b := by
  rintro rfl
  have h1 := h.symm.trans hB
  injection h1 with h1
  injection h1 with _ h2 _
  exact hte h2
set_option maxHeartbeats 3200000 in
set_option maxRecDepth 100000 in
theorem parse_any (s a0 a1 a2 a3 a4 : ByteArray) (V0 V1 V2 V3 V4 V5 : Nat) (w : World) (hs0 : 1 ≤ s.size) (hs : s.size ≤ 65536) (ha : ∀ k (h : k < s.size), (s[k]'h).toNat < 128)
    (p1 : Lib.hasPrefix s.data.toList (⟨#[84, 90, 61]⟩ : ByteArray).data.toList = false) (p2 : Lib.hasPrefix s.data.toList (⟨#[67, 82, 79, 78, 95, 84, 90, 61]⟩ : ByteArray).data.toList = false) (p3 : Lib.hasPrefix s.data.toList (⟨#[64]⟩ : ByteArray).data.toList = false)
    (hw : wds s = [a0, a1, a2, a3, a4]) (f0 : FieldIs ⟨#[48]⟩ 0 59 (.map none) V0) (f1 : FieldIs a0 0 59 (.map none) V1) (f2 : FieldIs a1 0 23 (.map none) V2) (f3 : FieldIs a2 1 31 (.map none) V3) (f4 : ∀ mv, FieldIs a3 1 12 mv V4) (f5 : ∀ mv, FieldIs a4 0 6 mv V5) :
    Calls Tryz.prog 20 #[.agg #[.int .i64 380], .string s] w fun e w' => (∃ g, e = .returned (.tuple #[.iface 58 (.pointer (some ⟨g, 0, none⟩)), .nilIface]) ∧ Blk w' g 60 (scd V0 V1 V2 V3 V4 V5 none)) ∧ Below w.heap.size w w' := by
  have z0 : ((s.size : Int) == 0) = false := by rw [beq_eq_false_iff_ne]; omega
  have H1 := hid (prefix_no s _ p1)
  have H2 := hid (prefix_no s _ p2)
  have H3 := hid (prefix_no s _ p3)
  have HW := hid (words5_any s a0 a1 a2 a3 a4 ha hs hw)
  have F0 := hid f0
  have F1 := hid f1
  have F2 := hid f2
  have F3 := hid f3
  have F4 := hid f4
  have F5 := hid f5
  clear p1 p2 p3 hw ha hs hs0 f0 f1 f2 f3 f4 f5
  have B0 := hid (show Below w.heap.size w (w.alloc (.cells #[.int .i64 380] 66)) by go_grown)
  have K0 := hid (Blk.new w 66 #[.int .i64 380])
  go_enter Tryz.func20, Tryz.ntmps20
  go_upto_region 18 with (first
    | (go_at_call_of 31 (Value.string ⟨#[84, 90, 61]⟩); refine (H1.out _).mono ?_; rintro e w' ⟨rfl, rfl⟩)
    | (go_at_call_of 31 (Value.string ⟨#[67, 82, 79, 78, 95, 84, 90, 61]⟩); refine (H2.out _).mono ?_; rintro e w' ⟨rfl, rfl⟩)
    | (go_at_call_of 31 (Value.string ⟨#[64]⟩); refine (H3.out _).mono ?_; rintro e w' ⟨rfl, rfl⟩)
    | (go_at_call 36; refine (HW.out _).mono ?_; rintro e w1 ⟨g, c, rfl, q0, q1, q2, q3, q4, hb⟩; have B1 := hid (bt B0.out hb); have K1 := hid (K0.out.below hb); replace q0 := hid q0; replace q1 := hid q1; replace q2 := hid q2; replace q3 := hid q3; replace q4 := hid q4; clear hb))
  have KE := hid (Blk.new w1 46 #[.nilIface])
  have B2 := hid (bt B1.out (show Below w1.heap.size w1 (w1.alloc (.cells #[.nilIface] 46)) by go_grown))
  have K2 := hid (K1.out.alloc (.cells #[.nilIface] 46))
  have r0 := hid (cell_on (show Below w1.heap.size w1 (w1.alloc (.cells #[.nilIface] 46)) by go_grown) q0.out)
  have r1 := hid (cell_on (show Below w1.heap.size w1 (w1.alloc (.cells #[.nilIface] 46)) by go_grown) q1.out)
  have r2 := hid (cell_on (show Below w1.heap.size w1 (w1.alloc (.cells #[.nilIface] 46)) by go_grown) q2.out)
  have r3 := hid (cell_on (show Below w1.heap.size w1 (w1.alloc (.cells #[.nilIface] 46)) by go_grown) q3.out)
  have r4 := hid (cell_on (show Below w1.heap.size w1 (w1.alloc (.cells #[.nilIface] 46)) by go_grown) q4.out)
  obtain ⟨ge, hge⟩ : ∃ ge, w1.heap.size = ge := ⟨_, rfl⟩
  have GE := hid (show w.heap.size ≤ ge from hge ▸ B1.out.size)
  rw [hge] at KE ⊢
  generalize (w1.alloc (.cells #[.nilIface] 46)) = w2 at KE B2 K2 r0 r1 r2 r3 r4 ⊢
  clear q0 q1 q2 q3 q4 K0 K1 B0 B1 hge
  have l0 : w2.cell? ⟨w.heap.size, 0, none⟩ = some (.int .i64 380) := K2.out.cell 0
  have CN := hid (norm_any a0 a1 a2 a3 a4 g c w2 r0.out r1.out r2.out r3.out r4.out)
  clear r0 r1 r2 r3 r4
  go_upto_region 19 with (first
    | (go_at_call 37; refine CN.out.mono ?_; rintro e w3 ⟨⟨h, rfl, hk⟩, hb⟩; have HK := hid hk; have B3 := hid (bt B2.out hb); have E3 := hid (KE.out.below hb); have e0 : w3.cell? ⟨ge, 0, none⟩ = some .nilIface := E3.out.cell 0; have f0 : w3.frozen? ⟨ge, 0, none⟩ = false := E3.out.frozen 0; clear hb hk))
  have W0 := hid (HK.out.other (blk_apart HK.out E3.out (by decide)) 0 .nilIface)
  have E0 := hid (show Blk (w3.setCell ⟨ge, 0, none⟩ .nilIface) ge 46 #[.nilIface] from E3.out.set 0 .nilIface)
  have D0 := hid (below_set B3.out GE.out 0 .nilIface)
  clear e0 f0 l0 CN KE K2 B2 HK B3 E3
  generalize (w3.setCell ⟨ge, 0, none⟩ .nilIface) = x0 at W0 E0 D0 ⊢
  have l0 : x0.cell? ⟨ge, 0, none⟩ = some .nilIface := E0.out.cell 0
  go_upto_region 22 with fail
  have l1 : ∀ d os, (Go.Sort.grow (redrawn x0 d) os).cell? ⟨h, 0, none⟩ = some (.string ⟨#[48]⟩) := fun d os => (blk_gr W0.out d os).cell 0
  have Q0 := hid (fun d os => Calls.regrown_of (seconds_any (Go.Sort.grow (redrawn x0 d) os)))
  have Q1 := hid (fun d os => Calls.regrown_of (closure_any ⟨#[48]⟩ 0 59 (.map none) V0 ge (Go.Sort.grow (redrawn x0 d) os) F0.out (blk_gr E0.out d os)))
  refine wp_region_quiet_below (by kernel_rfl) (by kernel_rfl) ?_
  repeat (go_big_quiet_step ((first | (go_at_call 40; exact Q0.out _ _) | (go_at_call 38; exact Q1.out _ _) | fail)))
  refine wpQuiet_nil ?_
  intro _ hw'
  obtain ⟨⟨dq, osq⟩, hw''⟩ := hw'
  subst hw''
  have W1 := hid (blk_gr W0.out dq osq)
  have E1 := hid (blk_gr E0.out dq osq)
  have D1 := hid (bt D0.out (below_regrown x0 dq osq))
  clear l1 Q0 Q1 W0 E0 D0
  generalize (Go.Sort.grow (redrawn x0 dq) osq) = x1 at W1 E1 D1 ⊢
  clear l0
  go_upto_region 23 with fail
  have l2 : ∀ d os, (Go.Sort.grow (redrawn x1 d) os).cell? ⟨h, 1, none⟩ = some (.string a0) := fun d os => (blk_gr W1.out d os).cell 1
  have Q0 := hid (fun d os => Calls.regrown_of (minutes_any (Go.Sort.grow (redrawn x1 d) os)))
  have Q1 := hid (fun d os => Calls.regrown_of (closure_any a0 0 59 (.map none) V1 ge (Go.Sort.grow (redrawn x1 d) os) F1.out (blk_gr E1.out d os)))
  refine wp_region_quiet_below (by kernel_rfl) (by kernel_rfl) ?_
  repeat (go_big_quiet_step ((first | (go_at_call 41; exact Q0.out _ _) | (go_at_call 38; exact Q1.out _ _) | fail)))
  refine wpQuiet_nil ?_
  intro _ hw'
  obtain ⟨⟨dq, osq⟩, hw''⟩ := hw'
  subst hw''
  have W2 := hid (blk_gr W1.out dq osq)
  have E2 := hid (blk_gr E1.out dq osq)
  have D2 := hid (bt D1.out (below_regrown x1 dq osq))
  clear l2 Q0 Q1 W1 E1 D1
  generalize (Go.Sort.grow (redrawn x1 dq) osq) = x2 at W2 E2 D2 ⊢
  go_upto_region 24 with fail
  have l3 : ∀ d os, (Go.Sort.grow (redrawn x2 d) os).cell? ⟨h, 2, none⟩ = some (.string a1) := fun d os => (blk_gr W2.out d os).cell 2
  have Q0 := hid (fun d os => Calls.regrown_of (hours_any (Go.Sort.grow (redrawn x2 d) os)))
  have Q1 := hid (fun d os => Calls.regrown_of (closure_any a1 0 23 (.map none) V2 ge (Go.Sort.grow (redrawn x2 d) os) F2.out (blk_gr E2.out d os)))
  refine wp_region_quiet_below (by kernel_rfl) (by kernel_rfl) ?_
  repeat (go_big_quiet_step ((first | (go_at_call 42; exact Q0.out _ _) | (go_at_call 38; exact Q1.out _ _) | fail)))
  refine wpQuiet_nil ?_
  intro _ hw'
  obtain ⟨⟨dq, osq⟩, hw''⟩ := hw'
  subst hw''
  have W3 := hid (blk_gr W2.out dq osq)
  have E3 := hid (blk_gr E2.out dq osq)
  have D3 := hid (bt D2.out (below_regrown x2 dq osq))
  clear l3 Q0 Q1 W2 E2 D2
  generalize (Go.Sort.grow (redrawn x2 dq) osq) = x3 at W3 E3 D3 ⊢
  go_upto_region 25 with fail
  have l4 : ∀ d os, (Go.Sort.grow (redrawn x3 d) os).cell? ⟨h, 3, none⟩ = some (.string a2) := fun d os => (blk_gr W3.out d os).cell 3
  have Q0 := hid (fun d os => Calls.regrown_of (domB_any (Go.Sort.grow (redrawn x3 d) os)))
  have Q1 := hid (fun d os => Calls.regrown_of (closure_any a2 1 31 (.map none) V3 ge (Go.Sort.grow (redrawn x3 d) os) F3.out (blk_gr E3.out d os)))
  refine wp_region_quiet_below (by kernel_rfl) (by kernel_rfl) ?_
  repeat (go_big_quiet_step ((first | (go_at_call 43; exact Q0.out _ _) | (go_at_call 38; exact Q1.out _ _) | fail)))
  refine wpQuiet_nil ?_
  intro _ hw'
  obtain ⟨⟨dq, osq⟩, hw''⟩ := hw'
  subst hw''
  have W4 := hid (blk_gr W3.out dq osq)
  have E4 := hid (blk_gr E3.out dq osq)
  have D4 := hid (bt D3.out (below_regrown x3 dq osq))
  clear l4 Q0 Q1 W3 E3 D3
  generalize (Go.Sort.grow (redrawn x3 dq) osq) = x4 at W4 E4 D4 ⊢
  go_upto_region 26 with fail
  go_region_held3 (fun w' => w'.cell? ⟨h, 4, none⟩ = some (.string a3))
    ((first | (exact (W4.out.below Z4.out).cell 4; done) | (exact (W4.out.below U4.out).cell 4; done) | (refine (W4.out.below ?_).cell 4; go_grown; done)))
    (first
      | (go_at_call 44; refine (months_w _).mono ?_; rintro e u4 ⟨mv4, rfl, hb⟩; have U4 := hid (bt (X := x4) (by go_grown) hb); clear hb)
      | (go_at_call 38; refine (closure_any a3 1 12 mv4 V4 ge _ (F4.out mv4) (E4.out.below (by first | exact U4.out | exact bt U4.out (by go_grown)))).mono ?_; rintro e v4 ⟨rfl, hb⟩; have Z4 := hid (bt (X := x4) (by first | exact U4.out | exact bt U4.out (by go_grown)) hb); clear hb))
  all_goals
    have W5 := hid (W4.out.below Z4.out)
    have E5 := hid (E4.out.below Z4.out)
    have D5 := hid (bt D4.out Z4.out)
    clear W4 E4 D4 U4 Z4
    go_upto_region 27 with fail
    go_region_held3 (fun w' => w'.cell? ⟨h, 5, none⟩ = some (.string a4))
      ((first | (exact (W5.out.below Z5.out).cell 5; done) | (exact (W5.out.below U5.out).cell 5; done) | (refine (W5.out.below ?_).cell 5; go_grown; done)))
      (first
        | (go_at_call 45; refine (dow_w _).mono ?_; rintro e u5 ⟨mv5, rfl, hb⟩; have U5 := hid (bt (X := v4) (by go_grown) hb); clear hb)
        | (go_at_call 38; refine (closure_any a4 0 6 mv5 V5 ge _ (F5.out mv5) (E5.out.below (by first | exact U5.out | exact bt U5.out (by go_grown)))).mono ?_; rintro e v5 ⟨rfl, hb⟩; have Z5 := hid (bt (X := v4) (by first | exact U5.out | exact bt U5.out (by go_grown)) hb); clear hb))
    all_goals
      have W6 := hid (W5.out.below Z5.out)
      have E6 := hid (E5.out.below Z5.out)
      have D6 := hid (bt D5.out Z5.out)
      clear W5 E5 D5 U5 Z5
      have l7 : v5.cell? ⟨ge, 0, none⟩ = some .nilIface := E6.out.cell 0
      have KN := hid (Blk.new v5 60 (scd V0 V1 V2 V3 V4 V5 none))
      have BN := hid (bt D6.out (show Below v5.heap.size v5 (v5.alloc (.cells (scd V0 V1 V2 V3 V4 V5 none) 60)) by go_grown))
      go_wp2_with fail
      go_returns
      exact ⟨⟨_, rfl, KN.out⟩, BN.out⟩
end Go.Proofs.YtjbafphoemibaaaGreatDoor

set_option linter.unusedVariables false
set_option linter.unusedSimpArgs false
namespace Go.Proofs.YtjbafphoemibaaaGreatDoor
open Go.RowKit

def stepT (k : Nat) : ByteArray := (⟨#[42, 47]⟩ : ByteArray) ++ dec k
def minT (k : Nat) : ByteArray := (⟨#[42, 47]⟩ : ByteArray) ++ dec k ++ ⟨#[32, 42, 32, 42, 32, 42, 32, 42]⟩
theorem mk_list (a : Array UInt8) : (⟨a⟩ : ByteArray).toList = a.toList := by rw [ByteArray.toList_eq]
/-- What is asked of a text "*/k". -/
def StepOk (k : Nat) : Prop := (stepT k).size ≤ 65536 ∧ ascii (stepT k) ∧ cut 44 (stepT k).toList = [(stepT k).toList] ∧ (stepT k).toList ≠ [] ∧ cut 47 (stepT k).toList = [(⟨#[42]⟩ : ByteArray).toList, (dec k).toList] ∧ Lib.atoiAll (dec k).toList = .ok (k : Int)
def MinOk (k : Nat) : Prop := 1 ≤ (minT k).size ∧ (minT k).size ≤ 65536 ∧ ascii (minT k) ∧ Lib.hasPrefix (minT k).data.toList (⟨#[84, 90, 61]⟩ : ByteArray).data.toList = false ∧ Lib.hasPrefix (minT k).data.toList (⟨#[67, 82, 79, 78, 95, 84, 90, 61]⟩ : ByteArray).data.toList = false ∧ Lib.hasPrefix (minT k).data.toList (⟨#[64]⟩ : ByteArray).data.toList = false ∧
  wds (minT k) = [stepT k, ⟨#[42]⟩, ⟨#[42]⟩, ⟨#[42]⟩, ⟨#[42]⟩]
theorem dec_atoi (n : Nat) (h : n ≤ 9223372036854775807) : Lib.atoiAll (dec n).toList = .ok (n : Int) := by
  have := zt_atoi 0 n h
  rwa [zt_zero] at this
theorem step_ok (k : Nat) (hk : Div60 k) : StepOk k := by
  rcases hk with rfl | rfl | rfl | rfl | rfl | rfl | rfl | rfl | rfl | rfl | rfl | rfl
  · have e : dec 1 = ⟨#[49]⟩ := by decide +kernel
    have e2 : stepT 1 = ⟨#[42, 47, 49]⟩ := by decide +kernel
    refine ⟨?_, ?_, ?_, ?_, ?_, dec_atoi _ (by decide)⟩ <;> rw [e2]
    · decide +kernel
    · unfold ascii; decide +kernel
    · rw [mk_list]; decide +kernel
    · rw [mk_list]; decide +kernel
    · rw [mk_list, mk_list, e, mk_list]; decide +kernel
  · have e : dec 2 = ⟨#[50]⟩ := by decide +kernel
    have e2 : stepT 2 = ⟨#[42, 47, 50]⟩ := by decide +kernel
    refine ⟨?_, ?_, ?_, ?_, ?_, dec_atoi _ (by decide)⟩ <;> rw [e2]
    · decide +kernel
    · unfold ascii; decide +kernel
    · rw [mk_list]; decide +kernel
    · rw [mk_list]; decide +kernel
    · rw [mk_list, mk_list, e, mk_list]; decide +kernel
  · have e : dec 3 = ⟨#[51]⟩ := by decide +kernel
    have e2 : stepT 3 = ⟨#[42, 47, 51]⟩ := by decide +kernel
    refine ⟨?_, ?_, ?_, ?_, ?_, dec_atoi _ (by decide)⟩ <;> rw [e2]
    · decide +kernel
    · unfold ascii; decide +kernel
    · rw [mk_list]; decide +kernel
    · rw [mk_list]; decide +kernel
    · rw [mk_list, mk_list, e, mk_list]; decide +kernel
  · have e : dec 4 = ⟨#[52]⟩ := by decide +kernel
    have e2 : stepT 4 = ⟨#[42, 47, 52]⟩ := by decide +kernel
    refine ⟨?_, ?_, ?_, ?_, ?_, dec_atoi _ (by decide)⟩ <;> rw [e2]
    · decide +kernel
    · unfold ascii; decide +kernel
    · rw [mk_list]; decide +kernel
    · rw [mk_list]; decide +kernel
    · rw [mk_list, mk_list, e, mk_list]; decide +kernel
  · have e : dec 5 = ⟨#[53]⟩ := by decide +kernel
    have e2 : stepT 5 = ⟨#[42, 47, 53]⟩ := by decide +kernel
    refine ⟨?_, ?_, ?_, ?_, ?_, dec_atoi _ (by decide)⟩ <;> rw [e2]
    · decide +kernel
    · unfold ascii; decide +kernel
    · rw [mk_list]; decide +kernel
    · rw [mk_list]; decide +kernel
    · rw [mk_list, mk_list, e, mk_list]; decide +kernel
  · have e : dec 6 = ⟨#[54]⟩ := by decide +kernel
    have e2 : stepT 6 = ⟨#[42, 47, 54]⟩ := by decide +kernel
    refine ⟨?_, ?_, ?_, ?_, ?_, dec_atoi _ (by decide)⟩ <;> rw [e2]
    · decide +kernel
    · unfold ascii; decide +kernel
    · rw [mk_list]; decide +kernel
    · rw [mk_list]; decide +kernel
    · rw [mk_list, mk_list, e, mk_list]; decide +kernel
  · have e : dec 10 = ⟨#[49, 48]⟩ := by decide +kernel
    have e2 : stepT 10 = ⟨#[42, 47, 49, 48]⟩ := by decide +kernel
    refine ⟨?_, ?_, ?_, ?_, ?_, dec_atoi _ (by decide)⟩ <;> rw [e2]
    · decide +kernel
    · unfold ascii; decide +kernel
    · rw [mk_list]; decide +kernel
    · rw [mk_list]; decide +kernel
    · rw [mk_list, mk_list, e, mk_list]; decide +kernel
  · have e : dec 12 = ⟨#[49, 50]⟩ := by decide +kernel
    have e2 : stepT 12 = ⟨#[42, 47, 49, 50]⟩ := by decide +kernel
    refine ⟨?_, ?_, ?_, ?_, ?_, dec_atoi _ (by decide)⟩ <;> rw [e2]
    · decide +kernel
    · unfold ascii; decide +kernel
    · rw [mk_list]; decide +kernel
    · rw [mk_list]; decide +kernel
    · rw [mk_list, mk_list, e, mk_list]; decide +kernel
  · have e : dec 15 = ⟨#[49, 53]⟩ := by decide +kernel
    have e2 : stepT 15 = ⟨#[42, 47, 49, 53]⟩ := by decide +kernel
    refine ⟨?_, ?_, ?_, ?_, ?_, dec_atoi _ (by decide)⟩ <;> rw [e2]
    · decide +kernel
    · unfold ascii; decide +kernel
    · rw [mk_list]; decide +kernel
    · rw [mk_list]; decide +kernel
    · rw [mk_list, mk_list, e, mk_list]; decide +kernel
  · have e : dec 20 = ⟨#[50, 48]⟩ := by decide +kernel
    have e2 : stepT 20 = ⟨#[42, 47, 50, 48]⟩ := by decide +kernel
    refine ⟨?_, ?_, ?_, ?_, ?_, dec_atoi _ (by decide)⟩ <;> rw [e2]
    · decide +kernel
    · unfold ascii; decide +kernel
    · rw [mk_list]; decide +kernel
    · rw [mk_list]; decide +kernel
    · rw [mk_list, mk_list, e, mk_list]; decide +kernel
  · have e : dec 30 = ⟨#[51, 48]⟩ := by decide +kernel
    have e2 : stepT 30 = ⟨#[42, 47, 51, 48]⟩ := by decide +kernel
    refine ⟨?_, ?_, ?_, ?_, ?_, dec_atoi _ (by decide)⟩ <;> rw [e2]
    · decide +kernel
    · unfold ascii; decide +kernel
    · rw [mk_list]; decide +kernel
    · rw [mk_list]; decide +kernel
    · rw [mk_list, mk_list, e, mk_list]; decide +kernel
  · have e : dec 60 = ⟨#[54, 48]⟩ := by decide +kernel
    have e2 : stepT 60 = ⟨#[42, 47, 54, 48]⟩ := by decide +kernel
    refine ⟨?_, ?_, ?_, ?_, ?_, dec_atoi _ (by decide)⟩ <;> rw [e2]
    · decide +kernel
    · unfold ascii; decide +kernel
    · rw [mk_list]; decide +kernel
    · rw [mk_list]; decide +kernel
    · rw [mk_list, mk_list, e, mk_list]; decide +kernel
theorem min_ok (k : Nat) (hk : Div60 k) : MinOk k := by
  rcases hk with rfl | rfl | rfl | rfl | rfl | rfl | rfl | rfl | rfl | rfl | rfl | rfl
  · have e2 : stepT 1 = ⟨#[42, 47, 49]⟩ := by decide +kernel
    have e3 : minT 1 = ⟨#[42, 47, 49, 32, 42, 32, 42, 32, 42, 32, 42]⟩ := by decide +kernel
    refine ⟨?_, ?_, ?_, ?_, ?_, ?_, ?_⟩ <;> rw [e3]
    · decide +kernel
    · decide +kernel
    · unfold ascii; decide +kernel
    · decide +kernel
    · decide +kernel
    · decide +kernel
    · rw [e2]; decide +kernel
  · have e2 : stepT 2 = ⟨#[42, 47, 50]⟩ := by decide +kernel
    have e3 : minT 2 = ⟨#[42, 47, 50, 32, 42, 32, 42, 32, 42, 32, 42]⟩ := by decide +kernel
    refine ⟨?_, ?_, ?_, ?_, ?_, ?_, ?_⟩ <;> rw [e3]
    · decide +kernel
    · decide +kernel
    · unfold ascii; decide +kernel
    · decide +kernel
    · decide +kernel
    · decide +kernel
    · rw [e2]; decide +kernel
  · have e2 : stepT 3 = ⟨#[42, 47, 51]⟩ := by decide +kernel
    have e3 : minT 3 = ⟨#[42, 47, 51, 32, 42, 32, 42, 32, 42, 32, 42]⟩ := by decide +kernel
    refine ⟨?_, ?_, ?_, ?_, ?_, ?_, ?_⟩ <;> rw [e3]
    · decide +kernel
    · decide +kernel
    · unfold ascii; decide +kernel
    · decide +kernel
    · decide +kernel
    · decide +kernel
    · rw [e2]; decide +kernel
  · have e2 : stepT 4 = ⟨#[42, 47, 52]⟩ := by decide +kernel
    have e3 : minT 4 = ⟨#[42, 47, 52, 32, 42, 32, 42, 32, 42, 32, 42]⟩ := by decide +kernel
    refine ⟨?_, ?_, ?_, ?_, ?_, ?_, ?_⟩ <;> rw [e3]
    · decide +kernel
    · decide +kernel
    · unfold ascii; decide +kernel
    · decide +kernel
    · decide +kernel
    · decide +kernel
    · rw [e2]; decide +kernel
  · have e2 : stepT 5 = ⟨#[42, 47, 53]⟩ := by decide +kernel
    have e3 : minT 5 = ⟨#[42, 47, 53, 32, 42, 32, 42, 32, 42, 32, 42]⟩ := by decide +kernel
    refine ⟨?_, ?_, ?_, ?_, ?_, ?_, ?_⟩ <;> rw [e3]
    · decide +kernel
    · decide +kernel
    · unfold ascii; decide +kernel
    · decide +kernel
    · decide +kernel
    · decide +kernel
    · rw [e2]; decide +kernel
  · have e2 : stepT 6 = ⟨#[42, 47, 54]⟩ := by decide +kernel
    have e3 : minT 6 = ⟨#[42, 47, 54, 32, 42, 32, 42, 32, 42, 32, 42]⟩ := by decide +kernel
    refine ⟨?_, ?_, ?_, ?_, ?_, ?_, ?_⟩ <;> rw [e3]
    · decide +kernel
    · decide +kernel
    · unfold ascii; decide +kernel
    · decide +kernel
    · decide +kernel
    · decide +kernel
    · rw [e2]; decide +kernel
  · have e2 : stepT 10 = ⟨#[42, 47, 49, 48]⟩ := by decide +kernel
    have e3 : minT 10 = ⟨#[42, 47, 49, 48, 32, 42, 32, 42, 32, 42, 32, 42]⟩ := by decide +kernel
    refine ⟨?_, ?_, ?_, ?_, ?_, ?_, ?_⟩ <;> rw [e3]
    · decide +kernel
    · decide +kernel
    · unfold ascii; decide +kernel
    · decide +kernel
    · decide +kernel
    · decide +kernel
    · rw [e2]; decide +kernel
  · have e2 : stepT 12 = ⟨#[42, 47, 49, 50]⟩ := by decide +kernel
    have e3 : minT 12 = ⟨#[42, 47, 49, 50, 32, 42, 32, 42, 32, 42, 32, 42]⟩ := by decide +kernel
    refine ⟨?_, ?_, ?_, ?_, ?_, ?_, ?_⟩ <;> rw [e3]
    · decide +kernel
    · decide +kernel
    · unfold ascii; decide +kernel
    · decide +kernel
    · decide +kernel
    · decide +kernel
    · rw [e2]; decide +kernel
  · have e2 : stepT 15 = ⟨#[42, 47, 49, 53]⟩ := by decide +kernel
    have e3 : minT 15 = ⟨#[42, 47, 49, 53, 32, 42, 32, 42, 32, 42, 32, 42]⟩ := by decide +kernel
    refine ⟨?_, ?_, ?_, ?_, ?_, ?_, ?_⟩ <;> rw [e3]
    · decide +kernel
    · decide +kernel
    · unfold ascii; decide +kernel
    · decide +kernel
    · decide +kernel
    · decide +kernel
    · rw [e2]; decide +kernel
  · have e2 : stepT 20 = ⟨#[42, 47, 50, 48]⟩ := by decide +kernel
    have e3 : minT 20 = ⟨#[42, 47, 50, 48, 32, 42, 32, 42, 32, 42, 32, 42]⟩ := by decide +kernel
    refine ⟨?_, ?_, ?_, ?_, ?_, ?_, ?_⟩ <;> rw [e3]
    · decide +kernel
    · decide +kernel
    · unfold ascii; decide +kernel
    · decide +kernel
    · decide +kernel
    · decide +kernel
    · rw [e2]; decide +kernel
  · have e2 : stepT 30 = ⟨#[42, 47, 51, 48]⟩ := by decide +kernel
    have e3 : minT 30 = ⟨#[42, 47, 51, 48, 32, 42, 32, 42, 32, 42, 32, 42]⟩ := by decide +kernel
    refine ⟨?_, ?_, ?_, ?_, ?_, ?_, ?_⟩ <;> rw [e3]
    · decide +kernel
    · decide +kernel
    · unfold ascii; decide +kernel
    · decide +kernel
    · decide +kernel
    · decide +kernel
    · rw [e2]; decide +kernel
  · have e2 : stepT 60 = ⟨#[42, 47, 54, 48]⟩ := by decide +kernel
    have e3 : minT 60 = ⟨#[42, 47, 54, 48, 32, 42, 32, 42, 32, 42, 32, 42]⟩ := by decide +kernel
    refine ⟨?_, ?_, ?_, ?_, ?_, ?_, ?_⟩ <;> rw [e3]
    · decide +kernel
    · decide +kernel
    · unfold ascii; decide +kernel
    · decide +kernel
    · decide +kernel
    · decide +kernel
    · rw [e2]; decide +kernel
theorem eachS_ok (k : Nat) (hk : Div60 k) : setsOk (eachS k) := by
  rcases hk with rfl | rfl | rfl | rfl | rfl | rfl | rfl | rfl | rfl | rfl | rfl | rfl <;> (unfold setsOk; decide +kernel)
theorem minN_lt (k : Nat) (hk : Div60 k) : minN k < 18446744073709551616 := by
  rcases hk with rfl | rfl | rfl | rfl | rfl | rfl | rfl | rfl | rfl | rfl | rfl | rfl <;> decide +kernel

theorem div60_pos {k : Nat} (hk : Div60 k) : 1 ≤ k ∧ k ≤ 60 := by unfold Div60 at hk; omega
theorem star_lt (lo hi : Nat) (h : hi ≤ 62) : (gb lo hi 1 ||| 9223372036854775808 : Nat) < 18446744073709551616 := or_lt (Nat.lt_of_lt_of_le (gbn_lt lo 1 (hi + 1) (by omega)) (by decide)) (by decide)
theorem field_star (lo hi : Nat) (mv : Value) (hh : hi ≤ 62) (hl : lo ≤ hi) : FieldIs ⟨#[42]⟩ lo hi mv (gb lo hi 1 ||| starN) :=
  field_one ⟨#[42]⟩ lo hi mv _ (by decide) (by unfold ascii; decide +kernel) (by rw [mk_list]; decide +kernel) (by rw [mk_list]; decide +kernel) (star_lt lo hi hh) (fun w => range_all lo hi mv w hh hl)
theorem field_zero : FieldIs ⟨#[48]⟩ 0 59 (.map none) (gb 0 0 1) :=
  field_one ⟨#[48]⟩ 0 59 (.map none) _ (by decide) (by unfold ascii; decide +kernel) (by rw [mk_list]; decide +kernel) (by rw [mk_list]; decide +kernel) (by decide +kernel) (fun w =>
    rangeN_one ⟨#[48]⟩ ⟨#[48]⟩ 0 59 0 w (.map none) (fun _ => True) (fun _ _ _ _ => trivial) trivial (by decide) (fun W _ => plain_name ⟨#[48]⟩ 0 (by decide) (by
      have := dec_atoi 0 (by decide)
      have e : dec 0 = ⟨#[48]⟩ := by decide +kernel
      rwa [e] at this) (by decide) W) (by rw [mk_list]; decide +kernel) (by rw [mk_list]; decide +kernel) (by decide) (by decide) (by decide) (by rw [mk_list]; decide +kernel) (by rw [mk_list]; decide +kernel) rfl)
theorem field_step (k : Nat) (hk : Div60 k) : FieldIs (stepT k) 0 59 (.map none) (minN k) := by
  obtain ⟨h1, h2, h3, h4, h5, h6⟩ := step_ok k hk
  obtain ⟨k1, k2⟩ := div60_pos hk
  refine field_one (stepT k) 0 59 (.map none) _ (by omega) h2 h3 h4 (minN_lt k hk) (fun w => ?_)
  have hz := dec_size k (by omega)
  by_cases h : k = 1
  · have e : minN k = (gb 0 59 k ||| 9223372036854775808) := by unfold minN; rw [if_pos h, h]; rfl
    rw [e]
    exact range_star_one (stepT k) (dec k) 0 59 k w (by omega) (by omega) h6 h (by omega) (by decide) h5 (by decide)
  · have e : minN k = gb 0 59 k := by unfold minN; rw [if_neg h]
    rw [e]
    exact range_star_more (stepT k) (dec k) 0 59 k w (by omega) (by omega) h6 (by omega) (by omega) (by decide) h5 (by decide)

theorem cronParse_any (k : Nat) (hk : Div60 k) (w : World) : Calls Tryz.prog 12 #[.string (minT k)] w fun e w' =>
    (∃ g, e = .returned (.tuple #[.iface 58 (.pointer (some ⟨g, 0, none⟩)), .nilIface]) ∧ Blk w' g 60 (scd (eachS k).sec (eachS k).min (eachS k).hour (eachS k).dom (eachS k).month (eachS k).dow none)) ∧ Below w.heap.size w w' := by
  obtain ⟨h1, h2, h3, h4, h5, h6, h7⟩ := min_ok k hk
  have CP := hid (fun X => parse_any (minT k) (stepT k) ⟨#[42]⟩ ⟨#[42]⟩ ⟨#[42]⟩ ⟨#[42]⟩ _ _ _ _ _ _ X h1 h2 h3 h4 h5 h6 h7 field_zero (field_step k hk) (field_star 0 23 (.map none) (by decide) (by decide)) (field_star 1 31 (.map none) (by decide) (by decide)) (fun mv => field_star 1 12 mv (by decide) (by decide)) (fun mv => field_star 0 6 mv (by decide) (by decide)))
  have CS := hid parser_any
  clear h1 h2 h3 h4 h5 h6 h7 hk
  generalize minT k = s at CP ⊢
  go_enter Tryz.func12, Tryz.ntmps12
  go_wp2_with (first
    | (go_at_call 19; refine (CS.out _).mono ?_; rintro e w1 ⟨rfl, hb⟩; have B1 := hid hb; clear hb)
    | (go_at_call 20; refine (CP.out _).mono ?_; rintro e w2 ⟨⟨g, rfl, hk⟩, hb⟩; have HK := hid hk; have B2 := hid (bt B1.out hb); clear hb hk))
  go_returns
  exact ⟨⟨_, rfl, HK.out⟩, B2.out⟩
end Go.Proofs.YtjbafphoemibaaaGreatDoor

set_option linter.unusedVariables false
set_option linter.unusedSimpArgs false
namespace Go.Proofs.YtjbafphoemibaaaGreatDoor
open Go.RowKit

theorem fdm_60 (a : Int) (w : World) (h1 : -4611686018427387904 ≤ a) (h2 : a ≤ 4611686018427387904) : Calls Tryz.prog 28 #[.int .i64 a, .int .i64 60] w fun e w' => e = .returned (.int .i64 (a / 60)) ∧ w = w' := by
  obtain ⟨x, hx⟩ : ∃ x, a / 60 = x := ⟨_, rfl⟩
  obtain ⟨y, hy⟩ : ∃ y, a % 60 = y := ⟨_, rfl⟩
  rw [hx]
  by_cases h0 : 0 ≤ a
  · have q : a.tdiv 60 = x := by rw [Int.tdiv_eq_ediv_of_nonneg h0]; exact hx
    have r : a.tmod 60 = y := by rw [Int.tmod_eq_emod_of_nonneg h0]; exact hy
    have y0 : ¬ y < 0 := by omega
    have x1 : -4611686018427387904 ≤ x := by omega
    have x2 : x ≤ 4611686018427387904 := by omega
    have e5 : wrap64 x = x := by unfold wrap64; omega
    go_enter Tryz.func28, Tryz.ntmps28
    go_wp2
    go_ret
    exact ⟨rfl, rfl⟩
  · by_cases hz : y = 0
    · have q : a.tdiv 60 = x := by rw [tdiv_neg _ _ (by omega)]; omega
      have r : a.tmod 60 = 0 := by rw [tmod_neg _ _ (by omega)]; omega
      have x1 : -4611686018427387904 ≤ x := by omega
      have x2 : x ≤ 4611686018427387904 := by omega
      have e5 : wrap64 x = x := by unfold wrap64; omega
      clear hx hy h0
      go_enter Tryz.func28, Tryz.ntmps28
      go_wp2
      go_ret
      exact ⟨rfl, rfl⟩
    · obtain ⟨z, hz1⟩ : ∃ z, y - 60 = z := ⟨_, rfl⟩
      obtain ⟨u, hu⟩ : ∃ u, x + 1 = u := ⟨_, rfl⟩
      have q : a.tdiv 60 = u := by rw [tdiv_neg _ _ (by omega)]; omega
      have r : a.tmod 60 = z := by rw [tmod_neg _ _ (by omega)]; omega
      have z0 : z < 0 := by omega
      have x1 : -4611686018427387904 ≤ x := by omega
      have x2 : x ≤ 4611686018427387904 := by omega
      have e5 : wrap64 u = u := by unfold wrap64; omega
      have e6 : wrap64 (u - 1) = x := by unfold wrap64; omega
      have e7 : IntKind.i64.wrap (u - 1) = x := by rw [IntWalk.i64_in _ (by omega)]; omega
      clear hx hy h0 hz hz1 hu
      go_enter Tryz.func28, Tryz.ntmps28
      go_wp2
      go_ret
      exact ⟨rfl, rfl⟩
theorem fdm_120 (a : Int) (w : World) (h1 : -4611686018427387904 ≤ a) (h2 : a ≤ 4611686018427387904) : Calls Tryz.prog 28 #[.int .i64 a, .int .i64 120] w fun e w' => e = .returned (.int .i64 (a / 120)) ∧ w = w' := by
  obtain ⟨x, hx⟩ : ∃ x, a / 120 = x := ⟨_, rfl⟩
  obtain ⟨y, hy⟩ : ∃ y, a % 120 = y := ⟨_, rfl⟩
  rw [hx]
  by_cases h0 : 0 ≤ a
  · have q : a.tdiv 120 = x := by rw [Int.tdiv_eq_ediv_of_nonneg h0]; exact hx
    have r : a.tmod 120 = y := by rw [Int.tmod_eq_emod_of_nonneg h0]; exact hy
    have y0 : ¬ y < 0 := by omega
    have x1 : -4611686018427387904 ≤ x := by omega
    have x2 : x ≤ 4611686018427387904 := by omega
    have e5 : wrap64 x = x := by unfold wrap64; omega
    go_enter Tryz.func28, Tryz.ntmps28
    go_wp2
    go_ret
    exact ⟨rfl, rfl⟩
  · by_cases hz : y = 0
    · have q : a.tdiv 120 = x := by rw [tdiv_neg _ _ (by omega)]; omega
      have r : a.tmod 120 = 0 := by rw [tmod_neg _ _ (by omega)]; omega
      have x1 : -4611686018427387904 ≤ x := by omega
      have x2 : x ≤ 4611686018427387904 := by omega
      have e5 : wrap64 x = x := by unfold wrap64; omega
      clear hx hy h0
      go_enter Tryz.func28, Tryz.ntmps28
      go_wp2
      go_ret
      exact ⟨rfl, rfl⟩
    · obtain ⟨z, hz1⟩ : ∃ z, y - 120 = z := ⟨_, rfl⟩
      obtain ⟨u, hu⟩ : ∃ u, x + 1 = u := ⟨_, rfl⟩
      have q : a.tdiv 120 = u := by rw [tdiv_neg _ _ (by omega)]; omega
      have r : a.tmod 120 = z := by rw [tmod_neg _ _ (by omega)]; omega
      have z0 : z < 0 := by omega
      have x1 : -4611686018427387904 ≤ x := by omega
      have x2 : x ≤ 4611686018427387904 := by omega
      have e5 : wrap64 u = u := by unfold wrap64; omega
      have e6 : wrap64 (u - 1) = x := by unfold wrap64; omega
      have e7 : IntKind.i64.wrap (u - 1) = x := by rw [IntWalk.i64_in _ (by omega)]; omega
      clear hx hy h0 hz hz1 hu
      go_enter Tryz.func28, Tryz.ntmps28
      go_wp2
      go_ret
      exact ⟨rfl, rfl⟩
theorem fdm_180 (a : Int) (w : World) (h1 : -4611686018427387904 ≤ a) (h2 : a ≤ 4611686018427387904) : Calls Tryz.prog 28 #[.int .i64 a, .int .i64 180] w fun e w' => e = .returned (.int .i64 (a / 180)) ∧ w = w' := by
  obtain ⟨x, hx⟩ : ∃ x, a / 180 = x := ⟨_, rfl⟩
  obtain ⟨y, hy⟩ : ∃ y, a % 180 = y := ⟨_, rfl⟩
  rw [hx]
  by_cases h0 : 0 ≤ a
  · have q : a.tdiv 180 = x := by rw [Int.tdiv_eq_ediv_of_nonneg h0]; exact hx
    have r : a.tmod 180 = y := by rw [Int.tmod_eq_emod_of_nonneg h0]; exact hy
    have y0 : ¬ y < 0 := by omega
    have x1 : -4611686018427387904 ≤ x := by omega
    have x2 : x ≤ 4611686018427387904 := by omega
    have e5 : wrap64 x = x := by unfold wrap64; omega
    go_enter Tryz.func28, Tryz.ntmps28
    go_wp2
    go_ret
    exact ⟨rfl, rfl⟩
  · by_cases hz : y = 0
    · have q : a.tdiv 180 = x := by rw [tdiv_neg _ _ (by omega)]; omega
      have r : a.tmod 180 = 0 := by rw [tmod_neg _ _ (by omega)]; omega
      have x1 : -4611686018427387904 ≤ x := by omega
      have x2 : x ≤ 4611686018427387904 := by omega
      have e5 : wrap64 x = x := by unfold wrap64; omega
      clear hx hy h0
      go_enter Tryz.func28, Tryz.ntmps28
      go_wp2
      go_ret
      exact ⟨rfl, rfl⟩
    · obtain ⟨z, hz1⟩ : ∃ z, y - 180 = z := ⟨_, rfl⟩
      obtain ⟨u, hu⟩ : ∃ u, x + 1 = u := ⟨_, rfl⟩
      have q : a.tdiv 180 = u := by rw [tdiv_neg _ _ (by omega)]; omega
      have r : a.tmod 180 = z := by rw [tmod_neg _ _ (by omega)]; omega
      have z0 : z < 0 := by omega
      have x1 : -4611686018427387904 ≤ x := by omega
      have x2 : x ≤ 4611686018427387904 := by omega
      have e5 : wrap64 u = u := by unfold wrap64; omega
      have e6 : wrap64 (u - 1) = x := by unfold wrap64; omega
      have e7 : IntKind.i64.wrap (u - 1) = x := by rw [IntWalk.i64_in _ (by omega)]; omega
      clear hx hy h0 hz hz1 hu
      go_enter Tryz.func28, Tryz.ntmps28
      go_wp2
      go_ret
      exact ⟨rfl, rfl⟩
theorem fdm_240 (a : Int) (w : World) (h1 : -4611686018427387904 ≤ a) (h2 : a ≤ 4611686018427387904) : Calls Tryz.prog 28 #[.int .i64 a, .int .i64 240] w fun e w' => e = .returned (.int .i64 (a / 240)) ∧ w = w' := by
  obtain ⟨x, hx⟩ : ∃ x, a / 240 = x := ⟨_, rfl⟩
  obtain ⟨y, hy⟩ : ∃ y, a % 240 = y := ⟨_, rfl⟩
  rw [hx]
  by_cases h0 : 0 ≤ a
  · have q : a.tdiv 240 = x := by rw [Int.tdiv_eq_ediv_of_nonneg h0]; exact hx
    have r : a.tmod 240 = y := by rw [Int.tmod_eq_emod_of_nonneg h0]; exact hy
    have y0 : ¬ y < 0 := by omega
    have x1 : -4611686018427387904 ≤ x := by omega
    have x2 : x ≤ 4611686018427387904 := by omega
    have e5 : wrap64 x = x := by unfold wrap64; omega
    go_enter Tryz.func28, Tryz.ntmps28
    go_wp2
    go_ret
    exact ⟨rfl, rfl⟩
  · by_cases hz : y = 0
    · have q : a.tdiv 240 = x := by rw [tdiv_neg _ _ (by omega)]; omega
      have r : a.tmod 240 = 0 := by rw [tmod_neg _ _ (by omega)]; omega
      have x1 : -4611686018427387904 ≤ x := by omega
      have x2 : x ≤ 4611686018427387904 := by omega
      have e5 : wrap64 x = x := by unfold wrap64; omega
      clear hx hy h0
      go_enter Tryz.func28, Tryz.ntmps28
      go_wp2
      go_ret
      exact ⟨rfl, rfl⟩
    · obtain ⟨z, hz1⟩ : ∃ z, y - 240 = z := ⟨_, rfl⟩
      obtain ⟨u, hu⟩ : ∃ u, x + 1 = u := ⟨_, rfl⟩
      have q : a.tdiv 240 = u := by rw [tdiv_neg _ _ (by omega)]; omega
      have r : a.tmod 240 = z := by rw [tmod_neg _ _ (by omega)]; omega
      have z0 : z < 0 := by omega
      have x1 : -4611686018427387904 ≤ x := by omega
      have x2 : x ≤ 4611686018427387904 := by omega
      have e5 : wrap64 u = u := by unfold wrap64; omega
      have e6 : wrap64 (u - 1) = x := by unfold wrap64; omega
      have e7 : IntKind.i64.wrap (u - 1) = x := by rw [IntWalk.i64_in _ (by omega)]; omega
      clear hx hy h0 hz hz1 hu
      go_enter Tryz.func28, Tryz.ntmps28
      go_wp2
      go_ret
      exact ⟨rfl, rfl⟩
theorem fdm_300 (a : Int) (w : World) (h1 : -4611686018427387904 ≤ a) (h2 : a ≤ 4611686018427387904) : Calls Tryz.prog 28 #[.int .i64 a, .int .i64 300] w fun e w' => e = .returned (.int .i64 (a / 300)) ∧ w = w' := by
  obtain ⟨x, hx⟩ : ∃ x, a / 300 = x := ⟨_, rfl⟩
  obtain ⟨y, hy⟩ : ∃ y, a % 300 = y := ⟨_, rfl⟩
  rw [hx]
  by_cases h0 : 0 ≤ a
  · have q : a.tdiv 300 = x := by rw [Int.tdiv_eq_ediv_of_nonneg h0]; exact hx
    have r : a.tmod 300 = y := by rw [Int.tmod_eq_emod_of_nonneg h0]; exact hy
    have y0 : ¬ y < 0 := by omega
    have x1 : -4611686018427387904 ≤ x := by omega
    have x2 : x ≤ 4611686018427387904 := by omega
    have e5 : wrap64 x = x := by unfold wrap64; omega
    go_enter Tryz.func28, Tryz.ntmps28
    go_wp2
    go_ret
    exact ⟨rfl, rfl⟩
  · by_cases hz : y = 0
    · have q : a.tdiv 300 = x := by rw [tdiv_neg _ _ (by omega)]; omega
      have r : a.tmod 300 = 0 := by rw [tmod_neg _ _ (by omega)]; omega
      have x1 : -4611686018427387904 ≤ x := by omega
      have x2 : x ≤ 4611686018427387904 := by omega
      have e5 : wrap64 x = x := by unfold wrap64; omega
      clear hx hy h0
      go_enter Tryz.func28, Tryz.ntmps28
      go_wp2
      go_ret
      exact ⟨rfl, rfl⟩
    · obtain ⟨z, hz1⟩ : ∃ z, y - 300 = z := ⟨_, rfl⟩
      obtain ⟨u, hu⟩ : ∃ u, x + 1 = u := ⟨_, rfl⟩
      have q : a.tdiv 300 = u := by rw [tdiv_neg _ _ (by omega)]; omega
      have r : a.tmod 300 = z := by rw [tmod_neg _ _ (by omega)]; omega
      have z0 : z < 0 := by omega
      have x1 : -4611686018427387904 ≤ x := by omega
      have x2 : x ≤ 4611686018427387904 := by omega
      have e5 : wrap64 u = u := by unfold wrap64; omega
      have e6 : wrap64 (u - 1) = x := by unfold wrap64; omega
      have e7 : IntKind.i64.wrap (u - 1) = x := by rw [IntWalk.i64_in _ (by omega)]; omega
      clear hx hy h0 hz hz1 hu
      go_enter Tryz.func28, Tryz.ntmps28
      go_wp2
      go_ret
      exact ⟨rfl, rfl⟩
theorem fdm_360 (a : Int) (w : World) (h1 : -4611686018427387904 ≤ a) (h2 : a ≤ 4611686018427387904) : Calls Tryz.prog 28 #[.int .i64 a, .int .i64 360] w fun e w' => e = .returned (.int .i64 (a / 360)) ∧ w = w' := by
  obtain ⟨x, hx⟩ : ∃ x, a / 360 = x := ⟨_, rfl⟩
  obtain ⟨y, hy⟩ : ∃ y, a % 360 = y := ⟨_, rfl⟩
  rw [hx]
  by_cases h0 : 0 ≤ a
  · have q : a.tdiv 360 = x := by rw [Int.tdiv_eq_ediv_of_nonneg h0]; exact hx
    have r : a.tmod 360 = y := by rw [Int.tmod_eq_emod_of_nonneg h0]; exact hy
    have y0 : ¬ y < 0 := by omega
    have x1 : -4611686018427387904 ≤ x := by omega
    have x2 : x ≤ 4611686018427387904 := by omega
    have e5 : wrap64 x = x := by unfold wrap64; omega
    go_enter Tryz.func28, Tryz.ntmps28
    go_wp2
    go_ret
    exact ⟨rfl, rfl⟩
  · by_cases hz : y = 0
    · have q : a.tdiv 360 = x := by rw [tdiv_neg _ _ (by omega)]; omega
      have r : a.tmod 360 = 0 := by rw [tmod_neg _ _ (by omega)]; omega
      have x1 : -4611686018427387904 ≤ x := by omega
      have x2 : x ≤ 4611686018427387904 := by omega
      have e5 : wrap64 x = x := by unfold wrap64; omega
      clear hx hy h0
      go_enter Tryz.func28, Tryz.ntmps28
      go_wp2
      go_ret
      exact ⟨rfl, rfl⟩
    · obtain ⟨z, hz1⟩ : ∃ z, y - 360 = z := ⟨_, rfl⟩
      obtain ⟨u, hu⟩ : ∃ u, x + 1 = u := ⟨_, rfl⟩
      have q : a.tdiv 360 = u := by rw [tdiv_neg _ _ (by omega)]; omega
      have r : a.tmod 360 = z := by rw [tmod_neg _ _ (by omega)]; omega
      have z0 : z < 0 := by omega
      have x1 : -4611686018427387904 ≤ x := by omega
      have x2 : x ≤ 4611686018427387904 := by omega
      have e5 : wrap64 u = u := by unfold wrap64; omega
      have e6 : wrap64 (u - 1) = x := by unfold wrap64; omega
      have e7 : IntKind.i64.wrap (u - 1) = x := by rw [IntWalk.i64_in _ (by omega)]; omega
      clear hx hy h0 hz hz1 hu
      go_enter Tryz.func28, Tryz.ntmps28
      go_wp2
      go_ret
      exact ⟨rfl, rfl⟩
theorem fdm_600 (a : Int) (w : World) (h1 : -4611686018427387904 ≤ a) (h2 : a ≤ 4611686018427387904) : Calls Tryz.prog 28 #[.int .i64 a, .int .i64 600] w fun e w' => e = .returned (.int .i64 (a / 600)) ∧ w = w' := by
  obtain ⟨x, hx⟩ : ∃ x, a / 600 = x := ⟨_, rfl⟩
  obtain ⟨y, hy⟩ : ∃ y, a % 600 = y := ⟨_, rfl⟩
  rw [hx]
  by_cases h0 : 0 ≤ a
  · have q : a.tdiv 600 = x := by rw [Int.tdiv_eq_ediv_of_nonneg h0]; exact hx
    have r : a.tmod 600 = y := by rw [Int.tmod_eq_emod_of_nonneg h0]; exact hy
    have y0 : ¬ y < 0 := by omega
    have x1 : -4611686018427387904 ≤ x := by omega
    have x2 : x ≤ 4611686018427387904 := by omega
    have e5 : wrap64 x = x := by unfold wrap64; omega
    go_enter Tryz.func28, Tryz.ntmps28
    go_wp2
    go_ret
    exact ⟨rfl, rfl⟩
  · by_cases hz : y = 0
    · have q : a.tdiv 600 = x := by rw [tdiv_neg _ _ (by omega)]; omega
      have r : a.tmod 600 = 0 := by rw [tmod_neg _ _ (by omega)]; omega
      have x1 : -4611686018427387904 ≤ x := by omega
      have x2 : x ≤ 4611686018427387904 := by omega
      have e5 : wrap64 x = x := by unfold wrap64; omega
      clear hx hy h0
      go_enter Tryz.func28, Tryz.ntmps28
      go_wp2
      go_ret
      exact ⟨rfl, rfl⟩
    · obtain ⟨z, hz1⟩ : ∃ z, y - 600 = z := ⟨_, rfl⟩
      obtain ⟨u, hu⟩ : ∃ u, x + 1 = u := ⟨_, rfl⟩
      have q : a.tdiv 600 = u := by rw [tdiv_neg _ _ (by omega)]; omega
      have r : a.tmod 600 = z := by rw [tmod_neg _ _ (by omega)]; omega
      have z0 : z < 0 := by omega
      have x1 : -4611686018427387904 ≤ x := by omega
      have x2 : x ≤ 4611686018427387904 := by omega
      have e5 : wrap64 u = u := by unfold wrap64; omega
      have e6 : wrap64 (u - 1) = x := by unfold wrap64; omega
      have e7 : IntKind.i64.wrap (u - 1) = x := by rw [IntWalk.i64_in _ (by omega)]; omega
      clear hx hy h0 hz hz1 hu
      go_enter Tryz.func28, Tryz.ntmps28
      go_wp2
      go_ret
      exact ⟨rfl, rfl⟩
theorem fdm_720 (a : Int) (w : World) (h1 : -4611686018427387904 ≤ a) (h2 : a ≤ 4611686018427387904) : Calls Tryz.prog 28 #[.int .i64 a, .int .i64 720] w fun e w' => e = .returned (.int .i64 (a / 720)) ∧ w = w' := by
  obtain ⟨x, hx⟩ : ∃ x, a / 720 = x := ⟨_, rfl⟩
  obtain ⟨y, hy⟩ : ∃ y, a % 720 = y := ⟨_, rfl⟩
  rw [hx]
  by_cases h0 : 0 ≤ a
  · have q : a.tdiv 720 = x := by rw [Int.tdiv_eq_ediv_of_nonneg h0]; exact hx
    have r : a.tmod 720 = y := by rw [Int.tmod_eq_emod_of_nonneg h0]; exact hy
    have y0 : ¬ y < 0 := by omega
    have x1 : -4611686018427387904 ≤ x := by omega
    have x2 : x ≤ 4611686018427387904 := by omega
    have e5 : wrap64 x = x := by unfold wrap64; omega
    go_enter Tryz.func28, Tryz.ntmps28
    go_wp2
    go_ret
    exact ⟨rfl, rfl⟩
  · by_cases hz : y = 0
    · have q : a.tdiv 720 = x := by rw [tdiv_neg _ _ (by omega)]; omega
      have r : a.tmod 720 = 0 := by rw [tmod_neg _ _ (by omega)]; omega
      have x1 : -4611686018427387904 ≤ x := by omega
      have x2 : x ≤ 4611686018427387904 := by omega
      have e5 : wrap64 x = x := by unfold wrap64; omega
      clear hx hy h0
      go_enter Tryz.func28, Tryz.ntmps28
      go_wp2
      go_ret
      exact ⟨rfl, rfl⟩
    · obtain ⟨z, hz1⟩ : ∃ z, y - 720 = z := ⟨_, rfl⟩
      obtain ⟨u, hu⟩ : ∃ u, x + 1 = u := ⟨_, rfl⟩
      have q : a.tdiv 720 = u := by rw [tdiv_neg _ _ (by omega)]; omega
      have r : a.tmod 720 = z := by rw [tmod_neg _ _ (by omega)]; omega
      have z0 : z < 0 := by omega
      have x1 : -4611686018427387904 ≤ x := by omega
      have x2 : x ≤ 4611686018427387904 := by omega
      have e5 : wrap64 u = u := by unfold wrap64; omega
      have e6 : wrap64 (u - 1) = x := by unfold wrap64; omega
      have e7 : IntKind.i64.wrap (u - 1) = x := by rw [IntWalk.i64_in _ (by omega)]; omega
      clear hx hy h0 hz hz1 hu
      go_enter Tryz.func28, Tryz.ntmps28
      go_wp2
      go_ret
      exact ⟨rfl, rfl⟩
theorem fdm_900 (a : Int) (w : World) (h1 : -4611686018427387904 ≤ a) (h2 : a ≤ 4611686018427387904) : Calls Tryz.prog 28 #[.int .i64 a, .int .i64 900] w fun e w' => e = .returned (.int .i64 (a / 900)) ∧ w = w' := by
  obtain ⟨x, hx⟩ : ∃ x, a / 900 = x := ⟨_, rfl⟩
  obtain ⟨y, hy⟩ : ∃ y, a % 900 = y := ⟨_, rfl⟩
  rw [hx]
  by_cases h0 : 0 ≤ a
  · have q : a.tdiv 900 = x := by rw [Int.tdiv_eq_ediv_of_nonneg h0]; exact hx
    have r : a.tmod 900 = y := by rw [Int.tmod_eq_emod_of_nonneg h0]; exact hy
    have y0 : ¬ y < 0 := by omega
    have x1 : -4611686018427387904 ≤ x := by omega
    have x2 : x ≤ 4611686018427387904 := by omega
    have e5 : wrap64 x = x := by unfold wrap64; omega
    go_enter Tryz.func28, Tryz.ntmps28
    go_wp2
    go_ret
    exact ⟨rfl, rfl⟩
  · by_cases hz : y = 0
    · have q : a.tdiv 900 = x := by rw [tdiv_neg _ _ (by omega)]; omega
      have r : a.tmod 900 = 0 := by rw [tmod_neg _ _ (by omega)]; omega
      have x1 : -4611686018427387904 ≤ x := by omega
      have x2 : x ≤ 4611686018427387904 := by omega
      have e5 : wrap64 x = x := by unfold wrap64; omega
      clear hx hy h0
      go_enter Tryz.func28, Tryz.ntmps28
      go_wp2
      go_ret
      exact ⟨rfl, rfl⟩
    · obtain ⟨z, hz1⟩ : ∃ z, y - 900 = z := ⟨_, rfl⟩
      obtain ⟨u, hu⟩ : ∃ u, x + 1 = u := ⟨_, rfl⟩
      have q : a.tdiv 900 = u := by rw [tdiv_neg _ _ (by omega)]; omega
      have r : a.tmod 900 = z := by rw [tmod_neg _ _ (by omega)]; omega
      have z0 : z < 0 := by omega
      have x1 : -4611686018427387904 ≤ x := by omega
      have x2 : x ≤ 4611686018427387904 := by omega
      have e5 : wrap64 u = u := by unfold wrap64; omega
      have e6 : wrap64 (u - 1) = x := by unfold wrap64; omega
      have e7 : IntKind.i64.wrap (u - 1) = x := by rw [IntWalk.i64_in _ (by omega)]; omega
      clear hx hy h0 hz hz1 hu
      go_enter Tryz.func28, Tryz.ntmps28
      go_wp2
      go_ret
      exact ⟨rfl, rfl⟩
theorem fdm_1200 (a : Int) (w : World) (h1 : -4611686018427387904 ≤ a) (h2 : a ≤ 4611686018427387904) : Calls Tryz.prog 28 #[.int .i64 a, .int .i64 1200] w fun e w' => e = .returned (.int .i64 (a / 1200)) ∧ w = w' := by
  obtain ⟨x, hx⟩ : ∃ x, a / 1200 = x := ⟨_, rfl⟩
  obtain ⟨y, hy⟩ : ∃ y, a % 1200 = y := ⟨_, rfl⟩
  rw [hx]
  by_cases h0 : 0 ≤ a
  · have q : a.tdiv 1200 = x := by rw [Int.tdiv_eq_ediv_of_nonneg h0]; exact hx
    have r : a.tmod 1200 = y := by rw [Int.tmod_eq_emod_of_nonneg h0]; exact hy
    have y0 : ¬ y < 0 := by omega
    have x1 : -4611686018427387904 ≤ x := by omega
    have x2 : x ≤ 4611686018427387904 := by omega
    have e5 : wrap64 x = x := by unfold wrap64; omega
    go_enter Tryz.func28, Tryz.ntmps28
    go_wp2
    go_ret
    exact ⟨rfl, rfl⟩
  · by_cases hz : y = 0
    · have q : a.tdiv 1200 = x := by rw [tdiv_neg _ _ (by omega)]; omega
      have r : a.tmod 1200 = 0 := by rw [tmod_neg _ _ (by omega)]; omega
      have x1 : -4611686018427387904 ≤ x := by omega
      have x2 : x ≤ 4611686018427387904 := by omega
      have e5 : wrap64 x = x := by unfold wrap64; omega
      clear hx hy h0
      go_enter Tryz.func28, Tryz.ntmps28
      go_wp2
      go_ret
      exact ⟨rfl, rfl⟩
    · obtain ⟨z, hz1⟩ : ∃ z, y - 1200 = z := ⟨_, rfl⟩
      obtain ⟨u, hu⟩ : ∃ u, x + 1 = u := ⟨_, rfl⟩
      have q : a.tdiv 1200 = u := by rw [tdiv_neg _ _ (by omega)]; omega
      have r : a.tmod 1200 = z := by rw [tmod_neg _ _ (by omega)]; omega
      have z0 : z < 0 := by omega
      have x1 : -4611686018427387904 ≤ x := by omega
      have x2 : x ≤ 4611686018427387904 := by omega
      have e5 : wrap64 u = u := by unfold wrap64; omega
      have e6 : wrap64 (u - 1) = x := by unfold wrap64; omega
      have e7 : IntKind.i64.wrap (u - 1) = x := by rw [IntWalk.i64_in _ (by omega)]; omega
      clear hx hy h0 hz hz1 hu
      go_enter Tryz.func28, Tryz.ntmps28
      go_wp2
      go_ret
      exact ⟨rfl, rfl⟩
theorem fdm_1800 (a : Int) (w : World) (h1 : -4611686018427387904 ≤ a) (h2 : a ≤ 4611686018427387904) : Calls Tryz.prog 28 #[.int .i64 a, .int .i64 1800] w fun e w' => e = .returned (.int .i64 (a / 1800)) ∧ w = w' := by
  obtain ⟨x, hx⟩ : ∃ x, a / 1800 = x := ⟨_, rfl⟩
  obtain ⟨y, hy⟩ : ∃ y, a % 1800 = y := ⟨_, rfl⟩
  rw [hx]
  by_cases h0 : 0 ≤ a
  · have q : a.tdiv 1800 = x := by rw [Int.tdiv_eq_ediv_of_nonneg h0]; exact hx
    have r : a.tmod 1800 = y := by rw [Int.tmod_eq_emod_of_nonneg h0]; exact hy
    have y0 : ¬ y < 0 := by omega
    have x1 : -4611686018427387904 ≤ x := by omega
    have x2 : x ≤ 4611686018427387904 := by omega
    have e5 : wrap64 x = x := by unfold wrap64; omega
    go_enter Tryz.func28, Tryz.ntmps28
    go_wp2
    go_ret
    exact ⟨rfl, rfl⟩
  · by_cases hz : y = 0
    · have q : a.tdiv 1800 = x := by rw [tdiv_neg _ _ (by omega)]; omega
      have r : a.tmod 1800 = 0 := by rw [tmod_neg _ _ (by omega)]; omega
      have x1 : -4611686018427387904 ≤ x := by omega
      have x2 : x ≤ 4611686018427387904 := by omega
      have e5 : wrap64 x = x := by unfold wrap64; omega
      clear hx hy h0
      go_enter Tryz.func28, Tryz.ntmps28
      go_wp2
      go_ret
      exact ⟨rfl, rfl⟩
    · obtain ⟨z, hz1⟩ : ∃ z, y - 1800 = z := ⟨_, rfl⟩
      obtain ⟨u, hu⟩ : ∃ u, x + 1 = u := ⟨_, rfl⟩
      have q : a.tdiv 1800 = u := by rw [tdiv_neg _ _ (by omega)]; omega
      have r : a.tmod 1800 = z := by rw [tmod_neg _ _ (by omega)]; omega
      have z0 : z < 0 := by omega
      have x1 : -4611686018427387904 ≤ x := by omega
      have x2 : x ≤ 4611686018427387904 := by omega
      have e5 : wrap64 u = u := by unfold wrap64; omega
      have e6 : wrap64 (u - 1) = x := by unfold wrap64; omega
      have e7 : IntKind.i64.wrap (u - 1) = x := by rw [IntWalk.i64_in _ (by omega)]; omega
      clear hx hy h0 hz hz1 hu
      go_enter Tryz.func28, Tryz.ntmps28
      go_wp2
      go_ret
      exact ⟨rfl, rfl⟩
theorem fdm_3600 (a : Int) (w : World) (h1 : -4611686018427387904 ≤ a) (h2 : a ≤ 4611686018427387904) : Calls Tryz.prog 28 #[.int .i64 a, .int .i64 3600] w fun e w' => e = .returned (.int .i64 (a / 3600)) ∧ w = w' := by
  obtain ⟨x, hx⟩ : ∃ x, a / 3600 = x := ⟨_, rfl⟩
  obtain ⟨y, hy⟩ : ∃ y, a % 3600 = y := ⟨_, rfl⟩
  rw [hx]
  by_cases h0 : 0 ≤ a
  · have q : a.tdiv 3600 = x := by rw [Int.tdiv_eq_ediv_of_nonneg h0]; exact hx
    have r : a.tmod 3600 = y := by rw [Int.tmod_eq_emod_of_nonneg h0]; exact hy
    have y0 : ¬ y < 0 := by omega
    have x1 : -4611686018427387904 ≤ x := by omega
    have x2 : x ≤ 4611686018427387904 := by omega
    have e5 : wrap64 x = x := by unfold wrap64; omega
    go_enter Tryz.func28, Tryz.ntmps28
    go_wp2
    go_ret
    exact ⟨rfl, rfl⟩
  · by_cases hz : y = 0
    · have q : a.tdiv 3600 = x := by rw [tdiv_neg _ _ (by omega)]; omega
      have r : a.tmod 3600 = 0 := by rw [tmod_neg _ _ (by omega)]; omega
      have x1 : -4611686018427387904 ≤ x := by omega
      have x2 : x ≤ 4611686018427387904 := by omega
      have e5 : wrap64 x = x := by unfold wrap64; omega
      clear hx hy h0
      go_enter Tryz.func28, Tryz.ntmps28
      go_wp2
      go_ret
      exact ⟨rfl, rfl⟩
    · obtain ⟨z, hz1⟩ : ∃ z, y - 3600 = z := ⟨_, rfl⟩
      obtain ⟨u, hu⟩ : ∃ u, x + 1 = u := ⟨_, rfl⟩
      have q : a.tdiv 3600 = u := by rw [tdiv_neg _ _ (by omega)]; omega
      have r : a.tmod 3600 = z := by rw [tmod_neg _ _ (by omega)]; omega
      have z0 : z < 0 := by omega
      have x1 : -4611686018427387904 ≤ x := by omega
      have x2 : x ≤ 4611686018427387904 := by omega
      have e5 : wrap64 u = u := by unfold wrap64; omega
      have e6 : wrap64 (u - 1) = x := by unfold wrap64; omega
      have e7 : IntKind.i64.wrap (u - 1) = x := by rw [IntWalk.i64_in _ (by omega)]; omega
      clear hx hy h0 hz hz1 hu
      go_enter Tryz.func28, Tryz.ntmps28
      go_wp2
      go_ret
      exact ⟨rfl, rfl⟩

set_option maxRecDepth 100000 in
theorem comes_of (m a : Int) (h1 : -4611686018427387904 ≤ a) (h2 : a ≤ 4611686018427387904) (hm : 0 < m) (hm2 : m ≤ 3600) (w : World)
    (hF : ∀ X, Calls Tryz.prog 28 #[.int .i64 a, .int .i64 m] X fun e w' => e = .returned (.int .i64 (a / m)) ∧ X = w') :
    Calls Tryz.prog 18 #[.int .i64 a, .int .i64 m] w fun e w' => e = .returned (.int .i64 (a % m)) ∧ w = w' := by
  have hd := Int.emod_add_mul_ediv a m
  have hmod := Int.emod_nonneg a (show m ≠ 0 by omega)
  have hlt := Int.emod_lt_of_pos a hm
  obtain ⟨q, hq⟩ : ∃ q, a / m = q := ⟨_, rfl⟩
  obtain ⟨p, hp⟩ : ∃ p, m * q = p := ⟨_, rfl⟩
  rw [hq] at hd hF
  rw [hp] at hd
  have e3 : wrap64 (m * q) = m * q := by rw [hp]; unfold wrap64; omega
  have e4 : wrap64 (a - m * q) = a % m := by rw [hp]; unfold wrap64; omega
  have HF := hid hF
  clear hF hd hmod hlt hq hm hm2 h1 h2 hp
  generalize a % m = r at e4 ⊢
  go_enter Tryz.func18, Tryz.ntmps18
  go_wp2_with (go_at_call 28; refine (HF.out _).mono ?_; rintro e w' ⟨rfl, rfl⟩)
  go_ret
  exact ⟨congrArg (fun v => Ending.returned (.int .i64 v)) e4, rfl⟩
theorem floorMod_any (k : Nat) (hk : Div60 k) (a : Int) (h1 : -4611686018427387904 ≤ a) (h2 : a ≤ 4611686018427387904) (w : World) : Calls Tryz.prog 18 #[.int .i64 a, .int .i64 (60 * (k : Int))] w fun e w' => e = .returned (.int .i64 (a % (60 * (k : Int)))) ∧ w = w' := by
  rcases hk with rfl | rfl | rfl | rfl | rfl | rfl | rfl | rfl | rfl | rfl | rfl | rfl
  · exact comes_of 60 a h1 h2 (by decide) (by decide) w (fun X => fdm_60 a X h1 h2)
  · exact comes_of 120 a h1 h2 (by decide) (by decide) w (fun X => fdm_120 a X h1 h2)
  · exact comes_of 180 a h1 h2 (by decide) (by decide) w (fun X => fdm_180 a X h1 h2)
  · exact comes_of 240 a h1 h2 (by decide) (by decide) w (fun X => fdm_240 a X h1 h2)
  · exact comes_of 300 a h1 h2 (by decide) (by decide) w (fun X => fdm_300 a X h1 h2)
  · exact comes_of 360 a h1 h2 (by decide) (by decide) w (fun X => fdm_360 a X h1 h2)
  · exact comes_of 600 a h1 h2 (by decide) (by decide) w (fun X => fdm_600 a X h1 h2)
  · exact comes_of 720 a h1 h2 (by decide) (by decide) w (fun X => fdm_720 a X h1 h2)
  · exact comes_of 900 a h1 h2 (by decide) (by decide) w (fun X => fdm_900 a X h1 h2)
  · exact comes_of 1200 a h1 h2 (by decide) (by decide) w (fun X => fdm_1200 a X h1 h2)
  · exact comes_of 1800 a h1 h2 (by decide) (by decide) w (fun X => fdm_1800 a X h1 h2)
  · exact comes_of 3600 a h1 h2 (by decide) (by decide) w (fun X => fdm_3600 a X h1 h2)

set_option maxRecDepth 100000 in
theorem coming_any (k : Nat) (hk : Div60 k) (s : Int) (h1 : -62135596800 ≤ s) (h2 : s ≤ 253402300799) (w : World) : Calls Tryz.prog 10 #[.int .i64 s, .int .i64 (60 * (k : Int)), .int .i64 0] w fun e w' => e = .returned (.int .i64 (coming s k)) ∧ w = w' := by
  obtain ⟨c1, c2, c3, c4⟩ := coming_mod s k hk
  have CF := hid (fun X => floorMod_any k hk (-(s + 1)) (by omega) (by omega) X)
  have e1 : wrap64 (s + 1) = s + 1 := by unfold wrap64; omega
  have e2 : wrap64 (0 - s) = -s := by unfold wrap64; omega
  have e3 : wrap64 (-s - 1) = -(s + 1) := by unfold wrap64; omega
  have e4 : wrap64 (s + 1 + (-(s + 1)) % (60 * (k : Int))) = coming s k := by
    have : s + 1 + (-(s + 1)) % (60 * (k : Int)) = coming s k := rfl
    rw [this]
    unfold wrap64
    omega
  have e5 : wrap64 (-s) = -s := by unfold wrap64; omega
  clear c1 c2 c3 c4 h1 h2
  go_enter Tryz.func10, Tryz.ntmps10
  go_wp2_with (go_at_call 18; refine (CF.out _).mono ?_; rintro e w' ⟨rfl, rfl⟩)
  go_ret
  exact ⟨congrArg (fun v => Ending.returned (.int .i64 v)) e4, rfl⟩
theorem whole_any (s : Int) (w : World) : Calls Tryz.prog 9 #[.int .i64 s] w fun e w' => e = .returned (.agg (icells s 0)) ∧ Below w.heap.size w w' := by
  go_enter Tryz.func9, Tryz.ntmps9
  go_wp2_with fail
  go_returns
  exact ⟨rfl, by go_grown⟩

theorem set_s8 {w : World} {g : Nat} {t : TypeId} {x0 x1 x2 x3 x4 x5 x6 x7 : Value} (h : Blk w g t #[x0, x1, x2, x3, x4, x5, x6, x7]) (dl : Int) (S : Sets) : Blk (w.setCells g 0 (schCells dl S).toList) g t (schCells dl S) := by
  have hk := (((((((h.set 0 (.bool false)).set 1 (.int .i64 dl)).set 2 (.int .u64 S.sec)).set 3 (.int .u64 S.min)).set 4 (.int .u64 S.hour)).set 5 (.int .u64 S.dom)).set 6 (.int .u64 S.month)).set 7 (.int .u64 S.dow)
  simp only [List.setIfInBounds_toArray, List.set_cons_zero, List.set_cons_succ] at hk
  exact hk
theorem below_s8 {B : Nat} {w w1 : World} (h : Below B w w1) {g : Nat} (hg : B ≤ g) (dl : Int) (S : Sets) : Below B w (w1.setCells g 0 (schCells dl S).toList) :=
  below_set (below_set (below_set (below_set (below_set (below_set (below_set (below_set h hg 0 _) hg 1 _) hg 2 _) hg 3 _) hg 4 _) hg 5 _) hg 6 _) hg 7 _
theorem as_spec (v : Value) (xT : TypeId) (w : World) : (Instr.typeAssert (.iface 58 v) xT 58 true).run Tryz.prog w = .ok (.tuple #[v, .bool true]) w := by kernel_rfl
def noSets : Sets := ⟨0, 0, 0, 0, 0, 0⟩

set_option maxHeartbeats 3200000 in
set_option maxRecDepth 100000 in
theorem plainS_any (g : Nat) (S : Sets) (w : World) (hk : Blk w g 60 (scd S.sec S.min S.hour S.dom S.month S.dow none)) :
    Calls Tryz.prog 11 #[.iface 58 (.pointer (some ⟨g, 0, none⟩)), .nilIface] w fun e w' => e = .returned (.tuple #[.agg (schCells 0 S), .bool true]) ∧ Below w.heap.size w w' := by
  have HK := hid (hk.alloc (.cells (schCells 0 noSets) 27))
  have R0 := hid (Blk.new w 27 (schCells 0 noSets))
  have B0 := hid (show Below w.heap.size w (w.alloc (.cells (schCells 0 noSets) 27)) by go_grown)
  clear hk
  have hta := as_spec
  go_enter Tryz.func11, Tryz.ntmps11
  go_upto_region 6 with fail
  change Code.wp _ _ _ _ (w.alloc (.cells (schCells 0 noSets) 27))
  generalize (w.alloc (.cells (schCells 0 noSets) 27)) = w1 at HK R0 B0 ⊢
  have k0 : ∀ d os, (Go.Sort.grow (redrawn w1 d) os).cell? ⟨g, 0, none⟩ = some (.int .u64 S.sec) := fun d os => (blk_gr HK.out d os).cell 0
  have k1 : ∀ d os, (Go.Sort.grow (redrawn w1 d) os).cell? ⟨g, 1, none⟩ = some (.int .u64 S.min) := fun d os => (blk_gr HK.out d os).cell 1
  have k2 : ∀ d os, (Go.Sort.grow (redrawn w1 d) os).cell? ⟨g, 2, none⟩ = some (.int .u64 S.hour) := fun d os => (blk_gr HK.out d os).cell 2
  have k3 : ∀ d os, (Go.Sort.grow (redrawn w1 d) os).cell? ⟨g, 3, none⟩ = some (.int .u64 S.dom) := fun d os => (blk_gr HK.out d os).cell 3
  have k4 : ∀ d os, (Go.Sort.grow (redrawn w1 d) os).cell? ⟨g, 4, none⟩ = some (.int .u64 S.month) := fun d os => (blk_gr HK.out d os).cell 4
  have k5 : ∀ d os, (Go.Sort.grow (redrawn w1 d) os).cell? ⟨g, 5, none⟩ = some (.int .u64 S.dow) := fun d os => (blk_gr HK.out d os).cell 5
  refine wp_region_tail_below 25 (by kernel_rfl) (by kernel_rfl) ?_
  show wpQuiet _ _ _ _ [_, _, _, _, _, _, _, _, _, _, _, _, _, _, _, _, _, _, _, _, _, _, _, _, _] _
  repeat (go_big_quiet_step (fail))
  refine wpQuiet_nil ?_
  intro _ hw'
  obtain ⟨⟨dq, osq⟩, hw''⟩ := hw'
  subst hw''
  have R1 := hid (blk_gr R0.out dq osq)
  have B1 := hid (bt B0.out (below_regrown w1 dq osq))
  have T1 := hid (there_blk R1.out 8 (Nat.le_refl 8))
  clear k0 k1 k2 k3 k4 k5 R0 B0 HK
  generalize Go.Sort.grow (redrawn w1 dq) osq = w2 at R1 B1 T1 ⊢
  show wpList _ _ _ [_, _] _ _
  refine wpList_store_mid rfl 27 (.tmp 4) (.tmp 39) rfl w.heap.size 0 (schCells 0 S) (by rfl) (by rfl) T1.out (by kernel_rfl) (by simp [Value.oneCell']) ?_
  have R2 := hid (set_s8 R1.out 0 S)
  have B2 := hid (below_s8 B1.out (Nat.le_refl _) 0 S)
  clear R1 B1 T1
  generalize w2.setCells w.heap.size 0 (schCells 0 S).toList = w3 at R2 B2 ⊢
  go_wp2_with fail
  exact bodyPost_ret (results_row_tmp rfl _ _ w.heap.size 27 _ (0, 0) _ rfl R2.out Tryz.underlying27 rfl (by kernel_rfl)) rfl ⟨rfl, B2.out⟩

set_option maxHeartbeats 3200000 in
set_option maxRecDepth 100000 in
theorem implParse_any (k : Nat) (hk : Div60 k) (w : World) : Calls Tryz.prog 5 #[.string (minT k)] w fun e w' => e = .returned (.tuple #[.agg (schCells 0 (eachS k)), .bool true]) ∧ Below w.heap.size w w' := by
  have CP := hid (fun X => cronParse_any k hk X)
  have R0 := hid (Blk.new w 27 (schCells 0 noSets))
  have B0 := hid (show Below w.heap.size w (w.alloc (.cells (schCells 0 noSets) 27)) by go_grown)
  clear hk
  generalize eachS k = S at CP ⊢
  generalize minT k = s at CP ⊢
  go_enter Tryz.func5, Tryz.ntmps5
  go_upto_region 1 with fail
  change Code.wp _ _ _ _ (w.alloc (.cells (schCells 0 noSets) 27))
  generalize (w.alloc (.cells (schCells 0 noSets) 27)) = w1 at R0 B0 ⊢
  go_wp2_with (first
    | (go_at_call 12; refine (CP.out _).mono ?_; rintro e w2 ⟨⟨g, rfl, hg⟩, hb⟩; have HG := hid hg; have R1 := hid (R0.out.below hb); have B1 := hid (bt B0.out hb); clear hb hg)
    | (go_at_call 11; refine (plainS_any g S _ HG.out).mono ?_; rintro e w3 ⟨rfl, hb⟩; have R2 := hid (R1.out.below hb); have B2 := hid (bt B1.out hb); have T2 := hid (there_blk R2.out 8 (Nat.le_refl 8)); clear hb)
    | (refine wpList_store_mid rfl 27 (.tmp 2) (.tmp 9) rfl w.heap.size 0 (schCells 0 S) (by rfl) (by rfl) T2.out (by kernel_rfl) (by simp [Value.oneCell']) ?_; have R3 := hid (set_s8 R2.out 0 S); have B3 := hid (below_s8 B2.out (Nat.le_refl _) 0 S); generalize w3.setCells w.heap.size 0 (schCells 0 S).toList = w4 at R3 B3 ⊢))
  exact bodyPost_ret (results_row_tmp rfl _ _ w.heap.size 27 _ (0, 0) _ rfl R3.out Tryz.underlying27 rfl (by kernel_rfl)) rfl ⟨rfl, B3.out⟩
end Go.Proofs.YtjbafphoemibaaaGreatDoor

set_option linter.unusedVariables false
set_option linter.unusedSimpArgs false
namespace Go.Proofs.YtjbafphoemibaaaGreatDoor
open Go.RowKit

theorem keepM {dl s n : Int} {S : Sets} {b0 b1 : Nat} {t0 t1 : TypeId} {w w' : World} (h0 : Blk w b0 t0 (schCells dl S)) (h1 : Blk w b1 t1 (icells s n)) (hb : Below w.heap.size w w') :
    w'.cell? ⟨b0, 0, none⟩ = some (.bool false) ∧ w'.cell? ⟨b0, 1, none⟩ = some (.int .i64 dl) ∧ w'.cell? ⟨b0, 2, none⟩ = some (.int .u64 S.sec) ∧ w'.cell? ⟨b0, 3, none⟩ = some (.int .u64 S.min) ∧ w'.cell? ⟨b0, 4, none⟩ = some (.int .u64 S.hour) ∧ w'.cell? ⟨b0, 5, none⟩ = some (.int .u64 S.dom) ∧ w'.cell? ⟨b0, 6, none⟩ = some (.int .u64 S.month) ∧ w'.cell? ⟨b0, 7, none⟩ = some (.int .u64 S.dow) ∧
    w'.cell? ⟨b1, 0, none⟩ = some (.int .i64 s) ∧ w'.cell? ⟨b1, 1, none⟩ = some (.int .i64 n) := by
  have k0 := h0.below hb
  have k1 := h1.below hb
  exact ⟨k0.cell 0, k0.cell 1, k0.cell 2, k0.cell 3, k0.cell 4, k0.cell 5, k0.cell 6, k0.cell 7, k1.cell 0, k1.cell 1⟩
theorem found_one {S : Sets} {a lim l l' : Int} (h : Found S a lim l) (h' : Found S a lim l') : l = l' := by
  rcases Int.lt_trichotomy l l' with g | g | g
  · exact absurd h.2.2.2.1 (h'.2.2.2.2 l h.1 g)
  · exact g
  · exact absurd h'.2.2.2.1 (h.2.2.2.2 l' h'.1 g)
theorem found_some {S : Sets} {a lim l : Int} (h : Found S a lim l) : ¬ Nothing S a lim := fun hn => hn l h.1 (Int.le_trans h.2.1 (by decide)) h.2.2.1 h.2.2.2.1
theorem cutc_any (w : World) : Calls Tryz.prog 8 #[] w fun e w' => e = .returned (.agg (zcells none none none none 0 0 0 0 0 0 0 0)) ∧ Below w.heap.size w w' := by
  have B := hid (show Below w.heap.size w (w.alloc (.cells (zcells none none none none 0 0 0 0 0 0 0 0) 37)) by go_grown)
  have R := hid (Blk.new w 37 (zcells none none none none 0 0 0 0 0 0 0 0))
  go_enter Tryz.func8, Tryz.ntmps8
  go_wp2_with fail
  exact bodyPost_ret (results_cell_row rfl _ _ w.heap.size 37 _ (0, 0) _ rfl R.out Tryz.underlying37 rfl (by kernel_rfl)) rfl ⟨rfl, B.out⟩

theorem implEach_any (k : Nat) (hk : Div60 k) (s n : Int) (hg : goodT s n) (w : World) : Calls Tryz.prog 7 #[.agg (schCells 0 (eachS k)), .agg (icells s n), .agg (zcells none none none none 0 0 0 0 0 0 0 0)] w fun e w' => e = .returned (.tuple #[.agg (icells (coming s k) 0), .bool true]) ∧ Below w.heap.size w w' := by
  have hf := each_found k hk s hg.1 hg.2.1
  refine (implNext_any 0 (eachS k) s n 0 true none none none none 0 0 0 0 0 0 0 0 w (eachS_ok k hk) (by unfold offOk; omega) (by decide) hg (fun X _ => locB_utc none none none none 0 0 0 0 0 0 0 X)).mono ?_
  rintro e w' ⟨h, hb⟩
  refine ⟨?_, hb⟩
  unfold NextOut at h
  rw [Int.add_zero] at h
  rcases h with ⟨l, rfl, hl⟩ | ⟨rfl, hn⟩
  · rw [found_one hl hf, Int.sub_zero]
  · exact absurd hn (found_some hf)
theorem emod60 (k : Nat) : (60 : Int) % (k : Int) = ((60 % k : Nat) : Int) := rfl
theorem div_of (k : Nat) (h1 : 1 ≤ k) (h2 : k ≤ 60) (h : 60 % k = 0) : Div60 k := by
  have hh : (List.range 61).all (fun k => k == 0 || !(60 % k == 0) || [1, 2, 3, 4, 5, 6, 10, 12, 15, 20, 30, 60].contains k) = true := by decide +kernel
  have h3 := List.all_eq_true.1 hh k (List.mem_range.2 (by omega))
  rw [h, show (k == 0) = false by rw [beq_eq_false_iff_ne]; omega] at h3
  simpa [Div60] using h3
theorem div_zero (k : Nat) (h : Div60 k) : 60 % k = 0 := by
  rcases h with rfl | rfl | rfl | rfl | rfl | rfl | rfl | rfl | rfl | rfl | rfl | rfl <;> rfl
theorem eql_inst (a : Int) (w : World) : (binOp .eql 23 (.agg (icells a 0)) (.agg (icells a 0))).run Tryz.prog w = .ok (.bool true) w := by
  have hS : Tryz.prog.underlying 23 = some (.struct (Tryz.prog.fieldsOf 23)) := by kernel_rfl
  have hp : Tryz.prog.stoodInHeld 23 = false := by kernel_rfl
  rw [run_eql_struct, show (10000 : Nat) = 9999 + 1 from rfl, run_equalIn_agg w 9999 23 _ _ hS hp]
  simp only [Program.fieldsOf, Tryz.underlying23]
  go_simp

/-- A step that is none: nothing is asked. -/
theorem each_low (k s n : Int) (w : World) (h : k < 1) : Calls Tryz.prog 3 #[.int .i64 k, .agg (icells s n)] w fun e w' => e = .returned (.bool true) ∧ Below w.heap.size w w' := by
  have B := hid (show Below w.heap.size w (w.alloc (.cells (icells s n) 23)) by go_grown)
  go_enter Tryz.func3, Tryz.ntmps3
  go_wp2_with fail
  go_ret
  exact ⟨rfl, B.out⟩
theorem each_high (k s n : Int) (w : World) (h1 : ¬ k < 1) (h : 60 < k) : Calls Tryz.prog 3 #[.int .i64 k, .agg (icells s n)] w fun e w' => e = .returned (.bool true) ∧ Below w.heap.size w w' := by
  have B := hid (show Below w.heap.size w (w.alloc (.cells (icells s n) 23)) by go_grown)
  go_enter Tryz.func3, Tryz.ntmps3
  go_wp2_with fail
  go_ret
  exact ⟨rfl, B.out⟩
theorem each_not (k : Nat) (s n : Int) (w : World) (h1 : 1 ≤ k) (h2 : k ≤ 60) (h : 60 % k ≠ 0) : Calls Tryz.prog 3 #[.int .i64 k, .agg (icells s n)] w fun e w' => e = .returned (.bool true) ∧ Below w.heap.size w w' := by
  have B := hid (show Below w.heap.size w (w.alloc (.cells (icells s n) 23)) by go_grown)
  have g1 : ¬ (k : Int) < 1 := by omega
  have g2 : ¬ (60 : Int) < (k : Int) := by omega
  have g3 : ((k : Int) == 0) = false := by rw [beq_eq_false_iff_ne]; omega
  have g5 : ¬ (k : Int) = 0 := by omega
  have g6 : ¬ (60 : Int) % (k : Int) = 0 := by rw [emod60]; omega
  have g4 : ((60 : Int) % (k : Int) == 0) = false := by rw [beq_eq_false_iff_ne]; exact g6
  clear h1 h2 h
  go_enter Tryz.func3, Tryz.ntmps3
  go_wp2_with fail
  go_ret
  exact ⟨rfl, B.out⟩
/-- An instant that is none: nothing is asked. -/
theorem each_bad (k : Nat) (hk : Div60 k) (s n : Int) (w : World) (hg : ¬ goodT s n) :
    Calls Tryz.prog 3 #[.int .i64 k, .agg (icells s n)] w fun e w' => e = .returned (.bool true) ∧ Below w.heap.size w w' := by
  obtain ⟨k1, k2⟩ := div60_pos hk
  have g1 : ¬ (k : Int) < 1 := by omega
  have g2 : ¬ (60 : Int) < (k : Int) := by omega
  have g5 : ¬ (k : Int) = 0 := by omega
  have g3 : ((k : Int) == 0) = false := by rw [beq_eq_false_iff_ne]; exact g5
  have g6 : (60 : Int) % (k : Int) = 0 := by rw [emod60, div_zero k hk]; rfl
  have K0 := hid (Blk.new w 23 (icells s n))
  have B0 := hid (show Below w.heap.size w (w.alloc (.cells (icells s n) 23)) by go_grown)
  have CG := hid (fun X => cronGood_any s n X)
  have HN := hid (show ∀ b : Bool, (b = true → goodT s n) → b = false from fun b h => by
    cases b
    · rfl
    · exact absurd (h rfl) hg)
  clear hk k1 k2 hg
  go_enter Tryz.func3, Tryz.ntmps3
  go_upto_region 1 with fail
  generalize (w.alloc (.cells (icells s n) 23)) = w1 at K0 B0 ⊢
  have c0 := K0.out.cell 0
  have c1 := K0.out.cell 1
  go_wp2_with (go_at_call 4; refine (CG.out _).mono ?_; rintro e w2 ⟨⟨b, rfl, hgb⟩, hb⟩; have B2 := hid (bt B0.out hb); obtain rfl := HN.out b hgb; clear hb hgb c0 c1)
  go_ret
  exact ⟨rfl, B2.out⟩

set_option maxHeartbeats 1600000 in
set_option maxRecDepth 100000 in
theorem each_core (k : Nat) (hk : Div60 k) (s n : Int) (w : World) (ht : Tab w) (hg : goodT s n) :
    Calls Tryz.prog 3 #[.int .i64 k, .agg (icells s n)] w fun e w' => e = .returned (.bool true) ∧ Below w.heap.size w w' := by
  obtain ⟨k1, k2⟩ := div60_pos hk
  have g1 : ¬ (k : Int) < 1 := by omega
  have g2 : ¬ (60 : Int) < (k : Int) := by omega
  have g5 : ¬ (k : Int) = 0 := by omega
  have g3 : ((k : Int) == 0) = false := by rw [beq_eq_false_iff_ne]; exact g5
  have g6 : (60 : Int) % (k : Int) = 0 := by rw [emod60, div_zero k hk]; rfl
  have g7 : wrap64 (60 * (k : Int)) = 60 * (k : Int) := by unfold wrap64; omega
  have K0 := hid (Blk.new w 23 (icells s n))
  have B0 := hid (show Below w.heap.size w (w.alloc (.cells (icells s n) 23)) by go_grown)
  have CG := hid (fun X => cronGood_any s n X)
  have CI := hid (fun X (hX : Tab X) => itoa_any k (by omega) X hX)
  have CP := hid (fun X => implParse_any k hk X)
  have CN := hid (fun X => implEach_any k hk s n hg X)
  have CC := hid (fun X => coming_any k hk s hg.1 hg.2.1 X)
  have HQ := hid eql_inst
  have CU := hid cutc_any
  have HT := hid (tab_below ht B0.out)
  clear hk ht hg
  generalize coming s k = q at CN CC ⊢
  have hz := dec_size k (by omega)
  have z1 : ¬ 9223372036854775807 < 2 + (dec k).size := by omega
  have z2 : ¬ 9223372036854775807 < 2 + (dec k).size + 8 := by omega
  clear hz
  have hmin : (⟨#[42, 47]⟩ : ByteArray) ++ dec k ++ ⟨#[32, 42, 32, 42, 32, 42, 32, 42]⟩ = minT k := rfl
  have HM := hid hmin
  clear hmin k1 k2
  generalize eachS k = S at CP CN ⊢
  generalize minT k = M at HM CP ⊢
  generalize dec k = D at HM CI z1 z2 ⊢
  go_enter Tryz.func3, Tryz.ntmps3
  go_upto_region 1 with fail
  generalize (w.alloc (.cells (icells s n) 23)) = w1 at K0 B0 HT ⊢
  have c0 := K0.out.cell 0
  have c1 := K0.out.cell 1
  go_upto_region 3 with (go_at_call 4; refine (CG.out _).mono ?_; rintro e w2 ⟨⟨b, rfl, hgb⟩, hb⟩; have B2 := hid (bt B0.out hb); have K2 := hid (K0.out.below hb); have T2 := hid (tab_below HT.out hb); clear hb hgb c0 c1; rcases b with _ | _)
  · go_wp2_with fail
    go_ret
    exact ⟨rfl, B2.out⟩
  go_wp2_with (first
    | (go_at_call 6; refine (CI.out _ T2.out).mono ?_; rintro e w3 ⟨rfl, hb⟩; have B3 := hid (bt B2.out hb); have K3 := hid (K2.out.below hb); clear hb)
    | (go_at_call 5; rw [HM.out]; generalize (⟨#[42, 47]⟩ : ByteArray) ++ D = E at HM ⊢; refine (CP.out _).mono ?_; rintro e w4 ⟨rfl, hb⟩; have B4 := hid (bt B3.out hb); have K4 := hid (K3.out.below hb); clear hb)
    | (refine wpList_store_mid rfl 27 (.tmp 5) (.tmp 31) rfl w4.heap.size 0 (schCells 0 S) (by rfl) (by rfl) (there_blk (Blk.new w4 27 #[.bool false, .int .i64 0, .int .u64 0, .int .u64 0, .int .u64 0, .int .u64 0, .int .u64 0, .int .u64 0]) 8 (Nat.le_refl 8)) (by kernel_rfl) (by simp [Value.oneCell']) ?_
       have KS := hid (set_s8 (Blk.new w4 27 #[.bool false, .int .i64 0, .int .u64 0, .int .u64 0, .int .u64 0, .int .u64 0, .int .u64 0, .int .u64 0]) 0 S)
       have BS := hid (below_s8 (show Below w4.heap.size w4 (w4.alloc (.cells #[.bool false, .int .i64 0, .int .u64 0, .int .u64 0, .int .u64 0, .int .u64 0, .int .u64 0, .int .u64 0] 27)) by go_grown) (Nat.le_refl _) 0 S)
       have KT := hid (K4.out.below BS.out)
       have B5 := hid (bt B4.out BS.out)
       obtain ⟨gs, hgs⟩ : ∃ gs, w4.heap.size = gs := ⟨_, rfl⟩
       rw [hgs] at KS BS KT B5 ⊢
       clear hgs
       generalize (w4.alloc (.cells #[.bool false, .int .i64 0, .int .u64 0, .int .u64 0, .int .u64 0, .int .u64 0, .int .u64 0, .int .u64 0] 27)).setCells gs 0 (schCells 0 S).toList = x5 at KS BS KT B5 ⊢))
  clear T2 B2 K2 B3 K3 B4 K4 g3 g5 g6 z1 z2 CG CI CP HM
  go_cut [7, 8] (fun pv bv wx => ∃ g, pv = .pointer (some ⟨g, 0, none⟩) ∧ bv = .bool true ∧ Blk wx g 23 (icells q 0) ∧ x5.heap.size ≤ g ∧ Below x5.heap.size x5 wx)
  case first =>
    go_region_held3 (fun w' => w'.cell? ⟨gs, 0, none⟩ = some (.bool false) ∧ w'.cell? ⟨gs, 1, none⟩ = some (.int .i64 0) ∧ w'.cell? ⟨gs, 2, none⟩ = some (.int .u64 S.sec) ∧ w'.cell? ⟨gs, 3, none⟩ = some (.int .u64 S.min) ∧ w'.cell? ⟨gs, 4, none⟩ = some (.int .u64 S.hour) ∧ w'.cell? ⟨gs, 5, none⟩ = some (.int .u64 S.dom) ∧ w'.cell? ⟨gs, 6, none⟩ = some (.int .u64 S.month) ∧ w'.cell? ⟨gs, 7, none⟩ = some (.int .u64 S.dow) ∧ w'.cell? ⟨w.heap.size, 0, none⟩ = some (.int .i64 s) ∧ w'.cell? ⟨w.heap.size, 1, none⟩ = some (.int .i64 n))
      ((refine keepM KS.out KT.out ?_; first | (go_grown; done) | (exact H3.out; done) | (exact H3.out.alloc H3.out.size _; done) | (exact H2.out; done) | (exact H2.out.alloc H2.out.size _; done) | (exact below_set2 H3.out (Nat.le_refl _) _ _; done) | (exact below_set2 H3.out H2.out.size _ _; done) | (exact below_set2 (H3.out.alloc H3.out.size _) H3.out.size _ _; done)))
      (first
        | (go_at_call 8; refine (CU.out _).mono ?_; rintro e' w5 ⟨rfl, hb⟩; have H2 := hid (bt (X := x5) (by go_grown) hb); (first | have A := hid (Blk.below (w' := w5) (show Blk (x5.alloc (.cells (icells 0 0) 23)).drew x5.heap.size 23 (icells 0 0) from Blk.new x5 23 _) hb) | skip); clear hb)
        | (go_at_call 7; refine (CN.out _).mono ?_; rintro e' w6 ⟨rfl, hb⟩; have H3 := hid (bt (X := x5) (by first | exact H2.out | exact H2.out.alloc H2.out.size _) hb); (first | have A := hid (Blk.below (Blk.new _ _ _) hb) | have A := hid (Blk.below A.out hb) | skip); (first | (have a0 := A.out.cell 0; have a1 := A.out.cell 1; have f0 := A.out.frozen 0; have f1 := A.out.frozen 1) | skip); clear hb))
    all_goals
      go_wp2_with fail
      go_meet
      first
        | exact ⟨_, rfl, rfl, Blk.new w6 _ _, H3.out.size, H3.out.alloc H3.out.size _⟩
        | exact ⟨_, rfl, rfl, (A.out.set 0 _).set 1 _, H2.out.size, below_set2 H3.out H2.out.size _ _⟩
        | exact ⟨_, rfl, rfl, (A.out.set 0 _).set 1 _, Nat.le_refl _, below_set2 H3.out (Nat.le_refl _) _ _⟩
  case rest =>
    obtain ⟨g, rfl, rfl, hbk, hle, hbw⟩ := hcut
    have KG := hid hbk
    have BW := hid (bt B5.out hbw)
    have KT6 := hid (KT.out.below hbw)
    clear hbk hle hbw KS KT BS B5
    go_upto_region 5 with fail
    have l0 : ∀ d os, (Go.Sort.grow (redrawn wc d) os).cell? ⟨g, 0, none⟩ = some (.int .i64 q) := fun d os => (blk_gr KG.out d os).cell 0
    have l1 : ∀ d os, (Go.Sort.grow (redrawn wc d) os).cell? ⟨g, 1, none⟩ = some (.int .i64 0) := fun d os => (blk_gr KG.out d os).cell 1
    have l2 : ∀ d os, (Go.Sort.grow (redrawn wc d) os).cell? ⟨w.heap.size, 0, none⟩ = some (.int .i64 s) := fun d os => (blk_gr KT6.out d os).cell 0
    have Q0 := hid (fun d os => Calls.regrown_of ((CC.out (Go.Sort.grow (redrawn wc d) os)).mono fun _ _ h => ⟨h.1, h.2 ▸ Below.refl _ _⟩))
    have Q1 := hid (fun d os => Calls.regrown_of (whole_any q (Go.Sort.grow (redrawn wc d) os)))
    have hq := HQ.out
    refine wp_region_quiet_below (by kernel_rfl) (by kernel_rfl) ?_
    repeat (go_big_quiet_step ((first | (go_at_call 10; exact Q0.out _ _) | (go_at_call 9; exact Q1.out _ _) | fail)))
    refine wpQuiet_nil ?_
    intro _ hw'
    obtain ⟨⟨dq, osq⟩, hw''⟩ := hw'
    subst hw''
    have B7 := hid (bt BW.out (below_regrown wc dq osq))
    clear l0 l1 l2 Q0 Q1 hq HQ CC CU CN KG KT6 BW
    generalize Go.Sort.grow (redrawn wc dq) osq = w7 at B7 ⊢
    go_wp2_with fail
    go_ret
    exact ⟨rfl, B7.out⟩

theorem fnCronEachMinutes_walk (k s n : Int) (w : World) (_ : (Lit.int .i64 k).wf = true) (_ : (Lit.int .i64 s).wf = true) (_ : (Lit.int .i64 n).wf = true) (ht : Tab w) :
    Calls Tryz.prog 3 #[.int .i64 k, .agg #[.int .i64 s, .int .i64 n]] w fun e w' => e = .returned (.bool true) ∧ Below w.heap.size w w' := by
  by_cases h1 : k < 1
  · exact each_low k s n w h1
  by_cases h2 : 60 < k
  · exact each_high k s n w h1 h2
  obtain ⟨j, rfl⟩ := Int.eq_ofNat_of_zero_le (show 0 ≤ k by omega)
  by_cases h3 : 60 % j = 0
  case neg => exact each_not j s n w (by omega) (by omega) h3
  have hk := div_of j (by omega) (by omega) h3
  by_cases hg : goodT s n
  · exact each_core j hk s n w ht hg
  · exact each_bad j hk s n w hg
end Go.Proofs.YtjbafphoemibaaaGreatDoor
