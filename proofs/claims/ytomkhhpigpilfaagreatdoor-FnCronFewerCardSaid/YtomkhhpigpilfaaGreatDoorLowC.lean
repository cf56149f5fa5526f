/- The cron package's zzLower, walked: what it makes of a text is a function of the text alone. -/
import Derived.Test.YtomkhhpigpilfaaGreatDoorNum
import Derived.Deep.LoopGhost
import Derived.Shelf.GgClosure.StringsIndexFunc
import Derived.Test.YtomkhhpigpilfaaGreatDoorApp
import Derived.WalkSmall
import Derived.Lib.AppendStr
import Derived.Laws.IdiomStrings
set_option linter.unusedVariables false
set_option linter.unusedSimpArgs false
namespace Go.Proofs.YtomkhhpigpilfaaGreatDoor
open Go.RowKit

/-- What zzLower makes of one rune. -/
def lowR (R : Nat) : List UInt8 := if 65 ≤ R ∧ R ≤ 90 then [UInt8.ofNat (R + 32)] else if R = 304 then [105] else if R = 8490 then [107] else (Utf8.encode R).data.toList
def lowFrom (s : ByteArray) : Nat → Nat → List UInt8
  | 0, _ => []
  | f + 1, pos => if pos < s.size then lowR (Utf8.decode s pos).1 ++ lowFrom s f (pos + (Utf8.decode s pos).2) else []
def low (s : ByteArray) : ByteArray := ⟨(lowFrom s s.size 0).toArray⟩
theorem lowFrom_end (s : ByteArray) (f pos : Nat) (h : ¬ pos < s.size) : lowFrom s f pos = [] := by cases f <;> simp [lowFrom, h]

def bv (l : List UInt8) : List Value := l.map fun b => Value.int .u8 b.toNat
theorem bv_len (l : List UInt8) : (bv l).length = l.length := by simp [bv]
theorem bv_app (a b : List UInt8) : bv (a ++ b) = bv a ++ bv b := by simp [bv]
theorem enc_size (r : Int) : (Utf8.encode r).data.size ≤ 4 := by
  unfold Utf8.encode
  simp only []
  repeat' split
  all_goals first | (show 1 ≤ 4; omega) | (show 2 ≤ 4; omega) | (show 3 ≤ 4; omega) | (show 4 ≤ 4; omega)
theorem enc_size' (r : Int) : (Utf8.encode r).size ≤ 4 := enc_size r
theorem lowR_len (R : Nat) : (lowR R).length ≤ 4 := by
  unfold lowR
  split
  · simp
  · split
    · simp
    · split
      · simp
      · have := enc_size (R : Int)
        rw [Array.length_toList]; exact this

theorem info_u8 : (Tryz.prog.info? 5).map (fun i => (i.zero, i.size, i.bytes)) = some (some (.int .u8 0), 1, 1) := by kernel_rfl

/-- string(b) of an owned row of bytes. -/
theorem conv_own {w : World} {base : Nat} {v : Value} {l : List UInt8} (h : w.ownsRow base 5 1 v (bv l).length (bv l)) : (convert 36 9 v).run Tryz.prog w = .ok (.string ⟨l.toArray⟩) w := by
  have h0 := h
  rcases h.2 with ⟨rfl, h1⟩ | ⟨g, cap, cur, rfl, _⟩
  · have : l = [] := by rw [bv_len] at h1; exact List.length_eq_zero_iff.1 h1
    subst this
    rw [run_convert_bytes_string w _ _ 5 none 0 0 Tryz.underlying36 Tryz.underlying5 Tryz.underlying9]
    rfl
  · have e : (bv l).length = l.length := bv_len l
    rw [e]
    exact run_convert_bytes_back w _ _ 5 _ cap l Tryz.underlying36 Tryz.underlying5 Tryz.underlying9 (fun j hj => h0.cells rfl j _ (by simp [bv, List.getElem?_map, List.getElem?_eq_getElem hj]))

def LowRel (s : ByteArray) (w : World) (f pos : Nat) (v : Value) (wr : World) : Prop :=
  ∃ l : List UInt8, wr.heap[w.heap.size]? = some (.stringIter s pos) ∧ Below w.heap.size w wr ∧ w.heap.size + 1 ≤ wr.heap.size ∧ wr.ownsRow (w.heap.size + 1) 5 1 v (bv l).length (bv l) ∧ l.length ≤ 4 * pos ∧ s.size ≤ pos + f ∧ l ++ lowFrom s f pos = lowFrom s s.size 0

theorem low_step {s : ByteArray} {w W w1 : World} {f pos R K : Nat} {v1 : Value} {l : List UInt8} {m : List UInt8} (hps : pos < s.size) (hd : Utf8.decode s pos = (R, K)) (hw : 1 ≤ K)
    (hit : W.heap[w.heap.size]? = some (.stringIter s (pos + K))) (hb : Below w.heap.size w W) (hsz : w.heap.size + 1 ≤ W.heap.size) (hl : l.length ≤ 4 * pos) (hf : s.size ≤ pos + (f + 1)) (he : l ++ lowFrom s (f + 1) pos = lowFrom s s.size 0)
    (hm : lowR R = m) (hown : w1.ownsRow (w.heap.size + 1) 5 1 v1 (bv l ++ bv m).length (bv l ++ bv m)) (hb1 : Below (w.heap.size + 1) W w1) : LowRel s w f (pos + K) v1 w1 := by
  refine ⟨l ++ m, (hb1.block _ (Nat.lt_succ_self _)).trans hit, hb.trans (hb1.mono (Nat.le_succ _)), Nat.le_trans hsz hb1.size, by rw [bv_app]; exact hown, ?_, by omega, ?_⟩
  · have := lowR_len R
    rw [hm] at this
    rw [List.length_append]; omega
  · rw [← he]
    simp only [lowFrom, hps, if_true, hd, hm, List.append_assoc]

theorem low_byte (R : Nat) (h1 : 65 ≤ R) (h2 : R ≤ 90) : IntKind.u8.wrap ((R : Int) - 65 + 97) = ((UInt8.ofNat (R + 32)).toNat : Int) := by
  rw [IntWalk.u8_in _ (by omega), UInt8.toNat_ofNat']
  have : (R + 32) % 2 ^ 8 = R + 32 := Nat.mod_eq_of_lt (by omega)
  rw [this]; omega

theorem low_str {w : World} {base : Nat} {v : Value} {l : List UInt8} {s : ByteArray} (h : w.ownsRow base 5 1 v ((bv l).length + s.size) (bv l ++ Lib.strCells s)) : w.ownsRow base 5 1 v (bv l ++ bv s.data.toList).length (bv l ++ bv s.data.toList) := by
  have e : (bv l ++ bv s.data.toList).length = (bv l).length + s.size := by rw [List.length_append, bv_len s.data.toList, Array.length_toList]; rfl
  rw [e]
  exact h

set_option maxHeartbeats 1600000 in
set_option maxRecDepth 100000 in
theorem lower_any (s : ByteArray) (w : World) (hs : s.size ≤ 65536) : Calls Tryz.prog 99 #[.string s] w fun e w' =>
    e = .returned (.string (low s)) ∧ Below w.heap.size w w' := by
  go_enter Tryz.func99, Tryz.ntmps99
  go_wp2_with fail
  go_loopg [3] s.size (fun gf v wx => ∃ pos : Nat, LowRel s w gf pos v wx)
  case atStart => exact ⟨0, [], World.iter_heap w s 0, (Below.refl _ w).alloc (Nat.le_refl _) _, by rw [show (w.iter s 0).heap = w.heap.push (.stringIter s 0) from rfl, Array.size_push]; exact Nat.le_refl _, World.ownsRow_nil _ _ _ _, by simp, by omega, by simp⟩
  case round =>
    obtain ⟨pos, l, hit, hb, hsz, hown, hl, hf, he⟩ := hrel
    by_cases hps : pos < s.size
    · obtain ⟨g', rfl⟩ : ∃ g', gk = g' + 1 := ⟨gk - 1, by omega⟩
      have hnx : ∀ ty, (Instr.next (.pointer (some ⟨w.heap.size, 0, none⟩)) true ty).run Tryz.prog wr = _ := fun ty => Lib.run_next_any_at wr w.heap.size s pos ty hit hps
      have hwd := Lib.width_pos s pos
      obtain ⟨R, hR⟩ : ∃ R, (Utf8.decode s pos).1 = R := ⟨_, rfl⟩
      obtain ⟨K, hK⟩ : ∃ K, (Utf8.decode s pos).2 = K := ⟨_, rfl⟩
      have HD := hid (show Utf8.decode s pos = (R, K) from Prod.ext hR hK)
      rw [hR, hK] at hnx
      rw [hK] at hwd
      have hit2 := Lib.iterAt_heap wr w.heap.size s pos (pos + K) hit
      have hbw2 := Lib.below_iterAt hb (k := w.heap.size) (Nat.le_refl _) s (pos + K)
      have hownW := ownsRow_iterAt hown (k := w.heap.size) (Nat.lt_succ_self _) s (pos + K)
      have hsz2 : w.heap.size + 1 ≤ (wr.iterAt w.heap.size s (pos + K)).heap.size := by have := (Array.getElem?_eq_some_iff.1 hit2).1; omega
      obtain ⟨W, hWd⟩ : ∃ W, wr.iterAt w.heap.size s (pos + K) = W := ⟨_, rfl⟩
      rw [hWd] at hnx hit2 hbw2 hownW hsz2
      have HPS := hid hps
      have HIT := hid hit2
      have HB := hid hbw2
      have HSZ := hid hsz2
      have HL := hid hl
      have HLL := hid (show l.length ≤ 262144 by omega)
      have HF := hid hf
      have HE := hid he
      clear hit2 hbw2 hsz2 hown hWd hR hK
      by_cases h1 : 65 ≤ R ∧ R ≤ 90
      · obtain ⟨h1, h2⟩ := h1
        have g1 : (65 : Int) ≤ (R : Int) := by omega
        have g2 : (R : Int) ≤ 90 := by omega
        have hm : lowR R = [UInt8.ofNat (R + 32)] := by unfold lowR; rw [if_pos ⟨h1, h2⟩]
        have e0 : IntKind.i32.wrap ((R : Int) - 65) = (R : Int) - 65 := IntWalk.i32_in _ (by omega)
        have e1 : IntKind.i32.wrap ((R : Int) - 65 + 97) = (R : Int) - 65 + 97 := IntWalk.i32_in _ (by omega)
        have e2 : IntKind.u8.wrap ((R : Int) - 65 + 97) = ((UInt8.ofNat (R + 32)).toNat : Int) := low_byte R h1 h2
        have e3 : (IntKind.i32 == IntKind.u8) = false := rfl
        clear hl hf he hb hit hsz h1
        go_wp2_with (at_builtin; refine app_one (w0 := W) (w.heap.size + 1) rfl (.tmp 22) (.tmp 27) _ _ _ 1 rfl Tryz.underlying36 info_u8 rfl _ (bv l) (.int .u8 ((UInt8.ofNat (R + 32)).toNat : Int)) rfl rfl rfl hownW (Below.refl _ _) HSZ.out (by rw [bv_len]; have := HLL.out; simp [maxLen]; omega) (by rw [bv_len]; have := HLL.out; omega) ?_; intro v1 w1 hown1 hb1; replace hown1 := hid hown1; replace hb1 := hid hb1)
        go_roundg g'
        case measure => omega
        case rel => exact ⟨pos + K, low_step HPS.out HD.out hwd HIT.out HB.out HSZ.out HL.out HF.out HE.out hm hown1.out hb1.out⟩
      by_cases h2 : R = 304
      · have g0 : ((R : Int) == 304) = true := by rw [h2]; rfl
        have g2 : ¬ (R : Int) ≤ 90 := by omega
        have hm : lowR R = [105] := by unfold lowR; rw [if_neg h1, if_pos h2]
        clear hl hf he hb hit hsz h1
        go_wp2_with (at_builtin; refine app_one (w0 := W) (w.heap.size + 1) rfl (.tmp 32) (.tmp 33) _ _ _ 1 rfl Tryz.underlying36 info_u8 rfl _ (bv l) (.int .u8 105) rfl rfl rfl hownW (Below.refl _ _) HSZ.out (by rw [bv_len]; have := HLL.out; simp [maxLen]; omega) (by rw [bv_len]; have := HLL.out; omega) ?_; intro v1 w1 hown1 hb1; replace hown1 := hid hown1; replace hb1 := hid hb1)
        go_roundg g'
        case measure => omega
        case rel => exact ⟨pos + K, low_step HPS.out HD.out hwd HIT.out HB.out HSZ.out HL.out HF.out HE.out hm hown1.out hb1.out⟩
      by_cases h3 : R = 8490
      · have g0 : ((R : Int) == 304) = false := by rw [beq_eq_false_iff_ne]; omega
        have g1 : ((R : Int) == 8490) = true := by rw [h3]; rfl
        have g2 : ¬ (R : Int) ≤ 90 := by omega
        have hm : lowR R = [107] := by unfold lowR; rw [if_neg h1, if_neg h2, if_pos h3]
        clear hl hf he hb hit hsz h1
        go_wp2_with (at_builtin; refine app_one (w0 := W) (w.heap.size + 1) rfl (.tmp 38) (.tmp 39) _ _ _ 1 rfl Tryz.underlying36 info_u8 rfl _ (bv l) (.int .u8 107) rfl rfl rfl hownW (Below.refl _ _) HSZ.out (by rw [bv_len]; have := HLL.out; simp [maxLen]; omega) (by rw [bv_len]; have := HLL.out; omega) ?_; intro v1 w1 hown1 hb1; replace hown1 := hid hown1; replace hb1 := hid hb1)
        go_roundg g'
        case measure => omega
        case rel => exact ⟨pos + K, low_step HPS.out HD.out hwd HIT.out HB.out HSZ.out HL.out HF.out HE.out hm hown1.out hb1.out⟩
      have g0 : ((R : Int) == 304) = false := by rw [beq_eq_false_iff_ne]; omega
      have g1 : ((R : Int) == 8490) = false := by rw [beq_eq_false_iff_ne]; omega
      have hm : lowR R = (Utf8.encode R).data.toList := by unfold lowR; rw [if_neg h1, if_neg h2, if_neg h3]
      obtain ⟨i8, hi8, hz8⟩ := Option.map_eq_some_iff.1 info_u8
      simp only [Prod.mk.injEq] at hz8
      by_cases h4 : 65 ≤ R
      · have g2 : (65 : Int) ≤ (R : Int) := by omega
        have g3 : ¬ (R : Int) ≤ 90 := by omega
        clear hl hf he hb hit hsz h1
        go_wp2_with (at_builtin; refine Lib.wpList_append_own_string _ rfl (.tmp 11) (.tmp 13) _ _ rfl (w.heap.size + 1) _ i8 Tryz.underlying36 Tryz.underlying9 hi8 hz8.1 hz8.2.1 hz8.2.2 _ _ (bv l) rfl hownW (Utf8.encode R) rfl (by rw [bv_len]; have := HLL.out; have := enc_size' (R : Int); simp [maxLen]; omega) (by rw [bv_len]; have := HLL.out; have := enc_size' (R : Int); omega) HSZ.out ?_; intro v1 w1 hown1 hg1 _; replace hown1 := hid hown1; replace hg1 := hid hg1)
        go_roundg g'
        case measure => omega
        case rel => exact ⟨pos + K, low_step HPS.out HD.out hwd HIT.out HB.out HSZ.out HL.out HF.out HE.out hm (low_str hown1.out) ((Below.refl _ _).grown hg1.out HSZ.out (own_low hownW))⟩
      · have g2 : ¬ (65 : Int) ≤ (R : Int) := by omega
        clear hl hf he hb hit hsz h1
        go_wp2_with (at_builtin; refine Lib.wpList_append_own_string _ rfl (.tmp 11) (.tmp 13) _ _ rfl (w.heap.size + 1) _ i8 Tryz.underlying36 Tryz.underlying9 hi8 hz8.1 hz8.2.1 hz8.2.2 _ _ (bv l) rfl hownW (Utf8.encode R) rfl (by rw [bv_len]; have := HLL.out; have := enc_size' (R : Int); simp [maxLen]; omega) (by rw [bv_len]; have := HLL.out; have := enc_size' (R : Int); omega) HSZ.out ?_; intro v1 w1 hown1 hg1 _; replace hown1 := hid hown1; replace hg1 := hid hg1)
        go_roundg g'
        case measure => omega
        case rel => exact ⟨pos + K, low_step HPS.out HD.out hwd HIT.out HB.out HSZ.out HL.out HF.out HE.out hm (low_str hown1.out) ((Below.refl _ _).grown hg1.out HSZ.out (own_low hownW))⟩
    · have hnx : ∀ ty, (Instr.next (.pointer (some ⟨w.heap.size, 0, none⟩)) true ty).run Tryz.prog wr = _ := fun ty => Lib.run_next_end_at wr w.heap.size s pos ty hit hps
      have hc := conv_own hown
      rw [lowFrom_end s gk pos hps, List.append_nil] at he
      have HE := hid he
      have HB := hid hb
      clear he hb hl hf hsz hown hps hs
      go_wp2_with fail
      go_ret
      exact ⟨ret_s (by unfold low; rw [← HE.out]), HB.out⟩

theorem low_dig (R : Nat) (h : 48 ≤ R ∧ R ≤ 57) : lowR R = [UInt8.ofNat R] := by
  unfold lowR
  rw [if_neg (by omega), if_neg (by omega), if_neg (by omega)]
  have hv : Utf8.valid (R : Int) = true := by unfold Utf8.valid; simp; omega
  unfold Utf8.encode
  simp only [hv, if_true]
  rw [if_pos (by omega)]
  rfl

theorem low_digits (s : ByteArray) (h : s.toList.all isDig = true) : ∀ f pos : Nat, s.size ≤ pos + f → pos ≤ s.size → lowFrom s f pos = s.toList.drop pos
  | 0, pos, h1, h2 => by
    rw [List.drop_eq_nil_of_le (by rw [size_list]; omega)]; rfl
  | f + 1, pos, h1, h2 => by
    by_cases hps : pos < s.size
    · have hc : isDig (s[pos]'hps) = true := List.all_eq_true.1 h _ (List.mem_of_getElem? (at_list s pos hps))
      have hc2 := hc
      simp only [isDig, decide_eq_true_eq] at hc2
      have hd := decode_ascii s pos hps (by omega)
      simp only [lowFrom, hps, if_true, hd]
      rw [low_dig _ hc2, low_digits s h f (pos + 1) (by omega) (by omega), drop_list s pos hps, UInt8.ofNat_toNat]
      rfl
    · rw [List.drop_eq_nil_of_le (by rw [size_list]; omega)]
      simp [lowFrom, hps]

theorem low_same (s : ByteArray) (h : s.toList.all isDig = true) : low s = s := by
  apply bytes_inj
  unfold low
  rw [low_digits s h s.size 0 (by omega) (by omega), List.drop_zero, ByteArray.toList_eq]
end Go.Proofs.YtomkhhpigpilfaaGreatDoor
