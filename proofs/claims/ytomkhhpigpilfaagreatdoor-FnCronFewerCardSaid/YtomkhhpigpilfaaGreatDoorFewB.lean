/- FnCronFewer's reference: the words of a text, the fields filled in. Walked. -/
import Derived.Test.YtomkhhpigpilfaaGreatDoorFewA
import Derived.Test.YtomkhhpigpilfaaGreatDoorNormG
import Derived.WalkSmall
set_option linter.unusedVariables false
set_option linter.unusedSimpArgs false
namespace Go.Proofs.YtomkhhpigpilfaaGreatDoor
open Go.RowKit

theorem blank_any (b : UInt8) (w : World) : Calls Tryz.prog 22 #[.int .u8 b.toNat] w fun e w' => e = .returned (.bool (isSp b)) ∧ w = w' := by
  obtain ⟨R, hR⟩ : ∃ R, b.toNat = R := ⟨_, rfl⟩
  have he : isSp b = (R == 9 || R == 10 || R == 11 || R == 12 || R == 13 || R == 32) := by unfold isSp; rw [hR]
  rw [hR]
  by_cases h1 : R = 32
  · subst h1
    have HE := hid he
    clear he hR
    go_enter Tryz.func22, Tryz.ntmps22
    go_wp2_with fail
    go_ret
    exact ⟨ret_b (by rw [HE.out]; rfl), rfl⟩
  have e1 : ((R : Int) == 32) = false := by rw [beq_eq_false_iff_ne]; omega
  by_cases h2 : 9 ≤ R
  · have u2 : (9 : Int) ≤ (R : Int) := by omega
    by_cases h3 : R ≤ 13
    · have u3 : (R : Int) ≤ 13 := by omega
      have hx : (R == 9 || R == 10 || R == 11 || R == 12 || R == 13 || R == 32) = true := by
        rw [show (R == 9 || R == 10 || R == 11 || R == 12 || R == 13 || R == 32) = decide (R = 9 ∨ R = 10 ∨ R = 11 ∨ R = 12 ∨ R = 13 ∨ R = 32) by simp only [show ∀ a b : Nat, (a == b) = decide (a = b) from fun a b => rfl, Bool.decide_or, Bool.or_assoc]]
        exact decide_eq_true (by omega)
      rw [hx] at he
      have HE := hid he
      clear he hR hx h1 h2 h3
      go_enter Tryz.func22, Tryz.ntmps22
      go_wp2_with fail
      go_ret
      exact ⟨ret_b HE.out.symm, rfl⟩
    · have u3 : ¬ (R : Int) ≤ 13 := by omega
      have hx : (R == 9 || R == 10 || R == 11 || R == 12 || R == 13 || R == 32) = false := by
        rw [show (R == 9 || R == 10 || R == 11 || R == 12 || R == 13 || R == 32) = decide (R = 9 ∨ R = 10 ∨ R = 11 ∨ R = 12 ∨ R = 13 ∨ R = 32) by simp only [show ∀ a b : Nat, (a == b) = decide (a = b) from fun a b => rfl, Bool.decide_or, Bool.or_assoc]]
        exact decide_eq_false (by omega)
      rw [hx] at he
      have HE := hid he
      clear he hR hx h1 h2 h3
      go_enter Tryz.func22, Tryz.ntmps22
      go_wp2_with fail
      go_ret
      exact ⟨ret_b HE.out.symm, rfl⟩
  · have u2 : ¬ (9 : Int) ≤ (R : Int) := by omega
    have hx : (R == 9 || R == 10 || R == 11 || R == 12 || R == 13 || R == 32) = false := by
      rw [show (R == 9 || R == 10 || R == 11 || R == 12 || R == 13 || R == 32) = decide (R = 9 ∨ R = 10 ∨ R = 11 ∨ R = 12 ∨ R = 13 ∨ R = 32) by simp only [show ∀ a b : Nat, (a == b) = decide (a = b) from fun a b => rfl, Bool.decide_or, Bool.or_assoc]]
      exact decide_eq_false (by omega)
    rw [hx] at he
    have HE := hid he
    clear he hR hx h1 h2
    go_enter Tryz.func22, Tryz.ntmps22
    go_wp2_with fail
    go_ret
    exact ⟨ret_b HE.out.symm, rfl⟩

/-- What the loop of CronWords holds behind k bytes. -/
structure WRel (s : ByteArray) (w : World) (k : Nat) (xs : List ByteArray) (n : Int) (v : Value) (wr : World) : Prop where
  below : Below w.heap.size w wr
  own : wr.ownsRow w.heap.size 9 1 v xs.length (xs.map Value.string)
  st : stF s k = (xs, n)
  lo : -1 ≤ n
  hi : n ≤ k
  len : xs.length ≤ k
  ks : k ≤ s.size

set_option maxHeartbeats 3200000 in
set_option maxRecDepth 100000 in
theorem cwords_any (s : ByteArray) (w : World) (hs : s.size ≤ 400000) : Calls Tryz.prog 9 #[.string s] w fun e w' =>
    ∃ v, e = .returned v ∧ w'.ownsRow w.heap.size 9 1 v (wds s).length ((wds s).map Value.string) ∧ Below w.heap.size w w' := by
  have HS := hid hs
  clear hs
  go_enter Tryz.func9, Tryz.ntmps9
  go_wp2_with fail
  go_loopg [3, 4, 8] s.size (fun gf v f i wx => ∃ (pos : Nat) (xs : List ByteArray) (n : Int), f = .int .i64 n ∧ i = .int .i64 pos ∧ pos + gf = s.size ∧ Hid (WRel s w pos xs n v wx))
  case atStart => exact ⟨0, [], -1, rfl, rfl, by omega, ⟨Below.refl _ w, World.ownsRow_nil _ _ _ _, rfl, by omega, by omega, Nat.le_refl _, Nat.zero_le _⟩⟩
  case round =>
    obtain ⟨pos, xs, n, rfl, rfl, hgf, F⟩ := hrel
    have hst := F.out.st
    have hlo := F.out.lo
    have hhi := F.out.hi
    have hlen := F.out.len
    have hs2 := HS.out
    have HO := hid F.out.own
    have HB := hid F.out.below
    have HSZ := hid F.out.below.size
    have HST := hid hst
    clear F hst
    by_cases hps : pos < s.size
    · obtain ⟨g', rfl⟩ : ∃ g', gk = g' + 1 := ⟨gk - 1, by omega⟩
      obtain ⟨b, hb⟩ : ∃ b, s[pos]'hps = b := ⟨_, rfl⟩
      have CS := hid (fun W => blank_any b W)
      have HBB := hid (show s.get! pos = b by rw [get_bang s pos hps]; exact hb)
      have hw : IntKind.i64.wrap ((pos : Int) + 1) = (pos : Int) + 1 := IntWalk.i64_in _ (by omega)
      obtain ⟨q, hq⟩ : ∃ q, isSp b = q := ⟨_, rfl⟩
      rw [hq] at CS
      have HQ := hid hq
      clear hq
      cases q with
      | true =>
        by_cases hn : 0 ≤ n
        · have hsl := wsl_ft s n pos hn hhi (by omega)
          have HN := hid hn
          go_wp2_with (first
            | (go_at_call 22; refine (CS.out _).mono ?_; rintro e w2 ⟨rfl, rfl⟩)
            | (at_builtin; refine app_one (w0 := wr) w.heap.size rfl (.tmp 20) (.tmp 25) _ _ _ 16 rfl Tryz.underlying22 info_str rfl _ (xs.map Value.string) (.string (s.extract n.toNat pos)) rfl rfl rfl (by rw [List.length_map]; exact HO.out) (Below.refl _ _) HSZ.out (by rw [List.length_map]; simp [maxLen]; omega) (by rw [List.length_map]; omega) ?_; intro v1 w1 hown1 hb1; replace hown1 := hid hown1; replace hb1 := hid hb1))
          go_roundg g'
          case measure => omega
          case rel =>
            refine ⟨pos + 1, xs ++ [s.extract n.toNat pos], -1, rfl, by go_num, by omega, HB.out.trans hb1.out, ?_, ?_, by omega, by omega, by rw [List.length_append]; simp; omega, by omega⟩
            · have := hown1.out
              rw [List.length_append, List.length_map] at this
              rw [List.length_append, List.map_append]
              exact this
            · show (if isSp (s.get! pos) then _ else _) = _
              rw [HBB.out, HQ.out, HST.out, if_pos rfl]
              simp only
              rw [if_pos HN.out]
        · go_wp2_with (go_at_call 22; refine (CS.out _).mono ?_; rintro e w2 ⟨rfl, rfl⟩)
          go_roundg g'
          case measure => omega
          case rel =>
            refine ⟨pos + 1, xs, n, rfl, by go_num, by omega, HB.out, HO.out, ?_, hlo, by omega, by omega, by omega⟩
            show (if isSp (s.get! pos) then _ else _) = _
            rw [HBB.out, HQ.out, HST.out, if_pos rfl]
            simp only
            rw [if_neg (by omega)]
      | false =>
        by_cases hn : n < 0
        · go_wp2_with (go_at_call 22; refine (CS.out _).mono ?_; rintro e w2 ⟨rfl, rfl⟩)
          go_roundg g'
          case measure => omega
          case rel =>
            refine ⟨pos + 1, xs, pos, rfl, by go_num, by omega, HB.out, HO.out, ?_, by omega, by omega, by omega, by omega⟩
            show (if isSp (s.get! pos) then _ else _) = _
            rw [HBB.out, HQ.out, HST.out, if_neg (by decide)]
            simp only
            rw [if_pos hn]
        · go_wp2_with (go_at_call 22; refine (CS.out _).mono ?_; rintro e w2 ⟨rfl, rfl⟩)
          go_roundg g'
          case measure => omega
          case rel =>
            refine ⟨pos + 1, xs, n, rfl, by go_num, by omega, HB.out, HO.out, ?_, hlo, by omega, by omega, by omega⟩
            show (if isSp (s.get! pos) then _ else _) = _
            rw [HBB.out, HQ.out, HST.out, if_neg (by decide)]
            simp only
            rw [if_neg (by omega)]
    · have hpe : pos = s.size := by omega
      subst hpe
      clear hps
      by_cases hn : 0 ≤ n
      · have hsl := wsl_fe s n hn hhi
        have HN := hid hn
        go_wp2_with (at_builtin; refine app_one (w0 := wr) w.heap.size rfl (.tmp 41) (.tmp 45) _ _ _ 16 rfl Tryz.underlying22 info_str rfl _ (xs.map Value.string) (.string (s.extract n.toNat s.size)) rfl rfl rfl (by rw [List.length_map]; exact HO.out) (Below.refl _ _) HSZ.out (by rw [List.length_map]; simp [maxLen]; omega) (by rw [List.length_map]; omega) ?_; intro v1 w1 hown1 hb1; replace hown1 := hid hown1; replace hb1 := hid hb1)
        go_ret
        refine ⟨_, rfl, ?_, HB.out.trans hb1.out⟩
        have e : wds s = xs ++ [s.extract n.toNat s.size] := by unfold wds; rw [HST.out]; simp only; rw [if_pos HN.out]
        rw [e, List.length_append, List.map_append]
        have := hown1.out
        rw [List.length_append, List.length_map] at this
        exact this
      · go_wp2_with fail
        go_ret
        refine ⟨_, rfl, ?_, HB.out⟩
        have e : wds s = xs := by unfold wds; rw [HST.out]; simp only; rw [if_neg (by omega)]
        rw [e]
        exact HO.out

/-- Texts of a slice. -/
def StrsOf (w : World) (ao : Option Addr) (l : List ByteArray) : Prop := ∀ i x, l[i]? = some x → ∃ g, ao = some ⟨g, 0, none⟩ ∧ w.cell? ⟨g, i, none⟩ = some (.string x)
theorem StrsOf.below {w w' : World} {ao : Option Addr} {l : List ByteArray} (h : StrsOf w ao l) (hb : Below w.heap.size w w') : StrsOf w' ao l := fun i x hx => by
  obtain ⟨g, h1, h2⟩ := h i x hx
  exact ⟨g, h1, cell_on hb h2⟩
theorem of_own {w : World} {base : Nat} {e : TypeId} {v : Value} {l : List ByteArray} (h : w.ownsRow base e 1 v l.length (l.map Value.string)) : ∃ ao c, v = .slice ao l.length c ∧ StrsOf w ao l := by
  by_cases hne : l = []
  · subst hne
    rcases h.2 with ⟨h0, _⟩ | ⟨g, cap, cur, rfl, _⟩
    · exact ⟨none, 0, h0, fun i x hx => nomatch hx⟩
    · exact ⟨_, _, rfl, fun i x hx => nomatch hx⟩
  · obtain ⟨g, c, rfl, _, hst⟩ := strs_of_own h hne
    exact ⟨_, c, rfl, fun i x hx => ⟨g, rfl, hst i x hx⟩⟩
theorem cwords_of (s : ByteArray) (w : World) (hs : s.size ≤ 400000) : Calls Tryz.prog 9 #[.string s] w fun e w' =>
    ∃ ao c, e = .returned (.slice ao (wds s).length c) ∧ StrsOf w' ao (wds s) ∧ Below w.heap.size w w' := by
  refine (cwords_any s w hs).mono ?_
  rintro e w' ⟨v, rfl, hown, hb⟩
  obtain ⟨ao, c, rfl, hst⟩ := of_own hown
  exact ⟨ao, c, rfl, hst, hb⟩

/-- The options with the bits of the optional fields beside those of their fields. -/
def pl2 (k : Nat) : Int := if k = 0 then 3 else if k = 1 then 4 else if k = 2 then 8 else if k = 3 then 16 else if k = 4 then 32 else 192
def Opts2 (o : Int) (t : Nat → Bool) : Prop := ∀ k, k < 6 → bits .and .i64 o (pl2 k) = if t k = true then pl k else 0
theorem two_no (o : Int) (h2 : bits .and .i64 o 2 = 0) (w : World) : Calls Tryz.prog 18 #[.int .i64 o] w fun e w' => e = .returned (.bool false) ∧ w = w' := by
  go_enter Tryz.func18, Tryz.ntmps18
  go_wp2_with fail
  go_ret
  exact ⟨rfl, rfl⟩
theorem miss_no (o : Int) (h2 : bits .and .i64 o 2 = 0) (h128 : bits .and .i64 o 128 = 0) (w : World) : Calls Tryz.prog 20 #[.int .i64 o] w fun e w' => e = .returned (.int .i64 (-1)) ∧ w = w' := by
  go_enter Tryz.func20, Tryz.ntmps20
  go_wp2_with fail
  go_ret
  exact ⟨rfl, rfl⟩
theorem default_any (k : Nat) (w : World) : Calls Tryz.prog 21 #[.int .i64 k] w fun e w' => e = .returned (.string (dfl k)) ∧ w = w' := by
  by_cases h : k < 3
  · have u : (k : Int) ≤ 2 := by omega
    have he : dfl k = ⟨#[48]⟩ := if_pos h
    rw [he]
    go_enter Tryz.func21, Tryz.ntmps21
    go_wp2_with fail
    go_ret
    exact ⟨rfl, rfl⟩
  · have u : ¬ (k : Int) ≤ 2 := by omega
    have he : dfl k = ⟨#[42]⟩ := if_neg h
    rw [he]
    go_enter Tryz.func21, Tryz.ntmps21
    go_wp2_with fail
    go_ret
    exact ⟨rfl, rfl⟩
set_option maxHeartbeats 3200000 in
theorem takes_any (o : Int) (t : Nat → Bool) (h : Opts2 o t) (k : Nat) (hk : k < 6) (w : World) : Calls Tryz.prog 19 #[.int .i64 o, .int .i64 k] w fun e w' => e = .returned (.bool (t k)) ∧ Below w.heap.size w w' := by
  have hb := h k hk
  obtain ⟨q, hq⟩ : ∃ q, t k = q := ⟨_, rfl⟩
  rw [hq] at hb ⊢
  clear h hq
  match k, hk with
  | 0, _ =>
    have hb2 : bits .and .i64 o 3 = if q = true then 1 else 0 := hb
    clear hb
    cases q <;> simp only [if_true, if_false, Bool.false_eq_true] at hb2 <;> (go_enter Tryz.func19, Tryz.ntmps19; go_wp2_with fail; go_returns; exact ⟨rfl, by go_grown⟩)
  | 1, _ =>
    have hb2 : bits .and .i64 o 4 = if q = true then 4 else 0 := hb
    clear hb
    cases q <;> simp only [if_true, if_false, Bool.false_eq_true] at hb2 <;> (go_enter Tryz.func19, Tryz.ntmps19; go_wp2_with fail; go_returns; exact ⟨rfl, by go_grown⟩)
  | 2, _ =>
    have hb2 : bits .and .i64 o 8 = if q = true then 8 else 0 := hb
    clear hb
    cases q <;> simp only [if_true, if_false, Bool.false_eq_true] at hb2 <;> (go_enter Tryz.func19, Tryz.ntmps19; go_wp2_with fail; go_returns; exact ⟨rfl, by go_grown⟩)
  | 3, _ =>
    have hb2 : bits .and .i64 o 16 = if q = true then 16 else 0 := hb
    clear hb
    cases q <;> simp only [if_true, if_false, Bool.false_eq_true] at hb2 <;> (go_enter Tryz.func19, Tryz.ntmps19; go_wp2_with fail; go_returns; exact ⟨rfl, by go_grown⟩)
  | 4, _ =>
    have hb2 : bits .and .i64 o 32 = if q = true then 32 else 0 := hb
    clear hb
    cases q <;> simp only [if_true, if_false, Bool.false_eq_true] at hb2 <;> (go_enter Tryz.func19, Tryz.ntmps19; go_wp2_with fail; go_returns; exact ⟨rfl, by go_grown⟩)
  | 5, _ =>
    have hb2 : bits .and .i64 o 192 = if q = true then 64 else 0 := hb
    clear hb
    cases q <;> simp only [if_true, if_false, Bool.false_eq_true] at hb2 <;> (go_enter Tryz.func19, Tryz.ntmps19; go_wp2_with fail; go_returns; exact ⟨rfl, by go_grown⟩)
  | k + 6, h => omega
/-- The fields filled so far, the others empty. -/
def upE (t : Nat → Bool) (fs : List ByteArray) (k : Nat) (j : Nat) : ByteArray := if j < k then fullF t fs j else ⟨#[]⟩
theorem upE_six (t : Nat → Bool) (fs : List ByteArray) : scells 6 (upE t fs 6) = scells 6 (fullF t fs) := scells_ext fun i hi => by unfold upE; rw [if_pos hi]
theorem upE_step (t : Nat → Bool) (fs : List ByteArray) (k : Nat) (b : ByteArray) (hb : b = fullF t fs k) : putS (upE t fs k) k b = upE t fs (k + 1) := by
  subst hb
  funext j
  unfold putS upE
  by_cases e : j = k
  · subst e
    rw [if_pos rfl, if_pos (by omega)]
  · rw [if_neg e]
    by_cases h : j < k
    · rw [if_pos h, if_pos (by omega)]
    · rw [if_neg h, if_neg (by omega)]
theorem upE_twice (f : Nat → ByteArray) (k : Nat) (a b : ByteArray) : putS (putS f k a) k b = putS f k b := by
  funext j
  unfold putS
  by_cases e : j = k
  · rw [if_pos e, if_pos e]
  · rw [if_neg e, if_neg e, if_neg e]
theorem fullF_not {t : Nat → Bool} {fs : List ByteArray} {k : Nat} (h : ¬ t k = true) : dfl k = fullF t fs k := (if_neg h).symm

set_option maxHeartbeats 3200000 in
set_option maxRecDepth 100000 in
theorem fill_no (o : Int) (t : Nat → Bool) (fs : List ByteArray) (ao : Option Addr) (cap : Nat) (w : World) (ho : Opts2 o t) (h2 : bits .and .i64 o 2 = 0) (h128 : bits .and .i64 o 128 = 0) (hlen : fs.length ≠ cntT t 6) :
    Calls Tryz.prog 8 #[.slice ao fs.length cap, .int .i64 o] w fun e w' => e = .returned (.tuple #[.slice none 0 0, .bool false]) ∧ Below w.heap.size w w' := by
  have CT := hid (fun (k : Nat) hk w => takes_any o t ho k hk w)
  have C2 := hid (two_no o h2)
  have CM := hid (miss_no o h2 h128)
  have HL := hid hlen
  clear ho hlen h2 h128
  go_enter Tryz.func8, Tryz.ntmps8
  go_wp2_with (go_at_call 18; refine (C2.out _).mono ?_; rintro e w1 ⟨rfl, rfl⟩)
  go_loopw [14, 6] (fun i c wr => ∃ k : Nat, k ≤ 6 ∧ i = .int .i64 k ∧ c = .int .i64 ((cntT t k : Nat) : Int) ∧ Hid (Below w.heap.size w wr)) (fun i _ _ => 6 - (intOf i).toNat)
  case atStart => exact ⟨0, by omega, rfl, rfl, Below.refl _ _⟩
  case round =>
    obtain ⟨k, hk, rfl, rfl, B⟩ := hrel
    by_cases hlt : k < 6
    · have CK := hid (CT.out k hlt)
      have hc := cntT_le t k
      by_cases ht : t k = true
      · rw [ht] at CK
        have HT := hid ht
        clear ht
        go_wp2_with (go_at_call 19; refine (CK.out _).mono ?_; rintro e w2 ⟨rfl, hb⟩; have B2 := hid (bt B.out hb); clear hb)
        go_roundw
        case rel => exact ⟨k + 1, by omega, by go_num, by rw [cntT_yes HT.out]; go_num, B2.out⟩
        case measure => simp [intOf]; omega
      · rw [Bool.not_eq_true] at ht
        rw [ht] at CK
        have HT := hid (show ¬ t k = true by rw [ht]; decide)
        clear ht
        go_wp2_with (go_at_call 19; refine (CK.out _).mono ?_; rintro e w2 ⟨rfl, hb⟩; have B2 := hid (bt B.out hb); clear hb)
        go_roundw
        case rel => exact ⟨k + 1, by omega, by go_num, by rw [cntT_no HT.out], B2.out⟩
        case measure => simp [intOf]; omega
    · obtain rfl : k = 6 := by omega
      have hne : ((fs.length : Int) == ((cntT t 6 : Nat) : Int)) = false := by rw [beq_eq_false_iff_ne]; have := HL.out; omega
      clear HL
      go_wp2_with (go_at_call 20; refine (CM.out _).mono ?_; rintro e w1 ⟨rfl, rfl⟩)
      go_returns
      exact ⟨rfl, B.out⟩

set_option maxHeartbeats 3200000 in
set_option maxRecDepth 100000 in
theorem fill_yes (o : Int) (t : Nat → Bool) (fs : List ByteArray) (ao : Option Addr) (cap : Nat) (w : World) (ho : Opts2 o t) (h2 : bits .and .i64 o 2 = 0) (h128 : bits .and .i64 o 128 = 0) (hlen : fs.length = cntT t 6) (hst : StrsOf w ao fs) :
    Calls Tryz.prog 8 #[.slice ao fs.length cap, .int .i64 o] w fun e w' => (∃ h, e = .returned (.tuple #[.slice (some ⟨h, 0, none⟩) 6 6, .bool true]) ∧ Blk w' h 9 (scells 6 (fullF t fs))) ∧ Below w.heap.size w w' := by
  have CT := hid (fun (k : Nat) hk w => takes_any o t ho k hk w)
  have C2 := hid (two_no o h2)
  have CM := hid (miss_no o h2 h128)
  have HL := hid hlen
  have HST := hid hst
  have h6 : fs.length ≤ 6 := hlen ▸ cntT_le t 6
  clear ho hlen hst h2 h128
  go_enter Tryz.func8, Tryz.ntmps8
  go_wp2_with (go_at_call 18; refine (C2.out _).mono ?_; rintro e w1 ⟨rfl, rfl⟩)
  go_loopw [14, 6] (fun i c wr => ∃ k : Nat, k ≤ 6 ∧ i = .int .i64 k ∧ c = .int .i64 ((cntT t k : Nat) : Int) ∧ Hid (Below w.heap.size w wr)) (fun i _ _ => 6 - (intOf i).toNat)
  case atStart => exact ⟨0, by omega, rfl, rfl, Below.refl _ _⟩
  case round =>
    obtain ⟨k, hk, rfl, rfl, B⟩ := hrel
    by_cases hlt : k < 6
    · have CK := hid (CT.out k hlt)
      have hc := cntT_le t k
      by_cases ht : t k = true
      · rw [ht] at CK
        have HT := hid ht
        clear ht
        go_wp2_with (go_at_call 19; refine (CK.out _).mono ?_; rintro e w2 ⟨rfl, hb⟩; have B2 := hid (bt B.out hb); clear hb)
        go_roundw
        case rel => exact ⟨k + 1, by omega, by go_num, by rw [cntT_yes HT.out]; go_num, B2.out⟩
        case measure => simp [intOf]; omega
      · rw [Bool.not_eq_true] at ht
        rw [ht] at CK
        have HT := hid (show ¬ t k = true by rw [ht]; decide)
        clear ht
        go_wp2_with (go_at_call 19; refine (CK.out _).mono ?_; rintro e w2 ⟨rfl, hb⟩; have B2 := hid (bt B.out hb); clear hb)
        go_roundw
        case rel => exact ⟨k + 1, by omega, by go_num, by rw [cntT_no HT.out], B2.out⟩
        case measure => simp [intOf]; omega
    · obtain rfl : k = 6 := by omega
      rw [← HL.out]
      have hmk := make_six wr
      have KM := hid (show Blk (wr.alloc (.cells #[.string ⟨#[]⟩, .string ⟨#[]⟩, .string ⟨#[]⟩, .string ⟨#[]⟩, .string ⟨#[]⟩, .string ⟨#[]⟩] 9)) wr.heap.size 9 (scells 6 (upE t fs 0)) from Blk.new wr 9 #[.string ⟨#[]⟩, .string ⟨#[]⟩, .string ⟨#[]⟩, .string ⟨#[]⟩, .string ⟨#[]⟩, .string ⟨#[]⟩])
      have BM := hid (bt B.out (show Below wr.heap.size wr (wr.alloc (.cells #[.string ⟨#[]⟩, .string ⟨#[]⟩, .string ⟨#[]⟩, .string ⟨#[]⟩, .string ⟨#[]⟩, .string ⟨#[]⟩] 9)) by go_grown))
      obtain ⟨H, hH⟩ : ∃ H, wr.heap.size = H := ⟨_, rfl⟩
      have HLE := hid (show w.heap.size ≤ H from hH ▸ B.out.size)
      rw [hH] at KM hmk
      clear hH B
      go_wp2_with (go_at_call 20; refine (CM.out _).mono ?_; rintro e w1 ⟨rfl, rfl⟩)
      generalize (wr.alloc (.cells #[.string ⟨#[]⟩, .string ⟨#[]⟩, .string ⟨#[]⟩, .string ⟨#[]⟩, .string ⟨#[]⟩, .string ⟨#[]⟩] 9)) = w3 at KM BM ⊢
      clear hmk
      go_loopw [41, 10] (fun i c wx => ∃ k : Nat, k ≤ 6 ∧ i = .int .i64 k ∧ c = .int .i64 ((cntT t k : Nat) : Int) ∧ Hid (Blk wx H 9 (scells 6 (upE t fs k))) ∧ Hid (Below w.heap.size w wx)) (fun i _ _ => 6 - (intOf i).toNat)
      case atStart => exact ⟨0, by omega, rfl, rfl, KM.out, BM.out⟩
      case round =>
        clear KM BM
        rename World => wo
        obtain ⟨k, hk, rfl, rfl, K, B⟩ := hrel
        by_cases hlt : k < 6
        · have CK := hid (CT.out k hlt)
          have CD := hid (default_any k)
          have hc := cntT_le t k
          have hk6 : wo.cell? ⟨H, k, none⟩ = some (.string (upE t fs k k)) := (K.out.cell k).trans (scells_get hlt)
          have hfz := K.out.frozen k
          have K1 := hid (show Blk (wo.setCell ⟨H, k, none⟩ (.string (dfl k))) H 9 (scells 6 (putS (upE t fs k) k (dfl k))) from scells_set hlt ▸ K.out.set k (.string (dfl k)))
          have B1 := hid (below_set B.out HLE.out k (.string (dfl k)))
          have HHL := hid hlt
          have HD := hid (fun h => fullF_not (t := t) (fs := fs) (k := k) h)
          obtain ⟨d, hd⟩ : ∃ d, dfl k = d := ⟨_, rfl⟩
          rw [hd] at CD K1 B1 HD
          clear hd
          by_cases ht : t k = true
          · have hidx : cntT t k < fs.length := by
              have h1 := cntT_mono t (show k + 1 ≤ 6 by omega)
              rw [cntT_yes ht] at h1
              have := HL.out
              omega
            have hget : fs[cntT t k]? = some (fullF t fs k) := by
              unfold fullF
              rw [if_pos ht, List.getD_eq_getElem?_getD, List.getElem?_eq_getElem hidx]
              rfl
            obtain ⟨g, rfl, hgc⟩ := HST.out _ _ hget
            have HGC := hid hgc
            rw [ht] at CK
            have HT := hid ht
            have hcast : ((cntT t k : Nat) : Int) < (fs.length : Int) := by omega
            clear ht hget hgc
            go_wp2_with (first
              | (go_at_call 21; refine (CD.out _).mono ?_; rintro e w4 ⟨rfl, rfl⟩)
              | (generalize (wo.setCell ⟨H, k, none⟩ (.string d)) = w4 at K1 B1 ⊢; go_at_call 19; refine (CK.out _).mono ?_; rintro e w5 ⟨rfl, hb⟩; have K2 := hid (K1.out.below hb); have B2 := hid (bt B1.out hb); have hgc5 : w5.cell? ⟨g, cntT t k, none⟩ = some (.string (fullF t fs k)) := cell_on B2.out HGC.out; have hk65 : w5.cell? ⟨H, k, none⟩ = some (.string (putS (upE t fs k) k d k)) := (K2.out.cell k).trans (scells_get HHL.out); have hfz5 := K2.out.frozen k; clear hb))
            go_roundw
            case rel =>
              refine ⟨k + 1, by omega, by go_num, by rw [cntT_yes HT.out]; go_num, ?_, below_set B2.out HLE.out _ _⟩
              have := K2.out.set k (.string (fullF t fs k))
              rw [scells_set HHL.out, upE_twice, upE_step _ _ _ _ rfl] at this
              exact this
            case measure => simp [intOf]; omega
          · rw [Bool.not_eq_true] at ht
            rw [ht] at CK
            have HT := hid (show ¬ t k = true by rw [ht]; decide)
            clear ht
            go_wp2_with (first
              | (go_at_call 21; refine (CD.out _).mono ?_; rintro e w4 ⟨rfl, rfl⟩)
              | (generalize (wo.setCell ⟨H, k, none⟩ (.string d)) = w4 at K1 B1 ⊢; go_at_call 19; refine (CK.out _).mono ?_; rintro e w5 ⟨rfl, hb⟩; have K2 := hid (K1.out.below hb); have B2 := hid (bt B1.out hb); clear hb))
            go_roundw
            case rel =>
              refine ⟨k + 1, by omega, by go_num, by rw [cntT_no HT.out], ?_, B2.out⟩
              rw [← upE_step _ _ _ _ (HD.out HT.out)]
              exact K2.out
            case measure => simp [intOf]; omega
        · obtain rfl : k = 6 := by omega
          go_wp2_with fail
          go_returns
          exact ⟨⟨_, rfl, by rw [← upE_six]; exact K.out⟩, B.out⟩
end Go.Proofs.YtomkhhpigpilfaaGreatDoor
