/- FnCronFewer: a parser that does not take a field parses a text as the parser of all six fields parses the text with the default in its place. Walked. -/
import Derived.Test.YtomkhhpigpilfaaGreatDoorFewI
set_option linter.unusedVariables false
set_option linter.unusedSimpArgs false
namespace Go.Proofs.YtomkhhpigpilfaaGreatDoor
open Go.RowKit

theorem strs_blk {w : World} {H n : Nat} {f : Nat → ByteArray} (h : Blk w H 9 (scells n f)) : Strs w (some ⟨H, 0, none⟩) n f := fun i hi =>
  ⟨_, rfl, by
    have e : (⟨H, 0, none⟩ : Addr).add i = ⟨H, i, none⟩ := by unfold Addr.add; split <;> simp_all
    rw [e, h.cell i]
    exact scells_get hi⟩

theorem Blk.range_all {w : World} {g : Nat} {t : TypeId} {cs : Array Value} (hb : Blk w g t cs) : w.rangeAt g 0 cs.toList := fun j v hv => by
  rw [Nat.zero_add, hb.cell]
  simpa using hv
theorem key_of (r : Nat → Option Nat) : ∃ (x0 x1 x2 x3 x4 x5 : Int) (q : Bool), (q = false → ∃ i, i < 6 ∧ r i = none) ∧ ∀ e, ParsedAs r e → e = .returned (.tuple #[.agg #[.bool false, .int .i64 0, .int .u64 x0, .int .u64 x1, .int .u64 x2, .int .u64 x3, .int .u64 x4, .int .u64 x5], .bool q]) := by
  by_cases h : ∃ i, i < 6 ∧ r i = none
  · exact ⟨0, 0, 0, 0, 0, 0, false, fun _ => h, fun e he => parsed_no he h⟩
  · exact ⟨_, _, _, _, _, _, true, fun e => (by cases e), fun e he => parsed_yes he fun i h1 h2 => h ⟨i, h1, h2⟩⟩

set_option maxHeartbeats 6400000 in
set_option maxRecDepth 100000 in
theorem few_core (o : Int) (ao : Option Addr) (n c : Nat) (f : Nat → ByteArray) (w : World) (hS : Strs w ao n f) (hv : Vars w) (hlv : LocV w) :
    Calls Tryz.prog 3 #[.int .i64 o, .slice ao n c] w fun e w' => e = .returned (.bool true) ∧ Below w.heap.size w w' := by
  have CF := hid (fits_any ao n c f w hS)
  have HS := hid hS
  have HV := hid hv
  have HL := hid hlv
  clear hS hv hlv
  go_enter Tryz.func3, Tryz.ntmps3
  go_upto_region 3 with (go_at_call 5; refine CF.out.mono ?_; rintro e w' ⟨⟨b, rfl, hb⟩, rfl⟩; have HB := hid hb; clear hb; rcases b with _ | _)
  · go_wp2_with fail
    go_returns
    exact ⟨rfl, Below.refl _ _⟩
  obtain ⟨hn, hf⟩ := HB.out (by trivial)
  have CJ := hid (join_any ao n c f w' hn hf HS.out)
  have hsz := joinB_size f n hf
  have hs62 : (joinB f n).size ≤ 4611686018427387904 := Nat.le_trans hsz (by omega)
  clear hf HB hsz CF
  generalize joinB f n = s at CJ hs62
  have CP := hid (fun w => plainText_any s w hs62)
  clear hs62
  go_upto_region 4 with (go_at_call 6; refine CJ.out.mono ?_; rintro e w2 ⟨rfl, rfl⟩)
  by_cases h0 : o < 0
  · go_wp2_with fail
    go_returns
    exact ⟨rfl, Below.refl _ _⟩
  by_cases h256 : 256 ≤ o
  · go_wp2_with fail
    go_returns
    exact ⟨rfl, Below.refl _ _⟩
  by_cases h130 : bits .and .i64 o 130 = 0
  case neg =>
    have e : (bits .and .i64 o 130 != 0) = true := by rw [bne_iff_ne]; exact h130
    clear h130
    go_wp2_with fail
    go_returns
    exact ⟨rfl, Below.refl _ _⟩
  obtain ⟨b2, b128, b256, t, ho, ho2⟩ := opts_of o (by omega) (by omega) h130
  have HO := hid ho
  have HO2 := hid ho2
  have H2 := hid b2
  have H128 := hid b128
  clear ho ho2 b2 b128 b256
  go_upto_if 37 with (go_at_call 7; refine (CP.out _).mono ?_; rintro e w2 ⟨⟨b, rfl, hb⟩, rfl⟩; have HB := hid hb; clear hb; rcases b with _ | _)
  · go_wp2_with fail
    go_returns
    exact ⟨rfl, Below.refl _ _⟩
  by_cases hn0 : n = 0
  · subst hn0
    go_wp2_with fail
    go_returns
    exact ⟨rfl, Below.refl _ _⟩
  have en : ((n : Int) == 0) = false := by rw [beq_eq_false_iff_ne]; omega
  have hp := HB.out (by trivial)
  have hsz := hp.2.1
  have HP := hid hp
  clear HB CP CJ hn hn0 hp
  have CW := hid (fun w => cwords_of s w (by omega))
  clear hsz
  by_cases hl : (wds s).length = cntT t 6
  case neg =>
    have CL := hid (fun ao c w => fill_no o t (wds s) ao c w HO2.out H2.out H128.out hl)
    clear hl
    go_wp2_with (first
      | (go_at_call 9; refine (CW.out _).mono ?_; rintro e w3 ⟨a3, c3, rfl, _, hb⟩; have B3 := hid hb; clear hb)
      | (go_at_call 8; refine (CL.out _ _ _).mono ?_; rintro e w4 ⟨rfl, hb⟩; have B4 := hid (bt B3.out hb); clear hb))
    go_returns
    exact ⟨rfl, B4.out⟩
  have CL := hid (fun ao c w h => fill_yes o t (wds s) ao c w HO2.out H2.out H128.out hl h)
  have HLN := hid hl
  clear hl
  by_cases hne : wds s = []
  · have e0 : (((wds s).length : Int) == 0) = true := by rw [hne]; rfl
    clear hne
    go_wp2_with (first
      | (go_at_call 8; refine (CL.out _ _ _ ST.out).mono ?_; rintro e w4 ⟨⟨H, rfl, _⟩, hb⟩; have B4 := hid (bt B3.out hb); clear hb)
      | (go_at_call 9; refine (CW.out _).mono ?_; first | (rintro e w5 ⟨a5, c5, rfl, _, hb⟩; have B5 := hid (bt B4.out hb); clear hb) | (rintro e w3 ⟨a3, c3, rfl, hst, hb⟩; have B3 := hid hb; have ST := hid hst; clear hb hst)))
    go_returns
    exact ⟨rfl, B5.out⟩
  have e0 : (((wds s).length : Int) == 0) = false := by
    rw [beq_eq_false_iff_ne]
    intro h
    exact hne (List.length_eq_zero_iff.1 (by omega))
  obtain ⟨x0, x1, x2, x3, x4, x5, q, hq, hkey⟩ := key_of (rOf t s)
  have HKEY := hid hkey
  have CA := hid (fun (W : World) (hV : Vars W) => (implParseG s o 0 0 H128.out H2.out (.inl (by decide)) (rOf t s) W (fun W' hb => first_parse o W' (vars_kept _ _ hV hb) HP.out HO.out H2.out H128.out HLN.out hne)).mono fun e w' h => And.intro (hkey e h.1) h.2)
  have CB := hid (fun (W : World) (hV : Vars W) (hL : LocV W) => (implParseG (six t s) 125 0 0 (by decide +kernel) (by decide +kernel) (.inl (by decide)) (rOf t s) W (fun W' hb => second_parse W' (vars_kept _ _ hV hb) (loc_kept _ _ hL hb) HP.out HLN.out)).mono fun e w' h => And.intro (hkey e h.1) h.2)
  have CJ := hid (fun (H : Nat) (W : World) (h : Blk W H 9 (scells 6 (fullF t (wds s)))) => show Calls Tryz.prog 6 #[.slice (some ⟨H, 0, none⟩) 6 6, .string ⟨#[32]⟩] W (fun e w' => e = .returned (.string (six t s)) ∧ w' = W) from join_any (some ⟨H, 0, none⟩) 6 6 (fullF t (wds s)) W (by decide) (fun i hi => Nat.le_trans (fullF_size t (wds s) i (fun x hx => Nat.le_trans (wds_size hx) HP.out.2.1)) (by decide)) (strs_blk h))
  have CM := hid (fun (hq : q = false) W => nothing_any s o t W HP.out HO2.out H2.out H128.out HLN.out hne (fun h1 => by
    obtain ⟨i, hi, hr⟩ := by first | exact ‹q = false → _› hq | exact ‹_› hq
    exact fine_all t s HP.out.1 h1 i hi hr))
  have HEQ := hid (eql_sch x0 x1 x2 x3 x4 x5)
  clear hq hkey hne HKEY
  go_upto_region 9 with (first
    | (go_at_call 8; refine (CL.out _ _ _ ST.out).mono ?_; rintro e w4 ⟨⟨H, rfl, hbk⟩, hb⟩; have B4 := hid (bt B3.out hb); have K4 := hid hbk; clear hb hbk)
    | (go_at_call 9; refine (CW.out _).mono ?_; first | (rintro e w5 ⟨a5, c5, rfl, _, hb⟩; have B5 := hid (bt B4.out hb); have K5 := hid (K4.out.below hb); clear hb) | (rintro e w3 ⟨a3, c3, rfl, hst, hb⟩; have B3 := hid hb; have ST := hid hst; clear hb hst)))
  have V5 := hid (vars_kept _ _ HV.out B5.out)
  have L5 := hid (loc_kept _ _ HL.out B5.out)
  go_upto_region 10 with (first
    | (go_at_call 10; refine (CA.out _ V5.out).mono ?_; rintro e w6 ⟨rfl, hb⟩; have B6 := hid (bt B5.out hb); have K6 := hid (K5.out.below hb); have V6 := hid (vars_kept _ _ V5.out hb); have L6 := hid (loc_kept _ _ L5.out hb); clear hb)
    | (refine wpList_store_mid rfl 31 (.tmp 8) (.tmp 57) rfl w6.heap.size 0 #[.bool false, .int .i64 0, .int .u64 x0, .int .u64 x1, .int .u64 x2, .int .u64 x3, .int .u64 x4, .int .u64 x5] (by rfl) (by rfl) (there_v8 (Blk.new w6 31 #[.bool false, .int .i64 0, .int .u64 0, .int .u64 0, .int .u64 0, .int .u64 0, .int .u64 0, .int .u64 0]) 8 (Nat.le_refl 8)) (by kernel_rfl) (by simp [Value.oneCell']) ?_
       have S7 := hid (show Blk ((w6.alloc (.cells #[.bool false, .int .i64 0, .int .u64 0, .int .u64 0, .int .u64 0, .int .u64 0, .int .u64 0, .int .u64 0] 31)).setCells w6.heap.size 0 (#[.bool false, .int .i64 0, .int .u64 x0, .int .u64 x1, .int .u64 x2, .int .u64 x3, .int .u64 x4, .int .u64 x5] : Array Value).toList) w6.heap.size 31 #[.bool false, .int .i64 0, .int .u64 x0, .int .u64 x1, .int .u64 x2, .int .u64 x3, .int .u64 x4, .int .u64 x5] from set_v8 (Blk.new w6 31 #[.bool false, .int .i64 0, .int .u64 0, .int .u64 0, .int .u64 0, .int .u64 0, .int .u64 0, .int .u64 0]) _ _ _ _ _ _ _ _)
       have BB := hid (show Below w6.heap.size w6 ((w6.alloc (.cells #[.bool false, .int .i64 0, .int .u64 0, .int .u64 0, .int .u64 0, .int .u64 0, .int .u64 0, .int .u64 0] 31)).setCells w6.heap.size 0 (#[.bool false, .int .i64 0, .int .u64 x0, .int .u64 x1, .int .u64 x2, .int .u64 x3, .int .u64 x4, .int .u64 x5] : Array Value).toList) from below_v8 (by go_grown) (Nat.le_refl _) _ _ _ _ _ _ _ _)
       generalize (w6.alloc (.cells #[.bool false, .int .i64 0, .int .u64 0, .int .u64 0, .int .u64 0, .int .u64 0, .int .u64 0, .int .u64 0] 31)).setCells w6.heap.size 0 (#[.bool false, .int .i64 0, .int .u64 x0, .int .u64 x1, .int .u64 x2, .int .u64 x3, .int .u64 x4, .int .u64 x5] : Array Value).toList = w7 at S7 BB ⊢
       have K7 := hid (K6.out.below BB.out)
       have B7 := hid (bt B6.out BB.out)
       have V7 := hid (vars_kept _ _ V6.out BB.out)
       have L7 := hid (loc_kept _ _ L6.out BB.out)
       clear BB))
  obtain ⟨g8, hg8⟩ : ∃ g8, w6.heap.size = g8 := ⟨_, rfl⟩
  rw [hg8] at S7 ⊢
  clear hg8 K5 B5 V5 L5 K6 B6 V6 L6 CA CL CW
  go_upto_region 11 with (first
    | (go_at_call 6; refine (CJ.out H _ K7.out).mono ?_; rintro e w8 ⟨rfl, rfl⟩)
    | (go_at_call 10; refine (CB.out _ V7.out L7.out).mono ?_; rintro e w8 ⟨rfl, hb⟩; have B8 := hid (bt B7.out hb); have S8 := hid (S7.out.below hb); clear hb)
    | (refine wpList_store_mid rfl 31 (.tmp 10) (.tmp 63) rfl w8.heap.size 0 #[.bool false, .int .i64 0, .int .u64 x0, .int .u64 x1, .int .u64 x2, .int .u64 x3, .int .u64 x4, .int .u64 x5] (by rfl) (by rfl) (there_v8 (Blk.new w8 31 #[.bool false, .int .i64 0, .int .u64 0, .int .u64 0, .int .u64 0, .int .u64 0, .int .u64 0, .int .u64 0]) 8 (Nat.le_refl 8)) (by kernel_rfl) (by simp [Value.oneCell']) ?_
       have T9 := hid (show Blk ((w8.alloc (.cells #[.bool false, .int .i64 0, .int .u64 0, .int .u64 0, .int .u64 0, .int .u64 0, .int .u64 0, .int .u64 0] 31)).setCells w8.heap.size 0 (#[.bool false, .int .i64 0, .int .u64 x0, .int .u64 x1, .int .u64 x2, .int .u64 x3, .int .u64 x4, .int .u64 x5] : Array Value).toList) w8.heap.size 31 #[.bool false, .int .i64 0, .int .u64 x0, .int .u64 x1, .int .u64 x2, .int .u64 x3, .int .u64 x4, .int .u64 x5] from set_v8 (Blk.new w8 31 #[.bool false, .int .i64 0, .int .u64 0, .int .u64 0, .int .u64 0, .int .u64 0, .int .u64 0, .int .u64 0]) _ _ _ _ _ _ _ _)
       have BB := hid (show Below w8.heap.size w8 ((w8.alloc (.cells #[.bool false, .int .i64 0, .int .u64 0, .int .u64 0, .int .u64 0, .int .u64 0, .int .u64 0, .int .u64 0] 31)).setCells w8.heap.size 0 (#[.bool false, .int .i64 0, .int .u64 x0, .int .u64 x1, .int .u64 x2, .int .u64 x3, .int .u64 x4, .int .u64 x5] : Array Value).toList) from below_v8 (by go_grown) (Nat.le_refl _) _ _ _ _ _ _ _ _)
       generalize (w8.alloc (.cells #[.bool false, .int .i64 0, .int .u64 0, .int .u64 0, .int .u64 0, .int .u64 0, .int .u64 0, .int .u64 0] 31)).setCells w8.heap.size 0 (#[.bool false, .int .i64 0, .int .u64 x0, .int .u64 x1, .int .u64 x2, .int .u64 x3, .int .u64 x4, .int .u64 x5] : Array Value).toList = w9 at T9 BB ⊢
       have B9 := hid (bt B8.out BB.out)
       have S9 := hid (S8.out.below BB.out)
       clear BB))
  obtain ⟨g10, hg10⟩ : ∃ g10, w8.heap.size = g10 := ⟨_, rfl⟩
  rw [hg10] at T9 ⊢
  clear hg10 B8 S8 S7 K7 B7 V7 L7 CB CJ
  have LS := hid S9.out.range_all
  have LT := hid T9.out.range_all
  have heq := HEQ.out
  cases q with
  | true =>
    clear CM
    go_wp2_with (first
      | (refine wpList_load_g rfl 31 (.tmp 8) rfl g8 0 rfl [.bool false, .int .i64 0, .int .u64 x0, .int .u64 x1, .int .u64 x2, .int .u64 x3, .int .u64 x4, .int .u64 x5] _ LS.out Tryz.underlying31 rfl (by kernel_rfl) ?_)
      | (refine wpList_load_g rfl 31 (.tmp 10) rfl g10 0 rfl [.bool false, .int .i64 0, .int .u64 x0, .int .u64 x1, .int .u64 x2, .int .u64 x3, .int .u64 x4, .int .u64 x5] _ LT.out Tryz.underlying31 rfl (by kernel_rfl) ?_))
    go_returns
    exact ⟨rfl, B9.out⟩
  | false =>
    have CMM := hid (CM.out (by trivial))
    go_wp2_with (first
      | (refine wpList_load_g rfl 31 (.tmp 8) rfl g8 0 rfl [.bool false, .int .i64 0, .int .u64 x0, .int .u64 x1, .int .u64 x2, .int .u64 x3, .int .u64 x4, .int .u64 x5] _ LS.out Tryz.underlying31 rfl (by kernel_rfl) ?_)
      | (refine wpList_load_g rfl 31 (.tmp 10) rfl g10 0 rfl [.bool false, .int .i64 0, .int .u64 x0, .int .u64 x1, .int .u64 x2, .int .u64 x3, .int .u64 x4, .int .u64 x5] _ LT.out Tryz.underlying31 rfl (by kernel_rfl) ?_)
      | (go_at_call 11; refine (CMM.out _).mono ?_; rintro e w11 ⟨rfl, hb⟩; have B11 := hid (bt B9.out hb); clear hb))
    go_returns
    exact ⟨rfl, B11.out⟩
/-- Cell i of a slice, as the row's preamble opens it. -/
def Sl (w : World) (ao : Option Addr) (n : Nat) (ok : Value → Prop) : Prop := ∀ i, i < n → ∃ a x, ao = some a ∧ w.cell? (a.add i) = some x ∧ ok x
def isS (x : Value) : Prop := ∃ s : ByteArray, x = .string s
theorem Sl.strs {w : World} {ao : Option Addr} {n : Nat} (h : Sl w ao n isS) : ∃ f, Strs w ao n f := by
  have key : ∀ i, ∃ s : ByteArray, i < n → ∃ a, ao = some a ∧ w.cell? (a.add i) = some (.string s) := fun i => by
    by_cases hi : i < n
    · obtain ⟨a, x, h1, h2, s, rfl⟩ := h i hi
      exact ⟨s, fun _ => ⟨a, h1, h2⟩⟩
    · exact ⟨ByteArray.empty, fun h => absurd h hi⟩
  exact ⟨fun i => (key i).choose, fun i hi => (key i).choose_spec hi⟩

section
open Go.ChangeShapes Go.WideShapes Go.ChangeAt Go.Deep
variable {H : Type} {enc : TypeId × Value → H} {P : Program} {w : World} {base : Nat} {spare : Nat → Bool} {held : Bool}
theorem open_sl {t e : TypeId} {fuel : Nat} {c : Value} {x : DataW H × List MemPlace} (ok : Value → Prop) (ht : P.underlying t = some (.slice e)) (hc : P.cellsOf e = 1)
    (hok : ∀ n v y, DataW.trod enc P w base spare held n e [v] = some y → ok v) (h : DataW.trod enc P w base spare held fuel t [c] = some x) : ∃ ao n k, [c] = [.slice ao n k] ∧ Sl w ao n ok := by
  rcases open_slice1 ht hc h with ⟨h0, _⟩ | ⟨a, len, cap, m, n, V, D, Pl, h0, _, _, _, hm, _, hx⟩
  · exact ⟨none, 0, 0, h0, fun i hi => absurd hi (Nat.not_lt_zero _)⟩
  · refine ⟨some a, len, cap, h0, fun i hi => ?_⟩
    have hle : len ≤ m := by rw [hm]; split <;> first | omega | assumption | exact Nat.le_refl _
    obtain ⟨h1, h2⟩ := hx i (by omega)
    exact ⟨a, V i, rfl, h1, hok _ _ _ h2⟩
/-- The same for an argument. -/
theorem open_slv {t e : TypeId} {r : Reach} {b0 : Nat} {v : Value} {d : DataW H} {p : List MemPlace} (ok : Value → Prop) (ht : P.underlying t = some (.slice e)) (hc : P.cellsOf e = 1)
    (hok : ∀ n v y, DataW.trod enc P w base spare held n e [v] = some y → ok v) (hv : Value.okWide P w r b0 t v) (h : DataW.Trod enc P w base spare held t v d p) : ∃ ao n k, v = .slice ao n k ∧ Sl w ao n ok := by
  obtain ⟨fuel, hf⟩ := h
  unfold Value.okWide at hv
  simp only [ht] at hv
  unfold Cell.okWide at hv
  cases v <;> simp [Cell.ok, ht] at hv
  obtain ⟨ao, n, k, h1, h2⟩ := open_sl (c := .slice _ _ _) ok ht hc hok hf
  simp only [List.cons.injEq, and_true] at h1
  exact ⟨ao, n, k, h1, h2⟩
end

theorem fnCronFewer_walk (o : Int) (ao : Option Addr) (n c : Nat) (w : World) (_ : (Lit.int .i64 o).wf = true) (hS : Sl w ao n isS) (V : Vars w ∧ LocV w) :
    Calls Tryz.prog 3 #[.int .i64 o, .slice ao n c] w fun e w' => e = .returned (.bool true) ∧ Below w.heap.size w w' := by
  obtain ⟨f, hf⟩ := hS.strs
  exact few_core o ao n c f w hf V.1 V.2
end Go.Proofs.YtomkhhpigpilfaaGreatDoor
