/- FnCronFewer: both parses of a plain text answer the same. Walked. -/
import Derived.Test.YtomkhhpigpilfaaGreatDoorFewH
set_option linter.unusedVariables false
set_option linter.unusedSimpArgs false
namespace Go.Proofs.YtomkhhpigpilfaaGreatDoor
open Go.RowKit

theorem retS_congr {r q : Nat → Option Nat} {e : Ending} {w : World} (h : RetS r e w) (hq : ∀ i, i < 6 → r i = q i) : RetS q e w := by
  rcases h with ⟨n, h1, h2⟩ | ⟨⟨i, h1, h2⟩, h3⟩
  · exact .inl ⟨n, fun i hi => by rw [← hq i hi]; exact h1 i hi, h2⟩
  · exact .inr ⟨⟨i, h1, by rw [← hq i h1]; exact h2⟩, h3⟩
theorem pre_split {l p : List UInt8} (h : Lib.hasPrefix l p = true) : ∃ r, l = p ++ r := by
  rw [← Lib.hasPrefix_of_take] at h
  simp only [Bool.and_eq_true, decide_eq_true_eq, beq_iff_eq] at h
  exact ⟨l.drop p.length, by rw [← h.2]; exact (by rw [List.length_take, Nat.min_eq_left h.1]; exact (List.take_append_drop _ _).symm)⟩

section
variable {t : Nat → Bool} {s : ByteArray}
theorem six_cons (hl : (wds s).length = cntT t 6) (ha : ascii s) : ∃ c r, (fullF t (wds s) 0).toList = c :: r := by
  obtain ⟨⟨h1, _⟩, _⟩ := full_word hl ha (show 0 < 6 by decide)
  cases h : (fullF t (wds s) 0).toList with
  | nil => exact absurd h h1
  | cons c r => exact ⟨c, r, rfl⟩
theorem first_odd (hl : (wds s).length = cntT t 6) (ha : ascii s) {c : UInt8} (hc : Odd c) {r : List UInt8} (h : (six t s).toList = c :: r) : fieldK 0 (fullF t (wds s) 0) = none := by
  obtain ⟨d, q, e⟩ := six_cons hl ha
  obtain ⟨_, h2, _⟩ := six_head hl ha
  rw [h, e] at h2
  injection h2 with h3 _
  subst h3
  exact field_odd hc _ (ascii_list.2 (full_word hl ha (show 0 < 6 by decide)).2) q e
theorem odd64 : Odd 64 := ⟨by decide, by decide, by decide, by decide, by decide, by decide, by decide⟩
theorem odd84 : Odd 84 := ⟨by decide, by decide, by decide, by decide, by decide, by decide, by decide⟩
theorem odd67 : Odd 67 := ⟨by decide, by decide, by decide, by decide, by decide, by decide, by decide⟩
theorem no_space {l : List UInt8} (h : Word l) : (32 : UInt8) ∉ l := fun hm => by
  have := h.2 32 hm
  revert this
  decide
theorem wl_blank (l : List UInt8) : wl (32 :: l) = wl l := rfl
/-- Where the first space and the first equals sign of a text that begins with a zone stand. -/
theorem zone_places (hl : (wds s).length = cntT t 6) (ha : ascii s) (hz : zoned (six t s) = true) :
    ∃ i e, (six t s).toList[i]? = some 32 ∧ (32 : UInt8) ∉ (six t s).toList.take i ∧ (six t s).toList[e]? = some 61 ∧ (61 : UInt8) ∉ (six t s).toList.take e ∧ e < i ∧ (wl ((six t s).toList.drop i)).length < cntT (fun _ => true) 6 ∧ ∃ c r, Odd c ∧ (six t s).toList = c :: r := by
  obtain ⟨_, hh, _⟩ := six_head hl ha
  obtain ⟨hw, _⟩ := full_word hl ha (show 0 < 6 by decide)
  have h5 : (wl (32 :: joinL ((List.range' 1 5).map fun i => (fullF t (wds s) i).toList))).length < cntT (fun _ => true) 6 := by
    rw [wl_blank, wl_join _ (fun x hx => by
      obtain ⟨k, hk, rfl⟩ := List.mem_map.1 hx
      exact (full_word hl ha (show k < 6 by have := (List.mem_range'_1.1 hk).2; omega)).1), cnt_all]
    simp
  have hzz : (Lib.hasPrefix (six t s).toList [84, 90, 61] || Lib.hasPrefix (six t s).toList [67, 82, 79, 78, 95, 84, 90, 61]) = true := by
    have h := hz
    unfold zoned at h
    rw [show tzB.toList = [84, 90, 61] by rw [ByteArray.toList_eq]; rfl, show ctzB.toList = [67, 82, 79, 78, 95, 84, 90, 61] by rw [ByteArray.toList_eq]; rfl] at h
    exact h
  generalize (fullF t (wds s) 0).toList = a at hh hw
  generalize joinL ((List.range' 1 5).map fun i => (fullF t (wds s) i).toList) = b at hh h5
  generalize (six t s).toList = L at hh hzz
  have hi : L[a.length]? = some 32 := by rw [hh, List.getElem?_append_right (Nat.le_refl _), Nat.sub_self]; rfl
  have hi2 : (32 : UInt8) ∉ L.take a.length := by rw [hh, List.take_left']; exact no_space hw; rfl
  have hd : L.drop a.length = 32 :: b := by rw [hh, List.drop_left']; rfl
  have key : ∀ (p : List UInt8) (e : Nat) (c : UInt8) (q : List UInt8), L = p ++ q → p[e]? = some 61 → (61 : UInt8) ∉ p.take e → (32 : UInt8) ∉ p → e < p.length → Odd c → (∃ r, p = c :: r) →
      ∃ i e, L[i]? = some 32 ∧ (32 : UInt8) ∉ L.take i ∧ L[e]? = some 61 ∧ (61 : UInt8) ∉ L.take e ∧ e < i ∧ (wl (L.drop i)).length < cntT (fun _ => true) 6 ∧ ∃ c r, Odd c ∧ L = c :: r := by
    intro p e c q hL h1 h2 h3 h4 hc hr
    refine ⟨a.length, e, hi, hi2, by rw [hL, List.getElem?_append_left h4]; exact h1, ?_, ?_, by rw [hd]; exact h5, ?_⟩
    · rw [hL, List.take_append_of_le_length (by omega)]
      exact h2
    · refine Nat.lt_of_not_le fun hle => h3 ?_
      have h6 : L[a.length]? = p[a.length]? := by rw [hL, List.getElem?_append_left (by omega)]
      rw [hi] at h6
      exact List.mem_of_getElem? h6.symm
    · obtain ⟨r, hr⟩ := hr
      exact ⟨c, r ++ q, hc, by rw [hL, hr]; rfl⟩
  rcases Bool.or_eq_true_iff.1 hzz with h | h
  · obtain ⟨q, hq⟩ := pre_split h
    exact key _ 2 84 q hq rfl (by decide) (by decide) (by decide) odd84 ⟨_, rfl⟩
  · obtain ⟨q, hq⟩ := pre_split h
    exact key _ 7 67 q hq rfl (by decide) (by decide) (by decide) odd67 ⟨_, rfl⟩

/-- What the fields mean. -/
def rOf (t : Nat → Bool) (s : ByteArray) (k : Nat) : Option Nat := fieldK k (fullF t (wds s) k)
/-- The parse of the text itself. -/
theorem first_parse (o : Int) (w : World) (hv : Vars w) (hp : PlainT s) (ho : Opts o t) (h2 : bits .and .i64 o 2 = 0) (h128 : bits .and .i64 o 128 = 0) (hl : (wds s).length = cntT t 6) (hne : wds s ≠ []) :
    Calls Tryz.prog 25 #[.agg #[.int .i64 o], .string s] w fun e w' => RetS (rOf t s) e w' ∧ Below w.heap.size w w' := by
  obtain ⟨ha, hs, h64, hz⟩ := hp
  obtain ⟨z1, z2⟩ := Bool.or_eq_false_iff.1 hz
  have hs0 : 1 ≤ s.size := by
    refine Nat.pos_of_ne_zero fun h => hne ?_
    have h1 := congrArg List.length (wds_list s)
    rw [List.length_eq_zero_iff.1 ((size_list s).trans h)] at h1
    exact List.length_eq_zero_iff.1 (by rw [List.length_map] at h1; rw [h1]; rfl)
  exact parseG s o t w hv hs0 (by omega) (fun x hx => Nat.le_trans (wds_size hx) hs) ha (by rw [← ByteArray.toList_eq, ← ByteArray.toList_eq]; exact z1) (by rw [← ByteArray.toList_eq, ← ByteArray.toList_eq]; exact z2) (by rw [← ByteArray.toList_eq, ← ByteArray.toList_eq]; exact h64) ho h2 h128 hl hne
/-- The parse of its fields with the defaults, joined. -/
theorem second_parse (w : World) (hv : Vars w) (hlv : LocV w) (hp : PlainT s) (hl : (wds s).length = cntT t 6) :
    Calls Tryz.prog 25 #[.agg #[.int .i64 125], .string (six t s)] w fun e w' => RetS (rOf t s) e w' ∧ Below w.heap.size w w' := by
  obtain ⟨ha, hs, _, _⟩ := hp
  have hs6 := six_max (t := t) hs
  have ha6 := six_ascii hl ha
  have hl6 := six_len hl ha
  obtain ⟨c, r, hc⟩ := six_cons hl ha
  obtain ⟨_, hh, _⟩ := six_head hl ha
  have hs0 : 1 ≤ (six t s).size := by
    rw [← size_list, hh, hc]
    simp
  have ref : ∀ e w', fieldK 0 (fullF t (wds s) 0) = none → Refused e → RetS (rOf t s) e w' := fun e w' h1 h2 => .inr ⟨⟨0, by decide, h1⟩, h2⟩
  by_cases hz : zoned (six t s) = true
  · obtain ⟨i, e, h1, h2, h3, h4, h5, h6, c', r', ho, hcr⟩ := zone_places hl ha hz
    exact (parse_tz (six t s) i e 125 (fun _ => true) w hs6 ha6 hz h1 h2 h3 h4 h5 h6 opts_all (by decide +kernel) (by decide +kernel) (by decide +kernel) hlv).mono fun e w' h => ⟨ref _ _ (first_odd hl ha ho hcr) h.1, h.2⟩
  · rw [Bool.not_eq_true] at hz
    by_cases h64 : Lib.hasPrefix (six t s).toList (⟨#[64]⟩ : ByteArray).toList = true
    · obtain ⟨q, hq⟩ := pre_split h64
      rw [show (⟨#[64]⟩ : ByteArray).toList = [64] by rw [ByteArray.toList_eq]] at hq
      exact (parse_at (six t s) 125 w hs0 hz h64 (by decide +kernel)).mono fun e w' h => ⟨ref _ _ (first_odd hl ha odd64 hq) h.1, h.2⟩
    · rw [Bool.not_eq_true] at h64
      obtain ⟨z1, z2⟩ := Bool.or_eq_false_iff.1 hz
      refine (parseG (six t s) 125 (fun _ => true) w hv hs0 hs6 ?_ ha6 (by rw [← ByteArray.toList_eq, ← ByteArray.toList_eq]; exact z1) (by rw [← ByteArray.toList_eq, ← ByteArray.toList_eq]; exact z2) (by rw [← ByteArray.toList_eq, ← ByteArray.toList_eq]; exact h64) opts_all (by decide +kernel) (by decide +kernel) hl6 ?_).mono fun e w' h => ⟨retS_congr h.1 fun i hi => by rw [six_again hl ha hi]; rfl, h.2⟩
      · intro x hx
        rw [six_words hl ha] at hx
        obtain ⟨k, hk, rfl⟩ := List.mem_map.1 hx
        exact fullF_size t (wds s) k (fun x hx => Nat.le_trans (wds_size hx) hs)
      · rw [six_words hl ha]
        simp
end
theorem parsed_yes {r : Nat → Option Nat} {e : Ending} (h : ParsedAs r e) (hr : ∀ i, i < 6 → r i ≠ none) : e = .returned (.tuple #[.agg (schN fun i => (r i).getD 0), .bool true]) := by
  rcases h with ⟨n, h1, h2⟩ | ⟨⟨i, h1, h2⟩, _⟩
  · rw [h2]
    have e : ∀ i, i < 6 → n i = (r i).getD 0 := fun i hi => by rw [h1 i hi]; rfl
    simp only [schN, e 0 (by decide), e 1 (by decide), e 2 (by decide), e 3 (by decide), e 4 (by decide), e 5 (by decide)]
  · exact absurd h2 (hr i h1)
theorem parsed_no {r : Nat → Option Nat} {e : Ending} (h : ParsedAs r e) (hr : ∃ i, i < 6 ∧ r i = none) : e = .returned (.tuple #[.agg sch0, .bool false]) := by
  rcases h with ⟨n, h1, h2⟩ | ⟨_, h⟩
  · obtain ⟨i, h3, h4⟩ := hr
    rw [h1 i h3] at h4
    cases h4
  · exact h
theorem eql_sch (x0 x1 x2 x3 x4 x5 : Int) (w : World) : (binOp .eql 31 (.agg #[.bool false, .int .i64 0, .int .u64 x0, .int .u64 x1, .int .u64 x2, .int .u64 x3, .int .u64 x4, .int .u64 x5]) (.agg #[.bool false, .int .i64 0, .int .u64 x0, .int .u64 x1, .int .u64 x2, .int .u64 x3, .int .u64 x4, .int .u64 x5])).run Tryz.prog w = .ok (.bool true) w := by
  have hS : Tryz.prog.underlying 31 = some (.struct (Tryz.prog.fieldsOf 31)) := by kernel_rfl
  have hp : Tryz.prog.stoodInHeld 31 = false := by kernel_rfl
  rw [run_eql_struct, show (10000 : Nat) = 9999 + 1 from rfl, run_equalIn_agg w 9999 31 _ _ hS hp]
  simp only [Program.fieldsOf, Tryz.underlying31]
  go_simp
end Go.Proofs.YtomkhhpigpilfaaGreatDoor
