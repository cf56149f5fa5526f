/- parseIntOrName, whatever the text: by the table of names, or by the number. Walked. -/
import Derived.Test.YtomkhhpigpilfaaGreatDoorMust
set_option linter.unusedVariables false
set_option linter.unusedSimpArgs false
namespace Go.Proofs.YtomkhhpigpilfaaGreatDoor
open Go.RowKit

theorem low_R (R : Nat) (h : R < 128) : lowR R = [lowB (UInt8.ofNat R)] := by
  have hn : (UInt8.ofNat R).toNat = R := by rw [UInt8.toNat_ofNat']; omega
  unfold lowR lowB
  rw [hn]
  split
  · rfl
  · rw [if_neg (by omega), if_neg (by omega)]
    have hv : Utf8.valid (R : Int) = true := by unfold Utf8.valid; simp; omega
    unfold Utf8.encode
    simp only [hv, if_true]
    rw [if_pos (by omega)]
    rfl
theorem low_from (s : ByteArray) (h : foreign s.toList = false) : ∀ f pos : Nat, s.size ≤ pos + f → pos ≤ s.size → lowFrom s f pos = (s.toList.drop pos).map lowB
  | 0, pos, h1, h2 => by
    rw [List.drop_eq_nil_of_le (by rw [size_list]; omega)]; rfl
  | f + 1, pos, h1, h2 => by
    by_cases hps : pos < s.size
    · have hc : ¬ 128 ≤ (s[pos]'hps).toNat := fun hc => List.any_eq_false.1 h _ (List.mem_of_getElem? (at_list s pos hps)) (decide_eq_true hc)
      have hd := decode_ascii s pos hps (by omega)
      simp only [lowFrom, hps, if_true, hd]
      rw [low_R _ (by omega), low_from s h f (pos + 1) (by omega) (by omega), drop_list s pos hps, UInt8.ofNat_toNat]
      rfl
    · rw [List.drop_eq_nil_of_le (by rw [size_list]; omega)]
      simp [lowFrom, hps]
/-- The small letters of a text. -/
def lwL (l : List UInt8) : List UInt8 := (low ⟨l.toArray⟩).toList
theorem back_list (s : ByteArray) : (⟨s.toList.toArray⟩ : ByteArray) = s := by apply bytes_inj; rw [ByteArray.toList_eq]
theorem mk_list (l : List UInt8) : (⟨l.toArray⟩ : ByteArray).toList = l := by rw [ByteArray.toList_eq]
theorem lwL_of (s : ByteArray) : lwL s.toList = (low s).toList := by unfold lwL; rw [back_list]
theorem lwL_ascii (l : List UInt8) (h : foreign l = false) : lwL l = l.map lowB := by
  have := low_from ⟨l.toArray⟩ (by rw [mk_list]; exact h) (⟨l.toArray⟩ : ByteArray).size 0 (by omega) (by omega)
  unfold lwL low
  rw [mk_list, this, List.drop_zero, mk_list]

/-- A map that holds a table. -/
def Tabled (es : Array MapEntry) (t : List (List UInt8 × Nat)) : Prop := es.toList.map (fun e => (e.key, e.val)) = t.map fun p => (Value.string ⟨p.1.toArray⟩, Value.int .u64 (p.2 : Nat))
theorem run_lookup_tab (W : World) (b : Nat) (es : Array MapEntry) (n : Nat) (key : ByteArray) (t : List (List UInt8 × Nat)) (hz : key.size ≤ maxLen) (hb : W.heap[b]? = some (.map es n)) (hes : Tabled es t)
    (hfun : ∀ p ∈ t, ∀ q ∈ t, p.1 = q.1 → p.2 = q.2) (hk : ∀ p ∈ t, p.1.length ≤ 3) :
    (Instr.lookup 98 (.map (some b)) (.string key) true).run Tryz.prog W = .ok (match nameIn t key.toList with | some v => .tuple #[.int .u64 (v : Nat), .bool true] | none => .tuple #[.int .u64 0, .bool false]) W := by
  have law := WideMaps.string_law (P := Tryz.prog) (k := 9) Tryz.underlying9
  have hx := WideMaps.keyOf_string_mk (P := Tryz.prog) (k := 9) Tryz.underlying9 hz
  have h1 := law.check W es.isEmpty hx
  have h3 : (zeroValue 97).run Tryz.prog W = .ok (.int .u64 0) W := by kernel_rfl
  have hg := get_map W b es n hb
  have mem : ∀ e ∈ es.toList, ∃ p ∈ t, e.key = .string ⟨p.1.toArray⟩ ∧ e.val = .int .u64 (p.2 : Nat) := fun e he => by
    have : (e.key, e.val) ∈ es.toList.map (fun e => (e.key, e.val)) := List.mem_map_of_mem he
    rw [hes] at this
    obtain ⟨p, hp, hq⟩ := List.mem_map.1 this
    injection hq with q1 q2
    exact ⟨p, hp, q1.symm, q2.symm⟩
  have back : ∀ p ∈ t, ∃ e ∈ es.toList, e.key = .string ⟨p.1.toArray⟩ := fun p hp => by
    have : (Value.string ⟨p.1.toArray⟩, Value.int .u64 (p.2 : Nat)) ∈ t.map (fun p => (Value.string ⟨p.1.toArray⟩, Value.int .u64 (p.2 : Nat))) := List.mem_map_of_mem (f := fun p : List UInt8 × Nat => (Value.string ⟨p.1.toArray⟩, Value.int .u64 (p.2 : Nat))) hp
    rw [← hes] at this
    obtain ⟨e, he, hq⟩ := List.mem_map.1 this
    injection hq with q1 q2
    exact ⟨e, he, q1⟩
  rcases law.find W hx es.toList (fun e he => by
    obtain ⟨p, hp, h, _⟩ := mem e he
    rw [h]
    exact ⟨_, WideMaps.keyOf_string_mk Tryz.underlying9 (by
      have := hk p hp
      show p.1.length ≤ maxLen
      unfold maxLen
      omega)⟩) with ⟨h2, hn⟩ | ⟨j, e, h2, he, hke⟩
  · have hnone : nameIn t key.toList = none := by
      rcases hv : nameIn t key.toList with _ | v
      · rfl
      · obtain ⟨e, he, hk⟩ := back _ (name_mem hv)
        exact absurd (by rw [hk]; exact congrArg Value.string (back_list key)) (hn e he)
    rw [hnone]
    simp [Instr.lookup, hg, run_underlying Tryz.underlying98, getObj, hb, Sem.run_bind, h1, h2, h3]
  · obtain ⟨p, hp, q1, q2⟩ := mem e (List.mem_of_getElem? he)
    have hkey : key.toList = p.1 := by
      rw [hke] at q1
      rw [Value.string.inj q1, mk_list]
    have hsome : nameIn t key.toList = some p.2 := by
      rcases hv : nameIn t key.toList with _ | v
      · exfalso
        unfold nameIn at hv
        rw [Option.map_eq_none_iff, List.find?_eq_none] at hv
        exact hv p hp (by rw [hkey]; exact beq_self_eq_true _)
      · rw [hfun p hp _ (name_mem hv) hkey.symm]
    rw [hsome]
    rw [q2] at h2
    simp [Instr.lookup, hg, run_underlying Tryz.underlying98, getObj, hb, Sem.run_bind, h1, h2, h3]

theorem valN_nil (s : ByteArray) (hs : s.size ≤ 65536) (w : World) (hv : Vars w) : Calls Tryz.prog 89 #[.string s, .map none] w fun e w' => RetN e (inum s.toList) ∧ Below w.heap.size w w' := by
  have qT : ∀ (w : World) (r : Option Nat), (binOp .neq 98 (.map r) (.map none)).run Tryz.prog w = .ok (.bool (!r.isNone)) w := fun w r => run_neq_map_nil w _ _ _ r Tryz.underlying98
  have C := hid (mustN_any s hs w hv)
  go_enter Tryz.func89, Tryz.ntmps89
  rcases hi : inum s.toList with _ | n <;> rw [hi] at C
  · go_wp2_with (go_at_call 90; refine C.out.mono ?_; rintro e w' ⟨⟨n, h, _⟩ | ⟨_, t, p, rfl⟩, hb⟩; (exact absurd h (by simp)); replace hb := hid hb)
    go_returns
    exact ⟨.inr ⟨rfl, _, _, rfl⟩, hb.out⟩
  · go_wp2_with (go_at_call 90; refine C.out.mono ?_; rintro e w' ⟨⟨m, h, rfl⟩ | ⟨h, _⟩, hb⟩; rotate_left; (exact absurd h (by simp)); obtain rfl := Option.some.inj h; replace hb := hid hb)
    go_returns
    exact ⟨.inl ⟨_, rfl, rfl⟩, hb.out⟩

def MapAt (b : Nat) (es : Array MapEntry) (c : Nat) (w : World) : Prop := w.heap[b]? = some (.map es c)
theorem kept_map (b : Nat) (es : Array MapEntry) (c : Nat) : Kept (MapAt b es c) := fun w w' h hb => (hb.block b (Array.getElem?_eq_some_iff.1 h).1).trans h
theorem low_size (s : ByteArray) : ∀ f pos : Nat, (lowFrom s f pos).length ≤ 4 * f
  | 0, pos => by simp [lowFrom]
  | f + 1, pos => by
    unfold lowFrom
    split
    · rw [List.length_append]
      have := lowR_len (Utf8.decode s pos).1
      have := low_size s f (pos + (Utf8.decode s pos).2)
      omega
    · simp
theorem valN_map (k : Nat) (s : ByteArray) (hs : s.size ≤ 65536) (b : Nat) (es : Array MapEntry) (c : Nat) (hes : Tabled es (nm k)) (hfun : ∀ p ∈ nm k, ∀ q ∈ nm k, p.1 = q.1 → p.2 = q.2) (hk : ∀ p ∈ nm k, p.1.length ≤ 3) (w : World) (hv : Vars w) (hm : MapAt b es c w) :
    Calls Tryz.prog 89 #[.string s, .map (some b)] w fun e w' => RetN e (ival k lwL s.toList) ∧ Below w.heap.size w w' := by
  have qT : ∀ (w : World) (r : Option Nat), (binOp .neq 98 (.map r) (.map none)).run Tryz.prog w = .ok (.bool (!r.isNone)) w := fun w r => run_neq_map_nil w _ _ _ r Tryz.underlying98
  have C := hid (fun w hv => mustN_any s hs w hv)
  have HM := hid hm
  have HV := hid hv
  have CL := hid (fun w => lower_any s w hs)
  have HL := hid (fun W (hb : W.heap[b]? = some (.map es c)) => run_lookup_tab W b es c (low s) (nm k) (by
    have h := low_size s s.size 0
    show (lowFrom s s.size 0).toArray.size ≤ maxLen
    rw [List.size_toArray]
    unfold maxLen
    omega) hb hes hfun hk)
  have hi : ival k lwL s.toList = match nameIn (nm k) (low s).toList with | some v => some v | none => inum s.toList := by unfold ival; rw [lwL_of]; rfl
  rw [hi]
  have hw0 := hm
  clear hes hfun hk hv hm hi
  rcases hn : nameIn (nm k) (low s).toList with _ | v <;> rw [hn] at HL
  · rcases hi : inum s.toList with _ | n <;> rw [hi] at C
    · go_enter Tryz.func89, Tryz.ntmps89
      go_wp2_with (first
        | (go_at_call 99; refine (CL.out _).mono ?_; rintro e w1 ⟨rfl, hb⟩; have hlk := HL.out w1 (kept_map _ _ _ _ _ HM.out hb); have HV1 := hid (vars_kept _ _ HV.out hb); replace hb := hid hb)
        | (go_at_call 90; refine (C.out _ HV1.out).mono ?_; rintro e w' ⟨⟨n, h, _⟩ | ⟨_, t, p, rfl⟩, hb2⟩; (exact absurd h (by simp)); replace hb2 := hid hb2))
      go_returns
      exact ⟨.inr ⟨rfl, _, _, rfl⟩, bt hb.out hb2.out⟩
    · go_enter Tryz.func89, Tryz.ntmps89
      go_wp2_with (first
        | (go_at_call 99; refine (CL.out _).mono ?_; rintro e w1 ⟨rfl, hb⟩; have hlk := HL.out w1 (kept_map _ _ _ _ _ HM.out hb); have HV1 := hid (vars_kept _ _ HV.out hb); replace hb := hid hb)
        | (go_at_call 90; refine (C.out _ HV1.out).mono ?_; rintro e w' ⟨⟨m, h, rfl⟩ | ⟨h, _⟩, hb2⟩; rotate_left; (exact absurd h (by simp)); obtain rfl := Option.some.inj h; replace hb2 := hid hb2))
      go_returns
      exact ⟨.inl ⟨_, rfl, rfl⟩, bt hb.out hb2.out⟩
  · go_enter Tryz.func89, Tryz.ntmps89
    go_wp2_with (go_at_call 99; refine (CL.out _).mono ?_; rintro e w1 ⟨rfl, hb⟩; have hlk := HL.out w1 (kept_map _ _ _ _ _ HM.out hb); replace hb := hid hb)
    go_returns
    exact ⟨.inl ⟨_, rfl, rfl⟩, hb.out⟩
theorem tab_months : Tabled monthsE (nm 4) := by unfold Tabled; kernel_rfl
theorem tab_dow : Tabled dowE (nm 5) := by unfold Tabled; kernel_rfl
theorem nm_fun (k : Nat) (h : k = 4 ∨ k = 5) : (∀ p ∈ nm k, ∀ q ∈ nm k, p.1 = q.1 → p.2 = q.2) ∧ ∀ p ∈ nm k, p.1.length ≤ 3 := by
  rcases h with rfl | rfl
  · exact ⟨by decide +kernel, by decide +kernel⟩
  · exact ⟨by decide +kernel, by decide +kernel⟩
end Go.Proofs.YtomkhhpigpilfaaGreatDoor
