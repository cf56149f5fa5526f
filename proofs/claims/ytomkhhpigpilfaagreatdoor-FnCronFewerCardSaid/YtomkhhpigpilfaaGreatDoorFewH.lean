/- FnCronFewer's law in plain words: the fields filled in and joined are read again as they are; a first field that begins as a descriptor or a zone means nothing; the options. -/
import Derived.Test.YtomkhhpigpilfaaGreatDoorFewG
import Derived.Test.YtomkhhpigpilfaaGreatDoorParT
import Derived.Test.YtomkhhpigpilfaaGreatDoorImpC
set_option linter.unusedVariables false
set_option linter.unusedSimpArgs false
namespace Go.Proofs.YtomkhhpigpilfaaGreatDoor
open Go.RowKit

theorem joinL_snoc : ∀ (xs : List (List UInt8)) (x : List UInt8), xs ≠ [] → joinL (xs ++ [x]) = joinL xs ++ [32] ++ x
  | [], _, h => absurd rfl h
  | [y], x, _ => by simp [joinL]
  | y :: z :: r, x, _ => by
    have ih := joinL_snoc (z :: r) x (by simp)
    show y ++ 32 :: joinL ((z :: r) ++ [x]) = y ++ 32 :: joinL (z :: r) ++ [32] ++ x
    rw [ih]
    simp
theorem nil_list : (⟨#[]⟩ : ByteArray).toList = [] := by rw [ByteArray.toList_eq]
theorem joinB_list (f : Nat → ByteArray) : ∀ n, (joinB f n).toList = joinL ((List.range n).map fun i => (f i).toList)
  | 0 => nil_list
  | n + 1 => by
    rw [List.range_succ, List.map_append]
    by_cases h : n = 0
    · subst h
      show ((⟨#[]⟩ : ByteArray) ++ f 0).toList = _
      rw [app_list, nil_list]
      simp [joinL]
    · have e : joinB f (n + 1) = joinB f n ++ ⟨#[32]⟩ ++ f n := if_neg h
      rw [e, app_list, app_list, joinB_list f n, List.map_cons, List.map_nil, joinL_snoc _ _ (by simp; exact h)]
      rw [show (⟨#[32]⟩ : ByteArray).toList = [32] by rw [ByteArray.toList_eq]]
theorem joinB_max (f : Nat → ByteArray) (m : Nat) : ∀ k, (∀ i, i < k → (f i).size ≤ m) → (joinB f k).size ≤ k * (m + 1)
  | 0, _ => Nat.zero_le _
  | k + 1, h => by
    have h1 := joinB_max f m k (fun i hi => h i (by omega))
    have h2 := h k (by omega)
    rw [Nat.succ_mul]
    unfold joinB
    split
    · rename_i e
      subst e
      rw [ByteArray.size_append]
      have : (⟨#[]⟩ : ByteArray).size = 0 := rfl
      omega
    · rw [ByteArray.size_append, ByteArray.size_append]
      have : (⟨#[32]⟩ : ByteArray).size = 1 := rfl
      omega
theorem joinL_mem : ∀ (xs : List (List UInt8)) (b : UInt8), b ∈ joinL xs → b = 32 ∨ ∃ x ∈ xs, b ∈ x
  | [], b, h => by simp [joinL] at h
  | [x], b, h => .inr ⟨x, by simp, h⟩
  | x :: y :: r, b, h => by
    have h' : b ∈ x ++ 32 :: joinL (y :: r) := h
    rcases List.mem_append.1 h' with h1 | h1
    · exact .inr ⟨x, by simp, h1⟩
    · rcases List.mem_cons.1 h1 with h2 | h2
      · exact .inl h2
      · rcases joinL_mem (y :: r) b h2 with h3 | ⟨z, hz, h3⟩
        · exact .inl h3
        · exact .inr ⟨z, List.mem_cons_of_mem _ hz, h3⟩
theorem ascii_list {s : ByteArray} : ascii s ↔ ∀ b ∈ s.toList, b.toNat < 128 := by
  constructor
  · intro h b hb
    obtain ⟨k, hk, rfl⟩ := List.getElem_of_mem hb
    rw [size_list] at hk
    have := at_list s k hk
    rw [List.getElem?_eq_getElem (by rw [size_list]; exact hk)] at this
    rw [Option.some.inj this]
    exact h k hk
  · intro h k hk
    exact h _ (List.mem_of_getElem? (at_list s k hk))
theorem wds_word {s x : ByteArray} (h : x ∈ wds s) : Word x.toList ∧ ∀ b ∈ x.toList, b ∈ s.toList := by
  refine wl_good ?_
  rw [← wds_list]
  exact List.mem_map.2 ⟨x, h, rfl⟩
theorem dfl_word (k : Nat) : Word (dfl k).toList ∧ ∀ b ∈ (dfl k).toList, b.toNat < 128 := by
  unfold dfl
  split
  · rw [show (⟨#[48]⟩ : ByteArray).toList = [48] by rw [ByteArray.toList_eq]]
    refine ⟨⟨by simp, fun b hb => ?_⟩, fun b hb => ?_⟩ <;> (rw [List.mem_singleton.1 hb]; decide)
  · rw [show (⟨#[42]⟩ : ByteArray).toList = [42] by rw [ByteArray.toList_eq]]
    refine ⟨⟨by simp, fun b hb => ?_⟩, fun b hb => ?_⟩ <;> (rw [List.mem_singleton.1 hb]; decide)

section
variable {t : Nat → Bool} {s : ByteArray}
theorem full_word (hl : (wds s).length = cntT t 6) (ha : ascii s) {k : Nat} (hk : k < 6) : Word (fullF t (wds s) k).toList ∧ ∀ b ∈ (fullF t (wds s) k).toList, b.toNat < 128 := by
  unfold fullF
  split
  · rename_i ht
    have hlt : cntT t k < (wds s).length := by
      have h1 := cntT_mono t (show k + 1 ≤ 6 by omega)
      rw [cntT_yes ht] at h1
      omega
    rw [List.getD_eq_getElem?_getD, List.getElem?_eq_getElem hlt]
    obtain ⟨h1, h2⟩ := wds_word (List.getElem_mem hlt)
    exact ⟨h1, fun b hb => ascii_list.1 ha b (h2 b hb)⟩
  · exact dfl_word k
/-- The six fields, joined. -/
def six (t : Nat → Bool) (s : ByteArray) : ByteArray := joinB (fullF t (wds s)) 6
theorem six_list : (six t s).toList = joinL ((List.range 6).map fun i => (fullF t (wds s) i).toList) := joinB_list _ 6
theorem six_words (hl : (wds s).length = cntT t 6) (ha : ascii s) : wds (six t s) = (List.range 6).map (fullF t (wds s)) := by
  have h1 : (wds (six t s)).map (·.toList) = ((List.range 6).map (fullF t (wds s))).map (·.toList) := by
    rw [wds_list, six_list, List.map_map]
    exact wl_join _ (fun x hx => by
      obtain ⟨k, hk, rfl⟩ := List.mem_map.1 hx
      exact (full_word hl ha (List.mem_range.1 hk)).1)
  have inj : ∀ (a b : List ByteArray), a.map (·.toList) = b.map (·.toList) → a = b := by
    intro a
    induction a with
    | nil => intro b h; cases b with
      | nil => rfl
      | cons y r => simp at h
    | cons x q ih => intro b h; cases b with
      | nil => simp at h
      | cons y r =>
        simp only [List.map_cons, List.cons.injEq] at h
        rw [bytes_inj h.1, ih r h.2]
  exact inj _ _ h1
theorem six_ascii (hl : (wds s).length = cntT t 6) (ha : ascii s) : ascii (six t s) := by
  refine ascii_list.2 fun b hb => ?_
  rw [six_list] at hb
  rcases joinL_mem _ b hb with rfl | ⟨x, hx, hb⟩
  · decide
  · obtain ⟨k, hk, rfl⟩ := List.mem_map.1 hx
    exact (full_word hl ha (List.mem_range.1 hk)).2 b hb
theorem six_max (hz : s.size ≤ 65536) : (six t s).size ≤ 400000 := by
  have := joinB_max (fullF t (wds s)) 65536 6 (fun i _ => fullF_size t (wds s) i (fun x hx => Nat.le_trans (wds_size hx) hz))
  unfold six
  omega
theorem cnt_all : ∀ k, cntT (fun _ => true) k = k
  | 0 => rfl
  | k + 1 => by rw [cntT_yes rfl, cnt_all k]
theorem six_len (hl : (wds s).length = cntT t 6) (ha : ascii s) : (wds (six t s)).length = cntT (fun _ => true) 6 := by
  rw [six_words hl ha, cnt_all]
  simp
theorem six_again (hl : (wds s).length = cntT t 6) (ha : ascii s) {k : Nat} (hk : k < 6) : fullF (fun _ => true) (wds (six t s)) k = fullF t (wds s) k := by
  have e : fullF (fun _ => true) (wds (six t s)) k = (wds (six t s)).getD (cntT (fun _ => true) k) ⟨#[]⟩ := if_pos rfl
  rw [e, six_words hl ha, cnt_all, List.getD_eq_getElem?_getD, List.getElem?_map, List.getElem?_range hk]
  rfl
theorem six_head (hl : (wds s).length = cntT t 6) (ha : ascii s) : ∃ rest, (six t s).toList = (fullF t (wds s) 0).toList ++ 32 :: joinL ((List.range' 1 5).map fun i => (fullF t (wds s) i).toList) ∧ rest = () := by
  refine ⟨(), ?_, rfl⟩
  rw [six_list]
  rfl
end

/-- A field whose first byte can begin no item. -/
def Odd (c : UInt8) : Prop := c ≠ 44 ∧ c ≠ 47 ∧ c ≠ 45 ∧ c ≠ 43 ∧ c ≠ 42 ∧ c ≠ 63 ∧ isDig c = false
theorem cut_first (d c : UInt8) (h : c ≠ d) : ∀ r : List UInt8, ∃ h' q, cut d (c :: r) = (c :: h') :: q := by
  intro r
  rw [cut_other d c r h]
  cases e : cut d r with
  | nil => exact absurd e (cut_ne d r)
  | cons p t => exact ⟨p, t, rfl⟩
theorem inum_odd {c : UInt8} (h : Odd c) (r : List UInt8) : inum (c :: r) = none := by
  refine num_bad ?_
  have hb : numBody (c :: r) = (c :: r, 1) := by rw [body_cons, if_neg h.2.2.2.1, if_neg (fun e => h.2.2.1 e.1)]
  unfold numR
  rw [hb]
  have hd : digs (c :: r) = false := by
    cases hq : digs (c :: r) with
    | false => rfl
    | true =>
      have := (digs_parts hq).2
      rw [List.all_cons, h.2.2.2.2.2.2] at this
      cases this
  simp only [hd, Bool.false_eq_true, if_false]
theorem item_odd {c : UInt8} (h : Odd c) (r : List UInt8) : itemK 0 (c :: r) = none := by
  obtain ⟨h1, q1, e1⟩ := cut_first 47 c h.2.1 r
  obtain ⟨h2, q2, e2⟩ := cut_first 45 c h.2.2.1 h1
  unfold itemK
  refine item_none e1 ?_
  rw [e2]
  refine ends_none ?_ ?_
  · unfold starT
    have a1 : ((c :: h2 : List UInt8) == [42]) = false := by
      rw [beq_eq_false_iff_ne]
      intro e
      injection e with e _
      exact h.2.2.2.2.1 e
    have a2 : ((c :: h2 : List UInt8) == [63]) = false := by
      rw [beq_eq_false_iff_ne]
      intro e
      injection e with e _
      exact h.2.2.2.2.2.1 e
    rw [a1, a2]
    decide
  · rw [ival_plain (by decide)]
    exact inum_odd h h2
theorem spans_first (p : Nat → Bool) (s : ByteArray) : ∀ f : Nat,
    (∀ (pos a : Nat) (acc : List (Nat × Nat)), pos ≤ s.size → ∃ q t, Lib.closeSpans s (Lib.spansFromP p s f pos (some a) acc) = acc ++ (a, q) :: t ∧ pos ≤ q) ∧
    (∀ (pos : Nat) (acc : List (Nat × Nat)), ∃ t, Lib.closeSpans s (Lib.spansFromP p s f pos none acc) = acc ++ t)
  | 0 => ⟨fun pos a acc h => ⟨s.size, [], rfl, h⟩, fun pos acc => ⟨[], by rw [List.append_nil]; rfl⟩⟩
  | f + 1 => by
    obtain ⟨i1, i2⟩ := spans_first p s f
    constructor
    · intro pos a acc h
      by_cases hp : pos < s.size
      · by_cases hq : p (Utf8.decode s pos).1 = true
        · simp only [Lib.spansFromP, hp, hq, if_true]
          obtain ⟨t, ht⟩ := i2 (pos + (Utf8.decode s pos).2) (acc ++ [(a, pos)])
          exact ⟨pos, t, by rw [ht]; simp, Nat.le_refl _⟩
        · simp only [Lib.spansFromP, hp, if_true, if_neg hq]
          by_cases hs : pos + (Utf8.decode s pos).2 ≤ s.size
          · obtain ⟨q, t, ht, hle⟩ := i1 (pos + (Utf8.decode s pos).2) a acc hs
            exact ⟨q, t, ht, by omega⟩
          · rw [Lib.spansFromP_end p s f _ (some a) acc (by omega)]
            exact ⟨s.size, [], rfl, h⟩
      · rw [Lib.spansFromP_end p s (f + 1) pos (some a) acc hp]
        exact ⟨s.size, [], rfl, h⟩
    · intro pos acc
      by_cases hp : pos < s.size
      · by_cases hq : p (Utf8.decode s pos).1 = true
        · simp only [Lib.spansFromP, hp, hq, if_true]
          exact i2 _ acc
        · simp only [Lib.spansFromP, hp, if_true, if_neg hq]
          by_cases hs : pos + (Utf8.decode s pos).2 ≤ s.size
          · obtain ⟨q, t, ht, hle⟩ := i1 (pos + (Utf8.decode s pos).2) pos acc hs
            exact ⟨_, ht⟩
          · rw [Lib.spansFromP_end p s f _ (some pos) acc (by omega)]
            exact ⟨_, rfl⟩
      · rw [Lib.spansFromP_end p s (f + 1) pos none acc hp]
        exact ⟨[], by rw [List.append_nil]; rfl⟩
theorem field_odd {c : UInt8} (h : Odd c) (s : ByteArray) (ha : ascii s) (r : List UInt8) (hs : s.toList = c :: r) : fieldK 0 s = none := by
  have hz : 0 < s.size := by rw [← size_list, hs]; simp
  have h0 : s[0] = c := by
    have := at_list s 0 hz
    rw [hs] at this
    exact (Option.some.inj this).symm
  obtain ⟨n, hn⟩ : ∃ n, s.size = n + 1 := ⟨s.size - 1, by omega⟩
  have hd := decode_ascii s 0 hz (ha 0 hz)
  have hp : isComma (s[0]'hz).toNat = false := by
    unfold isComma
    rw [beq_eq_false_iff_ne, h0]
    intro e
    exact h.1 (UInt8.toNat_inj.1 (by rw [e]; rfl))
  obtain ⟨q, t, ht, hle⟩ := (spans_first isComma s n).1 1 0 [] (by omega)
  have e : Lib.spansOfP isComma s = (0, q) :: t := by
    unfold Lib.spansOfP
    rw [hn]
    simp only [Lib.spansFromP, hz, if_true, hd, hp, Bool.false_eq_true, if_false]
    rw [Nat.zero_add]
    exact ht
  unfold fieldK partsC Lib.goFieldsP
  rw [e, List.map_cons, List.map_cons]
  have e2 : (s.extract 0 q).toList = c :: r.take (q - 1) := by
    rw [ext_list, hs, List.drop_zero, Nat.sub_zero]
    obtain ⟨m, rfl⟩ : ∃ m, q = m + 1 := ⟨q - 1, by omega⟩
    rfl
  rw [e2]
  exact fieldI_no _ 0 (item_odd h _)

/-- The options that take any of the fields and have none that may be left away. -/
def optOk (o : Nat) : Bool := (bits .and .i64 (o : Int) 130 != 0) || (bits .and .i64 (o : Int) 2 == 0 && bits .and .i64 (o : Int) 128 == 0 && bits .and .i64 (o : Int) 256 == 0 && (List.range 6).all fun k => (bits .and .i64 (o : Int) (pl k) == 0 || bits .and .i64 (o : Int) (pl k) == pl k) && bits .and .i64 (o : Int) (pl2 k) == bits .and .i64 (o : Int) (pl k))
theorem opt_all : (List.range 256).all optOk = true := by decide +kernel
theorem opts_of (o : Int) (h0 : 0 ≤ o) (h1 : o < 256) (h : bits .and .i64 o 130 = 0) : bits .and .i64 o 2 = 0 ∧ bits .and .i64 o 128 = 0 ∧ bits .and .i64 o 256 = 0 ∧ ∃ t, Opts o t ∧ Opts2 o t := by
  obtain ⟨n, rfl⟩ := Int.eq_ofNat_of_zero_le h0
  have hh := List.all_eq_true.1 opt_all n (List.mem_range.2 (by omega))
  unfold optOk at hh
  rw [h] at hh
  simp only [bne_self_eq_false, Bool.false_or, Bool.and_eq_true, beq_iff_eq, List.all_eq_true, Bool.or_eq_true] at hh
  obtain ⟨⟨⟨a, b⟩, c⟩, d⟩ := hh
  refine ⟨a, b, c, fun k => decide (bits .and .i64 (n : Int) (pl k) ≠ 0), fun k hk => ?_, fun k hk => ?_⟩
  · obtain ⟨d1, _⟩ := d k (List.mem_range.2 hk)
    show bits .and .i64 (n : Int) (pl k) = if decide (bits .and .i64 (n : Int) (pl k) ≠ 0) = true then pl k else 0
    by_cases e : bits .and .i64 (n : Int) (pl k) = 0
    · rw [decide_eq_false (fun h => h e), if_neg (by decide)]
      exact e
    · rw [decide_eq_true e, if_pos rfl]
      exact d1.resolve_left e
  · obtain ⟨d1, d2⟩ := d k (List.mem_range.2 hk)
    rw [d2]
    show bits .and .i64 (n : Int) (pl k) = if decide (bits .and .i64 (n : Int) (pl k) ≠ 0) = true then pl k else 0
    by_cases e : bits .and .i64 (n : Int) (pl k) = 0
    · rw [decide_eq_false (fun h => h e), if_neg (by decide)]
      exact e
    · rw [decide_eq_true e, if_pos rfl]
      exact d1.resolve_left e
theorem opts_all : Opts 125 (fun _ => true) := by
  intro k hk
  match k, hk with
  | 0, _ | 1, _ | 2, _ | 3, _ | 4, _ | 5, _ => decide +kernel
  | k + 6, h => omega
end Go.Proofs.YtomkhhpigpilfaaGreatDoor
