/- The law FnCronStepAsList: a range with a step is the list of its values. Walked and joined. -/
import Derived.Test.YtcaabeocflfboaaDoorBounds
set_option linter.unusedVariables false
set_option linter.unusedSimpArgs false
namespace Go.Proofs.YtcaabeocflfboaaDoor
open Go.RowKit

/-! ### In plain words -/
/-- The texts with commas between them, up to the i-th. -/
def jn (xs : List ByteArray) : Nat → ByteArray
  | 0 => ⟨#[]⟩
  | i + 1 => (if 0 < i then jn xs i ++ ⟨#[44]⟩ else jn xs i) ++ xs.getD i ⟨#[]⟩
theorem mk_list (a : Array UInt8) : (⟨a⟩ : ByteArray).toList = a.toList := by rw [ByteArray.toList_eq]
theorem comma_list : (⟨#[44]⟩ : ByteArray).toList = [44] := mk_list _
theorem cut_join (c : UInt8) (r : List UInt8) : ∀ l : List UInt8, cut c (l ++ c :: r) = cut c l ++ cut c r
  | [] => by simp [cut]
  | x :: l => by
    have ih := cut_join c r l
    show cut c (x :: (l ++ c :: r)) = cut c (x :: l) ++ cut c r
    by_cases h : x = c
    · rw [h, cut_same, cut_same, ih]; rfl
    · rw [cut_other c x _ h, cut_other c x _ h, ih]
      cases e : cut c l with
      | nil => exact absurd e (cut_ne c l)
      | cons p t => rfl
theorem jn_cut (xs : List ByteArray) (hc : ∀ x ∈ xs, (44 : UInt8) ∉ x.toList) : ∀ i, i + 1 ≤ xs.length → cut 44 (jn xs (i + 1)).toList = (xs.take (i + 1)).map (·.toList) := by
  intro i
  induction i with
  | zero =>
    intro h
    match xs, h with
    | x :: t, _ =>
      show cut 44 ((⟨#[]⟩ : ByteArray) ++ x).toList = [x.toList]
      rw [app_list, mk_list, show #[].toList ++ x.toList = x.toList from rfl]
      exact cut_none 44 _ (hc x (List.mem_cons_self ..))
  | succ i ih =>
    intro h
    have hi : i + 1 < xs.length := by omega
    have hg : xs.getD (i + 1) ⟨#[]⟩ = xs[i + 1] := by simp [List.getD, hi]
    have e : jn xs (i + 1 + 1) = jn xs (i + 1) ++ ⟨#[44]⟩ ++ xs[i + 1] := by
      show (if 0 < i + 1 then jn xs (i + 1) ++ ⟨#[44]⟩ else jn xs (i + 1)) ++ xs.getD (i + 1) ⟨#[]⟩ = _
      rw [if_pos (by omega), hg]
    rw [e, app_list, app_list, comma_list, List.append_assoc, show [44] ++ xs[i + 1].toList = 44 :: xs[i + 1].toList from rfl, cut_join, ih (by omega), cut_none 44 _ (hc _ (List.getElem_mem hi)), List.take_succ_eq_append_getElem hi, List.map_append]
    rfl
theorem jn_size (xs : List ByteArray) (hz : ∀ x ∈ xs, x.size ≤ 20) : ∀ i, i ≤ xs.length → (jn xs i).size ≤ 21 * i := by
  intro i
  induction i with
  | zero => intro _; exact Nat.le_refl _
  | succ i ih =>
    intro h
    have hi : i < xs.length := by omega
    have hg : xs.getD i ⟨#[]⟩ = xs[i] := by simp [List.getD, hi]
    have h1 := ih (by omega)
    have h2 := hz _ (List.getElem_mem hi)
    show ((if 0 < i then jn xs i ++ ⟨#[44]⟩ else jn xs i) ++ xs.getD i ⟨#[]⟩).size ≤ _
    rw [ByteArray.size_append, hg]
    split
    · rw [ByteArray.size_append]; show (jn xs i).size + 1 + _ ≤ _; omega
    · omega
theorem jn_ascii (xs : List ByteArray) (ha : ∀ x ∈ xs, x.toList.all (fun b => decide (b.toNat < 128)) = true) : ∀ i, i ≤ xs.length → (jn xs i).toList.all (fun b => decide (b.toNat < 128)) = true := by
  intro i
  induction i with
  | zero => intro _; show (⟨#[]⟩ : ByteArray).toList.all _ = true; rw [mk_list]; rfl
  | succ i ih =>
    intro h
    have hi : i < xs.length := by omega
    have hg : xs.getD i ⟨#[]⟩ = xs[i] := by simp [List.getD, hi]
    show ((if 0 < i then jn xs i ++ ⟨#[44]⟩ else jn xs i) ++ xs.getD i ⟨#[]⟩).toList.all _ = true
    rw [app_list, List.all_append, hg, ha _ (List.getElem_mem hi), Bool.and_true]
    split
    · rw [app_list, List.all_append, ih (by omega), mk_list]; rfl
    · exact ih (by omega)
theorem ascii_of {s : ByteArray} (h : s.toList.all (fun b => decide (b.toNat < 128)) = true) : ascii s := fun k hk => by
  have := List.all_eq_true.1 h _ (List.mem_of_getElem? (at_list s k hk))
  simpa using this
theorem dig_ascii {l : List UInt8} (h : l.all isDig = true) : l.all (fun b => decide (b.toNat < 128)) = true := by
  rw [List.all_eq_true] at h ⊢
  intro b hb
  have := h b hb
  simp only [isDig, decide_eq_true_eq] at this ⊢
  omega
theorem dec_free (c : UInt8) (hc : isDig c = false) (n : Nat) : c ∉ (dec n).toList := by
  intro hm
  rw [dec_list] at hm
  have := List.all_eq_true.1 (dec_digits n).1 c hm
  rw [hc] at this; cases this
theorem dec_not (c : UInt8) (hc : isDig c = false) (n : Nat) : ((dec n).toList == [c]) = false := by
  rw [beq_eq_false_iff_ne]
  intro e
  exact dec_free c hc n (by rw [e]; simp)
theorem dec_inj {a b : Nat} (h : (dec a).toList = (dec b).toList) : a = b := by
  rw [dec_list, dec_list] at h
  have := congrArg val h
  rwa [(dec_digits a).2.2, (dec_digits b).2.2] at this

/-- The values lo, lo + st, .. : m of them, as texts. -/
def vl (lo st m : Nat) : List ByteArray := (List.range m).map fun i => dec (lo + i * st)
theorem vl_len (lo st m : Nat) : (vl lo st m).length = m := by simp [vl]
theorem vl_succ (lo st m : Nat) : vl lo st (m + 1) = vl lo st m ++ [dec (lo + m * st)] := by simp [vl, List.range_succ]
theorem vl_mem {lo st m : Nat} {x : ByteArray} (h : x ∈ vl lo st m) : ∃ i, i < m ∧ x = dec (lo + i * st) := by
  simp only [vl, List.mem_map, List.mem_range] at h
  obtain ⟨i, h1, h2⟩ := h
  exact ⟨i, h1, h2.symm⟩
/-- The set of one value, by its text. -/
def one (x : ByteArray) : Nat := if val x.toList ≤ 62 then gb (val x.toList) (val x.toList) 1 else 0
theorem one_lt (x : ByteArray) : one x < 18446744073709551616 := by
  unfold one
  split
  · exact gbn_lt _ _ _ (by omega)
  · omega
theorem one_dec (n : Nat) (h : n ≤ 62) : one (dec n) = gb n n 1 := by
  unfold one
  rw [dec_list, (dec_digits n).2.2, if_pos h]
theorem orAll_bit (f : ByteArray → Nat) (xs : List ByteArray) (i : Nat) : (orAll f xs).testBit i = xs.any fun x => (f x).testBit i := by
  have : ∀ (l : List ByteArray) (a : Nat), (l.foldl (fun a x => a ||| f x) a).testBit i = (a.testBit i || l.any fun x => (f x).testBit i) := by
    intro l
    induction l with
    | nil => intro a; simp
    | cons x t ih => intro a; rw [List.foldl_cons, ih, Nat.testBit_or, List.any_cons, Bool.or_assoc]
  rw [orAll, this]
  simp
theorem or_values (lo hi st : Nat) (h1 : lo ≤ hi) (h2 : hi ≤ 62) (h3 : 1 ≤ st) : orAll one (vl lo st ((hi - lo) / st + 1)) = gb lo hi st := by
  apply Nat.eq_of_testBit_eq
  intro i
  rw [orAll_bit, testBit_gb, Bool.eq_iff_iff, List.any_eq_true, decide_eq_true_eq]
  have hm : ∀ j, j < (hi - lo) / st + 1 → lo + j * st ≤ hi := by
    intro j hj
    have : j * st ≤ hi - lo := by
      have h := Nat.mul_le_mul_right st (show j ≤ (hi - lo) / st by omega)
      exact Nat.le_trans h (Nat.div_mul_le_self _ _)
    omega
  constructor
  · rintro ⟨x, hx, hb⟩
    obtain ⟨j, hj, rfl⟩ := vl_mem hx
    have hv := hm j hj
    rw [one_dec _ (by omega), testBit_gb, decide_eq_true_eq] at hb
    have e : i = lo + j * st := by omega
    subst e
    exact ⟨by omega, hv, by rw [Nat.add_sub_cancel_left, Nat.mul_mod_left]⟩
  · rintro ⟨a, b, c⟩
    have hd : (i - lo) / st * st = i - lo := Nat.div_mul_cancel (Nat.dvd_of_mod_eq_zero c)
    have hj : (i - lo) / st < (hi - lo) / st + 1 := Nat.lt_succ_of_le (Nat.div_le_div_right (by omega))
    refine ⟨dec (lo + (i - lo) / st * st), List.mem_map.2 ⟨_, List.mem_range.2 hj, rfl⟩, ?_⟩
    rw [one_dec _ (by have := hm _ hj; omega), testBit_gb, decide_eq_true_eq, hd]
    refine ⟨by omega, by omega, Nat.mod_one _⟩

/-! ### Walks -/
set_option maxHeartbeats 800000 in
theorem join_any (xs : List ByteArray) (g c : Nat) (w : World) (hl : xs.length ≤ 1000) (hz : ∀ x ∈ xs, x.size ≤ 20) (hst : StrsAt w g xs) : Calls Tryd.prog 20 #[.slice (some ⟨g, 0, none⟩) xs.length c, .string ⟨#[44]⟩] w fun e w' =>
    e = .returned (.string (jn xs xs.length)) ∧ w = w' := by
  have HS := hid hst
  have HZ := hid hz
  clear hst hz
  go_enter Tryd.func20, Tryd.ntmps20
  go_wp2_with fail
  go_loop [5, 10] (fun b i => ∃ k : Nat, k ≤ xs.length ∧ i = .int .i64 k ∧ b = .string (jn xs k)) (fun _ i => xs.length - (intOf i).toNat)
  case atStart => exact ⟨0, Nat.zero_le _, rfl, rfl⟩
  case round =>
    obtain ⟨k, hk, rfl, rfl⟩ := hrel
    by_cases hlt : k < xs.length
    · have hcell := HS.out k xs[k] (List.getElem?_eq_getElem hlt)
      have hg : xs.getD k ⟨#[]⟩ = xs[k] := by simp [List.getD, hlt]
      have h1 := jn_size xs HZ.out k hk
      have h2 := HZ.out _ (List.getElem_mem hlt)
      by_cases h0 : 0 < k
      · have b0 : (0 : Int) < (k : Int) := by omega
        have hj := hid (show jn xs k ++ ⟨#[44]⟩ ++ xs[k] = jn xs (k + 1) by
          show _ = (if 0 < k then jn xs k ++ ⟨#[44]⟩ else jn xs k) ++ xs.getD k ⟨#[]⟩
          rw [if_pos h0, hg])
        have c1 : ¬ 9223372036854775807 < (jn xs k).size + 1 := by omega
        have c2 : ¬ 9223372036854775807 < (jn xs k).size + 1 + xs[k].size := by omega
        clear hg h1 h2
        go_wp2_with fail
        go_round
        case rel => exact ⟨k + 1, by omega, by go_num, by rw [← hj.out]⟩
        case measure => simp [intOf]; omega
      · have b0 : ¬ (0 : Int) < (k : Int) := by omega
        have hj := hid (show jn xs k ++ xs[k] = jn xs (k + 1) by
          show _ = (if 0 < k then jn xs k ++ ⟨#[44]⟩ else jn xs k) ++ xs.getD k ⟨#[]⟩
          rw [if_neg h0, hg])
        have c1 : ¬ 9223372036854775807 < (jn xs k).size + xs[k].size := by omega
        clear hg h1 h2
        go_wp2_with fail
        go_round
        case rel => exact ⟨k + 1, by omega, by go_num, by rw [← hj.out]⟩
        case measure => simp [intOf]; omega
    · have e : k = xs.length := by omega
      subst e
      go_wp2_with fail
      go_ret
      exact ⟨rfl, rfl⟩

theorem slash_list : (⟨#[47]⟩ : ByteArray).toList = [47] := mk_list _
theorem hyphen_list : (⟨#[45]⟩ : ByteArray).toList = [45] := mk_list _
/-- The range with a step, as its text. -/
def rt (lo hi st : Nat) : ByteArray := dec lo ++ ⟨#[45]⟩ ++ dec hi ++ ⟨#[47]⟩ ++ dec st
theorem rt_list (lo hi st : Nat) : (rt lo hi st).toList = (dec lo).toList ++ 45 :: ((dec hi).toList ++ 47 :: (dec st).toList) := by
  unfold rt
  rw [app_list, app_list, app_list, app_list, slash_list, hyphen_list]
  simp
theorem rt_size (lo hi st : Nat) (h1 : lo < 18446744073709551616) (h2 : hi < 18446744073709551616) (h3 : st < 18446744073709551616) : (rt lo hi st).size ≤ 62 := by
  have a := dec_size lo h1
  have b := dec_size hi h2
  have c := dec_size st h3
  unfold rt
  rw [ByteArray.size_append, ByteArray.size_append, ByteArray.size_append, ByteArray.size_append]
  show (dec lo).size + 1 + (dec hi).size + 1 + (dec st).size ≤ 62
  omega
theorem rt_ascii (lo hi st : Nat) : ascii (rt lo hi st) := by
  apply ascii_of
  have d : ∀ n, (dec n).toList.all (fun b => decide (b.toNat < 128)) = true := fun n => by rw [dec_list]; exact dig_ascii (dec_digits n).1
  rw [rt_list, List.all_append, List.all_cons, List.all_append, List.all_cons, d, d, d]
  rfl
theorem rt_comma (lo hi st : Nat) : cut 44 (rt lo hi st).toList = [(rt lo hi st).toList] := by
  apply cut_none
  rw [rt_list]
  simp only [List.mem_append, List.mem_cons, not_or]
  exact ⟨dec_free 44 (by decide) lo, by decide, dec_free 44 (by decide) hi, by decide, dec_free 44 (by decide) st⟩
theorem rt_slash (lo hi st : Nat) : cut 47 (rt lo hi st).toList = [(dec lo ++ ⟨#[45]⟩ ++ dec hi).toList, (dec st).toList] := by
  rw [rt_list, app_list, app_list, hyphen_list, show (dec lo).toList ++ 45 :: ((dec hi).toList ++ 47 :: (dec st).toList) = ((dec lo).toList ++ [45] ++ (dec hi).toList) ++ 47 :: (dec st).toList by simp]
  rw [cut_at 47 _ _ (by
    simp only [List.mem_append, List.mem_singleton, not_or]
    exact ⟨⟨dec_free 47 (by decide) lo, by decide⟩, dec_free 47 (by decide) hi⟩), cut_none 47 _ (dec_free 47 (by decide) st)]
theorem rt_hyphen (lo hi : Nat) : cut 45 (dec lo ++ ⟨#[45]⟩ ++ dec hi).toList = [(dec lo).toList, (dec hi).toList] := by
  rw [app_list, app_list, hyphen_list, List.append_assoc, show [45] ++ (dec hi).toList = 45 :: (dec hi).toList from rfl, cut_at 45 _ _ (dec_free 45 (by decide) lo), cut_none 45 _ (dec_free 45 (by decide) hi)]
theorem dec_ne (n : Nat) : (dec n).toList ≠ [] := by rw [dec_list]; exact (dec_digits n).2.1

theorem one_map {xs : List ByteArray} {s : ByteArray} (h : xs.map (·.toList) = [s.toList]) : xs = [s] := parts_one h
theorem map_inj {xs ys : List ByteArray} (h : xs.map (·.toList) = ys.map (·.toList)) : xs = ys := by
  induction xs generalizing ys with
  | nil => cases ys with
    | nil => rfl
    | cons y t => simp at h
  | cons x t ih => cases ys with
    | nil => simp at h
    | cons y u =>
      simp only [List.map_cons, List.cons.injEq] at h
      rw [bytes_inj h.1, ih h.2]

theorem kHi_le (k : Nat) : kHi k ≤ 59 := by
  unfold kHi
  repeat' split
  all_goals omega

theorem field_range (k lo hi st : Nat) (hk : k ≤ 5) (h1 : kLo k ≤ lo) (h2 : lo ≤ hi) (h3 : hi ≤ kHi k) (h4 : 1 ≤ st) (h5 : st ≤ 4294967296) (w : World) :
    Calls Tryd.prog 19 #[.int .i64 k, .string (rt lo hi st)] w fun e w' => e = .returned (.tuple #[.int .u64 (gb lo hi st : Nat), .bool true]) ∧ Below w.heap.size w w' := by
  have hh := kHi_le k
  have hz := rt_size lo hi st (by omega) (by omega) (by omega)
  have hlt : gb lo hi st < 18446744073709551616 := gbn_lt _ _ _ (by omega)
  have dz : ∀ n, n < 18446744073709551616 → (dec n).size ≤ 2147483647 := fun n h => by have := dec_size n h; omega
  refine (cronField_any k hk (rt lo hi st) (fun _ => gb lo hi st) w (by omega) (rt_ascii _ _ _) (by rw [rt_comma]; intro q hq; rw [List.mem_singleton.1 hq, rt_list]; simp) (fun _ => hlt) ?_).mono ?_
  · intro mv M hM hP x hx w hw
    rw [rt_comma, List.mem_singleton] at hx
    obtain rfl := bytes_inj hx
    exact rangeN_full (rt lo hi st) (dec lo) (dec hi) (dec lo ++ ⟨#[45]⟩ ++ dec hi) (dec st) (kLo k) (kHi k) lo hi st w mv M hM hw (by omega) (hP lo (by omega)) (dec_not 42 (by decide) lo) (dec_not 63 (by decide) lo) (by omega) h1 h2 h3 (rt_slash lo hi st)
      (by rw [ByteArray.size_append, ByteArray.size_append]; have a := dec_size lo (by omega); have b := dec_size hi (by omega); show (dec lo).size + 1 + (dec hi).size ≤ _; omega) (rt_hyphen lo hi) (hP hi (by omega)) (dz st (by omega)) (dec_atoi st (by omega)) h4 (by omega)
  · rintro e w' ⟨xs, hx, rfl, hb⟩
    rw [rt_comma] at hx
    rw [parts_one hx]
    exact ⟨by show Ending.returned (.tuple #[.int .u64 ((0 ||| gb lo hi st : Nat) : Int), .bool true]) = _; rw [Nat.zero_or], hb⟩
end Go.Proofs.YtcaabeocflfboaaDoor
