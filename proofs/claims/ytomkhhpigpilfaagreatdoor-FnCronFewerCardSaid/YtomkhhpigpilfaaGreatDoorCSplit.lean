/- The cron package's splitting of a text at a slash, at a hyphen. Walked. -/
import Derived.Test.YtomkhhpigpilfaaGreatDoorKit
import Derived.Test.YtomkhhpigpilfaaGreatDoorStrP
import Derived.Test.YtomkhhpigpilfaaGreatDoorApp
import Derived.IntWalk
import Derived.Laws.Strings2
import Derived.Laws.Strings3
set_option linter.unusedVariables false
set_option linter.unusedSimpArgs false
namespace Go.Proofs.YtomkhhpigpilfaaGreatDoor
open Go.RowKit

theorem info_str : (Tryz.prog.info? 9).map (fun i => (i.zero, i.size, i.bytes)) = some (some (.string ⟨#[]⟩), 1, 16) := by kernel_rfl

theorem ext_one (s : ByteArray) (k : Nat) (h : k < s.size) : (s.extract k (k + 1)).toList = [s[k]] := by
  rw [ext_list, drop_list s k h]
  simp

theorem slice_mid (s : ByteArray) (k : Nat) (h : k < s.size) (w : World) : (Instr.slice 9 (.string s) (some (.int .i64 (k : Int))) (some (.int .i64 ((k : Int) + 1))) none).run Tryz.prog w = .ok (.string (s.extract k (k + 1))) w := by
  have := run_slice_string (P := Tryz.prog) w 9 s .i64 .i64 (k : Int) ((k : Int) + 1) Tryz.underlying9 (by omega) (by omega) (by omega)
  have e : ((k : Int) + 1).toNat = k + 1 := by omega
  rw [e] at this
  simpa using this
theorem slice_to (s : ByteArray) (k : Nat) (h : k ≤ s.size) (w : World) : (Instr.slice 9 (.string s) none (some (.int .i64 (k : Int))) none).run Tryz.prog w = .ok (.string (s.extract 0 k)) w := by
  rw [run_slice_string_to_if _ _ _ _ _ Tryz.underlying9, if_pos ⟨by omega, by omega⟩]
  simp
theorem slice_from (s : ByteArray) (k : Nat) (h : k < s.size) (w : World) : (Instr.slice 9 (.string s) (some (.int .i64 ((k : Int) + 1))) none none).run Tryz.prog w = .ok (.string (s.extract (k + 1) s.size)) w := by
  rw [run_slice_string_from_if _ _ _ _ _ Tryz.underlying9, if_pos ⟨by omega, by omega⟩]
  have e : ((k : Int) + 1).toNat = k + 1 := by omega
  rw [e]

set_option maxRecDepth 100000 in
theorem index_anyS (s : ByteArray) (w : World) (hs : s.size ≤ 2147483647) : Calls Tryz.prog 41 #[.string s, .string ⟨#[47]⟩] w fun e w' =>
    ∃ n : Int, e = .returned (.int .i64 n) ∧ w = w' ∧ ((n = -1 ∧ (47 : UInt8) ∉ s.toList) ∨ ∃ k : Nat, n = k ∧ k < s.size ∧ s.toList[k]? = some 47 ∧ (47 : UInt8) ∉ s.toList.take k) := by
  go_enter Tryz.func41, Tryz.ntmps41
  go_wp2_with fail
  go_loop [5] (fun i => ∃ k : Nat, k ≤ s.size ∧ i = .int .i64 k ∧ (47 : UInt8) ∉ s.toList.take k) (fun i => s.size - (intOf i).toNat)
  case atStart => exact ⟨0, Nat.zero_le _, rfl, by simp⟩
  case round =>
    obtain ⟨k, hk, rfl, hn⟩ := hrel
    have HN := hid hn
    clear hn
    by_cases hlt : k < s.size
    · have hsl := slice_mid s k hlt
      have hw : IntKind.i64.wrap ((k : Int) + 1) = (k : Int) + 1 := IntWalk.i64_in _ (by omega)
      by_cases hd : s[k] = 47
      · have hx : (s.extract k (k + 1)).toList = [47] := by rw [ext_one s k hlt, hd]
        have HD := hid hd
        clear hd
        go_wp2_with fail
        go_ret
        exact ⟨_, rfl, rfl, .inr ⟨k, rfl, hlt, by rw [at_list s k hlt, HD.out], HN.out⟩⟩
      · have hx : ((s.extract k (k + 1)).toList == [47]) = false := by
          rw [ext_one s k hlt]
          simp [hd]
        have HD := hid hd
        clear hd
        go_wp2_with fail
        go_round
        case rel => exact ⟨k + 1, by omega, by go_num, by rw [take_list s k hlt]; simp [HN.out, Ne.symm HD.out]⟩
        case measure => simp [intOf]; omega
    · have hks : k = s.size := by omega
      have hw : IntKind.i64.wrap ((k : Int) + 1) = (k : Int) + 1 := IntWalk.i64_in _ (by omega)
      have := HN.out
      rw [hks, take_all] at this
      have HA := hid this
      clear this
      go_wp2_with fail
      go_ret
      exact ⟨_, rfl, rfl, .inl ⟨rfl, HA.out⟩⟩
theorem first_atS : ∀ (l : List UInt8), (47 : UInt8) ∈ l → ∃ k, l[k]? = some 47 ∧ (47 : UInt8) ∉ l.take k
  | [], h => by cases h
  | x :: r, h => by
    by_cases hx : x = 47
    · exact ⟨0, by simp [hx], by simp⟩
    · obtain ⟨k, h1, h2⟩ := first_atS r ((List.mem_cons.1 h).resolve_left (fun e => hx e.symm))
      exact ⟨k + 1, by simpa using h1, by simp only [List.take_succ_cons, List.mem_cons, not_or]; exact ⟨fun e => hx e.symm, h2⟩⟩

theorem index_noneS (s : ByteArray) (w : World) (hs : s.size ≤ 2147483647) (h : (47 : UInt8) ∉ s.toList) : Calls Tryz.prog 41 #[.string s, .string ⟨#[47]⟩] w fun e w' => e = .returned (.int .i64 (-1)) ∧ w = w' := by
  refine (index_anyS s w hs).mono ?_
  rintro e w' ⟨n, rfl, rfl, ⟨rfl, _⟩ | ⟨k, _, _, h1, _⟩⟩
  · exact ⟨rfl, rfl⟩
  · exact absurd (List.mem_of_getElem? h1) h
theorem index_atS (s : ByteArray) (k : Nat) (w : World) (hs : s.size ≤ 2147483647) (h : s.toList[k]? = some 47) (h2 : (47 : UInt8) ∉ s.toList.take k) : Calls Tryz.prog 41 #[.string s, .string ⟨#[47]⟩] w fun e w' => e = .returned (.int .i64 k) ∧ w = w' := by
  refine (index_anyS s w hs).mono ?_
  rintro e w' ⟨n, rfl, rfl, ⟨rfl, hn⟩ | ⟨j, rfl, _, h3, h4⟩⟩
  · exact absurd (List.mem_of_getElem? h) hn
  · obtain rfl : j = k := by
      rcases Nat.lt_trichotomy j k with hl | hl | hl
      · exact absurd (List.mem_of_getElem? (by rw [List.getElem?_take, if_pos hl]; exact h3)) h2
      · exact hl
      · exact absurd (List.mem_of_getElem? (by rw [List.getElem?_take, if_pos hl]; exact h)) h4
    exact ⟨rfl, rfl⟩

def SpRelS (s : ByteArray) (W : World) (r : ByteArray) (v : Value) (wr : World) : Prop :=
  ∃ xs : List ByteArray, wr.ownsRow W.heap.size 9 1 v (xs.map Value.string).length (xs.map Value.string) ∧ Below W.heap.size W wr ∧ r.size + xs.length ≤ s.size ∧ xs.map (·.toList) ++ cut 47 r.toList = cut 47 s.toList

theorem sp_atS {s r : ByteArray} {W w1 : World} {v1 : Value} {xs : List ByteArray} {k : Nat} (hk : k < r.size) (h1 : r.toList[k]? = some 47) (h2 : (47 : UInt8) ∉ r.toList.take k) (h3 : r.size + xs.length ≤ s.size)
    (h5 : xs.map (·.toList) ++ cut 47 r.toList = cut 47 s.toList)
    (hown : w1.ownsRow W.heap.size 9 1 v1 (xs.map Value.string ++ [Value.string (r.extract 0 k)]).length (xs.map Value.string ++ [Value.string (r.extract 0 k)])) (hb : Below W.heap.size W w1) : SpRelS s W (r.extract (k + 1) r.size) v1 w1 := by
  refine ⟨xs ++ [r.extract 0 k], by simpa using hown, hb, by simp; omega, ?_⟩
  have hd : r[k] = 47 := by
    have := at_list r k hk
    rw [h1] at this
    exact (Option.some.inj this).symm
  have e1 : r.toList = r.toList.take k ++ 47 :: r.toList.drop (k + 1) := by
    conv => lhs; rw [← List.take_append_drop k r.toList, drop_list r k hk, hd]
  have e2 : (r.extract (k + 1) r.size).toList = r.toList.drop (k + 1) := by
    rw [ext_list]
    exact List.take_of_length_le (by rw [List.length_drop, size_list]; exact Nat.le_refl _)
  rw [← h5, e2]
  conv => rhs; rw [e1, cut_at 47 _ _ h2]
  simp [ext_list]

theorem sp_endS {s r : ByteArray} {W w1 : World} {v1 : Value} {xs : List ByteArray} (h2 : (47 : UInt8) ∉ r.toList)
    (h5 : xs.map (·.toList) ++ cut 47 r.toList = cut 47 s.toList)
    (hown : w1.ownsRow W.heap.size 9 1 v1 (xs.map Value.string ++ [Value.string r]).length (xs.map Value.string ++ [Value.string r])) (hb : Below W.heap.size W w1) :
    ∃ (xs : List ByteArray) (g c : Nat), v1 = .slice (some ⟨g, 0, none⟩) xs.length c ∧ xs.map (·.toList) = cut 47 s.toList ∧ StrsAt w1 g xs ∧ Below W.heap.size W w1 := by
  have ho : w1.ownsRow W.heap.size 9 1 v1 (xs ++ [r]).length ((xs ++ [r]).map Value.string) := by simpa using hown
  obtain ⟨g, c, hv, _, hst⟩ := strs_of_own ho (by simp)
  refine ⟨_, g, c, hv, ?_, hst, hb⟩
  rw [← h5, cut_none 47 _ h2]
  simp

set_option maxRecDepth 100000 in
theorem split_anyS (s : ByteArray) (w : World) (hs : s.size ≤ 2147483647) : Calls Tryz.prog 88 #[.string s, .string ⟨#[47]⟩] w fun e w' =>
    ∃ (xs : List ByteArray) (g c : Nat), e = .returned (.slice (some ⟨g, 0, none⟩) xs.length c) ∧ xs.map (·.toList) = cut 47 s.toList ∧ StrsAt w' g xs ∧ Below w.heap.size w w' := by
  go_enter Tryz.func88, Tryz.ntmps88
  go_wp2_with fail
  go_loopw [0, 5] (fun rv v wr => ∃ r : ByteArray, rv = .string r ∧ SpRelS s w r v wr) (fun rv _ _ => match rv with | .string r => r.size | _ => 0)
  case atStart => exact ⟨s, rfl, [], ⟨by simp, .inl ⟨rfl, by simp⟩⟩, Below.refl _ _, by simp, by simp⟩
  case round =>
    obtain ⟨r, rfl, xs, hown, hb, h3, h5⟩ := hrel
    have H5 := hid h5
    clear h5
    have hbs := hb.size
    by_cases hm : (47 : UInt8) ∈ r.toList
    · obtain ⟨k, h1, h2⟩ := first_atS _ hm
      have hk : k < r.size := by
        have := (List.getElem?_eq_some_iff.1 h1).1
        rwa [size_list] at this
      have H1 := hid h1
      have H2 := hid h2
      clear h1 h2 hm
      have hs1 := slice_to r k (by omega)
      have hs2 := slice_from r k hk
      have hw : IntKind.i64.wrap ((k : Int) + 1) = (k : Int) + 1 := IntWalk.i64_in _ (by omega)
      have hk0 : ((k : Int) < 0) = False := by simp
      go_wp2_with (first | (go_at_call 41; refine (index_atS r k _ (by omega) H1.out H2.out).mono ?_; rintro e w' ⟨rfl, rfl⟩) | (at_builtin; refine app_one (w0 := w) w.heap.size rfl (.tmp 16) (.tmp 20) _ _ _ 16 rfl Tryz.underlying22 info_str rfl _ (xs.map Value.string) _ rfl rfl rfl hown hb hb.size (by simp [maxLen]; omega) (by simp; omega) ?_; intro v1 w1 hown1 hb1))
      trace_state
      go_roundw
      case rel => exact ⟨_, rfl, sp_atS hk H1.out H2.out h3 H5.out hown1 hb1⟩
      case measure => simp; omega
    · have HM := hid hm
      clear hm
      go_wp2_with (first | (go_at_call 41; refine (index_noneS r _ (by omega) HM.out).mono ?_; rintro e w' ⟨rfl, rfl⟩) | (at_builtin; refine app_one (w0 := w) w.heap.size rfl (.tmp 12) (.tmp 14) _ _ _ 16 rfl Tryz.underlying22 info_str rfl _ (xs.map Value.string) _ rfl rfl rfl hown hb hb.size (by simp [maxLen]; omega) (by simp; omega) ?_; intro v1 w1 hown1 hb1))
      go_ret
      obtain ⟨ys, g, c, hv, h6, h7, h8⟩ := sp_endS HM.out H5.out hown1 hb1
      subst hv
      exact ⟨ys, g, c, rfl, h6, h7, h8⟩
set_option maxRecDepth 100000 in
theorem index_anyH (s : ByteArray) (w : World) (hs : s.size ≤ 2147483647) : Calls Tryz.prog 41 #[.string s, .string ⟨#[45]⟩] w fun e w' =>
    ∃ n : Int, e = .returned (.int .i64 n) ∧ w = w' ∧ ((n = -1 ∧ (45 : UInt8) ∉ s.toList) ∨ ∃ k : Nat, n = k ∧ k < s.size ∧ s.toList[k]? = some 45 ∧ (45 : UInt8) ∉ s.toList.take k) := by
  go_enter Tryz.func41, Tryz.ntmps41
  go_wp2_with fail
  go_loop [5] (fun i => ∃ k : Nat, k ≤ s.size ∧ i = .int .i64 k ∧ (45 : UInt8) ∉ s.toList.take k) (fun i => s.size - (intOf i).toNat)
  case atStart => exact ⟨0, Nat.zero_le _, rfl, by simp⟩
  case round =>
    obtain ⟨k, hk, rfl, hn⟩ := hrel
    have HN := hid hn
    clear hn
    by_cases hlt : k < s.size
    · have hsl := slice_mid s k hlt
      have hw : IntKind.i64.wrap ((k : Int) + 1) = (k : Int) + 1 := IntWalk.i64_in _ (by omega)
      by_cases hd : s[k] = 45
      · have hx : (s.extract k (k + 1)).toList = [45] := by rw [ext_one s k hlt, hd]
        have HD := hid hd
        clear hd
        go_wp2_with fail
        go_ret
        exact ⟨_, rfl, rfl, .inr ⟨k, rfl, hlt, by rw [at_list s k hlt, HD.out], HN.out⟩⟩
      · have hx : ((s.extract k (k + 1)).toList == [45]) = false := by
          rw [ext_one s k hlt]
          simp [hd]
        have HD := hid hd
        clear hd
        go_wp2_with fail
        go_round
        case rel => exact ⟨k + 1, by omega, by go_num, by rw [take_list s k hlt]; simp [HN.out, Ne.symm HD.out]⟩
        case measure => simp [intOf]; omega
    · have hks : k = s.size := by omega
      have hw : IntKind.i64.wrap ((k : Int) + 1) = (k : Int) + 1 := IntWalk.i64_in _ (by omega)
      have := HN.out
      rw [hks, take_all] at this
      have HA := hid this
      clear this
      go_wp2_with fail
      go_ret
      exact ⟨_, rfl, rfl, .inl ⟨rfl, HA.out⟩⟩
theorem first_atH : ∀ (l : List UInt8), (45 : UInt8) ∈ l → ∃ k, l[k]? = some 45 ∧ (45 : UInt8) ∉ l.take k
  | [], h => by cases h
  | x :: r, h => by
    by_cases hx : x = 45
    · exact ⟨0, by simp [hx], by simp⟩
    · obtain ⟨k, h1, h2⟩ := first_atH r ((List.mem_cons.1 h).resolve_left (fun e => hx e.symm))
      exact ⟨k + 1, by simpa using h1, by simp only [List.take_succ_cons, List.mem_cons, not_or]; exact ⟨fun e => hx e.symm, h2⟩⟩

theorem index_noneH (s : ByteArray) (w : World) (hs : s.size ≤ 2147483647) (h : (45 : UInt8) ∉ s.toList) : Calls Tryz.prog 41 #[.string s, .string ⟨#[45]⟩] w fun e w' => e = .returned (.int .i64 (-1)) ∧ w = w' := by
  refine (index_anyH s w hs).mono ?_
  rintro e w' ⟨n, rfl, rfl, ⟨rfl, _⟩ | ⟨k, _, _, h1, _⟩⟩
  · exact ⟨rfl, rfl⟩
  · exact absurd (List.mem_of_getElem? h1) h
theorem index_atH (s : ByteArray) (k : Nat) (w : World) (hs : s.size ≤ 2147483647) (h : s.toList[k]? = some 45) (h2 : (45 : UInt8) ∉ s.toList.take k) : Calls Tryz.prog 41 #[.string s, .string ⟨#[45]⟩] w fun e w' => e = .returned (.int .i64 k) ∧ w = w' := by
  refine (index_anyH s w hs).mono ?_
  rintro e w' ⟨n, rfl, rfl, ⟨rfl, hn⟩ | ⟨j, rfl, _, h3, h4⟩⟩
  · exact absurd (List.mem_of_getElem? h) hn
  · obtain rfl : j = k := by
      rcases Nat.lt_trichotomy j k with hl | hl | hl
      · exact absurd (List.mem_of_getElem? (by rw [List.getElem?_take, if_pos hl]; exact h3)) h2
      · exact hl
      · exact absurd (List.mem_of_getElem? (by rw [List.getElem?_take, if_pos hl]; exact h)) h4
    exact ⟨rfl, rfl⟩

def SpRelH (s : ByteArray) (W : World) (r : ByteArray) (v : Value) (wr : World) : Prop :=
  ∃ xs : List ByteArray, wr.ownsRow W.heap.size 9 1 v (xs.map Value.string).length (xs.map Value.string) ∧ Below W.heap.size W wr ∧ r.size + xs.length ≤ s.size ∧ xs.map (·.toList) ++ cut 45 r.toList = cut 45 s.toList

theorem sp_atH {s r : ByteArray} {W w1 : World} {v1 : Value} {xs : List ByteArray} {k : Nat} (hk : k < r.size) (h1 : r.toList[k]? = some 45) (h2 : (45 : UInt8) ∉ r.toList.take k) (h3 : r.size + xs.length ≤ s.size)
    (h5 : xs.map (·.toList) ++ cut 45 r.toList = cut 45 s.toList)
    (hown : w1.ownsRow W.heap.size 9 1 v1 (xs.map Value.string ++ [Value.string (r.extract 0 k)]).length (xs.map Value.string ++ [Value.string (r.extract 0 k)])) (hb : Below W.heap.size W w1) : SpRelH s W (r.extract (k + 1) r.size) v1 w1 := by
  refine ⟨xs ++ [r.extract 0 k], by simpa using hown, hb, by simp; omega, ?_⟩
  have hd : r[k] = 45 := by
    have := at_list r k hk
    rw [h1] at this
    exact (Option.some.inj this).symm
  have e1 : r.toList = r.toList.take k ++ 45 :: r.toList.drop (k + 1) := by
    conv => lhs; rw [← List.take_append_drop k r.toList, drop_list r k hk, hd]
  have e2 : (r.extract (k + 1) r.size).toList = r.toList.drop (k + 1) := by
    rw [ext_list]
    exact List.take_of_length_le (by rw [List.length_drop, size_list]; exact Nat.le_refl _)
  rw [← h5, e2]
  conv => rhs; rw [e1, cut_at 45 _ _ h2]
  simp [ext_list]

theorem sp_endH {s r : ByteArray} {W w1 : World} {v1 : Value} {xs : List ByteArray} (h2 : (45 : UInt8) ∉ r.toList)
    (h5 : xs.map (·.toList) ++ cut 45 r.toList = cut 45 s.toList)
    (hown : w1.ownsRow W.heap.size 9 1 v1 (xs.map Value.string ++ [Value.string r]).length (xs.map Value.string ++ [Value.string r])) (hb : Below W.heap.size W w1) :
    ∃ (xs : List ByteArray) (g c : Nat), v1 = .slice (some ⟨g, 0, none⟩) xs.length c ∧ xs.map (·.toList) = cut 45 s.toList ∧ StrsAt w1 g xs ∧ Below W.heap.size W w1 := by
  have ho : w1.ownsRow W.heap.size 9 1 v1 (xs ++ [r]).length ((xs ++ [r]).map Value.string) := by simpa using hown
  obtain ⟨g, c, hv, _, hst⟩ := strs_of_own ho (by simp)
  refine ⟨_, g, c, hv, ?_, hst, hb⟩
  rw [← h5, cut_none 45 _ h2]
  simp

set_option maxRecDepth 100000 in
theorem split_anyH (s : ByteArray) (w : World) (hs : s.size ≤ 2147483647) : Calls Tryz.prog 88 #[.string s, .string ⟨#[45]⟩] w fun e w' =>
    ∃ (xs : List ByteArray) (g c : Nat), e = .returned (.slice (some ⟨g, 0, none⟩) xs.length c) ∧ xs.map (·.toList) = cut 45 s.toList ∧ StrsAt w' g xs ∧ Below w.heap.size w w' := by
  go_enter Tryz.func88, Tryz.ntmps88
  go_wp2_with fail
  go_loopw [0, 5] (fun rv v wr => ∃ r : ByteArray, rv = .string r ∧ SpRelH s w r v wr) (fun rv _ _ => match rv with | .string r => r.size | _ => 0)
  case atStart => exact ⟨s, rfl, [], ⟨by simp, .inl ⟨rfl, by simp⟩⟩, Below.refl _ _, by simp, by simp⟩
  case round =>
    obtain ⟨r, rfl, xs, hown, hb, h3, h5⟩ := hrel
    have H5 := hid h5
    clear h5
    have hbs := hb.size
    by_cases hm : (45 : UInt8) ∈ r.toList
    · obtain ⟨k, h1, h2⟩ := first_atH _ hm
      have hk : k < r.size := by
        have := (List.getElem?_eq_some_iff.1 h1).1
        rwa [size_list] at this
      have H1 := hid h1
      have H2 := hid h2
      clear h1 h2 hm
      have hs1 := slice_to r k (by omega)
      have hs2 := slice_from r k hk
      have hw : IntKind.i64.wrap ((k : Int) + 1) = (k : Int) + 1 := IntWalk.i64_in _ (by omega)
      have hk0 : ((k : Int) < 0) = False := by simp
      go_wp2_with (first | (go_at_call 41; refine (index_atH r k _ (by omega) H1.out H2.out).mono ?_; rintro e w' ⟨rfl, rfl⟩) | (at_builtin; refine app_one (w0 := w) w.heap.size rfl (.tmp 16) (.tmp 20) _ _ _ 16 rfl Tryz.underlying22 info_str rfl _ (xs.map Value.string) _ rfl rfl rfl hown hb hb.size (by simp [maxLen]; omega) (by simp; omega) ?_; intro v1 w1 hown1 hb1))
      trace_state
      go_roundw
      case rel => exact ⟨_, rfl, sp_atH hk H1.out H2.out h3 H5.out hown1 hb1⟩
      case measure => simp; omega
    · have HM := hid hm
      clear hm
      go_wp2_with (first | (go_at_call 41; refine (index_noneH r _ (by omega) HM.out).mono ?_; rintro e w' ⟨rfl, rfl⟩) | (at_builtin; refine app_one (w0 := w) w.heap.size rfl (.tmp 12) (.tmp 14) _ _ _ 16 rfl Tryz.underlying22 info_str rfl _ (xs.map Value.string) _ rfl rfl rfl hown hb hb.size (by simp [maxLen]; omega) (by simp; omega) ?_; intro v1 w1 hown1 hb1))
      go_ret
      obtain ⟨ys, g, c, hv, h6, h7, h8⟩ := sp_endH HM.out H5.out hown1 hb1
      subst hv
      exact ⟨ys, g, c, rfl, h6, h7, h8⟩
end Go.Proofs.YtomkhhpigpilfaaGreatDoor
