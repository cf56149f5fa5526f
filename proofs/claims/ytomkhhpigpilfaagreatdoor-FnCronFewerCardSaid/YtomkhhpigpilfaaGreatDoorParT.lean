/- Parse's refusals: a text that begins as a descriptor, and one that begins with a time zone and has too few fields behind it. Walked. (wip/gen/gen_part.py) -/
import Derived.Test.YtomkhhpigpilfaaGreatDoorParG
import Derived.Test.YtomkhhpigpilfaaGreatDoorFewB
set_option linter.unusedVariables false
set_option linter.unusedSimpArgs false
namespace Go.Proofs.YtomkhhpigpilfaaGreatDoor
open Go.RowKit

set_option maxRecDepth 100000 in
theorem index_anyB (s : ByteArray) (w : World) (hs : s.size ≤ 2147483647) : Calls Tryz.prog 41 #[.string s, .string ⟨#[32]⟩] w fun e w' =>
    ∃ n : Int, e = .returned (.int .i64 n) ∧ w = w' ∧ ((n = -1 ∧ (32 : UInt8) ∉ s.toList) ∨ ∃ k : Nat, n = k ∧ k < s.size ∧ s.toList[k]? = some 32 ∧ (32 : UInt8) ∉ s.toList.take k) := by
  go_enter Tryz.func41, Tryz.ntmps41
  go_wp2_with fail
  go_loop [5] (fun i => ∃ k : Nat, k ≤ s.size ∧ i = .int .i64 k ∧ (32 : UInt8) ∉ s.toList.take k) (fun i => s.size - (intOf i).toNat)
  case atStart => exact ⟨0, Nat.zero_le _, rfl, by simp⟩
  case round =>
    obtain ⟨k, hk, rfl, hn⟩ := hrel
    have HN := hid hn
    clear hn
    by_cases hlt : k < s.size
    · have hsl := slice_mid s k hlt
      have hw : IntKind.i64.wrap ((k : Int) + 1) = (k : Int) + 1 := IntWalk.i64_in _ (by omega)
      by_cases hd : s[k] = 32
      · have hx : (s.extract k (k + 1)).toList = [32] := by rw [ext_one s k hlt, hd]
        have HD := hid hd
        clear hd
        go_wp2_with fail
        go_ret
        exact ⟨_, rfl, rfl, .inr ⟨k, rfl, hlt, by rw [at_list s k hlt, HD.out], HN.out⟩⟩
      · have hx : ((s.extract k (k + 1)).toList == [32]) = false := by
          rw [ext_one s k hlt]
          simp [hd]
        have HD := hid hd
        clear hd
        go_wp2_with fail
        go_round
        case rel => exact ⟨k + 1, by omega, by go_num, by rw [take_list s k hlt]; simp [HN.out, Ne.symm HD.out]⟩
        case measure => simp [intOf]; omega
    · have hks : k = s.size := by omega
      have hw : IntKind.i64.wrap ((k : Int) + 1) = (k : Int) + 1 := IntWalk.i64_in _ (by omega)
      have := HN.out
      rw [hks, take_all] at this
      have HA := hid this
      clear this
      go_wp2_with fail
      go_ret
      exact ⟨_, rfl, rfl, .inl ⟨rfl, HA.out⟩⟩
theorem index_atB (s : ByteArray) (k : Nat) (w : World) (hs : s.size ≤ 2147483647) (h : s.toList[k]? = some 32) (h2 : (32 : UInt8) ∉ s.toList.take k) : Calls Tryz.prog 41 #[.string s, .string ⟨#[32]⟩] w fun e w' => e = .returned (.int .i64 k) ∧ w = w' := by
  refine (index_anyB s w hs).mono ?_
  rintro e w' ⟨n, rfl, rfl, ⟨rfl, hn⟩ | ⟨j, rfl, _, h3, h4⟩⟩
  · exact absurd (List.mem_of_getElem? h) hn
  · obtain rfl : j = k := by
      rcases Nat.lt_trichotomy j k with hl | hl | hl
      · exact absurd (List.mem_of_getElem? (by rw [List.getElem?_take, if_pos hl]; exact h3)) h2
      · exact hl
      · exact absurd (List.mem_of_getElem? (by rw [List.getElem?_take, if_pos hl]; exact h)) h4
    exact ⟨rfl, rfl⟩

set_option maxRecDepth 100000 in
theorem index_anyE (s : ByteArray) (w : World) (hs : s.size ≤ 2147483647) : Calls Tryz.prog 41 #[.string s, .string ⟨#[61]⟩] w fun e w' =>
    ∃ n : Int, e = .returned (.int .i64 n) ∧ w = w' ∧ ((n = -1 ∧ (61 : UInt8) ∉ s.toList) ∨ ∃ k : Nat, n = k ∧ k < s.size ∧ s.toList[k]? = some 61 ∧ (61 : UInt8) ∉ s.toList.take k) := by
  go_enter Tryz.func41, Tryz.ntmps41
  go_wp2_with fail
  go_loop [5] (fun i => ∃ k : Nat, k ≤ s.size ∧ i = .int .i64 k ∧ (61 : UInt8) ∉ s.toList.take k) (fun i => s.size - (intOf i).toNat)
  case atStart => exact ⟨0, Nat.zero_le _, rfl, by simp⟩
  case round =>
    obtain ⟨k, hk, rfl, hn⟩ := hrel
    have HN := hid hn
    clear hn
    by_cases hlt : k < s.size
    · have hsl := slice_mid s k hlt
      have hw : IntKind.i64.wrap ((k : Int) + 1) = (k : Int) + 1 := IntWalk.i64_in _ (by omega)
      by_cases hd : s[k] = 61
      · have hx : (s.extract k (k + 1)).toList = [61] := by rw [ext_one s k hlt, hd]
        have HD := hid hd
        clear hd
        go_wp2_with fail
        go_ret
        exact ⟨_, rfl, rfl, .inr ⟨k, rfl, hlt, by rw [at_list s k hlt, HD.out], HN.out⟩⟩
      · have hx : ((s.extract k (k + 1)).toList == [61]) = false := by
          rw [ext_one s k hlt]
          simp [hd]
        have HD := hid hd
        clear hd
        go_wp2_with fail
        go_round
        case rel => exact ⟨k + 1, by omega, by go_num, by rw [take_list s k hlt]; simp [HN.out, Ne.symm HD.out]⟩
        case measure => simp [intOf]; omega
    · have hks : k = s.size := by omega
      have hw : IntKind.i64.wrap ((k : Int) + 1) = (k : Int) + 1 := IntWalk.i64_in _ (by omega)
      have := HN.out
      rw [hks, take_all] at this
      have HA := hid this
      clear this
      go_wp2_with fail
      go_ret
      exact ⟨_, rfl, rfl, .inl ⟨rfl, HA.out⟩⟩
theorem index_atE (s : ByteArray) (k : Nat) (w : World) (hs : s.size ≤ 2147483647) (h : s.toList[k]? = some 61) (h2 : (61 : UInt8) ∉ s.toList.take k) : Calls Tryz.prog 41 #[.string s, .string ⟨#[61]⟩] w fun e w' => e = .returned (.int .i64 k) ∧ w = w' := by
  refine (index_anyE s w hs).mono ?_
  rintro e w' ⟨n, rfl, rfl, ⟨rfl, hn⟩ | ⟨j, rfl, _, h3, h4⟩⟩
  · exact absurd (List.mem_of_getElem? h) hn
  · obtain rfl : j = k := by
      rcases Nat.lt_trichotomy j k with hl | hl | hl
      · exact absurd (List.mem_of_getElem? (by rw [List.getElem?_take, if_pos hl]; exact h3)) h2
      · exact hl
      · exact absurd (List.mem_of_getElem? (by rw [List.getElem?_take, if_pos hl]; exact h)) h4
    exact ⟨rfl, rfl⟩

/-- What zzTrimSpace's loop holds behind k bytes. -/
def TRel (s : ByteArray) (k : Nat) (n m : Int) : Prop := (n = -1 ∧ m = 0 ∧ ∀ x ∈ s.toList.take k, isSp x = true) ∨ (∃ a b : Nat, n = a ∧ m = b ∧ a < b ∧ b ≤ k ∧ (∀ x ∈ s.toList.take a, isSp x = true) ∧ ∀ x ∈ (s.toList.take k).drop b, isSp x = true)
theorem trel_blank {s : ByteArray} {k : Nat} {n m : Int} (h : TRel s k n m) (hk : k < s.size) (hb : isSp s[k] = true) : TRel s (k + 1) n m := by
  rcases h with ⟨h1, h2, h3⟩ | ⟨a, b, h1, h2, h3, h4, h5, h6⟩
  · refine .inl ⟨h1, h2, fun x hx => ?_⟩
    rw [take_list s k hk] at hx
    rcases List.mem_append.1 hx with hx | hx
    · exact h3 x hx
    · rw [List.mem_singleton.1 hx]; exact hb
  · refine .inr ⟨a, b, h1, h2, h3, by omega, h5, fun x hx => ?_⟩
    rw [take_list s k hk, List.drop_append_of_le_length (by rw [List.length_take, size_list]; omega)] at hx
    rcases List.mem_append.1 hx with hx | hx
    · exact h6 x hx
    · rw [List.mem_singleton.1 hx]; exact hb
theorem trel_first {s : ByteArray} {k : Nat} {n m : Int} (h : TRel s k n m) (hk : k < s.size) (hn : n < 0) : TRel s (k + 1) k ((k : Int) + 1) := by
  rcases h with ⟨h1, h2, h3⟩ | ⟨a, b, h1, _⟩
  · exact .inr ⟨k, k + 1, rfl, by omega, by omega, Nat.le_refl _, h3, fun x hx => by
      rw [List.drop_eq_nil_of_le (by rw [List.length_take]; omega)] at hx
      cases hx⟩
  · omega
theorem trel_more {s : ByteArray} {k : Nat} {n m : Int} (h : TRel s k n m) (hk : k < s.size) (hn : ¬ n < 0) : TRel s (k + 1) n ((k : Int) + 1) := by
  rcases h with ⟨h1, _⟩ | ⟨a, b, h1, h2, h3, h4, h5, h6⟩
  · omega
  · exact .inr ⟨a, k + 1, h1, by omega, by omega, Nat.le_refl _, h5, fun x hx => by
      rw [List.drop_eq_nil_of_le (by rw [List.length_take]; omega)] at hx
      cases hx⟩
/-- A text between blanks. -/
def Trimmed (s r : ByteArray) : Prop := ∃ a b : List UInt8, s.toList = a ++ r.toList ++ b ∧ (∀ x ∈ a, isSp x = true) ∧ (∀ x ∈ b, isSp x = true)
theorem trimmed_none {s : ByteArray} (h : ∀ x ∈ s.toList, isSp x = true) : Trimmed s ⟨#[]⟩ := by
  refine ⟨s.toList, [], ?_, h, fun x hx => nomatch hx⟩
  rw [show (⟨#[]⟩ : ByteArray).toList = [] by rw [ByteArray.toList_eq], List.append_nil, List.append_nil]
theorem fold_blank (q : List (List UInt8)) : ∀ l : List UInt8, (∀ x ∈ l, isSp x = true) → l.foldl stepW (q, none) = (q, none)
  | [], _ => rfl
  | b :: r, h => by
    have hb := h b (by simp)
    rw [List.foldl_cons, show stepW (q, none) b = (q, none) by simp [stepW, hb]]
    exact fold_blank q r (fun x hx => h x (List.mem_cons_of_mem _ hx))
theorem out_blank : ∀ (l : List UInt8) (q : List (List UInt8) × Option (List UInt8)), (∀ x ∈ l, isSp x = true) → outW (l.foldl stepW q) = outW q
  | [], _, _ => rfl
  | b :: r, (q1, none), h => by rw [fold_blank q1 (b :: r) h]
  | b :: r, (q1, some c), h => by
    have hb := h b (by simp)
    rw [List.foldl_cons, show stepW (q1, some c) b = (q1 ++ [c], none) by simp [stepW, hb], fold_blank _ r (fun x hx => h x (List.mem_cons_of_mem _ hx))]
    rfl
theorem trimmed_words {s r : ByteArray} (h : Trimmed s r) : wl s.toList = wl r.toList := by
  obtain ⟨a, b, h1, h2, h3⟩ := h
  unfold wl stL
  rw [h1, List.foldl_append, List.foldl_append, fold_blank [] a h2, out_blank b _ h3]
theorem trimmed_size {s r : ByteArray} (h : Trimmed s r) : r.size ≤ s.size := by
  obtain ⟨a, b, h1, _⟩ := h
  rw [← size_list, ← size_list, h1]
  simp
  omega
theorem trimmed_ascii {s r : ByteArray} (h : Trimmed s r) (ha : ∀ k (h : k < s.size), (s[k]'h).toNat < 128) : ∀ k (h : k < r.size), (r[k]'h).toNat < 128 := by
  obtain ⟨a, b, h1, _⟩ := h
  have hs : ∀ x ∈ s.toList, x.toNat < 128 := by
    intro x hx
    obtain ⟨k, hk, rfl⟩ := List.getElem_of_mem hx
    rw [size_list] at hk
    have := at_list s k hk
    rw [List.getElem?_eq_getElem (by rw [size_list]; exact hk)] at this
    rw [Option.some.inj this]
    exact ha k hk
  intro k hk
  refine hs _ ?_
  rw [h1]
  refine List.mem_append_left _ (List.mem_append_right _ ?_)
  exact List.mem_of_getElem? (at_list r k hk)

set_option maxHeartbeats 1600000 in
set_option maxRecDepth 100000 in
theorem trim_any (s : ByteArray) (ha : ∀ k (h : k < s.size), (s[k]'h).toNat < 128) (hs : s.size ≤ 400000) (w : World) : Calls Tryz.prog 43 #[.string s] w fun e w' => (∃ r, e = .returned (.string r) ∧ Trimmed s r) ∧ w' = w := by
  have HA := hid ha
  clear ha
  go_enter Tryz.func43, Tryz.ntmps43
  go_wp2_with fail
  go_loop [3, 4, 5] (fun f t i => ∃ (k : Nat) (n m : Int), f = .int .i64 n ∧ t = .int .i64 m ∧ i = .int .i64 k ∧ k ≤ s.size ∧ Hid (TRel s k n m)) (fun f t i => s.size - (intOf i).toNat)
  case atStart => exact ⟨0, -1, 0, rfl, rfl, rfl, Nat.zero_le _, .inl ⟨rfl, rfl, by simp⟩⟩
  case round =>
    obtain ⟨k, n, m, rfl, rfl, rfl, hk, T⟩ := hrel
    by_cases hlt : k < s.size
    · obtain ⟨b, hb⟩ : ∃ b, s[k]'hlt = b := ⟨_, rfl⟩
      have h8 := HA.out k hlt
      rw [hb] at h8
      have hsl := wsl_fe s k (by omega) (by omega)
      rw [show ((k : Int)).toNat = k from rfl] at hsl
      have h0 : (s.extract k s.size).data.toList[0]? = some b := by
        rw [← ByteArray.toList_eq, ext_list, List.take_of_length_le (by rw [List.length_drop, size_list]; exact Nat.le_refl _), drop_list s k hlt, hb]
        rfl
      have CD := hid (fun w => Tryz.utf8_DecodeRuneInString_ascii (s.extract k s.size) b w h0 h8)
      obtain ⟨R, hR⟩ : ∃ R, b.toNat = R := ⟨_, rfl⟩
      have CS := hid (fun W => space_any R (by omega) b hR W)
      rw [hR] at CD
      have hw : IntKind.i64.wrap ((k : Int) + 1) = (k : Int) + 1 := IntWalk.i64_in _ (by omega)
      obtain ⟨q, hq⟩ : ∃ q, isSp b = q := ⟨_, rfl⟩
      rw [hq] at CS
      have HQ := hid hq
      have HB := hid hb
      clear hq h0 hR h8 hb
      generalize s.extract k s.size = x at hsl CD
      cases q with
      | true =>
        go_wp2_with (first
          | (go_at_call 68; refine (CD.out _).mono ?_; rintro e w2 ⟨rfl, rfl⟩)
          | (go_at_call 69; refine (CS.out _).mono ?_; rintro e w2 ⟨rfl, rfl⟩))
        go_round
        case rel => exact ⟨k + 1, n, m, rfl, rfl, by go_num, by omega, trel_blank T.out hlt (by rw [HB.out]; exact HQ.out)⟩
        case measure => simp [intOf]; omega
      | false =>
        by_cases hn : n < 0
        · go_wp2_with (first
            | (go_at_call 68; refine (CD.out _).mono ?_; rintro e w2 ⟨rfl, rfl⟩)
            | (go_at_call 69; refine (CS.out _).mono ?_; rintro e w2 ⟨rfl, rfl⟩))
          go_round
          case rel => exact ⟨k + 1, k, (k : Int) + 1, rfl, by go_num, by go_num, by omega, trel_first T.out hlt hn⟩
          case measure => simp [intOf]; omega
        · go_wp2_with (first
            | (go_at_call 68; refine (CD.out _).mono ?_; rintro e w2 ⟨rfl, rfl⟩)
            | (go_at_call 69; refine (CS.out _).mono ?_; rintro e w2 ⟨rfl, rfl⟩))
          go_round
          case rel => exact ⟨k + 1, n, (k : Int) + 1, rfl, by go_num, by go_num, by omega, trel_more T.out hlt (by omega)⟩
          case measure => simp [intOf]; omega
    · have hks : k = s.size := by omega
      subst hks
      rcases T.out with ⟨rfl, rfl, h3⟩ | ⟨a, b, rfl, rfl, h3, h4, h5, h6⟩
      · rw [take_all] at h3
        have H3 := hid h3
        clear h3 T
        go_wp2_with fail
        go_ret
        exact ⟨⟨_, rfl, trimmed_none H3.out⟩, rfl⟩
      · have hsl := wsl_ft s a b (by omega) (by omega) (by omega)
        rw [show ((a : Int)).toNat = a from rfl] at hsl
        rw [take_all] at h6
        have H5 := hid h5
        have H6 := hid h6
        have hna : ¬ (a : Int) < 0 := by omega
        clear h5 h6 T
        go_wp2_with fail
        go_ret
        refine ⟨⟨_, rfl, s.toList.take a, s.toList.drop b, ?_, H5.out, H6.out⟩, rfl⟩
        rw [ext_list]
        conv => lhs; rw [← List.take_append_drop a s.toList, mid_drop s.toList a b (by omega)]
        simp

theorem run_index_at (s : ByteArray) (k : Nat) (h : k < s.size) (w : World) : (Instr.index 9 (.string s) (.int .i64 (k : Int))).run Tryz.prog w = .ok (.int .u8 (s[k]'h).toNat) w := by
  rw [run_index_string (P := Tryz.prog) w 9 s .i64 (k : Int) Tryz.underlying9, dif_pos ⟨by omega, by omega⟩]
  rfl
theorem run_index_up (s : ByteArray) (k : Nat) (h : k + 1 < s.size) (w : World) : (Instr.index 9 (.string s) (.int .i64 ((k : Int) + 1))).run Tryz.prog w = .ok (.int .u8 (s[k + 1]'h).toNat) w := run_index_at s (k + 1) h w
theorem dots_any (s : ByteArray) (hs : s.size ≤ 400000) (w : World) : Calls Tryz.prog 67 #[.string s] w fun e w' => Says e True ∧ w' = w := by
  go_enter Tryz.func67, Tryz.ntmps67
  by_cases h2 : s.size < 2
  · have u2 : (s.size : Int) < 2 := by omega
    go_wp2_with fail
    go_ret
    exact ⟨⟨_, rfl, fun _ => trivial⟩, rfl⟩
  · have u2 : ¬ (s.size : Int) < 2 := by omega
    have hw1 : IntKind.i64.wrap ((s.size : Int) - 1) = (s.size : Int) - 1 := IntWalk.i64_in _ (by omega)
    go_wp2_with fail
    go_loop [3] (fun i => ∃ k : Nat, k + 1 ≤ s.size ∧ i = .int .i64 k) (fun i => s.size - (intOf i).toNat)
    case atStart => exact ⟨0, by omega, rfl⟩
    case round =>
      obtain ⟨k, hk, rfl⟩ := hrel
      by_cases hlt : k + 1 < s.size
      · have u3 : (k : Int) < (s.size : Int) - 1 := by omega
        have h0 : k < s.size := by omega
        have hw : IntKind.i64.wrap ((k : Int) + 1) = (k : Int) + 1 := IntWalk.i64_in _ (by omega)
        obtain ⟨b, hb⟩ : ∃ b, s[k]'h0 = b := ⟨_, rfl⟩
        obtain ⟨c, hc⟩ : ∃ c, s[k + 1]'hlt = c := ⟨_, rfl⟩
        have hi0 : ∀ w, (Instr.index 9 (.string s) (.int .i64 (k : Int))).run Tryz.prog w = .ok (.int .u8 b.toNat) w := fun w => by rw [← hb]; exact run_index_at s k h0 w
        have hi1 : ∀ w, (Instr.index 9 (.string s) (.int .i64 ((k : Int) + 1))).run Tryz.prog w = .ok (.int .u8 c.toNat) w := fun w => by rw [← hc]; exact run_index_up s k hlt w
        by_cases h46 : ((b.toNat : Int) == 46) = true
        · by_cases h46c : ((c.toNat : Int) == 46) = true
          · go_wp2_with fail
            go_ret
            exact ⟨⟨_, rfl, fun _ => trivial⟩, rfl⟩
          · rw [Bool.not_eq_true] at h46c
            go_wp2_with fail
            go_round
            case rel => exact ⟨k + 1, by omega, by go_num⟩
            case measure => simp [intOf]; omega
        · rw [Bool.not_eq_true] at h46
          go_wp2_with fail
          go_round
          case rel => exact ⟨k + 1, by omega, by go_num⟩
          case measure => simp [intOf]; omega
      · have u3 : ¬ (k : Int) < (s.size : Int) - 1 := by omega
        go_wp2_with fail
        go_ret
        exact ⟨⟨_, rfl, fun _ => trivial⟩, rfl⟩

/-- The location's error. -/
def LocV (w : World) : Prop := ∃ u v, w.cell? ⟨0, 0, none⟩ = some (.iface u v)
theorem loc_kept : Kept LocV := fun w w' ⟨u, v, h⟩ hb => ⟨u, v, cell_on hb h⟩
theorem utc_any (w : World) : Calls Tryz.prog 66 #[] w fun e w' => (∃ p, e = .returned p) ∧ Below w.heap.size w w' := by
  go_enter Tryz.func66, Tryz.ntmps66
  go_wp2_with fail
  go_ret
  exact ⟨⟨_, rfl⟩, by go_grown⟩
/-- What LoadLocation answers: a location, or an error. -/
def LocOut (e : Ending) : Prop := ∃ p E, e = .returned (.tuple #[p, E]) ∧ (E = .nilIface ∨ ∃ (t : TypeId) (q : Value), E = .iface t q)
set_option maxHeartbeats 1600000 in
set_option maxRecDepth 100000 in
theorem load_any (s : ByteArray) (hs : s.size ≤ 400000) (w : World) (hv : LocV w) : Calls Tryz.prog 42 #[.string s] w fun e w' => LocOut e ∧ Below w.heap.size w w' := by
  have CU := hid utc_any
  have CD := hid (fun w => dots_any s hs w)
  obtain ⟨u, v, hg⟩ := hv
  by_cases h0 : s.toList = []
  · have e0 : (s.toList == []) = true := by rw [h0]; rfl
    clear h0
    go_enter Tryz.func42, Tryz.ntmps42
    go_wp2_with (go_at_call 66; refine (CU.out _).mono ?_; rintro e w2 ⟨⟨p, rfl⟩, hb⟩; replace hb := hid hb)
    go_returns
    exact ⟨⟨p, _, rfl, .inl rfl⟩, hb.out⟩
  have e0 : (s.toList == []) = false := by simpa using h0
  by_cases h1 : s.toList = [85, 84, 67]
  · have e1 : (s.toList == [85, 84, 67]) = true := by rw [h1]; rfl
    clear h0 h1
    go_enter Tryz.func42, Tryz.ntmps42
    go_wp2_with (go_at_call 66; refine (CU.out _).mono ?_; rintro e w2 ⟨⟨p, rfl⟩, hb⟩; replace hb := hid hb)
    go_returns
    exact ⟨⟨p, _, rfl, .inl rfl⟩, hb.out⟩
  have e1 : (s.toList == [85, 84, 67]) = false := by simpa using h1
  by_cases h2 : s.toList = [76, 111, 99, 97, 108]
  · have e2 : (s.toList == [76, 111, 99, 97, 108]) = true := by rw [h2]; rfl
    clear h0 h1 h2
    go_enter Tryz.func42, Tryz.ntmps42
    go_wp2_with fail
    go_returns
    exact ⟨⟨_, _, rfl, .inl rfl⟩, Below.refl _ _⟩
  have e2 : (s.toList == [76, 111, 99, 97, 108]) = false := by simpa using h2
  have hp : 0 < s.size := by
    rcases Nat.eq_zero_or_pos s.size with h | h
    · exact absurd (List.length_eq_zero_iff.1 ((size_list s).trans h)) h0
    · exact h
  have hi0 : ∀ w, (Instr.index 9 (.string s) (.int .i64 0)).run Tryz.prog w = .ok (.int .u8 (s[0]'hp).toNat) w := fun w => run_index_at s 0 hp w
  have hq : ∀ d os, (Go.Sort.grow (redrawn w d) os).cell? ⟨0, 0, none⟩ = some (.iface u v) := fun d os => cell_on (below_regrown w d os) hg
  generalize s[0]'hp = b at hi0
  clear h0 h1 h2 hp
  by_cases hb1 : ((b.toNat : Int) == 47) = true
  · go_enter Tryz.func42, Tryz.ntmps42
    go_upto_region 6 with (first
      | (go_at_call 67; refine (CD.out _).mono ?_; rintro e w2 ⟨⟨q, rfl, _⟩, rfl⟩; rcases q with _ | _)
      | (go_at_call 39; refine (new_any _ _).mono ?_; rintro e w3 ⟨⟨t2, p2, rfl⟩, hn⟩; replace hn := hid hn))
    all_goals first
      | (go_returns
         exact ⟨⟨_, _, rfl, .inr ⟨t2, p2, rfl⟩⟩, hn.out⟩)
      | (refine wp_region_quiet_below (by kernel_rfl) (by kernel_rfl) ?_
         repeat (go_big_quiet_step (fail))
         refine wpQuiet_nil ?_
         intro _ hw'
         obtain ⟨⟨dq, osq⟩, hw''⟩ := hw'
         subst hw''
         go_wp2_with fail
         go_returns
         exact ⟨⟨_, _, rfl, .inr ⟨u, v, rfl⟩⟩, below_regrown _ dq osq⟩)
  rw [Bool.not_eq_true] at hb1
  by_cases hb2 : ((b.toNat : Int) == 92) = true
  · go_enter Tryz.func42, Tryz.ntmps42
    go_upto_region 6 with (first
      | (go_at_call 67; refine (CD.out _).mono ?_; rintro e w2 ⟨⟨q, rfl, _⟩, rfl⟩; rcases q with _ | _)
      | (go_at_call 39; refine (new_any _ _).mono ?_; rintro e w3 ⟨⟨t2, p2, rfl⟩, hn⟩; replace hn := hid hn))
    all_goals first
      | (go_returns
         exact ⟨⟨_, _, rfl, .inr ⟨t2, p2, rfl⟩⟩, hn.out⟩)
      | (refine wp_region_quiet_below (by kernel_rfl) (by kernel_rfl) ?_
         repeat (go_big_quiet_step (fail))
         refine wpQuiet_nil ?_
         intro _ hw'
         obtain ⟨⟨dq, osq⟩, hw''⟩ := hw'
         subst hw''
         go_wp2_with fail
         go_returns
         exact ⟨⟨_, _, rfl, .inr ⟨u, v, rfl⟩⟩, below_regrown _ dq osq⟩)
  · rw [Bool.not_eq_true] at hb2
    go_enter Tryz.func42, Tryz.ntmps42
    go_upto_region 6 with (first
      | (go_at_call 67; refine (CD.out _).mono ?_; rintro e w2 ⟨⟨q, rfl, _⟩, rfl⟩; rcases q with _ | _)
      | (go_at_call 39; refine (new_any _ _).mono ?_; rintro e w3 ⟨⟨t2, p2, rfl⟩, hn⟩; replace hn := hid hn))
    all_goals first
      | (go_returns
         exact ⟨⟨_, _, rfl, .inr ⟨t2, p2, rfl⟩⟩, hn.out⟩)
      | (refine wp_region_quiet_below (by kernel_rfl) (by kernel_rfl) ?_
         repeat (go_big_quiet_step (fail))
         refine wpQuiet_nil ?_
         intro _ hw'
         obtain ⟨⟨dq, osq⟩, hw''⟩ := hw'
         subst hw''
         go_wp2_with fail
         go_returns
         exact ⟨⟨_, _, rfl, .inr ⟨u, v, rfl⟩⟩, below_regrown _ dq osq⟩)

set_option maxHeartbeats 3200000 in
set_option maxRecDepth 100000 in
theorem normG_few (o : Int) (t : Nat → Bool) (fs : List ByteArray) (ao : Option Addr) (cap : Nat) (w : World) (ho : Opts o t) (h2 : bits .and .i64 o 2 = 0) (h128 : bits .and .i64 o 128 = 0) (hlen : fs.length < cntT t 6) :
    Calls Tryz.prog 46 #[.slice ao fs.length cap, .int .i64 o] w fun e w' => (∃ (t : TypeId) (p : Value), e = .returned (.tuple #[.slice none 0 0, .iface t p])) ∧ Below w.heap.size w w' := by
  have HO := hid ho
  have HL := hid hlen
  clear ho hlen
  go_enter Tryz.func46, Tryz.ntmps46
  go_wp2_with (go_at_call 73; refine (places_any _).mono ?_; rintro e w1 ⟨rfl, rfl⟩)
  have KP := hid (Blk.new w 54 #[.int .i64 1, .int .i64 4, .int .i64 8, .int .i64 16, .int .i64 32, .int .i64 64])
  have B1 := hid (show Below w.heap.size w (w.alloc (.cells #[.int .i64 1, .int .i64 4, .int .i64 8, .int .i64 16, .int .i64 32, .int .i64 64] 54)) by go_grown)
  generalize (w.alloc (.cells #[.int .i64 1, .int .i64 4, .int .i64 8, .int .i64 16, .int .i64 32, .int .i64 64] 54)) = w1 at KP B1 ⊢
  go_loopw [35, 7] (fun i c wr => ∃ k : Nat, k ≤ 6 ∧ i = .int .i64 k ∧ c = .int .i64 ((cntT t k : Nat) : Int) ∧ wr = w1) (fun i _ _ => 6 - (intOf i).toNat)
  case atStart => exact ⟨0, by omega, rfl, rfl, rfl⟩
  case round =>
    obtain ⟨k, hk, rfl, rfl, rfl⟩ := hrel
    by_cases hlt : k < 6
    · have hp : wr.cell? ⟨w.heap.size, k, none⟩ = some (.int .i64 (pl k)) := (KP.out.cell k).trans (pl_at hlt)
      have hb := HO.out k hlt
      have hpp := pl_pos k
      have hc := cntT_le t k
      by_cases ht : t k = true
      · rw [if_pos ht] at hb
        have HT := hid ht
        clear ht
        generalize pl k = p at hp hb hpp
        go_wp2_with fail
        go_roundw
        case rel => exact ⟨k + 1, by omega, by go_num, by rw [cntT_yes HT.out]; go_num, trivial⟩
        case measure => simp [intOf]; omega
      · rw [if_neg ht] at hb
        have HT := hid ht
        clear ht
        generalize pl k = p at hp hb hpp
        go_wp2_with fail
        go_roundw
        case rel => exact ⟨k + 1, by omega, by go_num, by rw [cntT_no HT.out], trivial⟩
        case measure => simp [intOf]; omega
    · obtain rfl : k = 6 := by omega
      have hl : (fs.length : Int) < ((cntT t 6 : Nat) : Int) := by have := HL.out; omega
      have hc := cntT_le t 6
      clear HL HO
      generalize cntT t 6 = c at hl hc
      go_wp2_with (go_at_call 39; refine (new_any _ _).mono ?_; rintro e w3 ⟨⟨t2, p2, rfl⟩, hn⟩; replace hn := hid hn)
      go_returns
      exact ⟨⟨t2, p2, rfl⟩, bt B1.out hn.out⟩

theorem prefix_any (s p : ByteArray) (w : World) : Calls Tryz.prog 40 #[.string s, .string p] w fun e w' => e = .returned (.bool (Lib.hasPrefix s.toList p.toList)) ∧ w' = w :=
  (Tryz.strings_HasPrefix s p w).mono fun e w' ⟨h1, h2⟩ => ⟨by rw [h1, ByteArray.toList_eq, ByteArray.toList_eq], h2⟩
/-- An answer that refuses. -/
def Refused (e : Ending) : Prop := ∃ (t : TypeId) (p : Value), e = .returned (.tuple #[.nilIface, .iface t p])
set_option maxHeartbeats 3200000 in
set_option maxRecDepth 100000 in
theorem parse_at (s : ByteArray) (o : Int) (w : World) (hs0 : 1 ≤ s.size) (hz : zoned s = false) (h64 : Lib.hasPrefix s.toList (⟨#[64]⟩ : ByteArray).toList = true) (h256 : bits .and .i64 o 256 = 0) :
    Calls Tryz.prog 25 #[.agg #[.int .i64 o], .string s] w fun e w' => Refused e ∧ Below w.heap.size w w' := by
  have z0 : ((s.size : Int) == 0) = false := by rw [beq_eq_false_iff_ne]; omega
  obtain ⟨hz1, hz2⟩ := Bool.or_eq_false_iff.1 (show (Lib.hasPrefix s.toList (⟨#[84, 90, 61]⟩ : ByteArray).toList || Lib.hasPrefix s.toList (⟨#[67, 82, 79, 78, 95, 84, 90, 61]⟩ : ByteArray).toList) = false from hz)
  have H1 := hid (fun w => prefix_any s ⟨#[84, 90, 61]⟩ w)
  have H2 := hid (fun w => prefix_any s ⟨#[67, 82, 79, 78, 95, 84, 90, 61]⟩ w)
  have H3 := hid (fun w => prefix_any s ⟨#[64]⟩ w)
  rw [hz1] at H1
  rw [hz2] at H2
  rw [h64] at H3
  clear hz1 hz2 hz h64 hs0
  go_enter Tryz.func25, Tryz.ntmps25
  go_wp2_with (first
    | (go_at_call_of 40 (Value.string ⟨#[84, 90, 61]⟩); refine (H1.out _).mono ?_; rintro e w' ⟨rfl, rfl⟩)
    | (go_at_call_of 40 (Value.string ⟨#[67, 82, 79, 78, 95, 84, 90, 61]⟩); refine (H2.out _).mono ?_; rintro e w' ⟨rfl, rfl⟩)
    | (go_at_call_of 40 (Value.string ⟨#[64]⟩); refine (H3.out _).mono ?_; rintro e w' ⟨rfl, rfl⟩)
    | (go_at_call 39; refine (new_any _ _).mono ?_; rintro e w3 ⟨⟨t2, p2, rfl⟩, hn⟩; replace hn := hid hn))
  go_returns
  exact ⟨⟨t2, p2, rfl⟩, bt (by go_grown) hn.out⟩

set_option maxHeartbeats 3200000 in
set_option maxRecDepth 100000 in
theorem parse_tz (s : ByteArray) (i e : Nat) (o : Int) (t : Nat → Bool) (w : World) (hs : s.size ≤ 400000) (ha : ∀ k (h : k < s.size), (s[k]'h).toNat < 128) (hz : zoned s = true)
    (hi : s.toList[i]? = some 32) (hi2 : (32 : UInt8) ∉ s.toList.take i) (he : s.toList[e]? = some 61) (he2 : (61 : UInt8) ∉ s.toList.take e) (hei : e < i) (hfew : (wl (s.toList.drop i)).length < cntT t 6)
    (ho : Opts o t) (h2 : bits .and .i64 o 2 = 0) (h128 : bits .and .i64 o 128 = 0) (h256 : bits .and .i64 o 256 = 0) (hv : LocV w) :
    Calls Tryz.prog 25 #[.agg #[.int .i64 o], .string s] w fun e w' => Refused e ∧ Below w.heap.size w w' := by
  have hil : i < s.size := by
    have := (List.getElem?_eq_some_iff.1 hi).1
    rwa [size_list] at this
  have z0 : ((s.size : Int) == 0) = false := by rw [beq_eq_false_iff_ne]; omega
  have H1 := hid (fun w => prefix_any s ⟨#[84, 90, 61]⟩ w)
  have H2 := hid (fun w => prefix_any s ⟨#[67, 82, 79, 78, 95, 84, 90, 61]⟩ w)
  have hzz : (Lib.hasPrefix s.toList (⟨#[84, 90, 61]⟩ : ByteArray).toList || Lib.hasPrefix s.toList (⟨#[67, 82, 79, 78, 95, 84, 90, 61]⟩ : ByteArray).toList) = true := hz
  generalize Lib.hasPrefix s.toList (⟨#[84, 90, 61]⟩ : ByteArray).toList = b1 at H1 hzz
  generalize Lib.hasPrefix s.toList (⟨#[67, 82, 79, 78, 95, 84, 90, 61]⟩ : ByteArray).toList = b2 at H2 hzz
  have CB := hid (fun w => index_atB s i w (by omega) hi hi2)
  have CE := hid (fun w => index_atE s e w (by omega) he he2)
  have hw : IntKind.i64.wrap ((e : Int) + 1) = (e : Int) + 1 := IntWalk.i64_in _ (by omega)
  have hsl := wsl_ft s ((e : Int) + 1) i (by omega) (by omega) (by omega)
  have hsf := wsl_fe s i (by omega) (by omega)
  rw [show ((i : Int)).toNat = i from rfl] at hsf
  have CL := hid (fun W hW => load_any (s.extract ((e : Int) + 1).toNat i) (by rw [ByteArray.size_extract]; omega) W hW)
  have hx : ∀ k (h : k < (s.extract i s.size).size), ((s.extract i s.size)[k]'h).toNat < 128 := by
    intro k hk
    rw [ByteArray.getElem_extract]
    exact ha _ _
  have hxs : (s.extract i s.size).size ≤ 400000 := by rw [ByteArray.size_extract]; omega
  have CT := hid (fun w => trim_any (s.extract i s.size) hx hxs w)
  have hfew2 : (wl (s.extract i s.size).toList).length < cntT t 6 := by
    rw [ext_list, List.take_of_length_le (by rw [List.length_drop, size_list]; exact Nat.le_refl _)]
    exact hfew
  have HX := hid hx
  have HXS := hid hxs
  have HFEW := hid hfew2
  have HN := hid (fun (fs : List ByteArray) (ao : Option Addr) (cap : Nat) (W : World) (hl : fs.length < cntT t 6) => normG_few o t fs ao cap W ho h2 h128 hl)
  have HV := hid hv
  have B0 := hid (show Below w.heap.size w (w.alloc (.cells #[.int .i64 o] 56)) by go_grown)
  have K0 := hid (Blk.new w 56 #[.int .i64 o])
  clear hx hxs hfew hfew2 hi hi2 he he2 ho h2 h128 ha hz hv
  generalize s.extract ((e : Int) + 1).toNat i = nm at hsl CL
  generalize s.extract i s.size = x at hsf CT HX HXS HFEW
  cases b1 with
  | true =>
    clear hzz
    go_enter Tryz.func25, Tryz.ntmps25
    go_upto_region 1 with fail
    generalize (w.alloc (.cells #[.int .i64 o] 56)) = w0 at K0 B0 ⊢
    have LV0 := hid (loc_kept _ _ HV.out B0.out)
    go_upto_region 9 with (first
      | (go_at_call_of 40 (Value.string ⟨#[84, 90, 61]⟩); refine (H1.out _).mono ?_; rintro e w' ⟨rfl, rfl⟩)
      | (go_at_call_of 40 (Value.string ⟨#[67, 82, 79, 78, 95, 84, 90, 61]⟩); refine (H2.out _).mono ?_; rintro e w' ⟨rfl, rfl⟩)
      | (go_at_call_of 41 (Value.string ⟨#[32]⟩); refine (CB.out _).mono ?_; rintro e w' ⟨rfl, rfl⟩)
      | (go_at_call_of 41 (Value.string ⟨#[61]⟩); refine (CE.out _).mono ?_; rintro e w' ⟨rfl, rfl⟩)
      | (go_at_call 42; refine (CL.out _ LV0.out).mono ?_; rintro e w1 ⟨⟨p, E, rfl, hE⟩, hb⟩; have B1 := hid (bt B0.out hb); have K1 := hid (K0.out.below hb); have HE := hid hE; clear hb hE))
    rcases HE.out with rfl | ⟨tt, pp, rfl⟩
    · clear HE
      go_upto_region 12 with (go_at_call 43; refine (CT.out _).mono ?_; rintro e w2 ⟨⟨r, rfl, htr⟩, rfl⟩; have HT := hid htr; clear htr)
      have H3 := hid (fun w => prefix_any r ⟨#[64]⟩ w)
      have HW := hid (fun w => words_any r (trimmed_ascii HT.out HX.out) w (Nat.le_trans (trimmed_size HT.out) HXS.out))
      have HL := hid (show (wds r).length < cntT t 6 by
        have h1 := congrArg List.length (wds_list r)
        rw [List.length_map, ← trimmed_words HT.out] at h1
        rw [h1]
        exact HFEW.out)
      generalize Lib.hasPrefix r.toList (⟨#[64]⟩ : ByteArray).toList = b3 at H3
      generalize wds r = fs at HW HL
      have k0 := K1.out.cell 0
      rename World => wz
      cases b3 with
      | true =>
        go_wp2_with (first
          | (go_at_call 40; refine (H3.out _).mono ?_; rintro e w' ⟨rfl, rfl⟩)
          | (go_at_call 39; refine (new_any _ _).mono ?_; rintro e w3 ⟨⟨t2, p2, rfl⟩, hn⟩; replace hn := hid hn))
        go_returns
        exact ⟨⟨t2, p2, rfl⟩, bt B1.out hn.out⟩
      | false =>
        go_upto_region 17 with (first
          | (go_at_call 40; refine (H3.out _).mono ?_; rintro e w' ⟨rfl, rfl⟩)
          | (go_at_call 45; refine (HW.out _).mono ?_; rintro e w3 ⟨v, rfl, hown, hb⟩; have B3 := hid (bt B1.out hb); have K3 := hid (K1.out.below hb); obtain ⟨ao, c, rfl, _⟩ := of_own hown; clear hown hb))
        clear k0
        have KE := hid (Blk.new w3 63 #[.nilIface])
        have B4 := hid (bt B3.out (show Below w3.heap.size w3 (w3.alloc (.cells #[.nilIface] 63)) by go_grown))
        have K4 := hid (K3.out.alloc (.cells #[.nilIface] 63))
        go_upto_region 18 with fail
        obtain ⟨ge, hge⟩ : ∃ ge, w3.heap.size = ge := ⟨_, rfl⟩
        have GE := hid (show w.heap.size ≤ ge from hge ▸ B3.out.size)
        rw [hge] at KE ⊢
        clear hge
        generalize (w3.alloc (.cells #[.nilIface] 63)) = w4 at KE B4 K4 ⊢
        have l0 : w4.cell? ⟨w.heap.size, 0, none⟩ = some (.int .i64 o) := K4.out.cell 0
        have CN := hid (HN.out fs ao c w4 HL.out)
        go_upto_region 20 with (go_at_call 46; refine CN.out.mono ?_; rintro e w5 ⟨⟨t2, p2, rfl⟩, hb⟩; have B5 := hid (bt B4.out hb); have E5 := hid (KE.out.below hb); have e0 : w5.cell? ⟨ge, 0, none⟩ = some .nilIface := E5.out.cell 0; have f0 : w5.frozen? ⟨ge, 0, none⟩ = false := E5.out.frozen 0; clear hb)
        have E6 := hid (show Blk (w5.setCell ⟨ge, 0, none⟩ (.iface t2 p2)) ge 63 #[.iface t2 p2] from E5.out.set 0 (.iface t2 p2))
        have B6 := hid (below_set B5.out GE.out 0 (.iface t2 p2))
        generalize (w5.setCell ⟨ge, 0, none⟩ (.iface t2 p2)) = w6 at E6 B6 ⊢
        have l8 : ∀ d os, (Go.Sort.grow (redrawn w6 d) os).cell? ⟨ge, 0, none⟩ = some (.iface t2 p2) := fun d os => (blk_gr E6.out d os).cell 0
        refine wp_region_quiet_below (by kernel_rfl) (by kernel_rfl) ?_
        repeat (go_big_quiet_step (fail))
        refine wpQuiet_nil ?_
        intro _ hw'
        obtain ⟨⟨dq, osq⟩, hw''⟩ := hw'
        subst hw''
        go_wp2_with fail
        go_returns
        exact ⟨⟨t2, p2, rfl⟩, bt B6.out (below_regrown w6 dq osq)⟩
    · go_wp2_with (go_at_call 39; refine (new_any _ _).mono ?_; rintro e w3 ⟨⟨t2, p2, rfl⟩, hn⟩; replace hn := hid hn)
      go_returns
      exact ⟨⟨t2, p2, rfl⟩, bt B1.out hn.out⟩
  | false =>
    rw [Bool.false_or] at hzz
    subst hzz
    go_enter Tryz.func25, Tryz.ntmps25
    go_upto_region 1 with fail
    generalize (w.alloc (.cells #[.int .i64 o] 56)) = w0 at K0 B0 ⊢
    have LV0 := hid (loc_kept _ _ HV.out B0.out)
    go_upto_region 9 with (first
      | (go_at_call_of 40 (Value.string ⟨#[84, 90, 61]⟩); refine (H1.out _).mono ?_; rintro e w' ⟨rfl, rfl⟩)
      | (go_at_call_of 40 (Value.string ⟨#[67, 82, 79, 78, 95, 84, 90, 61]⟩); refine (H2.out _).mono ?_; rintro e w' ⟨rfl, rfl⟩)
      | (go_at_call_of 41 (Value.string ⟨#[32]⟩); refine (CB.out _).mono ?_; rintro e w' ⟨rfl, rfl⟩)
      | (go_at_call_of 41 (Value.string ⟨#[61]⟩); refine (CE.out _).mono ?_; rintro e w' ⟨rfl, rfl⟩)
      | (go_at_call 42; refine (CL.out _ LV0.out).mono ?_; rintro e w1 ⟨⟨p, E, rfl, hE⟩, hb⟩; have B1 := hid (bt B0.out hb); have K1 := hid (K0.out.below hb); have HE := hid hE; clear hb hE))
    rcases HE.out with rfl | ⟨tt, pp, rfl⟩
    · clear HE
      go_upto_region 12 with (go_at_call 43; refine (CT.out _).mono ?_; rintro e w2 ⟨⟨r, rfl, htr⟩, rfl⟩; have HT := hid htr; clear htr)
      have H3 := hid (fun w => prefix_any r ⟨#[64]⟩ w)
      have HW := hid (fun w => words_any r (trimmed_ascii HT.out HX.out) w (Nat.le_trans (trimmed_size HT.out) HXS.out))
      have HL := hid (show (wds r).length < cntT t 6 by
        have h1 := congrArg List.length (wds_list r)
        rw [List.length_map, ← trimmed_words HT.out] at h1
        rw [h1]
        exact HFEW.out)
      generalize Lib.hasPrefix r.toList (⟨#[64]⟩ : ByteArray).toList = b3 at H3
      generalize wds r = fs at HW HL
      have k0 := K1.out.cell 0
      rename World => wz
      cases b3 with
      | true =>
        go_wp2_with (first
          | (go_at_call 40; refine (H3.out _).mono ?_; rintro e w' ⟨rfl, rfl⟩)
          | (go_at_call 39; refine (new_any _ _).mono ?_; rintro e w3 ⟨⟨t2, p2, rfl⟩, hn⟩; replace hn := hid hn))
        go_returns
        exact ⟨⟨t2, p2, rfl⟩, bt B1.out hn.out⟩
      | false =>
        go_upto_region 17 with (first
          | (go_at_call 40; refine (H3.out _).mono ?_; rintro e w' ⟨rfl, rfl⟩)
          | (go_at_call 45; refine (HW.out _).mono ?_; rintro e w3 ⟨v, rfl, hown, hb⟩; have B3 := hid (bt B1.out hb); have K3 := hid (K1.out.below hb); obtain ⟨ao, c, rfl, _⟩ := of_own hown; clear hown hb))
        clear k0
        have KE := hid (Blk.new w3 63 #[.nilIface])
        have B4 := hid (bt B3.out (show Below w3.heap.size w3 (w3.alloc (.cells #[.nilIface] 63)) by go_grown))
        have K4 := hid (K3.out.alloc (.cells #[.nilIface] 63))
        go_upto_region 18 with fail
        obtain ⟨ge, hge⟩ : ∃ ge, w3.heap.size = ge := ⟨_, rfl⟩
        have GE := hid (show w.heap.size ≤ ge from hge ▸ B3.out.size)
        rw [hge] at KE ⊢
        clear hge
        generalize (w3.alloc (.cells #[.nilIface] 63)) = w4 at KE B4 K4 ⊢
        have l0 : w4.cell? ⟨w.heap.size, 0, none⟩ = some (.int .i64 o) := K4.out.cell 0
        have CN := hid (HN.out fs ao c w4 HL.out)
        go_upto_region 20 with (go_at_call 46; refine CN.out.mono ?_; rintro e w5 ⟨⟨t2, p2, rfl⟩, hb⟩; have B5 := hid (bt B4.out hb); have E5 := hid (KE.out.below hb); have e0 : w5.cell? ⟨ge, 0, none⟩ = some .nilIface := E5.out.cell 0; have f0 : w5.frozen? ⟨ge, 0, none⟩ = false := E5.out.frozen 0; clear hb)
        have E6 := hid (show Blk (w5.setCell ⟨ge, 0, none⟩ (.iface t2 p2)) ge 63 #[.iface t2 p2] from E5.out.set 0 (.iface t2 p2))
        have B6 := hid (below_set B5.out GE.out 0 (.iface t2 p2))
        generalize (w5.setCell ⟨ge, 0, none⟩ (.iface t2 p2)) = w6 at E6 B6 ⊢
        have l8 : ∀ d os, (Go.Sort.grow (redrawn w6 d) os).cell? ⟨ge, 0, none⟩ = some (.iface t2 p2) := fun d os => (blk_gr E6.out d os).cell 0
        refine wp_region_quiet_below (by kernel_rfl) (by kernel_rfl) ?_
        repeat (go_big_quiet_step (fail))
        refine wpQuiet_nil ?_
        intro _ hw'
        obtain ⟨⟨dq, osq⟩, hw''⟩ := hw'
        subst hw''
        go_wp2_with fail
        go_returns
        exact ⟨⟨t2, p2, rfl⟩, bt B6.out (below_regrown w6 dq osq)⟩
    · go_wp2_with (go_at_call 39; refine (new_any _ _).mono ?_; rintro e w3 ⟨⟨t2, p2, rfl⟩, hn⟩; replace hn := hid hn)
      go_returns
      exact ⟨⟨t2, p2, rfl⟩, bt B1.out hn.out⟩
end Go.Proofs.YtomkhhpigpilfaaGreatDoor
