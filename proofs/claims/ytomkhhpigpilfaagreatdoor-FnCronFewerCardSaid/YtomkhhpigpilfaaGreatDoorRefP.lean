/- The reference's cronPieces, CronStep, worse. Walked. -/
import Derived.Test.YtomkhhpigpilfaaGreatDoorRefV
set_option linter.unusedVariables false
set_option linter.unusedSimpArgs false
namespace Go.Proofs.YtomkhhpigpilfaaGreatDoor
open Go.RowKit

theorem worse_any (a b : Nat) (ha : a ≤ 2) (hb : b ≤ 2) (w : World) : Calls Tryz.prog 60 #[.int .i64 a, .int .i64 b] w fun e w' => e = .returned (.int .i64 (worse a b : Nat)) ∧ w = w' := by
  match a, ha, b, hb with
  | 0, _, 0, _ | 0, _, 1, _ | 0, _, 2, _ | 1, _, 0, _ | 1, _, 1, _ | 1, _, 2, _ | 2, _, 0, _ | 2, _, 1, _ | 2, _, 2, _ =>
    go_enter Tryz.func60, Tryz.ntmps60
    go_wp2
    go_ret
    exact ⟨rfl, rfl⟩
  | a + 3, h, _, _ => omega
  | _, _, b + 3, h => omega
theorem numR_vd (l : List UInt8) : (numR l).2 ≤ 2 := by
  unfold numR
  split
  · cases l with
    | nil => decide
    | cons c r =>
      rw [body_cons]
      split
      · exact Nat.le_refl 2
      · split
        · exact Nat.le_refl 2
        · exact Nat.le_succ 1
  · exact Nat.zero_le 2
theorem step_any (s : ByteArray) (hs : s.size ≤ 65536) (w : World) : Calls Tryz.prog 112 #[.string s] w fun e w' => e = .returned (RetV (stepR s.toList)) ∧ w = w' := by
  have CN := hid (fun w => number_any s hs w)
  obtain ⟨n, hn⟩ : ∃ n, (numR s.toList).1 = n := ⟨_, rfl⟩
  obtain ⟨v, hv⟩ : ∃ v, (numR s.toList).2 = v := ⟨_, rfl⟩
  have HE := hid (show stepR s.toList = if v = 0 ∨ n = 0 then (0, 0) else if n = H40 then (0, 2) else (n, v) by
    unfold stepR
    rw [hn, hv]
    split
    · rfl
    · split
      · rfl
      · exact Prod.ext hn hv)
  rw [hn, hv] at CN
  clear hn hv hs
  by_cases h0 : v = 0
  · subst h0
    go_enter Tryz.func112, Tryz.ntmps112
    go_wp2_with (go_at_call 120; refine (CN.out _).mono ?_; rintro e w' ⟨rfl, rfl⟩)
    go_returns
    exact ⟨by rw [HE.out, if_pos (by simp)]; rfl, rfl⟩
  have e0 : ((v : Int) == 0) = false := by rw [beq_eq_false_iff_ne]; omega
  have H0 := hid h0
  clear h0
  by_cases h1 : n = 0
  · subst h1
    go_enter Tryz.func112, Tryz.ntmps112
    go_wp2_with (go_at_call 120; refine (CN.out _).mono ?_; rintro e w' ⟨rfl, rfl⟩)
    go_returns
    exact ⟨by rw [HE.out, if_pos (by simp)]; rfl, rfl⟩
  have e1 : ((n : Int) == 0) = false := by rw [beq_eq_false_iff_ne]; omega
  have H1 := hid h1
  clear h1
  by_cases h2 : n = H40
  · have H2 := hid h2
    have e2 : ((n : Int) == 1099511627776) = true := by rw [beq_iff_eq]; unfold H40 at h2; omega
    clear h2
    go_enter Tryz.func112, Tryz.ntmps112
    go_wp2_with (go_at_call 120; refine (CN.out _).mono ?_; rintro e w' ⟨rfl, rfl⟩)
    go_returns
    exact ⟨by rw [HE.out, if_neg (fun h => h.elim H0.out H1.out), if_pos H2.out]; rfl, rfl⟩
  · have H2 := hid h2
    have e2 : ((n : Int) == 1099511627776) = false := by rw [beq_eq_false_iff_ne]; unfold H40 at h2; omega
    clear h2
    go_enter Tryz.func112, Tryz.ntmps112
    go_wp2_with (go_at_call 120; refine (CN.out _).mono ?_; rintro e w' ⟨rfl, rfl⟩)
    go_returns
    exact ⟨by rw [HE.out, if_neg (fun h => h.elim H0.out H1.out), if_neg H2.out]; rfl, rfl⟩

theorem slice_ft (s : ByteArray) (n k : Nat) (h1 : n ≤ k) (h : k ≤ s.size) (w : World) : (Instr.slice 9 (.string s) (some (.int .i64 (n : Int))) (some (.int .i64 (k : Int))) none).run Tryz.prog w = .ok (.string (s.extract n k)) w := by
  have := run_slice_string (P := Tryz.prog) w 9 s .i64 .i64 (n : Int) (k : Int) Tryz.underlying9 (by omega) (by omega) (by omega)
  simpa using this
theorem slice_fe (s : ByteArray) (n : Nat) (h1 : n ≤ s.size) (w : World) : (Instr.slice 9 (.string s) (some (.int .i64 (n : Int))) none none).run Tryz.prog w = .ok (.string (s.extract n s.size)) w := by
  rw [run_slice_string_from_if _ _ _ _ _ Tryz.underlying9, if_pos ⟨by omega, by omega⟩]
  congr 2
theorem part_max {xs : List ByteArray} (h : xs.length ≤ 65536) : (xs.map Value.string).length + 1 ≤ maxLen ∧ ((xs.map Value.string).length + 1) * 16 ≤ 140737488355328 := by
  rw [List.length_map]
  unfold maxLen
  omega
/-- What the loop of cronPieces holds: the parts that are found, where the last begins. -/
structure PRel (s : ByteArray) (c : UInt8) (w : World) (k n : Nat) (xs : List ByteArray) (v : Value) (wr : World) : Prop where
  own : wr.ownsRow w.heap.size 9 1 v (xs.map Value.string).length (xs.map Value.string)
  below : Below w.heap.size w wr
  nk : n ≤ k
  len : xs.length ≤ n
  free : c ∉ (s.toList.drop n).take (k - n)
  parts : xs.map (·.toList) ++ cut c (s.toList.drop n) = cut c s.toList
theorem part_hit {s : ByteArray} {c : UInt8} {w : World} {k n : Nat} {xs : List ByteArray} {v v1 : Value} {wr w1 : World} (h : PRel s c w k n xs v wr) (hk : k < s.size) (hc : s[k] = c) (hown : w1.ownsRow w.heap.size 9 1 v1 (xs.map Value.string ++ [Value.string (s.extract n k)]).length (xs.map Value.string ++ [Value.string (s.extract n k)])) (hb : Below w.heap.size wr w1) : PRel s c w (k + 1) (k + 1) (xs ++ [s.extract n k]) v1 w1 where
  own := by simpa using hown
  below := h.below.trans hb
  nk := Nat.le_refl _
  len := by have := h.len; have := h.nk; simp; omega
  free := by simp
  parts := by
    have hd : s.toList.drop n = (s.extract n k).toList ++ c :: s.toList.drop (k + 1) := by
      rw [ext_list]
      have h1 : (s.toList.drop n).drop (k - n) = c :: s.toList.drop (k + 1) := by
        rw [List.drop_drop, show n + (k - n) = k by have := h.nk; omega, drop_list s k hk, hc]
      rw [← h1, List.take_append_drop]
    have hf : c ∉ (s.extract n k).toList := by rw [ext_list]; exact h.free
    have hp := h.parts
    rw [hd, cut_at c _ _ hf] at hp
    simpa using hp
theorem part_miss {s : ByteArray} {c : UInt8} {w : World} {k n : Nat} {xs : List ByteArray} {v : Value} {wr : World} (h : PRel s c w k n xs v wr) (hk : k < s.size) (hc : s[k] ≠ c) : PRel s c w (k + 1) n xs v wr where
  own := h.own
  below := h.below
  nk := Nat.le_succ_of_le h.nk
  len := h.len
  free := by
    have h1 : (s.toList.drop n).take (k + 1 - n) = (s.toList.drop n).take (k - n) ++ [s[k]] := by
      have hlen : k - n < (s.toList.drop n).length := by rw [List.length_drop, size_list]; have := h.nk; omega
      rw [show k + 1 - n = (k - n) + 1 by have := h.nk; omega, List.take_succ_eq_append_getElem hlen]
      congr 2
      rw [List.getElem_drop]
      have := at_list s k hk
      have e : n + (k - n) = k := by have := h.nk; omega
      simp only [e]
      have hl2 : k < s.toList.length := by rw [size_list]; exact hk
      rw [List.getElem?_eq_getElem hl2] at this
      exact Option.some.inj this
    rw [h1]
    simp only [List.mem_append, List.mem_singleton, not_or]
    exact ⟨h.free, fun e => hc e.symm⟩
  parts := h.parts
theorem part_end {s : ByteArray} {c : UInt8} {w : World} {n : Nat} {xs : List ByteArray} {v v1 : Value} {wr w1 : World} (h : PRel s c w s.size n xs v wr) (hown : w1.ownsRow w.heap.size 9 1 v1 (xs.map Value.string ++ [Value.string (s.extract n s.size)]).length (xs.map Value.string ++ [Value.string (s.extract n s.size)])) (hb : Below w.heap.size wr w1) :
    ∃ (xs : List ByteArray) (g k : Nat), v1 = .slice (some ⟨g, 0, none⟩) xs.length k ∧ xs.map (·.toList) = cut c s.toList ∧ StrsAt w1 g xs ∧ Below w.heap.size w w1 := by
  have ho : w1.ownsRow w.heap.size 9 1 v1 (xs ++ [s.extract n s.size]).length ((xs ++ [s.extract n s.size]).map Value.string) := by simpa using hown
  obtain ⟨g, k, hv, _, hst⟩ := strs_of_own ho (by simp)
  refine ⟨_, g, k, hv, ?_, hst, h.below.trans hb⟩
  have hd : (s.extract n s.size).toList = s.toList.drop n := by
    rw [ext_list]
    exact List.take_of_length_le (by rw [List.length_drop, size_list]; omega)
  have hf : c ∉ s.toList.drop n := by
    have := h.free
    rwa [List.take_of_length_le (by rw [List.length_drop, size_list]; omega)] at this
  have hp := h.parts
  rw [cut_none c _ hf] at hp
  simpa [hd] using hp

set_option maxHeartbeats 1600000 in
set_option maxRecDepth 100000 in
theorem piecesS (s : ByteArray) (hs : s.size ≤ 65536) (w : World) : Calls Tryz.prog 102 #[.string s, .int .u8 47] w fun e w' =>
    ∃ (xs : List ByteArray) (g k : Nat), e = .returned (.slice (some ⟨g, 0, none⟩) xs.length k) ∧ xs.map (·.toList) = cut 47 s.toList ∧ StrsAt w' g xs ∧ Below w.heap.size w w' := by
  have HS := hid hs
  go_enter Tryz.func102, Tryz.ntmps102
  go_wp2_with fail
  go_loopw [5, 6, 10] (fun v f i wr => ∃ (k n : Nat) (xs : List ByteArray), k ≤ s.size ∧ i = .int .i64 k ∧ f = .int .i64 n ∧ Hid (PRel s 47 w k n xs v wr)) (fun _ _ i _ => s.size - (intOf i).toNat)
  case atStart => exact ⟨0, 0, [], Nat.zero_le _, rfl, rfl, hid ⟨World.ownsRow_nil _ _ _ _, Below.refl _ _, Nat.le_refl _, Nat.le_refl _, by simp, by simp⟩⟩
  case round =>
    obtain ⟨k, n, xs, hk, rfl, rfl, F⟩ := hrel
    have gn : n ≤ k := F.out.nk
    by_cases hlt : k < s.size
    · obtain ⟨b, hb⟩ : ∃ b, s[k] = b := ⟨_, rfl⟩
      have HB := hid hb
      by_cases hc : b = 47
      · have e : ((b.toNat : Int) == 47) = true := byte_eq b 47 (by rw [hc]; rfl)
        have HC := hid hc
        have hsl := slice_ft s n k gn (by omega)
        have HO := hid F.out.own
        have HA1 := hid (part_max (xs := xs) (by have := F.out.len; omega)).1
        have HA2 := hid (part_max (xs := xs) (by have := F.out.len; omega)).2
        have HSZ := hid F.out.below.size
        clear hc
        go_wp2_with (at_builtin; refine app_one (w0 := wr) w.heap.size rfl (.tmp 18) (.tmp 23) _ _ _ 16 rfl Tryz.underlying22 info_str rfl _ (xs.map Value.string) (.string (s.extract n k)) rfl rfl rfl HO.out (Below.refl _ _) HSZ.out HA1.out HA2.out ?_; intro v1 w1 hown1 hb1; replace hown1 := hid hown1; replace hb1 := hid hb1)
        go_roundw
        case rel => exact ⟨k + 1, k + 1, _, by omega, by go_num, by go_num, hid (part_hit F.out hlt (HB.out.trans HC.out) hown1.out hb1.out)⟩
        case measure => simp [intOf]; omega
      · have e : ((b.toNat : Int) == 47) = false := byte_ne b 47 (fun h => hc (UInt8.toNat_inj.1 h))
        have HC := hid (show s[k] ≠ 47 by rw [hb]; exact hc)
        clear hc
        go_wp2_with fail
        go_roundw
        case rel => exact ⟨k + 1, n, xs, by omega, by go_num, rfl, hid (part_miss F.out hlt HC.out)⟩
        case measure => simp [intOf]; omega
    · obtain rfl : k = s.size := by omega
      have hsl := slice_fe s n gn
      have HO := hid F.out.own
      have HA1 := hid (part_max (xs := xs) (by have := F.out.len; omega)).1
      have HA2 := hid (part_max (xs := xs) (by have := F.out.len; omega)).2
      have HSZ := hid F.out.below.size
      go_wp2_with (at_builtin; refine app_one (w0 := wr) w.heap.size rfl (.tmp 28) (.tmp 32) _ _ _ 16 rfl Tryz.underlying22 info_str rfl _ (xs.map Value.string) (.string (s.extract n s.size)) rfl rfl rfl HO.out (Below.refl _ _) HSZ.out HA1.out HA2.out ?_; intro v1 w1 hown1 hb1; replace hown1 := hid hown1; replace hb1 := hid hb1)
      obtain ⟨ys, g, m, hv, hp, hst, hbl⟩ := part_end F.out hown1.out hb1.out
      subst hv
      have HR := hid (⟨hp, hst, hbl⟩ : _ ∧ _ ∧ _)
      clear hp hst hbl
      go_wp2_with fail
      go_ret
      exact ⟨ys, g, m, rfl, HR.out.1, HR.out.2.1, HR.out.2.2⟩

set_option maxHeartbeats 1600000 in
set_option maxRecDepth 100000 in
theorem piecesH (s : ByteArray) (hs : s.size ≤ 65536) (w : World) : Calls Tryz.prog 102 #[.string s, .int .u8 45] w fun e w' =>
    ∃ (xs : List ByteArray) (g k : Nat), e = .returned (.slice (some ⟨g, 0, none⟩) xs.length k) ∧ xs.map (·.toList) = cut 45 s.toList ∧ StrsAt w' g xs ∧ Below w.heap.size w w' := by
  have HS := hid hs
  go_enter Tryz.func102, Tryz.ntmps102
  go_wp2_with fail
  go_loopw [5, 6, 10] (fun v f i wr => ∃ (k n : Nat) (xs : List ByteArray), k ≤ s.size ∧ i = .int .i64 k ∧ f = .int .i64 n ∧ Hid (PRel s 45 w k n xs v wr)) (fun _ _ i _ => s.size - (intOf i).toNat)
  case atStart => exact ⟨0, 0, [], Nat.zero_le _, rfl, rfl, hid ⟨World.ownsRow_nil _ _ _ _, Below.refl _ _, Nat.le_refl _, Nat.le_refl _, by simp, by simp⟩⟩
  case round =>
    obtain ⟨k, n, xs, hk, rfl, rfl, F⟩ := hrel
    have gn : n ≤ k := F.out.nk
    by_cases hlt : k < s.size
    · obtain ⟨b, hb⟩ : ∃ b, s[k] = b := ⟨_, rfl⟩
      have HB := hid hb
      by_cases hc : b = 45
      · have e : ((b.toNat : Int) == 45) = true := byte_eq b 45 (by rw [hc]; rfl)
        have HC := hid hc
        have hsl := slice_ft s n k gn (by omega)
        have HO := hid F.out.own
        have HA1 := hid (part_max (xs := xs) (by have := F.out.len; omega)).1
        have HA2 := hid (part_max (xs := xs) (by have := F.out.len; omega)).2
        have HSZ := hid F.out.below.size
        clear hc
        go_wp2_with (at_builtin; refine app_one (w0 := wr) w.heap.size rfl (.tmp 18) (.tmp 23) _ _ _ 16 rfl Tryz.underlying22 info_str rfl _ (xs.map Value.string) (.string (s.extract n k)) rfl rfl rfl HO.out (Below.refl _ _) HSZ.out HA1.out HA2.out ?_; intro v1 w1 hown1 hb1; replace hown1 := hid hown1; replace hb1 := hid hb1)
        go_roundw
        case rel => exact ⟨k + 1, k + 1, _, by omega, by go_num, by go_num, hid (part_hit F.out hlt (HB.out.trans HC.out) hown1.out hb1.out)⟩
        case measure => simp [intOf]; omega
      · have e : ((b.toNat : Int) == 45) = false := byte_ne b 45 (fun h => hc (UInt8.toNat_inj.1 h))
        have HC := hid (show s[k] ≠ 45 by rw [hb]; exact hc)
        clear hc
        go_wp2_with fail
        go_roundw
        case rel => exact ⟨k + 1, n, xs, by omega, by go_num, rfl, hid (part_miss F.out hlt HC.out)⟩
        case measure => simp [intOf]; omega
    · obtain rfl : k = s.size := by omega
      have hsl := slice_fe s n gn
      have HO := hid F.out.own
      have HA1 := hid (part_max (xs := xs) (by have := F.out.len; omega)).1
      have HA2 := hid (part_max (xs := xs) (by have := F.out.len; omega)).2
      have HSZ := hid F.out.below.size
      go_wp2_with (at_builtin; refine app_one (w0 := wr) w.heap.size rfl (.tmp 28) (.tmp 32) _ _ _ 16 rfl Tryz.underlying22 info_str rfl _ (xs.map Value.string) (.string (s.extract n s.size)) rfl rfl rfl HO.out (Below.refl _ _) HSZ.out HA1.out HA2.out ?_; intro v1 w1 hown1 hb1; replace hown1 := hid hown1; replace hb1 := hid hb1)
      obtain ⟨ys, g, m, hv, hp, hst, hbl⟩ := part_end F.out hown1.out hb1.out
      subst hv
      have HR := hid (⟨hp, hst, hbl⟩ : _ ∧ _ ∧ _)
      clear hp hst hbl
      go_wp2_with fail
      go_ret
      exact ⟨ys, g, m, rfl, HR.out.1, HR.out.2.1, HR.out.2.2⟩
end Go.Proofs.YtomkhhpigpilfaaGreatDoor
