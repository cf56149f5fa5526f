/- The semver package's splitting at dots: the list. -/
import Derived.Test.YtkohcmgckkenpaaDoorSplit
set_option linter.unusedVariables false
set_option linter.unusedSimpArgs false
namespace Go.Proofs.YtkohcmgckkenpaaDoor
open Go.RowKit

theorem first_at : ∀ (l : List UInt8), (46 : UInt8) ∈ l → ∃ k, l[k]? = some 46 ∧ (46 : UInt8) ∉ l.take k
  | [], h => by cases h
  | x :: r, h => by
    by_cases hx : x = 46
    · exact ⟨0, by simp [hx], by simp⟩
    · obtain ⟨k, h1, h2⟩ := first_at r ((List.mem_cons.1 h).resolve_left (fun e => hx e.symm))
      exact ⟨k + 1, by simpa using h1, by simp only [List.take_succ_cons, List.mem_cons, not_or]; exact ⟨fun e => hx e.symm, h2⟩⟩

theorem index_none (s : ByteArray) (w : World) (hs : s.size ≤ 2147483647) (h : (46 : UInt8) ∉ s.toList) : Calls Tryd.prog 65 #[.string s, .string ⟨#[46]⟩] w fun e w' => e = .returned (.int .i64 (-1)) ∧ w = w' := by
  refine (index_any s w hs).mono ?_
  rintro e w' ⟨n, rfl, rfl, ⟨rfl, _⟩ | ⟨k, _, _, h1, _⟩⟩
  · exact ⟨rfl, rfl⟩
  · exact absurd (List.mem_of_getElem? h1) h
theorem index_at (s : ByteArray) (k : Nat) (w : World) (hs : s.size ≤ 2147483647) (h : s.toList[k]? = some 46) (h2 : (46 : UInt8) ∉ s.toList.take k) : Calls Tryd.prog 65 #[.string s, .string ⟨#[46]⟩] w fun e w' => e = .returned (.int .i64 k) ∧ w = w' := by
  refine (index_any s w hs).mono ?_
  rintro e w' ⟨n, rfl, rfl, ⟨rfl, hn⟩ | ⟨j, rfl, _, h3, h4⟩⟩
  · exact absurd (List.mem_of_getElem? h) hn
  · obtain rfl : j = k := by
      rcases Nat.lt_trichotomy j k with hl | hl | hl
      · exact absurd (List.mem_of_getElem? (by rw [List.getElem?_take, if_pos hl]; exact h3)) h2
      · exact hl
      · exact absurd (List.mem_of_getElem? (by rw [List.getElem?_take, if_pos hl]; exact h)) h4
    exact ⟨rfl, rfl⟩

def SpRel (s : ByteArray) (W : World) (r : ByteArray) (v : Value) (wr : World) : Prop :=
  ∃ xs : List ByteArray, wr.ownsRow W.heap.size 9 1 v (xs.map Value.string).length (xs.map Value.string) ∧ Below W.heap.size W wr ∧ r.size + xs.length ≤ s.size ∧ xs.map (·.toList) ++ cut 46 r.toList = cut 46 s.toList

theorem sp_at {s r : ByteArray} {W w1 : World} {v1 : Value} {xs : List ByteArray} {k : Nat} (hk : k < r.size) (h1 : r.toList[k]? = some 46) (h2 : (46 : UInt8) ∉ r.toList.take k) (h3 : r.size + xs.length ≤ s.size)
    (h5 : xs.map (·.toList) ++ cut 46 r.toList = cut 46 s.toList)
    (hown : w1.ownsRow W.heap.size 9 1 v1 (xs.map Value.string ++ [Value.string (r.extract 0 k)]).length (xs.map Value.string ++ [Value.string (r.extract 0 k)])) (hb : Below W.heap.size W w1) : SpRel s W (r.extract (k + 1) r.size) v1 w1 := by
  refine ⟨xs ++ [r.extract 0 k], by simpa using hown, hb, by simp; omega, ?_⟩
  have hd : r[k] = 46 := by
    have := at_list r k hk
    rw [h1] at this
    exact (Option.some.inj this).symm
  have e1 : r.toList = r.toList.take k ++ 46 :: r.toList.drop (k + 1) := by
    conv => lhs; rw [← List.take_append_drop k r.toList, drop_list r k hk, hd]
  have e2 : (r.extract (k + 1) r.size).toList = r.toList.drop (k + 1) := by
    rw [ext_list]
    exact List.take_of_length_le (by rw [List.length_drop, size_list]; exact Nat.le_refl _)
  rw [← h5, e2]
  conv => rhs; rw [e1, cut_at 46 _ _ h2]
  simp [ext_list]

theorem sp_end {s r : ByteArray} {W w1 : World} {v1 : Value} {xs : List ByteArray} (h2 : (46 : UInt8) ∉ r.toList)
    (h5 : xs.map (·.toList) ++ cut 46 r.toList = cut 46 s.toList)
    (hown : w1.ownsRow W.heap.size 9 1 v1 (xs.map Value.string ++ [Value.string r]).length (xs.map Value.string ++ [Value.string r])) (hb : Below W.heap.size W w1) :
    ∃ (xs : List ByteArray) (g c : Nat), v1 = .slice (some ⟨g, 0, none⟩) xs.length c ∧ xs.map (·.toList) = cut 46 s.toList ∧ StrsAt w1 g xs ∧ Below W.heap.size W w1 := by
  have ho : w1.ownsRow W.heap.size 9 1 v1 (xs ++ [r]).length ((xs ++ [r]).map Value.string) := by simpa using hown
  obtain ⟨g, c, hv, _, hst⟩ := strs_of_own ho (by simp)
  refine ⟨_, g, c, hv, ?_, hst, hb⟩
  rw [← h5, cut_none 46 _ h2]
  simp

set_option maxRecDepth 100000 in
theorem split_any (s : ByteArray) (w : World) (hs : s.size ≤ 2147483647) : Calls Tryd.prog 62 #[.string s, .string ⟨#[46]⟩] w fun e w' =>
    ∃ (xs : List ByteArray) (g c : Nat), e = .returned (.slice (some ⟨g, 0, none⟩) xs.length c) ∧ xs.map (·.toList) = cut 46 s.toList ∧ StrsAt w' g xs ∧ Below w.heap.size w w' := by
  go_enter Tryd.func62, Tryd.ntmps62
  go_wp2_with fail
  go_loopw [0, 5] (fun rv v wr => ∃ r : ByteArray, rv = .string r ∧ SpRel s w r v wr) (fun rv _ _ => match rv with | .string r => r.size | _ => 0)
  case atStart => exact ⟨s, rfl, [], ⟨by simp, .inl ⟨rfl, by simp⟩⟩, Below.refl _ _, by simp, by simp⟩
  case round =>
    obtain ⟨r, rfl, xs, hown, hb, h3, h5⟩ := hrel
    have H5 := hid h5
    clear h5
    have hbs := hb.size
    by_cases hm : (46 : UInt8) ∈ r.toList
    · obtain ⟨k, h1, h2⟩ := first_at _ hm
      have hk : k < r.size := by
        have := (List.getElem?_eq_some_iff.1 h1).1
        rwa [size_list] at this
      have H1 := hid h1
      have H2 := hid h2
      clear h1 h2 hm
      have hs1 := slice_to r k (by omega)
      have hs2 := slice_from r k hk
      have hw : IntKind.i64.wrap ((k : Int) + 1) = (k : Int) + 1 := IntWalk.i64_in _ (by omega)
      have hk0 : ((k : Int) < 0) = False := by simp
      go_wp2_with (first | (go_at_call 65; refine (index_at r k _ (by omega) H1.out H2.out).mono ?_; rintro e w' ⟨rfl, rfl⟩) | (at_builtin; refine app_one (w0 := w) w.heap.size rfl (.tmp 16) (.tmp 20) _ _ _ 16 rfl Tryd.underlying58 info_str rfl _ (xs.map Value.string) _ rfl rfl rfl hown hb hb.size (by simp [maxLen]; omega) (by simp; omega) ?_; intro v1 w1 hown1 hb1))
      trace_state
      go_roundw
      case rel => exact ⟨_, rfl, sp_at hk H1.out H2.out h3 H5.out hown1 hb1⟩
      case measure => simp; omega
    · have HM := hid hm
      clear hm
      go_wp2_with (first | (go_at_call 65; refine (index_none r _ (by omega) HM.out).mono ?_; rintro e w' ⟨rfl, rfl⟩) | (at_builtin; refine app_one (w0 := w) w.heap.size rfl (.tmp 12) (.tmp 14) _ _ _ 16 rfl Tryd.underlying58 info_str rfl _ (xs.map Value.string) _ rfl rfl rfl hown hb hb.size (by simp [maxLen]; omega) (by simp; omega) ?_; intro v1 w1 hown1 hb1))
      go_ret
      obtain ⟨ys, g, c, hv, h6, h7, h8⟩ := sp_end HM.out H5.out hown1 hb1
      subst hv
      exact ⟨ys, g, c, rfl, h6, h7, h8⟩
end Go.Proofs.YtkohcmgckkenpaaDoor
