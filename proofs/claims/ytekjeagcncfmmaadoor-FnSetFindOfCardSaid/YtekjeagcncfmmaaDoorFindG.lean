/- The law FnSetFindOf, walked: a text without a colon is looked up among parts that ascend: the one that begins with it, none or several. -/
import Derived.Test.YtekjeagcncfmmaaDoorFindF
import Derived.OpenShut
import Derived.Deep.Slices
set_option linter.unusedVariables false
set_option linter.unusedSimpArgs false
namespace Go.Proofs.YtekjeagcncfmmaaDoor
open Go.RowKit

theorem lookup_any (w0 : World) (g n : Nat) (v : Value) (hs : List Nat) (alg : ByteArray) (f : Nat → ByteArray) (t : ByteArray) (aF aN aA : Addr) (w : World) (hn : n ≤ 40) (hA : Asc f n) (hE : ∀ i, i < n → (f i).size = (f 0).size) (ht : t.size ≤ 200) (hF : Fst 58 t (-1)) (V : Vars w0 aF aN aA) (R : ZRel alg f w0 g n v hs w) :
    Calls Tryd.prog 11 #[.pointer (some ⟨g, 0, none⟩), .string t] w fun e w' => Found e aN aA alg f t n ∧ Below w0.heap.size w0 w' := by
  rcases Nat.eq_zero_or_pos n with rfl | h0
  · exact lookup_none w0 g v hs alg f t aF aN aA w V R
  · exact lookup_some w0 g n v hs alg f t aF aN aA w h0 hn hA hE ht hF V R

/-- What SetFind answers. -/
def FoundK (e : Ending) (alg : ByteArray) (f : Nat → ByteArray) (t : ByteArray) (n : Nat) : Prop :=
  (mts t f n = [] ∧ e = .returned (.tuple #[.string ⟨#[]⟩, .int .i64 1])) ∨ (∃ x, mts t f n = [x] ∧ e = .returned (.tuple #[.string (dgOf alg x), .int .i64 0])) ∨ (2 ≤ (mts t f n).length ∧ e = .returned (.tuple #[.string ⟨#[]⟩, .int .i64 2]))

set_option maxHeartbeats 1600000 in
theorem find_any (alg : ByteArray) (ao : Option Addr) (n c : Nat) (f : Nat → ByteArray) (t : ByteArray) (aF aN aA : Addr) (w : World) (ha : alg.size ≤ 50) (hz : ∀ i, i < n → (f i).size ≤ 200) (hS : Strs w ao n f) (hn : n ≤ 40) (hA : Asc f n) (hE : ∀ i, i < n → (f i).size = (f 0).size) (ht : t.size ≤ 200) (hF : Fst 58 t (-1)) (V : Vars w aF aN aA) :
    Calls Tryd.prog 8 #[.string alg, .slice ao n c, .string t] w fun e w' => FoundK e alg f t n ∧ Below w.heap.size w w' := by
  have HZ := hid hz
  have HS := hid hS
  have HA := hid hA
  have HE := hid hE
  have HF := hid hF
  have HV := hid V
  have Ha := hid ha
  have Ht := hid ht
  clear hz hS hA hE hF V ha ht
  go_enter Tryd.func8, Tryd.ntmps8
  go_wp2_with (first | (go_at_call 10; refine (zzSet_any alg ao n c f _ hn Ha.out HZ.out HS.out).mono ?_; rintro e w1 ⟨g, v, hs, rfl, hR⟩; have R1 := hid hR; clear hR) | fail)
  go_at_call 11
  refine (lookup_any w g n v hs alg f t aF aN aA _ hn HA.out HE.out Ht.out HF.out HV.out R1.out).mono ?_
  rintro e w2 ⟨hF2, hb⟩
  have B2 := hid hb
  have V2 := hid (HV.out.below hb)
  clear hb
  rcases hF2 with ⟨h, rfl⟩ | ⟨x, h, rfl⟩ | ⟨h, rfl⟩
  · have H := hid h
    clear h
    go_wp2_with (go_at_call 12; refine (kind_none aF aN aA _ V2.out).mono ?_; rintro e w' ⟨rfl, rfl⟩)
    go_returns
    exact ⟨.inl ⟨H.out, rfl⟩, B2.out⟩
  · have H := hid h
    clear h
    go_wp2_with (go_at_call 12; refine (kind_nil _).mono ?_; rintro e w' ⟨rfl, rfl⟩)
    go_returns
    exact ⟨.inr (.inl ⟨x, H.out, rfl⟩), B2.out⟩
  · have H := hid h
    clear h
    go_wp2_with (go_at_call 12; refine (kind_many aF aN aA _ V2.out).mono ?_; rintro e w' ⟨rfl, rfl⟩)
    go_returns
    exact ⟨.inr (.inr ⟨H.out, rfl⟩), B2.out⟩

theorem mts_mem (t : ByteArray) (f : Nat → ByteArray) (x : ByteArray) : ∀ k, x ∈ mts t f k → ∃ i, i < k ∧ f i = x
  | 0, h => by simp [mts] at h
  | k + 1, h => by
    unfold mts at h
    rw [List.mem_append] at h
    rcases h with h | h
    · obtain ⟨i, hi, e⟩ := mts_mem t f x k h
      exact ⟨i, by omega, e⟩
    · split at h
      · exact ⟨k, by omega, (List.mem_singleton.1 h).symm⟩
      · simp at h

theorem list_none {w' w : World} {l : List ByteArray} (h : l = []) : ∀ {e : Ending}, (∃ bo d, e = .returned (.slice bo l.length d) ∧ ListAt w' bo l) ∧ Below w.heap.size w w' → (∃ bo d, e = .returned (.slice bo 0 d)) ∧ Below w.heap.size w w' := by
  rintro e ⟨⟨bo, d, rfl, _⟩, hb⟩
  exact ⟨⟨bo, d, by rw [h]; rfl⟩, hb⟩
theorem list_one {w' w : World} {l : List ByteArray} {x : ByteArray} (h : l = [x]) : ∀ {e : Ending}, (∃ bo d, e = .returned (.slice bo l.length d) ∧ ListAt w' bo l) ∧ Below w.heap.size w w' → (∃ a d, e = .returned (.slice (some a) 1 d) ∧ w'.cell? a = some (.string x)) ∧ Below w.heap.size w w' := by
  rintro e ⟨⟨bo, d, rfl, hl⟩, hb⟩
  obtain ⟨a, rfl, hc⟩ := hl 0 x (by rw [h]; rfl)
  rw [Addr.add_zero'] at hc
  exact ⟨⟨a, d, by rw [h]; rfl, hc⟩, hb⟩

set_option maxHeartbeats 3200000 in
set_option maxRecDepth 100000 in
theorem fnSetFindOf_core (alg : ByteArray) (ao : Option Addr) (n c : Nat) (f : Nat → ByteArray) (t : ByteArray) (aF aN aA : Addr) (w : World) (hS : Strs w ao n f) (V : Vars w aF aN aA) :
    Calls Tryd.prog 3 #[.string alg, .slice ao n c, .string t] w fun e w' => e = .returned (.bool true) ∧ Below w.heap.size w w' := by
  have HS := hid hS
  have HV := hid V
  clear hS V
  go_enter Tryd.func3, Tryd.ntmps3
  by_cases a1 : alg.size ≤ 2147483647
  rotate_left
  · have u1 : (2147483647 : Int) < (alg.size : Int) := by omega
    go_wp2_with fail
    go_ret
    exact ⟨rfl, Below.refl _ _⟩
  have u1 : ¬ (2147483647 : Int) < (alg.size : Int) := by omega
  go_wp2_with fail
  go_at_call 4
  refine (fits_any ao n c f _ HS.out).mono ?_
  rintro e w' ⟨⟨b, rfl, hb⟩, rfl⟩
  cases b with
  | false =>
    go_wp2_with fail
    go_ret
    exact ⟨rfl, Below.refl _ _⟩
  | true =>
  have hn0 := hb rfl
  clear hb
  by_cases t1 : t.size ≤ 2147483647
  rotate_left
  · have u2 : (2147483647 : Int) < (t.size : Int) := by omega
    go_wp2_with fail
    go_ret
    exact ⟨rfl, Below.refl _ _⟩
  have u2 : ¬ (2147483647 : Int) < (t.size : Int) := by omega
  by_cases a2 : alg.size ≤ 50
  rotate_left
  · have u3 : (50 : Int) < (alg.size : Int) := by omega
    go_wp2_with fail
    go_ret
    exact ⟨rfl, Below.refl _ _⟩
  have u3 : ¬ (50 : Int) < (alg.size : Int) := by omega
  by_cases t2 : t.size ≤ 200
  rotate_left
  · have u4 : (200 : Int) < (t.size : Int) := by omega
    go_wp2_with fail
    go_ret
    exact ⟨rfl, Below.refl _ _⟩
  have u4 : ¬ (200 : Int) < (t.size : Int) := by omega
  go_wp2_with fail
  go_at_call 5
  refine (ascends_any ao n c f _ hn0 HS.out).mono ?_
  rintro e w' ⟨⟨b, rfl, hb⟩, rfl⟩
  cases b with
  | false =>
    go_wp2_with fail
    go_ret
    exact ⟨rfl, Below.refl _ _⟩
  | true =>
  obtain ⟨hn, hz, hA⟩ := hb rfl
  have HZ := hid hz
  have HA := hid hA
  clear hb hz hA
  go_wp2_with fail
  go_at_call 6
  refine (even_any ao n c f _ hn0 HS.out).mono ?_
  rintro e w' ⟨⟨b, rfl, hb⟩, rfl⟩
  cases b with
  | false =>
    go_wp2_with fail
    go_ret
    exact ⟨rfl, Below.refl _ _⟩
  | true =>
  have HE := hid (hb rfl)
  clear hb
  go_wp2_with fail
  go_at_call 7
  refine (first_colon t _ t1).mono ?_
  rintro e w' ⟨m, rfl, rfl, hF⟩
  by_cases hm : (0 : Int) ≤ m
  · clear hF
    go_wp2_with fail
    go_ret
    exact ⟨rfl, Below.refl _ _⟩
  obtain rfl : m = -1 := by have := hF.range; omega
  have HF := hid hF
  have Ha := hid a2
  have hc1 := cat_colon alg a2
  clear hF hm a1 t1 a2
  go_wp2_with fail
  go_at_call 8
  refine (find_any alg ao n c f t aF aN aA _ Ha.out (fun i hi => (HZ.out i hi).2) HS.out hn HA.out HE.out t2 HF.out HV.out).mono ?_
  rintro e w1 ⟨hK, hb⟩
  have B1 := hid hb
  have S1 := hid (HS.out.below hb)
  clear hb
  rcases hK with ⟨h, rfl⟩ | ⟨x, h, rfl⟩ | ⟨h, rfl⟩
  · go_wp2_with fail
    go_at_call 9
    refine (meant_any ao n c f t _ hn S1.out).mono ?_
    rintro e w2 hM
    obtain ⟨⟨bo, d, rfl⟩, hb2⟩ := list_none h hM
    have B2 := hid (bt B1.out hb2)
    clear hM hb2 h
    go_wp2_with fail
    go_ret
    exact ⟨ret_b (by simp), B2.out⟩
  · obtain ⟨i, hi, hx⟩ := mts_mem t f x n (by rw [h]; exact List.mem_singleton.2 rfl)
    have hc2 := cat_part alg x Ha.out (by rw [← hx]; exact (HZ.out i hi).2)
    clear hi hx
    go_wp2_with fail
    go_at_call 9
    refine (meant_any ao n c f t _ hn S1.out).mono ?_
    rintro e w2 hM
    obtain ⟨⟨a, d, rfl, hcx⟩, hb2⟩ := list_one h hM
    have B2 := hid (bt B1.out hb2)
    clear hM hb2 h
    go_wp2_with fail
    go_ret
    exact ⟨ret_b (by simp), B2.out⟩
  · go_wp2_with fail
    go_at_call 9
    refine (meant_any ao n c f t _ hn S1.out).mono ?_
    rintro e w2 ⟨⟨bo, d, rfl, _⟩, hb2⟩
    have B2 := hid (bt B1.out hb2)
    clear hb2
    generalize (mts t f n).length = m at h
    have q0 : ((m : Int) == 0) = false := by simp; omega
    have q1 : ((m : Int) == 1) = false := by simp; omega
    go_wp2_with fail
    go_ret
    exact ⟨ret_b (by simp), B2.out⟩

/-- Cell i of a slice, as the row's preamble opens it. -/
def Sl (w : World) (ao : Option Addr) (n : Nat) (ok : Value → Prop) : Prop := ∀ i, i < n → ∃ a x, ao = some a ∧ w.cell? (a.add i) = some x ∧ ok x
def isS (x : Value) : Prop := ∃ s : ByteArray, x = .string s
theorem Sl.strs {w : World} {ao : Option Addr} {n : Nat} (h : Sl w ao n isS) : ∃ f, Strs w ao n f := by
  have key : ∀ i, ∃ s : ByteArray, i < n → ∃ a, ao = some a ∧ w.cell? (a.add i) = some (.string s) := fun i => by
    by_cases hi : i < n
    · obtain ⟨a, x, h1, h2, s, rfl⟩ := h i hi
      exact ⟨s, fun _ => ⟨a, h1, h2⟩⟩
    · exact ⟨ByteArray.empty, fun h => absurd h hi⟩
  exact ⟨fun i => (key i).choose, fun i hi => (key i).choose_spec hi⟩

section
open Go.ChangeShapes Go.WideShapes Go.ChangeAt Go.Deep
variable {H : Type} {enc : TypeId × Value → H} {P : Program} {w : World} {base : Nat} {spare : Nat → Bool} {held : Bool}
theorem open_sl {t e : TypeId} {fuel : Nat} {c : Value} {x : DataW H × List MemPlace} (ok : Value → Prop) (ht : P.underlying t = some (.slice e)) (hc : P.cellsOf e = 1)
    (hok : ∀ n v y, DataW.trod enc P w base spare held n e [v] = some y → ok v) (h : DataW.trod enc P w base spare held fuel t [c] = some x) : ∃ ao n k, [c] = [.slice ao n k] ∧ Sl w ao n ok := by
  rcases open_slice1 ht hc h with ⟨h0, _⟩ | ⟨a, len, cap, m, n, V, D, Pl, h0, _, _, _, hm, _, hx⟩
  · exact ⟨none, 0, 0, h0, fun i hi => absurd hi (Nat.not_lt_zero _)⟩
  · refine ⟨some a, len, cap, h0, fun i hi => ?_⟩
    have hle : len ≤ m := by rw [hm]; split <;> first | omega | assumption | exact Nat.le_refl _
    obtain ⟨h1, h2⟩ := hx i (by omega)
    exact ⟨a, V i, rfl, h1, hok _ _ _ h2⟩
/-- The same for an argument. -/
theorem open_slv {t e : TypeId} {r : Reach} {b0 : Nat} {v : Value} {d : DataW H} {p : List MemPlace} (ok : Value → Prop) (ht : P.underlying t = some (.slice e)) (hc : P.cellsOf e = 1)
    (hok : ∀ n v y, DataW.trod enc P w base spare held n e [v] = some y → ok v) (hv : Value.okWide P w r b0 t v) (h : DataW.Trod enc P w base spare held t v d p) : ∃ ao n k, v = .slice ao n k ∧ Sl w ao n ok := by
  obtain ⟨fuel, hf⟩ := h
  unfold Value.okWide at hv
  simp only [ht] at hv
  unfold Cell.okWide at hv
  cases v <;> simp [Cell.ok, ht] at hv
  obtain ⟨ao, n, k, h1, h2⟩ := open_sl (c := .slice _ _ _) ok ht hc hok hf
  simp only [List.cons.injEq, and_true] at h1
  exact ⟨ao, n, k, h1, h2⟩
end

theorem fnSetFindOf_walk (alg : ByteArray) (ao : Option Addr) (n c : Nat) (t : ByteArray) (w : World) (_ : alg.size ≤ maxLen) (hS : Sl w ao n isS) (_ : t.size ≤ maxLen) (V : ∃ aF aN aA, Vars w aF aN aA) :
    Calls Tryd.prog 3 #[.string alg, .slice ao n c, .string t] w fun e w' => e = .returned (.bool true) ∧ Below w.heap.size w w' := by
  obtain ⟨f, hf⟩ := hS.strs
  obtain ⟨aF, aN, aA, V⟩ := V
  exact fnSetFindOf_core alg ao n c f t aF aN aA w hf V
end Go.Proofs.YtekjeagcncfmmaaDoor
