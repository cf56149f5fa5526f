/- What strings.FieldsFunc cuts at commas, of a text of ASCII whose parts are not empty: the parts. No program in sight. -/
import Derived.Test.YtomkhhpigpilfaaGreatDoorStrP
import Derived.Lib.FieldsP
import Derived.Laws.RangeString
set_option linter.unusedVariables false
set_option linter.unusedSimpArgs false
namespace Go.Proofs.YtomkhhpigpilfaaGreatDoor

def isComma (r : Nat) : Bool := r == 44
def sp (s : ByteArray) (x : Nat × Nat) : List UInt8 := (s.extract x.1 x.2).toList
def ascii (s : ByteArray) : Prop := ∀ k (h : k < s.size), (s[k]'h).toNat < 128
def full (l : List (List UInt8)) : Prop := ∀ q ∈ l, q ≠ []

theorem cut_tail (x : UInt8) (r : List UInt8) (h : x ≠ 44) : (cut 44 (x :: r)).tail = (cut 44 r).tail := by
  rw [cut_other 44 x r h]
  cases e : cut 44 r with
  | nil => exact absurd e (cut_ne 44 r)
  | cons p t => rfl

theorem spans_cut (s : ByteArray) (ha : ascii s) : ∀ f : Nat,
    (∀ (pos a : Nat) (acc : List (Nat × Nat)), a ≤ pos → pos ≤ s.size → s.size ≤ pos + f → (44 : UInt8) ∉ (s.toList.drop a).take (pos - a) → full (cut 44 (s.toList.drop pos)).tail →
      (Lib.closeSpans s (Lib.spansFromP isComma s f pos (some a) acc)).map (sp s) = acc.map (sp s) ++ cut 44 (s.toList.drop a)) ∧
    (∀ (pos : Nat) (acc : List (Nat × Nat)), pos ≤ s.size → s.size ≤ pos + f → full (cut 44 (s.toList.drop pos)) →
      (Lib.closeSpans s (Lib.spansFromP isComma s f pos none acc)).map (sp s) = acc.map (sp s) ++ cut 44 (s.toList.drop pos)) := by
  have hend : ∀ (pos a : Nat) (acc : List (Nat × Nat)), pos = s.size → a ≤ pos → (44 : UInt8) ∉ (s.toList.drop a).take (pos - a) → (Lib.closeSpans s (acc, some a)).map (sp s) = acc.map (sp s) ++ cut 44 (s.toList.drop a) := by
    intro pos a acc hp h1 h2
    have e : (s.toList.drop a).take (pos - a) = s.toList.drop a := List.take_of_length_le (by rw [List.length_drop, size_list]; omega)
    rw [e] at h2
    rw [cut_none 44 _ h2]
    show (acc ++ [(a, s.size)]).map (sp s) = _
    rw [List.map_append]
    congr 1
    show [(s.extract a s.size).toList] = _
    rw [ext_list, ← hp, e]
  have hnone : ∀ (pos : Nat), pos = s.size → full (cut 44 (s.toList.drop pos)) → False := by
    intro pos hp h
    have e : s.toList.drop pos = [] := List.drop_eq_nil_of_le (by rw [size_list]; omega)
    rw [e] at h
    exact h [] (by simp [cut]) rfl
  intro f
  induction f with
  | zero =>
    refine ⟨fun pos a acc h1 h2 h3 h4 _ => hend pos a acc (by omega) h1 h4, fun pos acc h1 h2 h3 => (hnone pos (by omega) h3).elim⟩
  | succ f ih =>
    constructor
    · intro pos a acc h1 h2 h3 h4 h5
      by_cases hps : pos < s.size
      · have hd := decode_ascii s pos hps (ha pos hps)
        have hdr := drop_list s pos hps
        by_cases hc : s[pos] = 44
        · have hp : isComma (s[pos]'hps).toNat = true := by rw [hc]; rfl
          simp only [Lib.spansFromP, hps, if_true, hd, hp]
          rw [hdr, hc, cut_same] at h5
          rw [ih.2 (pos + 1) _ (by omega) (by omega) h5, List.map_append, List.append_assoc]
          congr 1
          rw [mid_drop s.toList a pos h1, hdr, hc, cut_at 44 _ _ h4]
          show [(s.extract a pos).toList] ++ _ = _
          rw [ext_list]
          rfl
        · have hp : isComma (s[pos]'hps).toNat = false := by
            unfold isComma
            rw [beq_eq_false_iff_ne]
            intro e
            exact hc (UInt8.toNat_inj.1 (by rw [e]; rfl))
          simp only [Lib.spansFromP, hps, if_true, hd, hp, Bool.false_eq_true, if_false]
          rw [hdr, cut_tail _ _ hc] at h5
          exact ih.1 (pos + 1) a acc (by omega) (by omega) (by omega) (by rw [mid_succ s a pos h1 hps, List.mem_append, not_or]; exact ⟨h4, by simp; exact fun h => hc h.symm⟩) h5
      · rw [Lib.spansFromP_end isComma s (f + 1) pos (some a) acc hps]
        exact hend pos a acc (by omega) h1 h4
    · intro pos acc h1 h2 h3
      by_cases hps : pos < s.size
      · have hd := decode_ascii s pos hps (ha pos hps)
        have hdr := drop_list s pos hps
        by_cases hc : s[pos] = 44
        · rw [hdr, hc, cut_same] at h3
          exact absurd rfl (h3 [] (List.mem_cons_self ..))
        · have hp : isComma (s[pos]'hps).toNat = false := by
            unfold isComma
            rw [beq_eq_false_iff_ne]
            intro e
            exact hc (UInt8.toNat_inj.1 (by rw [e]; rfl))
          simp only [Lib.spansFromP, hps, if_true, hd, hp, Bool.false_eq_true, if_false]
          have h5 : full (cut 44 (s.toList.drop (pos + 1))).tail := by
            rw [← cut_tail _ _ hc, ← hdr]
            exact fun q hq => h3 q (List.mem_of_mem_tail hq)
          exact ih.1 (pos + 1) pos acc (by omega) (by omega) (by omega) (by rw [mid_succ s pos pos (Nat.le_refl _) hps]; simp; exact fun h => hc h.symm) h5
      · exact (hnone pos (by omega) h3).elim

theorem fields_cut (s : ByteArray) (ha : ascii s) (hf : full (cut 44 s.toList)) : (Lib.goFieldsP isComma s).map (·.toList) = cut 44 s.toList := by
  have := (spans_cut s ha s.size).2 0 [] (Nat.zero_le _) (by omega) (by rw [List.drop_zero]; exact hf)
  rw [List.drop_zero] at this
  unfold Lib.goFieldsP Lib.spansOfP
  rw [List.map_map]
  rw [List.map_nil, List.nil_append] at this
  exact this
end Go.Proofs.YtomkhhpigpilfaaGreatDoor
