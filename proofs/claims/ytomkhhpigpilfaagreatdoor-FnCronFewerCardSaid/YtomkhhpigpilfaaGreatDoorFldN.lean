/- The cron package's getField, whatever the text: the items between commas, empty ones left out, each read, their sets together. Walked. -/
import Derived.Test.YtomkhhpigpilfaaGreatDoorField
import Derived.Test.YtomkhhpigpilfaaGreatDoorItI
set_option linter.unusedVariables false
set_option linter.unusedSimpArgs false
namespace Go.Proofs.YtomkhhpigpilfaaGreatDoor
open Go.RowKit

/-- The sets of the items together with a, or none. -/
def fieldI (f : List UInt8 → Option Nat) : List (List UInt8) → Nat → Option Nat
  | [], a => some a
  | x :: r, a => match f x with | none => none | some b => fieldI f r (a ||| b)
theorem fieldI_no {f : List UInt8 → Option Nat} {x : List UInt8} (r : List (List UInt8)) (a : Nat) (h : f x = none) : fieldI f (x :: r) a = none := by show (match f x with | none => none | some b => fieldI f r (a ||| b)) = none; rw [h]
theorem fieldI_yes {f : List UInt8 → Option Nat} {x : List UInt8} {b : Nat} (r : List (List UInt8)) (a : Nat) (h : f x = some b) : fieldI f (x :: r) a = fieldI f r (a ||| b) := by show (match f x with | none => none | some b => fieldI f r (a ||| b)) = _; rw [h]
/-- What stands between the commas of a text, the empty parts left out. -/
def partsC (s : ByteArray) : List ByteArray := Lib.goFieldsP isComma s
/-- The package's field. -/
def fieldK (k : Nat) (s : ByteArray) : Option Nat := fieldI (itemK k) ((partsC s).map (·.toList)) 0
/-- A set that is told, or an error. -/
def RetF (e : Ending) (o : Option Nat) : Prop := (∃ n, o = some n ∧ n < 18446744073709551616 ∧ e = .returned (.tuple #[.int .u64 (n : Nat), .nilIface])) ∨ (o = none ∧ ∃ (v : Int) (t : TypeId) (p : Value), e = .returned (.tuple #[.int .u64 v, .iface t p]))

theorem fin_lt {lo hi a b k n : Nat} {star : Bool} (hh : hi ≤ 62) (h : fin lo hi a b k star = some n) : n < 18446744073709551616 := by
  unfold fin at h
  split at h
  · cases h
  · split at h
    · cases h
    · split at h
      · cases h
      · split at h
        · cases h
        · injection h with h
          rw [← h]
          exact or_lt (gbn_lt a k (b + 1) (by omega)) (by split <;> simp [sB])
theorem item_lt {lo hi n : Nat} {f : List UInt8 → Option Nat} {l : List UInt8} (hh : hi ≤ 62) (h : itemI lo hi f l = some n) : n < 18446744073709551616 := by
  unfold itemI at h
  split at h
  · cases h
  · split at h
    · cases h
    · split at h
      · exact fin_lt hh h
      · split at h
        · cases h
        · exact fin_lt hh h
      · cases h
theorem parts_size {s x : ByteArray} (h : x ∈ partsC s) : x.size ≤ s.size := by
  obtain ⟨p, _, rfl⟩ := List.mem_map.1 h
  rw [ByteArray.size_extract]
  omega

theorem fieldsN_any (s : ByteArray) (w : World) (hs : s.size ≤ 2147483647) : Calls Tryz.prog 75 #[.string s, .func (.func 76) #[] #[]] w fun e w' =>
    ∃ (g : Nat), e = .returned (.slice (some ⟨g, 0, none⟩) (partsC s).length (partsC s).length) ∧ (partsC s).length ≤ 9223372036854775807 ∧ StrsAt w' g (partsC s) ∧ Below w.heap.size w w' := by
  refine (Tryz.strings_FieldsFunc_grows 76 #[] comma_enters isComma s w (by omega) (comma_pred w)).mono ?_
  rintro e w' ⟨A, rfl, _, hown, hb⟩
  refine ⟨A, rfl, ?_, ?_, hb⟩
  · rcases hown.2 with ⟨_, h⟩ | ⟨g, cap, cur, _, _, _, h1, h2, _⟩
    · show (Lib.goFieldsP isComma s).length ≤ _
      omega
    · show (Lib.goFieldsP isComma s).length ≤ _
      unfold maxLen at h2
      omega
  · show StrsAt w' A (Lib.goFieldsP isComma s)
    by_cases hne : Lib.goFieldsP isComma s = []
    · rw [hne]
      intro i x hx
      simp at hx
    · obtain ⟨g, c, hv, _, hst⟩ := strs_of_own hown hne
      injection hv with h1 h2 h3
      injection h1 with h1
      injection h1 with h1
      subst h1
      exact hst

set_option maxHeartbeats 1600000 in
set_option maxRecDepth 100000 in
theorem fieldN_any (k : Nat) (s : ByteArray) (mv : Value) (M : World → Prop) (w : World) (hM : Kept M) (hw : M w) (hs : s.size ≤ 65536) (hF : ValIs mv M (ival k lwL)) (hV : ∀ W, M W → Vars W) :
    Calls Tryz.prog 48 #[.string s, .agg #[.int .u64 (kLo k : Nat), .int .u64 (kHi k : Nat), mv]] w fun e w' => RetF e (fieldK k s) ∧ Below w.heap.size w w' := by
  have HS := hid hs
  have HR := hid (fun (x : ByteArray) (hx : x ∈ partsC s) (W : World) (hW : M W) => rangeK x k mv M W hM hW (Nat.le_trans (parts_size hx) hs) hF (fun y hy W hW => mustN_any y hy W (hV W hW)))
  have HL := hid (fun (x : List UInt8) (n : Nat) (h : itemK k x = some n) => item_lt (k_bounds k).2 h)
  have HM := hid hM
  have HW := hid hw
  obtain ⟨it, hit⟩ : ∃ it, itemK k = it := ⟨_, rfl⟩
  unfold fieldK
  rw [hit] at HR HL ⊢
  have HFC := hid (fun (W : World) => fieldsN_any s W (by omega))
  generalize partsC s = xs at HR HFC ⊢
  clear hs hF hV hM hw hit
  generalize kLo k = lo at HR ⊢
  generalize kHi k = hi at HR ⊢
  go_enter Tryz.func48, Tryz.ntmps48
  go_wp2_with fail
  have R0 := hid (Blk.new w 100 #[.int .u64 lo, .int .u64 hi, mv])
  have B0 := hid (show Below w.heap.size w (w.alloc (.cells #[.int .u64 lo, .int .u64 hi, mv] 100)) from (Below.refl _ _).alloc (Nat.le_refl _) _)
  generalize (w.alloc (.cells #[.int .u64 lo, .int .u64 hi, mv] 100)) = w0 at R0 B0 ⊢
  go_at_call 75
  refine (HFC.out _).mono ?_
  rintro e w1 ⟨g, rfl, hlen, hst, hb⟩
  have S1 := hid hst
  have R1 := hid (R0.out.below hb)
  have B1 := hid (bt B0.out hb)
  have M1 := hid (HM.out _ _ HW.out B1.out)
  clear hst hb
  go_wp2_with fail
  go_loopg [6, 16] xs.length (fun gf b i wx => ∃ (j a : Nat), j + gf = xs.length ∧ i = .int .i64 j ∧ b = .int .u64 (a : Nat) ∧ a < 18446744073709551616 ∧ Hid (fieldI it ((xs.drop j).map (·.toList)) a = fieldI it (xs.map (·.toList)) 0) ∧ StrsAt wx g xs ∧ Blk wx w.heap.size 100 #[.int .u64 lo, .int .u64 hi, mv] ∧ Below w.heap.size w wx ∧ M wx)
  case atStart => exact ⟨0, 0, by omega, rfl, rfl, by omega, rfl, S1.out, R1.out, B1.out, M1.out⟩
  case round =>
    obtain ⟨j, a, hk, rfl, rfl, ha, HE, hst, hr, hb, hm⟩ := hrel
    have S2 := hid hst
    have R2 := hid hr
    have B2 := hid hb
    have M2 := hid hm
    clear hst hr hb hm
    by_cases hlt : j < xs.length
    · obtain ⟨g', rfl⟩ : ∃ g', gk = g' + 1 := ⟨gk - 1, by omega⟩
      have hcell := S2.out j xs[j] (List.getElem?_eq_getElem hlt)
      have r0 : wr.cell? ⟨w.heap.size, 0, none⟩ = some (.int .u64 lo) := R2.out.cell 0
      have r1 : wr.cell? ⟨w.heap.size, 1, none⟩ = some (.int .u64 hi) := R2.out.cell 1
      have r2 : wr.cell? ⟨w.heap.size, 2, none⟩ = some mv := R2.out.cell 2
      have hdrop : (xs.drop j).map (·.toList) = xs[j].toList :: (xs.drop (j + 1)).map (·.toList) := by rw [List.drop_eq_getElem_cons hlt]; rfl
      have CR := hid (HR.out xs[j] (List.getElem_mem hlt) wr M2.out)
      have HD := hid hdrop
      clear hdrop
      rcases hi2 : it xs[j].toList with _ | b
      · have CN := hid (retN_none (hi2 ▸ CR.out))
        have HI := hid hi2
        clear hi2 CR
        go_wp2_with (go_at_call 77; refine CN.out.mono ?_; rintro e w3 ⟨⟨t, p, rfl⟩, hb⟩; replace hb := hid hb)
        go_returns
        refine ⟨.inr ⟨?_, _, _, _, rfl⟩, bt B2.out hb.out⟩
        rw [← HE.out, HD.out]
        exact fieldI_no _ _ HI.out
      · have CN := hid (retN_some (hi2 ▸ CR.out))
        have hlb := HL.out _ _ hi2
        have hor := u64_or_nat a b ha hlb
        have HI := hid hi2
        have HLB := hid (or_lt ha hlb)
        clear hi2 CR hlb
        go_wp2_with (go_at_call 77; refine CN.out.mono ?_; rintro e w3 ⟨rfl, hb⟩; replace hb := hid hb)
        go_roundg g'
        case measure => omega
        case rel =>
          refine ⟨j + 1, a ||| b, by omega, by go_num, by simp [hor], HLB.out, ?_, S2.out.below hb.out, R2.out.below hb.out, bt B2.out hb.out, HM.out _ _ M2.out hb.out⟩
          show fieldI it _ _ = _
          rw [← HE.out, HD.out]
          exact (fieldI_yes _ _ HI.out).symm
    · go_wp2_with fail
      go_returns
      refine ⟨.inl ⟨a, ?_, ha, by simp⟩, B2.out⟩
      rw [← HE.out, List.drop_of_length_le (by omega)]
      rfl
end Go.Proofs.YtomkhhpigpilfaaGreatDoor
