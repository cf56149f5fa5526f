/- normalizeFields, by the options of a parser none of whose fields may be left away. Walked. -/
import Derived.Test.YtomkhhpigpilfaaGreatDoorCSplit
import Derived.Test.YtomkhhpigpilfaaGreatDoorApp
import Derived.Test.YtomkhhpigpilfaaGreatDoorRange
import Derived.Test.YtomkhhpigpilfaaGreatDoorMust
import Derived.Deep.LoopGhost
import Derived.WalkSmall
import Derived.Laws.MakeOwn
import Derived.Laws.CopyOwn
set_option linter.unusedVariables false
set_option linter.unusedSimpArgs false
namespace Go.Proofs.YtomkhhpigpilfaaGreatDoor
open Go.RowKit

theorem Blk.oth {w : World} {g h : Nat} {t : TypeId} {cs : Array Value} (hb : Blk w g t cs) (hne : g ≠ h) (i : Nat) (u : Value) : Blk (w.setCell ⟨h, i, none⟩ u) g t cs := by
  unfold Blk at hb ⊢
  simp [World.setCell, Array.getElem?_modify, hb, Ne.symm hne]
/-- n cells, the i-th f's text at i. -/
def scells (n : Nat) (f : Nat → ByteArray) : Array Value := ((List.range n).map fun i => Value.string (f i)).toArray
def putS (f : Nat → ByteArray) (i : Nat) (b : ByteArray) : Nat → ByteArray := fun j => if j = i then b else f j
section
variable {n i : Nat} {f h : Nat → ByteArray} {b : ByteArray}
theorem scells_size : (scells n f).size = n := by simp [scells]
theorem scells_get (hi : i < n) : (scells n f)[i]? = some (.string (f i)) := by simp [scells, List.getElem?_map, List.getElem?_range hi]
theorem scells_ext (e : ∀ i, i < n → f i = h i) : scells n f = scells n h := by
  unfold scells
  congr 1
  apply List.map_congr_left
  intro i hi
  rw [e i (List.mem_range.1 hi)]
theorem scells_set (hi : i < n) : (scells n f).setIfInBounds i (.string b) = scells n (putS f i b) := by
  apply Array.ext_getElem?
  intro j
  by_cases hj : j < n
  · rw [scells_get hj]
    by_cases e : j = i
    · subst e
      rw [Array.getElem?_setIfInBounds_self_of_lt (by rw [scells_size]; exact hj)]
      simp [putS]
    · rw [Array.getElem?_setIfInBounds_ne (Ne.symm e), scells_get hj]
      simp [putS, e]
  · rw [Array.getElem?_eq_none (by simp [scells_size]; omega), Array.getElem?_eq_none (by rw [scells_size]; omega)]
end
/-- The default of a field. -/
def dfl (k : Nat) : ByteArray := if k < 3 then ⟨#[48]⟩ else ⟨#[42]⟩
/-- How many of the first fields are taken. -/
def cntT (t : Nat → Bool) : Nat → Nat
  | 0 => 0
  | k + 1 => cntT t k + if t k = true then 1 else 0
theorem cntT_yes {t : Nat → Bool} {k : Nat} (h : t k = true) : cntT t (k + 1) = cntT t k + 1 := by show cntT t k + (if t k = true then 1 else 0) = _; rw [if_pos h]
theorem cntT_no {t : Nat → Bool} {k : Nat} (h : ¬ t k = true) : cntT t (k + 1) = cntT t k := by show cntT t k + (if t k = true then 1 else 0) = _; rw [if_neg h]; rfl
theorem cntT_le (t : Nat → Bool) : ∀ k, cntT t k ≤ k
  | 0 => Nat.le_refl _
  | k + 1 => by
    have := cntT_le t k
    show cntT t k + (if t k = true then 1 else 0) ≤ _
    split <;> omega
theorem cntT_mono (t : Nat → Bool) {a b : Nat} (h : a ≤ b) : cntT t a ≤ cntT t b := by
  induction b with
  | zero => rw [Nat.le_zero.1 h]; exact Nat.le_refl _
  | succ b ih =>
    by_cases e : a = b + 1
    · rw [e]; exact Nat.le_refl _
    · exact Nat.le_trans (ih (by omega)) (Nat.le_add_right _ _)
/-- The text of each of the six fields. -/
def fullF (t : Nat → Bool) (fs : List ByteArray) (k : Nat) : ByteArray := if t k = true then fs.getD (cntT t k) ⟨#[]⟩ else dfl k
def upF (t : Nat → Bool) (fs : List ByteArray) (k : Nat) (j : Nat) : ByteArray := if j < k then fullF t fs j else dfl j
theorem upF_zero (t : Nat → Bool) (fs : List ByteArray) : upF t fs 0 = dfl := by funext j; unfold upF; rw [if_neg (by omega)]
theorem upF_six (t : Nat → Bool) (fs : List ByteArray) : scells 6 (upF t fs 6) = scells 6 (fullF t fs) := scells_ext fun i hi => by unfold upF; rw [if_pos hi]
theorem upF_yes (t : Nat → Bool) (fs : List ByteArray) (k : Nat) : putS (upF t fs k) k (fullF t fs k) = upF t fs (k + 1) := by
  funext j
  unfold putS upF
  by_cases e : j = k
  · subst e; rw [if_pos rfl, if_pos (by omega)]
  · rw [if_neg e]
    by_cases e2 : j < k
    · rw [if_pos e2, if_pos (by omega)]
    · rw [if_neg e2, if_neg (by omega)]
theorem upF_no (t : Nat → Bool) (fs : List ByteArray) (k : Nat) (h : ¬ t k = true) : upF t fs (k + 1) = upF t fs k := by
  funext j
  unfold upF
  by_cases e : j = k
  · subst e
    rw [if_pos (by omega), if_neg (by omega)]
    unfold fullF
    rw [if_neg h]
  · by_cases e2 : j < k
    · rw [if_pos e2, if_pos (by omega)]
    · rw [if_neg e2, if_neg (by omega)]
theorem scells_dfl : scells 6 dfl = #[.string ⟨#[48]⟩, .string ⟨#[48]⟩, .string ⟨#[48]⟩, .string ⟨#[42]⟩, .string ⟨#[42]⟩, .string ⟨#[42]⟩] := by rfl
/-- The option of a field. -/
def pl (k : Nat) : Int := if k = 0 then 1 else if k = 1 then 4 else if k = 2 then 8 else if k = 3 then 16 else if k = 4 then 32 else 64
theorem pl_at {k : Nat} (h : k < 6) : (#[.int .i64 1, .int .i64 4, .int .i64 8, .int .i64 16, .int .i64 32, .int .i64 64] : Array Value)[k]? = some (.int .i64 (pl k)) := by
  match k, h with
  | 0, _ => rfl
  | 1, _ => rfl
  | 2, _ => rfl
  | 3, _ => rfl
  | 4, _ => rfl
  | 5, _ => rfl
  | k + 6, h => omega
theorem pl_pos (k : Nat) : 0 < pl k := by unfold pl; repeat' split
                                          all_goals omega
/-- What the options say of the six fields. -/
def Opts (o : Int) (t : Nat → Bool) : Prop := ∀ k, k < 6 → bits .and .i64 o (pl k) = if t k = true then pl k else 0

theorem places_any (w : World) : Calls Tryz.prog 73 #[] w fun e w' => e = .returned (.slice (some ⟨w.heap.size, 0, none⟩) 6 6) ∧ w' = w.alloc (.cells #[.int .i64 1, .int .i64 4, .int .i64 8, .int .i64 16, .int .i64 32, .int .i64 64] 54) := by
  go_enter Tryz.func73, Tryz.ntmps73
  go_wp2_with fail
  go_ret
  exact ⟨rfl, rfl⟩
theorem defaults_any (w : World) : Calls Tryz.prog 74 #[] w fun e w' => e = .returned (.slice (some ⟨w.heap.size, 0, none⟩) 6 6) ∧ w' = w.alloc (.cells #[.string ⟨#[48]⟩, .string ⟨#[48]⟩, .string ⟨#[48]⟩, .string ⟨#[42]⟩, .string ⟨#[42]⟩, .string ⟨#[42]⟩] 9) := by
  go_enter Tryz.func74, Tryz.ntmps74
  go_wp2_with fail
  go_ret
  exact ⟨rfl, rfl⟩
theorem make_six (W : World) : (Instr.makeSlice 22 (.int .i64 6) (.int .i64 6)).run Tryz.prog W = .ok (.slice (some ⟨W.heap.size, 0, none⟩) 6 6) (W.alloc (.cells #[.string ⟨#[]⟩, .string ⟨#[]⟩, .string ⟨#[]⟩, .string ⟨#[]⟩, .string ⟨#[]⟩, .string ⟨#[]⟩] 9)) := by
  obtain ⟨i, hi, hz⟩ := Option.map_eq_some_iff.1 info_str
  simp only [Prod.mk.injEq] at hz
  obtain ⟨z1, z2, z3⟩ := hz
  have h := run_makeSlice (P := Tryz.prog) W 22 9 i _ Tryz.underlying22 hi z1 .i64 .i64 6 6 (by omega) (by omega) (by rw [z2]; decide) (by rw [z3]; decide) (by omega)
  have e : madeCells (Value.string ⟨#[]⟩).cells (Int.toNat 6 * 1) = #[.string ⟨#[]⟩, .string ⟨#[]⟩, .string ⟨#[]⟩, .string ⟨#[]⟩, .string ⟨#[]⟩, .string ⟨#[]⟩] := by kernel_rfl
  rw [h, z2, e]
  rfl
theorem defs_at (W : World) (g : Nat) (h : Blk W g 9 #[.string ⟨#[48]⟩, .string ⟨#[48]⟩, .string ⟨#[48]⟩, .string ⟨#[42]⟩, .string ⟨#[42]⟩, .string ⟨#[42]⟩]) : ∀ (j : Nat) (v : Value), [Value.string ⟨#[48]⟩, .string ⟨#[48]⟩, .string ⟨#[48]⟩, .string ⟨#[42]⟩, .string ⟨#[42]⟩, .string ⟨#[42]⟩][j]? = some v → W.cell? ((⟨g, 0, none⟩ : Addr).add j) = some v := fun j v hj => by
  have e : (⟨g, 0, none⟩ : Addr).add j = ⟨g, j, none⟩ := by unfold Addr.add; split <;> simp_all
  rw [e, h.cell j]
  simpa using hj

set_option maxHeartbeats 3200000 in
set_option maxRecDepth 100000 in
theorem normG_any (o : Int) (t : Nat → Bool) (fs : List ByteArray) (g cap : Nat) (w : World) (ho : Opts o t) (h2 : bits .and .i64 o 2 = 0) (h128 : bits .and .i64 o 128 = 0) (hlen : fs.length = cntT t 6) (hst : StrsAt w g fs) :
    Calls Tryz.prog 46 #[.slice (some ⟨g, 0, none⟩) fs.length cap, .int .i64 o] w fun e w' => (∃ h, e = .returned (.tuple #[.slice (some ⟨h, 0, none⟩) 6 6, .nilIface]) ∧ Blk w' h 9 (scells 6 (fullF t fs))) ∧ Below w.heap.size w w' := by
  have HO := hid ho
  have HL := hid hlen
  have HST := hid hst
  have h6 : fs.length ≤ 6 := hlen ▸ cntT_le t 6
  clear ho hst hlen
  go_enter Tryz.func46, Tryz.ntmps46
  go_wp2_with (go_at_call 73; refine (places_any _).mono ?_; rintro e w1 ⟨rfl, rfl⟩)
  have KP := hid (Blk.new w 54 #[.int .i64 1, .int .i64 4, .int .i64 8, .int .i64 16, .int .i64 32, .int .i64 64])
  have B1 := hid (show Below w.heap.size w (w.alloc (.cells #[.int .i64 1, .int .i64 4, .int .i64 8, .int .i64 16, .int .i64 32, .int .i64 64] 54)) by go_grown)
  have SZ := hid (show (w.alloc (.cells #[.int .i64 1, .int .i64 4, .int .i64 8, .int .i64 16, .int .i64 32, .int .i64 64] 54)).heap.size = w.heap.size + 1 by simp)
  generalize (w.alloc (.cells #[.int .i64 1, .int .i64 4, .int .i64 8, .int .i64 16, .int .i64 32, .int .i64 64] 54)) = w1 at KP B1 SZ ⊢
  go_loopw [35, 7] (fun i c wr => ∃ k : Nat, k ≤ 6 ∧ i = .int .i64 k ∧ c = .int .i64 ((cntT t k : Nat) : Int) ∧ wr = w1) (fun i _ _ => 6 - (intOf i).toNat)
  case atStart => exact ⟨0, by omega, rfl, rfl, rfl⟩
  case round =>
    obtain ⟨k, hk, rfl, rfl, rfl⟩ := hrel
    by_cases hlt : k < 6
    · have hp : wr.cell? ⟨w.heap.size, k, none⟩ = some (.int .i64 (pl k)) := (KP.out.cell k).trans (pl_at hlt)
      have hb := HO.out k hlt
      have hpp := pl_pos k
      have hc := cntT_le t k
      by_cases ht : t k = true
      · rw [if_pos ht] at hb
        have HT := hid ht
        clear ht
        generalize pl k = p at hp hb hpp
        go_wp2_with fail
        go_roundw
        case rel => exact ⟨k + 1, by omega, by go_num, by rw [cntT_yes HT.out]; go_num, trivial⟩
        case measure => simp [intOf]; omega
      · rw [if_neg ht] at hb
        have HT := hid ht
        clear ht
        generalize pl k = p at hp hb hpp
        go_wp2_with fail
        go_roundw
        case rel => exact ⟨k + 1, by omega, by go_num, by rw [cntT_no HT.out], trivial⟩
        case measure => simp [intOf]; omega
    · obtain rfl : k = 6 := by omega
      rw [← HL.out]
      have hmk := make_six
      have hnl : ¬ (fs.length : Int) < (fs.length : Int) := by omega
      have s2 : (wr.alloc (.cells #[.int .i64 1, .int .i64 4, .int .i64 8, .int .i64 16, .int .i64 32, .int .i64 64] 54)).heap.size = wr.heap.size + 1 := by simp
      have s3 : ((wr.alloc (.cells #[.int .i64 1, .int .i64 4, .int .i64 8, .int .i64 16, .int .i64 32, .int .i64 64] 54)).alloc (.cells #[.string ⟨#[]⟩, .string ⟨#[]⟩, .string ⟨#[]⟩, .string ⟨#[]⟩, .string ⟨#[]⟩, .string ⟨#[]⟩] 9)).heap.size = wr.heap.size + 1 + 1 := by simp
      have KM := hid ((Blk.new (wr.alloc (.cells #[.int .i64 1, .int .i64 4, .int .i64 8, .int .i64 16, .int .i64 32, .int .i64 64] 54)) 9 #[.string ⟨#[]⟩, .string ⟨#[]⟩, .string ⟨#[]⟩, .string ⟨#[]⟩, .string ⟨#[]⟩, .string ⟨#[]⟩]).alloc (.cells #[.string ⟨#[48]⟩, .string ⟨#[48]⟩, .string ⟨#[48]⟩, .string ⟨#[42]⟩, .string ⟨#[42]⟩, .string ⟨#[42]⟩] 9))
      have KD := hid (Blk.new ((wr.alloc (.cells #[.int .i64 1, .int .i64 4, .int .i64 8, .int .i64 16, .int .i64 32, .int .i64 64] 54)).alloc (.cells #[.string ⟨#[]⟩, .string ⟨#[]⟩, .string ⟨#[]⟩, .string ⟨#[]⟩, .string ⟨#[]⟩, .string ⟨#[]⟩] 9)) 9 #[.string ⟨#[48]⟩, .string ⟨#[48]⟩, .string ⟨#[48]⟩, .string ⟨#[42]⟩, .string ⟨#[42]⟩, .string ⟨#[42]⟩])
      rw [s2] at KM
      rw [s3] at KD
      have BW := hid (bt B1.out (show Below wr.heap.size wr (((wr.alloc (.cells #[.int .i64 1, .int .i64 4, .int .i64 8, .int .i64 16, .int .i64 32, .int .i64 64] 54)).alloc (.cells #[.string ⟨#[]⟩, .string ⟨#[]⟩, .string ⟨#[]⟩, .string ⟨#[]⟩, .string ⟨#[]⟩, .string ⟨#[]⟩] 9)).alloc (.cells #[.string ⟨#[48]⟩, .string ⟨#[48]⟩, .string ⟨#[48]⟩, .string ⟨#[42]⟩, .string ⟨#[42]⟩, .string ⟨#[42]⟩] 9)) by go_grown))
      clear s2 s3
      have hH : w.heap.size ≤ wr.heap.size + 1 := by have := SZ.out; omega
      obtain ⟨H, hHe⟩ : ∃ H, wr.heap.size + 1 = H := ⟨_, rfl⟩
      have HH := hid hHe
      clear hHe
      go_wp2_with (first
        | (go_at_call 74; refine (defaults_any _).mono ?_; rintro e w1 ⟨rfl, rfl⟩
           generalize (((wr.alloc (.cells #[.int .i64 1, .int .i64 4, .int .i64 8, .int .i64 16, .int .i64 32, .int .i64 64] 54)).alloc (.cells #[.string ⟨#[]⟩, .string ⟨#[]⟩, .string ⟨#[]⟩, .string ⟨#[]⟩, .string ⟨#[]⟩, .string ⟨#[]⟩] 9)).alloc (.cells #[.string ⟨#[48]⟩, .string ⟨#[48]⟩, .string ⟨#[48]⟩, .string ⟨#[42]⟩, .string ⟨#[42]⟩, .string ⟨#[42]⟩] 9)) = w4 at KM KD BW ⊢)
        | (refine wpList_copy_splice (o := { dst := some 99, op := _, type := _, pos := _, after := _, guard := _ }) rfl (.tmp 97) (.tmp 98) 22 22 rfl 9 Tryz.underlying22 (by kernel_rfl) (some ⟨wr.heap.size + 1, 0, none⟩) (some ⟨wr.heap.size + 1 + 1, 0, none⟩) 6 6 6 6 rfl (by simp [Act.eval, Act.put]) (wr.heap.size + 1) 0 [.string ⟨#[]⟩, .string ⟨#[]⟩, .string ⟨#[]⟩, .string ⟨#[]⟩, .string ⟨#[]⟩, .string ⟨#[]⟩] 9 KM.out [.string ⟨#[48]⟩, .string ⟨#[48]⟩, .string ⟨#[48]⟩, .string ⟨#[42]⟩, .string ⟨#[42]⟩, .string ⟨#[42]⟩] rfl (fun _ => ⟨rfl, _, rfl, defs_at _ _ KD.out⟩) (by decide) (by decide) w.heap.size w BW.out (by omega) ?_
           intro w5 h5 b5
           have K5 := hid (show Blk w5 (wr.heap.size + 1) 9 (scells 6 dfl) from scells_dfl ▸ h5.out)
           have B5 := hid b5
           clear h5 b5)
        | (go_at_call 73; refine (places_any _).mono ?_; rintro e w1 ⟨rfl, rfl⟩; (try (have KP2 := hid (Blk.new w5 54 #[.int .i64 1, .int .i64 4, .int .i64 8, .int .i64 16, .int .i64 32, .int .i64 64]); obtain ⟨PB, hPB⟩ : ∃ PB, w5.heap.size = PB := ⟨_, rfl⟩; have HPB := hid (show PB ≠ wr.heap.size + 1 from fun e => by have := K5.out.lt; omega); rw [hPB] at KP2 ⊢; rw [HH.out] at K5 HPB ⊢))))
      have HLE := hid (show w.heap.size ≤ H by have := HH.out; omega)
      have hg : g < w.heap.size ∨ fs = [] := by
        rcases fs with _ | ⟨x, r⟩
        · exact .inr rfl
        · exact .inl (World.block_lt_of_cell? w _ (HST.out 0 x rfl))
      have HG := hid hg
      clear hg hH HH SZ KM KD BW hmk hnl KP B1
      go_loopw [102, 12] (fun i c wx => ∃ k : Nat, k ≤ 6 ∧ i = .int .i64 k ∧ c = .int .i64 ((cntT t k : Nat) : Int) ∧ Hid (Blk wx H 9 (scells 6 (upF t fs k))) ∧ Hid (Below w.heap.size w wx) ∧ Hid (Blk wx PB 54 #[.int .i64 1, .int .i64 4, .int .i64 8, .int .i64 16, .int .i64 32, .int .i64 64])) (fun i _ _ => 6 - (intOf i).toNat)
      case atStart => exact ⟨0, by omega, rfl, rfl, by rw [upF_zero]; exact K5.out.below (by go_grown), bt B5.out (by go_grown), KP2.out⟩
      case round =>
        clear K5 B5 KP2
        rename World => wo
        obtain ⟨k, hk, rfl, rfl, K, B, KP⟩ := hrel
        by_cases hlt : k < 6
        · have hp : wo.cell? ⟨PB, k, none⟩ = some (.int .i64 (pl k)) := (KP.out.cell k).trans (pl_at hlt)
          have hb := HO.out k hlt
          have hpp := pl_pos k
          have hc := cntT_le t k
          by_cases ht : t k = true
          · rw [if_pos ht] at hb
            have hidx : cntT t k < fs.length := by
              have h1 := cntT_mono t (show k + 1 ≤ 6 by omega)
              rw [cntT_yes ht] at h1
              have := HL.out
              omega
            have hget : fs[cntT t k]? = some (fullF t fs k) := by
              unfold fullF
              rw [if_pos ht, List.getD_eq_getElem?_getD, List.getElem?_eq_getElem hidx]
              rfl
            have hcell : wo.cell? ⟨g, cntT t k, none⟩ = some (.string (fullF t fs k)) := cell_on B.out (HST.out _ _ hget)
            have hk6 : wo.cell? ⟨H, k, none⟩ = some (.string (upF t fs k k)) := (K.out.cell k).trans (scells_get hlt)
            have hfz := K.out.frozen k
            have HT := hid ht
            have HHL := hid hlt
            have hcast : ((cntT t k : Nat) : Int) < (fs.length : Int) := by omega
            clear ht hget
            generalize pl k = p at hp hb hpp
            go_wp2_with fail
            go_roundw
            case rel =>
              refine ⟨k + 1, by omega, by go_num, by rw [cntT_yes HT.out]; go_num, ?_, below_set B.out HLE.out _ _, Blk.oth KP.out HPB.out _ _⟩
              have := K.out.set k (.string (fullF t fs k))
              rw [scells_set HHL.out, upF_yes] at this
              exact this
            case measure => simp [intOf]; omega
          · rw [if_neg ht] at hb
            have HT := hid ht
            clear ht
            generalize pl k = p at hp hb hpp
            go_wp2_with fail
            go_roundw
            case rel => exact ⟨k + 1, by omega, by go_num, by rw [cntT_no HT.out], by rw [upF_no _ _ _ HT.out]; exact K.out, B.out, KP.out⟩
            case measure => simp [intOf]; omega
        · obtain rfl : k = 6 := by omega
          go_wp2_with fail
          go_returns
          exact ⟨⟨_, rfl, by rw [← upF_six]; exact K.out⟩, B.out⟩
end Go.Proofs.YtomkhhpigpilfaaGreatDoor
