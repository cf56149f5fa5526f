/- The package's number and its value of a field, whatever the text: mustParseInt and parseIntOrName walked. -/
import Derived.Test.YtomkhhpigpilfaaGreatDoorVal
import Derived.Test.YtomkhhpigpilfaaGreatDoorRange
import Derived.Test.YtomkhhpigpilfaaGreatDoorLowC
import Derived.Test.YtomkhhpigpilfaaGreatDoorNames
import Derived.Shelf.Strconv.AtoiAll
set_option linter.unusedVariables false
set_option linter.unusedSimpArgs false
namespace Go.Proofs.YtomkhhpigpilfaaGreatDoor
open Go.RowKit

def Vars (w : World) : Prop := (∃ u v, w.cell? ⟨4, 0, none⟩ = some (.iface u v)) ∧ (∃ u v, w.cell? ⟨5, 0, none⟩ = some (.iface u v))
theorem cell_on {w w' : World} {x : Addr} {v : Value} (hb : Below w.heap.size w w') (h : w.cell? x = some v) : w'.cell? x = some v := (hb.cell (World.block_lt_of_cell? w _ h)).trans h
theorem vars_kept : Kept Vars := fun w w' ⟨⟨u, v, h⟩, ⟨x, y, k⟩⟩ hb => ⟨⟨u, v, cell_on hb h⟩, ⟨x, y, cell_on hb k⟩⟩
/-- A number that is told, or an error. -/
def RetN (e : Ending) (o : Option Nat) : Prop := (∃ n, o = some n ∧ e = .returned (.tuple #[.int .u64 (n : Nat), .nilIface])) ∨ (o = none ∧ ∃ t p, e = .returned (.tuple #[.int .u64 0, .iface t p]))
theorem new_any (s : ByteArray) (w : World) : Calls Tryz.prog 39 #[.string s] w fun e w' => (∃ t p, e = .returned (.iface t p)) ∧ Below w.heap.size w w' := by
  go_enter Tryz.func39, Tryz.ntmps39
  go_wp2
  go_ret
  exact ⟨⟨_, _, rfl⟩, by go_grown⟩
theorem list_data (s : ByteArray) : s.data.toList = s.toList := (ByteArray.toList_eq s).symm

/-- Where Atoi tells an error. -/
theorem must_err (s : ByteArray) (w : World) (z : Int) (h : ∀ w, Vars w → Calls Tryz.prog 100 #[.string s] w fun e w' => (∃ t p, e = .returned (.tuple #[.int .i64 z, .iface t p])) ∧ Below w.heap.size w w') (hv : Vars w) :
    Calls Tryz.prog 90 #[.string s] w fun e w' => RetN e none ∧ Below w.heap.size w w' := by
  have H := hid h
  have HV := hid hv
  clear h hv
  go_enter Tryz.func90, Tryz.ntmps90
  go_wp2_with (first
    | (go_at_call 100; refine (H.out _ HV.out).mono ?_; rintro e w' ⟨⟨t, p, rfl⟩, hb⟩; replace hb := hid hb)
    | (go_at_call 39; refine (new_any _ _).mono ?_; rintro e w' ⟨⟨t2, p2, rfl⟩, hb2⟩; replace hb2 := hid hb2))
  go_returns
  exact ⟨.inr ⟨rfl, t2, p2, rfl⟩, bt hb.out hb2.out⟩
theorem must_neg (s : ByteArray) (w : World) (z : Int) (hz : z < 0) (h : ∀ w, Calls Tryz.prog 100 #[.string s] w fun e w' => e = .returned (.tuple #[.int .i64 z, .nilIface]) ∧ Below w.heap.size w w') :
    Calls Tryz.prog 90 #[.string s] w fun e w' => RetN e none ∧ Below w.heap.size w w' := by
  have H := hid h
  clear h
  go_enter Tryz.func90, Tryz.ntmps90
  go_wp2_with (first
    | (go_at_call 100; refine (H.out _).mono ?_; rintro e w' ⟨rfl, hb⟩; replace hb := hid hb)
    | (go_at_call 39; refine (new_any _ _).mono ?_; rintro e w' ⟨⟨t2, p2, rfl⟩, hb2⟩; replace hb2 := hid hb2))
  go_returns
  exact ⟨.inr ⟨rfl, t2, p2, rfl⟩, bt hb.out hb2.out⟩
/-- mustParseInt, whatever the text. -/
theorem mustN_any (s : ByteArray) (hs : s.size ≤ 65536) (w : World) (hv : Vars w) : Calls Tryz.prog 90 #[.string s] w fun e w' => RetN e (inum s.toList) ∧ Below w.heap.size w w' := by
  rcases hq : Lib.atoiAll s.toList with v | _ | _
  · by_cases h0 : 0 ≤ v
    · obtain ⟨n, rfl⟩ := Int.eq_ofNat_of_zero_le h0
      have hb := Lib.atoiAll_bounds hq
      have hi : inum s.toList = some n := by unfold inum; rw [hq]; simp
      rw [hi]
      exact (must_any s n (by omega) hq (by omega) w).mono fun e w' ⟨he, hb⟩ => ⟨.inl ⟨n, rfl, he⟩, hb⟩
    · have hi : inum s.toList = none := by unfold inum; rw [hq]; simp [h0]
      rw [hi]
      refine must_neg s w v (by omega) (fun w => ?_)
      refine (Tryz.strconv_Atoi_ok s (by omega) v (by rw [list_data]; exact hq) w).mono ?_
      rintro e w' ⟨rfl, rfl | ⟨t, rfl⟩⟩
      · exact ⟨rfl, Below.refl _ _⟩
      · exact ⟨rfl, Lib.bytesWorld_below _ _ _⟩
  · have hi : inum s.toList = none := by unfold inum; rw [hq]
    rw [hi]
    refine must_err s w 0 (fun w hv => ?_) hv
    obtain ⟨⟨u, v, hc⟩, _⟩ := hv
    exact (Any.strconv_Atoi_syntax Tryz.laysC172 s (by omega) (by rw [list_data]; exact hq) _ w hc (.inr ⟨u, v, rfl⟩)).mono fun e w' ⟨N, he, _, _, hb⟩ => ⟨⟨_, _, he⟩, hb⟩
  · have hi : inum s.toList = none := by unfold inum; rw [hq]
    rw [hi]
    refine must_err s w (Lib.atoiSat s.data.toList) (fun w hv => ?_) hv
    obtain ⟨_, ⟨u, v, hc⟩⟩ := hv
    exact (Tryz.strconv_Atoi_range s (by omega) (by rw [list_data]; exact hq) _ w hc (.inr ⟨u, v, rfl⟩)).mono fun e w' ⟨N, he, _, _, hb⟩ => ⟨⟨_, _, he⟩, hb⟩
end Go.Proofs.YtomkhhpigpilfaaGreatDoor
