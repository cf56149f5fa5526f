/- digestset.ZZSet, walked: the set of the parts in memory. -/
import Derived.Test.YtekjeagcncfmmaaDoorFindB
import Derived.Lib.SmallJoins
set_option linter.unusedVariables false
set_option linter.unusedSimpArgs false
namespace Go.Proofs.YtekjeagcncfmmaaDoor
open Go.RowKit

/-- What the loop of ZZSet holds behind k parts. -/
structure ZRel (alg : ByteArray) (f : Nat → ByteArray) (w : World) (g k : Nat) (v : Value) (hs : List Nat) (wr : World) : Prop where
  set_ : Blk wr g 54 (scells 0 v)
  own : wr.ownsRow w.heap.size 55 1 v (ptrs hs).length (ptrs hs)
  len : hs.length = k
  ents : Ents wr alg f hs
  below : Below w.heap.size w wr
  at_ : w.heap.size ≤ g

theorem zrel_step {alg : ByteArray} {f : Nat → ByteArray} {w wr w1 : World} {g k : Nat} {v v1 : Value} {hs : List Nat} (R : ZRel alg f w g k v hs wr)
    (hown : w1.ownsRow w.heap.size 55 1 v1 (ptrs hs ++ [Value.pointer (some ⟨wr.heap.size, 0, none⟩)]).length (ptrs hs ++ [Value.pointer (some ⟨wr.heap.size, 0, none⟩)]))
    (hg : ((wr.alloc (.cells (ecells alg (f k)) 58)).alloc (.cells #[.pointer (some ⟨wr.heap.size, 0, none⟩)] 55)).grownBy w1 v.ownBlock) (hb : Below w.heap.size w w1) :
    Blk w1 g 54 (scells 0 v) ∧ ZRel alg f w g (k + 1) v1 (hs ++ [wr.heap.size]) (w1.setCell ⟨g, 6, none⟩ v1) := by
  have up : ∀ {b : Nat} {t : TypeId} {cs : Array Value}, Blk (wr.alloc (.cells (ecells alg (f k)) 58)) b t cs → t ≠ 55 → Blk w1 b t cs := fun {b t cs} h ht =>
    (h.alloc (.cells #[Value.pointer (some ⟨wr.heap.size, 0, none⟩)] 55)).grown hg (own_ne ((R.own.alloc _).alloc _) (h.alloc (.cells #[Value.pointer (some ⟨wr.heap.size, 0, none⟩)] 55)) ht)
  have hS := up (R.set_.alloc _) (by decide)
  have hE : Ents w1 alg f (hs ++ [wr.heap.size]) := by
    refine Ents.snoc (Ents.map R.ents fun b cs h => up (h.alloc _) (by decide)) R.len ?_
    exact up (Blk.new wr _ _) (by decide)
  refine ⟨hS, ⟨hS.set 6 v1, ?_, by simp [R.len], ?_, below_set hb R.at_ 6 v1, R.at_⟩⟩
  · have := own_set hown hS (by decide) 6 v1
    simpa [ptrs] using this
  · exact hE.map fun b cs h => h.set_other (blk_ne h hS (by decide)) 6 v1

theorem cat_colon (alg : ByteArray) (h : alg.size ≤ 50) (w : World) : (Op.stringOp .add alg ⟨#[58]⟩).run Tryd.prog w = .ok (.string (alg ++ ⟨#[58]⟩)) w := run_string_add_sum w _ _ (by have : (⟨#[58]⟩ : ByteArray).size = 1 := rfl; omega)
theorem cat_part (alg s : ByteArray) (h : alg.size ≤ 50) (hs : s.size ≤ 200) (w : World) : (Op.stringOp .add (alg ++ ⟨#[58]⟩) s).run Tryd.prog w = .ok (.string (dgOf alg s)) w := run_string_add_sum w _ _ (by have : (⟨#[58]⟩ : ByteArray).size = 1 := rfl; rw [ByteArray.size_append]; omega)

set_option maxHeartbeats 1600000 in
set_option maxRecDepth 100000 in
theorem zzSet_any (alg : ByteArray) (ao : Option Addr) (n c : Nat) (f : Nat → ByteArray) (w : World) (hn : n ≤ 40) (ha : alg.size ≤ 50) (hf : ∀ i, i < n → (f i).size ≤ 200) (hS : Strs w ao n f) : Calls Tryd.prog 10 #[.string alg, .slice ao n c] w fun e w' =>
    ∃ g v hs, e = .returned (.pointer (some ⟨g, 0, none⟩)) ∧ ZRel alg f w g n v hs w' := by
  have HS := hid hS
  have HF := hid hf
  have HA := hid ha
  have hc1 := cat_colon alg ha
  clear hS hf ha
  go_enter Tryd.func10, Tryd.ntmps10
  go_wp2_with (go_at_call 14; refine (newSet_any _).mono ?_; rintro e w0 ⟨⟨g, v0, rfl, hR0, hg0, hO0⟩, hb0⟩; have HZ := hid (show ZRel alg f w g 0 v0 [] w0 from ⟨hR0, hO0, rfl, fun i j hj => by simp at hj, hb0, hg0⟩); clear hR0 hg0 hO0 hb0)
  go_loopw [11] (fun i wr => ∃ (k : Nat) (v : Value) (hs : List Nat), k ≤ n ∧ i = .int .i64 k ∧ Hid (ZRel alg f w g k v hs wr)) (fun i _ => n - (intOf i).toNat)
  case atStart => exact ⟨0, v0, [], Nat.zero_le _, rfl, HZ.out⟩
  case round =>
    obtain ⟨k, v, hs, hk, rfl, R⟩ := hrel
    by_cases hlt : k < n
    · obtain ⟨a, rfl, hc⟩ := (HS.out.below (show Below w.heap.size w wr from R.out.below)) k hlt
      have hsz := HF.out k hlt
      obtain ⟨s, hs1⟩ : ∃ s, f k = s := ⟨_, rfl⟩
      rw [hs1] at hc hsz
      have HSS := hid hs1
      clear hs1
      have hc2 := cat_part alg s HA.out hsz
      clear hsz
      have hw : IntKind.i64.wrap ((k : Int) + 1) = (k : Int) + 1 := IntWalk.i64_in _ (by omega)
      have c6 : wr.cell? ⟨g, 6, none⟩ = some v := R.out.set_.cell 6
      have hxl : Hid ((ptrs hs).length ≤ 40) := hid (by have := R.out.len; simp [ptrs]; omega)
      have HB := hid (show Below w.heap.size w wr from R.out.below)
      go_wp2_with (at_builtin; refine app_more (w0 := w) w.heap.size rfl (.tmp 19) (.tmp 28) _ _ _ 8 rfl Tryd.underlying40 info_ent rfl _ (ptrs hs) _ rfl (Eq.trans (b := Value.slice (some ⟨wr.heap.size + 1, 0, none⟩) 1 1) rfl (by simp)) rfl (R.out.own.alloc _) (HB.out.alloc HB.out.size _) (by have := HB.out.size; simp; omega) (by have := hxl.out; unfold maxLen; omega) (by have := hxl.out; omega) ?_; intro v1 w1 hown1 hg1 hb1; obtain ⟨g2, cap2, hv1⟩ := Go.Joins.ownsRow_form hown1 (by simp); rw [show (ptrs hs ++ [Value.pointer (some ⟨wr.heap.size, 0, none⟩)]).length = hs.length + 1 by simp [ptrs]] at hv1; subst hv1; have ST := zrel_step R.out hown1 (by rw [HSS.out]; exact hg1) hb1; have HST := hid ST.2; have d6 : w1.cell? ⟨g, 6, none⟩ = some v := ST.1.cell 6; have d6f := ST.1.frozen 6; clear hown1 hg1 hb1 ST)
      go_roundw
      case rel => exact ⟨k + 1, _, _, by omega, by go_num, HST.out⟩
      case measure => simp [intOf]; omega
    · obtain rfl : n = k := by omega
      go_wp2_with fail
      go_ret
      exact ⟨g, v, hs, rfl, R.out⟩
end Go.Proofs.YtekjeagcncfmmaaDoor
