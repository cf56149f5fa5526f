/- The doors of the comparisons of terms, walked. What an operator says, by its number. Terms made out of versions: stTerm, stHolds, stBare, walked. stHolds, stBare, walked. -/
import Derived.Test.YtkohcmgckkenpaaDoorTerm
import Derived.Test.YtkohcmgckkenpaaDoorOpAll
import Derived.Test.YtkohcmgckkenpaaDoorDoorB
import Derived.Deep.RegionHeld3
import Derived.Deep.RegionWith
set_option linter.unusedVariables false
set_option linter.unusedSimpArgs false
namespace Go.Proofs.YtkohcmgckkenpaaDoor
open Go.RowKit

theorem keepTV {o k : Nat} {a b c : Int} {p m : ByteArray} {a' b' c' : Int} {p' : ByteArray} {w w' : World} (hb : Below ((w.alloc (.cells (tcells o k a' b' c' p') 30)).alloc (.cells (scells a b c p m) 25)).heap.size ((w.alloc (.cells (tcells o k a' b' c' p') 30)).alloc (.cells (scells a b c p m) 25)) w') : w'.cell? ⟨w.heap.size, 0, none⟩ = some (.int .i64 o) ∧ w'.cell? ⟨w.heap.size, 1, none⟩ = some (.int .i64 k) ∧ w'.cell? ⟨w.heap.size, 2, none⟩ = some (.int .u64 a') ∧ w'.cell? ⟨w.heap.size, 3, none⟩ = some (.int .u64 b') ∧ w'.cell? ⟨w.heap.size, 4, none⟩ = some (.int .u64 c') ∧ w'.cell? ⟨w.heap.size, 5, none⟩ = some (.string p') ∧ w'.cell? ⟨w.heap.size + 1, 0, none⟩ = some (.int .u64 a) ∧ w'.cell? ⟨w.heap.size + 1, 1, none⟩ = some (.int .u64 b) ∧ w'.cell? ⟨w.heap.size + 1, 2, none⟩ = some (.int .u64 c) ∧ w'.cell? ⟨w.heap.size + 1, 3, none⟩ = some (.string p) ∧ w'.cell? ⟨w.heap.size + 1, 4, none⟩ = some (.string m) := by
  have h1 : Blk ((w.alloc (.cells (tcells o k a' b' c' p') 30)).alloc (.cells (scells a b c p m) 25)) w.heap.size 30 (tcells o k a' b' c' p') := (Blk.new w _ _).alloc _
  have h2 : Blk ((w.alloc (.cells (tcells o k a' b' c' p') 30)).alloc (.cells (scells a b c p m) 25)) (w.heap.size + 1) 25 (scells a b c p m) := by
    have := Blk.new (w.alloc (.cells (tcells o k a' b' c' p') 30)) 25 (scells a b c p m)
    rwa [World.size_alloc] at this
  have k1 := h1.below hb
  have k2 := h2.below hb
  exact ⟨k1.cell 0, k1.cell 1, k1.cell 2, k1.cell 3, k1.cell 4, k1.cell 5, k2.cell 0, k2.cell 1, k2.cell 2, k2.cell 3, k2.cell 4⟩
theorem ver_new (w : World) (x : Obj) (t : TypeId) (cs : Array Value) : Blk ((w.alloc x).alloc (.cells cs t)) (w.heap.size + 1) t cs := by
  have := Blk.new (w.alloc x) t cs
  rwa [World.size_alloc] at this

end Go.Proofs.YtkohcmgckkenpaaDoor

set_option linter.unusedVariables false
set_option linter.unusedSimpArgs false
namespace Go.Proofs.YtkohcmgckkenpaaDoor
open Go.RowKit

def opR (o : Nat) (bar : Bool) (n np a b c a' b' c' : Int) (k : Nat) (pe : Bool) : Bool :=
  match o with
  | 0 => opEq bar n a b a' b' c' (k == 1) (decide (k < 3)) (k == 2)
  | 1 => opNot bar n np a b c a' b' c' (k == 1) (decide (k < 3)) (k == 2) pe
  | 2 => opAbove bar n a b a' b' (k == 1) (decide (k < 3)) (k == 2)
  | 3 => opBelow bar n
  | 4 => opLeast bar n
  | 5 => opMost bar n a b a' b' (k == 1) (decide (k < 3))
  | 6 => opTilde bar n a b a' b' c' (k == 1) (k == 2)
  | _ => opCaret bar n a b c a' b' c' (k == 1) (k == 2)

/-- What the comparison by operator o says of a version and a term's k numbers. -/
def opV (o : Nat) (a b c : Int) (p : ByteArray) (a' b' c' : Int) (p' : ByteArray) (k : Nat) (pre : Bool) : Bool :=
  opR o (preBar p pre) (cmpV (num3 a b c a' b' c') p.toList p'.toList) (preC p.toList p'.toList) a b c a' b' c' k p.toList.isEmpty

theorem flags_apart (k : Nat) : (k == 1) = true → (k == 2) ≠ true := by
  intro h1 h2
  have := beq_iff_eq.1 h1
  have := beq_iff_eq.1 h2
  omega

theorem opIs_any (o : Nat) (ho : o < 8) (k : Nat) (a b c : Int) (p m : ByteArray) (a' b' c' : Int) (p' m' op og : ByteArray) (pre : Bool) (sp : p.size ≤ 2147483647) (sp' : p'.size ≤ 2147483647) (hk2 : k = 2 → p'.toList.isEmpty = true)
    (ra : 0 ≤ a) (rb : 0 ≤ b) (ra' : 0 ≤ a') (rb' : 0 ≤ b') (g h : Nat) :
    OpIs (opF o) g h a b c p m a' b' c' p' m' op og (k == 1) (decide (k < 3)) (k == 2) pre (opV o a b c p a' b' c' p' k pre) := by
  intro k' W hcf hv
  have hc : CmpIs g h k' a b c p m a' b' c' p' m' op og (k == 1) (decide (k < 3)) (k == 2) (cmpV (num3 a b c a' b' c') p.toList p'.toList) := (fun W h1 h2 => compare_any a b c p m a' b' c' p' m' sp sp' g h W h1.v1 h1.v2 h2)
  obtain rfl | rfl | rfl | rfl | rfl | rfl | rfl | rfl : o = 0 ∨ o = 1 ∨ o = 2 ∨ o = 3 ∨ o = 4 ∨ o = 5 ∨ o = 6 ∨ o = 7 := by omega
  · exact eq_any g h k' a b c p m a' b' c' p' m' op og (k == 1) (decide (k < 3)) (k == 2) pre _ W hcf hv hc (flags_apart k)
  · exact noteq_any g h k' a b c p m a' b' c' p' m' op og (k == 1) (decide (k < 3)) (k == 2) pre _ W hcf hv hc _ (fun W h1 => comparePre_any p p' W sp sp' h1) (fun h2 => hk2 (beq_iff_eq.1 h2))
  · exact above_any g h k' a b c p m a' b' c' p' m' op og (k == 1) (decide (k < 3)) (k == 2) pre _ W hcf hv hc
  · exact below_any g h k' a b c p m a' b' c' p' m' op og (k == 1) (decide (k < 3)) (k == 2) pre _ W hcf hv hc
  · exact least_any g h k' a b c p m a' b' c' p' m' op og (k == 1) (decide (k < 3)) (k == 2) pre _ W hcf hv hc
  · exact most_any g h k' a b c p m a' b' c' p' m' op og (k == 1) (decide (k < 3)) (k == 2) pre _ W hcf hv hc
  · exact tilde_any g h k' a b c p m a' b' c' p' m' op og (k == 1) (decide (k < 3)) (k == 2) pre _ W hcf hv hc (flags_apart k)
  · exact caret_any g h k' a b c p m a' b' c' p' m' op og (k == 1) (decide (k < 3)) (k == 2) pre _ W hcf hv hc ra rb ra' rb'

end Go.Proofs.YtkohcmgckkenpaaDoor

set_option linter.unusedVariables false
set_option linter.unusedSimpArgs false
namespace Go.Proofs.YtkohcmgckkenpaaDoor
open Go.RowKit

theorem bare_exact (a b c : Int) (p m : ByteArray) (w : World) : Calls Tryd.prog 12 #[.agg (scells a b c p m)] w fun e w' => e = .returned (.agg (scells a b c ByteArray.empty ByteArray.empty)) ∧ w' = (w.alloc (.cells (scells a b c p m) 25)).alloc (.cells (scells a b c ByteArray.empty ByteArray.empty) 25) := by
  go_enter Tryd.func12, Tryd.ntmps12
  go_wp2_with fail
  go_returns
  exact ⟨rfl, rfl⟩

/-- The first k numbers of a version, and its prerelease if there are three. -/
abbrev cutN (k : Nat) (n : Nat) (x : Int) : Int := if n < k then x else 0
abbrev cutP (k : Nat) (p : ByteArray) : ByteArray := if 2 < k then p else ByteArray.empty

theorem stTerm_0 (o : Int) (a b c : Int) (p m : ByteArray) (w : World) :
    Calls Tryd.prog 9 #[.int .i64 o, .agg (scells a b c p m), .int .i64 0] w fun e w' => e = .returned (.agg #[.int .i64 o, .int .i64 0, .int .u64 a, .int .u64 0, .int .u64 0, .string ByteArray.empty]) ∧ Below w.heap.size w w' := by
  go_enter Tryd.func9, Tryd.ntmps9
  go_wp2_with fail
  go_returns
  exact ⟨rfl, by go_grown⟩

theorem stTerm_1 (o : Int) (a b c : Int) (p m : ByteArray) (w : World) :
    Calls Tryd.prog 9 #[.int .i64 o, .agg (scells a b c p m), .int .i64 1] w fun e w' => e = .returned (.agg #[.int .i64 o, .int .i64 1, .int .u64 a, .int .u64 0, .int .u64 0, .string ByteArray.empty]) ∧ Below w.heap.size w w' := by
  go_enter Tryd.func9, Tryd.ntmps9
  go_wp2_with fail
  go_returns
  exact ⟨rfl, by go_grown⟩

theorem stTerm_2 (o : Int) (a b c : Int) (p m : ByteArray) (w : World) :
    Calls Tryd.prog 9 #[.int .i64 o, .agg (scells a b c p m), .int .i64 2] w fun e w' => e = .returned (.agg #[.int .i64 o, .int .i64 2, .int .u64 a, .int .u64 b, .int .u64 0, .string ByteArray.empty]) ∧ Below w.heap.size w w' := by
  go_enter Tryd.func9, Tryd.ntmps9
  go_wp2_with fail
  go_returns
  exact ⟨rfl, by go_grown⟩

theorem stTerm_3 (o : Int) (a b c : Int) (p m : ByteArray) (w : World) :
    Calls Tryd.prog 9 #[.int .i64 o, .agg (scells a b c p m), .int .i64 3] w fun e w' => e = .returned (.agg #[.int .i64 o, .int .i64 3, .int .u64 a, .int .u64 b, .int .u64 c, .string p]) ∧ Below w.heap.size w w' := by
  go_enter Tryd.func9, Tryd.ntmps9
  go_wp2_with fail
  go_region
  all_goals (go_wp2_with fail; go_returns; exact ⟨rfl, by go_grown⟩)

theorem stTerm_any (o : Int) (k : Nat) (hk : k ≤ 3) (a b c : Int) (p m : ByteArray) (w : World) :
    Calls Tryd.prog 9 #[.int .i64 o, .agg (scells a b c p m), .int .i64 k] w fun e w' => e = .returned (.agg #[.int .i64 o, .int .i64 k, .int .u64 a, .int .u64 (cutN k 1 b), .int .u64 (cutN k 2 c), .string (cutP k p)]) ∧ Below w.heap.size w w' := by
  obtain rfl | rfl | rfl | rfl : k = 0 ∨ k = 1 ∨ k = 2 ∨ k = 3 := by omega
  · exact stTerm_0 o a b c p m w
  · exact stTerm_1 o a b c p m w
  · exact stTerm_2 o a b c p m w
  · exact stTerm_3 o a b c p m w

end Go.Proofs.YtkohcmgckkenpaaDoor

set_option linter.unusedVariables false
set_option linter.unusedSimpArgs false
namespace Go.Proofs.YtkohcmgckkenpaaDoor
open Go.RowKit

theorem two_new (w : World) (x y : Array Value) (t u : TypeId) : Blk ((w.alloc (.cells x t)).alloc (.cells y u)) w.heap.size t x ∧ Blk ((w.alloc (.cells x t)).alloc (.cells y u)) (w.heap.size + 1) u y := by
  refine ⟨(Blk.new w _ _).alloc _, ?_⟩
  have := Blk.new (w.alloc (.cells x t)) u y
  rwa [World.size_alloc] at this
theorem blk_gr {w : World} {g : Nat} {t : TypeId} {cs : Array Value} (h : Blk w g t cs) (d : Nat) (os : Array Obj) : Blk (Go.Sort.grow (redrawn w d) os) g t cs := h.below (below_regrown w d os)
theorem vars_gr {w W : World} (hv : Vars w) (hW : Below w.heap.size w W) (d : Nat) (os : Array Obj) : Vars (Go.Sort.grow (redrawn W d) os) := hv.below (bt hW (below_regrown W d os))

end Go.Proofs.YtkohcmgckkenpaaDoor
