/- (As XMoment, the location told.) A moment out of an instant and a location, and the instant that a moment is. Walked. -/
import Derived.Test.YtjbafphoemibaaaGreatDoorTimeK
set_option linter.unusedVariables false
set_option linter.unusedSimpArgs false
namespace Go.Proofs.YtjbafphoemibaaaGreatDoor
open Go.RowKit

theorem results_row_tmp {P : Program} {fn : Func} {p u : Tmp} {ty : TypeId} (h : fn.results = #[.cell p ty, .tmp u]) (tmps : Array Value) (w : World) (g : Nat) (t : TypeId) (cs : Array Value) (fr : Nat × Nat) (d : TypeDesc)
    (hp : tmps.getD p undef = .pointer (some ⟨g, 0, none⟩)) (hg : w.heap[g]? = some (.cells cs t fr))
    (hu : P.underlying ty = some d) (hd : (match d with | .struct _ | .array _ _ => true | _ => false) = true) (hi : (P.info? ty).map (·.size) = some cs.size) :
    (results fn tmps).run P w = .ok (.tuple #[.agg cs, tmps.getD u undef]) w := by
  have hp' : tmps[p]?.getD undef = .pointer (some ⟨g, 0, none⟩) := by simpa using hp
  simp [results, h, hp', asAddr, run_loadVar_row w g t ty cs fr d hg hu hd hi]

/-- The location that is set: none for UTC. -/
def locOf (b : Bool) (h : Nat) : Option Addr := if b then none else some ⟨h, 0, none⟩

theorem setLoc_any (g h : Nat) (n e : Int) (p : Option Addr) (b : Bool) (w : World) (hg : Blk w g 52 (tcells n e p)) (hl : w.cell? ⟨h, 0, none⟩ = some (.bool b)) (h0 : 0 ≤ n) (h1 : n < 1073741824) : Calls Tryz.prog 53 #[.pointer (some ⟨g, 0, none⟩), .pointer (some ⟨h, 0, none⟩)] w fun e' w' => e' = .returned (.tuple #[]) ∧ w' = w.setCell ⟨g, 2, none⟩ (.pointer (locOf b h)) := by
  have C := hid (strip_any g n e p w hg h0 h1)
  have c2 : w.cell? ⟨g, 2, none⟩ = some (.pointer p) := hg.cell 2
  have f2 : w.frozen? ⟨g, 2, none⟩ = false := hg.frozen 2
  clear hg h0 h1
  cases b
  · go_enter Tryz.func53, Tryz.ntmps53
    go_wp2_with (go_at_call 73; refine C.out.mono ?_; rintro e' w' ⟨rfl, rfl⟩)
    go_end0
    exact ⟨rfl, rfl⟩
  · go_enter Tryz.func53, Tryz.ntmps53
    go_wp2_with (go_at_call 73; refine C.out.mono ?_; rintro e' w' ⟨rfl, rfl⟩)
    go_end0
    exact ⟨rfl, rfl⟩

set_option maxRecDepth 100000 in
theorem in_any (h : Nat) (n e : Int) (p : Option Addr) (b : Bool) (w : World) (hl : w.cell? ⟨h, 0, none⟩ = some (.bool b)) (h0 : 0 ≤ n) (h1 : n < 1073741824) : Calls Tryz.prog 25 #[.agg (tcells n e p), .pointer (some ⟨h, 0, none⟩)] w fun e' w' => e' = .returned (.agg (tcells n e (locOf b h))) ∧ Below w.heap.size w w' := by
  have hlt := World.block_lt_of_cell? w _ hl
  have B := hid (show Below w.heap.size w ((w.alloc (.cells (tcells n e p) 52)).alloc (.cells (tcells 0 0 none) 52)) by go_grown)
  have Q := hid ((Blk.new w 52 (tcells n e p)).alloc (.cells (tcells 0 0 none) 52))
  have R := hid (Blk.new (w.alloc (.cells (tcells n e p) 52)) 52 (tcells 0 0 none))
  have hsz : (w.alloc (.cells (tcells n e p) 52)).heap.size = w.heap.size + 1 := by simp
  rw [hsz] at R
  have HL := hid ((B.out.cell (p := ⟨h, 0, none⟩) hlt).trans hl)
  have H0 := hid h0
  have H1 := hid h1
  clear hl h0 h1 hlt
  go_enter Tryz.func25, Tryz.ntmps25
  go_wp2_with fail
  generalize ((w.alloc (.cells (tcells n e p) 52)).alloc (.cells (tcells 0 0 none) 52)) = w1 at Q R B HL ⊢
  go_wp2_with fail
  go_at_call 53
  refine (setLoc_any w.heap.size h n e p b w1 Q.out HL.out H0.out H1.out).mono ?_
  rintro e' w' ⟨rfl, rfl⟩
  obtain ⟨p', hp'⟩ : ∃ p', locOf b h = p' := ⟨_, rfl⟩
  rw [hp']
  have Q2 := hid (show Blk _ _ _ (tcells n e p') from Q.out.set 2 (.pointer p'))
  have R2 := hid (R.out.other (h := w.heap.size) (by omega) 2 (.pointer p'))
  have B2 := hid (below_set B.out (Nat.le_refl _) 2 (.pointer p'))
  clear Q R B HL
  generalize w1.setCell ⟨w.heap.size, 2, none⟩ (.pointer p') = w2 at Q2 R2 B2 ⊢
  have k0 : w2.cell? ⟨w.heap.size, 0, none⟩ = some (.int .u64 n) := Q2.out.cell 0
  have k1 : w2.cell? ⟨w.heap.size, 1, none⟩ = some (.int .i64 e) := Q2.out.cell 1
  have k2 : w2.cell? ⟨w.heap.size, 2, none⟩ = some (.pointer p') := Q2.out.cell 2
  have t0 : w2.there (w.heap.size + 1) 0 3 := there_blk R2.out 3 (Nat.le_refl 3)
  have T0 := hid t0
  clear t0
  go_wp2_with (refine wpList_store_mid rfl 52 (.tmp 4) (.tmp 10) rfl (w.heap.size + 1) 0 (tcells n e p') (by rfl) (by rfl) T0.out (by kernel_rfl) (by simp [Value.oneCell']) ?_; have R3 := hid (set3_blk R2.out rfl n e p'); have B3 := hid (set3_below B2.out (Nat.le_succ _) n e p'); generalize w2.setCells (w.heap.size + 1) 0 (tcells n e p').toList = w3 at R3 B3 ⊢)
  exact bodyPost_ret (results_cell_row rfl _ _ (w.heap.size + 1) 52 _ (0, 0) _ rfl R3.out Tryz.underlying52 rfl (by kernel_rfl)) rfl ⟨by rw [hp'], B3.out⟩

set_option maxRecDepth 100000 in
theorem moment_any (s n e : Int) (h : Nat) (b : Bool) (w : World) (hl : w.cell? ⟨h, 0, none⟩ = some (.bool b)) (h0 : 0 ≤ n) (h1 : n < 1000000000) (he : s + 62135596800 = e) (h2 : 0 ≤ e) (h3 : e ≤ 9223372036854775807) : Calls Tryz.prog 16 #[.agg (icells s n), .pointer (some ⟨h, 0, none⟩)] w fun e' w' => e' = .returned (.agg (tcells n e (locOf b h))) ∧ Below w.heap.size w w' := by
  have B := hid (show Below w.heap.size w ((w.alloc (.cells (icells s n) 23)).alloc (.cells (tcells 0 0 none) 52)) by go_grown)
  have R := hid (Blk.new (w.alloc (.cells (icells s n) 23)) 52 (tcells 0 0 none))
  have hsz : (w.alloc (.cells (icells s n) 23)).heap.size = w.heap.size + 1 := by simp
  rw [hsz] at R
  have HL := hid hl
  have CU := hid (fun w => gUnix_any s n e w h0 h1 he h2 h3)
  have CI := hid (fun w hl => in_any h n e none b w hl h0 (by omega))
  clear hl h0 h1 h2 h3 he
  go_enter Tryz.func16, Tryz.ntmps16
  go_wp2_with fail
  go_at_call 24
  refine (CU.out _).mono ?_
  rintro e' w1 ⟨rfl, hb⟩
  have B1 := hid (bt B.out hb)
  have R1 := hid (R.out.below hb)
  clear hb
  go_wp2_with fail
  go_at_call 25
  refine (CI.out w1 ((B1.out.cell (World.block_lt_of_cell? w _ HL.out)).trans HL.out)).mono ?_
  obtain ⟨p', hp'⟩ : ∃ p', locOf b h = p' := ⟨_, rfl⟩
  rw [hp']
  rintro e' w2 ⟨rfl, hb⟩
  have B2 := hid (bt B1.out hb)
  have R2 := hid (R1.out.below hb)
  clear hb
  have t0 : w2.there (w.heap.size + 1) 0 3 := there_blk R2.out 3 (Nat.le_refl 3)
  have T0 := hid t0
  clear t0
  go_wp2_with (refine wpList_store_mid rfl 52 (.tmp 4) (.tmp 11) rfl (w.heap.size + 1) 0 (tcells n e p') (by rfl) (by rfl) T0.out (by kernel_rfl) (by simp [Value.oneCell']) ?_; have R3 := hid (set3_blk R2.out rfl n e p'); have B3 := hid (set3_below B2.out (Nat.le_succ _) n e p'); generalize w2.setCells (w.heap.size + 1) 0 (tcells n e p').toList = w3 at R3 B3 ⊢)
  exact bodyPost_ret (results_cell_row rfl _ _ (w.heap.size + 1) 52 _ (0, 0) _ rfl R3.out Tryz.underlying52 rfl (by kernel_rfl)) rfl ⟨by rw [hp'], B3.out⟩

end Go.Proofs.YtjbafphoemibaaaGreatDoor
