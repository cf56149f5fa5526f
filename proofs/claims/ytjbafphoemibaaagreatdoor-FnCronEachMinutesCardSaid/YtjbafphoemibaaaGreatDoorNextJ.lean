/- impl.Next at any location that keeps one offset: NextOut. Walked. -/
import Derived.Test.YtjbafphoemibaaaGreatDoorNextI
set_option linter.unusedVariables false
set_option linter.unusedSimpArgs false
namespace Go.Proofs.YtjbafphoemibaaaGreatDoor
open Go.RowKit

theorem nextSays_v {e : Ending} {S : Sets} {l0 lim off : Int} {p : Option Addr} (h : NextSays e S l0 lim off p) : ∃ v, e = .returned v ∧ NextSays (.returned v) S l0 lim off p := by
  rcases h with ⟨l, rfl, hf⟩ | ⟨rfl, hn⟩
  · exact ⟨_, rfl, .inl ⟨l, rfl, hf⟩⟩
  · exact ⟨_, rfl, .inr ⟨rfl, hn⟩⟩
theorem nextOut_v {e : Ending} {S : Sets} {l1 off : Int} (h : NextOut e S l1 off) : ∃ (s : Int) (k : Bool), e = .returned (.tuple #[.agg (icells s 0), .bool k]) ∧ NextOut (.returned (.tuple #[.agg (icells s 0), .bool k])) S l1 off := by
  rcases h with ⟨l, rfl, hf⟩ | ⟨rfl, hn⟩
  · exact ⟨_, _, rfl, .inl ⟨l, rfl, hf⟩⟩
  · exact ⟨_, _, rfl, .inr ⟨rfl, hn⟩⟩
theorem below_set2 {B : Nat} {w w1 : World} (h : Below B w w1) {g : Nat} (hg : B ≤ g) (x y : Value) : Below B w ((w1.setCell ⟨g, 0, none⟩ x).setCell ⟨g, 1, none⟩ y) := below_set (below_set h hg 0 _) hg 1 _
theorem keepN2 {dl s n : Int} {S : Sets} {z0 z1 z2 z3 : Value} {b0 b1 b2 k : Nat} {t0 t1 t2 : TypeId} {w : World} (h0 : Blk w b0 t0 (schCells dl S)) (h1 : Blk w b1 t1 (icells s n)) (h2 : Blk w b2 t2 #[z0, z1, z2, z3]) (e0 : b0 ≠ k) (e1 : b1 ≠ k) (e2 : b2 ≠ k) (x y : Value) : ∀ {w' : World}, w' = ((w.setCell ⟨k, 0, none⟩ x).setCell ⟨k, 1, none⟩ y) →
    w'.cell? ⟨b0, 0, none⟩ = some (.bool false) ∧ w'.cell? ⟨b0, 1, none⟩ = some (.int .i64 dl) ∧ w'.cell? ⟨b0, 2, none⟩ = some (.int .u64 S.sec) ∧ w'.cell? ⟨b0, 3, none⟩ = some (.int .u64 S.min) ∧ w'.cell? ⟨b0, 4, none⟩ = some (.int .u64 S.hour) ∧ w'.cell? ⟨b0, 5, none⟩ = some (.int .u64 S.dom) ∧ w'.cell? ⟨b0, 6, none⟩ = some (.int .u64 S.month) ∧ w'.cell? ⟨b0, 7, none⟩ = some (.int .u64 S.dow) ∧
    w'.cell? ⟨b1, 0, none⟩ = some (.int .i64 s) ∧ w'.cell? ⟨b1, 1, none⟩ = some (.int .i64 n) ∧ w'.cell? ⟨b2, 0, none⟩ = some z0 ∧ w'.cell? ⟨b2, 1, none⟩ = some z1 ∧ w'.cell? ⟨b2, 2, none⟩ = some z2 ∧ w'.cell? ⟨b2, 3, none⟩ = some z3 := by
  rintro w' rfl
  have k0 := (h0.other e0 0 x).other e0 1 y
  have k1 := (h1.other e1 0 x).other e1 1 y
  have k2 := (h2.other e2 0 x).other e2 1 y
  exact ⟨k0.cell 0, k0.cell 1, k0.cell 2, k0.cell 3, k0.cell 4, k0.cell 5, k0.cell 6, k0.cell 7, k1.cell 0, k1.cell 1, k2.cell 0, k2.cell 1, k2.cell 2, k2.cell 3⟩

theorem nil_ahead (g : Nat) (X : World) : Sem.run Tryz.prog (nilAhead 331 58 (.pointer (some ⟨g, 0, none⟩)) "Next") X = .ok (some false) X := by kernel_rfl

set_option maxHeartbeats 3200000 in
set_option maxRecDepth 100000 in
theorem implNext_any (dl : Int) (S : Sets) (s n off : Int) (b : Bool) (o d h x : Option Addr) (n0 c0 n1 c1 n2 c2 n3 c3 : Nat) (w : World) (hS : setsOk S) (ho : offOk off) (h60 : off % 60 = 0) (hg : goodT s n)
    (hL : ∀ X, Below w.heap.size w X → Calls Tryz.prog 17 #[.agg (zcells o d h x n0 c0 n1 c1 n2 c2 n3 c3)] X fun e w' => (∃ g, e = .returned (.pointer (some ⟨g, 0, none⟩)) ∧ LocB w' g b off) ∧ Below X.heap.size X w') :
    Calls Tryz.prog 7 #[.agg (schCells dl S), .agg (icells s n), .agg (zcells o d h x n0 c0 n1 c1 n2 c2 n3 c3)] w fun e w' => NextOut e S (s + off) off ∧ Below w.heap.size w w' := by
  obtain ⟨g1, g2, g3, g4⟩ := hg
  have s1 : (w.alloc (.cells (schCells dl S) 27)).heap.size = w.heap.size + 1 := by simp
  have s2 : ((w.alloc (.cells (schCells dl S) 27)).alloc (.cells (icells s n) 23)).heap.size = w.heap.size + 1 + 1 := by simp
  have B0 : Below w.heap.size w ((((w.alloc (.cells (schCells dl S) 27)).alloc (.cells (icells s n) 23)).alloc (.cells (zcells o d h x n0 c0 n1 c1 n2 c2 n3 c3) 37)).alloc (.cells (icells 0 0) 23)) := by go_grown
  have B := hid B0
  have K4 := hid ((((Blk.new w 27 (schCells dl S)).alloc (.cells (icells s n) 23)).alloc (.cells (zcells o d h x n0 c0 n1 c1 n2 c2 n3 c3) 37)).alloc (.cells (icells 0 0) 23))
  have K5 := hid (((Blk.new (w.alloc (.cells (schCells dl S) 27)) 23 (icells s n)).alloc (.cells (zcells o d h x n0 c0 n1 c1 n2 c2 n3 c3) 37)).alloc (.cells (icells 0 0) 23))
  have K6 := hid ((Blk.new ((w.alloc (.cells (schCells dl S) 27)).alloc (.cells (icells s n) 23)) 37 (zcells o d h x n0 c0 n1 c1 n2 c2 n3 c3)).alloc (.cells (icells 0 0) 23))
  have R := hid (Blk.new (((w.alloc (.cells (schCells dl S) 27)).alloc (.cells (icells s n) 23)).alloc (.cells (zcells o d h x n0 c0 n1 c1 n2 c2 n3 c3) 37)) 23 (icells 0 0))
  have s3 : (((w.alloc (.cells (schCells dl S) 27)).alloc (.cells (icells s n) 23)).alloc (.cells (zcells o d h x n0 c0 n1 c1 n2 c2 n3 c3) 37)).heap.size = w.heap.size + 1 + 1 + 1 := by simp
  rw [s1] at K5
  rw [s2] at K6
  rw [s3] at R
  have CL := hid hL
  obtain ⟨l1, hl1⟩ : ∃ l1, s + off = l1 := ⟨_, rfl⟩
  rw [hl1]
  have he : s + 62135596800 = eL off l1 := by unfold eL; omega
  have CM := hid (fun g X (hx : LocB X g b off) => moment_any s n (eL off l1) g b X hx.cell g3 g4 he (by unfold eL; omega) (by have := ho.1; have := ho.2; unfold eL; omega))
  have CN := hid (fun gs g X (hs : Blk X gs 60 (scd S.sec S.min S.hour S.dom S.month S.dow none)) (hx : LocB X g b off) => specNext_any gs S n l1 off g b X hs hS hx ho h60 g3 g4 (by omega) (by omega))
  have CA := hid (fun p v X hn => answerN_any .outgrown S l1 off p v X ho (by omega) (by omega) hn)
  have hnx := spec_next
  have hna := nil_ahead
  clear s1 s2 s3 B0 hS ho h60 g1 g2 g3 g4 hL he hl1
  go_enter Tryz.func7, Tryz.ntmps7
  go_upto_region 1 with fail
  generalize ((((w.alloc (.cells (schCells dl S) 27)).alloc (.cells (icells s n) 23)).alloc (.cells (zcells o d h x n0 c0 n1 c1 n2 c2 n3 c3) 37)).alloc (.cells (icells 0 0) 23)) = w1 at B K4 K5 K6 R ⊢
  go_region_held3 (fun w' => w'.cell? ⟨w.heap.size, 0, none⟩ = some (.bool false) ∧ w'.cell? ⟨w.heap.size, 1, none⟩ = some (.int .i64 dl) ∧ w'.cell? ⟨w.heap.size, 2, none⟩ = some (.int .u64 S.sec) ∧ w'.cell? ⟨w.heap.size, 3, none⟩ = some (.int .u64 S.min) ∧ w'.cell? ⟨w.heap.size, 4, none⟩ = some (.int .u64 S.hour) ∧ w'.cell? ⟨w.heap.size, 5, none⟩ = some (.int .u64 S.dom) ∧ w'.cell? ⟨w.heap.size, 6, none⟩ = some (.int .u64 S.month) ∧ w'.cell? ⟨w.heap.size, 7, none⟩ = some (.int .u64 S.dow) ∧
      w'.cell? ⟨w.heap.size + 1, 0, none⟩ = some (.int .i64 s) ∧ w'.cell? ⟨w.heap.size + 1, 1, none⟩ = some (.int .i64 n) ∧ w'.cell? ⟨w.heap.size + 1 + 1, 0, none⟩ = some (.slice o n0 c0) ∧ w'.cell? ⟨w.heap.size + 1 + 1, 1, none⟩ = some (.slice d n1 c1) ∧ w'.cell? ⟨w.heap.size + 1 + 1, 2, none⟩ = some (.slice h n2 c2) ∧ w'.cell? ⟨w.heap.size + 1 + 1, 3, none⟩ = some (.slice x n3 c3))
    ((first | (exact keepN2 (K4.out.below H6.out) (K5.out.below H6.out) (K6.out.below H6.out) (by omega) (by omega) (by omega) _ _ rfl; done) | (refine keepN K4.out K5.out K6.out ?_; first | (go_grown; done) | (exact H6.out; done) | (exact H5.out; done) | (exact H4.out; done) | (exact H3.out; done) | (exact H2.out; done))))
    (first
      | (go_at_call 15; refine (scheduleS_any dl S _).mono ?_; rintro e' w2 ⟨⟨gs, rfl, hbs, _⟩, hb⟩; have H2 := hid (bt (X := w1) (by go_grown) hb); have BS := hid hbs; clear hb hbs)
      | (go_at_call 17; refine (CL.out _ (by first | exact bt B.out H2.out | exact bt B.out (bt H2.out (by go_grown)))).mono ?_; rintro e' w3 ⟨⟨g, rfl, hl⟩, hb⟩; have H3 := hid (bt (X := w1) (by first | exact H2.out | exact bt H2.out (by go_grown)) hb); have LL := hid hl; have BS3 := hid (BS.out.below (by first | exact hb | exact bt (by go_grown) hb)); clear hb hl)
      | (go_at_call 16; refine (CM.out g _ (LL.out.below (by go_grown))).mono ?_; rintro e' w4 ⟨rfl, hb⟩; have H4 := hid (bt (X := w1) (by first | exact H3.out | exact bt H3.out (by go_grown)) hb); have LL4 := hid (LL.out.below (bt (by go_grown) hb)); have BS4 := hid (BS3.out.below (bt (by go_grown) hb)); clear hb)
      | (go_at_call 116; refine (CN.out gs g _ (BS4.out.below (by go_grown)) (LL4.out.below (by go_grown))).mono ?_; rintro e' w5 ⟨hn, hb⟩; obtain ⟨v, rfl, hv⟩ := nextSays_v hn; have H5 := hid (bt (X := w1) (by first | exact H4.out | exact bt H4.out (by go_grown)) hb); have HV := hid hv; clear hn hb hv)
      | (go_at_call 14; refine (CA.out _ v _ HV.out).mono ?_; rintro e' w6 ⟨hn, hb⟩; obtain ⟨s6, k6, rfl, hv⟩ := nextOut_v hn; have H6 := hid (bt (X := w1) (by first | exact H5.out | exact bt H5.out (by go_grown)) hb); have HOUT := hid hv; have A := hid (R.out.below H6.out); have a0 := A.out.cell 0; have a1 := A.out.cell 1; have f0 := A.out.frozen 0; have f1 := A.out.frozen 1; clear hn hb hv))
  all_goals
    go_wp2_with fail
    exact bodyPost_ret (results_row_tmp rfl _ _ (w.heap.size + 1 + 1 + 1) 23 _ (0, 0) _ rfl (show Blk _ _ _ (icells s6 0) from (A.out.set 0 (.int .i64 s6)).set 1 (.int .i64 0)) Tryz.underlying23 rfl (by kernel_rfl)) rfl ⟨Eq.mp (congrArg (fun e => NextOut e S l1 off) (by simp [Act.eval])) HOUT.out, below_set2 (bt B.out H6.out) (by omega) _ _⟩
end Go.Proofs.YtjbafphoemibaaaGreatDoor
