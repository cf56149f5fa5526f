/- impl.Next at UTC and at a zone of one offset: the instant of the second found, or none. Walked. -/
import Derived.Test.YtjbafphoemibaaaGreatDoorSched
import Derived.Deep.RegionHeld3
set_option linter.unusedVariables false
set_option linter.unusedSimpArgs false
namespace Go.Proofs.YtjbafphoemibaaaGreatDoor
open Go.RowKit

theorem locB_utc (o d h x : Option Addr) (c0 n1 c1 n2 c2 n3 c3 : Nat) (w : World) : Calls Tryz.prog 17 #[.agg (zcells o d h x 0 c0 n1 c1 n2 c2 n3 c3)] w fun e w' => (∃ g, e = .returned (.pointer (some ⟨g, 0, none⟩)) ∧ LocB w' g true 0) ∧ Below w.heap.size w w' := by
  have B := hid (show Below w.heap.size w (w.alloc (.cells (zcells o d h x 0 c0 n1 c1 n2 c2 n3 c3) 37)) by go_grown)
  have CU := hid (fun w => utcB_any w)
  go_enter Tryz.func17, Tryz.ntmps17
  go_wp2_with (go_at_call 26; refine (CU.out _).mono ?_; rintro e w' ⟨⟨g, rfl, hc, _⟩, hb⟩; replace hb := hid (bt B.out hb); replace hc := hid hc)
  go_ret
  exact ⟨⟨_, rfl, .inl ⟨rfl, rfl, hc.out⟩⟩, hb.out⟩
theorem locB_zone (o d h x : Option Addr) (n0 c0 n1 c1 c2 n3 c3 : Nat) (off : Int) (w : World) (O : Nat → Int) (D : Nat → Bool) (W I : Nat → Int) (h0 : 0 < n0) (h1 : n1 = n0) (h3 : n3 = 1) (hn0 : n0 ≤ 64) (hz : ZIn w o d h x n0 n1 1 n3 O D W I) (ho : off = O (I 0).toNat) : Calls Tryz.prog 17 #[.agg (zcells o d h x n0 c0 n1 c1 1 c2 n3 c3)] w fun e w' => (∃ g, e = .returned (.pointer (some ⟨g, 0, none⟩)) ∧ LocB w' g false off) ∧ Below w.heap.size w w' := by
  refine (location_zone o d h x n0 c0 n1 c1 1 c2 n3 c3 w O D W I h0 h1 h3 hn0 (by decide) (by decide) hz).mono ?_
  rintro e w' ⟨⟨g, gz, gt, cz, ct, he, hl⟩, hb⟩
  exact ⟨⟨g, he, .inr ⟨rfl, gz, gt, n0, cz, ct, O, D, W, I, hl, hz.cont, h0, hn0, ho⟩⟩, hb⟩

theorem spec_next (x y : Value) (w : World) : (invoke (.fn (.method "Next") #[]) #[.iface 58 x, y]).run Tryz.prog w = .ok (.enter 116 #[x, y]) w := by kernel_rfl
set_option maxRecDepth 100000 in
theorem answer_any (n e s : Int) (p : Option Addr) (w : World) (h0 : 0 ≤ n) (h1 : n < 1000000000) (hs : e + -62135596800 = s) (h2 : 0 < e) (h3 : e ≤ 9223372036854775807) : Calls Tryz.prog 14 #[.agg (tcells n e p)] w fun e' w' => e' = .returned (.tuple #[.agg (icells s n), .bool true]) ∧ Below w.heap.size w w' := by
  have B := hid (show Below w.heap.size w ((w.alloc (.cells (tcells n e p) 52)).alloc (.cells (icells 0 0) 23)) by go_grown)
  have Q := hid ((Blk.new w 52 (tcells n e p)).alloc (.cells (icells 0 0) 23))
  have R := hid (Blk.new (w.alloc (.cells (tcells n e p) 52)) 23 (icells 0 0))
  have hsz : (w.alloc (.cells (tcells n e p) 52)).heap.size = w.heap.size + 1 := by simp
  rw [hsz] at R
  have CZ := hid (fun w => isZero_any n e p w h2)
  have CP := hid (fun w => plainMoment_any n e s p w h0 h1 hs (by omega) (by omega))
  clear h0 h1 hs h2 h3
  go_enter Tryz.func14, Tryz.ntmps14
  go_wp2_with fail
  go_at_call 22
  refine (CZ.out _).mono ?_
  rintro e' w1 ⟨rfl, hb⟩
  have B1 := hid (bt B.out hb)
  have Q1 := hid (Q.out.below hb)
  have R1 := hid (R.out.below hb)
  clear hb Q R B
  have k0 : w1.cell? ⟨w.heap.size, 0, none⟩ = some (.int .u64 n) := Q1.out.cell 0
  have k1 : w1.cell? ⟨w.heap.size, 1, none⟩ = some (.int .i64 e) := Q1.out.cell 1
  have k2 : w1.cell? ⟨w.heap.size, 2, none⟩ = some (.pointer p) := Q1.out.cell 2
  go_wp2_with fail
  go_at_call 23
  refine (CP.out _).mono ?_
  rintro e' w2 ⟨rfl, hb⟩
  have B2 := hid (bt B1.out hb)
  have R2 := hid (R1.out.below hb)
  clear hb k0 k1 k2
  have t0 : w2.there (w.heap.size + 1) 0 2 := there_blk R2.out 2 (Nat.le_refl 2)
  have T0 := hid t0
  clear t0
  go_wp2_with (refine wpList_store_mid rfl 23 (.tmp 2) (.tmp 8) rfl (w.heap.size + 1) 0 (icells s n) (by rfl) (by rfl) T0.out (by kernel_rfl) (by simp [Value.oneCell']) ?_; have R3 := hid (set2_blk R2.out rfl s n); have B3 := hid (set2_below B2.out (Nat.le_succ _) s n); generalize w2.setCells (w.heap.size + 1) 0 (icells s n).toList = w3 at R3 B3 ⊢)
  exact bodyPost_ret (results_row_tmp rfl _ _ (w.heap.size + 1) 23 _ (0, 0) _ rfl R3.out Tryz.underlying23 rfl (by kernel_rfl)) rfl ⟨rfl, B3.out⟩

/-- What the thin package's Next gives. -/
def NextOut (e : Ending) (S : Sets) (l1 off : Int) : Prop :=
  (∃ l, e = .returned (.tuple #[.agg (icells (l - off) 0), .bool true]) ∧ Found S (l1 + 1) (yP ((l1 + 1) / 86400) + 5) l) ∨
  (e = .returned (.tuple #[.agg (icells 0 0), .bool false]) ∧ Nothing S (l1 + 1) (yP ((l1 + 1) / 86400) + 5))

theorem keepN {dl s n : Int} {S : Sets} {z0 z1 z2 z3 : Value} {b0 b1 b2 : Nat} {t0 t1 t2 : TypeId} {w w' : World} (h0 : Blk w b0 t0 (schCells dl S)) (h1 : Blk w b1 t1 (icells s n)) (h2 : Blk w b2 t2 #[z0, z1, z2, z3]) (hb : Below w.heap.size w w') :
    w'.cell? ⟨b0, 0, none⟩ = some (.bool false) ∧ w'.cell? ⟨b0, 1, none⟩ = some (.int .i64 dl) ∧ w'.cell? ⟨b0, 2, none⟩ = some (.int .u64 S.sec) ∧ w'.cell? ⟨b0, 3, none⟩ = some (.int .u64 S.min) ∧ w'.cell? ⟨b0, 4, none⟩ = some (.int .u64 S.hour) ∧ w'.cell? ⟨b0, 5, none⟩ = some (.int .u64 S.dom) ∧ w'.cell? ⟨b0, 6, none⟩ = some (.int .u64 S.month) ∧ w'.cell? ⟨b0, 7, none⟩ = some (.int .u64 S.dow) ∧
    w'.cell? ⟨b1, 0, none⟩ = some (.int .i64 s) ∧ w'.cell? ⟨b1, 1, none⟩ = some (.int .i64 n) ∧ w'.cell? ⟨b2, 0, none⟩ = some z0 ∧ w'.cell? ⟨b2, 1, none⟩ = some z1 ∧ w'.cell? ⟨b2, 2, none⟩ = some z2 ∧ w'.cell? ⟨b2, 3, none⟩ = some z3 := by
  have k0 := h0.below hb
  have k1 := h1.below hb
  have k2 := h2.below hb
  exact ⟨k0.cell 0, k0.cell 1, k0.cell 2, k0.cell 3, k0.cell 4, k0.cell 5, k0.cell 6, k0.cell 7, k1.cell 0, k1.cell 1, k2.cell 0, k2.cell 1, k2.cell 2, k2.cell 3⟩

/-- The answer, whatever the search gave. -/
theorem answerN_any (e : Ending) (S : Sets) (l1 off : Int) (p : Option Addr) (v : Value) (X : World) (ho : offOk off) (hl1 : -62135596800 ≤ l1 - off) (hl2 : l1 - off ≤ 253402300799) (h : NextSays (.returned v) S (l1 + 1) (yP ((l1 + 1) / 86400) + 5) off p) :
    Calls Tryz.prog 14 #[v] X fun e' w' => NextOut e' S l1 off ∧ Below X.heap.size X w' := by
  rcases h with ⟨l, he, hf⟩ | ⟨he, hn⟩
  · have hv : v = .agg (tcells 0 (eL off l) p) := by injection he
    subst hv
    have hy := year_top (day := (l1 + 1) / 86400) (by have := ho.1; omega) (by have := ho.2; omega)
    have hub : l ≤ 330000000000 := hf.2.1
    refine (answer_any 0 (eL off l) (l - off) p X (by decide) (by decide) (by unfold eL; omega) (by have := hf.1; unfold eL; omega) (by have := ho.1; unfold eL; omega)).mono ?_
    rintro e' w' ⟨rfl, hb⟩
    exact ⟨.inl ⟨l, rfl, hf⟩, hb⟩
  · have hv : v = .agg (tcells 0 0 none) := by injection he
    subst hv
    refine (answer_none none X).mono ?_
    rintro e' w' ⟨rfl, hb⟩
    exact ⟨.inr ⟨rfl, hn⟩, hb⟩
end Go.Proofs.YtjbafphoemibaaaGreatDoor
