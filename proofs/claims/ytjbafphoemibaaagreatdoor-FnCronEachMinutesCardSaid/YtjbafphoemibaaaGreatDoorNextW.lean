/- SpecSchedule.Next at clocks that keep one offset: the first second from the next one on that the sets allow, to the end of the fifth year. Walked. -/
import Derived.Test.YtjbafphoemibaaaGreatDoorNextS
import Derived.ScopeJumps
import Derived.WalkMore
import Derived.Deep.DeepCutAuto
set_option linter.unusedVariables false
set_option linter.unusedSimpArgs false
namespace Go.Proofs.YtjbafphoemibaaaGreatDoor
open Go.RowKit

/-- What the search gives back. -/
def NextSays (e : Ending) (S : Sets) (l0 lim off : Int) (p : Option Addr) : Prop :=
  (∃ l, e = .returned (.agg (tcells 0 (eL off l) p)) ∧ Found S l0 lim l) ∨ (e = .returned (.agg (tcells 0 0 none)) ∧ Nothing S l0 lim)

/-- A scope whose label's code is walked once, for the first pass and for all others. -/
theorem wp_scope_jumps2 {P : Program} {a : Act} {w : World} {Q : Exit → Act → World → Prop} {c rest : Code} (l : Nat) (J : Act → World → Prop) (μ : Act → World → Nat) (hf : findLabel c l = some (Code.skip.seq rest))
    (pass : ∀ a w, J a w → rest.wp P (Exit.jump l (fun a' w' => J a' w' ∧ μ a' w' < μ a w) Q) a w)
    (first : (∀ a w, J a w → rest.wp P (Exit.jump l J Q) a w) → c.wp P (Exit.jump l J Q) a w) : (Code.scope c).wp P Q a w := by
  refine wp_scope_jumps l J μ hf (first fun a w h => Code.wp_mono (fun e a w q => ?_) (pass a w h)) (fun a w h => wp_seq (wp_skip (pass a w h)))
  cases e <;> first | exact q | exact ⟨q.1, q.2.1⟩

theorem locS_of {w X w' : World} {g g0 : Nat} {b : Bool} {off : Int} (h : LocB w g0 b off) (hsz : w.heap.size + 2 ≤ X.heap.size) (h1 : b = true → X.heap.size ≤ g ∧ Blk w' g 109 ucells) (h2 : b = false → g = g0) : LocS w w' g b off := by
  cases b
  · exact .inr ⟨rfl, by rw [h2 rfl]; exact h⟩
  · rcases h with ⟨_, ho, _⟩ | ⟨hf, _⟩
    · exact .inl ⟨rfl, ho, (h1 rfl).2, by have := (h1 rfl).1; omega⟩
    · cases hf

/-- How far the search has come. -/
def mu (k : Nat) (wr : World) : Nat := (600000000000 - intOf ((wr.cell? ⟨k, 1, none⟩).getD undef)).toNat
theorem mu_at {w wr : World} {gs g5 g6 : Nat} {cs : Array Value} {b : Bool} {off : Int} {p : Option Addr} {n e : Int} (h : St w wr gs g5 g6 cs b off p n e) : mu w.heap.size wr = (600000000000 - e).toNat := by
  have : wr.cell? ⟨w.heap.size, 1, none⟩ = some (.int .i64 e) := h.t.cell 1
  unfold mu
  rw [this]
  rfl
theorem mu_lt {w wr wr' : World} {gs g5 g6 g5' g6' : Nat} {cs : Array Value} {b : Bool} {off : Int} {p : Option Addr} {l l' : Int} (h : St w wr gs g5 g6 cs b off p 0 (eL off l)) (h' : St w wr' gs g5' g6' cs b off p 0 (eL off l')) (ho : offOk off) (hl : l < l') (hl2 : l < 390000000000) : mu w.heap.size wr' < mu w.heap.size wr := by
  rw [mu_at h, mu_at h']
  obtain ⟨a, c⟩ := ho
  unfold eL
  omega

set_option maxRecDepth 100000 in
/-- Where the search stands at the label: the whole frame. -/
def Jmp (w : World) (gs : Nat) (S : Sets) (n l1 off : Int) (g0 : Nat) (b : Bool) (lim : Int) (a : Act) (wr : World) : Prop :=
  ∃ (added : Bool) (l : Int) (g5 g6 : Nat) (f : Nat → Value), a = { tmps := #[Value.pointer (some ⟨gs, 0, none⟩), Value.agg (tcells n (eL off l1) (locOf b g0)), undef, Value.pointer (some ⟨w.heap.size, 0, none⟩), Value.pointer (some ⟨w.heap.size + 1, 0, none⟩), Value.pointer (some ⟨g5, 0, none⟩), Value.pointer (some ⟨g6, 0, none⟩), Value.bool added, Value.int .i64 lim, f 9, f 10, f 11, f 12, f 13, f 14, f 15, f 16, f 17, f 18, f 19, f 20, f 21, f 22, f 23, f 24, f 25, f 26, f 27, f 28, f 29, f 30, f 31, f 32, f 33, f 34, f 35, f 36, f 37, f 38, f 39, f 40, f 41, f 42, f 43, f 44, f 45, f 46, f 47, f 48, f 49, f 50, f 51, f 52, f 53, f 54, f 55, f 56, f 57, f 58, f 59, f 60, f 61, f 62, f 63, f 64, f 65, f 66, f 67, f 68, f 69, f 70, f 71, f 72, f 73, f 74, f 75, f 76, f 77, f 78, f 79, f 80, f 81, f 82, f 83, f 84, f 85, f 86, f 87, f 88, f 89, f 90, f 91, f 92, f 93, f 94, f 95, f 96, f 97, f 98, f 99, f 100, f 101, f 102, f 103, f 104, f 105, f 106, f 107, f 108, f 109, f 110, f 111, f 112, f 113, f 114, f 115, f 116, f 117, f 118, f 119, f 120, f 121, f 122, f 123, f 124, f 125, f 126, f 127, f 128, f 129, f 130, f 131, f 132, f 133, f 134, f 135, f 136, f 137, f 138, f 139, f 140, f 141, f 142, f 143, f 144, f 145, f 146, f 147, f 148, f 149, f 150, f 151, f 152, f 153, f 154, f 155, f 156, f 157, f 158, f 159, f 160, f 161, f 162, f 163, f 164, f 165, f 166, f 167, f 168, f 169, f 170, f 171], defers := [] } ∧
    St w wr gs g5 g6 (scd S.sec S.min S.hour S.dom S.month S.dow none) b off (locOf b g0) 0 (eL off l) ∧ Way S (l1 + 1) lim added l ∧ l ≤ 370000000000

set_option maxRecDepth 100000 in
theorem jmp_intro {w wr : World} {gs : Nat} {S : Sets} {n l1 off : Int} {g0 : Nat} {b : Bool} {lim : Int} {t : Array Value} (added : Bool) (l : Int) (g5 g6 : Nat) (h : ({ tmps := t, defers := [] } : Act) = { tmps := #[Value.pointer (some ⟨gs, 0, none⟩), Value.agg (tcells n (eL off l1) (locOf b g0)), undef, Value.pointer (some ⟨w.heap.size, 0, none⟩), Value.pointer (some ⟨w.heap.size + 1, 0, none⟩), Value.pointer (some ⟨g5, 0, none⟩), Value.pointer (some ⟨g6, 0, none⟩), Value.bool added, Value.int .i64 lim, t.getD 9 undef, t.getD 10 undef, t.getD 11 undef, t.getD 12 undef, t.getD 13 undef, t.getD 14 undef, t.getD 15 undef, t.getD 16 undef, t.getD 17 undef, t.getD 18 undef, t.getD 19 undef, t.getD 20 undef, t.getD 21 undef, t.getD 22 undef, t.getD 23 undef, t.getD 24 undef, t.getD 25 undef, t.getD 26 undef, t.getD 27 undef, t.getD 28 undef, t.getD 29 undef, t.getD 30 undef, t.getD 31 undef, t.getD 32 undef, t.getD 33 undef, t.getD 34 undef, t.getD 35 undef, t.getD 36 undef, t.getD 37 undef, t.getD 38 undef, t.getD 39 undef, t.getD 40 undef, t.getD 41 undef, t.getD 42 undef, t.getD 43 undef, t.getD 44 undef, t.getD 45 undef, t.getD 46 undef, t.getD 47 undef, t.getD 48 undef, t.getD 49 undef, t.getD 50 undef, t.getD 51 undef, t.getD 52 undef, t.getD 53 undef, t.getD 54 undef, t.getD 55 undef, t.getD 56 undef, t.getD 57 undef, t.getD 58 undef, t.getD 59 undef, t.getD 60 undef, t.getD 61 undef, t.getD 62 undef, t.getD 63 undef, t.getD 64 undef, t.getD 65 undef, t.getD 66 undef, t.getD 67 undef, t.getD 68 undef, t.getD 69 undef, t.getD 70 undef, t.getD 71 undef, t.getD 72 undef, t.getD 73 undef, t.getD 74 undef, t.getD 75 undef, t.getD 76 undef, t.getD 77 undef, t.getD 78 undef, t.getD 79 undef, t.getD 80 undef, t.getD 81 undef, t.getD 82 undef, t.getD 83 undef, t.getD 84 undef, t.getD 85 undef, t.getD 86 undef, t.getD 87 undef, t.getD 88 undef, t.getD 89 undef, t.getD 90 undef, t.getD 91 undef, t.getD 92 undef, t.getD 93 undef, t.getD 94 undef, t.getD 95 undef, t.getD 96 undef, t.getD 97 undef, t.getD 98 undef, t.getD 99 undef, t.getD 100 undef, t.getD 101 undef, t.getD 102 undef, t.getD 103 undef, t.getD 104 undef, t.getD 105 undef, t.getD 106 undef, t.getD 107 undef, t.getD 108 undef, t.getD 109 undef, t.getD 110 undef, t.getD 111 undef, t.getD 112 undef, t.getD 113 undef, t.getD 114 undef, t.getD 115 undef, t.getD 116 undef, t.getD 117 undef, t.getD 118 undef, t.getD 119 undef, t.getD 120 undef, t.getD 121 undef, t.getD 122 undef, t.getD 123 undef, t.getD 124 undef, t.getD 125 undef, t.getD 126 undef, t.getD 127 undef, t.getD 128 undef, t.getD 129 undef, t.getD 130 undef, t.getD 131 undef, t.getD 132 undef, t.getD 133 undef, t.getD 134 undef, t.getD 135 undef, t.getD 136 undef, t.getD 137 undef, t.getD 138 undef, t.getD 139 undef, t.getD 140 undef, t.getD 141 undef, t.getD 142 undef, t.getD 143 undef, t.getD 144 undef, t.getD 145 undef, t.getD 146 undef, t.getD 147 undef, t.getD 148 undef, t.getD 149 undef, t.getD 150 undef, t.getD 151 undef, t.getD 152 undef, t.getD 153 undef, t.getD 154 undef, t.getD 155 undef, t.getD 156 undef, t.getD 157 undef, t.getD 158 undef, t.getD 159 undef, t.getD 160 undef, t.getD 161 undef, t.getD 162 undef, t.getD 163 undef, t.getD 164 undef, t.getD 165 undef, t.getD 166 undef, t.getD 167 undef, t.getD 168 undef, t.getD 169 undef, t.getD 170 undef, t.getD 171 undef], defers := [] })
    (hst : St w wr gs g5 g6 (scd S.sec S.min S.hour S.dom S.month S.dow none) b off (locOf b g0) 0 (eL off l)) (hway : Way S (l1 + 1) lim added l) (hb : l ≤ 370000000000) : Jmp w gs S n l1 off g0 b lim { tmps := t, defers := [] } wr :=
  ⟨added, l, g5, g6, fun i => t.getD i undef, h, hst, hway, hb⟩

set_option maxHeartbeats 6400000 in
set_option maxRecDepth 100000 in
theorem specNext_any (gs : Nat) (S : Sets) (n l1 off : Int) (g0 : Nat) (b : Bool) (w : World) (hs : Blk w gs 60 (scd S.sec S.min S.hour S.dom S.month S.dow none)) (hS : setsOk S) (hloc : LocB w g0 b off) (ho : offOk off) (h60 : off % 60 = 0) (hn0 : 0 ≤ n) (hn1 : n < 1000000000) (hl1 : -62135596800 ≤ l1 - off) (hl2 : l1 - off ≤ 253402300799) :
    Calls Tryz.prog 116 #[.pointer (some ⟨gs, 0, none⟩), .agg (tcells n (eL off l1) (locOf b g0))] w fun e w' => NextSays e S (l1 + 1) (yP ((l1 + 1) / 86400) + 5) off (locOf b g0) ∧ Below w.heap.size w w' := by
  obtain ⟨lim, hlim⟩ : ∃ lim, yP ((l1 + 1) / 86400) + 5 = lim := ⟨_, rfl⟩
  have hlim2 : lim ≤ 11000 := by have := year_top (day := (l1 + 1) / 86400) (by have := ho.1; omega) (by have := ho.2; omega); omega
  rw [hlim]
  have HS := hid hS
  have HO := hid ho
  have HL := hid (show okL (l1 + 1) from by have := ho.1; have := ho.2; exact ⟨by omega, by omega⟩)
  have HLM := hid hlim2
  have HLO := hid (show -62135690000 ≤ l1 + 1 by have := ho.1; omega)
  have HE0 := hid (show ∀ l, l1 + 1 ≤ l → 0 ≤ eL off l from fun l h => by unfold eL; omega)
  have H60 := hid h60
  clear hS ho hlim2
  go_enter Tryz.func116, Tryz.ntmps116
  go_wp2_with fail
  refine wp_scope_jumps2 0 (Jmp w gs S n l1 off g0 b lim) (fun _ wr => mu w.heap.size wr) rfl ?_ ?_
  · rintro a wr ⟨added, lz, g5, g6, f, rfl, hst, hway, hlb⟩
    obtain ⟨p, hp⟩ : ∃ p, locOf b g0 = p := ⟨_, rfl⟩
    rw [hp] at hst ⊢
    have ST := hid hst
    have STZ := hid hst
    have WY := hid hway
    have k0 : wr.cell? ⟨w.heap.size, 0, none⟩ = some (.int .u64 0) := ST.out.t.cell 0
    have k1 : wr.cell? ⟨w.heap.size, 1, none⟩ = some (.int .i64 (eL off lz)) := ST.out.t.cell 1
    have k2 : wr.cell? ⟨w.heap.size, 2, none⟩ = some (.pointer p) := ST.out.t.cell 2
    have nl : near lz := ⟨by have := hway.ge; have := HL.out.1; omega, by omega⟩
    have NL := hid nl
    have HLB := hid hlb
    clear hst hway hs hloc hn0 hn1 hl1 hl2 nl hlb
    by_cases hy : lim < yP (lz / 86400)
    · have TR := hid (there_blk (ST.out.r) 3 (Nat.le_refl 3))
      go_wp2_with (first
        | (go_at_call 119; refine (year_any 0 lz off p wr (by decide) (by decide) NL.out HO.out ST.out.fx).mono ?_; rintro e w2 ⟨rfl, hb⟩; have ST2 := hid (ST.out.below hb); have TR2 := hid (there_blk (ST2.out.r) 3 (Nat.le_refl 3)); clear hb)
        | (refine wpList_store_mid rfl 52 (.tmp 4) (.tmp 43) rfl (w.heap.size + 1) 0 (tcells 0 0 none) (by rfl) (by rfl) TR2.out (by kernel_rfl) (by simp [Value.oneCell']) ?_; have R3 := hid (set3_blk ST2.out.r rfl 0 0 none); have B3 := hid (set3_below ST2.out.bw (Nat.le_succ _) 0 0 none); generalize w2.setCells (w.heap.size + 1) 0 (tcells 0 0 none).toList = w3 at R3 B3 ⊢))
      simp only [Exit.jump]
      exact bodyPost_ret (results_cell_row rfl _ _ (w.heap.size + 1) 52 _ (0, 0) _ rfl R3.out Tryz.underlying52 rfl (by kernel_rfl)) rfl ⟨.inr ⟨rfl, way_over WY.out HL.out hy (by have := HLB.out; omega)⟩, B3.out⟩
    · have HYN := hid (Int.not_lt.1 hy)
      have OK := hid (okL_of HL.out WY.out.ge (by have := HLB.out; omega) (Int.not_lt.1 hy) (by have := HLM.out; omega))
      go_wp2_with (go_at_call 119; refine (year_any 0 lz off p wr (by decide) (by decide) NL.out HO.out ST.out.fx).mono ?_; rintro e w2 ⟨rfl, hb⟩; have ST2 := hid (ST.out.below hb); clear hb)
      go_loopw [7] (fun av wx => ∃ (added : Bool) (l : Int), av = .bool added ∧ St w wx gs g5 g6 (scd S.sec S.min S.hour S.dom S.month S.dow none) b off p 0 (eL off l) ∧ Way S (l1 + 1) lim added l ∧ yP (l / 86400) ≤ lim ∧ okL l ∧ lz ≤ l) (fun _ wx => mu w.heap.size wx)
      case atStart => exact ⟨_, _, rfl, ST2.out, WY.out, HYN.out, OK.out, Int.le_refl _⟩
      case round =>
        clear ST WY NL HLB ST2 OK k0 k1 k2 hy
        obtain ⟨added, l, rfl, hst, hway, hy, hl, hlz⟩ := hrel
        have LZ := hid hlz
        clear hlz
        have ST := hid hst
        have ST0 := hid hst
        have WY := hid hway
        have HY := hid hy
        have OK := hid hl
        clear hst hway hy hl
        obtain ⟨mb1, mb2, mb3, mb4⟩ := mP_bounds (day := l / 86400) (by have := OK.out.1; omega) (by have := OK.out.2; omega)
        obtain ⟨M, hM⟩ : ∃ M : Nat, mP (l / 86400) = (M : Int) := ⟨(mP (l / 86400)).toNat, by omega⟩
        have hMb : M < 64 := by omega
        have hmon : monOK S (l / 86400) = hasB S.month M := by unfold monOK; rw [hM]; rfl
        have x1 := pow_wrap M hMb
        have v1 : IntKind.u64.wrap (M : Int) = (M : Int) := wv (by omega)
        have s1 : (M : Int) < 64 := by clear x1 v1; omega
        obtain ⟨q, hq⟩ : ∃ q : Int, ((2 ^ M : Nat) : Int) = q := ⟨_, rfl⟩
        obtain ⟨y, hy⟩ : ∃ y, bits .and .u64 q S.month = y := ⟨_, rfl⟩
        have hz := has_zero S.month M q y HS.out.2.2.2 hMb hq hy
        obtain ⟨zv, hzv⟩ : ∃ zv, (!hasB S.month M) = zv := ⟨_, rfl⟩
        rw [hzv] at hz
        have HZV := hid hzv
        clear hzv
        rw [hq] at x1
        have CM := hid (fun X (hf : Fx X p off) => month_any 0 l off p X (by decide) (by decide) OK.out.near HO.out hf)
        rw [hM] at CM
        have HMON := hid hmon
        have HMB := hid mb1
        clear mb1 mb2 mb3 mb4 hMb hmon hq
        go_upto_region 12 with fail
        have k0 : ∀ d os, (Go.Sort.grow (redrawn wr d) os).cell? ⟨w.heap.size, 0, none⟩ = some (.int .u64 0) := fun d os => (blk_gr ST.out.t d os).cell 0
        have k1 : ∀ d os, (Go.Sort.grow (redrawn wr d) os).cell? ⟨w.heap.size, 1, none⟩ = some (.int .i64 (eL off l)) := fun d os => (blk_gr ST.out.t d os).cell 1
        have k2 : ∀ d os, (Go.Sort.grow (redrawn wr d) os).cell? ⟨w.heap.size, 2, none⟩ = some (.pointer p) := fun d os => (blk_gr ST.out.t d os).cell 2
        have s4 : ∀ d os, (Go.Sort.grow (redrawn wr d) os).cell? ⟨gs, 4, none⟩ = some (.int .u64 S.month) := fun d os => (blk_gr ST.out.s d os).cell 4
        have C1 := hid (fun d os => Calls.regrown_of (CM.out (Go.Sort.grow (redrawn wr d) os) (ST.out.below (below_regrown wr d os)).fx))
        refine wp_region_quiet_below (by kernel_rfl) (by kernel_rfl) ?_
        repeat (go_big_quiet_step ((first | (go_at_call 120; exact C1.out _ _) | fail)))
        refine wpQuiet_nil ?_
        intro _ hw'
        obtain ⟨⟨dq, osq⟩, hw''⟩ := hw'
        subst hw''
        have ST2 := hid (ST.out.below (below_regrown wr dq osq))
        clear k0 k1 k2 s4 C1 ST x1 v1 s1 hy
        generalize Go.Sort.grow (redrawn wr dq) osq = w2 at ST2 ⊢
        cases zv
        case false =>
          have hB : hasB S.month M = true := by have := HZV.out; simpa using this
          have HMON := hid (HMON.out.trans hB)
          clear hB HZV
          have HMT := hid HMON.out
          clear hz HMON
          go_wp2_with fail
          go_loopw [7] (fun av wx => ∃ (added : Bool) (l : Int), av = .bool added ∧ St w wx gs g5 g6 (scd S.sec S.min S.hour S.dom S.month S.dow none) b off p 0 (eL off l) ∧ Way S (l1 + 1) lim added l ∧ yP (l / 86400) ≤ lim ∧ okL l ∧ lz ≤ l ∧ monOK S (l / 86400) = true) (fun _ wx => mu w.heap.size wx)
          case atStart => exact ⟨_, _, rfl, ST2.out, WY.out, HY.out, OK.out, LZ.out, HMT.out⟩
          case round =>
            clear ST0 WY HY OK LZ HMT CM HMB ST2
            obtain ⟨added, l, rfl, hst, hway, hy, hl, hlz, hmt⟩ := hrel
            have LZ := hid hlz
            have ST := hid hst
            have ST0 := hid hst
            have WY := hid hway
            have HY := hid hy
            have OK := hid hl
            have HMT := hid hmt
            clear hst hway hy hl hlz hmt
            have CDY := hid (fun X (hg : Blk X gs 60 (scd S.sec S.min S.hour S.dom S.month S.dow none)) (hf : Fx X p off) => dmF_any gs S l off p X hg OK.out.near HO.out hf)
            have k0 : wr.cell? ⟨w.heap.size, 0, none⟩ = some (.int .u64 0) := ST.out.t.cell 0
            have k1 : wr.cell? ⟨w.heap.size, 1, none⟩ = some (.int .i64 (eL off l)) := ST.out.t.cell 1
            have k2 : wr.cell? ⟨w.heap.size, 2, none⟩ = some (.pointer p) := ST.out.t.cell 2
            obtain ⟨dv, hdv⟩ : ∃ dv, dayOK S (l / 86400) = dv := ⟨_, rfl⟩
            rw [hdv] at CDY
            have HD := hid hdv
            clear hdv
            cases dv
            case true =>
              go_wp2_with (go_at_call 123; refine (CDY.out _ ST.out.s ST.out.fx).mono ?_; rintro e w2 ⟨rfl, hb⟩; have ST2 := hid (ST.out.below hb); clear hb)
              clear k0 k1 k2 ST CDY
              have HDT := hid HD.out
              clear HD
              go_wp2_with fail
              go_loopw [7] (fun av wx => ∃ (added : Bool) (l : Int), av = .bool added ∧ St w wx gs g5 g6 (scd S.sec S.min S.hour S.dom S.month S.dow none) b off p 0 (eL off l) ∧ Way S (l1 + 1) lim added l ∧ yP (l / 86400) ≤ lim ∧ okL l ∧ lz ≤ l ∧ monOK S (l / 86400) = true ∧ dayOK S (l / 86400) = true) (fun _ wx => mu w.heap.size wx)
              case atStart => exact ⟨_, _, rfl, ST2.out, WY.out, HY.out, OK.out, LZ.out, HMT.out, HDT.out⟩
              case round =>
                clear ST0 WY HY OK LZ ST2 HMT HDT
                obtain ⟨added, l, rfl, hst, hway, hy, hl, hlz, qHMT, qHDT⟩ := hrel
                have LZ := hid hlz
                have ST := hid hst
                have ST0 := hid hst
                have WY := hid hway
                have HY := hid hy
                have OK := hid hl
                have HMT := hid qHMT
                have HDT := hid qHDT
                clear hst hway hy hl hlz qHMT qHDT
                obtain ⟨M, hM⟩ : ∃ M : Nat, l % 86400 / 3600 = (M : Int) := ⟨(l % 86400 / 3600).toNat, by omega⟩
                have hMb : M < 64 := by omega
                have hmon : hourOK S l = hasB S.hour M := by unfold hourOK; rw [hM]; rfl
                have x1 := pow_wrap M hMb
                have v1 : IntKind.u64.wrap (M : Int) = (M : Int) := wv (by omega)
                have sM : (M : Int) < 64 := by clear x1 v1; omega
                obtain ⟨q, hq⟩ : ∃ q : Int, ((2 ^ M : Nat) : Int) = q := ⟨_, rfl⟩
                obtain ⟨y, hy⟩ : ∃ y, bits .and .u64 q S.hour = y := ⟨_, rfl⟩
                have hz := has_zero S.hour M q y HS.out.2.2.1 hMb hq hy
                obtain ⟨zv, hzv⟩ : ∃ zv, (!hasB S.hour M) = zv := ⟨_, rfl⟩
                rw [hzv] at hz
                have HZV := hid hzv
                clear hzv
                rw [hq] at x1
                have CV := hid (fun X (hf : Fx X p off) => hour_any 0 l off p X (by decide) (by decide) OK.out.near HO.out hf)
                rw [hM] at CV
                have HMON := hid hmon
                have HM := hid hM
                clear hMb hmon hq hM
                go_upto_region 28 with fail
                have k0 : ∀ d os, (Go.Sort.grow (redrawn wr d) os).cell? ⟨w.heap.size, 0, none⟩ = some (.int .u64 0) := fun d os => (blk_gr ST.out.t d os).cell 0
                have k1 : ∀ d os, (Go.Sort.grow (redrawn wr d) os).cell? ⟨w.heap.size, 1, none⟩ = some (.int .i64 (eL off l)) := fun d os => (blk_gr ST.out.t d os).cell 1
                have k2 : ∀ d os, (Go.Sort.grow (redrawn wr d) os).cell? ⟨w.heap.size, 2, none⟩ = some (.pointer p) := fun d os => (blk_gr ST.out.t d os).cell 2
                have s2 : ∀ d os, (Go.Sort.grow (redrawn wr d) os).cell? ⟨gs, 2, none⟩ = some (.int .u64 S.hour) := fun d os => (blk_gr ST.out.s d os).cell 2
                have C1 := hid (fun d os => Calls.regrown_of (CV.out (Go.Sort.grow (redrawn wr d) os) (ST.out.below (below_regrown wr d os)).fx))
                refine wp_region_quiet_below (by kernel_rfl) (by kernel_rfl) ?_
                repeat (go_big_quiet_step ((first | (go_at_call 124; exact C1.out _ _) | fail)))
                refine wpQuiet_nil ?_
                intro _ hw'
                obtain ⟨⟨dq, osq⟩, hw''⟩ := hw'
                subst hw''
                have ST2 := hid (ST.out.below (below_regrown wr dq osq))
                clear k0 k1 k2 s2 C1 ST x1 v1 sM hy
                generalize Go.Sort.grow (redrawn wr dq) osq = w2 at ST2 ⊢
                cases zv
                case false =>
                  have hB : hasB S.hour M = true := by have := HZV.out; simpa using this
                  have HHT := hid (HMON.out.trans hB)
                  clear hB HZV HMON hz CV HM
                  go_wp2_with fail
                  go_loopw [7] (fun av wx => ∃ (added : Bool) (l : Int), av = .bool added ∧ St w wx gs g5 g6 (scd S.sec S.min S.hour S.dom S.month S.dow none) b off p 0 (eL off l) ∧ Way S (l1 + 1) lim added l ∧ yP (l / 86400) ≤ lim ∧ okL l ∧ lz ≤ l ∧ monOK S (l / 86400) = true ∧ dayOK S (l / 86400) = true ∧ hourOK S l = true) (fun _ wx => mu w.heap.size wx)
                  case atStart => exact ⟨_, _, rfl, ST2.out, WY.out, HY.out, OK.out, LZ.out, HMT.out, HDT.out, HHT.out⟩
                  case round =>
                    clear ST0 WY HY OK LZ ST2 HMT HDT HHT
                    obtain ⟨added, l, rfl, hst, hway, hy, hl, hlz, qHMT, qHDT, qHHT⟩ := hrel
                    have LZ := hid hlz
                    have ST := hid hst
                    have ST0 := hid hst
                    have WY := hid hway
                    have HY := hid hy
                    have OK := hid hl
                    have HMT := hid qHMT
                    have HDT := hid qHDT
                    have HHT := hid qHHT
                    clear hst hway hy hl hlz qHMT qHDT qHHT
                    obtain ⟨M, hM⟩ : ∃ M : Nat, l % 3600 / 60 = (M : Int) := ⟨(l % 3600 / 60).toNat, by omega⟩
                    have hMb : M < 64 := by omega
                    have hmon : minOK S l = hasB S.min M := by unfold minOK; rw [hM]; rfl
                    have x1 := pow_wrap M hMb
                    have v1 : IntKind.u64.wrap (M : Int) = (M : Int) := wv (by omega)
                    have sM : (M : Int) < 64 := by clear x1 v1; omega
                    obtain ⟨q, hq⟩ : ∃ q : Int, ((2 ^ M : Nat) : Int) = q := ⟨_, rfl⟩
                    obtain ⟨y, hy⟩ : ∃ y, bits .and .u64 q S.min = y := ⟨_, rfl⟩
                    have hz := has_zero S.min M q y HS.out.2.1 hMb hq hy
                    obtain ⟨zv, hzv⟩ : ∃ zv, (!hasB S.min M) = zv := ⟨_, rfl⟩
                    rw [hzv] at hz
                    have HZV := hid hzv
                    clear hzv
                    rw [hq] at x1
                    have CV := hid (fun X (hf : Fx X p off) => minute_any 0 l off p X (by decide) (by decide) OK.out.near HO.out hf)
                    rw [hM] at CV
                    have HMON := hid hmon
                    have HM := hid hM
                    clear hMb hmon hq hM
                    go_upto_region 34 with fail
                    have k0 : ∀ d os, (Go.Sort.grow (redrawn wr d) os).cell? ⟨w.heap.size, 0, none⟩ = some (.int .u64 0) := fun d os => (blk_gr ST.out.t d os).cell 0
                    have k1 : ∀ d os, (Go.Sort.grow (redrawn wr d) os).cell? ⟨w.heap.size, 1, none⟩ = some (.int .i64 (eL off l)) := fun d os => (blk_gr ST.out.t d os).cell 1
                    have k2 : ∀ d os, (Go.Sort.grow (redrawn wr d) os).cell? ⟨w.heap.size, 2, none⟩ = some (.pointer p) := fun d os => (blk_gr ST.out.t d os).cell 2
                    have s1 : ∀ d os, (Go.Sort.grow (redrawn wr d) os).cell? ⟨gs, 1, none⟩ = some (.int .u64 S.min) := fun d os => (blk_gr ST.out.s d os).cell 1
                    have C1 := hid (fun d os => Calls.regrown_of (CV.out (Go.Sort.grow (redrawn wr d) os) (ST.out.below (below_regrown wr d os)).fx))
                    refine wp_region_quiet_below (by kernel_rfl) (by kernel_rfl) ?_
                    repeat (go_big_quiet_step ((first | (go_at_call 125; exact C1.out _ _) | fail)))
                    refine wpQuiet_nil ?_
                    intro _ hw'
                    obtain ⟨⟨dq, osq⟩, hw''⟩ := hw'
                    subst hw''
                    have ST2 := hid (ST.out.below (below_regrown wr dq osq))
                    clear k0 k1 k2 s1 C1 ST x1 v1 sM hy
                    generalize Go.Sort.grow (redrawn wr dq) osq = w2 at ST2 ⊢
                    cases zv
                    case false =>
                      have hB : hasB S.min M = true := by have := HZV.out; simpa using this
                      have HIT := hid (HMON.out.trans hB)
                      clear hB HZV HMON hz CV HM
                      go_wp2_with fail
                      go_loopw [7] (fun av wx => ∃ (added : Bool) (l : Int), av = .bool added ∧ St w wx gs g5 g6 (scd S.sec S.min S.hour S.dom S.month S.dow none) b off p 0 (eL off l) ∧ l1 + 1 ≤ l ∧ noFit S (l1 + 1) l ∧ yP (l / 86400) ≤ lim ∧ okL l ∧ lz ≤ l ∧ monOK S (l / 86400) = true ∧ dayOK S (l / 86400) = true ∧ hourOK S l = true ∧ minOK S l = true) (fun _ wx => mu w.heap.size wx)
                      case atStart => exact ⟨_, _, rfl, ST2.out, WY.out.ge, WY.out.no, HY.out, OK.out, LZ.out, HMT.out, HDT.out, HHT.out, HIT.out⟩
                      case round =>
                        clear ST0 WY HY OK LZ ST2 HMT HDT HHT HIT
                        obtain ⟨added, l, rfl, hst, hge, hno, hy, hl, hlz, qHMT, qHDT, qHHT, qHIT⟩ := hrel
                        have LZ := hid hlz
                        have ST := hid hst
                        have ST0 := hid hst
                        have WY := hid (And.intro hge hno)
                        have HY := hid hy
                        have OK := hid hl
                        have HMT := hid qHMT
                        have HDT := hid qHDT
                        have HHT := hid qHHT
                        have HIT := hid qHIT
                        clear hst hge hno hy hl hlz qHMT qHDT qHHT qHIT
                        obtain ⟨M, hM⟩ : ∃ M : Nat, l % 60 = (M : Int) := ⟨(l % 60).toNat, by omega⟩
                        have hMb : M < 64 := by omega
                        have hmon : secOK S l = hasB S.sec M := by unfold secOK; rw [hM]; rfl
                        have x1 := pow_wrap M hMb
                        have v1 : IntKind.u64.wrap (M : Int) = (M : Int) := wv (by omega)
                        have sM : (M : Int) < 64 := by clear x1 v1; omega
                        obtain ⟨q, hq⟩ : ∃ q : Int, ((2 ^ M : Nat) : Int) = q := ⟨_, rfl⟩
                        obtain ⟨y, hy⟩ : ∃ y, bits .and .u64 q S.sec = y := ⟨_, rfl⟩
                        have hz := has_zero S.sec M q y HS.out.1 hMb hq hy
                        obtain ⟨zv, hzv⟩ : ∃ zv, (!hasB S.sec M) = zv := ⟨_, rfl⟩
                        rw [hzv] at hz
                        have HZV := hid hzv
                        clear hzv
                        rw [hq] at x1
                        have CV := hid (fun X (hf : Fx X p off) => second_any 0 l off p X (by decide) (by decide) OK.out.near HO.out hf)
                        rw [hM] at CV
                        have HMON := hid hmon
                        have HM := hid hM
                        clear hMb hmon hq hM
                        go_upto_region 40 with fail
                        have k0 : ∀ d os, (Go.Sort.grow (redrawn wr d) os).cell? ⟨w.heap.size, 0, none⟩ = some (.int .u64 0) := fun d os => (blk_gr ST.out.t d os).cell 0
                        have k1 : ∀ d os, (Go.Sort.grow (redrawn wr d) os).cell? ⟨w.heap.size, 1, none⟩ = some (.int .i64 (eL off l)) := fun d os => (blk_gr ST.out.t d os).cell 1
                        have k2 : ∀ d os, (Go.Sort.grow (redrawn wr d) os).cell? ⟨w.heap.size, 2, none⟩ = some (.pointer p) := fun d os => (blk_gr ST.out.t d os).cell 2
                        have s0 : ∀ d os, (Go.Sort.grow (redrawn wr d) os).cell? ⟨gs, 0, none⟩ = some (.int .u64 S.sec) := fun d os => (blk_gr ST.out.s d os).cell 0
                        have C1 := hid (fun d os => Calls.regrown_of (CV.out (Go.Sort.grow (redrawn wr d) os) (ST.out.below (below_regrown wr d os)).fx))
                        refine wp_region_quiet_below (by kernel_rfl) (by kernel_rfl) ?_
                        repeat (go_big_quiet_step ((first | (go_at_call 127; exact C1.out _ _) | fail)))
                        refine wpQuiet_nil ?_
                        intro _ hw'
                        obtain ⟨⟨dq, osq⟩, hw''⟩ := hw'
                        subst hw''
                        have ST2 := hid (ST.out.below (below_regrown wr dq osq))
                        clear k0 k1 k2 s0 C1 ST x1 v1 sM hy
                        generalize Go.Sort.grow (redrawn wr dq) osq = w2 at ST2 ⊢
                        cases zv
                        case false =>
                          have hB : hasB S.sec M = true := by have := HZV.out; simpa using this
                          have HST := hid (HMON.out.trans hB)
                          clear hB HZV HMON hz CV HM
                          have CI := hid (fun X (hx : LocB X g5 b off) => in_any g5 0 (eL off l) p b X hx.cell (by decide) (by decide))
                          rw [ST2.out.e5] at CI
                          have k0 : w2.cell? ⟨w.heap.size, 0, none⟩ = some (.int .u64 0) := ST2.out.t.cell 0
                          have k1 : w2.cell? ⟨w.heap.size, 1, none⟩ = some (.int .i64 (eL off l)) := ST2.out.t.cell 1
                          have k2 : w2.cell? ⟨w.heap.size, 2, none⟩ = some (.pointer p) := ST2.out.t.cell 2
                          go_wp2_with (first
                            | (go_at_call 25; refine (CI.out _ (ST2.out.l5.loc ST2.out.bw)).mono ?_; rintro e w3 ⟨rfl, hb⟩; have ST3 := hid (ST2.out.below hb); have TR := hid (there_blk ST3.out.r 3 (Nat.le_refl 3)); clear hb)
                            | (refine wpList_store_mid rfl 52 (.tmp 4) (.tmp 171) rfl (w.heap.size + 1) 0 (tcells 0 (eL off l) p) (by rfl) (by rfl) TR.out (by kernel_rfl) (by simp [Value.oneCell']) ?_; have R4 := hid (set3_blk ST3.out.r rfl 0 (eL off l) p); have B4 := hid (set3_below ST3.out.bw (Nat.le_succ _) 0 (eL off l) p); generalize w3.setCells (w.heap.size + 1) 0 (tcells 0 (eL off l) p).toList = w4 at R4 B4 ⊢))
                          simp only [Exit.jump]
                          exact bodyPost_ret (results_cell_row rfl _ _ (w.heap.size + 1) 52 _ (0, 0) _ rfl R4.out Tryz.underlying52 rfl (by kernel_rfl)) rfl ⟨.inl ⟨l, by rw [hp], WY.out.1, OK.out.2, HY.out, ⟨HMT.out, HDT.out, HHT.out, HIT.out, HST.out⟩, WY.out.2⟩, B4.out⟩
                        case true =>
                          have hB : hasB S.sec M = false := by have := HZV.out; simpa using this
                          have HMON := hid (HMON.out.trans hB)
                          clear hB HZV
                          obtain ⟨W0, W1, W2⟩ := way_sec (lim := lim) WY.out.1 WY.out.2 OK.out HY.out HMT.out HDT.out HHT.out HIT.out HMON.out
                          obtain ⟨l2, hl2⟩ : ∃ l2, l + 1 = l2 := ⟨_, rfl⟩
                          rw [hl2] at W1 W2 W0
                          have LL := hid (show l < l2 by omega)
                          have nl2 : near l2 := ⟨by have := OK.out.near.1; omega, by have := OK.out.2; omega⟩
                          have CV2 := hid (fun X (hf : Fx X p off) => second_any 0 l2 off p X (by decide) (by decide) nl2 HO.out hf)
                          have B2 := hid (show l2 ≤ 370000000000 by have := OK.out.2; omega)
                          have W1' := hid W1
                          have W2' := hid W2
                          have W0' := hid W0
                          clear W0
                          obtain ⟨d2, hd2⟩ : ∃ d2, l2 % 60 = d2 := ⟨_, rfl⟩
                          have HD2 := hid hd2
                          rw [hd2] at CV2
                          clear W1 W2 nl2 hd2
                          cases added
                          case true =>
                            have hll : l + 1 = l2 := by omega
                            have CAD := hid (fun X => add_any (eL off l) 1000000000 1 (eL off l2) p X (by decide) (by have := HO.out.1; have := HO.out.2; have := OK.out.1; unfold eL; omega) (by have := HO.out.1; have := HO.out.2; have := OK.out.2; unfold eL; omega) (by decide) (by decide) (by unfold eL; omega))
                            clear hll hl2
                            have k0 : w2.cell? ⟨w.heap.size, 0, none⟩ = some (.int .u64 0) := ST2.out.t.cell 0
                            have k1 : w2.cell? ⟨w.heap.size, 1, none⟩ = some (.int .i64 (eL off l)) := ST2.out.t.cell 1
                            have k2 : w2.cell? ⟨w.heap.size, 2, none⟩ = some (.pointer p) := ST2.out.t.cell 2
                            go_upto_region 45 with (first
                              | (go_at_call 118; refine (CAD.out _).mono ?_; rintro e w4 ⟨rfl, hb⟩; have ST4 := hid (ST2.out.below hb); have TT := hid (there_blk ST4.out.t 3 (Nat.le_refl 3)); clear hb)
                              | (refine wpList_store_mid rfl 52 (.tmp 3) (.tmp 165) rfl w.heap.size 0 (tcells 0 (eL off l2) p) (by rfl) (by rfl) TT.out (by kernel_rfl) (by simp [Value.oneCell']) ?_; have ST5 := hid (ST4.out.put 0 (eL off l2)); clear TT; generalize w4.setCells w.heap.size 0 (tcells 0 (eL off l2) p).toList = w5 at ST5 ⊢))
                            clear k0 k1 k2
                            have j0 : w5.cell? ⟨w.heap.size, 0, none⟩ = some (.int .u64 0) := ST5.out.t.cell 0
                            have j1 : w5.cell? ⟨w.heap.size, 1, none⟩ = some (.int .i64 (eL off l2)) := ST5.out.t.cell 1
                            have j2 : w5.cell? ⟨w.heap.size, 2, none⟩ = some (.pointer p) := ST5.out.t.cell 2
                            by_cases hd : d2 = 0
                            · have W9 := hid (W1'.out (HD2.out.trans hd))
                              subst hd
                              go_wp2_with (go_at_call 127; refine (CV2.out _ ST5.out.fx).mono ?_; rintro e w6 ⟨rfl, hb⟩; have ST7 := hid (ST5.out.below hb); clear hb)
                              go_step3
                              refine And.intro rfl ?_
                              exact And.intro (jmp_intro true l2 g5 g6 (by rw [hp]; rfl) (by rw [hp]; exact ST7.out) W9.out B2.out) (mu_lt (l := lz) (l' := l2) STZ.out ST7.out HO.out (by have := LL.out; have := LZ.out; omega) (by have := B2.out; have := LL.out; have := LZ.out; omega))
                            · have hv : (d2 == 0) = false := by rw [beq_eq_false_iff_ne]; exact hd
                              have E2 := hid (W2'.out (fun h => hd (HD2.out.symm.trans h)))
                              have HYN := hid (show yP (l2 / 86400) ≤ lim by rw [E2.out.1]; exact HY.out)
                              have C9 := hid (show monOK S (l2 / 86400) = true ∧ dayOK S (l2 / 86400) = true by rw [E2.out.1]; exact ⟨HMT.out, HDT.out⟩)
                              have G2 := hid (show l1 + 1 ≤ l2 by have := WY.out.1; have := LL.out; omega)
                              clear hd
                              go_wp2_with (go_at_call 127; refine (CV2.out _ ST5.out.fx).mono ?_; rintro e w6 ⟨rfl, hb⟩; have ST7 := hid (ST5.out.below hb); clear hb)
                              go_roundw
                              case rel => exact ⟨true, l2, rfl, ST7.out, G2.out, W0'.out, HYN.out, okL_of HL.out G2.out (by have := B2.out; omega) HYN.out (by have := HLM.out; omega), by have := LL.out; have := LZ.out; omega, C9.out.1, C9.out.2, E2.out.2.1, E2.out.2.2⟩
                              case measure => exact mu_lt (l := l) (l' := l2) ST0.out ST7.out HO.out LL.out (by have := B2.out; have := LL.out; omega)
                          case false =>
                            obtain ⟨lm, hlm⟩ : ∃ lm, l = lm := ⟨_, rfl⟩
                            have hll : lm + 1 = l2 := by omega
                            have LM := hid (show lm ≤ l ∧ l < lm + 60 by omega)
                            have CT := hid (fun X => trunc_sec (eL off l) p X (HE0.out l WY.out.1) (by have := HO.out.1; have := OK.out.2; unfold eL; omega))
                            have CAD := hid (fun X => add_any (eL off lm) 1000000000 1 (eL off l2) p X (by decide) (by have := LM.out; have := HO.out.1; have := HO.out.2; have := OK.out.1; unfold eL; omega) (by have := LM.out; have := HO.out.1; have := HO.out.2; have := OK.out.2; unfold eL; omega) (by decide) (by decide) (by unfold eL; omega))
                            subst hlm
                            clear hll hl2
                            have k0 : w2.cell? ⟨w.heap.size, 0, none⟩ = some (.int .u64 0) := ST2.out.t.cell 0
                            have k1 : w2.cell? ⟨w.heap.size, 1, none⟩ = some (.int .i64 (eL off l)) := ST2.out.t.cell 1
                            have k2 : w2.cell? ⟨w.heap.size, 2, none⟩ = some (.pointer p) := ST2.out.t.cell 2
                            go_upto_region 44 with (first
                              | (go_at_call 126; refine (CT.out _).mono ?_; rintro e w3 ⟨rfl, hb⟩; have ST3 := hid (ST2.out.below hb); have TT := hid (there_blk ST3.out.t 3 (Nat.le_refl 3)); clear hb)
                              | (refine wpList_store_mid rfl 52 (.tmp 3) (.tmp 163) rfl w.heap.size 0 (tcells 0 (eL off l) p) (by rfl) (by rfl) TT.out (by kernel_rfl) (by simp [Value.oneCell']) ?_; have ST9 := hid (ST3.out.put 0 (eL off l)); clear TT; generalize w3.setCells w.heap.size 0 (tcells 0 (eL off l) p).toList = w9 at ST9 ⊢))
                            clear k0 k1 k2 ST2 ST3
                            have ST2 := ST9
                            clear ST9
                            have k0 : w9.cell? ⟨w.heap.size, 0, none⟩ = some (.int .u64 0) := ST2.out.t.cell 0
                            have k1 : w9.cell? ⟨w.heap.size, 1, none⟩ = some (.int .i64 (eL off l)) := ST2.out.t.cell 1
                            have k2 : w9.cell? ⟨w.heap.size, 2, none⟩ = some (.pointer p) := ST2.out.t.cell 2
                            go_upto_region 45 with (first
                              | (go_at_call 118; refine (CAD.out _).mono ?_; rintro e w4 ⟨rfl, hb⟩; have ST4 := hid (ST2.out.below hb); have TT := hid (there_blk ST4.out.t 3 (Nat.le_refl 3)); clear hb)
                              | (refine wpList_store_mid rfl 52 (.tmp 3) (.tmp 165) rfl w.heap.size 0 (tcells 0 (eL off l2) p) (by rfl) (by rfl) TT.out (by kernel_rfl) (by simp [Value.oneCell']) ?_; have ST5 := hid (ST4.out.put 0 (eL off l2)); clear TT; generalize w4.setCells w.heap.size 0 (tcells 0 (eL off l2) p).toList = w5 at ST5 ⊢))
                            clear k0 k1 k2
                            have j0 : w5.cell? ⟨w.heap.size, 0, none⟩ = some (.int .u64 0) := ST5.out.t.cell 0
                            have j1 : w5.cell? ⟨w.heap.size, 1, none⟩ = some (.int .i64 (eL off l2)) := ST5.out.t.cell 1
                            have j2 : w5.cell? ⟨w.heap.size, 2, none⟩ = some (.pointer p) := ST5.out.t.cell 2
                            by_cases hd : d2 = 0
                            · have W9 := hid (W1'.out (HD2.out.trans hd))
                              subst hd
                              go_wp2_with (go_at_call 127; refine (CV2.out _ ST5.out.fx).mono ?_; rintro e w6 ⟨rfl, hb⟩; have ST7 := hid (ST5.out.below hb); clear hb)
                              go_step3
                              refine And.intro rfl ?_
                              exact And.intro (jmp_intro true l2 g5 g6 (by rw [hp]; rfl) (by rw [hp]; exact ST7.out) W9.out B2.out) (mu_lt (l := lz) (l' := l2) STZ.out ST7.out HO.out (by have := LL.out; have := LZ.out; omega) (by have := B2.out; have := LL.out; have := LZ.out; omega))
                            · have hv : (d2 == 0) = false := by rw [beq_eq_false_iff_ne]; exact hd
                              have E2 := hid (W2'.out (fun h => hd (HD2.out.symm.trans h)))
                              have HYN := hid (show yP (l2 / 86400) ≤ lim by rw [E2.out.1]; exact HY.out)
                              have C9 := hid (show monOK S (l2 / 86400) = true ∧ dayOK S (l2 / 86400) = true by rw [E2.out.1]; exact ⟨HMT.out, HDT.out⟩)
                              have G2 := hid (show l1 + 1 ≤ l2 by have := WY.out.1; have := LL.out; omega)
                              clear hd
                              go_wp2_with (go_at_call 127; refine (CV2.out _ ST5.out.fx).mono ?_; rintro e w6 ⟨rfl, hb⟩; have ST7 := hid (ST5.out.below hb); clear hb)
                              go_roundw
                              case rel => exact ⟨true, l2, rfl, ST7.out, G2.out, W0'.out, HYN.out, okL_of HL.out G2.out (by have := B2.out; omega) HYN.out (by have := HLM.out; omega), by have := LL.out; have := LZ.out; omega, C9.out.1, C9.out.2, E2.out.2.1, E2.out.2.2⟩
                              case measure => exact mu_lt (l := l) (l' := l2) ST0.out ST7.out HO.out LL.out (by have := B2.out; have := LL.out; omega)
                    case true =>
                      have hB : hasB S.min M = false := by have := HZV.out; simpa using this
                      have HMON := hid (HMON.out.trans hB)
                      clear hB HZV
                      obtain ⟨W1, W2⟩ := way_min WY.out OK.out HY.out HMT.out HDT.out HHT.out HMON.out
                      obtain ⟨l2, hl2⟩ : ∃ l2, 60 * (l / 60 + 1) = l2 := ⟨_, rfl⟩
                      rw [hl2] at W1 W2
                      have LL := hid (show l < l2 by omega)
                      have nl2 : near l2 := ⟨by have := OK.out.near.1; omega, by have := OK.out.2; omega⟩
                      have CV2 := hid (fun X (hf : Fx X p off) => minute_any 0 l2 off p X (by decide) (by decide) nl2 HO.out hf)
                      have B2 := hid (show l2 ≤ 370000000000 by have := OK.out.2; omega)
                      have W1' := hid W1
                      have W2' := hid W2
                      obtain ⟨d2, hd2⟩ : ∃ d2, l2 % 3600 / 60 = d2 := ⟨_, rfl⟩
                      have HD2 := hid hd2
                      rw [hd2] at CV2
                      clear W1 W2 nl2 hd2
                      cases added
                      case true =>
                        have h0 := al_min (WY.out.al rfl) HMON.out
                        have hll : l + 60 = l2 := by omega
                        have CAD := hid (fun X => add_any (eL off l) 60000000000 60 (eL off l2) p X (by decide) (by have := HO.out.1; have := HO.out.2; have := OK.out.1; unfold eL; omega) (by have := HO.out.1; have := HO.out.2; have := OK.out.2; unfold eL; omega) (by decide) (by decide) (by unfold eL; omega))
                        clear hll hl2 h0
                        have k0 : w2.cell? ⟨w.heap.size, 0, none⟩ = some (.int .u64 0) := ST2.out.t.cell 0
                        have k1 : w2.cell? ⟨w.heap.size, 1, none⟩ = some (.int .i64 (eL off l)) := ST2.out.t.cell 1
                        have k2 : w2.cell? ⟨w.heap.size, 2, none⟩ = some (.pointer p) := ST2.out.t.cell 2
                        go_upto_region 39 with (first
                          | (go_at_call 118; refine (CAD.out _).mono ?_; rintro e w4 ⟨rfl, hb⟩; have ST4 := hid (ST2.out.below hb); have TT := hid (there_blk ST4.out.t 3 (Nat.le_refl 3)); clear hb)
                          | (refine wpList_store_mid rfl 52 (.tmp 3) (.tmp 146) rfl w.heap.size 0 (tcells 0 (eL off l2) p) (by rfl) (by rfl) TT.out (by kernel_rfl) (by simp [Value.oneCell']) ?_; have ST5 := hid (ST4.out.put 0 (eL off l2)); clear TT; generalize w4.setCells w.heap.size 0 (tcells 0 (eL off l2) p).toList = w5 at ST5 ⊢))
                        clear k0 k1 k2
                        have j0 : w5.cell? ⟨w.heap.size, 0, none⟩ = some (.int .u64 0) := ST5.out.t.cell 0
                        have j1 : w5.cell? ⟨w.heap.size, 1, none⟩ = some (.int .i64 (eL off l2)) := ST5.out.t.cell 1
                        have j2 : w5.cell? ⟨w.heap.size, 2, none⟩ = some (.pointer p) := ST5.out.t.cell 2
                        by_cases hd : d2 = 0
                        · have W9 := hid (W1'.out)
                          subst hd
                          go_wp2_with (go_at_call 125; refine (CV2.out _ ST5.out.fx).mono ?_; rintro e w6 ⟨rfl, hb⟩; have ST7 := hid (ST5.out.below hb); clear hb)
                          go_step3
                          refine And.intro rfl ?_
                          exact And.intro (jmp_intro true l2 g5 g6 (by rw [hp]; rfl) (by rw [hp]; exact ST7.out) W9.out B2.out) (mu_lt (l := lz) (l' := l2) STZ.out ST7.out HO.out (by have := LL.out; have := LZ.out; omega) (by have := B2.out; have := LL.out; have := LZ.out; omega))
                        · have hv : (d2 == 0) = false := by rw [beq_eq_false_iff_ne]; exact hd
                          have E2 := hid (W2'.out (fun h => hd (HD2.out.symm.trans h)))
                          have HYN := hid (show yP (l2 / 86400) ≤ lim by rw [E2.out.1]; exact HY.out)
                          have C9 := hid (show monOK S (l2 / 86400) = true ∧ dayOK S (l2 / 86400) = true by rw [E2.out.1]; exact ⟨HMT.out, HDT.out⟩)
                          clear hd
                          go_wp2_with (go_at_call 125; refine (CV2.out _ ST5.out.fx).mono ?_; rintro e w6 ⟨rfl, hb⟩; have ST7 := hid (ST5.out.below hb); clear hb)
                          go_roundw
                          case rel => exact ⟨true, l2, rfl, ST7.out, W1'.out, HYN.out, okL_of HL.out W1'.out.ge (by have := B2.out; omega) HYN.out (by have := HLM.out; omega), by have := LL.out; have := LZ.out; omega, C9.out.1, C9.out.2, E2.out.2⟩
                          case measure => exact mu_lt (l := l) (l' := l2) ST0.out ST7.out HO.out LL.out (by have := B2.out; have := LL.out; omega)
                      case false =>
                        obtain ⟨lm, hlm⟩ : ∃ lm, 60 * (l / 60) = lm := ⟨_, rfl⟩
                        have hll : lm + 60 = l2 := by omega
                        have LM := hid (show lm ≤ l ∧ l < lm + 60 by omega)
                        have CT := hid (fun X => trunc_min (eL off l) (l % 60) p X (HE0.out l WY.out.ge) (by have := HO.out.1; have := OK.out.2; unfold eL; omega) (by have := H60.out; unfold eL; omega))
                        rw [show eL off l - l % 60 = eL off lm by unfold eL; omega] at CT
                        have CAD := hid (fun X => add_any (eL off lm) 60000000000 60 (eL off l2) p X (by decide) (by have := LM.out; have := HO.out.1; have := HO.out.2; have := OK.out.1; unfold eL; omega) (by have := LM.out; have := HO.out.1; have := HO.out.2; have := OK.out.2; unfold eL; omega) (by decide) (by decide) (by unfold eL; omega))
                        skip
                        clear hll hl2 hlm
                        have k0 : w2.cell? ⟨w.heap.size, 0, none⟩ = some (.int .u64 0) := ST2.out.t.cell 0
                        have k1 : w2.cell? ⟨w.heap.size, 1, none⟩ = some (.int .i64 (eL off l)) := ST2.out.t.cell 1
                        have k2 : w2.cell? ⟨w.heap.size, 2, none⟩ = some (.pointer p) := ST2.out.t.cell 2
                        go_upto_region 38 with (first
                          | (go_at_call 126; refine (CT.out _).mono ?_; rintro e w3 ⟨rfl, hb⟩; have ST3 := hid (ST2.out.below hb); have TT := hid (there_blk ST3.out.t 3 (Nat.le_refl 3)); clear hb)
                          | (refine wpList_store_mid rfl 52 (.tmp 3) (.tmp 144) rfl w.heap.size 0 (tcells 0 (eL off lm) p) (by rfl) (by rfl) TT.out (by kernel_rfl) (by simp [Value.oneCell']) ?_; have ST9 := hid (ST3.out.put 0 (eL off lm)); clear TT; generalize w3.setCells w.heap.size 0 (tcells 0 (eL off lm) p).toList = w9 at ST9 ⊢))
                        clear k0 k1 k2 ST2 ST3
                        have ST2 := ST9
                        clear ST9
                        have k0 : w9.cell? ⟨w.heap.size, 0, none⟩ = some (.int .u64 0) := ST2.out.t.cell 0
                        have k1 : w9.cell? ⟨w.heap.size, 1, none⟩ = some (.int .i64 (eL off lm)) := ST2.out.t.cell 1
                        have k2 : w9.cell? ⟨w.heap.size, 2, none⟩ = some (.pointer p) := ST2.out.t.cell 2
                        go_upto_region 39 with (first
                          | (go_at_call 118; refine (CAD.out _).mono ?_; rintro e w4 ⟨rfl, hb⟩; have ST4 := hid (ST2.out.below hb); have TT := hid (there_blk ST4.out.t 3 (Nat.le_refl 3)); clear hb)
                          | (refine wpList_store_mid rfl 52 (.tmp 3) (.tmp 146) rfl w.heap.size 0 (tcells 0 (eL off l2) p) (by rfl) (by rfl) TT.out (by kernel_rfl) (by simp [Value.oneCell']) ?_; have ST5 := hid (ST4.out.put 0 (eL off l2)); clear TT; generalize w4.setCells w.heap.size 0 (tcells 0 (eL off l2) p).toList = w5 at ST5 ⊢))
                        clear k0 k1 k2
                        have j0 : w5.cell? ⟨w.heap.size, 0, none⟩ = some (.int .u64 0) := ST5.out.t.cell 0
                        have j1 : w5.cell? ⟨w.heap.size, 1, none⟩ = some (.int .i64 (eL off l2)) := ST5.out.t.cell 1
                        have j2 : w5.cell? ⟨w.heap.size, 2, none⟩ = some (.pointer p) := ST5.out.t.cell 2
                        by_cases hd : d2 = 0
                        · have W9 := hid (W1'.out)
                          subst hd
                          go_wp2_with (go_at_call 125; refine (CV2.out _ ST5.out.fx).mono ?_; rintro e w6 ⟨rfl, hb⟩; have ST7 := hid (ST5.out.below hb); clear hb)
                          go_step3
                          refine And.intro rfl ?_
                          exact And.intro (jmp_intro true l2 g5 g6 (by rw [hp]; rfl) (by rw [hp]; exact ST7.out) W9.out B2.out) (mu_lt (l := lz) (l' := l2) STZ.out ST7.out HO.out (by have := LL.out; have := LZ.out; omega) (by have := B2.out; have := LL.out; have := LZ.out; omega))
                        · have hv : (d2 == 0) = false := by rw [beq_eq_false_iff_ne]; exact hd
                          have E2 := hid (W2'.out (fun h => hd (HD2.out.symm.trans h)))
                          have HYN := hid (show yP (l2 / 86400) ≤ lim by rw [E2.out.1]; exact HY.out)
                          have C9 := hid (show monOK S (l2 / 86400) = true ∧ dayOK S (l2 / 86400) = true by rw [E2.out.1]; exact ⟨HMT.out, HDT.out⟩)
                          clear hd
                          go_wp2_with (go_at_call 125; refine (CV2.out _ ST5.out.fx).mono ?_; rintro e w6 ⟨rfl, hb⟩; have ST7 := hid (ST5.out.below hb); clear hb)
                          go_roundw
                          case rel => exact ⟨true, l2, rfl, ST7.out, W1'.out, HYN.out, okL_of HL.out W1'.out.ge (by have := B2.out; omega) HYN.out (by have := HLM.out; omega), by have := LL.out; have := LZ.out; omega, C9.out.1, C9.out.2, E2.out.2⟩
                          case measure => exact mu_lt (l := l) (l' := l2) ST0.out ST7.out HO.out LL.out (by have := B2.out; have := LL.out; omega)
                case true =>
                  have hB : hasB S.hour M = false := by have := HZV.out; simpa using this
                  have HMON := hid (HMON.out.trans hB)
                  clear hB HZV
                  obtain ⟨W1, W2⟩ := way_hour WY.out OK.out HY.out HMT.out HDT.out HMON.out
                  obtain ⟨l2, hl2⟩ : ∃ l2, 3600 * (l / 3600 + 1) = l2 := ⟨_, rfl⟩
                  rw [hl2] at W1 W2
                  have LL := hid (show l < l2 by omega)
                  have nl2 : near l2 := ⟨by have := OK.out.near.1; omega, by have := OK.out.2; omega⟩
                  have CV2 := hid (fun X (hf : Fx X p off) => hour_any 0 l2 off p X (by decide) (by decide) nl2 HO.out hf)
                  have B2 := hid (show l2 ≤ 370000000000 by have := OK.out.2; omega)
                  have W1' := hid W1
                  have W2' := hid W2
                  obtain ⟨d2, hd2⟩ : ∃ d2, l2 % 86400 / 3600 = d2 := ⟨_, rfl⟩
                  have HD2 := hid hd2
                  rw [hd2] at CV2
                  clear W1 W2 nl2 hd2
                  cases added
                  case true =>
                    have h0 := al_hour (WY.out.al rfl) HMON.out
                    have hll : l + 3600 = l2 := by omega
                    have CAD := hid (fun X => add_any (eL off l) 3600000000000 3600 (eL off l2) p X (by decide) (by have := HO.out.1; have := HO.out.2; have := OK.out.1; unfold eL; omega) (by have := HO.out.1; have := HO.out.2; have := OK.out.2; unfold eL; omega) (by decide) (by decide) (by unfold eL; omega))
                    clear hll hl2 h0
                    have k0 : w2.cell? ⟨w.heap.size, 0, none⟩ = some (.int .u64 0) := ST2.out.t.cell 0
                    have k1 : w2.cell? ⟨w.heap.size, 1, none⟩ = some (.int .i64 (eL off l)) := ST2.out.t.cell 1
                    have k2 : w2.cell? ⟨w.heap.size, 2, none⟩ = some (.pointer p) := ST2.out.t.cell 2
                    go_upto_region 33 with (first
                      | (go_at_call 118; refine (CAD.out _).mono ?_; rintro e w4 ⟨rfl, hb⟩; have ST4 := hid (ST2.out.below hb); have TT := hid (there_blk ST4.out.t 3 (Nat.le_refl 3)); clear hb)
                      | (refine wpList_store_mid rfl 52 (.tmp 3) (.tmp 127) rfl w.heap.size 0 (tcells 0 (eL off l2) p) (by rfl) (by rfl) TT.out (by kernel_rfl) (by simp [Value.oneCell']) ?_; have ST5 := hid (ST4.out.put 0 (eL off l2)); clear TT; generalize w4.setCells w.heap.size 0 (tcells 0 (eL off l2) p).toList = w5 at ST5 ⊢))
                    clear k0 k1 k2
                    have j0 : w5.cell? ⟨w.heap.size, 0, none⟩ = some (.int .u64 0) := ST5.out.t.cell 0
                    have j1 : w5.cell? ⟨w.heap.size, 1, none⟩ = some (.int .i64 (eL off l2)) := ST5.out.t.cell 1
                    have j2 : w5.cell? ⟨w.heap.size, 2, none⟩ = some (.pointer p) := ST5.out.t.cell 2
                    by_cases hd : d2 = 0
                    · have W9 := hid (W1'.out)
                      subst hd
                      go_wp2_with (go_at_call 124; refine (CV2.out _ ST5.out.fx).mono ?_; rintro e w6 ⟨rfl, hb⟩; have ST7 := hid (ST5.out.below hb); clear hb)
                      go_step3
                      refine And.intro rfl ?_
                      exact And.intro (jmp_intro true l2 g5 g6 (by rw [hp]; rfl) (by rw [hp]; exact ST7.out) W9.out B2.out) (mu_lt (l := lz) (l' := l2) STZ.out ST7.out HO.out (by have := LL.out; have := LZ.out; omega) (by have := B2.out; have := LL.out; have := LZ.out; omega))
                    · have hv : (d2 == 0) = false := by rw [beq_eq_false_iff_ne]; exact hd
                      have E2 := hid (W2'.out (fun h => hd (by rw [← HD2.out]; omega)))
                      have HYN := hid (show yP (l2 / 86400) ≤ lim by rw [E2.out]; exact HY.out)
                      have C9 := hid (show monOK S (l2 / 86400) = true ∧ dayOK S (l2 / 86400) = true by rw [E2.out]; exact ⟨HMT.out, HDT.out⟩)
                      clear hd
                      go_wp2_with (go_at_call 124; refine (CV2.out _ ST5.out.fx).mono ?_; rintro e w6 ⟨rfl, hb⟩; have ST7 := hid (ST5.out.below hb); clear hb)
                      go_roundw
                      case rel => exact ⟨true, l2, rfl, ST7.out, W1'.out, HYN.out, okL_of HL.out W1'.out.ge (by have := B2.out; omega) HYN.out (by have := HLM.out; omega), by have := LL.out; have := LZ.out; omega, C9.out.1, C9.out.2⟩
                      case measure => exact mu_lt (l := l) (l' := l2) ST0.out ST7.out HO.out LL.out (by have := B2.out; have := LL.out; omega)
                  case false =>
                    obtain ⟨lm, hlm⟩ : ∃ lm, 3600 * (l / 3600) = lm := ⟨_, rfl⟩
                    have hll : lm + 3600 = l2 := by omega
                    have CDD := hid (fun X (hx : LocB X g6 b off) => date_hour OK.out HO.out X g6 hx)
                    have LM := hid (show lm ≤ l ∧ l < lm + 3600 by omega)
                    have CAD := hid (fun X => add_any (eL off lm) 3600000000000 3600 (eL off l2) p X (by decide) (by have := LM.out; have := HO.out.1; have := HO.out.2; have := OK.out.1; unfold eL; omega) (by have := LM.out; have := HO.out.1; have := HO.out.2; have := OK.out.2; unfold eL; omega) (by decide) (by decide) (by unfold eL; omega))
                    rw [hlm, ST2.out.e6] at CDD
                    have CY := hid (fun X (hf : Fx X p off) => year_any 0 l off p X (by decide) (by decide) OK.out.near HO.out hf)
                    have CM := hid (fun X (hf : Fx X p off) => month_any 0 l off p X (by decide) (by decide) OK.out.near HO.out hf)
                    have CD := hid (fun X (hf : Fx X p off) => dayF_any 0 l off p X (by decide) (by decide) OK.out.near HO.out hf)
                    obtain ⟨yv, hyv⟩ : ∃ yv, yP (l / 86400) = yv := ⟨_, rfl⟩
                    obtain ⟨mv, hmv⟩ : ∃ mv, mP (l / 86400) = mv := ⟨_, rfl⟩
                    obtain ⟨dv, hdv⟩ : ∃ dv, dP (l / 86400) = dv := ⟨_, rfl⟩
                    rw [hyv] at CY CDD
                    rw [hmv] at CM CDD
                    rw [hdv] at CD CDD
                    rw [HM.out] at CDD
                    clear hyv hmv hdv hll hlm hl2
                    go_upto_region 31 with fail
                    have k0 : ∀ d os, (Go.Sort.grow (redrawn w2 d) os).cell? ⟨w.heap.size, 0, none⟩ = some (.int .u64 0) := fun d os => (blk_gr ST2.out.t d os).cell 0
                    have k1 : ∀ d os, (Go.Sort.grow (redrawn w2 d) os).cell? ⟨w.heap.size, 1, none⟩ = some (.int .i64 (eL off l)) := fun d os => (blk_gr ST2.out.t d os).cell 1
                    have k2 : ∀ d os, (Go.Sort.grow (redrawn w2 d) os).cell? ⟨w.heap.size, 2, none⟩ = some (.pointer p) := fun d os => (blk_gr ST2.out.t d os).cell 2
                    have E1 := hid (fun d os => Calls.regrown_of (CY.out (Go.Sort.grow (redrawn w2 d) os) (ST2.out.below (below_regrown w2 d os)).fx))
                    have E2 := hid (fun d os => Calls.regrown_of (CM.out (Go.Sort.grow (redrawn w2 d) os) (ST2.out.below (below_regrown w2 d os)).fx))
                    have E3 := hid (fun d os => Calls.regrown_of (CD.out (Go.Sort.grow (redrawn w2 d) os) (ST2.out.below (below_regrown w2 d os)).fx))
                    have E5 := hid (fun d os => Calls.regrown_of (CV.out (Go.Sort.grow (redrawn w2 d) os) (ST2.out.below (below_regrown w2 d os)).fx))
                    have E4 := hid (fun d os => Calls.regrown_of (CDD.out (Go.Sort.grow (redrawn w2 d) os) ((ST2.out.below (below_regrown w2 d os)).l6.loc (ST2.out.below (below_regrown w2 d os)).bw)))
                    refine wp_region_tail_below 10 (by kernel_rfl) (by kernel_rfl) ?_
                    show wpQuiet _ _ _ _ [_, _, _, _, _, _, _, _, _, _] _
                    repeat (go_big_quiet_step ((first | (go_at_call 119; exact E1.out _ _) | (go_at_call 120; exact E2.out _ _) | (go_at_call 115; exact E3.out _ _) | (go_at_call 124; exact E5.out _ _) | (go_at_call 121; exact E4.out _ _) | fail)))
                    refine wpQuiet_nil ?_
                    intro _ hw'
                    obtain ⟨⟨dq, osq⟩, hw''⟩ := hw'
                    subst hw''
                    have ST3 := hid (ST2.out.below (below_regrown w2 dq osq))
                    have TT := hid (there_blk ST3.out.t 3 (Nat.le_refl 3))
                    clear k0 k1 k2 E1 E2 E3 E4 E5 CDD CY CM CD ST2
                    generalize Go.Sort.grow (redrawn w2 dq) osq = w3 at ST3 TT ⊢
                    show wpList _ _ _ [_] _ _
                    refine wpList_store_mid rfl 52 (.tmp 3) (.tmp 125) rfl w.heap.size 0 (tcells 0 (eL off lm) p) (by rfl) (by rfl) TT.out (by kernel_rfl) (by simp [Value.oneCell']) ?_
                    have ST2 := hid (ST3.out.put 0 (eL off lm))
                    clear TT
                    generalize w3.setCells w.heap.size 0 (tcells 0 (eL off lm) p).toList = w2 at ST2 ⊢
                    refine wpList_nil ?_
                    clear ST3
                    have k0 : w2.cell? ⟨w.heap.size, 0, none⟩ = some (.int .u64 0) := ST2.out.t.cell 0
                    have k1 : w2.cell? ⟨w.heap.size, 1, none⟩ = some (.int .i64 (eL off lm)) := ST2.out.t.cell 1
                    have k2 : w2.cell? ⟨w.heap.size, 2, none⟩ = some (.pointer p) := ST2.out.t.cell 2
                    go_upto_region 33 with (first
                      | (go_at_call 118; refine (CAD.out _).mono ?_; rintro e w4 ⟨rfl, hb⟩; have ST4 := hid (ST2.out.below hb); have TT := hid (there_blk ST4.out.t 3 (Nat.le_refl 3)); clear hb)
                      | (refine wpList_store_mid rfl 52 (.tmp 3) (.tmp 127) rfl w.heap.size 0 (tcells 0 (eL off l2) p) (by rfl) (by rfl) TT.out (by kernel_rfl) (by simp [Value.oneCell']) ?_; have ST5 := hid (ST4.out.put 0 (eL off l2)); clear TT; generalize w4.setCells w.heap.size 0 (tcells 0 (eL off l2) p).toList = w5 at ST5 ⊢))
                    clear k0 k1 k2
                    have j0 : w5.cell? ⟨w.heap.size, 0, none⟩ = some (.int .u64 0) := ST5.out.t.cell 0
                    have j1 : w5.cell? ⟨w.heap.size, 1, none⟩ = some (.int .i64 (eL off l2)) := ST5.out.t.cell 1
                    have j2 : w5.cell? ⟨w.heap.size, 2, none⟩ = some (.pointer p) := ST5.out.t.cell 2
                    by_cases hd : d2 = 0
                    · have W9 := hid (W1'.out)
                      subst hd
                      go_wp2_with (go_at_call 124; refine (CV2.out _ ST5.out.fx).mono ?_; rintro e w6 ⟨rfl, hb⟩; have ST7 := hid (ST5.out.below hb); clear hb)
                      go_step3
                      refine And.intro rfl ?_
                      exact And.intro (jmp_intro true l2 g5 g6 (by rw [hp]; rfl) (by rw [hp]; exact ST7.out) W9.out B2.out) (mu_lt (l := lz) (l' := l2) STZ.out ST7.out HO.out (by have := LL.out; have := LZ.out; omega) (by have := B2.out; have := LL.out; have := LZ.out; omega))
                    · have hv : (d2 == 0) = false := by rw [beq_eq_false_iff_ne]; exact hd
                      have E2 := hid (W2'.out (fun h => hd (by rw [← HD2.out]; omega)))
                      have HYN := hid (show yP (l2 / 86400) ≤ lim by rw [E2.out]; exact HY.out)
                      have C9 := hid (show monOK S (l2 / 86400) = true ∧ dayOK S (l2 / 86400) = true by rw [E2.out]; exact ⟨HMT.out, HDT.out⟩)
                      clear hd
                      go_wp2_with (go_at_call 124; refine (CV2.out _ ST5.out.fx).mono ?_; rintro e w6 ⟨rfl, hb⟩; have ST7 := hid (ST5.out.below hb); clear hb)
                      go_roundw
                      case rel => exact ⟨true, l2, rfl, ST7.out, W1'.out, HYN.out, okL_of HL.out W1'.out.ge (by have := B2.out; omega) HYN.out (by have := HLM.out; omega), by have := LL.out; have := LZ.out; omega, C9.out.1, C9.out.2⟩
                      case measure => exact mu_lt (l := l) (l' := l2) ST0.out ST7.out HO.out LL.out (by have := B2.out; have := LL.out; omega)
            case false =>
              obtain ⟨W1, W2⟩ := way_day WY.out OK.out HY.out HMT.out HD.out
              obtain ⟨l2, hl2⟩ : ∃ l2, 86400 * (l / 86400 + 1) = l2 := ⟨_, rfl⟩
              have el2 : l2 / 86400 = l / 86400 + 1 := by omega
              have h20 : l2 % 86400 / 3600 = 0 := by omega
              rw [hl2] at W1
              rw [← el2] at W2
              have llt : l < l2 := by omega
              have nl2 : near l2 := ⟨by have := OK.out.near.1; omega, by have := OK.out.2; omega⟩
              have CH2 := hid (fun X (hf : Fx X p off) => hour_any 0 l2 off p X (by decide) (by decide) nl2 HO.out hf)
              have CD2 := hid (fun X (hf : Fx X p off) => dayF_any 0 l2 off p X (by decide) (by decide) nl2 HO.out hf)
              rw [h20] at CH2
              have B2 := hid (show l2 ≤ 370000000000 by have := OK.out.2; omega)
              have W1' := hid W1
              have W2' := hid W2
              have LL := hid llt
              obtain ⟨d2, hd2⟩ : ∃ d2, dP (l2 / 86400) = d2 := ⟨_, rfl⟩
              rw [hd2] at CD2 W2'
              clear W1 W2 el2 h20 llt nl2 hd2
              cases added
              case true =>
                have h0 := al_day (WY.out.al rfl) HD.out
                have hll : l + 86400 = l2 := by omega
                have CAD := hid (fun X (hx : LocB X g6 b off) => add_day OK.out HO.out X g6 hx)
                rw [ST.out.e6, hll] at CAD
                clear h0 hll hl2
                go_upto_region 22 with (go_at_call 123; refine (CDY.out _ ST.out.s ST.out.fx).mono ?_; rintro e w2 ⟨rfl, hb⟩; have ST2 := hid (ST.out.below hb); have k0 := ST2.out.t.cell 0; have k1 := ST2.out.t.cell 1; have k2 := ST2.out.t.cell 2; clear hb)
                go_upto_region 23 with (first
                  | (go_at_call 122; refine (CAD.out _ (ST2.out.l6.loc ST2.out.bw)).mono ?_; rintro e w4 ⟨rfl, hb⟩; have ST4 := hid (ST2.out.below hb); have TT := hid (there_blk ST4.out.t 3 (Nat.le_refl 3)); clear hb)
                  | (refine wpList_store_mid rfl 52 (.tmp 3) (.tmp 82) rfl w.heap.size 0 (tcells 0 (eL off l2) p) (by rfl) (by rfl) TT.out (by kernel_rfl) (by simp [Value.oneCell']) ?_; have ST5 := hid (ST4.out.put 0 (eL off l2)); clear TT; generalize w4.setCells w.heap.size 0 (tcells 0 (eL off l2) p).toList = w5 at ST5 ⊢))
                clear k0 k1 k2
                have j0 : w5.cell? ⟨w.heap.size, 0, none⟩ = some (.int .u64 0) := ST5.out.t.cell 0
                have j1 : w5.cell? ⟨w.heap.size, 1, none⟩ = some (.int .i64 (eL off l2)) := ST5.out.t.cell 1
                have j2 : w5.cell? ⟨w.heap.size, 2, none⟩ = some (.pointer p) := ST5.out.t.cell 2
                by_cases hd : d2 = 1
                · subst hd
                  go_wp2_with (first
                    | (go_at_call 124; refine (CH2.out _ ST5.out.fx).mono ?_; rintro e w6 ⟨rfl, hb⟩; have ST6 := hid (ST5.out.below hb); have j0 := ST6.out.t.cell 0; have j1 := ST6.out.t.cell 1; have j2 := ST6.out.t.cell 2; clear hb)
                    | (go_at_call 115; refine (CD2.out _ ST6.out.fx).mono ?_; rintro e w7 ⟨rfl, hb⟩; have ST7 := hid (ST6.out.below hb); clear hb))
                  go_step3
                  refine And.intro rfl ?_
                  exact And.intro (jmp_intro true l2 g5 g6 (by rw [hp]; rfl) (by rw [hp]; exact ST7.out) W1'.out B2.out) (mu_lt (l := lz) (l' := l2) STZ.out ST7.out HO.out (by have := LL.out; have := LZ.out; omega) (by have := B2.out; have := LL.out; have := LZ.out; omega))
                · have hv : (d2 == 1) = false := by rw [beq_eq_false_iff_ne]; exact hd
                  have HW := hid (W2'.out hd)
                  clear hd
                  go_wp2_with (first
                    | (go_at_call 124; refine (CH2.out _ ST5.out.fx).mono ?_; rintro e w6 ⟨rfl, hb⟩; have ST6 := hid (ST5.out.below hb); have j0 := ST6.out.t.cell 0; have j1 := ST6.out.t.cell 1; have j2 := ST6.out.t.cell 2; clear hb)
                    | (go_at_call 115; refine (CD2.out _ ST6.out.fx).mono ?_; rintro e w7 ⟨rfl, hb⟩; have ST7 := hid (ST6.out.below hb); clear hb))
                  go_roundw
                  case rel => exact ⟨true, l2, rfl, ST7.out, W1'.out, HW.out.1, okL_of HL.out W1'.out.ge (by have := B2.out; omega) HW.out.1 (by have := HLM.out; omega), by have := LL.out; have := LZ.out; omega, HW.out.2⟩
                  case measure => exact mu_lt (l := l) (l' := l2) ST0.out ST7.out HO.out LL.out (by have := B2.out; have := LL.out; omega)
              case false =>
                obtain ⟨lm, hlm⟩ : ∃ lm, 86400 * (l / 86400) = lm := ⟨_, rfl⟩
                have hll : lm + 86400 = l2 := by omega
                have okm : okL lm := ⟨by have := HLO.out; have := WY.out.ge; omega, by have := OK.out.2; omega⟩
                have CDD := hid (fun X (hx : LocB X g6 b off) => date_day OK.out HO.out X g6 hx)
                have CAD := hid (fun X (hx : LocB X g6 b off) => add_day okm HO.out X g6 hx)
                rw [hlm, ST.out.e6] at CDD
                rw [ST.out.e6, hll] at CAD
                have CY := hid (fun X (hf : Fx X p off) => year_any 0 l off p X (by decide) (by decide) OK.out.near HO.out hf)
                have CM := hid (fun X (hf : Fx X p off) => month_any 0 l off p X (by decide) (by decide) OK.out.near HO.out hf)
                have CD := hid (fun X (hf : Fx X p off) => dayF_any 0 l off p X (by decide) (by decide) OK.out.near HO.out hf)
                obtain ⟨yv, hyv⟩ : ∃ yv, yP (l / 86400) = yv := ⟨_, rfl⟩
                obtain ⟨mv, hmv⟩ : ∃ mv, mP (l / 86400) = mv := ⟨_, rfl⟩
                obtain ⟨dv, hdv⟩ : ∃ dv, dP (l / 86400) = dv := ⟨_, rfl⟩
                rw [hyv] at CY CDD
                rw [hmv] at CM CDD
                rw [hdv] at CD CDD
                clear hyv hmv hdv okm hll hlm hl2
                go_upto_region 21 with (go_at_call 123; refine (CDY.out _ ST.out.s ST.out.fx).mono ?_; rintro e w2 ⟨rfl, hb⟩; have ST2 := hid (ST.out.below hb); clear hb)
                clear k0 k1 k2 CDY
                have k0 : ∀ d os, (Go.Sort.grow (redrawn w2 d) os).cell? ⟨w.heap.size, 0, none⟩ = some (.int .u64 0) := fun d os => (blk_gr ST2.out.t d os).cell 0
                have k1 : ∀ d os, (Go.Sort.grow (redrawn w2 d) os).cell? ⟨w.heap.size, 1, none⟩ = some (.int .i64 (eL off l)) := fun d os => (blk_gr ST2.out.t d os).cell 1
                have k2 : ∀ d os, (Go.Sort.grow (redrawn w2 d) os).cell? ⟨w.heap.size, 2, none⟩ = some (.pointer p) := fun d os => (blk_gr ST2.out.t d os).cell 2
                have E1 := hid (fun d os => Calls.regrown_of (CY.out (Go.Sort.grow (redrawn w2 d) os) (ST2.out.below (below_regrown w2 d os)).fx))
                have E2 := hid (fun d os => Calls.regrown_of (CM.out (Go.Sort.grow (redrawn w2 d) os) (ST2.out.below (below_regrown w2 d os)).fx))
                have E3 := hid (fun d os => Calls.regrown_of (CD.out (Go.Sort.grow (redrawn w2 d) os) (ST2.out.below (below_regrown w2 d os)).fx))
                have E4 := hid (fun d os => Calls.regrown_of (CDD.out (Go.Sort.grow (redrawn w2 d) os) ((ST2.out.below (below_regrown w2 d os)).l6.loc (ST2.out.below (below_regrown w2 d os)).bw)))
                refine wp_region_tail_below 8 (by kernel_rfl) (by kernel_rfl) ?_
                show wpQuiet _ _ _ _ [_, _, _, _, _, _, _, _] _
                repeat (go_big_quiet_step ((first | (go_at_call 119; exact E1.out _ _) | (go_at_call 120; exact E2.out _ _) | (go_at_call 115; exact E3.out _ _) | (go_at_call 121; exact E4.out _ _) | fail)))
                refine wpQuiet_nil ?_
                intro _ hw'
                obtain ⟨⟨dq, osq⟩, hw''⟩ := hw'
                subst hw''
                have ST3 := hid (ST2.out.below (below_regrown w2 dq osq))
                have TT := hid (there_blk ST3.out.t 3 (Nat.le_refl 3))
                clear k0 k1 k2 E1 E2 E3 E4 CDD CY CM CD ST2
                generalize Go.Sort.grow (redrawn w2 dq) osq = w3 at ST3 TT ⊢
                show wpList _ _ _ [_] _ _
                refine wpList_store_mid rfl 52 (.tmp 3) (.tmp 80) rfl w.heap.size 0 (tcells 0 (eL off lm) p) (by rfl) (by rfl) TT.out (by kernel_rfl) (by simp [Value.oneCell']) ?_
                have ST2 := hid (ST3.out.put 0 (eL off lm))
                clear TT
                generalize w3.setCells w.heap.size 0 (tcells 0 (eL off lm) p).toList = w2 at ST2 ⊢
                refine wpList_nil ?_
                clear ST3
                have k0 : w2.cell? ⟨w.heap.size, 0, none⟩ = some (.int .u64 0) := ST2.out.t.cell 0
                have k1 : w2.cell? ⟨w.heap.size, 1, none⟩ = some (.int .i64 (eL off lm)) := ST2.out.t.cell 1
                have k2 : w2.cell? ⟨w.heap.size, 2, none⟩ = some (.pointer p) := ST2.out.t.cell 2
                go_upto_region 23 with (first
                  | (go_at_call 122; refine (CAD.out _ (ST2.out.l6.loc ST2.out.bw)).mono ?_; rintro e w4 ⟨rfl, hb⟩; have ST4 := hid (ST2.out.below hb); have TT := hid (there_blk ST4.out.t 3 (Nat.le_refl 3)); clear hb)
                  | (refine wpList_store_mid rfl 52 (.tmp 3) (.tmp 82) rfl w.heap.size 0 (tcells 0 (eL off l2) p) (by rfl) (by rfl) TT.out (by kernel_rfl) (by simp [Value.oneCell']) ?_; have ST5 := hid (ST4.out.put 0 (eL off l2)); clear TT; generalize w4.setCells w.heap.size 0 (tcells 0 (eL off l2) p).toList = w5 at ST5 ⊢))
                clear k0 k1 k2
                have j0 : w5.cell? ⟨w.heap.size, 0, none⟩ = some (.int .u64 0) := ST5.out.t.cell 0
                have j1 : w5.cell? ⟨w.heap.size, 1, none⟩ = some (.int .i64 (eL off l2)) := ST5.out.t.cell 1
                have j2 : w5.cell? ⟨w.heap.size, 2, none⟩ = some (.pointer p) := ST5.out.t.cell 2
                by_cases hd : d2 = 1
                · subst hd
                  go_wp2_with (first
                    | (go_at_call 124; refine (CH2.out _ ST5.out.fx).mono ?_; rintro e w6 ⟨rfl, hb⟩; have ST6 := hid (ST5.out.below hb); have j0 := ST6.out.t.cell 0; have j1 := ST6.out.t.cell 1; have j2 := ST6.out.t.cell 2; clear hb)
                    | (go_at_call 115; refine (CD2.out _ ST6.out.fx).mono ?_; rintro e w7 ⟨rfl, hb⟩; have ST7 := hid (ST6.out.below hb); clear hb))
                  go_step3
                  refine And.intro rfl ?_
                  exact And.intro (jmp_intro true l2 g5 g6 (by rw [hp]; rfl) (by rw [hp]; exact ST7.out) W1'.out B2.out) (mu_lt (l := lz) (l' := l2) STZ.out ST7.out HO.out (by have := LL.out; have := LZ.out; omega) (by have := B2.out; have := LL.out; have := LZ.out; omega))
                · have hv : (d2 == 1) = false := by rw [beq_eq_false_iff_ne]; exact hd
                  have HW := hid (W2'.out hd)
                  clear hd
                  go_wp2_with (first
                    | (go_at_call 124; refine (CH2.out _ ST5.out.fx).mono ?_; rintro e w6 ⟨rfl, hb⟩; have ST6 := hid (ST5.out.below hb); have j0 := ST6.out.t.cell 0; have j1 := ST6.out.t.cell 1; have j2 := ST6.out.t.cell 2; clear hb)
                    | (go_at_call 115; refine (CD2.out _ ST6.out.fx).mono ?_; rintro e w7 ⟨rfl, hb⟩; have ST7 := hid (ST6.out.below hb); clear hb))
                  go_roundw
                  case rel => exact ⟨true, l2, rfl, ST7.out, W1'.out, HW.out.1, okL_of HL.out W1'.out.ge (by have := B2.out; omega) HW.out.1 (by have := HLM.out; omega), by have := LL.out; have := LZ.out; omega, HW.out.2⟩
                  case measure => exact mu_lt (l := l) (l' := l2) ST0.out ST7.out HO.out LL.out (by have := B2.out; have := LL.out; omega)
        case true =>
          have hB : hasB S.month M = false := by have := HZV.out; simpa using this
          have HMON := hid (HMON.out.trans hB)
          clear hB HZV
          have NX := next_month (day := l / 86400) (by have := OK.out.1; omega) (by have := OK.out.2; omega)
          cases added
          case true =>
            have hms := al_month OK.out (WY.out.al rfl) HMON.out
            have CAM := hid (fun X (hx : LocB X g6 b off) => add_month OK.out hms HO.out X g6 hx)
            rw [ST2.out.e6] at CAM
            obtain ⟨W1, W2, W3⟩ := way_month WY.out OK.out HY.out HMON.out (fun _ => hms)
            obtain ⟨l2, hl2⟩ : ∃ l2, 86400 * nextM (l / 86400) = l2 := ⟨_, rfl⟩
            have el2 : l2 / 86400 = nextM (l / 86400) := by omega
            rw [hl2] at W1 W2 W3 CAM
            rw [← el2] at NX
            have nl2 : near l2 := ⟨by have := OK.out.near.1; omega, by have := OK.out.2; omega⟩
            have CM2 := hid (fun X (hf : Fx X p off) => month_any 0 l2 off p X (by decide) (by decide) nl2 HO.out hf)
            have b2 : l2 ≤ 370000000000 := by have := OK.out.2; omega
            have y2 : mP (l / 86400) < 12 → mP (l2 / 86400) ≠ 1 ∧ yP (l2 / 86400) ≤ lim := fun h => by
              rcases NX.2.2.2 with k | k
              · have := HY.out; have := HMB.out; omega
              · omega
            have y3 : ¬ mP (l / 86400) < 12 → mP (l2 / 86400) = 1 := fun h => by
              rcases NX.2.2.2 with k | k
              · omega
              · exact k.2.2.1
            have W1' := hid W1
            have W2' := hid W2
            have B2' := hid b2
            have Y2' := hid y2
            clear NX W1 W3 hl2 el2 b2 W2 nl2 y2
            obtain ⟨m2, hm2⟩ : ∃ m2, mP (l2 / 86400) = m2 := ⟨_, rfl⟩
            rw [hm2] at CM2
            have HM2 := hid hm2
            clear hm2
            have j0 : w2.cell? ⟨w.heap.size, 0, none⟩ = some (.int .u64 0) := ST2.out.t.cell 0
            have j1 : w2.cell? ⟨w.heap.size, 1, none⟩ = some (.int .i64 (eL off l)) := ST2.out.t.cell 1
            have j2 : w2.cell? ⟨w.heap.size, 2, none⟩ = some (.pointer p) := ST2.out.t.cell 2
            go_upto_region 17 with (first
              | (go_at_call 122; refine (CAM.out _ (ST2.out.l6.loc ST2.out.bw)).mono ?_; rintro e w4 ⟨rfl, hb⟩; have ST4 := hid (ST2.out.below hb); have TT := hid (there_blk ST4.out.t 3 (Nat.le_refl 3)); clear hb)
              | (refine wpList_store_mid rfl 52 (.tmp 3) (.tmp 63) rfl w.heap.size 0 (tcells 0 (eL off l2) p) (by rfl) (by rfl) TT.out (by kernel_rfl) (by simp [Value.oneCell']) ?_; have ST5 := hid (ST4.out.put 0 (eL off l2)); clear TT; generalize w4.setCells w.heap.size 0 (tcells 0 (eL off l2) p).toList = w5 at ST5 ⊢))
            clear j0 j1 j2
            have j0 : w5.cell? ⟨w.heap.size, 0, none⟩ = some (.int .u64 0) := ST5.out.t.cell 0
            have j1 : w5.cell? ⟨w.heap.size, 1, none⟩ = some (.int .i64 (eL off l2)) := ST5.out.t.cell 1
            have j2 : w5.cell? ⟨w.heap.size, 2, none⟩ = some (.pointer p) := ST5.out.t.cell 2
            by_cases hd : mP (l / 86400) < 12
            · have hv : (m2 == 1) = false := by rw [beq_eq_false_iff_ne, ← HM2.out]; exact (Y2'.out hd).1
              have hd2 := hid (Y2'.out hd).2
              clear hd y3
              go_wp2_with (go_at_call 120; refine (CM2.out _ ST5.out.fx).mono ?_; rintro e w6 ⟨rfl, hb⟩; have ST6 := hid (ST5.out.below hb); clear hb)
              go_roundw
              case rel => exact ⟨true, l2, rfl, ST6.out, W1'.out, hd2.out, okL_of HL.out W1'.out.ge (by have := B2'.out; omega) hd2.out (by have := HLM.out; omega), by have := W2'.out; have := LZ.out; omega⟩
              case measure => exact mu_lt (l := l) (l' := l2) ST0.out ST6.out HO.out W2'.out (by have := B2'.out; have := W2'.out; omega)
            · have hv : m2 = 1 := by rw [← HM2.out]; exact y3 (by omega)
              subst hv
              clear hd y3
              go_wp2_with (go_at_call 120; refine (CM2.out _ ST5.out.fx).mono ?_; rintro e w6 ⟨rfl, hb⟩; have ST6 := hid (ST5.out.below hb); clear hb)
              go_step3
              refine And.intro rfl ?_
              exact And.intro (jmp_intro true l2 g5 g6 (by rw [hp]; rfl) (by rw [hp]; exact ST6.out) W1'.out B2'.out) (mu_lt (l := lz) (l' := l2) STZ.out ST6.out HO.out (by have := W2'.out; have := LZ.out; omega) (by have := B2'.out; have := W2'.out; have := LZ.out; omega))
          case false =>
            have MF := ms_facts (day := l / 86400) (by have := OK.out.1; omega) (by have := OK.out.2; omega)
            obtain ⟨W1, W2, W3⟩ := way_month WY.out OK.out HY.out HMON.out (fun e => by cases e)
            have lms := WY.out.ge
            obtain ⟨lm, hlm⟩ : ∃ lm, 86400 * (l / 86400 - dP (l / 86400) + 1) = lm := ⟨_, rfl⟩
            have elm : lm / 86400 = l / 86400 - dP (l / 86400) + 1 := by omega
            have mdp := (md_pos (yP (l / 86400)) (mP (l / 86400))).2
            have mbb := mP_bounds (day := l / 86400) (by have := OK.out.1; omega) (by have := OK.out.2; omega)
            have okm : okL lm := ⟨by have := HLO.out; omega, by have := OK.out.2; omega⟩
            have hms : monthStart lm := ⟨by rw [elm]; exact MF.2.2.1, by omega⟩
            have CDM := hid (fun X (hx : LocB X g6 b off) => date_month OK.out HO.out X g6 hx)
            have CAM := hid (fun X (hx : LocB X g6 b off) => add_month okm hms HO.out X g6 hx)
            rw [hlm, ST2.out.e6] at CDM
            rw [ST2.out.e6, elm, MF.2.2.2] at CAM
            have CY := hid (fun X (hf : Fx X p off) => year_any 0 l off p X (by decide) (by decide) OK.out.near HO.out hf)
            obtain ⟨yv, hyv⟩ : ∃ yv, yP (l / 86400) = yv := ⟨_, rfl⟩
            rw [hyv] at CY CDM
            rw [hM] at CDM
            clear MF lms hlm elm mdp mbb okm hms
            go_upto_region 15 with fail
            have k0 : ∀ d os, (Go.Sort.grow (redrawn w2 d) os).cell? ⟨w.heap.size, 0, none⟩ = some (.int .u64 0) := fun d os => (blk_gr ST2.out.t d os).cell 0
            have k1 : ∀ d os, (Go.Sort.grow (redrawn w2 d) os).cell? ⟨w.heap.size, 1, none⟩ = some (.int .i64 (eL off l)) := fun d os => (blk_gr ST2.out.t d os).cell 1
            have k2 : ∀ d os, (Go.Sort.grow (redrawn w2 d) os).cell? ⟨w.heap.size, 2, none⟩ = some (.pointer p) := fun d os => (blk_gr ST2.out.t d os).cell 2
            have E1 := hid (fun d os => Calls.regrown_of (CY.out (Go.Sort.grow (redrawn w2 d) os) (ST2.out.below (below_regrown w2 d os)).fx))
            have E2 := hid (fun d os => Calls.regrown_of (CM.out (Go.Sort.grow (redrawn w2 d) os) (ST2.out.below (below_regrown w2 d os)).fx))
            have E3 := hid (fun d os => Calls.regrown_of (CDM.out (Go.Sort.grow (redrawn w2 d) os) ((ST2.out.below (below_regrown w2 d os)).l6.loc (ST2.out.below (below_regrown w2 d os)).bw)))
            refine wp_region_tail_below 6 (by kernel_rfl) (by kernel_rfl) ?_
            show wpQuiet _ _ _ _ [_, _, _, _, _, _] _
            repeat (go_big_quiet_step ((first | (go_at_call 119; exact E1.out _ _) | (go_at_call 120; exact E2.out _ _) | (go_at_call 121; exact E3.out _ _) | fail)))
            refine wpQuiet_nil ?_
            intro _ hw'
            obtain ⟨⟨dq, osq⟩, hw''⟩ := hw'
            subst hw''
            have ST3 := hid (ST2.out.below (below_regrown w2 dq osq))
            have TT := hid (there_blk ST3.out.t 3 (Nat.le_refl 3))
            clear k0 k1 k2 E1 E2 E3 CDM CY ST2
            generalize Go.Sort.grow (redrawn w2 dq) osq = w3 at ST3 TT ⊢
            show wpList _ _ _ [_] _ _
            refine wpList_store_mid rfl 52 (.tmp 3) (.tmp 61) rfl w.heap.size 0 (tcells 0 (eL off lm) p) (by rfl) (by rfl) TT.out (by kernel_rfl) (by simp [Value.oneCell']) ?_
            have ST2 := hid (ST3.out.put 0 (eL off lm))
            clear TT
            generalize w3.setCells w.heap.size 0 (tcells 0 (eL off lm) p).toList = w2 at ST2 ⊢
            refine wpList_nil ?_
            clear ST3
            obtain ⟨l2, hl2⟩ : ∃ l2, 86400 * nextM (l / 86400) = l2 := ⟨_, rfl⟩
            have el2 : l2 / 86400 = nextM (l / 86400) := by omega
            rw [hl2] at W1 W2 W3 CAM
            rw [← el2] at NX
            have nl2 : near l2 := ⟨by have := OK.out.near.1; omega, by have := OK.out.2; omega⟩
            have CM2 := hid (fun X (hf : Fx X p off) => month_any 0 l2 off p X (by decide) (by decide) nl2 HO.out hf)
            have b2 : l2 ≤ 370000000000 := by have := OK.out.2; omega
            have y2 : mP (l / 86400) < 12 → mP (l2 / 86400) ≠ 1 ∧ yP (l2 / 86400) ≤ lim := fun h => by
              rcases NX.2.2.2 with k | k
              · have := HY.out; have := HMB.out; omega
              · omega
            have y3 : ¬ mP (l / 86400) < 12 → mP (l2 / 86400) = 1 := fun h => by
              rcases NX.2.2.2 with k | k
              · omega
              · exact k.2.2.1
            have W1' := hid W1
            have W2' := hid W2
            have B2' := hid b2
            have Y2' := hid y2
            clear NX W1 W3 hl2 el2 b2 W2 nl2 y2
            obtain ⟨m2, hm2⟩ : ∃ m2, mP (l2 / 86400) = m2 := ⟨_, rfl⟩
            rw [hm2] at CM2
            have HM2 := hid hm2
            clear hm2
            have j0 : w2.cell? ⟨w.heap.size, 0, none⟩ = some (.int .u64 0) := ST2.out.t.cell 0
            have j1 : w2.cell? ⟨w.heap.size, 1, none⟩ = some (.int .i64 (eL off lm)) := ST2.out.t.cell 1
            have j2 : w2.cell? ⟨w.heap.size, 2, none⟩ = some (.pointer p) := ST2.out.t.cell 2
            go_upto_region 17 with (first
              | (go_at_call 122; refine (CAM.out _ (ST2.out.l6.loc ST2.out.bw)).mono ?_; rintro e w4 ⟨rfl, hb⟩; have ST4 := hid (ST2.out.below hb); have TT := hid (there_blk ST4.out.t 3 (Nat.le_refl 3)); clear hb)
              | (refine wpList_store_mid rfl 52 (.tmp 3) (.tmp 63) rfl w.heap.size 0 (tcells 0 (eL off l2) p) (by rfl) (by rfl) TT.out (by kernel_rfl) (by simp [Value.oneCell']) ?_; have ST5 := hid (ST4.out.put 0 (eL off l2)); clear TT; generalize w4.setCells w.heap.size 0 (tcells 0 (eL off l2) p).toList = w5 at ST5 ⊢))
            clear j0 j1 j2
            have j0 : w5.cell? ⟨w.heap.size, 0, none⟩ = some (.int .u64 0) := ST5.out.t.cell 0
            have j1 : w5.cell? ⟨w.heap.size, 1, none⟩ = some (.int .i64 (eL off l2)) := ST5.out.t.cell 1
            have j2 : w5.cell? ⟨w.heap.size, 2, none⟩ = some (.pointer p) := ST5.out.t.cell 2
            by_cases hd : mP (l / 86400) < 12
            · have hv : (m2 == 1) = false := by rw [beq_eq_false_iff_ne, ← HM2.out]; exact (Y2'.out hd).1
              have hd2 := hid (Y2'.out hd).2
              clear hd y3
              go_wp2_with (go_at_call 120; refine (CM2.out _ ST5.out.fx).mono ?_; rintro e w6 ⟨rfl, hb⟩; have ST6 := hid (ST5.out.below hb); clear hb)
              go_roundw
              case rel => exact ⟨true, l2, rfl, ST6.out, W1'.out, hd2.out, okL_of HL.out W1'.out.ge (by have := B2'.out; omega) hd2.out (by have := HLM.out; omega), by have := W2'.out; have := LZ.out; omega⟩
              case measure => exact mu_lt (l := l) (l' := l2) ST0.out ST6.out HO.out W2'.out (by have := B2'.out; have := W2'.out; omega)
            · have hv : m2 = 1 := by rw [← HM2.out]; exact y3 (by omega)
              subst hv
              clear hd y3
              go_wp2_with (go_at_call 120; refine (CM2.out _ ST5.out.fx).mono ?_; rintro e w6 ⟨rfl, hb⟩; have ST6 := hid (ST5.out.below hb); clear hb)
              go_step3
              refine And.intro rfl ?_
              exact And.intro (jmp_intro true l2 g5 g6 (by rw [hp]; rfl) (by rw [hp]; exact ST6.out) W1'.out B2'.out) (mu_lt (l := lz) (l' := l2) STZ.out ST6.out HO.out (by have := W2'.out; have := LZ.out; omega) (by have := B2'.out; have := W2'.out; have := LZ.out; omega))
  · intro hrest
    have HR := hid hrest
    clear hrest
    obtain ⟨p, hp⟩ : ∃ p, locOf b g0 = p := ⟨_, rfl⟩
    have HP := hid hp
    have B0 : Below w.heap.size w ((w.alloc (.cells (tcells n (eL off l1) (locOf b g0)) 52)).alloc (.cells (tcells 0 0 none) 52)) := by go_grown
    have B := hid B0
    have Q := hid ((Blk.new w 52 (tcells n (eL off l1) (locOf b g0))).alloc (.cells (tcells 0 0 none) 52))
    have R := hid (Blk.new (w.alloc (.cells (tcells n (eL off l1) (locOf b g0)) 52)) 52 (tcells 0 0 none))
    have hsz : (w.alloc (.cells (tcells n (eL off l1) (locOf b g0)) 52)).heap.size = w.heap.size + 1 := by simp
    rw [hsz] at R
    have hsz2 : ((w.alloc (.cells (tcells n (eL off l1) (locOf b g0)) 52)).alloc (.cells (tcells 0 0 none) 52)).heap.size = w.heap.size + 2 := by simp
    have SB := hid (hs.below B0)
    have L := hid (hloc.below B0)
    have GL := hid hs.lt
    have HLC := hid hloc
    obtain ⟨D, hD⟩ : ∃ D, 1000000000 - n = D := ⟨_, rfl⟩
    have wd1 : IntKind.i64.wrap (1000000000 - n) = D := by rw [hD]; exact IntWalk.i64_in _ (by omega)
    have wd2 : wrap64 (1000000000 - n) = D := by rw [hD]; exact IntWalk.wrap64_in _ (by omega)
    have wn1 : IntKind.i64.wrap n = n := IntWalk.i64_in _ (by omega)
    have wn2 : wrap64 n = n := IntWalk.wrap64_in _ (by omega)
    have e1 : eL off l1 + 1 = eL off (l1 + 1) := by unfold eL; omega
    have CADD := hid (show ∀ X, Calls Tryz.prog 118 #[.agg (tcells n (eL off l1) (locOf b g0)), .int .i64 D] X fun e' w' => e' = .returned (.agg (tcells 0 (eL off (l1 + 1)) (locOf b g0))) ∧ Below X.heap.size X w' from fun X => by
      by_cases hn : n = 0
      · subst hn
        exact add_any _ _ 1 _ _ X (by omega) (by unfold eL; omega) (by unfold eL; omega) (by decide) (by decide) e1
      · exact add_rest n _ _ _ _ X (by omega) hn1 hD (by unfold eL; omega) (by unfold eL; omega) e1)
    have CNN := hid (fun X => nano_any n (eL off l1) (locOf b g0) X hn0 hn1)
    have CLT := hid (fun X (hx : LocB X g0 b off) => locationT_any n (eL off l1) off g0 b X hx)
    have CYY := hid (fun X (hf : Fx X p off) => year_any 0 (l1 + 1) off p X (by decide) (by decide) HL.out.near HO.out hf)
    have WAY := hid (show Way S (l1 + 1) lim false (l1 + 1) from ⟨Int.le_refl _, fun l h1 h2 => by omega, fun _ => rfl, fun e => (by cases e), by omega⟩)
    obtain ⟨yv, hyv⟩ : ∃ yv, yP ((l1 + 1) / 86400) = yv := ⟨_, rfl⟩
    rw [hyv] at CYY hlim
    have wl1 : IntKind.i64.wrap (yv + 5) = lim := by rw [hlim]; exact IntWalk.i64_in _ (by have := HLM.out; have := year_bounds HL.out; omega)
    have wl2 : wrap64 (yv + 5) = lim := by rw [hlim]; exact IntWalk.wrap64_in _ (by have := HLM.out; have := year_bounds HL.out; omega)
    have LB := hid (show l1 + 1 ≤ 370000000000 by have := HO.out.2; omega)
    rw [hp] at B Q R SB L CADD CNN CLT hsz2
    rw [hp]
    clear hs hloc hn0 hn1 hl1 hl2 B0 hsz hD e1 hyv hlim h60 hp
    go_upto_region 1 with fail
    have hs2 := hid (Nat.le_of_eq hsz2.symm)
    clear hsz2
    generalize ((w.alloc (.cells (tcells n (eL off l1) p) 52)).alloc (.cells (tcells 0 0 none) 52)) = w1 at B Q R SB L hs2 ⊢
    have k0 : w1.cell? ⟨w.heap.size, 0, none⟩ = some (.int .u64 n) := Q.out.cell 0
    have k1 : w1.cell? ⟨w.heap.size, 1, none⟩ = some (.int .i64 (eL off l1)) := Q.out.cell 1
    have k2 : w1.cell? ⟨w.heap.size, 2, none⟩ = some (.pointer p) := Q.out.cell 2
    go_upto_region 2 with (go_at_call 117; refine (CLT.out _ L.out).mono ?_; rintro e w2 ⟨⟨g5, rfl, hl5, ho5, h51, h52⟩, hb⟩; have B2 := hid (bt B.out hb); have Q2 := hid (Q.out.below hb); have R2 := hid (R.out.below hb); have SB2 := hid (SB.out.below hb); have L2 := hid (L.out.below hb); have LS5 := hid (locS_of (w' := w2) HLC.out hs2.out h51 h52); have O5 := hid ho5; have hs3 := hid (Nat.le_trans hs2.out hb.size); clear hl5 ho5 h51 h52 hb)
    clear k0 k1 k2
    have k0 : w2.cell? ⟨w.heap.size, 0, none⟩ = some (.int .u64 n) := Q2.out.cell 0
    have k1 : w2.cell? ⟨w.heap.size, 1, none⟩ = some (.int .i64 (eL off l1)) := Q2.out.cell 1
    have k2 : w2.cell? ⟨w.heap.size, 2, none⟩ = some (.pointer p) := Q2.out.cell 2
    have k6 : w2.cell? ⟨gs, 6, none⟩ = some (.pointer none) := SB2.out.cell 6
    go_upto_region 7 with (go_at_call 117; refine (CLT.out _ L2.out).mono ?_; rintro e w3 ⟨⟨g6, rfl, hl5, ho5, h51, h52⟩, hb⟩; have B3 := hid (bt B2.out hb); have Q3 := hid (Q2.out.below hb); have R3 := hid (R2.out.below hb); have SB3 := hid (SB2.out.below hb); have LS6 := hid (locS_of (w' := w3) HLC.out hs3.out h51 h52); have LS5' := hid (LS5.out.below hb); have O6 := hid ho5; have j6 := SB3.out.cell 6; clear hl5 ho5 h51 h52 hb)
    have ST := hid (show St w w3 gs g5 g6 (scd S.sec S.min S.hour S.dom S.month S.dow none) b off p n (eL off l1) from ⟨Q3.out, R3.out, SB3.out, LS5'.out, LS6.out, B3.out, GL.out, O5.out, O6.out⟩)
    clear k0 k1 k2 k6 j6 B Q R SB L B2 Q2 R2 SB2 L2 B3 Q3 R3 SB3 LS5 LS5' LS6 O5 O6 hs2 hs3 CLT
    have k0 : ∀ d os, (Go.Sort.grow (redrawn w3 d) os).cell? ⟨w.heap.size, 0, none⟩ = some (.int .u64 n) := fun d os => (blk_gr ST.out.t d os).cell 0
    have k1 : ∀ d os, (Go.Sort.grow (redrawn w3 d) os).cell? ⟨w.heap.size, 1, none⟩ = some (.int .i64 (eL off l1)) := fun d os => (blk_gr ST.out.t d os).cell 1
    have k2 : ∀ d os, (Go.Sort.grow (redrawn w3 d) os).cell? ⟨w.heap.size, 2, none⟩ = some (.pointer p) := fun d os => (blk_gr ST.out.t d os).cell 2
    have E1 := hid (fun d os => Calls.regrown_of (CNN.out (Go.Sort.grow (redrawn w3 d) os)))
    have E2 := hid (fun d os => Calls.regrown_of (CADD.out (Go.Sort.grow (redrawn w3 d) os)))
    refine wp_region_tail_below 6 (by kernel_rfl) (by kernel_rfl) ?_
    show wpQuiet _ _ _ _ [_, _, _, _, _, _] _
    repeat (go_big_quiet_step ((first | (go_at_call 51; exact E1.out _ _) | (go_at_call 118; exact E2.out _ _) | fail)))
    refine wpQuiet_nil ?_
    intro _ hw'
    obtain ⟨⟨dq, osq⟩, hw''⟩ := hw'
    subst hw''
    have ST3 := hid (ST.out.below (below_regrown w3 dq osq))
    have TT := hid (there_blk ST3.out.t 3 (Nat.le_refl 3))
    clear k0 k1 k2 E1 E2 CNN CADD ST
    generalize Go.Sort.grow (redrawn w3 dq) osq = w4 at ST3 TT ⊢
    show wpList _ _ _ [_] _ _
    refine wpList_store_mid rfl 52 (.tmp 3) (.tmp 35) rfl w.heap.size 0 (tcells 0 (eL off (l1 + 1)) p) (by rfl) (by rfl) TT.out (by kernel_rfl) (by simp [Value.oneCell']) ?_
    have ST2 := hid (ST3.out.put 0 (eL off (l1 + 1)))
    clear TT
    generalize w4.setCells w.heap.size 0 (tcells 0 (eL off (l1 + 1)) p).toList = w5 at ST2 ⊢
    refine wpList_nil ?_
    clear ST3
    have k0 : w5.cell? ⟨w.heap.size, 0, none⟩ = some (.int .u64 0) := ST2.out.t.cell 0
    have k1 : w5.cell? ⟨w.heap.size, 1, none⟩ = some (.int .i64 (eL off (l1 + 1))) := ST2.out.t.cell 1
    have k2 : w5.cell? ⟨w.heap.size, 2, none⟩ = some (.pointer p) := ST2.out.t.cell 2
    go_wp2_with (go_at_call 119; refine (CYY.out _ ST2.out.fx).mono ?_; rintro e w6 ⟨rfl, hb⟩; have ST6 := hid (ST2.out.below hb); clear hb)
    go_step3
    rename_i hK
    refine hK _ _ (HR.out _ _ ?_)
    exact jmp_intro false (l1 + 1) g5 g6 (by rw [HP.out]; rfl) (by rw [HP.out]; exact ST6.out) WAY.out LB.out
end Go.Proofs.YtjbafphoemibaaaGreatDoor
