/- (*Set).Lookup among parts, walked. -/
import Derived.Test.YtekjeagcncfmmaaDoorFindE
set_option linter.unusedVariables false
set_option linter.unusedSimpArgs false
namespace Go.Proofs.YtekjeagcncfmmaaDoor
open Go.RowKit Go.RwLone
open Go.Sort (grow grow_empty)

theorem bt {w w1 w2 : World} (h : Below w.heap.size w w1) (h2 : Below w1.heap.size w1 w2) : Below w.heap.size w w2 :=
  h.trans ⟨h2.os, h2.tape, h2.output, h2.size, fun k hk => h2.block k (Nat.lt_of_lt_of_le hk h.size)⟩

theorem parse_op (s : ByteArray) (aF aN aA : Addr) (w : World) (hs : s.size ≤ 200) (hF : Fst 58 s (-1)) (V : Vars w aF aN aA) : Calls Tryd.prog 17 #[.string s] w fun e w' => e = .returned (.tuple #[.string s, errV aF]) ∧ Below w.heap.size w w' :=
  (parse_any s aF aN aA w hs hF V).mono fun e w' ⟨he, hw⟩ => ⟨he, by rw [hw]; exact Below.refl _ _⟩
theorem check_gr (al v t : ByteArray) (b : Bool) (hb : begB t v = b) (w : World) (d : Nat) (os : Array Obj) : Calls Tryd.prog 23 #[.string al, .string v, .string ⟨#[]⟩, .string t] (grow (redrawn w d) os) fun e w'' => e = .returned (.bool b) ∧ ∃ p : Regrown, w'' = grow (redrawn w p.d) p.os :=
  Calls.gr_same ((check_any al v t _).mono fun e w' ⟨he, hw⟩ => ⟨by rw [he, hb], hw.symm⟩)

/-- Two boxes behind w1, the second with the text. -/
theorem two_boxes {w1 w2 : World} {t : ByteArray} (hb : Below ((w1.alloc (.cells #[.string ⟨#[]⟩] 56)).alloc (.cells #[.string ⟨#[]⟩] 9)).heap.size ((w1.alloc (.cells #[.string ⟨#[]⟩] 56)).alloc (.cells #[.string ⟨#[]⟩] 9)) w2) :
    Below w1.heap.size w1 w2 ∧ Blk w2 w1.heap.size 56 #[.string ⟨#[]⟩] ∧ Blk w2 (w1.heap.size + 1) 9 #[.string ⟨#[]⟩] := by
  refine ⟨bt (((Below.refl _ _).alloc (Nat.le_refl _) _).alloc (by simp) _) hb, ((Blk.new w1 _ _).alloc _).below hb, ?_⟩
  have B := (Blk.new (w1.alloc (.cells #[.string ⟨#[]⟩] 56)) 9 #[.string ⟨#[]⟩]).below hb
  rw [World.size_alloc] at B
  exact B
theorem box_set {w1 w2 : World} {t : ByteArray} {h : Nat} (hh : h = w1.heap.size) (h1 : Below h w1 w2) (h2 : Blk w2 h 56 #[.string ⟨#[]⟩]) (h3 : Blk w2 (h + 1) 9 #[.string ⟨#[]⟩]) :
    Below h w1 (w2.setCell ⟨h + 1, 0, none⟩ (.string t)) ∧ Blk (w2.setCell ⟨h + 1, 0, none⟩ (.string t)) h 56 #[.string ⟨#[]⟩] ∧ Blk (w2.setCell ⟨h + 1, 0, none⟩ (.string t)) (h + 1) 9 #[.string t] :=
  ⟨below_set h1 (by omega) 0 _, h2.set_other (by omega) 0 _, h3.set 0 _⟩

theorem cell_heap {w w' : World} {b : Nat} (h : w'.heap[b]? = w.heap[b]?) (o : Nat) : w'.cell? ⟨b, o, none⟩ = w.cell? ⟨b, o, none⟩ := by
  simp [World.cell?, h]
theorem EntS.locked {w w' : World} {g row n : Nat} {v : Value} {alg : ByteArray} {f : Nat → ByteArray} (h : EntS w row n alg f) (hg : w.grownBy w' (some g)) (hrg : row ≠ g) (hS : Blk w g 54 (scells 0 v)) : EntS w' row n alg f := fun i hi => by
  obtain ⟨ge, h1, h2⟩ := h i hi
  have hne : ge ≠ g := blk_ne h2 hS (by decide)
  exact ⟨ge, (cell_heap (hg.block row (World.block_lt_of_cell? w _ h1) (fun e => hrg (Option.some.inj e))) i).trans h1, h2.grown hg (fun k hk => by obtain rfl := Option.some.inj hk; exact hne)⟩

/-- A whole text that is found: no other begins with it. -/
theorem whole_next {f : Nat → ByteArray} {n idx : Nat} {t x : ByteArray} (hA : Asc f n) (hE : ∀ i, i < n → (f i).size = (f 0).size) (hi : idx < n) (hx : f idx = x) (hq : x = t) : idx + 1 = n ∨ begB t (f (idx + 1)) = false := by
  subst hx
  subst hq
  rcases Nat.lt_or_ge (idx + 1) n with h | h
  · right
    cases hb : begB (f idx) (f (idx + 1)) with
    | false => rfl
    | true =>
      have e := begB_whole (b := f idx) hb (by rw [hE idx hi, hE (idx + 1) h])
      have := hA idx h
      rw [← e, lowB_irrefl] at this
      cases this
  · left; omega

set_option maxHeartbeats 6400000 in
set_option maxRecDepth 100000 in
theorem lookup_some (w0 : World) (g n : Nat) (v : Value) (hs : List Nat) (alg : ByteArray) (f : Nat → ByteArray) (t : ByteArray) (aF aN aA : Addr) (w : World) (h0 : 0 < n) (hn : n ≤ 40) (hA : Asc f n) (hE : ∀ i, i < n → (f i).size = (f 0).size) (ht : t.size ≤ 200) (hF : Fst 58 t (-1)) (V : Vars w0 aF aN aA) (R : ZRel alg f w0 g n v hs w) :
    Calls Tryd.prog 11 #[.pointer (some ⟨g, 0, none⟩), .string t] w fun e w' => Found e aN aA alg f t n ∧ Below w0.heap.size w0 w' := by
  obtain ⟨row, cap, hv, hES, hrg⟩ := zrel_out R h0
  subst hv
  have HR := hid R
  have HV := hid V
  have HA := hid hA
  have HE := hid hE
  have HF := hid hF
  have HES := hid hES
  have hmf : ∀ (fn : Fn) (first cap : Array Value) (w : World), (Instr.makeFunc fn first cap).run Tryd.prog w = .ok (.func fn first cap) w := fun _ _ _ _ => rfl
  have hsf := same_fmt aF
  have hn0 : ((n : Int) == 0) = false := by simp; omega
  have HRG := hid hrg
  clear R V hA hE hF hES h0 hrg
  go_enter_defers Tryd.func11, Tryd.ntmps11
  go_wp2_with (first
    | (go_at_call 15; refine (rlock_any g _ _ ((HR.out.set_.alloc _).alloc _)).mono ?_; rintro e w1 ⟨rfl, hS1, hg1⟩
       have L1 := hid (show LB w0 w.heap.size (w.heap.size + 1) g row n cap alg f t w1 from ⟨(((HR.out.below.alloc HR.out.below.size _).alloc (by have := HR.out.below.size; simp; omega) _).grown hg1 (by have := HR.out.below.size; simp; omega) (fun k hk => by obtain rfl := Option.some.inj hk; exact HR.out.at_)), ((Blk.new w 33 #[.pointer (some ⟨g, 0, none⟩)]).alloc _).grown hg1 (fun k hk => by obtain rfl := Option.some.inj hk; have := HR.out.set_.lt; omega), (by have B := (Blk.new (w.alloc (.cells #[.pointer (some ⟨g, 0, none⟩)] 33)) 9 #[.string t]); rw [World.size_alloc] at B; exact B.grown hg1 (fun k hk => by obtain rfl := Option.some.inj hk; have := HR.out.set_.lt; omega)), hS1, ((HES.out.below ((((Below.refl _ w).alloc (Nat.le_refl _) _)).alloc (by simp) _)).locked hg1 HRG.out ((HR.out.set_.alloc _).alloc _))⟩)
       have q0 : w1.cell? ⟨w.heap.size, 0, none⟩ = some (.pointer (some ⟨g, 0, none⟩)) := L1.out.cs.cell 0
       have qt : w1.cell? ⟨w.heap.size + 1, 0, none⟩ = some (.string t) := L1.out.ct.cell 0
       have q6 : w1.cell? ⟨g, 6, none⟩ = some (.slice (some ⟨row, 0, none⟩) n cap) := L1.out.st.cell 6
       have qtt : ((w1.alloc (.cells #[.string ⟨#[]⟩] 56)).alloc (.cells #[.string ⟨#[]⟩] 9)).cell? ⟨w.heap.size + 1, 0, none⟩ = some (.string t) := ((L1.out.ct.alloc _).alloc _).cell 0
       clear hS1 hg1)
    | (go_at_call 17; refine (parse_op t aF aN aA _ ht HF.out (HV.out.below ((L1.out.b0.alloc L1.out.b0.size _).alloc (by have := L1.out.b0.size; simp; omega) _))).mono ?_; rintro e w2 ⟨rfl, hb2⟩
       obtain ⟨hD2, hA2, hH2⟩ := two_boxes (t := t) hb2
       obtain ⟨hD3, hA3, hH3⟩ := box_set (t := t) rfl hD2 hA2 hH2
       have L3 := hid (L1.out.below hD3)
       have A3 := hid hA3
       have H3 := hid hH3
       have L2 := hid (L1.out.below hD2)
       have r0 : w2.cell? ⟨w.heap.size, 0, none⟩ = some (.pointer (some ⟨g, 0, none⟩)) := L2.out.cs.cell 0
       have rt : w2.cell? ⟨w.heap.size + 1, 0, none⟩ = some (.string t) := L2.out.ct.cell 0
       have r6 : w2.cell? ⟨g, 6, none⟩ = some (.slice (some ⟨row, 0, none⟩) n cap) := L2.out.st.cell 6
       have rF : w2.cell? ⟨1, 0, none⟩ = some (errV aF) := (HV.out.below (show Below w0.heap.size w0 w2 from L2.out.b0)).f.1
       have rh : w2.cell? ⟨w1.heap.size + 1, 0, none⟩ = some (.string ⟨#[]⟩) := hH2.cell 0
       have rhf := hH2.frozen 0
       have s0 : (w2.setCell ⟨w1.heap.size + 1, 0, none⟩ (.string t)).cell? ⟨w.heap.size, 0, none⟩ = some (.pointer (some ⟨g, 0, none⟩)) := L3.out.cs.cell 0
       have s6 : (w2.setCell ⟨w1.heap.size + 1, 0, none⟩ (.string t)).cell? ⟨g, 6, none⟩ = some (.slice (some ⟨row, 0, none⟩) n cap) := L3.out.st.cell 6
       clear hb2 hD2 hA2 hH2 hD3 hA3 hH3)
    | (go_at_call 22; refine (search_any w0 w.heap.size (w.heap.size + 1) g row n cap alg f t _ hn HA.out L3.out).mono ?_; rintro e w4 ⟨⟨idx, rfl, hP⟩, hb4⟩
       have L4 := hid (L3.out.below hb4)
       have A4 := hid (A3.out.below hb4)
       have H4 := hid (H3.out.below hb4)
       have P4 := hid hP
       clear hP hb4))
  -- BRANCHES (gen_lookup.py)
  have hle := P4.out.le
  have ro04 : ∀ d os, (Go.Sort.grow (redrawn w4 d) os).cell? ⟨w.heap.size, 0, none⟩ = some (.pointer (some ⟨g, 0, none⟩)) := fun d os => (blk_gr L4.out.cs d os).cell 0
  have ro64 : ∀ d os, (Go.Sort.grow (redrawn w4 d) os).cell? ⟨g, 6, none⟩ = some (.slice (some ⟨row, 0, none⟩) n cap) := fun d os => (blk_gr L4.out.st d os).cell 6
  have roa4 : ∀ d os, (Go.Sort.grow (redrawn w4 d) os).cell? ⟨w1.heap.size, 0, none⟩ = some (.string ⟨#[]⟩) := fun d os => (blk_gr A4.out d os).cell 0
  have roh4 : ∀ d os, (Go.Sort.grow (redrawn w4 d) os).cell? ⟨w1.heap.size + 1, 0, none⟩ = some (.string t) := fun d os => (blk_gr H4.out d os).cell 0
  by_cases hi : idx = n
  · have e1 : ((idx : Int) == (n : Int)) = true := by simp [hi]
    have HIN := hid hi
    clear hi hle
    refine wp_region_quiet_below (by kernel_rfl) (by kernel_rfl) ?_
    repeat (go_big_quiet_step ((first | fail)))
    refine wpQuiet_nil ?_
    intro _ hw'
    obtain ⟨⟨dq, osq⟩, hw''⟩ := hw'
    subst hw''
    have L5 := hid (L4.out.below (below_regrown w4 dq osq))
    have A5 := hid (A4.out.below (below_regrown w4 dq osq))
    have H5 := hid (H4.out.below (below_regrown w4 dq osq))
    clear ro04 ro64 roa4 roh4
    generalize Go.Sort.grow (redrawn w4 dq) osq = w5 at L5 A5 H5 ⊢
    have gN : w5.cell? ⟨0, 0, none⟩ = some (errV aN) := (HV.out.below (show Below w0.heap.size w0 w5 from L5.out.b0)).n.1
    go_wp2_with fail
    go_region
    go_wp2_with fail
    refine leaves_cons (f := 16) (args := #[.pointer (some ⟨g, 0, none⟩)]) (by simp) (by simp [go_sem]) ?_
    refine (runlock_any g _ _ _ (show Blk w5.drew g _ _ from L5.out.st)).mono ?_
    rintro e u' w'' ⟨rfl, rfl, rfl⟩
    simp [Leaves, settle, results, Tryd.results11, go_sem]
    exact ⟨.inl ⟨P4.out.none HA.out (.inl HIN.out), rfl⟩, below_set L5.out.b0.drew HR.out.at_ 4 _⟩
  · have hlt : idx < n := by omega
    have HI := hid hlt
    have e1 : ((idx : Int) == (n : Int)) = false := by simp; omega
    have e2 : (idx : Int) < (n : Int) := by omega
    clear hi hle
    obtain ⟨ge, hI, hB⟩ := L4.out.en idx hlt
    obtain ⟨x, hx⟩ : ∃ x, f idx = x := ⟨_, rfl⟩
    rw [hx] at hB
    have HX := hid hx
    have I4 := hid hI
    have E4 := hid hB
    clear hx hI hB
    have roi4 : ∀ d os, (Go.Sort.grow (redrawn w4 d) os).cell? ⟨row, idx, none⟩ = some (.pointer (some ⟨ge, 0, none⟩)) := fun d os => cell_regrown I4.out d os
    have re04 : ∀ d os, (Go.Sort.grow (redrawn w4 d) os).cell? ⟨ge, 0, none⟩ = some (.string alg) := fun d os => (blk_gr E4.out d os).cell 0
    have re14 : ∀ d os, (Go.Sort.grow (redrawn w4 d) os).cell? ⟨ge, 1, none⟩ = some (.string x) := fun d os => (blk_gr E4.out d os).cell 1
    have re24 : ∀ d os, (Go.Sort.grow (redrawn w4 d) os).cell? ⟨ge, 2, none⟩ = some (.string (dgOf alg x)) := fun d os => (blk_gr E4.out d os).cell 2
    cases hb : begB t x with
    | false =>
      have C1 := hid (fun d os => check_gr alg x t false hb w4 d os)
      have HB := hid hb
      clear hb
      refine wp_region_quiet_below (by kernel_rfl) (by kernel_rfl) ?_
      repeat (go_big_quiet_step ((first | (go_at_call 23; exact C1.out _ _) | fail)))
      refine wpQuiet_nil ?_
      intro _ hw'
      obtain ⟨⟨dq, osq⟩, hw''⟩ := hw'
      subst hw''
      have L5 := hid (L4.out.below (below_regrown w4 dq osq))
      have A5 := hid (A4.out.below (below_regrown w4 dq osq))
      have H5 := hid (H4.out.below (below_regrown w4 dq osq))
      have I5 := hid (cell_regrown I4.out dq osq)
      have E5 := hid (E4.out.below (below_regrown w4 dq osq))
      clear ro04 ro64 roa4 roh4 roi4 re04 re14 re24
      generalize Go.Sort.grow (redrawn w4 dq) osq = w5 at L5 A5 H5 I5 E5 ⊢
      have gN : w5.cell? ⟨0, 0, none⟩ = some (errV aN) := (HV.out.below (show Below w0.heap.size w0 w5 from L5.out.b0)).n.1
      go_wp2_with fail
      go_region
      go_wp2_with fail
      refine leaves_cons (f := 16) (args := #[.pointer (some ⟨g, 0, none⟩)]) (by simp) (by simp [go_sem]) ?_
      refine (runlock_any g _ _ _ (show Blk w5.drew g _ _ from L5.out.st)).mono ?_
      rintro e u' w'' ⟨rfl, rfl, rfl⟩
      simp [Leaves, settle, results, Tryd.results11, go_sem]
      exact ⟨.inl ⟨P4.out.none HA.out (.inr (by rw [HX.out]; exact HB.out)), rfl⟩, below_set L5.out.b0.drew HR.out.at_ 4 _⟩
    | true =>
      have C1 := hid (fun d os => check_gr alg x t true hb w4 d os)
      have HB := hid hb
      clear hb
      refine wp_region_quiet_below (by kernel_rfl) (by kernel_rfl) ?_
      repeat (go_big_quiet_step ((first | (go_at_call 23; exact C1.out _ _) | fail)))
      refine wpQuiet_nil ?_
      intro _ hw'
      obtain ⟨⟨dq, osq⟩, hw''⟩ := hw'
      subst hw''
      have L5 := hid (L4.out.below (below_regrown w4 dq osq))
      have A5 := hid (A4.out.below (below_regrown w4 dq osq))
      have H5 := hid (H4.out.below (below_regrown w4 dq osq))
      have I5 := hid (cell_regrown I4.out dq osq)
      have E5 := hid (E4.out.below (below_regrown w4 dq osq))
      clear ro04 ro64 roa4 roh4 roi4 re04 re14 re24
      generalize Go.Sort.grow (redrawn w4 dq) osq = w5 at L5 A5 H5 I5 E5 ⊢
      go_wp2_with fail
      have ro05 : ∀ d os, (Go.Sort.grow (redrawn w5 d) os).cell? ⟨w.heap.size, 0, none⟩ = some (.pointer (some ⟨g, 0, none⟩)) := fun d os => (blk_gr L5.out.cs d os).cell 0
      have ro65 : ∀ d os, (Go.Sort.grow (redrawn w5 d) os).cell? ⟨g, 6, none⟩ = some (.slice (some ⟨row, 0, none⟩) n cap) := fun d os => (blk_gr L5.out.st d os).cell 6
      have roa5 : ∀ d os, (Go.Sort.grow (redrawn w5 d) os).cell? ⟨w1.heap.size, 0, none⟩ = some (.string ⟨#[]⟩) := fun d os => (blk_gr A5.out d os).cell 0
      have roh5 : ∀ d os, (Go.Sort.grow (redrawn w5 d) os).cell? ⟨w1.heap.size + 1, 0, none⟩ = some (.string t) := fun d os => (blk_gr H5.out d os).cell 0
      have roi5 : ∀ d os, (Go.Sort.grow (redrawn w5 d) os).cell? ⟨row, idx, none⟩ = some (.pointer (some ⟨ge, 0, none⟩)) := fun d os => cell_regrown I5.out d os
      have re05 : ∀ d os, (Go.Sort.grow (redrawn w5 d) os).cell? ⟨ge, 0, none⟩ = some (.string alg) := fun d os => (blk_gr E5.out d os).cell 0
      have re15 : ∀ d os, (Go.Sort.grow (redrawn w5 d) os).cell? ⟨ge, 1, none⟩ = some (.string x) := fun d os => (blk_gr E5.out d os).cell 1
      have re25 : ∀ d os, (Go.Sort.grow (redrawn w5 d) os).cell? ⟨ge, 2, none⟩ = some (.string (dgOf alg x)) := fun d os => (blk_gr E5.out d os).cell 2
      have key : ∀ (h : ¬ (alg.toList = [] ∧ x.toList = t.toList)), True := fun _ => trivial
      clear key
      by_cases qa : alg.toList = []
      · have f1 : (alg.toList == []) = true := by rw [qa]; rfl
        clear qa
        by_cases qv : x.toList = t.toList
        · have f2 : (x.toList == t.toList) = true := by simp [qv]
          have QV := hid qv
          clear qv
          refine wp_region_quiet_below (by kernel_rfl) (by kernel_rfl) ?_
          repeat (go_big_quiet_step ((first | fail)))
          refine wpQuiet_nil ?_
          intro _ hw'
          obtain ⟨⟨dq, osq⟩, hw''⟩ := hw'
          subst hw''
          have L6 := hid (L5.out.below (below_regrown w5 dq osq))
          have A6 := hid (A5.out.below (below_regrown w5 dq osq))
          have H6 := hid (H5.out.below (below_regrown w5 dq osq))
          have I6 := hid (cell_regrown I5.out dq osq)
          have E6 := hid (E5.out.below (below_regrown w5 dq osq))
          clear ro05 ro65 roa5 roh5 roi5 re05 re15 re25
          generalize Go.Sort.grow (redrawn w5 dq) osq = w6 at L6 A6 H6 I6 E6 ⊢
          have s0 : w6.cell? ⟨w.heap.size, 0, none⟩ = some (.pointer (some ⟨g, 0, none⟩)) := L6.out.cs.cell 0
          have s6 : w6.cell? ⟨g, 6, none⟩ = some (.slice (some ⟨row, 0, none⟩) n cap) := L6.out.st.cell 6
          have si : w6.cell? ⟨row, idx, none⟩ = some (.pointer (some ⟨ge, 0, none⟩)) := I6.out
          have s2 : w6.cell? ⟨ge, 2, none⟩ = some (.string (dgOf alg x)) := E6.out.cell 2
          go_wp2_with fail
          refine leaves_cons (f := 16) (args := #[.pointer (some ⟨g, 0, none⟩)]) (by simp) (by simp [go_sem]) ?_
          refine (runlock_any g _ _ _ (show Blk w6 g _ _ from L6.out.st)).mono ?_
          rintro e u' w'' ⟨rfl, rfl, rfl⟩
          simp [Leaves, settle, results, Tryd.results11, go_sem]
          exact ⟨.inr (.inl ⟨x, by rw [P4.out.one HA.out HI.out (by rw [HX.out]; exact HB.out) (whole_next HA.out HE.out HI.out HX.out (bytes_inj QV.out)), HX.out], rfl⟩), below_set L6.out.b0 HR.out.at_ 4 _⟩
        · have f2 : (x.toList == t.toList) = false := by simpa using qv
          clear qv
          refine wp_region_quiet_below (by kernel_rfl) (by kernel_rfl) ?_
          repeat (go_big_quiet_step ((first | fail)))
          refine wpQuiet_nil ?_
          intro _ hw'
          obtain ⟨⟨dq, osq⟩, hw''⟩ := hw'
          subst hw''
          have L6 := hid (L5.out.below (below_regrown w5 dq osq))
          have A6 := hid (A5.out.below (below_regrown w5 dq osq))
          have H6 := hid (H5.out.below (below_regrown w5 dq osq))
          have I6 := hid (cell_regrown I5.out dq osq)
          have E6 := hid (E5.out.below (below_regrown w5 dq osq))
          clear ro05 ro65 roa5 roh5 roi5 re05 re15 re25
          generalize Go.Sort.grow (redrawn w5 dq) osq = w6 at L6 A6 H6 I6 E6 ⊢
          go_wp2_with fail
          have ro06 : ∀ d os, (Go.Sort.grow (redrawn w6 d) os).cell? ⟨w.heap.size, 0, none⟩ = some (.pointer (some ⟨g, 0, none⟩)) := fun d os => (blk_gr L6.out.cs d os).cell 0
          have ro66 : ∀ d os, (Go.Sort.grow (redrawn w6 d) os).cell? ⟨g, 6, none⟩ = some (.slice (some ⟨row, 0, none⟩) n cap) := fun d os => (blk_gr L6.out.st d os).cell 6
          have roa6 : ∀ d os, (Go.Sort.grow (redrawn w6 d) os).cell? ⟨w1.heap.size, 0, none⟩ = some (.string ⟨#[]⟩) := fun d os => (blk_gr A6.out d os).cell 0
          have roh6 : ∀ d os, (Go.Sort.grow (redrawn w6 d) os).cell? ⟨w1.heap.size + 1, 0, none⟩ = some (.string t) := fun d os => (blk_gr H6.out d os).cell 0
          have roi6 : ∀ d os, (Go.Sort.grow (redrawn w6 d) os).cell? ⟨row, idx, none⟩ = some (.pointer (some ⟨ge, 0, none⟩)) := fun d os => cell_regrown I6.out d os
          have re06 : ∀ d os, (Go.Sort.grow (redrawn w6 d) os).cell? ⟨ge, 0, none⟩ = some (.string alg) := fun d os => (blk_gr E6.out d os).cell 0
          have re16 : ∀ d os, (Go.Sort.grow (redrawn w6 d) os).cell? ⟨ge, 1, none⟩ = some (.string x) := fun d os => (blk_gr E6.out d os).cell 1
          have re26 : ∀ d os, (Go.Sort.grow (redrawn w6 d) os).cell? ⟨ge, 2, none⟩ = some (.string (dgOf alg x)) := fun d os => (blk_gr E6.out d os).cell 2
          have hw1 : IntKind.i64.wrap ((idx : Int) + 1) = (idx : Int) + 1 := IntWalk.i64_in _ (by omega)
          by_cases hnx : idx + 1 < n
          · have e3 : ((idx : Int) + 1 < (n : Int)) = True := by simp; omega
            have e4 : decide ((idx : Int) + 1 < (n : Int)) = true := by simp; omega
            have HN := hid hnx
            obtain ⟨gn, hJ, hF⟩ := L6.out.en (idx + 1) hnx
            obtain ⟨y, hy⟩ : ∃ y, f (idx + 1) = y := ⟨_, rfl⟩
            rw [hy] at hF
            have HY := hid hy
            have J6 := hid hJ
            have F6 := hid hF
            clear hy hJ hF
            have rni6 : ∀ d os, (Go.Sort.grow (redrawn w6 d) os).cell? ⟨row, idx + 1, none⟩ = some (.pointer (some ⟨gn, 0, none⟩)) := fun d os => cell_regrown J6.out d os
            have rn06 : ∀ d os, (Go.Sort.grow (redrawn w6 d) os).cell? ⟨gn, 0, none⟩ = some (.string alg) := fun d os => (blk_gr F6.out d os).cell 0
            have rn16 : ∀ d os, (Go.Sort.grow (redrawn w6 d) os).cell? ⟨gn, 1, none⟩ = some (.string y) := fun d os => (blk_gr F6.out d os).cell 1
            cases hb2 : begB t y with
            | false =>
              have C2 := hid (fun d os => check_gr alg y t false hb2 w6 d os)
              have HB2 := hid hb2
              clear hb2
              refine wp_region_quiet_below (by kernel_rfl) (by kernel_rfl) ?_
              repeat (go_big_quiet_step ((first | (go_at_call 23; exact C2.out _ _) | fail)))
              refine wpQuiet_nil ?_
              intro _ hw'
              obtain ⟨⟨dq, osq⟩, hw''⟩ := hw'
              subst hw''
              have L7 := hid (L6.out.below (below_regrown w6 dq osq))
              have A7 := hid (A6.out.below (below_regrown w6 dq osq))
              have H7 := hid (H6.out.below (below_regrown w6 dq osq))
              have I7 := hid (cell_regrown I6.out dq osq)
              have E7 := hid (E6.out.below (below_regrown w6 dq osq))
              clear ro06 ro66 roa6 roh6 roi6 re06 re16 re26
              generalize Go.Sort.grow (redrawn w6 dq) osq = w7 at L7 A7 H7 I7 E7 ⊢
              have s0 : w7.cell? ⟨w.heap.size, 0, none⟩ = some (.pointer (some ⟨g, 0, none⟩)) := L7.out.cs.cell 0
              have s6 : w7.cell? ⟨g, 6, none⟩ = some (.slice (some ⟨row, 0, none⟩) n cap) := L7.out.st.cell 6
              have si : w7.cell? ⟨row, idx, none⟩ = some (.pointer (some ⟨ge, 0, none⟩)) := I7.out
              have s2 : w7.cell? ⟨ge, 2, none⟩ = some (.string (dgOf alg x)) := E7.out.cell 2
              go_wp2_with fail
              refine leaves_cons (f := 16) (args := #[.pointer (some ⟨g, 0, none⟩)]) (by simp) (by simp [go_sem]) ?_
              refine (runlock_any g _ _ _ (show Blk w7 g _ _ from L7.out.st)).mono ?_
              rintro e u' w'' ⟨rfl, rfl, rfl⟩
              simp [Leaves, settle, results, Tryd.results11, go_sem]
              exact ⟨.inr (.inl ⟨x, by rw [P4.out.one HA.out HI.out (by rw [HX.out]; exact HB.out) (.inr (by rw [HY.out]; exact HB2.out)), HX.out], rfl⟩), below_set L7.out.b0 HR.out.at_ 4 _⟩
            | true =>
              have C2 := hid (fun d os => check_gr alg y t true hb2 w6 d os)
              have HB2 := hid hb2
              clear hb2
              refine wp_region_quiet_below (by kernel_rfl) (by kernel_rfl) ?_
              repeat (go_big_quiet_step ((first | (go_at_call 23; exact C2.out _ _) | fail)))
              refine wpQuiet_nil ?_
              intro _ hw'
              obtain ⟨⟨dq, osq⟩, hw''⟩ := hw'
              subst hw''
              have L7 := hid (L6.out.below (below_regrown w6 dq osq))
              have A7 := hid (A6.out.below (below_regrown w6 dq osq))
              have H7 := hid (H6.out.below (below_regrown w6 dq osq))
              have I7 := hid (cell_regrown I6.out dq osq)
              have E7 := hid (E6.out.below (below_regrown w6 dq osq))
              clear ro06 ro66 roa6 roh6 roi6 re06 re16 re26
              generalize Go.Sort.grow (redrawn w6 dq) osq = w7 at L7 A7 H7 I7 E7 ⊢
              have gA : w7.cell? ⟨2, 0, none⟩ = some (errV aA) := (HV.out.below (show Below w0.heap.size w0 w7 from L7.out.b0)).a.1
              go_wp2_with fail
              go_region
              go_wp2_with fail
              refine leaves_cons (f := 16) (args := #[.pointer (some ⟨g, 0, none⟩)]) (by simp) (by simp [go_sem]) ?_
              refine (runlock_any g _ _ _ (show Blk w7.drew g _ _ from L7.out.st)).mono ?_
              rintro e u' w'' ⟨rfl, rfl, rfl⟩
              simp [Leaves, settle, results, Tryd.results11, go_sem]
              exact ⟨.inr (.inr ⟨P4.out.many HN.out (by rw [HX.out]; exact HB.out) (by rw [HY.out]; exact HB2.out), rfl⟩), below_set L7.out.b0.drew HR.out.at_ 4 _⟩
          · have e3 : ¬ ((idx : Int) + 1 < (n : Int)) := by omega
            have e4 : decide ((idx : Int) + 1 < (n : Int)) = false := by simp; omega
            have HN := hid (show idx + 1 = n by omega)
            refine wp_region_quiet_below (by kernel_rfl) (by kernel_rfl) ?_
            repeat (go_big_quiet_step ((first | fail)))
            refine wpQuiet_nil ?_
            intro _ hw'
            obtain ⟨⟨dq, osq⟩, hw''⟩ := hw'
            subst hw''
            have L7 := hid (L6.out.below (below_regrown w6 dq osq))
            have A7 := hid (A6.out.below (below_regrown w6 dq osq))
            have H7 := hid (H6.out.below (below_regrown w6 dq osq))
            have I7 := hid (cell_regrown I6.out dq osq)
            have E7 := hid (E6.out.below (below_regrown w6 dq osq))
            clear ro06 ro66 roa6 roh6 roi6 re06 re16 re26
            generalize Go.Sort.grow (redrawn w6 dq) osq = w7 at L7 A7 H7 I7 E7 ⊢
            have s0 : w7.cell? ⟨w.heap.size, 0, none⟩ = some (.pointer (some ⟨g, 0, none⟩)) := L7.out.cs.cell 0
            have s6 : w7.cell? ⟨g, 6, none⟩ = some (.slice (some ⟨row, 0, none⟩) n cap) := L7.out.st.cell 6
            have si : w7.cell? ⟨row, idx, none⟩ = some (.pointer (some ⟨ge, 0, none⟩)) := I7.out
            have s2 : w7.cell? ⟨ge, 2, none⟩ = some (.string (dgOf alg x)) := E7.out.cell 2
            go_wp2_with fail
            refine leaves_cons (f := 16) (args := #[.pointer (some ⟨g, 0, none⟩)]) (by simp) (by simp [go_sem]) ?_
            refine (runlock_any g _ _ _ (show Blk w7 g _ _ from L7.out.st)).mono ?_
            rintro e u' w'' ⟨rfl, rfl, rfl⟩
            simp [Leaves, settle, results, Tryd.results11, go_sem]
            exact ⟨.inr (.inl ⟨x, by rw [P4.out.one HA.out HI.out (by rw [HX.out]; exact HB.out) (.inl HN.out), HX.out], rfl⟩), below_set L7.out.b0 HR.out.at_ 4 _⟩
      · have f1 : (alg.toList == []) = false := by simpa using qa
        clear qa
        refine wp_region_quiet_below (by kernel_rfl) (by kernel_rfl) ?_
        repeat (go_big_quiet_step ((first | fail)))
        refine wpQuiet_nil ?_
        intro _ hw'
        obtain ⟨⟨dq, osq⟩, hw''⟩ := hw'
        subst hw''
        have L6 := hid (L5.out.below (below_regrown w5 dq osq))
        have A6 := hid (A5.out.below (below_regrown w5 dq osq))
        have H6 := hid (H5.out.below (below_regrown w5 dq osq))
        have I6 := hid (cell_regrown I5.out dq osq)
        have E6 := hid (E5.out.below (below_regrown w5 dq osq))
        clear ro05 ro65 roa5 roh5 roi5 re05 re15 re25
        generalize Go.Sort.grow (redrawn w5 dq) osq = w6 at L6 A6 H6 I6 E6 ⊢
        go_wp2_with fail
        have ro06 : ∀ d os, (Go.Sort.grow (redrawn w6 d) os).cell? ⟨w.heap.size, 0, none⟩ = some (.pointer (some ⟨g, 0, none⟩)) := fun d os => (blk_gr L6.out.cs d os).cell 0
        have ro66 : ∀ d os, (Go.Sort.grow (redrawn w6 d) os).cell? ⟨g, 6, none⟩ = some (.slice (some ⟨row, 0, none⟩) n cap) := fun d os => (blk_gr L6.out.st d os).cell 6
        have roa6 : ∀ d os, (Go.Sort.grow (redrawn w6 d) os).cell? ⟨w1.heap.size, 0, none⟩ = some (.string ⟨#[]⟩) := fun d os => (blk_gr A6.out d os).cell 0
        have roh6 : ∀ d os, (Go.Sort.grow (redrawn w6 d) os).cell? ⟨w1.heap.size + 1, 0, none⟩ = some (.string t) := fun d os => (blk_gr H6.out d os).cell 0
        have roi6 : ∀ d os, (Go.Sort.grow (redrawn w6 d) os).cell? ⟨row, idx, none⟩ = some (.pointer (some ⟨ge, 0, none⟩)) := fun d os => cell_regrown I6.out d os
        have re06 : ∀ d os, (Go.Sort.grow (redrawn w6 d) os).cell? ⟨ge, 0, none⟩ = some (.string alg) := fun d os => (blk_gr E6.out d os).cell 0
        have re16 : ∀ d os, (Go.Sort.grow (redrawn w6 d) os).cell? ⟨ge, 1, none⟩ = some (.string x) := fun d os => (blk_gr E6.out d os).cell 1
        have re26 : ∀ d os, (Go.Sort.grow (redrawn w6 d) os).cell? ⟨ge, 2, none⟩ = some (.string (dgOf alg x)) := fun d os => (blk_gr E6.out d os).cell 2
        have hw1 : IntKind.i64.wrap ((idx : Int) + 1) = (idx : Int) + 1 := IntWalk.i64_in _ (by omega)
        by_cases hnx : idx + 1 < n
        · have e3 : ((idx : Int) + 1 < (n : Int)) = True := by simp; omega
          have e4 : decide ((idx : Int) + 1 < (n : Int)) = true := by simp; omega
          have HN := hid hnx
          obtain ⟨gn, hJ, hF⟩ := L6.out.en (idx + 1) hnx
          obtain ⟨y, hy⟩ : ∃ y, f (idx + 1) = y := ⟨_, rfl⟩
          rw [hy] at hF
          have HY := hid hy
          have J6 := hid hJ
          have F6 := hid hF
          clear hy hJ hF
          have rni6 : ∀ d os, (Go.Sort.grow (redrawn w6 d) os).cell? ⟨row, idx + 1, none⟩ = some (.pointer (some ⟨gn, 0, none⟩)) := fun d os => cell_regrown J6.out d os
          have rn06 : ∀ d os, (Go.Sort.grow (redrawn w6 d) os).cell? ⟨gn, 0, none⟩ = some (.string alg) := fun d os => (blk_gr F6.out d os).cell 0
          have rn16 : ∀ d os, (Go.Sort.grow (redrawn w6 d) os).cell? ⟨gn, 1, none⟩ = some (.string y) := fun d os => (blk_gr F6.out d os).cell 1
          cases hb2 : begB t y with
          | false =>
            have C2 := hid (fun d os => check_gr alg y t false hb2 w6 d os)
            have HB2 := hid hb2
            clear hb2
            refine wp_region_quiet_below (by kernel_rfl) (by kernel_rfl) ?_
            repeat (go_big_quiet_step ((first | (go_at_call 23; exact C2.out _ _) | fail)))
            refine wpQuiet_nil ?_
            intro _ hw'
            obtain ⟨⟨dq, osq⟩, hw''⟩ := hw'
            subst hw''
            have L7 := hid (L6.out.below (below_regrown w6 dq osq))
            have A7 := hid (A6.out.below (below_regrown w6 dq osq))
            have H7 := hid (H6.out.below (below_regrown w6 dq osq))
            have I7 := hid (cell_regrown I6.out dq osq)
            have E7 := hid (E6.out.below (below_regrown w6 dq osq))
            clear ro06 ro66 roa6 roh6 roi6 re06 re16 re26
            generalize Go.Sort.grow (redrawn w6 dq) osq = w7 at L7 A7 H7 I7 E7 ⊢
            have s0 : w7.cell? ⟨w.heap.size, 0, none⟩ = some (.pointer (some ⟨g, 0, none⟩)) := L7.out.cs.cell 0
            have s6 : w7.cell? ⟨g, 6, none⟩ = some (.slice (some ⟨row, 0, none⟩) n cap) := L7.out.st.cell 6
            have si : w7.cell? ⟨row, idx, none⟩ = some (.pointer (some ⟨ge, 0, none⟩)) := I7.out
            have s2 : w7.cell? ⟨ge, 2, none⟩ = some (.string (dgOf alg x)) := E7.out.cell 2
            go_wp2_with fail
            refine leaves_cons (f := 16) (args := #[.pointer (some ⟨g, 0, none⟩)]) (by simp) (by simp [go_sem]) ?_
            refine (runlock_any g _ _ _ (show Blk w7 g _ _ from L7.out.st)).mono ?_
            rintro e u' w'' ⟨rfl, rfl, rfl⟩
            simp [Leaves, settle, results, Tryd.results11, go_sem]
            exact ⟨.inr (.inl ⟨x, by rw [P4.out.one HA.out HI.out (by rw [HX.out]; exact HB.out) (.inr (by rw [HY.out]; exact HB2.out)), HX.out], rfl⟩), below_set L7.out.b0 HR.out.at_ 4 _⟩
          | true =>
            have C2 := hid (fun d os => check_gr alg y t true hb2 w6 d os)
            have HB2 := hid hb2
            clear hb2
            refine wp_region_quiet_below (by kernel_rfl) (by kernel_rfl) ?_
            repeat (go_big_quiet_step ((first | (go_at_call 23; exact C2.out _ _) | fail)))
            refine wpQuiet_nil ?_
            intro _ hw'
            obtain ⟨⟨dq, osq⟩, hw''⟩ := hw'
            subst hw''
            have L7 := hid (L6.out.below (below_regrown w6 dq osq))
            have A7 := hid (A6.out.below (below_regrown w6 dq osq))
            have H7 := hid (H6.out.below (below_regrown w6 dq osq))
            have I7 := hid (cell_regrown I6.out dq osq)
            have E7 := hid (E6.out.below (below_regrown w6 dq osq))
            clear ro06 ro66 roa6 roh6 roi6 re06 re16 re26
            generalize Go.Sort.grow (redrawn w6 dq) osq = w7 at L7 A7 H7 I7 E7 ⊢
            have gA : w7.cell? ⟨2, 0, none⟩ = some (errV aA) := (HV.out.below (show Below w0.heap.size w0 w7 from L7.out.b0)).a.1
            go_wp2_with fail
            go_region
            go_wp2_with fail
            refine leaves_cons (f := 16) (args := #[.pointer (some ⟨g, 0, none⟩)]) (by simp) (by simp [go_sem]) ?_
            refine (runlock_any g _ _ _ (show Blk w7.drew g _ _ from L7.out.st)).mono ?_
            rintro e u' w'' ⟨rfl, rfl, rfl⟩
            simp [Leaves, settle, results, Tryd.results11, go_sem]
            exact ⟨.inr (.inr ⟨P4.out.many HN.out (by rw [HX.out]; exact HB.out) (by rw [HY.out]; exact HB2.out), rfl⟩), below_set L7.out.b0.drew HR.out.at_ 4 _⟩
        · have e3 : ¬ ((idx : Int) + 1 < (n : Int)) := by omega
          have e4 : decide ((idx : Int) + 1 < (n : Int)) = false := by simp; omega
          have HN := hid (show idx + 1 = n by omega)
          refine wp_region_quiet_below (by kernel_rfl) (by kernel_rfl) ?_
          repeat (go_big_quiet_step ((first | fail)))
          refine wpQuiet_nil ?_
          intro _ hw'
          obtain ⟨⟨dq, osq⟩, hw''⟩ := hw'
          subst hw''
          have L7 := hid (L6.out.below (below_regrown w6 dq osq))
          have A7 := hid (A6.out.below (below_regrown w6 dq osq))
          have H7 := hid (H6.out.below (below_regrown w6 dq osq))
          have I7 := hid (cell_regrown I6.out dq osq)
          have E7 := hid (E6.out.below (below_regrown w6 dq osq))
          clear ro06 ro66 roa6 roh6 roi6 re06 re16 re26
          generalize Go.Sort.grow (redrawn w6 dq) osq = w7 at L7 A7 H7 I7 E7 ⊢
          have s0 : w7.cell? ⟨w.heap.size, 0, none⟩ = some (.pointer (some ⟨g, 0, none⟩)) := L7.out.cs.cell 0
          have s6 : w7.cell? ⟨g, 6, none⟩ = some (.slice (some ⟨row, 0, none⟩) n cap) := L7.out.st.cell 6
          have si : w7.cell? ⟨row, idx, none⟩ = some (.pointer (some ⟨ge, 0, none⟩)) := I7.out
          have s2 : w7.cell? ⟨ge, 2, none⟩ = some (.string (dgOf alg x)) := E7.out.cell 2
          go_wp2_with fail
          refine leaves_cons (f := 16) (args := #[.pointer (some ⟨g, 0, none⟩)]) (by simp) (by simp [go_sem]) ?_
          refine (runlock_any g _ _ _ (show Blk w7 g _ _ from L7.out.st)).mono ?_
          rintro e u' w'' ⟨rfl, rfl, rfl⟩
          simp [Leaves, settle, results, Tryd.results11, go_sem]
          exact ⟨.inr (.inl ⟨x, by rw [P4.out.one HA.out HI.out (by rw [HX.out]; exact HB.out) (.inl HN.out), HX.out], rfl⟩), below_set L7.out.b0 HR.out.at_ 4 _⟩
end Go.Proofs.YtekjeagcncfmmaaDoor
