/- impl.terms, walked: the lists of terms as lists of the inner package's terms. -/
import Derived.Test.YtkohcmgckkenpaaDoorTms
import Derived.Lib.SmallJoins
set_option linter.unusedVariables false
set_option linter.unusedSimpArgs false
namespace Go.Proofs.YtkohcmgckkenpaaDoor
open Go.RowKit

/-- A term that the operators are asked of. -/
structure Okt (t : Tm) : Prop where
  o0 : 0 ≤ t.o
  o8 : t.o < 8
  k0 : 0 ≤ t.k
  k3 : t.k ≤ 3
  k2 : t.k = 2 → t.p.toList.isEmpty = true
  a0 : 0 ≤ t.a
  b0 : 0 ≤ t.b
  sp : t.p.size ≤ 2147483647
abbrev zc (t : Tm) (h : Nat) : Array Value := zcells (opS t.o.toNat) h (decide (t.k.toNat < 3)) (t.k.toNat == 1) (t.k.toNat == 2)
abbrev vc (t : Tm) : Array Value := vcells t.a t.b t.c t.p ByteArray.empty

/-- Blocks of the kinds that the lists are made of stay. -/
def KeepT (w w' : World) : Prop := ∀ b t cs, (t = 63 ∨ t = 67 ∨ t = 79 ∨ t = 64) → Blk w b t cs → Blk w' b t cs
theorem KeepT.of_below {w w' : World} (h : Below w.heap.size w w') : KeepT w w' := fun b t cs _ hb => hb.below h
theorem KeepT.trans {w w1 w2 : World} (h : KeepT w w1) (h2 : KeepT w1 w2) : KeepT w w2 := fun b t cs ht hb => h2 b t cs ht (h b t cs ht hb)

/-- A finished list of the inner package's terms. -/
def ZL (B : Nat) (w : World) (v : Value) (l : List Tm) : Prop := ∃ g cap cur, v = .slice (some ⟨g, 0, none⟩) l.length cap ∧ Blk w g 63 cur ∧
  ∀ j t, l[j]? = some t → ∃ h, B ≤ h ∧ (∀ q u, (zc t h)[q]? = some u → cur[j * 5 + q]? = some u) ∧ Blk w h 67 (vc t)
theorem ZL.keep {B : Nat} {w w' : World} {v : Value} {l : List Tm} (h : ZL B w v l) (K : KeepT w w') : ZL B w' v l := by
  obtain ⟨g, cap, cur, e, hb, h⟩ := h
  exact ⟨g, cap, cur, e, K _ _ _ (.inl rfl) hb, fun j t hj => by obtain ⟨x, h0, h1, h2⟩ := h j t hj; exact ⟨x, h0, h1, K _ _ _ (.inr (.inl rfl)) h2⟩⟩
def ZLs (B : Nat) (w : World) (vs : List Value) (L : List (List Tm)) : Prop := vs.length = L.length ∧ ∀ (i : Nat) (v : Value) (l : List Tm), vs[i]? = some v → L[i]? = some l → ZL B w v l
theorem ZLs.keep {B : Nat} {w w' : World} {vs : List Value} {L : List (List Tm)} (h : ZLs B w vs L) (K : KeepT w w') : ZLs B w' vs L := by
  refine ⟨h.1, ?_⟩
  intro i v l h1 h2
  exact (h.2 i v l h1 h2).keep K
theorem ZLs.snoc {B : Nat} {w : World} {vs : List Value} {L : List (List Tm)} {v : Value} {l : List Tm} (h : ZLs B w vs L) (hv : ZL B w v l) : ZLs B w (vs ++ [v]) (L ++ [l]) := by
  refine ⟨by rw [List.length_append, List.length_append, h.1]; rfl, ?_⟩
  intro i x y hx hy
  have hl := h.1
  by_cases hlt : i < L.length
  · rw [List.getElem?_append_left (by omega)] at hx hy
    exact h.2 i x y hx hy
  · have hi : i = L.length := by
      have := (List.getElem?_eq_some_iff.1 hy).1
      rw [List.length_append] at this
      simp at this
      omega
    subst hi
    rw [List.getElem?_append_right (by omega)] at hx hy
    rw [hl, Nat.sub_self] at hx
    rw [Nat.sub_self] at hy
    obtain rfl := Option.some.inj hx
    obtain rfl := Option.some.inj hy
    exact hv

section
variable {P : Program} {ops : Array Oper} {rest : List Oper} {o : Oper} {a : Act} {Q : Exit → Act → World → Prop}
/-- 'append(v, y)', y of any number of cells, where other blocks matter, too. -/
theorem app_row {w0 W : World} (base : Nat) (hgd : o.guard = none) (s x : Operand) (t e : TypeId) (z : Value) (size bytes : Nat)
    (ho : o.op = .call { callee := .builtin .append, args := #[s, x], argTypes := #[t, t] })
    (ht : P.underlying t = some (.slice e)) (hinfo : (P.info? e).map (fun i => (i.zero, i.size, i.bytes)) = some (some z, size, bytes)) (hz : z.cells.size = size) (hsz : 0 < size)
    (v : Value) (n : Nat) (xs ys : List Value) (hy : ys.length = size) (hs : a.eval s = v) (hx : a.eval x = .slice (some ⟨W.heap.size, 0, none⟩) 1 1) (h1 : ∀ u ∈ ys, u.oneCell' = true)
    (HO : W.ownsRow base e size v n xs) (HB : Below base w0 W) (hbase : base ≤ W.heap.size) (hm : n + 1 ≤ maxLen) (hl : (n + 1) * bytes ≤ 140737488355328)
    (h : ∀ v1 w1, w1.ownsRow base e size v1 (n + 1) (xs ++ ys) → (W.alloc (.cells ys.toArray e)).grownBy w1 v.ownBlock → Below base w0 w1 → wpList P ops Q rest (a.put o.dst v1) w1) :
    wpList P ops Q (o :: rest) a (W.alloc (.cells ys.toArray e)) := by
  obtain ⟨i0, hi, hzz⟩ := Option.map_eq_some_iff.1 hinfo
  simp only [Prod.mk.injEq] at hzz
  obtain ⟨hz0, hz1, hz2⟩ := hzz
  refine wpList_append_own (W.alloc (.cells ys.toArray e)) hgd s x t ho base e i0 z size bytes ht hi hz0 hz1 hz2 hz hsz v n xs hs (HO.alloc _) ⟨W.heap.size, 0, none⟩ 1 1 ys hx (by omega) ?_ h1 hm hl (by simp; omega) ?_
  · intro j u hu
    have e1 : (⟨W.heap.size, 0, none⟩ : Addr).add j = ⟨W.heap.size, j, none⟩ := by unfold Addr.add; split <;> simp_all
    rw [e1, (Blk.new W e ys.toArray).cell j]
    simpa using hu
  · intro v1 w1 hown hg _
    exact h v1 w1 hown hg ((HB.alloc hbase _).grown hg (by simp; omega) (own_low HO))
end

/-- A block of another element type is not the row's own. -/
theorem own_ne {w : World} {base size n b : Nat} {e t : TypeId} {v : Value} {xs : List Value} {cs : Array Value} (h : w.ownsRow base e size v n xs) (hB : Blk w b t cs) (hte : t ≠ e) : ∀ k, v.ownBlock = some k → b ≠ k := by
  rintro k hk rfl
  rcases h.2 with ⟨rfl, _⟩ | ⟨g, cap, cur, rfl, _, h3, _⟩
  · cases hk
  · simp [Value.ownBlock] at hk
    subst hk
    rw [show w.heap[g]? = _ from hB] at h3
    simp at h3
    exact hte h3.2
theorem Blk.grown {w w' : World} {g : Nat} {t : TypeId} {cs : Array Value} {row : Option Nat} (h : Blk w g t cs) (hg : w.grownBy w' row) (hr : ∀ k, row = some k → g ≠ k) : Blk w' g t cs :=
  (hg.block g h.lt (fun e => hr g e.symm rfl)).trans h
/-- A row of one's own behind calls that make memory alone. -/
theorem own_below {w w' : World} {base size n : Nat} {e : TypeId} {v : Value} {xs : List Value} (h : w.ownsRow base e size v n xs) (hb : Below w.heap.size w w') : w'.ownsRow base e size v n xs := by
  refine ⟨h.1, ?_⟩
  rcases h.2 with h0 | ⟨g, cap, cur, rfl, h2, h3, h4⟩
  · exact .inl h0
  · exact .inr ⟨g, cap, cur, rfl, h2, (hb.block g (Array.getElem?_eq_some_iff.1 h3).1).trans h3, h4⟩

/-- What the inner loop of terms holds behind j terms. -/
structure IRel (W : World) (l : List Tm) (j : Nat) (v : Value) (xs : List Value) (wr : World) : Prop where
  own : wr.ownsRow W.heap.size 63 5 v j xs
  at_ : ∀ i t, i < j → l[i]? = some t → ∃ h, W.heap.size ≤ h ∧ (∀ q u, (zc t h)[q]? = some u → xs[i * 5 + q]? = some u) ∧ Blk wr h 67 (vc t)
  below : Below W.heap.size W wr

theorem IRel.done {B : Nat} {W wr : World} {l : List Tm} {v : Value} {xs : List Value} (R : IRel W l l.length v xs wr) (hne : l ≠ []) (hB : B ≤ W.heap.size) : ZL B wr v l := by
  have hn : 0 < l.length := List.length_pos_iff.2 hne
  rcases R.own.2 with ⟨_, h0⟩ | ⟨g, cap, cur, hv, _, h3, _, _, _, h4⟩
  · omega
  · refine ⟨g, cap, cur, hv, h3, fun j t hj => ?_⟩
    obtain ⟨h, h0, h1, h2⟩ := R.at_ j t (List.getElem?_eq_some_iff.1 hj).1 hj
    refine ⟨h, Nat.le_trans hB h0, fun q u hq => ?_, h2⟩
    have := h1 q u hq
    rw [← h4, List.getElem?_take] at this
    split at this
    · rwa [Array.getElem?_toList] at this
    · cases this
theorem IRel.step {W wr w1 : World} {l : List Tm} {j h : Nat} {v v1 : Value} {xs : List Value} {t : Tm} {x : Obj} {w2 : World} (R : IRel W l j v xs wr) (ht : l[j]? = some t)
    (hb2 : Below wr.heap.size wr w2) (hh : W.heap.size ≤ h) (hV : Blk w2 h 67 (vc t))
    (hown : w1.ownsRow W.heap.size 63 5 v1 (j + 1) (xs ++ (zc t h).toList)) (hg : (w2.alloc x).grownBy w1 v.ownBlock) (hb : Below W.heap.size W w1) : IRel W l (j + 1) v1 (xs ++ (zc t h).toList) w1 := by
  have o2 := (own_below R.own hb2).alloc x
  have up : ∀ {b cs}, Blk w2 b 67 cs → Blk w1 b 67 cs := fun hB => (hB.alloc x).grown hg (own_ne o2 (hB.alloc x) (by decide))
  have hlx : xs.length = j * 5 := R.own.1
  refine ⟨hown, fun i s hi hs => ?_, hb⟩
  rcases Nat.lt_or_ge i j with hlt | hge
  · obtain ⟨h', h0, h1, h2⟩ := R.at_ i s hlt hs
    refine ⟨h', h0, fun q u hq => ?_, up (h2.below hb2)⟩
    have := h1 q u hq
    rw [List.getElem?_append_left (List.getElem?_eq_some_iff.1 this).1]
    exact this
  · obtain rfl : i = j := by omega
    obtain rfl : t = s := Option.some.inj (ht.symm.trans hs)
    refine ⟨h, hh, fun q u hq => ?_, up hV⟩
    rw [List.getElem?_append_right (by omega), hlx, Nat.add_sub_cancel_left, Array.getElem?_toList]
    exact hq

theorem info_zz : (Tryd.prog.info? 63).map (fun i => (i.zero, i.size, i.bytes)) = some (some (.agg #[.string ⟨#[]⟩, .pointer none, .bool false, .bool false, .bool false]), 5, 32) := by kernel_rfl
theorem info_zzs : (Tryd.prog.info? 60).map (fun i => (i.zero, i.size, i.bytes)) = some (some (.slice none 0 0), 1, 24) := by kernel_rfl

/-- What the outer loop of terms holds behind i lists. -/
structure ORel (w : World) (L : List (List Tm)) (i : Nat) (v : Value) (vs : List Value) (wr : World) : Prop where
  own : wr.ownsRow w.heap.size 60 1 v i vs
  at_ : ZLs w.heap.size wr vs (L.take i)
  below : Below w.heap.size w wr
theorem ORel.step {w wr w1 w2 : World} {L : List (List Tm)} {i : Nat} {v v1 y : Value} {vs : List Value} {l : List Tm} {x : Obj} (R : ORel w L i v vs wr) (hl : L[i]? = some l)
    (hb2 : Below wr.heap.size wr w2) (hZ : ZL w.heap.size w2 y l) (hown : w1.ownsRow w.heap.size 60 1 v1 (i + 1) (vs ++ [y])) (hg : (w2.alloc x).grownBy w1 v.ownBlock) (hb : Below w.heap.size w w1) : ORel w L (i + 1) v1 (vs ++ [y]) w1 := by
  have o2 := (own_below R.own hb2).alloc x
  have K : KeepT w2 w1 := fun b t cs ht hB => (hB.alloc x).grown hg (own_ne o2 (hB.alloc x) (by rcases ht with rfl | rfl | rfl | rfl <;> decide))
  refine ⟨hown, ?_, hb⟩
  rw [List.take_add_one, hl]
  exact ((R.at_.keep ((KeepT.of_below hb2).trans K))).snoc (hZ.keep K)

theorem term_op (t : Tm) (ht : Okt t) (w : World) : Calls Tryd.prog 32 #[.agg (tm6 t)] w fun e w' => (∃ h, w.heap.size ≤ h ∧ e = .returned (.agg (zc t h)) ∧ Blk w' h 67 (vc t)) ∧ Below w.heap.size w w' := by
  have h := term_any t.o.toNat t.k.toNat (by have := ht.o0; have := ht.o8; omega) (by have := ht.k3; omega) t.a t.b t.c t.p w
  have e1 : ((t.o.toNat : Nat) : Int) = t.o := Int.toNat_of_nonneg ht.o0
  have e2 : ((t.k.toNat : Nat) : Int) = t.k := Int.toNat_of_nonneg ht.k0
  simp only [tcells, e1, e2] at h
  exact h

set_option maxHeartbeats 3200000 in
set_option maxRecDepth 100000 in
theorem terms_any (ao : Option Addr) (L : List (List Tm)) (cp : Nat) (w : World) (hn : L.length ≤ 100) (hL : LL w ao L) (hO : ∀ l ∈ L, l ≠ [] ∧ l.length ≤ 100 ∧ ∀ t ∈ l, Okt t) : Calls Tryd.prog 22 #[.slice ao L.length cp] w fun e w' =>
    ∃ v vs, e = .returned v ∧ ORel w L L.length v vs w' := by
  obtain ⟨N, hN⟩ : ∃ N, L.length = N := ⟨_, rfl⟩
  rw [hN] at hn ⊢
  have HL := hid hL
  have HO := hid hO
  have HN := hid hN
  clear hL hO hN
  go_enter Tryd.func22, Tryd.ntmps22
  go_wp2_with fail
  go_loopw [11, 3] (fun i v wr => ∃ (k : Nat) (vs : List Value), k ≤ N ∧ i = .int .i64 k ∧ Hid (ORel w L k v vs wr)) (fun i _ _ => N - (intOf i).toNat)
  case atStart => exact ⟨0, [], Nat.zero_le _, rfl, ⟨World.ownsRow_nil _ _ _ _, ⟨rfl, fun i v l h => by simp at h⟩, Below.refl _ _⟩⟩
  case round =>
    obtain ⟨k, vs, hk, rfl, R⟩ := hrel
    rename World => wo
    by_cases hlt : k < N
    · obtain ⟨l, hl⟩ : ∃ l, L[k]? = some l := ⟨_, List.getElem?_eq_getElem (by rw [HN.out]; exact hlt)⟩
      obtain ⟨a, bo, cq, rfl, hc, hT⟩ := (HL.out.below R.out.below) k l hl
      obtain ⟨hne, hm100, hok⟩ := HO.out l (List.mem_of_getElem? hl)
      obtain ⟨m, hm⟩ : ∃ m, l.length = m := ⟨_, rfl⟩
      rw [hm] at hc hm100
      have HK := hid hl
      have HM := hid hm
      have HT := hid hT
      have HNE := hid hne
      have HOK := hid hok
      clear hl hm hT hne hok
      have hw : IntKind.i64.wrap ((k : Int) + 1) = (k : Int) + 1 := IntWalk.i64_in _ (by omega)
      go_wp2_with fail
      go_loopw [17, 6] (fun j v2 wr2 => ∃ (q : Nat) (xs : List Value), q ≤ m ∧ j = .int .i64 q ∧ Hid (IRel wo l q v2 xs wr2)) (fun j _ _ => m - (intOf j).toNat)
      case atStart => exact ⟨0, [], Nat.zero_le _, rfl, ⟨World.ownsRow_nil _ _ _ _, fun i t hi => absurd hi (Nat.not_lt_zero _), Below.refl _ _⟩⟩
      case round =>
        obtain ⟨q, xs, hq, rfl, I⟩ := hrel
        by_cases hlt2 : q < m
        · obtain ⟨t, ht⟩ : ∃ t, l[q]? = some t := ⟨_, List.getElem?_eq_getElem (by rw [HM.out]; exact hlt2)⟩
          obtain ⟨b, rfl, h6⟩ := (HT.out.below I.out.below) q t ht
          have OT := hid (HOK.out t (List.mem_of_getElem? ht))
          have H1 := hid ht
          clear ht
          obtain ⟨c0, c1, c2, c3, c4, c5⟩ := h6
          have hw2 : IntKind.i64.wrap ((q : Int) + 1) = (q : Int) + 1 := IntWalk.i64_in _ (by omega)
          obtain ⟨op, hop⟩ : ∃ op, opS t.o.toNat = op := ⟨_, rfl⟩
          obtain ⟨di, hdi⟩ : ∃ di, decide (t.k.toNat < 3) = di := ⟨_, rfl⟩
          obtain ⟨mi, hmi⟩ : ∃ mi, (t.k.toNat == 1) = mi := ⟨_, rfl⟩
          obtain ⟨pa, hpa⟩ : ∃ pa, (t.k.toNat == 2) = pa := ⟨_, rfl⟩
          have HZ := hid (show ∀ h, zc t h = zcells op h di mi pa from fun h => by simp only [zc, hop, hdi, hmi, hpa])
          clear hop hdi hmi hpa
          go_wp2_with (first
            | (go_at_call 32; refine (term_op t OT.out _).mono ?_; rintro e w2 ⟨⟨h, hh, he, hV⟩, hb2⟩; rw [HZ.out h] at he; subst he
               have B2 := hid (bt (show Below wr.heap.size wr _ by go_grown) hb2)
               have V2 := hid hV
               have HH := hid (show wo.heap.size ≤ h from Nat.le_trans I.out.below.size (by simp at hh; omega))
               clear hh hV hb2)
            | (at_builtin; refine app_row (w0 := wo) wo.heap.size rfl (.tmp 21) (.tmp 24) _ _ _ 5 32 rfl Tryd.underlying60 info_zz rfl (by decide) _ q xs (zcells op h di mi pa).toList rfl rfl rfl (by simp [Value.oneCell']) (own_below I.out.own B2.out) (bt I.out.below B2.out) (bt I.out.below B2.out).size (by unfold maxLen; omega) (by omega) ?_; intro v1 w1 hown1 hg1 hb1
               rw [← HZ.out h] at hown1
               have I1 := hid (I.out.step H1.out B2.out HH.out V2.out hown1 hg1 hb1)
               clear hown1 hg1 hb1))
          go_roundw
          case rel => exact ⟨q + 1, _, by omega, by go_num, I1.out⟩
          case measure => simp [intOf]; omega
        · have hqm : q = l.length := by rw [HM.out]; omega
          have Z := hid ((show IRel wo l l.length _ xs wr from hqm ▸ I.out).done HNE.out R.out.below.size)
          have B2 := hid I.out.below
          obtain ⟨g2, cap2, cur2, hv2, _⟩ := Z.out
          subst hv2
          go_wp2_with (at_builtin; refine app_row (w0 := w) w.heap.size rfl (.tmp 27) (.tmp 29) _ _ _ 1 24 rfl Tryd.underlying50 info_zzs rfl (by decide) _ k vs [_] rfl rfl rfl (by simp [Value.oneCell']) (own_below R.out.own B2.out) (bt R.out.below B2.out) (bt R.out.below B2.out).size (by unfold maxLen; omega) (by omega) ?_; intro v1 w1 hown1 hg1 hb1; have R1 := hid (R.out.step HK.out B2.out Z.out hown1 hg1 hb1); clear hown1 hg1 hb1)
          go_roundw
          case rel => exact ⟨k + 1, _, by omega, by go_num, R1.out⟩
          case measure => simp [intOf]; omega
    · obtain rfl : N = k := by omega
      go_wp2_with fail
      go_ret
      exact ⟨_, vs, rfl, R.out⟩
end Go.Proofs.YtkohcmgckkenpaaDoor
