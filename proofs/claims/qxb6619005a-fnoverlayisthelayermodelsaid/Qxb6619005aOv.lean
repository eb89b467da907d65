import Derived.Test.Qxb6619005aLay
import Derived.Test.Qxb6619005aToA
namespace Go.Proofs.Qxb6619005a
open Go.RowKit

theorem frozen_belowD {w w' : World} {b o : Nat} (h : w.frozen? ⟨b, o, none⟩ = false) (hb : b < w.heap.size) (hw : Below w.drew.heap.size w.drew w') : w'.frozen? ⟨b, o, none⟩ = false := by
  rw [World.frozen?_of_block (w := w.drew) (hw.block b hb)]; exact h
theorem drewL {w w' : World} (h : Below w.drew.heap.size w.drew w') : Below w.heap.size w w' := ⟨h.os, h.tape, h.output, h.size, h.block⟩
theorem owns_seg {wc wd : World} {base e K n X f : Nat} {v u : Value} {xs : List Value} (h : wc.ownsRow base e K v n xs) (hs : Seg wc wd X f u) (hne : ∀ g, v.ownBlock = some g → g ≠ X) : wd.ownsRow base e K v n xs := by
  obtain ⟨h1, h2⟩ := h
  refine ⟨h1, ?_⟩
  rcases h2 with h2 | ⟨g, cap, cur, hv, hb, hg, hr⟩
  · exact .inl h2
  · exact .inr ⟨g, cap, cur, hv, hb, (hs.kept.block g (lt_of_heap hg) (fun e => hne g (by rw [hv]; rfl) (by injection e))).trans hg, hr⟩
/-- What the record's entries leave of the lower lists. -/
def DelRel (w wc wd : World) (lo up re : List Value) (base : Nat) (L : Lists) (d : Option DelV) : Prop :=
  ∃ (r s c : Sl) (z1 z2 : Nat), OV w wd (((lo.set 6 (.slice r.a r.n r.c)).set 7 (.slice s.a s.n s.c)).set 8 (.slice c.a c.n c.c)) up re ∧ wc.heap.size ≤ z1 ∧ z1 ≤ z2 ∧ z2 ≤ wd.heap.size ∧
    wd.ownsRow base 82 52 (.slice r.a r.n r.c) r.n ((keepR d L.r).flatMap Rw.a) ∧ Zo wc.heap.size z1 w.heap.size r ∧
    wd.ownsRow base 87 7 (.slice s.a s.n s.c) s.n ((keepS d L.s).flatMap St.a) ∧ Zo z1 z2 w.heap.size s ∧
    wd.ownsRow base 90 3 (.slice c.a c.n c.c) c.n ((keepC d L.c).flatMap Cm.a) ∧ Zo z2 wd.heap.size w.heap.size c
structure Lens (M : Nat) (H : Heads) : Prop where
  r : H.r.n ≤ M
  s : H.s.n ≤ M
  c : H.c.n ≤ M
  h : H.h.n ≤ M
  p : H.p.n ≤ M
  t : H.t.n ≤ M
  q : H.q.n ≤ M
/-- A nil slice is empty. -/
structure Nils (H : Heads) : Prop where
  r : H.r.a = none → H.r.n = 0
  s : H.s.a = none → H.s.n = 0
  c : H.c.a = none → H.c.n = 0
  h : H.h.a = none → H.h.n = 0
  p : H.p.a = none → H.p.n = 0
  t : H.t.a = none → H.t.n = 0
  q : H.q.a = none → H.q.n = 0
structure Caps (H : Heads) : Prop where
  r : H.r.n ≤ H.r.c
  s : H.s.n ≤ H.s.c
  c : H.c.n ≤ H.c.c
  h : H.h.n ≤ H.h.c
  p : H.p.n ≤ H.p.c
  t : H.t.n ≤ H.t.c
  q : H.q.n ≤ H.q.c
theorem ov_start (w : World) (lo up re : List Value) : OV w (((w.alloc (.cells lo.toArray 45)).alloc (.cells up.toArray 45)).alloc (.cells re.toArray 45)) lo up re where
  below := (((Below.refl _ w).alloc (Nat.le_refl _) _).alloc (by simp) _).alloc (by simp; omega) _
  blo := by rw [Below.heap_alloc _ _ _ (by simp; omega), Below.heap_alloc _ _ _ (by simp)]; exact heap_alloc_new _ _
  bup := by rw [Below.heap_alloc _ _ _ (by simp)]; have := heap_alloc_new (w.alloc (.cells lo.toArray 45)) (.cells up.toArray 45); simpa using this
  bre := by have := heap_alloc_new ((w.alloc (.cells lo.toArray 45)).alloc (.cells up.toArray 45)) (.cells re.toArray 45); simpa using this

theorem off_len {α : Type} (b : Bool) (xs : List α) : (off b xs).length ≤ xs.length := by
  cases b
  · exact Nat.le_refl _
  · exact Nat.zero_le _
theorem keepR_len (d : Option DelV) (xs : List Rw) : (keepR d xs).length ≤ xs.length := by
  cases d
  · exact Nat.le_refl _
  · exact List.length_filter_le _ _
theorem keepS_len (d : Option DelV) (xs : List St) : (keepS d xs).length ≤ xs.length := by
  cases d
  · exact Nat.le_refl _
  · exact List.length_filter_le _ _
theorem keepC_len (d : Option DelV) (xs : List Cm) : (keepC d xs).length ≤ xs.length := by
  cases d
  · exact Nat.le_refl _
  · exact List.length_filter_le _ _
/-- With 'out'. -/
structure OW (w wd : World) (O : Nat) (lo up re ou : List Value) : Prop where
  ov : OV w wd lo up re
  ou : wd.heap[O]? = some (.cells ou.toArray 45 (0, 0))
  big : w.heap.size + 2 < O
theorem OW.step {w W w4 : World} {O l h f : Nat} {lo up re ou : List Value} {v : Value} (hw : OW w W O lo up re ou) (ho : Out W w4 l h) (hX : w.heap.size + 2 < l ∨ h = 0) (hO : h ≤ O) : OW w (w4.setCell ⟨O, f, none⟩ v) O lo up re (ou.set f v) where
  ov := by
    have h1 := lt_of_heap hw.ov.blo
    have h2 := lt_of_heap hw.ov.bup
    have h3 := lt_of_heap hw.ov.bre
    have hb := hw.big
    have key : ∀ k, k < w.heap.size + 3 → k < W.heap.size → (w4.setCell ⟨O, f, none⟩ v).heap[k]? = W.heap[k]? := fun k hk hlt => by
      rw [heap_setCell_other _ _ _ _ (by show k ≠ O; omega)]
      exact ho.block k hlt (by omega)
    exact ⟨hw.ov.below.trans ⟨ho.os, ho.tape, ho.output, by simpa using ho.size, fun k hk => key k (by omega) (by omega)⟩, (key _ (by omega) h1).trans hw.ov.blo, (key _ (by omega) h2).trans hw.ov.bup, (key _ (by omega) h3).trans hw.ov.bre⟩
  ou := by
    have := heap_setCell_same w4 O f ou.toArray 45 v ((ho.block O (lt_of_heap hw.ou) (.inr hO)).trans hw.ou)
    simpa using this
  big := hw.big
theorem OW.below {w W wd : World} {O : Nat} {lo up re ou : List Value} (hw : OW w W O lo up re ou) (hb : Below W.heap.size W wd) : OW w wd O lo up re ou :=
  ⟨⟨hw.ov.below.trans (hb.mono hw.ov.below.size), (hb.block _ (lt_of_heap hw.ov.blo)).trans hw.ov.blo, (hb.block _ (lt_of_heap hw.ov.bup)).trans hw.ov.bup, (hb.block _ (lt_of_heap hw.ov.bre)).trans hw.ov.bre⟩, (hb.block _ (lt_of_heap hw.ou)).trans hw.ou, hw.big⟩
/-- Where a result's row lies. -/
def Loc {α : Type} (l h z O : Nat) (a : Option Addr) (xs : List α) : Prop := 0 < xs.length → ∀ A, a = some A → A.block < z ∨ (l ≤ A.block ∧ A.block < h) ∨ O < A.block
theorem arow_step {α : Type} {g : α → List Value} {K : Nat} {W w4 : World} {a : Option Addr} {xs : List α} {l h l' h' z O f : Nat} {v : Value} (hr : ARow g K W a xs) (ho : Out W w4 l h) (hl : Loc l' h' z O a xs) (hz : z ≤ l ∨ h = 0) (hd : h' ≤ l ∨ h ≤ l' ∨ h = 0) (hO : h ≤ O) (hzO : z ≤ O) (hO' : h' ≤ O) : ARow g K (w4.setCell ⟨O, f, none⟩ v) a xs := fun hp => by
  obtain ⟨b, o, ha, hc⟩ := hr hp
  refine ⟨b, o, ha, fun i x hx j u hu => ?_⟩
  have h1 := hc i x hx j u hu
  have hlt : b < W.heap.size := World.block_lt_of_cell? _ ⟨b, o + i * K + j, none⟩ h1
  have hL := hl hp ⟨b, o, none⟩ ha
  simp only at hL
  rw [World.cell?_of_block (w := W) (a := ⟨b, o + i * K + j, none⟩) ((heap_setCell_other _ _ _ _ (by show b ≠ O; omega)).trans (ho.block b hlt (by omega)))]
  exact h1
theorem arow_set {α : Type} {g : α → List Value} {K : Nat} {w4 : World} {a : Option Addr} {xs : List α} {l' h' z O f : Nat} {v : Value} (hr : ARow g K w4 a xs) (hl : Loc l' h' z O a xs) (hzO : z ≤ O) (hO' : h' ≤ O) : ARow g K (w4.setCell ⟨O, f, none⟩ v) a xs :=
  arow_step (l := 0) (h := 0) hr (Below.out (Below.refl _ w4) 0 0) hl (.inr rfl) (.inr (.inr rfl)) (Nat.zero_le _) hzO hO'
theorem owns_step {W w4 : World} {base e K n : Nat} {v : Sl} {xs : List Value} {l h l' h' z O f : Nat} {u : Value} (hr : W.ownsRow base e K (.slice v.a v.n v.c) n xs) (ho : Out W w4 l h) (hl : Zo l' h' z v) (hz : z ≤ l ∨ h = 0) (hd : h' ≤ l ∨ h ≤ l' ∨ h = 0) (hzO : z ≤ O) (hO' : h' ≤ O) : (w4.setCell ⟨O, f, none⟩ u).ownsRow base e K (.slice v.a v.n v.c) n xs := by
  have hloc : ∀ g, (Value.slice v.a v.n v.c).ownBlock = some g → g < z ∨ (l' ≤ g ∧ g < h') := fun g hg => by
    rcases hl with hl | hl
    · exact .inl (hl.2 g hg)
    · exact .inr (hl g hg)
  exact owns_set (owns_out hr ho (fun g hg => by have := hloc g hg; omega)) (fun g hg => by have := hloc g hg; omega)
theorem arow_fin {α : Type} {g : α → List Value} {K : Nat} {w W : World} {a : Option Addr} {xs : List α} {l' h' O : Nat} {vs : List Value} (hr : ARow g K W a xs) (hl : Loc l' h' w.heap.size O a xs) (h1 : w.heap.size + 2 < l' ∨ h' = 0) (h2 : w.heap.size + 2 < O) : ARow g K (W.setCells (w.heap.size + 1 + 1) 0 vs) a xs := fun hp => by
  obtain ⟨b, o, ha, hc⟩ := hr hp
  refine ⟨b, o, ha, fun i x hx j u hu => ?_⟩
  have hL := hl hp ⟨b, o, none⟩ ha
  simp only at hL
  exact cell_setCells_far (hc i x hx j u hu) (by show b ≠ _; omega) _ _
theorem renum_same {xs : List Pa} (h : ∀ x ∈ xs, (-9223372036854775808 ≤ x.st ∧ x.st ≤ 9223372036854775807) ∧ (-9223372036854775808 ≤ x.en ∧ x.en ≤ 9223372036854775807)) : xs.map (renum 0 0) = xs := by
  have e : ∀ x ∈ xs, renum 0 0 x = x := fun x hx => by
    obtain ⟨h1, h2⟩ := h x hx
    obtain ⟨ty, st, en, rn, rd, nm, sf, wd⟩ := x
    simp only at h1 h2
    have e1 : wrap64 (st + ((0 : Nat) : Int)) = st := by unfold wrap64; omega
    have e2 : wrap64 (en + ((0 : Nat) : Int)) = en := by unfold wrap64; omega
    simp only [renum, e1, e2]
    split <;> rfl
  exact (List.map_congr_left e).trans (List.map_id _)
theorem ren_get {pre post : List Value} {x : Pa} {K : Nat} (hp : pre.length = K * 8) (i : Nat) (hi : i < 8) : (pre ++ (Pa.a x ++ post))[K * 8 + i]? = (Pa.a x)[i]? := by
  rw [List.getElem?_append_right (by omega), List.getElem?_append_left (by rw [Pa.a_len]; omega)]
  congr 1; omega
theorem ren_set {pre post : List Value} {x y : Pa} {K : Nat} {a b : Value} (hp : pre.length = K * 8) (h : ((Pa.a x).set 1 a).set 2 b = Pa.a y) : ((pre ++ (Pa.a x ++ post)).set (K * 8 + 1) a).set (K * 8 + 2) b = pre ++ (Pa.a y ++ post) := by
  have e1 : K * 8 + 1 - pre.length = 1 := by omega
  have e2 : K * 8 + 2 - pre.length = 2 := by omega
  rw [List.set_append_right _ _ (by omega), List.set_append_right _ _ (by omega), e1, e2, List.set_append_left _ _ (by rw [Pa.a_len]; omega), List.set_append_left _ _ (by rw [List.length_set, Pa.a_len]; omega), h]
/-- The row of paths, 'j' of the new ones renumbered. -/
def renRow (xs ms : List Pa) (T P j : Nat) (spare : List Value) : List Value := (xs ++ (ms.take j).map (renum T P)).flatMap Pa.a ++ ((ms.drop j).flatMap Pa.a ++ spare)
theorem renRow_at {xs ms : List Pa} {T P j : Nat} {spare : List Value} {x : Pa} (hx : ms[j]? = some x) : renRow xs ms T P j spare = (xs ++ (ms.take j).map (renum T P)).flatMap Pa.a ++ (Pa.a x ++ ((ms.drop (j + 1)).flatMap Pa.a ++ spare)) := by
  have hj := (List.getElem?_eq_some_iff.1 hx).1
  have e : ms.drop j = x :: ms.drop (j + 1) := by
    rw [List.drop_eq_getElem_cons hj]; congr 1; exact (List.getElem?_eq_some_iff.1 hx).2
  rw [renRow, e, List.flatMap_cons, List.append_assoc]
theorem renRow_next {xs ms : List Pa} {T P j : Nat} {spare : List Value} {x : Pa} (hx : ms[j]? = some x) : renRow xs ms T P (j + 1) spare = (xs ++ (ms.take j).map (renum T P)).flatMap Pa.a ++ (Pa.a (renum T P x) ++ ((ms.drop (j + 1)).flatMap Pa.a ++ spare)) := by
  rw [renRow, List.take_add_one, hx]
  simp [List.flatMap_append, List.append_assoc]
theorem renRow_len {xs ms : List Pa} {T P j n : Nat} (hn : xs.length = n) (hj : j ≤ ms.length) : ((xs ++ (ms.take j).map (renum T P)).flatMap Pa.a).length = (n + j) * 8 := by
  rw [flat_len Pa.a 8 Pa.a_len, List.length_append, List.length_map, List.length_take, hn, Nat.min_eq_left hj]
theorem arow_row {α : Type} {f : α → List Value} {K : Nat} (hf : ∀ x, (f x).length = K) {w : World} {g e : Nat} {xs : List α} {spare : List Value} (h : w.heap[g]? = some (.cells (xs.flatMap f ++ spare).toArray e (0, 0))) : ARow f K w (some ⟨g, 0, none⟩) xs := fun _ => ⟨g, 0, rfl, fun i x hx j v hv => by
  rw [cell_of_row w g _ _ _ (0, 0) h, Nat.zero_add, List.getElem?_toArray]
  have h5 := flat_get f hf xs i x hx j v hv
  rw [List.getElem?_append_left (List.getElem?_eq_some_iff.1 h5).1]; exact h5⟩
theorem blk_or {v v' : Value} {x : Option Nat} (h : v' = v ∨ v'.ownBlock = v.ownBlock ∨ v'.ownBlock = x) : v'.ownBlock = v.ownBlock ∨ v'.ownBlock = x := by
  rcases h with h | h
  · rw [h]; exact .inl rfl
  · exact h
theorem grown_set {w w' : World} {g o : Nat} {v : Value} (h : w.grownBy w' (some g)) : w.grownBy (w'.setCell ⟨g, o, none⟩ v) (some g) :=
  ⟨h.os, h.tape, h.output, by simpa using h.size, fun k hk hne => (heap_setCell_other _ _ _ _ (fun e => hne (by rw [e]))).trans (h.block k hk hne)⟩
theorem ren_heap {w : World} {g K : Nat} {pre post : List Value} {x y : Pa} {a b : Value} (h : w.heap[g]? = some (.cells (pre ++ (Pa.a x ++ post)).toArray 128 (0, 0))) (hp : pre.length = K * 8) (hy : ((Pa.a x).set 1 a).set 2 b = Pa.a y) : ((w.setCell ⟨g, K * 8 + 1, none⟩ a).setCell ⟨g, K * 8 + 2, none⟩ b).heap[g]? = some (.cells (pre ++ (Pa.a y ++ post)).toArray 128 (0, 0)) := by
  have h1 := heap_setCell_same w g (K * 8 + 1) _ 128 a h
  have h2 := heap_setCell_same _ g (K * 8 + 2) _ 128 b h1
  rw [h2, ← ren_set (post := post) hp hy]
  simp
theorem OW.grown {w W wd : World} {O g : Nat} {lo up re ou : List Value} (hw : OW w W O lo up re ou) (hg : W.grownBy wd (some g)) (hO : O < g) : OW w wd O lo up re ou := by
  have hb := hw.big
  have key : ∀ k, k ≤ O → k < W.heap.size → wd.heap[k]? = W.heap[k]? := fun k hk hlt => hg.block k hlt (fun e => by injection e with e; omega)
  have h1 := lt_of_heap hw.ov.blo
  exact ⟨⟨hw.ov.below.trans ⟨hg.os, hg.tape, hg.output, hg.size, fun k hk => key k (by omega) (by omega)⟩, (key _ (by omega) (lt_of_heap hw.ov.blo)).trans hw.ov.blo, (key _ (by omega) (lt_of_heap hw.ov.bup)).trans hw.ov.bup, (key _ (by omega) (lt_of_heap hw.ov.bre)).trans hw.ov.bre⟩, (key _ (Nat.le_refl _) (lt_of_heap hw.ou)).trans hw.ou, hw.big⟩
theorem off_pk {w : World} {b : Bool} {ps : List Pk} {xs : List (Pc × List ByteArray)} (h : PkIs w ps xs) : PkIs w (off b ps) (off b xs) := by
  cases b
  · exact h
  · exact trivial
theorem app_loc {α : Type} {g : α → List Value} {K : Nat} {l m s : Sl} {ls ms : List α} {w W w' : World} {lo hi O : Nat} (hf : ∀ x, (g x).length = K) (hK : 0 < K) (hz : Zo lo hi w.heap.size l) (hm : ARow g K w m.a ms) (hO : O < W.heap.size)
    (h : (s.a = m.a ∧ w' = W ∧ ls = []) ∨ (Value.slice s.a s.n s.c).ownBlock = (Value.slice l.a l.n l.c).ownBlock ∨ (Value.slice s.a s.n s.c).ownBlock = some W.heap.size) : Loc lo hi w.heap.size O s.a (ls ++ ms) := fun hp A hA => by
  rcases h with ⟨h1, _, rfl⟩ | h1 | h1
  · exact .inl (arow_lt hf hK hm (by simpa using hp) A (by rw [← h1]; exact hA))
  · rw [hA] at h1
    have hb : (Value.slice l.a l.n l.c).ownBlock = some A.block := h1.symm
    rcases hz with hz | hz
    · exact .inl (hz.2 _ hb)
    · exact .inr (.inl (hz _ hb))
  · rw [hA] at h1
    have hb : some A.block = some W.heap.size := h1
    injection hb with hb
    exact .inr (.inr (by omega))

set_option maxRecDepth 100000 in
set_option maxHeartbeats 8000000 in
theorem overlay (Tl Tu : Top) (Hl Hu : Heads) (Dl Du : Option Addr) (Ll Lu : Lists) (pl pu : List Pk) (d : Option DelV) (w : World) (base : Nat) (hol : Own w base Hl Ll pl) (hbase : base ≤ w.heap.size) (hml : Lens 1048576 Hl) (hvu : View Rw.a 52 w Hu Lu pu) (hmu : Lens 1048576 Hu) (hnu : Nils Hu) (hcu : Caps Hu) (hrg : ∀ x ∈ Lu.q, (-9223372036854775808 ≤ x.st ∧ x.st ≤ 9223372036854775807) ∧ (-9223372036854775808 ≤ x.en ∧ x.en ≤ 9223372036854775807)) (hd : DelIs w Du d) (hok : ∀ x, d = some x → x.rd.length ≤ 1048576 ∧ x.sd.length ≤ 1048576 ∧ x.fd.length ≤ 1048576) :
    Calls Try.prog 8 #[.agg (cellsOf Tl Hl Dl).toArray, .agg (cellsOf Tu Hu Du).toArray] w fun e w' => ∃ (H' : Heads) (ps' : List Pk), e = .returned (.agg (cellsOf Tu H' Du).toArray) ∧ Below w.heap.size w w' ∧ View Rw.a 52 w' H' (lay Ll Lu d) ps' := by
  have HOL := hidMk hol
  have HBA := hidMk hbase
  have HML := hidMk hml
  have HVU := hidMk hvu
  have HMU := hidMk hmu
  have HNU := hidMk hnu
  have HCU := hidMk hcu
  have HRG := hidMk hrg
  have HD := hidMk hd
  have HOK := hidMk hok
  clear hol hbase hml hvu hmu hnu hcu hrg hd hok
  simp only [cellsOf]
  go_enter Try.func8, Try.ntmps8
  go_upto_region 1 with fail
  obtain ⟨wa, hwa⟩ : ∃ wa, wa = ((w.alloc (.cells #[.string Tl.i, .string Tl.nm, .float .f64 Tl.la, .float .f64 Tl.lo, .float .f64 Tl.el, .float .f32 Tl.mv, .slice Hl.r.a Hl.r.n Hl.r.c, .slice Hl.s.a Hl.s.n Hl.s.c, .slice Hl.c.a Hl.c.n Hl.c.c, .slice Hl.h.a Hl.h.n Hl.h.c, .pointer Dl, .slice Hl.p.a Hl.p.n Hl.p.c, .slice Hl.t.a Hl.t.n Hl.t.c, .slice Hl.q.a Hl.q.n Hl.q.c] 45)).alloc (.cells #[.string Tu.i, .string Tu.nm, .float .f64 Tu.la, .float .f64 Tu.lo, .float .f64 Tu.el, .float .f32 Tu.mv, .slice Hu.r.a Hu.r.n Hu.r.c, .slice Hu.s.a Hu.s.n Hu.s.c, .slice Hu.c.a Hu.c.n Hu.c.c, .slice Hu.h.a Hu.h.n Hu.h.c, .pointer Du, .slice Hu.p.a Hu.p.n Hu.p.c, .slice Hu.t.a Hu.t.n Hu.t.c, .slice Hu.q.a Hu.q.n Hu.q.c] 45)).alloc (.cells #[.string ⟨#[]⟩, .string ⟨#[]⟩, .float .f64 0, .float .f64 0, .float .f64 0, .float .f32 0, .slice none 0 0, .slice none 0 0, .slice none 0 0, .slice none 0 0, .pointer none, .slice none 0 0, .slice none 0 0, .slice none 0 0] 45) := ⟨_, rfl⟩
  rw [← hwa]
  have HO : Hid (OV w wa [.string Tl.i, .string Tl.nm, .float .f64 Tl.la, .float .f64 Tl.lo, .float .f64 Tl.el, .float .f32 Tl.mv, .slice Hl.r.a Hl.r.n Hl.r.c, .slice Hl.s.a Hl.s.n Hl.s.c, .slice Hl.c.a Hl.c.n Hl.c.c, .slice Hl.h.a Hl.h.n Hl.h.c, .pointer Dl, .slice Hl.p.a Hl.p.n Hl.p.c, .slice Hl.t.a Hl.t.n Hl.t.c, .slice Hl.q.a Hl.q.n Hl.q.c] [.string Tu.i, .string Tu.nm, .float .f64 Tu.la, .float .f64 Tu.lo, .float .f64 Tu.el, .float .f32 Tu.mv, .slice Hu.r.a Hu.r.n Hu.r.c, .slice Hu.s.a Hu.s.n Hu.s.c, .slice Hu.c.a Hu.c.n Hu.c.c, .slice Hu.h.a Hu.h.n Hu.h.c, .pointer Du, .slice Hu.p.a Hu.p.n Hu.p.c, .slice Hu.t.a Hu.t.n Hu.t.c, .slice Hu.q.a Hu.q.n Hu.q.c] [.string ⟨#[]⟩, .string ⟨#[]⟩, .float .f64 0, .float .f64 0, .float .f64 0, .float .f32 0, .slice none 0 0, .slice none 0 0, .slice none 0 0, .slice none 0 0, .pointer none, .slice none 0 0, .slice none 0 0, .slice none 0 0]) := hidMk (by rw [hwa]; exact ov_start w _ _ _)
  clear hwa
  have cU : wa.cell? ⟨w.heap.size + 1, 10, none⟩ = some (.pointer Du) := (cell_of_row _ _ 10 _ _ (0, 0) HO.out.bup).trans rfl
  have lU := lt_of_heap HO.out.bup
  go_upto_if 16 with fail
  clear cU lU
  have HO' := HO
  go_cut [5] from 13 to 16 (fun u wd => u = .int .u16 (flagsOf d) ∧ DelRel w wa wd [.string Tl.i, .string Tl.nm, .float .f64 Tl.la, .float .f64 Tl.lo, .float .f64 Tl.el, .float .f32 Tl.mv, .slice Hl.r.a Hl.r.n Hl.r.c, .slice Hl.s.a Hl.s.n Hl.s.c, .slice Hl.c.a Hl.c.n Hl.c.c, .slice Hl.h.a Hl.h.n Hl.h.c, .pointer Dl, .slice Hl.p.a Hl.p.n Hl.p.c, .slice Hl.t.a Hl.t.n Hl.t.c, .slice Hl.q.a Hl.q.n Hl.q.c] [.string Tu.i, .string Tu.nm, .float .f64 Tu.la, .float .f64 Tu.lo, .float .f64 Tu.el, .float .f32 Tu.mv, .slice Hu.r.a Hu.r.n Hu.r.c, .slice Hu.s.a Hu.s.n Hu.s.c, .slice Hu.c.a Hu.c.n Hu.c.c, .slice Hu.h.a Hu.h.n Hu.h.c, .pointer Du, .slice Hu.p.a Hu.p.n Hu.p.c, .slice Hu.t.a Hu.t.n Hu.t.c, .slice Hu.q.a Hu.q.n Hu.q.c] [.string ⟨#[]⟩, .string ⟨#[]⟩, .float .f64 0, .float .f64 0, .float .f64 0, .float .f32 0, .slice none 0 0, .slice none 0 0, .slice none 0 0, .slice none 0 0, .pointer none, .slice none 0 0, .slice none 0 0, .slice none 0 0] base Ll d)
  case first =>
    rcases HD.out with ⟨hD, hd⟩ | ⟨B, bo, v, d1, d2, d3, hD, hd, h0, h1, h2, h3, hl1, hl2, hl3, k1, k2, k3⟩
    · subst hD hd
      go_wp2_with fail
      go_meet
      case rel => exact ⟨rfl, Hl.r, Hl.s, Hl.c, wa.heap.size, wa.heap.size, HO.out, Nat.le_refl _, Nat.le_refl _, Nat.le_refl _, owns_below HOL.out.r HO.out.below, .inl ⟨HOL.out.cr, fun g hg => (HOL.out.r.lt g hg).2⟩, owns_below HOL.out.s HO.out.below, .inl ⟨HOL.out.cs, fun g hg => (HOL.out.s.lt g hg).2⟩, owns_below HOL.out.c HO.out.below, .inl ⟨HOL.out.cc, fun g hg => (HOL.out.c.lt g hg).2⟩⟩
    · subst hD hd
      obtain ⟨o1, o2, o3⟩ := HOK.out v rfl
      have HD0 := hidMk h0
      have HD1 := hidMk h1
      have HD2 := hidMk h2
      have HD3 := hidMk h3
      have HL1 := hidMk hl1
      have HL2 := hidMk hl2
      have HL3 := hidMk hl3
      have HM1 := hidMk (show d1.n ≤ 1048576 by rw [← hl1]; exact o1)
      have HM2 := hidMk (show d2.n ≤ 1048576 by rw [← hl2]; exact o2)
      have HM3 := hidMk (show d3.n ≤ 1048576 by rw [← hl3]; exact o3)
      have HK1 := hidMk k1
      have HK2 := hidMk k2
      have HK3 := hidMk k3
      have lXa : w.heap.size < wa.heap.size := lt_of_heap HO.out.blo
      clear h0 h1 h2 h3 hl1 hl2 hl3 o1 o2 o3 k1 k2 k3
      have eD := (cell_below HD0.out HO.out.below)
      have lB : B < wa.heap.size := World.block_lt_of_cell? _ _ eD
      have lX := lt_of_heap HO.out.blo
      have cX : wa.cell? ⟨w.heap.size, 6, none⟩ = some (.slice Hl.r.a Hl.r.n Hl.r.c) := (cell_of_row _ _ 6 _ _ (0, 0) HO.out.blo).trans rfl
      have gX : wa.frozen? ⟨w.heap.size, 6, none⟩ = false := frozen_of_row _ _ _ _ _ HO.out.blo
      have e1 := (cell_below HD1.out HO.out.below)
      have hbs : base ≤ wa.heap.size := by have := HBA.out; have := HO.out.below.size; omega
      have HOWN := hidMk (owns_below HOL.out.r (HO.out.below.drew.mono (Nat.le_refl _)))
      have HKR := hidMk (HK1.out.below (HO.out.below.drew.mono (Nat.le_refl _)))
      go_upto_region 5 with fail
      go_cut [] from 21 to 28 (fun wd => ∃ v' : Sl, Seg wa wd w.heap.size 6 (.slice v'.a v'.n v'.c) ∧ wd.ownsRow base 82 52 (.slice v'.a v'.n v'.c) v'.n ((keepR (some v) Ll.r).flatMap Rw.a) ∧ Zo wa.heap.size wd.heap.size w.heap.size v')
      case first =>
        go_region_with (go_at_call 15; refine (withoutRw Hl.r d1 Ll.r v.rd _ base HOWN.out HL1.out HKR.out HML.out.r HM1.out hbs).mono ?_; rintro _ w2 ⟨v', rfl, k1, k2, k3⟩; have c7 := cell_belowD cX k2; have g7 := frozen_belowD gX lX k2; have K1 := hidMk k1; have K2 := hidMk k2; have K3 := hidMk k3; clear k1 k2 k3 cX gX e1 eD)
        all_goals
          go_wp2_with fail
          go_meet
          case rel =>
            have hz : Zo wa.heap.size w2.heap.size w.heap.size v' := by
              rcases K3.out with ⟨rfl, _⟩ | k3
              · exact .inl ⟨HOL.out.cr, fun g hg => (HOL.out.r.lt g hg).2⟩
              · exact .inr fun g hg => ⟨k3 g hg, (K1.out.lt g hg).2⟩
            exact ⟨v', seg_store _ (drewL K2.out) lX, owns_set K1.out (hz.ne (Nat.le_refl _) lX), by simpa using hz⟩
      case rest =>
        obtain ⟨r', hseg, hown, hz⟩ := hcut
        rename World => wl
        have HO2 := hidMk (HO.out.seg hseg)
        simp only [List.set_cons_succ, List.set_cons_zero] at HO2
        have HWr := hidMk hown
        have HZr := hidMk hz
        have HS1 := hidMk hseg.kept.size
        clear HO hseg hown hz HOWN HKR cX gX e1 eD lB lX hbs
        have HO := HO2
        clear HO2
        have eD := (cell_below HD0.out HO.out.below)
        have lB : B < wl.heap.size := World.block_lt_of_cell? _ _ eD
        have lX := lt_of_heap HO.out.blo
        have cX : wl.cell? ⟨w.heap.size, 7, none⟩ = some (.slice Hl.s.a Hl.s.n Hl.s.c) := (cell_of_row _ _ 7 _ _ (0, 0) HO.out.blo).trans rfl
        have gX : wl.frozen? ⟨w.heap.size, 7, none⟩ = false := frozen_of_row _ _ _ _ _ HO.out.blo
        have e1 := (cell_below HD2.out HO.out.below)
        have hbs : base ≤ wl.heap.size := by have := HBA.out; have := HO.out.below.size; omega
        have HOWN := hidMk (owns_below HOL.out.s (HO.out.below.drew.mono (Nat.le_refl _)))
        have HKR := hidMk (HK2.out.below (HO.out.below.drew.mono (Nat.le_refl _)))
        go_upto_region 6 with fail
        go_cut [] from 29 to 36 (fun wd => ∃ v' : Sl, Seg wl wd w.heap.size 7 (.slice v'.a v'.n v'.c) ∧ wd.ownsRow base 87 7 (.slice v'.a v'.n v'.c) v'.n ((keepS (some v) Ll.s).flatMap St.a) ∧ Zo wl.heap.size wd.heap.size w.heap.size v')
        case first =>
          go_region_with (go_at_call 17; refine (withoutSt Hl.s d2 Ll.s v.sd _ base HOWN.out HL2.out HKR.out HML.out.s HM2.out hbs).mono ?_; rintro _ w2 ⟨v', rfl, k1, k2, k3⟩; have c7 := cell_belowD cX k2; have g7 := frozen_belowD gX lX k2; have K1 := hidMk k1; have K2 := hidMk k2; have K3 := hidMk k3; clear k1 k2 k3 cX gX e1 eD)
          all_goals
            go_wp2_with fail
            go_meet
            case rel =>
              have hz : Zo wl.heap.size w2.heap.size w.heap.size v' := by
                rcases K3.out with ⟨rfl, _⟩ | k3
                · exact .inl ⟨HOL.out.cs, fun g hg => (HOL.out.s.lt g hg).2⟩
                · exact .inr fun g hg => ⟨k3 g hg, (K1.out.lt g hg).2⟩
              exact ⟨v', seg_store _ (drewL K2.out) lX, owns_set K1.out (hz.ne (Nat.le_refl _) lX), by simpa using hz⟩
        case rest =>
          obtain ⟨s', hseg, hown, hz⟩ := hcut
          rename World => wm
          have HO2 := hidMk (HO.out.seg hseg)
          simp only [List.set_cons_succ, List.set_cons_zero] at HO2
          have HWr2 := hidMk (owns_seg HWr.out hseg (HZr.out.ne (Nat.le_refl _) lXa))
          have HWs := hidMk hown
          have HZs := hidMk hz
          have HS2 := hidMk hseg.kept.size
          clear HO hseg hown hz HOWN HKR cX gX e1 eD lB lX hbs HWr
          have HWr := HWr2
          have HO := HO2
          clear HO2 HWr2
          have eD := (cell_below HD0.out HO.out.below)
          have lB : B < wm.heap.size := World.block_lt_of_cell? _ _ eD
          have lX := lt_of_heap HO.out.blo
          have cX : wm.cell? ⟨w.heap.size, 8, none⟩ = some (.slice Hl.c.a Hl.c.n Hl.c.c) := (cell_of_row _ _ 8 _ _ (0, 0) HO.out.blo).trans rfl
          have gX : wm.frozen? ⟨w.heap.size, 8, none⟩ = false := frozen_of_row _ _ _ _ _ HO.out.blo
          have e1 := (cell_below HD3.out HO.out.below)
          have hbs : base ≤ wm.heap.size := by have := HBA.out; have := HO.out.below.size; omega
          have HOWN := hidMk (owns_below HOL.out.c (HO.out.below.drew.mono (Nat.le_refl _)))
          have HKR := hidMk (HK3.out.below (HO.out.below.drew.mono (Nat.le_refl _)))
          go_upto_region 7 with fail
          go_cut [] from 37 to 44 (fun wd => ∃ v' : Sl, Seg wm wd w.heap.size 8 (.slice v'.a v'.n v'.c) ∧ wd.ownsRow base 90 3 (.slice v'.a v'.n v'.c) v'.n ((keepC (some v) Ll.c).flatMap Cm.a) ∧ Zo wm.heap.size wd.heap.size w.heap.size v')
          case first =>
            go_region_with (go_at_call 19; refine (withoutCm Hl.c d3 Ll.c v.fd _ base HOWN.out HL3.out HKR.out HML.out.c HM3.out hbs).mono ?_; rintro _ w2 ⟨v', rfl, k1, k2, k3⟩; have c7 := cell_belowD cX k2; have g7 := frozen_belowD gX lX k2; have K1 := hidMk k1; have K2 := hidMk k2; have K3 := hidMk k3; clear k1 k2 k3 cX gX e1 eD)
            all_goals
              go_wp2_with fail
              go_meet
              case rel =>
                have hz : Zo wm.heap.size w2.heap.size w.heap.size v' := by
                  rcases K3.out with ⟨rfl, _⟩ | k3
                  · exact .inl ⟨HOL.out.cc, fun g hg => (HOL.out.c.lt g hg).2⟩
                  · exact .inr fun g hg => ⟨k3 g hg, (K1.out.lt g hg).2⟩
                exact ⟨v', seg_store _ (drewL K2.out) lX, owns_set K1.out (hz.ne (Nat.le_refl _) lX), by simpa using hz⟩
          case rest =>
            obtain ⟨c', hseg, hown, hz⟩ := hcut
            rename World => wn
            have HO2 := hidMk (HO.out.seg hseg)
            simp only [List.set_cons_succ, List.set_cons_zero] at HO2
            have HWr2 := hidMk (owns_seg HWr.out hseg (HZr.out.ne (Nat.le_refl _) lXa))
            have HWs2 := hidMk (owns_seg HWs.out hseg (HZs.out.ne (Nat.le_refl _) (by have := HS1.out; omega)))
            have HS3 := hidMk hseg.kept.size
            have HWc := hidMk hown
            have HZc := hidMk hz
            clear HOWN HKR cX gX e1 eD lB lX hbs
            go_wp2_with fail
            go_meet
            case rel => exact ⟨rfl, r', s', c', _, _, HO2.out, HS1.out, HS2.out, HS3.out, HWr2.out, HZr.out, HWs2.out, HZs.out, HWc.out, HZc.out⟩
  case rest =>
    obtain ⟨rfl, r, s, c, z1, z2, hov, hz1, hz2, hz3, hwr, hzr, hws, hzs, hwc, hzc⟩ := hcut
    rename World => wb
    have HO := hidMk hov
    simp only [List.set_cons_succ, List.set_cons_zero] at HO
    have HWr := hidMk hwr
    have HZr := hidMk hzr
    have HWs := hidMk hws
    have HZs := hidMk hzs
    have HWc := hidMk hwc
    have HZc := hidMk hzc
    have lXa : w.heap.size < wa.heap.size := by have := lt_of_heap HO'.out.blo; omega
    clear hov hwr hzr hws hzs hwc hzc
    obtain ⟨fl, hfl⟩ : ∃ fl, fl = flagsOf d := ⟨_, rfl⟩
    have HFL := hidMk hfl
    rw [← hfl]
    clear hfl
    have lX := lt_of_heap HO.out.blo
    go_upto_if 47 with fail
    go_cut [] from 45 to 47 (fun wd => ∃ v : Sl, Seg wb wd w.heap.size 6 (.slice v.a v.n v.c) ∧ wd.heap.size = wb.heap.size ∧ wd.ownsRow base 82 52 (.slice v.a v.n v.c) v.n ((off (goes d 32) (keepR d Ll.r)).flatMap Rw.a) ∧ Zo wa.heap.size z1 w.heap.size v)
    case first =>
      have cX : wb.cell? ⟨w.heap.size, 6, none⟩ = some (.slice r.a r.n r.c) := (cell_of_row _ _ 6 _ _ (0, 0) HO.out.blo).trans rfl
      have gX : wb.frozen? ⟨w.heap.size, 6, none⟩ = false := frozen_of_row _ _ _ _ _ HO.out.blo
      obtain ⟨b, hb⟩ : ∃ b, b = (bits .and .u16 fl 32 != 0) := ⟨_, rfl⟩
      rw [← hb]
      have HG : Hid (goes d 32 = b) := hidMk (by rw [hb, HFL.out]; rfl)
      clear hb
      cases b
      · go_wp2_with fail
        go_meet
        case rel => exact ⟨r, Seg.same cX, rfl, by rw [HG.out, off_false]; exact HWr.out, HZr.out⟩
      · go_wp2_with fail
        go_meet
        case rel => exact ⟨⟨none, 0, 0⟩, seg_store _ (Below.refl _ _) lX, by simp, by rw [HG.out, off_true]; exact owns_nil _ _ _ _, .inr (fun g hg => by cases hg)⟩
    case rest =>
      obtain ⟨r2, hseg, hsz, hown, hz⟩ := hcut
      rename World => wf1
      have HSZ1 : Hid (wf1.heap.size = wb.heap.size) := hidMk (hsz)
      clear hsz
      have HO2 := hidMk (HO.out.seg hseg)
      simp only [List.set_cons_succ, List.set_cons_zero] at HO2
      have HNs := hidMk (owns_seg HWs.out hseg (HZs.out.ne (Nat.le_refl _) (by omega)))
      have HNc := hidMk (owns_seg HWc.out hseg (HZc.out.ne (Nat.le_refl _) (by omega)))
      have HNr := hidMk hown
      have HZn := hidMk hz
      clear HO HWr HWs HWc HZr hseg hown hz lX
      have HO := HO2
      have HWr := HNr
      have HWs := HNs
      have HWc := HNc
      have HZr := HZn
      clear HO2 HNr HNs HNc HZn
      have lX := lt_of_heap HO.out.blo
      go_upto_if 51 with fail
      go_cut [] from 49 to 51 (fun wd => ∃ v : Sl, Seg wf1 wd w.heap.size 7 (.slice v.a v.n v.c) ∧ wd.heap.size = wf1.heap.size ∧ wd.ownsRow base 87 7 (.slice v.a v.n v.c) v.n ((off (goes d 64) (keepS d Ll.s)).flatMap St.a) ∧ Zo z1 z2 w.heap.size v)
      case first =>
        have cX : wf1.cell? ⟨w.heap.size, 7, none⟩ = some (.slice s.a s.n s.c) := (cell_of_row _ _ 7 _ _ (0, 0) HO.out.blo).trans rfl
        have gX : wf1.frozen? ⟨w.heap.size, 7, none⟩ = false := frozen_of_row _ _ _ _ _ HO.out.blo
        obtain ⟨b, hb⟩ : ∃ b, b = (bits .and .u16 fl 64 != 0) := ⟨_, rfl⟩
        rw [← hb]
        have HG : Hid (goes d 64 = b) := hidMk (by rw [hb, HFL.out]; rfl)
        clear hb
        cases b
        · go_wp2_with fail
          go_meet
          case rel => exact ⟨s, Seg.same cX, rfl, by rw [HG.out, off_false]; exact HWs.out, HZs.out⟩
        · go_wp2_with fail
          go_meet
          case rel => exact ⟨⟨none, 0, 0⟩, seg_store _ (Below.refl _ _) lX, by simp, by rw [HG.out, off_true]; exact owns_nil _ _ _ _, .inr (fun g hg => by cases hg)⟩
      case rest =>
        obtain ⟨s2, hseg, hsz, hown, hz⟩ := hcut
        rename World => wf2
        have HSZ2 : Hid (wf2.heap.size = wb.heap.size) := hidMk (hsz.trans HSZ1.out)
        clear hsz
        have HO2 := hidMk (HO.out.seg hseg)
        simp only [List.set_cons_succ, List.set_cons_zero] at HO2
        have HNr := hidMk (owns_seg HWr.out hseg (HZr.out.ne (Nat.le_refl _) (by omega)))
        have HNc := hidMk (owns_seg HWc.out hseg (HZc.out.ne (Nat.le_refl _) (by omega)))
        have HNs := hidMk hown
        have HZn := hidMk hz
        clear HO HWr HWs HWc HZs hseg hown hz lX
        have HO := HO2
        have HWr := HNr
        have HWs := HNs
        have HWc := HNc
        have HZs := HZn
        clear HO2 HNr HNs HNc HZn
        have lX := lt_of_heap HO.out.blo
        go_upto_if 55 with fail
        go_cut [] from 53 to 55 (fun wd => ∃ v : Sl, Seg wf2 wd w.heap.size 8 (.slice v.a v.n v.c) ∧ wd.heap.size = wf2.heap.size ∧ wd.ownsRow base 90 3 (.slice v.a v.n v.c) v.n ((off (goes d 8) (keepC d Ll.c)).flatMap Cm.a) ∧ Zo z2 wb.heap.size w.heap.size v)
        case first =>
          have cX : wf2.cell? ⟨w.heap.size, 8, none⟩ = some (.slice c.a c.n c.c) := (cell_of_row _ _ 8 _ _ (0, 0) HO.out.blo).trans rfl
          have gX : wf2.frozen? ⟨w.heap.size, 8, none⟩ = false := frozen_of_row _ _ _ _ _ HO.out.blo
          obtain ⟨b, hb⟩ : ∃ b, b = (bits .and .u16 fl 8 != 0) := ⟨_, rfl⟩
          rw [← hb]
          have HG : Hid (goes d 8 = b) := hidMk (by rw [hb, HFL.out]; rfl)
          clear hb
          cases b
          · go_wp2_with fail
            go_meet
            case rel => exact ⟨c, Seg.same cX, rfl, by rw [HG.out, off_false]; exact HWc.out, HZc.out⟩
          · go_wp2_with fail
            go_meet
            case rel => exact ⟨⟨none, 0, 0⟩, seg_store _ (Below.refl _ _) lX, by simp, by rw [HG.out, off_true]; exact owns_nil _ _ _ _, .inr (fun g hg => by cases hg)⟩
        case rest =>
          obtain ⟨c2, hseg, hsz, hown, hz⟩ := hcut
          rename World => wf3
          have HSZ3 : Hid (wf3.heap.size = wb.heap.size) := hidMk (hsz.trans HSZ2.out)
          clear hsz
          have HO2 := hidMk (HO.out.seg hseg)
          simp only [List.set_cons_succ, List.set_cons_zero] at HO2
          have HNr := hidMk (owns_seg HWr.out hseg (HZr.out.ne (Nat.le_refl _) (by omega)))
          have HNs := hidMk (owns_seg HWs.out hseg (HZs.out.ne (Nat.le_refl _) (by omega)))
          have HNc := hidMk hown
          have HZn := hidMk hz
          clear HO HWr HWs HWc HZc hseg hown hz lX
          have HO := HO2
          have HWr := HNr
          have HWs := HNs
          have HWc := HNc
          have HZc := HZn
          clear HO2 HNr HNs HNc HZn
          have lX := lt_of_heap HO.out.blo
          go_upto_if 59 with fail
          go_cut [] from 57 to 59 (fun wd => Seg wf3 wd w.heap.size 9 (.slice (hd (goes d 16) Hl.h).a (hd (goes d 16) Hl.h).n (hd (goes d 16) Hl.h).c) ∧ wd.heap.size = wf3.heap.size)
          case first =>
            have cX : wf3.cell? ⟨w.heap.size, 9, none⟩ = some (.slice Hl.h.a Hl.h.n Hl.h.c) := (cell_of_row _ _ 9 _ _ (0, 0) HO.out.blo).trans rfl
            have gX : wf3.frozen? ⟨w.heap.size, 9, none⟩ = false := frozen_of_row _ _ _ _ _ HO.out.blo
            obtain ⟨b, hb⟩ : ∃ b, b = (bits .and .u16 fl 16 != 0) := ⟨_, rfl⟩
            rw [← hb]
            have HG : Hid (goes d 16 = b) := hidMk (by rw [hb, HFL.out]; rfl)
            clear hb
            cases b
            · go_wp2_with fail
              go_meet
              case rel => exact ⟨by rw [HG.out, hd_false]; exact Seg.same cX, rfl⟩
            · go_wp2_with fail
              go_meet
              case rel => exact ⟨by rw [HG.out, hd_true]; exact seg_store _ (Below.refl _ _) lX, by simp⟩
          case rest =>
            obtain ⟨hseg, hsz4⟩ := hcut
            rename World => wf4
            have HSZ4 : Hid (wf4.heap.size = wb.heap.size) := hidMk (hsz4.trans HSZ3.out)
            clear hsz4
            have HO2 := hidMk (HO.out.seg hseg)
            simp only [List.set_cons_succ, List.set_cons_zero] at HO2
            have HNr := hidMk (owns_seg HWr.out hseg (HZr.out.ne (Nat.le_refl _) (by omega)))
            have HNs := hidMk (owns_seg HWs.out hseg (HZs.out.ne (Nat.le_refl _) (by omega)))
            have HNc := hidMk (owns_seg HWc.out hseg (HZc.out.ne (Nat.le_refl _) (by omega)))
            clear HO HWr HWs HWc hseg
            have HO := HO2
            have HWr := HNr
            have HWs := HNs
            have HWc := HNc
            clear HO2 HNr HNs HNc
            clear lX
            have lX := lt_of_heap HO.out.blo
            go_upto_if 63 with fail
            go_cut [] from 61 to 63 (fun wd => ∃ w1 w2, Seg wf4 w1 w.heap.size 12 (.slice (hd (goes d 128) Hl.t).a (hd (goes d 128) Hl.t).n (hd (goes d 128) Hl.t).c) ∧ Seg w1 w2 w.heap.size 11 (.slice (hd (goes d 128) Hl.p).a (hd (goes d 128) Hl.p).n (hd (goes d 128) Hl.p).c) ∧ Seg w2 wd w.heap.size 13 (.slice (hd (goes d 128) Hl.q).a (hd (goes d 128) Hl.q).n (hd (goes d 128) Hl.q).c) ∧ wd.heap.size = wf4.heap.size)
            case first =>
              have cX : wf4.cell? ⟨w.heap.size, 12, none⟩ = some (.slice Hl.t.a Hl.t.n Hl.t.c) := (cell_of_row _ _ 12 _ _ (0, 0) HO.out.blo).trans rfl
              have cY : wf4.cell? ⟨w.heap.size, 11, none⟩ = some (.slice Hl.p.a Hl.p.n Hl.p.c) := (cell_of_row _ _ 11 _ _ (0, 0) HO.out.blo).trans rfl
              have cZ : wf4.cell? ⟨w.heap.size, 13, none⟩ = some (.slice Hl.q.a Hl.q.n Hl.q.c) := (cell_of_row _ _ 13 _ _ (0, 0) HO.out.blo).trans rfl
              have gX : ∀ j, wf4.frozen? ⟨w.heap.size, j, none⟩ = false := fun j => frozen_of_row _ _ _ _ _ HO.out.blo
              obtain ⟨b, hb⟩ : ∃ b, b = (bits .and .u16 fl 128 != 0) := ⟨_, rfl⟩
              rw [← hb]
              have HG : Hid (goes d 128 = b) := hidMk (by rw [hb, HFL.out]; rfl)
              clear hb
              cases b
              · go_wp2_with fail
                go_meet
                case rel => exact ⟨wf4, wf4, by rw [HG.out, hd_false]; exact Seg.same cX, by rw [HG.out, hd_false]; exact Seg.same cY, by rw [HG.out, hd_false]; exact Seg.same cZ, rfl⟩
              · go_wp2_with fail
                go_meet
                case rel => exact ⟨_, _, by rw [HG.out, hd_true]; exact seg_store _ (Below.refl _ _) lX, by rw [HG.out, hd_true]; exact seg_store _ (Below.refl _ _) (by simpa using lX), by rw [HG.out, hd_true]; exact seg_store _ (Below.refl _ _) (by simpa using lX), by simp⟩
            case rest =>
              rename World => wf5
              obtain ⟨w1, w2, hs1, hs2, hseg, hsz5⟩ := hcut
              have HSZ5 : Hid (wf5.heap.size = wb.heap.size) := hidMk (hsz5.trans HSZ4.out)
              clear hsz5
              have HO2 := hidMk (((HO.out.seg hs1).seg hs2).seg hseg)
              simp only [List.set_cons_succ, List.set_cons_zero] at HO2
              have HNr := hidMk (owns_seg (owns_seg (owns_seg HWr.out hs1 (HZr.out.ne (Nat.le_refl _) (by omega))) hs2 (HZr.out.ne (Nat.le_refl _) (by omega))) hseg (HZr.out.ne (Nat.le_refl _) (by omega)))
              have HNs := hidMk (owns_seg (owns_seg (owns_seg HWs.out hs1 (HZs.out.ne (Nat.le_refl _) (by omega))) hs2 (HZs.out.ne (Nat.le_refl _) (by omega))) hseg (HZs.out.ne (Nat.le_refl _) (by omega)))
              have HNc := hidMk (owns_seg (owns_seg (owns_seg HWc.out hs1 (HZc.out.ne (Nat.le_refl _) (by omega))) hs2 (HZc.out.ne (Nat.le_refl _) (by omega))) hseg (HZc.out.ne (Nat.le_refl _) (by omega)))
              clear HO HWr HWs HWc hseg hs1 hs2
              have HO := HO2
              have HWr := HNr
              have HWs := HNs
              have HWc := HNc
              clear HO2 HNr HNs HNc w1 w2
              clear lX
              have lU := lt_of_heap HO.out.bup
              have HRU : Hid (wf5.rangeAt (w.heap.size + 1) 0 [.string Tu.i, .string Tu.nm, .float .f64 Tu.la, .float .f64 Tu.lo, .float .f64 Tu.el, .float .f32 Tu.mv, .slice Hu.r.a Hu.r.n Hu.r.c, .slice Hu.s.a Hu.s.n Hu.s.c, .slice Hu.c.a Hu.c.n Hu.c.c, .slice Hu.h.a Hu.h.n Hu.h.c, .pointer Du, .slice Hu.p.a Hu.p.n Hu.p.c, .slice Hu.t.a Hu.t.n Hu.t.c, .slice Hu.q.a Hu.q.n Hu.q.c]) := hidMk (fun j v hv => by rw [cell_of_row _ _ _ _ _ (0, 0) HO.out.bup]; simpa using hv)
              go_upto_region 19 with (first | (refine wpList_load_mid rfl 45 _ rfl (w.heap.size + 1) 0 rfl _ _ HRU.out Try.underlying45 rfl zero45 ?_) | (refine wpList_store_new rfl 45 _ _ rfl _ _ _ rfl _ rfl (by simp) rfl zero45 rfl rfl ?_))
              simp only [Act.put]
              obtain ⟨O, hO⟩ : ∃ O, O = wf5.heap.size := ⟨_, rfl⟩
              obtain ⟨wg, hwg⟩ : ∃ wg, wg = wf5.alloc (.cells #[.string Tu.i, .string Tu.nm, .float .f64 Tu.la, .float .f64 Tu.lo, .float .f64 Tu.el, .float .f32 Tu.mv, .slice Hu.r.a Hu.r.n Hu.r.c, .slice Hu.s.a Hu.s.n Hu.s.c, .slice Hu.c.a Hu.c.n Hu.c.c, .slice Hu.h.a Hu.h.n Hu.h.c, .pointer Du, .slice Hu.p.a Hu.p.n Hu.p.c, .slice Hu.t.a Hu.t.n Hu.t.c, .slice Hu.q.a Hu.q.n Hu.q.c] 45) := ⟨_, rfl⟩
              rw [← hwg, ← hO]
              have HBG : Hid (Below wf5.heap.size wf5 wg) := hidMk (by rw [hwg]; exact (Below.refl _ wf5).alloc (Nat.le_refl _) _)
              have lO : O < wg.heap.size := by rw [hwg, hO]; simp
              have HOB : Hid (O = wb.heap.size) := hidMk (hO.trans HSZ5.out)
              have hzO : wb.heap.size ≤ O := by rw [HOB.out]; exact Nat.le_refl _
              have lY : w.heap.size + 2 < wa.heap.size := by have := lt_of_heap HO'.out.bre; omega
              have HW : Hid (OW w wg O [.string Tl.i, .string Tl.nm, .float .f64 Tl.la, .float .f64 Tl.lo, .float .f64 Tl.el, .float .f32 Tl.mv, .slice r2.a r2.n r2.c, .slice s2.a s2.n s2.c, .slice c2.a c2.n c2.c, .slice (hd (goes d 16) Hl.h).a (hd (goes d 16) Hl.h).n (hd (goes d 16) Hl.h).c, .pointer Dl, .slice (hd (goes d 128) Hl.p).a (hd (goes d 128) Hl.p).n (hd (goes d 128) Hl.p).c, .slice (hd (goes d 128) Hl.t).a (hd (goes d 128) Hl.t).n (hd (goes d 128) Hl.t).c, .slice (hd (goes d 128) Hl.q).a (hd (goes d 128) Hl.q).n (hd (goes d 128) Hl.q).c] [.string Tu.i, .string Tu.nm, .float .f64 Tu.la, .float .f64 Tu.lo, .float .f64 Tu.el, .float .f32 Tu.mv, .slice Hu.r.a Hu.r.n Hu.r.c, .slice Hu.s.a Hu.s.n Hu.s.c, .slice Hu.c.a Hu.c.n Hu.c.c, .slice Hu.h.a Hu.h.n Hu.h.c, .pointer Du, .slice Hu.p.a Hu.p.n Hu.p.c, .slice Hu.t.a Hu.t.n Hu.t.c, .slice Hu.q.a Hu.q.n Hu.q.c] [.string ⟨#[]⟩, .string ⟨#[]⟩, .float .f64 0, .float .f64 0, .float .f64 0, .float .f32 0, .slice none 0 0, .slice none 0 0, .slice none 0 0, .slice none 0 0, .pointer none, .slice none 0 0, .slice none 0 0, .slice none 0 0] [.string Tu.i, .string Tu.nm, .float .f64 Tu.la, .float .f64 Tu.lo, .float .f64 Tu.el, .float .f32 Tu.mv, .slice Hu.r.a Hu.r.n Hu.r.c, .slice Hu.s.a Hu.s.n Hu.s.c, .slice Hu.c.a Hu.c.n Hu.c.c, .slice Hu.h.a Hu.h.n Hu.h.c, .pointer Du, .slice Hu.p.a Hu.p.n Hu.p.c, .slice Hu.t.a Hu.t.n Hu.t.c, .slice Hu.q.a Hu.q.n Hu.q.c]) := hidMk ⟨⟨HO.out.below.trans (HBG.out.mono HO.out.below.size), (HBG.out.block _ (lt_of_heap HO.out.blo)).trans HO.out.blo, (HBG.out.block _ (lt_of_heap HO.out.bup)).trans HO.out.bup, (HBG.out.block _ (lt_of_heap HO.out.bre)).trans HO.out.bre⟩, by rw [hwg, hO]; exact heap_alloc_new wf5 _, by have := lt_of_heap HO'.out.bre; omega⟩
              have HNr := hidMk (owns_below HWr.out HBG.out)
              have HNs := hidMk (owns_below HWs.out HBG.out)
              have HNc := hidMk (owns_below HWc.out HBG.out)
              clear HWr HWs HWc HO hwg hO HBG HRU lU
              have HWr := HNr
              have HWs := HNs
              have HWc := HNc
              clear HNr HNs HNc
              go_upto_region 19 with fail
              go_cut [] from 68 to 73 (fun wd => ∃ (v : Sl) (w4 : World), Out wg w4 wa.heap.size z1 ∧ wd = w4.setCell ⟨O, 6, none⟩ (.slice v.a v.n v.c) ∧ ((off (goes d 32) (keepR d Ll.r)) ++ Lu.r).length = v.n ∧ v.n ≤ v.c ∧ ARow Rw.a 52 w4 v.a ((off (goes d 32) (keepR d Ll.r)) ++ Lu.r) ∧ Loc wa.heap.size z1 w.heap.size O v.a ((off (goes d 32) (keepR d Ll.r)) ++ Lu.r) ∧ O < w4.heap.size)
              case first =>
                have cX : wg.cell? ⟨w.heap.size, 6, none⟩ = some (.slice r2.a r2.n r2.c) := (cell_of_row _ _ 6 _ _ (0, 0) HW.out.ov.blo).trans rfl
                have cY : wg.cell? ⟨w.heap.size + 1, 6, none⟩ = some (.slice Hu.r.a Hu.r.n Hu.r.c) := (cell_of_row _ _ 6 _ _ (0, 0) HW.out.ov.bup).trans rfl
                go_wp2_with fail
                refine (appListRw r2 Hu.r (off (goes d 32) (keepR d Ll.r)) Lu.r wg base HWr.out HVU.out.lr (HVU.out.rr.below HW.out.ov.below) (HNU.out.r) (HCU.out.r) (by have := HMU.out.r; have : r2.n ≤ 1048576 := (by have h1 := (owns_arow Rw.a Rw.a_len (by omega) HWr.out).2; have h2 := off_len (goes d 32) (keepR d Ll.r); have h3 := keepR_len d Ll.r; have h4 := HOL.out.view.lr; have h5 := HML.out.r; omega); omega) (by have := HBA.out; have := HW.out.ov.below.size; omega)).mono ?_
                rintro _ w4 ⟨v, rfl, k1, k2, k3, k4, k5, k6⟩
                have HOU := hidMk (zo_out k4 k5 HZr.out)
                have K1 := hidMk k1
                have K2 := hidMk k2
                have K3 := hidMk k3
                have K6 := hidMk (app_loc Rw.a_len (by omega) HZr.out HVU.out.rr lO k6)
                have HOC := hidMk ((HOU.out.block O lO (.inr (by omega))).trans HW.out.ou)
                have cO : w4.cell? ⟨O, 6, none⟩ = some _ := (cell_of_row _ _ 6 _ _ (0, 0) HOC.out).trans rfl
                have gO : w4.frozen? ⟨O, 6, none⟩ = false := frozen_of_row _ _ _ _ _ HOC.out
                have lO4 := lt_of_heap HOC.out
                clear k1 k2 k3 k4 k5 k6 cX cY
                go_wp2_with fail
                go_meet
                case rel => exact ⟨v, w4, HOU.out, rfl, K1.out, K2.out, K3.out, K6.out, lO4⟩
              case rest =>
                rename World => wh1
                obtain ⟨vr, w4, hou, hwd, k1, k2, k3, k6, k7⟩ := hcut
                have HW2 := hidMk (hwd ▸ HW.out.step (f := 6) (v := .slice vr.a vr.n vr.c) hou (by omega) (by omega))
                simp only [List.set_cons_succ, List.set_cons_zero] at HW2
                have HNs := hidMk (hwd ▸ owns_step (f := 6) (u := .slice vr.a vr.n vr.c) (O := O) HWs.out hou HZs.out (by omega) (by omega) (by omega) (by omega))
                clear HWs
                have HWs := HNs
                clear HNs
                have HNc := hidMk (hwd ▸ owns_step (f := 6) (u := .slice vr.a vr.n vr.c) (O := O) HWc.out hou HZc.out (by omega) (by omega) (by omega) (by omega))
                clear HWc
                have HWc := HNc
                clear HNc
                have HRr := hidMk (hwd ▸ arow_set (f := 6) (v := .slice vr.a vr.n vr.c) k3 k6 (by omega) (by omega))
                have HLr := hidMk k6
                have HKr := hidMk k1
                have lO2 : O < wh1.heap.size := by rw [hwd]; simpa using k7
                clear HW HWr HZr hou hwd k1 k2 k3 k6 k7 lO w4
                have HW := HW2
                have lO := lO2
                clear HW2 lO2
                go_upto_region 20 with fail
                go_cut [] from 74 to 79 (fun wd => ∃ (v : Sl) (w4 : World), Out wh1 w4 z1 z2 ∧ wd = w4.setCell ⟨O, 7, none⟩ (.slice v.a v.n v.c) ∧ ((off (goes d 64) (keepS d Ll.s)) ++ Lu.s).length = v.n ∧ v.n ≤ v.c ∧ ARow St.a 7 w4 v.a ((off (goes d 64) (keepS d Ll.s)) ++ Lu.s) ∧ Loc z1 z2 w.heap.size O v.a ((off (goes d 64) (keepS d Ll.s)) ++ Lu.s) ∧ O < w4.heap.size)
                case first =>
                  have cX : wh1.cell? ⟨w.heap.size, 7, none⟩ = some (.slice s2.a s2.n s2.c) := (cell_of_row _ _ 7 _ _ (0, 0) HW.out.ov.blo).trans rfl
                  have cY : wh1.cell? ⟨w.heap.size + 1, 7, none⟩ = some (.slice Hu.s.a Hu.s.n Hu.s.c) := (cell_of_row _ _ 7 _ _ (0, 0) HW.out.ov.bup).trans rfl
                  go_wp2_with fail
                  refine (appListSt s2 Hu.s (off (goes d 64) (keepS d Ll.s)) Lu.s wh1 base HWs.out HVU.out.ls (HVU.out.rs.below HW.out.ov.below) (HNU.out.s) (HCU.out.s) (by have := HMU.out.s; have : s2.n ≤ 1048576 := (by have h1 := (owns_arow St.a St.a_len (by omega) HWs.out).2; have h2 := off_len (goes d 64) (keepS d Ll.s); have h3 := keepS_len d Ll.s; have h4 := HOL.out.view.ls; have h5 := HML.out.s; omega); omega) (by have := HBA.out; have := HW.out.ov.below.size; omega)).mono ?_
                  rintro _ w4 ⟨v, rfl, k1, k2, k3, k4, k5, k6⟩
                  have HOU := hidMk (zo_out k4 k5 HZs.out)
                  have K1 := hidMk k1
                  have K2 := hidMk k2
                  have K3 := hidMk k3
                  have K6 := hidMk (app_loc St.a_len (by omega) HZs.out HVU.out.rs lO k6)
                  have HOC := hidMk ((HOU.out.block O lO (.inr (by omega))).trans HW.out.ou)
                  have cO : w4.cell? ⟨O, 7, none⟩ = some _ := (cell_of_row _ _ 7 _ _ (0, 0) HOC.out).trans rfl
                  have gO : w4.frozen? ⟨O, 7, none⟩ = false := frozen_of_row _ _ _ _ _ HOC.out
                  have lO4 := lt_of_heap HOC.out
                  clear k1 k2 k3 k4 k5 k6 cX cY
                  go_wp2_with fail
                  go_meet
                  case rel => exact ⟨v, w4, HOU.out, rfl, K1.out, K2.out, K3.out, K6.out, lO4⟩
                case rest =>
                  rename World => wh2
                  obtain ⟨vs, w4, hou, hwd, k1, k2, k3, k6, k7⟩ := hcut
                  have HW2 := hidMk (hwd ▸ HW.out.step (f := 7) (v := .slice vs.a vs.n vs.c) hou (by omega) (by omega))
                  simp only [List.set_cons_succ, List.set_cons_zero] at HW2
                  have HNc := hidMk (hwd ▸ owns_step (f := 7) (u := .slice vs.a vs.n vs.c) (O := O) HWc.out hou HZc.out (by omega) (by omega) (by omega) (by omega))
                  clear HWc
                  have HWc := HNc
                  clear HNc
                  have HNr := hidMk (hwd ▸ arow_step (f := 7) (v := .slice vs.a vs.n vs.c) HRr.out hou HLr.out (by omega) (by omega) (by omega) (by omega) (by omega))
                  clear HRr
                  have HRr := HNr
                  clear HNr
                  have HRs := hidMk (hwd ▸ arow_set (f := 7) (v := .slice vs.a vs.n vs.c) k3 k6 (by omega) (by omega))
                  have HLs := hidMk k6
                  have HKs := hidMk k1
                  have lO2 : O < wh2.heap.size := by rw [hwd]; simpa using k7
                  clear HW HWs HZs hou hwd k1 k2 k3 k6 k7 lO w4
                  have HW := HW2
                  have lO := lO2
                  clear HW2 lO2
                  go_upto_region 21 with fail
                  go_cut [] from 80 to 85 (fun wd => ∃ (v : Sl) (w4 : World), Out wh2 w4 z2 wb.heap.size ∧ wd = w4.setCell ⟨O, 8, none⟩ (.slice v.a v.n v.c) ∧ ((off (goes d 8) (keepC d Ll.c)) ++ Lu.c).length = v.n ∧ v.n ≤ v.c ∧ ARow Cm.a 3 w4 v.a ((off (goes d 8) (keepC d Ll.c)) ++ Lu.c) ∧ Loc z2 wb.heap.size w.heap.size O v.a ((off (goes d 8) (keepC d Ll.c)) ++ Lu.c) ∧ O < w4.heap.size)
                  case first =>
                    have cX : wh2.cell? ⟨w.heap.size, 8, none⟩ = some (.slice c2.a c2.n c2.c) := (cell_of_row _ _ 8 _ _ (0, 0) HW.out.ov.blo).trans rfl
                    have cY : wh2.cell? ⟨w.heap.size + 1, 8, none⟩ = some (.slice Hu.c.a Hu.c.n Hu.c.c) := (cell_of_row _ _ 8 _ _ (0, 0) HW.out.ov.bup).trans rfl
                    go_wp2_with fail
                    refine (appListCm c2 Hu.c (off (goes d 8) (keepC d Ll.c)) Lu.c wh2 base HWc.out HVU.out.lc (HVU.out.rc.below HW.out.ov.below) (HNU.out.c) (HCU.out.c) (by have := HMU.out.c; have : c2.n ≤ 1048576 := (by have h1 := (owns_arow Cm.a Cm.a_len (by omega) HWc.out).2; have h2 := off_len (goes d 8) (keepC d Ll.c); have h3 := keepC_len d Ll.c; have h4 := HOL.out.view.lc; have h5 := HML.out.c; omega); omega) (by have := HBA.out; have := HW.out.ov.below.size; omega)).mono ?_
                    rintro _ w4 ⟨v, rfl, k1, k2, k3, k4, k5, k6⟩
                    have HOU := hidMk (zo_out k4 k5 HZc.out)
                    have K1 := hidMk k1
                    have K2 := hidMk k2
                    have K3 := hidMk k3
                    have K6 := hidMk (app_loc Cm.a_len (by omega) HZc.out HVU.out.rc lO k6)
                    have HOC := hidMk ((HOU.out.block O lO (.inr (by omega))).trans HW.out.ou)
                    have cO : w4.cell? ⟨O, 8, none⟩ = some _ := (cell_of_row _ _ 8 _ _ (0, 0) HOC.out).trans rfl
                    have gO : w4.frozen? ⟨O, 8, none⟩ = false := frozen_of_row _ _ _ _ _ HOC.out
                    have lO4 := lt_of_heap HOC.out
                    clear k1 k2 k3 k4 k5 k6 cX cY
                    go_wp2_with fail
                    go_meet
                    case rel => exact ⟨v, w4, HOU.out, rfl, K1.out, K2.out, K3.out, K6.out, lO4⟩
                  case rest =>
                    rename World => wh3
                    obtain ⟨vc, w4, hou, hwd, k1, k2, k3, k6, k7⟩ := hcut
                    have HW2 := hidMk (hwd ▸ HW.out.step (f := 8) (v := .slice vc.a vc.n vc.c) hou (by omega) (by omega))
                    simp only [List.set_cons_succ, List.set_cons_zero] at HW2
                    have HNr := hidMk (hwd ▸ arow_step (f := 8) (v := .slice vc.a vc.n vc.c) HRr.out hou HLr.out (by omega) (by omega) (by omega) (by omega) (by omega))
                    clear HRr
                    have HRr := HNr
                    clear HNr
                    have HNs := hidMk (hwd ▸ arow_step (f := 8) (v := .slice vc.a vc.n vc.c) HRs.out hou HLs.out (by omega) (by omega) (by omega) (by omega) (by omega))
                    clear HRs
                    have HRs := HNs
                    clear HNs
                    have HRc := hidMk (hwd ▸ arow_set (f := 8) (v := .slice vc.a vc.n vc.c) k3 k6 (by omega) (by omega))
                    have HLc := hidMk k6
                    have HKc := hidMk k1
                    have lO2 : O < wh3.heap.size := by rw [hwd]; simpa using k7
                    clear HW HWc HZc hou hwd k1 k2 k3 k6 k7 lO w4
                    have HW := HW2
                    have lO := lO2
                    clear HW2 lO2
                    have HWh := hidMk (hd_own (goes d 16) (owns_below HOL.out.h HW.out.ov.below))
                    have HZh : Hid (Zo 0 0 w.heap.size (hd (goes d 16) Hl.h)) := hidMk (.inl ⟨hd_full HOL.out.ch, fun g hg => ((hd_own (goes d 16) HOL.out.h).lt g hg).2⟩)
                    go_upto_region 22 with fail
                    go_cut [] from 86 to 91 (fun wd => ∃ (v : Sl) (w4 : World), Out wh3 w4 0 0 ∧ wd = w4.setCell ⟨O, 9, none⟩ (.slice v.a v.n v.c) ∧ ((off (goes d 16) Ll.h) ++ Lu.h).length = v.n ∧ v.n ≤ v.c ∧ ARow Hp.a 14 w4 v.a ((off (goes d 16) Ll.h) ++ Lu.h) ∧ Loc 0 0 w.heap.size O v.a ((off (goes d 16) Ll.h) ++ Lu.h) ∧ O < w4.heap.size)
                    case first =>
                      have cX : wh3.cell? ⟨w.heap.size, 9, none⟩ = some (.slice (hd (goes d 16) Hl.h).a (hd (goes d 16) Hl.h).n (hd (goes d 16) Hl.h).c) := (cell_of_row _ _ 9 _ _ (0, 0) HW.out.ov.blo).trans rfl
                      have cY : wh3.cell? ⟨w.heap.size + 1, 9, none⟩ = some (.slice Hu.h.a Hu.h.n Hu.h.c) := (cell_of_row _ _ 9 _ _ (0, 0) HW.out.ov.bup).trans rfl
                      go_wp2_with fail
                      refine (appListHp (hd (goes d 16) Hl.h) Hu.h (off (goes d 16) Ll.h) Lu.h wh3 base HWh.out HVU.out.lh (HVU.out.rh.below HW.out.ov.below) (HNU.out.h) (HCU.out.h) (by have := HMU.out.h; have : (hd (goes d 16) Hl.h).n ≤ 1048576 := hd_le HML.out.h; omega) (by have := HBA.out; have := HW.out.ov.below.size; omega)).mono ?_
                      rintro _ w4 ⟨v, rfl, k1, k2, k3, k4, k5, k6⟩
                      have HOU := hidMk (zo_out k4 k5 HZh.out)
                      have K1 := hidMk k1
                      have K2 := hidMk k2
                      have K3 := hidMk k3
                      have K6 := hidMk (app_loc Hp.a_len (by omega) HZh.out HVU.out.rh lO k6)
                      have HOC := hidMk ((HOU.out.block O lO (.inr (by omega))).trans HW.out.ou)
                      have cO : w4.cell? ⟨O, 9, none⟩ = some _ := (cell_of_row _ _ 9 _ _ (0, 0) HOC.out).trans rfl
                      have gO : w4.frozen? ⟨O, 9, none⟩ = false := frozen_of_row _ _ _ _ _ HOC.out
                      have lO4 := lt_of_heap HOC.out
                      clear k1 k2 k3 k4 k5 k6 cX cY
                      go_wp2_with fail
                      go_meet
                      case rel => exact ⟨v, w4, HOU.out, rfl, K1.out, K2.out, K3.out, K6.out, lO4⟩
                    case rest =>
                      rename World => wh4
                      obtain ⟨vh, w4, hou, hwd, k1, k2, k3, k6, k7⟩ := hcut
                      have HW2 := hidMk (hwd ▸ HW.out.step (f := 9) (v := .slice vh.a vh.n vh.c) hou (by omega) (by omega))
                      simp only [List.set_cons_succ, List.set_cons_zero] at HW2
                      have HNr := hidMk (hwd ▸ arow_step (f := 9) (v := .slice vh.a vh.n vh.c) HRr.out hou HLr.out (by omega) (by omega) (by omega) (by omega) (by omega))
                      clear HRr
                      have HRr := HNr
                      clear HNr
                      have HNs := hidMk (hwd ▸ arow_step (f := 9) (v := .slice vh.a vh.n vh.c) HRs.out hou HLs.out (by omega) (by omega) (by omega) (by omega) (by omega))
                      clear HRs
                      have HRs := HNs
                      clear HNs
                      have HNc := hidMk (hwd ▸ arow_step (f := 9) (v := .slice vh.a vh.n vh.c) HRc.out hou HLc.out (by omega) (by omega) (by omega) (by omega) (by omega))
                      clear HRc
                      have HRc := HNc
                      clear HNc
                      have HRh := hidMk (hwd ▸ arow_set (f := 9) (v := .slice vh.a vh.n vh.c) k3 k6 (by omega) (by omega))
                      have HLh := hidMk k6
                      have HKh := hidMk k1
                      have lO2 : O < wh4.heap.size := by rw [hwd]; simpa using k7
                      clear HW HWh HZh hou hwd k1 k2 k3 k6 k7 lO w4
                      have HW := HW2
                      have lO := lO2
                      clear HW2 lO2
                      have HWt := hidMk (hd_own (goes d 128) (owns_below HOL.out.t HW.out.ov.below))
                      have HZt : Hid (Zo 0 0 w.heap.size (hd (goes d 128) Hl.t)) := hidMk (.inl ⟨hd_full HOL.out.ct, fun g hg => ((hd_own (goes d 128) HOL.out.t).lt g hg).2⟩)
                      go_upto_region 23 with fail
                      go_cut [] from 92 to 97 (fun wd => ∃ (v : Sl) (w4 : World), Out wh4 w4 0 0 ∧ wd = w4.setCell ⟨O, 12, none⟩ (.slice v.a v.n v.c) ∧ ((off (goes d 128) Ll.t) ++ Lu.t).length = v.n ∧ v.n ≤ v.c ∧ ARow Tp.a 5 w4 v.a ((off (goes d 128) Ll.t) ++ Lu.t) ∧ Loc 0 0 w.heap.size O v.a ((off (goes d 128) Ll.t) ++ Lu.t) ∧ O < w4.heap.size)
                      case first =>
                        have cX : wh4.cell? ⟨w.heap.size, 12, none⟩ = some (.slice (hd (goes d 128) Hl.t).a (hd (goes d 128) Hl.t).n (hd (goes d 128) Hl.t).c) := (cell_of_row _ _ 12 _ _ (0, 0) HW.out.ov.blo).trans rfl
                        have cY : wh4.cell? ⟨w.heap.size + 1, 12, none⟩ = some (.slice Hu.t.a Hu.t.n Hu.t.c) := (cell_of_row _ _ 12 _ _ (0, 0) HW.out.ov.bup).trans rfl
                        go_wp2_with fail
                        refine (appListTp (hd (goes d 128) Hl.t) Hu.t (off (goes d 128) Ll.t) Lu.t wh4 base HWt.out HVU.out.lt (HVU.out.rt.below HW.out.ov.below) (HNU.out.t) (HCU.out.t) (by have := HMU.out.t; have : (hd (goes d 128) Hl.t).n ≤ 1048576 := hd_le HML.out.t; omega) (by have := HBA.out; have := HW.out.ov.below.size; omega)).mono ?_
                        rintro _ w4 ⟨v, rfl, k1, k2, k3, k4, k5, k6⟩
                        have HOU := hidMk (zo_out k4 k5 HZt.out)
                        have K1 := hidMk k1
                        have K2 := hidMk k2
                        have K3 := hidMk k3
                        have K6 := hidMk (app_loc Tp.a_len (by omega) HZt.out HVU.out.rt lO k6)
                        have HOC := hidMk ((HOU.out.block O lO (.inr (by omega))).trans HW.out.ou)
                        have cO : w4.cell? ⟨O, 12, none⟩ = some _ := (cell_of_row _ _ 12 _ _ (0, 0) HOC.out).trans rfl
                        have gO : w4.frozen? ⟨O, 12, none⟩ = false := frozen_of_row _ _ _ _ _ HOC.out
                        have lO4 := lt_of_heap HOC.out
                        clear k1 k2 k3 k4 k5 k6 cX cY
                        go_wp2_with fail
                        go_meet
                        case rel => exact ⟨v, w4, HOU.out, rfl, K1.out, K2.out, K3.out, K6.out, lO4⟩
                      case rest =>
                        rename World => wh5
                        obtain ⟨vt, w4, hou, hwd, k1, k2, k3, k6, k7⟩ := hcut
                        have HW2 := hidMk (hwd ▸ HW.out.step (f := 12) (v := .slice vt.a vt.n vt.c) hou (by omega) (by omega))
                        simp only [List.set_cons_succ, List.set_cons_zero] at HW2
                        have HNr := hidMk (hwd ▸ arow_step (f := 12) (v := .slice vt.a vt.n vt.c) HRr.out hou HLr.out (by omega) (by omega) (by omega) (by omega) (by omega))
                        clear HRr
                        have HRr := HNr
                        clear HNr
                        have HNs := hidMk (hwd ▸ arow_step (f := 12) (v := .slice vt.a vt.n vt.c) HRs.out hou HLs.out (by omega) (by omega) (by omega) (by omega) (by omega))
                        clear HRs
                        have HRs := HNs
                        clear HNs
                        have HNc := hidMk (hwd ▸ arow_step (f := 12) (v := .slice vt.a vt.n vt.c) HRc.out hou HLc.out (by omega) (by omega) (by omega) (by omega) (by omega))
                        clear HRc
                        have HRc := HNc
                        clear HNc
                        have HNh := hidMk (hwd ▸ arow_step (f := 12) (v := .slice vt.a vt.n vt.c) HRh.out hou HLh.out (by omega) (by omega) (by omega) (by omega) (by omega))
                        clear HRh
                        have HRh := HNh
                        clear HNh
                        have HRt := hidMk (hwd ▸ arow_set (f := 12) (v := .slice vt.a vt.n vt.c) k3 k6 (by omega) (by omega))
                        have HLt := hidMk k6
                        have HKt := hidMk k1
                        have lO2 : O < wh5.heap.size := by rw [hwd]; simpa using k7
                        clear HW HWt HZt hou hwd k1 k2 k3 k6 k7 lO w4
                        have HW := HW2
                        have lO := lO2
                        clear HW2 lO2
                        have HWp := hidMk (hd_own (goes d 128) (owns_below HOL.out.p HW.out.ov.below))
                        have HZp : Hid (Zo 0 0 w.heap.size (hd (goes d 128) Hl.p)) := hidMk (.inl ⟨hd_full HOL.out.cp, fun g hg => ((hd_own (goes d 128) HOL.out.p).lt g hg).2⟩)
                        go_upto_region 24 with fail
                        go_cut [] from 98 to 103 (fun wd => ∃ (v : Sl) (w4 : World), Out wh5 w4 0 0 ∧ wd = w4.setCell ⟨O, 11, none⟩ (.slice v.a v.n v.c) ∧ ((off (goes d 128) pl) ++ pu).length = v.n ∧ v.n ≤ v.c ∧ ARow Pk.a 10 w4 v.a ((off (goes d 128) pl) ++ pu) ∧ Loc 0 0 w.heap.size O v.a ((off (goes d 128) pl) ++ pu) ∧ O < w4.heap.size)
                        case first =>
                          have cX : wh5.cell? ⟨w.heap.size, 11, none⟩ = some (.slice (hd (goes d 128) Hl.p).a (hd (goes d 128) Hl.p).n (hd (goes d 128) Hl.p).c) := (cell_of_row _ _ 11 _ _ (0, 0) HW.out.ov.blo).trans rfl
                          have cY : wh5.cell? ⟨w.heap.size + 1, 11, none⟩ = some (.slice Hu.p.a Hu.p.n Hu.p.c) := (cell_of_row _ _ 11 _ _ (0, 0) HW.out.ov.bup).trans rfl
                          go_wp2_with fail
                          refine (appListPk (hd (goes d 128) Hl.p) Hu.p (off (goes d 128) pl) pu wh5 base HWp.out HVU.out.lp (HVU.out.rp.below HW.out.ov.below) (HNU.out.p) (HCU.out.p) (by have := HMU.out.p; have : (hd (goes d 128) Hl.p).n ≤ 1048576 := hd_le HML.out.p; omega) (by have := HBA.out; have := HW.out.ov.below.size; omega)).mono ?_
                          rintro _ w4 ⟨v, rfl, k1, k2, k3, k4, k5, k6⟩
                          have HOU := hidMk (zo_out k4 k5 HZp.out)
                          have K1 := hidMk k1
                          have K2 := hidMk k2
                          have K3 := hidMk k3
                          have K6 := hidMk (app_loc Pk.a_len (by omega) HZp.out HVU.out.rp lO k6)
                          have HOC := hidMk ((HOU.out.block O lO (.inr (by omega))).trans HW.out.ou)
                          have cO : w4.cell? ⟨O, 11, none⟩ = some _ := (cell_of_row _ _ 11 _ _ (0, 0) HOC.out).trans rfl
                          have gO : w4.frozen? ⟨O, 11, none⟩ = false := frozen_of_row _ _ _ _ _ HOC.out
                          have lO4 := lt_of_heap HOC.out
                          clear k1 k2 k3 k4 k5 k6 cX cY
                          go_wp2_with fail
                          go_meet
                          case rel => exact ⟨v, w4, HOU.out, rfl, K1.out, K2.out, K3.out, K6.out, lO4⟩
                        case rest =>
                          rename World => wh6
                          obtain ⟨vp, w4, hou, hwd, k1, k2, k3, k6, k7⟩ := hcut
                          have HW2 := hidMk (hwd ▸ HW.out.step (f := 11) (v := .slice vp.a vp.n vp.c) hou (by omega) (by omega))
                          simp only [List.set_cons_succ, List.set_cons_zero] at HW2
                          have HNr := hidMk (hwd ▸ arow_step (f := 11) (v := .slice vp.a vp.n vp.c) HRr.out hou HLr.out (by omega) (by omega) (by omega) (by omega) (by omega))
                          clear HRr
                          have HRr := HNr
                          clear HNr
                          have HNs := hidMk (hwd ▸ arow_step (f := 11) (v := .slice vp.a vp.n vp.c) HRs.out hou HLs.out (by omega) (by omega) (by omega) (by omega) (by omega))
                          clear HRs
                          have HRs := HNs
                          clear HNs
                          have HNc := hidMk (hwd ▸ arow_step (f := 11) (v := .slice vp.a vp.n vp.c) HRc.out hou HLc.out (by omega) (by omega) (by omega) (by omega) (by omega))
                          clear HRc
                          have HRc := HNc
                          clear HNc
                          have HNh := hidMk (hwd ▸ arow_step (f := 11) (v := .slice vp.a vp.n vp.c) HRh.out hou HLh.out (by omega) (by omega) (by omega) (by omega) (by omega))
                          clear HRh
                          have HRh := HNh
                          clear HNh
                          have HNt := hidMk (hwd ▸ arow_step (f := 11) (v := .slice vp.a vp.n vp.c) HRt.out hou HLt.out (by omega) (by omega) (by omega) (by omega) (by omega))
                          clear HRt
                          have HRt := HNt
                          clear HNt
                          have HRp := hidMk (hwd ▸ arow_set (f := 11) (v := .slice vp.a vp.n vp.c) k3 k6 (by omega) (by omega))
                          have HLp := hidMk k6
                          have HKp := hidMk k1
                          have lO2 : O < wh6.heap.size := by rw [hwd]; simpa using k7
                          clear HW HWp HZp hou hwd k1 k2 k3 k6 k7 lO w4
                          have HW := HW2
                          have lO := lO2
                          clear HW2 lO2
                          go_upto_region 25 with fail
                          go_cut [8, 9] from 104 to 109 (fun a b wd => a = .int .i64 ((hd (goes d 128) Hl.t).n : Nat) ∧ b = .int .i64 ((hd (goes d 128) Hl.p).n : Nat) ∧ Below wh6.heap.size wh6 wd)
                          case first =>
                            have cX : wh6.cell? ⟨w.heap.size, 12, none⟩ = some (.slice (hd (goes d 128) Hl.t).a (hd (goes d 128) Hl.t).n (hd (goes d 128) Hl.t).c) := (cell_of_row _ _ 12 _ _ (0, 0) HW.out.ov.blo).trans rfl
                            have cY : wh6.cell? ⟨w.heap.size, 11, none⟩ = some (.slice (hd (goes d 128) Hl.p).a (hd (goes d 128) Hl.p).n (hd (goes d 128) Hl.p).c) := (cell_of_row _ _ 11 _ _ (0, 0) HW.out.ov.blo).trans rfl
                            have HBD := hidMk (Below.refl wh6.heap.size wh6).drew
                            go_region
                            go_wp2_with fail
                            go_meet
                            case rel => exact ⟨rfl, rfl, HBD.out⟩
                          case rest =>
                            obtain ⟨rfl, rfl, hbd⟩ := hcut
                            rename World => wi
                            have HW2 := hidMk (HW.out.below hbd)
                            have HBI := hidMk hbd
                            have HNr := hidMk (HRr.out.below hbd)
                            clear HRr
                            have HRr := HNr
                            clear HNr
                            have HNs := hidMk (HRs.out.below hbd)
                            clear HRs
                            have HRs := HNs
                            clear HNs
                            have HNc := hidMk (HRc.out.below hbd)
                            clear HRc
                            have HRc := HNc
                            clear HNc
                            have HNh := hidMk (HRh.out.below hbd)
                            clear HRh
                            have HRh := HNh
                            clear HNh
                            have HNt := hidMk (HRt.out.below hbd)
                            clear HRt
                            have HRt := HNt
                            clear HNt
                            have HNp := hidMk (HRp.out.below hbd)
                            clear HRp
                            have HRp := HNp
                            clear HNp
                            have lO2 : O < wi.heap.size := by have := hbd.size; omega
                            clear HW hbd lO
                            have HW := HW2
                            have lO := lO2
                            clear HW2 lO2
                            obtain ⟨tn, htn⟩ : ∃ tn, tn = (hd (goes d 128) Hl.t).n := ⟨_, rfl⟩
                            obtain ⟨pn, hpn⟩ : ∃ pn, pn = (hd (goes d 128) Hl.p).n := ⟨_, rfl⟩
                            rw [← htn, ← hpn]
                            have HTN := hidMk htn
                            have HPN := hidMk hpn
                            clear htn hpn
                            go_upto_region 26 with fail
                            go_cut [115] from 110 to 114 (fun u wd => u = .bool (decide (tn = 0 ∧ pn = 0)) ∧ wd = wi)
                            case first =>
                              by_cases ht : tn = 0
                              · subst ht
                                by_cases hp : pn = 0
                                · subst hp
                                  go_wp2_with fail
                                  go_meet
                                  case rel => exact ⟨by simp, rfl⟩
                                · have hp2 : ¬ ((pn : Int) = 0) := by omega
                                  go_wp2_with fail
                                  go_meet
                                  case rel => exact ⟨by simp [hp], rfl⟩
                              · have ht2 : ¬ ((tn : Int) = 0) := by omega
                                go_wp2_with fail
                                go_meet
                                case rel => exact ⟨by simp [ht], rfl⟩
                            case rest =>
                              obtain ⟨rfl, hwi⟩ := hcut
                              have hwi2 := hwi.symm
                              subst hwi2
                              clear hwi
                              obtain ⟨b, hb⟩ : ∃ b, b = decide (tn = 0 ∧ pn = 0) := ⟨_, rfl⟩
                              rw [← hb]
                              have HB := hidMk hb
                              clear hb
                              have HWq := hidMk (hd_own (goes d 128) (owns_below HOL.out.q HW.out.ov.below))
                              have HFq : Hid (((hd (goes d 128) Hl.q)).c = ((hd (goes d 128) Hl.q)).n) := hidMk (hd_full HOL.out.cq)
                              have LENq : ((hd (goes d 128) Hl.q)).n ≤ 1048576 := hd_le HML.out.q
                              have LENm : Hu.q.n ≤ 1048576 := HMU.out.q
                              have HTL : Hid ((off (goes d 128) Ll.t).length = tn) := hidMk (by rw [HTN.out]; exact hd_n HOL.out.view.lt)
                              have HPL : Hid ((off (goes d 128) Ll.x).length = pn) := hidMk (by rw [HPN.out, ← (off_pk HOL.out.x).length]; exact hd_n HOL.out.view.lp)
                              have cX : wi.cell? ⟨w.heap.size, 13, none⟩ = some (.slice ((hd (goes d 128) Hl.q)).a ((hd (goes d 128) Hl.q)).n ((hd (goes d 128) Hl.q)).c) := (cell_of_row _ _ 13 _ _ (0, 0) HW.out.ov.blo).trans rfl
                              have cY : wi.cell? ⟨w.heap.size + 1, 13, none⟩ = some (.slice Hu.q.a Hu.q.n Hu.q.c) := (cell_of_row _ _ 13 _ _ (0, 0) HW.out.ov.bup).trans rfl
                              have hbs : base ≤ wi.heap.size := by have := HBA.out; have := HW.out.ov.below.size; omega
                              cases b
                              · obtain ⟨v', w4, hap, q1, q2, q3, q4, q5⟩ := app_any Pa.a Pa.a_len Pa.a_one Try.underlying43 infA128 (by omega) (by omega) wi base (.slice ((hd (goes d 128) Hl.q)).a ((hd (goes d 128) Hl.q)).n ((hd (goes d 128) Hl.q)).c) ((hd (goes d 128) Hl.q)).n (off (goes d 128) Ll.q) HWq.out Hu.q.a Hu.q.n Hu.q.c Lu.q HVU.out.lq (HVU.out.rq.below HW.out.ov.below) HNU.out.q (by omega) hbs 43
                                have hfull : ∃ A, (Value.slice ((hd (goes d 128) Hl.q)).a ((hd (goes d 128) Hl.q)).n ((hd (goes d 128) Hl.q)).c) = .slice A ((hd (goes d 128) Hl.q)).n ((hd (goes d 128) Hl.q)).n := ⟨_, by rw [HFq.out]⟩
                                have HB4 := hidMk (q3 hfull)
                                have HOWN := hidMk q1
                                have HNEW := hidMk (q5 hfull)
                                have HAP := hidMk hap
                                have HQL : Hid ((off (goes d 128) Ll.q).length = ((hd (goes d 128) Hl.q)).n) := hidMk (owns_arow Pa.a Pa.a_len (by omega) HWq.out).2
                                obtain ⟨qn, hqn⟩ : ∃ qn, qn = ((hd (goes d 128) Hl.q)).n := ⟨_, rfl⟩
                                rw [← hqn] at HAP HOWN HQL cX LENq
                                obtain ⟨va, vc', rfl, hvc⟩ := owns_slice HOWN.out
                                have HOU := hidMk (Below.out HB4.out 0 0)
                                have K6 : Hid (Loc 0 0 w.heap.size O va (off (goes d 128) Ll.q ++ Lu.q)) := hidMk (app_loc (s := ⟨va, qn + Hu.q.n, vc'⟩) (W := wi) (w' := w4) Pa.a_len (by omega) (.inl ⟨HFq.out, fun g hg => ((hd_own (goes d 128) HOL.out.q).lt g hg).2⟩ : Zo 0 0 w.heap.size (hd (goes d 128) Hl.q)) HVU.out.rq lO (.inr (blk_or q4)))
                                have HOC := hidMk ((HB4.out.block O lO).trans HW.out.ou)
                                have cO : w4.cell? ⟨O, 13, none⟩ = some _ := (cell_of_row _ _ 13 _ _ (0, 0) HOC.out).trans rfl
                                have gO : w4.frozen? ⟨O, 13, none⟩ = false := frozen_of_row _ _ _ _ _ HOC.out
                                have lO4 := lt_of_heap HOC.out
                                have HW5 := hidMk (HW.out.step (f := 13) (v := .slice va (qn + Hu.q.n) vc') HOU.out (.inr rfl) (Nat.zero_le _))
                                simp only [List.set_cons_succ, List.set_cons_zero] at HW5
                                clear hap q1 q2 q3 q4 q5 hfull hqn
                                go_upto_block 0 with (first | (refine wpList_append_run rfl _ _ 43 rfl _ _ rfl rfl _ _ HAP.out ?_))
                                obtain ⟨wj, hwj⟩ : ∃ wj, wj = w4.setCell ⟨O, 13, none⟩ (.slice va (qn + Hu.q.n) vc') := ⟨_, rfl⟩
                                rw [← hwj]
                                rw [← hwj] at HW5
                                have HJ4 : Hid (∀ b, b ≠ O → wj.heap[b]? = w4.heap[b]?) := hidMk (fun b hb => by rw [hwj]; exact heap_setCell_other _ _ _ _ hb)
                                have HJS : Hid (wj.heap.size = w4.heap.size) := hidMk (by rw [hwj]; simp)
                                have HJO : Hid (Seg w4 wj O 13 (.slice va (qn + Hu.q.n) vc')) := hidMk (by rw [hwj]; exact seg_store _ (Below.refl _ _) lO4)
                                have HWI : Hid (wi.heap.size ≤ w4.heap.size) := hidMk HB4.out.size
                                clear hwj cX cY cO gO
                                go_cut [11, 12] from 123 to 132 (fun _ _ wd => ∃ g, wi.heap.size ≤ g ∧ wj.grownBy wd (some g) ∧ ARow Pa.a 8 wd va (off (goes d 128) Ll.q ++ Lu.q.map (renum tn pn)))
                                case first =>
                                  by_cases hm0 : Hu.q.n = 0
                                  · have hq0 : Lu.q = [] := List.eq_nil_of_length_eq_zero (by have := HVU.out.lq; omega)
                                    have HA0 : Hid (ARow Pa.a 8 wj va (off (goes d 128) Ll.q ++ Lu.q.map (renum tn pn))) := hidMk (by
                                      have h1 := (owns_arow Pa.a Pa.a_len (by omega) HOWN.out).1
                                      have h2 := K6.out
                                      rw [hq0] at h1 h2 ⊢
                                      exact ARow.out (lo := O) (hi := O + 1) h1 ⟨HJO.out.kept.os, HJO.out.kept.tape, HJO.out.kept.output, HJO.out.kept.size, fun k _ hk => HJ4.out k (by omega)⟩ (fun hp A hA => by have := h2 hp A hA; omega))
                                    have cO : wj.cell? ⟨O, 13, none⟩ = some (.slice va (qn + Hu.q.n) vc') := (cell_of_row _ _ 13 _ _ (0, 0) HW5.out.ou).trans rfl
                                    have lOj := lt_of_heap HW5.out.ou
                                    rw [hm0] at cO
                                    go_wp2_with fail
                                    go_loopw [11] (fun i wr => i = .int .i64 qn ∧ wr = wj) (fun _ _ => 0)
                                    case atStart => exact ⟨rfl, rfl⟩
                                    case round =>
                                      obtain ⟨rfl, hwr⟩ := hrel
                                      subst hwr
                                      go_wp2_with fail
                                      go_meet
                                      case rel => exact ⟨wi.heap.size, Nat.le_refl _, ⟨rfl, rfl, rfl, Nat.le_refl _, fun _ _ _ => rfl⟩, HA0.out⟩
                                  · obtain ⟨g, cap, cur, hv, hg, hcs, htake⟩ : ∃ g cap cur, va = some ⟨g, 0, none⟩ ∧ w4.heap[g]? = some (.cells cur 128 (0, 0)) ∧ cur.size = cap * 8 ∧ cur.toList.take ((qn + Hu.q.n) * 8) = (off (goes d 128) Ll.q ++ Lu.q).flatMap Pa.a := by
                                      rcases HOWN.out.2 with ⟨_, h⟩ | ⟨g, cap, cur, hv, _, hg, _, _, hcs, ht⟩
                                      · omega
                                      · exact ⟨g, cap, cur, (Value.slice.inj hv).1, hg, hcs, ht⟩
                                    subst hv
                                    have hgw : g = wi.heap.size := by
                                      have := HNEW.out (by omega)
                                      simp only [Value.ownBlock] at this
                                      injection this
                                    have hOg : O < g := by omega
                                    have hwjg : wj.heap[g]? = some (.cells (renRow (off (goes d 128) Ll.q) Lu.q tn pn 0 (cur.toList.drop ((qn + Hu.q.n) * 8))).toArray 128 (0, 0)) := by
                                      rw [HJ4.out g (by omega), hg]
                                      have e : cur = (renRow (off (goes d 128) Ll.q) Lu.q tn pn 0 (cur.toList.drop ((qn + Hu.q.n) * 8))).toArray := by
                                        apply Array.ext'
                                        simp only [renRow, List.take_zero, List.map_nil, List.append_nil, List.drop_zero]
                                        rw [← List.append_assoc, ← List.flatMap_append, ← htake, List.take_append_drop]
                                      rw [← e]
                                    obtain ⟨spare, hsp⟩ : ∃ spare, spare = cur.toList.drop ((qn + Hu.q.n) * 8) := ⟨_, rfl⟩
                                    rw [← hsp] at hwjg
                                    have HG0 := hidMk hwjg
                                    have HLQ : Hid (Lu.q.length = Hu.q.n) := hidMk HVU.out.lq
                                    have HCO : Hid (wj.cell? ⟨O, 13, none⟩ = some (.slice (some ⟨g, 0, none⟩) (qn + Hu.q.n) vc')) := hidMk ((cell_of_row _ _ 13 _ _ (0, 0) HW5.out.ou).trans rfl)
                                    have HGW : Hid (wi.heap.size ≤ g) := hidMk (by omega)
                                    clear hwjg hsp htake hcs hg hgw
                                    go_wp2_with fail
                                    go_loopw [11] (fun i wr => ∃ j : Nat, i = .int .i64 ((qn + j : Nat) : Int) ∧ j ≤ Hu.q.n ∧ wj.grownBy wr (some g) ∧ wr.heap[g]? = some (.cells (renRow (off (goes d 128) Ll.q) Lu.q tn pn j spare).toArray 128 (0, 0))) (fun i _ => qn + Hu.q.n - (intOf i).toNat)
                                    case atStart => exact ⟨0, rfl, by omega, ⟨rfl, rfl, rfl, Nat.le_refl _, fun _ _ _ => rfl⟩, HG0.out⟩
                                    case round =>
                                      obtain ⟨j, rfl, hj, hgr, hblk⟩ := hrel
                                      have cO := hgr.cell HCO.out (by show some O ≠ some g; intro e; injection e with e; omega)
                                      have lOr : O < wr.heap.size := World.block_lt_of_cell? _ _ cO
                                      have lg := lt_of_heap hblk
                                      have HGR := hidMk hgr
                                      by_cases hlt : j < Hu.q.n
                                      · obtain ⟨x, hx⟩ : ∃ x, Lu.q[j]? = some x := ⟨Lu.q[j]'(by have := HLQ.out; omega), by simp⟩
                                        have hpl := renRow_len (T := tn) (P := pn) HQL.out (show j ≤ Lu.q.length by have := HLQ.out; omega)
                                        have hb2 := hblk
                                        rw [renRow_at hx] at hb2
                                        have HNX := hidMk (renRow_next (xs := off (goes d 128) Ll.q) (T := tn) (P := pn) (spare := spare) hx)
                                        obtain ⟨pre, hpre⟩ : ∃ pre, pre = (off (goes d 128) Ll.q ++ (Lu.q.take j).map (renum tn pn)).flatMap Pa.a := ⟨_, rfl⟩
                                        obtain ⟨post, hpost⟩ : ∃ post, post = (Lu.q.drop (j + 1)).flatMap Pa.a ++ spare := ⟨_, rfl⟩
                                        rw [← hpre, ← hpost] at hb2 HNX
                                        rw [← hpre] at hpl
                                        obtain ⟨K, hK⟩ : ∃ K, K = qn + j := ⟨_, rfl⟩
                                        rw [← hK] at hpl ⊢
                                        have HBL := hidMk hb2
                                        have HPL2 := hidMk hpl
                                        obtain ⟨x1, x2, x3, x4, x5, x6, x7, x8⟩ := x
                                        have e0 : wr.cell? ⟨g, K * 8, none⟩ = some (.int .u8 x1) := (cell_of_row _ _ _ _ _ (0, 0) hb2).trans (List.getElem?_toArray.trans ((ren_get hpl 0 (by omega)).trans rfl))
                                        have e1 : wr.cell? ⟨g, K * 8 + 1, none⟩ = some (.int .i64 x2) := (cell_of_row _ _ _ _ _ (0, 0) hb2).trans (List.getElem?_toArray.trans ((ren_get hpl 1 (by omega)).trans rfl))
                                        have e2 : wr.cell? ⟨g, K * 8 + 2, none⟩ = some (.int .i64 x3) := (cell_of_row _ _ _ _ _ (0, 0) hb2).trans (List.getElem?_toArray.trans ((ren_get hpl 2 (by omega)).trans rfl))
                                        have gG : ∀ o, wr.frozen? ⟨g, o, none⟩ = false := fun o => frozen_of_row _ _ _ _ _ hb2
                                        have k0 : (0 : Int) ≤ (K : Int) := by omega
                                        have k1 : (K : Int) < ((qn + Hu.q.n : Nat) : Int) := by omega
                                        have k2 : K < qn + Hu.q.n := by omega
                                        have HKK := hidMk hK
                                        clear hgr hblk hb2 hpl hx hpre hpost hK
                                        by_cases h3 : x1 = 3
                                        · subst h3
                                          have HRH := hidMk (ren_heap (K := K) (a := .int .i64 (wrap64 (x2 + tn))) (b := .int .i64 (wrap64 (x3 + pn))) (y := renum tn pn ⟨3, x2, x3, x4, x5, x6, x7, x8⟩) HBL.out HPL2.out (by simp [Pa.a, renum]))
                                          go_wp2_with fail
                                          go_light
                                          exact ⟨⟨j + 1, by rw [HKK.out]; go_num, by omega, grown_set (grown_set HGR.out), by rw [HNX.out]; exact HRH.out⟩, by simp [intOf]; omega⟩
                                        · have HRH := hidMk (ren_heap (K := K) (a := .int .i64 (wrap64 (x2 + tn))) (b := .int .i64 (wrap64 (x3 + tn))) (y := renum tn pn ⟨x1, x2, x3, x4, x5, x6, x7, x8⟩) HBL.out HPL2.out (by simp [Pa.a, renum, h3]))
                                          go_wp2_with fail
                                          go_light
                                          exact ⟨⟨j + 1, by rw [HKK.out]; go_num, by omega, grown_set (grown_set HGR.out), by rw [HNX.out]; exact HRH.out⟩, by simp [intOf]; omega⟩
                                      · have hjn : j = Hu.q.n := by omega
                                        subst hjn
                                        have HBL := hidMk hblk
                                        clear hgr hblk
                                        go_wp2_with fail
                                        go_meet
                                        case rel =>
                                          have hb3 := HBL.out
                                          rw [renRow, List.take_of_length_le (by have := HLQ.out; omega)] at hb3
                                          exact ⟨g, HGW.out, HGR.out, arow_row Pa.a_len hb3⟩
                                case rest =>
                                  rename World => wk
                                  obtain ⟨g, hgi, hgr, harow⟩ := hcut
                                  have HW6 := hidMk (HW5.out.grown hgr (by omega))
                                  have HOUT : Hid (Out wi wk O (O + 1)) := hidMk ⟨hgr.os.trans (HJO.out.kept.os.trans HB4.out.os), hgr.tape.trans (HJO.out.kept.tape.trans HB4.out.tape), hgr.output.trans (HJO.out.kept.output.trans HB4.out.output), Nat.le_trans HWI.out (Nat.le_trans (Nat.le_of_eq HJS.out.symm) hgr.size), fun k hk hk' => (hgr.block k (by have := HWI.out; have := HJS.out; omega) (fun e => by injection e with e; omega)).trans ((HJ4.out k (by omega)).trans (HB4.out.block k hk))⟩
                                  have HRq := hidMk harow
                                  clear hgi hgr harow
                                  have lO6 := lt_of_heap HW6.out.ou
                                  have HRA : Hid (wk.rangeAt O 0 [.string Tu.i, .string Tu.nm, .float .f64 Tu.la, .float .f64 Tu.lo, .float .f64 Tu.el, .float .f32 Tu.mv, .slice vr.a vr.n vr.c, .slice vs.a vs.n vs.c, .slice vc.a vc.n vc.c, .slice vh.a vh.n vh.c, .pointer Du, .slice vp.a vp.n vp.c, .slice vt.a vt.n vt.c, .slice va (qn + Hu.q.n) vc']) := hidMk (fun j v hv => by rw [cell_of_row _ _ _ _ _ (0, 0) HW6.out.ou]; simpa using hv)
                                  have HTH : Hid (wk.there (w.heap.size + 1 + 1) 0 14) := hidMk (fun j hj => by
                                    rw [cell_of_row _ _ _ _ _ (0, 0) HW6.out.ov.bre]
                                    refine ⟨?_, frozen_of_row _ _ _ _ _ HW6.out.ov.bre⟩
                                    rw [List.getElem?_toArray, List.getElem?_eq_getElem (by simpa using hj)]; rfl)
                                  go_wp2_with (first | (refine wpList_load_mid rfl 45 _ rfl O 0 rfl _ _ HRA.out Try.underlying45 rfl zero45 ?_) | (refine wpList_store_list rfl 45 _ _ rfl (w.heap.size + 1 + 1) 0 _ rfl rfl HTH.out zero45 rfl ?_))
                                  refine bodyPost_ret (results_cell_row rfl _ _ (w.heap.size + 1 + 1) 45 _ (0, 0) _ rfl (heap_setCells [.string Tu.i, .string Tu.nm, .float .f64 Tu.la, .float .f64 Tu.lo, .float .f64 Tu.el, .float .f32 Tu.mv, .slice vr.a vr.n vr.c, .slice vs.a vs.n vs.c, .slice vc.a vc.n vc.c, .slice vh.a vh.n vh.c, .pointer Du, .slice vp.a vp.n vp.c, .slice vt.a vt.n vt.c, .slice va (qn + Hu.q.n) vc'] 0 _ _ HW6.out.ov.bre (by simp)) Try.underlying45 rfl zero45) rfl ⟨⟨vr, vs, vc, vh, vp, vt, ⟨va, qn + Hu.q.n, vc'⟩⟩, off (goes d 128) pl ++ pu, rfl, ?_, ?_⟩
                                  · exact below_setCells HW6.out.ov.below (by omega) (by have := HW6.out.ov.below.size; omega)
                                  · have hbg := HW6.out.big
                                    have hbf := below_setCells (o := 0) (vs := [.string Tu.i, .string Tu.nm, .float .f64 Tu.la, .float .f64 Tu.lo, .float .f64 Tu.el, .float .f32 Tu.mv, .slice vr.a vr.n vr.c, .slice vs.a vs.n vs.c, .slice vc.a vc.n vc.c, .slice vh.a vh.n vh.c, .pointer Du, .slice vp.a vp.n vp.c, .slice vt.a vt.n vt.c, .slice va (qn + Hu.q.n) vc']) (g := w.heap.size + 1 + 1) HW6.out.ov.below (by omega) (by have := HW6.out.ov.below.size; omega)
                                    refine ⟨HKr.out, HKs.out, HKc.out, HKh.out, HKp.out, HKt.out, by show (off _ _ ++ _).length = _; rw [List.length_append, List.length_map, HQL.out, HVU.out.lq], ?_, ?_, ?_, ?_, ?_, ?_, ?_, (off_pk (HOL.out.x.below hbf)).append (HVU.out.px.below hbf)⟩
                                    · exact arow_fin (ARow.out HRr.out HOUT.out (fun hp A hA => by have := HLr.out hp A hA; omega)) HLr.out (by omega) hbg
                                    · exact arow_fin (ARow.out HRs.out HOUT.out (fun hp A hA => by have := HLs.out hp A hA; omega)) HLs.out (by omega) hbg
                                    · exact arow_fin (ARow.out HRc.out HOUT.out (fun hp A hA => by have := HLc.out hp A hA; omega)) HLc.out (by omega) hbg
                                    · exact arow_fin (ARow.out HRh.out HOUT.out (fun hp A hA => by have := HLh.out hp A hA; omega)) HLh.out (by omega) hbg
                                    · exact arow_fin (ARow.out HRp.out HOUT.out (fun hp A hA => by have := HLp.out hp A hA; omega)) HLp.out (by omega) hbg
                                    · exact arow_fin (ARow.out HRt.out HOUT.out (fun hp A hA => by have := HLt.out hp A hA; omega)) HLt.out (by omega) hbg
                                    · show ARow Pa.a 8 _ _ (off _ _ ++ Lu.q.map (renum _ _))
                                      rw [HTL.out, HPL.out]
                                      exact arow_fin HRq.out (fun hp A hA => K6.out (by simpa using hp) A hA) (.inr rfl) hbg
                              · have HZ0 : Hid (tn = 0 ∧ pn = 0) := hidMk (by have := HB.out; simpa using this.symm)
                                have HQM : Hid (Lu.q.map (renum (off (goes d 128) Ll.t).length (off (goes d 128) Ll.x).length) = Lu.q) := hidMk (by rw [HTL.out, HPL.out, HZ0.out.1, HZ0.out.2]; exact renum_same HRG.out)
                                go_wp2_with fail
                                refine (appListPa (hd (goes d 128) Hl.q) Hu.q (off (goes d 128) Ll.q) Lu.q wi base HWq.out HVU.out.lq (HVU.out.rq.below HW.out.ov.below) HNU.out.q HCU.out.q (by omega) hbs).mono ?_
                                rintro _ w4 ⟨vq, rfl, k1, k2, k3, k4, k5, k6⟩
                                have HB4 := hidMk (k5 HFq.out)
                                have K1 := hidMk k1
                                have K3 := hidMk k3
                                have HOU := hidMk (Below.out HB4.out 0 0)
                                have K6 := hidMk (app_loc Pa.a_len (by omega) (.inl ⟨HFq.out, fun g hg => ((hd_own (goes d 128) HOL.out.q).lt g hg).2⟩ : Zo 0 0 w.heap.size (hd (goes d 128) Hl.q)) HVU.out.rq lO k6)
                                have HOC := hidMk ((HB4.out.block O lO).trans HW.out.ou)
                                have cO : w4.cell? ⟨O, 13, none⟩ = some _ := (cell_of_row _ _ 13 _ _ (0, 0) HOC.out).trans rfl
                                have gO : w4.frozen? ⟨O, 13, none⟩ = false := frozen_of_row _ _ _ _ _ HOC.out
                                have lO4 := lt_of_heap HOC.out
                                have HW5 := hidMk (HW.out.step (f := 13) (v := .slice vq.a vq.n vq.c) HOU.out (.inr rfl) (Nat.zero_le _))
                                simp only [List.set_cons_succ, List.set_cons_zero] at HW5
                                have HRA : Hid ((w4.setCell ⟨O, 13, none⟩ (.slice vq.a vq.n vq.c)).rangeAt O 0 [.string Tu.i, .string Tu.nm, .float .f64 Tu.la, .float .f64 Tu.lo, .float .f64 Tu.el, .float .f32 Tu.mv, .slice vr.a vr.n vr.c, .slice vs.a vs.n vs.c, .slice vc.a vc.n vc.c, .slice vh.a vh.n vh.c, .pointer Du, .slice vp.a vp.n vp.c, .slice vt.a vt.n vt.c, .slice vq.a vq.n vq.c]) := hidMk (fun j v hv => by rw [cell_of_row _ _ _ _ _ (0, 0) HW5.out.ou]; simpa using hv)
                                have HTH : Hid ((w4.setCell ⟨O, 13, none⟩ (.slice vq.a vq.n vq.c)).there (w.heap.size + 1 + 1) 0 14) := hidMk (fun j hj => by
                                  rw [cell_of_row _ _ _ _ _ (0, 0) HW5.out.ov.bre]
                                  refine ⟨?_, frozen_of_row _ _ _ _ _ HW5.out.ov.bre⟩
                                  rw [List.getElem?_toArray, List.getElem?_eq_getElem (by simpa using hj)]; rfl)
                                clear k1 k2 k3 k4 k5 k6 cX cY
                                go_wp2_with (first | (refine wpList_load_mid rfl 45 _ rfl O 0 rfl _ _ HRA.out Try.underlying45 rfl zero45 ?_) | (refine wpList_store_list rfl 45 _ _ rfl (w.heap.size + 1 + 1) 0 _ rfl rfl HTH.out zero45 rfl ?_))
                                refine bodyPost_ret (results_cell_row rfl _ _ (w.heap.size + 1 + 1) 45 _ (0, 0) _ rfl (heap_setCells [.string Tu.i, .string Tu.nm, .float .f64 Tu.la, .float .f64 Tu.lo, .float .f64 Tu.el, .float .f32 Tu.mv, .slice vr.a vr.n vr.c, .slice vs.a vs.n vs.c, .slice vc.a vc.n vc.c, .slice vh.a vh.n vh.c, .pointer Du, .slice vp.a vp.n vp.c, .slice vt.a vt.n vt.c, .slice vq.a vq.n vq.c] 0 _ _ HW5.out.ov.bre (by simp)) Try.underlying45 rfl zero45) rfl ⟨⟨vr, vs, vc, vh, vp, vt, vq⟩, off (goes d 128) pl ++ pu, rfl, ?_, ?_⟩
                                · exact below_setCells HW5.out.ov.below (by omega) (by have := HW5.out.ov.below.size; omega)
                                · have hbg := HW5.out.big
                                  have hbf := below_setCells (o := 0) (vs := [.string Tu.i, .string Tu.nm, .float .f64 Tu.la, .float .f64 Tu.lo, .float .f64 Tu.el, .float .f32 Tu.mv, .slice vr.a vr.n vr.c, .slice vs.a vs.n vs.c, .slice vc.a vc.n vc.c, .slice vh.a vh.n vh.c, .pointer Du, .slice vp.a vp.n vp.c, .slice vt.a vt.n vt.c, .slice vq.a vq.n vq.c]) (g := w.heap.size + 1 + 1) HW5.out.ov.below (by omega) (by have := HW5.out.ov.below.size; omega)
                                  refine ⟨HKr.out, HKs.out, HKc.out, HKh.out, HKp.out, HKt.out, by show (off _ _ ++ _).length = _; rw [HQM.out]; exact K1.out, ?_, ?_, ?_, ?_, ?_, ?_, ?_, (off_pk (HOL.out.x.below hbf)).append (HVU.out.px.below hbf)⟩
                                  · exact arow_fin (arow_step (f := 13) (v := .slice vq.a vq.n vq.c) HRr.out HOU.out HLr.out (.inr rfl) (.inr (.inr rfl)) (Nat.zero_le _) (by omega) (by omega)) HLr.out (by omega) hbg
                                  · exact arow_fin (arow_step (f := 13) (v := .slice vq.a vq.n vq.c) HRs.out HOU.out HLs.out (.inr rfl) (.inr (.inr rfl)) (Nat.zero_le _) (by omega) (by omega)) HLs.out (by omega) hbg
                                  · exact arow_fin (arow_step (f := 13) (v := .slice vq.a vq.n vq.c) HRc.out HOU.out HLc.out (.inr rfl) (.inr (.inr rfl)) (Nat.zero_le _) (by omega) (by omega)) HLc.out (by omega) hbg
                                  · exact arow_fin (arow_step (f := 13) (v := .slice vq.a vq.n vq.c) HRh.out HOU.out HLh.out (.inr rfl) (.inr (.inr rfl)) (Nat.zero_le _) (by omega) (by omega)) HLh.out (by omega) hbg
                                  · exact arow_fin (arow_step (f := 13) (v := .slice vq.a vq.n vq.c) HRp.out HOU.out HLp.out (.inr rfl) (.inr (.inr rfl)) (Nat.zero_le _) (by omega) (by omega)) HLp.out (by omega) hbg
                                  · exact arow_fin (arow_step (f := 13) (v := .slice vq.a vq.n vq.c) HRt.out HOU.out HLt.out (.inr rfl) (.inr (.inr rfl)) (Nat.zero_le _) (by omega) (by omega)) HLt.out (by omega) hbg
                                  · show ARow Pa.a 8 _ _ (off _ _ ++ _)
                                    rw [HQM.out]
                                    exact arow_fin (arow_set K3.out K6.out (by omega) (Nat.zero_le _)) K6.out (.inr rfl) hbg
end Go.Proofs.Qxb6619005a
