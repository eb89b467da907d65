import Derived.Test.Qxb6619005aOv
import Derived.Test.Qxb6619005aAirB
import Derived.Test.Qxb6619005aMod0
import Derived.Test.Qxb6619005aOpen
namespace Go.Proofs.Qxb6619005a
open Go.RowKit

/-! ### What the law's walk hands from one call to the next -/
def Rg (L : Lists) : Prop := ∀ x ∈ L.q, (-9223372036854775808 ≤ x.st ∧ x.st ≤ 9223372036854775807) ∧ (-9223372036854775808 ≤ x.en ∧ x.en ≤ 9223372036854775807)
def Dl3 (d : Option DelV) : Prop := ∀ x, d = some x → x.rd.length ≤ 1048576 ∧ x.sd.length ≤ 1048576 ∧ x.fd.length ≤ 1048576

theorem BytesOk.lens {H : Heads} {L : Lists} {d : Option DelV} (h : BytesOk 131072 H L d) : Lens 1048576 H :=
  ⟨Nat.le_trans h.r (by omega), Nat.le_trans h.s (by omega), Nat.le_trans h.c (by omega), Nat.le_trans h.h (by omega), Nat.le_trans h.p (by omega), Nat.le_trans h.t (by omega), Nat.le_trans h.q (by omega)⟩
theorem BytesOk.del {H : Heads} {L : Lists} {d : Option DelV} (h : BytesOk 131072 H L d) : Dl3 d := fun x hx => by
  obtain ⟨h1, h2, h3⟩ := h.d x hx
  exact ⟨by omega, by omega, by omega⟩
theorem BytesOk.fine {H : Heads} {L : Lists} {d : Option DelV} (h : BytesOk 131072 H L d) (n : NilFine H) : Fine 1048576 H L.x :=
  ⟨⟨h.lens.r, n.r⟩, ⟨h.lens.s, n.s⟩, ⟨h.lens.c, n.c⟩, ⟨h.lens.h, n.h⟩, ⟨h.lens.p, n.p⟩, ⟨h.lens.t, n.t⟩, ⟨h.lens.q, n.q⟩, fun y hy => Nat.le_trans (h.x y hy) (by omega)⟩
/-- The record's bounds, in a later world. -/
theorem delOk_of {w w' : World} {D : Option Addr} {d : Option DelV} (hd : DelIs w D d) (hn : NilOk w D) (hok : Dl3 d) (hb : Below w.heap.size w w') : DelOk w' D := by
  intro B bo hB f hf a n c hc
  rcases hd with ⟨rfl, _⟩ | ⟨B', bo', v, r, s, g, rfl, rfl, e0, e1, e2, e3, l1, l2, l3, _⟩
  · cases hB
  · injection hB with hB
    injection hB with hB1 hB2
    subst hB1 hB2
    obtain ⟨o1, o2, o3⟩ := hok v rfl
    have lB : B' < w.heap.size := World.block_lt_of_cell? _ _ e0
    have hc' : w.cell? ⟨B', bo' + f, none⟩ = some (.slice a n c) := by rw [← hc]; exact (hb.cell (p := ⟨B', bo' + f, none⟩) lB).symm
    refine ⟨?_, hn _ _ rfl f hf a n c hc'⟩
    match f, hf with
    | 0, _ => rw [Nat.add_zero, e0] at hc'; cases hc'
    | 1, _ => rw [e1] at hc'; injection hc' with hs; injection hs with h1 h2 h3; omega
    | 2, _ => rw [e2] at hc'; injection hc' with hs; injection hs with h1 h2 h3; omega
    | 3, _ => rw [e3] at hc'; injection hc' with hs; injection hs with h1 h2 h3; omega

/-- The heads of the same lists are as long. -/
theorem lens_same {f g : Rw → List Value} {k k' : Nat} {w w' : World} {H H' : Heads} {L : Lists} {ps ps' : List Pk} {M : Nat} (v : View f k w H L ps) (v' : View g k' w' H' L ps') (h : Lens M H) : Lens M H' where
  r := by rw [← v'.lr, v.lr]; exact h.r
  s := by rw [← v'.ls, v.ls]; exact h.s
  c := by rw [← v'.lc, v.lc]; exact h.c
  h := by rw [← v'.lh, v.lh]; exact h.h
  p := by rw [← v'.lp, v'.px.length, ← v.px.length, v.lp]; exact h.p
  t := by rw [← v'.lt, v.lt]; exact h.t
  q := by rw [← v'.lq, v.lq]; exact h.q
theorem Own.caps {w : World} {base : Nat} {H : Heads} {L : Lists} {ps : List Pk} (h : Own w base H L ps) : Caps H :=
  ⟨by rw [h.cr]; omega, by rw [h.cs]; omega, by rw [h.cc]; omega, by rw [h.ch]; omega, by rw [h.cp]; omega, by rw [h.ct]; omega, by rw [h.cq]; omega⟩
theorem arow_nil {α : Type} {f : α → List Value} {K : Nat} {w : World} {a : Option Addr} {xs : List α} {n : Nat} (h : ARow f K w a xs) (hl : xs.length = n) : a = none → n = 0 := fun ha => by
  rcases Nat.lt_or_ge 0 xs.length with h0 | h0
  · obtain ⟨b, o, hb, _⟩ := h h0
    rw [ha] at hb
    cases hb
  · omega
theorem View.nils {f : Rw → List Value} {k : Nat} {w : World} {H : Heads} {L : Lists} {ps : List Pk} (h : View f k w H L ps) : Nils H :=
  ⟨arow_nil h.rr h.lr, arow_nil h.rs h.ls, arow_nil h.rc h.lc, arow_nil h.rh h.lh, arow_nil h.rp h.lp, arow_nil h.rt h.lt, arow_nil h.rq h.lq⟩

theorem off_le {α : Type} (b : Bool) (xs : List α) : (off b xs).length ≤ xs.length := by
  cases b
  · exact Nat.le_refl _
  · exact Nat.zero_le _
theorem keepR_le (d : Option DelV) (xs : List Rw) : (keepR d xs).length ≤ xs.length := by
  cases d
  · exact Nat.le_refl _
  · exact List.length_filter_le _ _
theorem keepS_le (d : Option DelV) (xs : List St) : (keepS d xs).length ≤ xs.length := by
  cases d
  · exact Nat.le_refl _
  · exact List.length_filter_le _ _
theorem keepC_le (d : Option DelV) (xs : List Cm) : (keepC d xs).length ≤ xs.length := by
  cases d
  · exact Nat.le_refl _
  · exact List.length_filter_le _ _
/-- The laid lists stay under the bound. -/
structure LayOk (L : Lists) : Prop where
  m : L.r.length ≤ 1048576 ∧ L.s.length ≤ 1048576 ∧ L.c.length ≤ 1048576 ∧ L.h.length ≤ 1048576 ∧ L.x.length ≤ 1048576 ∧ L.t.length ≤ 1048576 ∧ L.q.length ≤ 1048576
  x : ∀ y ∈ L.x, y.2.length ≤ 1048576
theorem layOk {f g : Rw → List Value} {k k' : Nat} {w w' : World} {Hl Hu : Heads} {Ll Lu : Lists} {pl pu : List Pk} {dl du d : Option DelV} (vl : View f k w Hl Ll pl) (vu : View g k' w' Hu Lu pu) (hl : BytesOk 131072 Hl Ll dl) (hu : BytesOk 131072 Hu Lu du) : LayOk (lay Ll Lu d) where
  m := by
    have a1 := off_le (goes d 32) (keepR d Ll.r)
    have a2 := keepR_le d Ll.r
    have a3 := off_le (goes d 64) (keepS d Ll.s)
    have a4 := keepS_le d Ll.s
    have a5 := off_le (goes d 8) (keepC d Ll.c)
    have a6 := keepC_le d Ll.c
    have a7 := off_le (goes d 16) Ll.h
    have a8 := off_le (goes d 128) Ll.x
    have a9 := off_le (goes d 128) Ll.t
    have a10 := off_le (goes d 128) Ll.q
    have := vl.lr; have := vl.ls; have := vl.lc; have := vl.lh; have := vl.lp; have := vl.px.length; have := vl.lt; have := vl.lq
    have := vu.lr; have := vu.ls; have := vu.lc; have := vu.lh; have := vu.lp; have := vu.px.length; have := vu.lt; have := vu.lq
    have := hl.r; have := hl.s; have := hl.c; have := hl.h; have := hl.p; have := hl.t; have := hl.q
    have := hu.r; have := hu.s; have := hu.c; have := hu.h; have := hu.p; have := hu.t; have := hu.q
    simp only [lay, List.length_append, List.length_map]
    refine ⟨by omega, by omega, by omega, by omega, by omega, by omega, by omega⟩
  x := fun y hy => by
    simp only [lay, List.mem_append] at hy
    rcases hy with hy | hy
    · have : y ∈ Ll.x := by
        revert hy
        cases goes d 128
        · exact fun h => h
        · exact fun h => by simp [off] at h
      have := hl.x y this
      omega
    · have := hu.x y hy
      omega
theorem LayOk.heads {f : Rw → List Value} {k : Nat} {w : World} {H : Heads} {L : Lists} {ps : List Pk} (h : LayOk L) (v : View f k w H L ps) : H.r.n ≤ 1048576 ∧ H.s.n ≤ 1048576 ∧ H.c.n ≤ 1048576 ∧ H.h.n ≤ 1048576 ∧ H.p.n ≤ 1048576 ∧ H.t.n ≤ 1048576 ∧ H.q.n ≤ 1048576 := by
  obtain ⟨m1, m2, m3, m4, m5, m6, m7⟩ := h.m
  have := v.lr; have := v.ls; have := v.lc; have := v.lh; have := v.lp; have := v.px.length; have := v.lt; have := v.lq
  exact ⟨by omega, by omega, by omega, by omega, by omega, by omega, by omega⟩
end Go.Proofs.Qxb6619005a
