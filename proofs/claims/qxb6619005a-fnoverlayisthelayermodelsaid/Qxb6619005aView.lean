import Derived.Test.Qxb6619005aDelV
namespace Go.Proofs.Qxb6619005a
open Go.RowKit

structure Top where
  i : ByteArray
  nm : ByteArray
  la : Nat
  lo : Nat
  el : Nat
  mv : Nat
structure Heads where
  r : Sl
  s : Sl
  c : Sl
  h : Sl
  p : Sl
  t : Sl
  q : Sl
structure Lists where
  r : List Rw
  s : List St
  c : List Cm
  h : List Hp
  x : List (Pc × List ByteArray)
  t : List Tp
  q : List Pa

/-- An airport's cells. -/
def cellsOf (T : Top) (H : Heads) (D : Option Addr) : List Value := [.string T.i, .string T.nm, .float .f64 T.la, .float .f64 T.lo, .float .f64 T.el, .float .f32 T.mv, .slice H.r.a H.r.n H.r.c, .slice H.s.a H.s.n H.s.c, .slice H.c.a H.c.n H.c.c, .slice H.h.a H.h.n H.h.c, .pointer D, .slice H.p.a H.p.n H.p.c, .slice H.t.a H.t.n H.t.c, .slice H.q.a H.q.n H.q.c]

/-- The heads 'H' stand for the lists 'L'. -/
structure View (f : Rw → List Value) (k : Nat) (w : World) (H : Heads) (L : Lists) (ps : List Pk) : Prop where
  lr : L.r.length = H.r.n
  ls : L.s.length = H.s.n
  lc : L.c.length = H.c.n
  lh : L.h.length = H.h.n
  lp : ps.length = H.p.n
  lt : L.t.length = H.t.n
  lq : L.q.length = H.q.n
  rr : ARow f k w H.r.a L.r
  rs : ARow St.z 7 w H.s.a L.s
  rc : ARow Cm.z 3 w H.c.a L.c
  rh : ARow Hp.z 14 w H.h.a L.h
  rp : ARow Pk.z 10 w H.p.a ps
  rt : ARow Tp.z 5 w H.t.a L.t
  rq : ARow Pa.z 8 w H.q.a L.q
  px : PkIs w ps L.x

theorem View.below {f : Rw → List Value} {k : Nat} {w w' : World} {H : Heads} {L : Lists} {ps : List Pk} (h : View f k w H L ps) (hb : Below w.heap.size w w') : View f k w' H L ps :=
  ⟨h.lr, h.ls, h.lc, h.lh, h.lp, h.lt, h.lq, h.rr.below hb, h.rs.below hb, h.rc.below hb, h.rh.below hb, h.rp.below hb, h.rt.below hb, h.rq.below hb, h.px.below hb⟩

/-- A bound, and that a nil slice is empty. -/
def Sl.ok (M : Nat) (s : Sl) : Prop := s.n ≤ M ∧ (s.a = none → s.n = 0 ∧ s.c = 0)
structure Fine (M : Nat) (H : Heads) (x : List (Pc × List ByteArray)) : Prop where
  r : H.r.ok M
  s : H.s.ok M
  c : H.c.ok M
  h : H.h.ok M
  p : H.p.ok M
  t : H.t.ok M
  q : H.q.ok M
  x : ∀ y ∈ x, y.2.length ≤ M

/-- The rows are the airport's own, each as long as its array. -/
structure Own (w : World) (base : Nat) (H : Heads) (L : Lists) (ps : List Pk) : Prop where
  r : w.ownsRow base 82 52 (.slice H.r.a H.r.n H.r.c) H.r.n (L.r.flatMap Rw.a)
  s : w.ownsRow base 87 7 (.slice H.s.a H.s.n H.s.c) H.s.n (L.s.flatMap St.a)
  c : w.ownsRow base 90 3 (.slice H.c.a H.c.n H.c.c) H.c.n (L.c.flatMap Cm.a)
  h : w.ownsRow base 96 14 (.slice H.h.a H.h.n H.h.c) H.h.n (L.h.flatMap Hp.a)
  p : w.ownsRow base 119 10 (.slice H.p.a H.p.n H.p.c) H.p.n (ps.flatMap Pk.a)
  t : w.ownsRow base 125 5 (.slice H.t.a H.t.n H.t.c) H.t.n (L.t.flatMap Tp.a)
  q : w.ownsRow base 128 8 (.slice H.q.a H.q.n H.q.c) H.q.n (L.q.flatMap Pa.a)
  x : PkIs w ps L.x
  cr : H.r.c = H.r.n
  cs : H.s.c = H.s.n
  cc : H.c.c = H.c.n
  ch : H.h.c = H.h.n
  cp : H.p.c = H.p.n
  ct : H.t.c = H.t.n
  cq : H.q.c = H.q.n
  f : Far base ps

theorem Own.view {w : World} {base : Nat} {H : Heads} {L : Lists} {ps : List Pk} (h : Own w base H L ps) : View Rw.a 52 w H L ps := by
  obtain ⟨r1, r2⟩ := owns_arow Rw.a Rw.a_len (by omega) h.r
  obtain ⟨s1, s2⟩ := owns_arow St.a St.a_len (by omega) h.s
  obtain ⟨c1, c2⟩ := owns_arow Cm.a Cm.a_len (by omega) h.c
  obtain ⟨h1, h2⟩ := owns_arow Hp.a Hp.a_len (by omega) h.h
  obtain ⟨p1, p2⟩ := owns_arow Pk.a Pk.a_len (by omega) h.p
  obtain ⟨t1, t2⟩ := owns_arow Tp.a Tp.a_len (by omega) h.t
  obtain ⟨q1, q2⟩ := owns_arow Pa.a Pa.a_len (by omega) h.q
  exact ⟨r2, s2, c2, h2, p2, t2, q2, r1, s1, c1, h1, p1, t1, q1, h.x⟩

theorem owns_base {w : World} {base base' e k n : Nat} {v : Value} {xs : List Value} (hb : base' ≤ base) (h : w.ownsRow base e k v n xs) : w.ownsRow base' e k v n xs := by
  obtain ⟨h1, h2⟩ := h
  refine ⟨h1, ?_⟩
  rcases h2 with h2 | ⟨g, cap, cur, hv, hg, hr⟩
  · exact .inl h2
  · exact .inr ⟨g, cap, cur, hv, by omega, hr⟩
theorem owns_below {w w' : World} {base e k n : Nat} {v : Value} {xs : List Value} (h : w.ownsRow base e k v n xs) (hb : Below w.heap.size w w') : w'.ownsRow base e k v n xs := owns_kept h (fun b _ hlt => hb.block b hlt)
theorem Own.below {w w' : World} {base : Nat} {H : Heads} {L : Lists} {ps : List Pk} (h : Own w base H L ps) (hb : Below w.heap.size w w') : Own w' base H L ps :=
  ⟨owns_below h.r hb, owns_below h.s hb, owns_below h.c hb, owns_below h.h hb, owns_below h.p hb, owns_below h.t hb, owns_below h.q hb, h.x.below hb, h.cr, h.cs, h.cc, h.ch, h.cp, h.ct, h.cq, h.f⟩
theorem isSome_not (a : Option Addr) : a.isSome = !a.isNone := by cases a <;> rfl
end Go.Proofs.Qxb6619005a
