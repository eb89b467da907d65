import Derived.Test.Qxb6616435aBytes
namespace Go.Proofs.Qxb6616435a
open Go.RowKit

/-- The memory of the first law: pool at 'B', the two transactions, the wanted bits, the marks of what was named. -/
structure S5 (w wr : World) (B : Nat) (A : Nat → Nat) (C : Array Value) (mf : Option Nat) (Lf : List (Nat × Nat)) (mb : Option Nat) (Lb : List (Nat × Nat)) (g : Nat → Nat) (s : Nat → Bool) : Prop where
  base : Base w wr B A C
  hf : Hold wr A (B + 4) (B + 1) mf Lf
  hb : Hold wr A (B + 4) (B + 2) mb Lb
  nfb : ∀ r, mf = some r → mb ≠ some r
  want : Own wr (B + 3) 34 (cells16 g)
  seen : Own wr (B + 4) 35 (cellsB s)

section
variable {w wr w' : World} {B : Nat} {A : Nat → Nat} {C : Array Value} {mf mb : Option Nat} {Lf Lb L' : List (Nat × Nat)} {g : Nat → Nat} {s : Nat → Bool}

theorem S5.drew (h : S5 w wr B A C mf Lf mb Lb g s) : S5 w wr.drew B A C mf Lf mb Lb g s :=
  ⟨h.base.fr (fr_drew wr) (fun _ hf => hf.elim), h.hf.fr (fr_drew wr) (fun hf => hf) (fun _ _ hf => hf), h.hb.fr (fr_drew wr) (fun hf => hf) (fun _ _ hf => hf), h.nfb, h.want.fr (fr_drew wr) (fun hf => hf), h.seen.fr (fr_drew wr) (fun hf => hf)⟩

theorem S5.holdF (h : S5 w wr B A C mf Lf mb Lb g s) (hh : Held wr w' A (B + 1) mf L') : ∃ r, S5 w w' B A C (some r) L' mb Lb g s := by
  have lt := h.seen.lt
  obtain ⟨r, h1, h2⟩ := hh.hold h.hf.new lt
  refine ⟨r, h.base.fr hh.frame (fun k hk => ?_), h1, h.hb.fr hh.frame (fun hd => ?_) (fun q hq hd => ?_), ?_, h.want.fr hh.frame (fun hd => ?_), h.seen.fr hh.frame (fun hd => ?_)⟩
  · rcases hk with rfl | hk
    · omega
    · have := h.hf.new k hk; omega
  · rcases hd with hd | hd
    · omega
    · have := h.hf.new _ hd; omega
  · rcases hd with hd | hd
    · have := h.hb.new q hq; omega
    · exact h.nfb q hd hq
  · intro q hq e
    cases hq
    rcases h2 with h2 | ⟨_, h2⟩
    · exact h.nfb _ h2 e
    · subst e
      have := h.hb.map.lt
      omega
  · rcases hd with hd | hd
    · omega
    · have := h.hf.new _ hd; omega
  · rcases hd with hd | hd
    · omega
    · have := h.hf.new _ hd; omega

theorem S5.holdB (h : S5 w wr B A C mf Lf mb Lb g s) (hh : Held wr w' A (B + 2) mb L') : ∃ r, S5 w w' B A C mf Lf (some r) L' g s := by
  have lt := h.seen.lt
  obtain ⟨r, h1, h2⟩ := hh.hold h.hb.new lt
  refine ⟨r, h.base.fr hh.frame (fun k hk => ?_), h.hf.fr hh.frame (fun hd => ?_) (fun q hq hd => ?_), h1, ?_, h.want.fr hh.frame (fun hd => ?_), h.seen.fr hh.frame (fun hd => ?_)⟩
  · rcases hk with rfl | hk
    · omega
    · have := h.hb.new k hk; omega
  · rcases hd with hd | hd
    · omega
    · have := h.hb.new _ hd; omega
  · rcases hd with hd | hd
    · have := h.hf.new q hq; omega
    · exact h.nfb q hq hd
  · intro q hq e
    cases e
    rcases h2 with h2 | ⟨_, h2⟩
    · exact h.nfb _ hq h2
    · subst hq
      have := h.hf.map.lt
      omega
  · rcases hd with hd | hd
    · omega
    · have := h.hb.new _ hd; omega
  · rcases hd with hd | hd
    · omega
    · have := h.hb.new _ hd; omega

theorem S5.setSeen (h : S5 w wr B A C mf Lf mb Lb g s) (e : Nat) : S5 w (wr.setCell ⟨B + 4, e, none⟩ (.bool true)) B A C mf Lf mb Lb g (fun j => if j = e then true else s j) := by
  have f := fr_setCell wr (B + 4) e (.bool true)
  refine ⟨h.base.fr f (fun k hk => by subst hk; omega), h.hf.fr f (by omega) (fun r hr hd => by have := h.hf.new r hr; omega), h.hb.fr f (by omega) (fun r hr hd => by have := h.hb.new r hr; omega), h.nfb, h.want.fr f (by omega), ?_⟩
  have := h.seen.set e (.bool true)
  unfold cellsB at this ⊢
  rw [row_set] at this
  rwa [row_congr (g := fun j => .bool (if j = e then true else s j)) (fun j _ => by split <;> rfl)] at this

theorem S5.setWant (h : S5 w wr B A C mf Lf mb Lb g s) (e v : Nat) : S5 w (wr.setCell ⟨B + 3, e, none⟩ (.int .u16 (v : Int))) B A C mf Lf mb Lb (fun j => if j = e then v else g j) s := by
  have f := fr_setCell wr (B + 3) e (.int .u16 (v : Int))
  refine ⟨h.base.fr f (fun k hk => by subst hk; omega), h.hf.fr f (by omega) (fun r hr hd => by have := h.hf.new r hr; omega), h.hb.fr f (by omega) (fun r hr hd => by have := h.hb.new r hr; omega), h.nfb, ?_, h.seen.fr f (by omega)⟩
  have := h.want.set e (.int .u16 (v : Int))
  unfold cells16 at this ⊢
  rw [row_set] at this
  rwa [row_congr (g := fun j => .int .u16 (((if j = e then v else g j) : Nat) : Int)) (fun j _ => by split <;> rfl)] at this

theorem S5.congr {g' : Nat → Nat} {s' : Nat → Bool} (h : S5 w wr B A C mf Lf mb Lb g s) (hg : ∀ j, g j = g' j) (hs : ∀ j, s j = s' j) : S5 w wr B A C mf Lf mb Lb g' s' := by
  have e1 : g = g' := funext hg
  have e2 : s = s' := funext hs
  subst e1; subst e2; exact h

theorem S5.round_no {qs : List (Nat × Nat)} {e t : Nat} (h : S5 w wr B A C mf (hold (holdAll qs []) (e, t)) mb Lb (wantOf qs) (seenOf qs)) (h16 : 16 ≤ t) :
    S5 w (wr.setCell ⟨B + 4, e, none⟩ (.bool true)) B A C mf (holdAll (qs ++ [(e, t)]) []) mb Lb (wantOf (qs ++ [(e, t)])) (seenOf (qs ++ [(e, t)])) := by
  rw [holdAll_snoc]
  refine (h.setSeen e).congr (fun j => ?_) (fun j => ?_)
  · rw [wantOf_snoc]
    split
    · unfold addBit; rw [if_pos h16]; simp
    · rfl
  · rw [seenOf_snoc]

theorem S5.round_yes {qs : List (Nat × Nat)} {e t : Nat} (h : S5 w wr B A C mf (hold (holdAll qs []) (e, t)) mb Lb (wantOf qs) (seenOf qs)) :
    S5 w ((wr.setCell ⟨B + 4, e, none⟩ (.bool true)).setCell ⟨B + 3, e, none⟩ (.int .u16 ((addBit (wantOf qs e) t : Nat) : Int))) B A C mf (holdAll (qs ++ [(e, t)]) []) mb Lb (wantOf (qs ++ [(e, t)])) (seenOf (qs ++ [(e, t)])) := by
  rw [holdAll_snoc]
  refine ((h.setSeen e).setWant e (addBit (wantOf qs e) t)).congr (fun j => ?_) (fun j => ?_)
  · rw [wantOf_snoc]
    split
    · rename_i hj; rw [hj]
    · rfl
  · rw [seenOf_snoc]

theorem S5.start {w1 : World} (h : Pooled w w1 A C) : S5 w (((((w1.alloc (.cells C 30)).alloc (.cells #[.int .i64 0, .map none, .bool false, .map none] 63)).alloc (.cells #[.int .i64 0, .map none, .bool false, .map none] 63)).alloc (.cells (cells16 (fun _ => 0)) 34)).alloc (.cells (cellsB (fun _ => false)) 35)) w1.heap.size A C none [] none [] (fun _ => 0) (fun _ => false) := by
  have n1 : ∀ (x : World) (o : Obj) (k : Nat), k = x.heap.size → (x.alloc o).heap[k]? = some o := fun x o k hk => by subst hk; exact heap_alloc_new x o
  have n2 : ∀ (x : World) (o : Obj) (k : Nat) (y : Obj), x.heap[k]? = some y → (x.alloc o).heap[k]? = some y := fun x o k y hk => by rw [Below.heap_alloc x o k (lt_of_heap hk)]; exact hk
  refine ⟨?_, ⟨?_, rfl, fun r hr => by cases hr⟩, ⟨?_, rfl, fun r hr => by cases hr⟩, fun r hr => (by cases hr), ?_, ?_⟩
  · exact h.base.fr (D := fun _ => False) (((((Fr.refl _ _).alloc _).alloc _).alloc _).alloc _) (fun _ hf => hf.elim)
  · exact n2 _ _ _ _ (n2 _ _ _ _ (n2 _ _ _ _ (n1 _ _ _ (by simp))))
  · exact n2 _ _ _ _ (n2 _ _ _ _ (n1 _ _ _ (by simp)))
  · exact n2 _ _ _ _ (n1 _ _ _ (by simp))
  · exact n1 _ _ _ (by simp)
end
end Go.Proofs.Qxb6616435a
