import Derived.Test.Qxb6616435aLaw5
namespace Go.Proofs.Qxb6616435a
open Go.RowKit

set_option maxHeartbeats 400000 in
theorem bytes16 (a0 a1 : Option Addr) (n0 n1 c0 c1 : Nat) (x y : Int) (w : World) (h0 : n0 ≤ maxLen) (h1 : n1 ≤ maxLen) :
    Calls Try.prog 16 #[.slice a0 n0 c0, .slice a1 n1 c1, .int .u8 x, .int .u8 y] w fun e w' => e = .returned (.bool (decide (n0 + n1 ≤ 1048576))) ∧ w' = w := by
  unfold maxLen at h0 h1
  by_cases g0 : n0 ≤ 1048576
  · have i0 : decide ((1048576 : Int) < (n0 : Int)) = false := by simp; omega
    by_cases g1 : n1 ≤ 1048576
    · have i1 : decide ((1048576 : Int) < (n1 : Int)) = false := by simp; omega
      by_cases g2 : n0 + n1 ≤ 1048576
      · have i2 : decide ((1048576 : Int) < (n0 : Int) + (n1 : Int)) = false := by simp; omega
        have hg : decide (n0 + n1 ≤ 1048576) = true := by simpa using g2
        rw [hg]
        go_enter Try.func16, Try.ntmps16
        go_wp2
        go_ret
        exact ⟨rfl, rfl⟩
      · have i2 : decide ((1048576 : Int) < (n0 : Int) + (n1 : Int)) = true := by simp; omega
        have hg : decide (n0 + n1 ≤ 1048576) = false := by simpa using g2
        rw [hg]
        go_enter Try.func16, Try.ntmps16
        go_wp2
        go_ret
        exact ⟨rfl, rfl⟩
    · have i1 : decide ((1048576 : Int) < (n1 : Int)) = true := by simp; omega
      have hg : decide (n0 + n1 ≤ 1048576) = false := by simp; omega
      rw [hg]
      go_enter Try.func16, Try.ntmps16
      go_wp2
      go_ret
      exact ⟨rfl, rfl⟩
  · have i0 : decide ((1048576 : Int) < (n0 : Int)) = true := by simp; omega
    have hg : decide (n0 + n1 ≤ 1048576) = false := by simp; omega
    rw [hg]
    go_enter Try.func16, Try.ntmps16
    go_wp2
    go_ret
    exact ⟨rfl, rfl⟩

theorem bytes16_yes (a0 a1 : Option Addr) (n0 n1 c0 c1 : Nat) (x y : Int) (w : World) (h : n0 + n1 ≤ 1048576) :
    Calls Try.prog 16 #[.slice a0 n0 c0, .slice a1 n1 c1, .int .u8 x, .int .u8 y] w fun e w' => e = .returned (.bool true) ∧ w' = w := by
  have := bytes16 a0 a1 n0 n1 c0 c1 x y w (by unfold maxLen; omega) (by unfold maxLen; omega)
  rwa [show decide (n0 + n1 ≤ 1048576) = true from by simpa using h] at this
theorem bytes16_no (a0 a1 : Option Addr) (n0 n1 c0 c1 : Nat) (x y : Int) (w : World) (h0 : n0 ≤ maxLen) (h1 : n1 ≤ maxLen) (h : ¬ n0 + n1 ≤ 1048576) :
    Calls Try.prog 16 #[.slice a0 n0 c0, .slice a1 n1 c1, .int .u8 x, .int .u8 y] w fun e w' => e = .returned (.bool false) ∧ w' = w := by
  have := bytes16 a0 a1 n0 n1 c0 c1 x y w h0 h1
  rwa [show decide (n0 + n1 ≤ 1048576) = false from by simpa using h] at this

/-- The memory of the second law while the script runs: pool at 'B', the transaction behind it. -/
structure S6 (w wr : World) (B : Nat) (A : Nat → Nat) (C : Array Value) (m : Option Nat) (L : List (Nat × Nat)) : Prop where
  base : Base w wr B A C
  hf : Hold wr A (B + 1) (B + 1) m L

/-- And behind it: the two rows of what was there before. -/
structure T6 (w wr : World) (B : Nat) (A : Nat → Nat) (C : Array Value) (m : Option Nat) (L : List (Nat × Nat)) (D : Nat) (g : Nat → Nat) (s : Nat → Bool) : Prop where
  one : S6 w wr B A C m L
  hD : B + 1 < D
  mD : ∀ r, m = some r → r ≠ D ∧ r ≠ D + 1
  want : Own wr D 34 (cells16 g)
  seen : Own wr (D + 1) 35 (cellsB s)

section
variable {w wr w' : World} {B D : Nat} {A : Nat → Nat} {C : Array Value} {m : Option Nat} {L L' : List (Nat × Nat)} {g : Nat → Nat} {s : Nat → Bool}

theorem S6.drew (h : S6 w wr B A C m L) : S6 w wr.drew B A C m L :=
  ⟨h.base.fr (fr_drew wr) (fun _ hf => hf.elim), h.hf.fr (fr_drew wr) (fun hf => hf) (fun _ _ hf => hf)⟩

theorem S6.hold (h : S6 w wr B A C m L) (hh : Held wr w' A (B + 1) m L') : ∃ r, S6 w w' B A C (some r) L' ∧ (m = some r ∨ (m = none ∧ r = wr.heap.size)) := by
  have lt : B + 1 < wr.heap.size := h.hf.tx.lt
  obtain ⟨r, h1, h2⟩ := hh.hold h.hf.new lt
  refine ⟨r, ⟨h.base.fr hh.frame (fun k hk => ?_), h1⟩, h2⟩
  rcases hk with rfl | hk
  · omega
  · have := h.hf.new k hk; omega

theorem S6.keep (h : S6 w wr B A C m L) (hh : Held wr.drew w' A (B + 1) m L')
    {p0 p1 : Addr} {v0 v1 : Value} {e : Nat} (h0 : w.cell? p0 = some v0) (h1 : w.cell? p1 = some v1) (he : e < 256) : w'.cell? p0 = some v0 ∧ w'.cell? ⟨B, e, none⟩ = some (hp (A e)) ∧ w'.cell? p1 = some v1 := by
  obtain ⟨r, h2, _⟩ := h.drew.hold hh
  exact ⟨(h2.base.below.cell (World.block_lt_of_cell? _ _ h0)).trans h0, h2.base.cell he, (h2.base.below.cell (World.block_lt_of_cell? _ _ h1)).trans h1⟩
theorem S6.call (h : S6 w wr B A C m L) (e t : Nat) (he : e < 256) :
    Calls Try.prog 13 #[.pointer (some ⟨B + 1, 0, none⟩), hp (A e), .int .u8 (t : Int)] wr fun e' w' => e' = .returned (.tuple #[]) ∧ Held wr w' A (B + 1) m (Qxb6616435a.hold L (e, t)) :=
  zzHoldBack_any (B + 1) e t A m L wr h.hf.tx h.hf.map h.base.heads h.base.apart (fun j hj => by have := h.base.hi j hj; omega) he
theorem S6.back {ps : List (Nat × Nat)} (h : S6 w wr B A C m (holdAll ps [])) (i : Nat) (hi : i < 256) (b : Bool) (hb : seenOf ps i = b) (v : Nat) (hv : wantOf ps i = v) :
    Calls Try.prog 14 #[.pointer (some ⟨B + 1, 0, none⟩), hp (A i)] wr fun e w' => e = .returned (.tuple #[.int .u16 (v : Int), .bool b]) ∧ w' = wr := by
  have := zzBackOf_any (B + 1) i A m _ wr h.hf.tx h.hf.map h.base.heads h.base.apart hi
  rwa [look_getD, look_isSome, hb, hv] at this
theorem S6.len {ps : List (Nat × Nat)} (h : S6 w wr B A C m (holdAll ps [])) (hps : ∀ p ∈ ps, p.1 < 256) (c : Nat) (hc : cnt (seenOf ps) 256 = c) :
    Calls Try.prog 15 #[.pointer (some ⟨B + 1, 0, none⟩)] wr fun e w' => e = .returned (.int .i64 (c : Int)) ∧ w' = wr := by
  have := zzBackLen_any (B + 1) A m _ wr h.hf.tx h.hf.map
  rwa [length_seen ps hps, hc] at this

theorem S6.start {w1 : World} (h : Pooled w w1 A C) : S6 w ((w1.alloc (.cells C 30)).alloc (.cells #[.int .i64 0, .map none, .bool false, .map none] 63)) w1.heap.size A C none [] := by
  have n1 : ∀ (x : World) (o : Obj) (k : Nat), k = x.heap.size → (x.alloc o).heap[k]? = some o := fun x o k hk => by subst hk; exact heap_alloc_new x o
  refine ⟨?_, ⟨?_, rfl, fun r hr => by cases hr⟩⟩
  · exact h.base.fr (D := fun _ => False) ((Fr.refl _ _).alloc _) (fun _ hf => hf.elim)
  · exact n1 _ _ _ (by simp)

/-- The two rows laid. -/
theorem S6.rows (h : S6 w wr B A C m L) : T6 w ((wr.alloc (.cells (cells16 (fun _ => 0)) 34)).alloc (.cells (cellsB (fun _ => false)) 35)) B A C m L wr.heap.size (fun _ => 0) (fun _ => false) := by
  have n1 : ∀ (x : World) (o : Obj) (k : Nat), k = x.heap.size → (x.alloc o).heap[k]? = some o := fun x o k hk => by subst hk; exact heap_alloc_new x o
  have n2 : ∀ (x : World) (o : Obj) (k : Nat) (y : Obj), x.heap[k]? = some y → (x.alloc o).heap[k]? = some y := fun x o k y hk => by rw [Below.heap_alloc x o k (lt_of_heap hk)]; exact hk
  have f : Fr (fun _ => False) wr ((wr.alloc (.cells (cells16 (fun _ => 0)) 34)).alloc (.cells (cellsB (fun _ => false)) 35)) := ((Fr.refl _ _).alloc _).alloc _
  refine ⟨⟨h.base.fr f (fun _ hf => hf.elim), h.hf.fr f (fun hf => hf) (fun _ _ hf => hf)⟩, h.hf.tx.lt, fun r hr => ?_, n2 _ _ _ _ (n1 _ _ _ rfl), n1 _ _ _ (by simp)⟩
  subst hr
  have := h.hf.map.lt
  omega

theorem T6.fr (h : T6 w wr B A C m L D g s) (f : Fr (fun k => k = D ∨ k = D + 1) wr w') : S6 w w' B A C m L := by
  have hD := h.hD
  refine ⟨h.one.base.fr f (fun k hk => by omega), h.one.hf.fr f (fun hd => by omega) (fun r hr hd => ?_)⟩
  have := h.mD r hr
  omega

theorem T6.setWant (h : T6 w wr B A C m L D g s) (e v : Nat) : T6 w (wr.setCell ⟨D, e, none⟩ (.int .u16 (v : Int))) B A C m L D (fun j => if j = e then v else g j) s := by
  have f := fr_setCell wr D e (.int .u16 (v : Int))
  refine ⟨h.fr (f.mono (fun k hk => .inl hk)), h.hD, h.mD, ?_, h.seen.fr f (by omega)⟩
  have := h.want.set e (.int .u16 (v : Int))
  unfold cells16 at this ⊢
  rw [row_set] at this
  rwa [row_congr (g := fun j => .int .u16 (((if j = e then v else g j) : Nat) : Int)) (fun j _ => by split <;> rfl)] at this

theorem T6.setSeen (h : T6 w wr B A C m L D g s) (e : Nat) (b : Bool) : T6 w (wr.setCell ⟨D + 1, e, none⟩ (.bool b)) B A C m L D g (fun j => if j = e then b else s j) := by
  have f := fr_setCell wr (D + 1) e (.bool b)
  refine ⟨h.fr (f.mono (fun k hk => .inr hk)), h.hD, h.mD, h.want.fr f (by omega), ?_⟩
  have := h.seen.set e (.bool b)
  unfold cellsB at this ⊢
  rw [row_set] at this
  rwa [row_congr (g := fun j => .bool (if j = e then b else s j)) (fun j _ => by split <;> rfl)] at this

theorem T6.congr {g' : Nat → Nat} {s' : Nat → Bool} (h : T6 w wr B A C m L D g s) (hg : ∀ j, g j = g' j) (hs : ∀ j, s j = s' j) : T6 w wr B A C m L D g' s' := by
  have e1 : g = g' := funext hg
  have e2 : s = s' := funext hs
  subst e1; subst e2; exact h

theorem T6.hold (h : T6 w wr B A C m L D g s) (hh : Held wr w' A (B + 1) m L') : ∃ r, T6 w w' B A C (some r) L' D g s := by
  have lt := h.seen.lt
  obtain ⟨r, h1, h2⟩ := h.one.hold hh
  have hD := h.hD
  refine ⟨r, h1, h.hD, fun q hq => ?_, h.want.fr hh.frame (fun hd => ?_), h.seen.fr hh.frame (fun hd => ?_)⟩
  · cases hq
    rcases h2 with h2 | ⟨_, h2⟩
    · exact h.mD _ h2
    · omega
  · rcases hd with hd | hd
    · omega
    · exact (h.mD _ hd).1 rfl
  · rcases hd with hd | hd
    · omega
    · exact (h.mD _ hd).2 rfl

/-- The rows after 'k' rounds of the second loop. -/
def upTo {α : Type} (f : Nat → α) (z : α) (k j : Nat) : α := if j < k then f j else z
theorem upTo_step {α : Type} (f : Nat → α) (z : α) (k j : Nat) : (if j = k then f k else upTo f z k j) = upTo f z (k + 1) j := by
  unfold upTo
  by_cases h : j = k
  · subst h; rw [if_pos rfl, if_pos (by omega)]
  · rw [if_neg h]
    by_cases h' : j < k
    · rw [if_pos h', if_pos (by omega)]
    · rw [if_neg h', if_neg (by omega)]
end
end Go.Proofs.Qxb6616435a
