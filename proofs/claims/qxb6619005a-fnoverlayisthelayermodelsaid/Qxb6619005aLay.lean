import Derived.Test.Qxb6619005aWo
namespace Go.Proofs.Qxb6619005a
open Go.RowKit

def flagsOf : Option DelV → Int
  | none => 0
  | some v => v.fl
/-- Does the record remove the whole kind? -/
def goes (d : Option DelV) (m : Int) : Bool := bits .and .u16 (flagsOf d) m != 0
def keepR : Option DelV → List Rw → List Rw
  | none, xs => xs
  | some v, xs => xs.filter fun x => !v.rd.any (·.hits x)
def keepS : Option DelV → List St → List St
  | none, xs => xs
  | some v, xs => xs.filter fun x => !v.sd.any (·.hits x)
def keepC : Option DelV → List Cm → List Cm
  | none, xs => xs
  | some v, xs => xs.filter fun x => !v.fd.any (·.hits x)
/-- A path's ends behind 'p' points and 's' spots. -/
def renum (p s : Nat) (x : Pa) : Pa := ⟨x.ty, wrap64 (x.st + p), if x.ty = 3 then wrap64 (x.en + s) else wrap64 (x.en + p), x.rn, x.rd, x.nm, x.sf, x.wd⟩
def off {α : Type} (b : Bool) (xs : List α) : List α := if b then [] else xs
/-- The upper airport's lists laid over the lower's. -/
def lay (L U : Lists) (d : Option DelV) : Lists where
  r := off (goes d 32) (keepR d L.r) ++ U.r
  s := off (goes d 64) (keepS d L.s) ++ U.s
  c := off (goes d 8) (keepC d L.c) ++ U.c
  h := off (goes d 16) L.h ++ U.h
  x := off (goes d 128) L.x ++ U.x
  t := off (goes d 128) L.t ++ U.t
  q := off (goes d 128) L.q ++ U.q.map (renum (off (goes d 128) L.t).length (off (goes d 128) L.x).length)

/-- All blocks but those of [lo, hi) are as they were. -/
structure Out (w w' : World) (lo hi : Nat) : Prop where
  os : w'.os = w.os
  tape : w'.tape = w.tape
  output : w'.output = w.output
  size : w.heap.size ≤ w'.heap.size
  block : ∀ k, k < w.heap.size → (k < lo ∨ hi ≤ k) → w'.heap[k]? = w.heap[k]?

theorem Out.below {w w' : World} {lo hi B : Nat} (h : Out w w' lo hi) (hB : B ≤ lo) (hw : B ≤ w.heap.size) : Below B w w' := ⟨h.os, h.tape, h.output, h.size, fun k hk => h.block k (by omega) (.inl (by omega))⟩
theorem Below.out {w w' : World} (h : Below w.heap.size w w') (lo hi : Nat) : Out w w' lo hi := ⟨h.os, h.tape, h.output, h.size, fun k hk _ => h.block k hk⟩
theorem Out.heap {w w' : World} {lo hi k : Nat} {o : Obj} (h : Out w w' lo hi) (hk : w.heap[k]? = some o) (hz : k < lo ∨ hi ≤ k) : w'.heap[k]? = some o := (h.block k (lt_of_heap hk) hz).trans hk
theorem arow_lt {α : Type} {f : α → List Value} {K : Nat} {w : World} {a : Option Addr} {xs : List α} (hf : ∀ x, (f x).length = K) (hK : 0 < K) (h : ARow f K w a xs) (hp : 0 < xs.length) : ∀ A, a = some A → A.block < w.heap.size := fun A hA => by
  obtain ⟨b, o, ha, hc⟩ := h hp
  rw [hA] at ha
  injection ha with ha
  subst ha
  obtain ⟨x, hx⟩ : ∃ x, xs[0]? = some x := ⟨xs[0], by simp⟩
  have hl : 0 < (f x).length := by rw [hf]; exact hK
  have h1 := hc 0 x hx 0 (f x)[0] (by simp)
  have h2 : b < w.heap.size := World.block_lt_of_cell? _ ⟨b, o + 0 * K + 0, none⟩ h1
  exact h2
theorem ARow.out {α : Type} {f : α → List Value} {K : Nat} {w w' : World} {lo hi : Nat} {a : Option Addr} {xs : List α} (h : ARow f K w a xs) (ho : Out w w' lo hi) (hz : 0 < xs.length → ∀ A, a = some A → A.block < lo ∨ hi ≤ A.block) : ARow f K w' a xs := fun hp => by
  obtain ⟨b, o, ha, hc⟩ := h hp
  refine ⟨b, o, ha, fun i x hx j v hv => ?_⟩
  have h1 := hc i x hx j v hv
  have hlt : b < w.heap.size := World.block_lt_of_cell? _ _ h1
  rw [World.cell?_of_block (w := w) (a := ⟨b, o + i * K + j, none⟩) (ho.block b hlt (hz hp ⟨b, o, none⟩ ha))]
  exact h1
theorem owns_out {w w' : World} {lo hi base e K n : Nat} {v : Value} {xs : List Value} (h : w.ownsRow base e K v n xs) (ho : Out w w' lo hi) (hz : ∀ g, v.ownBlock = some g → g < lo ∨ hi ≤ g) : w'.ownsRow base e K v n xs := by
  obtain ⟨h1, h2⟩ := h
  refine ⟨h1, ?_⟩
  rcases h2 with h2 | ⟨g, cap, cur, hv, hb, hg, hr⟩
  · exact .inl h2
  · exact .inr ⟨g, cap, cur, hv, hb, ho.heap hg (hz g (by rw [hv]; rfl)), hr⟩
theorem app_out {l : Sl} {w w' : World} {lo hi : Nat} (hg : w.grownBy w' (Value.slice l.a l.n l.c).ownBlock) (hf : l.c = l.n → Below w.heap.size w w') (hz : l.c = l.n ∨ ∀ g, (Value.slice l.a l.n l.c).ownBlock = some g → lo ≤ g ∧ g < hi) : Out w w' lo hi := by
  rcases hz with hz | hz
  · exact Below.out (hf hz) lo hi
  · exact ⟨hg.os, hg.tape, hg.output, hg.size, fun k hk hk' => hg.block k hk (fun e => by have := hz k e.symm; omega)⟩

/-- The state inside 'Overlay': its two boxes and its result's variable. -/
structure OV (w wc : World) (lo up re : List Value) : Prop where
  below : Below w.heap.size w wc
  blo : wc.heap[w.heap.size]? = some (.cells lo.toArray 45 (0, 0))
  bup : wc.heap[w.heap.size + 1]? = some (.cells up.toArray 45 (0, 0))
  bre : wc.heap[w.heap.size + 1 + 1]? = some (.cells re.toArray 45 (0, 0))
theorem OV.seg {w wc wd : World} {lo up re : List Value} {f : Nat} {v : Value} (h : OV w wc lo up re) (hs : Seg wc wd w.heap.size f v) : OV w wd (lo.set f v) up re where
  below := hs.below h.below (Nat.le_refl _) (by have := lt_of_heap h.blo; omega)
  blo := by rw [hs.out _ _ h.blo]; simp
  bup := by rw [hs.kept.block _ (lt_of_heap h.bup) (fun e => by injection e with e; omega)]; exact h.bup
  bre := by rw [hs.kept.block _ (lt_of_heap h.bre) (fun e => by injection e with e; omega)]; exact h.bre
/-- Where a row lies: full, or in a stretch of its own. -/
def Zo (lo hi z : Nat) (v : Sl) : Prop := (v.c = v.n ∧ ∀ g, (Value.slice v.a v.n v.c).ownBlock = some g → g < z) ∨ ∀ g, (Value.slice v.a v.n v.c).ownBlock = some g → lo ≤ g ∧ g < hi
theorem Zo.ne {lo hi z X : Nat} {v : Sl} (h : Zo lo hi z v) (h1 : z ≤ X) (h2 : X < lo) : ∀ g, (Value.slice v.a v.n v.c).ownBlock = some g → g ≠ X := fun g hg => by
  rcases h with h | h
  · have := h.2 g hg; omega
  · have := h g hg; omega
theorem owns_set {w : World} {base e K n X f : Nat} {v u : Value} {xs : List Value} (h : w.ownsRow base e K v n xs) (hne : ∀ g, v.ownBlock = some g → g ≠ X) : (w.setCell ⟨X, f, none⟩ u).ownsRow base e K v n xs := by
  obtain ⟨h1, h2⟩ := h
  refine ⟨h1, ?_⟩
  rcases h2 with h2 | ⟨g, cap, cur, hv, hb, hg, hr⟩
  · exact .inl h2
  · exact .inr ⟨g, cap, cur, hv, hb, (heap_setCell_other _ _ _ _ (hne g (by rw [hv]; rfl))).trans hg, hr⟩
theorem off_true {α : Type} (xs : List α) : off true xs = [] := rfl
theorem off_false {α : Type} (xs : List α) : off false xs = xs := rfl
/-- A head, or nil. -/
def hd (b : Bool) (v : Sl) : Sl := if b then ⟨none, 0, 0⟩ else v
theorem hd_true (v : Sl) : hd true v = ⟨none, 0, 0⟩ := rfl
theorem hd_false (v : Sl) : hd false v = v := rfl
theorem hd_own {α : Type} {f : α → List Value} {w : World} {base e K : Nat} {v : Sl} {xs : List α} (b : Bool) (h : w.ownsRow base e K (.slice v.a v.n v.c) v.n (xs.flatMap f)) : w.ownsRow base e K (.slice (hd b v).a (hd b v).n (hd b v).c) (hd b v).n ((off b xs).flatMap f) := by
  cases b
  · exact h
  · exact owns_nil _ _ _ _
theorem hd_full {b : Bool} {v : Sl} (h : v.c = v.n) : (hd b v).c = (hd b v).n := by
  cases b
  · exact h
  · rfl
theorem hd_le {b : Bool} {v : Sl} {M : Nat} (h : v.n ≤ M) : (hd b v).n ≤ M := by
  cases b
  · exact h
  · exact Nat.zero_le _
theorem hd_n {α : Type} {b : Bool} {v : Sl} {xs : List α} (h : xs.length = v.n) : (off b xs).length = (hd b v).n := by
  cases b
  · exact h
  · rfl
/-- 'appendList' writes nowhere but in its list's own stretch. -/
theorem zo_out {l : Sl} {w w' : World} {lo hi z : Nat} (hg : w.grownBy w' (Value.slice l.a l.n l.c).ownBlock) (hf : l.c = l.n → Below w.heap.size w w') (hz : Zo lo hi z l) : Out w w' lo hi := by
  rcases hz with hz | hz
  · exact Below.out (hf hz.1) lo hi
  · exact app_out hg hf (.inr hz)
noncomputable def piece8 (k : Nat) : Code := ((Try.f8.body.map conds).getD [])[k]?.getD .skip
example : ((Try.f8.body.map conds).getD []).length = 7 := by rfl
end Go.Proofs.Qxb6619005a
