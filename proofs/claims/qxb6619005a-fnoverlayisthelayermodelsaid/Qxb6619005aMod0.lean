import Derived.Test.Qxb6619005aLay
import Derived.Test.Qxb6619005aGoS
import Derived.Deep.RegionLaw
namespace Go.Proofs.Qxb6619005a
open Go.RowKit

/-- The state inside 'zzModelOverlay': its two boxes, its result's variable, its 'out'. -/
structure MW (w wd : World) (lo up re ou : List Value) : Prop where
  below : Below w.heap.size w wd
  blo : wd.heap[w.heap.size]? = some (.cells lo.toArray 33 (0, 0))
  bup : wd.heap[w.heap.size + 1]? = some (.cells up.toArray 33 (0, 0))
  bre : wd.heap[w.heap.size + 1 + 1]? = some (.cells re.toArray 33 (0, 0))
  bou : wd.heap[w.heap.size + 1 + 1 + 1]? = some (.cells ou.toArray 33 (0, 0))
/-- All blocks but 'O' and those of [lo, hi) are as they were. -/
structure Chg (W wd : World) (O lo hi : Nat) : Prop where
  os : wd.os = W.os
  tape : wd.tape = W.tape
  output : wd.output = W.output
  size : W.heap.size ≤ wd.heap.size
  block : ∀ k, k < W.heap.size → k ≠ O → (k < lo ∨ hi ≤ k) → wd.heap[k]? = W.heap[k]?
theorem Chg.refl (W : World) (O lo hi : Nat) : Chg W W O lo hi := ⟨rfl, rfl, rfl, Nat.le_refl _, fun _ _ _ _ => rfl⟩
theorem Chg.trans {W W1 W2 : World} {O lo hi : Nat} (h : Chg W W1 O lo hi) (h' : Chg W1 W2 O lo hi) : Chg W W2 O lo hi :=
  ⟨h'.os.trans h.os, h'.tape.trans h.tape, h'.output.trans h.output, Nat.le_trans h.size h'.size, fun k hk hO hz => (h'.block k (Nat.lt_of_lt_of_le hk h.size) hO hz).trans (h.block k hk hO hz)⟩
theorem Below.chg {W wd : World} (h : Below W.heap.size W wd) (O lo hi : Nat) : Chg W wd O lo hi := ⟨h.os, h.tape, h.output, h.size, fun k hk _ _ => h.block k hk⟩
/-- An append of a row of one's own, and a store into 'O'. -/
theorem chg_app {W wr w4 : World} {O f lo hi : Nat} {v u : Value} (h : Chg W wr O lo hi) (hg : wr.grownBy w4 v.ownBlock) (hv : ∀ g, v.ownBlock = some g → W.heap.size ≤ g ∨ (lo ≤ g ∧ g < hi)) : Chg W (w4.setCell ⟨O, f, none⟩ u) O lo hi :=
  ⟨hg.os.trans h.os, hg.tape.trans h.tape, hg.output.trans h.output, by simpa using Nat.le_trans h.size hg.size, fun k hk hO hz => by
    rw [heap_setCell_other _ _ _ _ (by show k ≠ O; exact hO), hg.block k (Nat.lt_of_lt_of_le hk h.size) (fun e => by have := hv k e.symm; omega), h.block k hk hO hz]⟩
theorem MW.chg {w W wd : World} {lo up re ou ou' : List Value} {l h : Nat} (hw : MW w W lo up re ou) (hc : Chg W wd (w.heap.size + 1 + 1 + 1) l h) (hz : h = 0 ∨ w.heap.size + 3 < l) (ho : wd.heap[w.heap.size + 1 + 1 + 1]? = some (.cells ou'.toArray 33 (0, 0))) : MW w wd lo up re ou' := by
  have h1 := lt_of_heap hw.blo
  exact ⟨hw.below.trans ⟨hc.os, hc.tape, hc.output, hc.size, fun k hk => hc.block k (by omega) (by omega) (by omega)⟩, (hc.block _ (lt_of_heap hw.blo) (by omega) (by omega)).trans hw.blo, (hc.block _ (lt_of_heap hw.bup) (by omega) (by omega)).trans hw.bup, (hc.block _ (lt_of_heap hw.bre) (by omega) (by omega)).trans hw.bre, ho⟩
theorem MW.below' {w W wd : World} {lo up re ou : List Value} (hw : MW w W lo up re ou) (hb : Below W.heap.size W wd) : MW w wd lo up re ou :=
  ⟨hw.below.trans (hb.mono hw.below.size), (hb.block _ (lt_of_heap hw.blo)).trans hw.blo, (hb.block _ (lt_of_heap hw.bup)).trans hw.bup, (hb.block _ (lt_of_heap hw.bre)).trans hw.bre, (hb.block _ (lt_of_heap hw.bou)).trans hw.bou⟩
theorem owns_chg {W wd : World} {O lo hi base e K n : Nat} {v : Value} {xs : List Value} (h : W.ownsRow base e K v n xs) (hc : Chg W wd O lo hi) (hz : ∀ g, v.ownBlock = some g → g ≠ O ∧ (g < lo ∨ hi ≤ g)) : wd.ownsRow base e K v n xs := by
  obtain ⟨h1, h2⟩ := h
  refine ⟨h1, ?_⟩
  rcases h2 with h2 | ⟨g, cap, cur, hv, hb, hg, hr⟩
  · exact .inl h2
  · have := hz g (by rw [hv]; rfl)
    exact .inr ⟨g, cap, cur, hv, hb, (hc.block g (lt_of_heap hg) this.1 this.2).trans hg, hr⟩
theorem step_append_run {ops : Array Oper} {o : Oper} {a : Act} {w : World} {K : Act → World → Prop} {Q : Exit → Act → World → Prop} {E : Prop} (hgd : o.guard = none) (s x : Operand) (t : TypeId) (ho : o.op = .call { callee := .builtin .append, args := #[s, x], argTypes := #[t, t] })
    (v m : Value) (hs : a.eval s = v) (hx : a.eval x = m) (v' : Value) (w' : World) (hr : (Builtin.append_ #[t, t] o.type #[v, m]).run Try.prog w = .ok v' w') (h : K (a.put o.dst v') w') : if Region.wanted o (yielded ops a.tmps) = true then Oper.wp Try.prog o a w K Q else E := by
  have hw : Region.wanted o (yielded ops a.tmps) = true := by simp [Region.wanted, hgd]
  rw [if_pos hw]
  unfold Oper.wp
  simp only [execOp, ho, resolve, invoke, builtin, Sem.run_bind, Sem.run_pure, Result.andThen_ok, List.map_toArray, List.map_cons, List.map_nil, hs, hx, hr]
  exact h

theorem mw_start (w : World) (lo up re ou : List Value) : MW w ((((w.alloc (.cells lo.toArray 33)).alloc (.cells up.toArray 33)).alloc (.cells re.toArray 33)).alloc (.cells ou.toArray 33)) lo up re ou where
  below := ((((Below.refl _ w).alloc (Nat.le_refl _) _).alloc (by simp) _).alloc (by simp; omega) _).alloc (by simp; omega) _
  blo := by rw [Below.heap_alloc _ _ _ (by simp; omega), Below.heap_alloc _ _ _ (by simp; omega), Below.heap_alloc _ _ _ (by simp)]; exact heap_alloc_new _ _
  bup := by rw [Below.heap_alloc _ _ _ (by simp), Below.heap_alloc _ _ _ (by simp)]; have := heap_alloc_new (w.alloc (.cells lo.toArray 33)) (.cells up.toArray 33); simpa using this
  bre := by rw [Below.heap_alloc _ _ _ (by simp)]; have := heap_alloc_new ((w.alloc (.cells lo.toArray 33)).alloc (.cells up.toArray 33)) (.cells re.toArray 33); simpa using this
  bou := by have := heap_alloc_new (((w.alloc (.cells lo.toArray 33)).alloc (.cells up.toArray 33)).alloc (.cells re.toArray 33)) (.cells ou.toArray 33); simpa using this

theorem nil_len {α : Type} {f : α → List Value} {K n : Nat} {w : World} {a : Option Addr} {xs : List α} (hl : xs.length = n) (h : ARow f K w a xs) : a = none → n = 0 := fun ha => by
  rcases Nat.eq_zero_or_pos n with h0 | h0
  · exact h0
  · obtain ⟨b, o, hb, _⟩ := h (by omega)
    rw [ha] at hb; cases hb

/-! ### Does an item go? -/
def goneR : Option DelV → Rw → Bool
  | none, _ => false
  | some v, x => gone v.fl 32 (v.rd.any (·.hits x))
def goneS : Option DelV → St → Bool
  | none, _ => false
  | some v, x => gone v.fl 64 (v.sd.any (·.hits x))
def goneC : Option DelV → Cm → Bool
  | none, _ => false
  | some v, x => gone v.fl 8 (v.fd.any (·.hits x))
theorem runwayGoes_any (D : Option Addr) (d : Option DelV) (x : Rw) (w : World) (h : DelIs w D d) (hok : ∀ x, d = some x → x.rd.length ≤ 1048576 ∧ x.sd.length ≤ 1048576 ∧ x.fd.length ≤ 1048576) : Calls Try.prog 36 #[.pointer D, .agg x.z.toArray] w fun e w' => e = .returned (.bool (goneR d x)) ∧ Below w.heap.size w w' := by
  rcases h with ⟨rfl, rfl⟩ | ⟨B, bo, v, r, s, f, rfl, rfl, h0, h1, h2, h3, l1, l2, l3, a1, a2, a3⟩
  · exact runwayGoes_none x w
  · have o := hok v rfl
    exact runwayGoes_some B bo v.fl r.a r.n r.c v.rd x w l1 (by omega) h0 h1 a1
theorem startGoes_any (D : Option Addr) (d : Option DelV) (x : St) (w : World) (h : DelIs w D d) (hok : ∀ x, d = some x → x.rd.length ≤ 1048576 ∧ x.sd.length ≤ 1048576 ∧ x.fd.length ≤ 1048576) : Calls Try.prog 37 #[.pointer D, .agg x.z.toArray] w fun e w' => e = .returned (.bool (goneS d x)) ∧ Below w.heap.size w w' := by
  rcases h with ⟨rfl, rfl⟩ | ⟨B, bo, v, r, s, f, rfl, rfl, h0, h1, h2, h3, l1, l2, l3, a1, a2, a3⟩
  · exact startGoes_none x w
  · have o := hok v rfl
    exact startGoes_some B bo v.fl s.a s.n s.c v.sd x w l2 (by omega) h0 h2 a2
theorem comGoes_any (D : Option Addr) (d : Option DelV) (x : Cm) (w : World) (h : DelIs w D d) (hok : ∀ x, d = some x → x.rd.length ≤ 1048576 ∧ x.sd.length ≤ 1048576 ∧ x.fd.length ≤ 1048576) : Calls Try.prog 38 #[.pointer D, .agg x.z.toArray] w fun e w' => e = .returned (.bool (goneC d x)) ∧ Below w.heap.size w w' := by
  rcases h with ⟨rfl, rfl⟩ | ⟨B, bo, v, r, s, f, rfl, rfl, h0, h1, h2, h3, l1, l2, l3, a1, a2, a3⟩
  · exact comGoes_none x w
  · have o := hok v rfl
    exact comGoes_some B bo v.fl f.a f.n f.c v.fd x w l3 (by omega) h0 h3 a3
theorem kindGoes_any (D : Option Addr) (d : Option DelV) (m : Int) (w : World) (h : DelIs w D d) (hm : bits .and .u16 0 m = 0) : Calls Try.prog 39 #[.pointer D, .int .u16 m] w fun e w' => e = .returned (.bool (goes d m)) ∧ w' = w := by
  rcases h with ⟨rfl, rfl⟩ | ⟨B, bo, v, r, s, f, rfl, rfl, h0, _⟩
  · refine (kindGoes_none m w).mono ?_
    rintro e w' ⟨rfl, rfl⟩
    exact ⟨by simp [goes, flagsOf, hm], rfl⟩
  · exact kindGoes_some B bo v.fl m w h0
theorem filter_goneR (d : Option DelV) (xs : List Rw) : (xs.filter fun x => !goneR d x) = off (goes d 32) (keepR d xs) := by
  cases d with
  | none =>
    have h : goes none 32 = false := by decide
    rw [h, off_false]
    exact List.filter_eq_self.2 (fun _ _ => rfl)
  | some v =>
    simp only [goneR, gone, goes, flagsOf, keepR]
    cases (bits BinOp.and IntKind.u16 v.fl 32 != 0)
    · simp [off]
    · simp [off]
theorem filter_goneS (d : Option DelV) (xs : List St) : (xs.filter fun x => !goneS d x) = off (goes d 64) (keepS d xs) := by
  cases d with
  | none =>
    have h : goes none 64 = false := by decide
    rw [h, off_false]
    exact List.filter_eq_self.2 (fun _ _ => rfl)
  | some v =>
    simp only [goneS, gone, goes, flagsOf, keepS]
    cases (bits BinOp.and IntKind.u16 v.fl 64 != 0)
    · simp [off]
    · simp [off]
theorem filter_goneC (d : Option DelV) (xs : List Cm) : (xs.filter fun x => !goneC d x) = off (goes d 8) (keepC d xs) := by
  cases d with
  | none =>
    have h : goes none 8 = false := by decide
    rw [h, off_false]
    exact List.filter_eq_self.2 (fun _ _ => rfl)
  | some v =>
    simp only [goneC, gone, goes, flagsOf, keepC]
    cases (bits BinOp.and IntKind.u16 v.fl 8 != 0)
    · simp [off]
    · simp [off]
end Go.Proofs.Qxb6619005a
