import Derived.Test.Qxb6619005aView
import Derived.Deep.AppendSrc
namespace Go.Proofs.Qxb6619005a
open Go.RowKit

theorem flat_inv {α : Type} (f : α → List Value) {K : Nat} (hf : ∀ x, (f x).length = K) : ∀ (xs : List α) (j : Nat) (u : Value), (xs.flatMap f)[j]? = some u → ∃ i x r, xs[i]? = some x ∧ (f x)[r]? = some u ∧ j = i * K + r
  | [], j, u, h => by simp at h
  | y :: t, j, u, h => by
    rw [List.flatMap_cons] at h
    by_cases hj : j < (f y).length
    · rw [List.getElem?_append_left hj] at h
      exact ⟨0, y, j, rfl, h, by omega⟩
    · rw [List.getElem?_append_right (by omega), hf] at h
      obtain ⟨i, x, r, h1, h2, h3⟩ := flat_inv f hf t _ u h
      rw [hf] at hj
      exact ⟨i + 1, x, r, by simpa using h1, h2, by rw [Nat.add_mul]; omega⟩
theorem flat_one {α : Type} (f : α → List Value) (h1 : ∀ x, ∀ v ∈ f x, v.oneCell' = true) (xs : List α) : ∀ u ∈ xs.flatMap f, u.oneCell' = true := fun u hu => by
  obtain ⟨x, _, hx⟩ := List.mem_flatMap.1 hu
  exact h1 x u hx

/-- 'append' of a row onto a row of one's own. -/
theorem app_any {α : Type} (f : α → List Value) {K : Nat} (hf : ∀ x, (f x).length = K) (h1 : ∀ x, ∀ v ∈ f x, v.oneCell' = true) {t e by' : Nat} (hu : Try.prog.underlying t = some (.slice e)) (hinf : (Try.prog.info? e).map (fun i => (i.size, i.bytes, i.zero.map (·.cells.size))) = some (K, by', some K)) (hK : 0 < K) (hby : by' ≤ 1000)
    (w : World) (base : Nat) (v : Value) (n : Nat) (xs : List α) (hown : w.ownsRow base e K v n (xs.flatMap f)) (a : Option Addr) (m c : Nat) (ms : List α) (hm : ms.length = m) (hr : ARow f K w a ms) (hz : a = none → m = 0) (hb : n + m ≤ 4194304) (hbase : base ≤ w.heap.size) (ty : Nat) :
    ∃ v' w', (Builtin.append_ #[t, t] ty #[v, .slice a m c]).run Try.prog w = .ok v' w' ∧ w'.ownsRow base e K v' (n + m) ((xs ++ ms).flatMap f) ∧ w.grownBy w' v.ownBlock ∧ ((∃ A, v = .slice A n n) → Below w.heap.size w w') ∧ (v' = v ∨ v'.ownBlock = v.ownBlock ∨ v'.ownBlock = some w.heap.size) ∧ ((∃ A, v = .slice A n n) → 0 < m → v'.ownBlock = some w.heap.size) := by
  obtain ⟨i, z, hi, hz', hs, hby', hzs⟩ := parts_of hinf
  by_cases hm0 : m = 0
  · subst hm0
    have hms : ms = [] := List.eq_nil_of_length_eq_zero hm
    subst hms
    have hgr : w.grownBy w v.ownBlock := ⟨rfl, rfl, rfl, Nat.le_refl _, fun _ _ _ => rfl⟩
    suffices h : (Builtin.append_ #[t, t] ty #[v, .slice a 0 c]).run Try.prog w = .ok v w from ⟨v, w, h, by simpa using hown, hgr, fun _ => Below.refl _ _, .inl rfl, fun _ h => absurd h (by omega)⟩
    have hsrc : Src Try.prog i.size t (.slice a 0 c) 0 [] w := by
      cases a with
      | none => exact Src.ofNil w hu c
      | some ad => exact Src.ofSlice w hu ad 0 c [] (by simp) (fun j u h => by simp at h) (fun u h => by simp at h)
    rcases hown.2 with ⟨rfl, rfl⟩ | ⟨g, cap, cur, rfl, hbg, hg, hnc, hcm, hcs, htake⟩
    · rcases hsrc.kind with ⟨e', hk⟩ | hk <;> simp [Builtin.append_, run_underlying hu, sizeOf, typeInfo, hi, hsrc.cells, Builtin.lenOf]
    · have := run_append_room_src (P := Try.prog) w t t ty e i hu hi g 0 n cap (.slice a 0 c) 0 [] hsrc (by omega) (fun j hj => by simp at hj) (fun j hj => by simp at hj)
      simpa [World.setCells] using this
  · obtain ⟨b, o, rfl, hc⟩ := hr (by omega)
    have hl : (ms.flatMap f).length = m * K := by rw [flat_len f K hf, hm]
    have hnews : ∀ j u, (ms.flatMap f)[j]? = some u → w.cell? ((⟨b, o, none⟩ : Addr).add j) = some u := fun j u hj => by
      obtain ⟨i', x, r, g1, g2, rfl⟩ := flat_inv f hf ms j u hj
      rw [Addr.add_lit, ← Nat.add_assoc]
      exact hc i' x g1 r u g2
    have hmul : (n + m) * by' ≤ 4194304 * 1000 := Nat.mul_le_mul hb hby
    obtain ⟨v', w', hrun, h2, h3, h4⟩ := run_append_own (P := Try.prog) w base t ty e i z K by' hu hi hz' hs hby' hzs hK v n (xs.flatMap f) hown ⟨b, o, none⟩ m c (ms.flatMap f) hl hnews (flat_one f h1 ms) (by unfold maxLen; omega) (by omega) hbase
    have key : (∃ W, w' = w.drew.alloc W ∧ v'.ownBlock = some w.heap.size) ∨ (∃ g cap, v = .slice (some ⟨g, 0, none⟩) n cap ∧ n + m ≤ cap ∧ v'.ownBlock = some g) := by
      rcases hown.2 with ⟨rfl, rfl⟩ | ⟨g, cap, cur, rfl, hbg, hg, hnc, hcm, hcs, htake⟩
      · have hx := hown.1
        have := run_append_nil (P := Try.prog) w t ty e i z hu hi hz' ⟨b, o, none⟩ m c (ms.flatMap f) (by rw [hs]; exact hl) hnews (by omega) (by omega) (by rw [hby']; rw [Nat.zero_add] at hmul; omega)
        have hq := hrun.symm.trans this
        injection hq with e1 e2
        exact .inl ⟨_, e2, by rw [e1]; rfl⟩
      · by_cases hroom : n + m ≤ cap
        · refine .inr ⟨g, cap, rfl, hroom, ?_⟩
          have hfit : n * i.size + (ms.flatMap f).length ≤ cur.size := by rw [hl, hcs, hs, ← Nat.add_mul]; exact Nat.mul_le_mul_right _ hroom
          have := run_append_room (P := Try.prog) w t ty e i hu hi g n cap cur hg ⟨b, o, none⟩ m c (ms.flatMap f) (by rw [hs]; exact hl) hnews (flat_one f h1 ms) hroom hfit
          have hq := hrun.symm.trans this
          have e1 := (Result.ok.inj hq).1
          rw [e1]; simp only [Value.ownBlock]
        · have holds := hown.cells (g := g) rfl
          have := run_append_grow (P := Try.prog) w t ty e i z hu hi hz' ⟨g, 0, none⟩ n cap (xs.flatMap f) (by rw [hs]; exact hown.1) holds ⟨b, o, none⟩ m c (ms.flatMap f) (by rw [hs]; exact hl) hnews (by omega) (by omega) (growslice_fits (by omega) (by rw [hby']; omega))
          have hq := hrun.symm.trans this
          injection hq with e1 e2
          exact .inl ⟨_, e2, by rw [e1]; rfl⟩
    refine ⟨v', w', hrun, by rw [List.flatMap_append]; exact h2, h3, fun ⟨A, hA⟩ => ?_, ?_, fun ⟨A, hA⟩ _ => ?_⟩
    · rcases key with ⟨W, rfl, _⟩ | ⟨g, cap, hv, hroom, _⟩
      · exact (Below.refl _ w).drew.alloc (by simp) W
      · rw [hA] at hv; injection hv with q1 q2 q3; omega
    · rcases key with ⟨W, _, h⟩ | ⟨g, cap, hv, _, h⟩
      · exact .inr (.inr h)
      · exact .inr (.inl (by rw [h, hv]; rfl))
    · rcases key with ⟨W, _, h⟩ | ⟨g, cap, hv, hroom, _⟩
      · exact h
      · have hq := (Value.slice.inj (hA.symm.trans hv)).2.2
        omega
theorem wpList_append_run {ops : Array Oper} {rest : List Oper} {op : Oper} {a : Act} {w : World} {Q : Exit → Act → World → Prop} (hgd : op.guard = none) (s x : Operand) (t : TypeId) (ho : op.op = .call { callee := .builtin .append, args := #[s, x], argTypes := #[t, t] })
    (v m : Value) (hs : a.eval s = v) (hx : a.eval x = m) (v' : Value) (w' : World) (hr : (Builtin.append_ #[t, t] op.type #[v, m]).run Try.prog w = .ok v' w') (h : wpList Try.prog ops Q rest (a.put op.dst v') w') : wpList Try.prog ops Q (op :: rest) a w := by
  refine wpList_plain hgd fun K hK => ?_
  unfold Oper.wp execOp
  simp only [ho, resolve, invoke, builtin, Sem.run_bind, Sem.run_pure, Result.andThen_ok, List.map_toArray, List.map_cons, List.map_nil, hs, hx, hr]
  exact hK _ _ h
end Go.Proofs.Qxb6619005a
