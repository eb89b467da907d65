import Derived.Test.Qxb6619005aView
import Derived.Deep.Slices
import Derived.ChangeArms
namespace Go.Proofs.Qxb6619005a
open Go.RowKit Go.Deep

theorem cn3 : Try.prog.cellsOf 3 = 1 := by kernel_rfl
theorem cn4 : Try.prog.cellsOf 4 = 1 := by kernel_rfl
theorem cn5 : Try.prog.cellsOf 5 = 1 := by kernel_rfl
theorem cn9 : Try.prog.cellsOf 9 = 1 := by kernel_rfl
theorem cn22 : Try.prog.cellsOf 22 = 1 := by kernel_rfl
theorem cn23 : Try.prog.cellsOf 23 = 1 := by kernel_rfl
theorem cn24 : Try.prog.cellsOf 24 = 1 := by kernel_rfl
theorem cn25 : Try.prog.cellsOf 25 = 1 := by kernel_rfl
theorem cn26 : Try.prog.cellsOf 26 = 1 := by kernel_rfl
theorem cn27 : Try.prog.cellsOf 27 = 1 := by kernel_rfl
theorem cn28 : Try.prog.cellsOf 28 = 1 := by kernel_rfl
theorem cn29 : Try.prog.cellsOf 29 = 1 := by kernel_rfl
theorem cn30 : Try.prog.cellsOf 30 = 1 := by kernel_rfl
theorem cn31 : Try.prog.cellsOf 31 = 1 := by kernel_rfl
theorem cn33 : Try.prog.cellsOf 33 = 14 := by kernel_rfl
theorem cn50 : Try.prog.cellsOf 50 = 1 := by kernel_rfl
theorem cn51 : Try.prog.cellsOf 51 = 1 := by kernel_rfl
theorem cn53 : Try.prog.cellsOf 53 = 3 := by kernel_rfl
theorem cn54 : Try.prog.cellsOf 54 = 1 := by kernel_rfl
theorem cn55 : Try.prog.cellsOf 55 = 1 := by kernel_rfl
theorem cn56 : Try.prog.cellsOf 56 = 1 := by kernel_rfl
theorem cn58 : Try.prog.cellsOf 58 = 4 := by kernel_rfl
theorem cn59 : Try.prog.cellsOf 59 = 1 := by kernel_rfl
theorem cn61 : Try.prog.cellsOf 61 = 10 := by kernel_rfl
theorem cn63 : Try.prog.cellsOf 63 = 2 := by kernel_rfl
theorem cn65 : Try.prog.cellsOf 65 = 8 := by kernel_rfl
theorem cn68 : Try.prog.cellsOf 68 = 12 := by kernel_rfl
theorem cn84 : Try.prog.cellsOf 84 = 7 := by kernel_rfl
theorem cn91 : Try.prog.cellsOf 91 = 4 := by kernel_rfl
theorem cn93 : Try.prog.cellsOf 93 = 14 := by kernel_rfl
theorem cn104 : Try.prog.cellsOf 104 = 5 := by kernel_rfl
theorem cn108 : Try.prog.cellsOf 108 = 3 := by kernel_rfl
theorem cn112 : Try.prog.cellsOf 112 = 2 := by kernel_rfl
theorem cn121 : Try.prog.cellsOf 121 = 5 := by kernel_rfl
theorem ln2 {cs : List Value} (h : cs.length = 2) : ∃ a0 a1, cs = [a0, a1] := by
  match cs, h with
  | [a0, a1], _ => exact ⟨a0, a1, rfl⟩
theorem ln3 {cs : List Value} (h : cs.length = 3) : ∃ a0 a1 a2, cs = [a0, a1, a2] := by
  match cs, h with
  | [a0, a1, a2], _ => exact ⟨a0, a1, a2, rfl⟩
theorem ln4 {cs : List Value} (h : cs.length = 4) : ∃ a0 a1 a2 a3, cs = [a0, a1, a2, a3] := by
  match cs, h with
  | [a0, a1, a2, a3], _ => exact ⟨a0, a1, a2, a3, rfl⟩
theorem ln5 {cs : List Value} (h : cs.length = 5) : ∃ a0 a1 a2 a3 a4, cs = [a0, a1, a2, a3, a4] := by
  match cs, h with
  | [a0, a1, a2, a3, a4], _ => exact ⟨a0, a1, a2, a3, a4, rfl⟩
theorem ln7 {cs : List Value} (h : cs.length = 7) : ∃ a0 a1 a2 a3 a4 a5 a6, cs = [a0, a1, a2, a3, a4, a5, a6] := by
  match cs, h with
  | [a0, a1, a2, a3, a4, a5, a6], _ => exact ⟨a0, a1, a2, a3, a4, a5, a6, rfl⟩
theorem ln8 {cs : List Value} (h : cs.length = 8) : ∃ a0 a1 a2 a3 a4 a5 a6 a7, cs = [a0, a1, a2, a3, a4, a5, a6, a7] := by
  match cs, h with
  | [a0, a1, a2, a3, a4, a5, a6, a7], _ => exact ⟨a0, a1, a2, a3, a4, a5, a6, a7, rfl⟩
theorem ln10 {cs : List Value} (h : cs.length = 10) : ∃ a0 a1 a2 a3 a4 a5 a6 a7 a8 a9, cs = [a0, a1, a2, a3, a4, a5, a6, a7, a8, a9] := by
  match cs, h with
  | [a0, a1, a2, a3, a4, a5, a6, a7, a8, a9], _ => exact ⟨a0, a1, a2, a3, a4, a5, a6, a7, a8, a9, rfl⟩
theorem ln12 {cs : List Value} (h : cs.length = 12) : ∃ a0 a1 a2 a3 a4 a5 a6 a7 a8 a9 a10 a11, cs = [a0, a1, a2, a3, a4, a5, a6, a7, a8, a9, a10, a11] := by
  match cs, h with
  | [a0, a1, a2, a3, a4, a5, a6, a7, a8, a9, a10, a11], _ => exact ⟨a0, a1, a2, a3, a4, a5, a6, a7, a8, a9, a10, a11, rfl⟩
theorem ln14 {cs : List Value} (h : cs.length = 14) : ∃ a0 a1 a2 a3 a4 a5 a6 a7 a8 a9 a10 a11 a12 a13, cs = [a0, a1, a2, a3, a4, a5, a6, a7, a8, a9, a10, a11, a12, a13] := by
  match cs, h with
  | [a0, a1, a2, a3, a4, a5, a6, a7, a8, a9, a10, a11, a12, a13], _ => exact ⟨a0, a1, a2, a3, a4, a5, a6, a7, a8, a9, a10, a11, a12, a13, rfl⟩

section
variable {H : Type} {enc : TypeId × Value → H} {P : Program} {w : World} {base : Nat} {spare : Nat → Bool} {held : Bool} {fuel : Nat} {t : TypeId} {cs : List Value} {x : DataW H × List MemPlace}

theorem od_float {k : FloatKind} (ht : P.underlying t = some (.float k)) (h : DataW.trod enc P w base spare held fuel t cs = some x) : ∃ n, cs = [.float k n] := by
  cases fuel with
  | zero => simp [DataW.trod] at h
  | succ n =>
    unfold DataW.trod at h
    rw [ht] at h
    split at h <;> simp_all

theorem od_struct {fs : Array Field} (ht : P.underlying t = some (.struct fs)) (h : DataW.trod enc P w base spare held fuel t cs = some x) :
    cs.length = P.cellsOf t ∧ ∀ (i : Nat) (f : Field), fs[i]? = some f → ∃ n y, DataW.trod enc P w base spare held n f.type ((cs.drop f.offset).take (P.cellsOf f.type)) = some y := by
  obtain ⟨xs, n, _, _, hl, hlen, hf⟩ := DataW.trod_struct ht h
  refine ⟨hl, fun i f hi => ?_⟩
  have hlt : i < xs.length := by rw [hlen]; exact (Array.getElem?_eq_some_iff.1 hi).1
  exact ⟨n, xs[i], by rw [hf i f hi]; simp [hlt]⟩

theorem od_array {m : Nat} {e : TypeId} (ht : P.underlying t = some (.array m e)) (h : DataW.trod enc P w base spare held fuel t cs = some x) :
    cs.length = P.cellsOf t ∧ ∀ i, i < m → ∃ n y, DataW.trod enc P w base spare held n e ((cs.drop (i * P.cellsOf e)).take (P.cellsOf e)) = some y := by
  cases fuel with
  | zero => simp [DataW.trod] at h
  | succ n =>
    unfold DataW.trod at h
    rw [ht] at h
    split at h <;> simp_all
    obtain ⟨hl, xs, hp, hd⟩ := h
    intro i hi
    have h1 := mapM_some_get hp i i (by simp [hi])
    have hlt : i < xs.length := by rw [mapM_some_length hp]; simpa using hi
    exact ⟨n, xs[i].1, xs[i].2, by rw [h1]; simp [hlt]⟩

/-- A list whose rows lie at an address. -/
theorem rows_of {α : Type} (f : α → List Value) (K : Nat) (hK : 0 < K) (hlen : ∀ x, (f x).length = K) (Q : α → Prop) (w : World) (a : Addr) (n : Nat) (h : ∀ i, i < n → ∃ x, Q x ∧ w.cells? 0 (a.add (i * K)) K = some (f x)) :
    ∃ L : List α, L.length = n ∧ ARow f K w (some a) L ∧ ∀ x ∈ L, Q x := by
  have key : ∀ m, m ≤ n → ∃ L : List α, L.length = m ∧ (∀ i x, L[i]? = some x → Q x ∧ w.cells? 0 (a.add (i * K)) K = some (f x)) := by
    intro m
    induction m with
    | zero => exact fun _ => ⟨[], rfl, fun i x hx => by simp at hx⟩
    | succ m ih =>
      intro hm
      obtain ⟨L, hl, hL⟩ := ih (by omega)
      obtain ⟨x, hx⟩ := h m (by omega)
      refine ⟨L ++ [x], by simp [hl], fun i y hy => ?_⟩
      rcases Nat.lt_or_ge i L.length with hi | hi
      · rw [List.getElem?_append_left hi] at hy
        exact hL i y hy
      · rw [List.getElem?_append_right hi] at hy
        have : i = m := by
          have := (List.getElem?_eq_some_iff.1 hy).1
          simp at this
          omega
        subst this
        simp [hl] at hy
        subst hy
        exact hx
  obtain ⟨L, hl, hL⟩ := key n (Nat.le_refl _)
  have cell : ∀ i x, L[i]? = some x → ∀ j v, (f x)[j]? = some v → w.cell? ((a.add (i * K)).add j) = some v := fun i x hx j v hv => by
    obtain ⟨_, hl', hc⟩ := World.cells?_some (hL i x hx).2
    have hj : j < K := by rw [← hlen x]; exact (List.getElem?_eq_some_iff.1 hv).1
    have h1 := hc j hj
    rw [h1]
    exact hv
  refine ⟨L, hl, fun hp => ?_, fun x hx => ?_⟩
  · obtain ⟨b, o, sp⟩ := a
    obtain ⟨x0, hx0⟩ : ∃ x, L[0]? = some x := ⟨L[0], by simp⟩
    obtain ⟨v0, hv0⟩ : ∃ v, (f x0)[0]? = some v := ⟨(f x0)[0]'(by rw [hlen]; exact hK), by simp⟩
    have h0 := cell 0 x0 hx0 0 v0 hv0
    have hsp : sp = none := by
      cases sp with
      | none => rfl
      | some s =>
        exfalso
        simp [Addr.add, World.cell?] at h0
        split at h0 <;> simp at h0
    subst hsp
    refine ⟨b, o, rfl, fun i x hx j v hv => ?_⟩
    have h1 := cell i x hx j v hv
    rw [Deep.add_add] at h1
    have : (Addr.add ⟨b, o, none⟩ (i * K + j)) = ⟨b, o + i * K + j, none⟩ := by
      unfold Addr.add
      split
      · rename_i h; show Addr.mk b o none = Addr.mk b (o + i * K + j) none; rw [Nat.add_assoc, h, Nat.add_zero]
      · simp [Nat.add_assoc]
    rw [this] at h1
    exact h1
  · obtain ⟨i, hi⟩ := List.getElem?_of_mem hx
    exact (hL i x hi).1

/-- A slice of rows. -/
def SlIs {α : Type} (f : α → List Value) (K : Nat) (Q : α → Prop) (w : World) (cs : List Value) : Prop :=
  ∃ (s : Sl) (L : List α), cs = [.slice s.a s.n s.c] ∧ (s.a = none → s.n = 0 ∧ s.c = 0) ∧ L.length = s.n ∧ ARow f K w s.a L ∧ ∀ x ∈ L, Q x
theorem od_slice {α : Type} (f : α → List Value) (K : Nat) (hK : 0 < K) (hlen : ∀ x, (f x).length = K) (Q : α → Prop) {e : TypeId} (ht : P.underlying t = some (.slice e)) (hc : P.cellsOf e = K)
    (he : ∀ (n : Nat) (cs : List Value) (y : DataW H × List MemPlace), DataW.trod enc P w 0 spare held n e cs = some y → ∃ x, Q x ∧ cs = f x)
    (h : DataW.trod enc P w 0 spare held fuel t cs = some x) : SlIs f K Q w cs := by
  rcases open_slice ht h with ⟨rfl, _⟩ | ⟨a, len, cap, m, n, D, Pl, rfl, _, hl, _, hm, _, hx⟩
  · exact ⟨⟨none, 0, 0⟩, [], rfl, fun _ => ⟨rfl, rfl⟩, rfl, (fun h => by simp at h), (fun x hx => by cases hx)⟩
  · have hlm : len ≤ m := by rw [hm]; split <;> omega
    obtain ⟨L, h1, h2, h3⟩ := rows_of f K hK hlen Q w a len (fun i hi => by
      obtain ⟨cs', h1, h2⟩ := hx i (by omega)
      obtain ⟨x, hq, rfl⟩ := he _ _ _ h2
      rw [hc] at h1
      exact ⟨x, hq, h1⟩)
    exact ⟨⟨some a, len, cap⟩, L, rfl, (fun h => by cases h), h1, h2, h3⟩
end

section
variable {H : Type} {enc : TypeId × Value → H} {w : World} {fuel : Nat} {cs : List Value} {x : DataW H × List MemPlace}
theorem od63 (h : DataW.trod enc Try.prog w 0 (fun _ => true) true fuel 63 cs = some x) : ∃ a b : Int, cs = [.int .u8 a, .int .u8 b] := by
  obtain ⟨hl, hf⟩ := od_struct Try.underlying63 h
  rw [cn63] at hl
  obtain ⟨c0, c1, rfl⟩ := ln2 hl
  · skip
    obtain ⟨n0, y0, g0⟩ := hf 0 _ rfl
    have e0 : DataW.trod enc Try.prog w 0 (fun _ => true) true n0 5 (([c0, c1].drop 0).take (Try.prog.cellsOf 5)) = some y0 := g0
    rw [cn5] at e0
    replace e0 : DataW.trod enc Try.prog w 0 (fun _ => true) true n0 5 [c0] = some y0 := e0
    obtain ⟨v0, r0, _, w0⟩ := DataW.trod_int Try.underlying5 e0
    simp only [List.cons.injEq, and_true] at r0
    subst r0
    obtain ⟨n1, y1, g1⟩ := hf 1 _ rfl
    have e1 : DataW.trod enc Try.prog w 0 (fun _ => true) true n1 5 (([(Value.int .u8 v0), c1].drop 1).take (Try.prog.cellsOf 5)) = some y1 := g1
    rw [cn5] at e1
    replace e1 : DataW.trod enc Try.prog w 0 (fun _ => true) true n1 5 [c1] = some y1 := e1
    obtain ⟨v1, r1, _, w1⟩ := DataW.trod_int Try.underlying5 e1
    simp only [List.cons.injEq, and_true] at r1
    subst r1
    exact ⟨v0, v1, rfl⟩
theorem od91 (h : DataW.trod enc Try.prog w 0 (fun _ => true) true fuel 91 cs = some x) : ∃ a b c d : Int, cs = [.int .u8 a, .int .u8 b, .int .u8 c, .int .u8 d] := by
  obtain ⟨hl, hf⟩ := od_array Try.underlying91 h
  rw [cn91] at hl
  obtain ⟨c0, c1, c2, c3, rfl⟩ := ln4 hl
  · skip
    obtain ⟨n0, y0, e0⟩ := hf 0 (by omega)
    simp only [cn5] at e0
    replace e0 : DataW.trod enc Try.prog w 0 (fun _ => true) true n0 5 [c0] = some y0 := e0
    obtain ⟨v0, r0, _⟩ := DataW.trod_int Try.underlying5 e0
    simp only [List.cons.injEq, and_true] at r0
    subst r0
    obtain ⟨n1, y1, e1⟩ := hf 1 (by omega)
    simp only [cn5] at e1
    replace e1 : DataW.trod enc Try.prog w 0 (fun _ => true) true n1 5 [c1] = some y1 := e1
    obtain ⟨v1, r1, _⟩ := DataW.trod_int Try.underlying5 e1
    simp only [List.cons.injEq, and_true] at r1
    subst r1
    obtain ⟨n2, y2, e2⟩ := hf 2 (by omega)
    simp only [cn5] at e2
    replace e2 : DataW.trod enc Try.prog w 0 (fun _ => true) true n2 5 [c2] = some y2 := e2
    obtain ⟨v2, r2, _⟩ := DataW.trod_int Try.underlying5 e2
    simp only [List.cons.injEq, and_true] at r2
    subst r2
    obtain ⟨n3, y3, e3⟩ := hf 3 (by omega)
    simp only [cn5] at e3
    replace e3 : DataW.trod enc Try.prog w 0 (fun _ => true) true n3 5 [c3] = some y3 := e3
    obtain ⟨v3, r3, _⟩ := DataW.trod_int Try.underlying5 e3
    simp only [List.cons.injEq, and_true] at r3
    subst r3
    exact ⟨v0, v1, v2, v3, rfl⟩
theorem od59 (h : DataW.trod enc Try.prog w 0 (fun _ => true) true fuel 59 cs = some x) : SlIs (fun b => [.string b]) 1 (fun _ => True) w cs :=
  od_slice _ 1 (by omega) (fun _ => rfl) _ Try.underlying59 cn9 (fun n cs y h => by
    obtain ⟨s, rfl, _, _⟩ := DataW.trod_string Try.underlying9 h
    exact ⟨s, trivial, rfl⟩) h
theorem od68 (h : DataW.trod enc Try.prog w 0 (fun _ => true) true fuel 68 cs = some x) : ∃ x : Rw, (fun _ => True) x ∧ cs = x.z := by
  obtain ⟨hl, hf⟩ := od_struct Try.underlying68 h
  rw [cn68] at hl
  obtain ⟨c0, c1, c2, c3, c4, c5, c6, c7, c8, c9, c10, c11, rfl⟩ := ln12 hl
  · skip
    obtain ⟨n0, y0, g0⟩ := hf 0 _ rfl
    have e0 : DataW.trod enc Try.prog w 0 (fun _ => true) true n0 63 (([c0, c1, c2, c3, c4, c5, c6, c7, c8, c9, c10, c11].drop 0).take (Try.prog.cellsOf 63)) = some y0 := g0
    rw [cn63] at e0
    replace e0 : DataW.trod enc Try.prog w 0 (fun _ => true) true n0 63 [c0, c1] = some y0 := e0
    obtain ⟨v0a, v0b, r0⟩ := od63 e0
    simp only [List.cons.injEq, and_true] at r0
    obtain ⟨rfl, rfl⟩ := r0
    obtain ⟨n1, y1, g1⟩ := hf 1 _ rfl
    have e1 : DataW.trod enc Try.prog w 0 (fun _ => true) true n1 63 (([(Value.int .u8 v0a), (Value.int .u8 v0b), c2, c3, c4, c5, c6, c7, c8, c9, c10, c11].drop 2).take (Try.prog.cellsOf 63)) = some y1 := g1
    rw [cn63] at e1
    replace e1 : DataW.trod enc Try.prog w 0 (fun _ => true) true n1 63 [c2, c3] = some y1 := e1
    obtain ⟨v1a, v1b, r1⟩ := od63 e1
    simp only [List.cons.injEq, and_true] at r1
    obtain ⟨rfl, rfl⟩ := r1
    obtain ⟨n2, y2, g2⟩ := hf 2 _ rfl
    have e2 : DataW.trod enc Try.prog w 0 (fun _ => true) true n2 50 (([(Value.int .u8 v0a), (Value.int .u8 v0b), (Value.int .u8 v1a), (Value.int .u8 v1b), c4, c5, c6, c7, c8, c9, c10, c11].drop 4).take (Try.prog.cellsOf 50)) = some y2 := g2
    rw [cn50] at e2
    replace e2 : DataW.trod enc Try.prog w 0 (fun _ => true) true n2 50 [c4] = some y2 := e2
    obtain ⟨v2, r2, _, w2⟩ := DataW.trod_int Try.underlying50 e2
    simp only [List.cons.injEq, and_true] at r2
    subst r2
    obtain ⟨n3, y3, g3⟩ := hf 3 _ rfl
    have e3 : DataW.trod enc Try.prog w 0 (fun _ => true) true n3 22 (([(Value.int .u8 v0a), (Value.int .u8 v0b), (Value.int .u8 v1a), (Value.int .u8 v1b), (Value.int .u16 v2), c5, c6, c7, c8, c9, c10, c11].drop 5).take (Try.prog.cellsOf 22)) = some y3 := g3
    rw [cn22] at e3
    replace e3 : DataW.trod enc Try.prog w 0 (fun _ => true) true n3 22 [c5] = some y3 := e3
    obtain ⟨v3, r3⟩ := od_float Try.underlying22 e3
    simp only [List.cons.injEq, and_true] at r3
    subst r3
    obtain ⟨n4, y4, g4⟩ := hf 4 _ rfl
    have e4 : DataW.trod enc Try.prog w 0 (fun _ => true) true n4 22 (([(Value.int .u8 v0a), (Value.int .u8 v0b), (Value.int .u8 v1a), (Value.int .u8 v1b), (Value.int .u16 v2), (Value.float .f64 v3), c6, c7, c8, c9, c10, c11].drop 6).take (Try.prog.cellsOf 22)) = some y4 := g4
    rw [cn22] at e4
    replace e4 : DataW.trod enc Try.prog w 0 (fun _ => true) true n4 22 [c6] = some y4 := e4
    obtain ⟨v4, r4⟩ := od_float Try.underlying22 e4
    simp only [List.cons.injEq, and_true] at r4
    subst r4
    obtain ⟨n5, y5, g5⟩ := hf 5 _ rfl
    have e5 : DataW.trod enc Try.prog w 0 (fun _ => true) true n5 22 (([(Value.int .u8 v0a), (Value.int .u8 v0b), (Value.int .u8 v1a), (Value.int .u8 v1b), (Value.int .u16 v2), (Value.float .f64 v3), (Value.float .f64 v4), c7, c8, c9, c10, c11].drop 7).take (Try.prog.cellsOf 22)) = some y5 := g5
    rw [cn22] at e5
    replace e5 : DataW.trod enc Try.prog w 0 (fun _ => true) true n5 22 [c7] = some y5 := e5
    obtain ⟨v5, r5⟩ := od_float Try.underlying22 e5
    simp only [List.cons.injEq, and_true] at r5
    subst r5
    obtain ⟨n6, y6, g6⟩ := hf 6 _ rfl
    have e6 : DataW.trod enc Try.prog w 0 (fun _ => true) true n6 23 (([(Value.int .u8 v0a), (Value.int .u8 v0b), (Value.int .u8 v1a), (Value.int .u8 v1b), (Value.int .u16 v2), (Value.float .f64 v3), (Value.float .f64 v4), (Value.float .f64 v5), c8, c9, c10, c11].drop 8).take (Try.prog.cellsOf 23)) = some y6 := g6
    rw [cn23] at e6
    replace e6 : DataW.trod enc Try.prog w 0 (fun _ => true) true n6 23 [c8] = some y6 := e6
    obtain ⟨v6, r6⟩ := od_float Try.underlying23 e6
    simp only [List.cons.injEq, and_true] at r6
    subst r6
    obtain ⟨n7, y7, g7⟩ := hf 7 _ rfl
    have e7 : DataW.trod enc Try.prog w 0 (fun _ => true) true n7 23 (([(Value.int .u8 v0a), (Value.int .u8 v0b), (Value.int .u8 v1a), (Value.int .u8 v1b), (Value.int .u16 v2), (Value.float .f64 v3), (Value.float .f64 v4), (Value.float .f64 v5), (Value.float .f32 v6), c9, c10, c11].drop 9).take (Try.prog.cellsOf 23)) = some y7 := g7
    rw [cn23] at e7
    replace e7 : DataW.trod enc Try.prog w 0 (fun _ => true) true n7 23 [c9] = some y7 := e7
    obtain ⟨v7, r7⟩ := od_float Try.underlying23 e7
    simp only [List.cons.injEq, and_true] at r7
    subst r7
    obtain ⟨n8, y8, g8⟩ := hf 8 _ rfl
    have e8 : DataW.trod enc Try.prog w 0 (fun _ => true) true n8 23 (([(Value.int .u8 v0a), (Value.int .u8 v0b), (Value.int .u8 v1a), (Value.int .u8 v1b), (Value.int .u16 v2), (Value.float .f64 v3), (Value.float .f64 v4), (Value.float .f64 v5), (Value.float .f32 v6), (Value.float .f32 v7), c10, c11].drop 10).take (Try.prog.cellsOf 23)) = some y8 := g8
    rw [cn23] at e8
    replace e8 : DataW.trod enc Try.prog w 0 (fun _ => true) true n8 23 [c10] = some y8 := e8
    obtain ⟨v8, r8⟩ := od_float Try.underlying23 e8
    simp only [List.cons.injEq, and_true] at r8
    subst r8
    obtain ⟨n9, y9, g9⟩ := hf 9 _ rfl
    have e9 : DataW.trod enc Try.prog w 0 (fun _ => true) true n9 23 (([(Value.int .u8 v0a), (Value.int .u8 v0b), (Value.int .u8 v1a), (Value.int .u8 v1b), (Value.int .u16 v2), (Value.float .f64 v3), (Value.float .f64 v4), (Value.float .f64 v5), (Value.float .f32 v6), (Value.float .f32 v7), (Value.float .f32 v8), c11].drop 11).take (Try.prog.cellsOf 23)) = some y9 := g9
    rw [cn23] at e9
    replace e9 : DataW.trod enc Try.prog w 0 (fun _ => true) true n9 23 [c11] = some y9 := e9
    obtain ⟨v9, r9⟩ := od_float Try.underlying23 e9
    simp only [List.cons.injEq, and_true] at r9
    subst r9
    exact ⟨⟨v0a, v0b, v1a, v1b, v2, v3, v4, v5, v6, v7, v8, v9⟩, trivial, rfl⟩
theorem od24 (h : DataW.trod enc Try.prog w 0 (fun _ => true) true fuel 24 cs = some x) : SlIs Rw.z 12 (fun _ => True) w cs :=
  od_slice _ 12 (by omega) Rw.z_len _ Try.underlying24 cn68 (fun n cs y h => od68 h) h
theorem od84 (h : DataW.trod enc Try.prog w 0 (fun _ => true) true fuel 84 cs = some x) : ∃ x : St, (fun _ => True) x ∧ cs = x.z := by
  obtain ⟨hl, hf⟩ := od_struct Try.underlying84 h
  rw [cn84] at hl
  obtain ⟨c0, c1, c2, c3, c4, c5, c6, rfl⟩ := ln7 hl
  · skip
    obtain ⟨n0, y0, g0⟩ := hf 0 _ rfl
    have e0 : DataW.trod enc Try.prog w 0 (fun _ => true) true n0 63 (([c0, c1, c2, c3, c4, c5, c6].drop 0).take (Try.prog.cellsOf 63)) = some y0 := g0
    rw [cn63] at e0
    replace e0 : DataW.trod enc Try.prog w 0 (fun _ => true) true n0 63 [c0, c1] = some y0 := e0
    obtain ⟨v0a, v0b, r0⟩ := od63 e0
    simp only [List.cons.injEq, and_true] at r0
    obtain ⟨rfl, rfl⟩ := r0
    obtain ⟨n1, y1, g1⟩ := hf 1 _ rfl
    have e1 : DataW.trod enc Try.prog w 0 (fun _ => true) true n1 5 (([(Value.int .u8 v0a), (Value.int .u8 v0b), c2, c3, c4, c5, c6].drop 2).take (Try.prog.cellsOf 5)) = some y1 := g1
    rw [cn5] at e1
    replace e1 : DataW.trod enc Try.prog w 0 (fun _ => true) true n1 5 [c2] = some y1 := e1
    obtain ⟨v1, r1, _, w1⟩ := DataW.trod_int Try.underlying5 e1
    simp only [List.cons.injEq, and_true] at r1
    subst r1
    obtain ⟨n2, y2, g2⟩ := hf 2 _ rfl
    have e2 : DataW.trod enc Try.prog w 0 (fun _ => true) true n2 22 (([(Value.int .u8 v0a), (Value.int .u8 v0b), (Value.int .u8 v1), c3, c4, c5, c6].drop 3).take (Try.prog.cellsOf 22)) = some y2 := g2
    rw [cn22] at e2
    replace e2 : DataW.trod enc Try.prog w 0 (fun _ => true) true n2 22 [c3] = some y2 := e2
    obtain ⟨v2, r2⟩ := od_float Try.underlying22 e2
    simp only [List.cons.injEq, and_true] at r2
    subst r2
    obtain ⟨n3, y3, g3⟩ := hf 3 _ rfl
    have e3 : DataW.trod enc Try.prog w 0 (fun _ => true) true n3 22 (([(Value.int .u8 v0a), (Value.int .u8 v0b), (Value.int .u8 v1), (Value.float .f64 v2), c4, c5, c6].drop 4).take (Try.prog.cellsOf 22)) = some y3 := g3
    rw [cn22] at e3
    replace e3 : DataW.trod enc Try.prog w 0 (fun _ => true) true n3 22 [c4] = some y3 := e3
    obtain ⟨v3, r3⟩ := od_float Try.underlying22 e3
    simp only [List.cons.injEq, and_true] at r3
    subst r3
    obtain ⟨n4, y4, g4⟩ := hf 4 _ rfl
    have e4 : DataW.trod enc Try.prog w 0 (fun _ => true) true n4 22 (([(Value.int .u8 v0a), (Value.int .u8 v0b), (Value.int .u8 v1), (Value.float .f64 v2), (Value.float .f64 v3), c5, c6].drop 5).take (Try.prog.cellsOf 22)) = some y4 := g4
    rw [cn22] at e4
    replace e4 : DataW.trod enc Try.prog w 0 (fun _ => true) true n4 22 [c5] = some y4 := e4
    obtain ⟨v4, r4⟩ := od_float Try.underlying22 e4
    simp only [List.cons.injEq, and_true] at r4
    subst r4
    obtain ⟨n5, y5, g5⟩ := hf 5 _ rfl
    have e5 : DataW.trod enc Try.prog w 0 (fun _ => true) true n5 23 (([(Value.int .u8 v0a), (Value.int .u8 v0b), (Value.int .u8 v1), (Value.float .f64 v2), (Value.float .f64 v3), (Value.float .f64 v4), c6].drop 6).take (Try.prog.cellsOf 23)) = some y5 := g5
    rw [cn23] at e5
    replace e5 : DataW.trod enc Try.prog w 0 (fun _ => true) true n5 23 [c6] = some y5 := e5
    obtain ⟨v5, r5⟩ := od_float Try.underlying23 e5
    simp only [List.cons.injEq, and_true] at r5
    subst r5
    exact ⟨⟨v0a, v0b, v1, v2, v3, v4, v5⟩, trivial, rfl⟩
theorem od25 (h : DataW.trod enc Try.prog w 0 (fun _ => true) true fuel 25 cs = some x) : SlIs St.z 7 (fun _ => True) w cs :=
  od_slice _ 7 (by omega) St.z_len _ Try.underlying25 cn84 (fun n cs y h => od84 h) h
theorem od53 (h : DataW.trod enc Try.prog w 0 (fun _ => true) true fuel 53 cs = some x) : ∃ x : Cm, (fun _ => True) x ∧ cs = x.z := by
  obtain ⟨hl, hf⟩ := od_struct Try.underlying53 h
  rw [cn53] at hl
  obtain ⟨c0, c1, c2, rfl⟩ := ln3 hl
  · skip
    obtain ⟨n0, y0, g0⟩ := hf 0 _ rfl
    have e0 : DataW.trod enc Try.prog w 0 (fun _ => true) true n0 50 (([c0, c1, c2].drop 0).take (Try.prog.cellsOf 50)) = some y0 := g0
    rw [cn50] at e0
    replace e0 : DataW.trod enc Try.prog w 0 (fun _ => true) true n0 50 [c0] = some y0 := e0
    obtain ⟨v0, r0, _, w0⟩ := DataW.trod_int Try.underlying50 e0
    simp only [List.cons.injEq, and_true] at r0
    subst r0
    obtain ⟨n1, y1, g1⟩ := hf 1 _ rfl
    have e1 : DataW.trod enc Try.prog w 0 (fun _ => true) true n1 51 (([(Value.int .u16 v0), c1, c2].drop 1).take (Try.prog.cellsOf 51)) = some y1 := g1
    rw [cn51] at e1
    replace e1 : DataW.trod enc Try.prog w 0 (fun _ => true) true n1 51 [c1] = some y1 := e1
    obtain ⟨v1, r1, _, w1⟩ := DataW.trod_int Try.underlying51 e1
    simp only [List.cons.injEq, and_true] at r1
    subst r1
    obtain ⟨n2, y2, g2⟩ := hf 2 _ rfl
    have e2 : DataW.trod enc Try.prog w 0 (fun _ => true) true n2 9 (([(Value.int .u16 v0), (Value.int .u32 v1), c2].drop 2).take (Try.prog.cellsOf 9)) = some y2 := g2
    rw [cn9] at e2
    replace e2 : DataW.trod enc Try.prog w 0 (fun _ => true) true n2 9 [c2] = some y2 := e2
    obtain ⟨v2, r2, _, _⟩ := DataW.trod_string Try.underlying9 e2
    simp only [List.cons.injEq, and_true] at r2
    subst r2
    exact ⟨⟨v0, v1, v2⟩, trivial, rfl⟩
theorem od26 (h : DataW.trod enc Try.prog w 0 (fun _ => true) true fuel 26 cs = some x) : SlIs Cm.z 3 (fun _ => True) w cs :=
  od_slice _ 3 (by omega) Cm.z_len _ Try.underlying26 cn53 (fun n cs y h => od53 h) h
theorem od93 (h : DataW.trod enc Try.prog w 0 (fun _ => true) true fuel 93 cs = some x) : ∃ x : Hp, (fun _ => True) x ∧ cs = x.z := by
  obtain ⟨hl, hf⟩ := od_struct Try.underlying93 h
  rw [cn93] at hl
  obtain ⟨c0, c1, c2, c3, c4, c5, c6, c7, c8, c9, c10, c11, c12, c13, rfl⟩ := ln14 hl
  · skip
    obtain ⟨n0, y0, g0⟩ := hf 0 _ rfl
    have e0 : DataW.trod enc Try.prog w 0 (fun _ => true) true n0 50 (([c0, c1, c2, c3, c4, c5, c6, c7, c8, c9, c10, c11, c12, c13].drop 0).take (Try.prog.cellsOf 50)) = some y0 := g0
    rw [cn50] at e0
    replace e0 : DataW.trod enc Try.prog w 0 (fun _ => true) true n0 50 [c0] = some y0 := e0
    obtain ⟨v0, r0, _, w0⟩ := DataW.trod_int Try.underlying50 e0
    simp only [List.cons.injEq, and_true] at r0
    subst r0
    obtain ⟨n1, y1, g1⟩ := hf 1 _ rfl
    have e1 : DataW.trod enc Try.prog w 0 (fun _ => true) true n1 5 (([(Value.int .u16 v0), c1, c2, c3, c4, c5, c6, c7, c8, c9, c10, c11, c12, c13].drop 1).take (Try.prog.cellsOf 5)) = some y1 := g1
    rw [cn5] at e1
    replace e1 : DataW.trod enc Try.prog w 0 (fun _ => true) true n1 5 [c1] = some y1 := e1
    obtain ⟨v1, r1, _, w1⟩ := DataW.trod_int Try.underlying5 e1
    simp only [List.cons.injEq, and_true] at r1
    subst r1
    obtain ⟨n2, y2, g2⟩ := hf 2 _ rfl
    have e2 : DataW.trod enc Try.prog w 0 (fun _ => true) true n2 4 (([(Value.int .u16 v0), (Value.int .u8 v1), c2, c3, c4, c5, c6, c7, c8, c9, c10, c11, c12, c13].drop 2).take (Try.prog.cellsOf 4)) = some y2 := g2
    rw [cn4] at e2
    replace e2 : DataW.trod enc Try.prog w 0 (fun _ => true) true n2 4 [c2] = some y2 := e2
    obtain ⟨v2, r2, _⟩ := DataW.trod_bool Try.underlying4 e2
    simp only [List.cons.injEq, and_true] at r2
    subst r2
    obtain ⟨n3, y3, g3⟩ := hf 3 _ rfl
    have e3 : DataW.trod enc Try.prog w 0 (fun _ => true) true n3 4 (([(Value.int .u16 v0), (Value.int .u8 v1), (Value.bool v2), c3, c4, c5, c6, c7, c8, c9, c10, c11, c12, c13].drop 3).take (Try.prog.cellsOf 4)) = some y3 := g3
    rw [cn4] at e3
    replace e3 : DataW.trod enc Try.prog w 0 (fun _ => true) true n3 4 [c3] = some y3 := e3
    obtain ⟨v3, r3, _⟩ := DataW.trod_bool Try.underlying4 e3
    simp only [List.cons.injEq, and_true] at r3
    subst r3
    obtain ⟨n4, y4, g4⟩ := hf 4 _ rfl
    have e4 : DataW.trod enc Try.prog w 0 (fun _ => true) true n4 91 (([(Value.int .u16 v0), (Value.int .u8 v1), (Value.bool v2), (Value.bool v3), c4, c5, c6, c7, c8, c9, c10, c11, c12, c13].drop 4).take (Try.prog.cellsOf 91)) = some y4 := g4
    rw [cn91] at e4
    replace e4 : DataW.trod enc Try.prog w 0 (fun _ => true) true n4 91 [c4, c5, c6, c7] = some y4 := e4
    obtain ⟨v4a, v4b, v4c, v4d, r4⟩ := od91 e4
    simp only [List.cons.injEq, and_true] at r4
    obtain ⟨rfl, rfl, rfl, rfl⟩ := r4
    obtain ⟨n5, y5, g5⟩ := hf 5 _ rfl
    have e5 : DataW.trod enc Try.prog w 0 (fun _ => true) true n5 22 (([(Value.int .u16 v0), (Value.int .u8 v1), (Value.bool v2), (Value.bool v3), (Value.int .u8 v4a), (Value.int .u8 v4b), (Value.int .u8 v4c), (Value.int .u8 v4d), c8, c9, c10, c11, c12, c13].drop 8).take (Try.prog.cellsOf 22)) = some y5 := g5
    rw [cn22] at e5
    replace e5 : DataW.trod enc Try.prog w 0 (fun _ => true) true n5 22 [c8] = some y5 := e5
    obtain ⟨v5, r5⟩ := od_float Try.underlying22 e5
    simp only [List.cons.injEq, and_true] at r5
    subst r5
    obtain ⟨n6, y6, g6⟩ := hf 6 _ rfl
    have e6 : DataW.trod enc Try.prog w 0 (fun _ => true) true n6 22 (([(Value.int .u16 v0), (Value.int .u8 v1), (Value.bool v2), (Value.bool v3), (Value.int .u8 v4a), (Value.int .u8 v4b), (Value.int .u8 v4c), (Value.int .u8 v4d), (Value.float .f64 v5), c9, c10, c11, c12, c13].drop 9).take (Try.prog.cellsOf 22)) = some y6 := g6
    rw [cn22] at e6
    replace e6 : DataW.trod enc Try.prog w 0 (fun _ => true) true n6 22 [c9] = some y6 := e6
    obtain ⟨v6, r6⟩ := od_float Try.underlying22 e6
    simp only [List.cons.injEq, and_true] at r6
    subst r6
    obtain ⟨n7, y7, g7⟩ := hf 7 _ rfl
    have e7 : DataW.trod enc Try.prog w 0 (fun _ => true) true n7 22 (([(Value.int .u16 v0), (Value.int .u8 v1), (Value.bool v2), (Value.bool v3), (Value.int .u8 v4a), (Value.int .u8 v4b), (Value.int .u8 v4c), (Value.int .u8 v4d), (Value.float .f64 v5), (Value.float .f64 v6), c10, c11, c12, c13].drop 10).take (Try.prog.cellsOf 22)) = some y7 := g7
    rw [cn22] at e7
    replace e7 : DataW.trod enc Try.prog w 0 (fun _ => true) true n7 22 [c10] = some y7 := e7
    obtain ⟨v7, r7⟩ := od_float Try.underlying22 e7
    simp only [List.cons.injEq, and_true] at r7
    subst r7
    obtain ⟨n8, y8, g8⟩ := hf 8 _ rfl
    have e8 : DataW.trod enc Try.prog w 0 (fun _ => true) true n8 23 (([(Value.int .u16 v0), (Value.int .u8 v1), (Value.bool v2), (Value.bool v3), (Value.int .u8 v4a), (Value.int .u8 v4b), (Value.int .u8 v4c), (Value.int .u8 v4d), (Value.float .f64 v5), (Value.float .f64 v6), (Value.float .f64 v7), c11, c12, c13].drop 11).take (Try.prog.cellsOf 23)) = some y8 := g8
    rw [cn23] at e8
    replace e8 : DataW.trod enc Try.prog w 0 (fun _ => true) true n8 23 [c11] = some y8 := e8
    obtain ⟨v8, r8⟩ := od_float Try.underlying23 e8
    simp only [List.cons.injEq, and_true] at r8
    subst r8
    obtain ⟨n9, y9, g9⟩ := hf 9 _ rfl
    have e9 : DataW.trod enc Try.prog w 0 (fun _ => true) true n9 23 (([(Value.int .u16 v0), (Value.int .u8 v1), (Value.bool v2), (Value.bool v3), (Value.int .u8 v4a), (Value.int .u8 v4b), (Value.int .u8 v4c), (Value.int .u8 v4d), (Value.float .f64 v5), (Value.float .f64 v6), (Value.float .f64 v7), (Value.float .f32 v8), c12, c13].drop 12).take (Try.prog.cellsOf 23)) = some y9 := g9
    rw [cn23] at e9
    replace e9 : DataW.trod enc Try.prog w 0 (fun _ => true) true n9 23 [c12] = some y9 := e9
    obtain ⟨v9, r9⟩ := od_float Try.underlying23 e9
    simp only [List.cons.injEq, and_true] at r9
    subst r9
    obtain ⟨n10, y10, g10⟩ := hf 10 _ rfl
    have e10 : DataW.trod enc Try.prog w 0 (fun _ => true) true n10 23 (([(Value.int .u16 v0), (Value.int .u8 v1), (Value.bool v2), (Value.bool v3), (Value.int .u8 v4a), (Value.int .u8 v4b), (Value.int .u8 v4c), (Value.int .u8 v4d), (Value.float .f64 v5), (Value.float .f64 v6), (Value.float .f64 v7), (Value.float .f32 v8), (Value.float .f32 v9), c13].drop 13).take (Try.prog.cellsOf 23)) = some y10 := g10
    rw [cn23] at e10
    replace e10 : DataW.trod enc Try.prog w 0 (fun _ => true) true n10 23 [c13] = some y10 := e10
    obtain ⟨v10, r10⟩ := od_float Try.underlying23 e10
    simp only [List.cons.injEq, and_true] at r10
    subst r10
    exact ⟨⟨v0, v1, v2, v3, v4a, v4b, v4c, v4d, v5, v6, v7, v8, v9, v10⟩, trivial, rfl⟩
theorem od27 (h : DataW.trod enc Try.prog w 0 (fun _ => true) true fuel 27 cs = some x) : SlIs Hp.z 14 (fun _ => True) w cs :=
  od_slice _ 14 (by omega) Hp.z_len _ Try.underlying27 cn93 (fun n cs y h => od93 h) h
theorem od61 (h : DataW.trod enc Try.prog w 0 (fun _ => true) true fuel 61 cs = some x) : ∃ x : Pk, (fun x => ∃ cs, CodeIs w x.co cs) x ∧ cs = x.z := by
  obtain ⟨hl, hf⟩ := od_struct Try.underlying61 h
  rw [cn61] at hl
  obtain ⟨c0, c1, c2, c3, c4, c5, c6, c7, c8, c9, rfl⟩ := ln10 hl
  · skip
    obtain ⟨n0, y0, g0⟩ := hf 0 _ rfl
    have e0 : DataW.trod enc Try.prog w 0 (fun _ => true) true n0 5 (([c0, c1, c2, c3, c4, c5, c6, c7, c8, c9].drop 0).take (Try.prog.cellsOf 5)) = some y0 := g0
    rw [cn5] at e0
    replace e0 : DataW.trod enc Try.prog w 0 (fun _ => true) true n0 5 [c0] = some y0 := e0
    obtain ⟨v0, r0, _, w0⟩ := DataW.trod_int Try.underlying5 e0
    simp only [List.cons.injEq, and_true] at r0
    subst r0
    obtain ⟨n1, y1, g1⟩ := hf 1 _ rfl
    have e1 : DataW.trod enc Try.prog w 0 (fun _ => true) true n1 50 (([(Value.int .u8 v0), c1, c2, c3, c4, c5, c6, c7, c8, c9].drop 1).take (Try.prog.cellsOf 50)) = some y1 := g1
    rw [cn50] at e1
    replace e1 : DataW.trod enc Try.prog w 0 (fun _ => true) true n1 50 [c1] = some y1 := e1
    obtain ⟨v1, r1, _, w1⟩ := DataW.trod_int Try.underlying50 e1
    simp only [List.cons.injEq, and_true] at r1
    subst r1
    obtain ⟨n2, y2, g2⟩ := hf 2 _ rfl
    have e2 : DataW.trod enc Try.prog w 0 (fun _ => true) true n2 5 (([(Value.int .u8 v0), (Value.int .u16 v1), c2, c3, c4, c5, c6, c7, c8, c9].drop 2).take (Try.prog.cellsOf 5)) = some y2 := g2
    rw [cn5] at e2
    replace e2 : DataW.trod enc Try.prog w 0 (fun _ => true) true n2 5 [c2] = some y2 := e2
    obtain ⟨v2, r2, _, w2⟩ := DataW.trod_int Try.underlying5 e2
    simp only [List.cons.injEq, and_true] at r2
    subst r2
    obtain ⟨n3, y3, g3⟩ := hf 3 _ rfl
    have e3 : DataW.trod enc Try.prog w 0 (fun _ => true) true n3 5 (([(Value.int .u8 v0), (Value.int .u16 v1), (Value.int .u8 v2), c3, c4, c5, c6, c7, c8, c9].drop 3).take (Try.prog.cellsOf 5)) = some y3 := g3
    rw [cn5] at e3
    replace e3 : DataW.trod enc Try.prog w 0 (fun _ => true) true n3 5 [c3] = some y3 := e3
    obtain ⟨v3, r3, _, w3⟩ := DataW.trod_int Try.underlying5 e3
    simp only [List.cons.injEq, and_true] at r3
    subst r3
    obtain ⟨n4, y4, g4⟩ := hf 4 _ rfl
    have e4 : DataW.trod enc Try.prog w 0 (fun _ => true) true n4 23 (([(Value.int .u8 v0), (Value.int .u16 v1), (Value.int .u8 v2), (Value.int .u8 v3), c4, c5, c6, c7, c8, c9].drop 4).take (Try.prog.cellsOf 23)) = some y4 := g4
    rw [cn23] at e4
    replace e4 : DataW.trod enc Try.prog w 0 (fun _ => true) true n4 23 [c4] = some y4 := e4
    obtain ⟨v4, r4⟩ := od_float Try.underlying23 e4
    simp only [List.cons.injEq, and_true] at r4
    subst r4
    obtain ⟨n5, y5, g5⟩ := hf 5 _ rfl
    have e5 : DataW.trod enc Try.prog w 0 (fun _ => true) true n5 23 (([(Value.int .u8 v0), (Value.int .u16 v1), (Value.int .u8 v2), (Value.int .u8 v3), (Value.float .f32 v4), c5, c6, c7, c8, c9].drop 5).take (Try.prog.cellsOf 23)) = some y5 := g5
    rw [cn23] at e5
    replace e5 : DataW.trod enc Try.prog w 0 (fun _ => true) true n5 23 [c5] = some y5 := e5
    obtain ⟨v5, r5⟩ := od_float Try.underlying23 e5
    simp only [List.cons.injEq, and_true] at r5
    subst r5
    obtain ⟨n6, y6, g6⟩ := hf 6 _ rfl
    have e6 : DataW.trod enc Try.prog w 0 (fun _ => true) true n6 22 (([(Value.int .u8 v0), (Value.int .u16 v1), (Value.int .u8 v2), (Value.int .u8 v3), (Value.float .f32 v4), (Value.float .f32 v5), c6, c7, c8, c9].drop 6).take (Try.prog.cellsOf 22)) = some y6 := g6
    rw [cn22] at e6
    replace e6 : DataW.trod enc Try.prog w 0 (fun _ => true) true n6 22 [c6] = some y6 := e6
    obtain ⟨v6, r6⟩ := od_float Try.underlying22 e6
    simp only [List.cons.injEq, and_true] at r6
    subst r6
    obtain ⟨n7, y7, g7⟩ := hf 7 _ rfl
    have e7 : DataW.trod enc Try.prog w 0 (fun _ => true) true n7 22 (([(Value.int .u8 v0), (Value.int .u16 v1), (Value.int .u8 v2), (Value.int .u8 v3), (Value.float .f32 v4), (Value.float .f32 v5), (Value.float .f64 v6), c7, c8, c9].drop 7).take (Try.prog.cellsOf 22)) = some y7 := g7
    rw [cn22] at e7
    replace e7 : DataW.trod enc Try.prog w 0 (fun _ => true) true n7 22 [c7] = some y7 := e7
    obtain ⟨v7, r7⟩ := od_float Try.underlying22 e7
    simp only [List.cons.injEq, and_true] at r7
    subst r7
    obtain ⟨n8, y8, g8⟩ := hf 8 _ rfl
    have e8 : DataW.trod enc Try.prog w 0 (fun _ => true) true n8 22 (([(Value.int .u8 v0), (Value.int .u16 v1), (Value.int .u8 v2), (Value.int .u8 v3), (Value.float .f32 v4), (Value.float .f32 v5), (Value.float .f64 v6), (Value.float .f64 v7), c8, c9].drop 8).take (Try.prog.cellsOf 22)) = some y8 := g8
    rw [cn22] at e8
    replace e8 : DataW.trod enc Try.prog w 0 (fun _ => true) true n8 22 [c8] = some y8 := e8
    obtain ⟨v8, r8⟩ := od_float Try.underlying22 e8
    simp only [List.cons.injEq, and_true] at r8
    subst r8
    obtain ⟨n9, y9, g9⟩ := hf 9 _ rfl
    have e9 : DataW.trod enc Try.prog w 0 (fun _ => true) true n9 59 (([(Value.int .u8 v0), (Value.int .u16 v1), (Value.int .u8 v2), (Value.int .u8 v3), (Value.float .f32 v4), (Value.float .f32 v5), (Value.float .f64 v6), (Value.float .f64 v7), (Value.float .f64 v8), c9].drop 9).take (Try.prog.cellsOf 59)) = some y9 := g9
    rw [cn59] at e9
    replace e9 : DataW.trod enc Try.prog w 0 (fun _ => true) true n9 59 [c9] = some y9 := e9
    obtain ⟨s9, L9, r9, z9, l9, a9, q9⟩ := od59 e9
    simp only [List.cons.injEq, and_true] at r9
    subst r9
    exact ⟨⟨v0, v1, v2, v3, v4, v5, v6, v7, v8, s9⟩, ⟨L9, l9, a9⟩, rfl⟩
theorem od29 (h : DataW.trod enc Try.prog w 0 (fun _ => true) true fuel 29 cs = some x) : SlIs Pk.z 10 (fun x => ∃ cs, CodeIs w x.co cs) w cs :=
  od_slice _ 10 (by omega) Pk.z_len _ Try.underlying29 cn61 (fun n cs y h => od61 h) h
theorem od121 (h : DataW.trod enc Try.prog w 0 (fun _ => true) true fuel 121 cs = some x) : ∃ x : Tp, (fun _ => True) x ∧ cs = x.z := by
  obtain ⟨hl, hf⟩ := od_struct Try.underlying121 h
  rw [cn121] at hl
  obtain ⟨c0, c1, c2, c3, c4, rfl⟩ := ln5 hl
  · skip
    obtain ⟨n0, y0, g0⟩ := hf 0 _ rfl
    have e0 : DataW.trod enc Try.prog w 0 (fun _ => true) true n0 5 (([c0, c1, c2, c3, c4].drop 0).take (Try.prog.cellsOf 5)) = some y0 := g0
    rw [cn5] at e0
    replace e0 : DataW.trod enc Try.prog w 0 (fun _ => true) true n0 5 [c0] = some y0 := e0
    obtain ⟨v0, r0, _, w0⟩ := DataW.trod_int Try.underlying5 e0
    simp only [List.cons.injEq, and_true] at r0
    subst r0
    obtain ⟨n1, y1, g1⟩ := hf 1 _ rfl
    have e1 : DataW.trod enc Try.prog w 0 (fun _ => true) true n1 5 (([(Value.int .u8 v0), c1, c2, c3, c4].drop 1).take (Try.prog.cellsOf 5)) = some y1 := g1
    rw [cn5] at e1
    replace e1 : DataW.trod enc Try.prog w 0 (fun _ => true) true n1 5 [c1] = some y1 := e1
    obtain ⟨v1, r1, _, w1⟩ := DataW.trod_int Try.underlying5 e1
    simp only [List.cons.injEq, and_true] at r1
    subst r1
    obtain ⟨n2, y2, g2⟩ := hf 2 _ rfl
    have e2 : DataW.trod enc Try.prog w 0 (fun _ => true) true n2 22 (([(Value.int .u8 v0), (Value.int .u8 v1), c2, c3, c4].drop 2).take (Try.prog.cellsOf 22)) = some y2 := g2
    rw [cn22] at e2
    replace e2 : DataW.trod enc Try.prog w 0 (fun _ => true) true n2 22 [c2] = some y2 := e2
    obtain ⟨v2, r2⟩ := od_float Try.underlying22 e2
    simp only [List.cons.injEq, and_true] at r2
    subst r2
    obtain ⟨n3, y3, g3⟩ := hf 3 _ rfl
    have e3 : DataW.trod enc Try.prog w 0 (fun _ => true) true n3 22 (([(Value.int .u8 v0), (Value.int .u8 v1), (Value.float .f64 v2), c3, c4].drop 3).take (Try.prog.cellsOf 22)) = some y3 := g3
    rw [cn22] at e3
    replace e3 : DataW.trod enc Try.prog w 0 (fun _ => true) true n3 22 [c3] = some y3 := e3
    obtain ⟨v3, r3⟩ := od_float Try.underlying22 e3
    simp only [List.cons.injEq, and_true] at r3
    subst r3
    obtain ⟨n4, y4, g4⟩ := hf 4 _ rfl
    have e4 : DataW.trod enc Try.prog w 0 (fun _ => true) true n4 22 (([(Value.int .u8 v0), (Value.int .u8 v1), (Value.float .f64 v2), (Value.float .f64 v3), c4].drop 4).take (Try.prog.cellsOf 22)) = some y4 := g4
    rw [cn22] at e4
    replace e4 : DataW.trod enc Try.prog w 0 (fun _ => true) true n4 22 [c4] = some y4 := e4
    obtain ⟨v4, r4⟩ := od_float Try.underlying22 e4
    simp only [List.cons.injEq, and_true] at r4
    subst r4
    exact ⟨⟨v0, v1, v2, v3, v4⟩, trivial, rfl⟩
theorem od30 (h : DataW.trod enc Try.prog w 0 (fun _ => true) true fuel 30 cs = some x) : SlIs Tp.z 5 (fun _ => True) w cs :=
  od_slice _ 5 (by omega) Tp.z_len _ Try.underlying30 cn121 (fun n cs y h => od121 h) h
theorem i64_rg {n : Int} (h : (Lit.int .i64 n).wf = true) : -9223372036854775808 ≤ n ∧ n ≤ 9223372036854775807 := by
  simp only [Lit.wf, Bool.and_eq_true, decide_eq_true_eq] at h
  exact h
theorem od65 (h : DataW.trod enc Try.prog w 0 (fun _ => true) true fuel 65 cs = some x) : ∃ x : Pa, (fun x => (-9223372036854775808 ≤ x.st ∧ x.st ≤ 9223372036854775807) ∧ (-9223372036854775808 ≤ x.en ∧ x.en ≤ 9223372036854775807)) x ∧ cs = x.z := by
  obtain ⟨hl, hf⟩ := od_struct Try.underlying65 h
  rw [cn65] at hl
  obtain ⟨c0, c1, c2, c3, c4, c5, c6, c7, rfl⟩ := ln8 hl
  · skip
    obtain ⟨n0, y0, g0⟩ := hf 0 _ rfl
    have e0 : DataW.trod enc Try.prog w 0 (fun _ => true) true n0 5 (([c0, c1, c2, c3, c4, c5, c6, c7].drop 0).take (Try.prog.cellsOf 5)) = some y0 := g0
    rw [cn5] at e0
    replace e0 : DataW.trod enc Try.prog w 0 (fun _ => true) true n0 5 [c0] = some y0 := e0
    obtain ⟨v0, r0, _, w0⟩ := DataW.trod_int Try.underlying5 e0
    simp only [List.cons.injEq, and_true] at r0
    subst r0
    obtain ⟨n1, y1, g1⟩ := hf 1 _ rfl
    have e1 : DataW.trod enc Try.prog w 0 (fun _ => true) true n1 3 (([(Value.int .u8 v0), c1, c2, c3, c4, c5, c6, c7].drop 1).take (Try.prog.cellsOf 3)) = some y1 := g1
    rw [cn3] at e1
    replace e1 : DataW.trod enc Try.prog w 0 (fun _ => true) true n1 3 [c1] = some y1 := e1
    obtain ⟨v1, r1, _, w1⟩ := DataW.trod_int Try.underlying3 e1
    simp only [List.cons.injEq, and_true] at r1
    subst r1
    obtain ⟨n2, y2, g2⟩ := hf 2 _ rfl
    have e2 : DataW.trod enc Try.prog w 0 (fun _ => true) true n2 3 (([(Value.int .u8 v0), (Value.int .i64 v1), c2, c3, c4, c5, c6, c7].drop 2).take (Try.prog.cellsOf 3)) = some y2 := g2
    rw [cn3] at e2
    replace e2 : DataW.trod enc Try.prog w 0 (fun _ => true) true n2 3 [c2] = some y2 := e2
    obtain ⟨v2, r2, _, w2⟩ := DataW.trod_int Try.underlying3 e2
    simp only [List.cons.injEq, and_true] at r2
    subst r2
    obtain ⟨n3, y3, g3⟩ := hf 3 _ rfl
    have e3 : DataW.trod enc Try.prog w 0 (fun _ => true) true n3 63 (([(Value.int .u8 v0), (Value.int .i64 v1), (Value.int .i64 v2), c3, c4, c5, c6, c7].drop 3).take (Try.prog.cellsOf 63)) = some y3 := g3
    rw [cn63] at e3
    replace e3 : DataW.trod enc Try.prog w 0 (fun _ => true) true n3 63 [c3, c4] = some y3 := e3
    obtain ⟨v3a, v3b, r3⟩ := od63 e3
    simp only [List.cons.injEq, and_true] at r3
    obtain ⟨rfl, rfl⟩ := r3
    obtain ⟨n4, y4, g4⟩ := hf 4 _ rfl
    have e4 : DataW.trod enc Try.prog w 0 (fun _ => true) true n4 9 (([(Value.int .u8 v0), (Value.int .i64 v1), (Value.int .i64 v2), (Value.int .u8 v3a), (Value.int .u8 v3b), c5, c6, c7].drop 5).take (Try.prog.cellsOf 9)) = some y4 := g4
    rw [cn9] at e4
    replace e4 : DataW.trod enc Try.prog w 0 (fun _ => true) true n4 9 [c5] = some y4 := e4
    obtain ⟨v4, r4, _, _⟩ := DataW.trod_string Try.underlying9 e4
    simp only [List.cons.injEq, and_true] at r4
    subst r4
    obtain ⟨n5, y5, g5⟩ := hf 5 _ rfl
    have e5 : DataW.trod enc Try.prog w 0 (fun _ => true) true n5 50 (([(Value.int .u8 v0), (Value.int .i64 v1), (Value.int .i64 v2), (Value.int .u8 v3a), (Value.int .u8 v3b), (Value.string v4), c6, c7].drop 6).take (Try.prog.cellsOf 50)) = some y5 := g5
    rw [cn50] at e5
    replace e5 : DataW.trod enc Try.prog w 0 (fun _ => true) true n5 50 [c6] = some y5 := e5
    obtain ⟨v5, r5, _, w5⟩ := DataW.trod_int Try.underlying50 e5
    simp only [List.cons.injEq, and_true] at r5
    subst r5
    obtain ⟨n6, y6, g6⟩ := hf 6 _ rfl
    have e6 : DataW.trod enc Try.prog w 0 (fun _ => true) true n6 23 (([(Value.int .u8 v0), (Value.int .i64 v1), (Value.int .i64 v2), (Value.int .u8 v3a), (Value.int .u8 v3b), (Value.string v4), (Value.int .u16 v5), c7].drop 7).take (Try.prog.cellsOf 23)) = some y6 := g6
    rw [cn23] at e6
    replace e6 : DataW.trod enc Try.prog w 0 (fun _ => true) true n6 23 [c7] = some y6 := e6
    obtain ⟨v6, r6⟩ := od_float Try.underlying23 e6
    simp only [List.cons.injEq, and_true] at r6
    subst r6
    exact ⟨⟨v0, v1, v2, v3a, v3b, v4, v5, v6⟩, ⟨i64_rg w1, i64_rg w2⟩, rfl⟩
theorem od31 (h : DataW.trod enc Try.prog w 0 (fun _ => true) true fuel 31 cs = some x) : SlIs Pa.z 8 (fun x => (-9223372036854775808 ≤ x.st ∧ x.st ≤ 9223372036854775807) ∧ (-9223372036854775808 ≤ x.en ∧ x.en ≤ 9223372036854775807)) w cs :=
  od_slice _ 8 (by omega) Pa.z_len _ Try.underlying31 cn65 (fun n cs y h => od65 h) h
theorem od104 (h : DataW.trod enc Try.prog w 0 (fun _ => true) true fuel 104 cs = some x) : ∃ x : Rd, (fun _ => True) x ∧ cs = x.z := by
  obtain ⟨hl, hf⟩ := od_struct Try.underlying104 h
  rw [cn104] at hl
  obtain ⟨c0, c1, c2, c3, c4, rfl⟩ := ln5 hl
  · skip
    obtain ⟨n0, y0, g0⟩ := hf 0 _ rfl
    have e0 : DataW.trod enc Try.prog w 0 (fun _ => true) true n0 50 (([c0, c1, c2, c3, c4].drop 0).take (Try.prog.cellsOf 50)) = some y0 := g0
    rw [cn50] at e0
    replace e0 : DataW.trod enc Try.prog w 0 (fun _ => true) true n0 50 [c0] = some y0 := e0
    obtain ⟨v0, r0, _, w0⟩ := DataW.trod_int Try.underlying50 e0
    simp only [List.cons.injEq, and_true] at r0
    subst r0
    obtain ⟨n1, y1, g1⟩ := hf 1 _ rfl
    have e1 : DataW.trod enc Try.prog w 0 (fun _ => true) true n1 63 (([(Value.int .u16 v0), c1, c2, c3, c4].drop 1).take (Try.prog.cellsOf 63)) = some y1 := g1
    rw [cn63] at e1
    replace e1 : DataW.trod enc Try.prog w 0 (fun _ => true) true n1 63 [c1, c2] = some y1 := e1
    obtain ⟨v1a, v1b, r1⟩ := od63 e1
    simp only [List.cons.injEq, and_true] at r1
    obtain ⟨rfl, rfl⟩ := r1
    obtain ⟨n2, y2, g2⟩ := hf 2 _ rfl
    have e2 : DataW.trod enc Try.prog w 0 (fun _ => true) true n2 63 (([(Value.int .u16 v0), (Value.int .u8 v1a), (Value.int .u8 v1b), c3, c4].drop 3).take (Try.prog.cellsOf 63)) = some y2 := g2
    rw [cn63] at e2
    replace e2 : DataW.trod enc Try.prog w 0 (fun _ => true) true n2 63 [c3, c4] = some y2 := e2
    obtain ⟨v2a, v2b, r2⟩ := od63 e2
    simp only [List.cons.injEq, and_true] at r2
    obtain ⟨rfl, rfl⟩ := r2
    exact ⟨⟨v0, v1a, v1b, v2a, v2b⟩, trivial, rfl⟩
theorem od54 (h : DataW.trod enc Try.prog w 0 (fun _ => true) true fuel 54 cs = some x) : SlIs Rd.z 5 (fun _ => True) w cs :=
  od_slice _ 5 (by omega) Rd.z_len _ Try.underlying54 cn104 (fun n cs y h => od104 h) h
theorem od108 (h : DataW.trod enc Try.prog w 0 (fun _ => true) true fuel 108 cs = some x) : ∃ x : Sd, (fun _ => True) x ∧ cs = x.z := by
  obtain ⟨hl, hf⟩ := od_struct Try.underlying108 h
  rw [cn108] at hl
  obtain ⟨c0, c1, c2, rfl⟩ := ln3 hl
  · skip
    obtain ⟨n0, y0, g0⟩ := hf 0 _ rfl
    have e0 : DataW.trod enc Try.prog w 0 (fun _ => true) true n0 63 (([c0, c1, c2].drop 0).take (Try.prog.cellsOf 63)) = some y0 := g0
    rw [cn63] at e0
    replace e0 : DataW.trod enc Try.prog w 0 (fun _ => true) true n0 63 [c0, c1] = some y0 := e0
    obtain ⟨v0a, v0b, r0⟩ := od63 e0
    simp only [List.cons.injEq, and_true] at r0
    obtain ⟨rfl, rfl⟩ := r0
    obtain ⟨n1, y1, g1⟩ := hf 1 _ rfl
    have e1 : DataW.trod enc Try.prog w 0 (fun _ => true) true n1 5 (([(Value.int .u8 v0a), (Value.int .u8 v0b), c2].drop 2).take (Try.prog.cellsOf 5)) = some y1 := g1
    rw [cn5] at e1
    replace e1 : DataW.trod enc Try.prog w 0 (fun _ => true) true n1 5 [c2] = some y1 := e1
    obtain ⟨v1, r1, _, w1⟩ := DataW.trod_int Try.underlying5 e1
    simp only [List.cons.injEq, and_true] at r1
    subst r1
    exact ⟨⟨v0a, v0b, v1⟩, trivial, rfl⟩
theorem od55 (h : DataW.trod enc Try.prog w 0 (fun _ => true) true fuel 55 cs = some x) : SlIs Sd.z 3 (fun _ => True) w cs :=
  od_slice _ 3 (by omega) Sd.z_len _ Try.underlying55 cn108 (fun n cs y h => od108 h) h
theorem od112 (h : DataW.trod enc Try.prog w 0 (fun _ => true) true fuel 112 cs = some x) : ∃ x : Fd, (fun _ => True) x ∧ cs = x.z := by
  obtain ⟨hl, hf⟩ := od_struct Try.underlying112 h
  rw [cn112] at hl
  obtain ⟨c0, c1, rfl⟩ := ln2 hl
  · skip
    obtain ⟨n0, y0, g0⟩ := hf 0 _ rfl
    have e0 : DataW.trod enc Try.prog w 0 (fun _ => true) true n0 50 (([c0, c1].drop 0).take (Try.prog.cellsOf 50)) = some y0 := g0
    rw [cn50] at e0
    replace e0 : DataW.trod enc Try.prog w 0 (fun _ => true) true n0 50 [c0] = some y0 := e0
    obtain ⟨v0, r0, _, w0⟩ := DataW.trod_int Try.underlying50 e0
    simp only [List.cons.injEq, and_true] at r0
    subst r0
    obtain ⟨n1, y1, g1⟩ := hf 1 _ rfl
    have e1 : DataW.trod enc Try.prog w 0 (fun _ => true) true n1 51 (([(Value.int .u16 v0), c1].drop 1).take (Try.prog.cellsOf 51)) = some y1 := g1
    rw [cn51] at e1
    replace e1 : DataW.trod enc Try.prog w 0 (fun _ => true) true n1 51 [c1] = some y1 := e1
    obtain ⟨v1, r1, _, w1⟩ := DataW.trod_int Try.underlying51 e1
    simp only [List.cons.injEq, and_true] at r1
    subst r1
    exact ⟨⟨v0, v1⟩, trivial, rfl⟩
theorem od56 (h : DataW.trod enc Try.prog w 0 (fun _ => true) true fuel 56 cs = some x) : SlIs Fd.z 2 (fun _ => True) w cs :=
  od_slice _ 2 (by omega) Fd.z_len _ Try.underlying56 cn112 (fun n cs y h => od112 h) h
/-- What the record's four cells are. -/
def RecIs (w : World) (cs : List Value) : Prop := ∃ (v : DelV) (r s f : Sl), cs = [.int .u16 v.fl, .slice r.a r.n r.c, .slice s.a s.n s.c, .slice f.a f.n f.c] ∧ v.rd.length = r.n ∧ v.sd.length = s.n ∧ v.fd.length = f.n ∧ ARow Rd.z 5 w r.a v.rd ∧ ARow Sd.z 3 w s.a v.sd ∧ ARow Fd.z 2 w f.a v.fd ∧
  (r.a = none → r.n = 0 ∧ r.c = 0) ∧ (s.a = none → s.n = 0 ∧ s.c = 0) ∧ (f.a = none → f.n = 0 ∧ f.c = 0)
theorem od58 (h : DataW.trod enc Try.prog w 0 (fun _ => true) true fuel 58 cs = some x) : RecIs w cs := by
  obtain ⟨hl, hf⟩ := od_struct Try.underlying58 h
  rw [cn58] at hl
  obtain ⟨c0, c1, c2, c3, rfl⟩ := ln4 hl
  · skip
    obtain ⟨n0, y0, g0⟩ := hf 0 _ rfl
    have e0 : DataW.trod enc Try.prog w 0 (fun _ => true) true n0 50 (([c0, c1, c2, c3].drop 0).take (Try.prog.cellsOf 50)) = some y0 := g0
    rw [cn50] at e0
    replace e0 : DataW.trod enc Try.prog w 0 (fun _ => true) true n0 50 [c0] = some y0 := e0
    obtain ⟨v0, r0, _, w0⟩ := DataW.trod_int Try.underlying50 e0
    simp only [List.cons.injEq, and_true] at r0
    subst r0
    obtain ⟨n1, y1, g1⟩ := hf 1 _ rfl
    have e1 : DataW.trod enc Try.prog w 0 (fun _ => true) true n1 54 (([(Value.int .u16 v0), c1, c2, c3].drop 1).take (Try.prog.cellsOf 54)) = some y1 := g1
    rw [cn54] at e1
    replace e1 : DataW.trod enc Try.prog w 0 (fun _ => true) true n1 54 [c1] = some y1 := e1
    obtain ⟨s1, L1, r1, z1, l1, a1, q1⟩ := od54 e1
    simp only [List.cons.injEq, and_true] at r1
    subst r1
    obtain ⟨n2, y2, g2⟩ := hf 2 _ rfl
    have e2 : DataW.trod enc Try.prog w 0 (fun _ => true) true n2 55 (([(Value.int .u16 v0), (Value.slice s1.a s1.n s1.c), c2, c3].drop 2).take (Try.prog.cellsOf 55)) = some y2 := g2
    rw [cn55] at e2
    replace e2 : DataW.trod enc Try.prog w 0 (fun _ => true) true n2 55 [c2] = some y2 := e2
    obtain ⟨s2, L2, r2, z2, l2, a2, q2⟩ := od55 e2
    simp only [List.cons.injEq, and_true] at r2
    subst r2
    obtain ⟨n3, y3, g3⟩ := hf 3 _ rfl
    have e3 : DataW.trod enc Try.prog w 0 (fun _ => true) true n3 56 (([(Value.int .u16 v0), (Value.slice s1.a s1.n s1.c), (Value.slice s2.a s2.n s2.c), c3].drop 3).take (Try.prog.cellsOf 56)) = some y3 := g3
    rw [cn56] at e3
    replace e3 : DataW.trod enc Try.prog w 0 (fun _ => true) true n3 56 [c3] = some y3 := e3
    obtain ⟨s3, L3, r3, z3, l3, a3, q3⟩ := od56 e3
    simp only [List.cons.injEq, and_true] at r3
    subst r3
    exact ⟨⟨v0, L1, L2, L3⟩, s1, s2, s3, rfl, l1, l2, l3, a1, a2, a3, z1, z2, z3⟩
/-- A nil list is empty. -/
def NilOk (w : World) (D : Option Addr) : Prop :=
  ∀ B bo, D = some ⟨B, bo, none⟩ → ∀ f : Nat, f ≤ 3 → ∀ (a : Option Addr) (n c : Nat), w.cell? ⟨B, bo + f, none⟩ = some (.slice a n c) → (a = none → n = 0 ∧ c = 0)
theorem od28 (h : DataW.trod enc Try.prog w 0 (fun _ => true) true fuel 28 cs = some x) : ∃ (D : Option Addr) (d : Option DelV), cs = [.pointer D] ∧ DelIs w D d ∧ NilOk w D := by
  rcases DataW.trod_pointer Try.underlying28 h with ⟨rfl, _⟩ | ⟨a, cs', y, n, _, rfl, _, hc, hy⟩
  · exact ⟨none, none, rfl, .inl ⟨rfl, rfl⟩, fun B bo hB => by cases hB⟩
  · obtain ⟨v, r, s, f, rfl, l1, l2, l3, a1, a2, a3, z1, z2, z3⟩ := od58 hy
    rw [cn58] at hc
    obtain ⟨_, _, hcell⟩ := World.cells?_some hc
    have c0 := hcell 0 (by omega)
    obtain ⟨b, o, sp⟩ := a
    have hsp : sp = none := by
      cases sp with
      | none => rfl
      | some s =>
        exfalso
        simp [Addr.add, World.cell?] at c0
        split at c0 <;> simp at c0
    subst hsp
    have e0 : w.cell? ⟨b, o, none⟩ = some (.int .u16 v.fl) := c0
    have e1 : w.cell? ⟨b, o + 1, none⟩ = some (.slice r.a r.n r.c) := hcell 1 (by omega)
    have e2 : w.cell? ⟨b, o + 2, none⟩ = some (.slice s.a s.n s.c) := hcell 2 (by omega)
    have e3 : w.cell? ⟨b, o + 3, none⟩ = some (.slice f.a f.n f.c) := hcell 3 (by omega)
    refine ⟨some ⟨b, o, none⟩, some v, rfl, .inr ⟨b, o, v, r, s, f, rfl, rfl, e0, e1, e2, e3, l1, l2, l3, a1, a2, a3⟩, fun B bo hB i hi a n c hs => ?_⟩
    injection hB with hB
    injection hB with hB1 hB2
    subst hB1 hB2
    match i, hi with
    | 0, _ => rw [Nat.add_zero, e0] at hs; cases hs
    | 1, _ => rw [e1] at hs; injection hs with hs; injection hs with h1 h2 h3; subst h1 h2 h3; exact z1
    | 2, _ => rw [e2] at hs; injection hs with hs; injection hs with h1 h2 h3; subst h1 h2 h3; exact z2
    | 3, _ => rw [e3] at hs; injection hs with hs; injection hs with h1 h2 h3; subst h1 h2 h3; exact z3
theorem pk_of : ∀ {ps : List Pk}, (∀ p ∈ ps, ∃ cs, CodeIs w p.co cs) → ∃ xs, PkIs w ps xs
  | [], _ => ⟨[], trivial⟩
  | p :: ps, h => by
    obtain ⟨cs, hc⟩ := h p (by simp)
    obtain ⟨xs, hx⟩ := pk_of (ps := ps) (fun q hq => h q (by simp [hq]))
    exact ⟨(p.core, cs) :: xs, ⟨rfl, hc⟩, hx⟩
/-- A nil list of the airport is empty. -/
structure NilFine (H : Heads) : Prop where
  r : H.r.a = none → H.r.n = 0 ∧ H.r.c = 0
  s : H.s.a = none → H.s.n = 0 ∧ H.s.c = 0
  c : H.c.a = none → H.c.n = 0 ∧ H.c.c = 0
  h : H.h.a = none → H.h.n = 0 ∧ H.h.c = 0
  p : H.p.a = none → H.p.n = 0 ∧ H.p.c = 0
  t : H.t.a = none → H.t.n = 0 ∧ H.t.c = 0
  q : H.q.a = none → H.q.n = 0 ∧ H.q.c = 0
theorem od33 (h : DataW.trod enc Try.prog w 0 (fun _ => true) true fuel 33 cs = some x) : ∃ (T : Top) (Hd : Heads) (D : Option Addr) (L : Lists) (ps : List Pk) (d : Option DelV), cs = cellsOf T Hd D ∧ View Rw.z 12 w Hd L ps ∧ DelIs w D d ∧ NilFine Hd ∧ NilOk w D ∧
    ∀ x ∈ L.q, (-9223372036854775808 ≤ x.st ∧ x.st ≤ 9223372036854775807) ∧ (-9223372036854775808 ≤ x.en ∧ x.en ≤ 9223372036854775807) := by
  obtain ⟨hl, hf⟩ := od_struct Try.underlying33 h
  rw [cn33] at hl
  obtain ⟨c0, c1, c2, c3, c4, c5, c6, c7, c8, c9, c10, c11, c12, c13, rfl⟩ := ln14 hl
  · skip
    obtain ⟨n0, y0, g0⟩ := hf 0 _ rfl
    have e0 : DataW.trod enc Try.prog w 0 (fun _ => true) true n0 9 (([c0, c1, c2, c3, c4, c5, c6, c7, c8, c9, c10, c11, c12, c13].drop 0).take (Try.prog.cellsOf 9)) = some y0 := g0
    rw [cn9] at e0
    replace e0 : DataW.trod enc Try.prog w 0 (fun _ => true) true n0 9 [c0] = some y0 := e0
    obtain ⟨v0, r0, _, _⟩ := DataW.trod_string Try.underlying9 e0
    simp only [List.cons.injEq, and_true] at r0
    subst r0
    obtain ⟨n1, y1, g1⟩ := hf 1 _ rfl
    have e1 : DataW.trod enc Try.prog w 0 (fun _ => true) true n1 9 (([(Value.string v0), c1, c2, c3, c4, c5, c6, c7, c8, c9, c10, c11, c12, c13].drop 1).take (Try.prog.cellsOf 9)) = some y1 := g1
    rw [cn9] at e1
    replace e1 : DataW.trod enc Try.prog w 0 (fun _ => true) true n1 9 [c1] = some y1 := e1
    obtain ⟨v1, r1, _, _⟩ := DataW.trod_string Try.underlying9 e1
    simp only [List.cons.injEq, and_true] at r1
    subst r1
    obtain ⟨n2, y2, g2⟩ := hf 2 _ rfl
    have e2 : DataW.trod enc Try.prog w 0 (fun _ => true) true n2 22 (([(Value.string v0), (Value.string v1), c2, c3, c4, c5, c6, c7, c8, c9, c10, c11, c12, c13].drop 2).take (Try.prog.cellsOf 22)) = some y2 := g2
    rw [cn22] at e2
    replace e2 : DataW.trod enc Try.prog w 0 (fun _ => true) true n2 22 [c2] = some y2 := e2
    obtain ⟨v2, r2⟩ := od_float Try.underlying22 e2
    simp only [List.cons.injEq, and_true] at r2
    subst r2
    obtain ⟨n3, y3, g3⟩ := hf 3 _ rfl
    have e3 : DataW.trod enc Try.prog w 0 (fun _ => true) true n3 22 (([(Value.string v0), (Value.string v1), (Value.float .f64 v2), c3, c4, c5, c6, c7, c8, c9, c10, c11, c12, c13].drop 3).take (Try.prog.cellsOf 22)) = some y3 := g3
    rw [cn22] at e3
    replace e3 : DataW.trod enc Try.prog w 0 (fun _ => true) true n3 22 [c3] = some y3 := e3
    obtain ⟨v3, r3⟩ := od_float Try.underlying22 e3
    simp only [List.cons.injEq, and_true] at r3
    subst r3
    obtain ⟨n4, y4, g4⟩ := hf 4 _ rfl
    have e4 : DataW.trod enc Try.prog w 0 (fun _ => true) true n4 22 (([(Value.string v0), (Value.string v1), (Value.float .f64 v2), (Value.float .f64 v3), c4, c5, c6, c7, c8, c9, c10, c11, c12, c13].drop 4).take (Try.prog.cellsOf 22)) = some y4 := g4
    rw [cn22] at e4
    replace e4 : DataW.trod enc Try.prog w 0 (fun _ => true) true n4 22 [c4] = some y4 := e4
    obtain ⟨v4, r4⟩ := od_float Try.underlying22 e4
    simp only [List.cons.injEq, and_true] at r4
    subst r4
    obtain ⟨n5, y5, g5⟩ := hf 5 _ rfl
    have e5 : DataW.trod enc Try.prog w 0 (fun _ => true) true n5 23 (([(Value.string v0), (Value.string v1), (Value.float .f64 v2), (Value.float .f64 v3), (Value.float .f64 v4), c5, c6, c7, c8, c9, c10, c11, c12, c13].drop 5).take (Try.prog.cellsOf 23)) = some y5 := g5
    rw [cn23] at e5
    replace e5 : DataW.trod enc Try.prog w 0 (fun _ => true) true n5 23 [c5] = some y5 := e5
    obtain ⟨v5, r5⟩ := od_float Try.underlying23 e5
    simp only [List.cons.injEq, and_true] at r5
    subst r5
    obtain ⟨n6, y6, g6⟩ := hf 6 _ rfl
    have e6 : DataW.trod enc Try.prog w 0 (fun _ => true) true n6 24 (([(Value.string v0), (Value.string v1), (Value.float .f64 v2), (Value.float .f64 v3), (Value.float .f64 v4), (Value.float .f32 v5), c6, c7, c8, c9, c10, c11, c12, c13].drop 6).take (Try.prog.cellsOf 24)) = some y6 := g6
    rw [cn24] at e6
    replace e6 : DataW.trod enc Try.prog w 0 (fun _ => true) true n6 24 [c6] = some y6 := e6
    obtain ⟨s6, L6, r6, z6, l6, a6, q6⟩ := od24 e6
    simp only [List.cons.injEq, and_true] at r6
    subst r6
    obtain ⟨n7, y7, g7⟩ := hf 7 _ rfl
    have e7 : DataW.trod enc Try.prog w 0 (fun _ => true) true n7 25 (([(Value.string v0), (Value.string v1), (Value.float .f64 v2), (Value.float .f64 v3), (Value.float .f64 v4), (Value.float .f32 v5), (Value.slice s6.a s6.n s6.c), c7, c8, c9, c10, c11, c12, c13].drop 7).take (Try.prog.cellsOf 25)) = some y7 := g7
    rw [cn25] at e7
    replace e7 : DataW.trod enc Try.prog w 0 (fun _ => true) true n7 25 [c7] = some y7 := e7
    obtain ⟨s7, L7, r7, z7, l7, a7, q7⟩ := od25 e7
    simp only [List.cons.injEq, and_true] at r7
    subst r7
    obtain ⟨n8, y8, g8⟩ := hf 8 _ rfl
    have e8 : DataW.trod enc Try.prog w 0 (fun _ => true) true n8 26 (([(Value.string v0), (Value.string v1), (Value.float .f64 v2), (Value.float .f64 v3), (Value.float .f64 v4), (Value.float .f32 v5), (Value.slice s6.a s6.n s6.c), (Value.slice s7.a s7.n s7.c), c8, c9, c10, c11, c12, c13].drop 8).take (Try.prog.cellsOf 26)) = some y8 := g8
    rw [cn26] at e8
    replace e8 : DataW.trod enc Try.prog w 0 (fun _ => true) true n8 26 [c8] = some y8 := e8
    obtain ⟨s8, L8, r8, z8, l8, a8, q8⟩ := od26 e8
    simp only [List.cons.injEq, and_true] at r8
    subst r8
    obtain ⟨n9, y9, g9⟩ := hf 9 _ rfl
    have e9 : DataW.trod enc Try.prog w 0 (fun _ => true) true n9 27 (([(Value.string v0), (Value.string v1), (Value.float .f64 v2), (Value.float .f64 v3), (Value.float .f64 v4), (Value.float .f32 v5), (Value.slice s6.a s6.n s6.c), (Value.slice s7.a s7.n s7.c), (Value.slice s8.a s8.n s8.c), c9, c10, c11, c12, c13].drop 9).take (Try.prog.cellsOf 27)) = some y9 := g9
    rw [cn27] at e9
    replace e9 : DataW.trod enc Try.prog w 0 (fun _ => true) true n9 27 [c9] = some y9 := e9
    obtain ⟨s9, L9, r9, z9, l9, a9, q9⟩ := od27 e9
    simp only [List.cons.injEq, and_true] at r9
    subst r9
    obtain ⟨n10, y10, g10⟩ := hf 10 _ rfl
    have e10 : DataW.trod enc Try.prog w 0 (fun _ => true) true n10 28 (([(Value.string v0), (Value.string v1), (Value.float .f64 v2), (Value.float .f64 v3), (Value.float .f64 v4), (Value.float .f32 v5), (Value.slice s6.a s6.n s6.c), (Value.slice s7.a s7.n s7.c), (Value.slice s8.a s8.n s8.c), (Value.slice s9.a s9.n s9.c), c10, c11, c12, c13].drop 10).take (Try.prog.cellsOf 28)) = some y10 := g10
    rw [cn28] at e10
    replace e10 : DataW.trod enc Try.prog w 0 (fun _ => true) true n10 28 [c10] = some y10 := e10
    obtain ⟨D10, d10, r10, p10, k10⟩ := od28 e10
    simp only [List.cons.injEq, and_true] at r10
    subst r10
    obtain ⟨n11, y11, g11⟩ := hf 11 _ rfl
    have e11 : DataW.trod enc Try.prog w 0 (fun _ => true) true n11 29 (([(Value.string v0), (Value.string v1), (Value.float .f64 v2), (Value.float .f64 v3), (Value.float .f64 v4), (Value.float .f32 v5), (Value.slice s6.a s6.n s6.c), (Value.slice s7.a s7.n s7.c), (Value.slice s8.a s8.n s8.c), (Value.slice s9.a s9.n s9.c), (Value.pointer D10), c11, c12, c13].drop 11).take (Try.prog.cellsOf 29)) = some y11 := g11
    rw [cn29] at e11
    replace e11 : DataW.trod enc Try.prog w 0 (fun _ => true) true n11 29 [c11] = some y11 := e11
    obtain ⟨s11, L11, r11, z11, l11, a11, q11⟩ := od29 e11
    simp only [List.cons.injEq, and_true] at r11
    subst r11
    obtain ⟨n12, y12, g12⟩ := hf 12 _ rfl
    have e12 : DataW.trod enc Try.prog w 0 (fun _ => true) true n12 30 (([(Value.string v0), (Value.string v1), (Value.float .f64 v2), (Value.float .f64 v3), (Value.float .f64 v4), (Value.float .f32 v5), (Value.slice s6.a s6.n s6.c), (Value.slice s7.a s7.n s7.c), (Value.slice s8.a s8.n s8.c), (Value.slice s9.a s9.n s9.c), (Value.pointer D10), (Value.slice s11.a s11.n s11.c), c12, c13].drop 12).take (Try.prog.cellsOf 30)) = some y12 := g12
    rw [cn30] at e12
    replace e12 : DataW.trod enc Try.prog w 0 (fun _ => true) true n12 30 [c12] = some y12 := e12
    obtain ⟨s12, L12, r12, z12, l12, a12, q12⟩ := od30 e12
    simp only [List.cons.injEq, and_true] at r12
    subst r12
    obtain ⟨n13, y13, g13⟩ := hf 13 _ rfl
    have e13 : DataW.trod enc Try.prog w 0 (fun _ => true) true n13 31 (([(Value.string v0), (Value.string v1), (Value.float .f64 v2), (Value.float .f64 v3), (Value.float .f64 v4), (Value.float .f32 v5), (Value.slice s6.a s6.n s6.c), (Value.slice s7.a s7.n s7.c), (Value.slice s8.a s8.n s8.c), (Value.slice s9.a s9.n s9.c), (Value.pointer D10), (Value.slice s11.a s11.n s11.c), (Value.slice s12.a s12.n s12.c), c13].drop 13).take (Try.prog.cellsOf 31)) = some y13 := g13
    rw [cn31] at e13
    replace e13 : DataW.trod enc Try.prog w 0 (fun _ => true) true n13 31 [c13] = some y13 := e13
    obtain ⟨s13, L13, r13, z13, l13, a13, q13⟩ := od31 e13
    simp only [List.cons.injEq, and_true] at r13
    subst r13
    obtain ⟨xs, hxs⟩ := pk_of q11
    exact ⟨⟨v0, v1, v2, v3, v4, v5⟩, ⟨s6, s7, s8, s9, s11, s12, s13⟩, D10, ⟨L6, L7, L8, L9, xs, L12, L13⟩, L11, d10, rfl, ⟨l6, l7, l8, l9, l11, l12, l13, a6, a7, a8, a9, a11, a12, a13, hxs⟩, p10, ⟨z6, z7, z8, z9, z11, z12, z13⟩, k10, q13⟩
end
end Go.Proofs.Qxb6619005a
