import Derived.Test.Qxb6619005aPiece
import Derived.Laws.CopyOwn
namespace Go.Proofs.Qxb6619005a
open Go.RowKit

/-- A parking spot's own values. -/
structure Pc where
  nm : Int
  nu : Int
  ty : Int
  pb : Int
  ra : Nat
  hd : Nat
  la : Nat
  lo : Nat
  el : Nat
def Pk.core (x : Pk) : Pc := ⟨x.nm, x.nu, x.ty, x.pb, x.ra, x.hd, x.la, x.lo, x.el⟩

/-- The slice 's' holds the strings 'cs'. -/
def CodeIs (w : World) (s : Sl) (cs : List ByteArray) : Prop := cs.length = s.n ∧ ARow (fun b => [.string b]) 1 w s.a cs

/-- The heads 'ps' stand for the spots 'xs'. -/
def PkIs (w : World) : List Pk → List (Pc × List ByteArray) → Prop
  | [], [] => True
  | p :: ps, x :: xs => (p.core = x.1 ∧ CodeIs w p.co x.2) ∧ PkIs w ps xs
  | _, _ => False

/-- The spots' own code lists lie at 'B' or above. -/
def Far (B : Nat) (ps : List Pk) : Prop := ∀ p ∈ ps, ∀ A, p.co.a = some A → B ≤ A.block

theorem PkIs.length {w : World} : ∀ {ps : List Pk} {xs : List (Pc × List ByteArray)}, PkIs w ps xs → ps.length = xs.length
  | [], [], _ => rfl
  | _ :: _, _ :: _, h => by simp [PkIs.length h.2]
theorem PkIs.append {w : World} : ∀ {ps : List Pk} {xs : List (Pc × List ByteArray)} {ps' : List Pk} {xs' : List (Pc × List ByteArray)}, PkIs w ps xs → PkIs w ps' xs' → PkIs w (ps ++ ps') (xs ++ xs')
  | [], [], _, _, _, h' => h'
  | _ :: _, _ :: _, _, _, h, h' => ⟨h.1, PkIs.append h.2 h'⟩
theorem PkIs.get {w : World} : ∀ {ps : List Pk} {xs : List (Pc × List ByteArray)}, PkIs w ps xs → ∀ (i : Nat) (p : Pk), ps[i]? = some p → ∃ x, xs[i]? = some x ∧ p.core = x.1 ∧ CodeIs w p.co x.2
  | [], [], _, i, p, hp => by simp at hp
  | _ :: _, x :: _, h, 0, p, hp => by simp at hp; subst hp; exact ⟨x, rfl, h.1.1, h.1.2⟩
  | _ :: _, _ :: _, h, i + 1, p, hp => by simpa using PkIs.get h.2 i p (by simpa using hp)
theorem PkIs.mono {w w' : World} : ∀ {ps : List Pk} {xs : List (Pc × List ByteArray)}, PkIs w ps xs → (∀ p ∈ ps, ∀ cs, CodeIs w p.co cs → CodeIs w' p.co cs) → PkIs w' ps xs
  | [], [], _, _ => trivial
  | p :: _, _ :: _, h, hk => ⟨⟨h.1.1, hk p (by simp) _ h.1.2⟩, PkIs.mono h.2 (fun q hq => hk q (by simp [hq]))⟩
theorem CodeIs.kept {w w' : World} {s : Sl} {cs : List ByteArray} (h : CodeIs w s cs) (hk : ∀ A, s.a = some A → A.block < w.heap.size → w'.heap[A.block]? = w.heap[A.block]?) : CodeIs w' s cs :=
  ⟨h.1, fun hp => by
    obtain ⟨b, o, ha, hc⟩ := h.2 hp
    refine ⟨b, o, ha, fun i x hx j v hv => ?_⟩
    have := hc i x hx j v hv
    have hlt : b < w.heap.size := World.block_lt_of_cell? _ _ this
    rw [World.cell?_of_block (w := w) (a := ⟨b, o + i * 1 + j, Option.none⟩) (hk ⟨b, o, Option.none⟩ ha hlt)]
    exact this⟩
theorem PkIs.kept {w w' : World} {B : Nat} {ps : List Pk} {xs : List (Pc × List ByteArray)} (h : PkIs w ps xs) (hf : Far B ps) (hk : ∀ b, B ≤ b → b < w.heap.size → w'.heap[b]? = w.heap[b]?) : PkIs w' ps xs :=
  h.mono fun p hp _ hc => hc.kept fun A hA hlt => hk _ (hf p hp A hA) hlt
theorem PkIs.below {w w' : World} {ps : List Pk} {xs : List (Pc × List ByteArray)} (h : PkIs w ps xs) (hb : Below w.heap.size w w') : PkIs w' ps xs :=
  h.mono fun _ _ _ hc => hc.kept fun _ _ hlt => hb.block _ hlt
theorem CodeIs.below {w w' : World} {s : Sl} {cs : List ByteArray} (h : CodeIs w s cs) (hb : Below w.heap.size w w') : CodeIs w' s cs := h.kept fun _ _ hlt => hb.block _ hlt

theorem CodeIs.none {w w' : World} {n c : Nat} {cs : List ByteArray} (h : CodeIs w ⟨none, n, c⟩ cs) : CodeIs w' ⟨none, 0, 0⟩ cs := by
  have h0 : ¬ 0 < cs.length := fun hp => by obtain ⟨b, o, ha, _⟩ := h.2 hp; cases ha
  exact ⟨by show cs.length = 0; omega, fun hp => absurd hp h0⟩
theorem CodeIs.new {w : World} {g n : Nat} {cs : List ByteArray} {cur : List Value} (hn : cs.length = n) (hl : cur.length = n * 1) (h : w.heap[g]? = some (.cells (splice cur 0 (cs.map Value.string)).toArray 9 (0, 0))) : CodeIs w ⟨some ⟨g, 0, Option.none⟩, n, n⟩ cs := by
  have e : splice cur 0 (cs.map Value.string) = cs.map Value.string := by
    simp [splice]; omega
  rw [e] at h
  refine ⟨hn, fun _ => ⟨g, 0, rfl, fun i x hx j v hv => ?_⟩⟩
  have hj : j = 0 := by
    have := (List.getElem?_eq_some_iff.1 hv).1; simp at this; exact this
  subst hj
  simp at hv
  subst hv
  rw [cell_of_row w g _ _ _ (0, 0) h]
  simp [hx]
theorem CodeIs.src {w : World} {a : Option Addr} {n c : Nat} {cs : List ByteArray} (h : CodeIs w ⟨a, n, c⟩ cs) : 0 < (cs.map Value.string).length → ∃ ad, a = some ad ∧ ∀ j v, (cs.map Value.string)[j]? = some v → w.cell? (ad.add j) = some v := fun hp => by
  obtain ⟨b, o, ha, hc⟩ := h.2 (by simpa using hp)
  refine ⟨_, ha, fun j v hv => ?_⟩
  simp only [List.getElem?_map, Option.map_eq_some_iff] at hv
  obtain ⟨x, hx, rfl⟩ := hv
  have := hc j x hx 0 (.string x) rfl
  rw [Addr.add_lit]
  simpa using this
theorem strs_one (cs : List ByteArray) : ∀ v ∈ cs.map Value.string, v.oneCell' = true := fun v hv => by
  obtain ⟨x, _, rfl⟩ := List.mem_map.1 hv; rfl
theorem info9 : (Try.prog.info? 9).map (·.size) = some 1 := by kernel_rfl
theorem inf9 : (Try.prog.info? 9).map (fun i => (i.size, i.bytes, i.zero.map (·.cells.size))) = some (1, 16, some 1) := by kernel_rfl
theorem inf119 : (Try.prog.info? 119).map (fun i => (i.size, i.bytes, i.zero.map (·.cells.size))) = some (10, 64, some 10) := by kernel_rfl
theorem inf61 : (Try.prog.info? 61).map (fun i => (i.size, i.bytes, i.zero.map (·.cells.size))) = some (10, 64, some 10) := by kernel_rfl

/-- One spot more. -/
theorem Fill.spot {w0 wr w1 : World} {g e n K : Nat} {ps : List Pk} {p : Pk} (h : Fill w0 wr g e (n * 10) (ps.flatMap Pk.a)) (hk : ps.length = K) (hn : K < n) (hb : Below wr.heap.size wr w1) :
    Fill w0 (w1.setCells g (K * 10) p.a) g e (n * 10) ((ps ++ [p]).flatMap Pk.a) := by
  have hl : (ps.flatMap Pk.a).length = K * 10 := by rw [flat_len Pk.a 10 Pk.a_len, hk]
  have hm : (K + 1) * 10 ≤ n * 10 := Nat.mul_le_mul_right 10 (by omega)
  have := h.step (vs := p.a) hb (by rw [hl, Pk.a_len]; omega)
  rw [hl] at this
  simpa using this
theorem heap_setCells_far {w : World} {g o b : Nat} {vs : List Value} (hne : b ≠ g) (hlt : b < w.heap.size) : (w.setCells g o vs).heap[b]? = w.heap[b]? := World.heap_setCells_other _ _ _ _ hlt hne
theorem size_setCells {g : Nat} : ∀ (vs : List Value) (o : Nat) (w : World), (w.setCells g o vs).heap.size = w.heap.size
  | [], _, _ => rfl
  | v :: r, o, w => by rw [World.setCells, size_setCells r]; simp
theorem pk_step {w0 wr w1 : World} {g e K n : Nat} {ps' : List Pk} {xs : List (Pc × List ByteArray)} {xx : Pc × List ByteArray} (p : Pk) (hF : Fill w0 wr g e (n * 10) (ps'.flatMap Pk.a)) (hpl : ps'.length = K) (hlt : K < n) (hPI : PkIs wr ps' (xs.take K)) (hFa : Far (g + 1) ps') (hxx : xs[K]? = some xx)
    (hb : Below wr.heap.size wr w1) (hco : p.core = xx.1) (hcd : CodeIs w1 p.co xx.2) (hfar : ∀ A, p.co.a = some A → g + 1 ≤ A.block) :
    ∃ p' : Pk, Fill w0 (w1.setCells g (K * 10) p.a) g e (n * 10) ((ps' ++ [p']).flatMap Pk.a) ∧ PkIs (w1.setCells g (K * 10) p.a) (ps' ++ [p']) (xs.take (K + 1)) ∧ Far (g + 1) (ps' ++ [p']) := by
  refine ⟨p, hF.spot hpl hlt hb, ?_, ?_⟩
  · rw [List.take_add_one, hxx]
    refine PkIs.append (hPI.kept hFa fun b hb' hlt' => ?_) ⟨⟨hco, hcd.kept fun A hA hlt' => ?_⟩, trivial⟩
    · rw [heap_setCells_far (by omega) (Nat.lt_of_lt_of_le hlt' hb.size), hb.block b hlt']
    · have := hfar A hA
      exact heap_setCells_far (by omega) hlt'
  · intro q hq A hA
    rcases List.mem_append.1 hq with hq | hq
    · exact hFa q hq A hA
    · simp only [List.mem_singleton] at hq
      subst hq
      exact hfar A hA
end Go.Proofs.Qxb6619005a
