import Derived.Test.Qxb6616435aPtrMap
import Derived.Test.Qxb6616435aAlgebra
import Derived.Maps.OwnOps
namespace Go.Proofs.Qxb6616435a
open Go.RowKit Go.MapKept
open Go.ChangeMaps (setBlock)

/-- A transaction at block 'b' whose map is 'm'. -/
def Tx (w : World) (b : Nat) (m : Option Nat) : Prop := w.heap[b]? = some (.cells #[.int .i64 0, .map m, .bool false, .map none] 63 (0, 0))

theorem Tx.cell {w : World} {b : Nat} {m : Option Nat} (h : Tx w b m) : w.cell? ⟨b, 1, none⟩ = some (.map m) := by
  unfold Tx at h; simp [World.cell?, h]
theorem Tx.frozen {w : World} {b : Nat} {m : Option Nat} (h : Tx w b m) : w.frozen? ⟨b, 1, none⟩ = false := by
  unfold Tx at h; simp [World.frozen?, h]
theorem Tx.lt {w : World} {b : Nat} {m : Option Nat} (h : Tx w b m) : b < w.heap.size := by
  unfold Tx at h
  rcases Nat.lt_or_ge b w.heap.size with h' | h'
  · exact h'
  · rw [Array.getElem?_eq_none h'] at h; cases h

/-- The bit of slot 's' put into the set 'v'. -/
def addBit (v s : Nat) : Nat := v ||| (if 16 ≤ s then 0 else 2 ^ s)

theorem bit_lt (s : Nat) : (if 16 ≤ s then 0 else 2 ^ s : Nat) < 65536 := by
  by_cases h : 16 ≤ s
  · rw [if_pos h]; omega
  · rw [if_neg h]; exact Nat.pow_lt_pow_of_lt (by decide : 1 < 2) (by omega : s < 16)
theorem addBit_lt {v : Nat} (s : Nat) (hv : v < 65536) : addBit v s < 65536 := Nat.or_lt_two_pow (n := 16) hv (bit_lt s)
theorem addBit_walk (v s : Nat) (hv : v < 65536) : bits .or .u16 (v : Int) (IntKind.u16.wrap (2 ^ min s 16)) = (addBit v s : Int) := by
  obtain ⟨b, hb, hlt, hbe⟩ := bit_nat (s : Int) (by omega)
  rw [Int.toNat_natCast] at hb hbe
  rw [hb, u16_or_nat _ _ hv hlt, hbe]; rfl

set_option maxHeartbeats 400000 in
theorem holdBack_some (b r j s : Nat) (A : Nat → Nat) (L : List (Nat × Nat)) (w : World) (hT : Tx w b (some r)) (hm : MapIs w A (some r) L) (hH : Heads w A) (hI : Apart A) (hj : j < 256) :
    Calls Try.prog 28 #[.pointer (some ⟨b, 0, none⟩), hp (A j), .int .u8 (s : Int)] w fun e w' => e = .returned (.tuple #[]) ∧
      ∃ o, w' = setBlock w r o ∧ MapIs w' A (some r) (put j (addBit ((look j L).getD 0) s) L) := by
  have hc := hT.cell
  have hlk := run_look w A hH hI (some r) L hm j hj false
  have hv : (look j L).getD 0 < 65536 := by
    cases hq : look j L with
    | none => simp
    | some v => exact (hm.1 _ (look_mem hq)).2
  obtain ⟨o, hpt, hm'⟩ := run_put w A hH hI r L hm j (addBit ((look j L).getD 0) s) hj (addBit_lt s hv)
  rw [← addBit_walk _ s hv] at hpt
  have HM : Hid (MapIs (setBlock w r o) A (some r) (put j (addBit ((look j L).getD 0) s) L)) := hm'
  clear hm' hm hT
  simp only [Bool.false_eq_true, if_false] at hlk
  have q60 : ∀ (w : World) (r : Option Nat), (binOp .eql 60 (.map r) (.map none)).run Try.prog w = .ok (.bool r.isNone) w := fun w r => run_eql_map_nil w 60 29 66 r Try.underlying60
  clear hH hI hv
  go_enter Try.func28, Try.ntmps28
  go_wp2
  go_end0
  exact ⟨rfl, o, rfl, HM.out⟩

/-- Nothing has turned but new blocks and those that 'C' names. -/
structure Fr (C : Nat → Prop) (w w' : World) : Prop where
  os : w'.os = w.os
  tape : w'.tape = w.tape
  output : w'.output = w.output
  size : w.heap.size ≤ w'.heap.size
  block : ∀ k, k < w.heap.size → ¬ C k → w'.heap[k]? = w.heap[k]?

theorem Fr.refl (C : Nat → Prop) (w : World) : Fr C w w := ⟨rfl, rfl, rfl, Nat.le_refl _, fun _ _ _ => rfl⟩
theorem Fr.trans {C : Nat → Prop} {a b c : World} (h : Fr C a b) (k : Fr C b c) : Fr C a c :=
  ⟨k.os.trans h.os, k.tape.trans h.tape, k.output.trans h.output, Nat.le_trans h.size k.size, fun i hi hc => (k.block i (Nat.lt_of_lt_of_le hi h.size) hc).trans (h.block i hi hc)⟩
theorem Fr.mono {C D : Nat → Prop} {a b : World} (h : Fr C a b) (hcd : ∀ k, C k → D k) : Fr D a b :=
  ⟨h.os, h.tape, h.output, h.size, fun k hk hd => h.block k hk (fun hc => hd (hcd k hc))⟩
theorem Fr.below {C : Nat → Prop} {a b : World} {B : Nat} (h : Fr C a b) (hB : B ≤ a.heap.size) (hC : ∀ k, C k → B ≤ k) : Below B a b :=
  ⟨h.os, h.tape, h.output, h.size, fun k hk => h.block k (by omega) (fun hc => by have := hC k hc; omega)⟩
theorem Fr.setBlock {C : Nat → Prop} (w : World) (r : Nat) (o : Obj) (hr : C r) : Fr C w (setBlock w r o) :=
  ⟨rfl, rfl, rfl, by simp [ChangeMaps.setBlock], fun k _ hc => by
    simp only [ChangeMaps.setBlock, Array.getElem?_setIfInBounds]
    rw [if_neg (fun e : r = k => hc (e ▸ hr))]⟩
theorem Fr.alloc {C : Nat → Prop} {a w : World} (h : Fr C a w) (o : Obj) : Fr C a (w.alloc o) :=
  h.trans ⟨rfl, rfl, rfl, by simp, fun k hk _ => Below.heap_alloc _ _ _ hk⟩
theorem Fr.setCell {C : Nat → Prop} {a w : World} (h : Fr C a w) (p : Addr) (u : Value) (hp : C p.block) : Fr C a (w.setCell p u) :=
  h.trans ⟨rfl, rfl, rfl, by simp [World.setCell], fun k _ hc => Below.heap_setCell _ _ _ _ (fun e => hc (e ▸ hp))⟩
theorem Fr.drew {C : Nat → Prop} {a w : World} (h : Fr C a w) : Fr C a w.drew := ⟨h.os, h.tape, h.output, h.size, h.block⟩

theorem Fr.tx {C : Nat → Prop} {w w' : World} (h : Fr C w w') {b : Nat} {m : Option Nat} (hT : Tx w b m) (hb : ¬ C b) : Tx w' b m := by
  unfold Tx; rw [h.block b hT.lt hb]; exact hT
theorem Fr.heads {C : Nat → Prop} {w w' : World} (h : Fr C w w') {A : Nat → Nat} (hH : Heads w A) (hA : ∀ j, j < 256 → ¬ C (A j)) : Heads w' A := fun j hj => by
  obtain ⟨c, t, e⟩ := hH j hj
  have hlt : A j < w.heap.size := by
    rcases Nat.lt_or_ge (A j) w.heap.size with h' | h'
    · exact h'
    · rw [Array.getElem?_eq_none h'] at e; cases e
  exact ⟨c, t, by rw [h.block _ hlt (hA j hj)]; exact e⟩
theorem MapIs.lt {w : World} {A : Nat → Nat} {r : Nat} {L : List (Nat × Nat)} (h : MapIs w A (some r) L) : r < w.heap.size := by
  obtain ⟨_, es, clock, e, _⟩ := h
  rcases Nat.lt_or_ge r w.heap.size with h' | h'
  · exact h'
  · rw [Array.getElem?_eq_none h'] at e; cases e
theorem Fr.map {C : Nat → Prop} {w w' : World} (h : Fr C w w') {A : Nat → Nat} {m : Option Nat} {L : List (Nat × Nat)} (hm : MapIs w A m L) (hr : ∀ r, m = some r → ¬ C r) : MapIs w' A m L := by
  cases m with
  | none => exact hm
  | some r =>
    have hlt := hm.lt
    obtain ⟨hs, es, clock, e, he⟩ := hm
    exact ⟨hs, es, clock, by rw [h.block r hlt (hr r rfl)]; exact e, he⟩

theorem cells_ne_map {w : World} {b r : Nat} {c : Array Value} {t : TypeId} {fr : Nat × Nat} {es : Array MapEntry} {clock : Nat} (h1 : w.heap[b]? = some (.cells c t fr)) (h2 : w.heap[r]? = some (.map es clock)) : b ≠ r := fun e => by
  subst e; rw [h1] at h2; cases h2

/-- The transaction's block behind the store of its map. -/
theorem Tx.stored {w : World} {b : Nat} (hT : Tx w b none) (m : Option Nat) : Tx (w.setCell ⟨b, 1, none⟩ (.map m)) b m := by
  unfold Tx at hT ⊢
  have := heap_setCell_same w b 1 _ _ (.map m) hT
  rw [this]; rfl

set_option maxHeartbeats 400000 in
theorem holdBack_none (b j s : Nat) (A : Nat → Nat) (w : World) (hT : Tx w b none) (hH : Heads w A) (hI : Apart A) (hA : ∀ j, j < 256 → A j ≠ b) (hj : j < 256) :
    Calls Try.prog 28 #[.pointer (some ⟨b, 0, none⟩), hp (A j), .int .u8 (s : Int)] w fun e w' => e = .returned (.tuple #[]) ∧
      ∃ o, w' = setBlock ((w.setCell ⟨b, 1, none⟩ (.map (some w.heap.size))).alloc (.map #[] 0)) w.heap.size o ∧ Tx w' b (some w.heap.size) ∧ MapIs w' A (some w.heap.size) (put j (addBit 0 s) []) := by
  have hc := hT.cell
  have hlt := hT.lt
  have hf := hT.frozen
  have fr1 : Fr (fun k => k = b) w ((w.setCell ⟨b, 1, none⟩ (.map (some w.heap.size))).alloc (.map #[] 0)) := ((Fr.refl (fun k => k = b) w).setCell _ _ rfl).alloc _
  have hT1 : Tx ((w.setCell ⟨b, 1, none⟩ (.map (some w.heap.size))).alloc (.map #[] 0)) b (some w.heap.size) :=
    ((Fr.refl (fun _ => False) _).alloc _).tx (Tx.stored hT _) (fun h => h)
  have hm1 : MapIs ((w.setCell ⟨b, 1, none⟩ (.map (some w.heap.size))).alloc (.map #[] 0)) A (some w.heap.size) [] :=
    ⟨fun p hp => by simp at hp, #[], 0, by have e := heap_alloc_new (w.setCell ⟨b, 1, none⟩ (.map (some w.heap.size))) (.map #[] 0); rwa [World.size_setCell] at e, rfl⟩
  have hH1 := fr1.heads hH (fun j hj => hA j hj)
  obtain ⟨v0, hv0⟩ : ∃ v0 : Nat, v0 = 0 := ⟨0, rfl⟩
  have hlk : (Instr.lookup 60 (.map (some w.heap.size)) (hp (A j)) false).run Try.prog ((w.setCell ⟨b, 1, none⟩ (.map (some w.heap.size))).alloc (.map #[] 0)) = .ok (.int .u16 (v0 : Int)) ((w.setCell ⟨b, 1, none⟩ (.map (some w.heap.size))).alloc (.map #[] 0)) := by
    rw [run_look _ A hH1 hI _ [] hm1 j hj false, hv0]; rfl
  obtain ⟨o, hpt, hm'⟩ := run_put _ A hH1 hI _ [] hm1 j (addBit v0 s) hj (addBit_lt s (by omega))
  rw [← addBit_walk _ s (by omega)] at hpt
  rw [hv0] at hm'
  clear hv0
  have hT' : Tx (setBlock ((w.setCell ⟨b, 1, none⟩ (.map (some w.heap.size))).alloc (.map #[] 0)) w.heap.size o) b (some w.heap.size) :=
    (Fr.setBlock (C := fun k => k = w.heap.size) _ _ o rfl).tx hT1 (by show ¬ b = w.heap.size; omega)
  have HM : Hid (MapIs (setBlock ((w.setCell ⟨b, 1, none⟩ (.map (some w.heap.size))).alloc (.map #[] 0)) w.heap.size o) A (some w.heap.size) (put j (addBit 0 s) [])) := hm'
  have HT : Hid (Tx (setBlock ((w.setCell ⟨b, 1, none⟩ (.map (some w.heap.size))).alloc (.map #[] 0)) w.heap.size o) b (some w.heap.size)) := hT'
  have hc1 := hT1.cell
  clear hm' hT hT' hT1 hm1 hH1 fr1 hH hI hA
  have q60 : ∀ (w : World) (r : Option Nat), (binOp .eql 60 (.map r) (.map none)).run Try.prog w = .ok (.bool r.isNone) w := fun w r => run_eql_map_nil w 60 29 66 r Try.underlying60
  have hmm := @run_makeMap Try.prog
  go_enter Try.func28, Try.ntmps28
  go_wp2
  go_end0
  exact ⟨rfl, o, rfl, HT.out, HM.out⟩

/-- What one hold-back leaves: 'm' the map before. -/
structure Held (w w' : World) (A : Nat → Nat) (b : Nat) (m : Option Nat) (L' : List (Nat × Nat)) : Prop where
  run : ∃ r, Tx w' b (some r) ∧ MapIs w' A (some r) L' ∧ (m = some r ∨ (m = none ∧ r = w.heap.size))
  frame : Fr (fun k => k = b ∨ m = some k) w w'

theorem holdBack_any (b j s : Nat) (A : Nat → Nat) (m : Option Nat) (L : List (Nat × Nat)) (w : World) (hT : Tx w b m) (hm : MapIs w A m L) (hH : Heads w A) (hI : Apart A) (hA : ∀ j, j < 256 → A j ≠ b) (hj : j < 256) :
    Calls Try.prog 28 #[.pointer (some ⟨b, 0, none⟩), hp (A j), .int .u8 (s : Int)] w fun e w' => e = .returned (.tuple #[]) ∧ Held w w' A b m (put j (addBit ((look j L).getD 0) s) L) := by
  cases m with
  | none =>
    have hL : L = [] := hm
    subst hL
    refine (holdBack_none b j s A w hT hH hI hA hj).mono fun e w' h => ?_
    obtain ⟨he, o, hw, hT', hm'⟩ := h
    refine ⟨he, ⟨⟨w.heap.size, hT', hm', .inr ⟨rfl, rfl⟩⟩, ?_⟩⟩
    subst hw
    have f1 : Fr (fun k => k = b ∨ none = some k) w ((w.setCell ⟨b, 1, none⟩ (.map (some w.heap.size))).alloc (.map #[] 0)) := ((Fr.refl (fun k => k = b ∨ none = some k) w).setCell _ _ (.inl rfl)).alloc _
    refine ⟨rfl, rfl, rfl, by simp [setBlock], fun k hk hc => ?_⟩
    have e1 := (Fr.setBlock (C := fun k => k = w.heap.size) ((w.setCell ⟨b, 1, none⟩ (.map (some w.heap.size))).alloc (.map #[] 0)) w.heap.size o rfl).block k (Nat.lt_of_lt_of_le hk f1.size) (by show ¬ k = w.heap.size; omega)
    rw [e1, f1.block k hk hc]
  | some r =>
    refine (holdBack_some b r j s A L w hT hm hH hI hj).mono fun e w' h => ?_
    obtain ⟨he, o, hw, hm'⟩ := h
    have hbr : b ≠ r := by obtain ⟨_, es, clock, e1, _⟩ := hm; exact cells_ne_map hT e1
    subst hw
    exact ⟨he, ⟨⟨r, (Fr.setBlock (C := fun k => k = r) w r o rfl).tx hT hbr, hm', .inl rfl⟩, Fr.setBlock w r o (.inr rfl)⟩⟩

set_option maxHeartbeats 400000 in
theorem zzHoldBack_any (b j s : Nat) (A : Nat → Nat) (m : Option Nat) (L : List (Nat × Nat)) (w : World) (hT : Tx w b m) (hm : MapIs w A m L) (hH : Heads w A) (hI : Apart A) (hA : ∀ j, j < 256 → A j ≠ b) (hj : j < 256) :
    Calls Try.prog 13 #[.pointer (some ⟨b, 0, none⟩), hp (A j), .int .u8 (s : Int)] w fun e w' => e = .returned (.tuple #[]) ∧ Held w w' A b m (put j (addBit ((look j L).getD 0) s) L) := by
  have H := holdBack_any b j s A m L w hT hm hH hI hA hj
  have HH : Hid (Calls Try.prog 28 #[.pointer (some ⟨b, 0, none⟩), hp (A j), .int .u8 (s : Int)] w fun e w' => e = .returned (.tuple #[]) ∧ Held w w' A b m (put j (addBit ((look j L).getD 0) s) L)) := H
  clear H hT hm hH hI hA
  go_enter Try.func13, Try.ntmps13
  go_wp2_with fail
  refine HH.out.mono ?_
  rintro e w' ⟨rfl, hh⟩
  go_wp2_with fail
  go_end0
  exact ⟨rfl, hh⟩

set_option maxHeartbeats 400000 in
theorem zzBackOf_any (b j : Nat) (A : Nat → Nat) (m : Option Nat) (L : List (Nat × Nat)) (w : World) (hT : Tx w b m) (hm : MapIs w A m L) (hH : Heads w A) (hI : Apart A) (hj : j < 256) :
    Calls Try.prog 14 #[.pointer (some ⟨b, 0, none⟩), hp (A j)] w fun e w' => e = .returned (.tuple #[.int .u16 (((look j L).getD 0 : Nat) : Int), .bool (look j L).isSome]) ∧ w' = w := by
  have hc := hT.cell
  have hlk := run_look w A hH hI m L hm j hj true
  simp only [if_true] at hlk
  clear hT hm hH hI
  go_enter Try.func14, Try.ntmps14
  go_wp2
  go_ret2
  exact ⟨rfl, rfl⟩

set_option maxHeartbeats 400000 in
theorem zzBackLen_any (b : Nat) (A : Nat → Nat) (m : Option Nat) (L : List (Nat × Nat)) (w : World) (hT : Tx w b m) (hm : MapIs w A m L) :
    Calls Try.prog 15 #[.pointer (some ⟨b, 0, none⟩)] w fun e w' => e = .returned (.int .i64 (L.length : Int)) ∧ w' = w := by
  have hc := hT.cell
  cases m with
  | none =>
    have hL : L = [] := hm
    subst hL
    clear hT hm
    go_enter Try.func15, Try.ntmps15
    go_wp2
    go_ret
    exact ⟨rfl, rfl⟩
  | some r =>
    obtain ⟨_, es, clock, e, he⟩ := hm
    have hn : Hid (es.size = L.length) := hidMk (by have := congrArg List.length he; simpa using this)
    clear hT he
    have hl : ∀ ty, (Builtin.len_ #[60] ty #[.map (some r)]).run Try.prog w = .ok (.int .i64 (es.size : Int)) w := fun ty => by
      have hu : Try.prog.underlying 60 = some (.map 29 66) := Try.underlying60
      simp [Builtin.len_, run_underlying hu, MapKept.run_getObj_map e, goInt]
    clear e
    go_enter Try.func15, Try.ntmps15
    go_wp2
    go_ret
    exact ⟨by rw [← hn.out]; rfl, rfl⟩

set_option maxHeartbeats 400000 in
theorem zzNewTransaction_any (w : World) :
    Calls Try.prog 12 #[] w fun e w' => e = .returned (.pointer (some ⟨w.heap.size, 0, none⟩)) ∧ w' = w.alloc (.cells #[.int .i64 0, .map none, .bool false, .map none] 63) := by
  go_enter Try.func12, Try.ntmps12
  go_wp2
  go_ret
  exact ⟨rfl, rfl⟩

set_option maxHeartbeats 400000 in
theorem zzNewHead_any (s : ByteArray) (w : World) :
    Calls Try.prog 18 #[.string s] w fun e w' => e = .returned (hp w.heap.size) ∧ ∃ c, w' = w.alloc (.cells c 76) := by
  go_enter Try.func18, Try.ntmps18
  go_wp2
  go_ret
  exact ⟨rfl, _, rfl⟩
end Go.Proofs.Qxb6616435a
