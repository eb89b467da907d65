import Derived.Test.Qxb6616435aRows
import Derived.WalkKit
import Derived.WalkSpells
import Derived.LaidEql
import Derived.MapKept
import Derived.ChangeMaps4
namespace Go.Proofs.Qxb6616435a
open Go.RowKit Go.MapKept
open Go.ChangeMaps (setBlock)

/-! ### A map keyed by pointers to heads: plain association lists -/
/-- The first value at key 'j'. -/
def look (j : Nat) : List (Nat × Nat) → Option Nat
  | [] => none
  | p :: r => if j = p.1 then some p.2 else look j r

/-- The list with 'v' laid at key 'j'. -/
def put (j v : Nat) : List (Nat × Nat) → List (Nat × Nat)
  | [] => [(j, v)]
  | p :: r => if j = p.1 then (p.1, v) :: r else p :: put j v r

theorem look_put (j i v : Nat) : ∀ L, look j (put i v L) = if j = i then some v else look j L
  | [] => by simp [put, look]
  | p :: r => by
    by_cases h : i = p.1
    · simp only [put, if_pos h, look]
      by_cases h' : j = p.1
      · rw [if_pos h', if_pos (h'.trans h.symm)]
      · rw [if_neg h', if_neg (fun e => h' (e.trans h)), if_neg h']
    · simp only [put, if_neg h, look, look_put j i v r]
      by_cases h' : j = p.1
      · rw [if_pos h', if_pos h', if_neg (fun e => h (e.symm.trans h'))]
      · rw [if_neg h', if_neg h']

theorem length_put (i v : Nat) : ∀ L, (put i v L).length = L.length + if (look i L).isSome then 0 else 1
  | [] => by simp [put, look]
  | p :: r => by
    by_cases h : i = p.1
    · simp [put, look, h]
    · simp only [put, if_neg h, look, List.length_cons, length_put i v r]; omega

theorem put_all {Q : Nat × Nat → Prop} (i v : Nat) (hq : Q (i, v)) : ∀ L, (∀ p ∈ L, Q p) → ∀ p ∈ put i v L, Q p
  | [], _, p, hp => by simp [put] at hp; subst hp; exact hq
  | x :: r, h, p, hp => by
    by_cases he : i = x.1
    · simp only [put, if_pos he, List.mem_cons] at hp
      rcases hp with rfl | hp
      · rw [← he]; exact hq
      · exact h p (by simp [hp])
    · simp only [put, if_neg he, List.mem_cons] at hp
      rcases hp with rfl | hp
      · exact h p (by simp)
      · exact put_all i v hq r (fun q hq' => h q (by simp [hq'])) p hp

theorem look_mem {j v : Nat} : ∀ {L : List (Nat × Nat)}, look j L = some v → (j, v) ∈ L
  | [], h => by simp [look] at h
  | p :: r, h => by
    by_cases e : j = p.1
    · simp only [look, if_pos e, Option.some.injEq] at h
      subst e; subst h; simp
    · simp only [look, if_neg e] at h
      exact List.mem_cons_of_mem _ (look_mem h)

/-- The place of key 'j', and its value, counted from 'k'. -/
def findL (j : Nat) : List (Nat × Nat) → Nat → Option (Nat × Nat)
  | [], _ => none
  | p :: r, k => if j = p.1 then some (k, p.2) else findL j r (k + 1)

theorem findL_look (j : Nat) : ∀ L k, (findL j L k).map (·.2) = look j L
  | [], _ => rfl
  | p :: r, k => by
    by_cases h : j = p.1
    · simp [findL, look, h]
    · simp only [findL, look, if_neg h]; exact findL_look j r (k + 1)

/-! ### The heads, and the map in memory -/
/-- A pointer to the block 'b'. -/
abbrev hp (b : Nat) : Value := .pointer (some ⟨b, 0, none⟩)
/-- The heads' blocks: plain memory. -/
def Heads (w : World) (A : Nat → Nat) : Prop := ∀ j, j < 256 → ∃ c t, w.heap[A j]? = some (.cells c t (0, 0))
/-- No two heads lie in one block. -/
def Apart (A : Nat → Nat) : Prop := ∀ i j, i < 256 → j < 256 → A i = A j → i = j
/-- What an entry holds. -/
def kv (e : MapEntry) : Value × Value := (e.key, e.val)
def conv (A : Nat → Nat) (p : Nat × Nat) : Value × Value := (hp (A p.1), .int .u16 (p.2 : Int))
/-- Keys below 256, values of sixteen bits. -/
def Small (L : List (Nat × Nat)) : Prop := ∀ p ∈ L, p.1 < 256 ∧ p.2 < 65536

theorem info76 : (Try.prog.info? 76).map (fun i => i.size == 0) = some false := by kernel_rfl

theorem run_equalIn_ptr (d : Nat) (w : World) (A : Nat → Nat) (hH : Heads w A) (hI : Apart A) (i j : Nat) (hi : i < 256) (hj : j < 256) :
    (Op.equalIn (d + 1) 29 (hp (A i)) (hp (A j))).run Try.prog w = .ok (decide (i = j)) w := by
  obtain ⟨ci, ti, hci⟩ := hH i hi
  obtain ⟨cj, tj, hcj⟩ := hH j hj
  have hu : Try.prog.underlying 29 = some (.pointer 76) := Try.underlying29
  have hinf := info76
  cases hq : Try.prog.info? 76 with
  | none => rw [hq] at hinf; simp at hinf
  | some inf =>
    have hsz : inf.size ≠ 0 := by rw [hq] at hinf; simpa using hinf
    have hs : (sizeOf 76).run Try.prog w = .ok inf.size w := by simp [sizeOf, typeInfo, hq]
    by_cases h : i = j
    · subst h
      simp [Op.equalIn, run_underlying hu, hs, run_sameAddr_same]
    · have hne : (⟨A i, 0, none⟩ : Addr) ≠ ⟨A j, 0, none⟩ := fun e => h (hI i j hi hj (by injection e))
      simp [Op.equalIn, run_underlying hu, hs, hsz, run_sameAddr_other w hne hci hcj, h]

theorem run_equal_ptr (w : World) (A : Nat → Nat) (hH : Heads w A) (hI : Apart A) (i j : Nat) (hi : i < 256) (hj : j < 256) :
    (Op.equal 29 (hp (A i)) (hp (A j))).run Try.prog w = .ok (decide (i = j)) w := by
  unfold Op.equal Op.maxDepth
  exact run_equalIn_ptr 9999 w A hH hI i j hi hj

theorem run_findAsking (w : World) (A : Nat → Nat) (hH : Heads w A) (hI : Apart A) (j : Nat) (hj : j < 256) :
    ∀ (L : List (Nat × Nat)) (es : List MapEntry) (k : Nat), Small L → es.map kv = L.map (conv A) →
      (Instr.findAsking 29 (hp (A j)) es k).run Try.prog w = .ok ((findL j L k).map fun p => (p.1, Value.int .u16 (p.2 : Int))) w
  | [], [], k, _, _ => by simp [Instr.findAsking, findL]
  | [], e :: es, k, _, h => by simp at h
  | p :: L, [], k, _, h => by simp at h
  | p :: L, e :: es, k, hL, h => by
    simp only [List.map_cons, List.cons.injEq] at h
    obtain ⟨h1, h2⟩ := h
    obtain ⟨k1, k2⟩ : e.key = hp (A p.1) ∧ e.val = .int .u16 (p.2 : Int) := by simpa [kv, conv] using h1
    have hp1 := (hL p (by simp)).1
    have he := run_equal_ptr w A hH hI j p.1 hj hp1
    have ih := run_findAsking w A hH hI j hj L es (k + 1) (fun q hq => hL q (by simp [hq])) h2
    unfold Instr.findAsking
    rw [Sem.run_bind, k1, he]
    by_cases hjp : j = p.1
    · simp [hjp, findL, k2, Result.andThen]
    · simp [hjp, findL, Result.andThen, ih]

theorem run_findKey (w : World) (A : Nat → Nat) (hH : Heads w A) (hI : Apart A) (j : Nat) (hj : j < 256) (L : List (Nat × Nat)) (es : List MapEntry) (hL : Small L) (h : es.map kv = L.map (conv A)) :
    (Instr.findKey 29 (hp (A j)) es).run Try.prog w = .ok ((findL j L 0).map fun p => (p.1, Value.int .u16 (p.2 : Int))) w := by
  have hu : Try.prog.underlying 29 = some (.pointer 76) := Try.underlying29
  cases es with
  | nil =>
    cases L with
    | nil => simp [Instr.findKey, run_underlying hu, Instr.findNow, findL]
    | cons p L => simp at h
  | cons e es =>
    have hn : Instr.findNow (.pointer 76) (hp (A j)) (e :: es) 0 = none := by simp [Instr.findNow, Instr.sameNow]
    have := run_findAsking w A hH hI j hj L (e :: es) 0 hL h
    simp [Instr.findKey, run_underlying hu, hn, this]

theorem run_checkKey_ptr' (n : Nat) (w : World) (em : Bool) (a : Addr) : (Instr.checkKey em (n + 1) 29 (.pointer (some a))).run Try.prog w = .ok () w := by
  have hu : Try.prog.underlying 29 = some (.pointer 76) := Try.underlying29
  simp [Instr.checkKey, run_underlying hu]
theorem run_checkKey_ptr (w : World) (em : Bool) (a : Addr) : (Instr.checkKey em 10000 29 (.pointer (some a))).run Try.prog w = .ok () w := run_checkKey_ptr' 9999 w em a

/-- THE MAP 'm' (nil, or a block) HOLDS JUST THE LIST 'L'. -/
def MapIs (w : World) (A : Nat → Nat) : Option Nat → List (Nat × Nat) → Prop
  | none, L => L = []
  | some r, L => Small L ∧ ∃ es clock, w.heap[r]? = some (.map es clock) ∧ es.toList.map kv = L.map (conv A)

theorem run_look (w : World) (A : Nat → Nat) (hH : Heads w A) (hI : Apart A) (m : Option Nat) (L : List (Nat × Nat)) (hm : MapIs w A m L) (j : Nat) (hj : j < 256) (c : Bool) :
    (Instr.lookup 60 (.map m) (hp (A j)) c).run Try.prog w =
      .ok (if c then .tuple #[.int .u16 (((look j L).getD 0 : Nat) : Int), .bool (look j L).isSome] else .int .u16 (((look j L).getD 0 : Nat) : Int)) w := by
  have ht : Try.prog.underlying 60 = some (.map 29 66) := Try.underlying60
  cases m with
  | none =>
    have hL : L = [] := hm
    subst hL
    have hf := run_findKey w A hH hI j hj [] [] (fun p hp => by simp at hp) rfl
    simp [Instr.lookup, run_underlying ht, run_checkKey_ptr, hf, findL, look, Result.andThen]
  | some r =>
    obtain ⟨hs, es, clock, hb, he⟩ := hm
    have hf := run_findKey w A hH hI j hj L es.toList hs he
    have hl := findL_look j L 0
    cases hq : findL j L 0 with
    | none =>
      rw [hq] at hf hl
      have hl' : look j L = none := by simpa using hl.symm
      simp [Instr.lookup, run_underlying ht, MapKept.run_getObj_map hb, run_checkKey_ptr, hf, hl', Result.andThen]
    | some p =>
      rw [hq] at hf hl
      have hl' : look j L = some p.2 := by simpa using hl.symm
      simp [Instr.lookup, run_underlying ht, MapKept.run_getObj_map hb, run_checkKey_ptr, hf, hl', Result.andThen]

theorem findL_ge (j : Nat) : ∀ L k q, findL j L k = some q → k ≤ q.1
  | [], _, _, h => by simp [findL] at h
  | p :: r, k, q, h => by
    by_cases e : j = p.1
    · simp only [findL, if_pos e, Option.some.injEq] at h; subst h; exact Nat.le_refl _
    · simp only [findL, if_neg e] at h
      have := findL_ge j r (k + 1) q h; omega

theorem put_found (A : Nat → Nat) (j v : Nat) : ∀ (L : List (Nat × Nat)) (es : List MapEntry) (k : Nat) (q : Nat × Nat), findL j L k = some q → es.map kv = L.map (conv A) →
    (es.modify (q.1 - k) fun e => { e with key := hp (A j), val := .int .u16 (v : Int) }).map kv = (put j v L).map (conv A) ∧ ∃ e, es[q.1 - k]? = some e ∧ e.key = hp (A j)
  | [], _, _, _, h, _ => by simp [findL] at h
  | p :: L, [], _, _, _, he => by simp at he
  | p :: L, e :: es, k, q, h, he => by
    simp only [List.map_cons, List.cons.injEq] at he
    obtain ⟨h1, h2⟩ := he
    obtain ⟨k1, k2⟩ : e.key = hp (A p.1) ∧ e.val = .int .u16 (p.2 : Int) := by simpa [kv, conv] using h1
    by_cases hj : j = p.1
    · simp only [findL, if_pos hj, Option.some.injEq] at h
      subst h
      subst hj
      simp [put, kv, conv, k1, h2]
    · simp only [findL, if_neg hj] at h
      have hge := findL_ge j L (k + 1) q h
      obtain ⟨i1, i2⟩ := put_found A j v L es (k + 1) q h h2
      have e1 : q.1 - k = (q.1 - (k + 1)) + 1 := by omega
      rw [e1]
      simp only [put, if_neg hj, List.map_cons, List.modify_succ_cons, i1, h1]
      exact ⟨trivial, by simpa using i2⟩

theorem put_new (A : Nat → Nat) (j v : Nat) : ∀ (L : List (Nat × Nat)) (k : Nat), findL j L k = none → (put j v L) = L ++ [(j, v)]
  | [], _, _ => rfl
  | p :: L, k, h => by
    by_cases hj : j = p.1
    · simp [findL, hj] at h
    · simp only [findL, if_neg hj] at h
      simp [put, hj, put_new A j v L (k + 1) h]

/-- One store: only the map's own block turns. -/
theorem run_put (w : World) (A : Nat → Nat) (hH : Heads w A) (hI : Apart A) (r : Nat) (L : List (Nat × Nat)) (hm : MapIs w A (some r) L) (j v : Nat) (hj : j < 256) (hv : v < 65536) :
    ∃ o, (Instr.mapUpdate 60 (.map (some r)) (hp (A j)) (.int .u16 (v : Int))).run Try.prog w = .ok () (setBlock w r o) ∧ MapIs (setBlock w r o) A (some r) (put j v L) := by
  have ht : Try.prog.underlying 60 = some (.map 29 66) := Try.underlying60
  obtain ⟨hs, es, clock, hb, he⟩ := hm
  have hr : r < w.heap.size := by
    rcases Nat.lt_or_ge r w.heap.size with h | h
    · exact h
    · rw [Array.getElem?_eq_none h] at hb; cases hb
  have hf := run_findKey w A hH hI j hj L es.toList hs he
  have hsm : Small (put j v L) := put_all (Q := fun p => p.1 < 256 ∧ p.2 < 65536) j v ⟨hj, hv⟩ L hs
  cases hq : findL j L 0 with
  | none =>
    rw [hq] at hf
    refine ⟨.map (es.push ⟨hp (A j), .int .u16 (v : Int), clock⟩) (clock + 1), ?_, hsm, _, _, by simp [setBlock, hr]; exact ⟨rfl, rfl⟩, ?_⟩
    · simp [Instr.mapUpdate, run_underlying ht, MapKept.run_getObj_map hb, run_checkKey_ptr, hf, MapKept.run_setObj_map _ hb, Result.andThen, setBlock]
    · rw [put_new A j v L 0 hq]; simp [he, kv, conv]
  | some q =>
    rw [hq] at hf
    obtain ⟨h1, e, h2, h3⟩ := put_found A j v L es.toList 0 q hq he
    rw [Nat.sub_zero] at h1 h2
    have hget : es[q.1]? = some e := by simpa using h2
    have hst : (Instr.keyThatStays (hp (A j)) (hp (A j))).run Try.prog w = .ok (hp (A j)) w := by simp [Instr.keyThatStays, Instr.sameBits]
    refine ⟨.map (es.modify q.1 fun e => { e with key := hp (A j), val := .int .u16 (v : Int) }) clock, ?_, hsm, _, _, by simp [setBlock, hr]; exact ⟨rfl, rfl⟩, ?_⟩
    · simp [Instr.mapUpdate, run_underlying ht, MapKept.run_getObj_map hb, run_checkKey_ptr, hf, hget, h3, hst, MapKept.run_setObj_map _ hb, Result.andThen, setBlock]
    · rw [Array.toList_modify]; exact h1
end Go.Proofs.Qxb6616435a
