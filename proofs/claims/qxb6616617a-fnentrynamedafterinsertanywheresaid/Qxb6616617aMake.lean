import Derived.Test.Qxb6616617aZip
import Derived.Laws.CopyOwn
import Derived.Laws.AppendOwnNone
namespace Go.Proofs.Qxb6616617a
open Go.RowKit

theorem info9 : (Try.prog.info? 9).map (fun i => (i.zero, i.size, i.bytes)) = some (some (.string ⟨#[]⟩), 1, 16) := by kernel_rfl

/-- 'n' empty strings. -/
def blanks (n : Nat) : List Value := (madeCells (Value.string ⟨#[]⟩).cells n).toList
theorem blanks_length (n : Nat) : (blanks n).length = n := by simp [blanks, size_madeCells]

theorem make_len (w : World) (n : Nat) (h : n ≤ 1048576) :
    (Instr.makeSlice 25 (.int .i64 (n : Int)) (.int .i64 (n : Int))).run Try.prog w = .ok (.slice (some ⟨w.heap.size, 0, none⟩) n n) (w.alloc (.cells (blanks n).toArray 9)) := by
  obtain ⟨i, hi, hz, hs, hb⟩ := info_parts info9
  have := run_make w 25 9 i _ Try.underlying25 hi hz .i64 .i64 (n : Int) (n : Int) (by omega) (by omega) (by rw [hb]; omega) (by omega)
  rw [this, hs]
  simp [blanks]

theorem make_cap (w : World) (n : Nat) (c : Int) (hc : c = (n : Int)) (h : n ≤ 1048576) :
    (Instr.makeSlice 25 (.int .i64 0) (.int .i64 c)).run Try.prog w = .ok (.slice (some ⟨w.heap.size, 0, none⟩) 0 n) (w.alloc (.cells (blanks n).toArray 9)) := by
  obtain ⟨i, hi, hz, hs, hb⟩ := info_parts info9
  subst hc
  have := run_make w 25 9 i _ Try.underlying25 hi hz .i64 .i64 0 (n : Int) (by omega) (by omega) (by rw [hb]; omega) (by omega)
  rw [this, hs]
  simp [blanks]

/-- The strings as values. -/
def strs (xs : List ByteArray) : List Value := xs.map Value.string
theorem strs_one (xs : List ByteArray) : ∀ v ∈ strs xs, v.oneCell' = true := fun v hv => by
  obtain ⟨s, _, rfl⟩ := List.mem_map.1 hv; rfl
theorem strs_at {xs : List ByteArray} {j : Nat} {v : Value} (h : (strs xs)[j]? = some v) : j < xs.length ∧ v = .string (nth xs j) := by
  have hl : j < (strs xs).length := (List.getElem?_eq_some_iff.1 h).1
  have hl2 : j < xs.length := by simpa [strs] using hl
  refine ⟨hl2, ?_⟩
  simp only [strs, List.getElem?_map, List.getElem?_eq_getElem hl2, Option.map_some, Option.some.injEq] at h
  rw [← h, nth, List.getD_eq_getElem?_getD, List.getElem?_eq_getElem hl2]; rfl

/-- A whole copy reads as the strings. -/
theorem strRow_of_block {w : World} {g : Nat} {cs : List Value} {t : TypeId} {xs : List ByteArray} (hg : w.heap[g]? = some (.cells cs.toArray t (0, 0))) (h : ∀ j, j < xs.length → cs[j]? = some (.string (nth xs j))) : StrRow w (some ⟨g, 0, none⟩) xs := fun _ =>
  ⟨g, 0, rfl, fun j hj => by rw [Nat.zero_add, cell_of_row w g j cs.toArray t (0, 0) hg, List.getElem?_toArray]; exact h j hj⟩
theorem strs_get (xs : List ByteArray) (j : Nat) (h : j < xs.length) : (strs xs)[j]? = some (.string (nth xs j)) := by
  simp [strs, List.getElem?_eq_getElem h, nth, List.getD_eq_getElem?_getD]

theorem copy_pos (w : World) (x : Addr) (xs : List ByteArray) (hc : StrRow w (some x) xs) (o : Obj) :
    0 < (strs xs).length → (some ⟨w.heap.size, 0, none⟩ : Option Addr) = some ⟨w.heap.size, 0, none⟩ ∧ ∃ ad, some x = some ad ∧ ∀ j v, (strs xs)[j]? = some v → (w.alloc o).cell? (ad.add j) = some v := fun hp => by
  refine ⟨rfl, x, rfl, fun j v hv => ?_⟩
  obtain ⟨hj, rfl⟩ := strs_at hv
  obtain ⟨b, o', hx, hcell⟩ := hc (by omega)
  injection hx with hx
  subst hx
  have hadd : (⟨b, o', none⟩ : Addr).add j = ⟨b, o' + j, none⟩ := by unfold Addr.add; split <;> simp_all
  rw [hadd, World.cell?_alloc_lt _ _ _ (World.block_lt_of_cell? _ _ (hcell j hj))]
  exact hcell j hj
theorem splice_get (xs : List ByteArray) (L : List Value) (j : Nat) (h : j < xs.length) : (splice L 0 (strs xs))[j]? = some (.string (nth xs j)) := by
  have hl : j < (strs xs).length := by simpa [strs] using h
  unfold splice
  rw [List.take_zero, List.nil_append, List.getElem?_append_left hl]
  exact strs_get xs j h


theorem owns_form {w : World} {base n : Nat} {v : Value} {L : List Value} (h : w.ownsRow base 9 1 v n L) : ∃ a cap, v = .slice a n cap ∧ (a = none → n = 0 ∧ cap = 0) := by
  obtain ⟨_, h2⟩ := h
  rcases h2 with ⟨rfl, rfl⟩ | ⟨g, cap, cur, rfl, _⟩
  · exact ⟨none, 0, rfl, fun _ => ⟨rfl, rfl⟩⟩
  · exact ⟨some ⟨g, 0, none⟩, cap, rfl, fun e => by cases e⟩

theorem owns_strs {w : World} {base n : Nat} {a : Option Addr} {cap : Nat} {xs : List ByteArray} (h : w.ownsRow base 9 1 (.slice a n cap) n (strs xs)) (hn : xs.length = n) : StrRow w a xs := fun hp => by
  obtain ⟨_, h2⟩ := h
  rcases h2 with ⟨e, hz⟩ | ⟨g, cap', cur, e, _, hh, _, _, _, htk⟩
  · omega
  · injection e with e1 e2 e3
    subst e1
    refine ⟨g, 0, rfl, fun j hj => ?_⟩
    rw [Nat.zero_add, cell_of_row w g j cur 9 (0, 0) hh]
    have e := congrArg (fun l => l[j]?) htk
    simp only [Nat.mul_one] at e
    rw [List.getElem?_take_of_lt (by omega), strs_get xs j hj] at e
    simpa using e

theorem strs_append (xs ys : List ByteArray) : strs (xs ++ ys) = strs xs ++ strs ys := by simp [strs]

theorem strRow_add {w : World} {x : Addr} {ys : List ByteArray} (h : StrRow w (some x) ys) {j : Nat} (hj : j < ys.length) : w.cell? (x.add j) = some (.string (nth ys j)) := by
  obtain ⟨b, o', hx, hcell⟩ := h (by omega)
  have hx2 := Option.some.inj hx
  subst hx2
  have hadd : (⟨b, o', none⟩ : Addr).add j = ⟨b, o' + j, none⟩ := by unfold Addr.add; split <;> simp_all
  rw [hadd]; exact hcell j hj

/-- 'append(s, ys...)' onto a row of strings of the call's own. -/
theorem wpList_append_strs {w : World} {ops : Array Oper} {rest : List Oper} {o : Oper} {a : Act} {Q : Exit → Act → World → Prop} (hgd : o.guard = none) (s x : Operand)
    (ho : o.op = .call { callee := .builtin .append, args := #[s, x], argTypes := #[25, 25] }) (base : Nat) (v : Value) (n : Nat) (zs : List ByteArray) (hs : a.eval s = v) (hown : w.ownsRow base 9 1 v n (strs zs))
    (ad : Option Addr) (m c : Nat) (ys : List ByteArray) (hx : a.eval x = .slice ad m c) (hm : ys.length = m) (hy : StrRow w ad ys) (hnil : ad = none → m = 0 ∧ c = 0) (hb : n + m ≤ 1048576) (hbase : base ≤ w.heap.size) (N : Nat) (hN : n + m = N)
    (h : ∀ a' cap' w', w'.ownsRow base 9 1 (.slice a' N cap') N (strs (zs ++ ys)) → w.grownBy w' v.ownBlock → wpList Try.prog ops Q rest (a.put o.dst (.slice a' N cap')) w') :
    wpList Try.prog ops Q (o :: rest) a w := by
  subst hN
  obtain ⟨i, hi, hz, hsz, hby⟩ := info_parts info9
  cases ad with
  | none =>
    obtain ⟨rfl, rfl⟩ := hnil rfl
    have hys : ys = [] := List.eq_nil_of_length_eq_zero hm
    subst hys
    refine wpList_append_own_none hgd s x 25 ho base 9 i 1 Try.underlying25 hi v n (strs zs) hs hown hx ?_
    obtain ⟨a', cap', rfl, _⟩ := owns_form hown
    have := h a' cap' w (by simpa using hown) ⟨rfl, rfl, rfl, Nat.le_refl _, fun _ _ _ => rfl⟩
    simpa using this
  | some x0 =>
    refine wpList_append_own_at w hgd s x 25 ho base 9 i (.string ⟨#[]⟩) 1 16 Try.underlying25 hi hz hsz hby rfl (by omega) v n (strs zs) hs hown x0 m c (strs ys) hx (by simp [strs, hm]) (fun j u hu => ?_) (strs_one ys) (by unfold maxLen; omega) (by omega) hbase ?_
    · obtain ⟨hj, rfl⟩ := strs_at hu
      exact strRow_add hy hj
    · intro v' w' h2 h3 _ _
      obtain ⟨a', cap', rfl, _⟩ := owns_form h2
      exact h a' cap' w' (by rw [strs_append]; exact h2) h3

theorem newZip (a0 : Option Addr) (n q : Nat) (xs : List ByteArray) (w : World) (hx : xs.length = n) (hn : n ≤ 1048576) (hc : StrRow w a0 xs) :
    Calls Try.prog 16 #[.slice a0 n q] w fun e w' => e = .returned (hp w.heap.size) ∧ ∃ a cap F, Zr w' w.heap.size n xs a cap F ∧ Below w.heap.size w w' := by
  subst hx
  refine (newZip_any a0 q xs w hn hc).mono fun e w' h => ?_
  obtain ⟨he, v, F, hz⟩ := h
  obtain ⟨a, cap, hd⟩ := hz.done
  exact ⟨he, a, cap, F, hd, hz.below⟩

theorem named_eq (Z n cap : Nat) (a : Option Addr) (F : Nat → Nat) (xs : List ByteArray) (x : ByteArray) (J : Option Nat) (w : World) (hn : n ≤ 1048576) (hz : Zr w Z n xs a cap F) (hJ : ix x xs = J) :
    Calls Try.prog 17 #[hp Z, .string x] w fun e w' => e = .returned (ptrOf F J) ∧ w' = w := by
  subst hJ; exact zzEntryNamed_any Z n cap a F xs x w hn hz
theorem first_eq (a : Option Addr) (n q : Nat) (xs : List ByteArray) (x : ByteArray) (J : Option Nat) (w : World) (hx : xs.length = n) (hn : n ≤ 1048576) (hc : StrRow w a xs) (hJ : ix x xs = J) :
    Calls Try.prog 18 #[.slice a n q, .string x] w fun e w' => e = .returned (.int .i64 (ixInt J)) ∧ w' = w := by
  subst hx; subst hJ; exact firstIndex_any a q xs x w hn hc

theorem info62 : (Try.prog.info? 62).map (fun i => i.size == 0) = some false := by kernel_rfl

theorem run_eql31_nil (w : World) (a : Addr) : (binOp .eql 31 (.pointer (some a)) (.pointer none)).run Try.prog w = .ok (.bool false) w := by
  have hu : Try.prog.underlying 31 = some (.pointer 62) := Try.underlying31
  have h : ∀ d : Nat, (Op.equalIn (d + 1) 31 (.pointer (some a)) (.pointer none)).run Try.prog w = .ok false w := fun d => by simp [Op.equalIn, run_underlying hu]
  simp only [binOp]
  simp [Op.equal, Op.maxDepth, h 9999]
theorem run_eql31_nilnil (w : World) : (binOp .eql 31 (.pointer none) (.pointer none)).run Try.prog w = .ok (.bool true) w := by
  have hu : Try.prog.underlying 31 = some (.pointer 62) := Try.underlying31
  have h : ∀ d : Nat, (Op.equalIn (d + 1) 31 (.pointer none) (.pointer none)).run Try.prog w = .ok true w := fun d => by simp [Op.equalIn, run_underlying hu]
  simp only [binOp]
  simp [Op.equal, Op.maxDepth, h 9999]
theorem run_neq31_nil (w : World) (a : Addr) : (binOp .neq 31 (.pointer (some a)) (.pointer none)).run Try.prog w = .ok (.bool true) w := by
  have hu : Try.prog.underlying 31 = some (.pointer 62) := Try.underlying31
  have h : ∀ d : Nat, (Op.equalIn (d + 1) 31 (.pointer (some a)) (.pointer none)).run Try.prog w = .ok false w := fun d => by simp [Op.equalIn, run_underlying hu]
  simp only [binOp]
  simp [Op.equal, Op.maxDepth, h 9999]
theorem run_neq31_nilnil (w : World) : (binOp .neq 31 (.pointer none) (.pointer none)).run Try.prog w = .ok (.bool false) w := by
  have hu : Try.prog.underlying 31 = some (.pointer 62) := Try.underlying31
  have h : ∀ d : Nat, (Op.equalIn (d + 1) 31 (.pointer none) (.pointer none)).run Try.prog w = .ok true w := fun d => by simp [Op.equalIn, run_underlying hu]
  simp only [binOp]
  simp [Op.equal, Op.maxDepth, h 9999]

theorem Zr.eql {w : World} {Z n : Nat} {xs : List ByteArray} {a : Option Addr} {cap : Nat} {F : Nat → Nat} (h : Zr w Z n xs a cap F) (i j : Nat) (hi : i < n) (hj : j < n) :
    (binOp .eql 31 (hp (F i)) (hp (F j))).run Try.prog w = .ok (.bool (decide (i = j))) w := by
  have hu : Try.prog.underlying 31 = some (.pointer 62) := Try.underlying31
  have hinf := info62
  have e : ∀ d : Nat, (Op.equalIn (d + 1) 31 (hp (F i)) (hp (F j))).run Try.prog w = .ok (decide (i = j)) w := fun d => by
    cases hq : Try.prog.info? 62 with
    | none => rw [hq] at hinf; simp at hinf
    | some inf =>
      have hsz : inf.size ≠ 0 := by rw [hq] at hinf; simpa using hinf
      have hs : (sizeOf 62).run Try.prog w = .ok inf.size w := by simp [sizeOf, typeInfo, hq]
      by_cases he : i = j
      · subst he
        simp [Op.equalIn, run_underlying hu, hs, run_sameAddr_same]
      · have hne : (⟨F i, 0, none⟩ : Addr) ≠ ⟨F j, 0, none⟩ := fun e => he (h.apart i j hi hj (by injection e))
        simp [Op.equalIn, run_underlying hu, hs, hsz, run_sameAddr_other w hne (h.files i hi) (h.files j hj), he]
  simp only [binOp]
  simp [Op.equal, Op.maxDepth, e 9999]
end Go.Proofs.Qxb6616617a
