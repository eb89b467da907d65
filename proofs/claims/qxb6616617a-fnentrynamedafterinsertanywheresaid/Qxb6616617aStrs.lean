import Derived.Test.Qxb6616617aRows
import Derived.WalkKit
import Derived.WalkSpells
namespace Go.Proofs.Qxb6616617a
open Go.RowKit

theorem hidMk {p : Prop} (h : p) : Hid p := h

/-! ### The plain part: the first place of a name in a list -/
/-- The first place of 'x'. -/
def ix (x : ByteArray) : List ByteArray → Option Nat
  | [] => none
  | y :: r => if y = x then some 0 else (ix x r).map (· + 1)

/-- As the Go text says it: -1 for none. -/
def ixInt : Option Nat → Int
  | some i => (i : Int)
  | none => -1

abbrev nth (xs : List ByteArray) (j : Nat) : ByteArray := xs.getD j ByteArray.empty

theorem ix_of {x : ByteArray} : ∀ {xs : List ByteArray} {k : Nat}, k < xs.length → nth xs k = x → (∀ j, j < k → nth xs j ≠ x) → ix x xs = some k
  | [], k, h, _, _ => by simp at h
  | y :: r, 0, _, h, _ => by simp [nth] at h; simp [ix, h]
  | y :: r, k + 1, hk, h, hn => by
    have h0 : y ≠ x := by have := hn 0 (by omega); simpa [nth] using this
    have := ix_of (xs := r) (k := k) (by simpa using hk) (by simpa [nth] using h) (fun j hj => by have := hn (j + 1) (by omega); simpa [nth] using this)
    simp [ix, h0, this]

theorem ix_none {x : ByteArray} : ∀ {xs : List ByteArray}, (∀ j, j < xs.length → nth xs j ≠ x) → ix x xs = none
  | [], _ => rfl
  | y :: r, h => by
    have h0 : y ≠ x := by have := h 0 (by simp); simpa [nth] using this
    have := ix_none (xs := r) (fun j hj => by have := h (j + 1) (by simpa using hj); simpa [nth] using this)
    simp [ix, h0, this]

theorem ix_lt {x : ByteArray} : ∀ {xs : List ByteArray} {k : Nat}, ix x xs = some k → k < xs.length ∧ nth xs k = x
  | [], _, h => by simp [ix] at h
  | y :: r, k, h => by
    by_cases e : y = x
    · simp [ix, e] at h; subst h; simp [nth, e]
    · simp only [ix, if_neg e, Option.map_eq_some_iff] at h
      obtain ⟨a, ha, rfl⟩ := h
      have := ix_lt ha
      exact ⟨by simp; omega, by simpa [nth] using this.2⟩

theorem ix_append (x : ByteArray) : ∀ (xs ys : List ByteArray), ix x (xs ++ ys) = match ix x xs with | some i => some i | none => (ix x ys).map (· + xs.length)
  | [], ys => by cases h : ix x ys <;> simp [ix, h]
  | y :: r, ys => by
    by_cases e : y = x
    · simp [ix, e]
    · have := ix_append x r ys
      simp only [List.cons_append, ix, if_neg e, this]
      cases h : ix x r with
      | some i => simp
      | none =>
        cases h2 : ix x ys with
        | none => simp
        | some j => simp; omega

/-- Go's '==' on strings, as the walk spells it. -/
theorem same_yes {x y : ByteArray} (h : y = x) : (y.toList == x.toList) = true := by subst h; simp
theorem same_no {x y : ByteArray} (h : ¬ y = x) : (y.toList == x.toList) = false := by
  rw [beq_eq_false_iff_ne]
  intro e
  rw [ByteArray.toList_eq, ByteArray.toList_eq] at e
  apply h
  cases x; cases y
  congr 1
  exact Array.toList_inj.1 e

/-! ### A slice of strings in memory -/
/-- The slice at 'a' holds the strings 'xs'. -/
def StrRow (w : World) (a : Option Addr) (xs : List ByteArray) : Prop :=
  0 < xs.length → ∃ b o, a = some ⟨b, o, none⟩ ∧ ∀ j, j < xs.length → w.cell? ⟨b, o + j, none⟩ = some (.string (nth xs j))

theorem StrRow.below {w w' : World} {a : Option Addr} {xs : List ByteArray} (h : StrRow w a xs) (hb : Below w.heap.size w w') : StrRow w' a xs := fun hp => by
  obtain ⟨b, o, ha, hc⟩ := h hp
  exact ⟨b, o, ha, fun j hj => (hb.cell (p := ⟨b, o + j, none⟩) (World.block_lt_of_cell? _ _ (hc j hj))).trans (hc j hj)⟩

set_option maxHeartbeats 400000 in
theorem addStr_any (t : Int) (s : ByteArray) (w : World) (h0 : 0 ≤ t) (h1 : t ≤ 1048592) :
    Calls Try.prog 14 #[.int .i64 t, .string s] w fun e w' => (∃ r : Int, e = .returned (.int .i64 r) ∧ 0 ≤ r ∧ r ≤ 1048577) ∧ w' = w := by
  by_cases g0 : (1048576 : Int) < t
  · have i0 : decide ((1048576 : Int) < t) = true := by simpa using g0
    go_enter Try.func14, Try.ntmps14
    go_wp2
    go_ret
    exact ⟨⟨_, rfl, by omega, by omega⟩, rfl⟩
  · have i0 : decide ((1048576 : Int) < t) = false := by simpa using g0
    by_cases g1 : (1048576 : Int) < (s.size : Int)
    · have i1 : decide ((1048576 : Int) < (s.size : Int)) = true := by simpa using g1
      go_enter Try.func14, Try.ntmps14
      go_wp2
      go_ret
      exact ⟨⟨_, rfl, by omega, by omega⟩, rfl⟩
    · have i1 : decide ((1048576 : Int) < (s.size : Int)) = false := by simpa using g1
      have b1 : (s.size : Int) ≤ 1048576 := by omega
      have b2 : t ≤ 1048576 := by omega
      by_cases g2 : (1048576 : Int) < t + (s.size : Int)
      · have i2 : decide ((1048576 : Int) < t + (s.size : Int)) = true := by simpa using g2
        clear g0 g1 g2
        go_enter Try.func14, Try.ntmps14
        go_wp2
        go_ret
        exact ⟨⟨_, rfl, by omega, by omega⟩, rfl⟩
      · have i2 : decide ((1048576 : Int) < t + (s.size : Int)) = false := by simpa using g2
        have b3 : t + (s.size : Int) ≤ 1048577 := by omega
        clear g0 g1 g2
        go_enter Try.func14, Try.ntmps14
        go_wp2
        go_ret
        exact ⟨⟨_, rfl, by omega, by omega⟩, rfl⟩
end Go.Proofs.Qxb6616617a
