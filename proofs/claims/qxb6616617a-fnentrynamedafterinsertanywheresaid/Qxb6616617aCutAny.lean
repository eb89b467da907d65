import Derived.Test.Qxb6616617aCut
import Derived.SliceStrings
namespace Go.Proofs.Qxb6616617a
open Go.RowKit

set_option maxRecDepth 100000 in
set_option maxHeartbeats 2000000 in
theorem law5_any (a0 a1 : Option Addr) (n0 n1 q0 q1 : Nat) (xs ys : List ByteArray) (nm : ByteArray) (w : World) (h0 : xs.length = n0) (h1 : ys.length = n1) (hc0 : StrRow w a0 xs) (hc1 : StrRow w a1 ys)
    (z0 : a0 = none → n0 = 0 ∧ q0 = 0) (z1 : a1 = none → n1 = 0 ∧ q1 = 0) :
    Calls Try.prog 5 #[.slice a0 n0 q0, .slice a1 n1 q1, .string nm] w fun e w' => e = .returned (.bool true) ∧ Below w.heap.size w w' := by
  by_cases g0 : n0 ≤ 65536
  · by_cases g1 : n1 ≤ 65536
    · by_cases g2 : nm.size ≤ 1048576
      · exact law5_main a0 a1 n0 n1 q0 q1 xs ys nm w h0 h1 hc0 hc1 z0 z1 g0 g1 g2
      · have i0 : decide ((65536 : Int) < (n0 : Int)) = false := by simp; omega
        have i1 : decide ((65536 : Int) < (n1 : Int)) = false := by simp; omega
        have i2 : decide ((1048576 : Int) < (nm.size : Int)) = true := by simp; omega
        have B := hidMk (bytes13_any a0 a1 n0 n1 q0 q1 xs ys nm w h0 h1 hc0 hc1)
        clear hc0 hc1 z0 z1 g0 g1 g2
        go_enter Try.func5, Try.ntmps5
        go_wp2_with fail
        refine B.out.mono ?_
        rintro e w' ⟨⟨b, rfl⟩, hw⟩
        have hw2 := hw.symm
        subst hw2
        clear hw
        cases b
        · go_wp2_with fail
          go_ret
          exact ⟨rfl, Below.refl _ _⟩
        · go_wp2_with fail
          go_ret
          exact ⟨rfl, Below.refl _ _⟩
    · have i0 : decide ((65536 : Int) < (n0 : Int)) = false := by simp; omega
      have i1 : decide ((65536 : Int) < (n1 : Int)) = true := by simp; omega
      have B := hidMk (bytes13_any a0 a1 n0 n1 q0 q1 xs ys nm w h0 h1 hc0 hc1)
      clear hc0 hc1 z0 z1 g0 g1
      go_enter Try.func5, Try.ntmps5
      go_wp2_with fail
      refine B.out.mono ?_
      rintro e w' ⟨⟨b, rfl⟩, hw⟩
      have hw2 := hw.symm
      subst hw2
      clear hw
      cases b
      · go_wp2_with fail
        go_ret
        exact ⟨rfl, Below.refl _ _⟩
      · go_wp2_with fail
        go_ret
        exact ⟨rfl, Below.refl _ _⟩
  · have i0 : decide ((65536 : Int) < (n0 : Int)) = true := by simp; omega
    have B := hidMk (bytes13_any a0 a1 n0 n1 q0 q1 xs ys nm w h0 h1 hc0 hc1)
    clear hc0 hc1 z0 z1 g0
    go_enter Try.func5, Try.ntmps5
    go_wp2_with fail
    refine B.out.mono ?_
    rintro e w' ⟨⟨b, rfl⟩, hw⟩
    have hw2 := hw.symm
    subst hw2
    clear hw
    cases b
    · go_wp2_with fail
      go_ret
      exact ⟨rfl, Below.refl _ _⟩
    · go_wp2_with fail
      go_ret
      exact ⟨rfl, Below.refl _ _⟩

/-- A slice of strings that came in: its elements. -/
def IsStrs (w : World) (a : Option Addr) (len cap : Nat) (ss : List ByteArray) : Prop :=
  ss.length = len ∧ StrRow w a ss ∧ (a = none → len = 0 ∧ cap = 0)

theorem isStrs_nil (w : World) : IsStrs w none 0 0 [] := ⟨rfl, fun h => absurd h (by simp), fun _ => ⟨rfl, rfl⟩⟩
theorem isStrs_some {w : World} {x : Addr} {len cap : Nat} {ss : List ByteArray} (hl : len ≤ ss.length) (h : ∀ i, i < ss.length → w.cell? (x.add i) = some (.string (ss.getD i ByteArray.empty))) : IsStrs w (some x) len cap (ss.take len) := by
  refine ⟨by simp; omega, fun hp => ?_, fun e => by cases e⟩
  have hl2 : (ss.take len).length = len := by simp; omega
  rw [hl2] at hp ⊢
  obtain ⟨b, off, spot⟩ := x
  have hspot : spot = none := by simpa [Addr.add] using World.cell?_spot (h 0 (by omega))
  subst hspot
  refine ⟨b, off, rfl, fun j hj => ?_⟩
  rw [← Go.WideShapes.add_plain, h j (by omega)]
  simp only [nth, List.getD_eq_getElem?_getD, List.getElem?_take_of_lt hj]
end Go.Proofs.Qxb6616617a
