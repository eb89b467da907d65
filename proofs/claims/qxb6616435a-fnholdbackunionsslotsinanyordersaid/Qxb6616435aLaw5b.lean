import Derived.Test.Qxb6616435aLaw5
namespace Go.Proofs.Qxb6616435a
open Go.RowKit

set_option maxRecDepth 100000 in
set_option maxHeartbeats 4000000 in
theorem law5_zero (a0 a1 : Option Addr) (q0 q1 : Nat) (w : World) :
    Calls Try.prog 5 #[.slice a0 0 q0, .slice a1 0 q1] w fun e w' => e = .returned (.bool true) ∧ Below w.heap.size w w' := by
  obtain ⟨hz30, hi30⟩ := zero_of_info info30
  obtain ⟨hz34, hi34⟩ := zero_of_info info34
  obtain ⟨hz35, hi35⟩ := zero_of_info info35
  clear hi30 hi34 hi35
  go_enter Try.func5, Try.ntmps5
  go_wp2_with fail
  refine (bytes10_yes _ _ _ _ _ _ _ (by omega)).mono ?_
  rintro e w' ⟨rfl, hw⟩
  have hw2 := hw.symm
  subst hw2
  clear hw
  go_wp2_with fail
  refine (pool_any _).mono ?_
  rintro e w1 ⟨A, C, rfl, hP⟩
  have HP := hidMk hP
  clear hP
  go_wp2_with (refine wpList_store_row rfl 30 _ _ rfl w1.heap.size C rfl rfl 30 zeros30 (heap_alloc_new w1 _) (pool_size HP.out) (pool_zero HP.out) (pool_one HP.out) ?_; rw [World.setRow_alloc_new])
  refine (zzNewTransaction_any _).mono ?_
  rintro e w2 ⟨rfl, rfl⟩
  go_wp2_with fail
  refine (zzNewTransaction_any _).mono ?_
  rintro e w2 ⟨rfl, rfl⟩
  go_wp2_with fail
  have H0 := S5.start HP.out
  obtain ⟨B, hB⟩ : ∃ B, w1.heap.size = B := ⟨_, rfl⟩
  rw [hB] at H0 ⊢
  have HS := hidMk H0
  clear H0 hB HP hz30 hz34 hz35
  rw [show B + 1 + 1 + 1 + 1 = B + 4 from rfl, show B + 1 + 1 + 1 = B + 3 from rfl, show B + 1 + 1 = B + 2 from rfl]
  obtain ⟨ps, hps⟩ : ∃ ps : List (Nat × Nat), ps = [] := ⟨_, rfl⟩
  have HPS : Hid (∀ p ∈ ps, p.1 < 256) := hidMk (fun p hp => by rw [hps] at hp; simp at hp)
  have HS0 : Hid (S5 w (((((w1.alloc (.cells C 30)).alloc (.cells #[.int .i64 0, .map none, .bool false, .map none] 63)).alloc (.cells #[.int .i64 0, .map none, .bool false, .map none] 63)).alloc (.cells (cells16 (fun _ => 0)) 34)).alloc (.cells (cellsB (fun _ => false)) 35)) B A C none (holdAll ps []) none (holdAll ps.reverse []) (wantOf ps) (seenOf ps)) := hidMk (by subst hps; exact HS.out)
  clear hps HS
  go_loopw [10] (fun i wr => i = .int .i64 0 ∧ S5 w wr B A C none (holdAll ps []) none (holdAll ps.reverse []) (wantOf ps) (seenOf ps)) (fun _ _ => 0)
  case atStart => exact ⟨rfl, HS0.out⟩
  case round =>
    obtain ⟨rfl, hS⟩ := hrel
    have HSS := hidMk hS
    clear hS
    go_wp2_with fail
    go_loopw [11] (fun i wr => i = .int .i64 (-1) ∧ S5 w wr B A C none (holdAll ps []) none (holdAll ps.reverse []) (wantOf ps) (seenOf ps)) (fun _ _ => 0)
    case atStart => exact ⟨rfl, HSS.out⟩
    case round =>
      obtain ⟨rfl, hS⟩ := hrel
      have HS2 := hidMk hS
      clear hS
      go_wp2_with fail
      go_loop [12, 13] (fun c j => ∃ i : Nat, i ≤ 256 ∧ j = .int .i64 i ∧ c = .int .i64 ((cnt (seenOf ps) i : Nat) : Int)) (fun _ j => 256 - (intOf j).toNat)
      case atStart => exact ⟨0, by omega, rfl, rfl⟩
      case round =>
        obtain ⟨i, hi, rfl, rfl⟩ := hrel
        have hcl := cnt_le (seenOf ps) i
        by_cases hlt : i < 256
        · have i0 : (0 : Int) ≤ (i : Int) := by omega
          have i2 : (i : Int) < 256 := by omega
          have cp := HS2.out.base.cell hlt
          have cw : wr.cell? ⟨B + 3, i, none⟩ = some (.int .u16 ((wantOf ps i : Nat) : Int)) := by rw [HS2.out.want.cell i, cells16, row_at _ hlt]
          cases hb : seenOf ps i
          · have cs : wr.cell? ⟨B + 4, i, none⟩ = some (.bool false) := by rw [HS2.out.seen.cell i, cellsB, row_at _ hlt, hb]
            have HB := hidMk hb
            have HC : Hid (cnt (seenOf ps) (i + 1) = cnt (seenOf ps) i) := hidMk (by rw [cnt_succ, hb]; rfl)
            clear hb
            go_wp2_with fail
            refine (HS2.out.backF i hlt false HB.out).mono ?_
            rintro e2 wx ⟨rfl, hwx⟩
            have hwx2 := hwx.symm
            subst hwx2
            clear hwx
            go_wp2_with fail
            refine (HS2.out.backB i hlt false HB.out).mono ?_
            rintro e2 wx ⟨rfl, hwx⟩
            have hwx2 := hwx.symm
            subst hwx2
            clear hwx
            go_wp2_with fail
            go_round
            case rel => exact ⟨i + 1, by omega, by go_num, by rw [HC.out]⟩
            case measure => simp [intOf]; omega
          · have cs : wr.cell? ⟨B + 4, i, none⟩ = some (.bool true) := by rw [HS2.out.seen.cell i, cellsB, row_at _ hlt, hb]
            have HB := hidMk hb
            have HC : Hid (cnt (seenOf ps) (i + 1) = cnt (seenOf ps) i + 1) := hidMk (by rw [cnt_succ, hb]; rfl)
            clear hb
            go_wp2_with fail
            refine (HS2.out.backF i hlt true HB.out).mono ?_
            rintro e2 wx ⟨rfl, hwx⟩
            have hwx2 := hwx.symm
            subst hwx2
            clear hwx
            go_wp2_with fail
            refine (HS2.out.backB i hlt true HB.out).mono ?_
            rintro e2 wx ⟨rfl, hwx⟩
            have hwx2 := hwx.symm
            subst hwx2
            clear hwx
            go_wp2_with fail
            go_round
            case rel => exact ⟨i + 1, by omega, by go_num, by rw [HC.out]; go_num⟩
            case measure => simp [intOf]; omega
        · have hi2 : i = 256 := by omega
          subst hi2
          clear hlt hi
          go_wp2_with fail
          refine (HS2.out.lenF HPS.out).mono ?_
          rintro e2 wx ⟨rfl, hwx⟩
          have hwx2 := hwx.symm
          subst hwx2
          clear hwx
          go_wp2_with fail
          refine (HS2.out.lenB HPS.out).mono ?_
          rintro e2 wx ⟨rfl, hwx⟩
          have hwx2 := hwx.symm
          subst hwx2
          clear hwx
          go_wp2_with fail
          go_ret
          exact ⟨rfl, HS2.out.base.below⟩

set_option maxHeartbeats 1000000 in
/-- The law, whatever the two slices are. -/
theorem law5_any (a0 a1 : Option Addr) (n0 n1 q0 q1 : Nat) (es ss : List Nat) (w : World) (h0 : n0 ≤ maxLen) (h1 : n1 ≤ maxLen) (hes : es.length = n0) (hss : ss.length = n1) (e256 : ∀ e ∈ es, e < 256) (s256 : ∀ e ∈ ss, e < 256)
    (hc0 : 0 < n0 → ∃ b o, a0 = some ⟨b, o, none⟩ ∧ ∀ j, j < n0 → w.cell? ⟨b, o + j, none⟩ = some (.int .u8 ((es.getD j 0 : Nat) : Int)))
    (hc1 : 0 < n1 → ∃ b o, a1 = some ⟨b, o, none⟩ ∧ ∀ j, j < n1 → w.cell? ⟨b, o + j, none⟩ = some (.int .u8 ((ss.getD j 0 : Nat) : Int))) :
    Calls Try.prog 5 #[.slice a0 n0 q0, .slice a1 n1 q1] w fun e w' => e = .returned (.bool true) ∧ Below w.heap.size w w' := by
  by_cases g : n0 + n1 ≤ 1048576
  · by_cases g0 : n0 ≤ 65536
    · by_cases g1 : n1 ≤ 65536
      · by_cases g2 : n0 = n1
        · subst g2
          rcases Nat.eq_zero_or_pos n0 with hz | hz
          · subst hz; exact law5_zero a0 a1 q0 q1 w
          · obtain ⟨b0, o0, rfl, k0⟩ := hc0 hz
            obtain ⟨b1, o1, rfl, k1⟩ := hc1 hz
            exact law5_pos b0 o0 b1 o1 n0 q0 q1 es ss w hz g0 hes hss e256 s256 k0 k1
        · have i0 : decide ((65536 : Int) < (n0 : Int)) = false := by simp; omega
          have i1 : decide ((65536 : Int) < (n1 : Int)) = false := by simp; omega
          have i2 : ((n0 : Int) != (n1 : Int)) = true := by rw [bne_iff_ne]; omega
          clear hc0 hc1
          go_enter Try.func5, Try.ntmps5
          go_wp2_with fail
          refine (bytes10_yes _ _ _ _ _ _ _ g).mono ?_
          rintro e w' ⟨rfl, rfl⟩
          go_wp2_with fail
          go_ret
          exact ⟨rfl, Below.refl _ _⟩
      · have i0 : decide ((65536 : Int) < (n0 : Int)) = false := by simp; omega
        have i1 : decide ((65536 : Int) < (n1 : Int)) = true := by simp; omega
        clear hc0 hc1
        go_enter Try.func5, Try.ntmps5
        go_wp2_with fail
        refine (bytes10_yes _ _ _ _ _ _ _ g).mono ?_
        rintro e w' ⟨rfl, rfl⟩
        go_wp2_with fail
        go_ret
        exact ⟨rfl, Below.refl _ _⟩
    · have i0 : decide ((65536 : Int) < (n0 : Int)) = true := by simp; omega
      clear hc0 hc1
      go_enter Try.func5, Try.ntmps5
      go_wp2_with fail
      refine (bytes10_yes _ _ _ _ _ _ _ g).mono ?_
      rintro e w' ⟨rfl, rfl⟩
      go_wp2_with fail
      go_ret
      exact ⟨rfl, Below.refl _ _⟩
  · clear hc0 hc1
    go_enter Try.func5, Try.ntmps5
    go_wp2_with fail
    refine (bytes10_no _ _ _ _ _ _ _ h0 h1 g).mono ?_
    rintro e w' ⟨rfl, rfl⟩
    go_wp2_with fail
    go_ret
    exact ⟨rfl, Below.refl _ _⟩
end Go.Proofs.Qxb6616435a
