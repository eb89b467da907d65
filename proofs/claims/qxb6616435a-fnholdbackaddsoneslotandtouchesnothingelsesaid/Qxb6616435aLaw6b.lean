import Derived.Test.Qxb6616435aLaw6
namespace Go.Proofs.Qxb6616435a
open Go.RowKit

set_option maxRecDepth 100000 in
set_option maxHeartbeats 4000000 in
theorem law6_zero (a0 a1 : Option Addr) (q0 q1 e0 s0 : Nat) (w : World) (he0 : e0 < 256) :
    Calls Try.prog 6 #[.slice a0 0 q0, .slice a1 0 q1, .int .u8 (e0 : Int), .int .u8 (s0 : Int)] w fun e w' => e = .returned (.bool true) ∧ Below w.heap.size w w' := by
  obtain ⟨hz30, hi30⟩ := zero_of_info info30
  obtain ⟨hz34, hi34⟩ := zero_of_info info34
  obtain ⟨hz35, hi35⟩ := zero_of_info info35
  clear hi30 hi34 hi35
  go_enter Try.func6, Try.ntmps6
  go_wp2_with fail
  refine (bytes16_yes _ _ _ _ _ _ _ _ _ (by omega)).mono ?_
  rintro e w' ⟨rfl, hw⟩
  have hw2 := hw.symm
  subst hw2
  clear hw
  go_wp2_with fail
  refine (pool_any _).mono ?_
  rintro e w1 ⟨A, C, rfl, hP⟩
  have HP := hidMk hP
  clear hP
  go_wp2_with (refine wpList_store_row rfl 30 _ _ rfl w1.heap.size C rfl rfl 30 zeros30 (heap_alloc_new w1 _) (pool_size HP.out) (pool_zero HP.out) (pool_one HP.out) ?_; rw [World.setRow_alloc_new])
  refine (zzNewTransaction_any _).mono ?_
  rintro e w2 ⟨rfl, rfl⟩
  go_wp2_with fail
  have H0 := S6.start HP.out
  obtain ⟨B, hB⟩ : ∃ B, w1.heap.size = B := ⟨_, rfl⟩
  rw [hB] at H0 ⊢
  have HS := hidMk H0
  clear H0 hB HP hz30
  obtain ⟨ps, hps⟩ : ∃ ps : List (Nat × Nat), ps = [] := ⟨_, rfl⟩
  have HPS : Hid (∀ p ∈ ps, p.1 < 256) := hidMk (fun p hp => by rw [hps] at hp; simp at hp)
  obtain ⟨m, hm⟩ : ∃ m : Option Nat, m = none := ⟨_, rfl⟩
  have HS0 : Hid (S6 w ((w1.alloc (.cells C 30)).alloc (.cells #[.int .i64 0, .map none, .bool false, .map none] 63)) B A C m (holdAll ps [])) := hidMk (by subst hps; subst hm; exact HS.out)
  clear hps HS hm
  go_loopw [11] (fun i wr => i = .int .i64 0 ∧ S6 w wr B A C m (holdAll ps [])) (fun _ _ => 0)
  case atStart => exact ⟨rfl, HS0.out⟩
  case round =>
    obtain ⟨rfl, hS⟩ := hrel
    have HT := hidMk hS.rows
    clear hS
    obtain ⟨D, hD⟩ : ∃ D, wr.heap.size = D := ⟨_, rfl⟩
    rw [hD] at HT
    go_wp2_with fail
    clear hD hz34 hz35
    obtain ⟨ps', hps'⟩ : ∃ ps', ps ++ [(e0, s0)] = ps' := ⟨_, rfl⟩
    have P1 : Hid (wantOf ps' e0 = addBit (wantOf ps e0) s0) := hidMk (by rw [← hps', wantOf_snoc]; simp)
    have P2 : Hid (seenOf ps' e0 = true) := hidMk (by rw [← hps', seenOf_snoc]; simp)
    have P3 : Hid (∀ i, i ≠ e0 → wantOf ps' i = wantOf ps i) := hidMk (fun i hi => by rw [← hps', wantOf_snoc]; simp [hi])
    have P4 : Hid (∀ i, i ≠ e0 → seenOf ps' i = seenOf ps i) := hidMk (fun i hi => by rw [← hps', seenOf_snoc]; simp [hi])
    have P5 : Hid (∀ p ∈ ps', p.1 < 256) := hidMk (fun p hp => by
      rw [← hps'] at hp
      rcases List.mem_append.1 hp with hp | hp
      · exact HPS.out p hp
      · simp at hp; subst hp; exact he0)
    have P6 : Hid (cnt (seenOf ps') 256 = cnt (seenOf ps) 256 + if seenOf ps e0 = false then 1 else 0) := hidMk (by
      have := cnt_set (seenOf ps) e0 256
      rw [← hps', cnt_congr (g := fun j => if j = e0 then true else seenOf ps j) (fun j _ => seenOf_snoc ps (e0, s0) j), this]
      simp [he0])
    have P7 : Hid (holdAll ps' [] = hold (holdAll ps []) (e0, s0)) := hidMk (by rw [← hps', holdAll_snoc])
    clear hps'
    go_loopw [14] (fun jv wr => ∃ i : Nat, i ≤ 256 ∧ jv = .int .i64 i ∧ T6 w wr B A C m (holdAll ps []) D (upTo (wantOf ps) 0 i) (upTo (seenOf ps) false i)) (fun jv _ => 256 - (intOf jv).toNat)
    case atStart => exact ⟨0, by omega, rfl, HT.out.congr (fun j => rfl) (fun j => rfl)⟩
    case round =>
      obtain ⟨i, hi, rfl, hT⟩ := hrel
      by_cases hlt : i < 256
      · have i0 : (0 : Int) ≤ (i : Int) := by omega
        have i2 : (i : Int) < 256 := by omega
        have cp := hT.one.base.cell hlt
        have cw : wr.cell? ⟨D, i, none⟩ = some (.int .u16 ((upTo (wantOf ps) 0 i i : Nat) : Int)) := by rw [hT.want.cell i, cells16, row_at _ hlt]
        have fw := hT.want.frozen i
        have cs : wr.cell? ⟨D + 1, i, none⟩ = some (.bool (upTo (seenOf ps) false i i)) := by rw [hT.seen.cell i, cellsB, row_at _ hlt]
        have fs := hT.seen.frozen i
        have HT2 := hidMk hT
        clear hT
        go_wp2_with fail
        refine (HT2.out.one.back i hlt (seenOf ps i) rfl (wantOf ps i) rfl).mono ?_
        rintro e2 wx ⟨rfl, hwx⟩
        have hwx2 := hwx.symm
        subst hwx2
        clear hwx
        go_wp2_with fail
        exact ⟨⟨i + 1, by omega, by go_num, ((HT2.out.setWant i (wantOf ps i)).setSeen i (seenOf ps i)).congr (fun j => upTo_step (wantOf ps) 0 i j) (fun j => upTo_step (seenOf ps) false i j)⟩, by simp [intOf]; omega⟩
      · have hi2 : i = 256 := by omega
        subst hi2
        have hcl := cnt_le (seenOf ps) 256
        have cp := hT.one.base.cell he0
        have y0 : (0 : Int) ≤ (e0 : Int) := by omega
        have y1 : (e0 : Int) < 256 := by omega
        have HT2 := hidMk hT
        clear hT hlt hi
        go_wp2_with fail
        refine (HT2.out.one.len HPS.out (cnt (seenOf ps) 256) rfl).mono ?_
        rintro e2 wx ⟨rfl, hwx⟩
        have hwx2 := hwx.symm
        subst hwx2
        clear hwx
        go_wp2_with fail
        refine (HT2.out.one.call e0 s0 he0).mono ?_
        rintro e2 w3 ⟨rfl, hh⟩
        obtain ⟨r, hT3⟩ := HT2.out.hold hh
        rw [← P7.out] at hT3
        have cE : w3.cell? ⟨D + 1, e0, none⟩ = some (.bool (seenOf ps e0)) := by rw [hT3.seen.cell e0, cellsB, row_at _ he0]; simp [upTo, he0]
        have HT3 := hidMk hT3
        have CE := hidMk cE
        clear hh hT3 cp cE
        by_cases h16 : s0 < 16
        · have hd : decide ((s0 : Int) < 16) = true := by simp; omega
          have hA : bits BinOp.or IntKind.u16 ((wantOf ps e0 : Nat) : Int) (IntKind.u16.wrap (2 ^ s0)) = ((wantOf ps' e0 : Nat) : Int) := by
            have := addBit_walk (wantOf ps e0) s0 (wantOf_lt _ _)
            rw [show min s0 16 = s0 from by omega] at this
            rw [this, P1.out]
          have z0 : (0 : Int) ≤ (s0 : Int) := by omega
          go_wp2_with fail
          go_loop [19] (fun jv => ∃ i : Nat, i ≤ 256 ∧ jv = .int .i64 i) (fun jv => 256 - (intOf jv).toNat)
          case atStart => exact ⟨0, by omega, rfl⟩
          case round =>
            obtain ⟨i, hi, rfl⟩ := hrel
            by_cases hlt : i < 256
            · have i0 : (0 : Int) ≤ (i : Int) := by omega
              have i2 : (i : Int) < 256 := by omega
              have cp := HT3.out.one.base.cell hlt
              by_cases hie : i = e0
              · have hq : ((i : Int) == (e0 : Int)) = true := beq_iff_eq.2 (by omega)
                have cw : w3.cell? ⟨D, i, none⟩ = some (.int .u16 ((wantOf ps e0 : Nat) : Int)) := by rw [HT3.out.want.cell i, cells16, row_at _ hlt]; simp [upTo, hie, he0]
                have R1 : Hid (seenOf ps' i = true) := hidMk (by rw [hie]; exact P2.out)
                have R2 : Hid (wantOf ps' i = wantOf ps' e0) := hidMk (by rw [hie])
                clear hie
                go_wp2_with fail
                refine (HT3.out.one.back i hlt true R1.out (wantOf ps' e0) R2.out).mono ?_
                rintro e2 wx ⟨rfl, hwx⟩
                have hwx2 := hwx.symm
                subst hwx2
                clear hwx
                go_wp2_with fail
                go_round
                case rel => exact ⟨i + 1, by omega, by go_num⟩
                case measure => simp [intOf]; omega
              · have hq : ((i : Int) == (e0 : Int)) = false := beq_eq_false_iff_ne.2 (by omega)
                have cw : w3.cell? ⟨D, i, none⟩ = some (.int .u16 ((wantOf ps i : Nat) : Int)) := by rw [HT3.out.want.cell i, cells16, row_at _ hlt]; simp [upTo, hlt]
                have cs : w3.cell? ⟨D + 1, i, none⟩ = some (.bool (seenOf ps i)) := by rw [HT3.out.seen.cell i, cellsB, row_at _ hlt]; simp [upTo, hlt]
                have R2 : Hid (wantOf ps' i = wantOf ps i) := hidMk (P3.out i hie)
                cases hb : seenOf ps i
                all_goals
                  have R1 := hidMk ((P4.out i hie).trans hb)
                  rw [hb] at cs
                  clear hb
                  go_wp2_with fail
                  refine (HT3.out.one.back i hlt _ R1.out (wantOf ps i) R2.out).mono ?_
                  rintro e2 wx ⟨rfl, hwx⟩
                  have hwx2 := hwx.symm
                  subst hwx2
                  clear hwx
                  go_wp2_with fail
                  go_round
                  case rel => exact ⟨i + 1, by omega, by go_num⟩
                  case measure => simp [intOf]; omega
            · have hi2 : i = 256 := by omega
              subst hi2
              clear hlt hi
              cases hb : seenOf ps e0
              · have ce := CE.out
                rw [hb] at ce
                have R6 : Hid (cnt (seenOf ps') 256 = cnt (seenOf ps) 256 + 1) := hidMk (by rw [P6.out, hb]; rfl)
                clear hb
                go_wp2_with fail
                refine (HT3.out.one.len P5.out (cnt (seenOf ps) 256 + 1) R6.out).mono ?_
                rintro e2 wx ⟨rfl, hwx⟩
                have hwx2 := hwx.symm
                subst hwx2
                clear hwx
                go_wp2_with fail
                go_ret
                exact ⟨by simp, HT3.out.one.base.below⟩
              · have ce := CE.out
                rw [hb] at ce
                have R6 : Hid (cnt (seenOf ps') 256 = cnt (seenOf ps) 256) := hidMk (by rw [P6.out, hb]; rfl)
                clear hb
                go_wp2_with fail
                refine (HT3.out.one.len P5.out (cnt (seenOf ps) 256) R6.out).mono ?_
                rintro e2 wx ⟨rfl, hwx⟩
                have hwx2 := hwx.symm
                subst hwx2
                clear hwx
                go_wp2_with fail
                go_ret
                exact ⟨by simp, HT3.out.one.base.below⟩
        · have hd : decide ((s0 : Int) < 16) = false := by simp; omega
          have hA : bits BinOp.or IntKind.u16 ((wantOf ps e0 : Nat) : Int) 0 = ((wantOf ps' e0 : Nat) : Int) := by
            have := addBit_walk (wantOf ps e0) s0 (wantOf_lt _ _)
            rw [bit_eq' s0 (by omega)] at this
            rw [this, P1.out]
          go_wp2_with fail
          go_loop [19] (fun jv => ∃ i : Nat, i ≤ 256 ∧ jv = .int .i64 i) (fun jv => 256 - (intOf jv).toNat)
          case atStart => exact ⟨0, by omega, rfl⟩
          case round =>
            obtain ⟨i, hi, rfl⟩ := hrel
            by_cases hlt : i < 256
            · have i0 : (0 : Int) ≤ (i : Int) := by omega
              have i2 : (i : Int) < 256 := by omega
              have cp := HT3.out.one.base.cell hlt
              by_cases hie : i = e0
              · have hq : ((i : Int) == (e0 : Int)) = true := beq_iff_eq.2 (by omega)
                have cw : w3.cell? ⟨D, i, none⟩ = some (.int .u16 ((wantOf ps e0 : Nat) : Int)) := by rw [HT3.out.want.cell i, cells16, row_at _ hlt]; simp [upTo, hie, he0]
                have R1 : Hid (seenOf ps' i = true) := hidMk (by rw [hie]; exact P2.out)
                have R2 : Hid (wantOf ps' i = wantOf ps' e0) := hidMk (by rw [hie])
                clear hie
                go_wp2_with fail
                refine (HT3.out.one.back i hlt true R1.out (wantOf ps' e0) R2.out).mono ?_
                rintro e2 wx ⟨rfl, hwx⟩
                have hwx2 := hwx.symm
                subst hwx2
                clear hwx
                go_wp2_with fail
                go_round
                case rel => exact ⟨i + 1, by omega, by go_num⟩
                case measure => simp [intOf]; omega
              · have hq : ((i : Int) == (e0 : Int)) = false := beq_eq_false_iff_ne.2 (by omega)
                have cw : w3.cell? ⟨D, i, none⟩ = some (.int .u16 ((wantOf ps i : Nat) : Int)) := by rw [HT3.out.want.cell i, cells16, row_at _ hlt]; simp [upTo, hlt]
                have cs : w3.cell? ⟨D + 1, i, none⟩ = some (.bool (seenOf ps i)) := by rw [HT3.out.seen.cell i, cellsB, row_at _ hlt]; simp [upTo, hlt]
                have R2 : Hid (wantOf ps' i = wantOf ps i) := hidMk (P3.out i hie)
                cases hb : seenOf ps i
                all_goals
                  have R1 := hidMk ((P4.out i hie).trans hb)
                  rw [hb] at cs
                  clear hb
                  go_wp2_with fail
                  refine (HT3.out.one.back i hlt _ R1.out (wantOf ps i) R2.out).mono ?_
                  rintro e2 wx ⟨rfl, hwx⟩
                  have hwx2 := hwx.symm
                  subst hwx2
                  clear hwx
                  go_wp2_with fail
                  go_round
                  case rel => exact ⟨i + 1, by omega, by go_num⟩
                  case measure => simp [intOf]; omega
            · have hi2 : i = 256 := by omega
              subst hi2
              clear hlt hi
              cases hb : seenOf ps e0
              · have ce := CE.out
                rw [hb] at ce
                have R6 : Hid (cnt (seenOf ps') 256 = cnt (seenOf ps) 256 + 1) := hidMk (by rw [P6.out, hb]; rfl)
                clear hb
                go_wp2_with fail
                refine (HT3.out.one.len P5.out (cnt (seenOf ps) 256 + 1) R6.out).mono ?_
                rintro e2 wx ⟨rfl, hwx⟩
                have hwx2 := hwx.symm
                subst hwx2
                clear hwx
                go_wp2_with fail
                go_ret
                exact ⟨by simp, HT3.out.one.base.below⟩
              · have ce := CE.out
                rw [hb] at ce
                have R6 : Hid (cnt (seenOf ps') 256 = cnt (seenOf ps) 256) := hidMk (by rw [P6.out, hb]; rfl)
                clear hb
                go_wp2_with fail
                refine (HT3.out.one.len P5.out (cnt (seenOf ps) 256) R6.out).mono ?_
                rintro e2 wx ⟨rfl, hwx⟩
                have hwx2 := hwx.symm
                subst hwx2
                clear hwx
                go_wp2_with fail
                go_ret
                exact ⟨by simp, HT3.out.one.base.below⟩

set_option maxHeartbeats 1000000 in
/-- The law, whatever the two slices are. -/
theorem law6_any (a0 a1 : Option Addr) (n0 n1 q0 q1 e0 s0 : Nat) (es ss : List Nat) (w : World) (h0 : n0 ≤ maxLen) (h1 : n1 ≤ maxLen) (hes : es.length = n0) (hss : ss.length = n1) (e256 : ∀ e ∈ es, e < 256) (he0 : e0 < 256)
    (hc0 : 0 < n0 → ∃ b o, a0 = some ⟨b, o, none⟩ ∧ ∀ j, j < n0 → w.cell? ⟨b, o + j, none⟩ = some (.int .u8 ((es.getD j 0 : Nat) : Int)))
    (hc1 : 0 < n1 → ∃ b o, a1 = some ⟨b, o, none⟩ ∧ ∀ j, j < n1 → w.cell? ⟨b, o + j, none⟩ = some (.int .u8 ((ss.getD j 0 : Nat) : Int))) :
    Calls Try.prog 6 #[.slice a0 n0 q0, .slice a1 n1 q1, .int .u8 (e0 : Int), .int .u8 (s0 : Int)] w fun e w' => e = .returned (.bool true) ∧ Below w.heap.size w w' := by
  by_cases g : n0 + n1 ≤ 1048576
  · by_cases g0 : n0 ≤ 65536
    · by_cases g1 : n1 ≤ 65536
      · by_cases g2 : n0 = n1
        · subst g2
          rcases Nat.eq_zero_or_pos n0 with hz | hz
          · subst hz; exact law6_zero a0 a1 q0 q1 e0 s0 w he0
          · obtain ⟨b0, o0, rfl, k0⟩ := hc0 hz
            obtain ⟨b1, o1, rfl, k1⟩ := hc1 hz
            exact law6_pos b0 o0 b1 o1 n0 q0 q1 e0 s0 es ss w hz g0 hes hss e256 he0 k0 k1
        · have i0 : decide ((65536 : Int) < (n0 : Int)) = false := by simp; omega
          have i1 : decide ((65536 : Int) < (n1 : Int)) = false := by simp; omega
          have i2 : ((n0 : Int) != (n1 : Int)) = true := by rw [bne_iff_ne]; omega
          clear hc0 hc1
          go_enter Try.func6, Try.ntmps6
          go_wp2_with fail
          refine (bytes16_yes _ _ _ _ _ _ _ _ _ g).mono ?_
          rintro e w' ⟨rfl, rfl⟩
          go_wp2_with fail
          go_ret
          exact ⟨rfl, Below.refl _ _⟩
      · have i0 : decide ((65536 : Int) < (n0 : Int)) = false := by simp; omega
        have i1 : decide ((65536 : Int) < (n1 : Int)) = true := by simp; omega
        clear hc0 hc1
        go_enter Try.func6, Try.ntmps6
        go_wp2_with fail
        refine (bytes16_yes _ _ _ _ _ _ _ _ _ g).mono ?_
        rintro e w' ⟨rfl, rfl⟩
        go_wp2_with fail
        go_ret
        exact ⟨rfl, Below.refl _ _⟩
    · have i0 : decide ((65536 : Int) < (n0 : Int)) = true := by simp; omega
      clear hc0 hc1
      go_enter Try.func6, Try.ntmps6
      go_wp2_with fail
      refine (bytes16_yes _ _ _ _ _ _ _ _ _ g).mono ?_
      rintro e w' ⟨rfl, rfl⟩
      go_wp2_with fail
      go_ret
      exact ⟨rfl, Below.refl _ _⟩
  · clear hc0 hc1
    go_enter Try.func6, Try.ntmps6
    go_wp2_with fail
    refine (bytes16_no _ _ _ _ _ _ _ _ _ h0 h1 g).mono ?_
    rintro e w' ⟨rfl, rfl⟩
    go_wp2_with fail
    go_ret
    exact ⟨rfl, Below.refl _ _⟩
end Go.Proofs.Qxb6616435a
