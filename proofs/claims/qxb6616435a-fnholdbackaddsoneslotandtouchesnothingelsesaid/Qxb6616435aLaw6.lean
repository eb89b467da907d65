import Derived.Test.Qxb6616435aState6
import Derived.Deep.RegionHeld3
import Derived.Deep.DrawnRows
namespace Go.Proofs.Qxb6616435a
open Go.RowKit
attribute [local go_sem ↓] Go.wp_at_zero Go.wp_at_succ

theorem bit_eq' (s : Nat) (h : 16 ≤ s) : IntKind.u16.wrap (2 ^ min s 16) = 0 := by
  have := bit_eq (s : Int) (by omega)
  rw [Int.toNat_natCast, if_pos (by omega)] at this
  exact this

set_option maxRecDepth 100000 in
set_option maxHeartbeats 4000000 in
theorem law6_pos (b0 o0 b1 o1 n q0 q1 e0 s0 : Nat) (es ss : List Nat) (w : World) (hn : 0 < n) (hn2 : n ≤ 65536) (hes : es.length = n) (hss : ss.length = n) (e256 : ∀ e ∈ es, e < 256) (he0 : e0 < 256)
    (hc0 : ∀ j, j < n → w.cell? ⟨b0, o0 + j, none⟩ = some (.int .u8 ((es.getD j 0 : Nat) : Int))) (hc1 : ∀ j, j < n → w.cell? ⟨b1, o1 + j, none⟩ = some (.int .u8 ((ss.getD j 0 : Nat) : Int))) :
    Calls Try.prog 6 #[.slice (some ⟨b0, o0, none⟩) n q0, .slice (some ⟨b1, o1, none⟩) n q1, .int .u8 (e0 : Int), .int .u8 (s0 : Int)] w fun e w' => e = .returned (.bool true) ∧ Below w.heap.size w w' := by
  have hc0' := hidMk hc0
  have hc1' := hidMk hc1
  clear hc0 hc1
  have i1 : decide ((65536 : Int) < (n : Int)) = false := by simp; omega
  obtain ⟨hz30, hi30⟩ := zero_of_info info30
  obtain ⟨hz34, hi34⟩ := zero_of_info info34
  obtain ⟨hz35, hi35⟩ := zero_of_info info35
  clear hi30 hi34 hi35
  go_enter Try.func6, Try.ntmps6
  go_wp2_with fail
  refine (bytes16_yes _ _ _ _ _ _ _ _ _ (by omega)).mono ?_
  rintro e w' ⟨rfl, hw⟩
  have hw2 := hw.symm
  subst hw2
  clear hw
  go_wp2_with fail
  refine (pool_any _).mono ?_
  rintro e w1 ⟨A, C, rfl, hP⟩
  have HP := hidMk hP
  clear hP
  go_wp2_with (refine wpList_store_row rfl 30 _ _ rfl w1.heap.size C rfl rfl 30 zeros30 (heap_alloc_new w1 _) (pool_size HP.out) (pool_zero HP.out) (pool_one HP.out) ?_; rw [World.setRow_alloc_new])
  refine (zzNewTransaction_any _).mono ?_
  rintro e w2 ⟨rfl, rfl⟩
  go_wp2_with fail
  have H0 := S6.start HP.out
  obtain ⟨B, hB⟩ : ∃ B, w1.heap.size = B := ⟨_, rfl⟩
  rw [hB] at H0 ⊢
  have HS := hidMk H0
  clear H0 hB HP hz30
  obtain ⟨ps, hps⟩ : ∃ ps, es.zip ss = ps := ⟨_, rfl⟩
  have hpl : ps.length = n := by rw [← hps]; simp [hes, hss]
  have hat : Hid (∀ k, k < n → ps[k]? = some (es.getD k 0, ss.getD k 0)) := hidMk (fun k hk => by rw [← hps]; exact zip_at es ss k (by omega) (by omega))
  have HL := hidMk hpl
  have HPS : Hid (∀ p ∈ ps, p.1 < 256) := hidMk (fun p hp => by rw [← hps] at hp; exact e256 _ (List.of_mem_zip hp).1)
  clear hps hpl
  go_loopw [11] (fun i wr => ∃ (k : Nat) (m : Option Nat), i = .int .i64 k ∧ k ≤ n ∧ S6 w wr B A C m (holdAll (ps.take k) [])) (fun i _ => n - (intOf i).toNat)
  case atStart => exact ⟨0, none, rfl, by omega, HS.out⟩
  case round =>
    obtain ⟨k, m, rfl, hk, hS⟩ := hrel
    by_cases hlt : k < n
    · have k0 : (0 : Int) ≤ (k : Int) := by omega
      have k1 : (k : Int) < (n : Int) := by omega
      obtain ⟨e, he⟩ : ∃ e, es.getD k 0 = e := ⟨_, rfl⟩
      obtain ⟨s, hs⟩ : ∃ s, ss.getD k 0 = s := ⟨_, rfl⟩
      have he2 : e < 256 := by rw [← he]; exact e256 _ (getD_mem _ _ (by omega))
      have W0 : Hid (w.cell? ⟨b0, o0 + k, none⟩ = some (.int .u8 (e : Int))) := hidMk (by rw [hc0'.out k hlt, he])
      have W1 : Hid (w.cell? ⟨b1, o1 + k, none⟩ = some (.int .u8 (s : Int))) := hidMk (by rw [hc1'.out k hlt, hs])
      have c0 := (hS.base.below.cell (p := ⟨b0, o0 + k, none⟩) (World.block_lt_of_cell? _ _ W0.out)).trans W0.out
      have c1 := (hS.base.below.cell (p := ⟨b1, o1 + k, none⟩) (World.block_lt_of_cell? _ _ W1.out)).trans W1.out
      have cp := hS.base.cell he2
      have x0 : (0 : Int) ≤ (e : Int) := by omega
      have x1 : (e : Int) < 256 := by omega
      have hpk : Hid (ps.take (k + 1) = ps.take k ++ [(e, s)]) := hidMk (by rw [List.take_add_one, hat.out k hlt, he, hs]; rfl)
      have HSS := hidMk hS
      clear hS he hs
      go_wp2_with fail
      go_region_held3 (fun w' => w'.cell? ⟨b0, o0 + k, none⟩ = some (.int .u8 (e : Int)) ∧ w'.cell? ⟨B, e, none⟩ = some (hp (A e)) ∧ w'.cell? ⟨b1, o1 + k, none⟩ = some (.int .u8 (s : Int)))
        (first | go_keep | exact HSS.out.keep hh W0.out W1.out he2)
        ((go_at_call 13; refine (HSS.out.drew.call e s he2).mono ?_; rintro _ w2 ⟨rfl, hh⟩))
      obtain ⟨r, hS2, _⟩ := HSS.out.drew.hold hh
      have HS2 := hidMk hS2
      clear hh hS2 c0 c1 cp
      go_wp2_with fail
      exact ⟨⟨k + 1, some r, by go_num, by omega, by rw [hpk.out, holdAll_snoc]; exact HS2.out⟩, by simp [intOf]; omega⟩
    · have hkn : k = n := by omega
      subst hkn
      rw [List.take_of_length_le (by rw [HL.out]; exact Nat.le_refl _)] at hS
      have HT := hidMk hS.rows
      clear hS hlt hk
      obtain ⟨D, hD⟩ : ∃ D, wr.heap.size = D := ⟨_, rfl⟩
      rw [hD] at HT
      go_wp2_with fail
      clear hD hz34 hz35
      obtain ⟨ps', hps'⟩ : ∃ ps', ps ++ [(e0, s0)] = ps' := ⟨_, rfl⟩
      have P1 : Hid (wantOf ps' e0 = addBit (wantOf ps e0) s0) := hidMk (by rw [← hps', wantOf_snoc]; simp)
      have P2 : Hid (seenOf ps' e0 = true) := hidMk (by rw [← hps', seenOf_snoc]; simp)
      have P3 : Hid (∀ i, i ≠ e0 → wantOf ps' i = wantOf ps i) := hidMk (fun i hi => by rw [← hps', wantOf_snoc]; simp [hi])
      have P4 : Hid (∀ i, i ≠ e0 → seenOf ps' i = seenOf ps i) := hidMk (fun i hi => by rw [← hps', seenOf_snoc]; simp [hi])
      have P5 : Hid (∀ p ∈ ps', p.1 < 256) := hidMk (fun p hp => by
        rw [← hps'] at hp
        rcases List.mem_append.1 hp with hp | hp
        · exact HPS.out p hp
        · simp at hp; subst hp; exact he0)
      have P6 : Hid (cnt (seenOf ps') 256 = cnt (seenOf ps) 256 + if seenOf ps e0 = false then 1 else 0) := hidMk (by
        have := cnt_set (seenOf ps) e0 256
        rw [← hps', cnt_congr (g := fun j => if j = e0 then true else seenOf ps j) (fun j _ => seenOf_snoc ps (e0, s0) j), this]
        simp [he0])
      have P7 : Hid (holdAll ps' [] = hold (holdAll ps []) (e0, s0)) := hidMk (by rw [← hps', holdAll_snoc])
      clear hps'
      go_loopw [14] (fun jv wr => ∃ i : Nat, i ≤ 256 ∧ jv = .int .i64 i ∧ T6 w wr B A C m (holdAll ps []) D (upTo (wantOf ps) 0 i) (upTo (seenOf ps) false i)) (fun jv _ => 256 - (intOf jv).toNat)
      case atStart => exact ⟨0, by omega, rfl, HT.out.congr (fun j => rfl) (fun j => rfl)⟩
      case round =>
        obtain ⟨i, hi, rfl, hT⟩ := hrel
        by_cases hlt : i < 256
        · have i0 : (0 : Int) ≤ (i : Int) := by omega
          have i2 : (i : Int) < 256 := by omega
          have cp := hT.one.base.cell hlt
          have cw : wr.cell? ⟨D, i, none⟩ = some (.int .u16 ((upTo (wantOf ps) 0 i i : Nat) : Int)) := by rw [hT.want.cell i, cells16, row_at _ hlt]
          have fw := hT.want.frozen i
          have cs : wr.cell? ⟨D + 1, i, none⟩ = some (.bool (upTo (seenOf ps) false i i)) := by rw [hT.seen.cell i, cellsB, row_at _ hlt]
          have fs := hT.seen.frozen i
          have HT2 := hidMk hT
          clear hT
          go_wp2_with fail
          refine (HT2.out.one.back i hlt (seenOf ps i) rfl (wantOf ps i) rfl).mono ?_
          rintro e2 wx ⟨rfl, hwx⟩
          have hwx2 := hwx.symm
          subst hwx2
          clear hwx
          go_wp2_with fail
          exact ⟨⟨i + 1, by omega, by go_num, ((HT2.out.setWant i (wantOf ps i)).setSeen i (seenOf ps i)).congr (fun j => upTo_step (wantOf ps) 0 i j) (fun j => upTo_step (seenOf ps) false i j)⟩, by simp [intOf]; omega⟩
        · have hi2 : i = 256 := by omega
          subst hi2
          have hcl := cnt_le (seenOf ps) 256
          have cp := hT.one.base.cell he0
          have y0 : (0 : Int) ≤ (e0 : Int) := by omega
          have y1 : (e0 : Int) < 256 := by omega
          have HT2 := hidMk hT
          clear hT hlt hi
          go_wp2_with fail
          refine (HT2.out.one.len HPS.out (cnt (seenOf ps) 256) rfl).mono ?_
          rintro e2 wx ⟨rfl, hwx⟩
          have hwx2 := hwx.symm
          subst hwx2
          clear hwx
          go_wp2_with fail
          refine (HT2.out.one.call e0 s0 he0).mono ?_
          rintro e2 w3 ⟨rfl, hh⟩
          obtain ⟨r, hT3⟩ := HT2.out.hold hh
          rw [← P7.out] at hT3
          have cE : w3.cell? ⟨D + 1, e0, none⟩ = some (.bool (seenOf ps e0)) := by rw [hT3.seen.cell e0, cellsB, row_at _ he0]; simp [upTo, he0]
          have HT3 := hidMk hT3
          have CE := hidMk cE
          clear hh hT3 cp cE
          by_cases h16 : s0 < 16
          · have hd : decide ((s0 : Int) < 16) = true := by simp; omega
            have hA : bits BinOp.or IntKind.u16 ((wantOf ps e0 : Nat) : Int) (IntKind.u16.wrap (2 ^ s0)) = ((wantOf ps' e0 : Nat) : Int) := by
              have := addBit_walk (wantOf ps e0) s0 (wantOf_lt _ _)
              rw [show min s0 16 = s0 from by omega] at this
              rw [this, P1.out]
            have z0 : (0 : Int) ≤ (s0 : Int) := by omega
            go_wp2_with fail
            go_loop [19] (fun jv => ∃ i : Nat, i ≤ 256 ∧ jv = .int .i64 i) (fun jv => 256 - (intOf jv).toNat)
            case atStart => exact ⟨0, by omega, rfl⟩
            case round =>
              obtain ⟨i, hi, rfl⟩ := hrel
              by_cases hlt : i < 256
              · have i0 : (0 : Int) ≤ (i : Int) := by omega
                have i2 : (i : Int) < 256 := by omega
                have cp := HT3.out.one.base.cell hlt
                by_cases hie : i = e0
                · have hq : ((i : Int) == (e0 : Int)) = true := beq_iff_eq.2 (by omega)
                  have cw : w3.cell? ⟨D, i, none⟩ = some (.int .u16 ((wantOf ps e0 : Nat) : Int)) := by rw [HT3.out.want.cell i, cells16, row_at _ hlt]; simp [upTo, hie, he0]
                  have R1 : Hid (seenOf ps' i = true) := hidMk (by rw [hie]; exact P2.out)
                  have R2 : Hid (wantOf ps' i = wantOf ps' e0) := hidMk (by rw [hie])
                  clear hie
                  go_wp2_with fail
                  refine (HT3.out.one.back i hlt true R1.out (wantOf ps' e0) R2.out).mono ?_
                  rintro e2 wx ⟨rfl, hwx⟩
                  have hwx2 := hwx.symm
                  subst hwx2
                  clear hwx
                  go_wp2_with fail
                  go_round
                  case rel => exact ⟨i + 1, by omega, by go_num⟩
                  case measure => simp [intOf]; omega
                · have hq : ((i : Int) == (e0 : Int)) = false := beq_eq_false_iff_ne.2 (by omega)
                  have cw : w3.cell? ⟨D, i, none⟩ = some (.int .u16 ((wantOf ps i : Nat) : Int)) := by rw [HT3.out.want.cell i, cells16, row_at _ hlt]; simp [upTo, hlt]
                  have cs : w3.cell? ⟨D + 1, i, none⟩ = some (.bool (seenOf ps i)) := by rw [HT3.out.seen.cell i, cellsB, row_at _ hlt]; simp [upTo, hlt]
                  have R2 : Hid (wantOf ps' i = wantOf ps i) := hidMk (P3.out i hie)
                  cases hb : seenOf ps i
                  all_goals
                    have R1 := hidMk ((P4.out i hie).trans hb)
                    rw [hb] at cs
                    clear hb
                    go_wp2_with fail
                    refine (HT3.out.one.back i hlt _ R1.out (wantOf ps i) R2.out).mono ?_
                    rintro e2 wx ⟨rfl, hwx⟩
                    have hwx2 := hwx.symm
                    subst hwx2
                    clear hwx
                    go_wp2_with fail
                    go_round
                    case rel => exact ⟨i + 1, by omega, by go_num⟩
                    case measure => simp [intOf]; omega
              · have hi2 : i = 256 := by omega
                subst hi2
                clear hlt hi
                cases hb : seenOf ps e0
                · have ce := CE.out
                  rw [hb] at ce
                  have R6 : Hid (cnt (seenOf ps') 256 = cnt (seenOf ps) 256 + 1) := hidMk (by rw [P6.out, hb]; rfl)
                  clear hb
                  go_wp2_with fail
                  refine (HT3.out.one.len P5.out (cnt (seenOf ps) 256 + 1) R6.out).mono ?_
                  rintro e2 wx ⟨rfl, hwx⟩
                  have hwx2 := hwx.symm
                  subst hwx2
                  clear hwx
                  go_wp2_with fail
                  go_ret
                  exact ⟨by simp, HT3.out.one.base.below⟩
                · have ce := CE.out
                  rw [hb] at ce
                  have R6 : Hid (cnt (seenOf ps') 256 = cnt (seenOf ps) 256) := hidMk (by rw [P6.out, hb]; rfl)
                  clear hb
                  go_wp2_with fail
                  refine (HT3.out.one.len P5.out (cnt (seenOf ps) 256) R6.out).mono ?_
                  rintro e2 wx ⟨rfl, hwx⟩
                  have hwx2 := hwx.symm
                  subst hwx2
                  clear hwx
                  go_wp2_with fail
                  go_ret
                  exact ⟨by simp, HT3.out.one.base.below⟩
          · have hd : decide ((s0 : Int) < 16) = false := by simp; omega
            have hA : bits BinOp.or IntKind.u16 ((wantOf ps e0 : Nat) : Int) 0 = ((wantOf ps' e0 : Nat) : Int) := by
              have := addBit_walk (wantOf ps e0) s0 (wantOf_lt _ _)
              rw [bit_eq' s0 (by omega)] at this
              rw [this, P1.out]
            go_wp2_with fail
            go_loop [19] (fun jv => ∃ i : Nat, i ≤ 256 ∧ jv = .int .i64 i) (fun jv => 256 - (intOf jv).toNat)
            case atStart => exact ⟨0, by omega, rfl⟩
            case round =>
              obtain ⟨i, hi, rfl⟩ := hrel
              by_cases hlt : i < 256
              · have i0 : (0 : Int) ≤ (i : Int) := by omega
                have i2 : (i : Int) < 256 := by omega
                have cp := HT3.out.one.base.cell hlt
                by_cases hie : i = e0
                · have hq : ((i : Int) == (e0 : Int)) = true := beq_iff_eq.2 (by omega)
                  have cw : w3.cell? ⟨D, i, none⟩ = some (.int .u16 ((wantOf ps e0 : Nat) : Int)) := by rw [HT3.out.want.cell i, cells16, row_at _ hlt]; simp [upTo, hie, he0]
                  have R1 : Hid (seenOf ps' i = true) := hidMk (by rw [hie]; exact P2.out)
                  have R2 : Hid (wantOf ps' i = wantOf ps' e0) := hidMk (by rw [hie])
                  clear hie
                  go_wp2_with fail
                  refine (HT3.out.one.back i hlt true R1.out (wantOf ps' e0) R2.out).mono ?_
                  rintro e2 wx ⟨rfl, hwx⟩
                  have hwx2 := hwx.symm
                  subst hwx2
                  clear hwx
                  go_wp2_with fail
                  go_round
                  case rel => exact ⟨i + 1, by omega, by go_num⟩
                  case measure => simp [intOf]; omega
                · have hq : ((i : Int) == (e0 : Int)) = false := beq_eq_false_iff_ne.2 (by omega)
                  have cw : w3.cell? ⟨D, i, none⟩ = some (.int .u16 ((wantOf ps i : Nat) : Int)) := by rw [HT3.out.want.cell i, cells16, row_at _ hlt]; simp [upTo, hlt]
                  have cs : w3.cell? ⟨D + 1, i, none⟩ = some (.bool (seenOf ps i)) := by rw [HT3.out.seen.cell i, cellsB, row_at _ hlt]; simp [upTo, hlt]
                  have R2 : Hid (wantOf ps' i = wantOf ps i) := hidMk (P3.out i hie)
                  cases hb : seenOf ps i
                  all_goals
                    have R1 := hidMk ((P4.out i hie).trans hb)
                    rw [hb] at cs
                    clear hb
                    go_wp2_with fail
                    refine (HT3.out.one.back i hlt _ R1.out (wantOf ps i) R2.out).mono ?_
                    rintro e2 wx ⟨rfl, hwx⟩
                    have hwx2 := hwx.symm
                    subst hwx2
                    clear hwx
                    go_wp2_with fail
                    go_round
                    case rel => exact ⟨i + 1, by omega, by go_num⟩
                    case measure => simp [intOf]; omega
              · have hi2 : i = 256 := by omega
                subst hi2
                clear hlt hi
                cases hb : seenOf ps e0
                · have ce := CE.out
                  rw [hb] at ce
                  have R6 : Hid (cnt (seenOf ps') 256 = cnt (seenOf ps) 256 + 1) := hidMk (by rw [P6.out, hb]; rfl)
                  clear hb
                  go_wp2_with fail
                  refine (HT3.out.one.len P5.out (cnt (seenOf ps) 256 + 1) R6.out).mono ?_
                  rintro e2 wx ⟨rfl, hwx⟩
                  have hwx2 := hwx.symm
                  subst hwx2
                  clear hwx
                  go_wp2_with fail
                  go_ret
                  exact ⟨by simp, HT3.out.one.base.below⟩
                · have ce := CE.out
                  rw [hb] at ce
                  have R6 : Hid (cnt (seenOf ps') 256 = cnt (seenOf ps) 256) := hidMk (by rw [P6.out, hb]; rfl)
                  clear hb
                  go_wp2_with fail
                  refine (HT3.out.one.len P5.out (cnt (seenOf ps) 256) R6.out).mono ?_
                  rintro e2 wx ⟨rfl, hwx⟩
                  have hwx2 := hwx.symm
                  subst hwx2
                  clear hwx
                  go_wp2_with fail
                  go_ret
                  exact ⟨by simp, HT3.out.one.base.below⟩
end Go.Proofs.Qxb6616435a
