import Derived.Test.Qxb6616617aMake
import Derived.Deep.DeepCutAuto
import Derived.Deep.CutBlock
namespace Go.Proofs.Qxb6616617a
open Go.RowKit

theorem addStrs_eq (t : Int) (a : Option Addr) (n q : Nat) (xs : List ByteArray) (w : World) (hx : xs.length = n) (hn : n ≤ 65536) (hc : StrRow w a xs) (h0 : 0 ≤ t) (h1 : t ≤ 1048592) :
    Calls Try.prog 15 #[.int .i64 t, .slice a n q] w fun e w' => (∃ r : Int, e = .returned (.int .i64 r) ∧ 0 ≤ r ∧ r ≤ 1048592) ∧ w' = w := by
  subst hx; exact addStrs_any t a q xs w hn hc h0 h1

def joined (n : Nat) : Option Nat → Option Nat → Option Nat
  | some i, _ => some i
  | none, b => b.map (· + n)

set_option maxRecDepth 100000 in
set_option maxHeartbeats 4000000 in
theorem law5_main (a0 a1 : Option Addr) (n0 n1 q0 q1 : Nat) (xs ys : List ByteArray) (nm : ByteArray) (w : World) (h0 : xs.length = n0) (h1 : ys.length = n1) (hc0 : StrRow w a0 xs) (hc1 : StrRow w a1 ys) 
    (z0 : a0 = none → n0 = 0 ∧ q0 = 0) (z1 : a1 = none → n1 = 0 ∧ q1 = 0) (g0 : n0 ≤ 65536) (g1 : n1 ≤ 65536) (g2 : nm.size ≤ 1048576) :
    Calls Try.prog 5 #[.slice a0 n0 q0, .slice a1 n1 q1, .string nm] w fun e w' => e = .returned (.bool true) ∧ Below w.heap.size w w' := by
  have HC0 := hidMk hc0
  have HC1 := hidMk hc1
  have i0 : decide ((65536 : Int) < (n0 : Int)) = false := by simp; omega
  have i1 : decide ((65536 : Int) < (n1 : Int)) = false := by simp; omega
  have i2 : decide ((1048576 : Int) < (nm.size : Int)) = false := by simp; omega
  clear hc0 hc1
  have HZ0 := hidMk z0
  have HZ1 := hidMk z1
  clear z0 z1
  have HI9 : Hid ((Try.prog.info? 9).map (·.size) = some 1) := hidMk (by obtain ⟨i, hi, _, hs, _⟩ := info_parts info9; rw [hi]; simp [hs])
  have q25 : ∀ (w : World) (a : Option Addr) (n c : Nat), (binOp .neq 25 (.slice a n c) (.slice none 0 0)).run Try.prog w = .ok (.bool (!a.isNone)) w := fun w a n c => run_neq_slice_nil_any w 25 9 a n c 0 0 Try.underlying25
  go_enter Try.func5, Try.ntmps5
  go_wp2_with fail
  refine (bytes13_any a0 a1 n0 n1 q0 q1 xs ys nm _ h0 h1 HC0.out HC1.out).mono ?_
  rintro e w' ⟨⟨b, rfl⟩, hw⟩
  have hw2 := hw.symm
  subst hw2
  clear hw
  cases b
  · go_wp2_with fail
    go_ret
    exact ⟨rfl, Below.refl _ _⟩
  · go_upto_if 42 with fail
    go_cut [0, 7] (fun s0 _ wc => ∃ a q, s0 = .slice a n0 q ∧ StrRow wc a xs ∧ Below w.heap.size w wc ∧ (a = none → n0 = 0 ∧ q = 0))
    case first =>
      cases a0 with
      | none =>
        go_wp2_with fail
        go_meet
        case rel => exact ⟨none, q0, rfl, HC0.out, Below.refl _ _, fun _ => HZ0.out (by simp)⟩
      | some x =>
        have hmk := make_len w n0 (by omega)
        go_wp2_with (first | (refine wpList_copy_splice rfl _ _ 25 25 rfl 9 Try.underlying25 (by rw [HI9.out]) _ _ n0 n0 n0 q0 rfl rfl w.heap.size 0 (blanks n0) 9 (heap_alloc_new w _) (strs xs) (by simp [strs, h0]) (copy_pos w x xs HC0.out _) (by rw [blanks_length]; simp [strs, h0]) (strs_one xs) w.heap.size w ((Below.refl _ w).alloc (Nat.le_refl _) _) (Nat.le_refl _) ?_; intro w2 hblk hbel))
        go_meet
        case rel => exact ⟨some ⟨w.heap.size, 0, none⟩, n0, rfl, strRow_of_block hblk.out (fun j hj => splice_get xs _ j hj), hbel, fun e => by cases e⟩
    case rest =>
      obtain ⟨b0, r0, rfl, k0, hb1, m0⟩ := hcut
      have K0 := hidMk k0
      have HB1 := hidMk hb1
      have HD1 := hidMk (HC1.out.below hb1)
      have M0 := hidMk m0
      clear k0 hb1 m0
      rename World => wA
      go_upto_if 51 with fail
      go_cut [1, 8] (fun s1 _ wd => ∃ a q, s1 = .slice a n1 q ∧ StrRow wd a ys ∧ Below wA.heap.size wA wd ∧ (a = none → n1 = 0 ∧ q = 0))
      case first =>
        cases a1 with
        | none =>
          go_wp2_with fail
          go_meet
          case rel => exact ⟨none, q1, rfl, HD1.out, Below.refl _ _, fun _ => HZ1.out (by simp)⟩
        | some x =>
          have hmk := make_len wA n1 (by omega)
          go_wp2_with (first | (refine wpList_copy_splice rfl _ _ 25 25 rfl 9 Try.underlying25 (by rw [HI9.out]) _ _ n1 n1 n1 q1 rfl rfl wA.heap.size 0 (blanks n1) 9 (heap_alloc_new wA _) (strs ys) (by simp [strs, h1]) (copy_pos wA x ys HD1.out _) (by rw [blanks_length]; simp [strs, h1]) (strs_one ys) wA.heap.size wA ((Below.refl _ wA).alloc (Nat.le_refl _) _) (Nat.le_refl _) ?_; intro w2 hblk hbel))
          go_meet
          case rel => exact ⟨some ⟨wA.heap.size, 0, none⟩, n1, rfl, strRow_of_block hblk.out (fun j hj => splice_get ys _ j hj), hbel, fun e => by cases e⟩
      case rest =>
        rename World => wd
        obtain ⟨b1, r1, rfl, k1, hb2, m1⟩ := hcut
        have K1 := hidMk k1
        have K0' := hidMk (K0.out.below hb2)
        have HB2 := hidMk (HB1.out.trans (hb2.mono HB1.out.size))
        have M1 := hidMk m1
        clear k1 hb2 m1 K0 HB1 HD1
        go_wp2_with fail
        refine (addStr_any 0 nm _ (by omega) (by omega)).mono ?_
        rintro e wx ⟨⟨t0, rfl, t00, t01⟩, hwx⟩
        have hwx2 := hwx.symm
        subst hwx2
        clear hwx
        go_wp2_with fail
        refine (addStrs_eq t0 b0 n0 r0 xs _ h0 g0 K0'.out (by omega) (by omega)).mono ?_
        rintro e wx ⟨⟨t1, rfl, t10, t11⟩, hwx⟩
        have hwx2 := hwx.symm
        subst hwx2
        clear hwx
        go_wp2_with fail
        refine (addStrs_eq t1 b1 n1 r1 ys _ h1 g1 K1.out (by omega) (by omega)).mono ?_
        rintro e wx ⟨⟨t2, rfl, t20, t21⟩, hwx⟩
        have hwx2 := hwx.symm
        subst hwx2
        clear hwx
        clear t00 t01 t10 t11
        by_cases ht : (1048576 : Int) < t2
        · have hd : decide ((1048576 : Int) < t2) = true := by simpa using ht
          go_wp2_with fail
          go_ret
          exact ⟨rfl, HB2.out⟩
        · have hd : decide ((1048576 : Int) < t2) = false := by simpa using ht
          clear ht
          have hmk := make_cap wd (n0 + n1) ((n0 : Int) + (n1 : Int)) (by omega) (by omega)
          go_upto_region 20 with (first | (at_builtin; refine wpList_append_strs rfl _ _ rfl wd.heap.size (.slice (some ⟨wd.heap.size, 0, none⟩) 0 (n0 + n1)) 0 [] rfl (World.ownsRow_made wd _ (n0 + n1) (Nat.le_refl _) (by unfold maxLen; omega) (by rw [List.size_toArray, blanks_length]; omega)) b0 n0 r0 xs rfl h0 (K0'.out.below ((Below.refl _ wd).alloc (Nat.le_refl _) _)) M0.out (by omega) (by simp) n0 (by omega) ?_; intro c1 p1 w1 hown1 hgrow1))
          have X1 := hidMk hown1
          have hb3 : Below wd.heap.size wd w1 := ((Below.refl _ wd).alloc (Nat.le_refl _) _).grown hgrow1 (by simp) (fun k hk => by cases hk; exact Nat.le_refl _)
          have HB3 := hidMk hb3
          have Y1 := hidMk (K1.out.below hb3)
          have hz1 := hb3.size
          clear hown1 hgrow1 hb3 hmk
          go_wp2_with (first | (at_builtin; refine wpList_append_strs rfl _ _ rfl wd.heap.size (.slice c1 n0 p1) n0 ([] ++ xs) rfl X1.out b1 n1 r1 ys rfl h1 Y1.out M1.out (by omega) hz1 (n0 + n1) rfl ?_; intro c2 p2 w2 hown2 hgrow2))
          have hb4 : Below wd.heap.size wd w2 := HB3.out.grown hgrow2 hz1 (fun k hk => (X1.out.lt k hk).1)
          have SAB := hidMk (owns_strs (xs := xs ++ ys) (by simpa using hown2) (by simp [h0, h1]))
          have SA := hidMk (K0'.out.below hb4)
          have SB := hidMk (K1.out.below hb4)
          have HB4 := hidMk (HB2.out.trans (hb4.mono HB2.out.size))
          clear hown2 hgrow2 hb4 hz1 X1 Y1 HB3 K0' K1
          refine (newZip c2 (n0 + n1) p2 (xs ++ ys) w2 (by simp [h0, h1]) (by omega) SAB.out).mono ?_
          rintro e w3 ⟨rfl, d1, l1, F1, zr1, bb1⟩
          have Q1 := hidMk zr1
          have SA2 := hidMk (SA.out.below bb1)
          have SB2 := hidMk (SB.out.below bb1)
          have SAB2 := hidMk (SAB.out.below bb1)
          have HB5 := hidMk (HB4.out.trans (bb1.mono HB4.out.size))
          clear zr1 bb1 SA SB SAB HB4
          obtain ⟨y1, hy1⟩ : ∃ y, w2.heap.size = y := ⟨_, rfl⟩
          rw [hy1] at Q1 ⊢
          clear hy1
          go_wp2_with fail
          refine (newZip b0 n0 r0 xs w3 h0 (by omega) SA2.out).mono ?_
          rintro e w4 ⟨rfl, d2, l2, F2, zr2, bb2⟩
          have Q2 := hidMk zr2
          have Q12 := hidMk (Q1.out.below bb2)
          have SB3 := hidMk (SB2.out.below bb2)
          have SAB3 := hidMk (SAB2.out.below bb2)
          have HB6 := hidMk (HB5.out.trans (bb2.mono HB5.out.size))
          clear zr2 bb2 SA2 SB2 SAB2 HB5 Q1
          obtain ⟨y2, hy2⟩ : ∃ y, w3.heap.size = y := ⟨_, rfl⟩
          rw [hy2] at Q2 ⊢
          clear hy2
          go_wp2_with fail
          refine (newZip b1 n1 r1 ys w4 h1 (by omega) SB3.out).mono ?_
          rintro e w5 ⟨rfl, d3, l3, F3, zr3, bb3⟩
          have ZB := hidMk zr3
          have ZAB := hidMk (Q12.out.below bb3)
          have ZA := hidMk (Q2.out.below bb3)
          have SAB4 := hidMk (SAB3.out.below bb3)
          have HB7 := hidMk (HB6.out.trans (bb3.mono HB6.out.size))
          clear zr3 bb3 SB3 SAB3 HB6 Q12 Q2
          obtain ⟨y3, hy3⟩ : ∃ y, w4.heap.size = y := ⟨_, rfl⟩
          rw [hy3] at ZB ⊢
          clear hy3
          obtain ⟨IAB, hAB⟩ : ∃ J, ix nm (xs ++ ys) = J := ⟨_, rfl⟩
          obtain ⟨IA, hA⟩ : ∃ J, ix nm xs = J := ⟨_, rfl⟩
          obtain ⟨IB, hB⟩ : ∃ J, ix nm ys = J := ⟨_, rfl⟩
          have EAB := hidMk hAB
          have EA := hidMk hA
          have EB := hidMk hB
          have EJ := hidMk (ix_append nm xs ys)
          clear hAB hA hB
          go_wp2_with fail
          refine (named_eq y1 (n0 + n1) l1 d1 F1 (xs ++ ys) nm IAB _ (by omega) ZAB.out EAB.out).mono ?_
          rintro e wx ⟨rfl, hwx⟩
          have hwx2 := hwx.symm
          subst hwx2
          clear hwx
          go_wp2_with fail
          refine (named_eq y2 n0 l2 d2 F2 xs nm IA _ (by omega) ZA.out EA.out).mono ?_
          rintro e wx ⟨rfl, hwx⟩
          have hwx2 := hwx.symm
          subst hwx2
          clear hwx
          go_wp2_with fail
          refine (named_eq y3 n1 l3 d3 F3 ys nm IB _ (by omega) ZB.out EB.out).mono ?_
          rintro e wx ⟨rfl, hwx⟩
          have hwx2 := hwx.symm
          subst hwx2
          clear hwx
          go_upto_block 0 with fail
          go_cut [17, 18] (fun s _ wz => s = .int .i64 (ixInt IAB) ∧ wz = w5)
          case first =>
            have cz := ZAB.out.cell
            cases IAB with
            | none =>
              go_wp2_with fail
              go_loop [17, 18] (fun s i => s = .int .i64 (-1) ∧ ∃ k : Nat, i = .int .i64 k ∧ k ≤ n0 + n1) (fun _ i => (n0 + n1) - (intOf i).toNat)
              case atStart => exact ⟨rfl, 0, rfl, by omega⟩
              case round =>
                obtain ⟨rfl, k, rfl, hk⟩ := hrel
                by_cases hlt : k < n0 + n1
                · have k0 : (0 : Int) ≤ (k : Int) := by omega
                  have k1 : (k : Int) < ((n0 + n1 : Nat) : Int) := by omega
                  obtain ⟨gz, hdz, hcz⟩ := ZAB.out.row (by omega)
                  have ck := hcz k hlt
                  have qn : (binOp .eql 31 (hp (F1 k)) (ptrOf F1 none)).run Try.prog w5 = .ok (.bool false) w5 := run_eql31_nil w5 ⟨F1 k, 0, none⟩
                  clear hcz
                  go_wp2_with fail
                  go_round
                  case rel => exact ⟨rfl, k + 1, by go_num, by omega⟩
                  case measure => simp [intOf]; omega
                · have hkn : k = n0 + n1 := by omega
                  subst hkn
                  go_wp2_with fail
                  go_meet
                  case rel => exact ⟨rfl, rfl⟩
            | some t =>
              have ht : t < n0 + n1 := by have := (ix_lt EAB.out).1; simp [h0, h1] at this; omega
              obtain ⟨gz, hdz, hcz⟩ := ZAB.out.row (by omega)
              have HCZ := hidMk hcz
              clear hcz
              go_wp2_with fail
              go_loop [17, 18] (fun s i => s = .int .i64 (-1) ∧ ∃ k : Nat, i = .int .i64 k ∧ k ≤ t) (fun _ i => t + 1 - (intOf i).toNat)
              case atStart => exact ⟨rfl, 0, rfl, by omega⟩
              case round =>
                obtain ⟨rfl, k, rfl, hk⟩ := hrel
                have k0 : (0 : Int) ≤ (k : Int) := by omega
                have k1 : (k : Int) < ((n0 + n1 : Nat) : Int) := by omega
                have ck := HCZ.out k (by omega)
                have qe : (binOp .eql 31 (hp (F1 k)) (ptrOf F1 (some t))).run Try.prog w5 = .ok (.bool (decide (k = t))) w5 := ZAB.out.eql k t (by omega) ht
                by_cases hkt : k = t
                · rw [show decide (k = t) = true from by simpa using hkt] at qe
                  have RK : Hid ((k : Int) = (t : Int)) := hidMk (by omega)
                  clear hkt
                  go_wp2_with fail
                  go_meet
                  case rel => exact ⟨by rw [RK.out]; rfl, rfl⟩
                · rw [show decide (k = t) = false from by simpa using hkt] at qe
                  have hk2 : k < t := by omega
                  clear hkt
                  go_wp2_with fail
                  go_round
                  case rel => exact ⟨rfl, k + 1, by go_num, by omega⟩
                  case measure => simp [intOf]; omega
          case rest =>
            obtain ⟨rfl, hwz⟩ := hcut
            have hwz2 := hwz.symm
            subst hwz2
            clear hwz
            go_upto_block 2 with fail
            go_cut [19, 20] (fun s _ wz => s = .int .i64 (ixInt IA) ∧ wz = w5)
            case first =>
              have cz := ZA.out.cell
              cases IA with
              | none =>
                go_wp2_with fail
                go_loop [19, 20] (fun s i => s = .int .i64 (-1) ∧ ∃ k : Nat, i = .int .i64 k ∧ k ≤ n0) (fun _ i => (n0) - (intOf i).toNat)
                case atStart => exact ⟨rfl, 0, rfl, by omega⟩
                case round =>
                  obtain ⟨rfl, k, rfl, hk⟩ := hrel
                  by_cases hlt : k < n0
                  · have k0 : (0 : Int) ≤ (k : Int) := by omega
                    have k1 : (k : Int) < ((n0 : Nat) : Int) := by omega
                    obtain ⟨gz, hdz, hcz⟩ := ZA.out.row (by omega)
                    have ck := hcz k hlt
                    have qn : (binOp .eql 31 (hp (F2 k)) (ptrOf F2 none)).run Try.prog w5 = .ok (.bool false) w5 := run_eql31_nil w5 ⟨F2 k, 0, none⟩
                    clear hcz
                    go_wp2_with fail
                    go_round
                    case rel => exact ⟨rfl, k + 1, by go_num, by omega⟩
                    case measure => simp [intOf]; omega
                  · have hkn : k = n0 := by omega
                    subst hkn
                    go_wp2_with fail
                    go_meet
                    case rel => exact ⟨rfl, rfl⟩
              | some t =>
                have ht : t < n0 := by have := (ix_lt EA.out).1; simp [h0] at this; omega
                obtain ⟨gz, hdz, hcz⟩ := ZA.out.row (by omega)
                have HCZ := hidMk hcz
                clear hcz
                go_wp2_with fail
                go_loop [19, 20] (fun s i => s = .int .i64 (-1) ∧ ∃ k : Nat, i = .int .i64 k ∧ k ≤ t) (fun _ i => t + 1 - (intOf i).toNat)
                case atStart => exact ⟨rfl, 0, rfl, by omega⟩
                case round =>
                  obtain ⟨rfl, k, rfl, hk⟩ := hrel
                  have k0 : (0 : Int) ≤ (k : Int) := by omega
                  have k1 : (k : Int) < ((n0 : Nat) : Int) := by omega
                  have ck := HCZ.out k (by omega)
                  have qe : (binOp .eql 31 (hp (F2 k)) (ptrOf F2 (some t))).run Try.prog w5 = .ok (.bool (decide (k = t))) w5 := ZA.out.eql k t (by omega) ht
                  by_cases hkt : k = t
                  · rw [show decide (k = t) = true from by simpa using hkt] at qe
                    have RK : Hid ((k : Int) = (t : Int)) := hidMk (by omega)
                    clear hkt
                    go_wp2_with fail
                    go_meet
                    case rel => exact ⟨by rw [RK.out]; rfl, rfl⟩
                  · rw [show decide (k = t) = false from by simpa using hkt] at qe
                    have hk2 : k < t := by omega
                    clear hkt
                    go_wp2_with fail
                    go_round
                    case rel => exact ⟨rfl, k + 1, by go_num, by omega⟩
                    case measure => simp [intOf]; omega
            case rest =>
              obtain ⟨rfl, hwz⟩ := hcut
              have hwz2 := hwz.symm
              subst hwz2
              clear hwz
              go_upto_block 4 with fail
              go_cut [21, 22] (fun s _ wz => s = .int .i64 (ixInt IB) ∧ wz = w5)
              case first =>
                have cz := ZB.out.cell
                cases IB with
                | none =>
                  go_wp2_with fail
                  go_loop [21, 22] (fun s i => s = .int .i64 (-1) ∧ ∃ k : Nat, i = .int .i64 k ∧ k ≤ n1) (fun _ i => (n1) - (intOf i).toNat)
                  case atStart => exact ⟨rfl, 0, rfl, by omega⟩
                  case round =>
                    obtain ⟨rfl, k, rfl, hk⟩ := hrel
                    by_cases hlt : k < n1
                    · have k0 : (0 : Int) ≤ (k : Int) := by omega
                      have k1 : (k : Int) < ((n1 : Nat) : Int) := by omega
                      obtain ⟨gz, hdz, hcz⟩ := ZB.out.row (by omega)
                      have ck := hcz k hlt
                      have qn : (binOp .eql 31 (hp (F3 k)) (ptrOf F3 none)).run Try.prog w5 = .ok (.bool false) w5 := run_eql31_nil w5 ⟨F3 k, 0, none⟩
                      clear hcz
                      go_wp2_with fail
                      go_round
                      case rel => exact ⟨rfl, k + 1, by go_num, by omega⟩
                      case measure => simp [intOf]; omega
                    · have hkn : k = n1 := by omega
                      subst hkn
                      go_wp2_with fail
                      go_meet
                      case rel => exact ⟨rfl, rfl⟩
                | some t =>
                  have ht : t < n1 := by have := (ix_lt EB.out).1; simp [h1] at this; omega
                  obtain ⟨gz, hdz, hcz⟩ := ZB.out.row (by omega)
                  have HCZ := hidMk hcz
                  clear hcz
                  go_wp2_with fail
                  go_loop [21, 22] (fun s i => s = .int .i64 (-1) ∧ ∃ k : Nat, i = .int .i64 k ∧ k ≤ t) (fun _ i => t + 1 - (intOf i).toNat)
                  case atStart => exact ⟨rfl, 0, rfl, by omega⟩
                  case round =>
                    obtain ⟨rfl, k, rfl, hk⟩ := hrel
                    have k0 : (0 : Int) ≤ (k : Int) := by omega
                    have k1 : (k : Int) < ((n1 : Nat) : Int) := by omega
                    have ck := HCZ.out k (by omega)
                    have qe : (binOp .eql 31 (hp (F3 k)) (ptrOf F3 (some t))).run Try.prog w5 = .ok (.bool (decide (k = t))) w5 := ZB.out.eql k t (by omega) ht
                    by_cases hkt : k = t
                    · rw [show decide (k = t) = true from by simpa using hkt] at qe
                      have RK : Hid ((k : Int) = (t : Int)) := hidMk (by omega)
                      clear hkt
                      go_wp2_with fail
                      go_meet
                      case rel => exact ⟨by rw [RK.out]; rfl, rfl⟩
                    · rw [show decide (k = t) = false from by simpa using hkt] at qe
                      have hk2 : k < t := by omega
                      clear hkt
                      go_wp2_with fail
                      go_round
                      case rel => exact ⟨rfl, k + 1, by go_num, by omega⟩
                      case measure => simp [intOf]; omega
              case rest =>
                obtain ⟨rfl, hwz⟩ := hcut
                have hwz2 := hwz.symm
                subst hwz2
                clear hwz
                have HI : Hid (IAB = joined n0 IA IB) := hidMk (by rw [← EAB.out, EJ.out, EA.out, EB.out, h0]; cases IA <;> rfl)
                have HAt : Hid (∀ t, IAB = some t → t < n0 + n1 ∧ w5.cell? ⟨F1 t, 0, none⟩ = some (.string nm)) := hidMk (fun t ht => by
                  have ⟨e1, e2⟩ := ix_lt (EAB.out.trans ht)
                  have e3 : t < n0 + n1 := by simp [h0, h1] at e1; omega
                  refine ⟨e3, ?_⟩
                  have := ZAB.out.files t e3
                  rw [e2] at this
                  simp [World.cell?, this, fileCells])
                have F18 := hidMk (first_eq c2 (n0 + n1) p2 (xs ++ ys) nm IAB w5 (by simp [h0, h1]) (by omega) SAB4.out EAB.out)
                have LA : Hid (∀ i, IA = some i → i < n0) := hidMk (fun i hi => by have := (ix_lt (EA.out.trans hi)).1; omega)
                have LB : Hid (∀ i, IB = some i → i < n1) := hidMk (fun i hi => by have := (ix_lt (EB.out.trans hi)).1; omega)
                clear EAB EA EB EJ ZAB ZA ZB SAB4
                have same : (nm.toList == nm.toList) = true := by simp
                cases IA with
                | some i =>
                  have hi := LA.out i rfl
                  have hI : IAB = some i := HI.out
                  subst hI
                  obtain ⟨_, cN⟩ := HAt.out i rfl
                  clear HI HAt LA
                  have eA := run_eql31_nil w5 ⟨F2 i, 0, none⟩
                  have eAB := run_eql31_nil w5 ⟨F1 i, 0, none⟩
                  have lA : decide ((i : Int) < 0) = false := by simp
                  have gA : decide (0 ≤ (i : Int)) = true := by simp
                  cases IB with
                  | some j =>
                    have eB := run_eql31_nil w5 ⟨F3 j, 0, none⟩
                    have lB : decide ((j : Int) < 0) = false := by simp
                    simp only [ptrOf, ixInt, hp]
                    go_wp2_with fail
                    refine (F18.out).mono ?_
                    rintro e wx ⟨rfl, hwx⟩
                    have hwx2 := hwx.symm
                    subst hwx2
                    clear hwx
                    simp only [ixInt]
                    go_wp2_with fail
                    go_ret
                    exact ⟨by simp, HB7.out⟩
                  | none =>
                    have eB := run_eql31_nilnil w5
                    simp only [ptrOf, ixInt, hp]
                    go_wp2_with fail
                    refine (F18.out).mono ?_
                    rintro e wx ⟨rfl, hwx⟩
                    have hwx2 := hwx.symm
                    subst hwx2
                    clear hwx
                    simp only [ixInt]
                    go_wp2_with fail
                    go_ret
                    exact ⟨by simp, HB7.out⟩
                | none =>
                  have eA := run_eql31_nilnil w5
                  cases IB with
                  | some j =>
                    have hj := LB.out j rfl
                    have hI : IAB = some (j + n0) := HI.out
                    subst hI
                    obtain ⟨_, cN⟩ := HAt.out (j + n0) rfl
                    clear HI HAt LB
                    have eB := run_eql31_nil w5 ⟨F3 j, 0, none⟩
                    have eAB := run_eql31_nil w5 ⟨F1 (j + n0), 0, none⟩
                    have lB : decide ((j : Int) < 0) = false := by simp
                    have gB : decide (0 ≤ (j : Int)) = true := by simp
                    have lAB : decide (((j + n0 : Nat) : Int) < 0) = false := by simp; omega
                    have nAB : (((j + n0 : Nat) : Int) != (n0 : Int) + (j : Int)) = false := by simp; omega
                    simp only [ptrOf, ixInt, hp]
                    go_wp2_with fail
                    refine (F18.out).mono ?_
                    rintro e wx ⟨rfl, hwx⟩
                    have hwx2 := hwx.symm
                    subst hwx2
                    clear hwx
                    simp only [ixInt]
                    go_wp2_with fail
                    go_ret
                    exact ⟨by simp, HB7.out⟩
                  | none =>
                    have hI : IAB = none := HI.out
                    subst hI
                    clear HI HAt
                    have nAB := run_neq31_nilnil w5
                    simp only [ptrOf, ixInt, hp]
                    go_wp2_with fail
                    refine (F18.out).mono ?_
                    rintro e wx ⟨rfl, hwx⟩
                    have hwx2 := hwx.symm
                    subst hwx2
                    clear hwx
                    simp only [ixInt]
                    go_wp2_with fail
                    go_ret
                    exact ⟨by simp, HB7.out⟩
end Go.Proofs.Qxb6616617a
