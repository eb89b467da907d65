import Derived.Test.Qxb6616617aCutAny
import Derived.Deep.DeepCutAuto
import Derived.Deep.CutBlock
namespace Go.Proofs.Qxb6616617a
open Go.RowKit

/-- The first place of 'x' when it is put in at 'p'. -/
def putIn (p : Nat) : Option Nat → Nat
  | some i => if i < p then i else p
  | none => p

theorem ix_insert (x : ByteArray) : ∀ (xs : List ByteArray) (p : Nat), p ≤ xs.length → ix x ((xs.take p ++ [x]) ++ xs.drop p) = some (putIn p (ix x xs))
  | xs, 0, _ => by cases h : ix x xs <;> simp [ix, putIn]
  | [], p + 1, h => by simp at h
  | y :: r, p + 1, h => by
    have ih := ix_insert x r p (by simpa using h)
    by_cases e : y = x
    · simp [ix, e, putIn]
    · simp only [List.take_succ_cons, List.drop_succ_cons, List.cons_append, ix, if_neg e, ih, Option.map_some, Option.some.injEq]
      cases h2 : ix x r with
      | none => simp [putIn]
      | some i =>
        simp only [Option.map_some, putIn]
        by_cases hi : i < p
        · rw [if_pos hi, if_pos (by omega)]
        · rw [if_neg hi, if_neg (by omega)]

/-- Where a copy lies: nil, or at the beginning of a block. -/
def AtTop (a : Option Addr) (n : Nat) : Prop := (a = none ∧ n = 0) ∨ ∃ g, a = some ⟨g, 0, none⟩
theorem atTop_nil {a : Option Addr} {n : Nat} (h : AtTop a n) : a = none → n = 0 ∧ n = 0 := fun e => by
  rcases h with ⟨_, h⟩ | ⟨g, h⟩
  · exact ⟨h, h⟩
  · rw [e] at h; cases h

theorem size9 (w : World) : (sizeOf (Try.prog.elem 25)).run Try.prog w = .ok 1 w := by
  have h : Try.prog.elem 25 = 9 := by kernel_rfl
  obtain ⟨i, hi, _, hs, _⟩ := info_parts info9
  simp [sizeOf, typeInfo, h, hi, hs]

theorem under25 : Try.prog.underlying 25 = some (.slice (Try.prog.elem 25)) := by
  have h : Try.prog.elem 25 = 9 := by kernel_rfl
  rw [h]; exact Try.underlying25

theorem slice_hi (a : Option Addr) (n p : Nat) (ha : AtTop a n) (hp : p ≤ n) (w : World) :
    (Instr.slice 25 (.slice a n n) none (some (.int .i64 (p : Int))) none).run Try.prog w = .ok (.slice a p n) w := by
  rw [run_slice_h w 25 a n n under25 .i64 (p : Int) (by omega) (by omega), size9]
  rcases ha with ⟨rfl, rfl⟩ | ⟨g, rfl⟩
  · simp [Result.andThen, sliced]
  · simp [Result.andThen, sliced, Addr.add]

theorem slice_lo (a : Option Addr) (n p : Nat) (ha : AtTop a n) (hp : p ≤ n) : ∃ a', (∀ w, (Instr.slice 25 (.slice a n n) (some (.int .i64 (p : Int))) none none).run Try.prog w = .ok (.slice a' (n - p) (n - p)) w) ∧ (a' = none → n - p = 0 ∧ n - p = 0) ∧
    ∀ (w : World) (xs : List ByteArray), xs.length = n → StrRow w a xs → StrRow w a' (xs.drop p) := by
  have e := fun w => run_slice_l w 25 a n n under25 .i64 (p : Int) (by omega) (by omega)
  by_cases hn : n = p
  · refine ⟨a, fun w => ?_, fun _ => by omega, fun w xs hx _ hpos => ?_⟩
    · rw [e w, size9]; simp [Result.andThen, sliced, hn]
    · simp at hpos; omega
  · rcases ha with ⟨rfl, rfl⟩ | ⟨g, rfl⟩
    · omega
    · refine ⟨some ⟨g, p, none⟩, fun w => ?_, (fun h => by cases h), fun w xs hx hr hpos => ?_⟩
      · rw [e w, size9]; simp [Result.andThen, sliced, hn, Addr.add]; omega
      · obtain ⟨b, o, hb, hc⟩ := hr (by omega)
        injection hb with hb
        injection hb with hb1 hb2
        subst hb1; subst hb2
        refine ⟨g, p, rfl, fun j hj => ?_⟩
        simp at hj
        have := hc (p + j) (by omega)
        rw [Nat.zero_add] at this
        rw [this]
        simp [nth, List.getD_eq_getElem?_getD]

theorem strRow_take {w : World} {a : Option Addr} {xs : List ByteArray} (h : StrRow w a xs) (p : Nat) : StrRow w a (xs.take p) := fun hp => by
  obtain ⟨b, o, ha, hc⟩ := h (by simp at hp; omega)
  refine ⟨b, o, ha, fun j hj => ?_⟩
  simp at hj
  rw [hc j (by omega)]
  simp [nth, List.getD_eq_getElem?_getD, List.getElem?_take_of_lt (show j < p by omega)]

set_option maxRecDepth 100000 in
set_option maxHeartbeats 4000000 in
theorem law6_main (a0 : Option Addr) (n0 q0 : Nat) (xs : List ByteArray) (nm : ByteArray) (p : Nat) (w : World) (h0 : xs.length = n0) (hc0 : StrRow w a0 xs)
    (z0 : a0 = none → n0 = 0 ∧ q0 = 0) (g0 : n0 ≤ 65536) (g2 : nm.size ≤ 1048576) (gp : p ≤ n0) :
    Calls Try.prog 6 #[.slice a0 n0 q0, .string nm, .int .i64 (p : Int)] w fun e w' => e = .returned (.bool true) ∧ Below w.heap.size w w' := by
  have HC0 := hidMk hc0
  have i0 : decide ((65536 : Int) < (n0 : Int)) = false := by simp; omega
  have i2 : decide ((1048576 : Int) < (nm.size : Int)) = false := by simp; omega
  have j0 : decide ((p : Int) < 0) = false := by simp
  have j1 : decide ((n0 : Int) < (p : Int)) = false := by simp; omega
  clear hc0
  have HZ0 := hidMk z0
  clear z0
  have HI9 : Hid ((Try.prog.info? 9).map (·.size) = some 1) := hidMk (by obtain ⟨i, hi, _, hs, _⟩ := info_parts info9; rw [hi]; simp [hs])
  have q25 : ∀ (w : World) (a : Option Addr) (n c : Nat), (binOp .neq 25 (.slice a n c) (.slice none 0 0)).run Try.prog w = .ok (.bool (!a.isNone)) w := fun w a n c => run_neq_slice_nil_any w 25 9 a n c 0 0 Try.underlying25
  go_enter Try.func6, Try.ntmps6
  go_wp2_with fail
  refine (bytes19_any a0 n0 q0 xs nm (p : Int) _ h0 HC0.out).mono ?_
  rintro e w' ⟨⟨b, rfl⟩, hw⟩
  have hw2 := hw.symm
  subst hw2
  clear hw
  cases b
  · go_wp2_with fail
    go_ret
    exact ⟨rfl, Below.refl _ _⟩
  · go_upto_if 32 with fail
    go_cut [0, 7] (fun s0 _ wc => ∃ a, s0 = .slice a n0 n0 ∧ StrRow wc a xs ∧ Below w.heap.size w wc ∧ AtTop a n0)
    case first =>
      cases a0 with
      | none =>
        obtain ⟨e1, e2⟩ := HZ0.out rfl
        go_wp2_with fail
        go_meet
        case rel => exact ⟨none, by rw [e1], HC0.out, Below.refl _ _, .inl ⟨rfl, e1⟩⟩
      | some x =>
        have hmk := make_len w n0 (by omega)
        go_wp2_with (first | (refine wpList_copy_splice rfl _ _ 25 25 rfl 9 Try.underlying25 (by rw [HI9.out]) _ _ n0 n0 n0 q0 rfl rfl w.heap.size 0 (blanks n0) 9 (heap_alloc_new w _) (strs xs) (by simp [strs, h0]) (copy_pos w x xs HC0.out _) (by rw [blanks_length]; simp [strs, h0]) (strs_one xs) w.heap.size w ((Below.refl _ w).alloc (Nat.le_refl _) _) (Nat.le_refl _) ?_; intro w2 hblk hbel))
        go_meet
        case rel => exact ⟨some ⟨w.heap.size, 0, none⟩, rfl, strRow_of_block hblk.out (fun j hj => splice_get xs _ j hj), hbel, .inr ⟨_, rfl⟩⟩
    case rest =>
      obtain ⟨b0, rfl, k0, hb1, m0⟩ := hcut
      have K0' := hidMk k0
      have HB2 := hidMk hb1
      have M0 := hidMk m0
      clear k0 hb1 m0
      rename World => wd
      go_wp2_with fail
      refine (addStr_any 0 nm _ (by omega) (by omega)).mono ?_
      rintro e wx ⟨⟨t0, rfl, t00, t01⟩, hwx⟩
      have hwx2 := hwx.symm
      subst hwx2
      clear hwx
      go_wp2_with fail
      refine (addStrs_eq t0 b0 n0 n0 xs _ h0 g0 K0'.out (by omega) (by omega)).mono ?_
      rintro e wx ⟨⟨t2, rfl, t20, t21⟩, hwx⟩
      have hwx2 := hwx.symm
      subst hwx2
      clear hwx
      clear t00 t01
      by_cases ht : (1048576 : Int) < t2
      · have hd : decide ((1048576 : Int) < t2) = true := by simpa using ht
        go_wp2_with fail
        go_ret
        exact ⟨rfl, HB2.out⟩
      · have hd : decide ((1048576 : Int) < t2) = false := by simpa using ht
        clear ht
        have hmk := make_cap wd (n0 + 1) ((n0 : Int) + 1) (by omega) (by omega)
        have sh := slice_hi b0 n0 p M0.out gp
        obtain ⟨b1, sl, sl0, slr⟩ := slice_lo b0 n0 p M0.out gp
        have SL0 := hidMk sl0
        have SLR := hidMk slr
        clear sl0 slr
        go_upto_region 17 with (first | (at_builtin; refine wpList_append_strs rfl _ _ rfl wd.heap.size (.slice (some ⟨wd.heap.size, 0, none⟩) 0 (n0 + 1)) 0 [] rfl (World.ownsRow_made wd _ (n0 + 1) (Nat.le_refl _) (by unfold maxLen; omega) (by rw [List.size_toArray, blanks_length]; omega)) b0 p n0 (xs.take p) rfl (by simp; omega) (strRow_take (K0'.out.below ((Below.refl _ wd).alloc (Nat.le_refl _) _)) p) (fun e => by have := (atTop_nil M0.out e).1; omega) (by omega) (by simp) p (by omega) ?_; intro c1 p1 w1 hown1 hgrow1))
        have X1 := hidMk hown1
        have hb3 : Below wd.heap.size wd w1 := ((Below.refl _ wd).alloc (Nat.le_refl _) _).grown hgrow1 (by simp) (fun k hk => by cases hk; exact Nat.le_refl _)
        have HB3 := hidMk hb3
        have hz1 := hb3.size
        clear hown1 hgrow1 hb3 hmk sh
        go_upto_region 18 with (first | (at_builtin; refine wpList_append_strs rfl _ _ rfl wd.heap.size (.slice c1 p p1) p ([] ++ xs.take p) rfl (X1.out.alloc _) (some ⟨w1.heap.size, 0, none⟩) 1 1 [nm] rfl rfl (strRow_of_block (cs := [.string nm]) (heap_alloc_new w1 _) (fun j hj => by simp at hj; subst hj; rfl)) (fun e => by cases e) (by omega) (by simp; omega) (p + 1) rfl ?_; intro c2 p2 w2 hown2 hgrow2))
        have X2 := hidMk hown2
        have hb4 : Below wd.heap.size wd w2 := (HB3.out.alloc hz1 _).grown hgrow2 (by simp; omega) (fun k hk => (X1.out.lt k hk).1)
        have HB4 := hidMk hb4
        have Y2 := hidMk (SLR.out w2 xs h0 (K0'.out.below hb4))
        have hz2 := hb4.size
        clear hown2 hgrow2 hb4 hz1 X1 HB3 SLR
        go_wp2_with (first | (at_builtin; refine wpList_append_strs rfl _ _ rfl wd.heap.size (.slice c2 (p + 1) p2) (p + 1) (([] ++ xs.take p) ++ [nm]) rfl X2.out b1 (n0 - p) (n0 - p) (xs.drop p) rfl (by simp; omega) Y2.out SL0.out (by omega) hz2 (n0 + 1) (by omega) ?_; intro c3 p3 w3 hown3 hgrow3))
        have hb5 : Below wd.heap.size wd w3 := HB4.out.grown hgrow3 hz2 (fun k hk => (X2.out.lt k hk).1)
        obtain ⟨ws, hws⟩ : ∃ l, (xs.take p ++ [nm]) ++ xs.drop p = l := ⟨_, rfl⟩
        have hwl : ws.length = n0 + 1 := by rw [← hws]; simp; omega
        have SAB := hidMk (owns_strs (xs := ws) (by rw [← hws]; simpa using hown3) hwl)
        have SA := hidMk (K0'.out.below hb5)
        have HB5 := hidMk (HB2.out.trans (hb5.mono HB2.out.size))
        have EW := hidMk (hws ▸ ix_insert nm xs p (by omega) : ix nm ws = some (putIn p (ix nm xs)))
        clear hown3 hgrow3 hb5 hz2 X2 Y2 HB4 K0' sl hws
        refine (newZip b0 n0 n0 xs w3 h0 (by omega) SA.out).mono ?_
        rintro e w4 ⟨rfl, d1, l1, F1, zr1, bb1⟩
        have Q1 := hidMk zr1
        have SA2 := hidMk (SA.out.below bb1)
        have SAB2 := hidMk (SAB.out.below bb1)
        have HB6 := hidMk (HB5.out.trans (bb1.mono HB5.out.size))
        clear zr1 bb1 SA SAB HB5
        obtain ⟨y1, hy1⟩ : ∃ y, w3.heap.size = y := ⟨_, rfl⟩
        rw [hy1] at Q1 ⊢
        clear hy1
        go_wp2_with fail
        refine (newZip c3 (n0 + 1) p3 ws w4 hwl (by omega) SAB2.out).mono ?_
        rintro e w5 ⟨rfl, d2, l2, F2, zr2, bb2⟩
        have ZB := hidMk zr2
        have ZA := hidMk (Q1.out.below bb2)
        have SA3 := hidMk (SA2.out.below bb2)
        have HB7 := hidMk (HB6.out.trans (bb2.mono HB6.out.size))
        clear zr2 bb2 SA2 SAB2 HB6 Q1
        obtain ⟨y2, hy2⟩ : ∃ y, w4.heap.size = y := ⟨_, rfl⟩
        rw [hy2] at ZB ⊢
        clear hy2
        obtain ⟨IA, hA⟩ : ∃ J, ix nm xs = J := ⟨_, rfl⟩
        rw [hA] at EW
        obtain ⟨IB, hB⟩ : ∃ J, some (putIn p IA) = J := ⟨_, rfl⟩
        rw [hB] at EW
        have EA := hidMk hA
        have EP := hidMk hB
        clear hA hB
        go_wp2_with fail
        refine (named_eq y1 n0 l1 d1 F1 xs nm IA _ (by omega) ZA.out EA.out).mono ?_
        rintro e wx ⟨rfl, hwx⟩
        have hwx2 := hwx.symm
        subst hwx2
        clear hwx
        go_wp2_with fail
        refine (named_eq y2 (n0 + 1) l2 d2 F2 ws nm IB _ (by omega) ZB.out EW.out).mono ?_
        rintro e wx ⟨rfl, hwx⟩
        have hwx2 := hwx.symm
        subst hwx2
        clear hwx
        go_upto_block 0 with fail
        go_cut [14, 15] (fun s _ wz => s = .int .i64 (ixInt IA) ∧ wz = w5)
        case first =>
          have cz := ZA.out.cell
          cases IA with
          | none =>
            go_wp2_with fail
            go_loop [14, 15] (fun s i => s = .int .i64 (-1) ∧ ∃ k : Nat, i = .int .i64 k ∧ k ≤ n0) (fun _ i => (n0) - (intOf i).toNat)
            case atStart => exact ⟨rfl, 0, rfl, by omega⟩
            case round =>
              obtain ⟨rfl, k, rfl, hk⟩ := hrel
              by_cases hlt : k < n0
              · have k0 : (0 : Int) ≤ (k : Int) := by omega
                have k1 : (k : Int) < ((n0 : Nat) : Int) := by omega
                obtain ⟨gz, hdz, hcz⟩ := ZA.out.row (by omega)
                have ck := hcz k hlt
                have qn : (binOp .eql 31 (hp (F1 k)) (ptrOf F1 none)).run Try.prog w5 = .ok (.bool false) w5 := run_eql31_nil w5 ⟨F1 k, 0, none⟩
                clear hcz
                go_wp2_with fail
                go_round
                case rel => exact ⟨rfl, k + 1, by go_num, by omega⟩
                case measure => simp [intOf]; omega
              · have hkn : k = n0 := by omega
                subst hkn
                go_wp2_with fail
                go_meet
                case rel => exact ⟨rfl, rfl⟩
          | some t =>
            have ht : t < n0 := by have := (ix_lt EA.out).1; simp [h0] at this; omega
            obtain ⟨gz, hdz, hcz⟩ := ZA.out.row (by omega)
            have HCZ := hidMk hcz
            clear hcz
            go_wp2_with fail
            go_loop [14, 15] (fun s i => s = .int .i64 (-1) ∧ ∃ k : Nat, i = .int .i64 k ∧ k ≤ t) (fun _ i => t + 1 - (intOf i).toNat)
            case atStart => exact ⟨rfl, 0, rfl, by omega⟩
            case round =>
              obtain ⟨rfl, k, rfl, hk⟩ := hrel
              have k0 : (0 : Int) ≤ (k : Int) := by omega
              have k1 : (k : Int) < ((n0 : Nat) : Int) := by omega
              have ck := HCZ.out k (by omega)
              have qe : (binOp .eql 31 (hp (F1 k)) (ptrOf F1 (some t))).run Try.prog w5 = .ok (.bool (decide (k = t))) w5 := ZA.out.eql k t (by omega) ht
              by_cases hkt : k = t
              · rw [show decide (k = t) = true from by simpa using hkt] at qe
                have RK : Hid ((k : Int) = (t : Int)) := hidMk (by omega)
                clear hkt
                go_wp2_with fail
                go_meet
                case rel => exact ⟨by rw [RK.out]; rfl, rfl⟩
              · rw [show decide (k = t) = false from by simpa using hkt] at qe
                have hk2 : k < t := by omega
                clear hkt
                go_wp2_with fail
                go_round
                case rel => exact ⟨rfl, k + 1, by go_num, by omega⟩
                case measure => simp [intOf]; omega
        case rest =>
          obtain ⟨rfl, hwz⟩ := hcut
          have hwz2 := hwz.symm
          subst hwz2
          clear hwz
          go_upto_block 2 with fail
          go_cut [16, 17] (fun s _ wz => s = .int .i64 (ixInt IB) ∧ wz = w5)
          case first =>
            have cz := ZB.out.cell
            cases IB with
            | none => cases EP.out
            | some t =>
              have ht : t < n0 + 1 := by have := (ix_lt EW.out).1; simp [hwl] at this; omega
              obtain ⟨gz, hdz, hcz⟩ := ZB.out.row (by omega)
              have HCZ := hidMk hcz
              clear hcz
              go_wp2_with fail
              go_loop [16, 17] (fun s i => s = .int .i64 (-1) ∧ ∃ k : Nat, i = .int .i64 k ∧ k ≤ t) (fun _ i => t + 1 - (intOf i).toNat)
              case atStart => exact ⟨rfl, 0, rfl, by omega⟩
              case round =>
                obtain ⟨rfl, k, rfl, hk⟩ := hrel
                have k0 : (0 : Int) ≤ (k : Int) := by omega
                have k1 : (k : Int) < ((n0 + 1 : Nat) : Int) := by omega
                have ck := HCZ.out k (by omega)
                have qe : (binOp .eql 31 (hp (F2 k)) (ptrOf F2 (some t))).run Try.prog w5 = .ok (.bool (decide (k = t))) w5 := ZB.out.eql k t (by omega) ht
                by_cases hkt : k = t
                · rw [show decide (k = t) = true from by simpa using hkt] at qe
                  have RK : Hid ((k : Int) = (t : Int)) := hidMk (by omega)
                  clear hkt
                  go_wp2_with fail
                  go_meet
                  case rel => exact ⟨by rw [RK.out]; rfl, rfl⟩
                · rw [show decide (k = t) = false from by simpa using hkt] at qe
                  have hk2 : k < t := by omega
                  clear hkt
                  go_wp2_with fail
                  go_round
                  case rel => exact ⟨rfl, k + 1, by go_num, by omega⟩
                  case measure => simp [intOf]; omega
          case rest =>
            obtain ⟨rfl, hwz⟩ := hcut
            have hwz2 := hwz.symm
            subst hwz2
            clear hwz
            have LA : Hid (∀ i, IA = some i → i < n0 ∧ w5.cell? ⟨F1 i, 0, none⟩ = some (.string nm)) := hidMk (fun t ht => by
              have ⟨e1, e2⟩ := ix_lt (EA.out.trans ht)
              have e3 : t < n0 := by omega
              refine ⟨e3, ?_⟩
              have := ZA.out.files t e3
              rw [e2] at this
              simp [World.cell?, this, fileCells])
            have LB : Hid (∀ i, IB = some i → i < n0 + 1 ∧ w5.cell? ⟨F2 i, 0, none⟩ = some (.string nm)) := hidMk (fun t ht => by
              have ⟨e1, e2⟩ := ix_lt (EW.out.trans ht)
              have e3 : t < n0 + 1 := by omega
              refine ⟨e3, ?_⟩
              have := ZB.out.files t e3
              rw [e2] at this
              simp [World.cell?, this, fileCells])
            have F18 := hidMk (first_eq b0 n0 n0 xs nm IA w5 h0 (by omega) SA3.out EA.out)
            clear EA EW ZA ZB SA3
            have same : (nm.toList == nm.toList) = true := by simp
            cases IA with
            | none =>
              have hI : IB = some p := EP.out.symm
              subst hI
              obtain ⟨_, cB⟩ := LB.out p rfl
              clear EP LA LB
              have eA := run_eql31_nilnil w5
              have eB := run_eql31_nil w5 ⟨F2 p, 0, none⟩
              have nA := run_neq31_nilnil w5
              simp only [ptrOf, ixInt, hp]
              go_wp2_with fail
              refine (F18.out).mono ?_
              rintro e wx ⟨rfl, hwx⟩
              have hwx2 := hwx.symm
              subst hwx2
              clear hwx
              simp only [ixInt]
              go_wp2_with fail
              go_ret
              exact ⟨by simp, HB7.out⟩
            | some i =>
              obtain ⟨_, cA⟩ := LA.out i rfl
              have eA := run_eql31_nil w5 ⟨F1 i, 0, none⟩
              have nA := run_neq31_nil w5 ⟨F1 i, 0, none⟩
              have lA : decide ((i : Int) < 0) = false := by simp
              have kA : decide (0 ≤ (i : Int)) = true := by simp
              by_cases hip : i < p
              · have hI : IB = some i := by rw [← EP.out, putIn, if_pos hip]
                subst hI
                obtain ⟨_, cB⟩ := LB.out i rfl
                clear EP LA LB
                have eB := run_eql31_nil w5 ⟨F2 i, 0, none⟩
                have lip : decide ((i : Int) < (p : Int)) = true := by simp; omega
                simp only [ptrOf, ixInt, hp]
                go_wp2_with fail
                refine (F18.out).mono ?_
                rintro e wx ⟨rfl, hwx⟩
                have hwx2 := hwx.symm
                subst hwx2
                clear hwx
                simp only [ixInt]
                go_wp2_with fail
                go_ret
                exact ⟨by simp, HB7.out⟩
              · have hI : IB = some p := by rw [← EP.out, putIn, if_neg hip]
                subst hI
                obtain ⟨_, cB⟩ := LB.out p rfl
                clear EP LA LB
                have eB := run_eql31_nil w5 ⟨F2 p, 0, none⟩
                have lip : decide ((i : Int) < (p : Int)) = false := by simp; omega
                simp only [ptrOf, ixInt, hp]
                go_wp2_with fail
                refine (F18.out).mono ?_
                rintro e wx ⟨rfl, hwx⟩
                have hwx2 := hwx.symm
                subst hwx2
                clear hwx
                simp only [ixInt]
                go_wp2_with fail
                go_ret
                exact ⟨by simp, HB7.out⟩
end Go.Proofs.Qxb6616617a
