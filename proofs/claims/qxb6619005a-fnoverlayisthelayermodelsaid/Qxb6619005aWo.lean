import Derived.Test.Qxb6619005aAppL
import Derived.Test.Qxb6619005aGoS
import Derived.Laws.MakeOwn
namespace Go.Proofs.Qxb6619005a
open Go.RowKit

theorem make_room {t e k by' : Nat} (hu : Try.prog.underlying t = some (.slice e)) (h : (Try.prog.info? e).map (fun i => (i.size, i.bytes, i.zero.map (·.cells.size))) = some (k, by', some k)) (n : Nat) (hn : n ≤ 1048576) (hb : by' ≤ 1000) :
    ∃ cur : List Value, cur.length = n * k ∧ ∀ w : World, (Instr.makeSlice t (.int .i64 0) (.int .i64 (n : Int))).run Try.prog w = .ok (.slice (some ⟨w.heap.size, 0, none⟩) 0 n) (w.alloc (.cells cur.toArray e)) := by
  obtain ⟨i, z, hi, hz, hs, hby, hzs⟩ := parts_of h
  refine ⟨(madeCells z.cells (n * k)).toList, by simp [size_madeCells], fun w => ?_⟩
  have hm : (n : Int) * (by' : Int) ≤ 1048576 * 1000 := by
    have : n * by' ≤ 1048576 * 1000 := Nat.mul_le_mul hn hb
    omega
  have := run_make w t e i z hu hi hz .i64 .i64 0 (n : Int) (by omega) (by omega) (by rw [hby]; rw [Int.mul_comm] at hm; omega) (by omega)
  rw [this]
  simp [hs]

theorem arow_one {α : Type} (f : α → List Value) {K e : Nat} {w : World} {b : Nat} {x : α} (h : w.heap[b]? = some (.cells (f x).toArray e (0, 0))) : ARow f K w (some ⟨b, 0, none⟩) [x] := fun _ => ⟨b, 0, rfl, fun i y hy j v hv => by
  have hi : i = 0 := by have := (List.getElem?_eq_some_iff.1 hy).1; simp at this; exact this
  subst hi
  simp at hy
  subst hy
  rw [cell_of_row w b _ _ _ (0, 0) h]
  simpa using hv⟩
theorem grown_below {B : Nat} {w wy w' : World} {row : Option Nat} (h : Below B w wy) (hB : B ≤ wy.heap.size) (hg : wy.grownBy w' row) (hr : ∀ k, row = some k → B ≤ k) : Below B w w' :=
  h.trans ⟨hg.os, hg.tape, hg.output, hg.size, fun k hk => hg.block k (by omega) (fun e => by have := hr k e.symm; omega)⟩

/-- What 'without' answers. -/
def WoPost {α : Type} (f : α → List Value) (K E base : Nat) (l : Sl) (xs : List α) (w : World) (e : Ending) (w' : World) : Prop :=
  ∃ s : Sl, e = .returned (.slice s.a s.n s.c) ∧ w'.ownsRow base E K (.slice s.a s.n s.c) s.n (xs.flatMap f) ∧ Below w.heap.size w w' ∧ ((s = l ∧ w' = w) ∨ ∀ k, (Value.slice s.a s.n s.c).ownBlock = some k → w.heap.size ≤ k)

set_option maxRecDepth 100000 in
set_option maxHeartbeats 8000000 in
theorem withoutRw (l d : Sl) (ls : List Rw) (ds : List Rd) (w : World) (base : Nat) (hown : w.ownsRow base 82 52 (.slice l.a l.n l.c) l.n (ls.flatMap Rw.a)) (hd : ds.length = d.n) (hr : ARow Rd.a 5 w d.a ds) (hm : l.n ≤ 1048576) (hdm : d.n ≤ 1048576) (hbase : base ≤ w.heap.size) :
    Calls Try.prog 15 #[.slice l.a l.n l.c, .slice d.a d.n d.c, .func (.func 16) #[] #[]] w fun e w' => WoPost Rw.a 52 82 base l (ls.filter fun x => !ds.any (·.hits x)) w e w' := by
  obtain ⟨la, ln, lc⟩ := l
  obtain ⟨da, dn, dc⟩ := d
  by_cases h0 : dn = 0
  · subst h0
    have HO := hidMk hown
    have hds : ds = [] := List.eq_nil_of_length_eq_zero hd
    subst hds
    clear hown hr hd
    go_enter Try.func15, Try.ntmps15
    go_wp2_with fail
    go_ret
    have e2 : ∀ p : Rw → Bool, (∀ x, p x = true) → ls.filter p = ls := fun p hp => List.filter_eq_self.2 (fun x _ => hp x)
    exact ⟨⟨la, ln, lc⟩, rfl, by rw [e2 _ (fun _ => rfl)]; exact HO.out, Below.refl _ _, .inl ⟨rfl, rfl⟩⟩
  · have HA := hidMk (owns_arow Rw.a Rw.a_len (by omega) hown)
    have HR := hidMk hr
    have HD := hidMk hd
    have hdn : ¬ ((dn : Int) = 0) := by omega
    have hdn2 : dn ≤ 1048576 := hdm
    have hln2 : ln ≤ 1048576 := hm
    obtain ⟨cur, hcl, hmk⟩ := make_room Try.underlying36 infA82 ln hm (by omega)
    have HW0 : Hid (Below w.heap.size w (w.alloc (.cells cur.toArray 82))) := hidMk ((Below.refl _ w).alloc (Nat.le_refl _) _)
    have HO0 : Hid ((w.alloc (.cells cur.toArray 82)).ownsRow w.heap.size 82 52 (.slice (some ⟨w.heap.size, 0, none⟩) 0 ln) 0 []) := hidMk (World.ownsRow_made w cur.toArray ln (Nat.le_refl _) (by unfold maxLen; omega) (by simpa using hcl))
    have HBA := hidMk hbase
    clear hown hr hd hm hdm hcl hbase
    go_enter Try.func15, Try.ntmps15
    go_wp2_with fail
    go_loopw [22, 7] (fun i v wr => ∃ k : Nat, i = .int .i64 k ∧ k ≤ ln ∧ Below w.heap.size w wr ∧ ∃ cnt, cnt ≤ k ∧ wr.ownsRow w.heap.size 82 52 v cnt (((ls.take k).filter fun x => !ds.any (·.hits x)).flatMap Rw.a)) (fun i _ _ => ln - (intOf i).toNat)
    case atStart => exact ⟨0, rfl, by omega, HW0.out, 0, by omega, by simpa using HO0.out⟩
    case round =>
      obtain ⟨k, rfl, hk, hb, cnt, hcnt, hown⟩ := hrel
      have HB := hidMk hb
      have HOW := hidMk hown
      have hws := hb.size
      clear hb hown
      by_cases hlt : k < ln
      · have k0 : (0 : Int) ≤ (k : Int) := by omega
        have k1 : (k : Int) < (ln : Int) := by omega
        obtain ⟨b0, o0, ha0, hc0⟩ := HA.out.1 (by have := HA.out.2; omega)
        obtain ⟨y, hy⟩ : ∃ y, ls[k]? = some y := ⟨ls[k]'(by have := HA.out.2; omega), by simp⟩
        have R0 := hidMk (rangeAt_below (hc0 k y hy) HB.out (Nat.le_refl _))
        have HY := hidMk hy
        clear hc0 hy
        subst ha0
        obtain ⟨yy, hyy⟩ : ∃ yy, yy = y := ⟨_, rfl⟩
        have HYY := hidMk hyy
        clear hyy
        obtain ⟨x1, x2, x3, x4, x5, x6, x7, x8, x9, x10, x11, x12⟩ := y
        simp only [Rw.a] at R0
        go_upto_block 2 with (first | (refine wpList_load_mid rfl 82 _ rfl b0 (o0 + k * 52) rfl _ _ R0.out Try.underlying82 rfl info82 ?_) | (refine wpList_store_new rfl 82 _ _ rfl _ _ _ rfl _ rfl (by simp) rfl info82 rfl rfl ?_))
        obtain ⟨wx, hwx⟩ : ∃ wx, wx = wr.alloc (.cells #[.int .u8 x1, .int .u8 x2, .float .f64 0, .float .f64 0, .float .f32 0, .float .f32 0, .string ⟨#[]⟩, .int .u16 0, .float .f32 0, .float .f32 0, .int .u16 0, .float .f32 0, .float .f32 0, .int .u16 0, .float .f32 0, .float .f32 0, .bool false, .bool false, .bool false, .int .u8 0, .pointer none, .slice none 0 0, .int .u8 x3, .int .u8 x4, .float .f64 0, .float .f64 0, .float .f32 0, .float .f32 0, .string ⟨#[]⟩, .int .u16 0, .float .f32 0, .float .f32 0, .int .u16 0, .float .f32 0, .float .f32 0, .int .u16 0, .float .f32 0, .float .f32 0, .bool false, .bool false, .bool false, .int .u8 0, .pointer none, .slice none 0 0, .int .u16 x5, .float .f64 x6, .float .f64 x7, .float .f64 x8, .float .f32 x9, .float .f32 x10, .float .f32 x11, .float .f32 x12] 82) := ⟨_, rfl⟩
        rw [← hwx]
        have HBX : Hid (Below wr.heap.size wr wx) := hidMk (by rw [hwx]; exact (Below.refl _ wr).alloc (Nat.le_refl _) _)
        have hxs : wr.heap.size < wx.heap.size := by rw [hwx]; simp
        have HRX : Hid (wx.rangeAt wr.heap.size 0 [.int .u8 x1, .int .u8 x2, .float .f64 0, .float .f64 0, .float .f32 0, .float .f32 0, .string ⟨#[]⟩, .int .u16 0, .float .f32 0, .float .f32 0, .int .u16 0, .float .f32 0, .float .f32 0, .int .u16 0, .float .f32 0, .float .f32 0, .bool false, .bool false, .bool false, .int .u8 0, .pointer none, .slice none 0 0, .int .u8 x3, .int .u8 x4, .float .f64 0, .float .f64 0, .float .f32 0, .float .f32 0, .string ⟨#[]⟩, .int .u16 0, .float .f32 0, .float .f32 0, .int .u16 0, .float .f32 0, .float .f32 0, .int .u16 0, .float .f32 0, .float .f32 0, .bool false, .bool false, .bool false, .int .u8 0, .pointer none, .slice none 0 0, .int .u16 x5, .float .f64 x6, .float .f64 x7, .float .f64 x8, .float .f32 x9, .float .f32 x10, .float .f32 x11, .float .f32 x12]) := hidMk (by rw [hwx]; exact fun j v hv => by rw [cell_of_row _ _ _ _ _ (0, 0) (heap_alloc_new wr _)]; simpa using hv)
        clear hwx
        go_cut [10] from 23 to 36 (fun b wd => b = .bool (ds.any (·.hits yy)) ∧ Below wx.heap.size wx wd)
        case first =>
          go_wp2_with fail
          go_loopw [28, 10] (fun j b w2 => ∃ q : Nat, j = .int .i64 q ∧ q ≤ dn ∧ b = .bool false ∧ Below wx.heap.size wx w2 ∧ Hid (∀ j d, j < q → ds[j]? = some d → d.hits yy = false)) (fun j _ _ => dn - (intOf j).toNat)
          case atStart => exact ⟨0, rfl, by omega, rfl, Below.refl _ _, hidMk (fun j d hj => by omega)⟩
          case round =>
            rename World => w2
            obtain ⟨j, rfl, hj, rfl, hb2, HN⟩ := hrel
            have HB2 := hidMk hb2
            have hs2 := hb2.size
            clear hb2
            by_cases hjt : j < dn
            · have j0 : (0 : Int) ≤ (j : Int) := by omega
              have j1 : (j : Int) < (dn : Int) := by omega
              obtain ⟨b1, o1, ha1, hc1⟩ := HR.out (by have := HD.out; omega)
              obtain ⟨z, hz⟩ : ∃ z, ds[j]? = some z := ⟨ds[j]'(by have := HD.out; omega), by simp⟩
              have HBW2 : Hid (Below w.heap.size w w2) := hidMk (HB.out.trans ((HBX.out.mono (by omega)).trans (HB2.out.mono (by omega))))
              have R1 := hidMk (rangeAt_below (hc1 j z hz) HBW2.out (Nat.le_refl _))
              have HZ := hidMk hz
              clear hc1 hz
              subst ha1
              have HM := hidMk (fun w => rd_matches z yy w)
              obtain ⟨hit, hhit⟩ : ∃ hit, hit = z.hits yy := ⟨_, rfl⟩
              have HH := hidMk hhit
              rw [← hhit] at HM
              rw [HYY.out] at HM
              clear hhit
              have RX : Hid ((w2.alloc (.cells #[.int .u16 z.sf, .int .u8 z.pn, .int .u8 z.pd, .int .u8 z.sn, .int .u8 z.sd] 106)).rangeAt wr.heap.size 0 [.int .u8 x1, .int .u8 x2, .float .f64 0, .float .f64 0, .float .f32 0, .float .f32 0, .string ⟨#[]⟩, .int .u16 0, .float .f32 0, .float .f32 0, .int .u16 0, .float .f32 0, .float .f32 0, .int .u16 0, .float .f32 0, .float .f32 0, .bool false, .bool false, .bool false, .int .u8 0, .pointer none, .slice none 0 0, .int .u8 x3, .int .u8 x4, .float .f64 0, .float .f64 0, .float .f32 0, .float .f32 0, .string ⟨#[]⟩, .int .u16 0, .float .f32 0, .float .f32 0, .int .u16 0, .float .f32 0, .float .f32 0, .int .u16 0, .float .f32 0, .float .f32 0, .bool false, .bool false, .bool false, .int .u8 0, .pointer none, .slice none 0 0, .int .u16 x5, .float .f64 x6, .float .f64 x7, .float .f64 x8, .float .f32 x9, .float .f32 x10, .float .f32 x11, .float .f32 x12]) := hidMk (rangeAt_below (rangeAt_below HRX.out HB2.out (Nat.le_refl _)) ((Below.refl _ w2).alloc (Nat.le_refl _) _) (Nat.le_refl _))
              have RY : Hid ((w2.alloc (.cells #[.int .u16 z.sf, .int .u8 z.pn, .int .u8 z.pd, .int .u8 z.sn, .int .u8 z.sd] 106)).rangeAt w2.heap.size 0 [.int .u16 z.sf, .int .u8 z.pn, .int .u8 z.pd, .int .u8 z.sn, .int .u8 z.sd]) := hidMk (fun j v hv => by rw [cell_of_row _ _ _ _ _ (0, 0) (heap_alloc_new w2 _)]; simpa using hv)
              obtain ⟨y1, y2, y3, y4, y5⟩ := z
              simp only [Rd.a, Rw.a] at R1 HM RX RY
              go_wp2_with (first | (refine wpList_load_mid rfl 106 _ rfl b1 (o1 + j * 5) rfl _ _ R1.out Try.underlying106 rfl info106 ?_) | (refine wpList_store_new rfl 106 _ _ rfl _ _ _ rfl _ rfl (by simp) rfl info106 rfl rfl ?_) | (refine wpList_load_mid rfl 106 _ rfl w2.heap.size 0 rfl _ _ RY.out Try.underlying106 rfl info106 ?_) | (refine wpList_load_mid rfl 82 _ rfl wr.heap.size 0 rfl _ _ RX.out Try.underlying82 rfl info82 ?_))
              refine (HM.out _).mono ?_
              rintro _ w3 ⟨rfl, h3⟩
              have HB3 : Hid (Below wx.heap.size wx w3) := hidMk (HB2.out.trans ((((Below.refl _ w2).alloc (Nat.le_refl _) _).mono hs2).trans (h3.mono (by simp; omega))))
              clear h3
              cases hit
              · go_wp2_with fail
                go_light
                exact ⟨⟨j + 1, by go_num, by omega, rfl, HB3.out, hidMk (miss_step (·.hits yy) HN.out HZ.out HH.out.symm)⟩, by simp [intOf]; omega⟩
              · go_wp2_with fail
                go_meet
                case rel => exact ⟨by rw [any_hit (·.hits yy) HZ.out HH.out.symm], HB3.out⟩
            · have hjn : j = dn := by omega
              subst hjn
              go_wp2_with fail
              go_meet
              case rel => exact ⟨by rw [any_miss (·.hits yy) ds (fun i d _ hd => HN.out i d (by have := (List.getElem?_eq_some_iff.1 hd).1; have := HD.out; omega) hd)], HB2.out⟩
        case rest =>
          obtain ⟨rfl, hb4⟩ := hcut
          rename World => wd
          have HBD : Hid (Below wr.heap.size wr wd) := hidMk (HBX.out.trans (hb4.mono (by omega)))
          have RX : Hid (wd.rangeAt wr.heap.size 0 [.int .u8 x1, .int .u8 x2, .float .f64 0, .float .f64 0, .float .f32 0, .float .f32 0, .string ⟨#[]⟩, .int .u16 0, .float .f32 0, .float .f32 0, .int .u16 0, .float .f32 0, .float .f32 0, .int .u16 0, .float .f32 0, .float .f32 0, .bool false, .bool false, .bool false, .int .u8 0, .pointer none, .slice none 0 0, .int .u8 x3, .int .u8 x4, .float .f64 0, .float .f64 0, .float .f32 0, .float .f32 0, .string ⟨#[]⟩, .int .u16 0, .float .f32 0, .float .f32 0, .int .u16 0, .float .f32 0, .float .f32 0, .int .u16 0, .float .f32 0, .float .f32 0, .bool false, .bool false, .bool false, .int .u8 0, .pointer none, .slice none 0 0, .int .u16 x5, .float .f64 x6, .float .f64 x7, .float .f64 x8, .float .f32 x9, .float .f32 x10, .float .f32 x11, .float .f32 x12]) := hidMk (rangeAt_below HRX.out hb4 (Nat.le_refl _))
          have hds := hb4.size
          clear hb4
          obtain ⟨hit, hhit⟩ : ∃ hit, hit = ds.any (·.hits yy) := ⟨_, rfl⟩
          have HH := hidMk hhit
          rw [← hhit]
          clear hhit
          have HTK : Hid (ls.take (k + 1) = ls.take k ++ [yy]) := hidMk (by rw [List.take_add_one, HY.out, HYY.out]; rfl)
          cases hit
          · have HBY : Hid (Below wd.heap.size wd (wd.alloc (.cells #[.int .u8 x1, .int .u8 x2, .float .f64 0, .float .f64 0, .float .f32 0, .float .f32 0, .string ⟨#[]⟩, .int .u16 0, .float .f32 0, .float .f32 0, .int .u16 0, .float .f32 0, .float .f32 0, .int .u16 0, .float .f32 0, .float .f32 0, .bool false, .bool false, .bool false, .int .u8 0, .pointer none, .slice none 0 0, .int .u8 x3, .int .u8 x4, .float .f64 0, .float .f64 0, .float .f32 0, .float .f32 0, .string ⟨#[]⟩, .int .u16 0, .float .f32 0, .float .f32 0, .int .u16 0, .float .f32 0, .float .f32 0, .int .u16 0, .float .f32 0, .float .f32 0, .bool false, .bool false, .bool false, .int .u8 0, .pointer none, .slice none 0 0, .int .u16 x5, .float .f64 x6, .float .f64 x7, .float .f64 x8, .float .f32 x9, .float .f32 x10, .float .f32 x11, .float .f32 x12] 82))) := hidMk ((Below.refl _ wd).alloc (Nat.le_refl _) _)
            have hsz : wr.heap.size ≤ wd.heap.size := HBD.out.size
            obtain ⟨v', w', hap, h1, h2, h3, h4, _⟩ := app_any Rw.a Rw.a_len Rw.a_one Try.underlying36 infA82 (by omega) (by omega) (wd.alloc (.cells #[.int .u8 x1, .int .u8 x2, .float .f64 0, .float .f64 0, .float .f32 0, .float .f32 0, .string ⟨#[]⟩, .int .u16 0, .float .f32 0, .float .f32 0, .int .u16 0, .float .f32 0, .float .f32 0, .int .u16 0, .float .f32 0, .float .f32 0, .bool false, .bool false, .bool false, .int .u8 0, .pointer none, .slice none 0 0, .int .u8 x3, .int .u8 x4, .float .f64 0, .float .f64 0, .float .f32 0, .float .f32 0, .string ⟨#[]⟩, .int .u16 0, .float .f32 0, .float .f32 0, .int .u16 0, .float .f32 0, .float .f32 0, .int .u16 0, .float .f32 0, .float .f32 0, .bool false, .bool false, .bool false, .int .u8 0, .pointer none, .slice none 0 0, .int .u16 x5, .float .f64 x6, .float .f64 x7, .float .f64 x8, .float .f32 x9, .float .f32 x10, .float .f32 x11, .float .f32 x12] 82)) w.heap.size u7 cnt ((ls.take k).filter fun x => !ds.any (·.hits x)) (owns_below (owns_below HOW.out HBD.out) HBY.out) (some ⟨wd.heap.size, 0, none⟩) 1 1 [yy] rfl (arow_one Rw.a (by rw [HYY.out]; exact heap_alloc_new wd _)) (fun h => by cases h) (by omega) (by simp; omega) 36
            have HAP := hidMk hap
            have H1 := hidMk h1
            have HBE : Hid (Below w.heap.size w w') := hidMk (grown_below ((HB.out.trans (HBD.out.mono hws)).trans (HBY.out.mono (by omega))) (by simp; omega) h2 (fun g hg => (HOW.out.lt g hg).1))
            clear hap h1 h2 h3 h4
            go_wp2_with (first | (refine wpList_load_mid rfl 82 _ rfl wr.heap.size 0 rfl _ _ RX.out Try.underlying82 rfl info82 ?_) | (refine wpList_append_run rfl _ _ 36 rfl _ _ rfl rfl _ _ HAP.out ?_))
            go_light
            refine ⟨⟨k + 1, by go_num, by omega, HBE.out, cnt + 1, by omega, ?_⟩, by simp [intOf]; omega⟩
            have e2 : ((ls.take (k + 1)).filter fun x => !ds.any (·.hits x)) = ((ls.take k).filter fun x => !ds.any (·.hits x)) ++ [yy] := by
              rw [HTK.out, List.filter_append, List.filter_cons_of_pos (by rw [← HH.out]; rfl)]; simp
            rw [e2]
            exact H1.out
          · go_wp2_with fail
            go_light
            refine ⟨⟨k + 1, by go_num, by omega, HB.out.trans (HBD.out.mono hws), cnt, by omega, ?_⟩, by simp [intOf]; omega⟩
            have e2 : ((ls.take (k + 1)).filter fun x => !ds.any (·.hits x)) = (ls.take k).filter fun x => !ds.any (·.hits x) := by
              rw [HTK.out, List.filter_append, List.filter_cons_of_neg (by rw [← HH.out]; simp)]; simp
            rw [e2]
            exact owns_below HOW.out HBD.out
      · have hkn : k = ln := by omega
        subst hkn
        go_wp2_with fail
        go_ret
        obtain ⟨a, c, rfl, hc⟩ := owns_slice HOW.out
        have h2 := HOW.out
        rw [List.take_of_length_le (by have := HA.out.2; omega)] at h2
        refine ⟨⟨a, cnt, c⟩, rfl, owns_base HBA.out h2, HB.out, .inr fun g hg => (h2.lt g hg).1⟩
set_option maxRecDepth 100000 in
set_option maxHeartbeats 8000000 in
theorem withoutSt (l d : Sl) (ls : List St) (ds : List Sd) (w : World) (base : Nat) (hown : w.ownsRow base 87 7 (.slice l.a l.n l.c) l.n (ls.flatMap St.a)) (hd : ds.length = d.n) (hr : ARow Sd.a 3 w d.a ds) (hm : l.n ≤ 1048576) (hdm : d.n ≤ 1048576) (hbase : base ≤ w.heap.size) :
    Calls Try.prog 17 #[.slice l.a l.n l.c, .slice d.a d.n d.c, .func (.func 18) #[] #[]] w fun e w' => WoPost St.a 7 87 base l (ls.filter fun x => !ds.any (·.hits x)) w e w' := by
  obtain ⟨la, ln, lc⟩ := l
  obtain ⟨da, dn, dc⟩ := d
  by_cases h0 : dn = 0
  · subst h0
    have HO := hidMk hown
    have hds : ds = [] := List.eq_nil_of_length_eq_zero hd
    subst hds
    clear hown hr hd
    go_enter Try.func17, Try.ntmps17
    go_wp2_with fail
    go_ret
    have e2 : ∀ p : St → Bool, (∀ x, p x = true) → ls.filter p = ls := fun p hp => List.filter_eq_self.2 (fun x _ => hp x)
    exact ⟨⟨la, ln, lc⟩, rfl, by rw [e2 _ (fun _ => rfl)]; exact HO.out, Below.refl _ _, .inl ⟨rfl, rfl⟩⟩
  · have HA := hidMk (owns_arow St.a St.a_len (by omega) hown)
    have HR := hidMk hr
    have HD := hidMk hd
    have hdn : ¬ ((dn : Int) = 0) := by omega
    have hdn2 : dn ≤ 1048576 := hdm
    have hln2 : ln ≤ 1048576 := hm
    obtain ⟨cur, hcl, hmk⟩ := make_room Try.underlying37 infA87 ln hm (by omega)
    have HW0 : Hid (Below w.heap.size w (w.alloc (.cells cur.toArray 87))) := hidMk ((Below.refl _ w).alloc (Nat.le_refl _) _)
    have HO0 : Hid ((w.alloc (.cells cur.toArray 87)).ownsRow w.heap.size 87 7 (.slice (some ⟨w.heap.size, 0, none⟩) 0 ln) 0 []) := hidMk (World.ownsRow_made w cur.toArray ln (Nat.le_refl _) (by unfold maxLen; omega) (by simpa using hcl))
    have HBA := hidMk hbase
    clear hown hr hd hm hdm hcl hbase
    go_enter Try.func17, Try.ntmps17
    go_wp2_with fail
    go_loopw [22, 7] (fun i v wr => ∃ k : Nat, i = .int .i64 k ∧ k ≤ ln ∧ Below w.heap.size w wr ∧ ∃ cnt, cnt ≤ k ∧ wr.ownsRow w.heap.size 87 7 v cnt (((ls.take k).filter fun x => !ds.any (·.hits x)).flatMap St.a)) (fun i _ _ => ln - (intOf i).toNat)
    case atStart => exact ⟨0, rfl, by omega, HW0.out, 0, by omega, by simpa using HO0.out⟩
    case round =>
      obtain ⟨k, rfl, hk, hb, cnt, hcnt, hown⟩ := hrel
      have HB := hidMk hb
      have HOW := hidMk hown
      have hws := hb.size
      clear hb hown
      by_cases hlt : k < ln
      · have k0 : (0 : Int) ≤ (k : Int) := by omega
        have k1 : (k : Int) < (ln : Int) := by omega
        obtain ⟨b0, o0, ha0, hc0⟩ := HA.out.1 (by have := HA.out.2; omega)
        obtain ⟨y, hy⟩ : ∃ y, ls[k]? = some y := ⟨ls[k]'(by have := HA.out.2; omega), by simp⟩
        have R0 := hidMk (rangeAt_below (hc0 k y hy) HB.out (Nat.le_refl _))
        have HY := hidMk hy
        clear hc0 hy
        subst ha0
        obtain ⟨yy, hyy⟩ : ∃ yy, yy = y := ⟨_, rfl⟩
        have HYY := hidMk hyy
        clear hyy
        obtain ⟨x1, x2, x3, x4, x5, x6, x7⟩ := y
        simp only [St.a] at R0
        go_upto_block 2 with (first | (refine wpList_load_mid rfl 87 _ rfl b0 (o0 + k * 7) rfl _ _ R0.out Try.underlying87 rfl info87 ?_) | (refine wpList_store_new rfl 87 _ _ rfl _ _ _ rfl _ rfl (by simp) rfl info87 rfl rfl ?_))
        obtain ⟨wx, hwx⟩ : ∃ wx, wx = wr.alloc (.cells #[.int .u8 x1, .int .u8 x2, .int .u8 x3, .float .f64 x4, .float .f64 x5, .float .f64 x6, .float .f32 x7] 87) := ⟨_, rfl⟩
        rw [← hwx]
        have HBX : Hid (Below wr.heap.size wr wx) := hidMk (by rw [hwx]; exact (Below.refl _ wr).alloc (Nat.le_refl _) _)
        have hxs : wr.heap.size < wx.heap.size := by rw [hwx]; simp
        have HRX : Hid (wx.rangeAt wr.heap.size 0 [.int .u8 x1, .int .u8 x2, .int .u8 x3, .float .f64 x4, .float .f64 x5, .float .f64 x6, .float .f32 x7]) := hidMk (by rw [hwx]; exact fun j v hv => by rw [cell_of_row _ _ _ _ _ (0, 0) (heap_alloc_new wr _)]; simpa using hv)
        clear hwx
        go_cut [10] from 23 to 36 (fun b wd => b = .bool (ds.any (·.hits yy)) ∧ Below wx.heap.size wx wd)
        case first =>
          go_wp2_with fail
          go_loopw [28, 10] (fun j b w2 => ∃ q : Nat, j = .int .i64 q ∧ q ≤ dn ∧ b = .bool false ∧ Below wx.heap.size wx w2 ∧ Hid (∀ j d, j < q → ds[j]? = some d → d.hits yy = false)) (fun j _ _ => dn - (intOf j).toNat)
          case atStart => exact ⟨0, rfl, by omega, rfl, Below.refl _ _, hidMk (fun j d hj => by omega)⟩
          case round =>
            rename World => w2
            obtain ⟨j, rfl, hj, rfl, hb2, HN⟩ := hrel
            have HB2 := hidMk hb2
            have hs2 := hb2.size
            clear hb2
            by_cases hjt : j < dn
            · have j0 : (0 : Int) ≤ (j : Int) := by omega
              have j1 : (j : Int) < (dn : Int) := by omega
              obtain ⟨b1, o1, ha1, hc1⟩ := HR.out (by have := HD.out; omega)
              obtain ⟨z, hz⟩ : ∃ z, ds[j]? = some z := ⟨ds[j]'(by have := HD.out; omega), by simp⟩
              have HBW2 : Hid (Below w.heap.size w w2) := hidMk (HB.out.trans ((HBX.out.mono (by omega)).trans (HB2.out.mono (by omega))))
              have R1 := hidMk (rangeAt_below (hc1 j z hz) HBW2.out (Nat.le_refl _))
              have HZ := hidMk hz
              clear hc1 hz
              subst ha1
              have HM := hidMk (fun w => sd_matches z yy w)
              obtain ⟨hit, hhit⟩ : ∃ hit, hit = z.hits yy := ⟨_, rfl⟩
              have HH := hidMk hhit
              rw [← hhit] at HM
              rw [HYY.out] at HM
              clear hhit
              have RX : Hid ((w2.alloc (.cells #[.int .u8 z.rn, .int .u8 z.rd, .int .u8 z.ty] 110)).rangeAt wr.heap.size 0 [.int .u8 x1, .int .u8 x2, .int .u8 x3, .float .f64 x4, .float .f64 x5, .float .f64 x6, .float .f32 x7]) := hidMk (rangeAt_below (rangeAt_below HRX.out HB2.out (Nat.le_refl _)) ((Below.refl _ w2).alloc (Nat.le_refl _) _) (Nat.le_refl _))
              have RY : Hid ((w2.alloc (.cells #[.int .u8 z.rn, .int .u8 z.rd, .int .u8 z.ty] 110)).rangeAt w2.heap.size 0 [.int .u8 z.rn, .int .u8 z.rd, .int .u8 z.ty]) := hidMk (fun j v hv => by rw [cell_of_row _ _ _ _ _ (0, 0) (heap_alloc_new w2 _)]; simpa using hv)
              obtain ⟨y1, y2, y3⟩ := z
              simp only [Sd.a, St.a] at R1 HM RX RY
              go_wp2_with (first | (refine wpList_load_mid rfl 110 _ rfl b1 (o1 + j * 3) rfl _ _ R1.out Try.underlying110 rfl info110 ?_) | (refine wpList_store_new rfl 110 _ _ rfl _ _ _ rfl _ rfl (by simp) rfl info110 rfl rfl ?_) | (refine wpList_load_mid rfl 110 _ rfl w2.heap.size 0 rfl _ _ RY.out Try.underlying110 rfl info110 ?_) | (refine wpList_load_mid rfl 87 _ rfl wr.heap.size 0 rfl _ _ RX.out Try.underlying87 rfl info87 ?_))
              refine (HM.out _).mono ?_
              rintro _ w3 ⟨rfl, h3⟩
              have HB3 : Hid (Below wx.heap.size wx w3) := hidMk (HB2.out.trans ((((Below.refl _ w2).alloc (Nat.le_refl _) _).mono hs2).trans (h3.mono (by simp; omega))))
              clear h3
              cases hit
              · go_wp2_with fail
                go_light
                exact ⟨⟨j + 1, by go_num, by omega, rfl, HB3.out, hidMk (miss_step (·.hits yy) HN.out HZ.out HH.out.symm)⟩, by simp [intOf]; omega⟩
              · go_wp2_with fail
                go_meet
                case rel => exact ⟨by rw [any_hit (·.hits yy) HZ.out HH.out.symm], HB3.out⟩
            · have hjn : j = dn := by omega
              subst hjn
              go_wp2_with fail
              go_meet
              case rel => exact ⟨by rw [any_miss (·.hits yy) ds (fun i d _ hd => HN.out i d (by have := (List.getElem?_eq_some_iff.1 hd).1; have := HD.out; omega) hd)], HB2.out⟩
        case rest =>
          obtain ⟨rfl, hb4⟩ := hcut
          rename World => wd
          have HBD : Hid (Below wr.heap.size wr wd) := hidMk (HBX.out.trans (hb4.mono (by omega)))
          have RX : Hid (wd.rangeAt wr.heap.size 0 [.int .u8 x1, .int .u8 x2, .int .u8 x3, .float .f64 x4, .float .f64 x5, .float .f64 x6, .float .f32 x7]) := hidMk (rangeAt_below HRX.out hb4 (Nat.le_refl _))
          have hds := hb4.size
          clear hb4
          obtain ⟨hit, hhit⟩ : ∃ hit, hit = ds.any (·.hits yy) := ⟨_, rfl⟩
          have HH := hidMk hhit
          rw [← hhit]
          clear hhit
          have HTK : Hid (ls.take (k + 1) = ls.take k ++ [yy]) := hidMk (by rw [List.take_add_one, HY.out, HYY.out]; rfl)
          cases hit
          · have HBY : Hid (Below wd.heap.size wd (wd.alloc (.cells #[.int .u8 x1, .int .u8 x2, .int .u8 x3, .float .f64 x4, .float .f64 x5, .float .f64 x6, .float .f32 x7] 87))) := hidMk ((Below.refl _ wd).alloc (Nat.le_refl _) _)
            have hsz : wr.heap.size ≤ wd.heap.size := HBD.out.size
            obtain ⟨v', w', hap, h1, h2, h3, h4, _⟩ := app_any St.a St.a_len St.a_one Try.underlying37 infA87 (by omega) (by omega) (wd.alloc (.cells #[.int .u8 x1, .int .u8 x2, .int .u8 x3, .float .f64 x4, .float .f64 x5, .float .f64 x6, .float .f32 x7] 87)) w.heap.size u7 cnt ((ls.take k).filter fun x => !ds.any (·.hits x)) (owns_below (owns_below HOW.out HBD.out) HBY.out) (some ⟨wd.heap.size, 0, none⟩) 1 1 [yy] rfl (arow_one St.a (by rw [HYY.out]; exact heap_alloc_new wd _)) (fun h => by cases h) (by omega) (by simp; omega) 37
            have HAP := hidMk hap
            have H1 := hidMk h1
            have HBE : Hid (Below w.heap.size w w') := hidMk (grown_below ((HB.out.trans (HBD.out.mono hws)).trans (HBY.out.mono (by omega))) (by simp; omega) h2 (fun g hg => (HOW.out.lt g hg).1))
            clear hap h1 h2 h3 h4
            go_wp2_with (first | (refine wpList_load_mid rfl 87 _ rfl wr.heap.size 0 rfl _ _ RX.out Try.underlying87 rfl info87 ?_) | (refine wpList_append_run rfl _ _ 37 rfl _ _ rfl rfl _ _ HAP.out ?_))
            go_light
            refine ⟨⟨k + 1, by go_num, by omega, HBE.out, cnt + 1, by omega, ?_⟩, by simp [intOf]; omega⟩
            have e2 : ((ls.take (k + 1)).filter fun x => !ds.any (·.hits x)) = ((ls.take k).filter fun x => !ds.any (·.hits x)) ++ [yy] := by
              rw [HTK.out, List.filter_append, List.filter_cons_of_pos (by rw [← HH.out]; rfl)]; simp
            rw [e2]
            exact H1.out
          · go_wp2_with fail
            go_light
            refine ⟨⟨k + 1, by go_num, by omega, HB.out.trans (HBD.out.mono hws), cnt, by omega, ?_⟩, by simp [intOf]; omega⟩
            have e2 : ((ls.take (k + 1)).filter fun x => !ds.any (·.hits x)) = (ls.take k).filter fun x => !ds.any (·.hits x) := by
              rw [HTK.out, List.filter_append, List.filter_cons_of_neg (by rw [← HH.out]; simp)]; simp
            rw [e2]
            exact owns_below HOW.out HBD.out
      · have hkn : k = ln := by omega
        subst hkn
        go_wp2_with fail
        go_ret
        obtain ⟨a, c, rfl, hc⟩ := owns_slice HOW.out
        have h2 := HOW.out
        rw [List.take_of_length_le (by have := HA.out.2; omega)] at h2
        refine ⟨⟨a, cnt, c⟩, rfl, owns_base HBA.out h2, HB.out, .inr fun g hg => (h2.lt g hg).1⟩
set_option maxRecDepth 100000 in
set_option maxHeartbeats 8000000 in
theorem withoutCm (l d : Sl) (ls : List Cm) (ds : List Fd) (w : World) (base : Nat) (hown : w.ownsRow base 90 3 (.slice l.a l.n l.c) l.n (ls.flatMap Cm.a)) (hd : ds.length = d.n) (hr : ARow Fd.a 2 w d.a ds) (hm : l.n ≤ 1048576) (hdm : d.n ≤ 1048576) (hbase : base ≤ w.heap.size) :
    Calls Try.prog 19 #[.slice l.a l.n l.c, .slice d.a d.n d.c, .func (.func 20) #[] #[]] w fun e w' => WoPost Cm.a 3 90 base l (ls.filter fun x => !ds.any (·.hits x)) w e w' := by
  obtain ⟨la, ln, lc⟩ := l
  obtain ⟨da, dn, dc⟩ := d
  by_cases h0 : dn = 0
  · subst h0
    have HO := hidMk hown
    have hds : ds = [] := List.eq_nil_of_length_eq_zero hd
    subst hds
    clear hown hr hd
    go_enter Try.func19, Try.ntmps19
    go_wp2_with fail
    go_ret
    have e2 : ∀ p : Cm → Bool, (∀ x, p x = true) → ls.filter p = ls := fun p hp => List.filter_eq_self.2 (fun x _ => hp x)
    exact ⟨⟨la, ln, lc⟩, rfl, by rw [e2 _ (fun _ => rfl)]; exact HO.out, Below.refl _ _, .inl ⟨rfl, rfl⟩⟩
  · have HA := hidMk (owns_arow Cm.a Cm.a_len (by omega) hown)
    have HR := hidMk hr
    have HD := hidMk hd
    have hdn : ¬ ((dn : Int) = 0) := by omega
    have hdn2 : dn ≤ 1048576 := hdm
    have hln2 : ln ≤ 1048576 := hm
    obtain ⟨cur, hcl, hmk⟩ := make_room Try.underlying38 infA90 ln hm (by omega)
    have HW0 : Hid (Below w.heap.size w (w.alloc (.cells cur.toArray 90))) := hidMk ((Below.refl _ w).alloc (Nat.le_refl _) _)
    have HO0 : Hid ((w.alloc (.cells cur.toArray 90)).ownsRow w.heap.size 90 3 (.slice (some ⟨w.heap.size, 0, none⟩) 0 ln) 0 []) := hidMk (World.ownsRow_made w cur.toArray ln (Nat.le_refl _) (by unfold maxLen; omega) (by simpa using hcl))
    have HBA := hidMk hbase
    clear hown hr hd hm hdm hcl hbase
    go_enter Try.func19, Try.ntmps19
    go_wp2_with fail
    go_loopw [22, 7] (fun i v wr => ∃ k : Nat, i = .int .i64 k ∧ k ≤ ln ∧ Below w.heap.size w wr ∧ ∃ cnt, cnt ≤ k ∧ wr.ownsRow w.heap.size 90 3 v cnt (((ls.take k).filter fun x => !ds.any (·.hits x)).flatMap Cm.a)) (fun i _ _ => ln - (intOf i).toNat)
    case atStart => exact ⟨0, rfl, by omega, HW0.out, 0, by omega, by simpa using HO0.out⟩
    case round =>
      obtain ⟨k, rfl, hk, hb, cnt, hcnt, hown⟩ := hrel
      have HB := hidMk hb
      have HOW := hidMk hown
      have hws := hb.size
      clear hb hown
      by_cases hlt : k < ln
      · have k0 : (0 : Int) ≤ (k : Int) := by omega
        have k1 : (k : Int) < (ln : Int) := by omega
        obtain ⟨b0, o0, ha0, hc0⟩ := HA.out.1 (by have := HA.out.2; omega)
        obtain ⟨y, hy⟩ : ∃ y, ls[k]? = some y := ⟨ls[k]'(by have := HA.out.2; omega), by simp⟩
        have R0 := hidMk (rangeAt_below (hc0 k y hy) HB.out (Nat.le_refl _))
        have HY := hidMk hy
        clear hc0 hy
        subst ha0
        obtain ⟨yy, hyy⟩ : ∃ yy, yy = y := ⟨_, rfl⟩
        have HYY := hidMk hyy
        clear hyy
        obtain ⟨x1, x2, x3⟩ := y
        simp only [Cm.a] at R0
        go_upto_block 2 with (first | (refine wpList_load_mid rfl 90 _ rfl b0 (o0 + k * 3) rfl _ _ R0.out Try.underlying90 rfl info90 ?_) | (refine wpList_store_new rfl 90 _ _ rfl _ _ _ rfl _ rfl (by simp) rfl info90 rfl rfl ?_))
        obtain ⟨wx, hwx⟩ : ∃ wx, wx = wr.alloc (.cells #[.int .u16 x1, .int .u32 x2, .string x3] 90) := ⟨_, rfl⟩
        rw [← hwx]
        have HBX : Hid (Below wr.heap.size wr wx) := hidMk (by rw [hwx]; exact (Below.refl _ wr).alloc (Nat.le_refl _) _)
        have hxs : wr.heap.size < wx.heap.size := by rw [hwx]; simp
        have HRX : Hid (wx.rangeAt wr.heap.size 0 [.int .u16 x1, .int .u32 x2, .string x3]) := hidMk (by rw [hwx]; exact fun j v hv => by rw [cell_of_row _ _ _ _ _ (0, 0) (heap_alloc_new wr _)]; simpa using hv)
        clear hwx
        go_cut [10] from 23 to 36 (fun b wd => b = .bool (ds.any (·.hits yy)) ∧ Below wx.heap.size wx wd)
        case first =>
          go_wp2_with fail
          go_loopw [28, 10] (fun j b w2 => ∃ q : Nat, j = .int .i64 q ∧ q ≤ dn ∧ b = .bool false ∧ Below wx.heap.size wx w2 ∧ Hid (∀ j d, j < q → ds[j]? = some d → d.hits yy = false)) (fun j _ _ => dn - (intOf j).toNat)
          case atStart => exact ⟨0, rfl, by omega, rfl, Below.refl _ _, hidMk (fun j d hj => by omega)⟩
          case round =>
            rename World => w2
            obtain ⟨j, rfl, hj, rfl, hb2, HN⟩ := hrel
            have HB2 := hidMk hb2
            have hs2 := hb2.size
            clear hb2
            by_cases hjt : j < dn
            · have j0 : (0 : Int) ≤ (j : Int) := by omega
              have j1 : (j : Int) < (dn : Int) := by omega
              obtain ⟨b1, o1, ha1, hc1⟩ := HR.out (by have := HD.out; omega)
              obtain ⟨z, hz⟩ : ∃ z, ds[j]? = some z := ⟨ds[j]'(by have := HD.out; omega), by simp⟩
              have HBW2 : Hid (Below w.heap.size w w2) := hidMk (HB.out.trans ((HBX.out.mono (by omega)).trans (HB2.out.mono (by omega))))
              have R1 := hidMk (rangeAt_below (hc1 j z hz) HBW2.out (Nat.le_refl _))
              have HZ := hidMk hz
              clear hc1 hz
              subst ha1
              have HM := hidMk (fun w => fd_matches z yy w)
              obtain ⟨hit, hhit⟩ : ∃ hit, hit = z.hits yy := ⟨_, rfl⟩
              have HH := hidMk hhit
              rw [← hhit] at HM
              rw [HYY.out] at HM
              clear hhit
              have RX : Hid ((w2.alloc (.cells #[.int .u16 z.ty, .int .u32 z.fr] 114)).rangeAt wr.heap.size 0 [.int .u16 x1, .int .u32 x2, .string x3]) := hidMk (rangeAt_below (rangeAt_below HRX.out HB2.out (Nat.le_refl _)) ((Below.refl _ w2).alloc (Nat.le_refl _) _) (Nat.le_refl _))
              have RY : Hid ((w2.alloc (.cells #[.int .u16 z.ty, .int .u32 z.fr] 114)).rangeAt w2.heap.size 0 [.int .u16 z.ty, .int .u32 z.fr]) := hidMk (fun j v hv => by rw [cell_of_row _ _ _ _ _ (0, 0) (heap_alloc_new w2 _)]; simpa using hv)
              obtain ⟨y1, y2⟩ := z
              simp only [Fd.a, Cm.a] at R1 HM RX RY
              go_wp2_with (first | (refine wpList_load_mid rfl 114 _ rfl b1 (o1 + j * 2) rfl _ _ R1.out Try.underlying114 rfl info114 ?_) | (refine wpList_store_new rfl 114 _ _ rfl _ _ _ rfl _ rfl (by simp) rfl info114 rfl rfl ?_) | (refine wpList_load_mid rfl 114 _ rfl w2.heap.size 0 rfl _ _ RY.out Try.underlying114 rfl info114 ?_) | (refine wpList_load_mid rfl 90 _ rfl wr.heap.size 0 rfl _ _ RX.out Try.underlying90 rfl info90 ?_))
              refine (HM.out _).mono ?_
              rintro _ w3 ⟨rfl, h3⟩
              have HB3 : Hid (Below wx.heap.size wx w3) := hidMk (HB2.out.trans ((((Below.refl _ w2).alloc (Nat.le_refl _) _).mono hs2).trans (h3.mono (by simp; omega))))
              clear h3
              cases hit
              · go_wp2_with fail
                go_light
                exact ⟨⟨j + 1, by go_num, by omega, rfl, HB3.out, hidMk (miss_step (·.hits yy) HN.out HZ.out HH.out.symm)⟩, by simp [intOf]; omega⟩
              · go_wp2_with fail
                go_meet
                case rel => exact ⟨by rw [any_hit (·.hits yy) HZ.out HH.out.symm], HB3.out⟩
            · have hjn : j = dn := by omega
              subst hjn
              go_wp2_with fail
              go_meet
              case rel => exact ⟨by rw [any_miss (·.hits yy) ds (fun i d _ hd => HN.out i d (by have := (List.getElem?_eq_some_iff.1 hd).1; have := HD.out; omega) hd)], HB2.out⟩
        case rest =>
          obtain ⟨rfl, hb4⟩ := hcut
          rename World => wd
          have HBD : Hid (Below wr.heap.size wr wd) := hidMk (HBX.out.trans (hb4.mono (by omega)))
          have RX : Hid (wd.rangeAt wr.heap.size 0 [.int .u16 x1, .int .u32 x2, .string x3]) := hidMk (rangeAt_below HRX.out hb4 (Nat.le_refl _))
          have hds := hb4.size
          clear hb4
          obtain ⟨hit, hhit⟩ : ∃ hit, hit = ds.any (·.hits yy) := ⟨_, rfl⟩
          have HH := hidMk hhit
          rw [← hhit]
          clear hhit
          have HTK : Hid (ls.take (k + 1) = ls.take k ++ [yy]) := hidMk (by rw [List.take_add_one, HY.out, HYY.out]; rfl)
          cases hit
          · have HBY : Hid (Below wd.heap.size wd (wd.alloc (.cells #[.int .u16 x1, .int .u32 x2, .string x3] 90))) := hidMk ((Below.refl _ wd).alloc (Nat.le_refl _) _)
            have hsz : wr.heap.size ≤ wd.heap.size := HBD.out.size
            obtain ⟨v', w', hap, h1, h2, h3, h4, _⟩ := app_any Cm.a Cm.a_len Cm.a_one Try.underlying38 infA90 (by omega) (by omega) (wd.alloc (.cells #[.int .u16 x1, .int .u32 x2, .string x3] 90)) w.heap.size u7 cnt ((ls.take k).filter fun x => !ds.any (·.hits x)) (owns_below (owns_below HOW.out HBD.out) HBY.out) (some ⟨wd.heap.size, 0, none⟩) 1 1 [yy] rfl (arow_one Cm.a (by rw [HYY.out]; exact heap_alloc_new wd _)) (fun h => by cases h) (by omega) (by simp; omega) 38
            have HAP := hidMk hap
            have H1 := hidMk h1
            have HBE : Hid (Below w.heap.size w w') := hidMk (grown_below ((HB.out.trans (HBD.out.mono hws)).trans (HBY.out.mono (by omega))) (by simp; omega) h2 (fun g hg => (HOW.out.lt g hg).1))
            clear hap h1 h2 h3 h4
            go_wp2_with (first | (refine wpList_load_mid rfl 90 _ rfl wr.heap.size 0 rfl _ _ RX.out Try.underlying90 rfl info90 ?_) | (refine wpList_append_run rfl _ _ 38 rfl _ _ rfl rfl _ _ HAP.out ?_))
            go_light
            refine ⟨⟨k + 1, by go_num, by omega, HBE.out, cnt + 1, by omega, ?_⟩, by simp [intOf]; omega⟩
            have e2 : ((ls.take (k + 1)).filter fun x => !ds.any (·.hits x)) = ((ls.take k).filter fun x => !ds.any (·.hits x)) ++ [yy] := by
              rw [HTK.out, List.filter_append, List.filter_cons_of_pos (by rw [← HH.out]; rfl)]; simp
            rw [e2]
            exact H1.out
          · go_wp2_with fail
            go_light
            refine ⟨⟨k + 1, by go_num, by omega, HB.out.trans (HBD.out.mono hws), cnt, by omega, ?_⟩, by simp [intOf]; omega⟩
            have e2 : ((ls.take (k + 1)).filter fun x => !ds.any (·.hits x)) = (ls.take k).filter fun x => !ds.any (·.hits x) := by
              rw [HTK.out, List.filter_append, List.filter_cons_of_neg (by rw [← HH.out]; simp)]; simp
            rw [e2]
            exact owns_below HOW.out HBD.out
      · have hkn : k = ln := by omega
        subst hkn
        go_wp2_with fail
        go_ret
        obtain ⟨a, c, rfl, hc⟩ := owns_slice HOW.out
        have h2 := HOW.out
        rw [List.take_of_length_le (by have := HA.out.2; omega)] at h2
        refine ⟨⟨a, cnt, c⟩, rfl, owns_base HBA.out h2, HB.out, .inr fun g hg => (h2.lt g hg).1⟩
end Go.Proofs.Qxb6619005a
