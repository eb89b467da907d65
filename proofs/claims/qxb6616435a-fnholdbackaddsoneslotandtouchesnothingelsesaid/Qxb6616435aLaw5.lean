import Derived.Test.Qxb6616435aState5
import Derived.Deep.RegionHeld3
import Derived.Deep.DrawnRows
namespace Go.Proofs.Qxb6616435a
open Go.RowKit
attribute [local go_sem ↓] Go.wp_at_zero Go.wp_at_succ

theorem getD_mem (l : List Nat) (k : Nat) (h : k < l.length) : l.getD k 0 ∈ l := by
  rw [List.getD_eq_getElem?_getD, List.getElem?_eq_getElem h]; exact List.getElem_mem h
theorem zip_at (es ss : List Nat) (k : Nat) (h1 : k < es.length) (h2 : k < ss.length) : (es.zip ss)[k]? = some (es.getD k 0, ss.getD k 0) := by
  rw [List.getElem?_zip_eq_some, List.getD_eq_getElem?_getD, List.getD_eq_getElem?_getD, List.getElem?_eq_getElem h1, List.getElem?_eq_getElem h2]
  exact ⟨rfl, rfl⟩

theorem S5.keepF {w wr w' : World} {B : Nat} {A : Nat → Nat} {C : Array Value} {mf mb : Option Nat} {Lf Lb L' : List (Nat × Nat)} {g : Nat → Nat} {s : Nat → Bool} (h : S5 w wr B A C mf Lf mb Lb g s) (hh : Held wr.drew w' A (B + 1) mf L')
    {p0 p1 : Addr} {v0 v1 : Value} {e : Nat} (h0 : w.cell? p0 = some v0) (h1 : w.cell? p1 = some v1) (he : e < 256) : w'.cell? p0 = some v0 ∧ w'.cell? ⟨B, e, none⟩ = some (hp (A e)) ∧ w'.cell? p1 = some v1 := by
  obtain ⟨r, h2⟩ := h.drew.holdF hh
  exact ⟨(h2.base.below.cell (World.block_lt_of_cell? _ _ h0)).trans h0, h2.base.cell he, (h2.base.below.cell (World.block_lt_of_cell? _ _ h1)).trans h1⟩
theorem S5.keepB {w wr w' : World} {B : Nat} {A : Nat → Nat} {C : Array Value} {mf mb : Option Nat} {Lf Lb L' : List (Nat × Nat)} {g : Nat → Nat} {s : Nat → Bool} (h : S5 w wr B A C mf Lf mb Lb g s) (hh : Held wr.drew w' A (B + 2) mb L')
    {p0 p1 : Addr} {v0 v1 : Value} {e : Nat} (h0 : w.cell? p0 = some v0) (h1 : w.cell? p1 = some v1) (he : e < 256) : w'.cell? p0 = some v0 ∧ w'.cell? ⟨B, e, none⟩ = some (hp (A e)) ∧ w'.cell? p1 = some v1 := by
  obtain ⟨r, h2⟩ := h.drew.holdB hh
  exact ⟨(h2.base.below.cell (World.block_lt_of_cell? _ _ h0)).trans h0, h2.base.cell he, (h2.base.below.cell (World.block_lt_of_cell? _ _ h1)).trans h1⟩
theorem drop_rev (ps : List (Nat × Nat)) (j : Nat) (p : Nat × Nat) (h : ps[j]? = some p) : (ps.drop j).reverse = (ps.drop (j + 1)).reverse ++ [p] := by
  have hl : j < ps.length := (List.getElem?_eq_some_iff.1 h).1
  rw [List.drop_eq_getElem_cons hl, List.reverse_cons]
  have : ps[j] = p := by rw [List.getElem?_eq_getElem hl] at h; exact Option.some.inj h
  rw [this]
theorem S5.callF {w wr : World} {B : Nat} {A : Nat → Nat} {C : Array Value} {mf mb : Option Nat} {Lf Lb : List (Nat × Nat)} {g : Nat → Nat} {s : Nat → Bool} (h : S5 w wr B A C mf Lf mb Lb g s) (e t : Nat) (he : e < 256) :
    Calls Try.prog 13 #[.pointer (some ⟨B + 1, 0, none⟩), hp (A e), .int .u8 (t : Int)] wr fun e' w' => e' = .returned (.tuple #[]) ∧ Held wr w' A (B + 1) mf (hold Lf (e, t)) :=
  zzHoldBack_any (B + 1) e t A mf Lf wr h.hf.tx h.hf.map h.base.heads h.base.apart (fun j hj => by have := h.base.hi j hj; omega) he
theorem S5.callB {w wr : World} {B : Nat} {A : Nat → Nat} {C : Array Value} {mf mb : Option Nat} {Lf Lb : List (Nat × Nat)} {g : Nat → Nat} {s : Nat → Bool} (h : S5 w wr B A C mf Lf mb Lb g s) (e t : Nat) (he : e < 256) :
    Calls Try.prog 13 #[.pointer (some ⟨B + 2, 0, none⟩), hp (A e), .int .u8 (t : Int)] wr fun e' w' => e' = .returned (.tuple #[]) ∧ Held wr w' A (B + 2) mb (hold Lb (e, t)) :=
  zzHoldBack_any (B + 2) e t A mb Lb wr h.hb.tx h.hb.map h.base.heads h.base.apart (fun j hj => by have := h.base.hi j hj; omega) he

section
variable {w wr : World} {B : Nat} {A : Nat → Nat} {C : Array Value} {mf mb : Option Nat} {ps : List (Nat × Nat)} {g : Nat → Nat} {s : Nat → Bool}
theorem S5.backF (h : S5 w wr B A C mf (holdAll ps []) mb (holdAll ps.reverse []) g s) (i : Nat) (hi : i < 256) (b : Bool) (hb : seenOf ps i = b) :
    Calls Try.prog 14 #[.pointer (some ⟨B + 1, 0, none⟩), hp (A i)] wr fun e w' => e = .returned (.tuple #[.int .u16 ((wantOf ps i : Nat) : Int), .bool b]) ∧ w' = wr := by
  have := zzBackOf_any (B + 1) i A mf _ wr h.hf.tx h.hf.map h.base.heads h.base.apart hi
  rwa [look_getD, look_isSome, hb] at this
theorem S5.backB (h : S5 w wr B A C mf (holdAll ps []) mb (holdAll ps.reverse []) g s) (i : Nat) (hi : i < 256) (b : Bool) (hb : seenOf ps i = b) :
    Calls Try.prog 14 #[.pointer (some ⟨B + 2, 0, none⟩), hp (A i)] wr fun e w' => e = .returned (.tuple #[.int .u16 ((wantOf ps i : Nat) : Int), .bool b]) ∧ w' = wr := by
  have := zzBackOf_any (B + 2) i A mb _ wr h.hb.tx h.hb.map h.base.heads h.base.apart hi
  rwa [look_getD, look_isSome, seenOf_reverse, wantOf_reverse, hb] at this
theorem S5.lenF (h : S5 w wr B A C mf (holdAll ps []) mb (holdAll ps.reverse []) g s) (hps : ∀ p ∈ ps, p.1 < 256) :
    Calls Try.prog 15 #[.pointer (some ⟨B + 1, 0, none⟩)] wr fun e w' => e = .returned (.int .i64 ((cnt (seenOf ps) 256 : Nat) : Int)) ∧ w' = wr := by
  have := zzBackLen_any (B + 1) A mf _ wr h.hf.tx h.hf.map
  rwa [length_seen ps hps] at this
theorem S5.lenB (h : S5 w wr B A C mf (holdAll ps []) mb (holdAll ps.reverse []) g s) (hps : ∀ p ∈ ps, p.1 < 256) :
    Calls Try.prog 15 #[.pointer (some ⟨B + 2, 0, none⟩)] wr fun e w' => e = .returned (.int .i64 ((cnt (seenOf ps) 256 : Nat) : Int)) ∧ w' = wr := by
  have := zzBackLen_any (B + 2) A mb _ wr h.hb.tx h.hb.map
  rwa [length_seen ps.reverse (fun p hp => hps p (List.mem_reverse.1 hp)), cnt_congr (fun j _ => seenOf_reverse ps j)] at this
end

set_option maxRecDepth 100000 in
set_option maxHeartbeats 4000000 in
theorem law5_pos (b0 o0 b1 o1 n q0 q1 : Nat) (es ss : List Nat) (w : World) (hn : 0 < n) (hn2 : n ≤ 65536) (hes : es.length = n) (hss : ss.length = n) (e256 : ∀ e ∈ es, e < 256) (s256 : ∀ e ∈ ss, e < 256)
    (hc0 : ∀ j, j < n → w.cell? ⟨b0, o0 + j, none⟩ = some (.int .u8 ((es.getD j 0 : Nat) : Int))) (hc1 : ∀ j, j < n → w.cell? ⟨b1, o1 + j, none⟩ = some (.int .u8 ((ss.getD j 0 : Nat) : Int))) :
    Calls Try.prog 5 #[.slice (some ⟨b0, o0, none⟩) n q0, .slice (some ⟨b1, o1, none⟩) n q1] w fun e w' => e = .returned (.bool true) ∧ Below w.heap.size w w' := by
  have hc0' := hidMk hc0
  have hc1' := hidMk hc1
  clear hc0 hc1
  have i1 : decide ((65536 : Int) < (n : Int)) = false := by simp; omega
  obtain ⟨hz30, hi30⟩ := zero_of_info info30
  obtain ⟨hz34, hi34⟩ := zero_of_info info34
  obtain ⟨hz35, hi35⟩ := zero_of_info info35
  clear hi30 hi34 hi35
  go_enter Try.func5, Try.ntmps5
  go_wp2_with fail
  refine (bytes10_yes _ _ _ _ _ _ _ (by omega)).mono ?_
  rintro e w' ⟨rfl, hw⟩
  have hw2 := hw.symm
  subst hw2
  clear hw
  go_wp2_with fail
  refine (pool_any _).mono ?_
  rintro e w1 ⟨A, C, rfl, hP⟩
  have HP := hidMk hP
  clear hP
  go_wp2_with (refine wpList_store_row rfl 30 _ _ rfl w1.heap.size C rfl rfl 30 zeros30 (heap_alloc_new w1 _) (pool_size HP.out) (pool_zero HP.out) (pool_one HP.out) ?_; rw [World.setRow_alloc_new])
  refine (zzNewTransaction_any _).mono ?_
  rintro e w2 ⟨rfl, rfl⟩
  go_wp2_with fail
  refine (zzNewTransaction_any _).mono ?_
  rintro e w2 ⟨rfl, rfl⟩
  go_wp2_with fail
  have H0 := S5.start HP.out
  obtain ⟨B, hB⟩ : ∃ B, w1.heap.size = B := ⟨_, rfl⟩
  rw [hB] at H0 ⊢
  have HS := hidMk H0
  clear H0 hB HP hz30 hz34 hz35
  rw [show B + 1 + 1 + 1 + 1 = B + 4 from rfl, show B + 1 + 1 + 1 = B + 3 from rfl, show B + 1 + 1 = B + 2 from rfl]
  obtain ⟨ps, hps⟩ : ∃ ps, es.zip ss = ps := ⟨_, rfl⟩
  have hpl : ps.length = n := by rw [← hps]; simp [hes, hss]
  have hat : Hid (∀ k, k < n → ps[k]? = some (es.getD k 0, ss.getD k 0)) := hidMk (fun k hk => by rw [← hps]; exact zip_at es ss k (by omega) (by omega))
  have HL := hidMk hpl
  have HPS : Hid (∀ p ∈ ps, p.1 < 256) := hidMk (fun p hp => by rw [← hps] at hp; exact e256 _ (List.of_mem_zip hp).1)
  clear hps hpl
  go_loopw [10] (fun i wr => ∃ (k : Nat) (mf : Option Nat), i = .int .i64 k ∧ k ≤ n ∧ S5 w wr B A C mf (holdAll (ps.take k) []) none [] (wantOf (ps.take k)) (seenOf (ps.take k))) (fun i _ => n - (intOf i).toNat)
  case atStart => exact ⟨0, none, rfl, by omega, HS.out⟩
  case round =>
    obtain ⟨k, mf, rfl, hk, hS⟩ := hrel
    by_cases hlt : k < n
    · have k0 : (0 : Int) ≤ (k : Int) := by omega
      have k1 : (k : Int) < (n : Int) := by omega
      obtain ⟨e, he⟩ : ∃ e, es.getD k 0 = e := ⟨_, rfl⟩
      obtain ⟨s, hs⟩ : ∃ s, ss.getD k 0 = s := ⟨_, rfl⟩
      have he2 : e < 256 := by rw [← he]; exact e256 _ (getD_mem _ _ (by omega))
      have hs2 : s < 256 := by rw [← hs]; exact s256 _ (getD_mem _ _ (by omega))
      have c0 := (hS.base.below.cell (p := ⟨b0, o0 + k, none⟩) (World.block_lt_of_cell? _ _ (hc0'.out k hlt))).trans (hc0'.out k hlt)
      have c1 := (hS.base.below.cell (p := ⟨b1, o1 + k, none⟩) (World.block_lt_of_cell? _ _ (hc1'.out k hlt))).trans (hc1'.out k hlt)
      have W0 : Hid (w.cell? ⟨b0, o0 + k, none⟩ = some (.int .u8 (e : Int))) := hidMk (by rw [hc0'.out k hlt, he])
      have W1 : Hid (w.cell? ⟨b1, o1 + k, none⟩ = some (.int .u8 (s : Int))) := hidMk (by rw [hc1'.out k hlt, hs])
      rw [he] at c0
      rw [hs] at c1
      have cp := hS.base.cell he2
      have cs := hS.seen.cell e
      have cw := hS.want.cell e
      have e0 : (0 : Int) ≤ (e : Int) := by omega
      have e1 : (e : Int) < 256 := by omega
      have s0 : (0 : Int) ≤ (s : Int) := by omega
      have s1 : (s : Int) < 256 := by omega
      have hpk : Hid (ps.take (k + 1) = ps.take k ++ [(e, s)]) := hidMk (by rw [List.take_add_one, hat.out k hlt, he, hs]; rfl)
      have HSS := hidMk hS
      clear hS he hs
      go_wp2_with fail
      go_region_held3 (fun w' => w'.cell? ⟨b0, o0 + k, none⟩ = some (.int .u8 (e : Int)) ∧ w'.cell? ⟨B, e, none⟩ = some (hp (A e)) ∧ w'.cell? ⟨b1, o1 + k, none⟩ = some (.int .u8 (s : Int)))
        (first | go_keep | exact HSS.out.keepF hh W0.out W1.out he2)
        ((go_at_call 13; refine (HSS.out.drew.callF e s he2).mono ?_; rintro _ w2 ⟨rfl, hh⟩))
      rename_i hHeld
      obtain ⟨d0, _, d1⟩ := hHeld
      obtain ⟨r, hS2⟩ := HSS.out.drew.holdF hh
      clear hh c0 c1 cp cs cw
      have cs : w2.cell? ⟨B + 4, e, none⟩ = some (.bool (seenOf (ps.take k) e)) := by rw [hS2.seen.cell e, cellsB, row_at _ he2]
      have fs := hS2.seen.frozen e
      have cw : w2.cell? ⟨B + 3, e, none⟩ = some (.int .u16 ((wantOf (ps.take k) e : Nat) : Int)) := by rw [hS2.want.cell e, cells16, row_at _ he2]
      have fw := hS2.want.frozen e
      have HS2 := hidMk hS2
      have n0 : b0 ≠ B + 4 := fun h => by have h1 := World.block_lt_of_cell? _ _ W0.out; have h2 := hS2.base.hB; simp at h1; omega
      have n1 : b1 ≠ B + 4 := fun h => by have h1 := World.block_lt_of_cell? _ _ W1.out; have h2 := hS2.base.hB; simp at h1; omega
      clear hS2
      by_cases h16 : s < 16
      · have hd : decide ((s : Int) < 16) = true := by simp; omega
        go_wp2_with fail
        have hA : Hid (bits BinOp.or IntKind.u16 (((wantOf (ps.take k) e : Nat)) : Int) (IntKind.u16.wrap (2 ^ s)) = ((addBit (wantOf (ps.take k) e) s : Nat) : Int)) := hidMk (by
          have := addBit_walk (wantOf (ps.take k) e) s (wantOf_lt _ _)
          rwa [show min s 16 = s from by omega] at this)
        go_region
        go_wp2_with fail
        rw [hA.out]
        exact ⟨⟨k + 1, some r, by go_num, by omega, by rw [hpk.out]; exact HS2.out.round_yes.drew⟩, by simp [intOf]; omega⟩
      · have hd : decide ((s : Int) < 16) = false := by simp; omega
        go_wp2_with fail
        exact ⟨⟨k + 1, some r, by go_num, by omega, by rw [hpk.out]; exact HS2.out.round_no (by omega)⟩, by simp [intOf]; omega⟩
    · have hkn : k = n := by omega
      subst hkn
      rw [List.take_of_length_le (by rw [HL.out]; exact Nat.le_refl _)] at hS
      have HSS := hidMk hS
      clear hS hlt hk
      go_wp2_with fail
      go_loopw [11] (fun i wr => ∃ (m : Nat) (mb : Option Nat), i = .int .i64 ((m : Int) - 1) ∧ m ≤ k ∧ S5 w wr B A C mf (holdAll ps []) mb (holdAll (ps.drop m).reverse []) (wantOf ps) (seenOf ps)) (fun i _ => (intOf i + 1).toNat)
      case atStart => exact ⟨k, none, rfl, Nat.le_refl _, by rw [List.drop_of_length_le (by rw [HL.out]; exact Nat.le_refl _)]; exact HSS.out⟩
      case round =>
        obtain ⟨m, mb, rfl, hm, hS⟩ := hrel
        by_cases hlt : 0 < m
        · obtain ⟨j, rfl⟩ : ∃ j, m = j + 1 := ⟨m - 1, by omega⟩
          have ej : (((j + 1 : Nat) : Int) - 1) = (j : Int) := by omega
          rw [ej]
          have hjk : j < k := by omega
          have j0 : (0 : Int) ≤ (j : Int) := by omega
          have j1 : (j : Int) < (k : Int) := by omega
          obtain ⟨e, he⟩ : ∃ e, es.getD j 0 = e := ⟨_, rfl⟩
          obtain ⟨s, hs⟩ : ∃ s, ss.getD j 0 = s := ⟨_, rfl⟩
          have he2 : e < 256 := by rw [← he]; exact e256 _ (getD_mem _ _ (by omega))
          have W0 : Hid (w.cell? ⟨b0, o0 + j, none⟩ = some (.int .u8 (e : Int))) := hidMk (by rw [hc0'.out j hjk, he])
          have W1 : Hid (w.cell? ⟨b1, o1 + j, none⟩ = some (.int .u8 (s : Int))) := hidMk (by rw [hc1'.out j hjk, hs])
          have c0 := (hS.base.below.cell (p := ⟨b0, o0 + j, none⟩) (World.block_lt_of_cell? _ _ W0.out)).trans W0.out
          have c1 := (hS.base.below.cell (p := ⟨b1, o1 + j, none⟩) (World.block_lt_of_cell? _ _ W1.out)).trans W1.out
          have cp := hS.base.cell he2
          have e0 : (0 : Int) ≤ (e : Int) := by omega
          have e1 : (e : Int) < 256 := by omega
          have hpk : Hid ((ps.drop j).reverse = (ps.drop (j + 1)).reverse ++ [(e, s)]) := hidMk (by rw [drop_rev ps j (e, s) (by rw [hat.out j hjk, he, hs])])
          have HS2 := hidMk hS
          clear hS he hs ej
          go_wp2_with fail
          go_region_held3 (fun w' => w'.cell? ⟨b0, o0 + j, none⟩ = some (.int .u8 (e : Int)) ∧ w'.cell? ⟨B, e, none⟩ = some (hp (A e)) ∧ w'.cell? ⟨b1, o1 + j, none⟩ = some (.int .u8 (s : Int)))
            (first | go_keep | exact HS2.out.keepB hh W0.out W1.out he2)
            ((go_at_call 13; refine (HS2.out.drew.callB e s he2).mono ?_; rintro _ w2 ⟨rfl, hh⟩))
          obtain ⟨r, hS3⟩ := HS2.out.drew.holdB hh
          have HS3 := hidMk hS3
          clear hh hS3 c0 c1 cp
          go_wp2_with fail
          exact ⟨⟨j, some r, by go_num, by omega, by rw [hpk.out, holdAll_snoc]; exact HS3.out⟩, by simp [intOf]⟩
        · have hm0 : m = 0 := by omega
          subst hm0
          rw [List.drop_zero] at hS
          have HS2 := hidMk hS
          clear hS hlt hm
          rw [show (((0 : Nat) : Int) - 1) = -1 from rfl]
          go_wp2_with fail
          go_loop [12, 13] (fun c j => ∃ i : Nat, i ≤ 256 ∧ j = .int .i64 i ∧ c = .int .i64 ((cnt (seenOf ps) i : Nat) : Int)) (fun _ j => 256 - (intOf j).toNat)
          case atStart => exact ⟨0, by omega, rfl, rfl⟩
          case round =>
            obtain ⟨i, hi, rfl, rfl⟩ := hrel
            have hcl := cnt_le (seenOf ps) i
            by_cases hlt : i < 256
            · have i0 : (0 : Int) ≤ (i : Int) := by omega
              have i2 : (i : Int) < 256 := by omega
              have cp := HS2.out.base.cell hlt
              have cw : wr.cell? ⟨B + 3, i, none⟩ = some (.int .u16 ((wantOf ps i : Nat) : Int)) := by rw [HS2.out.want.cell i, cells16, row_at _ hlt]
              cases hb : seenOf ps i
              · have cs : wr.cell? ⟨B + 4, i, none⟩ = some (.bool false) := by rw [HS2.out.seen.cell i, cellsB, row_at _ hlt, hb]
                have HB := hidMk hb
                have HC : Hid (cnt (seenOf ps) (i + 1) = cnt (seenOf ps) i) := hidMk (by rw [cnt_succ, hb]; rfl)
                clear hb
                go_wp2_with fail
                refine (HS2.out.backF i hlt false HB.out).mono ?_
                rintro e2 wx ⟨rfl, hwx⟩
                have hwx2 := hwx.symm
                subst hwx2
                clear hwx
                go_wp2_with fail
                refine (HS2.out.backB i hlt false HB.out).mono ?_
                rintro e2 wx ⟨rfl, hwx⟩
                have hwx2 := hwx.symm
                subst hwx2
                clear hwx
                go_wp2_with fail
                go_round
                case rel => exact ⟨i + 1, by omega, by go_num, by rw [HC.out]⟩
                case measure => simp [intOf]; omega
              · have cs : wr.cell? ⟨B + 4, i, none⟩ = some (.bool true) := by rw [HS2.out.seen.cell i, cellsB, row_at _ hlt, hb]
                have HB := hidMk hb
                have HC : Hid (cnt (seenOf ps) (i + 1) = cnt (seenOf ps) i + 1) := hidMk (by rw [cnt_succ, hb]; rfl)
                clear hb
                go_wp2_with fail
                refine (HS2.out.backF i hlt true HB.out).mono ?_
                rintro e2 wx ⟨rfl, hwx⟩
                have hwx2 := hwx.symm
                subst hwx2
                clear hwx
                go_wp2_with fail
                refine (HS2.out.backB i hlt true HB.out).mono ?_
                rintro e2 wx ⟨rfl, hwx⟩
                have hwx2 := hwx.symm
                subst hwx2
                clear hwx
                go_wp2_with fail
                go_round
                case rel => exact ⟨i + 1, by omega, by go_num, by rw [HC.out]; go_num⟩
                case measure => simp [intOf]; omega
            · have hi2 : i = 256 := by omega
              subst hi2
              clear hlt hi
              go_wp2_with fail
              refine (HS2.out.lenF HPS.out).mono ?_
              rintro e2 wx ⟨rfl, hwx⟩
              have hwx2 := hwx.symm
              subst hwx2
              clear hwx
              go_wp2_with fail
              refine (HS2.out.lenB HPS.out).mono ?_
              rintro e2 wx ⟨rfl, hwx⟩
              have hwx2 := hwx.symm
              subst hwx2
              clear hwx
              go_wp2_with fail
              go_ret
              exact ⟨rfl, HS2.out.base.below⟩
end Go.Proofs.Qxb6616435a
