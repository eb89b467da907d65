import Derived.Test.Qxb6616617aBytes
import Derived.Deep.AppendLies
import Derived.Maps.AppendAt
import Derived.LaidEql
namespace Go.Proofs.Qxb6616617a
open Go.RowKit

abbrev hp (b : Nat) : Value := .pointer (some ⟨b, 0, none⟩)

/-- The reader's cells: 'v' its list of files. -/
def zrCells (v : Value) : Array Value := #[.nilIface, v, .string ⟨#[]⟩, .map none, .int .i64 0, .int .u32 0, .int .i32 0, .int .u32 0, .slice none 0 0]
/-- A file's cells: 's' its name. -/
def fileCells (s : ByteArray) : Array Value := #[.string s, .string ⟨#[]⟩, .bool false, .int .u16 0, .int .u16 0, .int .u16 0, .int .u16 0, .int .u64 0, .int .i64 0, .pointer none, .int .u16 0, .int .u16 0, .int .u32 0, .int .u32 0, .int .u32 0, .int .u64 0, .int .u64 0, .slice none 0 0, .int .u32 0, .pointer none, .nilIface, .int .i64 0]

theorem info31 : (Try.prog.info? 31).map (fun i => (i.zero, i.size, i.bytes)) = some (some (.pointer none), 1, 8) := by kernel_rfl

def ptrs (F : Nat → Nat) (k : Nat) : List Value := (List.range k).map (fun j => hp (F j))
theorem ptrs_succ (F : Nat → Nat) (k : Nat) : ptrs F (k + 1) = ptrs F k ++ [hp (F k)] := by simp [ptrs, List.range_succ]
theorem ptrs_congr {F G : Nat → Nat} {k : Nat} (h : ∀ j, j < k → F j = G j) : ptrs F k = ptrs G k := by
  unfold ptrs; exact List.map_congr_left (fun j hj => by rw [h j (by simpa using hj)])

/-- The reader after 'k' names: 'Z' its block, 'v' its list, 'F j' the block of file 'j'. -/
structure ZrAt (w wr : World) (Z : Nat) (xs : List ByteArray) (v : Value) (F : Nat → Nat) (k : Nat) : Prop where
  below : Below w.heap.size w wr
  hZ : w.heap.size ≤ Z
  zr : wr.heap[Z]? = some (.cells (zrCells v) 51 (0, 0))
  owns : wr.ownsRow (Z + 1) 31 1 v k (ptrs F k)
  files : ∀ j, j < k → wr.heap[F j]? = some (.cells (fileCells (nth xs j)) 62 (0, 0))
  apart : ∀ i j, i < k → j < k → F i = F j → i = j
  lo : ∀ j, j < k → Z < F j

theorem ZrAt.cell {w wr : World} {Z : Nat} {xs : List ByteArray} {v : Value} {F : Nat → Nat} {k : Nat} (h : ZrAt w wr Z xs v F k) : wr.cell? ⟨Z, 1, none⟩ = some v := by
  simp [World.cell?, h.zr, zrCells]
theorem ZrAt.frozen {w wr : World} {Z : Nat} {xs : List ByteArray} {v : Value} {F : Nat → Nat} {k : Nat} (h : ZrAt w wr Z xs v F k) : wr.frozen? ⟨Z, 1, none⟩ = false := by
  simp [World.frozen?, h.zr]
theorem lt_of_heap {w : World} {k : Nat} {o : Obj} (h : w.heap[k]? = some o) : k < w.heap.size := by
  rcases Nat.lt_or_ge k w.heap.size with h' | h'
  · exact h'
  · rw [Array.getElem?_eq_none h'] at h; cases h

theorem own_block {w : World} {base : Nat} {e : TypeId} {size : Nat} {v : Value} {n : Nat} {xs : List Value} (h : w.ownsRow base e size v n xs) {g : Nat} (hg : v.ownBlock = some g) : base ≤ g ∧ ∃ cur, w.heap[g]? = some (.cells cur e (0, 0)) := by
  obtain ⟨_, h2⟩ := h
  rcases h2 with ⟨rfl, _⟩ | ⟨g', cap, cur, rfl, hb, hh, _⟩
  · simp [Value.ownBlock] at hg
  · simp [Value.ownBlock] at hg; subst hg; exact ⟨hb, cur, hh⟩

theorem zr_step {w wr w2 : World} {Z : Nat} {xs : List ByteArray} {v : Value} {F : Nat → Nat} {k g cap : Nat} (h : ZrAt w wr Z xs v F k) (s : ByteArray) (hs : nth xs k = s)
    (hown : w2.ownsRow (Z + 1) 31 1 (.slice (some ⟨g, 0, none⟩) (k + 1) cap) (k + 1) (ptrs F k ++ [hp wr.heap.size]))
    (hgrow : ((wr.alloc (.cells (fileCells s) 62)).alloc (.cells #[hp wr.heap.size] 31)).grownBy w2 v.ownBlock) :
    ZrAt w (w2.setCell ⟨Z, 1, none⟩ (.slice (some ⟨g, 0, none⟩) (k + 1) cap)) Z xs (.slice (some ⟨g, 0, none⟩) (k + 1) cap) (fun j => if j = k then wr.heap.size else F j) (k + 1) := by
  have lZ := lt_of_heap h.zr
  have sz : ((wr.alloc (.cells (fileCells s) 62)).alloc (.cells #[hp wr.heap.size] 31)).heap.size = wr.heap.size + 2 := by simp
  have hsize := hgrow.size
  rw [sz] at hsize
  have old : ∀ i, i < wr.heap.size → some i ≠ v.ownBlock → w2.heap[i]? = wr.heap[i]? := fun i hi hne => by
    rw [hgrow.block i (by omega) hne, Below.heap_alloc _ _ _ (by simp; omega), Below.heap_alloc _ _ _ hi]
  have nZ : some Z ≠ v.ownBlock := fun e => by have := (own_block h.owns e.symm).1; omega
  have ltF : ∀ j, j < k → F j < wr.heap.size := fun j hj => lt_of_heap (h.files j hj)
  have nF : ∀ j, j < k → some (F j) ≠ v.ownBlock := fun j hj e => by
    obtain ⟨_, cur, e2⟩ := own_block h.owns e.symm
    rw [h.files j hj] at e2
    injection e2 with e2; injection e2 with _ e2 _; cases e2
  have nN : some wr.heap.size ≠ v.ownBlock := fun e => by
    obtain ⟨_, cur, e2⟩ := own_block h.owns e.symm
    have := lt_of_heap e2; omega
  have newF : w2.heap[wr.heap.size]? = some (.cells (fileCells s) 62 (0, 0)) := by
    rw [hgrow.block _ (by rw [sz]; omega) nN]; exact heap_alloc2_old wr _ _
  refine ⟨?_, h.hZ, ?_, ?_, ?_, ?_, ?_⟩
  · refine Below.setCell (h.below.trans ?_) h.hZ _
    refine ⟨hgrow.os, hgrow.tape, hgrow.output, by omega, fun i hi => old i ?_ ?_⟩
    · have := h.below.size; omega
    · intro e
      have := (own_block h.owns e.symm).1
      have := h.hZ
      omega
  · rw [heap_setCell_same w2 Z 1 (zrCells v) 51 _ (by rw [old Z lZ nZ]; exact h.zr)]; rfl
  · have e1 : ptrs (fun j => if j = k then wr.heap.size else F j) (k + 1) = ptrs F k ++ [hp wr.heap.size] := by
      rw [ptrs_succ, if_pos rfl, ptrs_congr (G := F) (fun j hj => by rw [if_neg (by omega)])]
    rw [e1]
    exact ownsRow_setCell_below hown (by simp) _
  · intro j hj
    by_cases hjk : j = k
    · subst hjk
      simp only [if_true]
      rw [Below.heap_setCell _ _ _ _ (by simp; omega), hs]; exact newF
    · simp only [if_neg hjk]
      have := h.lo j (by omega)
      rw [Below.heap_setCell _ _ _ _ (by simp; omega), old _ (ltF j (by omega)) (nF j (by omega))]; exact h.files j (by omega)
  · intro i j hi hj e
    by_cases hik : i = k
    · by_cases hjk : j = k
      · omega
      · simp only [if_pos hik, if_neg hjk] at e
        have := ltF j (by omega); omega
    · by_cases hjk : j = k
      · simp only [if_neg hik, if_pos hjk] at e
        have := ltF i (by omega); omega
      · simp only [if_neg hik, if_neg hjk] at e
        exact h.apart i j (by omega) (by omega) e
  · intro j hj
    by_cases hjk : j = k
    · simp only [if_pos hjk]; omega
    · simp only [if_neg hjk]; exact h.lo j (by omega)

theorem zr_start (w : World) (xs : List ByteArray) : ZrAt w (w.alloc (.cells (zrCells (.slice none 0 0)) 51)) w.heap.size xs (.slice none 0 0) (fun _ => 0) 0 where
  below := (Below.refl _ w).alloc (Nat.le_refl _) _
  hZ := Nat.le_refl _
  zr := heap_alloc_new w _
  owns := World.ownsRow_nil _ _ _ _
  files := fun j hj => by omega
  apart := fun i j hi => by omega
  lo := fun j hj => by omega

theorem zr_mid {w wr w2 : World} {Z : Nat} {xs : List ByteArray} {v : Value} {F : Nat → Nat} {k : Nat} (h : ZrAt w wr Z xs v F k) {A B : Obj} (hgrow : ((wr.alloc A).alloc B).grownBy w2 v.ownBlock) :
    w2.cell? ⟨Z, 1, none⟩ = some v ∧ w2.frozen? ⟨Z, 1, none⟩ = false := by
  have lZ := lt_of_heap h.zr
  have nZ : some Z ≠ v.ownBlock := fun e => by have := (own_block h.owns e.symm).1; omega
  have e : w2.heap[Z]? = wr.heap[Z]? := by
    rw [hgrow.block Z (by simp; omega) nZ, Below.heap_alloc _ _ _ (by simp; omega), Below.heap_alloc _ _ _ lZ]
  exact ⟨(World.cell?_of_block (w := wr) (a := ⟨Z, 1, none⟩) e).trans h.cell, (World.frozen?_of_block (w := wr) (a := ⟨Z, 1, none⟩) e).trans h.frozen⟩

theorem new2 (w : World) (A : Obj) (x : Value) (t : TypeId) : ∀ j u, [x][j]? = some u → ((w.alloc A).alloc (.cells #[x] t)).cell? ((⟨w.heap.size + 1, 0, none⟩ : Addr).add j) = some u := by
  have := cell_one_new (w.alloc A) x t
  rwa [World.size_alloc] at this

set_option maxHeartbeats 2000000 in
theorem newZip_pos (b o n q : Nat) (xs : List ByteArray) (w : World) (hn : n ≤ 1048576) (hc : ∀ j, j < n → w.cell? ⟨b, o + j, none⟩ = some (.string (nth xs j))) :
    Calls Try.prog 16 #[.slice (some ⟨b, o, none⟩) n q] w fun e w' => e = .returned (hp w.heap.size) ∧ ∃ v F, ZrAt w w' w.heap.size xs v F n := by
  have HC := hidMk hc
  clear hc
  obtain ⟨i0, hi, hz0, hz1, hz2⟩ := info_parts info31
  have HI := hidMk hi
  clear hi
  go_enter Try.func16, Try.ntmps16
  go_wp2
  go_loopw [10] (fun i wr => ∃ (k : Nat) (v : Value) (F : Nat → Nat), i = .int .i64 k ∧ k ≤ n ∧ ZrAt w wr w.heap.size xs v F k) (fun i _ => n - (intOf i).toNat)
  case atStart => exact ⟨0, _, _, rfl, by omega, zr_start w xs⟩
  case round =>
    obtain ⟨k, v, F, rfl, hk, hZ⟩ := hrel
    by_cases hlt : k < n
    · have k0 : (0 : Int) ≤ (k : Int) := by omega
      have k1 : (k : Int) < (n : Int) := by omega
      obtain ⟨s, hs⟩ : ∃ s, nth xs k = s := ⟨_, rfl⟩
      have c0 := HC.out k hlt
      have c1 := (hZ.below.cell (p := ⟨b, o + k, none⟩) (World.block_lt_of_cell? _ _ c0)).trans c0
      rw [hs] at c1
      have cz := hZ.cell
      have HZ := hidMk hZ
      have HS := hidMk hs
      have lz := lt_of_heap hZ.zr
      clear c0 hZ hs
      go_wp2_with (first | (at_builtin; refine wpList_append_lies _ rfl _ _ _ rfl (w.heap.size + 1) 31 i0 (.pointer none) 1 8 Try.underlying35 HI.out hz0 hz1 hz2 rfl (by omega) v k (ptrs F k) rfl ((HZ.out.owns.alloc _).alloc _) ⟨wr.heap.size + 1, 0, none⟩ 1 1 [hp wr.heap.size] rfl rfl (new2 _ _ _ _) (fun u hu => by simp at hu; subst hu; rfl) (by omega) (by unfold maxLen; omega) (by omega) (by simp; omega) (wr.heap.size + 2) (by simp) ?_; intro g cap w2 hown hgrow hat hglt; obtain ⟨cz2, fz2⟩ := zr_mid HZ.out hgrow; have HO := hidMk hown; have HG := hidMk hgrow; clear hown hgrow hat hglt cz))
      exact ⟨⟨k + 1, _, _, by go_num, by omega, zr_step HZ.out s HS.out HO.out HG.out⟩, by simp [intOf]; omega⟩
    · have hkn : k = n := by omega
      subst hkn
      have HZ := hidMk hZ
      clear hZ
      go_wp2_with fail
      go_ret
      exact ⟨rfl, v, F, HZ.out⟩

set_option maxHeartbeats 1000000 in
theorem newZip_zero (a0 : Option Addr) (q : Nat) (xs : List ByteArray) (w : World) :
    Calls Try.prog 16 #[.slice a0 0 q] w fun e w' => e = .returned (hp w.heap.size) ∧ ∃ v F, ZrAt w w' w.heap.size xs v F 0 := by
  go_enter Try.func16, Try.ntmps16
  go_wp2
  go_loopw [10] (fun i wr => i = .int .i64 0 ∧ wr = w.alloc (.cells (zrCells (.slice none 0 0)) 51)) (fun _ _ => 0)
  case atStart => exact ⟨rfl, rfl⟩
  case round =>
    obtain ⟨rfl, rfl⟩ := hrel
    go_wp2_with fail
    go_ret
    exact ⟨rfl, _, _, zr_start w xs⟩

theorem newZip_any (a0 : Option Addr) (q : Nat) (xs : List ByteArray) (w : World) (hn : xs.length ≤ 1048576) (hc : StrRow w a0 xs) :
    Calls Try.prog 16 #[.slice a0 xs.length q] w fun e w' => e = .returned (hp w.heap.size) ∧ ∃ v F, ZrAt w w' w.heap.size xs v F xs.length := by
  rcases Nat.eq_zero_or_pos xs.length with h | h
  · rw [h]; exact newZip_zero a0 q xs w
  · obtain ⟨b, o, rfl, k⟩ := hc h
    exact newZip_pos b o xs.length q xs w hn k

/-- A reader as it lies in memory, ready to be read: 'a', 'cap' its list. -/
structure Zr (w : World) (Z n : Nat) (xs : List ByteArray) (a : Option Addr) (cap : Nat) (F : Nat → Nat) : Prop where
  len : xs.length = n
  cell : w.cell? ⟨Z, 1, none⟩ = some (.slice a n cap)
  row : 0 < n → ∃ g, a = some ⟨g, 0, none⟩ ∧ ∀ j, j < n → w.cell? ⟨g, j, none⟩ = some (hp (F j))
  files : ∀ j, j < n → w.heap[F j]? = some (.cells (fileCells (nth xs j)) 62 (0, 0))
  apart : ∀ i j, i < n → j < n → F i = F j → i = j

theorem Zr.below {w w' : World} {Z n : Nat} {xs : List ByteArray} {a : Option Addr} {cap : Nat} {F : Nat → Nat} (h : Zr w Z n xs a cap F) (hb : Below w.heap.size w w') : Zr w' Z n xs a cap F where
  len := h.len
  cell := (hb.cell (p := ⟨Z, 1, none⟩) (World.block_lt_of_cell? _ _ h.cell)).trans h.cell
  row := fun hp => by
    obtain ⟨g, ha, hc⟩ := h.row hp
    exact ⟨g, ha, fun j hj => (hb.cell (p := ⟨g, j, none⟩) (World.block_lt_of_cell? _ _ (hc j hj))).trans (hc j hj)⟩
  files := fun j hj => by rw [hb.block _ (lt_of_heap (h.files j hj))]; exact h.files j hj
  apart := h.apart

theorem ptrs_at (F : Nat → Nat) (k j : Nat) (h : j < k) : (ptrs F k)[j]? = some (hp (F j)) := by simp [ptrs, h]

theorem ZrAt.done {w wr : World} {Z : Nat} {xs : List ByteArray} {v : Value} {F : Nat → Nat} (h : ZrAt w wr Z xs v F xs.length) : ∃ a cap, Zr wr Z xs.length xs a cap F := by
  have hc := h.cell
  obtain ⟨_, h2⟩ := h.owns
  rcases h2 with ⟨rfl, hn⟩ | ⟨g, cap, cur, rfl, hb, hh, hnc, _, hsz, htk⟩
  · refine ⟨none, 0, rfl, by rw [hn]; exact hc, fun hp => by omega, h.files, h.apart⟩
  · refine ⟨some ⟨g, 0, none⟩, cap, rfl, hc, fun _ => ⟨g, rfl, fun j hj => ?_⟩, h.files, h.apart⟩
    rw [cell_of_row wr g j cur 31 (0, 0) hh]
    have e := congrArg (fun l => l[j]?) htk
    simp only [Nat.mul_one] at e
    rw [List.getElem?_take_of_lt hj, ptrs_at F _ j hj] at e
    simpa using e

/-- The file that was found, or nil. -/
def ptrOf (F : Nat → Nat) : Option Nat → Value
  | some i => hp (F i)
  | none => .pointer none

set_option maxHeartbeats 1000000 in
theorem entryNamed_pos (Z n g cap : Nat) (F : Nat → Nat) (xs : List ByteArray) (x : ByteArray) (w : World) (hn : n ≤ 1048576) (hz : Zr w Z n xs (some ⟨g, 0, none⟩) cap F) (hc : ∀ j, j < n → w.cell? ⟨g, j, none⟩ = some (hp (F j))) :
    Calls Try.prog 30 #[hp Z, .string x] w fun e w' => e = .returned (ptrOf F (ix x xs)) ∧ w' = w := by
  have cz := hz.cell
  have HZ := hidMk hz
  have HC := hidMk hc
  clear hz hc
  go_enter Try.func30, Try.ntmps30
  go_wp2
  go_loop [12] (fun i => ∃ k : Nat, i = .int .i64 k ∧ k ≤ n ∧ Hid (∀ j, j < k → nth xs j ≠ x)) (fun i => n - (intOf i).toNat)
  case atStart => exact ⟨0, rfl, by omega, hidMk (fun j hj => by omega)⟩
  case round =>
    obtain ⟨k, rfl, hk, hno⟩ := hrel
    by_cases hlt : k < n
    · have k0 : (0 : Int) ≤ (k : Int) := by omega
      have k1 : (k : Int) < (n : Int) := by omega
      obtain ⟨y, hy⟩ : ∃ y, nth xs k = y := ⟨_, rfl⟩
      have c0 := HC.out k hlt
      have c1 : w.cell? ⟨F k, 0, none⟩ = some (.string y) := by rw [cell_of_row w (F k) 0 _ 62 (0, 0) (HZ.out.files k hlt), hy]; rfl
      by_cases hq : y = x
      · have H : Hid (ix x xs = some k) := hidMk (ix_of (by rw [HZ.out.len]; exact hlt) (hy.trans hq) hno.out)
        have hb := same_yes hq
        clear hq hy
        go_wp2_with fail
        go_ret
        exact ⟨by rw [H.out]; rfl, rfl⟩
      · have hb := same_no hq
        have hno' : Hid (∀ j, j < k + 1 → nth xs j ≠ x) := hidMk (fun j hj => by
          rcases Nat.lt_succ_iff_lt_or_eq.1 hj with h | h
          · exact hno.out j h
          · subst h; rw [hy]; exact hq)
        clear hq hy
        go_wp2_with fail
        go_round
        case rel => exact ⟨k + 1, by go_num, by omega, hno'⟩
        case measure => simp [intOf]; omega
    · have hkn : k = n := by omega
      subst hkn
      have H : Hid (ix x xs = none) := hidMk (ix_none (fun j hj => hno.out j (by rw [← HZ.out.len]; exact hj)))
      go_wp2_with fail
      go_ret
      exact ⟨by rw [H.out]; rfl, rfl⟩

set_option maxHeartbeats 400000 in
theorem entryNamed_zero (Z cap : Nat) (a : Option Addr) (x : ByteArray) (w : World) (cz : w.cell? ⟨Z, 1, none⟩ = some (.slice a 0 cap)) :
    Calls Try.prog 30 #[hp Z, .string x] w fun e w' => e = .returned (.pointer none) ∧ w' = w := by
  go_enter Try.func30, Try.ntmps30
  go_wp2
  go_loop [12] (fun i => i = .int .i64 0) (fun _ => 0)
  case atStart => exact rfl
  case round =>
    obtain rfl := hrel
    go_wp2_with fail
    go_ret
    exact ⟨rfl, rfl⟩

theorem entryNamed_any (Z n cap : Nat) (a : Option Addr) (F : Nat → Nat) (xs : List ByteArray) (x : ByteArray) (w : World) (hn : n ≤ 1048576) (hz : Zr w Z n xs a cap F) :
    Calls Try.prog 30 #[hp Z, .string x] w fun e w' => e = .returned (ptrOf F (ix x xs)) ∧ w' = w := by
  rcases Nat.eq_zero_or_pos n with h | h
  · have hx : xs = [] := List.eq_nil_of_length_eq_zero (by rw [hz.len]; exact h)
    have cz := hz.cell
    rw [h] at cz
    subst hx
    exact entryNamed_zero Z cap a x w cz
  · obtain ⟨g, rfl, hc⟩ := hz.row h
    exact entryNamed_pos Z n g cap F xs x w hn hz hc

set_option maxHeartbeats 400000 in
theorem zzEntryNamed_any (Z n cap : Nat) (a : Option Addr) (F : Nat → Nat) (xs : List ByteArray) (x : ByteArray) (w : World) (hn : n ≤ 1048576) (hz : Zr w Z n xs a cap F) :
    Calls Try.prog 17 #[hp Z, .string x] w fun e w' => e = .returned (ptrOf F (ix x xs)) ∧ w' = w := by
  have HZ := hidMk hz
  clear hz
  go_enter Try.func17, Try.ntmps17
  go_wp2_with fail
  refine (entryNamed_any Z n cap a F xs x _ hn HZ.out).mono ?_
  rintro e w' ⟨rfl, hw⟩
  have hw2 := hw.symm
  subst hw2
  clear hw
  go_wp2_with fail
  go_ret
  exact ⟨rfl, rfl⟩
end Go.Proofs.Qxb6616617a
