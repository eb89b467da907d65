import Derived.Test.Qxb6616435aBack
import Derived.Laws.BytesString
namespace Go.Proofs.Qxb6616435a
open Go.RowKit

/-- Twenty bytes in a row. -/
def bytesRow (ns : List Int) : Array Value := (ns.map (Value.int .u8)).toArray

theorem bytesRow_size (ns : List Int) : (bytesRow ns).size = ns.length := by simp [bytesRow]
theorem bytesRow_set (ns : List Int) (i : Nat) (x : Int) : (bytesRow ns).setIfInBounds i (.int .u8 x) = bytesRow (ns.set i x) := by
  apply Array.ext'
  simp [bytesRow, List.map_set]
theorem bytesRow_zero : bytesRow (List.replicate 20 0) = #[.int .u8 0, .int .u8 0, .int .u8 0, .int .u8 0, .int .u8 0, .int .u8 0, .int .u8 0, .int .u8 0, .int .u8 0, .int .u8 0, .int .u8 0, .int .u8 0, .int .u8 0, .int .u8 0, .int .u8 0, .int .u8 0, .int .u8 0, .int .u8 0, .int .u8 0, .int .u8 0] := by rfl

set_option maxHeartbeats 400000 in
theorem itoa_zero (w : World) : Calls Try.prog 27 #[.int .i64 0] w fun e w' => (∃ s, e = .returned (.string s) ∧ s.size ≤ 20) ∧ Below w.heap.size w w' := by
  go_enter Try.func27, Try.ntmps27
  go_wp2
  go_ret
  exact ⟨⟨_, rfl, by decide⟩, Below.refl _ _⟩

theorem push_size : ∀ (ns : List Int) (r : ByteArray), (ns.foldl (fun r n => r.push (UInt8.ofNat n.toNat)) r).size = r.size + ns.length
  | [], r => rfl
  | n :: ns, r => by
    rw [List.foldl_cons, push_size ns]
    have : (r.push (UInt8.ofNat n.toNat)).size = r.size + 1 := Array.size_push ..
    rw [this, List.length_cons]; omega

/-- 'string(buf[k:])': some string of at most twenty bytes. -/
theorem conv_row (w : World) (ns : List Int) (k : Nat) (hns : ns.length = 20) (hk : k ≤ 20) :
    ∃ s : ByteArray, (convert 27 9 (.slice (some ⟨w.heap.size, k, none⟩) (20 - k) (20 - k))).run Try.prog (w.alloc (.cells (bytesRow ns) 84)) = .ok (.string s) (w.alloc (.cells (bytesRow ns) 84)) ∧ s.size ≤ 20 := by
  have hlen : (ns.drop k).length = 20 - k := by simp [hns]
  have hl := run_loadCells_list (P := Try.prog) (w.alloc (.cells (bytesRow ns) 84)) ⟨w.heap.size, k, none⟩ ((ns.drop k).map (Value.int .u8)) (fun j v hv => by
    have hadd : (⟨w.heap.size, k, none⟩ : Addr).add j = ⟨w.heap.size, k + j, none⟩ := by unfold Addr.add; split <;> simp_all
    rw [hadd, cell_of_row _ _ (k + j) (bytesRow ns) 84 (0, 0) (heap_alloc_new w _)]
    simpa [bytesRow, List.getElem?_drop] using hv)
  rw [List.length_map, hlen] at hl
  refine ⟨(ns.drop k).foldl (fun r n => r.push (UInt8.ofNat n.toNat)) ByteArray.empty, ?_, ?_⟩
  · rw [run_convert_bytes_string _ 27 9 5 _ _ _ Try.underlying27 Try.underlying5 Try.underlying9]
    exact run_bytesToString _ _ _ _ (ns.drop k) hl
  · rw [push_size, hlen]; show 0 + (20 - k) ≤ 20; omega

theorem slice_row (w : World) (b k : Nat) (hk : k < 20) :
    (Instr.sliceAt 84 (.pointer (some ⟨b, 0, none⟩)) (some (.int .i64 (k : Int))) none none).run Try.prog w = .ok (.slice (some ⟨b, k, none⟩) (20 - k) (20 - k)) w := by
  have hu : Try.prog.underlying 84 = some (.array 20 5) := Try.underlying84
  have h1 : (k : Int) ≤ 20 := by omega
  have h2 : ¬ (20 = k) := by omega
  have hadd : (⟨b, 0, none⟩ : Addr).add k = ⟨b, k, none⟩ := by unfold Addr.add; split <;> simp_all
  simp [Instr.sliceAt, Instr.sureAddr, run_underlying hu, Instr.sliceBounds, run_sliceBound, h1, h2, hadd]

set_option maxHeartbeats 1000000 in
theorem itoa_pos (n : Nat) (h0 : 0 < n) (h1 : n < 256) (w : World) : Calls Try.prog 27 #[.int .i64 (n : Int)] w fun e w' => (∃ s, e = .returned (.string s) ∧ s.size ≤ 20) ∧ Below w.heap.size w w' := by
  have hz : ((n : Int) == 0) = false := by simp; omega
  go_enter Try.func27, Try.ntmps27
  go_wp2
  rw [← bytesRow_zero]
  go_loopw [0, 4] (fun a i wr => ∃ (q k : Nat) (ns : List Int), a = .int .i64 q ∧ i = .int .i64 k ∧ ns.length = 20 ∧ wr = w.alloc (.cells (bytesRow ns) 84) ∧ ((k = 20 ∧ q = n) ∨ (k = 19 ∧ q < 100) ∨ (k = 18 ∧ q < 10) ∨ (k = 17 ∧ q < 1))) (fun a _ _ => (intOf a).toNat)
  case atStart => exact ⟨n, 20, List.replicate 20 0, rfl, rfl, rfl, rfl, .inl ⟨rfl, rfl⟩⟩
  case round =>
    obtain ⟨q, k, ns, rfl, rfl, hns, rfl, hk⟩ := hrel
    have hsz := bytesRow_size ns
    by_cases hq : 0 < q
    · have hk1 : 1 ≤ k := by omega
      have hk2 : k ≤ 20 := by omega
      have hk3 : k - 1 < 20 := by omega
      have hq2 : q < 256 := by omega
      have HK := hidMk hk
      clear hk
      go_wp2
      refine ⟨⟨q / 10, k - 1, ns.set (k - 1) (48 + (q : Int) % 10), ?_, ?_, by simp [hns], by rw [bytesRow_set], ?_⟩, by simp [intOf]; omega⟩
      · congr 1
      · congr 1; omega
      · have hk := HK.out; omega
    · have hk1 : 17 ≤ k := by omega
      have hk2 : k ≤ 20 := by omega
      have hk3 : k < 20 := by omega
      have hq0 : q = 0 := by omega
      have hsl := slice_row (w.alloc (.cells (bytesRow ns) 84)) w.heap.size k hk3
      subst hq0
      clear hk hq
      obtain ⟨s, hcv, hs⟩ := conv_row w ns k hns hk2
      have HS := hidMk hs
      clear hs
      go_wp2
      go_ret
      exact ⟨⟨s, rfl, HS.out⟩, (Below.refl _ _).alloc (Nat.le_refl _) _⟩
end Go.Proofs.Qxb6616435a
