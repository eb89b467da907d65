import Derived.Test.Qxb6619005aTypes
namespace Go.Proofs.Qxb6619005a
open Go.RowKit

theorem run_eql_f (k : FloatKind) (t : TypeId) (n : Nat) (w : World) : ∃ b : Bool, (binOp .eql t (.float k n) (.float k n)).run Try.prog w = .ok (.bool b) w ∧ (binOp .neq t (.float k n) (.float k n)).run Try.prog w = .ok (.bool (!b)) w := by
  refine ⟨(k.format.order n n == some Ordering.eq), ?_, ?_⟩
  · simp [binOp, Op.floatCmp]
  · simp [binOp, Op.floatCmp, bne]

theorem f64_same (n : Nat) (w : World) : Calls Try.prog 40 #[.float .f64 n, .float .f64 n] w fun e w' => e = .returned (.bool true) ∧ w' = w := by
  obtain ⟨b, h1, h2⟩ := run_eql_f .f64 22 n w
  cases b
  · go_enter Try.func40, Try.ntmps40
    go_wp2_with fail
    go_ret
    exact ⟨rfl, rfl⟩
  · go_enter Try.func40, Try.ntmps40
    go_wp2_with fail
    go_ret
    exact ⟨rfl, rfl⟩
theorem f32_same (n : Nat) (w : World) : Calls Try.prog 41 #[.float .f32 n, .float .f32 n] w fun e w' => e = .returned (.bool true) ∧ w' = w := by
  obtain ⟨b, h1, h2⟩ := run_eql_f .f32 23 n w
  cases b
  · go_enter Try.func41, Try.ntmps41
    go_wp2_with fail
    go_ret
    exact ⟨rfl, rfl⟩
  · go_enter Try.func41, Try.ntmps41
    go_wp2_with fail
    go_ret
    exact ⟨rfl, rfl⟩

theorem heap2 (w : World) (o1 o2 : Obj) : ((w.alloc o1).alloc o2).heap[w.heap.size + 1]? = some o2 := by
  have := heap_alloc_new (w.alloc o1) o2
  simpa using this
theorem info71 : (Try.prog.info? 71).map (·.size) = some 2 := by kernel_rfl
theorem info63 : (Try.prog.info? 63).map (·.size) = some 2 := by kernel_rfl
theorem toEnd_any (c0 c1 : Int) (w : World) : Calls Try.prog 13 #[.agg #[.int .u8 c0, .int .u8 c1]] w fun e w' => e = .returned (.agg #[.int .u8 c0, .int .u8 c1]) ∧ Below w.heap.size w w' := by
  go_enter Try.func13, Try.ntmps13
  go_wp2_with fail
  refine bodyPost_ret (results_cell_row rfl _ _ (w.heap.size + 1) 71 #[.int .u8 c0, .int .u8 c1] (0, 0) _ rfl (heap2 w _ _) Try.underlying71 rfl info71) rfl ⟨rfl, ?_⟩
  exact ((Below.refl _ w).alloc (Nat.le_refl _) _).alloc (by simp) _
theorem fromEnd_any (c0 c1 : Int) (w : World) : Calls Try.prog 14 #[.agg #[.int .u8 c0, .int .u8 c1]] w fun e w' => e = .returned (.agg #[.int .u8 c0, .int .u8 c1]) ∧ Below w.heap.size w w' := by
  go_enter Try.func14, Try.ntmps14
  go_wp2_with fail
  refine bodyPost_ret (results_cell_row rfl _ _ (w.heap.size + 1) 63 #[.int .u8 c0, .int .u8 c1] (0, 0) _ rfl (heap2 w _ _) Try.underlying63 rfl info63) rfl ⟨rfl, ?_⟩
  exact ((Below.refl _ w).alloc (Nat.le_refl _) _).alloc (by simp) _

/-- Does the record name the start? -/
def Sd.hits (d : Sd) (s : St) : Bool := decide (d.rn = s.rn ∧ d.rd = s.rd ∧ d.ty = s.ty)
def Rd.hits (d : Rd) (s : Rw) : Bool := decide (d.sf = s.sf ∧ (d.pn = s.pn ∧ d.pd = s.pd) ∧ d.sn = s.sn ∧ d.sd = s.sd)
def Fd.hits (d : Fd) (s : Cm) : Bool := decide (d.ty = s.ty ∧ d.fr = s.fr)

theorem kindGoes_some (b bo : Nat) (f m : Int) (w : World) (h : w.cell? ⟨b, bo, none⟩ = some (.int .u16 f)) : Calls Try.prog 39 #[.pointer (some ⟨b, bo, none⟩), .int .u16 m] w fun e w' => e = .returned (.bool (bits .and .u16 f m != 0)) ∧ w' = w := by
  go_enter Try.func39, Try.ntmps39
  go_wp2_with fail
  go_ret
  exact ⟨rfl, rfl⟩
theorem kindGoes_none (m : Int) (w : World) : Calls Try.prog 39 #[.pointer none, .int .u16 m] w fun e w' => e = .returned (.bool false) ∧ w' = w := by
  go_enter Try.func39, Try.ntmps39
  go_wp2_with fail
  go_ret
  exact ⟨rfl, rfl⟩

theorem sd_matches (d : Sd) (s : St) (w : World) : Calls Try.prog 18 #[.agg d.a.toArray, .agg s.a.toArray] w fun e w' => e = .returned (.bool (d.hits s)) ∧ Below w.heap.size w w' := by
  obtain ⟨d1, d2, d3⟩ := d
  obtain ⟨s1, s2, s3, s4, s5, s6, s7⟩ := s
  simp only [Sd.a, St.a, Sd.hits]
  have HB : ∀ o1 o2, Hid (Below w.heap.size w ((w.alloc o1).alloc o2)) := fun o1 o2 => hidMk (((Below.refl _ w).alloc (Nat.le_refl _) _).alloc (by simp) _)
  go_enter Try.func18, Try.ntmps18
  go_wp2_with fail
  all_goals
    go_ret
    refine ⟨congrArg Ending.returned (congrArg Value.bool ?_), (HB _ _).out⟩
    rw [Bool.eq_iff_iff]
    simp
    try omega
theorem fd_matches (d : Fd) (s : Cm) (w : World) : Calls Try.prog 20 #[.agg d.a.toArray, .agg s.a.toArray] w fun e w' => e = .returned (.bool (d.hits s)) ∧ Below w.heap.size w w' := by
  obtain ⟨d1, d2⟩ := d
  obtain ⟨s1, s2, s3⟩ := s
  simp only [Fd.a, Cm.a, Fd.hits]
  have HB : ∀ o1 o2, Hid (Below w.heap.size w ((w.alloc o1).alloc o2)) := fun o1 o2 => hidMk (((Below.refl _ w).alloc (Nat.le_refl _) _).alloc (by simp) _)
  go_enter Try.func20, Try.ntmps20
  go_wp2_with fail
  all_goals
    go_ret
    refine ⟨congrArg Ending.returned (congrArg Value.bool ?_), (HB _ _).out⟩
    rw [Bool.eq_iff_iff]
    simp
    try omega
theorem rd_matches (d : Rd) (s : Rw) (w : World) : Calls Try.prog 16 #[.agg d.a.toArray, .agg s.a.toArray] w fun e w' => e = .returned (.bool (d.hits s)) ∧ Below w.heap.size w w' := by
  obtain ⟨d1, d2, d3, d4, d5⟩ := d
  obtain ⟨s1, s2, s3, s4, s5, s6, s7, s8, s9, s10, s11, s12⟩ := s
  simp only [Rd.a, Rw.a, Rd.hits]
  have HB : ∀ o1 o2, Hid (Below w.heap.size w ((w.alloc o1).alloc o2)) := fun o1 o2 => hidMk (((Below.refl _ w).alloc (Nat.le_refl _) _).alloc (by simp) _)
  go_enter Try.func16, Try.ntmps16
  go_wp2_with fail
  all_goals
    go_ret
    refine ⟨congrArg Ending.returned (congrArg Value.bool ?_), (HB _ _).out⟩
    rw [Bool.eq_iff_iff]
    simp
    try omega
end Go.Proofs.Qxb6619005a
