import Derived.Test.Qxb6619005aRows
import Derived.WalkKit
import Derived.WalkSpells
import Derived.Deep.MidRow
import Derived.Deep.WholeRow
namespace Go.Proofs.Qxb6619005a
open Go.RowKit

theorem hidMk {p : Prop} (h : p) : Hid p := h

/-- A slice's head. -/
structure Sl where
  a : Option Addr
  n : Nat
  c : Nat

structure Rw where
  pn : Int
  pd : Int
  sn : Int
  sd : Int
  sf : Int
  la : Nat
  lo : Nat
  el : Nat
  ln : Nat
  wd : Nat
  hd : Nat
  pa : Nat
def Rw.z (x : Rw) : List Value := [.int .u8 x.pn, .int .u8 x.pd, .int .u8 x.sn, .int .u8 x.sd, .int .u16 x.sf, .float .f64 x.la, .float .f64 x.lo, .float .f64 x.el, .float .f32 x.ln, .float .f32 x.wd, .float .f32 x.hd, .float .f32 x.pa]
def Rw.a (x : Rw) : List Value := [.int .u8 x.pn, .int .u8 x.pd, .float .f64 0, .float .f64 0, .float .f32 0, .float .f32 0, .string ⟨#[]⟩, .int .u16 0, .float .f32 0, .float .f32 0, .int .u16 0, .float .f32 0, .float .f32 0, .int .u16 0, .float .f32 0, .float .f32 0, .bool false, .bool false, .bool false, .int .u8 0, .pointer none, .slice none 0 0, .int .u8 x.sn, .int .u8 x.sd, .float .f64 0, .float .f64 0, .float .f32 0, .float .f32 0, .string ⟨#[]⟩, .int .u16 0, .float .f32 0, .float .f32 0, .int .u16 0, .float .f32 0, .float .f32 0, .int .u16 0, .float .f32 0, .float .f32 0, .bool false, .bool false, .bool false, .int .u8 0, .pointer none, .slice none 0 0, .int .u16 x.sf, .float .f64 x.la, .float .f64 x.lo, .float .f64 x.el, .float .f32 x.ln, .float .f32 x.wd, .float .f32 x.hd, .float .f32 x.pa]
theorem Rw.z_len (x : Rw) : x.z.length = 12 := rfl
theorem Rw.a_len (x : Rw) : x.a.length = 52 := rfl
theorem Rw.z_one (x : Rw) : ∀ v ∈ x.z, v.oneCell' = true := fun v hv => by
  have h : x.z.all (·.oneCell') = true := rfl
  exact List.all_eq_true.1 h v hv
theorem Rw.a_one (x : Rw) : ∀ v ∈ x.a, v.oneCell' = true := fun v hv => by
  have h : x.a.all (·.oneCell') = true := rfl
  exact List.all_eq_true.1 h v hv
theorem info68 : (Try.prog.info? 68).map (·.size) = some 12 := by kernel_rfl
theorem info82 : (Try.prog.info? 82).map (·.size) = some 52 := by kernel_rfl

structure St where
  rn : Int
  rd : Int
  ty : Int
  la : Nat
  lo : Nat
  el : Nat
  hd : Nat
def St.z (x : St) : List Value := [.int .u8 x.rn, .int .u8 x.rd, .int .u8 x.ty, .float .f64 x.la, .float .f64 x.lo, .float .f64 x.el, .float .f32 x.hd]
def St.a (x : St) : List Value := [.int .u8 x.rn, .int .u8 x.rd, .int .u8 x.ty, .float .f64 x.la, .float .f64 x.lo, .float .f64 x.el, .float .f32 x.hd]
theorem St.z_len (x : St) : x.z.length = 7 := rfl
theorem St.a_len (x : St) : x.a.length = 7 := rfl
theorem St.z_one (x : St) : ∀ v ∈ x.z, v.oneCell' = true := fun v hv => by
  have h : x.z.all (·.oneCell') = true := rfl
  exact List.all_eq_true.1 h v hv
theorem St.a_one (x : St) : ∀ v ∈ x.a, v.oneCell' = true := fun v hv => by
  have h : x.a.all (·.oneCell') = true := rfl
  exact List.all_eq_true.1 h v hv
theorem info84 : (Try.prog.info? 84).map (·.size) = some 7 := by kernel_rfl
theorem info87 : (Try.prog.info? 87).map (·.size) = some 7 := by kernel_rfl

structure Cm where
  ty : Int
  fr : Int
  nm : ByteArray
def Cm.z (x : Cm) : List Value := [.int .u16 x.ty, .int .u32 x.fr, .string x.nm]
def Cm.a (x : Cm) : List Value := [.int .u16 x.ty, .int .u32 x.fr, .string x.nm]
theorem Cm.z_len (x : Cm) : x.z.length = 3 := rfl
theorem Cm.a_len (x : Cm) : x.a.length = 3 := rfl
theorem Cm.z_one (x : Cm) : ∀ v ∈ x.z, v.oneCell' = true := fun v hv => by
  have h : x.z.all (·.oneCell') = true := rfl
  exact List.all_eq_true.1 h v hv
theorem Cm.a_one (x : Cm) : ∀ v ∈ x.a, v.oneCell' = true := fun v hv => by
  have h : x.a.all (·.oneCell') = true := rfl
  exact List.all_eq_true.1 h v hv
theorem info53 : (Try.prog.info? 53).map (·.size) = some 3 := by kernel_rfl
theorem info90 : (Try.prog.info? 90).map (·.size) = some 3 := by kernel_rfl

structure Hp where
  sf : Int
  ty : Int
  tr : Bool
  cl : Bool
  c0 : Int
  c1 : Int
  c2 : Int
  c3 : Int
  la : Nat
  lo : Nat
  el : Nat
  ln : Nat
  wd : Nat
  hd : Nat
def Hp.z (x : Hp) : List Value := [.int .u16 x.sf, .int .u8 x.ty, .bool x.tr, .bool x.cl, .int .u8 x.c0, .int .u8 x.c1, .int .u8 x.c2, .int .u8 x.c3, .float .f64 x.la, .float .f64 x.lo, .float .f64 x.el, .float .f32 x.ln, .float .f32 x.wd, .float .f32 x.hd]
def Hp.a (x : Hp) : List Value := [.int .u16 x.sf, .int .u8 x.ty, .bool x.tr, .bool x.cl, .int .u8 x.c0, .int .u8 x.c1, .int .u8 x.c2, .int .u8 x.c3, .float .f64 x.la, .float .f64 x.lo, .float .f64 x.el, .float .f32 x.ln, .float .f32 x.wd, .float .f32 x.hd]
theorem Hp.z_len (x : Hp) : x.z.length = 14 := rfl
theorem Hp.a_len (x : Hp) : x.a.length = 14 := rfl
theorem Hp.z_one (x : Hp) : ∀ v ∈ x.z, v.oneCell' = true := fun v hv => by
  have h : x.z.all (·.oneCell') = true := rfl
  exact List.all_eq_true.1 h v hv
theorem Hp.a_one (x : Hp) : ∀ v ∈ x.a, v.oneCell' = true := fun v hv => by
  have h : x.a.all (·.oneCell') = true := rfl
  exact List.all_eq_true.1 h v hv
theorem info93 : (Try.prog.info? 93).map (·.size) = some 14 := by kernel_rfl
theorem info96 : (Try.prog.info? 96).map (·.size) = some 14 := by kernel_rfl

structure Pk where
  nm : Int
  nu : Int
  ty : Int
  pb : Int
  ra : Nat
  hd : Nat
  la : Nat
  lo : Nat
  el : Nat
  co : Sl
def Pk.z (x : Pk) : List Value := [.int .u8 x.nm, .int .u16 x.nu, .int .u8 x.ty, .int .u8 x.pb, .float .f32 x.ra, .float .f32 x.hd, .float .f64 x.la, .float .f64 x.lo, .float .f64 x.el, .slice x.co.a x.co.n x.co.c]
def Pk.a (x : Pk) : List Value := [.int .u8 x.nm, .int .u16 x.nu, .int .u8 x.ty, .int .u8 x.pb, .float .f32 x.ra, .float .f32 x.hd, .float .f64 x.la, .float .f64 x.lo, .float .f64 x.el, .slice x.co.a x.co.n x.co.c]
theorem Pk.z_len (x : Pk) : x.z.length = 10 := rfl
theorem Pk.a_len (x : Pk) : x.a.length = 10 := rfl
theorem Pk.z_one (x : Pk) : ∀ v ∈ x.z, v.oneCell' = true := fun v hv => by
  have h : x.z.all (·.oneCell') = true := rfl
  exact List.all_eq_true.1 h v hv
theorem Pk.a_one (x : Pk) : ∀ v ∈ x.a, v.oneCell' = true := fun v hv => by
  have h : x.a.all (·.oneCell') = true := rfl
  exact List.all_eq_true.1 h v hv
theorem info61 : (Try.prog.info? 61).map (·.size) = some 10 := by kernel_rfl
theorem info119 : (Try.prog.info? 119).map (·.size) = some 10 := by kernel_rfl

structure Tp where
  ty : Int
  oi : Int
  la : Nat
  lo : Nat
  el : Nat
def Tp.z (x : Tp) : List Value := [.int .u8 x.ty, .int .u8 x.oi, .float .f64 x.la, .float .f64 x.lo, .float .f64 x.el]
def Tp.a (x : Tp) : List Value := [.int .u8 x.ty, .int .u8 x.oi, .float .f64 x.la, .float .f64 x.lo, .float .f64 x.el]
theorem Tp.z_len (x : Tp) : x.z.length = 5 := rfl
theorem Tp.a_len (x : Tp) : x.a.length = 5 := rfl
theorem Tp.z_one (x : Tp) : ∀ v ∈ x.z, v.oneCell' = true := fun v hv => by
  have h : x.z.all (·.oneCell') = true := rfl
  exact List.all_eq_true.1 h v hv
theorem Tp.a_one (x : Tp) : ∀ v ∈ x.a, v.oneCell' = true := fun v hv => by
  have h : x.a.all (·.oneCell') = true := rfl
  exact List.all_eq_true.1 h v hv
theorem info121 : (Try.prog.info? 121).map (·.size) = some 5 := by kernel_rfl
theorem info125 : (Try.prog.info? 125).map (·.size) = some 5 := by kernel_rfl

structure Pa where
  ty : Int
  st : Int
  en : Int
  rn : Int
  rd : Int
  nm : ByteArray
  sf : Int
  wd : Nat
def Pa.z (x : Pa) : List Value := [.int .u8 x.ty, .int .i64 x.st, .int .i64 x.en, .int .u8 x.rn, .int .u8 x.rd, .string x.nm, .int .u16 x.sf, .float .f32 x.wd]
def Pa.a (x : Pa) : List Value := [.int .u8 x.ty, .int .i64 x.st, .int .i64 x.en, .int .u8 x.rn, .int .u8 x.rd, .string x.nm, .int .u16 x.sf, .float .f32 x.wd]
theorem Pa.z_len (x : Pa) : x.z.length = 8 := rfl
theorem Pa.a_len (x : Pa) : x.a.length = 8 := rfl
theorem Pa.z_one (x : Pa) : ∀ v ∈ x.z, v.oneCell' = true := fun v hv => by
  have h : x.z.all (·.oneCell') = true := rfl
  exact List.all_eq_true.1 h v hv
theorem Pa.a_one (x : Pa) : ∀ v ∈ x.a, v.oneCell' = true := fun v hv => by
  have h : x.a.all (·.oneCell') = true := rfl
  exact List.all_eq_true.1 h v hv
theorem info65 : (Try.prog.info? 65).map (·.size) = some 8 := by kernel_rfl
theorem info128 : (Try.prog.info? 128).map (·.size) = some 8 := by kernel_rfl

structure Rd where
  sf : Int
  pn : Int
  pd : Int
  sn : Int
  sd : Int
def Rd.z (x : Rd) : List Value := [.int .u16 x.sf, .int .u8 x.pn, .int .u8 x.pd, .int .u8 x.sn, .int .u8 x.sd]
def Rd.a (x : Rd) : List Value := [.int .u16 x.sf, .int .u8 x.pn, .int .u8 x.pd, .int .u8 x.sn, .int .u8 x.sd]
theorem Rd.z_len (x : Rd) : x.z.length = 5 := rfl
theorem Rd.a_len (x : Rd) : x.a.length = 5 := rfl
theorem Rd.z_one (x : Rd) : ∀ v ∈ x.z, v.oneCell' = true := fun v hv => by
  have h : x.z.all (·.oneCell') = true := rfl
  exact List.all_eq_true.1 h v hv
theorem Rd.a_one (x : Rd) : ∀ v ∈ x.a, v.oneCell' = true := fun v hv => by
  have h : x.a.all (·.oneCell') = true := rfl
  exact List.all_eq_true.1 h v hv
theorem info104 : (Try.prog.info? 104).map (·.size) = some 5 := by kernel_rfl
theorem info106 : (Try.prog.info? 106).map (·.size) = some 5 := by kernel_rfl

structure Sd where
  rn : Int
  rd : Int
  ty : Int
def Sd.z (x : Sd) : List Value := [.int .u8 x.rn, .int .u8 x.rd, .int .u8 x.ty]
def Sd.a (x : Sd) : List Value := [.int .u8 x.rn, .int .u8 x.rd, .int .u8 x.ty]
theorem Sd.z_len (x : Sd) : x.z.length = 3 := rfl
theorem Sd.a_len (x : Sd) : x.a.length = 3 := rfl
theorem Sd.z_one (x : Sd) : ∀ v ∈ x.z, v.oneCell' = true := fun v hv => by
  have h : x.z.all (·.oneCell') = true := rfl
  exact List.all_eq_true.1 h v hv
theorem Sd.a_one (x : Sd) : ∀ v ∈ x.a, v.oneCell' = true := fun v hv => by
  have h : x.a.all (·.oneCell') = true := rfl
  exact List.all_eq_true.1 h v hv
theorem info108 : (Try.prog.info? 108).map (·.size) = some 3 := by kernel_rfl
theorem info110 : (Try.prog.info? 110).map (·.size) = some 3 := by kernel_rfl

structure Fd where
  ty : Int
  fr : Int
def Fd.z (x : Fd) : List Value := [.int .u16 x.ty, .int .u32 x.fr]
def Fd.a (x : Fd) : List Value := [.int .u16 x.ty, .int .u32 x.fr]
theorem Fd.z_len (x : Fd) : x.z.length = 2 := rfl
theorem Fd.a_len (x : Fd) : x.a.length = 2 := rfl
theorem Fd.z_one (x : Fd) : ∀ v ∈ x.z, v.oneCell' = true := fun v hv => by
  have h : x.z.all (·.oneCell') = true := rfl
  exact List.all_eq_true.1 h v hv
theorem Fd.a_one (x : Fd) : ∀ v ∈ x.a, v.oneCell' = true := fun v hv => by
  have h : x.a.all (·.oneCell') = true := rfl
  exact List.all_eq_true.1 h v hv
theorem info112 : (Try.prog.info? 112).map (·.size) = some 2 := by kernel_rfl
theorem info114 : (Try.prog.info? 114).map (·.size) = some 2 := by kernel_rfl


/-! ### A row of elements -/
/-- The slice at 'a' holds the elements 'xs': each lies as the cells 'f x', 'k' a piece. -/
def ARow {α : Type} (f : α → List Value) (k : Nat) (w : World) (a : Option Addr) (xs : List α) : Prop :=
  0 < xs.length → ∃ b o, a = some ⟨b, o, none⟩ ∧ ∀ i x, xs[i]? = some x → w.rangeAt b (o + i * k) (f x)

theorem rangeAt_below {w w' : World} {B b o : Nat} {cs : List Value} (h : w.rangeAt b o cs) (hb : Below B w w') (hB : w.heap.size ≤ B) : w'.rangeAt b o cs := fun j v hv => by
  have := h j v hv
  rw [hb.cell (p := ⟨b, o + j, none⟩) (Nat.lt_of_lt_of_le (World.block_lt_of_cell? _ _ this) hB)]
  exact this

theorem ARow.below {α : Type} {f : α → List Value} {k : Nat} {w w' : World} {a : Option Addr} {xs : List α} (h : ARow f k w a xs) (hb : Below w.heap.size w w') : ARow f k w' a xs := fun hp => by
  obtain ⟨b, o, ha, hc⟩ := h hp
  exact ⟨b, o, ha, fun i x hx => rangeAt_below (hc i x hx) hb (Nat.le_refl _)⟩

/-! ### A whole struct into the block that was made last -/
theorem wpList_store_new {ops : Array Oper} {rest : List Oper} {op : Oper} {a : Act} {w : World} {Q : Exit → Act → World → Prop} (hgd : op.guard = none) (t : TypeId) (x y : Operand) (ho : op.op = .store t x y)
    (w0 : World) (c cs : List Value) (hw : w = w0.alloc (.cells c.toArray t)) (N : Nat) (hx : a.eval x = .pointer (some ⟨N, 0, none⟩)) (hN : w0.heap.size = N) (hy : a.eval y = .agg cs.toArray) (hi : (Try.prog.info? t).map (·.size) = some cs.length) (hs : c.length = cs.length) (h1 : cs.all (·.oneCell') = true)
    (h : wpList Try.prog ops Q rest (a.put op.dst undef) (w0.alloc (.cells cs.toArray t))) : wpList Try.prog ops Q (op :: rest) a w := by
  subst hw
  subst hN
  refine wpList_plain hgd fun _ hK => ?_
  have hr := run_storeAt_new (P := Try.prog) w0 t c.toArray cs.toArray (by simpa using hi) (by simpa using hs) (all_oneCell_toArray (List.all_eq_true.1 h1))
  unfold Oper.wp execOp
  simp only [ho, hx, hy, Sem.run_bind, hr, Result.andThen_ok]
  exact hK _ _ h
end Go.Proofs.Qxb6619005a
