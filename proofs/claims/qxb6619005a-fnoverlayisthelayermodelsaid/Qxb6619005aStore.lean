import Derived.Test.Qxb6619005aKeep
import Derived.Deep.RegionHeld3
import Derived.Deep.DrawnRows
namespace Go.Proofs.Qxb6619005a
open Go.RowKit
def vblk : Value → Nat
  | .pointer (some a) => a.block
  | _ => 0
def voff : Value → Nat
  | .pointer (some a) => a.off
  | _ => 0
def vcells : Value → List Value
  | .agg cs => cs.toList
  | _ => []
def okStore (k : Nat) (p v : Value) (w : World) : Prop := ∃ g o cs, p = .pointer (some ⟨g, o, none⟩) ∧ v = .agg cs ∧ cs.size = k ∧ cs.all (·.oneCell') = true ∧ w.there g o k
theorem okStore_mk (k g o : Nat) (cs : List Value) (w : World) (hk : cs.length = k) (h1 : cs.all (·.oneCell') = true) (h : w.there g o k) : okStore k (.pointer (some ⟨g, o, none⟩)) (.agg cs.toArray) w = True :=
  eq_true ⟨g, o, cs.toArray, rfl, rfl, by simpa using hk, all_oneCell_toArray (List.all_eq_true.1 h1), h⟩
def oldWp (op : Oper) (a : Act) (w : World) (K : Act → World → Prop) (Q : Exit → Act → World → Prop) : Prop := op.wp Try.prog a w K Q
open Classical in
theorem wpPre (t k : Nat) (hi : (Try.prog.info? t).map (·.size) = some k) (d : Option Tmp) (ty : TypeId) (pos : String) (after : Array Edge) (gd : Option (Nat × Bool)) (x y : Operand) (a : Act) (w : World) (K : Act → World → Prop) (Q : Exit → Act → World → Prop) :
    Oper.wp Try.prog { dst := d, op := .store t x y, type := ty, pos := pos, after := after, guard := gd } a w K Q = if okStore k (a.eval x) (a.eval y) w then K (a.put d undef) (w.setCells (vblk (a.eval x)) (voff (a.eval x)) (vcells (a.eval y))) else oldWp { dst := d, op := .store t x y, type := ty, pos := pos, after := after, guard := gd } a w K Q := by
  split
  · rename_i h
    obtain ⟨g, o, cs, hx, hy, hc, h1, h2⟩ := h
    subst hc
    have hr := run_storeAt_mid (P := Try.prog) w g o t cs h2 hi h1
    unfold Oper.wp execOp
    simp only [hx, hy, Sem.run_bind, hr, Result.andThen_ok, vblk, voff, vcells]
    rfl
  · rfl
theorem vblk_mk (a : Addr) : vblk (.pointer (some a)) = a.block := rfl
theorem voff_mk (a : Addr) : voff (.pointer (some a)) = a.off := rfl
theorem vcells_mk (cs : List Value) : vcells (.agg cs.toArray) = cs := by simp [vcells]

theorem there_below {w w' : World} {b o n : Nat} (h : w.there b o n) (hb : Below w.heap.size w w') : w'.there b o n := fun j hj => by
  obtain ⟨h1, h2⟩ := h j hj
  obtain ⟨v, hv⟩ := Option.isSome_iff_exists.1 h1
  have hl := World.block_lt_of_cell? _ _ hv
  rw [hb.cell hl, hb.frozen hl]
  exact ⟨h1, h2⟩
theorem cell_below {w w' : World} {p : Addr} {v : Value} (h : w.cell? p = some v) (hb : Below w.heap.size w w') : w'.cell? p = some v := (hb.cell (World.block_lt_of_cell? _ _ h)).trans h
theorem Fill.below {w0 wr : World} {B g e len : Nat} {done : List Value} (h : Fill w0 wr g e len done) (hB : B ≤ g) : Below B w0 wr :=
  ⟨h.kept.os, h.kept.tape, h.kept.output, h.kept.size, fun k hk => h.kept.block k (by have := h.lt; omega) (fun e => by injection e with e; omega)⟩

theorem cell_belowD {w w' : World} {p : Addr} {v : Value} (h : w.cell? p = some v) (hb : Below w.drew.heap.size w.drew w') : w'.cell? p = some v := cell_below (w := w.drew) h hb
theorem there_belowD {w w' : World} {b o n : Nat} (h : w.there b o n) (hb : Below w.drew.heap.size w.drew w') : w'.there b o n := there_below (w := w.drew) h hb
theorem cell_setCells_far {w : World} {p : Addr} {v : Value} (h : w.cell? p = some v) {g : Nat} (hne : p.block ≠ g) (o : Nat) (vs : List Value) : (w.setCells g o vs).cell? p = some v := by
  rw [World.cell?_setCells_out g vs o w p (fun hb _ => absurd hb hne)]; exact h

theorem wpList_store_list {ops : Array Oper} {rest : List Oper} {op : Oper} {a : Act} {w : World} {Q : Exit → Act → World → Prop} (hgd : op.guard = none) (ty : TypeId) (x y : Operand) (ho : op.op = .store ty x y)
    (b o : Nat) (cs : List Value) (hx : a.eval x = .pointer (some ⟨b, o, none⟩)) (hy : a.eval y = .agg cs.toArray)
    (ht : w.there b o cs.length) (hi : (Try.prog.info? ty).map (·.size) = some cs.length) (h1 : cs.all (·.oneCell') = true)
    (h : wpList Try.prog ops Q rest (a.put op.dst undef) (w.setCells b o cs)) : wpList Try.prog ops Q (op :: rest) a w :=
  wpList_store_mid hgd ty x y ho b o cs.toArray hx hy (by simpa using ht) (by simpa using hi) (all_oneCell_toArray (List.all_eq_true.1 h1)) (by simpa using h)

open Classical in
theorem pre68 (d : Option Tmp) (ty : TypeId) (pos : String) (after : Array Edge) (gd : Option (Nat × Bool)) (x y : Operand) (a : Act) (w : World) (K : Act → World → Prop) (Q : Exit → Act → World → Prop) :
    Oper.wp Try.prog { dst := d, op := .store 68 x y, type := ty, pos := pos, after := after, guard := gd } a w K Q = if okStore 12 (a.eval x) (a.eval y) w then K (a.put d undef) (w.setCells (vblk (a.eval x)) (voff (a.eval x)) (vcells (a.eval y))) else oldWp { dst := d, op := .store 68 x y, type := ty, pos := pos, after := after, guard := gd } a w K Q := wpPre 68 12 info68 d ty pos after gd x y a w K Q
theorem ok68 (g o : Nat) (w : World) (x1 : Int) (x2 : Int) (x3 : Int) (x4 : Int) (x5 : Int) (x6 : Nat) (x7 : Nat) (x8 : Nat) (x9 : Nat) (x10 : Nat) (x11 : Nat) (x12 : Nat) (h : w.there g o 12) : okStore 12 (.pointer (some ⟨g, o, none⟩)) (.agg #[.int .u8 x1, .int .u8 x2, .int .u8 x3, .int .u8 x4, .int .u16 x5, .float .f64 x6, .float .f64 x7, .float .f64 x8, .float .f32 x9, .float .f32 x10, .float .f32 x11, .float .f32 x12]) w = True := okStore_mk 12 g o [_, _, _, _, _, _, _, _, _, _, _, _] w rfl rfl h

open Classical in
theorem pre82 (d : Option Tmp) (ty : TypeId) (pos : String) (after : Array Edge) (gd : Option (Nat × Bool)) (x y : Operand) (a : Act) (w : World) (K : Act → World → Prop) (Q : Exit → Act → World → Prop) :
    Oper.wp Try.prog { dst := d, op := .store 82 x y, type := ty, pos := pos, after := after, guard := gd } a w K Q = if okStore 52 (a.eval x) (a.eval y) w then K (a.put d undef) (w.setCells (vblk (a.eval x)) (voff (a.eval x)) (vcells (a.eval y))) else oldWp { dst := d, op := .store 82 x y, type := ty, pos := pos, after := after, guard := gd } a w K Q := wpPre 82 52 info82 d ty pos after gd x y a w K Q
theorem ok82 (g o : Nat) (w : World) (x1 : Int) (x2 : Int) (x3 : Int) (x4 : Int) (x5 : Int) (x6 : Nat) (x7 : Nat) (x8 : Nat) (x9 : Nat) (x10 : Nat) (x11 : Nat) (x12 : Nat) (h : w.there g o 52) : okStore 52 (.pointer (some ⟨g, o, none⟩)) (.agg #[.int .u8 x1, .int .u8 x2, .float .f64 0, .float .f64 0, .float .f32 0, .float .f32 0, .string ⟨#[]⟩, .int .u16 0, .float .f32 0, .float .f32 0, .int .u16 0, .float .f32 0, .float .f32 0, .int .u16 0, .float .f32 0, .float .f32 0, .bool false, .bool false, .bool false, .int .u8 0, .pointer none, .slice none 0 0, .int .u8 x3, .int .u8 x4, .float .f64 0, .float .f64 0, .float .f32 0, .float .f32 0, .string ⟨#[]⟩, .int .u16 0, .float .f32 0, .float .f32 0, .int .u16 0, .float .f32 0, .float .f32 0, .int .u16 0, .float .f32 0, .float .f32 0, .bool false, .bool false, .bool false, .int .u8 0, .pointer none, .slice none 0 0, .int .u16 x5, .float .f64 x6, .float .f64 x7, .float .f64 x8, .float .f32 x9, .float .f32 x10, .float .f32 x11, .float .f32 x12]) w = True := okStore_mk 52 g o [_, _, _, _, _, _, _, _, _, _, _, _, _, _, _, _, _, _, _, _, _, _, _, _, _, _, _, _, _, _, _, _, _, _, _, _, _, _, _, _, _, _, _, _, _, _, _, _, _, _, _, _] w rfl rfl h

open Classical in
theorem pre84 (d : Option Tmp) (ty : TypeId) (pos : String) (after : Array Edge) (gd : Option (Nat × Bool)) (x y : Operand) (a : Act) (w : World) (K : Act → World → Prop) (Q : Exit → Act → World → Prop) :
    Oper.wp Try.prog { dst := d, op := .store 84 x y, type := ty, pos := pos, after := after, guard := gd } a w K Q = if okStore 7 (a.eval x) (a.eval y) w then K (a.put d undef) (w.setCells (vblk (a.eval x)) (voff (a.eval x)) (vcells (a.eval y))) else oldWp { dst := d, op := .store 84 x y, type := ty, pos := pos, after := after, guard := gd } a w K Q := wpPre 84 7 info84 d ty pos after gd x y a w K Q
theorem ok84 (g o : Nat) (w : World) (x1 : Int) (x2 : Int) (x3 : Int) (x4 : Nat) (x5 : Nat) (x6 : Nat) (x7 : Nat) (h : w.there g o 7) : okStore 7 (.pointer (some ⟨g, o, none⟩)) (.agg #[.int .u8 x1, .int .u8 x2, .int .u8 x3, .float .f64 x4, .float .f64 x5, .float .f64 x6, .float .f32 x7]) w = True := okStore_mk 7 g o [_, _, _, _, _, _, _] w rfl rfl h

open Classical in
theorem pre87 (d : Option Tmp) (ty : TypeId) (pos : String) (after : Array Edge) (gd : Option (Nat × Bool)) (x y : Operand) (a : Act) (w : World) (K : Act → World → Prop) (Q : Exit → Act → World → Prop) :
    Oper.wp Try.prog { dst := d, op := .store 87 x y, type := ty, pos := pos, after := after, guard := gd } a w K Q = if okStore 7 (a.eval x) (a.eval y) w then K (a.put d undef) (w.setCells (vblk (a.eval x)) (voff (a.eval x)) (vcells (a.eval y))) else oldWp { dst := d, op := .store 87 x y, type := ty, pos := pos, after := after, guard := gd } a w K Q := wpPre 87 7 info87 d ty pos after gd x y a w K Q
theorem ok87 (g o : Nat) (w : World) (x1 : Int) (x2 : Int) (x3 : Int) (x4 : Nat) (x5 : Nat) (x6 : Nat) (x7 : Nat) (h : w.there g o 7) : okStore 7 (.pointer (some ⟨g, o, none⟩)) (.agg #[.int .u8 x1, .int .u8 x2, .int .u8 x3, .float .f64 x4, .float .f64 x5, .float .f64 x6, .float .f32 x7]) w = True := okStore_mk 7 g o [_, _, _, _, _, _, _] w rfl rfl h

open Classical in
theorem pre53 (d : Option Tmp) (ty : TypeId) (pos : String) (after : Array Edge) (gd : Option (Nat × Bool)) (x y : Operand) (a : Act) (w : World) (K : Act → World → Prop) (Q : Exit → Act → World → Prop) :
    Oper.wp Try.prog { dst := d, op := .store 53 x y, type := ty, pos := pos, after := after, guard := gd } a w K Q = if okStore 3 (a.eval x) (a.eval y) w then K (a.put d undef) (w.setCells (vblk (a.eval x)) (voff (a.eval x)) (vcells (a.eval y))) else oldWp { dst := d, op := .store 53 x y, type := ty, pos := pos, after := after, guard := gd } a w K Q := wpPre 53 3 info53 d ty pos after gd x y a w K Q
theorem ok53 (g o : Nat) (w : World) (x1 : Int) (x2 : Int) (x3 : ByteArray) (h : w.there g o 3) : okStore 3 (.pointer (some ⟨g, o, none⟩)) (.agg #[.int .u16 x1, .int .u32 x2, .string x3]) w = True := okStore_mk 3 g o [_, _, _] w rfl rfl h

open Classical in
theorem pre90 (d : Option Tmp) (ty : TypeId) (pos : String) (after : Array Edge) (gd : Option (Nat × Bool)) (x y : Operand) (a : Act) (w : World) (K : Act → World → Prop) (Q : Exit → Act → World → Prop) :
    Oper.wp Try.prog { dst := d, op := .store 90 x y, type := ty, pos := pos, after := after, guard := gd } a w K Q = if okStore 3 (a.eval x) (a.eval y) w then K (a.put d undef) (w.setCells (vblk (a.eval x)) (voff (a.eval x)) (vcells (a.eval y))) else oldWp { dst := d, op := .store 90 x y, type := ty, pos := pos, after := after, guard := gd } a w K Q := wpPre 90 3 info90 d ty pos after gd x y a w K Q
theorem ok90 (g o : Nat) (w : World) (x1 : Int) (x2 : Int) (x3 : ByteArray) (h : w.there g o 3) : okStore 3 (.pointer (some ⟨g, o, none⟩)) (.agg #[.int .u16 x1, .int .u32 x2, .string x3]) w = True := okStore_mk 3 g o [_, _, _] w rfl rfl h

open Classical in
theorem pre93 (d : Option Tmp) (ty : TypeId) (pos : String) (after : Array Edge) (gd : Option (Nat × Bool)) (x y : Operand) (a : Act) (w : World) (K : Act → World → Prop) (Q : Exit → Act → World → Prop) :
    Oper.wp Try.prog { dst := d, op := .store 93 x y, type := ty, pos := pos, after := after, guard := gd } a w K Q = if okStore 14 (a.eval x) (a.eval y) w then K (a.put d undef) (w.setCells (vblk (a.eval x)) (voff (a.eval x)) (vcells (a.eval y))) else oldWp { dst := d, op := .store 93 x y, type := ty, pos := pos, after := after, guard := gd } a w K Q := wpPre 93 14 info93 d ty pos after gd x y a w K Q
theorem ok93 (g o : Nat) (w : World) (x1 : Int) (x2 : Int) (x3 : Bool) (x4 : Bool) (x5 : Int) (x6 : Int) (x7 : Int) (x8 : Int) (x9 : Nat) (x10 : Nat) (x11 : Nat) (x12 : Nat) (x13 : Nat) (x14 : Nat) (h : w.there g o 14) : okStore 14 (.pointer (some ⟨g, o, none⟩)) (.agg #[.int .u16 x1, .int .u8 x2, .bool x3, .bool x4, .int .u8 x5, .int .u8 x6, .int .u8 x7, .int .u8 x8, .float .f64 x9, .float .f64 x10, .float .f64 x11, .float .f32 x12, .float .f32 x13, .float .f32 x14]) w = True := okStore_mk 14 g o [_, _, _, _, _, _, _, _, _, _, _, _, _, _] w rfl rfl h

open Classical in
theorem pre96 (d : Option Tmp) (ty : TypeId) (pos : String) (after : Array Edge) (gd : Option (Nat × Bool)) (x y : Operand) (a : Act) (w : World) (K : Act → World → Prop) (Q : Exit → Act → World → Prop) :
    Oper.wp Try.prog { dst := d, op := .store 96 x y, type := ty, pos := pos, after := after, guard := gd } a w K Q = if okStore 14 (a.eval x) (a.eval y) w then K (a.put d undef) (w.setCells (vblk (a.eval x)) (voff (a.eval x)) (vcells (a.eval y))) else oldWp { dst := d, op := .store 96 x y, type := ty, pos := pos, after := after, guard := gd } a w K Q := wpPre 96 14 info96 d ty pos after gd x y a w K Q
theorem ok96 (g o : Nat) (w : World) (x1 : Int) (x2 : Int) (x3 : Bool) (x4 : Bool) (x5 : Int) (x6 : Int) (x7 : Int) (x8 : Int) (x9 : Nat) (x10 : Nat) (x11 : Nat) (x12 : Nat) (x13 : Nat) (x14 : Nat) (h : w.there g o 14) : okStore 14 (.pointer (some ⟨g, o, none⟩)) (.agg #[.int .u16 x1, .int .u8 x2, .bool x3, .bool x4, .int .u8 x5, .int .u8 x6, .int .u8 x7, .int .u8 x8, .float .f64 x9, .float .f64 x10, .float .f64 x11, .float .f32 x12, .float .f32 x13, .float .f32 x14]) w = True := okStore_mk 14 g o [_, _, _, _, _, _, _, _, _, _, _, _, _, _] w rfl rfl h

open Classical in
theorem pre61 (d : Option Tmp) (ty : TypeId) (pos : String) (after : Array Edge) (gd : Option (Nat × Bool)) (x y : Operand) (a : Act) (w : World) (K : Act → World → Prop) (Q : Exit → Act → World → Prop) :
    Oper.wp Try.prog { dst := d, op := .store 61 x y, type := ty, pos := pos, after := after, guard := gd } a w K Q = if okStore 10 (a.eval x) (a.eval y) w then K (a.put d undef) (w.setCells (vblk (a.eval x)) (voff (a.eval x)) (vcells (a.eval y))) else oldWp { dst := d, op := .store 61 x y, type := ty, pos := pos, after := after, guard := gd } a w K Q := wpPre 61 10 info61 d ty pos after gd x y a w K Q
theorem ok61 (g o : Nat) (w : World) (x1 : Int) (x2 : Int) (x3 : Int) (x4 : Int) (x5 : Nat) (x6 : Nat) (x7 : Nat) (x8 : Nat) (x9 : Nat) (x10 : Sl) (h : w.there g o 10) : okStore 10 (.pointer (some ⟨g, o, none⟩)) (.agg #[.int .u8 x1, .int .u16 x2, .int .u8 x3, .int .u8 x4, .float .f32 x5, .float .f32 x6, .float .f64 x7, .float .f64 x8, .float .f64 x9, .slice x10.a x10.n x10.c]) w = True := okStore_mk 10 g o [_, _, _, _, _, _, _, _, _, _] w rfl rfl h

open Classical in
theorem pre119 (d : Option Tmp) (ty : TypeId) (pos : String) (after : Array Edge) (gd : Option (Nat × Bool)) (x y : Operand) (a : Act) (w : World) (K : Act → World → Prop) (Q : Exit → Act → World → Prop) :
    Oper.wp Try.prog { dst := d, op := .store 119 x y, type := ty, pos := pos, after := after, guard := gd } a w K Q = if okStore 10 (a.eval x) (a.eval y) w then K (a.put d undef) (w.setCells (vblk (a.eval x)) (voff (a.eval x)) (vcells (a.eval y))) else oldWp { dst := d, op := .store 119 x y, type := ty, pos := pos, after := after, guard := gd } a w K Q := wpPre 119 10 info119 d ty pos after gd x y a w K Q
theorem ok119 (g o : Nat) (w : World) (x1 : Int) (x2 : Int) (x3 : Int) (x4 : Int) (x5 : Nat) (x6 : Nat) (x7 : Nat) (x8 : Nat) (x9 : Nat) (x10 : Sl) (h : w.there g o 10) : okStore 10 (.pointer (some ⟨g, o, none⟩)) (.agg #[.int .u8 x1, .int .u16 x2, .int .u8 x3, .int .u8 x4, .float .f32 x5, .float .f32 x6, .float .f64 x7, .float .f64 x8, .float .f64 x9, .slice x10.a x10.n x10.c]) w = True := okStore_mk 10 g o [_, _, _, _, _, _, _, _, _, _] w rfl rfl h

open Classical in
theorem pre121 (d : Option Tmp) (ty : TypeId) (pos : String) (after : Array Edge) (gd : Option (Nat × Bool)) (x y : Operand) (a : Act) (w : World) (K : Act → World → Prop) (Q : Exit → Act → World → Prop) :
    Oper.wp Try.prog { dst := d, op := .store 121 x y, type := ty, pos := pos, after := after, guard := gd } a w K Q = if okStore 5 (a.eval x) (a.eval y) w then K (a.put d undef) (w.setCells (vblk (a.eval x)) (voff (a.eval x)) (vcells (a.eval y))) else oldWp { dst := d, op := .store 121 x y, type := ty, pos := pos, after := after, guard := gd } a w K Q := wpPre 121 5 info121 d ty pos after gd x y a w K Q
theorem ok121 (g o : Nat) (w : World) (x1 : Int) (x2 : Int) (x3 : Nat) (x4 : Nat) (x5 : Nat) (h : w.there g o 5) : okStore 5 (.pointer (some ⟨g, o, none⟩)) (.agg #[.int .u8 x1, .int .u8 x2, .float .f64 x3, .float .f64 x4, .float .f64 x5]) w = True := okStore_mk 5 g o [_, _, _, _, _] w rfl rfl h

open Classical in
theorem pre125 (d : Option Tmp) (ty : TypeId) (pos : String) (after : Array Edge) (gd : Option (Nat × Bool)) (x y : Operand) (a : Act) (w : World) (K : Act → World → Prop) (Q : Exit → Act → World → Prop) :
    Oper.wp Try.prog { dst := d, op := .store 125 x y, type := ty, pos := pos, after := after, guard := gd } a w K Q = if okStore 5 (a.eval x) (a.eval y) w then K (a.put d undef) (w.setCells (vblk (a.eval x)) (voff (a.eval x)) (vcells (a.eval y))) else oldWp { dst := d, op := .store 125 x y, type := ty, pos := pos, after := after, guard := gd } a w K Q := wpPre 125 5 info125 d ty pos after gd x y a w K Q
theorem ok125 (g o : Nat) (w : World) (x1 : Int) (x2 : Int) (x3 : Nat) (x4 : Nat) (x5 : Nat) (h : w.there g o 5) : okStore 5 (.pointer (some ⟨g, o, none⟩)) (.agg #[.int .u8 x1, .int .u8 x2, .float .f64 x3, .float .f64 x4, .float .f64 x5]) w = True := okStore_mk 5 g o [_, _, _, _, _] w rfl rfl h

open Classical in
theorem pre65 (d : Option Tmp) (ty : TypeId) (pos : String) (after : Array Edge) (gd : Option (Nat × Bool)) (x y : Operand) (a : Act) (w : World) (K : Act → World → Prop) (Q : Exit → Act → World → Prop) :
    Oper.wp Try.prog { dst := d, op := .store 65 x y, type := ty, pos := pos, after := after, guard := gd } a w K Q = if okStore 8 (a.eval x) (a.eval y) w then K (a.put d undef) (w.setCells (vblk (a.eval x)) (voff (a.eval x)) (vcells (a.eval y))) else oldWp { dst := d, op := .store 65 x y, type := ty, pos := pos, after := after, guard := gd } a w K Q := wpPre 65 8 info65 d ty pos after gd x y a w K Q
theorem ok65 (g o : Nat) (w : World) (x1 : Int) (x2 : Int) (x3 : Int) (x4 : Int) (x5 : Int) (x6 : ByteArray) (x7 : Int) (x8 : Nat) (h : w.there g o 8) : okStore 8 (.pointer (some ⟨g, o, none⟩)) (.agg #[.int .u8 x1, .int .i64 x2, .int .i64 x3, .int .u8 x4, .int .u8 x5, .string x6, .int .u16 x7, .float .f32 x8]) w = True := okStore_mk 8 g o [_, _, _, _, _, _, _, _] w rfl rfl h

open Classical in
theorem pre128 (d : Option Tmp) (ty : TypeId) (pos : String) (after : Array Edge) (gd : Option (Nat × Bool)) (x y : Operand) (a : Act) (w : World) (K : Act → World → Prop) (Q : Exit → Act → World → Prop) :
    Oper.wp Try.prog { dst := d, op := .store 128 x y, type := ty, pos := pos, after := after, guard := gd } a w K Q = if okStore 8 (a.eval x) (a.eval y) w then K (a.put d undef) (w.setCells (vblk (a.eval x)) (voff (a.eval x)) (vcells (a.eval y))) else oldWp { dst := d, op := .store 128 x y, type := ty, pos := pos, after := after, guard := gd } a w K Q := wpPre 128 8 info128 d ty pos after gd x y a w K Q
theorem ok128 (g o : Nat) (w : World) (x1 : Int) (x2 : Int) (x3 : Int) (x4 : Int) (x5 : Int) (x6 : ByteArray) (x7 : Int) (x8 : Nat) (h : w.there g o 8) : okStore 8 (.pointer (some ⟨g, o, none⟩)) (.agg #[.int .u8 x1, .int .i64 x2, .int .i64 x3, .int .u8 x4, .int .u8 x5, .string x6, .int .u16 x7, .float .f32 x8]) w = True := okStore_mk 8 g o [_, _, _, _, _, _, _, _] w rfl rfl h

open Classical in
theorem pre104 (d : Option Tmp) (ty : TypeId) (pos : String) (after : Array Edge) (gd : Option (Nat × Bool)) (x y : Operand) (a : Act) (w : World) (K : Act → World → Prop) (Q : Exit → Act → World → Prop) :
    Oper.wp Try.prog { dst := d, op := .store 104 x y, type := ty, pos := pos, after := after, guard := gd } a w K Q = if okStore 5 (a.eval x) (a.eval y) w then K (a.put d undef) (w.setCells (vblk (a.eval x)) (voff (a.eval x)) (vcells (a.eval y))) else oldWp { dst := d, op := .store 104 x y, type := ty, pos := pos, after := after, guard := gd } a w K Q := wpPre 104 5 info104 d ty pos after gd x y a w K Q
theorem ok104 (g o : Nat) (w : World) (x1 : Int) (x2 : Int) (x3 : Int) (x4 : Int) (x5 : Int) (h : w.there g o 5) : okStore 5 (.pointer (some ⟨g, o, none⟩)) (.agg #[.int .u16 x1, .int .u8 x2, .int .u8 x3, .int .u8 x4, .int .u8 x5]) w = True := okStore_mk 5 g o [_, _, _, _, _] w rfl rfl h

open Classical in
theorem pre106 (d : Option Tmp) (ty : TypeId) (pos : String) (after : Array Edge) (gd : Option (Nat × Bool)) (x y : Operand) (a : Act) (w : World) (K : Act → World → Prop) (Q : Exit → Act → World → Prop) :
    Oper.wp Try.prog { dst := d, op := .store 106 x y, type := ty, pos := pos, after := after, guard := gd } a w K Q = if okStore 5 (a.eval x) (a.eval y) w then K (a.put d undef) (w.setCells (vblk (a.eval x)) (voff (a.eval x)) (vcells (a.eval y))) else oldWp { dst := d, op := .store 106 x y, type := ty, pos := pos, after := after, guard := gd } a w K Q := wpPre 106 5 info106 d ty pos after gd x y a w K Q
theorem ok106 (g o : Nat) (w : World) (x1 : Int) (x2 : Int) (x3 : Int) (x4 : Int) (x5 : Int) (h : w.there g o 5) : okStore 5 (.pointer (some ⟨g, o, none⟩)) (.agg #[.int .u16 x1, .int .u8 x2, .int .u8 x3, .int .u8 x4, .int .u8 x5]) w = True := okStore_mk 5 g o [_, _, _, _, _] w rfl rfl h

open Classical in
theorem pre108 (d : Option Tmp) (ty : TypeId) (pos : String) (after : Array Edge) (gd : Option (Nat × Bool)) (x y : Operand) (a : Act) (w : World) (K : Act → World → Prop) (Q : Exit → Act → World → Prop) :
    Oper.wp Try.prog { dst := d, op := .store 108 x y, type := ty, pos := pos, after := after, guard := gd } a w K Q = if okStore 3 (a.eval x) (a.eval y) w then K (a.put d undef) (w.setCells (vblk (a.eval x)) (voff (a.eval x)) (vcells (a.eval y))) else oldWp { dst := d, op := .store 108 x y, type := ty, pos := pos, after := after, guard := gd } a w K Q := wpPre 108 3 info108 d ty pos after gd x y a w K Q
theorem ok108 (g o : Nat) (w : World) (x1 : Int) (x2 : Int) (x3 : Int) (h : w.there g o 3) : okStore 3 (.pointer (some ⟨g, o, none⟩)) (.agg #[.int .u8 x1, .int .u8 x2, .int .u8 x3]) w = True := okStore_mk 3 g o [_, _, _] w rfl rfl h

open Classical in
theorem pre110 (d : Option Tmp) (ty : TypeId) (pos : String) (after : Array Edge) (gd : Option (Nat × Bool)) (x y : Operand) (a : Act) (w : World) (K : Act → World → Prop) (Q : Exit → Act → World → Prop) :
    Oper.wp Try.prog { dst := d, op := .store 110 x y, type := ty, pos := pos, after := after, guard := gd } a w K Q = if okStore 3 (a.eval x) (a.eval y) w then K (a.put d undef) (w.setCells (vblk (a.eval x)) (voff (a.eval x)) (vcells (a.eval y))) else oldWp { dst := d, op := .store 110 x y, type := ty, pos := pos, after := after, guard := gd } a w K Q := wpPre 110 3 info110 d ty pos after gd x y a w K Q
theorem ok110 (g o : Nat) (w : World) (x1 : Int) (x2 : Int) (x3 : Int) (h : w.there g o 3) : okStore 3 (.pointer (some ⟨g, o, none⟩)) (.agg #[.int .u8 x1, .int .u8 x2, .int .u8 x3]) w = True := okStore_mk 3 g o [_, _, _] w rfl rfl h

open Classical in
theorem pre112 (d : Option Tmp) (ty : TypeId) (pos : String) (after : Array Edge) (gd : Option (Nat × Bool)) (x y : Operand) (a : Act) (w : World) (K : Act → World → Prop) (Q : Exit → Act → World → Prop) :
    Oper.wp Try.prog { dst := d, op := .store 112 x y, type := ty, pos := pos, after := after, guard := gd } a w K Q = if okStore 2 (a.eval x) (a.eval y) w then K (a.put d undef) (w.setCells (vblk (a.eval x)) (voff (a.eval x)) (vcells (a.eval y))) else oldWp { dst := d, op := .store 112 x y, type := ty, pos := pos, after := after, guard := gd } a w K Q := wpPre 112 2 info112 d ty pos after gd x y a w K Q
theorem ok112 (g o : Nat) (w : World) (x1 : Int) (x2 : Int) (h : w.there g o 2) : okStore 2 (.pointer (some ⟨g, o, none⟩)) (.agg #[.int .u16 x1, .int .u32 x2]) w = True := okStore_mk 2 g o [_, _] w rfl rfl h

open Classical in
theorem pre114 (d : Option Tmp) (ty : TypeId) (pos : String) (after : Array Edge) (gd : Option (Nat × Bool)) (x y : Operand) (a : Act) (w : World) (K : Act → World → Prop) (Q : Exit → Act → World → Prop) :
    Oper.wp Try.prog { dst := d, op := .store 114 x y, type := ty, pos := pos, after := after, guard := gd } a w K Q = if okStore 2 (a.eval x) (a.eval y) w then K (a.put d undef) (w.setCells (vblk (a.eval x)) (voff (a.eval x)) (vcells (a.eval y))) else oldWp { dst := d, op := .store 114 x y, type := ty, pos := pos, after := after, guard := gd } a w K Q := wpPre 114 2 info114 d ty pos after gd x y a w K Q
theorem ok114 (g o : Nat) (w : World) (x1 : Int) (x2 : Int) (h : w.there g o 2) : okStore 2 (.pointer (some ⟨g, o, none⟩)) (.agg #[.int .u16 x1, .int .u32 x2]) w = True := okStore_mk 2 g o [_, _] w rfl rfl h

end Go.Proofs.Qxb6619005a
