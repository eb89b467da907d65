import Derived.Test.Qxb6619005aApp
namespace Go.Proofs.Qxb6619005a
open Go.RowKit

/-- What 'appendList' answers: the two rows, one behind the other. -/
def AppPost {α : Type} (f : α → List Value) (K : Nat) (l m : Sl) (ls ms : List α) (w : World) (e : Ending) (w' : World) : Prop :=
  ∃ s : Sl, e = .returned (.slice s.a s.n s.c) ∧ (ls ++ ms).length = s.n ∧ s.n ≤ s.c ∧ ARow f K w' s.a (ls ++ ms) ∧ w.grownBy w' (Value.slice l.a l.n l.c).ownBlock ∧ (l.c = l.n → Below w.heap.size w w') ∧
    ((s.a = m.a ∧ w' = w ∧ ls = []) ∨ (Value.slice s.a s.n s.c).ownBlock = (Value.slice l.a l.n l.c).ownBlock ∨ (Value.slice s.a s.n s.c).ownBlock = some w.heap.size)

theorem app_none {α : Type} (f : α → List Value) {K : Nat} (hf : ∀ x, (f x).length = K) (hK : 0 < K) {la ma : Option Addr} {lc mn mc base e : Nat} {ls ms : List α} {w : World} (h : w.ownsRow base e K (.slice la 0 lc) 0 (ls.flatMap f)) (hm : ms.length = mn) (hr : ARow f K w ma ms) :
    AppPost f K ⟨la, 0, lc⟩ ⟨ma, mn, mc⟩ ls ms w (.returned (.slice ma mn mn)) w := by
  have hl : ls = [] := List.eq_nil_of_length_eq_zero (owns_arow f hf hK h).2
  subst hl
  exact ⟨⟨ma, mn, mn⟩, rfl, by simpa using hm, Nat.le_refl _, by simpa using hr, ⟨rfl, rfl, rfl, Nat.le_refl _, fun _ _ _ => rfl⟩, fun _ => Below.refl _ _, .inl ⟨rfl, rfl, rfl⟩⟩

theorem owns_slice {w : World} {base e K n : Nat} {v : Value} {xs : List Value} (h : w.ownsRow base e K v n xs) : ∃ a c, v = .slice a n c ∧ n ≤ c := by
  rcases h.2 with ⟨rfl, rfl⟩ | ⟨g, cap, cur, rfl, _, _, hnc, _⟩
  · exact ⟨none, 0, rfl, Nat.le_refl _⟩
  · exact ⟨_, cap, rfl, hnc⟩

theorem app_some {α : Type} (f : α → List Value) {K : Nat} (hf : ∀ x, (f x).length = K) (hK : 0 < K) {la ma : Option Addr} {ln lc mn mc base e : Nat} {ls ms : List α} {w w' : World} {v' : Value} (h : w'.ownsRow base e K v' (ln + mn) ((ls ++ ms).flatMap f)) (hg : w.grownBy w' (Value.slice la ln lc).ownBlock)
    (hfull : (∃ A, Value.slice la ln lc = .slice A ln ln) → Below w.heap.size w w') (hb : v' = .slice la ln lc ∨ v'.ownBlock = (Value.slice la ln lc).ownBlock ∨ v'.ownBlock = some w.heap.size) :
    AppPost f K ⟨la, ln, lc⟩ ⟨ma, mn, mc⟩ ls ms w (.returned v') w' := by
  obtain ⟨a, c, rfl, hc⟩ := owns_slice h
  have h2 := owns_arow f hf hK h
  refine ⟨⟨a, ln + mn, c⟩, rfl, h2.2, hc, h2.1, hg, fun hcl => hfull ⟨la, by rw [show lc = ln from hcl]⟩, .inr ?_⟩
  rcases hb with hb | hb | hb
  · rw [hb]; exact .inl rfl
  · exact .inl hb
  · exact .inr hb

theorem infA82 : (Try.prog.info? 82).map (fun i => (i.size, i.bytes, i.zero.map (·.cells.size))) = some (52, 288, some 52) := by kernel_rfl
set_option maxRecDepth 100000 in
theorem appListRw (l m : Sl) (ls ms : List Rw) (w : World) (base : Nat) (hown : w.ownsRow base 82 52 (.slice l.a l.n l.c) l.n (ls.flatMap Rw.a)) (hm : ms.length = m.n) (hr : ARow Rw.a 52 w m.a ms) (hz : m.a = none → m.n = 0) (hmc : m.n ≤ m.c) (hb : l.n + m.n ≤ 4194304) (hbase : base ≤ w.heap.size) :
    Calls Try.prog 21 #[.slice l.a l.n l.c, .slice m.a m.n m.c] w fun e w' => AppPost Rw.a 52 l m ls ms w e w' := by
  obtain ⟨la, ln, lc⟩ := l
  obtain ⟨ma, mn, mc⟩ := m
  by_cases h0 : ln = 0
  · subst h0
    have HO := hidMk hown
    have HR := hidMk hr
    have HM := hidMk hm
    clear hown hr hm
    go_enter Try.func21, Try.ntmps21
    go_wp2_with fail
    go_ret
    exact app_none Rw.a Rw.a_len (by omega) HO.out HM.out HR.out
  · obtain ⟨v', w', hap, h1, h2, h3, h4, _⟩ := app_any Rw.a Rw.a_len Rw.a_one Try.underlying36 infA82 (by omega) (by omega) w base (.slice la ln lc) ln ls hown ma mn mc ms hm hr hz hb hbase 36
    have H1 := hidMk h1
    have H2 := hidMk h2
    have H3 := hidMk h3
    have H4 := hidMk h4
    have hln : ¬ ((ln : Int) = 0) := by omega
    have HAP := hidMk hap
    clear hown hr hm h1 h2 h3 h4 hz hb hbase hap
    go_enter Try.func21, Try.ntmps21
    go_wp2_with (first | (refine wpList_append_run rfl _ _ 36 rfl _ _ rfl rfl _ _ HAP.out ?_))
    go_ret
    exact app_some Rw.a Rw.a_len (by omega) H1.out H2.out H3.out H4.out
theorem infA87 : (Try.prog.info? 87).map (fun i => (i.size, i.bytes, i.zero.map (·.cells.size))) = some (7, 40, some 7) := by kernel_rfl
set_option maxRecDepth 100000 in
theorem appListSt (l m : Sl) (ls ms : List St) (w : World) (base : Nat) (hown : w.ownsRow base 87 7 (.slice l.a l.n l.c) l.n (ls.flatMap St.a)) (hm : ms.length = m.n) (hr : ARow St.a 7 w m.a ms) (hz : m.a = none → m.n = 0) (hmc : m.n ≤ m.c) (hb : l.n + m.n ≤ 4194304) (hbase : base ≤ w.heap.size) :
    Calls Try.prog 22 #[.slice l.a l.n l.c, .slice m.a m.n m.c] w fun e w' => AppPost St.a 7 l m ls ms w e w' := by
  obtain ⟨la, ln, lc⟩ := l
  obtain ⟨ma, mn, mc⟩ := m
  by_cases h0 : ln = 0
  · subst h0
    have HO := hidMk hown
    have HR := hidMk hr
    have HM := hidMk hm
    clear hown hr hm
    go_enter Try.func22, Try.ntmps22
    go_wp2_with fail
    go_ret
    exact app_none St.a St.a_len (by omega) HO.out HM.out HR.out
  · obtain ⟨v', w', hap, h1, h2, h3, h4, _⟩ := app_any St.a St.a_len St.a_one Try.underlying37 infA87 (by omega) (by omega) w base (.slice la ln lc) ln ls hown ma mn mc ms hm hr hz hb hbase 37
    have H1 := hidMk h1
    have H2 := hidMk h2
    have H3 := hidMk h3
    have H4 := hidMk h4
    have hln : ¬ ((ln : Int) = 0) := by omega
    have HAP := hidMk hap
    clear hown hr hm h1 h2 h3 h4 hz hb hbase hap
    go_enter Try.func22, Try.ntmps22
    go_wp2_with (first | (refine wpList_append_run rfl _ _ 37 rfl _ _ rfl rfl _ _ HAP.out ?_))
    go_ret
    exact app_some St.a St.a_len (by omega) H1.out H2.out H3.out H4.out
theorem infA90 : (Try.prog.info? 90).map (fun i => (i.size, i.bytes, i.zero.map (·.cells.size))) = some (3, 24, some 3) := by kernel_rfl
set_option maxRecDepth 100000 in
theorem appListCm (l m : Sl) (ls ms : List Cm) (w : World) (base : Nat) (hown : w.ownsRow base 90 3 (.slice l.a l.n l.c) l.n (ls.flatMap Cm.a)) (hm : ms.length = m.n) (hr : ARow Cm.a 3 w m.a ms) (hz : m.a = none → m.n = 0) (hmc : m.n ≤ m.c) (hb : l.n + m.n ≤ 4194304) (hbase : base ≤ w.heap.size) :
    Calls Try.prog 23 #[.slice l.a l.n l.c, .slice m.a m.n m.c] w fun e w' => AppPost Cm.a 3 l m ls ms w e w' := by
  obtain ⟨la, ln, lc⟩ := l
  obtain ⟨ma, mn, mc⟩ := m
  by_cases h0 : ln = 0
  · subst h0
    have HO := hidMk hown
    have HR := hidMk hr
    have HM := hidMk hm
    clear hown hr hm
    go_enter Try.func23, Try.ntmps23
    go_wp2_with fail
    go_ret
    exact app_none Cm.a Cm.a_len (by omega) HO.out HM.out HR.out
  · obtain ⟨v', w', hap, h1, h2, h3, h4, _⟩ := app_any Cm.a Cm.a_len Cm.a_one Try.underlying38 infA90 (by omega) (by omega) w base (.slice la ln lc) ln ls hown ma mn mc ms hm hr hz hb hbase 38
    have H1 := hidMk h1
    have H2 := hidMk h2
    have H3 := hidMk h3
    have H4 := hidMk h4
    have hln : ¬ ((ln : Int) = 0) := by omega
    have HAP := hidMk hap
    clear hown hr hm h1 h2 h3 h4 hz hb hbase hap
    go_enter Try.func23, Try.ntmps23
    go_wp2_with (first | (refine wpList_append_run rfl _ _ 38 rfl _ _ rfl rfl _ _ HAP.out ?_))
    go_ret
    exact app_some Cm.a Cm.a_len (by omega) H1.out H2.out H3.out H4.out
theorem infA96 : (Try.prog.info? 96).map (fun i => (i.size, i.bytes, i.zero.map (·.cells.size))) = some (14, 56, some 14) := by kernel_rfl
set_option maxRecDepth 100000 in
theorem appListHp (l m : Sl) (ls ms : List Hp) (w : World) (base : Nat) (hown : w.ownsRow base 96 14 (.slice l.a l.n l.c) l.n (ls.flatMap Hp.a)) (hm : ms.length = m.n) (hr : ARow Hp.a 14 w m.a ms) (hz : m.a = none → m.n = 0) (hmc : m.n ≤ m.c) (hb : l.n + m.n ≤ 4194304) (hbase : base ≤ w.heap.size) :
    Calls Try.prog 24 #[.slice l.a l.n l.c, .slice m.a m.n m.c] w fun e w' => AppPost Hp.a 14 l m ls ms w e w' := by
  obtain ⟨la, ln, lc⟩ := l
  obtain ⟨ma, mn, mc⟩ := m
  by_cases h0 : ln = 0
  · subst h0
    have HO := hidMk hown
    have HR := hidMk hr
    have HM := hidMk hm
    clear hown hr hm
    go_enter Try.func24, Try.ntmps24
    go_wp2_with fail
    go_ret
    exact app_none Hp.a Hp.a_len (by omega) HO.out HM.out HR.out
  · obtain ⟨v', w', hap, h1, h2, h3, h4, _⟩ := app_any Hp.a Hp.a_len Hp.a_one Try.underlying39 infA96 (by omega) (by omega) w base (.slice la ln lc) ln ls hown ma mn mc ms hm hr hz hb hbase 39
    have H1 := hidMk h1
    have H2 := hidMk h2
    have H3 := hidMk h3
    have H4 := hidMk h4
    have hln : ¬ ((ln : Int) = 0) := by omega
    have HAP := hidMk hap
    clear hown hr hm h1 h2 h3 h4 hz hb hbase hap
    go_enter Try.func24, Try.ntmps24
    go_wp2_with (first | (refine wpList_append_run rfl _ _ 39 rfl _ _ rfl rfl _ _ HAP.out ?_))
    go_ret
    exact app_some Hp.a Hp.a_len (by omega) H1.out H2.out H3.out H4.out
theorem infA125 : (Try.prog.info? 125).map (fun i => (i.size, i.bytes, i.zero.map (·.cells.size))) = some (5, 32, some 5) := by kernel_rfl
set_option maxRecDepth 100000 in
theorem appListTp (l m : Sl) (ls ms : List Tp) (w : World) (base : Nat) (hown : w.ownsRow base 125 5 (.slice l.a l.n l.c) l.n (ls.flatMap Tp.a)) (hm : ms.length = m.n) (hr : ARow Tp.a 5 w m.a ms) (hz : m.a = none → m.n = 0) (hmc : m.n ≤ m.c) (hb : l.n + m.n ≤ 4194304) (hbase : base ≤ w.heap.size) :
    Calls Try.prog 25 #[.slice l.a l.n l.c, .slice m.a m.n m.c] w fun e w' => AppPost Tp.a 5 l m ls ms w e w' := by
  obtain ⟨la, ln, lc⟩ := l
  obtain ⟨ma, mn, mc⟩ := m
  by_cases h0 : ln = 0
  · subst h0
    have HO := hidMk hown
    have HR := hidMk hr
    have HM := hidMk hm
    clear hown hr hm
    go_enter Try.func25, Try.ntmps25
    go_wp2_with fail
    go_ret
    exact app_none Tp.a Tp.a_len (by omega) HO.out HM.out HR.out
  · obtain ⟨v', w', hap, h1, h2, h3, h4, _⟩ := app_any Tp.a Tp.a_len Tp.a_one Try.underlying42 infA125 (by omega) (by omega) w base (.slice la ln lc) ln ls hown ma mn mc ms hm hr hz hb hbase 42
    have H1 := hidMk h1
    have H2 := hidMk h2
    have H3 := hidMk h3
    have H4 := hidMk h4
    have hln : ¬ ((ln : Int) = 0) := by omega
    have HAP := hidMk hap
    clear hown hr hm h1 h2 h3 h4 hz hb hbase hap
    go_enter Try.func25, Try.ntmps25
    go_wp2_with (first | (refine wpList_append_run rfl _ _ 42 rfl _ _ rfl rfl _ _ HAP.out ?_))
    go_ret
    exact app_some Tp.a Tp.a_len (by omega) H1.out H2.out H3.out H4.out
theorem infA119 : (Try.prog.info? 119).map (fun i => (i.size, i.bytes, i.zero.map (·.cells.size))) = some (10, 64, some 10) := by kernel_rfl
set_option maxRecDepth 100000 in
theorem appListPk (l m : Sl) (ls ms : List Pk) (w : World) (base : Nat) (hown : w.ownsRow base 119 10 (.slice l.a l.n l.c) l.n (ls.flatMap Pk.a)) (hm : ms.length = m.n) (hr : ARow Pk.a 10 w m.a ms) (hz : m.a = none → m.n = 0) (hmc : m.n ≤ m.c) (hb : l.n + m.n ≤ 4194304) (hbase : base ≤ w.heap.size) :
    Calls Try.prog 26 #[.slice l.a l.n l.c, .slice m.a m.n m.c] w fun e w' => AppPost Pk.a 10 l m ls ms w e w' := by
  obtain ⟨la, ln, lc⟩ := l
  obtain ⟨ma, mn, mc⟩ := m
  by_cases h0 : ln = 0
  · subst h0
    have HO := hidMk hown
    have HR := hidMk hr
    have HM := hidMk hm
    clear hown hr hm
    go_enter Try.func26, Try.ntmps26
    go_wp2_with fail
    go_ret
    exact app_none Pk.a Pk.a_len (by omega) HO.out HM.out HR.out
  · obtain ⟨v', w', hap, h1, h2, h3, h4, _⟩ := app_any Pk.a Pk.a_len Pk.a_one Try.underlying41 infA119 (by omega) (by omega) w base (.slice la ln lc) ln ls hown ma mn mc ms hm hr hz hb hbase 41
    have H1 := hidMk h1
    have H2 := hidMk h2
    have H3 := hidMk h3
    have H4 := hidMk h4
    have hln : ¬ ((ln : Int) = 0) := by omega
    have HAP := hidMk hap
    clear hown hr hm h1 h2 h3 h4 hz hb hbase hap
    go_enter Try.func26, Try.ntmps26
    go_wp2_with (first | (refine wpList_append_run rfl _ _ 41 rfl _ _ rfl rfl _ _ HAP.out ?_))
    go_ret
    exact app_some Pk.a Pk.a_len (by omega) H1.out H2.out H3.out H4.out
theorem infA128 : (Try.prog.info? 128).map (fun i => (i.size, i.bytes, i.zero.map (·.cells.size))) = some (8, 56, some 8) := by kernel_rfl
set_option maxRecDepth 100000 in
theorem appListPa (l m : Sl) (ls ms : List Pa) (w : World) (base : Nat) (hown : w.ownsRow base 128 8 (.slice l.a l.n l.c) l.n (ls.flatMap Pa.a)) (hm : ms.length = m.n) (hr : ARow Pa.a 8 w m.a ms) (hz : m.a = none → m.n = 0) (hmc : m.n ≤ m.c) (hb : l.n + m.n ≤ 4194304) (hbase : base ≤ w.heap.size) :
    Calls Try.prog 27 #[.slice l.a l.n l.c, .slice m.a m.n m.c] w fun e w' => AppPost Pa.a 8 l m ls ms w e w' := by
  obtain ⟨la, ln, lc⟩ := l
  obtain ⟨ma, mn, mc⟩ := m
  by_cases h0 : ln = 0
  · subst h0
    have HO := hidMk hown
    have HR := hidMk hr
    have HM := hidMk hm
    clear hown hr hm
    go_enter Try.func27, Try.ntmps27
    go_wp2_with fail
    go_ret
    exact app_none Pa.a Pa.a_len (by omega) HO.out HM.out HR.out
  · obtain ⟨v', w', hap, h1, h2, h3, h4, _⟩ := app_any Pa.a Pa.a_len Pa.a_one Try.underlying43 infA128 (by omega) (by omega) w base (.slice la ln lc) ln ls hown ma mn mc ms hm hr hz hb hbase 43
    have H1 := hidMk h1
    have H2 := hidMk h2
    have H3 := hidMk h3
    have H4 := hidMk h4
    have hln : ¬ ((ln : Int) = 0) := by omega
    have HAP := hidMk hap
    clear hown hr hm h1 h2 h3 h4 hz hb hbase hap
    go_enter Try.func27, Try.ntmps27
    go_wp2_with (first | (refine wpList_append_run rfl _ _ 43 rfl _ _ rfl rfl _ _ HAP.out ?_))
    go_ret
    exact app_some Pa.a Pa.a_len (by omega) H1.out H2.out H3.out H4.out
end Go.Proofs.Qxb6619005a
