import PyProof.Rows.All
import Wide.All
import OpenK.AllK
import Wide.FinOn
import Lean
import PySem.Challenge.RW_rs0028_01
set_option Elab.async false
set_option linter.all false
set_option maxRecDepth 100000
set_option maxHeartbeats 8000000

namespace Mine
open PySem PySem.W PyProof.Rows
open_top hd for PySem.Challenge.rw_rs0028_01
end Mine

namespace Mine
open PySem PySem.W PyProof.Rows PySem.Calls PySem.Spec
theorem w_off_CA : True := by
  w_top off
  exact trivial
/-- the sign that `_strcoll` tells -/
def sgnS (x y : Str) : Int := b2i (decide (y.cps.toList < x.cps.toList)) - b2i (decide (x.cps.toList < y.cps.toList))

theorem sgnS_lo (x y : Str) : -1 ≤ sgnS x y := by
  unfold sgnS b2i; split <;> split <;> decide
theorem sgnS_hi (x y : Str) : sgnS x y ≤ 1 := by
  unfold sgnS b2i; split <;> split <;> decide

theorem strcoll_c : ∀ {w : World} {p : Program} {loose : List Str} {mean : ExcName → Option Value} {mg mb : Str → Option Value} {dp un : Nat} {gd : Option (List Code)} {cn : Str} {cs : Scope} {a : Addr} {ccd : Value} {cl : List (Str × Addr)} {outer : List Env} {A₀ : Around} {base h₀ : Heap} {L : Addr} {m : Str → Option Value} {news : List (Addr × Obj)} {s : Shared} {x y : Str} {tx ty : Tok} {Q E : Value → Shared → Prop}
    (_ : Below A₀ base outer h₀) (_ : Fr h₀ L s.heap m) (_ : (hd.heap_39 w.params).In h₀) (_ : News h₀ L s.heap news) (_ : Top p loose mean mg mb h₀) (_ : cs.kind = .function) (_ : dp + 1 < recursionLimit) (_ : un + 8 < cLine)
    (_ : ∀ t h' tk', -1 ≤ sgnS x y → sgnS x y ≤ 1 → Fr h₀ L h' m → News h₀ L h' news → Q (.int (sgnS x y) t) { s with heap := h', toks := tk' }),
    wpAny (model PySem.Challenge.rw_rs0028_01.row.prog w) (ktrTop dp un gd cn cs L a ccd cl outer) (call (.ref 48) [.str x tx, .str y ty]) Q E s := by
  k_fill
  intros; rename_i hret
  refine wpAny_call ?_
  k_dflt cell_enter
  k_steps
  exact hret _ _ _ (sgnS_lo _ _) (sgnS_hi _ _) (by k_asm) (by k_asm)

local macro_rules | `(tactic| walk_at "call ref") => `(tactic| (k_here; (with_reducible show wpAny _ _ (call (Value.ref 48) [Value.str _ _, Value.str _ _]) _ _ _); refine strcoll_c (by k_asm) (by k_asm) (by k_asm) (by k_asm) (by k_asm) (by first | rfl | assumption) (by ktr_room) (by ktr_units) ?_; intro t9 h9 tk9 lo9 hi9 F9 N9; (try dsimp only); (try k_fold)))

theorem pays_c : ∀ {w : World} {p : Program} {loose : List Str} {mean : ExcName → Option Value} {mg mb : Str → Option Value} {dp un : Nat} {gd : Option (List Code)} {cn : Str} {cs : Scope} {a : Addr} {ccd : Value} {cl : List (Str × Addr)} {outer : List Env} {A₀ : Around} {base h₀ : Heap} {L : Addr} {m : Str → Option Value} {news : List (Addr × Obj)} {s : Shared} {x y z : Str} {tx ty tz : Tok} {Q E : Value → Shared → Prop}
    (_ : Below A₀ base outer h₀) (_ : Fr h₀ L s.heap m) (_ : (hd.heap_39 w.params).In h₀) (_ : News h₀ L s.heap news) (_ : Top p loose mean mg mb h₀) (_ : cs.kind = .function) (_ : dp + 4 < recursionLimit) (_ : un + 40 < cLine)
    (_ : ∀ h' tk', Fr h₀ L h' m → News h₀ L h' news → Q (.bool (decide (sgnS y x * sgnS y z = 1))) { s with heap := h', toks := tk' }),
    wpAny (model PySem.Challenge.rw_rs0028_01.row.prog w) (ktrTop dp un gd cn cs L a ccd cl outer) (call (.ref 67) [.str x tx, .str y ty, .str z tz]) Q E s := by
  k_fill
  intros; rename_i hret
  refine wpAny_call ?_
  k_dflt cell_enter
  k_steps
  exact hret _ _ (by k_asm) (by k_asm)
end Mine

namespace Mine
open PySem PySem.W PyProof.Rows PySem.Calls PySem.Spec
theorem w_off_CB : True := by
  w_top off
  exact trivial
theorem strs_nil {vs : List Value} (h : StrsAre vs []) : vs = [] := by cases h; rfl
theorem strs_cons {vs : List Value} {x : Str} {ss : List Str} (h : StrsAre vs (x :: ss)) : ∃ t r, vs = .str x t :: r ∧ StrsAre r ss := by
  cases h with
  | cons _ t h => exact ⟨t, _, rfl, h⟩
theorem strs2 {vs : List Value} {x0 x1 : Str} (h : StrsAre vs [x0, x1]) : ∃ t0 t1, vs = [.str x0 t0, .str x1 t1] := by
  obtain ⟨t0, r0, e0, h0⟩ := strs_cons h
  obtain ⟨t1, r1, e1, h1⟩ := strs_cons h0
  have e := strs_nil h1
  exact ⟨t0, t1, by rw [e0, e1, e]⟩
theorem strs3 {vs : List Value} {x0 x1 x2 : Str} (h : StrsAre vs [x0, x1, x2]) : ∃ t0 t1 t2, vs = [.str x0 t0, .str x1 t1, .str x2 t2] := by
  obtain ⟨t0, r0, e0, h0⟩ := strs_cons h
  obtain ⟨t1, r1, e1, h1⟩ := strs_cons h0
  obtain ⟨t2, r2, e2, h2⟩ := strs_cons h1
  have e := strs_nil h2
  exact ⟨t0, t1, t2, by rw [e0, e1, e2, e]⟩
theorem strs4 {vs : List Value} {x0 x1 x2 x3 : Str} (h : StrsAre vs [x0, x1, x2, x3]) : ∃ t0 t1 t2 t3, vs = [.str x0 t0, .str x1 t1, .str x2 t2, .str x3 t3] := by
  obtain ⟨t0, r0, e0, h0⟩ := strs_cons h
  obtain ⟨t1, r1, e1, h1⟩ := strs_cons h0
  obtain ⟨t2, r2, e2, h2⟩ := strs_cons h1
  obtain ⟨t3, r3, e3, h3⟩ := strs_cons h2
  have e := strs_nil h3
  exact ⟨t0, t1, t2, t3, by rw [e0, e1, e2, e3, e]⟩
theorem strs5 {vs : List Value} {x0 x1 x2 x3 x4 : Str} (h : StrsAre vs [x0, x1, x2, x3, x4]) : ∃ t0 t1 t2 t3 t4, vs = [.str x0 t0, .str x1 t1, .str x2 t2, .str x3 t3, .str x4 t4] := by
  obtain ⟨t0, r0, e0, h0⟩ := strs_cons h
  obtain ⟨t1, r1, e1, h1⟩ := strs_cons h0
  obtain ⟨t2, r2, e2, h2⟩ := strs_cons h1
  obtain ⟨t3, r3, e3, h3⟩ := strs_cons h2
  obtain ⟨t4, r4, e4, h4⟩ := strs_cons h3
  have e := strs_nil h4
  exact ⟨t0, t1, t2, t3, t4, by rw [e0, e1, e2, e3, e4, e]⟩

theorem medlo_c2 : ∀ {w : World} {p : Program} {loose : List Str} {mean : ExcName → Option Value} {mg mb : Str → Option Value} {dp un : Nat} {gd : Option (List Code)} {cn : Str} {cs : Scope} {a : Addr} {ccd : Value} {cl : List (Str × Addr)} {outer : List Env} {A₀ : Around} {base h₀ : Heap} {L : Addr} {m : Str → Option Value} {news : List (Addr × Obj)} {s : Shared} {l : Addr} {n : Nat} {vs : List Value} {ss : List Str} {Q E : Value → Shared → Prop}
    (_ : Below A₀ base outer h₀) (_ : Fr h₀ L s.heap m) (_ : (hd.heap_39 w.params).In h₀) (_ : News h₀ L s.heap news) (_ : Top p loose mean mg mb h₀) (_ : cs.kind = .function) (_ : dp + 1 < recursionLimit) (_ : un + 8 < cLine)
    (_ : (l, listOf vs.toArray n) ∈ news) (_ : StrsAre vs ss) (_ : ss.length = 2)
    (_ : ∀ x t h' tk' ss', ss'.Perm ss → sortedS ss' = true → ss'[0]? = some x → Fr h₀ L h' m → News h₀ L h' news → Q (.str x t) { s with heap := h', toks := tk' }),
    wpAny (model PySem.Challenge.rw_rs0028_01.row.prog w) (ktrTop dp un gd cn cs L a ccd cl outer) (call (.ref 34) [.ref l]) Q E s := by
  k_fill
  intro w p loose mean mg mb dp un gd cn cs a ccd cl outer A₀ base h₀ L m news s l n vs ss Q E hB hF hX hN hT hk hd hu hm hS hlen hret
  refine wpAny_call ?_
  k_dflt cell_enter
  k_steps
  refine sorted_N_str (by k_asm) (by k_asm) (News.isList (by k_asm) hm) hS (by rw [hS.length, hlen]; decide) ?_
  intro h5 vs' ss' e F5 N5 hS' hp hs
  have hl' := hp.length_eq.trans hlen
  match ss', hl', hS', hs, hp with
  | [y0, y1], _, hS', hs, hp =>
    obtain ⟨t0, t1, rfl⟩ := strs2 hS'
    k_steps
    exact hret _ _ _ _ _ hp hs rfl (by k_asm) (by first | k_asm | exact cb_drop (by k_asm) (by kcj_all))

theorem medlo_c3 : ∀ {w : World} {p : Program} {loose : List Str} {mean : ExcName → Option Value} {mg mb : Str → Option Value} {dp un : Nat} {gd : Option (List Code)} {cn : Str} {cs : Scope} {a : Addr} {ccd : Value} {cl : List (Str × Addr)} {outer : List Env} {A₀ : Around} {base h₀ : Heap} {L : Addr} {m : Str → Option Value} {news : List (Addr × Obj)} {s : Shared} {l : Addr} {n : Nat} {vs : List Value} {ss : List Str} {Q E : Value → Shared → Prop}
    (_ : Below A₀ base outer h₀) (_ : Fr h₀ L s.heap m) (_ : (hd.heap_39 w.params).In h₀) (_ : News h₀ L s.heap news) (_ : Top p loose mean mg mb h₀) (_ : cs.kind = .function) (_ : dp + 1 < recursionLimit) (_ : un + 8 < cLine)
    (_ : (l, listOf vs.toArray n) ∈ news) (_ : StrsAre vs ss) (_ : ss.length = 3)
    (_ : ∀ x t h' tk' ss', ss'.Perm ss → sortedS ss' = true → ss'[1]? = some x → Fr h₀ L h' m → News h₀ L h' news → Q (.str x t) { s with heap := h', toks := tk' }),
    wpAny (model PySem.Challenge.rw_rs0028_01.row.prog w) (ktrTop dp un gd cn cs L a ccd cl outer) (call (.ref 34) [.ref l]) Q E s := by
  k_fill
  intro w p loose mean mg mb dp un gd cn cs a ccd cl outer A₀ base h₀ L m news s l n vs ss Q E hB hF hX hN hT hk hd hu hm hS hlen hret
  refine wpAny_call ?_
  k_dflt cell_enter
  k_steps
  refine sorted_N_str (by k_asm) (by k_asm) (News.isList (by k_asm) hm) hS (by rw [hS.length, hlen]; decide) ?_
  intro h5 vs' ss' e F5 N5 hS' hp hs
  have hl' := hp.length_eq.trans hlen
  match ss', hl', hS', hs, hp with
  | [y0, y1, y2], _, hS', hs, hp =>
    obtain ⟨t0, t1, t2, rfl⟩ := strs3 hS'
    k_steps
    exact hret _ _ _ _ _ hp hs rfl (by k_asm) (by first | k_asm | exact cb_drop (by k_asm) (by kcj_all))

theorem medlo_c4 : ∀ {w : World} {p : Program} {loose : List Str} {mean : ExcName → Option Value} {mg mb : Str → Option Value} {dp un : Nat} {gd : Option (List Code)} {cn : Str} {cs : Scope} {a : Addr} {ccd : Value} {cl : List (Str × Addr)} {outer : List Env} {A₀ : Around} {base h₀ : Heap} {L : Addr} {m : Str → Option Value} {news : List (Addr × Obj)} {s : Shared} {l : Addr} {n : Nat} {vs : List Value} {ss : List Str} {Q E : Value → Shared → Prop}
    (_ : Below A₀ base outer h₀) (_ : Fr h₀ L s.heap m) (_ : (hd.heap_39 w.params).In h₀) (_ : News h₀ L s.heap news) (_ : Top p loose mean mg mb h₀) (_ : cs.kind = .function) (_ : dp + 1 < recursionLimit) (_ : un + 8 < cLine)
    (_ : (l, listOf vs.toArray n) ∈ news) (_ : StrsAre vs ss) (_ : ss.length = 4)
    (_ : ∀ x t h' tk' ss', ss'.Perm ss → sortedS ss' = true → ss'[1]? = some x → Fr h₀ L h' m → News h₀ L h' news → Q (.str x t) { s with heap := h', toks := tk' }),
    wpAny (model PySem.Challenge.rw_rs0028_01.row.prog w) (ktrTop dp un gd cn cs L a ccd cl outer) (call (.ref 34) [.ref l]) Q E s := by
  k_fill
  intro w p loose mean mg mb dp un gd cn cs a ccd cl outer A₀ base h₀ L m news s l n vs ss Q E hB hF hX hN hT hk hd hu hm hS hlen hret
  refine wpAny_call ?_
  k_dflt cell_enter
  k_steps
  refine sorted_N_str (by k_asm) (by k_asm) (News.isList (by k_asm) hm) hS (by rw [hS.length, hlen]; decide) ?_
  intro h5 vs' ss' e F5 N5 hS' hp hs
  have hl' := hp.length_eq.trans hlen
  match ss', hl', hS', hs, hp with
  | [y0, y1, y2, y3], _, hS', hs, hp =>
    obtain ⟨t0, t1, t2, t3, rfl⟩ := strs4 hS'
    k_steps
    exact hret _ _ _ _ _ hp hs rfl (by k_asm) (by first | k_asm | exact cb_drop (by k_asm) (by kcj_all))

theorem medlo_c5 : ∀ {w : World} {p : Program} {loose : List Str} {mean : ExcName → Option Value} {mg mb : Str → Option Value} {dp un : Nat} {gd : Option (List Code)} {cn : Str} {cs : Scope} {a : Addr} {ccd : Value} {cl : List (Str × Addr)} {outer : List Env} {A₀ : Around} {base h₀ : Heap} {L : Addr} {m : Str → Option Value} {news : List (Addr × Obj)} {s : Shared} {l : Addr} {n : Nat} {vs : List Value} {ss : List Str} {Q E : Value → Shared → Prop}
    (_ : Below A₀ base outer h₀) (_ : Fr h₀ L s.heap m) (_ : (hd.heap_39 w.params).In h₀) (_ : News h₀ L s.heap news) (_ : Top p loose mean mg mb h₀) (_ : cs.kind = .function) (_ : dp + 1 < recursionLimit) (_ : un + 8 < cLine)
    (_ : (l, listOf vs.toArray n) ∈ news) (_ : StrsAre vs ss) (_ : ss.length = 5)
    (_ : ∀ x t h' tk' ss', ss'.Perm ss → sortedS ss' = true → ss'[2]? = some x → Fr h₀ L h' m → News h₀ L h' news → Q (.str x t) { s with heap := h', toks := tk' }),
    wpAny (model PySem.Challenge.rw_rs0028_01.row.prog w) (ktrTop dp un gd cn cs L a ccd cl outer) (call (.ref 34) [.ref l]) Q E s := by
  k_fill
  intro w p loose mean mg mb dp un gd cn cs a ccd cl outer A₀ base h₀ L m news s l n vs ss Q E hB hF hX hN hT hk hd hu hm hS hlen hret
  refine wpAny_call ?_
  k_dflt cell_enter
  k_steps
  refine sorted_N_str (by k_asm) (by k_asm) (News.isList (by k_asm) hm) hS (by rw [hS.length, hlen]; decide) ?_
  intro h5 vs' ss' e F5 N5 hS' hp hs
  have hl' := hp.length_eq.trans hlen
  match ss', hl', hS', hs, hp with
  | [y0, y1, y2, y3, y4], _, hS', hs, hp =>
    obtain ⟨t0, t1, t2, t3, t4, rfl⟩ := strs5 hS'
    k_steps
    exact hret _ _ _ _ _ hp hs rfl (by k_asm) (by first | k_asm | exact cb_drop (by k_asm) (by kcj_all))

theorem medhi_c2 : ∀ {w : World} {p : Program} {loose : List Str} {mean : ExcName → Option Value} {mg mb : Str → Option Value} {dp un : Nat} {gd : Option (List Code)} {cn : Str} {cs : Scope} {a : Addr} {ccd : Value} {cl : List (Str × Addr)} {outer : List Env} {A₀ : Around} {base h₀ : Heap} {L : Addr} {m : Str → Option Value} {news : List (Addr × Obj)} {s : Shared} {l : Addr} {n : Nat} {vs : List Value} {ss : List Str} {Q E : Value → Shared → Prop}
    (_ : Below A₀ base outer h₀) (_ : Fr h₀ L s.heap m) (_ : (hd.heap_39 w.params).In h₀) (_ : News h₀ L s.heap news) (_ : Top p loose mean mg mb h₀) (_ : cs.kind = .function) (_ : dp + 1 < recursionLimit) (_ : un + 8 < cLine)
    (_ : (l, listOf vs.toArray n) ∈ news) (_ : StrsAre vs ss) (_ : ss.length = 2)
    (_ : ∀ x t h' tk' ss', ss'.Perm ss → sortedS ss' = true → ss'[1]? = some x → Fr h₀ L h' m → News h₀ L h' news → Q (.str x t) { s with heap := h', toks := tk' }),
    wpAny (model PySem.Challenge.rw_rs0028_01.row.prog w) (ktrTop dp un gd cn cs L a ccd cl outer) (call (.ref 41) [.ref l]) Q E s := by
  k_fill
  intro w p loose mean mg mb dp un gd cn cs a ccd cl outer A₀ base h₀ L m news s l n vs ss Q E hB hF hX hN hT hk hd hu hm hS hlen hret
  refine wpAny_call ?_
  k_dflt cell_enter
  k_steps
  refine sorted_N_str (by k_asm) (by k_asm) (News.isList (by k_asm) hm) hS (by rw [hS.length, hlen]; decide) ?_
  intro h5 vs' ss' e F5 N5 hS' hp hs
  have hl' := hp.length_eq.trans hlen
  match ss', hl', hS', hs, hp with
  | [y0, y1], _, hS', hs, hp =>
    obtain ⟨t0, t1, rfl⟩ := strs2 hS'
    k_steps
    exact hret _ _ _ _ _ hp hs rfl (by k_asm) (by first | k_asm | exact cb_drop (by k_asm) (by kcj_all))

theorem medhi_c4 : ∀ {w : World} {p : Program} {loose : List Str} {mean : ExcName → Option Value} {mg mb : Str → Option Value} {dp un : Nat} {gd : Option (List Code)} {cn : Str} {cs : Scope} {a : Addr} {ccd : Value} {cl : List (Str × Addr)} {outer : List Env} {A₀ : Around} {base h₀ : Heap} {L : Addr} {m : Str → Option Value} {news : List (Addr × Obj)} {s : Shared} {l : Addr} {n : Nat} {vs : List Value} {ss : List Str} {Q E : Value → Shared → Prop}
    (_ : Below A₀ base outer h₀) (_ : Fr h₀ L s.heap m) (_ : (hd.heap_39 w.params).In h₀) (_ : News h₀ L s.heap news) (_ : Top p loose mean mg mb h₀) (_ : cs.kind = .function) (_ : dp + 1 < recursionLimit) (_ : un + 8 < cLine)
    (_ : (l, listOf vs.toArray n) ∈ news) (_ : StrsAre vs ss) (_ : ss.length = 4)
    (_ : ∀ x t h' tk' ss', ss'.Perm ss → sortedS ss' = true → ss'[2]? = some x → Fr h₀ L h' m → News h₀ L h' news → Q (.str x t) { s with heap := h', toks := tk' }),
    wpAny (model PySem.Challenge.rw_rs0028_01.row.prog w) (ktrTop dp un gd cn cs L a ccd cl outer) (call (.ref 41) [.ref l]) Q E s := by
  k_fill
  intro w p loose mean mg mb dp un gd cn cs a ccd cl outer A₀ base h₀ L m news s l n vs ss Q E hB hF hX hN hT hk hd hu hm hS hlen hret
  refine wpAny_call ?_
  k_dflt cell_enter
  k_steps
  refine sorted_N_str (by k_asm) (by k_asm) (News.isList (by k_asm) hm) hS (by rw [hS.length, hlen]; decide) ?_
  intro h5 vs' ss' e F5 N5 hS' hp hs
  have hl' := hp.length_eq.trans hlen
  match ss', hl', hS', hs, hp with
  | [y0, y1, y2, y3], _, hS', hs, hp =>
    obtain ⟨t0, t1, t2, t3, rfl⟩ := strs4 hS'
    k_steps
    exact hret _ _ _ _ _ hp hs rfl (by k_asm) (by first | k_asm | exact cb_drop (by k_asm) (by kcj_all))

theorem medhi_c5 : ∀ {w : World} {p : Program} {loose : List Str} {mean : ExcName → Option Value} {mg mb : Str → Option Value} {dp un : Nat} {gd : Option (List Code)} {cn : Str} {cs : Scope} {a : Addr} {ccd : Value} {cl : List (Str × Addr)} {outer : List Env} {A₀ : Around} {base h₀ : Heap} {L : Addr} {m : Str → Option Value} {news : List (Addr × Obj)} {s : Shared} {l : Addr} {n : Nat} {vs : List Value} {ss : List Str} {Q E : Value → Shared → Prop}
    (_ : Below A₀ base outer h₀) (_ : Fr h₀ L s.heap m) (_ : (hd.heap_39 w.params).In h₀) (_ : News h₀ L s.heap news) (_ : Top p loose mean mg mb h₀) (_ : cs.kind = .function) (_ : dp + 1 < recursionLimit) (_ : un + 8 < cLine)
    (_ : (l, listOf vs.toArray n) ∈ news) (_ : StrsAre vs ss) (_ : ss.length = 5)
    (_ : ∀ x t h' tk' ss', ss'.Perm ss → sortedS ss' = true → ss'[2]? = some x → Fr h₀ L h' m → News h₀ L h' news → Q (.str x t) { s with heap := h', toks := tk' }),
    wpAny (model PySem.Challenge.rw_rs0028_01.row.prog w) (ktrTop dp un gd cn cs L a ccd cl outer) (call (.ref 41) [.ref l]) Q E s := by
  k_fill
  intro w p loose mean mg mb dp un gd cn cs a ccd cl outer A₀ base h₀ L m news s l n vs ss Q E hB hF hX hN hT hk hd hu hm hS hlen hret
  refine wpAny_call ?_
  k_dflt cell_enter
  k_steps
  refine sorted_N_str (by k_asm) (by k_asm) (News.isList (by k_asm) hm) hS (by rw [hS.length, hlen]; decide) ?_
  intro h5 vs' ss' e F5 N5 hS' hp hs
  have hl' := hp.length_eq.trans hlen
  match ss', hl', hS', hs, hp with
  | [y0, y1, y2, y3, y4], _, hS', hs, hp =>
    obtain ⟨t0, t1, t2, t3, t4, rfl⟩ := strs5 hS'
    k_steps
    exact hret _ _ _ _ _ hp hs rfl (by k_asm) (by first | k_asm | exact cb_drop (by k_asm) (by kcj_all))
end Mine

namespace Mine
open PySem PySem.W PyProof.Rows PySem.Calls PySem.Spec
theorem w_off_CC : True := by
  w_top off
  exact trivial

/-- the middle one of three -/
def Med (i : Nat) (ss : List Str) (z : Str) : Prop := ∃ ss', ss'.Perm ss ∧ sortedS ss' = true ∧ ss'[i]? = some z
local macro_rules | `(tactic| walk_at "call ref") => `(tactic| (k_here; (with_reducible show wpAny _ _ (call (Value.ref 34) [Value.ref _]) _ _ _); refine medlo_c3 (by k_asm) (by k_asm) (by k_asm) (by k_asm) (by k_asm) (by first | rfl | assumption) (by ktr_room) (by ktr_units) (by k_mem) (.cons _ _ (.cons _ _ (.cons _ _ .nil))) (by rfl) ?_; intro x9 t9 h9 tk9 ss9 hp9 hs9 hx9 F9 N9; (try dsimp only); (try k_fold)))

theorem told_c : ∀ {w : World} {p : Program} {loose : List Str} {mean : ExcName → Option Value} {mg mb : Str → Option Value} {dp un : Nat} {gd : Option (List Code)} {cn : Str} {cs : Scope} {a : Addr} {ccd : Value} {cl : List (Str × Addr)} {outer : List Env} {A₀ : Around} {base h₀ : Heap} {L : Addr} {m : Str → Option Value} {news : List (Addr × Obj)} {s : Shared} {lc r0 r1 : Addr} {n n0 n1 : Nat} {x y c00 c01 c10 c11 : Str} {tx ty t00 t01 t10 t11 : Tok} {Q E : Value → Shared → Prop}
    (_ : Below A₀ base outer h₀) (_ : Fr h₀ L s.heap m) (_ : (hd.heap_39 w.params).In h₀) (_ : News h₀ L s.heap ((lc, listOf #[.ref r0, .ref r1] n) :: (r0, listOf #[.str c00 t00, .str c01 t01] n0) :: (r1, listOf #[.str c10 t10, .str c11 t11] n1) :: news)) (_ : Top p loose mean mg mb h₀) (_ : cs.kind = .function) (_ : dp + 4 < recursionLimit) (_ : un + 40 < cLine)
    (_ : ∀ z lo up t h' tk', Med 1 [y, c00, c01] lo → Med 1 [y, c10, c11] up → Med 1 [x, lo, up] z → Fr h₀ L h' m → News h₀ L h' ((lc, listOf #[.ref r0, .ref r1] n) :: (r0, listOf #[.str c00 t00, .str c01 t01] n0) :: (r1, listOf #[.str c10 t10, .str c11 t11] n1) :: news) → Q (.str z t) { s with heap := h', toks := tk' }),
    wpAny (model PySem.Challenge.rw_rs0028_01.row.prog w) (ktrTop dp un gd cn cs L a ccd cl outer) (call (.ref 74) [.str x tx, .str y ty, .ref lc]) Q E s := by
  k_fill
  intros; rename_i hret
  refine wpAny_call ?_
  k_dflt cell_enter
  k_steps
  exact hret _ _ _ _ _ _ ⟨_, by assumption, by assumption, by assumption⟩ ⟨_, by assumption, by assumption, by assumption⟩ ⟨_, by assumption, by assumption, by assumption⟩ (by k_asm) (by first | k_asm | (refine' cb_drop ?cbN ?cbS; (case cbN => assumption); (case cbS => kcj_all)))
end Mine

namespace Mine
open PySem PySem.W PyProof.Rows PySem.Calls PySem.Spec PyProof.Rows.LCg PyProof.Rows.LCt
def Halt (P : Prop) : Prop := P
theorem halt_in {P : Prop} (h : Halt P) : P := h

section
variable {prog : Program} {w : World} {A : Around} {E : Value → Shared → Prop} {s : Shared} {h₀ : Heap} {L : Addr} {m : Str → Option Value} {env : Env}

def TupAt (ax : Addr) (its : Array Value) (news : List (Addr × Obj)) : Prop := ∃ o, (ax, o) ∈ news ∧ o.cls = .type "tuple" ∧ ∃ n, o.data = .seq its n
theorem TupAt.tup {h : Heap} {ax : Addr} {its : Array Value} {news : List (Addr × Obj)} (x : TupAt ax its news) (N : News h₀ L h news) : h.IsTuple ax its :=
  let ⟨o, hm, r⟩ := x; ⟨o, (N _ hm).1, r⟩
theorem tup_st {ax I : Addr} {its : Array Value} : ∀ i (h h' : Heap) (o : Obj) (nw : List (Addr × Obj)), (h.IsTupleIter I ax i ∧ h.IsTuple ax its) → h.get? I = some o → h'.get? I = some o → (∀ b o, h₀.get? b = some o → h'.get? b = some o) → News h₀ L h' nw → TupAt ax its nw → (h'.IsTupleIter I ax i ∧ h'.IsTuple ax its) :=
  fun i h h' o nw st e e' k N S => ⟨by obtain ⟨o', q, r⟩ := st.1; rw [e] at q; cases q; exact ⟨o, e', r⟩, S.tup N⟩

def TupSrc (prog : Program) (w : World) (A : Around) (h₀ : Heap) (L : Addr) (m : Str → Option Value) (env : Env) (ct elt : Expr) (x : Str) (scope : Scope) (cl : List (Str × Addr)) (Q : Value → Shared → Prop) (xv : Value) (s₁ : Shared) : Prop :=
  ∃ ax its news, xv = .ref ax ∧ A.handled = none ∧ Fr h₀ L s₁.heap m ∧ News h₀ L s₁.heap news ∧ TupAt ax its news ∧ its.size ≤ sizeLine ∧
      ∀ g, CompRestT prog w A h₀ L m env ct elt x scope cl { s₁ with heap := g } (TupAt ax its) (fun i v => its[i]? = some v) (FinE h₀ L m { s₁ with heap := g } Q) its.size 0 [] news
/-- a block over a made tuple, with one test -/
theorem comp_tup {ct elt iter : Expr} {x : Str} {px : Pos} {scope : Scope} {cl : List (Str × Addr)} {pos : Pos} {Q : Value → Shared → Prop}
    (F₀ : Fr h₀ L s.heap m) (hclos : closureFor scope env = pure cl) (hcell : ∀ y ∈ scope.names, y.2 ≠ .cell) (hkind : scope.kind = .function)
    (hnames : ∀ y ∈ scope.names, y.2 = .local → scope.names.lookup y.1 = some .local) (hx : scope.names.lookup x = some .local)
    (h : wpAny (model prog w) A (eval iter env) (TupSrc prog w A h₀ L m env ct elt x scope cl Q) E s)
    (hs : ∀ x, foldedSetIterable iter env x = pure x := by intro _; rfl) :
    wpAny (model prog w) A (eval (.ListComp elt [⟨.Name x px, iter, [ct], 0⟩] scope pos) env) Q E s := by
  rw [eval_ListComp]
  refine wpAny_comprehension_free (use := none) rfl hs hclos hkind hnames (wpAny_mono h (fun xv s₁ h₁ => ?_) fun _ _ e => e)
  obtain ⟨ax, its, news, rfl, hh, F, N, S, hsz, R⟩ := h₁
  have hl := S.tup N
  have hlt : ax < s₁.heap.objs.size := by obtain ⟨_, e, _⟩ := hl; exact Heap.lt_size e
  refine wpAny_pyIter_tuple hl ?_
  have up : ∀ b o, s₁.heap.get? b = some o → (s₁.heap.push { cls := .type "tuple_iterator", data := .fields #[.ref ax, .int 0 0] }).get? b = some o := fun b o e => Heap.get?_push_of_some _ e
  refine block_T (Walks.tuple hh s₁.heap.objs.size ax (Nat.ne_of_lt hlt) its) hsz (fun i h st => by obtain ⟨o, e, _⟩ := st.1; exact ⟨o, e⟩) tup_st hcell hkind hx ⟨⟨_, Heap.get?_push_size _ rfl, rfl, rfl⟩, hl.at fun o e => up _ o e⟩ ?_
    (F.keeps up) (N.grown up) (Nat.ne_of_lt F.ns.lt) (next_is_new F) (fun p hp => Nat.ne_of_lt (Heap.lt_size (N p hp).1)) S (R _) ?_
  · intro b hb
    show b < (s₁.heap.push _).objs.size
    rw [Heap.size_push]
    rcases List.mem_cons.mp hb with rfl | hb
    · exact Nat.lt_succ_self _
    · rw [List.mem_singleton.mp hb]; exact Nat.lt_succ_of_lt hlt
  · intro D C h tk m' ys news' F' N' o1 hn hC₀ hD₀ hCL hDL hCD offC fin
    refine ⟨m', hn, fun h'' hs'' => fin D h'' tk (F'.change hs'' hCL hC₀) (fun p hp => ⟨hs''.extBut _ _ ?_ (N' p hp).1, (N' p hp).2⟩) o1⟩
    rcases List.mem_cons.mp hp with rfl | hp
    · exact Ne.symm hCD
    · exact offC p hp

/-- what holds of the list so far, turn by turn, where the turns leave nothing behind -/
theorem restT_ind {ct elt : Expr} {x : Str} {scope : Scope} {cl : List (Str × Addr)} {S : List (Addr × Obj) → Prop} {P : Nat → Value → Prop} {Fin : List Value → List (Addr × Obj) → Prop} {news : List (Addr × Obj)} (Inv : Nat → List Value → Prop) (n : Nat) (h0 : Inv 0 [])
    (step : ∀ i ys, i < n → Inv i ys → ∀ v I oI C oC D m₂ h tk (E' : Value → Shared → Prop), P i v → NsObj oC m₂ → m₂ x = some v → Fr h₀ L h m → News h₀ L h ((I, oI) :: (C, oC) :: (D, lst ys) :: news) → Off3 I C D news → ((@Ne Nat I C) ∧ (@Ne Nat I D) ∧ (@Ne Nat C D)) →
      wpAny (model prog w) A (isTrue ct (compEnvC scope cl C env) (eval ct (compEnvC scope cl C env))) (fun ok s' => if ok = true then
        wpAny (model prog w) A (eval elt (compEnvC scope cl C env)) (CompEnd h₀ L m { s with heap := h, toks := tk } I oI C oC D (lst ys) S (fun y news' => news' = news ∧ Inv (i + 1) (ys ++ [y]))) E' s'
        else CompEnd h₀ L m { s with heap := h, toks := tk } I oI C oC D (lst ys) S (fun _ news' => news' = news ∧ Inv (i + 1) ys) Value.none s') E' { s with heap := h, toks := tk })
    (fin : ∀ ys, Inv n ys → Fin ys news) : CompRestT prog w A h₀ L m env ct elt x scope cl s S P Fin n 0 [] news := by
  have key : ∀ k i ys, i + k = n → Inv i ys → CompRestT prog w A h₀ L m env ct elt x scope cl s S P Fin k i ys news := by
    intro k
    induction k with
    | zero => intro i ys e hi; exact fin ys (by rw [← e]; exact hi)
    | succ k ih =>
      intro i ys e hi
      refine CompRestT.succ fun v I oI C oC D m₂ h tk E' a1 a2 a3 a4 a5 a6 a7 => ?_
      refine wpAny_mono (step i ys (by omega) hi v I oI C oC D m₂ h tk E' a1 a2 a3 a4 a5 a6 a7) (fun ok s' q => ?_) fun _ _ y => y
      cases ok with
      | true =>
        simp only [if_true] at q ⊢
        refine wpAny_mono q (fun y s₂ q => ?_) fun _ _ y => y
        obtain ⟨h', tk', news', e1, F', N', o', S', rfl, hI⟩ := q
        exact ⟨h', tk', news', e1, F', N', o', S', ih _ _ (by omega) hI⟩
      | false =>
        simp only [Bool.false_eq_true, if_false] at q ⊢
        obtain ⟨h', tk', news', e1, F', N', o', S', rfl, hI⟩ := q
        exact ⟨h', tk', news', e1, F', N', o', S', ih _ _ (by omega) hI⟩
  exact key n 0 [] (Nat.zero_add n) h0

theorem rest_ind {elt : Expr} {x : Str} {scope : Scope} {cl : List (Str × Addr)} {S : List (Addr × Obj) → Prop} {P : Nat → Value → Prop} {Fin : List Value → List (Addr × Obj) → Prop} {news : List (Addr × Obj)} (Inv : Nat → List Value → Prop) (n : Nat) (h0 : Inv 0 [])
    (step : ∀ i ys, i < n → Inv i ys → ∀ v I oI C oC D m₂ h tk (E' : Value → Shared → Prop), P i v → NsObj oC m₂ → m₂ x = some v → Fr h₀ L h m → News h₀ L h ((I, oI) :: (C, oC) :: (D, lst ys) :: news) → Off3 I C D news → ((@Ne Nat I C) ∧ (@Ne Nat I D) ∧ (@Ne Nat C D)) →
        wpAny (model prog w) A (eval elt (compEnvC scope cl C env)) (CompEnd h₀ L m { s with heap := h, toks := tk } I oI C oC D (lst ys) S (fun y news' => news' = news ∧ Inv (i + 1) (ys ++ [y]))) E' { s with heap := h, toks := tk })
    (fin : ∀ ys, Inv n ys → Fin ys news) : CompRest prog w A h₀ L m env elt x scope cl s S P Fin n 0 [] news := by
  have key : ∀ k i ys, i + k = n → Inv i ys → CompRest prog w A h₀ L m env elt x scope cl s S P Fin k i ys news := by
    intro k
    induction k with
    | zero => intro i ys e hi; exact fin ys (by rw [← e]; exact hi)
    | succ k ih =>
      intro i ys e hi
      refine CompRest.succ fun v I oI C oC D m₂ h tk E' a1 a2 a3 a4 a5 a6 a7 => ?_
      refine wpAny_mono (step i ys (by omega) hi v I oI C oC D m₂ h tk E' a1 a2 a3 a4 a5 a6 a7) (fun y s' q => ?_) fun _ _ y => y
      obtain ⟨h', tk', news', e1, F', N', o', S', rfl, hI⟩ := q
      exact ⟨h', tk', news', e1, F', N', o', S', ih _ _ (by omega) hI⟩
  exact key n 0 [] (Nat.zero_add n) h0
end
end Mine

namespace Mine
open PySem PyProof.Rows.LCg PyProof.Rows.LCt PySem.W PyProof.Rows PySem.Calls PySem.Spec
theorem w_off_CD : True := by
  w_top off
  exact trivial

local macro_rules | `(tactic| walk_at "eval ListComp") => `(tactic| refine halt_in ?_)
local macro_rules | `(tactic| walk_at "subscriptTail Name Call ref int") => `(tactic| ((with_reducible show wpAny _ _ (subscriptTail _ _ (Value.ref _) (Value.int (ite _ _ _) _)) _ _ _); refine halt_in ?_))
local macro_rules | `(tactic| walk_at "call builtin:len") => `(tactic| refine halt_in ?_)

theorem reached_c : ∀ {w : World} {p : Program} {loose : List Str} {mean : ExcName → Option Value} {mg mb : Str → Option Value} {dp un : Nat} {gd : Option (List Code)} {cn : Str} {cs : Scope} {a : Addr} {ccd : Value} {cl : List (Str × Addr)} {outer : List Env} {A₀ : Around} {base h₀ : Heap} {L : Addr} {m : Str → Option Value} {news : List (Addr × Obj)} {s : Shared} {lc r0 r1 : Addr} {n n0 n1 : Nat} {i j c00 c01 c10 c11 : Int} {ti tj t00 t01 t10 t11 : Tok} {Q E : Value → Shared → Prop}
    (_ : Below A₀ base outer h₀) (_ : Fr h₀ L s.heap m) (_ : (hd.heap_39 w.params).In h₀) (_ : News h₀ L s.heap ((lc, listOf #[.ref r0, .ref r1] n) :: (r0, listOf #[.int c00 t00, .int c01 t01] n0) :: (r1, listOf #[.int c10 t10, .int c11 t11] n1) :: news)) (_ : Top p loose mean mg mb h₀) (_ : cs.kind = .function) (_ : dp + 4 < recursionLimit) (_ : un + 40 < cLine)
    (_ : ∀ k t h' tk', 0 ≤ k → k < 4 → Fr h₀ L h' m → News h₀ L h' ((lc, listOf #[.ref r0, .ref r1] n) :: (r0, listOf #[.int c00 t00, .int c01 t01] n0) :: (r1, listOf #[.int c10 t10, .int c11 t11] n1) :: news) → Q (.int k t) { s with heap := h', toks := tk' }),
    wpAny (model PySem.Challenge.rw_rs0028_01.row.prog w) (ktrTop dp un gd cn cs L a ccd cl outer) (call (.ref 60) [.ref lc, .int i ti, .int j tj]) Q E s := by
  k_fill
  intro w p loose mean mg mb dp un gd cn cs a ccd cl outer A₀ base h₀ L m news s lc r0 r1 n n0 n1 i j c00 c01 c10 c11 ti tj t00 t01 t10 t11 Q E hB hF hX hN hT hk hd hu hret
  refine wpAny_call ?_
  k_dflt (refine' code_defC ?k1 ?k2 ?k3 ?k4 ?k5 ?kA ?kF ?kK ?k6 ?k7 ?k8 ?k9 ?kB ?kD ?_ ?c2 ?c3 ?c4; (case kA => exact rfl); (case kF => exact rfl); (case kK => assumption); (case k1 => k_asm); (case k2 => k_asm); (case k3 => k_asm); (case k4 => k_asm); (case k5 => k_asm); (case k6 => k_is); (case k7 => k_is); (case k8 => ktr_room); (case k9 => exact BindsTo.of_eq rfl); (case kB => exact rfl); (case kD => decide +kernel); (case c2 => exact rfl); (case c3 => exact rfl); (case c4 => exact rfl); k_whole; intro g' L' h' tk' cells' FG' F' N' Y' B' X' T' l1; (try k_lt l1); k_cells Y'; (try simp only [List.cons_append, List.nil_append] at N'); (try dsimp only); (try k_lift B'); (try k_fold))

  k_steps
  unfold Halt
  k_dflt (refine comp_tup (F₀ := by k_asm) (by with_unfolding_all rfl) (by decide) (by rfl) (by decide) (by rfl) ?_)
  k_steps
  refine ⟨_, _, _, rfl, rfl, by k_asm, by k_asm, ⟨_, by k_mem, rfl, _, rfl⟩, by exact Nat.le_of_ble_eq_true rfl, fun g => ?_⟩
  refine restT_ind (fun i ys => ys.length ≤ i) 3 (Nat.le_refl _) ?_ ?_
  · intro q ys hq hys v I oI C oC D m₂ h tk E' hv hC hx F N off ne
    obtain ⟨lev, tl, rfl⟩ : ∃ lev tl, v = Value.int lev tl := by
      match q, hq, hv with
      | 0, _, hv => exact ⟨_, _, (Option.some.inj hv).symm⟩
      | 1, _, hv => exact ⟨_, _, (Option.some.inj hv).symm⟩
      | 2, _, hv => exact ⟨_, _, (Option.some.inj hv).symm⟩
    clear hv
    have off0 := off
    simp only [LCg.Off3, and_true] at off
    k_steps
    unfold Halt
    have hb : (if decide (lev ≤ i) = true then (1 : Int) else 0) = 1 ∨ (if decide (lev ≤ i) = true then (1 : Int) else 0) = 0 := by split <;> simp
    rcases hb with hb | hb <;> rw [hb] <;> k_steps
    all_goals (refine CompEnd.intro (by k_asm) (by k_asm) _ (fun p hp => hp) off0 ⟨_, by k_mem, rfl, _, rfl⟩ ⟨rfl, ?_⟩)
    all_goals (first | exact Nat.le_succ_of_le hys | (rw [List.length_append, List.length_singleton]; exact Nat.succ_le_succ hys))
  · intro ys hys
    k_steps
    unfold Halt
    refine PyProof.Rows.len_list (News.isList (by k_asm) (by k_mem)) (by rw [List.size_toArray]; omega) ?_
    rw [List.size_toArray]
    k_steps
    exact hret _ _ _ _ (by omega) (by omega) (by k_asm) (by first | k_asm | exact cb_drop (by assumption) (by kcj_all))
end Mine

namespace Mine
open PySem PySem.W PyProof.Rows PySem.Calls PySem.Spec PyProof.Rows.LCg PyProof.Rows.LCt
/-- the four objects of a block's own: its iterator, its names, its cell, its list -/
def Off4 (I C K D : Addr) (l : List (Addr × Obj)) : Prop := ∀ p ∈ l, p.1 ≠ I ∧ p.1 ≠ C ∧ p.1 ≠ K ∧ p.1 ≠ D

/-- a turn's end: one more object may stand on the ledger -/
def CellEnd (h₀ : Heap) (L : Addr) (m : Str → Option Value) (s₁ : Shared) (I : Addr) (oI : Obj) (C : Addr) (oC : Obj) (K : Addr) (oK : Obj) (D : Addr) (oD : Obj) (R : Value → List (Addr × Obj) → Prop) (y : Value) (s₂ : Shared) : Prop :=
  ∃ h' tk nw', s₂ = { s₁ with heap := h', toks := tk } ∧ Fr h₀ L h' m ∧ News h₀ L h' ((I, oI) :: (C, oC) :: (K, oK) :: (D, oD) :: nw') ∧ Off4 I C K D nw' ∧ R y nw'

section
variable {prog : Program} {w : World} {A : Around} {E : Value → Shared → Prop} {s : Shared} {h₀ : Heap} {L : Addr} {m : Str → Option Value} {env : Env}

theorem newEnv_cell {scope : Scope} {x : Str} {globals : Addr} {cl : List (Str × Addr)} {qual : Str} {Q : Env → Shared → Prop}
    (hcl : ∀ n, cellsFrom n scope.names cl = (x, n) :: cl) (hpu : ∀ h, pushCells h scope.names = h.push { cls := .type "cell", data := .cell none })
    (hQ : Q { scope := scope, locals := s.heap.objs.size, globals := globals, cells := (x, s.heap.objs.size + 1) :: cl, qual := qual, func := none, code := env.code, frame := env.frame, builtins := env.builtins }
      { s with heap := (s.heap.push { cls := .type "dict", data := .dict #[] }).push { cls := .type "cell", data := .cell none } }) :
    wpAny (model prog w) A (newFunctionEnv scope globals cl [] qual none .none (some env)) Q E s := by
  unfold newFunctionEnv
  simp only [Option.isSome_some, if_true]
  refine wpAny_bind (wpAny_alloc ?_)
  refine wpAny_bind (wpAny_layCells _ (fun name kind cells => by cases hkc : kind == NameKind.cell <;> simp [hkc]) _ _ _ _ ?_)
  rw [show ({ s with heap := s.heap.push { cls := .type "dict", data := .dict #[] } } : Shared).heap.objs.size = s.heap.objs.size + 1 from Heap.size_push .., hcl, hpu]
  refine wpAny_bind ?_
  rw [List.forIn_nil]
  exact wpAny_pure (wpAny_pure hQ)

theorem block_C {elt iter : Expr} {x : Str} {px : Pos} {scope : Scope} {cl : List (Str × Addr)} {pos : Pos} {s₂ : Shared} {I : Addr} {fp : List Addr} {n : Nat} {P : Nat → Value → Prop} {St : Nat → Heap → Prop} {S : List (Addr × Obj) → Prop} {news : List (Addr × Obj)}
    {RR : Value → Addr → Result → Shared → Prop} (R : Nat → List Value → List (Addr × Obj) → Prop)
    (W : Walks prog w A I fp [I] n P St) (hsz : n ≤ sizeLine) (hIo : ∀ i h, St i h → ∃ o, h.get? I = some o)
    (hSt : ∀ i h h' o nw, St i h → h.get? I = some o → h'.get? I = some o → (∀ b o, h₀.get? b = some o → h'.get? b = some o) → News h₀ L h' nw → S nw → St i h')
    (hcl : ∀ n, cellsFrom n scope.names cl = (x, n) :: cl) (hpu : ∀ h, pushCells h scope.names = h.push { cls := .type "cell", data := .cell none })
    (hkind : scope.kind = .function) (hx : ∀ K C, (compEnvC scope ((x, K) :: cl) C env).kindOf x = some .cell) (hst : St 0 s₂.heap) (hfp : ∀ b ∈ fp, b < s₂.heap.objs.size)
    (F : Fr h₀ L s₂.heap m) (N : News h₀ L s₂.heap news) (hIL : L ≠ I) (hI₀ : h₀.get? I = none) (off : ∀ p ∈ news, p.1 ≠ I) (hS : ∀ i ys nw, R i ys nw → S nw) (h0 : R 0 [] news) (hlen : ∀ i ys nw, R i ys nw → ys.length = i)
    (turn : ∀ i ys nw v I oI C oC K oK D h tk (E' : Value → Shared → Prop), i < n → P i v → R i ys nw → oK.data = .cell (some v) → Fr h₀ L h m → News h₀ L h ((I, oI) :: (C, oC) :: (K, oK) :: (D, lst ys) :: nw) → Off4 I C K D nw →
      ((@Ne Nat I C) ∧ (@Ne Nat I K) ∧ (@Ne Nat I D) ∧ (@Ne Nat C K) ∧ (@Ne Nat C D) ∧ (@Ne Nat K D)) →
      wpAny (model prog w) A (eval elt (compEnvC scope ((x, K) :: cl) C env)) (CellEnd h₀ L m { s₂ with heap := h, toks := tk } I oI C oC K oK D (lst ys) (fun y nw' => R (i + 1) (ys ++ [y]) nw')) E' { s₂ with heap := h, toks := tk })
    (hRR : ∀ D C h tk m' ys nw, Fr h₀ L h m → News h₀ L h ((D, lst ys) :: nw) → (∀ p ∈ nw, p.1 ≠ D) → h.Ns C m' → h₀.get? C = none → h₀.get? D = none → C ≠ L → D ≠ L → C ≠ D → (∀ p ∈ nw, p.1 ≠ C) → R n ys nw → RR (.ref D) C (.ok .next) { s₂ with heap := h, toks := tk }) :
    wpAny (model prog w) A (newList []) (fun acc s₃ => wpAny (model prog w) A (newFunctionEnv scope env.globals cl [] env.qual none .none (some env)) (fun cenv s₄ =>
      codeAny (model prog w) A (.compStart (.ListComp elt [⟨.Name x px, iter, [], 0⟩] scope pos) 0 (.ref I) acc { cenv with scope := relabel scope env }) (RR acc cenv.locals) s₄) E s₃) E s₂ := by
  refine wpAny_newObj_type (newEnv_cell hcl hpu ?_)
  dsimp only
  generalize hz : s₂.heap.objs.size = z at *
  generalize hH : ((s₂.heap.push { cls := .type "list", dict := none, data := .seq ([] : List Value).toArray }).push { cls := .type "dict", data := .dict #[] }).push { cls := .type "cell", data := .cell none } = H
  have hz1 : (s₂.heap.push { cls := .type "list", dict := none, data := .seq ([] : List Value).toArray }).objs.size = z + 1 := by rw [Heap.size_push, hz]
  have hz2 : ((s₂.heap.push { cls := .type "list", dict := none, data := .seq ([] : List Value).toArray }).push { cls := .type "dict", data := .dict #[] }).objs.size = z + 1 + 1 := by rw [Heap.size_push, hz1]
  rw [hz1]
  have old : ∀ b o, s₂.heap.get? b = some o → H.get? b = some o := fun b o e => hH ▸ Heap.get?_push_of_some _ (Heap.get?_push_of_some _ (Heap.get?_push_of_some _ e))
  have gD : H.get? z = some (lst []) := by rw [← hH]; refine Heap.get?_push_of_some _ (Heap.get?_push_of_some _ ?_); rw [← hz]; exact Heap.get?_push_size _ rfl
  have gC : H.Ns (z + 1) (fun _ => none) := by
    refine ⟨{ cls := .type "dict", data := .dict #[] }, #[], 0, ?_, rfl, ?_, fun _ => rfl⟩
    · rw [← hH]; refine Heap.get?_push_of_some _ ?_; rw [← hz1]; exact Heap.get?_push_size _ rfl
    · intro e he; simp at he
  have gK : H.IsCell (z + 1 + 1) none := by
    refine ⟨{ cls := .type "cell", data := .cell none }, ?_, rfl⟩
    rw [← hH, ← hz2]; exact Heap.get?_push_size _ rfl
  have lt : ∀ (b : Nat) o, s₂.heap.get? b = some o → @LT.lt Nat _ b z := fun b o e => hz ▸ Heap.lt_size e
  have fresh : ∀ (a : Nat), @LE.le Nat _ z a → h₀.get? a = none := fun a ha => by
    cases e : h₀.get? a with
    | none => rfl
    | some o' => exact absurd (lt a o' (F.keep a o' e)) (Nat.not_lt.mpr ha)
  have hLz : @LT.lt Nat _ L z := by obtain ⟨o, _, _, e, _⟩ := F.ns; exact lt L o e
  have hIz : @LT.lt Nat _ I z := hz ▸ hfp I (W.sub I (List.mem_singleton.mpr rfl))
  have hDf : z ∉ fp := fun q => Nat.lt_irrefl _ (hz ▸ hfp _ q)
  have hCf : z + 1 ∉ fp := fun q => by have q2 : @LT.lt Nat _ _ z := hfp _ q; omega
  have hKf : z + 1 + 1 ∉ fp := fun q => by have q2 : @LT.lt Nat _ _ z := hfp _ q; omega
  have nI : ∀ (b : Nat), @Ne Nat b I → b ∉ [I] := fun b hb q => hb (List.mem_singleton.mp q)
  have loop : ∀ s₃ : Shared, s₃ = { s₂ with heap := H } →
      codeAny (model prog w) A (.compLoop (.ListComp elt [⟨.Name x px, iter, [], 0⟩] scope pos) 0 (.ref I) (.ref z) (compEnvC scope ((x, z + 1 + 1) :: cl) (z + 1) env)) (RR (.ref z) (z + 1)) s₃ := by
    rintro s₃ rfl
    refine codeAny_compLoop_tests (fun k s' => ∃ h' tk i ys m' nw v₀, s' = { s₂ with heap := h', toks := tk } ∧ i ≤ n ∧ k = n + 1 - i ∧ St i h' ∧ Fr h₀ L h' m ∧ h'.Ns (z + 1) m' ∧ h'.IsCell (z + 1 + 1) v₀ ∧ News h₀ L h' ((z, lst ys) :: nw) ∧ Off4 I (z + 1) (z + 1 + 1) z nw ∧ R i ys nw) ?_ (n + 1)
      ⟨H, s₂.toks, 0, [], _, news, none, rfl, Nat.zero_le _, rfl, W.frame _ _ _ hst fun b _ o e => old b o e, F.keeps old, gC, gK, ?_, ?_, h0⟩
    · rintro k s' ⟨h', tk, i, ys, m', nw, v₀, rfl, hi, rfl, hst', F', hn', hk', N', off', hR⟩
      by_cases hlt : i < n
      · refine W.item i _ _ _ hlt hst' fun v h₂ tk₂ hPv hst₂ hk₂ => ?_
        have hk2 : h₂.IsCell (z + 1 + 1) v₀ := by obtain ⟨o, e, d⟩ := hk'; exact ⟨o, hk₂ _ _ (nI _ (by omega)) e, d⟩
        refine wpAny_assign_Name (wpAny_storeName_cell (by simp [compEnvC, relabel, hkind]) (hx _ _) (by simp [compEnvC]) hk2 fun h₃ hc₃ hs₃ => ?_)
        refine wpAny_tests_nil ?_
        simp only [if_true]
        have hst₃ : St (i + 1) h₃ := W.frame _ _ _ hst₂ fun b hb o e => hs₃.extBut b o (fun q => hKf (by rw [← q]; exact hb)) e
        obtain ⟨oI, heI⟩ := hIo _ _ hst₃
        obtain ⟨oC, heC, hoC⟩ := ns_obj (((hn'.at' fun o e => hk₂ _ o (nI _ (by omega)) e)).sameBut hs₃ (by show @Ne Nat (z + 1) (z + 1 + 1); omega))
        obtain ⟨oK, heK, hoK⟩ := hc₃
        have F₃ : Fr h₀ L h₃ m := (fr_but F' hk₂ hIL hI₀).change hs₃ (by show @Ne Nat (z + 1 + 1) L; omega) (fresh _ (by omega))
        have N₃ : News h₀ L h₃ ((I, oI) :: (z + 1, oC) :: (z + 1 + 1, oK) :: (z, lst ys) :: nw) := fun p hp => by
          rcases List.mem_cons.mp hp with rfl | hp
          · exact ⟨heI, Ne.symm hIL, hI₀⟩
          rcases List.mem_cons.mp hp with rfl | hp
          · exact ⟨heC, (by show @Ne Nat (z + 1) (L); omega), fresh _ (by show @LE.le Nat _ z (z + 1); omega)⟩
          rcases List.mem_cons.mp hp with rfl | hp
          · exact ⟨heK, (by show @Ne Nat (z + 1 + 1) (L); omega), fresh _ (by show @LE.le Nat _ z (z + 1 + 1); omega)⟩
          have q := N' p hp
          rcases List.mem_cons.mp hp with rfl | hp
          · exact ⟨hs₃.extBut _ _ (by show @Ne Nat (z) (z + 1 + 1); omega) (hk₂ _ _ (nI _ (by show @Ne Nat (z) (I); omega)) q.1), q.2⟩
          · exact ⟨hs₃.extBut _ _ (off' p hp).2.2.1 (hk₂ _ _ (nI _ (off' p hp).1) q.1), q.2⟩
        refine wpAny_mono (turn i ys nw v I oI (z + 1) oC (z + 1 + 1) oK z h₃ tk₂ _ hlt hPv hR hoK F₃ N₃ off' ⟨by show @Ne Nat (I) (z + 1); omega, by show @Ne Nat (I) (z + 1 + 1); omega, by show @Ne Nat (I) (z); omega, by show @Ne Nat (z + 1) (z + 1 + 1); omega, by show @Ne Nat (z + 1) (z); omega, by show @Ne Nat (z + 1 + 1) (z); omega⟩) (fun y s₄ h₄ => ?_) fun _ _ e => e
        obtain ⟨h₄, tk₄, nw₄, rfl, F₄, N₄, off₄, R₄⟩ := h₄
        have zI := (N₄ (I, oI) List.mem_cons_self).1
        have zC := (N₄ (z + 1, oC) (.tail _ (.head _))).1
        have zK := (N₄ (z + 1 + 1, oK) (.tail _ (.tail _ (.head _)))).1
        have zD := (N₄ (z, lst ys) (.tail _ (.tail _ (.tail _ (.head _))))).1
        have N₄' : News h₀ L h₄ nw₄ := fun p hp => N₄ p (.tail _ (.tail _ (.tail _ (.tail _ hp))))
        have hst₄ : St (i + 1) h₄ := hSt _ _ _ _ _ hst₃ heI zI F₄.keep N₄' (hS _ _ _ R₄)
        have hyl := hlen _ _ _ hR
        refine append_at (hsz := by show ys.toArray.size ≤ sizeLine; rw [List.size_toArray, hyl]; exact Nat.le_trans hi hsz) zD fun h₅ hs₅ hD₅ => ?_
        refine ⟨n + 1 - (i + 1), by omega, h₅, tk₄, i + 1, ys ++ [y], _, nw₄, some v, rfl, hlt, rfl, W.frame _ _ _ hst₄ fun b hb o e => hs₅.extBut b o (fun q => hDf (q ▸ hb)) e, F₄.change hs₅ (by show @Ne Nat z L; omega) (fresh _ (Nat.le_refl _)),
          (hoC.ns zC).sameBut hs₅ (by show @Ne Nat (z + 1) z; omega), ⟨oK, hs₅.extBut _ _ (by show @Ne Nat (z + 1 + 1) z; omega) zK, hoK⟩, fun p hp => ?_, off₄, R₄⟩
        rcases List.mem_cons.mp hp with rfl | hp
        · exact ⟨hD₅.trans (congrArg some (lst_snoc ys y)), (by show @Ne Nat (z) (L); omega), fresh _ (Nat.le_refl _)⟩
        · exact ⟨hs₅.extBut _ _ (off₄ p hp).2.2.2 (N₄' p hp).1, (N₄' p hp).2⟩
      · obtain rfl : i = n := Nat.le_antisymm hi (Nat.not_lt.mp hlt)
        refine W.done _ _ _ hst' fun h₂ tk₂ hk₂ => ?_
        exact hRR z (z + 1) h₂ tk₂ m' ys nw (fr_but F' hk₂ hIL hI₀) (news_but N' hk₂ fun p hp => by
          rcases List.mem_cons.mp hp with rfl | hp
          · show @Ne Nat z I; omega
          · exact (off' p hp).1) (fun p hp => (off' p hp).2.2.2) (hn'.at' fun o e => hk₂ _ o (nI _ (by omega)) e) (fresh _ (by omega)) (fresh _ (Nat.le_refl _)) (by show @Ne Nat (z + 1) L; omega) (by show @Ne Nat z L; omega) (by show @Ne Nat (z + 1) z; omega) (fun p hp => (off' p hp).2.1) hR
    · intro p hp
      rcases List.mem_cons.mp hp with rfl | hp
      · exact ⟨gD, (by show @Ne Nat (z) (L); omega), fresh _ (Nat.le_refl _)⟩
      · exact ⟨old _ _ (N p hp).1, (N p hp).2⟩
    · intro p hp
      have q := lt _ _ (N p hp).1
      exact ⟨off p hp, by show @Ne Nat p.1 (z + 1); omega, by show @Ne Nat p.1 (z + 1 + 1); omega, by show @Ne Nat p.1 z; omega⟩
  exact codeAny_compStart_list (loop _ rfl) (W.self 0 _ _ _ (W.frame _ _ _ hst fun b _ o e => old b o e) (loop _ rfl))
end
end Mine

namespace Mine
open PySem PySem.W PyProof.Rows PySem.Calls PySem.Spec PyProof.Rows.LCg PyProof.Rows.LCt
section
variable {prog : Program} {w : World} {A : Around} {E : Value → Shared → Prop} {s : Shared} {h₀ : Heap} {L : Addr} {m : Str → Option Value} {env : Env}

/-- one turn of a block whose name is a cell -/
def CellTurn (prog : Program) (w : World) (A : Around) (h₀ : Heap) (L : Addr) (m : Str → Option Value) (env : Env) (elt : Expr) (x : Str) (scope : Scope) (cl : List (Str × Addr)) (n : Nat) (P : Nat → Value → Prop) (R : Nat → List Value → List (Addr × Obj) → Prop) (s₂ : Shared) : Prop :=
  ∀ i ys nw v I oI C oC K oK D h tk (E' : Value → Shared → Prop), i < n → P i v → R i ys nw → oK.data = .cell (some v) → Fr h₀ L h m → News h₀ L h ((I, oI) :: (C, oC) :: (K, oK) :: (D, lst ys) :: nw) → Off4 I C K D nw →
      ((@Ne Nat I C) ∧ (@Ne Nat I K) ∧ (@Ne Nat I D) ∧ (@Ne Nat C K) ∧ (@Ne Nat C D) ∧ (@Ne Nat K D)) →
      wpAny (model prog w) A (eval elt (compEnvC scope ((x, K) :: cl) C env)) (CellEnd h₀ L m { s₂ with heap := h, toks := tk } I oI C oC K oK D (lst ys) (fun y nw' => R (i + 1) (ys ++ [y]) nw')) E' { s₂ with heap := h, toks := tk }

def CellFin (h₀ : Heap) (L : Addr) (m : Str → Option Value) (y : Str) (Q : Flow → Shared → Prop) (n : Nat) (R : Nat → List Value → List (Addr × Obj) → Prop) (s₂ : Shared) : Prop :=
  ∀ D h tk ys nw, Fr h₀ L h (fun z => if z = y then some (.ref D) else m z) → News h₀ L h ((D, lst ys) :: nw) → (∀ p ∈ nw, p.1 ≠ D) → R n ys nw → Q .next { s₂ with heap := h, toks := tk }

/-- the source: a list of the ledger, or a range -/
def CellSrc (prog : Program) (w : World) (A : Around) (h₀ : Heap) (L : Addr) (m : Str → Option Value) (env : Env) (elt : Expr) (x y : Str) (scope : Scope) (cl : List (Str × Addr)) (Q : Flow → Shared → Prop) (xv : Value) (s₁ : Shared) : Prop :=
  (∃ ax its news R, xv = .ref ax ∧ A.handled = none ∧ Fr h₀ L s₁.heap m ∧ News h₀ L s₁.heap news ∧ its.size ≤ sizeLine ∧ (∀ i ys nw, R i ys nw → SrcAt h₀ ax its nw) ∧ R 0 [] news ∧ (∀ i ys nw, R i ys nw → ys.length = i) ∧
    ∀ g, CellTurn prog w A h₀ L m env elt x scope cl its.size (fun i v => its[i]? = some v) R { s₁ with heap := g } ∧ CellFin h₀ L m y Q its.size R { s₁ with heap := g }) ∨
  (∃ r a b t u v n news R, xv = .ref r ∧ A.handled = none ∧ Fr h₀ L s₁.heap m ∧ News h₀ L s₁.heap news ∧ IsRange s₁.heap r a b 1 t u v ∧ Builtin.Range.small a b 1 = true ∧ Builtin.Range.rangeSize a b 1 = ((n : Nat) : Int) ∧ n ≤ sizeLine ∧ R 0 [] news ∧ (∀ i ys nw, R i ys nw → ys.length = i) ∧
    ∀ g, CellTurn prog w A h₀ L m env elt x scope cl n (fun i v => ∃ t, v = .int (a + (i : Int)) t) R { s₁ with heap := g } ∧ CellFin h₀ L m y Q n R { s₁ with heap := g })

theorem assign_cell {elt iter : Expr} {x y : Str} {px py : Pos} {scope : Scope} {cl : List (Str × Addr)} {pos spos : Pos} {Q : Flow → Shared → Prop} (F₀ : Fr h₀ L s.heap m) (hLe : env.locals = L)
    (hsw : swapsWith (.ListComp elt [⟨.Name x px, iter, [], 0⟩] scope pos) (some (.Name y py)) spos.line env = pure true)
    (hclos : closureFor scope env = pure cl) (hcl : ∀ n, cellsFrom n scope.names cl = (x, n) :: cl) (hpu : ∀ h, pushCells h scope.names = h.push { cls := .type "cell", data := .cell none }) (hkind : scope.kind = .function)
    (hnames : ∀ z ∈ scope.names, z.2 = .local → scope.names.lookup z.1 = some .local) (hx : ∀ K C, (compEnvC scope ((x, K) :: cl) C env).kindOf x = some .cell)
    (hy : env.kindOf y = some .local) (hp : (env.scope.kind == .class || (env.scope.kind == .module && env.locals != env.globals)) = false)
    (h : wpAny (model prog w) A (eval iter env) (CellSrc prog w A h₀ L m env elt x y scope cl Q) E s)
    (hs : ∀ x, foldedSetIterable iter env x = pure x := by intro _; rfl) :
    wpAny (model prog w) A (exec (.Assign [.Name y py] (.ListComp elt [⟨.Name x px, iter, [], 0⟩] scope pos) spos) env) Q E s := by
  subst hLe
  rw [exec_Assign_Name_used _ _ _ _ hsw]
  refine wpAny_bind (wpAny_standAt (wpAny_bind ?_))
  show wpAny _ A (do let _ ← comprehension (.ListComp elt [⟨.Name x px, iter, [], 0⟩] scope pos) scope env _ (newList []) false (eval iter env) (some (assign (.Name y py) env))) _ _ s
  refine wpAny_bind (wpAny_mono (wpAny_comprehension_free (use := some (assign (.Name y py) env)) (Q := fun _ s' => Q .next s') rfl hs hclos hkind hnames
    (wpAny_mono h (fun xv s₁ h₁ => ?_) fun _ _ e => e)) (fun _ s' hq => wpAny_pure (wpAny_pure hq)) fun _ _ e => e)
  have last : ∀ {n : Nat} {R : Nat → List Value → List (Addr × Obj) → Prop} {s₂ : Shared}, CellFin h₀ env.locals m y Q n R s₂ → ∀ D C h tk m' ys nw, Fr h₀ env.locals h m → News h₀ env.locals h ((D, lst ys) :: nw) → (∀ p ∈ nw, p.1 ≠ D) → h.Ns C m' → h₀.get? C = none → h₀.get? D = none → C ≠ env.locals → D ≠ env.locals → C ≠ D → (∀ p ∈ nw, p.1 ≠ C) → R n ys nw →
      compPost (model prog w) A E (some (assign (.Name y py) env)) (fun _ s' => Q .next s') (.ref D) C (.ok .next) { s₂ with heap := h, toks := tk } := by
    intro n R s₂ fin D C h' tk m' ys nw F' N' o1 hn hC₀ hD₀ hCL hDL hCD offC hR
    show wpAny _ A (assign (.Name y py) env (.ref D)) _ _ _
    refine wpAny_assign_Name (wpAny_storeName_local hy F'.ns (fun h₂ hn₂ hs₂ => ?_) hp)
    have hL₀ : h₀.get? env.locals = none := Heap.get?_none_of_le F'.above
    have F₂ : Fr h₀ env.locals h₂ (fun z => if z = y then some (.ref D) else m z) := ⟨hn₂, fun b o e => hs₂.extBut b o (fun q => by rw [q, hL₀] at e; cases e) (F'.keep b o e), F'.above⟩
    refine ⟨m', hn.sameBut hs₂ hCL, fun h'' hs'' => fin D h'' _ ys nw (F₂.change hs'' hCL hC₀) (fun p hp => ?_) o1 hR⟩
    have z : h₂.get? p.1 = some p.2 := hs₂.extBut _ _ (N' p hp).2.1 (N' p hp).1
    refine ⟨hs''.extBut _ _ ?_ z, (N' p hp).2⟩
    rcases List.mem_cons.mp hp with rfl | hp
    · exact Ne.symm hCD
    · exact offC p hp
  rcases h₁ with ⟨ax, its, news, R, rfl, hh, F, N, hsz, S, R0, hlen, T⟩ | ⟨r, a, b, t, u, v, n, news, R, rfl, hh, F, N, hr, hsm, hn, hsz, R0, hlen, T⟩
  · have hl := (S _ _ _ R0).list F.keep N
    have hlt : ax < s₁.heap.objs.size := by obtain ⟨_, e, _⟩ := hl; exact Heap.lt_size e
    refine wpAny_pyIter_list hl ?_
    have up : ∀ b o, s₁.heap.get? b = some o → (s₁.heap.push { cls := .type "list_iterator", data := .fields #[.ref ax, .int 0 0] }).get? b = some o := fun b o e => Heap.get?_push_of_some _ e
    refine block_C R (Walks.list hh s₁.heap.objs.size ax (Nat.ne_of_lt hlt) its) hsz (fun i h st => by obtain ⟨o, e, _⟩ := st.1; exact ⟨o, e⟩) list_st hcl hpu hkind hx ⟨⟨_, Heap.get?_push_size _ rfl, rfl, rfl⟩, hl.push _⟩ ?_
      (F.keeps up) (N.grown up) (Nat.ne_of_lt F.ns.lt) (next_is_new F) (fun p hp => Nat.ne_of_lt (Heap.lt_size (N p hp).1)) S R0 hlen (T _).1 (last (T _).2)
    intro b hb
    show b < (s₁.heap.push _).objs.size
    rw [Heap.size_push]
    rcases List.mem_cons.mp hb with rfl | hb
    · exact Nat.lt_succ_self _
    · rw [List.mem_singleton.mp hb]; exact Nat.lt_succ_of_lt hlt
  · refine wpAny_pyIter_range hr hsm ?_
    refine block_C R (S := fun _ => True) (range_walks hh a n) hsz (fun i h st => ⟨_, st⟩) range_st hcl hpu hkind hx (by show IsRangeIter _ _ _ _ _; rw [hn]; simpa using Heap.get?_push_size _ rfl) ?_
      (F.keeps fun _ _ e => Heap.get?_push_of_some _ e) (N.grown fun _ _ e => Heap.get?_push_of_some _ e) (Nat.ne_of_lt F.ns.lt) (next_is_new F) (fun p hp => Nat.ne_of_lt (Heap.lt_size (N p hp).1)) (fun _ _ _ _ => trivial) R0 hlen (T _).1 (last (T _).2)
    intro b hb
    rw [List.mem_singleton.mp hb]
    show s₁.heap.objs.size < (s₁.heap.push _).objs.size
    rw [Heap.size_push]; exact Nat.lt_succ_self _
end
end Mine

namespace Mine
open PySem PySem.W PyProof.Rows PySem.Calls PySem.Spec

theorem news3 {h₀ h : Heap} {L : Addr} {a b c : Addr × Obj} {news : List (Addr × Obj)} (N : News h₀ L h news) (ha : a ∈ news) (hb : b ∈ news) (hc : c ∈ news) : News h₀ L h (a :: b :: c :: news) := fun p hp => by
  rcases List.mem_cons.mp hp with rfl | hp
  · exact N _ ha
  rcases List.mem_cons.mp hp with rfl | hp
  · exact N _ hb
  rcases List.mem_cons.mp hp with rfl | hp
  · exact N _ hc
  · exact N _ hp

theorem reached_m : ∀ {w : World} {p : Program} {loose : List Str} {mean : ExcName → Option Value} {mg mb : Str → Option Value} {dp un : Nat} {gd : Option (List Code)} {cn : Str} {cs : Scope} {a : Addr} {ccd : Value} {cl : List (Str × Addr)} {outer : List Env} {A₀ : Around} {base h₀ : Heap} {L : Addr} {m : Str → Option Value} {news : List (Addr × Obj)} {s : Shared} {lc r0 r1 : Addr} {n n0 n1 : Nat} {i j c00 c01 c10 c11 : Int} {ti tj t00 t01 t10 t11 : Tok} {Q E : Value → Shared → Prop}
    (_ : Below A₀ base outer h₀) (_ : Fr h₀ L s.heap m) (_ : (hd.heap_39 w.params).In h₀) (_ : News h₀ L s.heap news) (_ : Top p loose mean mg mb h₀) (_ : cs.kind = .function) (_ : dp + 4 < recursionLimit) (_ : un + 40 < cLine)
    (_ : (lc, listOf #[.ref r0, .ref r1] n) ∈ news) (_ : (r0, listOf #[.int c00 t00, .int c01 t01] n0) ∈ news) (_ : (r1, listOf #[.int c10 t10, .int c11 t11] n1) ∈ news)
    (_ : ∀ k t h' tk', 0 ≤ k → k < 4 → Fr h₀ L h' m → News h₀ L h' news → Q (.int k t) { s with heap := h', toks := tk' }),
    wpAny (model PySem.Challenge.rw_rs0028_01.row.prog w) (ktrTop dp un gd cn cs L a ccd cl outer) (call (.ref 60) [.ref lc, .int i ti, .int j tj]) Q E s := by
  intro w p loose mean mg mb dp un gd cn cs a ccd cl outer A₀ base h₀ L m news s lc r0 r1 n n0 n1 i j c00 c01 c10 c11 ti tj t00 t01 t10 t11 Q E hB hF hX hN hT hk hd hu m1 m2 m3 ret
  exact reached_c hB hF hX (news3 hN m1 m2 m3) hT hk hd hu (fun k t h' tk' x y F' N' => ret k t h' tk' x y F' fun p hp => N' p (.tail _ (.tail _ (.tail _ hp))))

theorem told_m : ∀ {w : World} {p : Program} {loose : List Str} {mean : ExcName → Option Value} {mg mb : Str → Option Value} {dp un : Nat} {gd : Option (List Code)} {cn : Str} {cs : Scope} {a : Addr} {ccd : Value} {cl : List (Str × Addr)} {outer : List Env} {A₀ : Around} {base h₀ : Heap} {L : Addr} {m : Str → Option Value} {news : List (Addr × Obj)} {s : Shared} {lc r0 r1 : Addr} {n n0 n1 : Nat} {x y c00 c01 c10 c11 : Str} {tx ty t00 t01 t10 t11 : Tok} {Q E : Value → Shared → Prop}
    (_ : Below A₀ base outer h₀) (_ : Fr h₀ L s.heap m) (_ : (hd.heap_39 w.params).In h₀) (_ : News h₀ L s.heap news) (_ : Top p loose mean mg mb h₀) (_ : cs.kind = .function) (_ : dp + 4 < recursionLimit) (_ : un + 40 < cLine)
    (_ : (lc, listOf #[.ref r0, .ref r1] n) ∈ news) (_ : (r0, listOf #[.str c00 t00, .str c01 t01] n0) ∈ news) (_ : (r1, listOf #[.str c10 t10, .str c11 t11] n1) ∈ news)
    (_ : ∀ z lo up t h' tk', Med 1 [y, c00, c01] lo → Med 1 [y, c10, c11] up → Med 1 [x, lo, up] z → Fr h₀ L h' m → News h₀ L h' news → Q (.str z t) { s with heap := h', toks := tk' }),
    wpAny (model PySem.Challenge.rw_rs0028_01.row.prog w) (ktrTop dp un gd cn cs L a ccd cl outer) (call (.ref 74) [.str x tx, .str y ty, .ref lc]) Q E s := by
  intro w p loose mean mg mb dp un gd cn cs a ccd cl outer A₀ base h₀ L m news s lc r0 r1 n n0 n1 x y c00 c01 c10 c11 tx ty t00 t01 t10 t11 Q E hB hF hX hN hT hk hd hu m1 m2 m3 ret
  exact told_c hB hF hX (news3 hN m1 m2 m3) hT hk hd hu (fun z lo up t h' tk' e1 e2 e3 F' N' => ret z lo up t h' tk' e1 e2 e3 F' fun p hp => N' p (.tail _ (.tail _ (.tail _ hp))))
end Mine

namespace Mine
open PySem PySem.W PyProof.Rows PySem.Calls PySem.Spec

theorem medlo_m2 : ∀ {w : World} {p : Program} {loose : List Str} {mean : ExcName → Option Value} {mg mb : Str → Option Value} {dp un : Nat} {gd : Option (List Code)} {cn : Str} {cs : Scope} {a : Addr} {ccd : Value} {cl : List (Str × Addr)} {outer : List Env} {A₀ : Around} {base h₀ : Heap} {L : Addr} {m : Str → Option Value} {news : List (Addr × Obj)} {s : Shared} {l : Addr} {n : Nat} {vs : List Value} {ss : List Str} {Q E : Value → Shared → Prop}
    (_ : Below A₀ base outer h₀) (_ : Fr h₀ L s.heap m) (_ : (hd.heap_39 w.params).In h₀) (_ : News h₀ L s.heap news) (_ : Top p loose mean mg mb h₀) (_ : cs.kind = .function) (_ : dp + 1 < recursionLimit) (_ : un + 8 < cLine)
    (_ : (l, listOf vs.toArray n) ∈ news) (_ : StrsAre vs ss) (_ : ss.length = 2)
    (_ : ∀ x t h' tk', Med 0 ss x → Fr h₀ L h' m → News h₀ L h' news → Q (.str x t) { s with heap := h', toks := tk' }),
    wpAny (model PySem.Challenge.rw_rs0028_01.row.prog w) (ktrTop dp un gd cn cs L a ccd cl outer) (call (.ref 34) [.ref l]) Q E s := by
  intro w p loose mean mg mb dp un gd cn cs a ccd cl outer A₀ base h₀ L m news s l n vs ss Q E hB hF hX hN hT hk hd hu hm hS hl ret
  exact medlo_c2 hB hF hX hN hT hk hd hu hm hS hl (fun x t h' tk' ss' e1 e2 e3 F' N' => ret x t h' tk' ⟨ss', e1, e2, e3⟩ F' N')

theorem medlo_m4 : ∀ {w : World} {p : Program} {loose : List Str} {mean : ExcName → Option Value} {mg mb : Str → Option Value} {dp un : Nat} {gd : Option (List Code)} {cn : Str} {cs : Scope} {a : Addr} {ccd : Value} {cl : List (Str × Addr)} {outer : List Env} {A₀ : Around} {base h₀ : Heap} {L : Addr} {m : Str → Option Value} {news : List (Addr × Obj)} {s : Shared} {l : Addr} {n : Nat} {vs : List Value} {ss : List Str} {Q E : Value → Shared → Prop}
    (_ : Below A₀ base outer h₀) (_ : Fr h₀ L s.heap m) (_ : (hd.heap_39 w.params).In h₀) (_ : News h₀ L s.heap news) (_ : Top p loose mean mg mb h₀) (_ : cs.kind = .function) (_ : dp + 1 < recursionLimit) (_ : un + 8 < cLine)
    (_ : (l, listOf vs.toArray n) ∈ news) (_ : StrsAre vs ss) (_ : ss.length = 4)
    (_ : ∀ x t h' tk', Med 1 ss x → Fr h₀ L h' m → News h₀ L h' news → Q (.str x t) { s with heap := h', toks := tk' }),
    wpAny (model PySem.Challenge.rw_rs0028_01.row.prog w) (ktrTop dp un gd cn cs L a ccd cl outer) (call (.ref 34) [.ref l]) Q E s := by
  intro w p loose mean mg mb dp un gd cn cs a ccd cl outer A₀ base h₀ L m news s l n vs ss Q E hB hF hX hN hT hk hd hu hm hS hl ret
  exact medlo_c4 hB hF hX hN hT hk hd hu hm hS hl (fun x t h' tk' ss' e1 e2 e3 F' N' => ret x t h' tk' ⟨ss', e1, e2, e3⟩ F' N')

theorem medlo_m5 : ∀ {w : World} {p : Program} {loose : List Str} {mean : ExcName → Option Value} {mg mb : Str → Option Value} {dp un : Nat} {gd : Option (List Code)} {cn : Str} {cs : Scope} {a : Addr} {ccd : Value} {cl : List (Str × Addr)} {outer : List Env} {A₀ : Around} {base h₀ : Heap} {L : Addr} {m : Str → Option Value} {news : List (Addr × Obj)} {s : Shared} {l : Addr} {n : Nat} {vs : List Value} {ss : List Str} {Q E : Value → Shared → Prop}
    (_ : Below A₀ base outer h₀) (_ : Fr h₀ L s.heap m) (_ : (hd.heap_39 w.params).In h₀) (_ : News h₀ L s.heap news) (_ : Top p loose mean mg mb h₀) (_ : cs.kind = .function) (_ : dp + 1 < recursionLimit) (_ : un + 8 < cLine)
    (_ : (l, listOf vs.toArray n) ∈ news) (_ : StrsAre vs ss) (_ : ss.length = 5)
    (_ : ∀ x t h' tk', Med 2 ss x → Fr h₀ L h' m → News h₀ L h' news → Q (.str x t) { s with heap := h', toks := tk' }),
    wpAny (model PySem.Challenge.rw_rs0028_01.row.prog w) (ktrTop dp un gd cn cs L a ccd cl outer) (call (.ref 34) [.ref l]) Q E s := by
  intro w p loose mean mg mb dp un gd cn cs a ccd cl outer A₀ base h₀ L m news s l n vs ss Q E hB hF hX hN hT hk hd hu hm hS hl ret
  exact medlo_c5 hB hF hX hN hT hk hd hu hm hS hl (fun x t h' tk' ss' e1 e2 e3 F' N' => ret x t h' tk' ⟨ss', e1, e2, e3⟩ F' N')

theorem medhi_m2 : ∀ {w : World} {p : Program} {loose : List Str} {mean : ExcName → Option Value} {mg mb : Str → Option Value} {dp un : Nat} {gd : Option (List Code)} {cn : Str} {cs : Scope} {a : Addr} {ccd : Value} {cl : List (Str × Addr)} {outer : List Env} {A₀ : Around} {base h₀ : Heap} {L : Addr} {m : Str → Option Value} {news : List (Addr × Obj)} {s : Shared} {l : Addr} {n : Nat} {vs : List Value} {ss : List Str} {Q E : Value → Shared → Prop}
    (_ : Below A₀ base outer h₀) (_ : Fr h₀ L s.heap m) (_ : (hd.heap_39 w.params).In h₀) (_ : News h₀ L s.heap news) (_ : Top p loose mean mg mb h₀) (_ : cs.kind = .function) (_ : dp + 1 < recursionLimit) (_ : un + 8 < cLine)
    (_ : (l, listOf vs.toArray n) ∈ news) (_ : StrsAre vs ss) (_ : ss.length = 2)
    (_ : ∀ x t h' tk', Med 1 ss x → Fr h₀ L h' m → News h₀ L h' news → Q (.str x t) { s with heap := h', toks := tk' }),
    wpAny (model PySem.Challenge.rw_rs0028_01.row.prog w) (ktrTop dp un gd cn cs L a ccd cl outer) (call (.ref 41) [.ref l]) Q E s := by
  intro w p loose mean mg mb dp un gd cn cs a ccd cl outer A₀ base h₀ L m news s l n vs ss Q E hB hF hX hN hT hk hd hu hm hS hl ret
  exact medhi_c2 hB hF hX hN hT hk hd hu hm hS hl (fun x t h' tk' ss' e1 e2 e3 F' N' => ret x t h' tk' ⟨ss', e1, e2, e3⟩ F' N')

theorem medhi_m4 : ∀ {w : World} {p : Program} {loose : List Str} {mean : ExcName → Option Value} {mg mb : Str → Option Value} {dp un : Nat} {gd : Option (List Code)} {cn : Str} {cs : Scope} {a : Addr} {ccd : Value} {cl : List (Str × Addr)} {outer : List Env} {A₀ : Around} {base h₀ : Heap} {L : Addr} {m : Str → Option Value} {news : List (Addr × Obj)} {s : Shared} {l : Addr} {n : Nat} {vs : List Value} {ss : List Str} {Q E : Value → Shared → Prop}
    (_ : Below A₀ base outer h₀) (_ : Fr h₀ L s.heap m) (_ : (hd.heap_39 w.params).In h₀) (_ : News h₀ L s.heap news) (_ : Top p loose mean mg mb h₀) (_ : cs.kind = .function) (_ : dp + 1 < recursionLimit) (_ : un + 8 < cLine)
    (_ : (l, listOf vs.toArray n) ∈ news) (_ : StrsAre vs ss) (_ : ss.length = 4)
    (_ : ∀ x t h' tk', Med 2 ss x → Fr h₀ L h' m → News h₀ L h' news → Q (.str x t) { s with heap := h', toks := tk' }),
    wpAny (model PySem.Challenge.rw_rs0028_01.row.prog w) (ktrTop dp un gd cn cs L a ccd cl outer) (call (.ref 41) [.ref l]) Q E s := by
  intro w p loose mean mg mb dp un gd cn cs a ccd cl outer A₀ base h₀ L m news s l n vs ss Q E hB hF hX hN hT hk hd hu hm hS hl ret
  exact medhi_c4 hB hF hX hN hT hk hd hu hm hS hl (fun x t h' tk' ss' e1 e2 e3 F' N' => ret x t h' tk' ⟨ss', e1, e2, e3⟩ F' N')

theorem medhi_m5 : ∀ {w : World} {p : Program} {loose : List Str} {mean : ExcName → Option Value} {mg mb : Str → Option Value} {dp un : Nat} {gd : Option (List Code)} {cn : Str} {cs : Scope} {a : Addr} {ccd : Value} {cl : List (Str × Addr)} {outer : List Env} {A₀ : Around} {base h₀ : Heap} {L : Addr} {m : Str → Option Value} {news : List (Addr × Obj)} {s : Shared} {l : Addr} {n : Nat} {vs : List Value} {ss : List Str} {Q E : Value → Shared → Prop}
    (_ : Below A₀ base outer h₀) (_ : Fr h₀ L s.heap m) (_ : (hd.heap_39 w.params).In h₀) (_ : News h₀ L s.heap news) (_ : Top p loose mean mg mb h₀) (_ : cs.kind = .function) (_ : dp + 1 < recursionLimit) (_ : un + 8 < cLine)
    (_ : (l, listOf vs.toArray n) ∈ news) (_ : StrsAre vs ss) (_ : ss.length = 5)
    (_ : ∀ x t h' tk', Med 2 ss x → Fr h₀ L h' m → News h₀ L h' news → Q (.str x t) { s with heap := h', toks := tk' }),
    wpAny (model PySem.Challenge.rw_rs0028_01.row.prog w) (ktrTop dp un gd cn cs L a ccd cl outer) (call (.ref 41) [.ref l]) Q E s := by
  intro w p loose mean mg mb dp un gd cn cs a ccd cl outer A₀ base h₀ L m news s l n vs ss Q E hB hF hX hN hT hk hd hu hm hS hl ret
  exact medhi_c5 hB hF hX hN hT hk hd hu hm hS hl (fun x t h' tk' ss' e1 e2 e3 F' N' => ret x t h' tk' ⟨ss', e1, e2, e3⟩ F' N')
end Mine

namespace Mine
open PySem PySem.W PyProof.Rows PySem.Calls PySem.Spec
/-- the law's own statements, read off the row -/
def lawDef : Stmt := match PySem.Challenge.pw_rs0028_01.main.body with
  | [_, _, _, _, _, _, _, _, _, _, _, d] => d
  | _ => .Pass ⟨0, 0, 0, 0⟩
def lawBody : List Stmt := match lawDef with
  | .FunctionDef _ _ b _ _ _ _ _ _ _ => b
  | _ => []
def lawScope : Scope := match lawDef with
  | .FunctionDef _ _ _ _ _ _ s _ _ _ => s
  | _ => default

theorem execs_append_eq {env : Env} {b : List Stmt} : ∀ (a : List Stmt), execs (a ++ b) env = (execs a env >>= fun f => match f with | .next => execs b env | f => pure f)
  | [] => by
    show execs b env = (pure Flow.next >>= _)
    rw [pure_bind]
  | st :: a => by
    show execs (st :: (a ++ b)) env = _
    rw [execs_cons, execs_cons, bind_assoc]
    congr 1
    funext f
    cases f with
    | next => exact execs_append_eq a
    | _ => rw [pure_bind]

theorem execs_app {M : Model} {A : Around} {E : Value → Shared → Prop} {env : Env} {Q : Flow → Shared → Prop} {b : List Stmt} (a : List Stmt) {s : Shared}
    (h : wpAny M A (execs a env) (fun f s' => match f with | .next => wpAny M A (execs b env) Q E s' | f => Q f s') E s) : wpAny M A (execs (a ++ b) env) Q E s := by
  rw [execs_append_eq]
  refine wpAny_bind (wpAny_mono h (fun f s' q => ?_) fun _ _ e => e)
  cases f with
  | next => exact q
  | brk => exact wpAny_pure q
  | cont => exact wpAny_pure q
  | ret v => exact wpAny_pure q

theorem law_cut {M : Model} {A : Around} {E : Value → Shared → Prop} {env : Env} {Q : Flow → Shared → Prop} (i n : Nat) {s : Shared}
    (h : wpAny M A (execs ((lawBody.drop i).take n) env) (fun f s' => match f with | .next => wpAny M A (execs (lawBody.drop (i + n)) env) Q E s' | f => Q f s') E s) : wpAny M A (execs (lawBody.drop i) env) Q E s := by
  have e : lawBody.drop i = (lawBody.drop i).take n ++ lawBody.drop (i + n) := by
    rw [← List.drop_drop, List.take_append_drop]
  rw [e]
  exact execs_app _ h
end Mine

namespace Mine
open PySem PyProof.Rows.LCg PyProof.Rows.LCt PySem.W PyProof.Rows PySem.Calls PySem.Spec
theorem w_off_S14 : True := by
  w_top off
  exact trivial

/-- a list of four of the names -/
def IsRow (v : Fin 4 → Str) (o : Obj) : Prop := ∃ (g : Fin 4 → Fin 4) (ts : Fin 4 → Tok) (n : Nat), o = listOf #[.str (v (g 0)) (ts 0), .str (v (g 1)) (ts 1), .str (v (g 2)) (ts 2), .str (v (g 3)) (ts 3)] n
def Names (v : Fin 4 → Str) (i : Nat) (ys : List Value) : Prop := ys.length = i ∧ ∀ y ∈ ys, ∃ k t, y = .str (v k) t
theorem Names.snoc {v : Fin 4 → Str} {i : Nat} {ys : List Value} (h : Names v i ys) (k : Fin 4) (t : Tok) : Names v (i + 1) (ys ++ [.str (v k) t]) :=
  ⟨by rw [List.length_append, List.length_singleton, h.1], fun y hy => by
    rcases List.mem_append.mp hy with hy | hy
    · exact h.2 y hy
    · exact ⟨k, t, List.mem_singleton.mp hy⟩⟩
theorem Names.row {v : Fin 4 → Str} {ys : List Value} (h : Names v 4 ys) : IsRow v (LCg.lst ys) := by
  obtain ⟨hl, hy⟩ := h
  match ys, hl, hy with
  | [y0, y1, y2, y3], _, hy =>
    obtain ⟨k0, t0, rfl⟩ := hy y0 (by simp)
    obtain ⟨k1, t1, rfl⟩ := hy y1 (by simp)
    obtain ⟨k2, t2, rfl⟩ := hy y2 (by simp)
    obtain ⟨k3, t3, rfl⟩ := hy y3 (by simp)
    exact ⟨fun i => match i with | 0 => k0 | 1 => k1 | 2 => k2 | 3 => k3, fun i => match i with | 0 => t0 | 1 => t1 | 2 => t2 | 3 => t3, 4, rfl⟩
theorem off1_mem {D : Addr} : ∀ {l : List (Addr × Obj)}, LCg.Off1 D l → ∀ p ∈ l, p.1 ≠ D
  | [], _, _, h => nomatch h
  | _ :: _, x, p, h => by
    rcases List.mem_cons.mp h with rfl | h
    · exact x.1
    · exact off1_mem x.2 p h
theorem news_rot {h₀ h : Heap} {L : Addr} {a b c d : Addr × Obj} {rows led : List (Addr × Obj)} (N : News h₀ L h (a :: b :: c :: d :: (rows ++ led))) : News h₀ L h (led ++ (a :: b :: c :: d :: rows)) := fun p hp => N p (by
  simp only [List.mem_append, List.mem_cons] at hp ⊢
  rcases hp with hp | hp | hp | hp | hp | hp <;> simp [hp])
theorem mem_rot {a b c d e p : Addr × Obj} {rows led : List (Addr × Obj)} (hp : p ∈ a :: b :: c :: d :: (e :: rows ++ led)) : p ∈ e :: (led ++ (a :: b :: c :: d :: rows)) := by
  simp only [List.cons_append, List.mem_append, List.mem_cons] at hp ⊢
  rcases hp with hp | hp | hp | hp | hp | hp | hp <;> simp [hp]
theorem mem_rot2 {a b c d p : Addr × Obj} {rows led : List (Addr × Obj)} (hp : p ∈ rows ++ led) : p ∈ led ++ (a :: b :: c :: d :: rows) := by
  simp only [List.mem_append, List.mem_cons] at hp ⊢
  rcases hp with hp | hp <;> simp [hp]
/-- the rows made so far, the newest first -/
def Rows (v : Fin 4 → Str) (led : List (Addr × Obj)) (i : Nat) (ys : List Value) (nw : List (Addr × Obj)) : Prop :=
  ∃ rows : List (Addr × Obj), nw = rows ++ led ∧ ys = (rows.map (fun p => Value.ref p.1)).reverse ∧ rows.length = i ∧ (∀ p ∈ rows, IsRow v p.2) ∧ (nw.map (·.1)).Nodup

local macro_rules | `(tactic| walk_at "eval ListComp") => `(tactic| refine halt_in ?_)
local macro_rules | `(tactic| walk_at "exec Assign cons ListComp") => `(tactic| refine halt_in ?_)
local macro_rules | `(tactic| walk_at "CompSrc") => `(tactic| refine halt_in ?_)
local macro_rules | `(tactic| walk_at "CompEnd") => `(tactic| refine halt_in ?_)
local macro_rules | `(tactic| walk_at "call ref") => `(tactic| refine halt_in ?_)

theorem seg14 : ∀ {w : World} {p : Program} {loose : List Str} {mean : ExcName → Option Value} {mg mb : Str → Option Value} {G : Heap} {L fa : Addr} {m : Str → Option Value} {s : Shared} {Q : Flow → Shared → Prop} {v : Fin 4 → Str} {lc lv lo q0 q1 : Addr} {nv no n0 n1 nc : Nat} {c0 c1 c2 c3 e00 e01 e10 e11 : Int} {a0 a1 a2 a3 u0 u1 u2 u3 b00 b01 b10 b11 : Tok} {k1 k2 k3 k4 k5 k6 : Obj} {ps : Array Value}
    (B : Below callerA G [] G) (X : (hd.heap_39 w.params).In G) (T : Top p loose mean mg mb G) (hC : CodeHd G 78 76) (F : Fr G L s.heap m) (N : News G L s.heap [(lo, listOf #[.ref q0, .ref q1] no), (q0, listOf #[.int e00 b00, .int e01 b01] n0), (q1, listOf #[.int e10 b10, .int e11 b11] n1), (lv, listOf #[.str (v 0) a0, .str (v 1) a1, .str (v 2) a2, .str (v 3) a3] nv), (lc, listOf #[.int c0 u0, .int c1 u1, .int c2 u2, .int c3 u3] nc), (L + 1 + 1 + 1 + 1 + 1 + 1, k6), (L + 1 + 1 + 1 + 1 + 1, k5), (L + 1 + 1 + 1 + 1, k4), (L + 1 + 1 + 1, k3), (L + 1 + 1, k2), (L + 1, k1), (76, tabObj ps)])
    (d1 : k1.data = .cell (some (.ref lc))) (d4 : k4.data = .cell (some (.ref lv))) (d5 : k5.data = .cell (some (.ref lo))) (hnd : (List.map (fun (p : Addr × Obj) => p.1) [(lo, listOf #[.ref q0, .ref q1] no), (q0, listOf #[.int e00 b00, .int e01 b01] n0), (q1, listOf #[.int e10 b10, .int e11 b11] n1), (lv, listOf #[.str (v 0) a0, .str (v 1) a1, .str (v 2) a2, .str (v 3) a3] nv), (lc, listOf #[.int c0 u0, .int c1 u1, .int c2 u2, .int c3 u3] nc), (L + 1 + 1 + 1 + 1 + 1 + 1, k6), (L + 1 + 1 + 1 + 1 + 1, k5), (L + 1 + 1 + 1 + 1, k4), (L + 1 + 1 + 1, k3), (L + 1 + 1, k2), (L + 1, k1), (76, tabObj ps)]).Nodup)
    (hQ : ∀ D h tk ys nw, Fr G L h (fun z => if z = Str.ofString "fields" then some (.ref D) else m z) → News G L h ((D, LCg.lst ys) :: nw) → (∀ p ∈ nw, p.1 ≠ D) → Rows v [(lo, listOf #[.ref q0, .ref q1] no), (q0, listOf #[.int e00 b00, .int e01 b01] n0), (q1, listOf #[.int e10 b10, .int e11 b11] n1), (lv, listOf #[.str (v 0) a0, .str (v 1) a1, .str (v 2) a2, .str (v 3) a3] nv), (lc, listOf #[.int c0 u0, .int c1 u1, .int c2 u2, .int c3 u3] nc), (L + 1 + 1 + 1 + 1 + 1 + 1, k6), (L + 1 + 1 + 1 + 1 + 1, k5), (L + 1 + 1 + 1 + 1, k4), (L + 1 + 1 + 1, k3), (L + 1 + 1, k2), (L + 1, k1), (76, tabObj ps)] 4 ys nw → Q .next { s with heap := h, toks := tk }),
    wpAny (model PySem.Challenge.rw_rs0028_01.row.prog w) (callerA.deeper (envOfC (Str.ofString "law") lawScope L fa (.ref 78))) (execs ((lawBody.drop 14).take 1) (envOfC (Str.ofString "law") lawScope L fa (.ref 78))) Q (fun _ _ => False) s := by
  k_fill
  dsimp only [lawScope, lawBody, lawDef, PySem.Challenge.pw_rs0028_01, List.drop_succ_cons, List.drop_zero, List.take_succ_cons, List.take_zero]

  intro w p loose mean mg mb G L fa m s Q v lc lv lo q0 q1 nv no n0 n1 nc c0 c1 c2 c3 e00 e01 e10 e11 a0 a1 a2 a3 u0 u1 u2 u3 b00 b01 b10 b11 k1 k2 k3 k4 k5 k6 ps B X T hC F N d1 d4 d5 hnd hQ
  clear hC
  k_steps
  unfold Halt
  k_dflt (refine assign_cell (F₀ := by k_asm) (by rfl) (by with_unfolding_all rfl) (by with_unfolding_all rfl) (by intro; with_unfolding_all rfl) (by intro; with_unfolding_all rfl) (by rfl) (by decide) (by intros; with_unfolding_all rfl) (by rfl) (by rfl) ?_)
  k_steps
  refine .inr ⟨_, _, _, _, _, _, 4, _, Rows v _, rfl, rfl, by k_asm, by k_asm, by assumption, by decide, by rfl, by decide, ⟨[], rfl, rfl, rfl, fun _ h => (nomatch h), hnd⟩, fun i ys nw ⟨rows, _, e, hl, _⟩ => by rw [e, List.length_reverse, List.length_map, hl], fun g => ⟨?_, ?_⟩⟩
  · rintro i ys nw vv I oI C oC K oK D h tk E' hi ⟨tv, rfl⟩ ⟨rows, rfl, hys, hl, hrow, hno⟩ hK F N off ne
    k_steps
    unfold Halt
    k_dflt (refine LCg.ListComp_U (F₀ := by k_asm) (by with_unfolding_all rfl) (by decide) (by rfl) (by decide) (by rfl) ?_)
    have N2 := news_rot N
    clear N
    simp only [List.cons_append, List.nil_append] at N2
    k_steps
    unfold Halt
    refine LCg.CompSrc.range (by rfl) (by k_asm) (by k_asm) (by assumption) (by decide) (by rfl) (by decide) ?_
    intro g
    refine rest_ind (Names v) 4 ⟨rfl, fun _ h => (nomatch h)⟩ ?_ ?_
    · rintro i2 ys2 hi2 hys2 v2 I2 oI2 C2 oC2 D2 m2 h2 tk2 E2 ⟨t2, rfl⟩ hC2 hx2 F2 N22 off2 ne2
      have off20 := off2
      simp only [LCg.Off3, and_true] at off2
      k_steps
      unfold Halt
      k_here
      k_dflt (refine reached_m (by k_asm) (by k_asm) (by k_asm) (by k_asm) (by k_asm) (by first | rfl | assumption) (by ktr_room) (by ktr_units) (by k_mem) (by k_mem) (by k_mem) ?_)
      intro x9 t9 h9 tk9 lo9 hi9 F9 N9
      (try dsimp only)
      (try k_fold)
      k_steps
      all_goals (unfold Halt; refine CompEnd.intro (by k_asm) (by k_asm) _ (fun p hp => hp) off20 trivial ⟨rfl, Names.snoc hys2 _ _⟩)
    · intro ys2 hys2
      unfold LCg.FinE
      intro D2 h2 tk2 F2 N22 o2
      have o3 := off1_mem o2
      refine ⟨h2, tk2, _, rfl, F2, fun p hp => N22 p (mem_rot hp), ?_, ⟨(D2, LCg.lst ys2) :: rows, rfl, ?_, ?_, ?_, ?_⟩⟩
      · intro p hp
        rcases List.mem_cons.mp hp with rfl | hp
        · exact ⟨Ne.symm (o3 (I, oI) (by simp)), Ne.symm (o3 (C, oC) (by simp)), Ne.symm (o3 (K, oK) (by simp)), Ne.symm (o3 (D, LCg.lst ys) (by simp))⟩
        · exact off p hp
      · rw [hys, List.map_cons, List.reverse_cons]
      · rw [List.length_cons, hl]
      · intro p hp
        rcases List.mem_cons.mp hp with rfl | hp
        · exact Names.row hys2
        · exact hrow p hp
      · rw [List.cons_append, List.map_cons, List.nodup_cons]
        refine ⟨fun q => ?_, hno⟩
        obtain ⟨p, hp, e⟩ := List.mem_map.mp q
        exact o3 p (mem_rot2 hp) e
  · intro D h tk ys nw F' N' o1 hR
    refine wpAny_execs_nil ?_
    exact hQ D h tk ys nw F' N' o1 hR
end Mine

namespace Mine
open PySem PySem.W PyProof.Rows PySem.Calls PySem.Spec
section
variable {prog : Program} {w : World} {A : Around} {E : Value → Shared → Prop} {s : Shared} {env : Env} {h₀ : Heap} {x : Str} {body : List Stmt} {Q : Flow → Shared → Prop}

theorem fr_name {h : Heap} {L : Addr} {m : Str → Option Value} {y : Str} {v : Value} (F : Fr h₀ L h m) (hy : m y = some v) : Fr h₀ L h (fun z => if z = y then some v else m z) := by
  have e : (fun z => if z = y then some v else m z) = m := by
    funext z
    by_cases h : z = y
    · rw [if_pos h, h, hy]
    · rw [if_neg h]
  rw [e]; exact F

/-- a loop over a short range, by what holds between its turns -/
theorem loop_range {r : Addr} {a₀ b₀ : Int} {t₀ u₀ v₀ : Tok} {n : Nat} {m₀ : Str → Option Value} {news : List (Addr × Obj)} (J : Nat → (Str → Option Value) → List (Addr × Obj) → Prop)
    (hh : A.handled = none) (hr : IsRange s.heap r a₀ b₀ 1 t₀ u₀ v₀) (hsmall : Builtin.Range.small a₀ b₀ 1 = true) (hn : Builtin.Range.rangeSize a₀ b₀ 1 = (n : Int)) (F : Fr h₀ env.locals s.heap m₀) (N : News h₀ env.locals s.heap news) (hj : J 0 m₀ news)
    (turn : ∀ (i : Nat) t m₁ news₁ h tk own, i < n → news₁.map (·.1) = news.map (·.1) → OwnOff own (news.map (·.1)) → J i m₁ news₁ → Fr h₀ env.locals h (fun y => if y = x then some (.int (a₀ + (i : Int)) t) else m₁ y) → News h₀ env.locals h (news₁ ++ own) →
      wpAny (model prog w) A (execs body env) (InvPostN h₀ env.locals (J (i + 1)) own (news.map (·.1)) { s with heap := h, toks := tk } Q) E { s with heap := h, toks := tk })
    (done : ∀ m₁ news₁ h tk, J n m₁ news₁ → Fr h₀ env.locals h m₁ → News h₀ env.locals h news₁ → Q .next { s with heap := h, toks := tk }) :
    wpAny (model prog w) A (pyIter (.ref r)) (fun it s₂ => LoopAtV prog w A h₀ env x body Q E it s₂) E s := by
  refine wpAny_pyIter_range hr hsmall ?_
  refine loop_invN (s := { s with heap := s.heap.push { cls := .type "range_iterator", data := .fields #[rawInt a₀, rawInt (Builtin.Range.rangeSize a₀ b₀ 1), rawInt 1] } }) J (PyProof.Rows.LCg.range_walks hh a₀ n) ?_ ?_ ?_ ?_ (by show IsRangeIter _ _ _ _ _; rw [hn]; simpa using Heap.get?_push_size _ rfl) (F.push _) (fun p hp => ⟨Heap.get?_push_of_some _ (N p hp).1, (N p hp).2⟩) hj ?_ done
  · intro hm
    exact absurd F.ns.lt ((List.mem_singleton.mp hm) ▸ Nat.lt_irrefl _)
  · intro b hb
    rw [List.mem_singleton.mp hb]
    exact next_is_new F
  · intro p hp hI
    exact absurd (Heap.lt_size (N p hp).1) ((List.mem_singleton.mp hI) ▸ Nat.lt_irrefl _)
  · intro p hp hI
    exact absurd (Heap.lt_size (N p hp).1) ((List.mem_singleton.mp hI) ▸ Nat.lt_irrefl _)
  · rintro i v m₁ nx h tk own hi ⟨t, rfl⟩ h1 h2 h3 F₁ N₁
    exact turn i t m₁ nx h tk own hi h1 h2 h3 F₁ N₁
end
end Mine

namespace Mine
open PySem PySem.W PyProof.Rows PySem.Calls PySem.Spec
/-- the four names -/
abbrev vt4 (v : Fin 4 → Str) (a : Fin 4 → Tok) (n : Nat) : Obj := listOf #[.str (v 0) (a 0), .str (v 1) (a 1), .str (v 2) (a 2), .str (v 3) (a 3)] n
/-- the table: four rows -/
abbrev tb4 (r : Fin 4 → Addr) (n : Nat) : Obj := listOf #[.ref (r 0), .ref (r 1), .ref (r 2), .ref (r 3)] n
/-- a row of the table told by f -/
abbrev rw4 (v : Fin 4 → Str) (f : Fin 4 → Fin 4 → Fin 4) (ts : Fin 4 → Fin 4 → Tok) (ns : Fin 4 → Nat) (i : Fin 4) : Obj := listOf #[.str (v (f i 0)) (ts i 0), .str (v (f i 1)) (ts i 1), .str (v (f i 2)) (ts i 2), .str (v (f i 3)) (ts i 3)] (ns i)

section
variable {prog : Program} {w : World} {A : Around} {E : Value → Shared → Prop} {s : Shared} {h₀ : Heap} {L : Addr} {m : Str → Option Value} {news : List (Addr × Obj)} {value slice : PySem.Expr} {idx : Int} {u : Tok}

theorem sub4 {l : Addr} {x : Fin 4 → Value} {n : Nat} {Q : Value → Shared → Prop} (N : News h₀ L s.heap news) (hm : (l, listOf #[x 0, x 1, x 2, x 3] n) ∈ news) (k : Fin 4) (hk : idx = ((k.val : Nat) : Int)) (h : Q (x k) s)
    (hs : subscripted slice false (.ref l) (.int idx u) = operate [.ref l, .int idx u] (getItem (.ref l) (.int idx u))) (hg : ∀ r, letTemporaryGo value (.ref l) r = pure ()) :
    wpAny (model prog w) A (subscriptTail value slice (.ref l) (.int idx u)) Q E s := by
  subst hk
  refine item_list (News.isList N hm) (Int.natCast_nonneg _) (by have := k.isLt; omega) ?_ h hs hg
  rw [Int.toNat_natCast]
  match k with
  | 0 => rfl
  | 1 => rfl
  | 2 => rfl
  | 3 => rfl

theorem sub_votes {l : Addr} {v : Fin 4 → Str} {a : Fin 4 → Tok} {n : Nat} {Q : Value → Shared → Prop} (k : Fin 4) (N : News h₀ L s.heap news) (hm : (l, vt4 v a n) ∈ news) (hk : idx = ((k.val : Nat) : Int)) (h : Q (.str (v k) (a k)) s)
    (hs : subscripted slice false (.ref l) (.int idx u) = operate [.ref l, .int idx u] (getItem (.ref l) (.int idx u))) (hg : ∀ r, letTemporaryGo value (.ref l) r = pure ()) :
    wpAny (model prog w) A (subscriptTail value slice (.ref l) (.int idx u)) Q E s := sub4 (x := fun k => .str (v k) (a k)) N hm k hk h hs hg
theorem sub_tab {l : Addr} {r : Fin 4 → Addr} {n : Nat} {Q : Value → Shared → Prop} (k : Fin 4) (N : News h₀ L s.heap news) (hm : (l, tb4 r n) ∈ news) (hk : idx = ((k.val : Nat) : Int)) (h : Q (.ref (r k)) s)
    (hs : subscripted slice false (.ref l) (.int idx u) = operate [.ref l, .int idx u] (getItem (.ref l) (.int idx u))) (hg : ∀ r, letTemporaryGo value (.ref l) r = pure ()) :
    wpAny (model prog w) A (subscriptTail value slice (.ref l) (.int idx u)) Q E s := sub4 (x := fun k => .ref (r k)) N hm k hk h hs hg
theorem sub_row {r : Fin 4 → Addr} {v : Fin 4 → Str} {f : Fin 4 → Fin 4 → Fin 4} {ts : Fin 4 → Fin 4 → Tok} {ns : Fin 4 → Nat} {i : Fin 4} {Q : Value → Shared → Prop} (k : Fin 4) (N : News h₀ L s.heap news)
    (h0 : (r 0, rw4 v f ts ns 0) ∈ news) (h1 : (r 1, rw4 v f ts ns 1) ∈ news) (h2 : (r 2, rw4 v f ts ns 2) ∈ news) (h3 : (r 3, rw4 v f ts ns 3) ∈ news)
    (hk : idx = ((k.val : Nat) : Int)) (h : Q (.str (v (f i k)) (ts i k)) s)
    (hs : subscripted slice false (.ref (r i)) (.int idx u) = operate [.ref (r i), .int idx u] (getItem (.ref (r i)) (.int idx u))) (hg : ∀ q, letTemporaryGo value (.ref (r i)) q = pure ()) :
    wpAny (model prog w) A (subscriptTail value slice (.ref (r i)) (.int idx u)) Q E s := by
  refine sub4 (x := fun k => .str (v (f i k)) (ts i k)) (n := ns i) N ?_ k hk h hs hg
  match i with
  | 0 => exact h0
  | 1 => exact h1
  | 2 => exact h2
  | 3 => exact h3
theorem sub_rowT {r : Fin 4 → Addr} {v : Fin 4 → Str} {f : Fin 4 → Fin 4 → Fin 4} {ts : Fin 4 → Fin 4 → Tok} {ns : Fin 4 → Nat} {i : Fin 4} {Q : Value → Shared → Prop} (k : Fin 4) (N : News h₀ L s.heap news)
    (h0 : (r 0, rw4 v f ts ns 0) ∈ news) (h1 : (r 1, rw4 v f ts ns 1) ∈ news) (h2 : (r 2, rw4 v f ts ns 2) ∈ news) (h3 : (r 3, rw4 v f ts ns 3) ∈ news)
    (hk : idx = ((k.val : Nat) : Int)) (h : Q (.str (v (f i k)) (ts i k)) s)
    (hs : subscripted slice false (.ref (r i)) (.int idx u) = operate [.ref (r i), .int idx u] (getItem (.ref (r i)) (.int idx u))) :
    wpAny (model prog w) A (subscriptTail value slice (.ref (r i)) (.int idx u)) Q E s :=
  kba_turn (value' := PySem.Expr.Name (PySem.Str.ofString "_") ⟨0, 0, 0, 0⟩) (fun _ => rfl) (sub_row k N h0 h1 h2 h3 hk h hs (fun _ => rfl))

/-- one field of the table set anew -/
theorem store_row {r : Fin 4 → Addr} {v : Fin 4 → Str} {f : Fin 4 → Fin 4 → Fin 4} {ts : Fin 4 → Fin 4 → Tok} {ns : Fin 4 → Nat} {i c : Fin 4} {t : Tok} {dd tf : Addr × Obj} {rest : List (Addr × Obj)} {Q : Unit → Shared → Prop} (j : Fin 4) (F : Fr h₀ L s.heap m)
    (N : News h₀ L s.heap (dd :: tf :: (r 0, rw4 v f ts ns 0) :: (r 1, rw4 v f ts ns 1) :: (r 2, rw4 v f ts ns 2) :: (r 3, rw4 v f ts ns 3) :: rest))
    (hj : idx = ((j.val : Nat) : Int)) (hin : ∀ a b, a ≠ b → r a ≠ r b) (hdd : ∀ a, dd.1 ≠ r a) (htf : ∀ a, tf.1 ≠ r a) (hre : ∀ p ∈ rest, ∀ a, p.1 ≠ r a)
    (h : ∀ h' f' ts' ns', Fr h₀ L h' m → News h₀ L h' (dd :: tf :: (r 0, rw4 v f' ts' ns' 0) :: (r 1, rw4 v f' ts' ns' 1) :: (r 2, rw4 v f' ts' ns' 2) :: (r 3, rw4 v f' ts' ns' 3) :: rest) → Q () { s with heap := h' }) :
    wpAny (model prog w) A (setItem (.ref (r i)) (.int idx u) (.str (v c) t)) Q E s := by
  subst hj
  have row : ∀ a : Fin 4, s.heap.get? (r a) = some (rw4 v f ts ns a) ∧ r a ≠ L ∧ h₀.get? (r a) = none := fun a => by
    match a with
    | 0 => exact N _ (.tail _ (.tail _ (.head _)))
    | 1 => exact N _ (.tail _ (.tail _ (.tail _ (.head _))))
    | 2 => exact N _ (.tail _ (.tail _ (.tail _ (.tail _ (.head _)))))
    | 3 => exact N _ (.tail _ (.tail _ (.tail _ (.tail _ (.tail _ (.head _))))))
  refine ki_setAt (row i).1 (Int.natCast_nonneg _) (by have := j.isLt; omega) (by have := j.isLt; show ((j.val : Nat) : Int) < ((4 : Nat) : Int); omega) ?_
  rw [Int.toNat_natCast]
  have hs : Heap.SameBut (r i) s.heap (s.heap.update (r i) (Obj.mapSeq (fun x => x.setIfInBounds j.val (.str (v c) t)))) := Heap.SameBut.update ..
  have hg : (s.heap.update (r i) (Obj.mapSeq (fun x => x.setIfInBounds j.val (.str (v c) t)))).get? (r i) = some (rw4 v (fun a b => if a = i ∧ b = j then c else f a b) (fun a b => if a = i ∧ b = j then t else ts a b) ns i) := by
    rw [Heap.get?_update_self _ (row i).1 (by match j with | 0 => rfl | 1 => rfl | 2 => rfl | 3 => rfl)]
    match j with
    | 0 => simp [Obj.mapSeq]
    | 1 => simp [Obj.mapSeq]
    | 2 => simp [Obj.mapSeq]
    | 3 => simp [Obj.mapSeq]; rfl
  refine h _ (fun a b => if a = i ∧ b = j then c else f a b) (fun a b => if a = i ∧ b = j then t else ts a b) ns (F.change hs (row i).2.1 (row i).2.2) ?_
  have one : ∀ a : Fin 4, (s.heap.update (r i) (Obj.mapSeq (fun x => x.setIfInBounds j.val (.str (v c) t)))).get? (r a) = some (rw4 v (fun a b => if a = i ∧ b = j then c else f a b) (fun a b => if a = i ∧ b = j then t else ts a b) ns a) := fun a => by
    by_cases e : a = i
    · subst e; exact hg
    · have q := hs.extBut _ _ (hin a i e) (row a).1
      rw [q]
      simp [e]
  intro p hp
  rcases List.mem_cons.mp hp with rfl | hp
  · have q := N p (.head _); exact ⟨hs.extBut _ _ (hdd i) q.1, q.2⟩
  rcases List.mem_cons.mp hp with rfl | hp
  · have q := N p (.tail _ (.head _)); exact ⟨hs.extBut _ _ (htf i) q.1, q.2⟩
  rcases List.mem_cons.mp hp with rfl | hp
  · exact ⟨one 0, (row 0).2⟩
  rcases List.mem_cons.mp hp with rfl | hp
  · exact ⟨one 1, (row 1).2⟩
  rcases List.mem_cons.mp hp with rfl | hp
  · exact ⟨one 2, (row 2).2⟩
  rcases List.mem_cons.mp hp with rfl | hp
  · exact ⟨one 3, (row 3).2⟩
  · have q := N p (.tail _ (.tail _ (.tail _ (.tail _ (.tail _ (.tail _ hp)))))); exact ⟨hs.extBut _ _ (hre p hp i) q.1, q.2⟩
end
end Mine

namespace Mine
open PySem PyProof.Rows.LCg PyProof.Rows.LCt PySem.W PyProof.Rows PySem.Calls PySem.Spec
theorem w_off_S15 : True := by
  w_top off
  exact trivial
local macro_rules | `(tactic| walk_at "pyIter ref") => `(tactic| refine halt_in ?_)
local macro_rules | `(tactic| walk_at "exec For Name Subscript cons nil") => `(tactic| refine halt_in ?_)
local macro_rules | `(tactic| walk_at "InvEndN") => `(tactic| refine halt_in ?_)
local macro_rules | `(tactic| walk_at "ours sub") => `(tactic| (k_here; (with_reducible show wpAny _ _ (subscriptTail _ _ (Value.ref _) (Value.int _ _)) _ _ _); k_dflt (refine' sub_votes _ ?kN ?m0 ?kk ?_ ?ks ?kg; (case kN => k_asm); (case m0 => k_mem); (case kk => first | rfl | assumption | omega); (case ks => with_unfolding_all rfl); (case kg => intro _; with_unfolding_all rfl); k_whole)))
local macro_rules | `(tactic| walk_at "ours sub") => `(tactic| (k_here; (with_reducible show wpAny _ _ (subscriptTail _ _ (Value.ref _) (Value.int _ _)) _ _ _); k_dflt (refine' sub_tab _ ?kN ?m0 ?kk ?_ ?ks ?kg; (case kN => k_asm); (case m0 => k_mem); (case kk => first | rfl | assumption | omega); (case ks => with_unfolding_all rfl); (case kg => intro _; with_unfolding_all rfl); k_whole)))
local macro_rules | `(tactic| walk_at "ours sub") => `(tactic| (k_here; (with_reducible show wpAny _ _ (subscriptTail _ _ (Value.ref _) (Value.int _ _)) _ _ _); k_dflt (refine' sub_row _ ?kN ?m0 ?m1 ?m2 ?m3 ?kk ?_ ?ks ?kg; (case kN => k_asm); (case m0 => k_mem); (case m1 => k_mem); (case m2 => k_mem); (case m3 => k_mem); (case kk => first | rfl | assumption | omega); (case ks => with_unfolding_all rfl); (case kg => intro _; with_unfolding_all rfl); k_whole)))
local macro_rules | `(tactic| walk_at "subscriptTail Name BinOp ref int") => `(tactic| walk_at "ours sub")

local macro_rules | `(tactic| walk_at "setItem ref int") => `(tactic| refine halt_in ?_)
theorem fin4_of {x : Int} (h0 : 0 ≤ x) (h4 : x < 4) : ∃ k : Fin 4, x = ((k.val : Nat) : Int) := ⟨⟨x.toNat, by omega⟩, by show x = ((x.toNat : Nat) : Int); omega⟩
theorem fmod4 (x : Int) : ∃ k : Fin 4, x.fmod 4 = ((k.val : Nat) : Int) := fin4_of (Int.fmod_nonneg_of_pos _ (by decide)) (Int.fmod_lt_of_pos _ (by decide))

theorem seg15 : ∀ {w : World} {p : Program} {loose : List Str} {mean : ExcName → Option Value} {mg mb : Str → Option Value} {G : Heap} {L fa : Addr} {m : Str → Option Value} {s : Shared} {Q : Flow → Shared → Prop} {v : Fin 4 → Str} {f : Fin 4 → Fin 4 → Fin 4} {ts : Fin 4 → Fin 4 → Tok} {ns : Fin 4 → Nat} {r : Fin 4 → Addr} {a : Fin 4 → Tok} {lc lv lf : Addr} {nv nf nc : Nat} {c0 c1 c2 c3 : Int} {u0 u1 u2 u3 : Tok} {k1 k2 k3 k4 k5 k6 : Obj} {ps : Array Value}
    (B : Below callerA G [] G) (X : (hd.heap_39 w.params).In G) (T : Top p loose mean mg mb G) (hC : CodeHd G 78 76) (F : Fr G L s.heap (fun y => if y = Str.ofString "fields" then some (.ref lf) else m y)) (N : News G L s.heap [(lf, tb4 r nf), (r 0, rw4 v f ts ns 0), (r 1, rw4 v f ts ns 1), (r 2, rw4 v f ts ns 2), (r 3, rw4 v f ts ns 3), (lv, vt4 v a nv), (lc, listOf #[.int c0 u0, .int c1 u1, .int c2 u2, .int c3 u3] nc), (L + 1 + 1 + 1 + 1 + 1 + 1, k6), (L + 1 + 1 + 1 + 1 + 1, k5), (L + 1 + 1 + 1 + 1, k4), (L + 1 + 1 + 1, k3), (L + 1 + 1, k2), (L + 1, k1), (76, tabObj ps)])
    (d1 : k1.data = .cell (some (.ref lc))) (d4 : k4.data = .cell (some (.ref lv))) (hin : ∀ i j, i ≠ j → r i ≠ r j) (hlf : ∀ i, lf ≠ r i) (hre : ∀ b ∈ [lv, lc, L + 1 + 1 + 1 + 1 + 1 + 1, L + 1 + 1 + 1 + 1 + 1, L + 1 + 1 + 1 + 1, L + 1 + 1 + 1, L + 1 + 1, L + 1, 76], ∀ i, b ≠ r i)
    (hQ : ∀ h tk m' f ts ns, Fr G L h m' → m' (Str.ofString "fields") = some (.ref lf) → News G L h [(lf, tb4 r nf), (r 0, rw4 v f ts ns 0), (r 1, rw4 v f ts ns 1), (r 2, rw4 v f ts ns 2), (r 3, rw4 v f ts ns 3), (lv, vt4 v a nv), (lc, listOf #[.int c0 u0, .int c1 u1, .int c2 u2, .int c3 u3] nc), (L + 1 + 1 + 1 + 1 + 1 + 1, k6), (L + 1 + 1 + 1 + 1 + 1, k5), (L + 1 + 1 + 1 + 1, k4), (L + 1 + 1 + 1, k3), (L + 1 + 1, k2), (L + 1, k1), (76, tabObj ps)] → Q .next { s with heap := h, toks := tk }),
    wpAny (model PySem.Challenge.rw_rs0028_01.row.prog w) (callerA.deeper (envOfC (Str.ofString "law") lawScope L fa (.ref 78))) (execs ((lawBody.drop 15).take 1) (envOfC (Str.ofString "law") lawScope L fa (.ref 78))) Q (fun _ _ => False) s := by
  k_fill
  dsimp only [lawScope, lawBody, lawDef, PySem.Challenge.pw_rs0028_01, List.drop_succ_cons, List.drop_zero, List.take_succ_cons, List.take_zero]

  intro w p loose mean mg mb G L fa m s Q v f ts ns r a lc lv lf nv nf nc c0 c1 c2 c3 u0 u1 u2 u3 k1 k2 k3 k4 k5 k6 ps B X T hC F N d1 d4 hin hlf hre hQ
  clear hC
  k_steps
  unfold Halt
  k_dflt (refine For_invV G (by rfl) (by rfl) ?_ (hE := PassesOwn.never))
  k_steps
  unfold Halt
  rename News _ _ _ _ => N5
  rename_i D5 h5 F5 l5
  refine iter_invNL (J := fun i m₁ nx => m₁ (Str.ofString "fields") = some (.ref lf) ∧ ∃ f ts ns, nx = [(D5, listOf #[.int c2 u2, .int c3 u3] 0), (lf, tb4 r nf), (r 0, rw4 v f ts ns 0), (r 1, rw4 v f ts ns 1), (r 2, rw4 v f ts ns 2), (r 3, rw4 v f ts ns 3), (lv, vt4 v a nv), (lc, listOf #[.int c0 u0, .int c1 u1, .int c2 u2, .int c3 u3] nc), (L + 1 + 1 + 1 + 1 + 1 + 1, k6), (L + 1 + 1 + 1 + 1 + 1, k5), (L + 1 + 1 + 1 + 1, k4), (L + 1 + 1 + 1, k3), (L + 1 + 1, k2), (L + 1, k1), (76, tabObj ps)]) (by rfl) (.head _) (.cons _ _ (.cons _ _ .nil)) (by k_asm) N5 ⟨rfl, f, ts, ns, rfl⟩ ?_ ?_
  · rintro i n t m₁ nx h tk own hi hadr hoff hmem ⟨hm, f, ts, ns, rfl⟩ F6 N6
    have F7 := fr_name (y := Str.ofString "fields") F6 hm
    clear F6
    simp only [List.cons_append, List.nil_append] at N6
    obtain ⟨kr, hkr⟩ := fmod4 (n.fdiv 4)
    obtain ⟨kc, hkc⟩ := fmod4 (n.fdiv 16)
    obtain ⟨kv, hkv⟩ := fmod4 (n.fdiv 64)
    have hdd : ∀ a, D5 ≠ r a := fun a => by
      match a with
      | 0 => exact Nat.ne_of_gt l5.2.1
      | 1 => exact Nat.ne_of_gt l5.2.2.1
      | 2 => exact Nat.ne_of_gt l5.2.2.2.1
      | 3 => exact Nat.ne_of_gt l5.2.2.2.2.1
    have hown : ∀ p ∈ own, ∀ a, p.1 ≠ r a := fun p hp a => hoff p hp (r a) (by
      match a with
      | 0 => simp
      | 1 => simp
      | 2 => simp
      | 3 => simp)
    k_steps
    · unfold Halt
      refine store_row kc (by k_asm) (by k_asm) hkc hin hdd hlf ?_ ?_
      · intro q hq b
        simp only [List.mem_cons] at hq
        rcases hq with rfl | rfl | rfl | rfl | rfl | rfl | rfl | rfl | rfl | hq
        all_goals first | exact hown q hq b | exact hre _ (by simp) b
      · intro h7 f7 ts7 ns7 F8 N8
        k_steps
        unfold Halt
        refine InvEndN.intro (by k_asm) N8 ⟨.head _, rfl, f7, ts7, ns7, rfl⟩ rfl (fun p hp => List.mem_append_left own hp) (by intro p hp; k_ownIn)
    · unfold Halt
      refine InvEndN.intro (by k_asm) N6 ⟨.head _, rfl, f, ts, ns, rfl⟩ rfl (fun p hp => List.mem_append_left own hp) (by intro p hp; k_ownIn)
  · rintro m₁ nx h tk hmem ⟨hm, f, ts, ns, rfl⟩ F6 N6
    refine wpAny_execs_nil ?_
    exact hQ h tk m₁ f ts ns F6 hm fun p hp => N6 p (.tail _ hp)
end Mine

namespace Mine
open PySem PySem.W PyProof.Rows PySem.Calls PySem.Spec
/-- a turn's end: the loop's own iterator stands ahead of the ledger -/
def XEnd (h₀ : Heap) (L : Addr) (J : (Str → Option Value) → List (Addr × Obj) → Prop) (I : Addr) (oI : Obj) (adr : List Addr) (s₁ s₂ : Shared) : Prop :=
  ∃ h' tk m' nx, s₂ = { s₁ with heap := h', toks := tk } ∧ Fr h₀ L h' m' ∧ News h₀ L h' ((I, oI) :: nx) ∧ nx.map (·.1) = adr ∧ J m' nx
def XPost (h₀ : Heap) (L : Addr) (J : (Str → Option Value) → List (Addr × Obj) → Prop) (I : Addr) (oI : Obj) (adr : List Addr) (s₁ : Shared) (Q : Flow → Shared → Prop) (f : Flow) (s₂ : Shared) : Prop :=
  match f with
  | .ret v => Q (.ret v) s₂
  | .brk => Q .next s₂
  | _ => XEnd h₀ L J I oI adr s₁ s₂
def AllLtA (l : List Addr) (I : Addr) : Prop := ∀ b ∈ l, @LT.lt Nat _ b I

section
variable {prog : Program} {w : World} {A : Around} {E : Value → Shared → Prop} {s : Shared} {env : Env} {h₀ : Heap} {x : Str} {body : List Stmt} {Q : Flow → Shared → Prop}

theorem loop_rangeX {r : Addr} {a₀ b₀ : Int} {t₀ u₀ v₀ : Tok} {n : Nat} {m₀ : Str → Option Value} {news : List (Addr × Obj)} (J : Nat → (Str → Option Value) → List (Addr × Obj) → Prop)
    (hh : A.handled = none) (hr : IsRange s.heap r a₀ b₀ 1 t₀ u₀ v₀) (hsmall : Builtin.Range.small a₀ b₀ 1 = true) (hn : Builtin.Range.rangeSize a₀ b₀ 1 = (n : Int)) (F : Fr h₀ env.locals s.heap m₀) (N : News h₀ env.locals s.heap news) (hj : J 0 m₀ news)
    (turn : ∀ (i : Nat) t m₁ news₁ I oI h tk, i < n → news₁.map (·.1) = news.map (·.1) → AllLtA (news.map (·.1)) I → J i m₁ news₁ → Fr h₀ env.locals h (fun y => if y = x then some (.int (a₀ + (i : Int)) t) else m₁ y) → News h₀ env.locals h ((I, oI) :: news₁) →
      wpAny (model prog w) A (execs body env) (XPost h₀ env.locals (J (i + 1)) I oI (news.map (·.1)) { s with heap := h, toks := tk } Q) E { s with heap := h, toks := tk })
    (done : ∀ m₁ news₁ h tk, J n m₁ news₁ → news₁.map (·.1) = news.map (·.1) → Fr h₀ env.locals h m₁ → News h₀ env.locals h news₁ → Q .next { s with heap := h, toks := tk }) :
    wpAny (model prog w) A (pyIter (.ref r)) (fun it s₂ => LoopAtV prog w A h₀ env x body Q E it s₂) E s := by
  refine wpAny_pyIter_range hr hsmall ?_
  have lt : ∀ p ∈ news, @LT.lt Nat _ p.1 s.heap.objs.size := fun p hp => Heap.lt_size (N p hp).1
  have nin : ∀ (nx : List (Addr × Obj)), nx.map (·.1) = news.map (·.1) → ∀ p ∈ nx, @LT.lt Nat _ p.1 s.heap.objs.size := fun nx e p hp => by
    have h1 : p.1 ∈ news.map (·.1) := e ▸ List.mem_map_of_mem hp
    obtain ⟨q, hq, e2⟩ := List.mem_map.mp h1
    rw [← e2]; exact lt q hq
  have nm : ∀ (b : Nat), @LT.lt Nat _ b s.heap.objs.size → b ∉ [s.heap.objs.size] := fun b hb q => by
    have := List.mem_singleton.mp q
    omega
  refine ⟨s.heap.objs.size, [s.heap.objs.size], [s.heap.objs.size], n, _, _, m₀, news, fun i m₁ nx => nx.map (·.1) = news.map (·.1) ∧ J i m₁ nx, rfl, PyProof.Rows.LCg.range_walks hh a₀ n, nm _ F.ns.lt, ?_, fun p hp => nm _ (lt p hp), (by show IsRangeIter _ _ _ _ _; rw [hn]; simpa using Heap.get?_push_size _ rfl), F.push _, (fun p hp => ⟨Heap.get?_push_of_some _ (N p hp).1, (N p hp).2⟩), ⟨rfl, hj⟩, ?_, ?_⟩
  · intro b hb
    rw [List.mem_singleton.mp hb]
    exact next_is_new F
  · rintro i v m₁ nx s₁ own ⟨hh', tk', rfl⟩ hi ⟨t, rfl⟩ ⟨hadr, hJ⟩ hoff hown hown2 hall hst F₁ N₁
    obtain ⟨oI, hst'⟩ : ∃ oI, hh'.get? s.heap.objs.size = some oI := ⟨_, hst⟩
    have hmem := hall s.heap.objs.size (.head _) (next_is_new F) _ hst'
    have N₂ : News h₀ env.locals hh' ((s.heap.objs.size, oI) :: nx) := fun p hp => by
      rcases List.mem_cons.mp hp with rfl | hp
      · exact N₁ _ (List.mem_append_left _ hmem)
      · exact N₁ _ (List.mem_append_right _ hp)
    have hlt : AllLtA (news.map (·.1)) s.heap.objs.size := fun b hb => by
      obtain ⟨q, hq, e⟩ := List.mem_map.mp hb
      rw [← e]; exact lt q hq
    refine wpAny_mono (turn i t m₁ nx s.heap.objs.size oI hh' tk' hi hadr hlt hJ F₁ N₂) (fun f s₂ p => ?_) fun _ _ e => e
    have fin : XEnd h₀ env.locals (J (i + 1)) s.heap.objs.size oI (news.map (·.1)) { s with heap := hh', toks := tk' } s₂ → LoopStepU h₀ env.locals [s.heap.objs.size] own (fun m₁ nx => nx.map (·.1) = news.map (·.1) ∧ J (i + 1) m₁ nx) { s with heap := hh', toks := tk' } .next s₂ := by
      rintro ⟨h', tk, m', nx', e, F', N', ha, hm⟩
      refine ⟨rfl, h', tk, m', nx', e, F', fun p hp => ?_, fun p hp => nm _ (nin nx' ha p hp), ha, hm⟩
      rcases List.mem_append.mp hp with hp | hp
      · have e1 : p.1 = s.heap.objs.size := List.mem_singleton.mp (hown p hp)
        have e2 := hown2 p hp
        rw [e1] at e2
        have e3 : p = (s.heap.objs.size, p.2) := by rw [← e1]
        have e4 := e2.symm.trans hst'
        rw [e3, Option.some.inj e4]
        exact N' _ (.head _)
      · exact N' p (.tail _ hp)
    cases f with
    | ret v => exact .ret p
    | brk => exact .brk p
    | next => exact .next (fin p)
    | cont => exact .cont (fin p)
  · rintro h' tk m' nx' F' N' _ ⟨ha, hJ⟩
    exact done m' nx' h' tk hJ ha F' N'
end
end Mine

namespace Mine
open PySem PySem.W PyProof.Rows PySem.Calls PySem.Spec PyProof.V
section
variable {prog : Program} {w : World} {A : Around} {E : Value → Shared → Prop} {s : Shared} {h₀ : Heap} {L : Addr} {news : List (Addr × Obj)}
def rowD (v : Fin 4 → Str) (g : Fin 4 → Fin 4) : PyData := .list [.str (v (g 0)), .str (v (g 1)), .str (v (g 2)), .str (v (g 3))]
theorem row_reads {h : Heap} {b : Addr} {v : Fin 4 → Str} {f : Fin 4 → Fin 4 → Fin 4} {ts : Fin 4 → Fin 4 → Tok} {ns : Fin 4 → Nat} {i : Fin 4} (N : News h₀ L h news) (hm : (b, rw4 v f ts ns i) ∈ news) : ∃ as, Reads h (.ref b) (rowD v (f i)) as :=
  ⟨_, reads_list_at (News.get N hm) rfl rfl (.cons (.str _ _) (.cons (.str _ _) (.cons (.str _ _) (.cons (.str _ _) .nil))))⟩
theorem tab_reads {h : Heap} {l : Addr} {r : Fin 4 → Addr} {n : Nat} {v : Fin 4 → Str} {f : Fin 4 → Fin 4 → Fin 4} {ts : Fin 4 → Fin 4 → Tok} {ns : Fin 4 → Nat} (N : News h₀ L h news) (hm : (l, tb4 r n) ∈ news)
    (h0 : (r 0, rw4 v f ts ns 0) ∈ news) (h1 : (r 1, rw4 v f ts ns 1) ∈ news) (h2 : (r 2, rw4 v f ts ns 2) ∈ news) (h3 : (r 3, rw4 v f ts ns 3) ∈ news) :
    ∃ as, Reads h (.ref l) (.list [rowD v (f 0), rowD v (f 1), rowD v (f 2), rowD v (f 3)]) as := by
  obtain ⟨_, a0⟩ := row_reads N h0
  obtain ⟨_, a1⟩ := row_reads N h1
  obtain ⟨_, a2⟩ := row_reads N h2
  obtain ⟨_, a3⟩ := row_reads N h3
  exact ⟨_, reads_list_at (News.get N hm) rfl rfl (.cons a0 (.cons a1 (.cons a2 (.cons a3 .nil))))⟩
theorem all4 {P : Fin 4 → Prop} : (∀ x, P x) ↔ P 0 ∧ P 1 ∧ P 2 ∧ P 3 :=
  ⟨fun h => ⟨h 0, h 1, h 2, h 3⟩, fun h x => match x with | 0 => h.1 | 1 => h.2.1 | 2 => h.2.2.1 | 3 => h.2.2.2⟩
theorem eqv_tabs {v : Fin 4 → Str} {g f : Fin 4 → Fin 4 → Fin 4} : PyData.eqv (.list [rowD v (g 0), rowD v (g 1), rowD v (g 2), rowD v (g 3)]) (.list [rowD v (f 0), rowD v (f 1), rowD v (f 2), rowD v (f 3)]) = true ↔ ∀ x y, v (g x y) = v (f x y) := by
  rw [all4]
  simp only [all4, rowD, PyData.eqv, PyData.eqvAll, Bool.and_true, Bool.and_eq_true, beq_iff_eq, decide_eq_true_eq]
theorem shaped_tab {v : Fin 4 → Str} (ok : ∀ k, PyData.strOk (v k) = true) {f : Fin 4 → Fin 4 → Fin 4} : SeqAt.shaped (.list [rowD v (f 0), rowD v (f 1), rowD v (f 2), rowD v (f 3)]) = true := by
  simp [SeqAt.shaped, rowD, PyData.canLay0, PyData.canLayAll0, PyData.depth, PyData.depthAll, ok]
/-- two tables compared -/
theorem eq_tabs {l k : Addr} {r e : Fin 4 → Addr} {n n' : Nat} {v : Fin 4 → Str} {g f : Fin 4 → Fin 4 → Fin 4} {ts us : Fin 4 → Fin 4 → Tok} {ns ms : Fin 4 → Nat} {Q : Value → Shared → Prop} (ok : ∀ k, PyData.strOk (v k) = true) (N : News h₀ L s.heap news) (hk : (k, tb4 e n') ∈ news) (hl : (l, tb4 r n) ∈ news)
    (g0 : (e 0, rw4 v g us ms 0) ∈ news) (g1 : (e 1, rw4 v g us ms 1) ∈ news) (g2 : (e 2, rw4 v g us ms 2) ∈ news) (g3 : (e 3, rw4 v g us ms 3) ∈ news)
    (h0 : (r 0, rw4 v f ts ns 0) ∈ news) (h1 : (r 1, rw4 v f ts ns 1) ∈ news) (h2 : (r 2, rw4 v f ts ns 2) ∈ news) (h3 : (r 3, rw4 v f ts ns 3) ∈ news) (hu : A.units + 64 < cLine)
    (b : Bool) (hb : b = true ↔ ∀ x y, v (g x y) = v (f x y)) (h : Q (.bool b) s) : wpAny (model prog w) A (compareOp .Eq (.ref k) (.ref l)) Q E s := by
  obtain ⟨_, a1⟩ := tab_reads N hk g0 g1 g2 g3
  obtain ⟨_, a2⟩ := tab_reads N hl h0 h1 h2 h3
  refine eq_dataH a1 a2 (shaped_tab ok) (shaped_tab ok) hu ?_
  have e : PyData.eqv (.list [rowD v (g 0), rowD v (g 1), rowD v (g 2), rowD v (g 3)]) (.list [rowD v (f 0), rowD v (f 1), rowD v (f 2), rowD v (f 3)]) = b := by
    rw [Bool.eq_iff_iff, eqv_tabs, hb]
  rw [e]; exact h
theorem ne_list_len {l b : Addr} {items items2 : Array Value} {Q : Value → Shared → Prop} (hl : s.heap.IsList l items) (hb : s.heap.IsList b items2) (hsz : (items.size != items2.size) = true) (hu : A.units < cLine)
    (h : Q (.bool true) s) : wpAny (model prog w) A (compareOp .NotEq (.ref l) (.ref b)) Q E s := PySem.SeqAt.RcNeAt.lists_lengths hl hb hsz hu prog w E Q h
theorem eq_empty {l b : Addr} {Q : Value → Shared → Prop} (hl : s.heap.IsList l #[]) (hb : s.heap.IsList b #[]) (hu : A.units < cLine)
    (h : Q (.bool true) s) : wpAny (model prog w) A (compareOp .Eq (.ref l) (.ref b)) Q E s := PySem.SeqAt.eq_listAt (e := fun _ => true) hl hb rfl hu (fun j h1 _ => absurd h1 (Nat.not_lt_zero j)) h
theorem ne_empty {l b : Addr} {Q : Value → Shared → Prop} (hl : s.heap.IsList l #[]) (hb : s.heap.IsList b #[]) (hu : A.units < cLine)
    (h : Q (.bool false) s) : wpAny (model prog w) A (compareOp .NotEq (.ref l) (.ref b)) Q E s := PySem.SeqAt.RcNeAt.lists (e := fun _ => true) hl hb rfl hu (fun j h1 _ => absurd h1 (Nat.not_lt_zero j)) prog w E Q h
theorem four_reads {h : Heap} {b : Addr} {x0 x1 x2 x3 : Str} {t0 t1 t2 t3 : Tok} {n : Nat} (N : News h₀ L h news) (hm : (b, listOf #[.str x0 t0, .str x1 t1, .str x2 t2, .str x3 t3] n) ∈ news) : ∃ as, Reads h (.ref b) (.list [.str x0, .str x1, .str x2, .str x3]) as :=
  ⟨_, reads_list_at (News.get N hm) rfl rfl (.cons (.str _ _) (.cons (.str _ _) (.cons (.str _ _) (.cons (.str _ _) .nil))))⟩
/-- two lists of four texts compared -/
theorem ne_four {a b : Addr} {x0 x1 x2 x3 y0 y1 y2 y3 : Str} {t0 t1 t2 t3 u0 u1 u2 u3 : Tok} {n n' : Nat} {Q : Value → Shared → Prop} (N : News h₀ L s.heap news) (ha : (a, listOf #[.str x0 t0, .str x1 t1, .str x2 t2, .str x3 t3] n) ∈ news) (hb : (b, listOf #[.str y0 u0, .str y1 u1, .str y2 u2, .str y3 u3] n') ∈ news)
    (ok : PyData.strOk x0 = true ∧ PyData.strOk x1 = true ∧ PyData.strOk x2 = true ∧ PyData.strOk x3 = true ∧ PyData.strOk y0 = true ∧ PyData.strOk y1 = true ∧ PyData.strOk y2 = true ∧ PyData.strOk y3 = true) (hu : A.units + 64 < cLine)
    (hc : x0 = y0 ∧ x1 = y1 ∧ x2 = y2 ∧ x3 = y3) (h : Q (.bool false) s) : wpAny (model prog w) A (compareOp .NotEq (.ref a) (.ref b)) Q E s := by
  obtain ⟨_, a1⟩ := four_reads N ha
  obtain ⟨_, a2⟩ := four_reads N hb
  obtain ⟨o0, o1, o2, o3, o4, o5, o6, o7⟩ := ok
  obtain ⟨rfl, rfl, rfl, rfl⟩ := hc
  refine ne_dataH a1 a2 ?_ ?_ hu ?_
  · simp [SeqAt.shaped, PyData.canLay0, PyData.canLayAll0, PyData.depth, PyData.depthAll, o0, o1, o2, o3]
  · simp [SeqAt.shaped, PyData.canLay0, PyData.canLayAll0, PyData.depth, PyData.depthAll, o0, o1, o2, o3]
  · have e : PyData.eqv (.list [.str x0, .str x1, .str x2, .str x3]) (.list [.str x0, .str x1, .str x2, .str x3]) = true := by simp [PyData.eqv, PyData.eqvAll]
    rw [e]; exact h
end
end Mine

namespace Mine
open PySem PySem.W PyProof.Rows PySem.Calls PySem.Spec
/-- four names that rise -/
def Up (v : Fin 4 → Str) : Prop := ∀ i j : Fin 4, i < j → (v i).cps.toList < (v j).cps.toList

theorem lt_irr (l : List Nat) : ¬ l < l := List.lt_irrefl l
theorem lt_asym {a b : List Nat} (h : a < b) : ¬ b < a := List.lt_asymm h

theorem Up.lt_iff {v : Fin 4 → Str} (h : Up v) (i j : Fin 4) : (v i).cps.toList < (v j).cps.toList ↔ i < j := by
  constructor
  · intro q
    rcases Nat.lt_trichotomy i.val j.val with e | e | e
    · exact e
    · rw [Fin.ext e] at q; exact absurd q (lt_irr _)
    · exact absurd q (lt_asym (h j i e))
  · exact h i j
theorem Up.inj {v : Fin 4 → Str} (h : Up v) {i j : Fin 4} (e : v i = v j) : i = j := by
  rcases Nat.lt_trichotomy i.val j.val with q | q | q
  · have := h i j q; rw [e] at this; exact absurd this (lt_irr _)
  · exact Fin.ext q
  · have := h j i q; rw [e] at this; exact absurd this (lt_irr _)

def sg (a b : Fin 4) : Int := if b < a then 1 else if a < b then -1 else 0
theorem Up.sgn {v : Fin 4 → Str} (h : Up v) (i j : Fin 4) : sgnS (v i) (v j) = sg i j := by
  unfold sgnS sg b2i
  rw [show decide ((v j).cps.toList < (v i).cps.toList) = decide (j < i) from decide_eq_decide.mpr (h.lt_iff j i), show decide ((v i).cps.toList < (v j).cps.toList) = decide (i < j) from decide_eq_decide.mpr (h.lt_iff i j)]
  revert i j; decide

def ins (x : Fin 4) : List (Fin 4) → List (Fin 4)
  | [] => [x]
  | y :: r => if x ≤ y then x :: y :: r else y :: ins x r
def srt : List (Fin 4) → List (Fin 4)
  | [] => []
  | x :: r => ins x (srt r)
theorem ins_perm (x : Fin 4) : ∀ l, (ins x l).Perm (x :: l)
  | [] => .refl _
  | y :: r => by
    unfold ins
    split
    · exact .refl _
    · exact ((ins_perm x r).cons y).trans (.swap x y r)
theorem srt_perm : ∀ l, (srt l).Perm l
  | [] => .refl _
  | x :: r => (ins_perm x (srt r)).trans ((srt_perm r).cons x)
theorem ins_sorted (x : Fin 4) : ∀ l : List (Fin 4), l.Pairwise (fun a b => a ≤ b) → (ins x l).Pairwise (fun a b => a ≤ b)
  | [], _ => List.pairwise_singleton _ _
  | y :: r, h => by
    unfold ins
    have h1 := List.pairwise_cons.mp h
    split
    · rename_i q
      refine List.pairwise_cons.mpr ⟨fun z hz => ?_, h⟩
      rcases List.mem_cons.mp hz with rfl | hz
      · exact q
      · exact Fin.le_trans q (h1.1 z hz)
    · rename_i q
      refine List.pairwise_cons.mpr ⟨fun z hz => ?_, ins_sorted x r h1.2⟩
      rcases List.mem_cons.mp ((ins_perm x r).mem_iff.mp hz) with rfl | hz
      · exact Fin.le_of_lt (Fin.not_le.mp q)
      · exact h1.1 z hz
theorem srt_sorted : ∀ l : List (Fin 4), (srt l).Pairwise (fun a b => a ≤ b)
  | [] => .nil
  | x :: r => ins_sorted x _ (srt_sorted r)
theorem sorted_one : ∀ (a b : List (Fin 4)), a.Pairwise (fun a b => a ≤ b) → b.Pairwise (fun a b => a ≤ b) → a.Perm b → a = b
  | [], b, _, _, h => (List.nil_perm.mp h).symm
  | x :: a, [], _, _, h => absurd (List.perm_nil.mp h) (by simp)
  | x :: a, y :: b, ha, hb, h => by
    have ha' := List.pairwise_cons.mp ha
    have hb' := List.pairwise_cons.mp hb
    have e : x = y := by
      apply Fin.le_antisymm
      · rcases List.mem_cons.mp (h.mem_iff.mpr (List.mem_cons_self (a := y) (l := b))) with q | q
        · exact Fin.le_of_eq q.symm
        · exact ha'.1 y q
      · rcases List.mem_cons.mp (h.mem_iff.mp (List.mem_cons_self (a := x) (l := a))) with q | q
        · exact Fin.le_of_eq q.symm
        · exact hb'.1 x q
    subst e
    rw [sorted_one a b ha'.2 hb'.2 (List.Perm.cons_inv h)]

/-- the place's name, read back -/
def back (v : Fin 4 → Str) (s : Str) : Fin 4 := if s = v 0 then 0 else if s = v 1 then 1 else if s = v 2 then 2 else 3
theorem Up.back {v : Fin 4 → Str} (h : Up v) (i : Fin 4) : back v (v i) = i := by
  unfold Mine.back
  have n : ∀ a b : Fin 4, a ≠ b → v a ≠ v b := fun a b q e => q (h.inj e)
  match i with
  | 0 => simp
  | 1 => rw [if_neg (n 1 0 (by decide)), if_pos rfl]
  | 2 => rw [if_neg (n 2 0 (by decide)), if_neg (n 2 1 (by decide)), if_pos rfl]
  | 3 => rw [if_neg (n 3 0 (by decide)), if_neg (n 3 1 (by decide)), if_neg (n 3 2 (by decide))]

theorem rising_le {v : Fin 4 → Str} (h : Up v) : ∀ (p : Fin 4) (js : List (Fin 4)), risingS (v p) (js.map v) = true → (p :: js).Pairwise (fun a b => a ≤ b)
  | p, [], _ => List.pairwise_singleton _ _
  | p, j :: js, q => by
    have q' : (!ltCps (v j).cps.toList (v p).cps.toList && risingS (v j) (js.map v)) = true := q
    rw [Bool.and_eq_true] at q'
    have ih := rising_le h j js q'.2
    have le : p ≤ j := by
      apply Fin.not_lt.mp
      intro lt
      have e := (h.lt_iff j p).mpr lt
      have c := q'.1
      rw [ltCps_eq] at c
      simp [e] at c
    refine List.pairwise_cons.mpr ⟨fun z hz => ?_, ih⟩
    rcases List.mem_cons.mp hz with rfl | hz
    · exact le
    · exact Fin.le_trans le ((List.pairwise_cons.mp ih).1 z hz)
theorem sorted_le {v : Fin 4 → Str} (h : Up v) : ∀ (js : List (Fin 4)), sortedS (js.map v) = true → js.Pairwise (fun a b => a ≤ b)
  | [], _ => .nil
  | j :: js, q => rising_le h j js q

def md (i : Nat) (is : List (Fin 4)) : Fin 4 := (srt is).getD i 0
theorem med_v {v : Fin 4 → Str} (h : Up v) {i : Nat} {is : List (Fin 4)} {z : Str} (q : Med i (is.map v) z) : z = v (md i is) := by
  obtain ⟨ss, hp, hs, hz⟩ := q
  have e1 : ss = (ss.map (back v)).map v := by
    rw [List.map_map]
    have : ∀ x ∈ ss, (v ∘ back v) x = x := fun x hx => by
      obtain ⟨k, _, rfl⟩ := List.mem_map.mp (hp.mem_iff.mp hx)
      show v (back v (v k)) = v k
      rw [h.back]
    conv => lhs; rw [← List.map_id ss]
    exact List.map_congr_left fun x hx => (this x hx).symm
  have e2 : (ss.map (back v)).Perm is := by
    have := hp.map (back v)
    rw [List.map_map] at this
    have e : is.map (back v ∘ v) = is := by
      conv => rhs; rw [← List.map_id is]
      exact List.map_congr_left fun x _ => h.back x
    rwa [e] at this
  rw [e1] at hs hz
  have e3 : ss.map (back v) = srt is := sorted_one _ _ (sorted_le h _ hs) (srt_sorted is) (e2.trans (srt_perm is).symm)
  rw [e3, List.getElem?_map] at hz
  unfold md
  cases q : (srt is)[i]? with
  | none => rw [q] at hz; cases hz
  | some k => rw [q] at hz; rw [List.getD_eq_getElem?_getD, q]; exact (Option.some.inj hz).symm
end Mine

namespace Mine
open PySem PyProof.Rows.LCg PyProof.Rows.LCt PySem.W PyProof.Rows PySem.Calls PySem.Spec
theorem w_off_S17 : True := by
  w_top off
  exact trivial
local macro_rules | `(tactic| walk_at "pyIter ref") => `(tactic| refine halt_in ?_)
local macro_rules | `(tactic| walk_at "exec For Name Call cons nil") => `(tactic| refine halt_in ?_)
local macro_rules | `(tactic| walk_at "XPost") => `(tactic| (dsimp only [XPost]))
local macro_rules | `(tactic| walk_at "XEnd") => `(tactic| refine halt_in ?_)
local macro_rules | `(tactic| walk_at "ours sub") => `(tactic| (k_here; (with_reducible show wpAny _ _ (subscriptTail _ _ (Value.ref _) (Value.int _ _)) _ _ _); k_dflt (refine' sub_votes _ ?kN ?m0 ?kk ?_ ?ks ?kg; (case kN => k_asm); (case m0 => k_mem); (case kk => first | rfl | assumption | omega); (case ks => with_unfolding_all rfl); (case kg => intro _; with_unfolding_all rfl); k_whole)))
local macro_rules | `(tactic| walk_at "ours sub") => `(tactic| (k_here; (with_reducible show wpAny _ _ (subscriptTail _ _ (Value.ref _) (Value.int _ _)) _ _ _); k_dflt (refine' sub_tab _ ?kN ?m0 ?kk ?_ ?ks ?kg; (case kN => k_asm); (case m0 => k_mem); (case kk => first | rfl | assumption | omega); (case ks => with_unfolding_all rfl); (case kg => intro _; with_unfolding_all rfl); k_whole)))
local macro_rules | `(tactic| walk_at "ours row") => `(tactic| (k_here; (with_reducible show wpAny _ _ (subscriptTail _ _ (Value.ref _) (Value.int _ _)) _ _ _); k_dflt (refine' sub_rowT _ ?kN ?m0 ?m1 ?m2 ?m3 ?kk ?_ ?ks; (case kN => k_asm); (case m0 => k_mem); (case m1 => k_mem); (case m2 => k_mem); (case m3 => k_mem); (case kk => first | rfl | assumption | omega); (case ks => with_unfolding_all rfl); k_whole)))
local macro_rules | `(tactic| walk_at "subscriptTail Name Name ref int") => `(tactic| walk_at "ours sub")
local macro_rules | `(tactic| walk_at "subscriptTail Subscript") => `(tactic| walk_at "ours row")
local macro_rules | `(tactic| walk_at "call ref") => `(tactic| (k_here; (with_reducible show wpAny _ _ (call (Value.ref 67) [Value.str _ _, Value.str _ _, Value.str _ _]) _ _ _); k_dflt (refine pays_c (by k_asm) (by k_asm) (by k_asm) (by k_asm) (by k_asm) (by first | rfl | assumption) (by ktr_room) (by ktr_units) ?_); intro h9 tk9 F9 N9; (try dsimp only); (try k_fold)))

theorem app_led {prog : Program} {w : World} {A : Around} {E : Value → Shared → Prop} {s : Shared} {h₀ : Heap} {L D : Addr} {m : Str → Option Value} {its : Array Value} {n : Nat} {x : Value} {pre post : List (Addr × Obj)} {Q : Value → Shared → Prop} (F : Fr h₀ L s.heap m)
    (N : News h₀ L s.heap (pre ++ (D, listOf its n) :: post)) (hp : ∀ p ∈ pre, p.1 ≠ D) (hq : ∀ p ∈ post, p.1 ≠ D) (hsz : its.size ≤ sizeLine)
    (h : ∀ h', Fr h₀ L h' m → News h₀ L h' (pre ++ (D, listOf (its.push x) (n + 1)) :: post) → Q .none { s with heap := h' }) :
    wpAny (model prog w) A (call (.builtin "list.append") [.ref D, x]) Q E s := by
  have z := N (D, listOf its n) (List.mem_append_right _ (.head _))
  refine append_at (hsz := hsz) z.1 fun h' hs hD => h h' (F.change hs z.2.1 z.2.2) fun p hp' => ?_
  rcases List.mem_append.mp hp' with q | q
  · have y := N p (List.mem_append_left _ q); exact ⟨hs.extBut _ _ (hp p q) y.1, y.2⟩
  rcases List.mem_cons.mp q with rfl | q
  · exact ⟨hD, z.2⟩
  · have y := N p (List.mem_append_right _ (.tail _ q)); exact ⟨hs.extBut _ _ (hq p q) y.1, y.2⟩
/-- no lie of the two votes x, y pays here -/
def np (v : Fin 4 → Str) (f : Fin 4 → Fin 4 → Fin 4) (x y l : Fin 4) : Prop :=
  ¬ (sgnS (v (f x y)) (v x) * sgnS (v (f x y)) (v (f l y)) = 1) ∧ ¬ (sgnS (v (f x y)) (v y) * sgnS (v (f x y)) (v (f x l)) = 1)
def Clean (v : Fin 4 → Str) (f : Fin 4 → Fin 4 → Fin 4) (n : Nat) : Prop := ∀ x y l : Fin 4, 16 * x.val + 4 * y.val + l.val < n → np v f x y l
def PaidInv (v : Fin 4 → Str) (f : Fin 4 → Fin 4 → Fin 4) (n : Nat) (pd : Array Value) : Prop := pd.size ≤ 2 * n ∧ (pd = #[] ↔ Clean v f n)
theorem paid0 {v : Fin 4 → Str} {f : Fin 4 → Fin 4 → Fin 4} : PaidInv v f 0 #[] := ⟨Nat.le_refl _, ⟨fun _ _ _ _ h => absurd h (Nat.not_lt_zero _), fun _ => rfl⟩⟩
theorem clean_succ {v : Fin 4 → Str} {f : Fin 4 → Fin 4 → Fin 4} {n : Nat} {x y l : Fin 4} (hn : n = 16 * x.val + 4 * y.val + l.val) : Clean v f (n + 1) ↔ Clean v f n ∧ np v f x y l := by
  constructor
  · intro h
    exact ⟨fun a b c q => h a b c (by omega), h x y l (by omega)⟩
  · rintro ⟨h1, h2⟩ a b c q
    by_cases e : 16 * a.val + 4 * b.val + c.val < n
    · exact h1 a b c e
    · have ea : a = x := Fin.ext (by omega)
      have eb : b = y := Fin.ext (by omega)
      have ec : c = l := Fin.ext (by omega)
      rw [ea, eb, ec]; exact h2
theorem paid_no {v : Fin 4 → Str} {f : Fin 4 → Fin 4 → Fin 4} {n : Nat} {x y l : Fin 4} {pd : Array Value} (hn : n = 16 * x.val + 4 * y.val + l.val) (h : PaidInv v f n pd)
    (h1 : ¬ (sgnS (v (f x y)) (v x) * sgnS (v (f x y)) (v (f l y)) = 1)) (h2 : ¬ (sgnS (v (f x y)) (v y) * sgnS (v (f x y)) (v (f x l)) = 1)) : PaidInv v f (n + 1) pd :=
  ⟨by have := h.1; omega, by rw [clean_succ hn, h.2]; exact ⟨fun q => ⟨q, h1, h2⟩, fun q => q.1⟩⟩
theorem push_ne {α : Type} {a : Array α} {x : α} : a.push x ≠ #[] := by
  intro h
  have := congrArg Array.size h
  simp at this
theorem paid_yes {v : Fin 4 → Str} {f : Fin 4 → Fin 4 → Fin 4} {n : Nat} {x y l : Fin 4} {pd pd' : Array Value} (hn : n = 16 * x.val + 4 * y.val + l.val) (h : PaidInv v f n pd) (hs : pd'.size ≤ pd.size + 2) (he : pd' ≠ #[])
    (h1 : ¬ np v f x y l) : PaidInv v f (n + 1) pd' :=
  ⟨by have := h.1; omega, by rw [clean_succ hn]; exact ⟨fun q => absurd q he, fun q => absurd q.2 h1⟩⟩

theorem seg17 : ∀ {w : World} {p : Program} {loose : List Str} {mean : ExcName → Option Value} {mg mb : Str → Option Value} {G : Heap} {L fa : Addr} {m : Str → Option Value} {s : Shared} {Q : Flow → Shared → Prop} {v : Fin 4 → Str} {f : Fin 4 → Fin 4 → Fin 4} {ts : Fin 4 → Fin 4 → Tok} {ns : Fin 4 → Nat} {r : Fin 4 → Addr} {a : Fin 4 → Tok} {lv lf : Addr} {nv nf : Nat} {k1 k2 k3 k4 k5 k6 : Obj} {ps : Array Value}
    (B : Below callerA G [] G) (X : (hd.heap_39 w.params).In G) (T : Top p loose mean mg mb G) (hC : CodeHd G 78 76) (F : Fr G L s.heap (fun y => if y = Str.ofString "fields" then some (.ref lf) else m y)) (N : News G L s.heap [(lf, tb4 r nf), (r 0, rw4 v f ts ns 0), (r 1, rw4 v f ts ns 1), (r 2, rw4 v f ts ns 2), (r 3, rw4 v f ts ns 3), (lv, vt4 v a nv), (L + 1 + 1 + 1 + 1 + 1 + 1, k6), (L + 1 + 1 + 1 + 1 + 1, k5), (L + 1 + 1 + 1 + 1, k4), (L + 1 + 1 + 1, k3), (L + 1 + 1, k2), (L + 1, k1), (76, tabObj ps)])
    (d4 : k4.data = .cell (some (.ref lv)))
    (hQ : ∀ h tk m' lp pd np, Fr G L h m' → m' (Str.ofString "fields") = some (.ref lf) → m' (Str.ofString "paid") = some (.ref lp) → News G L h [(lp, listOf pd np), (lf, tb4 r nf), (r 0, rw4 v f ts ns 0), (r 1, rw4 v f ts ns 1), (r 2, rw4 v f ts ns 2), (r 3, rw4 v f ts ns 3), (lv, vt4 v a nv), (L + 1 + 1 + 1 + 1 + 1 + 1, k6), (L + 1 + 1 + 1 + 1 + 1, k5), (L + 1 + 1 + 1 + 1, k4), (L + 1 + 1 + 1, k3), (L + 1 + 1, k2), (L + 1, k1), (76, tabObj ps)] → (∀ b ∈ [lf, r 0, r 1, r 2, r 3, lv, L + 1 + 1 + 1 + 1 + 1 + 1, L + 1 + 1 + 1 + 1 + 1, L + 1 + 1 + 1 + 1, L + 1 + 1 + 1, L + 1 + 1, L + 1, 76], @LT.lt Nat _ b lp) → PaidInv v f 64 pd → Q .next { s with heap := h, toks := tk }),
    wpAny (model PySem.Challenge.rw_rs0028_01.row.prog w) (callerA.deeper (envOfC (Str.ofString "law") lawScope L fa (.ref 78))) (execs ((lawBody.drop 16).take 2) (envOfC (Str.ofString "law") lawScope L fa (.ref 78))) Q (fun _ _ => False) s := by
  k_fill
  dsimp only [lawScope, lawBody, lawDef, PySem.Challenge.pw_rs0028_01, List.drop_succ_cons, List.drop_zero, List.take_succ_cons, List.take_zero]

  intro w p loose mean mg mb G L fa m s Q v f ts ns r a lv lf nv nf k1 k2 k3 k4 k5 k6 ps B X T hC F N d4 hQ
  clear hC
  k_steps
  unfold Halt
  k_dflt (refine For_invV G (by rfl) (by rfl) ?_ (hE := PassesOwn.never))
  k_steps
  unfold Halt
  rename_i lp h1 l1 h2 F2 N2 h3 tk3 tt1 uu1 vv1 hr F3 N3 hk3
  (try clear hk3)
  (try clear F2)
  (try clear N2)
  refine loop_rangeX (J := fun i m₁ nx => m₁ (Str.ofString "fields") = some (.ref lf) ∧ m₁ (Str.ofString "paid") = some (.ref lp) ∧ ∃ pd np, nx = [(lp, listOf pd np), (lf, tb4 r nf), (r 0, rw4 v f ts ns 0), (r 1, rw4 v f ts ns 1), (r 2, rw4 v f ts ns 2), (r 3, rw4 v f ts ns 3), (lv, vt4 v a nv), (L + 1 + 1 + 1 + 1 + 1 + 1, k6), (L + 1 + 1 + 1 + 1 + 1, k5), (L + 1 + 1 + 1 + 1, k4), (L + 1 + 1 + 1, k3), (L + 1 + 1, k2), (L + 1, k1), (76, tabObj ps)] ∧ PaidInv v f (16 * i) pd) (by rfl) hr (by decide) (by rfl) F3 N3 ⟨rfl, rfl, #[], 0, rfl, paid0⟩ ?_ ?_
  · rintro i t1 m₁ nx I1 oI1 h4 tk4 hi hadr hI1 ⟨hmf, hmp, pd, np, rfl, hpd⟩ F4 N4
    obtain ⟨x, rfl⟩ : ∃ x : Fin 4, i = x.val := ⟨⟨i, hi⟩, rfl⟩
    have F5 := fr_name (y := Str.ofString "paid") (fr_name (y := Str.ofString "fields") F4 hmf) hmp
    (try clear F4)
    (try clear F3)
    (try clear N3)
    simp only [Int.zero_add] at F5
    k_steps
    unfold Halt
    k_dflt (refine For_invV G (by rfl) (by rfl) ?_ (hE := PassesOwn.never))
    k_steps
    unfold Halt
    rename_i h5 tk5 tt2 uu2 vv2 hr5 F6 N6 hk5
    (try clear hk5)
    (try clear F5)
    (try clear N4)
    refine loop_rangeX (J := fun j m₁ nx => m₁ (Str.ofString "fields") = some (.ref lf) ∧ m₁ (Str.ofString "paid") = some (.ref lp) ∧ m₁ (Str.ofString "first") = some (.int ((x.val : Nat) : Int) t1) ∧ ∃ pd np, nx = [(I1, oI1), (lp, listOf pd np), (lf, tb4 r nf), (r 0, rw4 v f ts ns 0), (r 1, rw4 v f ts ns 1), (r 2, rw4 v f ts ns 2), (r 3, rw4 v f ts ns 3), (lv, vt4 v a nv), (L + 1 + 1 + 1 + 1 + 1 + 1, k6), (L + 1 + 1 + 1 + 1 + 1, k5), (L + 1 + 1 + 1 + 1, k4), (L + 1 + 1 + 1, k3), (L + 1 + 1, k2), (L + 1, k1), (76, tabObj ps)] ∧ PaidInv v f (16 * x.val + 4 * j) pd) (by rfl) hr5 (by decide) (by rfl) F6 N6 ⟨rfl, rfl, rfl, pd, np, rfl, hpd⟩ ?_ ?_
    · rintro j t2 m₂ nx I2 oI2 h6 tk6 hj hadr2 hI2 ⟨hmf2, hmp2, hmx2, pd, np, rfl, hpd⟩ F7 N7
      obtain ⟨y, rfl⟩ : ∃ y : Fin 4, j = y.val := ⟨⟨j, hj⟩, rfl⟩
      have F8 := fr_name (y := Str.ofString "first") (fr_name (y := Str.ofString "paid") (fr_name (y := Str.ofString "fields") F7 hmf2) hmp2) hmx2
      (try clear F7)
      (try clear F6)
      (try clear N6)
      simp only [Int.zero_add] at F8
      k_steps
      unfold Halt
      k_dflt (refine For_invV G (by rfl) (by rfl) ?_ (hE := PassesOwn.never))
      k_steps
      unfold Halt
      rename_i h7 F9 h8 tk8 tt3 uu3 vv3 hr8 F10 N10 hk8
      (try clear hk8)
      refine loop_rangeX (J := fun l m₁ nx => m₁ (Str.ofString "fields") = some (.ref lf) ∧ m₁ (Str.ofString "paid") = some (.ref lp) ∧ m₁ (Str.ofString "first") = some (.int ((x.val : Nat) : Int) t1) ∧ m₁ (Str.ofString "second") = some (.int ((y.val : Nat) : Int) t2) ∧ m₁ (Str.ofString "honest") = some (.str (v (f x y)) (ts x y)) ∧ ∃ pd np, nx = [(I2, oI2), (I1, oI1), (lp, listOf pd np), (lf, tb4 r nf), (r 0, rw4 v f ts ns 0), (r 1, rw4 v f ts ns 1), (r 2, rw4 v f ts ns 2), (r 3, rw4 v f ts ns 3), (lv, vt4 v a nv), (L + 1 + 1 + 1 + 1 + 1 + 1, k6), (L + 1 + 1 + 1 + 1 + 1, k5), (L + 1 + 1 + 1 + 1, k4), (L + 1 + 1 + 1, k3), (L + 1 + 1, k2), (L + 1, k1), (76, tabObj ps)] ∧ PaidInv v f (16 * x.val + 4 * y.val + l) pd) (by rfl) hr8 (by decide) (by rfl) F10 N10 ⟨rfl, rfl, rfl, rfl, rfl, pd, np, rfl, hpd⟩ ?_ ?_
      · rintro l t3 m₃ nx I3 oI3 h9 tk9 hl hadr3 hI3 ⟨hmf3, hmp3, hmx3, hmy3, hmh3, pd, np, rfl, hpd⟩ F11 N11
        obtain ⟨z, rfl⟩ : ∃ z : Fin 4, l = z.val := ⟨⟨l, hl⟩, rfl⟩
        have F12 := fr_name (y := Str.ofString "honest") (fr_name (y := Str.ofString "second") (fr_name (y := Str.ofString "first") (fr_name (y := Str.ofString "paid") (fr_name (y := Str.ofString "fields") F11 hmf3) hmp3) hmx3) hmy3) hmh3
        (try clear F11)
        (try clear F10)
        (try clear N10)
        simp only [Int.zero_add] at F12
        have hpre : ∀ p ∈ [(I3, oI3), (I2, oI2), (I1, oI1)], p.1 ≠ lp := fun p hp => by
          simp only [List.mem_cons, List.not_mem_nil, or_false] at hp
          rcases hp with rfl | rfl | rfl
          · exact Nat.ne_of_gt (hI3 lp (by simp))
          · exact Nat.ne_of_gt (hI2 lp (by simp))
          · exact Nat.ne_of_gt (hI1 lp (by simp))
        have hpost : ∀ p ∈ ([(lf, tb4 r nf), (r 0, rw4 v f ts ns 0), (r 1, rw4 v f ts ns 1), (r 2, rw4 v f ts ns 2), (r 3, rw4 v f ts ns 3), (lv, vt4 v a nv), (L + 1 + 1 + 1 + 1 + 1 + 1, k6), (L + 1 + 1 + 1 + 1 + 1, k5), (L + 1 + 1 + 1 + 1, k4), (L + 1 + 1 + 1, k3), (L + 1 + 1, k2), (L + 1, k1), (76, tabObj ps)] : List (Addr × Obj)), p.1 ≠ lp := fun p hp => by
          obtain ⟨q1, q2, q3, q4, q5, q6, q7, q8, q9, q10, q11, q12, q13⟩ := l1
          simp only [List.mem_cons, List.not_mem_nil, or_false] at hp
          rcases hp with rfl | rfl | rfl | rfl | rfl | rfl | rfl | rfl | rfl | rfl | rfl | rfl | rfl <;> (apply Nat.ne_of_lt; assumption)
        have hsz : pd.size + 1 ≤ sizeLine := by
          have h1 := hpd.1
          have h2 := x.isLt
          have h3 := y.isLt
          have h4 := z.isLt
          rw [sizeLine_eq]; omega
        have fin : ∀ {h' : Heap} {tk' : Nat} {m' : Str → Option Value} {pd' : Array Value} {np' : Nat}, Fr G L h' m' → News G L h' [(I3, oI3), (I2, oI2), (I1, oI1), (lp, listOf pd' np'), (lf, tb4 r nf), (r 0, rw4 v f ts ns 0), (r 1, rw4 v f ts ns 1), (r 2, rw4 v f ts ns 2), (r 3, rw4 v f ts ns 3), (lv, vt4 v a nv), (L + 1 + 1 + 1 + 1 + 1 + 1, k6), (L + 1 + 1 + 1 + 1 + 1, k5), (L + 1 + 1 + 1 + 1, k4), (L + 1 + 1 + 1, k3), (L + 1 + 1, k2), (L + 1, k1), (76, tabObj ps)] → PaidInv v f (16 * x.val + 4 * y.val + (z.val + 1)) pd' →
            m' (Str.ofString "fields") = some (.ref lf) → m' (Str.ofString "paid") = some (.ref lp) → m' (Str.ofString "first") = some (.int ((x.val : Nat) : Int) t1) → m' (Str.ofString "second") = some (.int ((y.val : Nat) : Int) t2) → m' (Str.ofString "honest") = some (.str (v (f x y)) (ts x y)) →
            XEnd G L (fun m₁ nx => m₁ (Str.ofString "fields") = some (.ref lf) ∧ m₁ (Str.ofString "paid") = some (.ref lp) ∧ m₁ (Str.ofString "first") = some (.int ((x.val : Nat) : Int) t1) ∧ m₁ (Str.ofString "second") = some (.int ((y.val : Nat) : Int) t2) ∧ m₁ (Str.ofString "honest") = some (.str (v (f x y)) (ts x y)) ∧ ∃ pd np, nx = [(I2, oI2), (I1, oI1), (lp, listOf pd np), (lf, tb4 r nf), (r 0, rw4 v f ts ns 0), (r 1, rw4 v f ts ns 1), (r 2, rw4 v f ts ns 2), (r 3, rw4 v f ts ns 3), (lv, vt4 v a nv), (L + 1 + 1 + 1 + 1 + 1 + 1, k6), (L + 1 + 1 + 1 + 1 + 1, k5), (L + 1 + 1 + 1 + 1, k4), (L + 1 + 1 + 1, k3), (L + 1 + 1, k2), (L + 1, k1), (76, tabObj ps)] ∧ PaidInv v f (16 * x.val + 4 * y.val + (z.val + 1)) pd) I3 oI3 (List.map (fun x => x.1) [(I2, oI2), (I1, oI1), (lp, listOf pd np), (lf, tb4 r nf), (r 0, rw4 v f ts ns 0), (r 1, rw4 v f ts ns 1), (r 2, rw4 v f ts ns 2), (r 3, rw4 v f ts ns 3), (lv, vt4 v a nv), (L + 1 + 1 + 1 + 1 + 1 + 1, k6), (L + 1 + 1 + 1 + 1 + 1, k5), (L + 1 + 1 + 1 + 1, k4), (L + 1 + 1 + 1, k3), (L + 1 + 1, k2), (L + 1, k1), (76, tabObj ps)]) { s with heap := h9, toks := tk9 } { s with heap := h', toks := tk' } :=
          fun F' N' hp h1 h2 h3 h4 h5 => ⟨_, _, _, _, rfl, F', N', rfl, h1, h2, h3, h4, h5, _, _, rfl, hp⟩
        k_steps
        · rename News _ _ _ _ => NN
          refine app_led (pre := [(I3, oI3), (I2, oI2), (I1, oI1)]) (by k_asm) (fun p hp => NN p (.tail _ hp)) hpre hpost (Nat.le_of_succ_le hsz) ?_
          intro h10 F13 N13
          simp only [List.cons_append, List.nil_append] at N13
          clear NN
          k_steps
          · rename News _ _ _ _ => NN
            refine app_led (pre := [(I3, oI3), (I2, oI2), (I1, oI1)]) (by k_asm) (fun p hp => NN p (.tail _ hp)) hpre hpost (by rw [Array.size_push]; exact hsz) ?_
            intro h11 F14 N14
            simp only [List.cons_append, List.nil_append] at N14
            clear NN
            k_steps
            unfold Halt
            exact fin (by k_asm) (by k_asm) (paid_yes (pd := pd) rfl hpd (by simp) push_ne (fun q => q.1 (by assumption))) rfl rfl rfl rfl rfl
          · unfold Halt
            exact fin (by k_asm) (by k_asm) (paid_yes (pd := pd) rfl hpd (by simp) push_ne (fun q => q.1 (by assumption))) rfl rfl rfl rfl rfl
        · rename News _ _ _ _ => NN
          refine app_led (pre := [(I3, oI3), (I2, oI2), (I1, oI1)]) (by k_asm) (fun p hp => NN p (.tail _ hp)) hpre hpost (Nat.le_of_succ_le hsz) ?_
          intro h10 F13 N13
          simp only [List.cons_append, List.nil_append] at N13
          clear NN
          k_steps
          unfold Halt
          exact fin (by k_asm) (by k_asm) (paid_yes (pd := pd) rfl hpd (by simp) push_ne (fun q => q.2 (by assumption))) rfl rfl rfl rfl rfl
        · unfold Halt
          exact fin (by k_asm) (by k_asm) (paid_no rfl hpd (by assumption) (by assumption)) rfl rfl rfl rfl rfl
      · rintro m₃ nx h tk ⟨hmf3, hmp3, hmx3, hmy3, hmh3, pd, np, rfl, hpd⟩ hadr3 F11 N11
        k_steps
        unfold Halt
        exact ⟨h, tk, m₃, _, rfl, F11, N11, rfl, hmf3, hmp3, hmx3, pd, np, rfl, hpd⟩
    · rintro m₂ nx h tk ⟨hmf2, hmp2, hmx2, pd, np, rfl, hpd⟩ hadr2 F7 N7
      k_steps
      unfold Halt
      exact ⟨h, tk, m₂, _, rfl, F7, N7, rfl, hmf2, hmp2, pd, np, rfl, hpd⟩
  · rintro m₁ nx h tk ⟨hmf, hmp, pd, np, rfl, hpd⟩ hadr F4 N4
    refine wpAny_execs_nil ?_
    refine hQ h tk m₁ lp pd np F4 hmf hmp N4 ?_ hpd
    intro b hb
    simp only [List.mem_cons, List.not_mem_nil, or_false] at hb
    obtain ⟨q1, q2, q3, q4, q5, q6, q7, q8, q9, q10, q11, q12, q13⟩ := l1
    rcases hb with rfl | rfl | rfl | rfl | rfl | rfl | rfl | rfl | rfl | rfl | rfl | rfl | rfl <;> assumption

end Mine

namespace Mine
open PySem PySem.W PyProof.Rows PySem.Calls PySem.Spec
/-- what two votes come to, told by the corners -/
def T4 (a b c d x y : Fin 4) : Fin 4 := md 1 [x, md 1 [y, a, b], md 1 [y, c, d]]
def tld (f : Fin 4 → Fin 4 → Fin 4) (x y : Fin 4) : Fin 4 := T4 (f 0 0) (f 0 3) (f 3 0) (f 3 3) x y

def mk4 (a b c d : Fin 4) (x : Fin 4) : Fin 4 := match x with
  | 0 => a
  | 1 => b
  | 2 => c
  | 3 => d
theorem mk4_eq (g : Fin 4 → Fin 4) : g = mk4 (g 0) (g 1) (g 2) (g 3) := by
  funext x
  match x with
  | 0 => rfl
  | 1 => rfl
  | 2 => rfl
  | 3 => rfl
theorem one_voter4 : ∀ a b c d : Fin 4, (∀ x y : Fin 4, ¬ (sg (mk4 a b c d x) x * sg (mk4 a b c d x) (mk4 a b c d y) = 1)) → ∀ x : Fin 4, mk4 a b c d x = md 1 [x, mk4 a b c d 0, mk4 a b c d 3] := by
  decide +kernel
theorem one_voter (g : Fin 4 → Fin 4) (h : ∀ x y : Fin 4, ¬ (sg (g x) x * sg (g x) (g y) = 1)) (x : Fin 4) : g x = md 1 [x, g 0, g 3] := by
  rw [mk4_eq g] at h ⊢
  exact one_voter4 _ _ _ _ h x
def Ok4 (a b c d : Fin 4) : Bool := decide (T4 a b c d 0 0 = a) && decide (T4 a b c d 0 3 = b) && decide (T4 a b c d 3 0 = c) && decide (T4 a b c d 3 3 = d)
theorem told_clean4 : ∀ a b c d : Fin 4, Ok4 a b c d = true → ∀ x y l : Fin 4,
    ¬ (sg (T4 a b c d x y) x * sg (T4 a b c d x y) (T4 a b c d l y) = 1) ∧ ¬ (sg (T4 a b c d x y) y * sg (T4 a b c d x y) (T4 a b c d x l) = 1) := by
  decide +kernel

theorem np_iff {v : Fin 4 → Str} (h : Up v) (f : Fin 4 → Fin 4 → Fin 4) (x y l : Fin 4) : np v f x y l ↔ ¬ (sg (f x y) x * sg (f x y) (f l y) = 1) ∧ ¬ (sg (f x y) y * sg (f x y) (f x l) = 1) := by
  unfold np
  rw [h.sgn, h.sgn, h.sgn, h.sgn]
theorem ok_of {f : Fin 4 → Fin 4 → Fin 4} (h : ∀ x y, tld f x y = f x y) : Ok4 (f 0 0) (f 0 3) (f 3 0) (f 3 3) = true := by
  have h1 := h 0 0
  have h2 := h 0 3
  have h3 := h 3 0
  have h4 := h 3 3
  unfold tld at h1 h2 h3 h4
  simp [Ok4, h1, h2, h3, h4]
/-- no lie pays if and only if the corners tell it all -/
theorem clean_iff {v : Fin 4 → Str} (h : Up v) (f : Fin 4 → Fin 4 → Fin 4) : Clean v f 64 ↔ ∀ x y, tld f x y = f x y := by
  constructor
  · intro c
    have c' : ∀ x y l, ¬ (sg (f x y) x * sg (f x y) (f l y) = 1) ∧ ¬ (sg (f x y) y * sg (f x y) (f x l) = 1) := fun x y l => (np_iff h f x y l).mp (c x y l (by omega))
    intro x y
    have e1 := one_voter (fun t => f t y) (fun a b => (c' a y b).1) x
    have e2 := one_voter (f 0) (fun a b => (c' 0 a b).2) y
    have e3 := one_voter (f 3) (fun a b => (c' 3 a b).2) y
    show md 1 [x, md 1 [y, f 0 0, f 0 3], md 1 [y, f 3 0, f 3 3]] = f x y
    rw [← e2, ← e3]
    exact e1.symm
  · intro c x y l _
    rw [np_iff h]
    have q := told_clean4 _ _ _ _ (ok_of c) x y l
    have e : ∀ a b, T4 (f 0 0) (f 0 3) (f 3 0) (f 3 3) a b = f a b := c
    rw [e, e, e] at q
    exact q
theorem five4 : ∀ a b c d : Fin 4, Ok4 a b c d = true → ∀ x y : Fin 4,
    (if sg (T4 a b c d x y) (T4 a b c d y x) = 1 then
      md 0 [T4 a b c d x y, T4 a b c d y x] = T4 a b c d y x ∧ md 1 [T4 a b c d x y, T4 a b c d y x] = T4 a b c d x y ∧ md 2 [x, y, a, d, md 1 [a, b, c, d]] = T4 a b c d y x ∧ md 2 [x, y, a, d, md 2 [a, b, c, d]] = T4 a b c d x y
    else md 0 [T4 a b c d y x, T4 a b c d x y] = T4 a b c d x y ∧ md 1 [T4 a b c d y x, T4 a b c d x y] = T4 a b c d y x ∧ md 2 [x, y, a, d, md 1 [a, b, c, d]] = T4 a b c d x y ∧ md 2 [x, y, a, d, md 2 [a, b, c, d]] = T4 a b c d y x) := by
  decide +kernel
end Mine

namespace Mine
open PySem PySem.W PyProof.Rows PySem.Calls PySem.Spec
section
variable {v : Fin 4 → Str} {f : Fin 4 → Fin 4 → Fin 4} {x y : Fin 4} {z0 z1 z2 z3 : Str}
/-- where the first outcome stands above the second -/
theorem five_yes (hup : Up v) (htl : ∀ x y, tld f x y = f x y) (h : sgnS (v (f x y)) (v (f y x)) = 1) (h0 : Med 0 [v (f x y), v (f y x)] z0) (h1 : Med 1 [v (f x y), v (f y x)] z1)
    (h2 : Med 2 [v x, v y, v (f 0 0), v (f 3 3), v (md 1 [f 0 0, f 0 3, f 3 0, f 3 3])] z2) (h3 : Med 2 [v x, v y, v (f 0 0), v (f 3 3), v (md 2 [f 0 0, f 0 3, f 3 0, f 3 3])] z3) :
    z0 = v (f y x) ∧ z1 = v (f x y) ∧ z2 = v (f y x) ∧ z3 = v (f x y) := by
  have e : ∀ a b, T4 (f 0 0) (f 0 3) (f 3 0) (f 3 3) a b = f a b := htl
  have five := five4 (f 0 0) (f 0 3) (f 3 0) (f 3 3) (ok_of htl) x y
  simp only [e] at five
  rw [hup.sgn] at h
  rw [if_pos h] at five
  rw [med_v hup (i := 0) (is := [f x y, f y x]) h0, med_v hup (i := 1) (is := [f x y, f y x]) h1, med_v hup (i := 2) (is := [x, y, f 0 0, f 3 3, md 1 [f 0 0, f 0 3, f 3 0, f 3 3]]) h2, med_v hup (i := 2) (is := [x, y, f 0 0, f 3 3, md 2 [f 0 0, f 0 3, f 3 0, f 3 3]]) h3]
  rw [five.1, five.2.1, five.2.2.1, five.2.2.2]
  exact ⟨rfl, rfl, rfl, rfl⟩
theorem five_no (hup : Up v) (htl : ∀ x y, tld f x y = f x y) (h : sgnS (v (f x y)) (v (f y x)) ≠ 1) (h0 : Med 0 [v (f y x), v (f x y)] z0) (h1 : Med 1 [v (f y x), v (f x y)] z1)
    (h2 : Med 2 [v x, v y, v (f 0 0), v (f 3 3), v (md 1 [f 0 0, f 0 3, f 3 0, f 3 3])] z2) (h3 : Med 2 [v x, v y, v (f 0 0), v (f 3 3), v (md 2 [f 0 0, f 0 3, f 3 0, f 3 3])] z3) :
    z0 = v (f x y) ∧ z1 = v (f y x) ∧ z2 = v (f x y) ∧ z3 = v (f y x) := by
  have e : ∀ a b, T4 (f 0 0) (f 0 3) (f 3 0) (f 3 3) a b = f a b := htl
  have five := five4 (f 0 0) (f 0 3) (f 3 0) (f 3 3) (ok_of htl) x y
  simp only [e] at five
  rw [hup.sgn] at h
  rw [if_neg h] at five
  rw [med_v hup (i := 0) (is := [f y x, f x y]) h0, med_v hup (i := 1) (is := [f y x, f x y]) h1, med_v hup (i := 2) (is := [x, y, f 0 0, f 3 3, md 1 [f 0 0, f 0 3, f 3 0, f 3 3]]) h2, med_v hup (i := 2) (is := [x, y, f 0 0, f 3 3, md 2 [f 0 0, f 0 3, f 3 0, f 3 3]]) h3]
  rw [five.1, five.2.1, five.2.2.1, five.2.2.2]
  exact ⟨rfl, rfl, rfl, rfl⟩
end
end Mine

namespace Mine
open PySem PyProof.Rows.LCg PyProof.Rows.LCt PySem.W PyProof.Rows PySem.Calls PySem.Spec
theorem w_off_S18 : True := by
  w_top off
  exact trivial

local macro_rules | `(tactic| walk_at "subscriptTail Name Constant ref int") => `(tactic| (k_here; (with_reducible show wpAny _ _ (subscriptTail _ _ (Value.ref _) (Value.int _ _)) _ _ _); k_dflt ((first | refine' sub_tab 0 ?kN ?m0 (by rfl) ?_ ?ks ?kg | refine' sub_tab 3 ?kN ?m0 (by rfl) ?_ ?ks ?kg); (case kN => k_asm); (case m0 => k_mem); (case ks => with_unfolding_all rfl); (case kg => intro _; with_unfolding_all rfl); k_whole)))
local macro_rules | `(tactic| walk_at "subscriptTail Subscript") => `(tactic| (k_here; (with_reducible show wpAny _ _ (subscriptTail _ _ (Value.ref _) (Value.int _ _)) _ _ _); k_dflt ((first | refine' sub_rowT 0 ?kN ?m0 ?m1 ?m2 ?m3 (by rfl) ?_ ?ks | refine' sub_rowT 3 ?kN ?m0 ?m1 ?m2 ?m3 (by rfl) ?_ ?ks); (case kN => k_asm); (case m0 => k_mem); (case m1 => k_mem); (case m2 => k_mem); (case m3 => k_mem); (case ks => with_unfolding_all rfl); k_whole)))
theorem seg18 : ∀ {w : World} {p : Program} {loose : List Str} {mean : ExcName → Option Value} {mg mb : Str → Option Value} {G : Heap} {L fa : Addr} {m : Str → Option Value} {s : Shared} {Q : Flow → Shared → Prop} {v : Fin 4 → Str} {f : Fin 4 → Fin 4 → Fin 4} {ts : Fin 4 → Fin 4 → Tok} {ns : Fin 4 → Nat} {r : Fin 4 → Addr} {a : Fin 4 → Tok} {lv lf lp : Addr} {nv nf np : Nat} {pd : Array Value} {k1 k2 k3 k4 k5 k6 : Obj} {ps : Array Value}
    (B : Below callerA G [] G) (X : (hd.heap_39 w.params).In G) (T : Top p loose mean mg mb G) (hC : CodeHd G 78 76) (F : Fr G L s.heap (fun y => if y = Str.ofString "fields" then some (.ref lf) else m y)) (N : News G L s.heap [(lp, listOf pd np), (lf, tb4 r nf), (r 0, rw4 v f ts ns 0), (r 1, rw4 v f ts ns 1), (r 2, rw4 v f ts ns 2), (r 3, rw4 v f ts ns 3), (lv, vt4 v a nv), (L + 1 + 1 + 1 + 1 + 1 + 1, k6), (L + 1 + 1 + 1 + 1 + 1, k5), (L + 1 + 1 + 1 + 1, k4), (L + 1 + 1 + 1, k3), (L + 1 + 1, k2), (L + 1, k1), (76, tabObj ps)])
    (d4 : k4.data = .cell (some (.ref lv))) (d6 : k6.data = .cell none) (hmp : m (Str.ofString "paid") = some (.ref lp)) (l0 : @LT.lt Nat _ 76 L) (h6 : ∀ b ∈ [lp, lf, r 0, r 1, r 2, r 3, lv], @Ne Nat b (L + 1 + 1 + 1 + 1 + 1 + 1))
    (hQ : ∀ h tk lq q0 q1 k6, Fr G L h (fun y => if y = Str.ofString "fields" then some (.ref lf) else m y) → News G L h [(lq, listOf #[.ref q0, .ref q1] 0), (q1, listOf #[.str (v (f 3 0)) (ts 3 0), .str (v (f 3 3)) (ts 3 3)] 0), (q0, listOf #[.str (v (f 0 0)) (ts 0 0), .str (v (f 0 3)) (ts 0 3)] 0), (lp, listOf pd np), (lf, tb4 r nf), (r 0, rw4 v f ts ns 0), (r 1, rw4 v f ts ns 1), (r 2, rw4 v f ts ns 2), (r 3, rw4 v f ts ns 3), (lv, vt4 v a nv), (L + 1 + 1 + 1 + 1 + 1 + 1, k6), (L + 1 + 1 + 1 + 1 + 1, k5), (L + 1 + 1 + 1 + 1, k4), (L + 1 + 1 + 1, k3), (L + 1 + 1, k2), (L + 1, k1), (76, tabObj ps)] → k6.data = .cell (some (.ref lq)) → Q .next { s with heap := h, toks := tk }),
    wpAny (model PySem.Challenge.rw_rs0028_01.row.prog w) (callerA.deeper (envOfC (Str.ofString "law") lawScope L fa (.ref 78))) (execs ((lawBody.drop 18).take 1) (envOfC (Str.ofString "law") lawScope L fa (.ref 78))) Q (fun _ _ => False) s := by
  k_fill
  dsimp only [lawScope, lawBody, lawDef, PySem.Challenge.pw_rs0028_01, List.drop_succ_cons, List.drop_zero, List.take_succ_cons, List.take_zero]

  intro w p loose mean mg mb G L fa m s Q v f ts ns r a lv lf lp nv nf np pd k1 k2 k3 k4 k5 k6 ps B X T hC F N d4 d6 hmp l0 h6 hQ
  have e1 := h6 lp (by simp)
  have e2 := h6 lf (by simp)
  have e3 := h6 (r 0) (by simp)
  have e4 := h6 (r 1) (by simp)
  have e5 := h6 (r 2) (by simp)
  have e6 := h6 (r 3) (by simp)
  have e7 := h6 lv (by simp)
  clear hC
  k_steps
  refine wpAny_execs_nil ?_
  exact hQ _ _ _ _ _ _ (by k_asm) (by k_asm) (by k_asm)
end Mine

namespace Mine
open PySem PyProof.Rows.LCg PyProof.Rows.LCt PySem.W PyProof.Rows PySem.Calls PySem.Spec
theorem w_off_S19 : True := by
  w_top off
  exact trivial
local macro_rules | `(tactic| walk_at "eval ListComp") => `(tactic| refine halt_in ?_)
local macro_rules | `(tactic| walk_at "exec Assign cons ListComp") => `(tactic| refine halt_in ?_)
local macro_rules | `(tactic| walk_at "CompSrc") => `(tactic| refine halt_in ?_)
local macro_rules | `(tactic| walk_at "CompEnd") => `(tactic| refine halt_in ?_)
local macro_rules | `(tactic| walk_at "call ref") => `(tactic| refine halt_in ?_)

/-- a row told by the corners -/
def TRow (v : Fin 4 → Str) (f : Fin 4 → Fin 4 → Fin 4) (x : Fin 4) (o : Obj) : Prop := ∃ (us : Fin 4 → Tok) (n : Nat), o = listOf #[.str (v (tld f x 0)) (us 0), .str (v (tld f x 1)) (us 1), .str (v (tld f x 2)) (us 2), .str (v (tld f x 3)) (us 3)] n
def TInv (v : Fin 4 → Str) (f : Fin 4 → Fin 4 → Fin 4) (x : Fin 4) (i : Nat) (ys : List Value) : Prop := ys.length = i ∧ ∀ (y : Fin 4) z, ys[y.val]? = some z → ∃ t, z = .str (v (tld f x y)) t
theorem TInv.snoc {v : Fin 4 → Str} {f : Fin 4 → Fin 4 → Fin 4} {x y : Fin 4} {ys : List Value} (h : TInv v f x y.val ys) (t : Tok) : TInv v f x (y.val + 1) (ys ++ [.str (v (tld f x y)) t]) :=
  ⟨by rw [List.length_append, List.length_singleton, h.1], fun y2 z hz => by
    rcases Nat.lt_trichotomy y2.val y.val with q | q | q
    · rw [List.getElem?_append_left (by rw [h.1]; exact q)] at hz; exact h.2 y2 z hz
    · have e : y2 = y := Fin.ext q
      subst e
      rw [List.getElem?_append_right (by rw [h.1]; exact Nat.le_refl _), h.1, Nat.sub_self] at hz
      exact ⟨t, (Option.some.inj hz).symm⟩
    · rw [List.getElem?_append_right (by rw [h.1]; exact Nat.le_of_lt q), h.1] at hz
      have : y2.val - y.val ≠ 0 := by omega
      obtain ⟨k, hk⟩ : ∃ k, y2.val - y.val = k + 1 := ⟨y2.val - y.val - 1, by omega⟩
      rw [hk] at hz; simp at hz⟩
theorem TInv.row {v : Fin 4 → Str} {f : Fin 4 → Fin 4 → Fin 4} {x : Fin 4} {ys : List Value} (h : TInv v f x 4 ys) : TRow v f x (LCg.lst ys) := by
  obtain ⟨hl, hy⟩ := h
  match ys, hl, hy with
  | [y0, y1, y2, y3], _, hy =>
    obtain ⟨t0, rfl⟩ := hy 0 y0 rfl
    obtain ⟨t1, rfl⟩ := hy 1 y1 rfl
    obtain ⟨t2, rfl⟩ := hy 2 y2 rfl
    obtain ⟨t3, rfl⟩ := hy 3 y3 rfl
    exact ⟨fun i => match i with | 0 => t0 | 1 => t1 | 2 => t2 | 3 => t3, 4, rfl⟩
/-- the told rows made so far, the newest first -/
def TRows (v : Fin 4 → Str) (f : Fin 4 → Fin 4 → Fin 4) (led : List (Addr × Obj)) (i : Nat) (ys : List Value) (nw : List (Addr × Obj)) : Prop :=
  ∃ rows : List (Addr × Obj), nw = rows ++ led ∧ ys = (rows.map (fun p => Value.ref p.1)).reverse ∧ rows.length = i ∧ ∀ (x : Fin 4) p, rows.reverse[x.val]? = some p → TRow v f x p.2
theorem vt4_get {v : Fin 4 → Str} {a : Fin 4 → Tok} {i : Nat} {z : Value} (h : (#[Value.str (v 0) (a 0), .str (v 1) (a 1), .str (v 2) (a 2), .str (v 3) (a 3)] : Array Value)[i]? = some z) : ∃ x : Fin 4, i = x.val ∧ z = .str (v x) (a x) := by
  match i, h with
  | 0, h => exact ⟨0, rfl, (Option.some.inj h).symm⟩
  | 1, h => exact ⟨1, rfl, (Option.some.inj h).symm⟩
  | 2, h => exact ⟨2, rfl, (Option.some.inj h).symm⟩
  | 3, h => exact ⟨3, rfl, (Option.some.inj h).symm⟩
  | k + 4, h => simp at h
theorem told_v {v : Fin 4 → Str} (h : Up v) {f : Fin 4 → Fin 4 → Fin 4} {x y : Fin 4} {lo up z : Str} (h1 : Med 1 [v y, v (f 0 0), v (f 0 3)] lo) (h2 : Med 1 [v y, v (f 3 0), v (f 3 3)] up) (h3 : Med 1 [v x, lo, up] z) : z = v (tld f x y) := by
  have e1 := med_v h (is := [y, f 0 0, f 0 3]) h1
  have e2 := med_v h (is := [y, f 3 0, f 3 3]) h2
  subst e1 e2
  exact med_v h (is := [x, _, _]) h3

theorem seg19 : ∀ {w : World} {p : Program} {loose : List Str} {mean : ExcName → Option Value} {mg mb : Str → Option Value} {G : Heap} {L fa : Addr} {m : Str → Option Value} {s : Shared} {Q : Flow → Shared → Prop} {v : Fin 4 → Str} {f : Fin 4 → Fin 4 → Fin 4} {ts : Fin 4 → Fin 4 → Tok} {ns : Fin 4 → Nat} {r : Fin 4 → Addr} {a : Fin 4 → Tok} {lv lf lp lq q0 q1 : Addr} {nv nf np : Nat} {pd : Array Value} {k1 k2 k3 k4 k5 k6 : Obj} {ps : Array Value}
    (B : Below callerA G [] G) (X : (hd.heap_39 w.params).In G) (T : Top p loose mean mg mb G) (hC : CodeHd G 78 76) (F : Fr G L s.heap m) (N : News G L s.heap [(lq, listOf #[.ref q0, .ref q1] 0), (q1, listOf #[.str (v (f 3 0)) (ts 3 0), .str (v (f 3 3)) (ts 3 3)] 0), (q0, listOf #[.str (v (f 0 0)) (ts 0 0), .str (v (f 0 3)) (ts 0 3)] 0), (lp, listOf pd np), (lf, tb4 r nf), (r 0, rw4 v f ts ns 0), (r 1, rw4 v f ts ns 1), (r 2, rw4 v f ts ns 2), (r 3, rw4 v f ts ns 3), (lv, vt4 v a nv), (L + 1 + 1 + 1 + 1 + 1 + 1, k6), (L + 1 + 1 + 1 + 1 + 1, k5), (L + 1 + 1 + 1 + 1, k4), (L + 1 + 1 + 1, k3), (L + 1 + 1, k2), (L + 1, k1), (76, tabObj ps)])
    (hup : Up v) (d4 : k4.data = .cell (some (.ref lv))) (d6 : k6.data = .cell (some (.ref lq)))
    (hQ : ∀ D h tk ys nw, Fr G L h (fun z => if z = Str.ofString "told" then some (.ref D) else m z) → News G L h ((D, LCg.lst ys) :: nw) → TRows v f [(lq, listOf #[.ref q0, .ref q1] 0), (q1, listOf #[.str (v (f 3 0)) (ts 3 0), .str (v (f 3 3)) (ts 3 3)] 0), (q0, listOf #[.str (v (f 0 0)) (ts 0 0), .str (v (f 0 3)) (ts 0 3)] 0), (lp, listOf pd np), (lf, tb4 r nf), (r 0, rw4 v f ts ns 0), (r 1, rw4 v f ts ns 1), (r 2, rw4 v f ts ns 2), (r 3, rw4 v f ts ns 3), (lv, vt4 v a nv), (L + 1 + 1 + 1 + 1 + 1 + 1, k6), (L + 1 + 1 + 1 + 1 + 1, k5), (L + 1 + 1 + 1 + 1, k4), (L + 1 + 1 + 1, k3), (L + 1 + 1, k2), (L + 1, k1), (76, tabObj ps)] 4 ys nw → Q .next { s with heap := h, toks := tk }),
    wpAny (model PySem.Challenge.rw_rs0028_01.row.prog w) (callerA.deeper (envOfC (Str.ofString "law") lawScope L fa (.ref 78))) (execs ((lawBody.drop 19).take 1) (envOfC (Str.ofString "law") lawScope L fa (.ref 78))) Q (fun _ _ => False) s := by
  k_fill
  dsimp only [lawScope, lawBody, lawDef, PySem.Challenge.pw_rs0028_01, List.drop_succ_cons, List.drop_zero, List.take_succ_cons, List.take_zero]

  intro w p loose mean mg mb G L fa m s Q v f ts ns r a lv lf lp lq q0 q1 nv nf np pd k1 k2 k3 k4 k5 k6 ps B X T hC F N hup d4 d6 hQ
  clear hC
  k_steps
  unfold Halt
  k_dflt (refine assign_cell (F₀ := by k_asm) (by rfl) (by with_unfolding_all rfl) (by with_unfolding_all rfl) (by intro; with_unfolding_all rfl) (by intro; with_unfolding_all rfl) (by rfl) (by decide) (by intros; with_unfolding_all rfl) (by rfl) (by rfl) ?_)
  k_steps
  refine .inl ⟨lv, #[.str (v 0) (a 0), .str (v 1) (a 1), .str (v 2) (a 2), .str (v 3) (a 3)], [(lq, listOf #[.ref q0, .ref q1] 0), (q1, listOf #[.str (v (f 3 0)) (ts 3 0), .str (v (f 3 3)) (ts 3 3)] 0), (q0, listOf #[.str (v (f 0 0)) (ts 0 0), .str (v (f 0 3)) (ts 0 3)] 0), (lp, listOf pd np), (lf, tb4 r nf), (r 0, rw4 v f ts ns 0), (r 1, rw4 v f ts ns 1), (r 2, rw4 v f ts ns 2), (r 3, rw4 v f ts ns 3), (lv, vt4 v a nv), (L + 1 + 1 + 1 + 1 + 1 + 1, k6), (L + 1 + 1 + 1 + 1 + 1, k5), (L + 1 + 1 + 1 + 1, k4), (L + 1 + 1 + 1, k3), (L + 1 + 1, k2), (L + 1, k1), (76, tabObj ps)], TRows v f [(lq, listOf #[.ref q0, .ref q1] 0), (q1, listOf #[.str (v (f 3 0)) (ts 3 0), .str (v (f 3 3)) (ts 3 3)] 0), (q0, listOf #[.str (v (f 0 0)) (ts 0 0), .str (v (f 0 3)) (ts 0 3)] 0), (lp, listOf pd np), (lf, tb4 r nf), (r 0, rw4 v f ts ns 0), (r 1, rw4 v f ts ns 1), (r 2, rw4 v f ts ns 2), (r 3, rw4 v f ts ns 3), (lv, vt4 v a nv), (L + 1 + 1 + 1 + 1 + 1 + 1, k6), (L + 1 + 1 + 1 + 1 + 1, k5), (L + 1 + 1 + 1 + 1, k4), (L + 1 + 1 + 1, k3), (L + 1 + 1, k2), (L + 1, k1), (76, tabObj ps)], rfl, rfl, by k_asm, by k_asm, by exact Nat.le_of_ble_eq_true rfl, ?_, ⟨[], rfl, rfl, rfl, fun _ _ h => (nomatch h)⟩, fun i ys nw ⟨rows, _, e, hl, _⟩ => by rw [e, List.length_reverse, List.length_map, hl], fun g => ⟨?_, ?_⟩⟩
  · rintro i ys nw ⟨rows, rfl, _⟩
    exact .inr ⟨vt4 v a nv, List.mem_append_right _ (by k_mem), rfl, _, rfl⟩
  · rintro i ys nw vv I oI C oC K oK D h tk E' hi hv ⟨rows, rfl, hys, hl, hrow⟩ hK F N off ne
    obtain ⟨x, rfl, rfl⟩ := vt4_get hv
    have N2 := news_rot N
    clear N
    simp only [List.cons_append, List.nil_append] at N2
    k_steps
    unfold Halt
    k_dflt (refine LCg.ListComp_U (F₀ := by k_asm) (by with_unfolding_all rfl) (by decide) (by rfl) (by decide) (by rfl) ?_)
    k_steps
    unfold Halt
    refine LCg.CompSrc.ledger (by rfl) (by k_asm) (by k_asm) (by k_mem) (by exact Nat.le_of_ble_eq_true rfl) ?_
    intro g
    refine rest_ind (TInv v f x) 4 ⟨rfl, fun _ _ h => (nomatch h)⟩ ?_ ?_
    · rintro i2 ys2 hi2 hys2 v2 I2 oI2 C2 oC2 D2 m2 h2 tk2 E2 hv2 hC2 hx2 F2 N22 off2 ne2
      obtain ⟨y, rfl, rfl⟩ := vt4_get hv2
      have off20 := off2
      simp only [LCg.Off3, and_true] at off2
      k_steps
      unfold Halt
      k_here
      k_dflt (refine told_m (by k_asm) (by k_asm) (by k_asm) (by k_asm) (by k_asm) (by first | rfl | assumption) (by ktr_room) (by ktr_units) (by k_mem) (by k_mem) (by k_mem) ?_)
      intro z9 lo9 up9 t9 h9 tk9 e91 e92 e93 F9 N9
      (try dsimp only)
      (try k_fold)
      k_steps
      unfold Halt
      have ez := told_v hup (x := x) (y := y) (f := f) (by assumption) (by assumption) (by assumption)
      subst ez
      refine CompEnd.intro (by k_asm) (by k_asm) _ (fun p hp => hp) off20 (Or.inr ⟨_, by k_mem, rfl, _, rfl⟩) ⟨rfl, TInv.snoc hys2 _⟩
    · intro ys2 hys2
      unfold LCg.FinE
      intro D2 h2 tk2 F2 N22 o2
      have o3 := off1_mem o2
      refine ⟨h2, tk2, _, rfl, F2, fun p hp => N22 p (mem_rot hp), ?_, ⟨(D2, LCg.lst ys2) :: rows, rfl, ?_, ?_, ?_⟩⟩
      · intro p hp
        rcases List.mem_cons.mp hp with rfl | hp
        · exact ⟨Ne.symm (o3 (I, oI) (by simp)), Ne.symm (o3 (C, oC) (by simp)), Ne.symm (o3 (K, oK) (by simp)), Ne.symm (o3 (D, LCg.lst ys) (by simp))⟩
        · exact off p hp
      · rw [hys, List.map_cons, List.reverse_cons]
      · rw [List.length_cons, hl]
      · intro x2 p2 hp2
        rw [List.reverse_cons] at hp2
        have hlr : rows.reverse.length = x.val := by rw [List.length_reverse, hl]
        rcases Nat.lt_trichotomy x2.val x.val with q | q | q
        · rw [List.getElem?_append_left (by rw [hlr]; exact q)] at hp2; exact hrow x2 p2 hp2
        · have e : x2 = x := Fin.ext q
          subst e
          rw [List.getElem?_append_right (by rw [hlr]; exact Nat.le_refl _), hlr, Nat.sub_self] at hp2
          rw [← Option.some.inj hp2]
          exact TInv.row hys2
        · rw [List.getElem?_append_right (by rw [hlr]; exact Nat.le_of_lt q), hlr] at hp2
          obtain ⟨k, hk⟩ : ∃ k, x2.val - x.val = k + 1 := ⟨x2.val - x.val - 1, by omega⟩
          rw [hk] at hp2; simp at hp2
  · intro D h tk ys nw F' N' o1 hR
    refine wpAny_execs_nil ?_
    exact hQ D h tk ys nw F' N' hR
end Mine

namespace Mine
open PySem PyProof.Rows.LCg PyProof.Rows.LCt PySem.W PyProof.Rows PySem.Calls PySem.Spec
theorem w_off_S20 : True := by
  w_top off
  exact trivial
local macro_rules | `(tactic| walk_at "compareOp Eq ref ref") => `(tactic| refine halt_in ?_)
local macro_rules | `(tactic| walk_at "compareOp NotEq ref ref") => `(tactic| refine halt_in ?_)

theorem seg20 : ∀ {w : World} {p : Program} {loose : List Str} {mean : ExcName → Option Value} {mg mb : Str → Option Value} {G : Heap} {L fa : Addr} {m : Str → Option Value} {s : Shared} {Q : Flow → Shared → Prop} {v : Fin 4 → Str} {f : Fin 4 → Fin 4 → Fin 4} {ts us : Fin 4 → Fin 4 → Tok} {ns ms : Fin 4 → Nat} {r e : Fin 4 → Addr} {a : Fin 4 → Tok} {lv lf lp lq q0 q1 lt : Addr} {nv nf np nt : Nat} {pd : Array Value} {k1 k2 k3 k4 k5 k6 : Obj} {ps : Array Value}
    (B : Below callerA G [] G) (X : (hd.heap_39 w.params).In G) (T : Top p loose mean mg mb G) (hC : CodeHd G 78 76) (F : Fr G L s.heap (fun y => if y = Str.ofString "told" then some (.ref lt) else if y = Str.ofString "fields" then some (.ref lf) else if y = Str.ofString "paid" then some (.ref lp) else m y)) (N : News G L s.heap [(lt, tb4 e nt), (e 0, rw4 v (tld f) us ms 0), (e 1, rw4 v (tld f) us ms 1), (e 2, rw4 v (tld f) us ms 2), (e 3, rw4 v (tld f) us ms 3), (lq, listOf #[.ref q0, .ref q1] 0), (q1, listOf #[.str (v (f 3 0)) (ts 3 0), .str (v (f 3 3)) (ts 3 3)] 0), (q0, listOf #[.str (v (f 0 0)) (ts 0 0), .str (v (f 0 3)) (ts 0 3)] 0), (lp, listOf pd np), (lf, tb4 r nf), (r 0, rw4 v f ts ns 0), (r 1, rw4 v f ts ns 1), (r 2, rw4 v f ts ns 2), (r 3, rw4 v f ts ns 3), (lv, vt4 v a nv), (L + 1 + 1 + 1 + 1 + 1 + 1, k6), (L + 1 + 1 + 1 + 1 + 1, k5), (L + 1 + 1 + 1 + 1, k4), (L + 1 + 1 + 1, k3), (L + 1 + 1, k2), (L + 1, k1), (76, tabObj ps)])
    (hup : Up v) (hok : ∀ k, PyData.strOk (v k) = true) (hpd : PaidInv v f 64 pd) (hq1 : ∀ h tk m', Fr G L h m' → h.get? 76 = some (tabObj ps) → Q (.ret (.bool true)) { s with heap := h, toks := tk })
    (hQ : ∀ h tk, (∀ x y, tld f x y = f x y) → Fr G L h (fun y => if y = Str.ofString "told" then some (.ref lt) else if y = Str.ofString "fields" then some (.ref lf) else if y = Str.ofString "paid" then some (.ref lp) else m y) → News G L h [(lq, listOf #[.ref q0, .ref q1] 0), (q1, listOf #[.str (v (f 3 0)) (ts 3 0), .str (v (f 3 3)) (ts 3 3)] 0), (q0, listOf #[.str (v (f 0 0)) (ts 0 0), .str (v (f 0 3)) (ts 0 3)] 0), (lf, tb4 r nf), (r 0, rw4 v f ts ns 0), (r 1, rw4 v f ts ns 1), (r 2, rw4 v f ts ns 2), (r 3, rw4 v f ts ns 3), (lv, vt4 v a nv), (L + 1 + 1 + 1 + 1 + 1 + 1, k6), (L + 1 + 1 + 1 + 1 + 1, k5), (L + 1 + 1 + 1 + 1, k4), (L + 1 + 1 + 1, k3), (L + 1 + 1, k2), (L + 1, k1), (76, tabObj ps)] → Q .next { s with heap := h, toks := tk }),
    wpAny (model PySem.Challenge.rw_rs0028_01.row.prog w) (callerA.deeper (envOfC (Str.ofString "law") lawScope L fa (.ref 78))) (execs ((lawBody.drop 20).take 2) (envOfC (Str.ofString "law") lawScope L fa (.ref 78))) Q (fun _ _ => False) s := by
  k_fill
  dsimp only [lawScope, lawBody, lawDef, PySem.Challenge.pw_rs0028_01, List.drop_succ_cons, List.drop_zero, List.take_succ_cons, List.take_zero]

  intro w p loose mean mg mb G L fa m s Q v f ts us ns ms r e a lv lf lp lq q0 q1 lt nv nf np nt pd k1 k2 k3 k4 k5 k6 ps B X T hC F N hup hok hpd hq1 hQ
  have key : pd = #[] ↔ ∀ x y, v (tld f x y) = v (f x y) := by
    rw [hpd.2, clean_iff hup]
    exact ⟨fun h x y => by rw [h], fun h x y => hup.inj (h x y)⟩
  by_cases hpe : pd = #[]
  · have ht := key.mp hpe
    have ht2 : ∀ x y, tld f x y = f x y := fun x y => hup.inj (ht x y)
    subst hpe
    k_steps
    unfold Halt
    refine eq_empty (News.isList (by k_asm) (by k_mem)) (News.isList (by k_asm) (by k_mem)) (by k_units) ?_
    k_steps
    unfold Halt
    refine eq_tabs hok (by k_asm) (by k_mem) (by k_mem) (by k_mem) (by k_mem) (by k_mem) (by k_mem) (by k_mem) (by k_mem) (by k_mem) (by k_mem) (by ke_room) true ⟨fun _ => ht, fun _ => rfl⟩ ?_
    k_steps
    unfold Halt
    refine ne_empty (News.isList (by k_asm) (by k_mem)) (News.isList (by k_asm) (by k_mem)) (by k_units) ?_
    k_steps
    refine wpAny_execs_nil ?_
    exact hQ _ _ ht2 (by k_asm) (cb_drop (by k_asm) (by kcj_all))
  · have hne : (pd.size != (#[] : Array Value).size) = true := by
      have h0 : pd.size ≠ 0 := fun h => hpe (Array.eq_empty_of_size_eq_zero h)
      simp [h0]
    k_steps
    unfold Halt
    refine PySem.SeqAt.eq_list_lengthsAt (News.isList (by k_asm) (by k_mem)) (News.isList (by k_asm) (by k_mem)) hne (by k_units) ?_
    k_steps
    unfold Halt
    refine eq_tabs hok (by k_asm) (by k_mem) (by k_mem) (by k_mem) (by k_mem) (by k_mem) (by k_mem) (by k_mem) (by k_mem) (by k_mem) (by k_mem) (by ke_room) false ⟨fun h => (nomatch h), fun h => absurd (key.mpr h) hpe⟩ ?_
    k_steps
    unfold Halt
    refine ne_list_len (News.isList (by k_asm) (by k_mem)) (News.isList (by k_asm) (by k_mem)) hne (by k_units) ?_
    k_steps
    exact hq1 _ _ _ (by k_asm) (News.get (by k_asm) (by k_mem))
end Mine

namespace Mine
open PySem PyProof.Rows.LCg PyProof.Rows.LCt PySem.W PyProof.Rows PySem.Calls PySem.Spec
theorem w_off_S22 : True := by
  w_top off
  exact trivial
local macro_rules | `(tactic| walk_at "ours 0") => `(tactic| skip)
local macro_rules | `(tactic| walk_at "compareOp NotEq ref ref") => `(tactic| refine halt_in ?_)
local macro_rules | `(tactic| walk_at "call ref") => `(tactic| refine halt_in ?_)

theorem seg22 : ∀ {w : World} {p : Program} {loose : List Str} {mean : ExcName → Option Value} {mg mb : Str → Option Value} {G : Heap} {L fa : Addr} {m : Str → Option Value} {s : Shared} {Q : Flow → Shared → Prop} {v : Fin 4 → Str} {f : Fin 4 → Fin 4 → Fin 4} {ts : Fin 4 → Fin 4 → Tok} {ns : Fin 4 → Nat} {r : Fin 4 → Addr} {a : Fin 4 → Tok} {lv lf lq q0 q1 : Addr} {nv nf : Nat} {k1 k2 k3 k4 k5 k6 : Obj} {ps : Array Value}
    (B : Below callerA G [] G) (X : (hd.heap_39 w.params).In G) (T : Top p loose mean mg mb G) (hC : CodeHd G 78 76) (F : Fr G L s.heap (fun y => if y = Str.ofString "fields" then some (.ref lf) else m y)) (N : News G L s.heap [(lq, listOf #[.ref q0, .ref q1] 0), (q1, listOf #[.str (v (f 3 0)) (ts 3 0), .str (v (f 3 3)) (ts 3 3)] 0), (q0, listOf #[.str (v (f 0 0)) (ts 0 0), .str (v (f 0 3)) (ts 0 3)] 0), (lf, tb4 r nf), (r 0, rw4 v f ts ns 0), (r 1, rw4 v f ts ns 1), (r 2, rw4 v f ts ns 2), (r 3, rw4 v f ts ns 3), (lv, vt4 v a nv), (L + 1 + 1 + 1 + 1 + 1 + 1, k6), (L + 1 + 1 + 1 + 1 + 1, k5), (L + 1 + 1 + 1 + 1, k4), (L + 1 + 1 + 1, k3), (L + 1 + 1, k2), (L + 1, k1), (76, tabObj ps)])
    (hup : Up v) (hok : ∀ k, PyData.strOk (v k) = true) (d6 : k6.data = .cell (some (.ref lq)))
    (hQ : ∀ h tk m' tl tg, Fr G L h m' → m' (Str.ofString "fields") = some (.ref lf) → m' (Str.ofString "lesser") = some (.str (v (md 1 [f 0 0, f 0 3, f 3 0, f 3 3])) tl) → m' (Str.ofString "greater") = some (.str (v (md 2 [f 0 0, f 0 3, f 3 0, f 3 3])) tg) → News G L h [(lq, listOf #[.ref q0, .ref q1] 0), (q1, listOf #[.str (v (f 3 0)) (ts 3 0), .str (v (f 3 3)) (ts 3 3)] 0), (q0, listOf #[.str (v (f 0 0)) (ts 0 0), .str (v (f 0 3)) (ts 0 3)] 0), (lf, tb4 r nf), (r 0, rw4 v f ts ns 0), (r 1, rw4 v f ts ns 1), (r 2, rw4 v f ts ns 2), (r 3, rw4 v f ts ns 3), (lv, vt4 v a nv), (L + 1 + 1 + 1 + 1 + 1 + 1, k6), (L + 1 + 1 + 1 + 1 + 1, k5), (L + 1 + 1 + 1 + 1, k4), (L + 1 + 1 + 1, k3), (L + 1 + 1, k2), (L + 1, k1), (76, tabObj ps)] → Q .next { s with heap := h, toks := tk }),
    wpAny (model PySem.Challenge.rw_rs0028_01.row.prog w) (callerA.deeper (envOfC (Str.ofString "law") lawScope L fa (.ref 78))) (execs ((lawBody.drop 22).take 4) (envOfC (Str.ofString "law") lawScope L fa (.ref 78))) Q (fun _ _ => False) s := by
  k_fill
  dsimp only [lawScope, lawBody, lawDef, PySem.Challenge.pw_rs0028_01, List.drop_succ_cons, List.drop_zero, List.take_succ_cons, List.take_zero]

  intro w p loose mean mg mb G L fa m s Q v f ts ns r a lv lf lq q0 q1 nv nf k1 k2 k3 k4 k5 k6 ps B X T hC F N hup hok d6 hQ
  clear hC
  k_steps
  unfold Halt
  k_here
  k_dflt (refine medlo_m4 (by k_asm) (by k_asm) (by k_asm) (by k_asm) (by k_asm) (by first | rfl | assumption) (by ktr_room) (by ktr_units) (by k_mem) (.cons _ _ (.cons _ _ (.cons _ _ (.cons _ _ .nil)))) (by rfl) ?_)
  intro x9 t9 h9 tk9 hm9 F9 N9
  (try dsimp only)
  (try k_fold)
  k_steps
  unfold Halt
  k_here
  k_dflt (refine medhi_m4 (by k_asm) (by k_asm) (by k_asm) (by k_asm) (by k_asm) (by first | rfl | assumption) (by ktr_room) (by ktr_units) (by k_mem) (.cons _ _ (.cons _ _ (.cons _ _ (.cons _ _ .nil)))) (by rfl) ?_)
  intro x9 t9 h9 tk9 hm9 F9 N9
  (try dsimp only)
  (try k_fold)
  k_steps
  unfold Halt
  refine ne_four (by k_asm) (by k_mem) (by k_mem) ⟨hok _, hok _, hok _, hok _, hok _, hok _, hok _, hok _⟩ (by ke_room) ⟨rfl, rfl, rfl, rfl⟩ ?_
  k_steps
  refine wpAny_execs_nil ?_
  have e1 := med_v hup (i := 1) (is := [f 0 0, f 0 3, f 3 0, f 3 3]) (by assumption)
  have e2 := med_v hup (i := 2) (is := [f 0 0, f 0 3, f 3 0, f 3 3]) (by assumption)
  subst e1 e2
  exact hQ _ _ _ _ _ (by k_asm) rfl rfl rfl (cb_drop (by k_asm) (by kcj_all))
end Mine

namespace Mine
open PySem PyProof.Rows.LCg PyProof.Rows.LCt PySem.W PyProof.Rows PySem.Calls PySem.Spec
theorem w_off_S26 : True := by
  w_top off
  exact trivial
local macro_rules | `(tactic| walk_at "pyIter ref") => `(tactic| refine halt_in ?_)
local macro_rules | `(tactic| walk_at "exec For Name Call cons nil") => `(tactic| refine halt_in ?_)
local macro_rules | `(tactic| walk_at "XPost") => `(tactic| (dsimp only [XPost]))
local macro_rules | `(tactic| walk_at "XEnd") => `(tactic| refine halt_in ?_)
local macro_rules | `(tactic| walk_at "ours sub") => `(tactic| (k_here; (with_reducible show wpAny _ _ (subscriptTail _ _ (Value.ref _) (Value.int _ _)) _ _ _); k_dflt (refine' sub_votes _ ?kN ?m0 ?kk ?_ ?ks ?kg; (case kN => k_asm); (case m0 => k_mem); (case kk => first | rfl | assumption | omega); (case ks => with_unfolding_all rfl); (case kg => intro _; with_unfolding_all rfl); k_whole)))
local macro_rules | `(tactic| walk_at "ours sub") => `(tactic| (k_here; (with_reducible show wpAny _ _ (subscriptTail _ _ (Value.ref _) (Value.int _ _)) _ _ _); k_dflt (refine' sub_tab _ ?kN ?m0 ?kk ?_ ?ks ?kg; (case kN => k_asm); (case m0 => k_mem); (case kk => first | rfl | assumption | omega); (case ks => with_unfolding_all rfl); (case kg => intro _; with_unfolding_all rfl); k_whole)))
local macro_rules | `(tactic| walk_at "subscriptTail Subscript") => `(tactic| (k_here; (with_reducible show wpAny _ _ (subscriptTail _ _ (Value.ref _) (Value.int _ _)) _ _ _); k_dflt (refine' sub_rowT _ ?kN ?m0 ?m1 ?m2 ?m3 ?kk ?_ ?ks; (case kN => k_asm); (case m0 => k_mem); (case m1 => k_mem); (case m2 => k_mem); (case m3 => k_mem); (case kk => first | rfl | assumption | omega); (case ks => with_unfolding_all rfl); k_whole)))
local macro_rules | `(tactic| walk_at "subscriptTail Name Name ref int") => `(tactic| walk_at "ours sub")
local macro_rules | `(tactic| walk_at "compareOp NotEq ref ref") => `(tactic| refine halt_in ?_)
local macro_rules | `(tactic| walk_at "call ref") => `(tactic| (k_here; (with_reducible show wpAny _ _ (call (Value.ref 34) [Value.ref _]) _ _ _); k_dflt (refine medlo_m2 (by k_asm) (by k_asm) (by k_asm) (by k_asm) (by k_asm) (by first | rfl | assumption) (by ktr_room) (by ktr_units) (by k_mem) (.cons _ _ (.cons _ _ .nil)) (by rfl) ?_); intro x9 t9 h9 tk9 hm9 F9 N9; (try dsimp only); (try k_fold)))
local macro_rules | `(tactic| walk_at "call ref") => `(tactic| (k_here; (with_reducible show wpAny _ _ (call (Value.ref 41) [Value.ref _]) _ _ _); k_dflt (refine medhi_m2 (by k_asm) (by k_asm) (by k_asm) (by k_asm) (by k_asm) (by first | rfl | assumption) (by ktr_room) (by ktr_units) (by k_mem) (.cons _ _ (.cons _ _ .nil)) (by rfl) ?_); intro x9 t9 h9 tk9 hm9 F9 N9; (try dsimp only); (try k_fold)))
local macro_rules | `(tactic| walk_at "call ref") => `(tactic| (k_here; (with_reducible show wpAny _ _ (call (Value.ref 34) [Value.ref _]) _ _ _); k_dflt (refine medlo_m5 (by k_asm) (by k_asm) (by k_asm) (by k_asm) (by k_asm) (by first | rfl | assumption) (by ktr_room) (by ktr_units) (by k_mem) (.cons _ _ (.cons _ _ (.cons _ _ (.cons _ _ (.cons _ _ .nil))))) (by rfl) ?_); intro x9 t9 h9 tk9 hm9 F9 N9; (try dsimp only); (try k_fold)))
local macro_rules | `(tactic| walk_at "call ref") => `(tactic| (k_here; (with_reducible show wpAny _ _ (call (Value.ref 41) [Value.ref _]) _ _ _); k_dflt (refine medhi_m5 (by k_asm) (by k_asm) (by k_asm) (by k_asm) (by k_asm) (by first | rfl | assumption) (by ktr_room) (by ktr_units) (by k_mem) (.cons _ _ (.cons _ _ (.cons _ _ (.cons _ _ (.cons _ _ .nil))))) (by rfl) ?_); intro x9 t9 h9 tk9 hm9 F9 N9; (try dsimp only); (try k_fold)))
local macro_rules | `(tactic| walk_at "call ref") => `(tactic| (k_here; (with_reducible show wpAny _ _ (call (Value.ref 48) [Value.str _ _, Value.str _ _]) _ _ _); k_dflt (refine strcoll_c (by k_asm) (by k_asm) (by k_asm) (by k_asm) (by k_asm) (by first | rfl | assumption) (by ktr_room) (by ktr_units) ?_); intro t9 h9 tk9 lo9 hi9 F9 N9; (try dsimp only); (try k_fold)))

theorem small4 (x : Fin 4) : Builtin.Range.small 0 (((x.val : Nat) : Int) + 1) 1 = true := by
  match x with
  | 0 => decide
  | 1 => decide
  | 2 => decide
  | 3 => decide
theorem size4 (x : Fin 4) : Builtin.Range.rangeSize 0 (((x.val : Nat) : Int) + 1) 1 = ((x.val + 1 : Nat) : Int) := by
  match x with
  | 0 => rfl
  | 1 => rfl
  | 2 => rfl
  | 3 => rfl


section
variable {prog : Program} {w : World} {A : Around} {E : Value → Shared → Prop} {s : Shared} {h₀ : Heap} {L l : Addr} {news : List (Addr × Obj)} {value slice : PySem.Expr} {u : Tok} {x y : Value} {n : Nat} {Q : Value → Shared → Prop}
theorem two0 (N : News h₀ L s.heap news) (hm : (l, listOf #[x, y] n) ∈ news) (h : Q x s)
    (hs : subscripted slice false (.ref l) (.int 0 u) = operate [.ref l, .int 0 u] (getItem (.ref l) (.int 0 u))) :
    wpAny (model prog w) A (subscriptTail value slice (.ref l) (.int 0 u)) Q E s := kba_turn (value' := PySem.Expr.Name (PySem.Str.ofString "_") ⟨0, 0, 0, 0⟩) (fun _ => rfl) (item_list (News.isList N hm) (by decide) (by decide) rfl h hs (fun _ => rfl))
theorem two1 (N : News h₀ L s.heap news) (hm : (l, listOf #[x, y] n) ∈ news) (h : Q y s)
    (hs : subscripted slice false (.ref l) (.int 1 u) = operate [.ref l, .int 1 u] (getItem (.ref l) (.int 1 u))) :
    wpAny (model prog w) A (subscriptTail value slice (.ref l) (.int 1 u)) Q E s := kba_turn (value' := PySem.Expr.Name (PySem.Str.ofString "_") ⟨0, 0, 0, 0⟩) (fun _ => rfl) (item_list (News.isList N hm) (by decide) (by decide) rfl h hs (fun _ => rfl))
end
local macro_rules | `(tactic| walk_at "subscriptTail Subscript") => `(tactic| (k_here; (with_reducible show wpAny _ _ (subscriptTail _ _ (Value.ref _) (Value.int 0 _)) _ _ _); k_dflt (refine' two0 ?kN ?km ?_ ?ks; (case kN => k_asm); (case km => k_mem); (case ks => with_unfolding_all rfl); k_whole)))
local macro_rules | `(tactic| walk_at "subscriptTail Subscript") => `(tactic| (k_here; (with_reducible show wpAny _ _ (subscriptTail _ _ (Value.ref _) (Value.int 1 _)) _ _ _); k_dflt (refine' two1 ?kN ?km ?_ ?ks; (case kN => k_asm); (case km => k_mem); (case ks => with_unfolding_all rfl); k_whole)))
local macro_rules | `(tactic| walk_at "subscriptTail Name Constant ref int") => `(tactic| (k_here; (with_reducible show wpAny _ _ (subscriptTail _ _ (Value.ref _) (Value.int 0 _)) _ _ _); k_dflt (refine' two0 ?kN ?km ?_ ?ks; (case kN => k_asm); (case km => k_mem); (case ks => with_unfolding_all rfl); k_whole)))
local macro_rules | `(tactic| walk_at "subscriptTail Name Constant ref int") => `(tactic| (k_here; (with_reducible show wpAny _ _ (subscriptTail _ _ (Value.ref _) (Value.int 1 _)) _ _ _); k_dflt (refine' two1 ?kN ?km ?_ ?ks; (case kN => k_asm); (case km => k_mem); (case ks => with_unfolding_all rfl); k_whole)))
theorem seg26 : ∀ {w : World} {p : Program} {loose : List Str} {mean : ExcName → Option Value} {mg mb : Str → Option Value} {G : Heap} {L fa : Addr} {m : Str → Option Value} {s : Shared} {Q : Flow → Shared → Prop} {v : Fin 4 → Str} {f : Fin 4 → Fin 4 → Fin 4} {ts : Fin 4 → Fin 4 → Tok} {ns : Fin 4 → Nat} {r : Fin 4 → Addr} {a : Fin 4 → Tok} {lv lf lq q0 q1 : Addr} {nv nf : Nat} {k1 k2 k3 k4 k5 k6 : Obj} {ps : Array Value} {tl tg : Tok}
    (B : Below callerA G [] G) (X : (hd.heap_39 w.params).In G) (T : Top p loose mean mg mb G) (hC : CodeHd G 78 76) (F : Fr G L s.heap (fun y => if y = Str.ofString "fields" then some (.ref lf) else if y = Str.ofString "lesser" then some (.str (v (md 1 [f 0 0, f 0 3, f 3 0, f 3 3])) tl) else if y = Str.ofString "greater" then some (.str (v (md 2 [f 0 0, f 0 3, f 3 0, f 3 3])) tg) else m y)) (N : News G L s.heap [(lq, listOf #[.ref q0, .ref q1] 0), (q1, listOf #[.str (v (f 3 0)) (ts 3 0), .str (v (f 3 3)) (ts 3 3)] 0), (q0, listOf #[.str (v (f 0 0)) (ts 0 0), .str (v (f 0 3)) (ts 0 3)] 0), (lf, tb4 r nf), (r 0, rw4 v f ts ns 0), (r 1, rw4 v f ts ns 1), (r 2, rw4 v f ts ns 2), (r 3, rw4 v f ts ns 3), (lv, vt4 v a nv), (L + 1 + 1 + 1 + 1 + 1 + 1, k6), (L + 1 + 1 + 1 + 1 + 1, k5), (L + 1 + 1 + 1 + 1, k4), (L + 1 + 1 + 1, k3), (L + 1 + 1, k2), (L + 1, k1), (76, tabObj ps)])
    (hup : Up v) (hok : ∀ k, PyData.strOk (v k) = true) (d4 : k4.data = .cell (some (.ref lv))) (d6 : k6.data = .cell (some (.ref lq))) (htl : ∀ x y, tld f x y = f x y)
    (hQ : ∀ h tk m', Fr G L h m' → h.get? 76 = some (tabObj ps) → Q (.ret (.bool true)) { s with heap := h, toks := tk }),
    wpAny (model PySem.Challenge.rw_rs0028_01.row.prog w) (callerA.deeper (envOfC (Str.ofString "law") lawScope L fa (.ref 78))) (execs ((lawBody.drop 26).take 2) (envOfC (Str.ofString "law") lawScope L fa (.ref 78))) Q (fun _ _ => False) s := by
  k_fill
  dsimp only [lawScope, lawBody, lawDef, PySem.Challenge.pw_rs0028_01, List.drop_succ_cons, List.drop_zero, List.take_succ_cons, List.take_zero]

  intro w p loose mean mg mb G L fa m s Q v f ts ns r a lv lf lq q0 q1 nv nf k1 k2 k3 k4 k5 k6 ps tl tg B X T hC F N hup hok d4 d6 htl hQ
  clear hC
  k_steps
  unfold Halt
  k_dflt (refine For_invV G (by rfl) (by rfl) ?_ (hE := PassesOwn.never))
  k_steps
  unfold Halt
  rename_i h3 tk3 tt1 uu1 vv1 hr F3 N3 hk3
  (try clear hk3)
  refine loop_rangeX (J := fun i m₁ nx => m₁ (Str.ofString "fields") = some (.ref lf) ∧ m₁ (Str.ofString "lesser") = some (.str (v (md 1 [f 0 0, f 0 3, f 3 0, f 3 3])) tl) ∧ m₁ (Str.ofString "greater") = some (.str (v (md 2 [f 0 0, f 0 3, f 3 0, f 3 3])) tg) ∧ nx = [(lq, listOf #[.ref q0, .ref q1] 0), (q1, listOf #[.str (v (f 3 0)) (ts 3 0), .str (v (f 3 3)) (ts 3 3)] 0), (q0, listOf #[.str (v (f 0 0)) (ts 0 0), .str (v (f 0 3)) (ts 0 3)] 0), (lf, tb4 r nf), (r 0, rw4 v f ts ns 0), (r 1, rw4 v f ts ns 1), (r 2, rw4 v f ts ns 2), (r 3, rw4 v f ts ns 3), (lv, vt4 v a nv), (L + 1 + 1 + 1 + 1 + 1 + 1, k6), (L + 1 + 1 + 1 + 1 + 1, k5), (L + 1 + 1 + 1 + 1, k4), (L + 1 + 1 + 1, k3), (L + 1 + 1, k2), (L + 1, k1), (76, tabObj ps)]) (by rfl) hr (by decide) (by rfl) F3 N3 ⟨rfl, rfl, rfl, rfl⟩ ?_ ?_
  · rintro i t1 m₁ nx I1 oI1 h4 tk4 hi hadr hI1 ⟨hmf, hml, hmg, rfl⟩ F4 N4
    obtain ⟨x, rfl⟩ : ∃ x : Fin 4, i = x.val := ⟨⟨i, hi⟩, rfl⟩
    have F5 := fr_name (y := Str.ofString "greater") (fr_name (y := Str.ofString "lesser") (fr_name (y := Str.ofString "fields") F4 hmf) hml) hmg
    (try clear F4)
    (try clear F3)
    (try clear N3)
    simp only [Int.zero_add] at F5
    k_steps
    unfold Halt
    k_dflt (refine For_invV G (by rfl) (by rfl) ?_ (hE := PassesOwn.never))
    k_steps
    unfold Halt
    rename_i h5 tk5 tt2 uu2 vv2 hr5 F6 N6 hk5
    (try clear hk5)
    (try clear F5)
    (try clear N4)
    refine loop_rangeX (n := x.val + 1) (J := fun j m₁ nx => m₁ (Str.ofString "first") = some (.int ((x.val : Nat) : Int) t1) ∧ m₁ (Str.ofString "fields") = some (.ref lf) ∧ m₁ (Str.ofString "lesser") = some (.str (v (md 1 [f 0 0, f 0 3, f 3 0, f 3 3])) tl) ∧ m₁ (Str.ofString "greater") = some (.str (v (md 2 [f 0 0, f 0 3, f 3 0, f 3 3])) tg) ∧ nx = [(I1, oI1), (lq, listOf #[.ref q0, .ref q1] 0), (q1, listOf #[.str (v (f 3 0)) (ts 3 0), .str (v (f 3 3)) (ts 3 3)] 0), (q0, listOf #[.str (v (f 0 0)) (ts 0 0), .str (v (f 0 3)) (ts 0 3)] 0), (lf, tb4 r nf), (r 0, rw4 v f ts ns 0), (r 1, rw4 v f ts ns 1), (r 2, rw4 v f ts ns 2), (r 3, rw4 v f ts ns 3), (lv, vt4 v a nv), (L + 1 + 1 + 1 + 1 + 1 + 1, k6), (L + 1 + 1 + 1 + 1 + 1, k5), (L + 1 + 1 + 1 + 1, k4), (L + 1 + 1 + 1, k3), (L + 1 + 1, k2), (L + 1, k1), (76, tabObj ps)]) (by rfl) hr5 (small4 x) (size4 x) F6 N6 ⟨rfl, rfl, rfl, rfl, rfl⟩ ?_ ?_
    · rintro j t2 m₂ nx I2 oI2 h6 tk6 hj hadr2 hI2 ⟨hmx2, hmf2, hml2, hmg2, rfl⟩ F7 N7
      obtain ⟨y, rfl⟩ : ∃ y : Fin 4, j = y.val := ⟨⟨j, by have := x.isLt; omega⟩, rfl⟩
      have F8 := fr_name (y := Str.ofString "first") (fr_name (y := Str.ofString "greater") (fr_name (y := Str.ofString "lesser") (fr_name (y := Str.ofString "fields") F7 hmf2) hml2) hmg2) hmx2
      (try clear F7)
      (try clear F6)
      (try clear N6)
      simp only [Int.zero_add] at F8
      have fin : ∀ {h' : Heap} {tk' : Nat} {m' : Str → Option Value}, Fr G L h' m' → News G L h' [(I2, oI2), (I1, oI1), (lq, listOf #[.ref q0, .ref q1] 0), (q1, listOf #[.str (v (f 3 0)) (ts 3 0), .str (v (f 3 3)) (ts 3 3)] 0), (q0, listOf #[.str (v (f 0 0)) (ts 0 0), .str (v (f 0 3)) (ts 0 3)] 0), (lf, tb4 r nf), (r 0, rw4 v f ts ns 0), (r 1, rw4 v f ts ns 1), (r 2, rw4 v f ts ns 2), (r 3, rw4 v f ts ns 3), (lv, vt4 v a nv), (L + 1 + 1 + 1 + 1 + 1 + 1, k6), (L + 1 + 1 + 1 + 1 + 1, k5), (L + 1 + 1 + 1 + 1, k4), (L + 1 + 1 + 1, k3), (L + 1 + 1, k2), (L + 1, k1), (76, tabObj ps)] →
          m' (Str.ofString "first") = some (.int ((x.val : Nat) : Int) t1) → m' (Str.ofString "fields") = some (.ref lf) → m' (Str.ofString "lesser") = some (.str (v (md 1 [f 0 0, f 0 3, f 3 0, f 3 3])) tl) → m' (Str.ofString "greater") = some (.str (v (md 2 [f 0 0, f 0 3, f 3 0, f 3 3])) tg) →
          XEnd G L (fun m₁ nx => m₁ (Str.ofString "first") = some (.int ((x.val : Nat) : Int) t1) ∧ m₁ (Str.ofString "fields") = some (.ref lf) ∧ m₁ (Str.ofString "lesser") = some (.str (v (md 1 [f 0 0, f 0 3, f 3 0, f 3 3])) tl) ∧ m₁ (Str.ofString "greater") = some (.str (v (md 2 [f 0 0, f 0 3, f 3 0, f 3 3])) tg) ∧ nx = [(I1, oI1), (lq, listOf #[.ref q0, .ref q1] 0), (q1, listOf #[.str (v (f 3 0)) (ts 3 0), .str (v (f 3 3)) (ts 3 3)] 0), (q0, listOf #[.str (v (f 0 0)) (ts 0 0), .str (v (f 0 3)) (ts 0 3)] 0), (lf, tb4 r nf), (r 0, rw4 v f ts ns 0), (r 1, rw4 v f ts ns 1), (r 2, rw4 v f ts ns 2), (r 3, rw4 v f ts ns 3), (lv, vt4 v a nv), (L + 1 + 1 + 1 + 1 + 1 + 1, k6), (L + 1 + 1 + 1 + 1 + 1, k5), (L + 1 + 1 + 1 + 1, k4), (L + 1 + 1 + 1, k3), (L + 1 + 1, k2), (L + 1, k1), (76, tabObj ps)]) I2 oI2 (List.map (fun x => x.1) [(I1, oI1), (lq, listOf #[.ref q0, .ref q1] 0), (q1, listOf #[.str (v (f 3 0)) (ts 3 0), .str (v (f 3 3)) (ts 3 3)] 0), (q0, listOf #[.str (v (f 0 0)) (ts 0 0), .str (v (f 0 3)) (ts 0 3)] 0), (lf, tb4 r nf), (r 0, rw4 v f ts ns 0), (r 1, rw4 v f ts ns 1), (r 2, rw4 v f ts ns 2), (r 3, rw4 v f ts ns 3), (lv, vt4 v a nv), (L + 1 + 1 + 1 + 1 + 1 + 1, k6), (L + 1 + 1 + 1 + 1 + 1, k5), (L + 1 + 1 + 1 + 1, k4), (L + 1 + 1 + 1, k3), (L + 1 + 1, k2), (L + 1, k1), (76, tabObj ps)]) { s with heap := h6, toks := tk6 } { s with heap := h', toks := tk' } :=
        fun F' N' h1 h2 h3 h4 => ⟨_, _, _, _, rfl, F', N', rfl, h1, h2, h3, h4, rfl⟩
      k_steps
      · unfold Halt
        obtain ⟨e0, e1, e2, e3⟩ := five_yes hup htl (by assumption) (by assumption) (by assumption) (by assumption) (by assumption)
        subst e0 e1 e2 e3
        refine ne_four (by k_asm) (by k_mem) (by k_mem) ⟨hok _, hok _, hok _, hok _, hok _, hok _, hok _, hok _⟩ (by ke_room) ⟨rfl, rfl, rfl, rfl⟩ ?_
        k_steps
        unfold Halt
        exact fin (by k_asm) (cb_drop (by k_asm) (by kcj_all)) rfl rfl rfl rfl
      · unfold Halt
        obtain ⟨e0, e1, e2, e3⟩ := five_no hup htl (by assumption) (by assumption) (by assumption) (by assumption) (by assumption)
        subst e0 e1 e2 e3
        refine ne_four (by k_asm) (by k_mem) (by k_mem) ⟨hok _, hok _, hok _, hok _, hok _, hok _, hok _, hok _⟩ (by ke_room) ⟨rfl, rfl, rfl, rfl⟩ ?_
        k_steps
        unfold Halt
        exact fin (by k_asm) (cb_drop (by k_asm) (by kcj_all)) rfl rfl rfl rfl
    · rintro m₂ nx h tk ⟨hmx2, hmf2, hml2, hmg2, rfl⟩ hadr2 F7 N7
      k_steps
      unfold Halt
      exact ⟨h, tk, m₂, _, rfl, F7, N7, rfl, hmf2, hml2, hmg2, rfl⟩
  · rintro m₁ nx h tk ⟨hmf, hml, hmg, rfl⟩ hadr F4 N4
    k_steps
    exact hQ _ _ _ (by k_asm) (News.get (by k_asm) (by k_mem))

end Mine

namespace Mine
open PySem PyProof.Rows.LCg PyProof.Rows.LCt PySem.W PyProof.Rows PySem.Calls PySem.Spec
theorem w_off_S0 : True := by
  w_top off
  exact trivial
local macro_rules | `(tactic| walk_at "pyIter ref") => `(tactic| refine halt_in ?_)
local macro_rules | `(tactic| walk_at "exec For Tuple Call cons nil") => `(tactic| refine halt_in ?_)
local macro_rules | `(tactic| walk_at "LoopStep3") => `(tactic| refine halt_in ?_)

theorem news_comm {h₀ h : Heap} {L : Addr} {a b : List (Addr × Obj)} (N : News h₀ L h (a ++ b)) : News h₀ L h (b ++ a) := fun p hp => N p (by
  rcases List.mem_append.mp hp with q | q
  · exact List.mem_append_right _ q
  · exact List.mem_append_left _ q)

local macro_rules | `(tactic| walk_at "setItem ref int") => `(tactic| refine halt_in ?_)
/-- one of the four numbers set anew -/
theorem store_c4 {prog : Program} {w : World} {A : Around} {E : Value → Shared → Prop} {s : Shared} {h₀ : Heap} {L lc : Addr} {m : Str → Option Value} {idx z c0 c1 c2 c3 : Int} {u t u0 u1 u2 u3 : Tok} {nc : Nat} {rest : List (Addr × Obj)} {Q : Unit → Shared → Prop} (j : Fin 4) (F : Fr h₀ L s.heap m)
    (N : News h₀ L s.heap ((lc, listOf #[.int c0 u0, .int c1 u1, .int c2 u2, .int c3 u3] nc) :: rest)) (hj : idx = ((j.val : Nat) : Int)) (hre : ∀ p ∈ rest, p.1 ≠ lc)
    (h : ∀ h' d0 d1 d2 d3 v0 v1 v2 v3, Fr h₀ L h' m → News h₀ L h' ((lc, listOf #[.int d0 v0, .int d1 v1, .int d2 v2, .int d3 v3] nc) :: rest) → Q () { s with heap := h' }) :
    wpAny (model prog w) A (setItem (.ref lc) (.int idx u) (.int z t)) Q E s := by
  subst hj
  have z0 := N _ (.head _)
  refine ki_setAt z0.1 (Int.natCast_nonneg _) (by have := j.isLt; omega) (by have := j.isLt; show ((j.val : Nat) : Int) < ((4 : Nat) : Int); omega) ?_
  rw [Int.toNat_natCast]
  have hs : Heap.SameBut lc s.heap (s.heap.update lc (Obj.mapSeq (fun x => x.setIfInBounds j.val (.int z t)))) := Heap.SameBut.update ..
  have hg : ∃ d0 d1 d2 d3 v0 v1 v2 v3, (s.heap.update lc (Obj.mapSeq (fun x => x.setIfInBounds j.val (.int z t)))).get? lc = some (listOf #[.int d0 v0, .int d1 v1, .int d2 v2, .int d3 v3] nc) := by
    rw [Heap.get?_update_self _ z0.1 (by match j with | 0 => rfl | 1 => rfl | 2 => rfl | 3 => rfl)]
    match j with
    | 0 => exact ⟨z, c1, c2, c3, t, u1, u2, u3, rfl⟩
    | 1 => exact ⟨c0, z, c2, c3, u0, t, u2, u3, rfl⟩
    | 2 => exact ⟨c0, c1, z, c3, u0, u1, t, u3, rfl⟩
    | 3 => exact ⟨c0, c1, c2, z, u0, u1, u2, t, rfl⟩
  obtain ⟨d0, d1, d2, d3, v0, v1, v2, v3, hg⟩ := hg
  refine h _ d0 d1 d2 d3 v0 v1 v2 v3 (F.change hs z0.2.1 z0.2.2) fun p hp => ?_
  rcases List.mem_cons.mp hp with rfl | hp
  · exact ⟨hg, z0.2⟩
  · have q := N p (.tail _ hp); exact ⟨hs.extBut _ _ (hre p hp) q.1, q.2⟩

theorem seg0 : ∀ {w : World} {p : Program} {loose : List Str} {mean : ExcName → Option Value} {mg mb : Str → Option Value} {G : Heap} {L fa : Addr} {m : Str → Option Value} {s : Shared} {Q : Flow → Shared → Prop} {ls : Addr} {vs : List Value} {zs : List Int} {k1 k2 k3 k4 k5 k6 : Obj} {ps : Array Value}
    (B : Below callerA G [] G) (X : (hd.heap_39 w.params).In G) (T : Top p loose mean mg mb G) (hC : CodeHd G 78 76) (F : Fr G L s.heap (fun y => if y = Str.ofString "script" then some (.ref ls) else m y)) (N : News G L s.heap [(L + 1 + 1 + 1 + 1 + 1 + 1, k6), (L + 1 + 1 + 1 + 1 + 1, k5), (L + 1 + 1 + 1 + 1, k4), (L + 1 + 1 + 1, k3), (L + 1 + 1, k2), (L + 1, k1), (76, tabObj ps)])
    (hl : G.IsList ls vs.toArray) (hI : IntsAre vs zs) (l0 : @LT.lt Nat _ 76 L) (d1 : k1.data = .cell none)
    (hQ : ∀ h tk m' lc c0 c1 c2 c3 u0 u1 u2 u3 nc k1, Fr G L h m' → k1.data = .cell (some (.ref lc)) → News G L h [(lc, listOf #[.int c0 u0, .int c1 u1, .int c2 u2, .int c3 u3] nc), (L + 1 + 1 + 1 + 1 + 1 + 1, k6), (L + 1 + 1 + 1 + 1 + 1, k5), (L + 1 + 1 + 1 + 1, k4), (L + 1 + 1 + 1, k3), (L + 1 + 1, k2), (L + 1, k1), (76, tabObj ps)] → @LT.lt Nat _ (L + 1 + 1 + 1 + 1 + 1 + 1) lc → Q .next { s with heap := h, toks := tk }),
    wpAny (model PySem.Challenge.rw_rs0028_01.row.prog w) (callerA.deeper (envOfC (Str.ofString "law") lawScope L fa (.ref 78))) (execs ((lawBody.drop 0).take 2) (envOfC (Str.ofString "law") lawScope L fa (.ref 78))) Q (fun _ _ => False) s := by
  k_fill
  dsimp only [lawScope, lawBody, lawDef, PySem.Challenge.pw_rs0028_01, List.drop_succ_cons, List.drop_zero, List.take_succ_cons, List.take_zero]

  intro w p loose mean mg mb G L fa m s Q ls vs zs k1 k2 k3 k4 k5 k6 ps B X T hC F N hl hI l0 d1 hQ
  clear hC
  k_steps
  unfold Halt
  refine For_pair3F (h₀ := G) (by k_asm) (by rfl) (by rfl) (by rfl) (by rfl) ?_ (by intro; with_unfolding_all rfl) (hE := PassesOwn.never)
  k_steps
  unfold Halt
  rename_i lc h1 l1 h2 k7 F2 N2 d7 h3 e3 F3 N3 PS
  refine PS _ rfl _ _ _ _ (fun _ m₁ nx => ∃ c0 c1 c2 c3 u0 u1 u2 u3 nc, nx = [(lc, listOf #[.int c0 u0, .int c1 u1, .int c2 u2, .int c3 u3] nc), (L + 1 + 1 + 1 + 1 + 1 + 1, k6), (L + 1 + 1 + 1 + 1 + 1, k5), (L + 1 + 1 + 1 + 1, k4), (L + 1 + 1 + 1, k3), (L + 1 + 1, k2), (L + 1, k7), (76, tabObj ps)]) ⟨_, _, _, _, _, _, _, _, _, rfl⟩ ?_ ?_
  · rintro i n t nv m₁ nx s₁ own ⟨h4, tk4, rfl⟩ hi hn ⟨c0, c1, c2, c3, u0, u1, u2, u3, nc, rfl⟩ hadr hoff F4 N4
    obtain ⟨tn, rfl⟩ := ItemKind.int_is hn
    clear PS N3 F3 N2 F2
    dsimp only at F4 N4
    have N5 := news_comm N4
    clear N4
    simp only [List.cons_append, List.nil_append] at N5
    have hb := fmod4 (i : Int)
    obtain ⟨kk, hk⟩ := hb
    k_steps
    unfold Halt
    refine store_c4 kk (by k_asm) (by k_asm) hk ?_ ?_
    · intro q hq
      obtain ⟨q1, q2, q3, q4, q5, q6, q7⟩ := l1
      simp only [List.mem_cons] at hq
      rcases hq with rfl | rfl | rfl | rfl | rfl | rfl | rfl | hq
      all_goals first | (apply Nat.ne_of_lt; assumption) | exact hoff q hq _ (.head _)
    · intro h6 d0 d1 d2 d3 v0 v1 v2 v3 F6 N6
      k_steps
      unfold Halt
      exact ⟨rfl, _, _, _, _, rfl, F6, news_comm (a := [(lc, listOf #[.int d0 v0, .int d1 v1, .int d2 v2, .int d3 v3] nc), (L + 1 + 1 + 1 + 1 + 1 + 1, k6), (L + 1 + 1 + 1 + 1 + 1, k5), (L + 1 + 1 + 1 + 1, k4), (L + 1 + 1 + 1, k3), (L + 1 + 1, k2), (L + 1, k7), (76, tabObj ps)]) N6, rfl, _, _, _, _, _, _, _, _, _, rfl⟩
  · rintro h4 tk4 m₁ nx F4 N4 hadr ⟨c0, c1, c2, c3, u0, u1, u2, u3, nc, rfl⟩
    k_steps
    refine wpAny_execs_nil ?_
    exact hQ h4 tk4 m₁ lc _ _ _ _ _ _ _ _ _ _ F4 d7 N4 l1.1

end Mine

namespace Mine
open PySem PySem.W PyProof.Rows PySem.Calls PySem.Spec
open AutoSeq1 (wpAny_loadPart')
open MeetsSeq MeetsSeq2 MeetsSeq3
/-- a list's ints, one below the other -/
abbrev intL (xs : Array Value) (n : Nat) : Obj := { cls := .type "list", dict := none, data := .seq xs n, slots := #[] }

theorem ints_at : ∀ {vs : List Value} {ns : List Int}, IntsAre vs ns → ∀ i (h : i < vs.length), ∃ (x : Int) (t : Tok), vs[i] = .int x t ∧ ns.drop i = x :: ns.drop (i + 1)
  | _, _, .cons n t h, 0, _ => ⟨n, t, rfl, by simp⟩
  | _, _, .cons n t h, i + 1, hi => by
    obtain ⟨x, u, e1, e2⟩ := ints_at h i (by simpa using hi)
    exact ⟨x, u, by simpa using e1, by simpa using e2⟩

theorem lt_loop (l b : Addr) (items items2 : Array Value) (n n2 : Nat) (xs ys : List Int) (hx : IntsAre items.toList xs) (hy : IntsAre items2.toList ys) (k : Nat) :
    ∀ i : Nat, items.size - i = k → i ≤ items.size → i ≤ items2.size → Meets (Builtin.«list.__eq__.loop» ⟨[.ref l, .ref b, rawInt i, rawInt 0], []⟩)
      (fun A R s => s.heap.get? l = some (intL items n) ∧ s.heap.get? b = some (intL items2 n2) ∧ R (.ok (.ret (.bool (decide (xs.drop i < ys.drop i))))) s) := by
  have lx : xs.length = items.size := by rw [← hx.length]; simp
  have ly : ys.length = items2.size := by rw [← hy.length]; simp
  induction k with
  | zero =>
    intro i hk hi hi' prog w A R s h
    obtain ⟨hp, g, d, tk, os⟩ := s; obtain ⟨hl, hb, h⟩ := h
    wp_walk using wpAny_loadPart' hl, wpAny_loadPart' hb
    have hi1 : items[((i : Nat) : Int).toNat]? = none := by simp; omega
    rw [hi1]
    wp_walk using wpAny_loadPart' hl, wpAny_loadPart' hb
    have e1 : xs.drop i = [] := List.drop_eq_nil_of_le (by omega)
    rw [e1] at h
    show R (.ok (.ret (.bool (decide (items.size < items2.size))))) _
    have e2 : decide (([] : List Int) < ys.drop i) = decide (items.size < items2.size) := by
      rw [decide_eq_decide]
      cases q : ys.drop i with
      | nil =>
        have := List.drop_eq_nil_iff.mp q
        constructor
        · intro h; exact absurd h (List.lt_irrefl _)
        · omega
      | cons a r =>
        have h1 := congrArg List.length q
        simp only [List.length_drop, List.length_cons] at h1
        exact ⟨fun _ => by omega, fun _ => List.Lex.nil⟩
    rw [e2] at h
    exact h
  | succ k ih =>
    intro i hk hi hi' prog w A R s h
    obtain ⟨hp, g, d, tk, os⟩ := s; obtain ⟨hl, hb, h⟩ := h
    wp_walk using wpAny_loadPart' hl, wpAny_loadPart' hb
    have hlt : i < items.size := by omega
    have hi1 : items[((i : Nat) : Int).toNat]? = some items[i] := by simp [hlt]
    obtain ⟨x, t, ex, ed⟩ := ints_at hx i (by simpa using hlt)
    have ex' : items[i] = .int x t := by simpa using ex
    rw [hi1, ex']
    by_cases hlt2 : i < items2.size
    · have hi2 : items2[((i : Nat) : Int).toNat]? = some items2[i] := by simp [hlt2]
      obtain ⟨y, u, ey, ed2⟩ := ints_at hy i (by simpa using hlt2)
      have ey' : items2[i] = .int y u := by simpa using ey
      have hc : ((i : Int) + 1) = ((i + 1 : Nat) : Int) := by push_cast; rfl
      rw [hi2, ey']
      rw [ed, ed2] at h
      refine wpAny_bind (wpAny_eqBool_int ?_)
      by_cases e : x = y
      · subst e
        have e3 : decide ((x :: xs.drop (i + 1)) < (x :: ys.drop (i + 1))) = decide (xs.drop (i + 1) < ys.drop (i + 1)) := by
          rw [decide_eq_decide, List.cons_lt_cons_iff]
          constructor
          · rintro (h | ⟨_, h⟩)
            · exact absurd h (Int.lt_irrefl _)
            · exact h
          · exact fun h => .inr ⟨rfl, h⟩
        rw [e3] at h
        simp only [beq_self_eq_true, decide_true]
        wp_walk
        rw [hc]
        exact ⟨plainId_quiet plain_eq_loop _, codeAny_builtin entry_eq_loop (by
          rw [Around.under_plainId plain_eq_loop _]
          exact ih (i + 1) (by omega) (by omega) (by omega) prog w A R _ ⟨hl, hb, h⟩)⟩
      · have e3 : decide ((x :: xs.drop (i + 1)) < (y :: ys.drop (i + 1))) = decide (x < y) := by
          rw [decide_eq_decide, List.cons_lt_cons_iff]
          constructor
          · rintro (h | ⟨h, _⟩)
            · exact h
            · exact absurd h e
          · exact fun h => .inl h
        rw [e3] at h
        simp only [beq_eq_false_iff_ne.mpr e, decide_eq_false e]
        wp_walk using wpAny_loadPart' hl, wpAny_loadPart' hb
        rw [hi1, hi2, ex', ey']
        refine wpAny_bind (wpAny_lt_int ?_)
        exact wpAny_pure h
    · have hi2 : items2[((i : Nat) : Int).toNat]? = none := by simp; omega
      rw [hi2]
      wp_walk using wpAny_loadPart' hl, wpAny_loadPart' hb
      have e1 : ys.drop i = [] := List.drop_eq_nil_of_le (by omega)
      rw [e1] at h
      have e2 : decide (xs.drop i < ([] : List Int)) = decide (items.size < items2.size) := by
        rw [decide_eq_decide]
        exact ⟨fun h => absurd h (List.not_lt_nil _), fun h => by omega⟩
      rw [e2] at h
      exact h

theorem list_lt (l b : Addr) (items items2 : Array Value) (n n2 : Nat) (xs ys : List Int) (hx : IntsAre items.toList xs) (hy : IntsAre items2.toList ys) :
    Meets (Builtin.«list.__lt__» ⟨[.ref l, .ref b], []⟩)
      (fun A R s => s.heap.get? l = some (intL items n) ∧ s.heap.get? b = some (intL items2 n2) ∧ R (.ok (.ret (.bool (decide (xs < ys))))) s) := by
  intro prog w A R s h
  obtain ⟨hp, g, d, tk, os⟩ := s; obtain ⟨hl, hb, h⟩ := h
  have f3 := AutoSeq1.sub_list_list
  wp_walk using wpAny_loadPart' hl, wpAny_loadPart' hb
  exact ⟨plainId_quiet plain_eq_loop _, codeAny_builtin entry_eq_loop (by
    rw [Around.under_plainId plain_eq_loop _]
    exact lt_loop l b items items2 n n2 xs ys hx hy _ 0 rfl (Nat.zero_le _) (Nat.zero_le _) prog w A R _ ⟨hl, hb, h⟩)⟩
section
variable {prog : Program} {w : World} {A : Around} {E : Value → Shared → Prop} {s : Shared}
theorem call_list_lt {l b : Addr} {items items2 : Array Value} {n n2 : Nat} {xs ys : List Int} {Q : Value → Shared → Prop} (hl : s.heap.get? l = some (intL items n)) (hb : s.heap.get? b = some (intL items2 n2)) (hx : IntsAre items.toList xs) (hy : IntsAre items2.toList ys)
    (h : Q (.bool (decide (xs < ys))) s) : wpAny (model prog w) A (call (.builtin "list.__lt__") [.ref l, .ref b]) Q E s := by
  refine call_meets F.slot_list_lt ⟨_, hl, rfl⟩ F.entry_list_lt (F.args_list_lt_2 _ _) (list_lt l b items items2 n n2 xs ys hx hy) ?_
  exact ⟨hl, hb, h⟩
theorem oneLt_list {l b : Addr} {items items2 : Array Value} {n n2 : Nat} {xs ys : List Int} {Q : Bool → Shared → Prop} (hu : A.units < cLine) (hl : s.heap.get? l = some (intL items n)) (hb : s.heap.get? b = some (intL items2 n2)) (hx : IntsAre items.toList xs) (hy : IntsAre items2.toList ys)
    (h : Q (decide (xs < ys)) s) : wpAny (model prog w) A (oneLt' true (.ref l) (.ref b)) Q E s := by
  rw [oneLt'_eq]
  simp only [if_true]
  refine wpAny_bind (wpAny_cRoomFor hu ?_)
  refine wpAny_bind (wpAny_callSpecialIfBound?_slot ⟨_, hl, rfl⟩ F.slot_list_lt (call_list_lt hl hb hx hy ?_))
  exact wpAny_truthy_bool h
end
end Mine

namespace Mine
open PySem PySem.W PyProof.Rows PySem.Calls PySem.Spec PyProof.Rows.LCg PyProof.Rows.LCt
section
variable {prog : Program} {w : World} {A : Around} {E : Value → Shared → Prop} {s : Shared} {h₀ : Heap} {L : Addr} {m : Str → Option Value} {env : Env}
def StrSrc (prog : Program) (w : World) (A : Around) (h₀ : Heap) (L : Addr) (m : Str → Option Value) (env : Env) (elt : Expr) (xn : Str) (scope : Scope) (cl : List (Str × Addr)) (Q : Value → Shared → Prop) (xv : Value) (s₁ : Shared) : Prop :=
  ∃ x t news, xv = .str x t ∧ A.handled = none ∧ Fr h₀ L s₁.heap m ∧ News h₀ L s₁.heap news ∧ x.cps.all (· < 128) = true ∧ x.cps.size ≤ sizeLine ∧
      ∀ g, CompRest prog w A h₀ L m env elt xn scope cl { s₁ with heap := g } (fun _ => True) (SignAt x) (FinE h₀ L m { s₁ with heap := g } Q) x.cps.size 0 [] news
theorem sign_st {I : Addr} {x : Str} {t : Tok} : ∀ i (h h' : Heap) (o : Obj) (nw : List (Addr × Obj)), h.IsStrIter I "str_ascii_iterator" x t i → h.get? I = some o → h'.get? I = some o → (∀ b o, h₀.get? b = some o → h'.get? b = some o) → News h₀ L h' nw → True → h'.IsStrIter I "str_ascii_iterator" x t i :=
  fun i h h' o nw st e e' k N S => by obtain ⟨o', q, r⟩ := st; rw [e] at q; cases q; exact ⟨o, e', r⟩
/-- a block over the signs of a text -/
theorem comp_str {elt iter : Expr} {x : Str} {px : Pos} {scope : Scope} {cl : List (Str × Addr)} {pos : Pos} {Q : Value → Shared → Prop}
    (F₀ : Fr h₀ L s.heap m) (hclos : closureFor scope env = pure cl) (hcell : ∀ y ∈ scope.names, y.2 ≠ .cell) (hkind : scope.kind = .function)
    (hnames : ∀ y ∈ scope.names, y.2 = .local → scope.names.lookup y.1 = some .local) (hx : scope.names.lookup x = some .local)
    (h : wpAny (model prog w) A (eval iter env) (StrSrc prog w A h₀ L m env elt x scope cl Q) E s)
    (hs : ∀ x, foldedSetIterable iter env x = pure x := by intro _; rfl) :
    wpAny (model prog w) A (eval (.ListComp elt [⟨.Name x px, iter, [], 0⟩] scope pos) env) Q E s := by
  rw [eval_ListComp]
  refine wpAny_comprehension_free (use := none) rfl hs hclos hkind hnames (wpAny_mono h (fun xv s₁ h₁ => ?_) fun _ _ e => e)
  obtain ⟨y, t, news, rfl, hh, F, N, ha, hsz, R⟩ := h₁
  refine wpAny_pyIter_ascii ha ?_
  refine block_U (S := fun _ => True) (Walks.strAscii hh s₁.heap.objs.size y t) hsz (fun i h st => by obtain ⟨o, e, _⟩ := st; exact ⟨o, e⟩) sign_st hcell hkind hx ⟨_, Heap.get?_push_size _ rfl, rfl, rfl⟩ ?_
    (F.keeps fun b o e => Heap.get?_push_of_some _ e) (N.grown fun b o e => Heap.get?_push_of_some _ e) (Nat.ne_of_lt F.ns.lt) (next_is_new F) (fun p hp => Nat.ne_of_lt (Heap.lt_size (N p hp).1)) trivial (R _) ?_
  · intro b hb
    rw [List.mem_singleton.mp hb]
    show s₁.heap.objs.size < (s₁.heap.push _).objs.size
    rw [Heap.size_push]
    exact Nat.lt_succ_self _
  · intro D C h tk m' ys news' F' N' o1 hn hC₀ hD₀ hCL hDL hCD offC fin
    refine ⟨m', hn, fun h'' hs'' => fin D h'' tk (F'.change hs'' hCL hC₀) (fun p hp => ⟨hs''.extBut _ _ ?_ (N' p hp).1, (N' p hp).2⟩) o1⟩
    rcases List.mem_cons.mp hp with rfl | hp
    · exact Ne.symm hCD
    · exact offC p hp
end
/-- a text's signs as numbers -/
def codes (x : Str) : List Int := x.cps.toList.map fun c => ((c : Nat) : Int)
theorem codes_snoc {x : Str} {i c : Nat} {t : Tok} {ys : List Value} (h : IntsAre ys ((codes x).take i)) (hc : x.cps[i]? = some c) : IntsAre (ys ++ [.int (c : Nat) t]) ((codes x).take (i + 1)) := by
  have e : (codes x).take (i + 1) = (codes x).take i ++ [((c : Nat) : Int)] := by
    rw [List.take_add_one]
    have : (codes x)[i]? = some ((c : Nat) : Int) := by
      unfold codes
      rw [List.getElem?_map]
      have : x.cps.toList[i]? = some c := by simpa using hc
      rw [this]; rfl
    rw [this]; rfl
  rw [e]
  exact ksk_snoc h
theorem codes_all {x : Str} {ys : List Value} (h : IntsAre ys ((codes x).take x.cps.size)) : IntsAre ys (codes x) := by
  have e : (codes x).take x.cps.size = codes x := List.take_of_length_le (by simp [codes])
  rw [e] at h; exact h

/-- the sort's questions, answered by one order -/
def runO {α : Type} (lt : Nat → Nat → Bool) (n : Nat) : KasT α → Option α
  | .ret a => some a
  | .ask i j k => if i < n ∧ j < n then runO lt n (k (lt i j)) else none
theorem kas_const {α : Type} {cmp : Nat → Nat → (Bool → Shared → Prop) → Shared → Prop} {lt : Nat → Nat → Bool} {n : Nat} {s : Shared} {Q : α → Shared → Prop} {a : α} (hc : ∀ i j C, i < n → j < n → C (lt i j) s → cmp i j C s) :
    ∀ t : KasT α, runO lt n t = some a → Q a s → t.kasWp cmp Q s
  | .ret b, e, h => by
    have e' : b = a := Option.some.inj e
    rw [e']; exact h
  | .ask i j k, e, h => by
    have e' : (if i < n ∧ j < n then runO lt n (k (lt i j)) else none) = some a := e
    by_cases q : i < n ∧ j < n
    · rw [if_pos q] at e'
      exact hc i j _ q.1 q.2 (kas_const hc (k (lt i j)) e' h)
    · rw [if_neg q] at e'; cases e'
/-- keys that are lists of ints of the ledger -/
def KeysAt (h : Heap) : List Value → List (List Int) → Prop
  | [], [] => True
  | v :: vs, k :: ks => (∃ a ys n, v = .ref a ∧ h.get? a = some (intL ys n) ∧ IntsAre ys.toList k) ∧ KeysAt h vs ks
  | _, _ => False
theorem KeysAt.nil {h : Heap} : KeysAt h [] [] := trivial
theorem KeysAt.cons {h : Heap} {a : Addr} {ys : List Value} {k : List Int} {vs : List Value} {ks : List (List Int)} (e : h.get? a = some (LCg.lst ys)) (hy : IntsAre ys k) (r : KeysAt h vs ks) : KeysAt h (.ref a :: vs) (k :: ks) := ⟨⟨a, _, _, rfl, e, by simpa using hy⟩, r⟩
theorem KeysAt.at : ∀ {h : Heap} {vs : List Value} {ks : List (List Int)}, KeysAt h vs ks → ∀ i, i < vs.length → ∃ a ys n, vs.getD i Value.none = .ref a ∧ h.get? a = some (intL ys n) ∧ IntsAre ys.toList (ks.getD i [])
  | _, [], [], _, i, hi => absurd hi (Nat.not_lt_zero _)
  | _, _ :: _, _ :: _, x, 0, _ => x.1
  | _, _ :: _, _ :: _, x, i + 1, hi => KeysAt.at x.2 i (by simpa using hi)
  | _, [], _ :: _, x, _, _ => x.elim
  | _, _ :: _, [], x, _, _ => x.elim
theorem KeysAt.looks {M : Model} : ∀ {h : Heap} {vs : List Value} {ks : List (List Int)}, KeysAt h vs ks → ∀ v ∈ vs, Looks M h (typeOf v) (.type "list")
  | _, [], _, _, _, hv => nomatch hv
  | _, _ :: _, [], x, _, _ => x.elim
  | _, _ :: _, _ :: _, x, v, hv => by
    rcases List.mem_cons.mp hv with rfl | hv
    · obtain ⟨a, ys, n, rfl, e, _⟩ := x.1
      exact (Looks.ld e).andThen .now
    · exact KeysAt.looks x.2 v hv
section
variable {prog : Program} {w : World} {A : Around} {E : Value → Shared → Prop} {s : Shared}
/-- the questions of a sort by such keys -/
theorem keys_sort {vs : List Value} {ks : List (List Int)} {n : Nat} {p : Array Nat} {G : Array Nat → Shared → Prop} (hu : A.units < cLine) (K : KeysAt s.heap vs ks) (h2 : 2 ≤ vs.length) (hn : vs.length = n)
    {lt : Nat → Nat → Bool} (hlt : ∀ i, i < n → ∀ j, j < n → decide (ks.getD i [] < ks.getD j []) = lt i j) (hr : runO lt n (kas_sort n) = some p) (h : G p s) :
    wpAny (model prog w) A (keyKind' (List.toArray vs)) (fun κ s' => (kas_sort n).kasWp (kas_ask prog w A κ vs) G s') E s := by
  refine kas_kind (T := .type "list") h2 K.looks (by decide) (by decide) ?_
  refine kas_const (lt := lt) (n := n) (fun i j C hi hj hC => ?_) _ hr h
  rw [← hlt i hi j hj] at hC
  obtain ⟨a, ys, c, e1, e2, e3⟩ := K.at i (by omega)
  obtain ⟨b, zs, d, f1, f2, f3⟩ := K.at j (by omega)
  unfold kas_ask
  rw [e1, f1, keyLt'_oneType]
  exact oneLt_list hu e2 f2 e3 f3 hC
end
end Mine

namespace Mine
open PySem PyProof.Rows.LCg PyProof.Rows.LCt PySem.W PyProof.Rows PySem.Calls PySem.Spec
theorem w_off_S2 : True := by
  w_top off
  exact trivial
local macro_rules | `(tactic| walk_at "binaryOp Add str str") => `(tactic| ((with_reducible show wpAny _ _ (binaryOp _ (Value.str _ _) (Value.str (Txt.mul _ _) _)) _ _ _); refine halt_in ?_))

theorem seg2 : ∀ {w : World} {p : Program} {loose : List Str} {mean : ExcName → Option Value} {mg mb : Str → Option Value} {G : Heap} {L fa : Addr} {m : Str → Option Value} {s : Shared} {Q : Flow → Shared → Prop} {lc : Addr} {nc : Nat} {c0 c1 c2 c3 : Int} {u0 u1 u2 u3 : Tok} {k1 k2 k3 k4 k5 k6 : Obj} {ps : Array Value}
    (B : Below callerA G [] G) (X : (hd.heap_39 w.params).In G) (T : Top p loose mean mg mb G) (hC : CodeHd G 78 76) (F : Fr G L s.heap m) (N : News G L s.heap [(lc, listOf #[.int c0 u0, .int c1 u1, .int c2 u2, .int c3 u3] nc), (L + 1 + 1 + 1 + 1 + 1 + 1, k6), (L + 1 + 1 + 1 + 1 + 1, k5), (L + 1 + 1 + 1 + 1, k4), (L + 1 + 1 + 1, k3), (L + 1 + 1, k2), (L + 1, k1), (76, tabObj ps)])
    (d1 : k1.data = .cell (some (.ref lc)))
    (hQ : ∀ h tk cd t, (cd = Str.ofString "a" ∨ cd = Str.ofString "a-B" ∨ cd = Str.ofString "a-B-B") → Fr G L h (fun y => if y = Str.ofString "code" then some (.str cd t) else m y) → News G L h [(lc, listOf #[.int c0 u0, .int c1 u1, .int c2 u2, .int c3 u3] nc), (L + 1 + 1 + 1 + 1 + 1 + 1, k6), (L + 1 + 1 + 1 + 1 + 1, k5), (L + 1 + 1 + 1 + 1, k4), (L + 1 + 1 + 1, k3), (L + 1 + 1, k2), (L + 1, k1), (76, tabObj ps)] → Q .next { s with heap := h, toks := tk }),
    wpAny (model PySem.Challenge.rw_rs0028_01.row.prog w) (callerA.deeper (envOfC (Str.ofString "law") lawScope L fa (.ref 78))) (execs ((lawBody.drop 2).take 1) (envOfC (Str.ofString "law") lawScope L fa (.ref 78))) Q (fun _ _ => False) s := by
  k_fill
  dsimp only [lawScope, lawBody, lawDef, PySem.Challenge.pw_rs0028_01, List.drop_succ_cons, List.drop_zero, List.take_succ_cons, List.take_zero]

  intro w p loose mean mg mb G L fa m s Q lc nc c0 c1 c2 c3 u0 u1 u2 u3 k1 k2 k3 k4 k5 k6 ps B X T hC F N d1 hQ
  clear hC
  k_steps
  unfold Halt
  obtain ⟨j, hj⟩ : ∃ j : Int, ([c0, c1, c2, c3].getD (Int.toNat 0) 0).fdiv 63 = j := ⟨_, rfl⟩
  rw [hj] at *
  have h3 : j.fmod 3 = 0 ∨ j.fmod 3 = 1 ∨ j.fmod 3 = 2 := by
    have h1 := Int.fmod_nonneg_of_pos j (b := 3) (by decide)
    have h2 := Int.fmod_lt_of_pos j (b := 3) (by decide)
    omega
  rcases h3 with h3 | h3 | h3 <;> rw [h3]
  · rw [show Txt.mul (Str.ofString "-B") 0 = Str.ofString "" by decide]
    k_steps
    refine wpAny_execs_nil ?_
    exact hQ _ _ (Str.ofString "a" ++ Str.ofString "") _ (.inl (by decide)) (by k_asm) (by k_asm)
  · rw [show Txt.mul (Str.ofString "-B") 1 = Str.ofString "-B" by decide]
    k_steps
    refine wpAny_execs_nil ?_
    exact hQ _ _ (Str.ofString "a" ++ Str.ofString "-B") _ (.inr (.inl (by decide))) (by k_asm) (by k_asm)
  · rw [show Txt.mul (Str.ofString "-B") 2 = Str.ofString "-B-B" by decide]
    k_steps
    refine wpAny_execs_nil ?_
    exact hQ _ _ (Str.ofString "a" ++ Str.ofString "-B-B") _ (.inr (.inr (by decide))) (by k_asm) (by k_asm)

end Mine

namespace Mine
open PyProof.V PySem PyProof.Rows.LCg PyProof.Rows.LCt PySem.W PyProof.Rows PySem.Calls PySem.Spec
theorem w_off_S3 : True := by
  w_top off
  exact trivial

def bl (cd : Str) : List Str := [Str.ofString "C", Str.ofString "C.", Str.ofString ".C", Str.ofString "C-", Str.ofString "c", Str.ofString "C." ++ cd ++ Str.ofString "-", Str.ofString "C." ++ cd]
theorem strs_snoc {x : Str} {t : Tok} : ∀ {vs : List Value} {ss : List Str}, StrsAre vs ss → StrsAre (vs ++ [.str x t]) (ss ++ [x])
  | _, _, .nil => .cons x t .nil
  | _, _, .cons y u h => .cons y u (strs_snoc h)
theorem strs_to {vs : List Value} {a b : List Str} (h : StrsAre vs a) (e : a = b) : StrsAre vs b := e ▸ h
theorem strs7 {vs : List Value} {x0 x1 x2 x3 x4 x5 x6 : Str} (h : StrsAre vs [x0, x1, x2, x3, x4, x5, x6]) : ∃ t0 t1 t2 t3 t4 t5 t6, vs = [.str x0 t0, .str x1 t1, .str x2 t2, .str x3 t3, .str x4 t4, .str x5 t5, .str x6 t6] := by
  obtain ⟨t0, r0, e0, h0⟩ := strs_cons h
  obtain ⟨t1, r1, e1, h1⟩ := strs_cons h0
  obtain ⟨t2, t3, t4, t5, t6, e⟩ := strs5 h1
  exact ⟨t0, t1, t2, t3, t4, t5, t6, by rw [e0, e1, e]⟩
theorem seven_reads {h₀ h : Heap} {L : Addr} {news : List (Addr × Obj)} {b : Addr} {x0 x1 x2 x3 x4 x5 x6 : Str} {t0 t1 t2 t3 t4 t5 t6 : Tok} {n : Nat} (N : News h₀ L h news) (hm : (b, listOf #[.str x0 t0, .str x1 t1, .str x2 t2, .str x3 t3, .str x4 t4, .str x5 t5, .str x6 t6] n) ∈ news) : ∃ as, Reads h (.ref b) (.list [.str x0, .str x1, .str x2, .str x3, .str x4, .str x5, .str x6]) as :=
  ⟨_, reads_list_at (News.get N hm) rfl rfl (.cons (.str _ _) (.cons (.str _ _) (.cons (.str _ _) (.cons (.str _ _) (.cons (.str _ _) (.cons (.str _ _) (.cons (.str _ _) .nil)))))))⟩
/-- two lists of seven texts compared -/
theorem ne_seven {prog : Program} {w : World} {A : Around} {E : Value → Shared → Prop} {s : Shared} {h₀ : Heap} {L : Addr} {news : List (Addr × Obj)} {a b : Addr} {x0 x1 x2 x3 x4 x5 x6 : Str} {t0 t1 t2 t3 t4 t5 t6 u0 u1 u2 u3 u4 u5 u6 : Tok} {n n' : Nat} {Q : Value → Shared → Prop} (N : News h₀ L s.heap news) (ha : (a, listOf #[.str x0 t0, .str x1 t1, .str x2 t2, .str x3 t3, .str x4 t4, .str x5 t5, .str x6 t6] n) ∈ news) (hb : (b, listOf #[.str x0 u0, .str x1 u1, .str x2 u2, .str x3 u3, .str x4 u4, .str x5 u5, .str x6 u6] n') ∈ news)
    (ok : ∀ x ∈ [x0, x1, x2, x3, x4, x5, x6], PyData.strOk x = true) (hu : A.units + 64 < cLine) (h : Q (.bool false) s) : wpAny (model prog w) A (compareOp .NotEq (.ref a) (.ref b)) Q E s := by
  obtain ⟨_, a1⟩ := seven_reads N ha
  obtain ⟨_, a2⟩ := seven_reads N hb
  have o : SeqAt.shaped (.list [.str x0, .str x1, .str x2, .str x3, .str x4, .str x5, .str x6]) = true := by
    simp [SeqAt.shaped, PyData.canLay0, PyData.canLayAll0, PyData.depth, PyData.depthAll, ok x0 (by simp), ok x1 (by simp), ok x2 (by simp), ok x3 (by simp), ok x4 (by simp), ok x5 (by simp), ok x6 (by simp)]
  refine ne_dataH a1 a2 o o hu ?_
  have e : PyData.eqv (.list [.str x0, .str x1, .str x2, .str x3, .str x4, .str x5, .str x6]) (.list [.str x0, .str x1, .str x2, .str x3, .str x4, .str x5, .str x6]) = true := by simp [PyData.eqv, PyData.eqvAll]
  rw [e]; exact h
theorem cd_len {cd : Str} (hcd : cd = Str.ofString "a" ∨ cd = Str.ofString "a-B" ∨ cd = Str.ofString "a-B-B") : cd.length ≤ 5 := by rcases hcd with rfl | rfl | rfl <;> decide
theorem cd_len2 {cd : Str} (hcd : cd = Str.ofString "a" ∨ cd = Str.ofString "a-B" ∨ cd = Str.ofString "a-B-B") : (cd ++ Str.ofString "-").length ≤ 64 := by rcases hcd with rfl | rfl | rfl <;> decide
theorem cd_len3 {cd : Str} (hcd : cd = Str.ofString "a" ∨ cd = Str.ofString "a-B" ∨ cd = Str.ofString "a-B-B") : cd.length ≤ 64 := by rcases hcd with rfl | rfl | rfl <;> decide
theorem bl_ok {cd : Str} (hcd : cd = Str.ofString "a" ∨ cd = Str.ofString "a-B" ∨ cd = Str.ofString "a-B-B") : ∀ x ∈ bl cd, PyData.strOk x = true := by rcases hcd with rfl | rfl | rfl <;> decide +kernel
theorem seven_cases {i : Nat} (h : i < 7) : i = 0 ∨ i = 1 ∨ i = 2 ∨ i = 3 ∨ i = 4 ∨ i = 5 ∨ i = 6 := by omega
local macro_rules | `(tactic| walk_at "exec Assign cons ListComp") => `(tactic| refine halt_in ?_)
local macro_rules | `(tactic| walk_at "CompSrc") => `(tactic| refine halt_in ?_)
local macro_rules | `(tactic| walk_at "CompEnd") => `(tactic| refine halt_in ?_)
local macro_rules | `(tactic| walk_at "compareOp NotEq ref ref") => `(tactic| refine halt_in ?_)

theorem seg3 : ∀ {w : World} {p : Program} {loose : List Str} {mean : ExcName → Option Value} {mg mb : Str → Option Value} {G : Heap} {L fa : Addr} {m : Str → Option Value} {s : Shared} {Q : Flow → Shared → Prop} {lc : Addr} {nc : Nat} {c0 c1 c2 c3 : Int} {u0 u1 u2 u3 : Tok} {k1 k2 k3 k4 k5 k6 : Obj} {ps : Array Value} {cd : Str} {tc : Tok}
    (B : Below callerA G [] G) (X : (hd.heap_39 w.params).In G) (T : Top p loose mean mg mb G) (hC : CodeHd G 78 76) (F : Fr G L s.heap (fun y => if y = Str.ofString "code" then some (.str cd tc) else m y)) (N : News G L s.heap [(lc, listOf #[.int c0 u0, .int c1 u1, .int c2 u2, .int c3 u3] nc), (L + 1 + 1 + 1 + 1 + 1 + 1, k6), (L + 1 + 1 + 1 + 1 + 1, k5), (L + 1 + 1 + 1 + 1, k4), (L + 1 + 1 + 1, k3), (L + 1 + 1, k2), (L + 1, k1), (76, tabObj ps)])
    (d1 : k1.data = .cell (some (.ref lc))) (hcd : cd = Str.ofString "a" ∨ cd = Str.ofString "a-B" ∨ cd = Str.ofString "a-B-B")
    (hQ : ∀ h tk (m' : Str → Option Value) lb nb b0 b1 b2 b3 b4 b5 b6, Fr G L h (fun y => if y = Str.ofString "built" then some (.ref lb) else m' y) → News G L h [(lb, listOf #[.str (Str.ofString "C") b0, .str (Str.ofString "C.") b1, .str (Str.ofString ".C") b2, .str (Str.ofString "C-") b3, .str (Str.ofString "c") b4, .str (Str.ofString "C." ++ cd ++ Str.ofString "-") b5, .str (Str.ofString "C." ++ cd) b6] nb), (lc, listOf #[.int c0 u0, .int c1 u1, .int c2 u2, .int c3 u3] nc), (L + 1 + 1 + 1 + 1 + 1 + 1, k6), (L + 1 + 1 + 1 + 1 + 1, k5), (L + 1 + 1 + 1 + 1, k4), (L + 1 + 1 + 1, k3), (L + 1 + 1, k2), (L + 1, k1), (76, tabObj ps)] → (∀ b ∈ [lc, L + 1 + 1 + 1 + 1 + 1 + 1, L + 1 + 1 + 1 + 1 + 1, L + 1 + 1 + 1 + 1, L + 1 + 1 + 1, L + 1 + 1, L + 1, 76], @Ne Nat b lb) → Q .next { s with heap := h, toks := tk }),
    wpAny (model PySem.Challenge.rw_rs0028_01.row.prog w) (callerA.deeper (envOfC (Str.ofString "law") lawScope L fa (.ref 78))) (execs ((lawBody.drop 3).take 3) (envOfC (Str.ofString "law") lawScope L fa (.ref 78))) Q (fun _ _ => False) s := by
  k_fill
  dsimp only [lawScope, lawBody, lawDef, PySem.Challenge.pw_rs0028_01, List.drop_succ_cons, List.drop_zero, List.take_succ_cons, List.take_zero]

  intro w p loose mean mg mb G L fa m s Q lc nc c0 c1 c2 c3 u0 u1 u2 u3 k1 k2 k3 k4 k5 k6 ps cd tc B X T hC F N d1 hcd hQ
  have hcl := cd_len hcd
  clear hC
  k_steps
  unfold Halt
  k_dflt (refine LCg.Assign_ListComp_U (F₀ := by k_asm) (by rfl) (by with_unfolding_all rfl) (by with_unfolding_all rfl) (by decide) (by rfl) (by decide) (by rfl) (by rfl) (by rfl) ?_)
  k_steps
  unfold Halt
  refine LCg.CompSrc.ledger (by rfl) (by k_asm) (by k_asm) (by k_mem) (by exact Nat.le_of_ble_eq_true rfl) ?_
  intro g
  refine rest_ind (fun i ys => StrsAre ys ((bl cd).take i)) 7 .nil ?_ ?_
  · rintro i ys hi hys v I oI C oC D m₂ h tk E' hv hC2 hx2 F2 N2 off ne
    have hi' : i < 7 := hi
    have h7 := seven_cases hi'
    rcases h7 with rfl | rfl | rfl | rfl | rfl | rfl | rfl
    · obtain rfl : v = Value.ref _ := (Option.some.inj hv).symm
      clear hv hi hi'
      k_steps
      unfold Halt
      exact CompEnd.intro (by k_asm) (by k_asm) _ (fun p hp => hp) off (Or.inr ⟨_, by k_mem, rfl, _, rfl⟩) ⟨rfl, strs_to (strs_snoc hys) (by rcases hcd with rfl | rfl | rfl <;> decide)⟩
    · obtain rfl : v = Value.ref _ := (Option.some.inj hv).symm
      clear hv hi hi'
      k_steps
      unfold Halt
      exact CompEnd.intro (by k_asm) (by k_asm) _ (fun p hp => hp) off (Or.inr ⟨_, by k_mem, rfl, _, rfl⟩) ⟨rfl, strs_to (strs_snoc hys) (by rcases hcd with rfl | rfl | rfl <;> decide)⟩
    · obtain rfl : v = Value.ref _ := (Option.some.inj hv).symm
      clear hv hi hi'
      k_steps
      unfold Halt
      exact CompEnd.intro (by k_asm) (by k_asm) _ (fun p hp => hp) off (Or.inr ⟨_, by k_mem, rfl, _, rfl⟩) ⟨rfl, strs_to (strs_snoc hys) (by rcases hcd with rfl | rfl | rfl <;> decide)⟩
    · obtain rfl : v = Value.ref _ := (Option.some.inj hv).symm
      clear hv hi hi'
      k_steps
      unfold Halt
      exact CompEnd.intro (by k_asm) (by k_asm) _ (fun p hp => hp) off (Or.inr ⟨_, by k_mem, rfl, _, rfl⟩) ⟨rfl, strs_to (strs_snoc hys) (by rcases hcd with rfl | rfl | rfl <;> decide)⟩
    · obtain rfl : v = Value.ref _ := (Option.some.inj hv).symm
      clear hv hi hi'
      k_steps
      unfold Halt
      exact CompEnd.intro (by k_asm) (by k_asm) _ (fun p hp => hp) off (Or.inr ⟨_, by k_mem, rfl, _, rfl⟩) ⟨rfl, strs_to (strs_snoc hys) (by rcases hcd with rfl | rfl | rfl <;> decide)⟩
    · obtain rfl : v = Value.ref _ := (Option.some.inj hv).symm
      clear hv hi hi'
      k_steps
      unfold Halt
      exact CompEnd.intro (by k_asm) (by k_asm) _ (fun p hp => hp) off (Or.inr ⟨_, by k_mem, rfl, _, rfl⟩) ⟨rfl, strs_to (strs_snoc hys) (by rcases hcd with rfl | rfl | rfl <;> decide)⟩
    · obtain rfl : v = Value.ref _ := (Option.some.inj hv).symm
      clear hv hi hi'
      k_steps
      unfold Halt
      exact CompEnd.intro (by k_asm) (by k_asm) _ (fun p hp => hp) off (Or.inr ⟨_, by k_mem, rfl, _, rfl⟩) ⟨rfl, strs_to (strs_snoc hys) (by rcases hcd with rfl | rfl | rfl <;> decide)⟩
  · intro ys hys
    unfold LCg.FinA
    intro D h tk F2 N2 o2
    obtain ⟨t0, t1, t2, t3, t4, t5, t6, rfl⟩ := strs7 hys
    have o3 := o2
    simp only [LCg.Off1, and_true] at o3
    k_steps
    unfold Halt
    refine ne_seven (by k_asm) (by k_mem) (by k_mem) (bl_ok hcd) (by ke_room) ?_
    k_steps
    refine wpAny_execs_nil ?_
    refine hQ _ _ _ _ _ _ _ _ _ _ _ _ (by k_asm) (cb_drop (by k_asm) (by kcj_all)) ?_
    obtain ⟨-, -, -, -, -, -, -, -, q1, q2, q3, q4, q5, q6, q7, q8⟩ := o3
    intro b hb
    simp only [List.mem_cons, List.not_mem_nil, or_false] at hb
    rcases hb with rfl | rfl | rfl | rfl | rfl | rfl | rfl | rfl <;> assumption

end Mine

namespace Mine
open PyProof.V PySem PyProof.Rows.LCg PyProof.Rows.LCt PySem.W PyProof.Rows PySem.Calls PySem.Spec
theorem w_off_S6 : True := by
  w_top off
  exact trivial

/-- the seven names in the order of their signs -/
def nm (cd : Str) (i : Fin 7) : Str := match i with
  | 0 => Str.ofString ".C"
  | 1 => Str.ofString "C"
  | 2 => Str.ofString "C-"
  | 3 => Str.ofString "C."
  | 4 => Str.ofString "C." ++ cd
  | 5 => Str.ofString "C." ++ cd ++ Str.ofString "-"
  | 6 => Str.ofString "c"
theorem bl_asc {cd : Str} (hcd : cd = Str.ofString "a" ∨ cd = Str.ofString "a-B" ∨ cd = Str.ofString "a-B-B") : ∀ x ∈ bl cd, x.cps.all (· < 128) = true ∧ x.cps.size ≤ 64 := by rcases hcd with rfl | rfl | rfl <;> decide +kernel
theorem bl_asc1 {cd x : Str} (hcd : cd = Str.ofString "a" ∨ cd = Str.ofString "a-B" ∨ cd = Str.ofString "a-B-B") (h : x ∈ bl cd) : x.cps.all (· < 128) = true := (bl_asc hcd x h).1
theorem bl_size {cd x : Str} (hcd : cd = Str.ofString "a" ∨ cd = Str.ofString "a-B" ∨ cd = Str.ofString "a-B-B") (h : x ∈ bl cd) : x.cps.size ≤ sizeLine := Nat.le_trans (bl_asc hcd x h).2 (by rw [sizeLine_eq]; decide)
def rk (i : Nat) : Nat := match i with | 0 => 1 | 1 => 3 | 2 => 0 | 3 => 2 | 4 => 6 | 5 => 5 | _ => 4
theorem rk_run : runO (fun i j => Nat.blt (rk i) (rk j)) 7 (kas_sort 7) = some #[2, 0, 3, 1, 6, 5, 4] := by rfl
theorem bl_lt {cd : Str} (hcd : cd = Str.ofString "a" ∨ cd = Str.ofString "a-B" ∨ cd = Str.ofString "a-B-B") : ∀ i, i < 7 → ∀ j, j < 7 → decide (((bl cd).map codes).getD i [] < ((bl cd).map codes).getD j []) = Nat.blt (rk i) (rk j) := by
  rcases hcd with rfl | rfl | rfl <;> decide +kernel

/-- apart, and not to be counted with -/
structure NeA (a b : Addr) : Prop where
  ne : a ≠ b
theorem NeA.l {a b : Addr} (h : NeA a b) : a ≠ b := h.ne
theorem NeA.r {a b : Addr} (h : NeA a b) : b ≠ a := h.ne.symm
local macro_rules | `(tactic| k_ne) => `(tactic| first | (with_reducible exact NeA.l (by assumption)) | (with_reducible exact NeA.r (by assumption)) | (refine neN ?_; (try dsimp only); omega))
local macro_rules | `(tactic| walk_at "eval ListComp") => `(tactic| refine halt_in ?_)
local macro_rules | `(tactic| walk_at "CompEnd") => `(tactic| refine halt_in ?_)
local macro_rules | `(tactic| walk_at "eval ListComp") => `(tactic| (k_here; k_dflt (refine comp_str (F₀ := by k_asm) (by with_unfolding_all rfl) (by decide) (by rfl) (by decide) (by rfl) ?_)))
local macro_rules | `(tactic| walk_at "StrSrc") => `(tactic| refine halt_in ?_)
local macro_rules | `(tactic| walk_at "keyKind'") => `(tactic| refine halt_in ?_)

theorem seg6 : ∀ {w : World} {p : Program} {loose : List Str} {mean : ExcName → Option Value} {mg mb : Str → Option Value} {G : Heap} {L fa : Addr} {m : Str → Option Value} {s : Shared} {Q : Flow → Shared → Prop} {lc : Addr} {nc : Nat} {c0 c1 c2 c3 : Int} {u0 u1 u2 u3 : Tok} {k1 k2 k3 k4 k5 k6 : Obj} {ps : Array Value} {cd : Str} {lb : Addr} {nb : Nat} {b0 b1 b2 b3 b4 b5 b6 : Tok}
    (B : Below callerA G [] G) (X : (hd.heap_39 w.params).In G) (T : Top p loose mean mg mb G) (hC : CodeHd G 78 76) (F : Fr G L s.heap (fun y => if y = Str.ofString "built" then some (.ref lb) else m y)) (N : News G L s.heap [(lb, listOf #[.str (Str.ofString "C") b0, .str (Str.ofString "C.") b1, .str (Str.ofString ".C") b2, .str (Str.ofString "C-") b3, .str (Str.ofString "c") b4, .str (Str.ofString "C." ++ cd ++ Str.ofString "-") b5, .str (Str.ofString "C." ++ cd) b6] nb), (lc, listOf #[.int c0 u0, .int c1 u1, .int c2 u2, .int c3 u3] nc), (L + 1 + 1 + 1 + 1 + 1 + 1, k6), (L + 1 + 1 + 1 + 1 + 1, k5), (L + 1 + 1 + 1 + 1, k4), (L + 1 + 1 + 1, k3), (L + 1 + 1, k2), (L + 1, k1), (76, tabObj #[])])
    (d1 : k1.data = .cell (some (.ref lc))) (d2 : k2.data = .cell none) (hcd : cd = Str.ofString "a" ∨ cd = Str.ofString "a-B" ∨ cd = Str.ofString "a-B-B") (l0 : @LT.lt Nat _ 76 L) (e1 : @Ne Nat lc (L + 1 + 1)) (e2 : @Ne Nat lb (L + 1 + 1)) (e3 : @Ne Nat lc 76) (e4 : @Ne Nat lb 76)
    (hQ : ∀ h tk m' ln nn k2 ps a0 a1 a2 a3 a4 a5 a6, Fr G L h m' → k2.data = .cell (some (.ref ln)) → News G L h [(ln, listOf #[.str (nm cd 0) a0, .str (nm cd 1) a1, .str (nm cd 2) a2, .str (nm cd 3) a3, .str (nm cd 4) a4, .str (nm cd 5) a5, .str (nm cd 6) a6] nn), (lc, listOf #[.int c0 u0, .int c1 u1, .int c2 u2, .int c3 u3] nc), (L + 1 + 1 + 1 + 1 + 1 + 1, k6), (L + 1 + 1 + 1 + 1 + 1, k5), (L + 1 + 1 + 1 + 1, k4), (L + 1 + 1 + 1, k3), (L + 1 + 1, k2), (L + 1, k1), (76, tabObj ps)] → (∀ b ∈ [lc, L + 1 + 1 + 1 + 1 + 1 + 1, L + 1 + 1 + 1 + 1 + 1, L + 1 + 1 + 1 + 1, L + 1 + 1 + 1, L + 1 + 1, L + 1, 76], @Ne Nat b ln) → Q .next { s with heap := h, toks := tk }),
    wpAny (model PySem.Challenge.rw_rs0028_01.row.prog w) (callerA.deeper (envOfC (Str.ofString "law") lawScope L fa (.ref 78))) (execs ((lawBody.drop 6).take 1) (envOfC (Str.ofString "law") lawScope L fa (.ref 78))) Q (fun _ _ => False) s := by
  k_fill
  dsimp only [lawScope, lawBody, lawDef, PySem.Challenge.pw_rs0028_01, List.drop_succ_cons, List.drop_zero, List.take_succ_cons, List.take_zero]

  intro w p loose mean mg mb G L fa m s Q lc nc c0 c1 c2 c3 u0 u1 u2 u3 k1 k2 k3 k4 k5 k6 ps cd lb nb b0 b1 b2 b3 b4 b5 b6 B X T hC F N d1 d2 hcd l0 e1 e2 e3 e4 hQ
  k_steps
  unfold Halt
  refine ⟨_, _, _, rfl, rfl, by k_asm, by k_asm, bl_asc1 hcd (.head _), bl_size hcd (.head _), fun g => ?_⟩
  refine rest_ind (fun i ys => IntsAre ys ((codes (Str.ofString "C")).take i)) _ .nil (by
    rintro i ys hi hys v I oI C oC D m₂ h tk E' ⟨cc, u, hcc, rfl⟩ hC2 hx2 F2 N2 off ne
    k_steps
    unfold Halt
    exact CompEnd.intro (by k_asm) (by k_asm) _ (fun p hp => hp) off trivial ⟨rfl, codes_snoc hys hcc⟩) ?_
  intro ys0 hys0
  replace hys0 := codes_all hys0
  unfold LCg.FinE
  intro D0 h tk F2 N2 o2
  simp only [LCg.Off1, and_true] at o2
  obtain ⟨n1, n2, -, -, -, -, -, -, -, -, n3, -, -⟩ := o2
  have n0k := NeA.mk n1
  have n0d := NeA.mk n2
  have n0c := NeA.mk n3
  clear n1 n2 n3
  k_steps
  unfold Halt
  refine ⟨_, _, _, rfl, rfl, by k_asm, by k_asm, bl_asc1 hcd (.tail _ (.head _)), bl_size hcd (.tail _ (.head _)), fun g => ?_⟩
  refine rest_ind (fun i ys => IntsAre ys ((codes (Str.ofString "C.")).take i)) _ .nil (by
    rintro i ys hi hys v I oI C oC D m₂ h tk E' ⟨cc, u, hcc, rfl⟩ hC2 hx2 F2 N2 off ne
    k_steps
    unfold Halt
    exact CompEnd.intro (by k_asm) (by k_asm) _ (fun p hp => hp) off trivial ⟨rfl, codes_snoc hys hcc⟩) ?_
  intro ys1 hys1
  replace hys1 := codes_all hys1
  unfold LCg.FinE
  intro D1 h tk F2 N2 o2
  simp only [LCg.Off1, and_true] at o2
  obtain ⟨-, n1, n2, -, -, -, -, -, -, -, -, n3, -, -⟩ := o2
  have n1k := NeA.mk n1
  have n1d := NeA.mk n2
  have n1c := NeA.mk n3
  clear n1 n2 n3
  k_steps
  unfold Halt
  refine ⟨_, _, _, rfl, rfl, by k_asm, by k_asm, bl_asc1 hcd (.tail _ (.tail _ (.head _))), bl_size hcd (.tail _ (.tail _ (.head _))), fun g => ?_⟩
  refine rest_ind (fun i ys => IntsAre ys ((codes (Str.ofString ".C")).take i)) _ .nil (by
    rintro i ys hi hys v I oI C oC D m₂ h tk E' ⟨cc, u, hcc, rfl⟩ hC2 hx2 F2 N2 off ne
    k_steps
    unfold Halt
    exact CompEnd.intro (by k_asm) (by k_asm) _ (fun p hp => hp) off trivial ⟨rfl, codes_snoc hys hcc⟩) ?_
  intro ys2 hys2
  replace hys2 := codes_all hys2
  unfold LCg.FinE
  intro D2 h tk F2 N2 o2
  simp only [LCg.Off1, and_true] at o2
  obtain ⟨-, -, n1, n2, -, -, -, -, -, -, -, -, n3, -, -⟩ := o2
  have n2k := NeA.mk n1
  have n2d := NeA.mk n2
  have n2c := NeA.mk n3
  clear n1 n2 n3
  k_steps
  unfold Halt
  refine ⟨_, _, _, rfl, rfl, by k_asm, by k_asm, bl_asc1 hcd (.tail _ (.tail _ (.tail _ (.head _)))), bl_size hcd (.tail _ (.tail _ (.tail _ (.head _)))), fun g => ?_⟩
  refine rest_ind (fun i ys => IntsAre ys ((codes (Str.ofString "C-")).take i)) _ .nil (by
    rintro i ys hi hys v I oI C oC D m₂ h tk E' ⟨cc, u, hcc, rfl⟩ hC2 hx2 F2 N2 off ne
    k_steps
    unfold Halt
    exact CompEnd.intro (by k_asm) (by k_asm) _ (fun p hp => hp) off trivial ⟨rfl, codes_snoc hys hcc⟩) ?_
  intro ys3 hys3
  replace hys3 := codes_all hys3
  unfold LCg.FinE
  intro D3 h tk F2 N2 o2
  simp only [LCg.Off1, and_true] at o2
  obtain ⟨-, -, -, n1, n2, -, -, -, -, -, -, -, -, n3, -, -⟩ := o2
  have n3k := NeA.mk n1
  have n3d := NeA.mk n2
  have n3c := NeA.mk n3
  clear n1 n2 n3
  k_steps
  unfold Halt
  refine ⟨_, _, _, rfl, rfl, by k_asm, by k_asm, bl_asc1 hcd (.tail _ (.tail _ (.tail _ (.tail _ (.head _))))), bl_size hcd (.tail _ (.tail _ (.tail _ (.tail _ (.head _))))), fun g => ?_⟩
  refine rest_ind (fun i ys => IntsAre ys ((codes (Str.ofString "c")).take i)) _ .nil (by
    rintro i ys hi hys v I oI C oC D m₂ h tk E' ⟨cc, u, hcc, rfl⟩ hC2 hx2 F2 N2 off ne
    k_steps
    unfold Halt
    exact CompEnd.intro (by k_asm) (by k_asm) _ (fun p hp => hp) off trivial ⟨rfl, codes_snoc hys hcc⟩) ?_
  intro ys4 hys4
  replace hys4 := codes_all hys4
  unfold LCg.FinE
  intro D4 h tk F2 N2 o2
  simp only [LCg.Off1, and_true] at o2
  obtain ⟨-, -, -, -, n1, n2, -, -, -, -, -, -, -, -, n3, -, -⟩ := o2
  have n4k := NeA.mk n1
  have n4d := NeA.mk n2
  have n4c := NeA.mk n3
  clear n1 n2 n3
  k_steps
  unfold Halt
  refine ⟨_, _, _, rfl, rfl, by k_asm, by k_asm, bl_asc1 hcd (.tail _ (.tail _ (.tail _ (.tail _ (.tail _ (.head _)))))), bl_size hcd (.tail _ (.tail _ (.tail _ (.tail _ (.tail _ (.head _)))))), fun g => ?_⟩
  refine rest_ind (fun i ys => IntsAre ys ((codes (Str.ofString "C." ++ cd ++ Str.ofString "-")).take i)) _ .nil (by
    rintro i ys hi hys v I oI C oC D m₂ h tk E' ⟨cc, u, hcc, rfl⟩ hC2 hx2 F2 N2 off ne
    k_steps
    unfold Halt
    exact CompEnd.intro (by k_asm) (by k_asm) _ (fun p hp => hp) off trivial ⟨rfl, codes_snoc hys hcc⟩) ?_
  intro ys5 hys5
  replace hys5 := codes_all hys5
  unfold LCg.FinE
  intro D5 h tk F2 N2 o2
  simp only [LCg.Off1, and_true] at o2
  obtain ⟨-, -, -, -, -, n1, n2, -, -, -, -, -, -, -, -, n3, -, -⟩ := o2
  have n5k := NeA.mk n1
  have n5d := NeA.mk n2
  have n5c := NeA.mk n3
  clear n1 n2 n3
  k_steps
  unfold Halt
  refine ⟨_, _, _, rfl, rfl, by k_asm, by k_asm, bl_asc1 hcd (.tail _ (.tail _ (.tail _ (.tail _ (.tail _ (.tail _ (.head _))))))), bl_size hcd (.tail _ (.tail _ (.tail _ (.tail _ (.tail _ (.tail _ (.head _))))))), fun g => ?_⟩
  refine rest_ind (fun i ys => IntsAre ys ((codes (Str.ofString "C." ++ cd)).take i)) _ .nil (by
    rintro i ys hi hys v I oI C oC D m₂ h tk E' ⟨cc, u, hcc, rfl⟩ hC2 hx2 F2 N2 off ne
    k_steps
    unfold Halt
    exact CompEnd.intro (by k_asm) (by k_asm) _ (fun p hp => hp) off trivial ⟨rfl, codes_snoc hys hcc⟩) ?_
  intro ys6 hys6
  replace hys6 := codes_all hys6
  unfold LCg.FinE
  intro D6 h tk F2 N2 o2
  simp only [LCg.Off1, and_true] at o2
  obtain ⟨-, -, -, -, -, -, n1, n2, -, -, -, -, -, -, -, -, n3, -, -⟩ := o2
  have n6k := NeA.mk n1
  have n6d := NeA.mk n2
  have n6c := NeA.mk n3
  clear n1 n2 n3
  k_steps
  unfold Halt
  refine keys_sort (ks := (bl cd).map codes) (by k_units) (KeysAt.cons (News.get (by k_asm) (by k_mem)) hys0 (KeysAt.cons (News.get (by k_asm) (by k_mem)) hys1 (KeysAt.cons (News.get (by k_asm) (by k_mem)) hys2 (KeysAt.cons (News.get (by k_asm) (by k_mem)) hys3 (KeysAt.cons (News.get (by k_asm) (by k_mem)) hys4 (KeysAt.cons (News.get (by k_asm) (by k_mem)) hys5 (KeysAt.cons (News.get (by k_asm) (by k_mem)) hys6 KeysAt.nil))))))) (by exact Nat.le_of_ble_eq_true rfl) rfl (bl_lt hcd) rk_run ?_
  k_steps
  refine wpAny_execs_nil ?_
  refine hQ _ _ _ _ _ _ _ _ _ _ _ _ _ _ (by k_asm) (by assumption) (cb_drop (by k_asm) (by kcj_all)) ?_
  intro b hb
  simp only [List.mem_cons, List.not_mem_nil, or_false] at hb
  rcases hb with rfl | rfl | rfl | rfl | rfl | rfl | rfl | rfl <;> (refine neN ?_; omega)

end Mine

namespace Mine
open PyProof.V PySem PyProof.Rows.LCg PyProof.Rows.LCt PySem.W PyProof.Rows PySem.Calls PySem.Spec
theorem w_off_S7 : True := by
  w_top off
  exact trivial
local macro_rules | `(tactic| walk_at "ours 0") => `(tactic| skip)

def tk7 (a0 a1 a2 a3 a4 a5 a6 : Tok) (i : Fin 7) : Tok := match i with
  | 0 => a0
  | 1 => a1
  | 2 => a2
  | 3 => a3
  | 4 => a4
  | 5 => a5
  | 6 => a6
theorem sub_names {prog : Program} {w : World} {A : Around} {E : Value → Shared → Prop} {s : Shared} {h₀ : Heap} {L : Addr} {news : List (Addr × Obj)} {value slice : PySem.Expr} {idx : Int} {u : Tok} {l : Addr} {cd : Str} {a0 a1 a2 a3 a4 a5 a6 : Tok} {n : Nat} {Q : Value → Shared → Prop} (k : Fin 7) (N : News h₀ L s.heap news)
    (hm : (l, listOf #[.str (nm cd 0) a0, .str (nm cd 1) a1, .str (nm cd 2) a2, .str (nm cd 3) a3, .str (nm cd 4) a4, .str (nm cd 5) a5, .str (nm cd 6) a6] n) ∈ news) (hk : idx = ((k.val : Nat) : Int)) (h : Q (.str (nm cd k) (tk7 a0 a1 a2 a3 a4 a5 a6 k)) s)
    (hs : subscripted slice false (.ref l) (.int idx u) = operate [.ref l, .int idx u] (getItem (.ref l) (.int idx u))) (hg : ∀ r, letTemporaryGo value (.ref l) r = pure ()) :
    wpAny (model prog w) A (subscriptTail value slice (.ref l) (.int idx u)) Q E s := by
  subst hk
  refine item_list (News.isList N hm) (Int.natCast_nonneg _) (by have := k.isLt; omega) ?_ h hs hg
  rw [Int.toNat_natCast]
  match k with
  | 0 => rfl
  | 1 => rfl
  | 2 => rfl
  | 3 => rfl
  | 4 => rfl
  | 5 => rfl
  | 6 => rfl
theorem nm_sgn {cd : Str} (hcd : cd = Str.ofString "a" ∨ cd = Str.ofString "a-B" ∨ cd = Str.ofString "a-B-B") : ∀ x y : Fin 7, sgnS (nm cd x) (nm cd y) = (if decide (((y.val : Nat) : Int) < ((x.val : Nat) : Int)) = true then (1 : Int) else 0) - (if decide (((x.val : Nat) : Int) < ((y.val : Nat) : Int)) = true then (1 : Int) else 0) := by
  rcases hcd with rfl | rfl | rfl <;> decide +kernel
theorem nm_up {cd : Str} (hcd : cd = Str.ofString "a" ∨ cd = Str.ofString "a-B" ∨ cd = Str.ofString "a-B-B") : ∀ x y : Fin 7, x < y → (nm cd x).cps.toList < (nm cd y).cps.toList := by
  rcases hcd with rfl | rfl | rfl <;> decide +kernel
theorem nm_ok {cd : Str} (hcd : cd = Str.ofString "a" ∨ cd = Str.ofString "a-B" ∨ cd = Str.ofString "a-B-B") : ∀ x : Fin 7, PyData.strOk (nm cd x) = true := by
  rcases hcd with rfl | rfl | rfl <;> decide +kernel
local macro_rules | `(tactic| walk_at "pyIter ref") => `(tactic| refine halt_in ?_)
local macro_rules | `(tactic| walk_at "exec For Name Call cons nil") => `(tactic| refine halt_in ?_)
local macro_rules | `(tactic| walk_at "XPost") => `(tactic| (dsimp only [XPost]))
local macro_rules | `(tactic| walk_at "XEnd") => `(tactic| refine halt_in ?_)
local macro_rules | `(tactic| walk_at "call ref") => `(tactic| refine halt_in ?_)
local macro_rules | `(tactic| walk_at "subscriptTail Name Name ref int") => `(tactic| (k_here; (with_reducible show wpAny _ _ (subscriptTail _ _ (Value.ref _) (Value.int _ _)) _ _ _); k_dflt (refine' sub_names _ ?kN ?m0 ?kk ?_ ?ks ?kg; (case kN => k_asm); (case m0 => k_mem); (case kk => first | rfl | assumption | omega); (case ks => with_unfolding_all rfl); (case kg => intro _; with_unfolding_all rfl); k_whole)))

theorem seg7 : ∀ {w : World} {p : Program} {loose : List Str} {mean : ExcName → Option Value} {mg mb : Str → Option Value} {G : Heap} {L fa : Addr} {m : Str → Option Value} {s : Shared} {Q : Flow → Shared → Prop} {lc : Addr} {nc : Nat} {c0 c1 c2 c3 : Int} {u0 u1 u2 u3 : Tok} {k1 k2 k3 k4 k5 k6 : Obj} {ps : Array Value} {cd : Str} {ln : Addr} {nn : Nat} {a0 a1 a2 a3 a4 a5 a6 : Tok}
    (B : Below callerA G [] G) (X : (hd.heap_39 w.params).In G) (T : Top p loose mean mg mb G) (hC : CodeHd G 78 76) (F : Fr G L s.heap m) (N : News G L s.heap [(ln, listOf #[.str (nm cd 0) a0, .str (nm cd 1) a1, .str (nm cd 2) a2, .str (nm cd 3) a3, .str (nm cd 4) a4, .str (nm cd 5) a5, .str (nm cd 6) a6] nn), (lc, listOf #[.int c0 u0, .int c1 u1, .int c2 u2, .int c3 u3] nc), (L + 1 + 1 + 1 + 1 + 1 + 1, k6), (L + 1 + 1 + 1 + 1 + 1, k5), (L + 1 + 1 + 1 + 1, k4), (L + 1 + 1 + 1, k3), (L + 1 + 1, k2), (L + 1, k1), (76, tabObj ps)])
    (d1 : k1.data = .cell (some (.ref lc))) (d2 : k2.data = .cell (some (.ref ln))) (hcd : cd = Str.ofString "a" ∨ cd = Str.ofString "a-B" ∨ cd = Str.ofString "a-B-B")
    (hQ : ∀ h tk m', Fr G L h m' → News G L h [(ln, listOf #[.str (nm cd 0) a0, .str (nm cd 1) a1, .str (nm cd 2) a2, .str (nm cd 3) a3, .str (nm cd 4) a4, .str (nm cd 5) a5, .str (nm cd 6) a6] nn), (lc, listOf #[.int c0 u0, .int c1 u1, .int c2 u2, .int c3 u3] nc), (L + 1 + 1 + 1 + 1 + 1 + 1, k6), (L + 1 + 1 + 1 + 1 + 1, k5), (L + 1 + 1 + 1 + 1, k4), (L + 1 + 1 + 1, k3), (L + 1 + 1, k2), (L + 1, k1), (76, tabObj ps)] → Q .next { s with heap := h, toks := tk }),
    wpAny (model PySem.Challenge.rw_rs0028_01.row.prog w) (callerA.deeper (envOfC (Str.ofString "law") lawScope L fa (.ref 78))) (execs ((lawBody.drop 7).take 1) (envOfC (Str.ofString "law") lawScope L fa (.ref 78))) Q (fun _ _ => False) s := by
  k_fill
  dsimp only [lawScope, lawBody, lawDef, PySem.Challenge.pw_rs0028_01, List.drop_succ_cons, List.drop_zero, List.take_succ_cons, List.take_zero]

  intro w p loose mean mg mb G L fa m s Q lc nc c0 c1 c2 c3 u0 u1 u2 u3 k1 k2 k3 k4 k5 k6 ps cd ln nn a0 a1 a2 a3 a4 a5 a6 B X T hC F N d1 d2 hcd hQ
  clear hC
  k_steps
  unfold Halt
  k_dflt (refine For_invV G (by rfl) (by rfl) ?_ (hE := PassesOwn.never))
  k_steps
  unfold Halt
  rename_i h3 tk3 tt1 uu1 vv1 hr F3 N3 hk3
  (try clear hk3)
  refine loop_rangeX (J := fun i m₁ nx => nx = [(ln, listOf #[.str (nm cd 0) a0, .str (nm cd 1) a1, .str (nm cd 2) a2, .str (nm cd 3) a3, .str (nm cd 4) a4, .str (nm cd 5) a5, .str (nm cd 6) a6] nn), (lc, listOf #[.int c0 u0, .int c1 u1, .int c2 u2, .int c3 u3] nc), (L + 1 + 1 + 1 + 1 + 1 + 1, k6), (L + 1 + 1 + 1 + 1 + 1, k5), (L + 1 + 1 + 1 + 1, k4), (L + 1 + 1 + 1, k3), (L + 1 + 1, k2), (L + 1, k1), (76, tabObj ps)]) (by rfl) hr (by decide) (by rfl) F3 N3 rfl ?_ ?_
  · rintro i t1 m₁ nx I1 oI1 h4 tk4 hi hadr hI1 rfl F4 N4
    obtain ⟨x, rfl⟩ : ∃ x : Fin 7, i = x.val := ⟨⟨i, hi⟩, rfl⟩
    (try clear F3)
    (try clear N3)
    simp only [Int.zero_add] at F4
    k_steps
    unfold Halt
    k_dflt (refine For_invV G (by rfl) (by rfl) ?_ (hE := PassesOwn.never))
    k_steps
    unfold Halt
    rename_i h5 tk5 tt2 uu2 vv2 hr5 F6 N6 hk5
    (try clear hk5)
    (try clear F4)
    (try clear N4)
    refine loop_rangeX (J := fun j m₁ nx => m₁ (Str.ofString "low") = some (.int ((x.val : Nat) : Int) t1) ∧ nx = (I1, oI1) :: [(ln, listOf #[.str (nm cd 0) a0, .str (nm cd 1) a1, .str (nm cd 2) a2, .str (nm cd 3) a3, .str (nm cd 4) a4, .str (nm cd 5) a5, .str (nm cd 6) a6] nn), (lc, listOf #[.int c0 u0, .int c1 u1, .int c2 u2, .int c3 u3] nc), (L + 1 + 1 + 1 + 1 + 1 + 1, k6), (L + 1 + 1 + 1 + 1 + 1, k5), (L + 1 + 1 + 1 + 1, k4), (L + 1 + 1 + 1, k3), (L + 1 + 1, k2), (L + 1, k1), (76, tabObj ps)]) (by rfl) hr5 (by decide) (by rfl) F6 N6 ⟨rfl, rfl⟩ ?_ ?_
    · rintro j t2 m₂ nx I2 oI2 h6 tk6 hj hadr2 hI2 ⟨hml, rfl⟩ F7 N7
      obtain ⟨y, rfl⟩ : ∃ y : Fin 7, j = y.val := ⟨⟨j, hj⟩, rfl⟩
      have F8 := fr_name (y := Str.ofString "low") F7 hml
      (try clear F7)
      (try clear F6)
      (try clear N6)
      simp only [Int.zero_add] at F8
      k_steps
      unfold Halt
      k_here
      k_dflt (refine strcoll_c (by k_asm) (by k_asm) (by k_asm) (by k_asm) (by k_asm) (by first | rfl | assumption) (by ktr_room) (by ktr_units) ?_)
      intro t9 h9 tk9 lo9 hi9 F9 N9
      (try dsimp only)
      (try k_fold)
      k_steps
      · exact absurd (nm_sgn hcd x y) (by assumption)
      · unfold Halt
        exact ⟨_, _, _, _, rfl, by k_asm, by k_asm, rfl, rfl, rfl⟩
    · rintro m₂ nx h tk ⟨hml, rfl⟩ hadr2 F7 N7
      k_steps
      unfold Halt
      exact ⟨h, tk, m₂, _, rfl, F7, N7, rfl, rfl⟩
  · rintro m₁ nx h tk rfl hadr F4 N4
    refine wpAny_execs_nil ?_
    exact hQ _ _ _ F4 N4

end Mine

namespace Mine
open PyProof.V PySem PyProof.Rows.LCg PyProof.Rows.LCt PySem.W PyProof.Rows PySem.Calls PySem.Spec
theorem w_off_S8 : True := by
  w_top off
  exact trivial

/-- three places of the seven, no two alike -/
def Gone (g0 g1 g2 : Int) : Prop := ∃ p q r : Fin 7, g0 = ((p.val : Nat) : Int) ∧ g1 = ((q.val : Nat) : Int) ∧ g2 = ((r.val : Nat) : Int) ∧ p ≠ q ∧ p ≠ r ∧ q ≠ r
theorem gone_fin : ∀ o : Fin 7, ∀ a b : Fin 3, ∃ q r : Fin 7, ((o.val : Int) + 1 + (a.val : Int)) % 7 = ((q.val : Nat) : Int) ∧ ((o.val : Int) + 6 - (b.val : Int)) % 7 = ((r.val : Nat) : Int) ∧ o ≠ q ∧ o ≠ r ∧ q ≠ r := by decide +kernel
theorem to_fin {n : Nat} {z : Int} (h0 : 0 ≤ z) (h1 : z < n) : ∃ p : Fin n, z = ((p.val : Nat) : Int) := ⟨⟨z.toNat, (Int.toNat_lt h0).mpr h1⟩, (Int.toNat_of_nonneg h0).symm⟩
theorem gone_of (c : Int) : Gone (c.fmod 7) ((c.fmod 7 + 1 + (c.fdiv 7).fmod 3).fmod 7) ((c.fmod 7 + 6 - (c.fdiv 21).fmod 3).fmod 7) := by
  have z7 : (0 : Int) ≤ 7 := by decide
  obtain ⟨o, ho⟩ := to_fin (n := 7) (Int.fmod_nonneg_of_pos c (b := 7) (by decide)) (Int.fmod_lt_of_pos c (b := 7) (by decide))
  obtain ⟨a, ha⟩ := to_fin (n := 3) (Int.fmod_nonneg_of_pos (c.fdiv 7) (b := 3) (by decide)) (Int.fmod_lt_of_pos (c.fdiv 7) (b := 3) (by decide))
  obtain ⟨b, hb⟩ := to_fin (n := 3) (Int.fmod_nonneg_of_pos (c.fdiv 21) (b := 3) (by decide)) (Int.fmod_lt_of_pos (c.fdiv 21) (b := 3) (by decide))
  rw [ho, ha, hb, Int.fmod_eq_emod_of_nonneg _ z7, Int.fmod_eq_emod_of_nonneg _ z7]
  obtain ⟨q, r, h1, h2, h3, h4, h5⟩ := gone_fin o a b
  exact ⟨o, q, r, rfl, h1, h2, h3, h4, h5⟩

theorem seg8 : ∀ {w : World} {p : Program} {loose : List Str} {mean : ExcName → Option Value} {mg mb : Str → Option Value} {G : Heap} {L fa : Addr} {m : Str → Option Value} {s : Shared} {Q : Flow → Shared → Prop} {lc : Addr} {nc : Nat} {c0 c1 c2 c3 : Int} {u0 u1 u2 u3 : Tok} {k1 k2 k3 k4 k5 k6 : Obj} {ps : Array Value} {cd : Str} {ln : Addr} {nn : Nat} {a0 a1 a2 a3 a4 a5 a6 : Tok}
    (B : Below callerA G [] G) (X : (hd.heap_39 w.params).In G) (T : Top p loose mean mg mb G) (hC : CodeHd G 78 76) (F : Fr G L s.heap m) (N : News G L s.heap [(ln, listOf #[.str (nm cd 0) a0, .str (nm cd 1) a1, .str (nm cd 2) a2, .str (nm cd 3) a3, .str (nm cd 4) a4, .str (nm cd 5) a5, .str (nm cd 6) a6] nn), (lc, listOf #[.int c0 u0, .int c1 u1, .int c2 u2, .int c3 u3] nc), (L + 1 + 1 + 1 + 1 + 1 + 1, k6), (L + 1 + 1 + 1 + 1 + 1, k5), (L + 1 + 1 + 1 + 1, k4), (L + 1 + 1 + 1, k3), (L + 1 + 1, k2), (L + 1, k1), (76, tabObj ps)])
    (d1 : k1.data = .cell (some (.ref lc))) (d2 : k2.data = .cell (some (.ref ln))) (d3 : k3.data = .cell none) (e1 : @Ne Nat lc (L + 1 + 1 + 1)) (e2 : @Ne Nat ln (L + 1 + 1 + 1)) (l0 : @LT.lt Nat _ 76 L)
    (hQ : ∀ h tk m' lg ng k3 g0 g1 g2 t0 t1 t2, Fr G L h m' → k3.data = .cell (some (.ref lg)) → Gone g0 g1 g2 → News G L h [(lg, listOf #[.int g0 t0, .int g1 t1, .int g2 t2] ng), (ln, listOf #[.str (nm cd 0) a0, .str (nm cd 1) a1, .str (nm cd 2) a2, .str (nm cd 3) a3, .str (nm cd 4) a4, .str (nm cd 5) a5, .str (nm cd 6) a6] nn), (lc, listOf #[.int c0 u0, .int c1 u1, .int c2 u2, .int c3 u3] nc), (L + 1 + 1 + 1 + 1 + 1 + 1, k6), (L + 1 + 1 + 1 + 1 + 1, k5), (L + 1 + 1 + 1 + 1, k4), (L + 1 + 1 + 1, k3), (L + 1 + 1, k2), (L + 1, k1), (76, tabObj ps)] → (∀ b ∈ [ln, lc, L + 1 + 1 + 1 + 1 + 1 + 1, L + 1 + 1 + 1 + 1 + 1, L + 1 + 1 + 1 + 1, L + 1 + 1 + 1, L + 1 + 1, L + 1, 76], @Ne Nat b lg) → Q .next { s with heap := h, toks := tk }),
    wpAny (model PySem.Challenge.rw_rs0028_01.row.prog w) (callerA.deeper (envOfC (Str.ofString "law") lawScope L fa (.ref 78))) (execs ((lawBody.drop 8).take 2) (envOfC (Str.ofString "law") lawScope L fa (.ref 78))) Q (fun _ _ => False) s := by
  k_fill
  dsimp only [lawScope, lawBody, lawDef, PySem.Challenge.pw_rs0028_01, List.drop_succ_cons, List.drop_zero, List.take_succ_cons, List.take_zero]

  intro w p loose mean mg mb G L fa m s Q lc nc c0 c1 c2 c3 u0 u1 u2 u3 k1 k2 k3 k4 k5 k6 ps cd ln nn a0 a1 a2 a3 a4 a5 a6 B X T hC F N d1 d2 d3 e1 e2 l0 hQ
  clear hC
  k_steps
  refine wpAny_execs_nil ?_
  refine hQ _ _ _ _ _ _ _ _ _ _ _ _ (by k_asm) (by assumption) (gone_of c0) (by k_asm) ?_
  intro b hb
  simp only [List.mem_cons, List.not_mem_nil, or_false] at hb
  rcases hb with rfl | rfl | rfl | rfl | rfl | rfl | rfl | rfl | rfl <;> (refine neN ?_; omega)

end Mine

namespace Mine
open PyProof.V PySem PyProof.Rows.LCg PyProof.Rows.LCt PySem.W PyProof.Rows PySem.Calls PySem.Spec
theorem w_off_S10 : True := by
  w_top off
  exact trivial

/-- the places that stay -/
def stay (g0 g1 g2 : Int) (x : Fin 7) : Bool := !(decide (g0 = ((x.val : Nat) : Int)) || decide (g1 = ((x.val : Nat) : Int)) || decide (g2 = ((x.val : Nat) : Int)))
def stays (g0 g1 g2 : Int) : List (Fin 7) := (List.finRange 7).filter (stay g0 g1 g2)
theorem take7 : ∀ x : Fin 7, (List.finRange 7).take (x.val + 1) = (List.finRange 7).take x.val ++ [x] := by decide
theorem stay_yes {g0 g1 g2 : Int} {cd : Str} {x : Fin 7} {t : Tok} {ys : List Value} (hs : stay g0 g1 g2 x = true) (h : StrsAre ys ((((List.finRange 7).take x.val).filter (stay g0 g1 g2)).map (nm cd))) :
    StrsAre (ys ++ [.str (nm cd x) t]) ((((List.finRange 7).take (x.val + 1)).filter (stay g0 g1 g2)).map (nm cd)) := by
  rw [take7, List.filter_append, List.filter_cons_of_pos hs, List.filter_nil, List.map_append]
  exact strs_snoc h
theorem stay_no {g0 g1 g2 : Int} {cd : Str} {x : Fin 7} {ys : List Value} (hs : stay g0 g1 g2 x = false) (h : StrsAre ys ((((List.finRange 7).take x.val).filter (stay g0 g1 g2)).map (nm cd))) :
    StrsAre ys ((((List.finRange 7).take (x.val + 1)).filter (stay g0 g1 g2)).map (nm cd)) := by
  rw [take7, List.filter_append, List.filter_cons_of_neg (by rw [hs]; decide), List.filter_nil, List.append_nil]
  exact h
def four (l : List (Fin 7)) : Bool := match l with
  | [a, b, c, d] => decide (a < b) && decide (b < c) && decide (c < d)
  | _ => false
theorem four_all : ∀ p q r : Fin 7, p ≠ q → p ≠ r → q ≠ r → four (stays ((p.val : Nat) : Int) ((q.val : Nat) : Int) ((r.val : Nat) : Int)) = true := by decide +kernel
theorem four_of : ∀ {l : List (Fin 7)}, four l = true → ∃ a b c d, l = [a, b, c, d] ∧ a < b ∧ b < c ∧ c < d
  | [], h => nomatch h
  | [_], h => nomatch h
  | [_, _], h => nomatch h
  | [_, _, _], h => nomatch h
  | [a, b, c, d], h => by
    have h' : (decide (a < b) && decide (b < c) && decide (c < d)) = true := h
    simp only [Bool.and_eq_true, decide_eq_true_eq] at h'
    exact ⟨a, b, c, d, rfl, h'.1.1, h'.1.2, h'.2⟩
  | _ :: _ :: _ :: _ :: _ :: _, h => nomatch h
theorem stays_four {g0 g1 g2 : Int} (h : Gone g0 g1 g2) : ∃ a b c d, stays g0 g1 g2 = [a, b, c, d] ∧ a < b ∧ b < c ∧ c < d := by
  obtain ⟨p, q, r, rfl, rfl, rfl, h1, h2, h3⟩ := h
  exact four_of (four_all p q r h1 h2 h3)
def sel4 (a b c d : Fin 7) (i : Fin 4) : Fin 7 := match i with
  | 0 => a
  | 1 => b
  | 2 => c
  | 3 => d
theorem sel4_up {a b c d : Fin 7} (h1 : a < b) (h2 : b < c) (h3 : c < d) : ∀ i j : Fin 4, i < j → sel4 a b c d i < sel4 a b c d j
  | 0, 0, h => absurd h (by decide)
  | 0, 1, _ => h1
  | 0, 2, _ => Fin.lt_trans h1 h2
  | 0, 3, _ => Fin.lt_trans h1 (Fin.lt_trans h2 h3)
  | 1, 0, h => absurd h (by decide)
  | 1, 1, h => absurd h (by decide)
  | 1, 2, _ => h2
  | 1, 3, _ => Fin.lt_trans h2 h3
  | 2, 0, h => absurd h (by decide)
  | 2, 1, h => absurd h (by decide)
  | 2, 2, h => absurd h (by decide)
  | 2, 3, _ => h3
  | 3, 0, h => absurd h (by decide)
  | 3, 1, h => absurd h (by decide)
  | 3, 2, h => absurd h (by decide)
  | 3, 3, h => absurd h (by decide)
theorem notin3 {prog : Program} {w : World} {A : Around} {E : Value → Shared → Prop} {s : Shared} {h₀ : Heap} {L : Addr} {news : List (Addr × Obj)} {l : Addr} {g0 g1 g2 idx : Int} {t0 t1 t2 t : Tok} {n : Nat} {Q : Value → Shared → Prop} (x : Fin 7) (N : News h₀ L s.heap news)
    (hm : (l, listOf #[.int g0 t0, .int g1 t1, .int g2 t2] n) ∈ news) (hk : idx = ((x.val : Nat) : Int)) (h : Q (.bool (stay g0 g1 g2 x)) s) :
    wpAny (model prog w) A (compareOp .NotIn (.int idx t) (.ref l)) Q E s := by
  subst hk
  refine PySem.SeqAt.notIn_listAt (fun y => match y with | .int g _ => decide (g = ((x.val : Nat) : Int)) | _ => false) (News.isList N hm) ?_ ?_
  · intro y hy
    have hy' : y = .int g0 t0 ∨ y = .int g1 t1 ∨ y = .int g2 t2 := by simpa using hy
    rcases hy' with rfl | rfl | rfl
    · exact fun prog w E Q h => wpAny_eqBool_int h
    · exact fun prog w E Q h => wpAny_eqBool_int h
    · exact fun prog w E Q h => wpAny_eqBool_int h
  · have e : (!(#[Value.int g0 t0, .int g1 t1, .int g2 t2] : Array Value).any (fun y => match y with | .int g _ => decide (g = ((x.val : Nat) : Int)) | _ => false)) = stay g0 g1 g2 x := by
      simp [stay, Bool.or_assoc]
    rw [e]; exact h
local macro_rules | `(tactic| walk_at "eval ListComp") => `(tactic| refine halt_in ?_)
local macro_rules | `(tactic| walk_at "CompSrcT") => `(tactic| refine halt_in ?_)
local macro_rules | `(tactic| walk_at "CompEnd") => `(tactic| refine halt_in ?_)
local macro_rules | `(tactic| walk_at "compareOp NotIn int ref") => `(tactic| refine halt_in ?_)
local macro_rules | `(tactic| walk_at "subscriptTail Name Name ref int") => `(tactic| (k_here; (with_reducible show wpAny _ _ (subscriptTail _ _ (Value.ref _) (Value.int _ _)) _ _ _); k_dflt (refine' sub_names _ ?kN ?m0 ?kk ?_ ?ks ?kg; (case kN => k_asm); (case m0 => k_mem); (case kk => first | rfl | assumption | omega); (case ks => with_unfolding_all rfl); (case kg => intro _; with_unfolding_all rfl); k_whole)))

theorem seg10 : ∀ {w : World} {p : Program} {loose : List Str} {mean : ExcName → Option Value} {mg mb : Str → Option Value} {G : Heap} {L fa : Addr} {m : Str → Option Value} {s : Shared} {Q : Flow → Shared → Prop} {lc : Addr} {nc : Nat} {c0 c1 c2 c3 : Int} {u0 u1 u2 u3 : Tok} {k1 k2 k3 k4 k5 k6 : Obj} {ps : Array Value} {cd : Str} {ln : Addr} {nn : Nat} {a0 a1 a2 a3 a4 a5 a6 : Tok} {lg : Addr} {ng : Nat} {g0 g1 g2 : Int} {t0 t1 t2 : Tok}
    (B : Below callerA G [] G) (X : (hd.heap_39 w.params).In G) (T : Top p loose mean mg mb G) (hC : CodeHd G 78 76) (F : Fr G L s.heap m) (N : News G L s.heap [(lg, listOf #[.int g0 t0, .int g1 t1, .int g2 t2] ng), (ln, listOf #[.str (nm cd 0) a0, .str (nm cd 1) a1, .str (nm cd 2) a2, .str (nm cd 3) a3, .str (nm cd 4) a4, .str (nm cd 5) a5, .str (nm cd 6) a6] nn), (lc, listOf #[.int c0 u0, .int c1 u1, .int c2 u2, .int c3 u3] nc), (L + 1 + 1 + 1 + 1 + 1 + 1, k6), (L + 1 + 1 + 1 + 1 + 1, k5), (L + 1 + 1 + 1 + 1, k4), (L + 1 + 1 + 1, k3), (L + 1 + 1, k2), (L + 1, k1), (76, tabObj ps)])
    (d1 : k1.data = .cell (some (.ref lc))) (d2 : k2.data = .cell (some (.ref ln))) (d3 : k3.data = .cell (some (.ref lg))) (d4 : k4.data = .cell none) (hcd : cd = Str.ofString "a" ∨ cd = Str.ofString "a-B" ∨ cd = Str.ofString "a-B-B") (hg : Gone g0 g1 g2) (e1 : @Ne Nat lc (L + 1 + 1 + 1 + 1)) (e2 : @Ne Nat ln (L + 1 + 1 + 1 + 1)) (e3 : @Ne Nat lg (L + 1 + 1 + 1 + 1)) (l0 : @LT.lt Nat _ 76 L)
    (hQ : ∀ h tk m' lv nv k4 v w0 w1 w2 w3, Fr G L h m' → k4.data = .cell (some (.ref lv)) → Up v → (∀ k, PyData.strOk (v k) = true) → News G L h [(lv, listOf #[.str (v 0) w0, .str (v 1) w1, .str (v 2) w2, .str (v 3) w3] nv), (lg, listOf #[.int g0 t0, .int g1 t1, .int g2 t2] ng), (ln, listOf #[.str (nm cd 0) a0, .str (nm cd 1) a1, .str (nm cd 2) a2, .str (nm cd 3) a3, .str (nm cd 4) a4, .str (nm cd 5) a5, .str (nm cd 6) a6] nn), (lc, listOf #[.int c0 u0, .int c1 u1, .int c2 u2, .int c3 u3] nc), (L + 1 + 1 + 1 + 1 + 1 + 1, k6), (L + 1 + 1 + 1 + 1 + 1, k5), (L + 1 + 1 + 1 + 1, k4), (L + 1 + 1 + 1, k3), (L + 1 + 1, k2), (L + 1, k1), (76, tabObj ps)] → (∀ b ∈ [lg, ln, lc, L + 1 + 1 + 1 + 1 + 1 + 1, L + 1 + 1 + 1 + 1 + 1, L + 1 + 1 + 1 + 1, L + 1 + 1 + 1, L + 1 + 1, L + 1, 76], @Ne Nat b lv) → Q .next { s with heap := h, toks := tk }),
    wpAny (model PySem.Challenge.rw_rs0028_01.row.prog w) (callerA.deeper (envOfC (Str.ofString "law") lawScope L fa (.ref 78))) (execs ((lawBody.drop 10).take 1) (envOfC (Str.ofString "law") lawScope L fa (.ref 78))) Q (fun _ _ => False) s := by
  k_fill
  dsimp only [lawScope, lawBody, lawDef, PySem.Challenge.pw_rs0028_01, List.drop_succ_cons, List.drop_zero, List.take_succ_cons, List.take_zero]

  intro w p loose mean mg mb G L fa m s Q lc nc c0 c1 c2 c3 u0 u1 u2 u3 k1 k2 k3 k4 k5 k6 ps cd ln nn a0 a1 a2 a3 a4 a5 a6 lg ng g0 g1 g2 t0 t1 t2 B X T hC F N d1 d2 d3 d4 hcd hg e1 e2 e3 l0 hQ
  clear hC
  k_steps
  unfold Halt
  k_dflt (refine LCt.ListComp_T (F₀ := by k_asm) (by with_unfolding_all rfl) (by decide) (by rfl) (by decide) (by rfl) ?_)
  k_steps
  unfold Halt
  refine LCt.CompSrcT.range (by rfl) (by k_asm) (by k_asm) (by assumption) (by decide) (by rfl) (by decide) ?_
  intro g
  refine restT_ind (fun i ys => StrsAre ys ((((List.finRange 7).take i).filter (stay g0 g1 g2)).map (nm cd))) 7 .nil ?_ ?_
  · rintro i ys hi hys v2 I oI C oC D m₂ h tk E' ⟨t, rfl⟩ hC2 hx2 F2 N2 off ne
    obtain ⟨x, rfl⟩ : ∃ x : Fin 7, i = x.val := ⟨⟨i, hi⟩, rfl⟩
    rw [Int.zero_add] at hx2
    k_steps
    unfold Halt
    refine notin3 x (by k_asm) (by k_mem) rfl ?_
    cases hst : stay g0 g1 g2 x with
    | true =>
      k_steps
      unfold Halt
      exact CompEnd.intro (by k_asm) (by k_asm) _ (fun p hp => hp) off trivial ⟨rfl, stay_yes hst hys⟩
    | false =>
      k_steps
      unfold Halt
      exact CompEnd.intro (by k_asm) (by k_asm) _ (fun p hp => hp) off trivial ⟨rfl, stay_no hst hys⟩
  · intro ys hys
    unfold LCg.FinE
    intro D h tk F2 N2 o2
    simp only [LCg.Off1, and_true] at o2
    obtain ⟨a, b, c, d, es, h1, h2, h3⟩ := stays_four hg
    have hys' : StrsAre ys ((stays g0 g1 g2).map (nm cd)) := hys
    rw [es] at hys'
    obtain ⟨w0, w1, w2, w3, rfl⟩ := strs4 hys'
    clear hys hys'
    k_steps
    refine wpAny_execs_nil ?_
    refine hQ _ _ _ D _ _ (fun i => nm cd (sel4 a b c d i)) w0 w1 w2 w3 (by k_asm) (by assumption) (fun i j hij => nm_up hcd _ _ (sel4_up h1 h2 h3 i j hij)) (fun k => nm_ok hcd _) (by k_asm) ?_
    obtain ⟨q1, q2, q3, q4, q5, q6, q7, q8, q9, q10⟩ := o2
    intro b hb
    simp only [List.mem_cons, List.not_mem_nil, or_false] at hb
    rcases hb with rfl | rfl | rfl | rfl | rfl | rfl | rfl | rfl | rfl | rfl <;> assumption

end Mine

namespace Mine
open PyProof.V PySem PyProof.Rows.LCg PyProof.Rows.LCt PySem.W PyProof.Rows PySem.Calls PySem.Spec
theorem w_off_S11 : True := by
  w_top off
  exact trivial

def Ints (i : Nat) (ys : List Value) : Prop := ∃ ns, IntsAre ys ns ∧ ns.length = i
theorem Ints.snoc {i : Nat} {ys : List Value} {z : Int} {t : Tok} (h : Ints i ys) : Ints (i + 1) (ys ++ [.int z t]) := by
  obtain ⟨ns, h1, h2⟩ := h
  exact ⟨ns ++ [z], ksk_snoc h1, by rw [List.length_append, h2]; rfl⟩
theorem ints4 {vs : List Value} {ns : List Int} (h : IntsAre vs ns) (hl : ns.length = 4) : ∃ a b c d ta tb tc td, vs = [.int a ta, .int b tb, .int c tc, .int d td] := by
  rcases h with _ | ⟨a, ta, h⟩
  · cases hl
  rcases h with _ | ⟨b, tb, h⟩
  · cases hl
  rcases h with _ | ⟨c, tc, h⟩
  · cases hl
  rcases h with _ | ⟨d, td, h⟩
  · cases hl
  rcases h with _ | ⟨e, te, h⟩
  · exact ⟨a, b, c, d, ta, tb, tc, td, rfl⟩
  · simp only [List.length_cons] at hl; omega
local macro_rules | `(tactic| walk_at "eval ListComp") => `(tactic| refine halt_in ?_)
local macro_rules | `(tactic| walk_at "CompSrc") => `(tactic| refine halt_in ?_)
local macro_rules | `(tactic| walk_at "CompEnd") => `(tactic| refine halt_in ?_)
local macro_rules | `(tactic| walk_at "call builtin:sorted") => `(tactic| refine halt_in ?_)

theorem seg11 : ∀ {w : World} {p : Program} {loose : List Str} {mean : ExcName → Option Value} {mg mb : Str → Option Value} {G : Heap} {L fa : Addr} {m : Str → Option Value} {s : Shared} {Q : Flow → Shared → Prop} {lc : Addr} {nc : Nat} {c0 c1 c2 c3 : Int} {u0 u1 u2 u3 : Tok} {k1 k2 k3 k4 k5 k6 : Obj} {ps : Array Value} {v : Fin 4 → Str} {lv : Addr} {nv : Nat} {w0 w1 w2 w3 : Tok}
    (B : Below callerA G [] G) (X : (hd.heap_39 w.params).In G) (T : Top p loose mean mg mb G) (hC : CodeHd G 78 76) (F : Fr G L s.heap m) (N : News G L s.heap [(lv, listOf #[.str (v 0) w0, .str (v 1) w1, .str (v 2) w2, .str (v 3) w3] nv), (lc, listOf #[.int c0 u0, .int c1 u1, .int c2 u2, .int c3 u3] nc), (L + 1 + 1 + 1 + 1 + 1 + 1, k6), (L + 1 + 1 + 1 + 1 + 1, k5), (L + 1 + 1 + 1 + 1, k4), (L + 1 + 1 + 1, k3), (L + 1 + 1, k2), (L + 1, k1), (76, tabObj ps)])
    (d1 : k1.data = .cell (some (.ref lc)))
    (hQ : ∀ h tk l4 n4 f0 f1 f2 f3 x0 x1 x2 x3, Fr G L h (fun y => if y = Str.ofString "four" then some (.ref l4) else m y) → News G L h [(l4, listOf #[.int f0 x0, .int f1 x1, .int f2 x2, .int f3 x3] n4), (lv, listOf #[.str (v 0) w0, .str (v 1) w1, .str (v 2) w2, .str (v 3) w3] nv), (lc, listOf #[.int c0 u0, .int c1 u1, .int c2 u2, .int c3 u3] nc), (L + 1 + 1 + 1 + 1 + 1 + 1, k6), (L + 1 + 1 + 1 + 1 + 1, k5), (L + 1 + 1 + 1 + 1, k4), (L + 1 + 1 + 1, k3), (L + 1 + 1, k2), (L + 1, k1), (76, tabObj ps)] → @Ne Nat l4 (L + 1 + 1 + 1 + 1 + 1) → Q .next { s with heap := h, toks := tk }),
    wpAny (model PySem.Challenge.rw_rs0028_01.row.prog w) (callerA.deeper (envOfC (Str.ofString "law") lawScope L fa (.ref 78))) (execs ((lawBody.drop 11).take 1) (envOfC (Str.ofString "law") lawScope L fa (.ref 78))) Q (fun _ _ => False) s := by
  k_fill
  dsimp only [lawScope, lawBody, lawDef, PySem.Challenge.pw_rs0028_01, List.drop_succ_cons, List.drop_zero, List.take_succ_cons, List.take_zero]

  intro w p loose mean mg mb G L fa m s Q lc nc c0 c1 c2 c3 u0 u1 u2 u3 k1 k2 k3 k4 k5 k6 ps v lv nv w0 w1 w2 w3 B X T hC F N d1 hQ
  clear hC
  k_steps
  unfold Halt
  k_dflt (refine LCg.ListComp_U (F₀ := by k_asm) (by with_unfolding_all rfl) (by decide) (by rfl) (by decide) (by rfl) ?_)
  k_steps
  unfold Halt
  refine LCg.CompSrc.range (by rfl) (by k_asm) (by k_asm) (by assumption) (by decide) (by rfl) (by decide) ?_
  intro g
  refine rest_ind Ints 4 ⟨[], .nil, rfl⟩ ?_ ?_
  · rintro i ys hi hys v2 I oI C oC D m₂ h tk E' ⟨t, rfl⟩ hC2 hx2 F2 N2 off ne
    match i, hi, hx2, hys with
    | 0, _, hx2, hys =>
      replace hx2 : _ = some (Value.int 0 t) := hx2
      k_steps
      unfold Halt
      exact CompEnd.intro (by k_asm) (by k_asm) _ (fun p hp => hp) off trivial ⟨rfl, Ints.snoc hys⟩
    | 1, _, hx2, hys =>
      replace hx2 : _ = some (Value.int 1 t) := hx2
      k_steps
      unfold Halt
      exact CompEnd.intro (by k_asm) (by k_asm) _ (fun p hp => hp) off trivial ⟨rfl, Ints.snoc hys⟩
    | 2, _, hx2, hys =>
      replace hx2 : _ = some (Value.int 2 t) := hx2
      k_steps
      unfold Halt
      exact CompEnd.intro (by k_asm) (by k_asm) _ (fun p hp => hp) off trivial ⟨rfl, Ints.snoc hys⟩
    | 3, _, hx2, hys =>
      replace hx2 : _ = some (Value.int 3 t) := hx2
      k_steps
      unfold Halt
      exact CompEnd.intro (by k_asm) (by k_asm) _ (fun p hp => hp) off trivial ⟨rfl, Ints.snoc hys⟩
  · intro ys hys
    unfold LCg.FinE
    intro D h tk F2 N2 o2
    clear o2
    have hlt := Heap.lt_size (N2 (L + 1 + 1 + 1 + 1 + 1, k5) (by k_mem)).1
    k_steps
    unfold Halt
    obtain ⟨ns, hI, hl⟩ := hys
    refine sorted_N (by k_asm) (by k_asm) (News.isList (by k_asm) (by k_mem)) hI (by rw [hI.length, hl]; decide) ?_
    intro h5 vs' ns' e F5 N5 hI' hp hs
    obtain ⟨a, b, c, d, ta, tb, tc, td, rfl⟩ := ints4 hI' (hp.length_eq.trans hl)
    k_steps
    refine wpAny_execs_nil ?_
    exact hQ _ _ _ _ _ _ _ _ _ _ _ _ (by k_asm) (cb_drop (by k_asm) (by kcj_all)) (Nat.ne_of_gt (Nat.lt_succ_of_lt hlt))

local macro_rules | `(tactic| walk_at "subscriptTail Name BinOp ref int") => `(tactic| refine halt_in ?_)

theorem seg12 : ∀ {w : World} {p : Program} {loose : List Str} {mean : ExcName → Option Value} {mg mb : Str → Option Value} {G : Heap} {L fa : Addr} {m : Str → Option Value} {s : Shared} {Q : Flow → Shared → Prop} {lc : Addr} {nc : Nat} {c0 c1 c2 c3 : Int} {u0 u1 u2 u3 : Tok} {k1 k2 k3 k4 k5 k6 : Obj} {ps : Array Value} {v : Fin 4 → Str} {lv : Addr} {nv : Nat} {w0 w1 w2 w3 : Tok} {l4 : Addr} {n4 : Nat} {f0 f1 f2 f3 : Int} {x0 x1 x2 x3 : Tok}
    (B : Below callerA G [] G) (X : (hd.heap_39 w.params).In G) (T : Top p loose mean mg mb G) (hC : CodeHd G 78 76) (F : Fr G L s.heap (fun y => if y = Str.ofString "four" then some (.ref l4) else m y)) (N : News G L s.heap [(l4, listOf #[.int f0 x0, .int f1 x1, .int f2 x2, .int f3 x3] n4), (lv, listOf #[.str (v 0) w0, .str (v 1) w1, .str (v 2) w2, .str (v 3) w3] nv), (lc, listOf #[.int c0 u0, .int c1 u1, .int c2 u2, .int c3 u3] nc), (L + 1 + 1 + 1 + 1 + 1 + 1, k6), (L + 1 + 1 + 1 + 1 + 1, k5), (L + 1 + 1 + 1 + 1, k4), (L + 1 + 1 + 1, k3), (L + 1 + 1, k2), (L + 1, k1), (76, tabObj ps)])
    (d1 : k1.data = .cell (some (.ref lc))) (d5 : k5.data = .cell none) (e1 : @Ne Nat lc (L + 1 + 1 + 1 + 1 + 1)) (e2 : @Ne Nat lv (L + 1 + 1 + 1 + 1 + 1)) (e3 : @Ne Nat l4 (L + 1 + 1 + 1 + 1 + 1)) (l0 : @LT.lt Nat _ 76 L)
    (hQ : ∀ h tk m' lo q0 q1 no n0 n1 e00 e01 e10 e11 b00 b01 b10 b11 k5, Fr G L h m' → k5.data = .cell (some (.ref lo)) → News G L h [(lo, listOf #[.ref q0, .ref q1] no), (q0, listOf #[.int e00 b00, .int e01 b01] n0), (q1, listOf #[.int e10 b10, .int e11 b11] n1), (lv, listOf #[.str (v 0) w0, .str (v 1) w1, .str (v 2) w2, .str (v 3) w3] nv), (lc, listOf #[.int c0 u0, .int c1 u1, .int c2 u2, .int c3 u3] nc), (L + 1 + 1 + 1 + 1 + 1 + 1, k6), (L + 1 + 1 + 1 + 1 + 1, k5), (L + 1 + 1 + 1 + 1, k4), (L + 1 + 1 + 1, k3), (L + 1 + 1, k2), (L + 1, k1), (76, tabObj ps)] → (∀ b ∈ [lv, lc, L + 1 + 1 + 1 + 1 + 1 + 1, L + 1 + 1 + 1 + 1 + 1, L + 1 + 1 + 1 + 1, L + 1 + 1 + 1, L + 1 + 1, L + 1, 76], @LT.lt Nat _ b q0) → @LT.lt Nat _ q0 q1 → @LT.lt Nat _ q1 lo → Q .next { s with heap := h, toks := tk }),
    wpAny (model PySem.Challenge.rw_rs0028_01.row.prog w) (callerA.deeper (envOfC (Str.ofString "law") lawScope L fa (.ref 78))) (execs ((lawBody.drop 12).take 2) (envOfC (Str.ofString "law") lawScope L fa (.ref 78))) Q (fun _ _ => False) s := by
  k_fill
  dsimp only [lawScope, lawBody, lawDef, PySem.Challenge.pw_rs0028_01, List.drop_succ_cons, List.drop_zero, List.take_succ_cons, List.take_zero]

  intro w p loose mean mg mb G L fa m s Q lc nc c0 c1 c2 c3 u0 u1 u2 u3 k1 k2 k3 k4 k5 k6 ps v lv nv w0 w1 w2 w3 l4 n4 f0 f1 f2 f3 x0 x1 x2 x3 B X T hC F N d1 d5 e1 e2 e3 l0 hQ
  clear hC
  k_steps
  unfold Halt
  have h2 : (([c0, c1, c2, c3].getD (Int.toNat 1) 0).fdiv 256).fmod 2 = 0 ∨ (([c0, c1, c2, c3].getD (Int.toNat 1) 0).fdiv 256).fmod 2 = 1 := by
    have h1 := Int.fmod_nonneg_of_pos (([c0, c1, c2, c3].getD (Int.toNat 1) 0).fdiv 256) (b := 2) (by decide)
    have h2 := Int.fmod_lt_of_pos (([c0, c1, c2, c3].getD (Int.toNat 1) 0).fdiv 256) (b := 2) (by decide)
    omega
  rcases h2 with h2 | h2
  · simp only [h2] at *
    (refine item_list (News.isList (by k_asm) (by k_mem)) (by decide) (by decide) rfl ?_ (by with_unfolding_all rfl) (by intro _; with_unfolding_all rfl))
    k_steps
    unfold Halt
    (refine item_list (News.isList (by k_asm) (by k_mem)) (by decide) (by decide) rfl ?_ (by with_unfolding_all rfl) (by intro _; with_unfolding_all rfl))
    k_steps
    refine wpAny_execs_nil ?_
    refine hQ _ _ _ _ _ _ _ _ _ _ _ _ _ _ _ _ _ _ (by k_asm) (by assumption) (cb_drop (by k_asm) (by kcj_all)) ?_ (by omega) (by omega)
    intro b hb
    simp only [List.mem_cons, List.not_mem_nil, or_false] at hb
    rcases hb with rfl | rfl | rfl | rfl | rfl | rfl | rfl | rfl | rfl <;> omega
  · simp only [h2] at *
    (refine item_list (News.isList (by k_asm) (by k_mem)) (by decide) (by decide) rfl ?_ (by with_unfolding_all rfl) (by intro _; with_unfolding_all rfl))
    k_steps
    unfold Halt
    (refine item_list (News.isList (by k_asm) (by k_mem)) (by decide) (by decide) rfl ?_ (by with_unfolding_all rfl) (by intro _; with_unfolding_all rfl))
    k_steps
    refine wpAny_execs_nil ?_
    refine hQ _ _ _ _ _ _ _ _ _ _ _ _ _ _ _ _ _ _ (by k_asm) (by assumption) (cb_drop (by k_asm) (by kcj_all)) ?_ (by omega) (by omega)
    intro b hb
    simp only [List.mem_cons, List.not_mem_nil, or_false] at hb
    rcases hb with rfl | rfl | rfl | rfl | rfl | rfl | rfl | rfl | rfl <;> omega

end Mine

namespace Mine
open PyProof.V PySem PyProof.Rows.LCg PyProof.Rows.LCt PySem.W PyProof.Rows PySem.Calls PySem.Spec

def mkA (a b c d : Addr) (i : Fin 4) : Addr := match i with
  | 0 => a
  | 1 => b
  | 2 => c
  | 3 => d
def mkF {α : Type} (a b c d : α) (i : Fin 4) : α := match i with
  | 0 => a
  | 1 => b
  | 2 => c
  | 3 => d
theorem ne4 {a b c d : Addr} (h1 : a ≠ b) (h2 : a ≠ c) (h3 : a ≠ d) (h4 : b ≠ c) (h5 : b ≠ d) (h6 : c ≠ d) : ∀ i j : Fin 4, i ≠ j → mkA a b c d i ≠ mkA a b c d j
  | 0, 0, h => absurd rfl h
  | 0, 1, _ => h1
  | 0, 2, _ => h2
  | 0, 3, _ => h3
  | 1, 0, _ => h1.symm
  | 1, 1, h => absurd rfl h
  | 1, 2, _ => h4
  | 1, 3, _ => h5
  | 2, 0, _ => h2.symm
  | 2, 1, _ => h4.symm
  | 2, 2, h => absurd rfl h
  | 2, 3, _ => h6
  | 3, 0, _ => h3.symm
  | 3, 1, _ => h5.symm
  | 3, 2, _ => h6.symm
  | 3, 3, h => absurd rfl h
theorem all4A {P : Addr → Prop} {a b c d : Addr} (h0 : P a) (h1 : P b) (h2 : P c) (h3 : P d) : ∀ i, P (mkA a b c d i)
  | 0 => h0
  | 1 => h1
  | 2 => h2
  | 3 => h3
theorem list4 {α : Type} {l : List α} (h : l.length = 4) : ∃ a b c d, l = [a, b, c, d] := by
  match l, h with
  | [a, b, c, d], _ => exact ⟨a, b, c, d, rfl⟩
theorem rows4 {v : Fin 4 → Str} {led nw : List (Addr × Obj)} {ys : List Value} {D : Addr} (h : Rows v led 4 ys nw) (hD : ∀ p ∈ nw, p.1 ≠ D) :
    ∃ (r : Fin 4 → Addr) (f : Fin 4 → Fin 4 → Fin 4) (ts : Fin 4 → Fin 4 → Tok) (ns : Fin 4 → Nat), ys = [.ref (r 0), .ref (r 1), .ref (r 2), .ref (r 3)] ∧
      nw = (r 3, rw4 v f ts ns 3) :: (r 2, rw4 v f ts ns 2) :: (r 1, rw4 v f ts ns 1) :: (r 0, rw4 v f ts ns 0) :: led ∧
      (∀ i j, i ≠ j → r i ≠ r j) ∧ (∀ i, D ≠ r i) ∧ ∀ b ∈ led.map (·.1), ∀ i, b ≠ r i := by
  obtain ⟨rows, rfl, rfl, hl, hr, hn⟩ := h
  obtain ⟨⟨r3, o3⟩, ⟨r2, o2⟩, ⟨r1, o1⟩, ⟨r0, o0⟩, rfl⟩ := list4 hl
  · clear hl
    obtain ⟨g3, t3, n3, e3⟩ := hr (r3, o3) (by simp)
    obtain ⟨g2, t2, n2, e2⟩ := hr (r2, o2) (by simp)
    obtain ⟨g1, t1, n1, e1⟩ := hr (r1, o1) (by simp)
    obtain ⟨g0, t0, n0, e0⟩ := hr (r0, o0) (by simp)
    dsimp only at e0 e1 e2 e3
    subst e0 e1 e2 e3
    simp only [List.cons_append, List.nil_append, List.map_cons, List.nodup_cons, List.mem_cons, not_or] at hn
    obtain ⟨⟨a32, a31, a30, b3⟩, ⟨a21, a20, b2⟩, ⟨a10, b1⟩, b0, -⟩ := hn
    refine ⟨mkA r0 r1 r2 r3, mkF g0 g1 g2 g3, mkF t0 t1 t2 t3, mkF n0 n1 n2 n3, rfl, rfl, ne4 (Ne.symm a10) (Ne.symm a20) (Ne.symm a30) (Ne.symm a21) (Ne.symm a31) (Ne.symm a32), ?_, ?_⟩
    · exact all4A (P := fun b => D ≠ b) (Ne.symm (hD _ (.tail _ (.tail _ (.tail _ (.head _)))))) (Ne.symm (hD _ (.tail _ (.tail _ (.head _))))) (Ne.symm (hD _ (.tail _ (.head _)))) (Ne.symm (hD _ (.head _)))
    · intro b hb
      have n : ∀ c, c ∉ led.map (·.1) → b ≠ c := fun c hc q => hc (q ▸ hb)
      exact all4A (P := fun c => b ≠ c) (n _ b0) (n _ b1) (n _ b2) (n _ b3)
theorem Rows.mem {v : Fin 4 → Str} {led nw : List (Addr × Obj)} {ys : List Value} {i : Nat} (h : Rows v led i ys nw) {p : Addr × Obj} (hp : p ∈ led) : p ∈ nw := by
  obtain ⟨rows, rfl, _⟩ := h
  exact List.mem_append_right _ hp
theorem trows4 {v : Fin 4 → Str} {f : Fin 4 → Fin 4 → Fin 4} {led nw : List (Addr × Obj)} {ys : List Value} (h : TRows v f led 4 ys nw) :
    ∃ (e : Fin 4 → Addr) (us : Fin 4 → Fin 4 → Tok) (ms : Fin 4 → Nat), ys = [.ref (e 0), .ref (e 1), .ref (e 2), .ref (e 3)] ∧
      nw = (e 3, rw4 v (tld f) us ms 3) :: (e 2, rw4 v (tld f) us ms 2) :: (e 1, rw4 v (tld f) us ms 1) :: (e 0, rw4 v (tld f) us ms 0) :: led := by
  obtain ⟨rows, rfl, rfl, hl, hr⟩ := h
  obtain ⟨⟨r3, o3⟩, ⟨r2, o2⟩, ⟨r1, o1⟩, ⟨r0, o0⟩, rfl⟩ := list4 hl
  · clear hl
    obtain ⟨t3, n3, e3⟩ := hr 3 (r3, o3) rfl
    obtain ⟨t2, n2, e2⟩ := hr 2 (r2, o2) rfl
    obtain ⟨t1, n1, e1⟩ := hr 1 (r1, o1) rfl
    obtain ⟨t0, n0, e0⟩ := hr 0 (r0, o0) rfl
    dsimp only at e0 e1 e2 e3
    subst e0 e1 e2 e3
    exact ⟨mkA r0 r1 r2 r3, mkF t0 t1 t2 t3, mkF n0 n1 n2 n3, rfl, rfl⟩

/-- a row of addresses that falls -/
def Dec : Nat → List Nat → Prop
  | _, [] => True
  | a, b :: l => b < a ∧ Dec b l
theorem Dec.lt : ∀ {l : List Nat} {a : Nat}, Dec a l → ∀ b ∈ l, b < a
  | b :: l, a, h, c, m => (List.mem_cons.mp m).elim (fun e => e ▸ h.1) fun m => Nat.lt_trans (Dec.lt h.2 c m) h.1
theorem nodup_gt {a : Nat} {l : List Nat} (h : ∀ b ∈ l, b < a) (n : l.Nodup) : (a :: l).Nodup := List.nodup_cons.mpr ⟨fun m => Nat.lt_irrefl _ (h a m), n⟩
theorem Dec.nodup : ∀ {l : List Nat} {a : Nat}, Dec a l → (a :: l).Nodup
  | [], _, _ => nodup_gt (fun _ m => nomatch m) .nil
  | b :: l, a, h => nodup_gt (Dec.lt (l := b :: l) h) (Dec.nodup h.2)
theorem nodup12 {L lc lv lo q0 q1 : Addr} {no n0 n1 nv nc : Nat} {e00 e01 e10 e11 c0 c1 c2 c3 : Int} {b00 b01 b10 b11 w0 w1 w2 w3 u0 u1 u2 u3 : Tok} {v : Fin 4 → Str} {k1 k2 k3 k4 k5 k6 : Obj} {ps : Array Value} (hlc : @LT.lt Nat _ (L + 1 + 1 + 1 + 1 + 1 + 1) lc) (l0 : @LT.lt Nat _ 76 L) {lg ln : Addr}
    (hv : ∀ b ∈ [lg, ln, lc, L + 1 + 1 + 1 + 1 + 1 + 1, L + 1 + 1 + 1 + 1 + 1, L + 1 + 1 + 1 + 1, L + 1 + 1 + 1, L + 1 + 1, L + 1, 76], @Ne Nat b lv) (hq : ∀ b ∈ [lv, lc, L + 1 + 1 + 1 + 1 + 1 + 1, L + 1 + 1 + 1 + 1 + 1, L + 1 + 1 + 1 + 1, L + 1 + 1 + 1, L + 1 + 1, L + 1, 76], @LT.lt Nat _ b q0) (hq1 : @LT.lt Nat _ q0 q1) (hq2 : @LT.lt Nat _ q1 lo) :
    (List.map (fun (p : Addr × Obj) => p.1) [(lo, listOf #[.ref q0, .ref q1] no), (q0, listOf #[.int e00 b00, .int e01 b01] n0), (q1, listOf #[.int e10 b10, .int e11 b11] n1), (lv, listOf #[.str (v 0) w0, .str (v 1) w1, .str (v 2) w2, .str (v 3) w3] nv), (lc, listOf #[.int c0 u0, .int c1 u1, .int c2 u2, .int c3 u3] nc), (L + 1 + 1 + 1 + 1 + 1 + 1, k6), (L + 1 + 1 + 1 + 1 + 1, k5), (L + 1 + 1 + 1 + 1, k4), (L + 1 + 1 + 1, k3), (L + 1 + 1, k2), (L + 1, k1), (76, tabObj ps)]).Nodup := by
  have no : ∀ {l : List Nat}, l.Pairwise (fun a b => a ≠ b) → List.Nodup l := fun h => h
  refine no (l := [lo, q0, q1, lv, lc, L + 1 + 1 + 1 + 1 + 1 + 1, L + 1 + 1 + 1 + 1 + 1, L + 1 + 1 + 1 + 1, L + 1 + 1 + 1, L + 1 + 1, L + 1, 76]) ?_
  have nT : [lc, L + 1 + 1 + 1 + 1 + 1 + 1, L + 1 + 1 + 1 + 1 + 1, L + 1 + 1 + 1 + 1, L + 1 + 1 + 1, L + 1 + 1, L + 1, 76].Nodup :=
    Dec.nodup ⟨hlc, Nat.lt_succ_self _, Nat.lt_succ_self _, Nat.lt_succ_self _, Nat.lt_succ_self _, Nat.lt_succ_self _, Nat.lt_succ_of_lt l0, trivial⟩
  have nX := List.nodup_cons.mpr ⟨fun m => hv lv (.tail _ (.tail _ m)) rfl, nT⟩
  exact nodup_gt (fun b m => (List.mem_cons.mp m).elim (fun e => e ▸ Nat.lt_trans hq1 hq2) fun m => (List.mem_cons.mp m).elim (fun e => e ▸ hq2) fun m => Nat.lt_trans (hq b m) (Nat.lt_trans hq1 hq2))
    (List.nodup_cons.mpr ⟨fun m => (List.mem_cons.mp m).elim (fun e => Nat.ne_of_lt hq1 e) fun m => Nat.lt_irrefl _ (hq q0 m), nodup_gt (fun b m => Nat.lt_trans (hq b m) hq1) nX⟩)

theorem law_walk : ∀ {w : World} {p : Program} {loose : List Str} {mean : ExcName → Option Value} {mg mb : Str → Option Value} {G : Heap} {L fa : Addr} {m : Str → Option Value} {s : Shared} {Q : Flow → Shared → Prop} {ls : Addr} {vs : List Value} {zs : List Int} {k1 k2 k3 k4 k5 k6 : Obj}
    (B : Below callerA G [] G) (X : (hd.heap_39 w.params).In G) (T : Top p loose mean mg mb G) (hC : CodeHd G 78 76) (F : Fr G L s.heap m) (N : News G L s.heap [(L + 1 + 1 + 1 + 1 + 1 + 1, k6), (L + 1 + 1 + 1 + 1 + 1, k5), (L + 1 + 1 + 1 + 1, k4), (L + 1 + 1 + 1, k3), (L + 1 + 1, k2), (L + 1, k1), (76, tabObj #[])])
    (hs : m (Str.ofString "script") = some (.ref ls)) (hl : G.IsList ls vs.toArray) (hI : IntsAre vs zs) (l0 : @LT.lt Nat _ 76 L) (d1 : k1.data = .cell none) (d2 : k2.data = .cell none) (d3 : k3.data = .cell none) (d4 : k4.data = .cell none) (d5 : k5.data = .cell none) (d6 : k6.data = .cell none)
    (hQ : ∀ h tk m' ps, Fr G L h m' → h.get? 76 = some (tabObj ps) → Q (.ret (.bool true)) { s with heap := h, toks := tk }),
    wpAny (model PySem.Challenge.rw_rs0028_01.row.prog w) (callerA.deeper (envOfC (Str.ofString "law") lawScope L fa (.ref 78))) (execs (lawBody.drop 0) (envOfC (Str.ofString "law") lawScope L fa (.ref 78))) Q (fun _ _ => False) s := by
  intro w p loose mean mg mb G L fa m s Q ls vs zs k1 k2 k3 k4 k5 k6 B X T hC F N hs hl hI l0 d1 d2 d3 d4 d5 d6 hQ
  have F1 := fr_name F hs
  show wpAny (model PySem.Challenge.rw_rs0028_01.row.prog w) (callerA.deeper (envOfC (Str.ofString "law") lawScope L fa (.ref 78))) (execs (lawBody.drop 0) (envOfC (Str.ofString "law") lawScope L fa (.ref 78))) Q (fun _ _ => False) _
  with_reducible refine law_cut 0 2 ?_
  with_reducible refine seg0 B X T hC F1 N hl hI l0 d1 ?_
  intro h tk m' lc c0 c1 c2 c3 u0 u1 u2 u3 nc k1 F d1 N hlc
  show wpAny (model PySem.Challenge.rw_rs0028_01.row.prog w) (callerA.deeper (envOfC (Str.ofString "law") lawScope L fa (.ref 78))) (execs (lawBody.drop 2) (envOfC (Str.ofString "law") lawScope L fa (.ref 78))) Q (fun _ _ => False) _
  with_reducible refine law_cut 2 1 ?_
  with_reducible refine seg2 B X T hC F N d1 ?_
  intro h tk cd tc hcd F N
  show wpAny (model PySem.Challenge.rw_rs0028_01.row.prog w) (callerA.deeper (envOfC (Str.ofString "law") lawScope L fa (.ref 78))) (execs (lawBody.drop 3) (envOfC (Str.ofString "law") lawScope L fa (.ref 78))) Q (fun _ _ => False) _
  with_reducible refine law_cut 3 3 ?_
  with_reducible refine seg3 B X T hC F N d1 hcd ?_
  intro h tk m' lb nb b0 b1 b2 b3 b4 b5 b6 F N hb
  have y1 : @Ne Nat lc (L + 1 + 1) := by omega
  have y2 : @Ne Nat lb (L + 1 + 1) := Ne.symm (hb (L + 1 + 1) (by simp))
  have y3 : @Ne Nat lc 76 := by omega
  have y4 : @Ne Nat lb 76 := Ne.symm (hb 76 (by simp))
  show wpAny (model PySem.Challenge.rw_rs0028_01.row.prog w) (callerA.deeper (envOfC (Str.ofString "law") lawScope L fa (.ref 78))) (execs (lawBody.drop 6) (envOfC (Str.ofString "law") lawScope L fa (.ref 78))) Q (fun _ _ => False) _
  with_reducible refine law_cut 6 1 ?_
  with_reducible refine seg6 (ps := #[]) B X T hC F N d1 d2 hcd l0 y1 y2 y3 y4 ?_
  clear y1 y2 y3 y4 hb
  intro h tk m' ln nn k2 ps a0 a1 a2 a3 a4 a5 a6 F d2 N hn
  show wpAny (model PySem.Challenge.rw_rs0028_01.row.prog w) (callerA.deeper (envOfC (Str.ofString "law") lawScope L fa (.ref 78))) (execs (lawBody.drop 7) (envOfC (Str.ofString "law") lawScope L fa (.ref 78))) Q (fun _ _ => False) _
  with_reducible refine law_cut 7 1 ?_
  with_reducible refine seg7 B X T hC F N d1 d2 hcd ?_
  intro h tk m' F N
  have y1 : @Ne Nat lc (L + 1 + 1 + 1) := by omega
  have y2 : @Ne Nat ln (L + 1 + 1 + 1) := Ne.symm (hn (L + 1 + 1 + 1) (by simp))
  show wpAny (model PySem.Challenge.rw_rs0028_01.row.prog w) (callerA.deeper (envOfC (Str.ofString "law") lawScope L fa (.ref 78))) (execs (lawBody.drop 8) (envOfC (Str.ofString "law") lawScope L fa (.ref 78))) Q (fun _ _ => False) _
  with_reducible refine law_cut 8 2 ?_
  with_reducible refine seg8 B X T hC F N d1 d2 d3 y1 y2 l0 ?_
  clear y1 y2
  intro h tk m' lg ng k3 g0 g1 g2 t0 t1 t2 F d3 hg N hgn
  have y1 : @Ne Nat lc (L + 1 + 1 + 1 + 1) := by omega
  have y2 : @Ne Nat ln (L + 1 + 1 + 1 + 1) := Ne.symm (hn (L + 1 + 1 + 1 + 1) (by simp))
  have y3 : @Ne Nat lg (L + 1 + 1 + 1 + 1) := Ne.symm (hgn (L + 1 + 1 + 1 + 1) (by simp))
  show wpAny (model PySem.Challenge.rw_rs0028_01.row.prog w) (callerA.deeper (envOfC (Str.ofString "law") lawScope L fa (.ref 78))) (execs (lawBody.drop 10) (envOfC (Str.ofString "law") lawScope L fa (.ref 78))) Q (fun _ _ => False) _
  with_reducible refine law_cut 10 1 ?_
  with_reducible refine seg10 B X T hC F N d1 d2 d3 d4 hcd hg y1 y2 y3 l0 ?_
  clear y1 y2 y3 hn hgn
  intro h tk m' lv nv k4 v w0 w1 w2 w3 F d4 hup hok N hv
  have N1 : News G L h [(lv, listOf #[.str (v 0) w0, .str (v 1) w1, .str (v 2) w2, .str (v 3) w3] nv), (lc, listOf #[.int c0 u0, .int c1 u1, .int c2 u2, .int c3 u3] nc), (L + 1 + 1 + 1 + 1 + 1 + 1, k6), (L + 1 + 1 + 1 + 1 + 1, k5), (L + 1 + 1 + 1 + 1, k4), (L + 1 + 1 + 1, k3), (L + 1 + 1, k2), (L + 1, k1), (76, tabObj ps)] := cb_drop N (by kcj_all)
  show wpAny (model PySem.Challenge.rw_rs0028_01.row.prog w) (callerA.deeper (envOfC (Str.ofString "law") lawScope L fa (.ref 78))) (execs (lawBody.drop 11) (envOfC (Str.ofString "law") lawScope L fa (.ref 78))) Q (fun _ _ => False) _
  with_reducible refine law_cut 11 1 ?_
  with_reducible refine seg11 B X T hC F N1 d1 ?_
  clear N N1
  intro h tk l4 n4 f0 f1 f2 f3 x0 x1 x2 x3 F N h4
  have y1 : @Ne Nat lc (L + 1 + 1 + 1 + 1 + 1) := by omega
  have y2 : @Ne Nat lv (L + 1 + 1 + 1 + 1 + 1) := Ne.symm (hv (L + 1 + 1 + 1 + 1 + 1) (by simp))
  show wpAny (model PySem.Challenge.rw_rs0028_01.row.prog w) (callerA.deeper (envOfC (Str.ofString "law") lawScope L fa (.ref 78))) (execs (lawBody.drop 12) (envOfC (Str.ofString "law") lawScope L fa (.ref 78))) Q (fun _ _ => False) _
  with_reducible refine law_cut 12 2 ?_
  with_reducible refine seg12 B X T hC F N d1 d5 y1 y2 h4 l0 ?_
  clear y1 y2
  intro h tk m' lo q0 q1 no n0 n1 e00 e01 e10 e11 b00 b01 b10 b11 k5 F d5 N hq hq1 hq2
  have hnd : (List.map (fun (p : Addr × Obj) => p.1) [(lo, listOf #[.ref q0, .ref q1] no), (q0, listOf #[.int e00 b00, .int e01 b01] n0), (q1, listOf #[.int e10 b10, .int e11 b11] n1), (lv, listOf #[.str (v 0) w0, .str (v 1) w1, .str (v 2) w2, .str (v 3) w3] nv), (lc, listOf #[.int c0 u0, .int c1 u1, .int c2 u2, .int c3 u3] nc), (L + 1 + 1 + 1 + 1 + 1 + 1, k6), (L + 1 + 1 + 1 + 1 + 1, k5), (L + 1 + 1 + 1 + 1, k4), (L + 1 + 1 + 1, k3), (L + 1 + 1, k2), (L + 1, k1), (76, tabObj ps)]).Nodup := nodup12 hlc l0 hv hq hq1 hq2
  show wpAny (model PySem.Challenge.rw_rs0028_01.row.prog w) (callerA.deeper (envOfC (Str.ofString "law") lawScope L fa (.ref 78))) (execs (lawBody.drop 14) (envOfC (Str.ofString "law") lawScope L fa (.ref 78))) Q (fun _ _ => False) _
  with_reducible refine law_cut 14 1 ?_
  with_reducible refine seg14 B X T hC F N d1 d4 d5 hnd ?_
  clear hq hq1 hq2 hnd N
  intro D h tk ys nw F N hD hR
  have yD : @Ne Nat D (L + 1 + 1 + 1 + 1 + 1 + 1) := Ne.symm (hD (L + 1 + 1 + 1 + 1 + 1 + 1, k6) (hR.mem (by simp)))
  obtain ⟨r, f, ts, ns, rfl, rfl, hin, hDr, hre⟩ := rows4 hR hD
  have hre2 : ∀ b ∈ [lv, lc, L + 1 + 1 + 1 + 1 + 1 + 1, L + 1 + 1 + 1 + 1 + 1, L + 1 + 1 + 1 + 1, L + 1 + 1 + 1, L + 1 + 1, L + 1, 76], ∀ i, b ≠ r i := by
    intro b hb i
    refine hre b ?_ i
    simp only [List.mem_cons, List.map_cons, List.map_nil, List.not_mem_nil, or_false] at hb ⊢
    rcases hb with rfl | rfl | rfl | rfl | rfl | rfl | rfl | rfl | rfl <;> simp
  have N1 : News G L h ((D, tb4 r 4) :: (r 3, rw4 v f ts ns 3) :: (r 2, rw4 v f ts ns 2) :: (r 1, rw4 v f ts ns 1) :: (r 0, rw4 v f ts ns 0) :: [(lo, listOf #[.ref q0, .ref q1] no), (q0, listOf #[.int e00 b00, .int e01 b01] n0), (q1, listOf #[.int e10 b10, .int e11 b11] n1), (lv, vt4 v (mkF w0 w1 w2 w3) nv), (lc, listOf #[.int c0 u0, .int c1 u1, .int c2 u2, .int c3 u3] nc), (L + 1 + 1 + 1 + 1 + 1 + 1, k6), (L + 1 + 1 + 1 + 1 + 1, k5), (L + 1 + 1 + 1 + 1, k4), (L + 1 + 1 + 1, k3), (L + 1 + 1, k2), (L + 1, k1), (76, tabObj ps)]) := N
  have N2 : News G L h [(D, tb4 r 4), (r 0, rw4 v f ts ns 0), (r 1, rw4 v f ts ns 1), (r 2, rw4 v f ts ns 2), (r 3, rw4 v f ts ns 3), (lv, vt4 v (mkF w0 w1 w2 w3) nv), (lc, listOf #[.int c0 u0, .int c1 u1, .int c2 u2, .int c3 u3] nc), (L + 1 + 1 + 1 + 1 + 1 + 1, k6), (L + 1 + 1 + 1 + 1 + 1, k5), (L + 1 + 1 + 1 + 1, k4), (L + 1 + 1 + 1, k3), (L + 1 + 1, k2), (L + 1, k1), (76, tabObj ps)] := cb_drop N1 (by kcj_all)
  clear N N1 hR hD
  show wpAny (model PySem.Challenge.rw_rs0028_01.row.prog w) (callerA.deeper (envOfC (Str.ofString "law") lawScope L fa (.ref 78))) (execs (lawBody.drop 15) (envOfC (Str.ofString "law") lawScope L fa (.ref 78))) Q (fun _ _ => False) _
  with_reducible refine law_cut 15 1 ?_
  with_reducible refine seg15 B X T hC F N2 d1 d4 hin hDr hre2 ?_
  clear N2
  intro h tk m' f ts ns F hmf N
  have F1 := fr_name F hmf
  have N1 : News G L h [(D, tb4 r 4), (r 0, rw4 v f ts ns 0), (r 1, rw4 v f ts ns 1), (r 2, rw4 v f ts ns 2), (r 3, rw4 v f ts ns 3), (lv, vt4 v (mkF w0 w1 w2 w3) nv), (L + 1 + 1 + 1 + 1 + 1 + 1, k6), (L + 1 + 1 + 1 + 1 + 1, k5), (L + 1 + 1 + 1 + 1, k4), (L + 1 + 1 + 1, k3), (L + 1 + 1, k2), (L + 1, k1), (76, tabObj ps)] := cb_drop N (by kcj_all)
  show wpAny (model PySem.Challenge.rw_rs0028_01.row.prog w) (callerA.deeper (envOfC (Str.ofString "law") lawScope L fa (.ref 78))) (execs (lawBody.drop 16) (envOfC (Str.ofString "law") lawScope L fa (.ref 78))) Q (fun _ _ => False) _
  with_reducible refine law_cut 16 2 ?_
  with_reducible refine seg17 B X T hC F1 N1 d4 ?_
  clear N N1 F1
  intro h tk m' lp pd np F hmf hmp N hlp hpd
  have F1 := fr_name (fr_name F hmp) (y := Str.ofString "fields") (v := .ref D) hmf
  have h6 : ∀ b ∈ [lp, D, r 0, r 1, r 2, r 3, lv], @Ne Nat b (L + 1 + 1 + 1 + 1 + 1 + 1) := by
    have q1 : @Ne Nat lp (L + 1 + 1 + 1 + 1 + 1 + 1) := Nat.ne_of_gt (hlp (L + 1 + 1 + 1 + 1 + 1 + 1) (by simp))
    have q2 := fun i => Ne.symm (hre2 (L + 1 + 1 + 1 + 1 + 1 + 1) (by simp) i)
    have q3 : @Ne Nat lv (L + 1 + 1 + 1 + 1 + 1 + 1) := Ne.symm (hv (L + 1 + 1 + 1 + 1 + 1 + 1) (by simp))
    intro b hb
    simp only [List.mem_cons, List.not_mem_nil, or_false] at hb
    rcases hb with rfl | rfl | rfl | rfl | rfl | rfl | rfl
    · exact q1
    · exact yD
    · exact q2 0
    · exact q2 1
    · exact q2 2
    · exact q2 3
    · exact q3
  have hmp1 : (fun z => if z = Str.ofString "fields" then some (Value.ref D) else (fun z => if z = Str.ofString "paid" then some (Value.ref lp) else m' z) z) (Str.ofString "paid") = some (.ref lp) := rfl
  have hmp2 : (fun z => if z = Str.ofString "paid" then some (Value.ref lp) else m' z) (Str.ofString "paid") = some (.ref lp) := rfl
  show wpAny (model PySem.Challenge.rw_rs0028_01.row.prog w) (callerA.deeper (envOfC (Str.ofString "law") lawScope L fa (.ref 78))) (execs (lawBody.drop 18) (envOfC (Str.ofString "law") lawScope L fa (.ref 78))) Q (fun _ _ => False) _
  with_reducible refine law_cut 18 1 ?_
  with_reducible refine seg18 (m := fun z => if z = Str.ofString "paid" then some (Value.ref lp) else m' z) B X T hC F1 N d4 d6 hmp2 l0 h6 ?_
  clear F1 N h6 hlp hmp1 hmp2
  intro h tk lq q0 q1 k6 F N d6
  show wpAny (model PySem.Challenge.rw_rs0028_01.row.prog w) (callerA.deeper (envOfC (Str.ofString "law") lawScope L fa (.ref 78))) (execs (lawBody.drop 19) (envOfC (Str.ofString "law") lawScope L fa (.ref 78))) Q (fun _ _ => False) _
  with_reducible refine law_cut 19 1 ?_
  with_reducible refine seg19 B X T hC F N hup d4 d6 ?_
  clear F N
  intro Dt h tk ys nw F N hT
  obtain ⟨e, us, ms, rfl, rfl⟩ := trows4 hT
  have F1 : Fr G L h (fun y => if y = Str.ofString "told" then some (.ref Dt) else if y = Str.ofString "fields" then some (.ref D) else if y = Str.ofString "paid" then some (.ref lp) else m' y) := F
  have N1 : News G L h ((Dt, tb4 e 4) :: (e 3, rw4 v (tld f) us ms 3) :: (e 2, rw4 v (tld f) us ms 2) :: (e 1, rw4 v (tld f) us ms 1) :: (e 0, rw4 v (tld f) us ms 0) :: [(lq, listOf #[.ref q0, .ref q1] 0), (q1, listOf #[.str (v (f 3 0)) (ts 3 0), .str (v (f 3 3)) (ts 3 3)] 0), (q0, listOf #[.str (v (f 0 0)) (ts 0 0), .str (v (f 0 3)) (ts 0 3)] 0), (lp, listOf pd np), (D, tb4 r 4), (r 0, rw4 v f ts ns 0), (r 1, rw4 v f ts ns 1), (r 2, rw4 v f ts ns 2), (r 3, rw4 v f ts ns 3), (lv, vt4 v (mkF w0 w1 w2 w3) nv), (L + 1 + 1 + 1 + 1 + 1 + 1, k6), (L + 1 + 1 + 1 + 1 + 1, k5), (L + 1 + 1 + 1 + 1, k4), (L + 1 + 1 + 1, k3), (L + 1 + 1, k2), (L + 1, k1), (76, tabObj ps)]) := N
  have N2 : News G L h ((Dt, tb4 e 4) :: (e 0, rw4 v (tld f) us ms 0) :: (e 1, rw4 v (tld f) us ms 1) :: (e 2, rw4 v (tld f) us ms 2) :: (e 3, rw4 v (tld f) us ms 3) :: [(lq, listOf #[.ref q0, .ref q1] 0), (q1, listOf #[.str (v (f 3 0)) (ts 3 0), .str (v (f 3 3)) (ts 3 3)] 0), (q0, listOf #[.str (v (f 0 0)) (ts 0 0), .str (v (f 0 3)) (ts 0 3)] 0), (lp, listOf pd np), (D, tb4 r 4), (r 0, rw4 v f ts ns 0), (r 1, rw4 v f ts ns 1), (r 2, rw4 v f ts ns 2), (r 3, rw4 v f ts ns 3), (lv, vt4 v (mkF w0 w1 w2 w3) nv), (L + 1 + 1 + 1 + 1 + 1 + 1, k6), (L + 1 + 1 + 1 + 1 + 1, k5), (L + 1 + 1 + 1 + 1, k4), (L + 1 + 1 + 1, k3), (L + 1 + 1, k2), (L + 1, k1), (76, tabObj ps)]) := cb_drop N1 (by kcj_all)
  clear N N1 F hT
  show wpAny (model PySem.Challenge.rw_rs0028_01.row.prog w) (callerA.deeper (envOfC (Str.ofString "law") lawScope L fa (.ref 78))) (execs (lawBody.drop 20) (envOfC (Str.ofString "law") lawScope L fa (.ref 78))) Q (fun _ _ => False) _
  with_reducible refine law_cut 20 2 ?_
  with_reducible refine seg20 B X T hC F1 N2 hup hok hpd ?_ ?_
  · intro h tk m' F hp
    show Q (.ret (.bool true)) _
    exact hQ _ _ _ _ F hp
  clear F1 N2
  intro h tk htl F N
  have hf1 : (fun y => if y = Str.ofString "told" then some (Value.ref Dt) else if y = Str.ofString "fields" then some (.ref D) else if y = Str.ofString "paid" then some (.ref lp) else m' y) (Str.ofString "fields") = some (.ref D) := rfl
  have F1 := fr_name F hf1
  show wpAny (model PySem.Challenge.rw_rs0028_01.row.prog w) (callerA.deeper (envOfC (Str.ofString "law") lawScope L fa (.ref 78))) (execs (lawBody.drop 22) (envOfC (Str.ofString "law") lawScope L fa (.ref 78))) Q (fun _ _ => False) _
  with_reducible refine law_cut 22 4 ?_
  with_reducible refine seg22 B X T hC F1 N hup hok d6 ?_
  clear F1 F N hf1
  intro h tk m' tl tg F hmf hml hmg N
  have F1 := fr_name (fr_name (fr_name F hmg) (y := Str.ofString "lesser") hml) (y := Str.ofString "fields") hmf
  show wpAny (model PySem.Challenge.rw_rs0028_01.row.prog w) (callerA.deeper (envOfC (Str.ofString "law") lawScope L fa (.ref 78))) (execs (lawBody.drop 26) (envOfC (Str.ofString "law") lawScope L fa (.ref 78))) Q (fun _ _ => False) _
  with_reducible refine law_cut 26 2 ?_
  with_reducible refine seg26 B X T hC F1 N hup hok d4 d6 htl ?_
  intro h tk m' F hp
  show Q (.ret (.bool true)) _
  exact hQ _ _ _ _ F hp
end Mine

namespace Mine
open PyProof.V PySem PyProof.Rows.LCg PyProof.Rows.LCt PySem.W PyProof.Rows PySem.Calls PySem.Spec
theorem w_off_FIN : True := by
  w_top off
  exact trivial
theorem fin0 : PySem.Challenge.rw_rs0028_01.Holds := hd (by
  w_strict (k_go0; (all_goals try k_fold)
            ; (rename Fr _ _ _ _ => FF)
            ; (rename News _ _ _ _ => NN)
            ; (rename CodeHd _ _ _ => CC)
            ; (rename Below _ _ _ _ => BB)
            ; (rename IntsAre _ _ => II)
            ; refine wpAny_mono (Q := _) (law_walk BB (by assumption) (by assumption) CC FF NN rfl (by assumption) II (by assumption) (by assumption) (by assumption) (by assumption) (by assumption) (by assumption) (by assumption) ?_) (fun _ _ q => q) (fun _ _ e => e.elim)
            ; intro h tk m' ps F hp
            ; refine ⟨goodW_bool F (by assumption) (fun _ => rfl) ?_ rfl, ?_⟩
            ; wrow_post
            ; exact ⟨⟨ps, hp⟩, trivial⟩))
end Mine

theorem PySem.Challenge.cw_rs0028_01_holds : PySem.Challenge.rw_rs0028_01.Holds :=
  Mine.fin0
