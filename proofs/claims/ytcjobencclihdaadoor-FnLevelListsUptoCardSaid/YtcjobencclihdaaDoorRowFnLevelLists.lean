/- FnLevelLists, where what comes in is of bulk at most 1048576: the law returns true and the arguments read as before; the card ties the listed variables to the program's text. No other condition. -/
import Derived.Test.YtcjobencclihdaaDoorCards
import Derived.Test.YtcjobencclihdaaDoorTie
import Derived.Test.YtcjobencclihdaaDoorLvI
import Derived.WalkKit
import Derived.ProofKit
import Derived.OpenShut
import Derived.OpenVars
import Derived.ChangeOld
import Derived.Below
import Derived.SizedLaws
import Derived.ChangeSlices
import Derived.LaidMore
import Derived.LaidOnce
import Derived.Lib.LaidTab
import Derived.Deep.DeepHandedRow
import Derived.Deep.DeepWitnessRowRef
import Derived.Stop.Joined
namespace Go.Proofs.YtcjobencclihdaaDoor.rowFnLevelLists
open Go.ChangeShapes Go.WideShapes Go.ChangeAt Go.RowKit
set_option linter.unusedVariables false
theorem own : ownKnob Tryd.prog.godebug = none := by kernel_rfl
theorem laidOut : laidOutB Tryd.prog = true := by kernel_rfl
theorem g1 : Tryd.prog.globalNamed "given.example/pub-arrowroot/pub/arrow/arrow/bitutil.BitMask" = some 0 := by kernel_rfl
theorem g2 : Tryd.prog.globalNamed "given.example/pub-arrowroot/pub/arrow/arrow/bitutil.PrecedingBitmask" = some 1 := by kernel_rfl
theorem t1 : (Tryd.prog.globals[0]?).map (·.type) = some 81 := by kernel_rfl
theorem t2 : (Tryd.prog.globals[1]?).map (·.type) = some 81 := by kernel_rfl
theorem cGT : Tryd.prog.cellsOf 81 = 8 := by kernel_rfl
theorem c5 : Tryd.prog.cellsOf 5 = 1 := by kernel_rfl
/-- What the listed variables hold. -/
theorem masks {W : World} (h : laidMetH Tryd.prog Rows.fnLevelListsUptoRow.laid W) : Lv.Masks W := by
  have h1 : Lib.TabIs Tryd.prog W "given.example/pub-arrowroot/pub/arrow/arrow/bitutil.BitMask" .u8 [1, 2, 4, 8, 16, 32, 64, 128] := Lib.tabIs_of_head (rest := [("given.example/pub-arrowroot/pub/arrow/arrow/bitutil.PrecedingBitmask", Lib.tabData .u8 [0, 1, 3, 7, 15, 31, 63, 127])]) g1 t1 Tryd.underlying81 Tryd.underlying5 c5 cGT h
  have h2 : Lib.TabIs Tryd.prog W "given.example/pub-arrowroot/pub/arrow/arrow/bitutil.PrecedingBitmask" .u8 [0, 1, 3, 7, 15, 31, 63, 127] := by
    have h' : laidMet Tryd.prog [("given.example/pub-arrowroot/pub/arrow/arrow/bitutil.BitMask", Lib.tabData .u8 [1, 2, 4, 8, 16, 32, 64, 128]), ("given.example/pub-arrowroot/pub/arrow/arrow/bitutil.PrecedingBitmask", Lib.tabData .u8 [0, 1, 3, 7, 15, 31, 63, 127])] W := h
    obtain ⟨ps, ⟨_, _, _, _, _, _, _, _, _, _, ⟨g', t', cs, fuel, p, q, hg', ht', hvar, hd, _, _⟩, _⟩, _⟩ := h'
    obtain rfl := Option.some.inj (g2.symm.trans hg')
    obtain rfl := Option.some.inj (t2.symm.trans ht')
    unfold Lib.TabIs
    rw [hvar, ← Lib.cells_of_tab Tryd.underlying81 Tryd.underlying5 c5 cGT hd]
  refine ⟨fun k hk => ?_, fun k hk => ?_⟩
  · rw [h1.cell g1 k hk]
    match k, hk with
    | 0, _ | 1, _ | 2, _ | 3, _ | 4, _ | 5, _ | 6, _ | 7, _ => rfl
  · rw [h2.cell g2 k hk]
    match k, hk with
    | 0, _ | 1, _ | 2, _ | 3, _ | 4, _ | 5, _ | 6, _ | 7, _ => rfl
theorem two_of {H : Type} {enc : TypeId × Value → H} {W : World} {n1 n2 : String} {gs : List (DataW H)} {q : List MemPlace} (hV : DataW.TrodVars enc Tryd.prog W (fun _ => true) [n1, n2] gs q) : ∃ a b, gs = [a, b] := by
  cases gs with
  | nil => exact hV.elim
  | cons a l =>
    obtain ⟨_, _, _, _, _, _, _, _, _, _, h, _⟩ := hV
    cases l with
    | nil => exact h.elim
    | cons b l =>
      obtain ⟨_, _, _, _, _, _, _, _, _, _, h, _⟩ := h
      cases l with
      | nil => exact ⟨a, b, rfl⟩
      | cons c l => exact h.elim
set_option maxRecDepth 100000 in
theorem contract (H : Type) (enc : TypeId × Value → H) (W : World) (base : Nat) (args : Array Value) (ds gs : List (DataW H)) (before : List MemPlace)
    (hval : ∀ (j : Nat) t v, Tryd.f3.params[j]? = some t → args[j]? = some v → Value.okWide Tryd.prog W .any base t v)
    (hW : DataW.Whole enc Tryd.prog Tryd.f3.params.toList Rows.fnLevelListsSpec.vars false W args.toList ds gs before) (hL : laidMetH Tryd.prog Rows.fnLevelListsUptoRow.laid W) (hk : Rows.uptoSmall H (ds ++ gs) = true) :
    Calls Tryd.prog 3 args W fun e W' => ∃ v, e = .returned v ∧ Rows.fnLevelListsSpec.post enc Tryd.prog Tryd.f3 false true false false W args v W' := by
  have hW' := hW
  obtain ⟨p, q, hA0, hV, rfl, hfz, hnd⟩ := hW
  have hA : DataW.TrodAll enc Tryd.prog W 0 (fun _ => true) true Tryd.f3.params.toList args.toList ds p := hA0
  rw [Tryd.params3] at hA hval
  obtain ⟨v0, vs0, d0, ds0, p0, q0, hargs, rfl, rfl, h0, r0⟩ := trodAll_cons hA
  obtain ⟨v1, vs1, d1, ds1, p1, q1, rfl, rfl, rfl, h1, r1⟩ := trodAll_cons r0
  obtain ⟨v2, vs2, d2, ds2, p2, q2, rfl, rfl, rfl, h2, r2⟩ := trodAll_cons r1
  obtain ⟨v3, vs3, d3, ds3, p3, q3, rfl, rfl, rfl, h3, r3⟩ := trodAll_cons r2
  obtain ⟨v4, vs4, d4, ds4, p4, q4, rfl, rfl, rfl, h4, r4⟩ := trodAll_cons r3
  obtain ⟨v5, vs5, d5, ds5, p5, q5, rfl, rfl, rfl, h5, r5⟩ := trodAll_cons r4
  obtain ⟨rfl, rfl, rfl⟩ := trodAll_nil r5
  obtain rfl : args = #[v0, v1, v2, v3, v4, v5] := by cases args; simp_all
  obtain ⟨y1, y2, rfl⟩ : ∃ a b, gs = [a, b] := two_of hV
  obtain ⟨a0, len0, cap0, rfl⟩ := okWide_slice Tryd.underlying22 (hval 0 22 v0 rfl rfl)
  obtain ⟨a1, rfl, rfl, rfl, w1⟩ := open_int Tryd.underlying3 (hval 1 3 v1 rfl rfl) h1
  obtain ⟨a2, rfl, rfl, rfl, w2⟩ := open_int Tryd.underlying3 (hval 2 3 v2 rfl rfl) h2
  obtain ⟨a3, rfl, rfl, rfl, w3⟩ := open_int Tryd.underlying3 (hval 3 3 v3 rfl rfl) h3
  obtain ⟨a4, rfl, rfl, rfl, w4⟩ := open_int Tryd.underlying3 (hval 4 3 v4 rfl rfl) h4
  obtain ⟨a5, rfl, rfl, rfl⟩ := open_bool Tryd.underlying4 (hval 5 4 v5 rfl rfl) h5
  have lt0 : ∀ x ∈ p0, x.block < W.heap.size := by obtain ⟨m, hm⟩ := h0; exact DataW.trod_lt m _ _ _ hm
  have hbulk : Rows.uptoBulk d0 ≤ 1048576 := by
    have h9 := of_decide_eq_true hk
    simp only [List.cons_append, Rows.uptoBulkAll] at h9
    omega
  obtain ⟨vs, ts, hrow, hcap, hat⟩ : ∃ vs ts, Lv.Row W 5 a0 len0 vs ts ∧ len0 ≤ cap0 ∧ ∀ j, j ≤ 5 → (Lv.atT j ts).length ≤ Rows.uptoBulk d0 := by
    obtain ⟨fuel, hf⟩ := h0
    exact Lv.trees_in 5 hf hbulk
  have hwalk : Calls Tryd.prog 3 #[.slice a0 len0 cap0, .int .i64 a1, .int .i64 a2, .int .i64 a3, .int .i64 a4, .bool a5] W (Lv.BoolB true W) := by
    cases a5
    · exact Lv.law_narrow W a0 len0 cap0 vs ts a1 a2 a3 a4 hrow hcap (fun j hj => Nat.le_trans (hat j hj) hbulk) (masks hL)
    · exact Lv.law_wide W a0 len0 cap0 vs ts a1 a2 a3 a4 hrow hcap (fun j hj => Nat.le_trans (hat j hj) hbulk) (masks hL)
  clear hA0
  refine hwalk.mono fun e W' ⟨he, bel⟩ => ?_
  subst he
  exact ⟨_, rfl, _, _, _, [], _, _, hW', trodAll_mk1 (shut_bool Tryd.underlying4 _),
    (trodAll_cons_mk (Below.trod laidOut (by kernel_rfl) (of_decide_eq_true (by kernel_rfl)) h0 bel lt0) (trodAll_cons_mk (shut_int Tryd.underlying3 w1) (trodAll_cons_mk (shut_int Tryd.underlying3 w2) (trodAll_cons_mk (shut_int Tryd.underlying3 w3) (trodAll_cons_mk (shut_int Tryd.underlying3 w4) (trodAll_cons_mk (shut_bool Tryd.underlying4 _) trodAll_mk0)))))),
    Below.trodVars laidOut bel (by kernel_rfl) hV, bel.frame _, fun h => by cases h⟩
/-- A world for the witness: the two tables hold what their initialisers lay. -/
def laidObj (cs : Array Value) (o : Obj) : Obj := match o with
  | .cells _ t frozen => .cells cs t frozen
  | o => o
noncomputable def laidWorld (os : Os) : World :=
  { World.holding Tryd.prog os ⟨#[], #[], []⟩ with heap := ((World.holding Tryd.prog os ⟨#[], #[], []⟩).heap.modify 0 (laidObj #[.int .u8 1, .int .u8 2, .int .u8 4, .int .u8 8, .int .u8 16, .int .u8 32, .int .u8 64, .int .u8 128])).modify 1 (laidObj #[.int .u8 0, .int .u8 1, .int .u8 3, .int .u8 7, .int .u8 15, .int .u8 31, .int .u8 63, .int .u8 127]) }
def wit : Array Value := #[.slice none 0 0, .int .i64 0, .int .i64 0, .int .i64 0, .int .i64 0, .bool false]
theorem laid_met (os : Os) : laidMet Tryd.prog Rows.fnLevelListsUptoRow.laid ((laidWorld os).forCall (fun _ _ => 0) ⟨#[], wit, []⟩).memory :=
  laidMet_of_run' 8 (by kernel_rfl) (by kernel_rfl)
theorem reads (os : Os) {H : Type} (enc : TypeId × Value → H) : ∃ places, DataW.whole enc Tryd.prog ((laidWorld os).forCall (fun _ _ => 0) ⟨#[], wit, []⟩).memory Tryd.f3.params.toList Rows.fnLevelListsSpec.vars false wit.toList 8 = some ([.nil, .lit (.int .i64 0), .lit (.int .i64 0), .lit (.int .i64 0), .lit (.int .i64 0), .lit (.bool false)], [.agg [.lit (.int .u8 1), .lit (.int .u8 2), .lit (.int .u8 4), .lit (.int .u8 8), .lit (.int .u8 16), .lit (.int .u8 32), .lit (.int .u8 64), .lit (.int .u8 128)], .agg [.lit (.int .u8 0), .lit (.int .u8 1), .lit (.int .u8 3), .lit (.int .u8 7), .lit (.int .u8 15), .lit (.int .u8 31), .lit (.int .u8 63), .lit (.int .u8 127)]], places) :=
  ⟨MemPlace.row ⟨0, 0, none⟩ 8 ++ MemPlace.row ⟨1, 0, none⟩ 8, by kernel_rfl⟩
set_option maxRecDepth 100000 in
theorem lifted (os : Os) (started : os.Started) (H : Type) (enc : TypeId × Value → H) (F : Stop.Interp) :
    ReturnsInHanded {} Tryd.checked os 3 .any ((Rows.OpenSpec.upto Rows.fnLevelListsSpec).preRow enc Tryd.prog Tryd.f3 Rows.fnLevelListsUptoRow.domain false Rows.fnLevelListsUptoRow.laid) (((Rows.OpenSpec.upto Rows.fnLevelListsSpec).at F).post enc Tryd.prog Tryd.f3 false true false false) := by
  obtain ⟨places, hx⟩ := reads os enc
  refine returnsInHanded_of_row (C := Tryd.checked) (s := Rows.OpenSpec.upto Rows.fnLevelListsSpec) own started (by kernel_rfl) Tryd.func3
    (witness_row_at (enc := enc) (C := Tryd.checked) false (laidWorld os) wit rfl (by kernel_rfl) (by kernel_rfl) (by kernel_rfl)
      (OpenSpec.preRow_of_cond 8 hx (by kernel_rfl) (fun k hk => by cases hk; kernel_rfl) (by kernel_rfl) (laid_met os))) ?_
  intro W base args ds gs before hval hW _ hcond _ hL _ _
  exact contract H enc W base args ds gs before hval hW hL (hcond _ rfl)
theorem said : Rows.FnLevelListsUptoSaid :=
  OpenClaim.holds_of_cond 3 Tryd.f3 rfl rfl rfl rfl rfl rfl rfl ⟨rfl, rfl, rfl, rfl, rfl⟩ rfl rfl rfl rfl rfl (by kernel_rfl) Tryd.func3 (by kernel_rfl)
    (of_decide_eq_true (by kernel_rfl)) (by unfold Func.isWrapper; first | (rw [if_pos (by decide +kernel)]; kernel_rfl) | (rw [if_neg (by decide +kernel)]; exact ⟨rfl, rfl⟩))
    (fun os started H enc _ F => by rw [OpenClaim.pre_eq_preRow]; exact lifted os started H enc F)
set_option maxRecDepth 100000 in
/-- No parameter wants a stand-in; what both cards ask. -/
theorem plain (f : FuncId) (fn : Func) (hf : Tryd.pinned.checked.prog.funcNamed "given.example/pub-arrowroot/laws.FnLevelLists" = some f) (hfn : Tryd.pinned.checked.prog.funcs[f]? = some fn) :
    true = Tryd.pinned.checked.prog.looks [] ∧ ∀ (j : Nat) t, fn.params[j]? = some t → Tryd.pinned.checked.prog.wantsStandIn t = false := by
  obtain rfl : f = 3 := Option.some.inj ((show Tryd.prog.funcNamed "given.example/pub-arrowroot/laws.FnLevelLists" = some 3 by kernel_rfl).symm.trans hf) |>.symm
  obtain rfl : fn = Tryd.f3 := (Option.some.inj (Tryd.func3.symm.trans hfn)).symm
  refine ⟨by kernel_rfl, fun j t ht => ?_⟩
  rw [Tryd.params3] at ht
  have hm := Array.mem_of_getElem? ht
  simp only [List.mem_toArray, List.mem_cons, List.not_mem_nil, or_false] at hm
  rcases hm with rfl | rfl | rfl | rfl | rfl | rfl
  all_goals first
    | exact (show Tryd.prog.wantsStandIn 3 = false by kernel_rfl)
    | exact (show Tryd.prog.wantsStandIn 22 = false by kernel_rfl)
    | exact (show Tryd.prog.wantsStandIn 4 = false by kernel_rfl)
theorem card : Rows.FnLevelListsUptoCardSaid :=
  Claim7.holds_tied_plain_at .later [] _ _ _ _ said (fun _ h => by cases h) (by kernel_rfl) (fun _ h => by cases h) fnLevelListsUpto_row_tie rfl ⟨rfl, rfl⟩ (by kernel_rfl) rfl plain (by kernel_rfl)
end Go.Proofs.YtcjobencclihdaaDoor.rowFnLevelLists
namespace Go.Proofs.YtcjobencclihdaaDoor
/-- FnLevelLists, within the bound: true, the arguments as before; the card. -/
theorem fnLevelListsUpto_holds : Rows.FnLevelListsUptoCardSaid := rowFnLevelLists.card
#print axioms fnLevelListsUpto_holds

end Go.Proofs.YtcjobencclihdaaDoor
