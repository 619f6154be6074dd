/- FnCompareFloat64: for every input the law returns true and the arguments read as before; the card ties the listed variables to the program's text. No condition. -/
import Derived.Test.YtmdmpdbnnegpiaaGreatDoorCards
import Derived.Test.YtmdmpdbnnegpiaaGreatDoorTie
import Derived.Test.YtmdmpdbnnegpiaaGreatDoorCmFF
import Derived.WalkKit
import Derived.ProofKit
import Derived.OpenShut
import Derived.OpenVars
import Derived.ChangeOld
import Derived.Below
import Derived.SizedLaws
import Derived.ChangeSlices
import Derived.LaidMore
import Derived.LaidOnce
import Derived.Lib.LaidTab
import Derived.Deep.DeepHandedRow
import Derived.Deep.DeepWitnessRowRef
import Derived.Stop.Joined
namespace Go.Proofs.YtmdmpdbnnegpiaaGreatDoor.rowFnCompareFloat64
open Go.ChangeShapes Go.WideShapes Go.ChangeAt Go.RowKit
set_option linter.unusedVariables false
theorem own : ownKnob Tryz.prog.godebug = none := by kernel_rfl
theorem laidOut : laidOutB Tryz.prog = true := by kernel_rfl
/-- A slice of whole numbers that came in: nil, or a row of cells. -/
def IsRow (k : IntKind) (w : World) (a : Option Addr) (len cap : Nat) (zs : List Int) : Prop :=
  (a = none ∧ len = 0 ∧ cap = 0 ∧ zs = []) ∨
  ∃ x, a = some x ∧ len ≤ cap ∧ cap ≤ maxLen ∧ zs.length = cap ∧ (∀ i, i < zs.length → w.cell? (x.add i) = some (.int k (zs.getD i 0))) ∧ ∀ n ∈ zs, (Lit.int k n).wf = true
theorem g1 : Tryz.prog.globalNamed "given.example/pub-arrowroot/pub/arrow/arrow/bitutil.BitMask" = some 2 := by kernel_rfl
theorem g2 : Tryz.prog.globalNamed "given.example/pub-arrowroot/pub/arrow/arrow/bitutil.FlippedBitMask" = some 3 := by kernel_rfl
theorem t1 : (Tryz.prog.globals[2]?).map (·.type) = some 195 := by kernel_rfl
theorem t2 : (Tryz.prog.globals[3]?).map (·.type) = some 195 := by kernel_rfl
theorem cGT : Tryz.prog.cellsOf 195 = 8 := by kernel_rfl
theorem c5 : Tryz.prog.cellsOf 5 = 1 := by kernel_rfl
/-- What the listed variables hold. -/
theorem masks {W : World} (h : laidMetH Tryz.prog Rows.fnCompareFloat64Row.laid W) : Cmp.Masks W := by
  have h1 : Lib.TabIs Tryz.prog W "given.example/pub-arrowroot/pub/arrow/arrow/bitutil.BitMask" .u8 [1, 2, 4, 8, 16, 32, 64, 128] := Lib.tabIs_of_head (rest := [("given.example/pub-arrowroot/pub/arrow/arrow/bitutil.FlippedBitMask", Lib.tabData .u8 [254, 253, 251, 247, 239, 223, 191, 127])]) g1 t1 Tryz.underlying195 Tryz.underlying5 c5 cGT h
  have h2 : Lib.TabIs Tryz.prog W "given.example/pub-arrowroot/pub/arrow/arrow/bitutil.FlippedBitMask" .u8 [254, 253, 251, 247, 239, 223, 191, 127] := by
    have h' : laidMet Tryz.prog [("given.example/pub-arrowroot/pub/arrow/arrow/bitutil.BitMask", Lib.tabData .u8 [1, 2, 4, 8, 16, 32, 64, 128]), ("given.example/pub-arrowroot/pub/arrow/arrow/bitutil.FlippedBitMask", Lib.tabData .u8 [254, 253, 251, 247, 239, 223, 191, 127])] W := h
    obtain ⟨ps, ⟨_, _, _, _, _, _, _, _, _, _, ⟨g', t', cs, fuel, p, q, hg', ht', hvar, hd, _, _⟩, _⟩, _⟩ := h'
    obtain rfl := Option.some.inj (g2.symm.trans hg')
    obtain rfl := Option.some.inj (t2.symm.trans ht')
    unfold Lib.TabIs
    rw [hvar, ← Lib.cells_of_tab Tryz.underlying195 Tryz.underlying5 c5 cGT hd]
  refine ⟨fun k hk => ?_, fun k hk => ?_⟩
  · rw [h1.cell g1 k hk]
    match k, hk with
    | 0, _ | 1, _ | 2, _ | 3, _ | 4, _ | 5, _ | 6, _ | 7, _ => rfl
  · rw [h2.cell g2 k hk]
    match k, hk with
    | 0, _ | 1, _ | 2, _ | 3, _ | 4, _ | 5, _ | 6, _ | 7, _ => rfl
theorem row_of {k : IntKind} {t e : TypeId} {H : Type} {enc : TypeId × Value → H} {W : World} {a : Option Addr} {len cap : Nat} {d : DataW H} {p : List MemPlace} (hu : Tryz.prog.underlying t = some (.slice e)) (he : Tryz.prog.underlying e = some (.int k)) (hc : Tryz.prog.cellsOf e = 1)
    (h : DataW.Trod enc Tryz.prog W 0 (fun _ => true) true t (.slice a len cap) d p) : ∃ zs, IsRow k W a len cap zs := by
  obtain ⟨fuel, hf⟩ := h
  rcases open_ints hu he hc hf with ⟨hcs, _⟩ | ⟨x, l, c, zs, hcs, _, hl, hm, hz, _, hcell, hwz⟩
  · simp [Value.cells] at hcs
    obtain ⟨rfl, rfl, rfl⟩ := hcs
    exact ⟨[], .inl ⟨rfl, rfl, rfl, rfl⟩⟩
  · simp [Value.cells] at hcs
    obtain ⟨rfl, rfl, rfl⟩ := hcs
    exact ⟨zs, .inr ⟨_, rfl, hl, hm, by simpa using hz, hcell, hwz⟩⟩
theorem two_of {H : Type} {enc : TypeId × Value → H} {W : World} {n1 n2 : String} {gs : List (DataW H)} {q : List MemPlace} (hV : DataW.TrodVars enc Tryz.prog W (fun _ => true) [n1, n2] gs q) : ∃ a b, gs = [a, b] := by
  cases gs with
  | nil => exact hV.elim
  | cons a l =>
    obtain ⟨_, _, _, _, _, _, _, _, _, _, h, _⟩ := hV
    cases l with
    | nil => exact h.elim
    | cons b l =>
      obtain ⟨_, _, _, _, _, _, _, _, _, _, h, _⟩ := h
      cases l with
      | nil => exact ⟨a, b, rfl⟩
      | cons c l => exact h.elim
set_option maxRecDepth 100000 in
theorem contract (H : Type) (enc : TypeId × Value → H) (W : World) (base : Nat) (args : Array Value) (ds gs : List (DataW H)) (before : List MemPlace)
    (hval : ∀ (j : Nat) t v, Tryz.f3.params[j]? = some t → args[j]? = some v → Value.okWide Tryz.prog W .any base t v)
    (hW : DataW.Whole enc Tryz.prog Tryz.f3.params.toList Rows.fnCompareFloat64Spec.vars false W args.toList ds gs before) (hL : laidMetH Tryz.prog Rows.fnCompareFloat64Row.laid W) :
    Calls Tryz.prog 3 args W fun e W' => ∃ v, e = .returned v ∧ Rows.fnCompareFloat64Spec.post enc Tryz.prog Tryz.f3 false true false false W args v W' := by
  have hW' := hW
  obtain ⟨p, q, hA0, hV, rfl, hfz, hnd⟩ := hW
  have hA : DataW.TrodAll enc Tryz.prog W 0 (fun _ => true) true Tryz.f3.params.toList args.toList ds p := hA0
  rw [Tryz.params3] at hA hval
  obtain ⟨v0, vs0, d0, ds0, p0, q0, hargs, rfl, rfl, h0, r0⟩ := trodAll_cons hA
  obtain ⟨v1, vs1, d1, ds1, p1, q1, rfl, rfl, rfl, h1, r1⟩ := trodAll_cons r0
  obtain ⟨v2, vs2, d2, ds2, p2, q2, rfl, rfl, rfl, h2, r2⟩ := trodAll_cons r1
  obtain ⟨v3, vs3, d3, ds3, p3, q3, rfl, rfl, rfl, h3, r3⟩ := trodAll_cons r2
  obtain ⟨v4, vs4, d4, ds4, p4, q4, rfl, rfl, rfl, h4, r4⟩ := trodAll_cons r3
  obtain ⟨v5, vs5, d5, ds5, p5, q5, rfl, rfl, rfl, h5, r5⟩ := trodAll_cons r4
  obtain ⟨rfl, rfl, rfl⟩ := trodAll_nil r5
  obtain rfl : args = #[v0, v1, v2, v3, v4, v5] := by cases args; simp_all
  obtain ⟨y1, y2, rfl⟩ : ∃ a b, gs = [a, b] := two_of hV
  obtain ⟨a0, rfl, rfl, rfl, w0⟩ := open_int Tryz.underlying3 (hval 0 3 v0 rfl rfl) h0
  obtain ⟨a1, rfl, rfl, rfl, w1⟩ := open_int Tryz.underlying3 (hval 1 3 v1 rfl rfl) h1
  obtain ⟨a2, len2, cap2, rfl⟩ := okWide_slice Tryz.underlying22 (hval 2 22 v2 rfl rfl)
  obtain ⟨a3, len3, cap3, rfl⟩ := okWide_slice Tryz.underlying22 (hval 3 22 v3 rfl rfl)
  obtain ⟨a4, len4, cap4, rfl⟩ := okWide_slice Tryz.underlying23 (hval 4 23 v4 rfl rfl)
  obtain ⟨a5, rfl, rfl, rfl, w5⟩ := open_int Tryz.underlying3 (hval 5 3 v5 rfl rfl) h5
  have lt2 : ∀ x ∈ p2, x.block < W.heap.size := by obtain ⟨m, hm⟩ := h2; exact DataW.trod_lt m _ _ _ hm
  have lt3 : ∀ x ∈ p3, x.block < W.heap.size := by obtain ⟨m, hm⟩ := h3; exact DataW.trod_lt m _ _ _ hm
  have lt4 : ∀ x ∈ p4, x.block < W.heap.size := by obtain ⟨m, hm⟩ := h4; exact DataW.trod_lt m _ _ _ hm
  obtain ⟨z2, r2⟩ := row_of Tryz.underlying22 Tryz.underlying26 (by kernel_rfl) h2
  obtain ⟨z3, r3⟩ := row_of Tryz.underlying22 Tryz.underlying26 (by kernel_rfl) h3
  obtain ⟨z4, r4⟩ := row_of Tryz.underlying23 Tryz.underlying5 (by kernel_rfl) h4
  clear hA0
  refine (Go.Proofs.YtmdmpdbnnegpiaaGreatDoor.Cmp.law_rowF a0 a1 a2 len2 cap2 z2 a3 len3 cap3 z3 a4 len4 cap4 z4 a5 W r2 r3 r4 (masks hL)).mono fun e W' ⟨he, bel⟩ => ?_
  subst he
  exact ⟨_, rfl, _, _, _, [], _, _, hW', trodAll_mk1 (shut_bool Tryz.underlying4 _),
    (trodAll_cons_mk (shut_int Tryz.underlying3 w0) (trodAll_cons_mk (shut_int Tryz.underlying3 w1) (trodAll_cons_mk (Below.trod laidOut (by kernel_rfl) (of_decide_eq_true (by kernel_rfl)) h2 bel lt2) (trodAll_cons_mk (Below.trod laidOut (by kernel_rfl) (of_decide_eq_true (by kernel_rfl)) h3 bel lt3) (trodAll_cons_mk (Below.trod laidOut (by kernel_rfl) (of_decide_eq_true (by kernel_rfl)) h4 bel lt4) (trodAll_cons_mk (shut_int Tryz.underlying3 w5) trodAll_mk0)))))),
    Below.trodVars laidOut bel (by kernel_rfl) hV, bel.frame _, fun h => by cases h⟩
/-- A world for the witness: the two tables hold what their initialisers lay. -/
def laidObj (cs : Array Value) (o : Obj) : Obj := match o with
  | .cells _ t frozen => .cells cs t frozen
  | o => o
noncomputable def laidWorld (os : Os) : World :=
  { World.holding Tryz.prog os ⟨#[], #[], []⟩ with heap := ((World.holding Tryz.prog os ⟨#[], #[], []⟩).heap.modify 2 (laidObj #[.int .u8 1, .int .u8 2, .int .u8 4, .int .u8 8, .int .u8 16, .int .u8 32, .int .u8 64, .int .u8 128])).modify 3 (laidObj #[.int .u8 254, .int .u8 253, .int .u8 251, .int .u8 247, .int .u8 239, .int .u8 223, .int .u8 191, .int .u8 127]) }
def wit : Array Value := #[.int .i64 0, .int .i64 0, .slice none 0 0, .slice none 0 0, .slice none 0 0, .int .i64 0]
theorem laid_met (os : Os) : laidMet Tryz.prog Rows.fnCompareFloat64Row.laid ((laidWorld os).forCall (fun _ _ => 0) ⟨#[], wit, []⟩).memory :=
  laidMet_of_run' 8 (by kernel_rfl) (by kernel_rfl)
def lit0 {H : Type} (k : IntKind) (x : Int) : DataW H := .lit (.int k x)
theorem reads (os : Os) {H : Type} (enc : TypeId × Value → H) : ∃ gs places, DataW.whole enc Tryz.prog ((laidWorld os).forCall (fun _ _ => 0) ⟨#[], wit, []⟩).memory Tryz.f3.params.toList Rows.fnCompareFloat64Spec.vars false wit.toList 8 = some ([.lit (.int .i64 0), .lit (.int .i64 0), .nil, .nil, .nil, .lit (.int .i64 0)], gs, places) :=
  ⟨[.agg [.lit (.int .u8 1), .lit (.int .u8 2), .lit (.int .u8 4), .lit (.int .u8 8), .lit (.int .u8 16), .lit (.int .u8 32), .lit (.int .u8 64), .lit (.int .u8 128)], .agg [.lit (.int .u8 254), .lit (.int .u8 253), .lit (.int .u8 251), .lit (.int .u8 247), .lit (.int .u8 239), .lit (.int .u8 223), .lit (.int .u8 191), .lit (.int .u8 127)]], MemPlace.row ⟨2, 0, none⟩ 8 ++ MemPlace.row ⟨3, 0, none⟩ 8, by kernel_rfl⟩
set_option maxRecDepth 100000 in
theorem lifted (os : Os) (started : os.Started) (H : Type) (enc : TypeId × Value → H) (F : Stop.Interp) :
    ReturnsInHanded {} Tryz.checked os 3 .any ((OpenSpec.ofChange Rows.fnCompareFloat64Spec).preRow enc Tryz.prog Tryz.f3 Rows.fnCompareFloat64Row.domain false Rows.fnCompareFloat64Row.laid) (((OpenSpec.ofChange Rows.fnCompareFloat64Spec).at F).post enc Tryz.prog Tryz.f3 false true false false) := by
  obtain ⟨gs, places, hx⟩ := reads os enc
  refine returnsInHanded_of_row (C := Tryz.checked) (s := OpenSpec.ofChange Rows.fnCompareFloat64Spec) own started (by kernel_rfl) Tryz.func3
    (witness_row_at (enc := enc) (C := Tryz.checked) false (laidWorld os) wit rfl (by kernel_rfl) (by kernel_rfl) (by kernel_rfl)
      (OpenSpec.preRow_of_cond 8 hx (by kernel_rfl) (fun k hk => by cases hk) (by kernel_rfl) (laid_met os))) ?_
  intro W base args ds gs before hval hW _ _ _ hL _ _
  exact contract H enc W base args ds gs before hval hW hL
theorem said : Rows.FnCompareFloat64Said :=
  OpenClaim.holds_of_cond 3 Tryz.f3 rfl rfl rfl rfl rfl rfl rfl ⟨rfl, rfl, rfl, rfl, rfl⟩ rfl rfl rfl rfl rfl (by kernel_rfl) Tryz.func3 (by kernel_rfl)
    (of_decide_eq_true (by kernel_rfl)) (by unfold Func.isWrapper; first | (rw [if_pos (by decide +kernel)]; kernel_rfl) | (rw [if_neg (by decide +kernel)]; exact ⟨rfl, rfl⟩))
    (fun os started H enc _ F => by rw [OpenClaim.pre_eq_preRow]; exact lifted os started H enc F)
set_option maxRecDepth 100000 in
/-- No parameter wants a stand-in; what both cards ask. -/
theorem plain (f : FuncId) (fn : Func) (hf : Tryz.pinned.checked.prog.funcNamed "given.example/pub-arrowroot/laws.FnCompareFloat64" = some f) (hfn : Tryz.pinned.checked.prog.funcs[f]? = some fn) :
    true = Tryz.pinned.checked.prog.looks [] ∧ ∀ (j : Nat) t, fn.params[j]? = some t → Tryz.pinned.checked.prog.wantsStandIn t = false := by
  obtain rfl : f = 3 := Option.some.inj ((show Tryz.prog.funcNamed "given.example/pub-arrowroot/laws.FnCompareFloat64" = some 3 by kernel_rfl).symm.trans hf) |>.symm
  obtain rfl : fn = Tryz.f3 := (Option.some.inj (Tryz.func3.symm.trans hfn)).symm
  refine ⟨by kernel_rfl, fun j t ht => ?_⟩
  rw [Tryz.params3] at ht
  have hm := Array.mem_of_getElem? ht
  simp only [List.mem_toArray, List.mem_cons, List.not_mem_nil, or_false] at hm
  rcases hm with rfl | rfl | rfl | rfl | rfl | rfl
  all_goals first
    | exact (show Tryz.prog.wantsStandIn 3 = false by kernel_rfl)
    | exact (show Tryz.prog.wantsStandIn 22 = false by kernel_rfl)
    | exact (show Tryz.prog.wantsStandIn 23 = false by kernel_rfl)
theorem card : Rows.FnCompareFloat64CardSaid :=
  Claim7.holds_tied_plain_at .later [] _ _ _ _ said (fun _ h => by cases h) (by kernel_rfl) (fun _ h => by cases h) fnCompareFloat64_row_tie rfl ⟨rfl, rfl⟩ (by kernel_rfl) rfl plain (by kernel_rfl)
end Go.Proofs.YtmdmpdbnnegpiaaGreatDoor.rowFnCompareFloat64
namespace Go.Proofs.YtmdmpdbnnegpiaaGreatDoor
/-- FnCompareFloat64: for every input true, the arguments as before; the card. -/
theorem fnCompareFloat64_holds : Rows.FnCompareFloat64CardSaid := rowFnCompareFloat64.card
#print axioms fnCompareFloat64_holds

end Go.Proofs.YtmdmpdbnnegpiaaGreatDoor
