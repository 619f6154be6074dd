-- PRINTED BY print.sh 35421559b90ae4d0a3588c463048766b98c2df88dd9212a6774a882060cdf62d: not written by this session
import Derived.Test.YtbghkoalmjfpiaaProg
import Derived.Below
import Derived.Deep.Draws
import Derived.Deep.AppendLies
import Derived.Maps.AppendAt
import Derived.OwnWalk
import Derived.Laws.BytesArg
import Derived.Laws.MakeOwn
import Derived.Laws.OwnMore
import Derived.Deep.OwnRows
import Derived.Tactics
import Derived.Lib.ConvBytes
import Derived.Laws.Slices
import Derived.WalkKit
import Derived.KernelRfl
import Derived.RowKit3
import Derived.Deep.LoopGhost
import Derived.Deep.QuietTactic
import Derived.BigQuiet
import Derived.WideLaws
import Derived.Deep.DeepCutAuto
import Derived.Deep.CutBlock
import Derived.Deep.RegionHeld3
import Derived.Laws.Rows
import Derived.Lib.AppendStr
import Derived.ArgAppend
import Derived.Laws.IdiomCopy
import Derived.OrdersHeld
import Derived.Laws.BitsLemmas
import Derived.RowKit
import Derived.Test.YtbghkoalmjfpiaaWWords
import Derived.Test.YtbghkoalmjfpiaaWLast
import Derived.Test.YtbghkoalmjfpiaaWTab
import Derived.Test.YtbghkoalmjfpiaaWFour
import Derived.Test.YtbghkoalmjfpiaaWQPut
import Derived.Test.YtbghkoalmjfpiaaWApart
import Derived.Test.YtbghkoalmjfpiaaWArr
import Derived.Test.YtbghkoalmjfpiaaWZeros
import Derived.Test.YtbghkoalmjfpiaaWFoot
import Derived.Test.YtbghkoalmjfpiaaWKept
import Derived.Test.YtbghkoalmjfpiaaWShare
import Derived.Test.YtbghkoalmjfpiaaWN
import Derived.Test.YtbghkoalmjfpiaaWFootNe
import Derived.Test.YtbghkoalmjfpiaaWAt
import Derived.Test.YtbghkoalmjfpiaaWEqStruct
import Derived.Test.YtbghkoalmjfpiaaWRepsOne
import Derived.Test.YtbghkoalmjfpiaaWInv
import Derived.Test.YtbghkoalmjfpiaaWInvWords
import Derived.Test.YtbghkoalmjfpiaaWGuard
import Derived.Test.YtbghkoalmjfpiaaWNEv
import Derived.Test.YtbghkoalmjfpiaaWMore
namespace Go.Proofs.Ytbghkoalmjfpiaa.PBatchedValues
open Go.RowKit Go.Proofs.YtbghkoalmjfpiaaW.PrintWords Go.Proofs.YtbghkoalmjfpiaaW.PrintLast Go.Proofs.YtbghkoalmjfpiaaW.PrintMore
attribute [local go_sem] max2_int min2_int max_two min_two max_three min_three max_four min_four   -- for this text's walks alone
set_option linter.unusedVariables false
set_option linter.unusedSimpArgs false



def errW : Option Int → Value
  | none => .nilIface
  | some c => .iface 0 (.int .i64 c)
theorem errW_none : errW none = .nilIface := rfl
theorem errW_some (c : Int) : errW (some c) = .iface 0 (.int .i64 c) := rfl

theorem info32 : (Try.prog.info? 32).map (fun i => (i.zero, i.size, i.bytes)) = some (some (.int .u64 0), 1, 8) := by kernel_rfl
-- the values' own types
/-! #### struct type 34, nested in itself -/
structure S34 where
  f0 : Bool
  f1 : Int
  f2 : ByteArray
  f3 : (List S34)
def z34 : S34 := ⟨false, (0 : Int), (⟨#[]⟩ : ByteArray), ([] : List S34)⟩
def F34 (d : Kd S34) : Kd S34 := Kd.iso (Kd.pair Kd.bool (Kd.pair (Kd.int .u64) (Kd.pair Kd.string (Kd.slice 34 d)))) (fun x : S34 => (x.f0, x.f1, x.f2, x.f3))
theorem mono34 : Kd.Mono F34 := Kd.mono_iso _ (Kd.mono_pair (Kd.mono_const _) (Kd.mono_pair (Kd.mono_const _) (Kd.mono_pair (Kd.mono_const _) (Kd.mono_slice 34 Kd.mono_id))))
theorem sub34 : Kd.Sub F34 [34] := Kd.sub_iso _ (Kd.sub_pair (Kd.sub_const _ (by decide)) (Kd.sub_pair (Kd.sub_const _ (by decide)) (Kd.sub_pair (Kd.sub_const _ (by decide)) (Kd.sub_slice 34 (by decide) Kd.sub_id))))
theorem sz34 : ∀ n, (Kd.upto F34 4 [34] n).sz = 4 := Kd.upto_sz (fun _ => rfl)
def k34 : Kd S34 := Kd.fix F34 4 [34] sz34 (Kd.upto_E sub34)
theorem k34_open {w : World} {x : S34} {cs : List Value} (h : k34.K w x cs) : ∃ A3 c3, cs = [.bool x.f0, .int .u64 x.f1, .string x.f2, .slice A3 x.f3.length c3] ∧ x.f3.length ≤ c3 ∧ k34.C w A3 x.f3.length x.f3 := by
  obtain ⟨n, h⟩ := h
  cases n with
  | zero => exact h.elim
  | succ n =>
    obtain ⟨_, _, rfl, rfl, ⟨_, _, rfl, rfl, ⟨_, _, rfl, rfl, ⟨A3, c3, rfl, l3, g3⟩⟩⟩⟩ := h
    exact ⟨A3, c3, rfl, l3, Kd.fix_C g3⟩
theorem k34_openM {w : World} {base : Nat} {ok : Nat → Prop} {x : S34} {cs : List Value} (h : k34.M w base ok x cs) : ∃ v3, cs = [.bool x.f0, .int .u64 x.f1, .string x.f2, v3] ∧ k34.R 34 w base ok v3 x.f3 := by
  obtain ⟨n, h⟩ := h
  cases n with
  | zero => exact h.elim
  | succ n =>
    obtain ⟨_, _, rfl, rfl, ⟨_, _, rfl, rfl, ⟨_, _, rfl, rfl, ⟨v3, rfl, g3⟩⟩⟩⟩ := h
    exact ⟨v3, rfl, Kd.fix_R g3⟩
theorem k34_mk (w : World) (x : S34) {A3 : Option Addr} {c3 : Nat} (l3 : x.f3.length ≤ c3) (g3 : k34.C w A3 x.f3.length x.f3) : k34.K w x [.bool x.f0, .int .u64 x.f1, .string x.f2, .slice A3 x.f3.length c3] := by
  obtain ⟨n3, q3⟩ := Kd.fix_C_back mono34 g3
  have r3 := Kd.upto_C_le mono34 sz34 (show n3 ≤ n3 by omega) q3
  exact ⟨n3 + 1, ⟨[.bool x.f0], [.int .u64 x.f1, .string x.f2, .slice A3 x.f3.length c3], rfl, rfl, ⟨[.int .u64 x.f1], [.string x.f2, .slice A3 x.f3.length c3], rfl, rfl, ⟨[.string x.f2], [.slice A3 x.f3.length c3], rfl, rfl, ⟨A3, c3, rfl, l3, r3⟩⟩⟩⟩⟩
theorem k34_mkM (w : World) (base : Nat) (ok : Nat → Prop) (x : S34) {v3 : Value} (g3 : k34.R 34 w base ok v3 x.f3) : k34.M w base ok x [.bool x.f0, .int .u64 x.f1, .string x.f2, v3] := by
  obtain ⟨n3, q3⟩ := Kd.fix_R_back mono34 g3
  have r3 := Kd.upto_R_le mono34 sz34 (show n3 ≤ n3 by omega) q3
  exact ⟨n3 + 1, ⟨[.bool x.f0], [.int .u64 x.f1, .string x.f2, v3], rfl, rfl, ⟨[.int .u64 x.f1], [.string x.f2, v3], rfl, rfl, ⟨[.string x.f2], [v3], rfl, rfl, ⟨v3, rfl, r3⟩⟩⟩⟩⟩
theorem k34_openF {W : World} {ok : Nat → Prop} {x : S34} {cs : List Value} (h : Kd.FK k34 W ok x cs) : ∃ A3 c3, cs = [.bool x.f0, .int .u64 x.f1, .string x.f2, .slice A3 x.f3.length c3] ∧ x.f3.length ≤ c3 ∧ Kd.F k34 W ok A3 x.f3.length x.f3 := by
  obtain ⟨A3, c3, rfl, l3, _⟩ := k34_open (Kd.FK_now h)
  exact ⟨A3, c3, rfl, l3, (fun W' hW => by obtain ⟨A3_, c3_, he, l3_, g3_⟩ := k34_open (h W' hW); injection (Option.some.inj (show some (Value.slice A3 x.f3.length c3) = some (Value.slice A3_ x.f3.length c3_) from congrArg (fun l => l[3]?) he)) with ha_ _ _; rw [ha_]; exact g3_)⟩
theorem k34_mkF (W : World) (ok : Nat → Prop) (x : S34) {A3 : Option Addr} {c3 : Nat} (l3 : x.f3.length ≤ c3) (g3 : Kd.F k34 W ok A3 x.f3.length x.f3) : Kd.FK k34 W ok x [.bool x.f0, .int .u64 x.f1, .string x.f2, .slice A3 x.f3.length c3] := fun W2 hW => k34_mk W2 x l3 (g3 W2 hW)
def rd_T34 (xs : List S34) (i : Int) : S34 := xs.getD i.toNat z34
theorem at_T34 {w : World} {A : Option Addr} {n : Nat} {xs : List S34} (h : Kd.C k34 w A n xs) (i : Int) (h0 : 0 ≤ i) (h1 : i < n) : ∃ ad A3 c3, A = some ad ∧ w.cell? (ad.add (i.toNat * 4)) = some (.bool (rd_T34 xs i).f0) ∧ w.cell? ⟨(ad.add (i.toNat * 4)).block, (ad.add (i.toNat * 4)).off + 1, none⟩ = some (.int .u64 (rd_T34 xs i).f1) ∧ w.cell? ⟨(ad.add (i.toNat * 4)).block, (ad.add (i.toNat * 4)).off + 2, none⟩ = some (.string (rd_T34 xs i).f2) ∧ w.cell? ⟨(ad.add (i.toNat * 4)).block, (ad.add (i.toNat * 4)).off + 3, none⟩ = some (.slice A3 (rd_T34 xs i).f3.length c3) ∧ (rd_T34 xs i).f3.length ≤ c3 ∧ k34.C w A3 (rd_T34 xs i).f3.length (rd_T34 xs i).f3 := by
  obtain ⟨ad, c, e, _, hK, hc0⟩ := Kd.C_get h z34 i h0 h1
  have hc : ∀ j u, c[j]? = some u → w.cell? (ad.add (i.toNat * 4 + j)) = some u := hc0
  obtain ⟨A3, c3, rfl, l3, g3⟩ := k34_open hK
  exact ⟨ad, A3, c3, e, hc 0 _ rfl, by rw [← add_field _ _ 1 (by omega)]; exact hc 1 _ rfl, by rw [← add_field _ _ 2 (by omega)]; exact hc 2 _ rfl, by rw [← add_field _ _ 3 (by omega)]; exact hc 3 _ rfl, l3, g3⟩

end Go.Proofs.Ytbghkoalmjfpiaa.PBatchedValues
