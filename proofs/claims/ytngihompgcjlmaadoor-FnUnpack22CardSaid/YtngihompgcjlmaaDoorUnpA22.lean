/- Numbers of 22 bits, read word by word: the walk. -/
import Derived.Test.YtngihompgcjlmaaDoorUnpG
namespace Go.Proofs.YtngihompgcjlmaaDoor.Unp
open Go.RowKit Go.Proofs.YtngihompgcjlmaaDoorW.PrintWords Go.Proofs.YtngihompgcjlmaaDoorW.PrintLast Go.Proofs.YtngihompgcjlmaaDoorW.PrintMore
set_option linter.unusedVariables false
set_option linter.unusedSimpArgs false

def Told22 (w0 : World) (o : Nat) (N : Int) (e : Ending) (w' : World) : Prop := e = .returned (.tuple #[]) ∧ OutAt w' o N 22 32 0 ∧ Below w0.heap.size w0 w'
set_option maxRecDepth 1000000 in
set_option maxHeartbeats 16000000 in
theorem unpack22_any (g o : Nat) (A : Addr) (n c : Nat) (q : Int) (l : List Int) (w0 w : World) (HC : (Kd.int .u8).C w0 (some A) n l) (HL : l.length = n) (HT : Byt l) (HB : Below w0.heap.size w0 w) (hR : RdAt w g (some A) n c 0 q) (hO : OutAt w o (num l) 22 0 0)
    (hn : 88 ≤ n) (hc : n ≤ c) (hcm : c ≤ 9223372036854775807) (hg : w0.heap.size ≤ g) (ho : w0.heap.size ≤ o) (hgo : g ≠ o) :
    Calls Tryd.prog 37 #[.iface 34 (.pointer (some ⟨g, 0, none⟩)), .slice (some ⟨o, 0, none⟩) 32 32] w (Told22 w0 o (num l)) := by
  have hgl : g < w.heap.size := (Array.getElem?_eq_some_iff.1 hR).1
  have hol : o < w.heap.size := (Array.getElem?_eq_some_iff.1 hO).1
  have hw0 : w0.heap.size ≤ w.heap.size := HB.size
  have hgp : g ≠ w.heap.size := by omega
  have hpo : w.heap.size ≠ o := by omega
  have S : St w0 g o w.heap.size A n c l 22 0 0 q 0 0 (w.alloc (.cells #[.int .u32 0] 30)) := ⟨(Below.heap_alloc w _ g hgl).trans hR, heap_alloc_new w _, (Below.heap_alloc w _ o hol).trans hO, HB.alloc hw0 _⟩
  clear hR hO HB
  refine calls_of_wp Tryd.func37 rfl ?_
  refine wp_seq (st_alloc fun a ha => ?_)
  have F : Fr 347 g w.heap.size o a := by rw [ha]; exact frStart 347 g w.heap.size o (by decide)
  clear ha
  refine wp_seq (st_call (m := 0) F (by decide) (by decide) S HC HL HT (by omega) hc hcm hg hw0 hgp hgo hpo fun a W F S => ?_)
  refine wp_seq (st_in (m := 0) (j := 0) (w := 22) F (by decide) (by decide) S hgo hpo ho 0 _ _ _ rfl rfl (by decide) (by decide) (by decide) (by decide) fun a W F S => ?_)
  refine wp_seq (st_half (m := 0) (j := 1) (w := 22) F (by decide) (by decide) S hgo hpo ho 22 _ _ rfl rfl (by decide) (by decide) fun a W F S => ?_)
  refine wp_seq (st_call (m := 1) F (by decide) (by decide) S HC HL HT (by omega) hc hcm hg hw0 hgp hgo hpo fun a W F S => ?_)
  refine wp_seq (st_or (m := 0) (j := 1) (w := 22) (k0 := 22) F (by decide) (by decide) S hgo hpo ho 12 _ _ _ rfl rfl (by decide) (by decide) (by decide) (by decide) (by decide) (by decide) (by kernel_rfl) fun a W F S => ?_)
  refine wp_seq (st_half (m := 1) (j := 2) (w := 22) F (by decide) (by decide) S hgo hpo ho 12 _ _ rfl rfl (by decide) (by decide) fun a W F S => ?_)
  refine wp_seq (st_call (m := 2) F (by decide) (by decide) S HC HL HT (by omega) hc hcm hg hw0 hgp hgo hpo fun a W F S => ?_)
  refine wp_seq (st_or (m := 1) (j := 2) (w := 22) (k0 := 12) F (by decide) (by decide) S hgo hpo ho 2 _ _ _ rfl rfl (by decide) (by decide) (by decide) (by decide) (by decide) (by decide) (by kernel_rfl) fun a W F S => ?_)
  refine wp_seq (st_in (m := 2) (j := 3) (w := 22) F (by decide) (by decide) S hgo hpo ho 2 _ _ _ rfl rfl (by decide) (by decide) (by decide) (by decide) fun a W F S => ?_)
  refine wp_seq (st_half (m := 2) (j := 4) (w := 22) F (by decide) (by decide) S hgo hpo ho 24 _ _ rfl rfl (by decide) (by decide) fun a W F S => ?_)
  refine wp_seq (st_call (m := 3) F (by decide) (by decide) S HC HL HT (by omega) hc hcm hg hw0 hgp hgo hpo fun a W F S => ?_)
  refine wp_seq (st_or (m := 2) (j := 4) (w := 22) (k0 := 24) F (by decide) (by decide) S hgo hpo ho 14 _ _ _ rfl rfl (by decide) (by decide) (by decide) (by decide) (by decide) (by decide) (by kernel_rfl) fun a W F S => ?_)
  refine wp_seq (st_half (m := 3) (j := 5) (w := 22) F (by decide) (by decide) S hgo hpo ho 14 _ _ rfl rfl (by decide) (by decide) fun a W F S => ?_)
  refine wp_seq (st_call (m := 4) F (by decide) (by decide) S HC HL HT (by omega) hc hcm hg hw0 hgp hgo hpo fun a W F S => ?_)
  refine wp_seq (st_or (m := 3) (j := 5) (w := 22) (k0 := 14) F (by decide) (by decide) S hgo hpo ho 4 _ _ _ rfl rfl (by decide) (by decide) (by decide) (by decide) (by decide) (by decide) (by kernel_rfl) fun a W F S => ?_)
  refine wp_seq (st_in (m := 4) (j := 6) (w := 22) F (by decide) (by decide) S hgo hpo ho 4 _ _ _ rfl rfl (by decide) (by decide) (by decide) (by decide) fun a W F S => ?_)
  refine wp_seq (st_half (m := 4) (j := 7) (w := 22) F (by decide) (by decide) S hgo hpo ho 26 _ _ rfl rfl (by decide) (by decide) fun a W F S => ?_)
  refine wp_seq (st_call (m := 5) F (by decide) (by decide) S HC HL HT (by omega) hc hcm hg hw0 hgp hgo hpo fun a W F S => ?_)
  refine wp_seq (st_or (m := 4) (j := 7) (w := 22) (k0 := 26) F (by decide) (by decide) S hgo hpo ho 16 _ _ _ rfl rfl (by decide) (by decide) (by decide) (by decide) (by decide) (by decide) (by kernel_rfl) fun a W F S => ?_)
  refine wp_seq (st_half (m := 5) (j := 8) (w := 22) F (by decide) (by decide) S hgo hpo ho 16 _ _ rfl rfl (by decide) (by decide) fun a W F S => ?_)
  refine wp_seq (st_call (m := 6) F (by decide) (by decide) S HC HL HT (by omega) hc hcm hg hw0 hgp hgo hpo fun a W F S => ?_)
  refine wp_seq (st_or (m := 5) (j := 8) (w := 22) (k0 := 16) F (by decide) (by decide) S hgo hpo ho 6 _ _ _ rfl rfl (by decide) (by decide) (by decide) (by decide) (by decide) (by decide) (by kernel_rfl) fun a W F S => ?_)
  refine wp_seq (st_in (m := 6) (j := 9) (w := 22) F (by decide) (by decide) S hgo hpo ho 6 _ _ _ rfl rfl (by decide) (by decide) (by decide) (by decide) fun a W F S => ?_)
  refine wp_seq (st_half (m := 6) (j := 10) (w := 22) F (by decide) (by decide) S hgo hpo ho 28 _ _ rfl rfl (by decide) (by decide) fun a W F S => ?_)
  refine wp_seq (st_call (m := 7) F (by decide) (by decide) S HC HL HT (by omega) hc hcm hg hw0 hgp hgo hpo fun a W F S => ?_)
  refine wp_seq (st_or (m := 6) (j := 10) (w := 22) (k0 := 28) F (by decide) (by decide) S hgo hpo ho 18 _ _ _ rfl rfl (by decide) (by decide) (by decide) (by decide) (by decide) (by decide) (by kernel_rfl) fun a W F S => ?_)
  refine wp_seq (st_half (m := 7) (j := 11) (w := 22) F (by decide) (by decide) S hgo hpo ho 18 _ _ rfl rfl (by decide) (by decide) fun a W F S => ?_)
  refine wp_seq (st_call (m := 8) F (by decide) (by decide) S HC HL HT (by omega) hc hcm hg hw0 hgp hgo hpo fun a W F S => ?_)
  refine wp_seq (st_or (m := 7) (j := 11) (w := 22) (k0 := 18) F (by decide) (by decide) S hgo hpo ho 8 _ _ _ rfl rfl (by decide) (by decide) (by decide) (by decide) (by decide) (by decide) (by kernel_rfl) fun a W F S => ?_)
  refine wp_seq (st_in (m := 8) (j := 12) (w := 22) F (by decide) (by decide) S hgo hpo ho 8 _ _ _ rfl rfl (by decide) (by decide) (by decide) (by decide) fun a W F S => ?_)
  refine wp_seq (st_half (m := 8) (j := 13) (w := 22) F (by decide) (by decide) S hgo hpo ho 30 _ _ rfl rfl (by decide) (by decide) fun a W F S => ?_)
  refine wp_seq (st_call (m := 9) F (by decide) (by decide) S HC HL HT (by omega) hc hcm hg hw0 hgp hgo hpo fun a W F S => ?_)
  refine wp_seq (st_or (m := 8) (j := 13) (w := 22) (k0 := 30) F (by decide) (by decide) S hgo hpo ho 20 _ _ _ rfl rfl (by decide) (by decide) (by decide) (by decide) (by decide) (by decide) (by kernel_rfl) fun a W F S => ?_)
  refine wp_seq (st_half (m := 9) (j := 14) (w := 22) F (by decide) (by decide) S hgo hpo ho 20 _ _ rfl rfl (by decide) (by decide) fun a W F S => ?_)
  refine wp_seq (st_call (m := 10) F (by decide) (by decide) S HC HL HT (by omega) hc hcm hg hw0 hgp hgo hpo fun a W F S => ?_)
  refine wp_seq (st_or (m := 9) (j := 14) (w := 22) (k0 := 20) F (by decide) (by decide) S hgo hpo ho 10 _ _ _ rfl rfl (by decide) (by decide) (by decide) (by decide) (by decide) (by decide) (by kernel_rfl) fun a W F S => ?_)
  refine wp_seq (st_end (m := 10) (j := 15) (w := 22) F (by decide) (by decide) S hgo hpo ho 10 _ _ rfl rfl (by decide) (by decide) (by decide) fun a W F S => ?_)
  refine wp_seq (st_call (m := 11) F (by decide) (by decide) S HC HL HT (by omega) hc hcm hg hw0 hgp hgo hpo fun a W F S => ?_)
  refine wp_seq (st_in (m := 11) (j := 16) (w := 22) F (by decide) (by decide) S hgo hpo ho 0 _ _ _ rfl rfl (by decide) (by decide) (by decide) (by decide) fun a W F S => ?_)
  refine wp_seq (st_half (m := 11) (j := 17) (w := 22) F (by decide) (by decide) S hgo hpo ho 22 _ _ rfl rfl (by decide) (by decide) fun a W F S => ?_)
  refine wp_seq (st_call (m := 12) F (by decide) (by decide) S HC HL HT (by omega) hc hcm hg hw0 hgp hgo hpo fun a W F S => ?_)
  refine wp_seq (st_or (m := 11) (j := 17) (w := 22) (k0 := 22) F (by decide) (by decide) S hgo hpo ho 12 _ _ _ rfl rfl (by decide) (by decide) (by decide) (by decide) (by decide) (by decide) (by kernel_rfl) fun a W F S => ?_)
  refine wp_seq (st_half (m := 12) (j := 18) (w := 22) F (by decide) (by decide) S hgo hpo ho 12 _ _ rfl rfl (by decide) (by decide) fun a W F S => ?_)
  refine wp_seq (st_call (m := 13) F (by decide) (by decide) S HC HL HT (by omega) hc hcm hg hw0 hgp hgo hpo fun a W F S => ?_)
  refine wp_seq (st_or (m := 12) (j := 18) (w := 22) (k0 := 12) F (by decide) (by decide) S hgo hpo ho 2 _ _ _ rfl rfl (by decide) (by decide) (by decide) (by decide) (by decide) (by decide) (by kernel_rfl) fun a W F S => ?_)
  refine wp_seq (st_in (m := 13) (j := 19) (w := 22) F (by decide) (by decide) S hgo hpo ho 2 _ _ _ rfl rfl (by decide) (by decide) (by decide) (by decide) fun a W F S => ?_)
  refine wp_seq (st_half (m := 13) (j := 20) (w := 22) F (by decide) (by decide) S hgo hpo ho 24 _ _ rfl rfl (by decide) (by decide) fun a W F S => ?_)
  refine wp_seq (st_call (m := 14) F (by decide) (by decide) S HC HL HT (by omega) hc hcm hg hw0 hgp hgo hpo fun a W F S => ?_)
  refine wp_seq (st_or (m := 13) (j := 20) (w := 22) (k0 := 24) F (by decide) (by decide) S hgo hpo ho 14 _ _ _ rfl rfl (by decide) (by decide) (by decide) (by decide) (by decide) (by decide) (by kernel_rfl) fun a W F S => ?_)
  refine wp_seq (st_half (m := 14) (j := 21) (w := 22) F (by decide) (by decide) S hgo hpo ho 14 _ _ rfl rfl (by decide) (by decide) fun a W F S => ?_)
  refine wp_seq (st_call (m := 15) F (by decide) (by decide) S HC HL HT (by omega) hc hcm hg hw0 hgp hgo hpo fun a W F S => ?_)
  refine wp_seq (st_or (m := 14) (j := 21) (w := 22) (k0 := 14) F (by decide) (by decide) S hgo hpo ho 4 _ _ _ rfl rfl (by decide) (by decide) (by decide) (by decide) (by decide) (by decide) (by kernel_rfl) fun a W F S => ?_)
  refine wp_seq (st_in (m := 15) (j := 22) (w := 22) F (by decide) (by decide) S hgo hpo ho 4 _ _ _ rfl rfl (by decide) (by decide) (by decide) (by decide) fun a W F S => ?_)
  refine wp_seq (st_half (m := 15) (j := 23) (w := 22) F (by decide) (by decide) S hgo hpo ho 26 _ _ rfl rfl (by decide) (by decide) fun a W F S => ?_)
  refine wp_seq (st_call (m := 16) F (by decide) (by decide) S HC HL HT (by omega) hc hcm hg hw0 hgp hgo hpo fun a W F S => ?_)
  refine wp_seq (st_or (m := 15) (j := 23) (w := 22) (k0 := 26) F (by decide) (by decide) S hgo hpo ho 16 _ _ _ rfl rfl (by decide) (by decide) (by decide) (by decide) (by decide) (by decide) (by kernel_rfl) fun a W F S => ?_)
  refine wp_seq (st_half (m := 16) (j := 24) (w := 22) F (by decide) (by decide) S hgo hpo ho 16 _ _ rfl rfl (by decide) (by decide) fun a W F S => ?_)
  refine wp_seq (st_call (m := 17) F (by decide) (by decide) S HC HL HT (by omega) hc hcm hg hw0 hgp hgo hpo fun a W F S => ?_)
  refine wp_seq (st_or (m := 16) (j := 24) (w := 22) (k0 := 16) F (by decide) (by decide) S hgo hpo ho 6 _ _ _ rfl rfl (by decide) (by decide) (by decide) (by decide) (by decide) (by decide) (by kernel_rfl) fun a W F S => ?_)
  refine wp_seq (st_in (m := 17) (j := 25) (w := 22) F (by decide) (by decide) S hgo hpo ho 6 _ _ _ rfl rfl (by decide) (by decide) (by decide) (by decide) fun a W F S => ?_)
  refine wp_seq (st_half (m := 17) (j := 26) (w := 22) F (by decide) (by decide) S hgo hpo ho 28 _ _ rfl rfl (by decide) (by decide) fun a W F S => ?_)
  refine wp_seq (st_call (m := 18) F (by decide) (by decide) S HC HL HT (by omega) hc hcm hg hw0 hgp hgo hpo fun a W F S => ?_)
  refine wp_seq (st_or (m := 17) (j := 26) (w := 22) (k0 := 28) F (by decide) (by decide) S hgo hpo ho 18 _ _ _ rfl rfl (by decide) (by decide) (by decide) (by decide) (by decide) (by decide) (by kernel_rfl) fun a W F S => ?_)
  refine wp_seq (st_half (m := 18) (j := 27) (w := 22) F (by decide) (by decide) S hgo hpo ho 18 _ _ rfl rfl (by decide) (by decide) fun a W F S => ?_)
  refine wp_seq (st_call (m := 19) F (by decide) (by decide) S HC HL HT (by omega) hc hcm hg hw0 hgp hgo hpo fun a W F S => ?_)
  refine wp_seq (st_or (m := 18) (j := 27) (w := 22) (k0 := 18) F (by decide) (by decide) S hgo hpo ho 8 _ _ _ rfl rfl (by decide) (by decide) (by decide) (by decide) (by decide) (by decide) (by kernel_rfl) fun a W F S => ?_)
  refine wp_seq (st_in (m := 19) (j := 28) (w := 22) F (by decide) (by decide) S hgo hpo ho 8 _ _ _ rfl rfl (by decide) (by decide) (by decide) (by decide) fun a W F S => ?_)
  refine wp_seq (st_half (m := 19) (j := 29) (w := 22) F (by decide) (by decide) S hgo hpo ho 30 _ _ rfl rfl (by decide) (by decide) fun a W F S => ?_)
  refine wp_seq (st_call (m := 20) F (by decide) (by decide) S HC HL HT (by omega) hc hcm hg hw0 hgp hgo hpo fun a W F S => ?_)
  refine wp_seq (st_or (m := 19) (j := 29) (w := 22) (k0 := 30) F (by decide) (by decide) S hgo hpo ho 20 _ _ _ rfl rfl (by decide) (by decide) (by decide) (by decide) (by decide) (by decide) (by kernel_rfl) fun a W F S => ?_)
  refine wp_seq (st_half (m := 20) (j := 30) (w := 22) F (by decide) (by decide) S hgo hpo ho 20 _ _ rfl rfl (by decide) (by decide) fun a W F S => ?_)
  refine wp_seq (st_call (m := 21) F (by decide) (by decide) S HC HL HT (by omega) hc hcm hg hw0 hgp hgo hpo fun a W F S => ?_)
  refine wp_seq (st_or (m := 20) (j := 30) (w := 22) (k0 := 20) F (by decide) (by decide) S hgo hpo ho 10 _ _ _ rfl rfl (by decide) (by decide) (by decide) (by decide) (by decide) (by decide) (by kernel_rfl) fun a W F S => ?_)
  refine st_end (m := 21) (j := 31) (w := 22) F (by decide) (by decide) S hgo hpo ho 10 _ _ rfl rfl (by decide) (by decide) (by decide) fun a W F S => ?_
  exact ⟨F.df, _, results_none rfl _ _ _, rfl, S.out, S.bel⟩

end Go.Proofs.YtngihompgcjlmaaDoor.Unp
