/- Numbers of 2 bits, read word by word: the walk. -/
import Derived.Test.YtngihompgcjlmaaDoorUnpS
namespace Go.Proofs.YtngihompgcjlmaaDoor.Unp
open Go.RowKit Go.Proofs.YtngihompgcjlmaaDoorW.PrintWords Go.Proofs.YtngihompgcjlmaaDoorW.PrintLast Go.Proofs.YtngihompgcjlmaaDoorW.PrintMore
set_option linter.unusedVariables false
set_option linter.unusedSimpArgs false

def Told2 (w0 : World) (o : Nat) (N : Int) (e : Ending) (w' : World) : Prop := e = .returned (.tuple #[]) ∧ OutAt w' o N 2 32 0 ∧ Below w0.heap.size w0 w'
set_option maxRecDepth 1000000 in
set_option maxHeartbeats 16000000 in
theorem unpack2_any (g o : Nat) (A : Addr) (n c : Nat) (q : Int) (l : List Int) (w0 w : World) (HC : (Kd.int .u8).C w0 (some A) n l) (HL : l.length = n) (HT : Byt l) (HB : Below w0.heap.size w0 w) (hR : RdAt w g (some A) n c 0 q) (hO : OutAt w o (num l) 2 0 0)
    (hn : 8 ≤ n) (hc : n ≤ c) (hcm : c ≤ 9223372036854775807) (hg : w0.heap.size ≤ g) (ho : w0.heap.size ≤ o) (hgo : g ≠ o) :
    Calls Tryd.prog 32 #[.iface 34 (.pointer (some ⟨g, 0, none⟩)), .slice (some ⟨o, 0, none⟩) 32 32] w (Told2 w0 o (num l)) := by
  have hgl : g < w.heap.size := (Array.getElem?_eq_some_iff.1 hR).1
  have hol : o < w.heap.size := (Array.getElem?_eq_some_iff.1 hO).1
  have hw0 : w0.heap.size ≤ w.heap.size := HB.size
  have hgp : g ≠ w.heap.size := by omega
  have hpo : w.heap.size ≠ o := by omega
  have HCH := Aside0.mk HC
  have HLH := Aside0.mk HL
  have HTH := Aside0.mk HT
  have HS0 := Aside0.mk (show St w0 g o w.heap.size A n c l 2 0 0 q 0 0 (w.alloc (.cells #[.int .u32 0] 30)) from ⟨(Below.heap_alloc w _ g hgl).trans hR, heap_alloc_new w _, (Below.heap_alloc w _ o hol).trans hO, HB.alloc hw0 _⟩)
  clear HC HL HT HB hR hO
  go_enter Tryd.func32, Tryd.ntmps32
  go_wp2_with (go_at_call 40; refine (St.next (m := 0) HS0.out HCH.out HLH.out HTH.out (by omega) hc hcm hg hw0 hgp hgo hpo).mono ?_; rintro e w1 ⟨rfl, hs⟩; have HS1 := Aside0.mk hs; obtain ⟨ic1, ig1, oc1, of1⟩ := hs.cells; obtain ⟨wb0, wt0⟩ := word_bd (num l) 0; clear hs HS0)
  have E0 := Aside0.mk (show word (num l) 0 % 4 = bitsAt (num l) (2 * 0) 2 from (in_word0 (num l) _ 0 2 (by decide) (by omega)).symm)
  have E1 := Aside0.mk (show word (num l) 0 / 4 % 4 = bitsAt (num l) (2 * 1) 2 from (in_word (num l) _ 0 2 2 (by decide) (by omega)).symm)
  have E2 := Aside0.mk (show word (num l) 0 / 16 % 4 = bitsAt (num l) (2 * 2) 2 from (in_word (num l) _ 0 4 2 (by decide) (by omega)).symm)
  have E3 := Aside0.mk (show word (num l) 0 / 64 % 4 = bitsAt (num l) (2 * 3) 2 from (in_word (num l) _ 0 6 2 (by decide) (by omega)).symm)
  have E4 := Aside0.mk (show word (num l) 0 / 256 % 4 = bitsAt (num l) (2 * 4) 2 from (in_word (num l) _ 0 8 2 (by decide) (by omega)).symm)
  have E5 := Aside0.mk (show word (num l) 0 / 1024 % 4 = bitsAt (num l) (2 * 5) 2 from (in_word (num l) _ 0 10 2 (by decide) (by omega)).symm)
  have E6 := Aside0.mk (show word (num l) 0 / 4096 % 4 = bitsAt (num l) (2 * 6) 2 from (in_word (num l) _ 0 12 2 (by decide) (by omega)).symm)
  have E7 := Aside0.mk (show word (num l) 0 / 16384 % 4 = bitsAt (num l) (2 * 7) 2 from (in_word (num l) _ 0 14 2 (by decide) (by omega)).symm)
  have E8 := Aside0.mk (show word (num l) 0 / 65536 % 4 = bitsAt (num l) (2 * 8) 2 from (in_word (num l) _ 0 16 2 (by decide) (by omega)).symm)
  have E9 := Aside0.mk (show word (num l) 0 / 262144 % 4 = bitsAt (num l) (2 * 9) 2 from (in_word (num l) _ 0 18 2 (by decide) (by omega)).symm)
  have E10 := Aside0.mk (show word (num l) 0 / 1048576 % 4 = bitsAt (num l) (2 * 10) 2 from (in_word (num l) _ 0 20 2 (by decide) (by omega)).symm)
  have E11 := Aside0.mk (show word (num l) 0 / 4194304 % 4 = bitsAt (num l) (2 * 11) 2 from (in_word (num l) _ 0 22 2 (by decide) (by omega)).symm)
  have E12 := Aside0.mk (show word (num l) 0 / 16777216 % 4 = bitsAt (num l) (2 * 12) 2 from (in_word (num l) _ 0 24 2 (by decide) (by omega)).symm)
  have E13 := Aside0.mk (show word (num l) 0 / 67108864 % 4 = bitsAt (num l) (2 * 13) 2 from (in_word (num l) _ 0 26 2 (by decide) (by omega)).symm)
  have E14 := Aside0.mk (show word (num l) 0 / 268435456 % 4 = bitsAt (num l) (2 * 14) 2 from (in_word (num l) _ 0 28 2 (by decide) (by omega)).symm)
  have E15 := Aside0.mk (show word (num l) 0 / 1073741824 = bitsAt (num l) (2 * 15) 2 from (end_word (num l) _ 0 30 2 (by decide) (by omega)).symm)
  go_wp2_with (go_at_call 40; refine (St.next (m := 1) ((((((((((((((((HS1.out.full hgo hpo ho _ E0.out).full hgo hpo ho _ E1.out).full hgo hpo ho _ E2.out).full hgo hpo ho _ E3.out).full hgo hpo ho _ E4.out).full hgo hpo ho _ E5.out).full hgo hpo ho _ E6.out).full hgo hpo ho _ E7.out).full hgo hpo ho _ E8.out).full hgo hpo ho _ E9.out).full hgo hpo ho _ E10.out).full hgo hpo ho _ E11.out).full hgo hpo ho _ E12.out).full hgo hpo ho _ E13.out).full hgo hpo ho _ E14.out).full hgo hpo ho _ E15.out) HCH.out HLH.out HTH.out (by omega) hc hcm hg hw0 hgp hgo hpo).mono ?_; rintro e w2 ⟨rfl, hs⟩; have HS2 := Aside0.mk hs; obtain ⟨ic2, ig2, oc2, of2⟩ := hs.cells; obtain ⟨wb1, wt1⟩ := word_bd (num l) 1; clear hs HS1 wb0 wt0 oc1 of1 ic1 ig1 E0 E1 E2 E3 E4 E5 E6 E7 E8 E9 E10 E11 E12 E13 E14 E15)
  have E16 := Aside0.mk (show word (num l) 1 % 4 = bitsAt (num l) (2 * 16) 2 from (in_word0 (num l) _ 1 2 (by decide) (by omega)).symm)
  have E17 := Aside0.mk (show word (num l) 1 / 4 % 4 = bitsAt (num l) (2 * 17) 2 from (in_word (num l) _ 1 2 2 (by decide) (by omega)).symm)
  have E18 := Aside0.mk (show word (num l) 1 / 16 % 4 = bitsAt (num l) (2 * 18) 2 from (in_word (num l) _ 1 4 2 (by decide) (by omega)).symm)
  have E19 := Aside0.mk (show word (num l) 1 / 64 % 4 = bitsAt (num l) (2 * 19) 2 from (in_word (num l) _ 1 6 2 (by decide) (by omega)).symm)
  have E20 := Aside0.mk (show word (num l) 1 / 256 % 4 = bitsAt (num l) (2 * 20) 2 from (in_word (num l) _ 1 8 2 (by decide) (by omega)).symm)
  have E21 := Aside0.mk (show word (num l) 1 / 1024 % 4 = bitsAt (num l) (2 * 21) 2 from (in_word (num l) _ 1 10 2 (by decide) (by omega)).symm)
  have E22 := Aside0.mk (show word (num l) 1 / 4096 % 4 = bitsAt (num l) (2 * 22) 2 from (in_word (num l) _ 1 12 2 (by decide) (by omega)).symm)
  have E23 := Aside0.mk (show word (num l) 1 / 16384 % 4 = bitsAt (num l) (2 * 23) 2 from (in_word (num l) _ 1 14 2 (by decide) (by omega)).symm)
  have E24 := Aside0.mk (show word (num l) 1 / 65536 % 4 = bitsAt (num l) (2 * 24) 2 from (in_word (num l) _ 1 16 2 (by decide) (by omega)).symm)
  have E25 := Aside0.mk (show word (num l) 1 / 262144 % 4 = bitsAt (num l) (2 * 25) 2 from (in_word (num l) _ 1 18 2 (by decide) (by omega)).symm)
  have E26 := Aside0.mk (show word (num l) 1 / 1048576 % 4 = bitsAt (num l) (2 * 26) 2 from (in_word (num l) _ 1 20 2 (by decide) (by omega)).symm)
  have E27 := Aside0.mk (show word (num l) 1 / 4194304 % 4 = bitsAt (num l) (2 * 27) 2 from (in_word (num l) _ 1 22 2 (by decide) (by omega)).symm)
  have E28 := Aside0.mk (show word (num l) 1 / 16777216 % 4 = bitsAt (num l) (2 * 28) 2 from (in_word (num l) _ 1 24 2 (by decide) (by omega)).symm)
  have E29 := Aside0.mk (show word (num l) 1 / 67108864 % 4 = bitsAt (num l) (2 * 29) 2 from (in_word (num l) _ 1 26 2 (by decide) (by omega)).symm)
  have E30 := Aside0.mk (show word (num l) 1 / 268435456 % 4 = bitsAt (num l) (2 * 30) 2 from (in_word (num l) _ 1 28 2 (by decide) (by omega)).symm)
  have E31 := Aside0.mk (show word (num l) 1 / 1073741824 = bitsAt (num l) (2 * 31) 2 from (end_word (num l) _ 1 30 2 (by decide) (by omega)).symm)
  go_wp2_with fail
  go_end0
  exact ⟨rfl, ((((((((((((((((HS2.out.full hgo hpo ho _ E16.out).full hgo hpo ho _ E17.out).full hgo hpo ho _ E18.out).full hgo hpo ho _ E19.out).full hgo hpo ho _ E20.out).full hgo hpo ho _ E21.out).full hgo hpo ho _ E22.out).full hgo hpo ho _ E23.out).full hgo hpo ho _ E24.out).full hgo hpo ho _ E25.out).full hgo hpo ho _ E26.out).full hgo hpo ho _ E27.out).full hgo hpo ho _ E28.out).full hgo hpo ho _ E29.out).full hgo hpo ho _ E30.out).full hgo hpo ho _ E31.out).out, ((((((((((((((((HS2.out.full hgo hpo ho _ E16.out).full hgo hpo ho _ E17.out).full hgo hpo ho _ E18.out).full hgo hpo ho _ E19.out).full hgo hpo ho _ E20.out).full hgo hpo ho _ E21.out).full hgo hpo ho _ E22.out).full hgo hpo ho _ E23.out).full hgo hpo ho _ E24.out).full hgo hpo ho _ E25.out).full hgo hpo ho _ E26.out).full hgo hpo ho _ E27.out).full hgo hpo ho _ E28.out).full hgo hpo ho _ E29.out).full hgo hpo ho _ E30.out).full hgo hpo ho _ E31.out).bel⟩

end Go.Proofs.YtngihompgcjlmaaDoor.Unp
