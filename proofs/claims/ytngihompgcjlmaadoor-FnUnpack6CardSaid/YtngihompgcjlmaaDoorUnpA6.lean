/- Numbers of 6 bits, read word by word: the walk. -/
import Derived.Test.YtngihompgcjlmaaDoorUnpS
namespace Go.Proofs.YtngihompgcjlmaaDoor.Unp
open Go.RowKit Go.Proofs.YtngihompgcjlmaaDoorW.PrintWords Go.Proofs.YtngihompgcjlmaaDoorW.PrintLast Go.Proofs.YtngihompgcjlmaaDoorW.PrintMore
set_option linter.unusedVariables false
set_option linter.unusedSimpArgs false

def Told6 (w0 : World) (o : Nat) (N : Int) (e : Ending) (w' : World) : Prop := e = .returned (.tuple #[]) ∧ OutAt w' o N 6 32 0 ∧ Below w0.heap.size w0 w'
set_option maxRecDepth 1000000 in
set_option maxHeartbeats 16000000 in
theorem unpack6_any (g o : Nat) (A : Addr) (n c : Nat) (q : Int) (l : List Int) (w0 w : World) (HC : (Kd.int .u8).C w0 (some A) n l) (HL : l.length = n) (HT : Byt l) (HB : Below w0.heap.size w0 w) (hR : RdAt w g (some A) n c 0 q) (hO : OutAt w o (num l) 6 0 0)
    (hn : 24 ≤ n) (hc : n ≤ c) (hcm : c ≤ 9223372036854775807) (hg : w0.heap.size ≤ g) (ho : w0.heap.size ≤ o) (hgo : g ≠ o) :
    Calls Tryd.prog 33 #[.iface 34 (.pointer (some ⟨g, 0, none⟩)), .slice (some ⟨o, 0, none⟩) 32 32] w (Told6 w0 o (num l)) := by
  have hgl : g < w.heap.size := (Array.getElem?_eq_some_iff.1 hR).1
  have hol : o < w.heap.size := (Array.getElem?_eq_some_iff.1 hO).1
  have hw0 : w0.heap.size ≤ w.heap.size := HB.size
  have hgp : g ≠ w.heap.size := by omega
  have hpo : w.heap.size ≠ o := by omega
  have HCH := Aside0.mk HC
  have HLH := Aside0.mk HL
  have HTH := Aside0.mk HT
  have HS0 := Aside0.mk (show St w0 g o w.heap.size A n c l 6 0 0 q 0 0 (w.alloc (.cells #[.int .u32 0] 30)) from ⟨(Below.heap_alloc w _ g hgl).trans hR, heap_alloc_new w _, (Below.heap_alloc w _ o hol).trans hO, HB.alloc hw0 _⟩)
  clear HC HL HT HB hR hO
  go_enter Tryd.func33, Tryd.ntmps33
  go_wp2_with (go_at_call 40; refine (St.next (m := 0) HS0.out HCH.out HLH.out HTH.out (by omega) hc hcm hg hw0 hgp hgo hpo).mono ?_; rintro e w1 ⟨rfl, hs⟩; have HS1 := Aside0.mk hs; obtain ⟨ic1, ig1, oc1, of1⟩ := hs.cells; obtain ⟨wb0, wt0⟩ := word_bd (num l) 0; clear hs HS0)
  have E0 := Aside0.mk (show word (num l) 0 % 64 = bitsAt (num l) (6 * 0) 6 from (in_word0 (num l) _ 0 6 (by decide) (by omega)).symm)
  have E1 := Aside0.mk (show word (num l) 0 / 64 % 64 = bitsAt (num l) (6 * 1) 6 from (in_word (num l) _ 0 6 6 (by decide) (by omega)).symm)
  have E2 := Aside0.mk (show word (num l) 0 / 4096 % 64 = bitsAt (num l) (6 * 2) 6 from (in_word (num l) _ 0 12 6 (by decide) (by omega)).symm)
  have E3 := Aside0.mk (show word (num l) 0 / 262144 % 64 = bitsAt (num l) (6 * 3) 6 from (in_word (num l) _ 0 18 6 (by decide) (by omega)).symm)
  have E4 := Aside0.mk (show word (num l) 0 / 16777216 % 64 = bitsAt (num l) (6 * 4) 6 from (in_word (num l) _ 0 24 6 (by decide) (by omega)).symm)
  go_wp2_with (go_at_call 40; refine (St.next (m := 1) ((((((HS1.out.full hgo hpo ho _ E0.out).full hgo hpo ho _ E1.out).full hgo hpo ho _ E2.out).full hgo hpo ho _ E3.out).full hgo hpo ho _ E4.out).part hgo hpo ho _) HCH.out HLH.out HTH.out (by omega) hc hcm hg hw0 hgp hgo hpo).mono ?_; rintro e w2 ⟨rfl, hs⟩; have HS2 := Aside0.mk hs; obtain ⟨ic2, ig2, hoc, hof⟩ := hs.cells; have rc2 := hoc 5 (by omega); have rf2 := hof 5; clear hoc hof; obtain ⟨wb1, wt1⟩ := word_bd (num l) 1; clear hs HS1 wb0 wt0 oc1 of1 ic1 ig1 E0 E1 E2 E3 E4)
  go_region
  clear rc2 rf2
  have oc2 := HS2.out.cells.2.2.1
  have of2 := HS2.out.cells.2.2.2
  have E5 := Aside0.mk (show Go.bits .or .u32 (placeV (num l) 6 5 (word (num l) 0 / 1073741824) 5) (word (num l) 1 % 16 * 4) = bitsAt (num l) (6 * 5) 6 from half_or (num l) 6 5 0 30 4 (by decide) (by omega) (by omega) (by omega) (by omega))
  have E6 := Aside0.mk (show word (num l) 1 / 16 % 64 = bitsAt (num l) (6 * 6) 6 from (in_word (num l) _ 1 4 6 (by decide) (by omega)).symm)
  have E7 := Aside0.mk (show word (num l) 1 / 1024 % 64 = bitsAt (num l) (6 * 7) 6 from (in_word (num l) _ 1 10 6 (by decide) (by omega)).symm)
  have E8 := Aside0.mk (show word (num l) 1 / 65536 % 64 = bitsAt (num l) (6 * 8) 6 from (in_word (num l) _ 1 16 6 (by decide) (by omega)).symm)
  have E9 := Aside0.mk (show word (num l) 1 / 4194304 % 64 = bitsAt (num l) (6 * 9) 6 from (in_word (num l) _ 1 22 6 (by decide) (by omega)).symm)
  go_wp2_with (go_at_call 40; refine (St.next (m := 2) ((((((HS2.out.full hgo hpo ho _ E5.out).full hgo hpo ho _ E6.out).full hgo hpo ho _ E7.out).full hgo hpo ho _ E8.out).full hgo hpo ho _ E9.out).part hgo hpo ho _).drew HCH.out HLH.out HTH.out (by omega) hc hcm hg hw0 hgp hgo hpo).mono ?_; rintro e w3 ⟨rfl, hs⟩; have HS3 := Aside0.mk hs; obtain ⟨ic3, ig3, hoc, hof⟩ := hs.cells; have rc3 := hoc 10 (by omega); have rf3 := hof 10; clear hoc hof; obtain ⟨wb2, wt2⟩ := word_bd (num l) 2; clear hs HS2 wb1 wt1 oc2 of2 ic2 ig2 E5 E6 E7 E8 E9)
  go_region
  clear rc3 rf3
  have oc3 := HS3.out.cells.2.2.1
  have of3 := HS3.out.cells.2.2.2
  have E10 := Aside0.mk (show Go.bits .or .u32 (placeV (num l) 6 10 (word (num l) 1 / 268435456) 10) (word (num l) 2 % 4 * 16) = bitsAt (num l) (6 * 10) 6 from half_or (num l) 6 10 1 28 2 (by decide) (by omega) (by omega) (by omega) (by omega))
  have E11 := Aside0.mk (show word (num l) 2 / 4 % 64 = bitsAt (num l) (6 * 11) 6 from (in_word (num l) _ 2 2 6 (by decide) (by omega)).symm)
  have E12 := Aside0.mk (show word (num l) 2 / 256 % 64 = bitsAt (num l) (6 * 12) 6 from (in_word (num l) _ 2 8 6 (by decide) (by omega)).symm)
  have E13 := Aside0.mk (show word (num l) 2 / 16384 % 64 = bitsAt (num l) (6 * 13) 6 from (in_word (num l) _ 2 14 6 (by decide) (by omega)).symm)
  have E14 := Aside0.mk (show word (num l) 2 / 1048576 % 64 = bitsAt (num l) (6 * 14) 6 from (in_word (num l) _ 2 20 6 (by decide) (by omega)).symm)
  have E15 := Aside0.mk (show word (num l) 2 / 67108864 = bitsAt (num l) (6 * 15) 6 from (end_word (num l) _ 2 26 6 (by decide) (by omega)).symm)
  go_wp2_with (go_at_call 40; refine (St.next (m := 3) ((((((HS3.out.full hgo hpo ho _ E10.out).full hgo hpo ho _ E11.out).full hgo hpo ho _ E12.out).full hgo hpo ho _ E13.out).full hgo hpo ho _ E14.out).full hgo hpo ho _ E15.out).drew HCH.out HLH.out HTH.out (by omega) hc hcm hg hw0 hgp hgo hpo).mono ?_; rintro e w4 ⟨rfl, hs⟩; have HS4 := Aside0.mk hs; obtain ⟨ic4, ig4, oc4, of4⟩ := hs.cells; obtain ⟨wb3, wt3⟩ := word_bd (num l) 3; clear hs HS3 wb2 wt2 oc3 of3 ic3 ig3 E10 E11 E12 E13 E14 E15)
  have E16 := Aside0.mk (show word (num l) 3 % 64 = bitsAt (num l) (6 * 16) 6 from (in_word0 (num l) _ 3 6 (by decide) (by omega)).symm)
  have E17 := Aside0.mk (show word (num l) 3 / 64 % 64 = bitsAt (num l) (6 * 17) 6 from (in_word (num l) _ 3 6 6 (by decide) (by omega)).symm)
  have E18 := Aside0.mk (show word (num l) 3 / 4096 % 64 = bitsAt (num l) (6 * 18) 6 from (in_word (num l) _ 3 12 6 (by decide) (by omega)).symm)
  have E19 := Aside0.mk (show word (num l) 3 / 262144 % 64 = bitsAt (num l) (6 * 19) 6 from (in_word (num l) _ 3 18 6 (by decide) (by omega)).symm)
  have E20 := Aside0.mk (show word (num l) 3 / 16777216 % 64 = bitsAt (num l) (6 * 20) 6 from (in_word (num l) _ 3 24 6 (by decide) (by omega)).symm)
  go_wp2_with (go_at_call 40; refine (St.next (m := 4) ((((((HS4.out.full hgo hpo ho _ E16.out).full hgo hpo ho _ E17.out).full hgo hpo ho _ E18.out).full hgo hpo ho _ E19.out).full hgo hpo ho _ E20.out).part hgo hpo ho _) HCH.out HLH.out HTH.out (by omega) hc hcm hg hw0 hgp hgo hpo).mono ?_; rintro e w5 ⟨rfl, hs⟩; have HS5 := Aside0.mk hs; obtain ⟨ic5, ig5, hoc, hof⟩ := hs.cells; have rc5 := hoc 21 (by omega); have rf5 := hof 21; clear hoc hof; obtain ⟨wb4, wt4⟩ := word_bd (num l) 4; clear hs HS4 wb3 wt3 oc4 of4 ic4 ig4 E16 E17 E18 E19 E20)
  go_region
  clear rc5 rf5
  have oc5 := HS5.out.cells.2.2.1
  have of5 := HS5.out.cells.2.2.2
  have E21 := Aside0.mk (show Go.bits .or .u32 (placeV (num l) 6 21 (word (num l) 3 / 1073741824) 21) (word (num l) 4 % 16 * 4) = bitsAt (num l) (6 * 21) 6 from half_or (num l) 6 21 3 30 4 (by decide) (by omega) (by omega) (by omega) (by omega))
  have E22 := Aside0.mk (show word (num l) 4 / 16 % 64 = bitsAt (num l) (6 * 22) 6 from (in_word (num l) _ 4 4 6 (by decide) (by omega)).symm)
  have E23 := Aside0.mk (show word (num l) 4 / 1024 % 64 = bitsAt (num l) (6 * 23) 6 from (in_word (num l) _ 4 10 6 (by decide) (by omega)).symm)
  have E24 := Aside0.mk (show word (num l) 4 / 65536 % 64 = bitsAt (num l) (6 * 24) 6 from (in_word (num l) _ 4 16 6 (by decide) (by omega)).symm)
  have E25 := Aside0.mk (show word (num l) 4 / 4194304 % 64 = bitsAt (num l) (6 * 25) 6 from (in_word (num l) _ 4 22 6 (by decide) (by omega)).symm)
  go_wp2_with (go_at_call 40; refine (St.next (m := 5) ((((((HS5.out.full hgo hpo ho _ E21.out).full hgo hpo ho _ E22.out).full hgo hpo ho _ E23.out).full hgo hpo ho _ E24.out).full hgo hpo ho _ E25.out).part hgo hpo ho _).drew HCH.out HLH.out HTH.out (by omega) hc hcm hg hw0 hgp hgo hpo).mono ?_; rintro e w6 ⟨rfl, hs⟩; have HS6 := Aside0.mk hs; obtain ⟨ic6, ig6, hoc, hof⟩ := hs.cells; have rc6 := hoc 26 (by omega); have rf6 := hof 26; clear hoc hof; obtain ⟨wb5, wt5⟩ := word_bd (num l) 5; clear hs HS5 wb4 wt4 oc5 of5 ic5 ig5 E21 E22 E23 E24 E25)
  go_region
  clear rc6 rf6
  have oc6 := HS6.out.cells.2.2.1
  have of6 := HS6.out.cells.2.2.2
  have E26 := Aside0.mk (show Go.bits .or .u32 (placeV (num l) 6 26 (word (num l) 4 / 268435456) 26) (word (num l) 5 % 4 * 16) = bitsAt (num l) (6 * 26) 6 from half_or (num l) 6 26 4 28 2 (by decide) (by omega) (by omega) (by omega) (by omega))
  have E27 := Aside0.mk (show word (num l) 5 / 4 % 64 = bitsAt (num l) (6 * 27) 6 from (in_word (num l) _ 5 2 6 (by decide) (by omega)).symm)
  have E28 := Aside0.mk (show word (num l) 5 / 256 % 64 = bitsAt (num l) (6 * 28) 6 from (in_word (num l) _ 5 8 6 (by decide) (by omega)).symm)
  have E29 := Aside0.mk (show word (num l) 5 / 16384 % 64 = bitsAt (num l) (6 * 29) 6 from (in_word (num l) _ 5 14 6 (by decide) (by omega)).symm)
  have E30 := Aside0.mk (show word (num l) 5 / 1048576 % 64 = bitsAt (num l) (6 * 30) 6 from (in_word (num l) _ 5 20 6 (by decide) (by omega)).symm)
  have E31 := Aside0.mk (show word (num l) 5 / 67108864 = bitsAt (num l) (6 * 31) 6 from (end_word (num l) _ 5 26 6 (by decide) (by omega)).symm)
  go_wp2_with fail
  go_end0
  exact ⟨rfl, ((((((HS6.out.full hgo hpo ho _ E26.out).full hgo hpo ho _ E27.out).full hgo hpo ho _ E28.out).full hgo hpo ho _ E29.out).full hgo hpo ho _ E30.out).full hgo hpo ho _ E31.out).drew.out, ((((((HS6.out.full hgo hpo ho _ E26.out).full hgo hpo ho _ E27.out).full hgo hpo ho _ E28.out).full hgo hpo ho _ E29.out).full hgo hpo ho _ E30.out).full hgo hpo ho _ E31.out).drew.bel⟩

end Go.Proofs.YtngihompgcjlmaaDoor.Unp
