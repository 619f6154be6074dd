/- Numbers of 10 bits, read word by word: the walk. -/
import Derived.Test.YtngihompgcjlmaaDoorUnpS
namespace Go.Proofs.YtngihompgcjlmaaDoor.Unp
open Go.RowKit Go.Proofs.YtngihompgcjlmaaDoorW.PrintWords Go.Proofs.YtngihompgcjlmaaDoorW.PrintLast Go.Proofs.YtngihompgcjlmaaDoorW.PrintMore
set_option linter.unusedVariables false
set_option linter.unusedSimpArgs false

def Told10 (w0 : World) (o : Nat) (N : Int) (e : Ending) (w' : World) : Prop := e = .returned (.tuple #[]) ∧ OutAt w' o N 10 32 0 ∧ Below w0.heap.size w0 w'
set_option maxRecDepth 1000000 in
set_option maxHeartbeats 16000000 in
theorem unpack10_any (g o : Nat) (A : Addr) (n c : Nat) (q : Int) (l : List Int) (w0 w : World) (HC : (Kd.int .u8).C w0 (some A) n l) (HL : l.length = n) (HT : Byt l) (HB : Below w0.heap.size w0 w) (hR : RdAt w g (some A) n c 0 q) (hO : OutAt w o (num l) 10 0 0)
    (hn : 40 ≤ n) (hc : n ≤ c) (hcm : c ≤ 9223372036854775807) (hg : w0.heap.size ≤ g) (ho : w0.heap.size ≤ o) (hgo : g ≠ o) :
    Calls Tryd.prog 34 #[.iface 34 (.pointer (some ⟨g, 0, none⟩)), .slice (some ⟨o, 0, none⟩) 32 32] w (Told10 w0 o (num l)) := by
  have hgl : g < w.heap.size := (Array.getElem?_eq_some_iff.1 hR).1
  have hol : o < w.heap.size := (Array.getElem?_eq_some_iff.1 hO).1
  have hw0 : w0.heap.size ≤ w.heap.size := HB.size
  have hgp : g ≠ w.heap.size := by omega
  have hpo : w.heap.size ≠ o := by omega
  have HCH := Aside0.mk HC
  have HLH := Aside0.mk HL
  have HTH := Aside0.mk HT
  have HS0 := Aside0.mk (show St w0 g o w.heap.size A n c l 10 0 0 q 0 0 (w.alloc (.cells #[.int .u32 0] 30)) from ⟨(Below.heap_alloc w _ g hgl).trans hR, heap_alloc_new w _, (Below.heap_alloc w _ o hol).trans hO, HB.alloc hw0 _⟩)
  clear HC HL HT HB hR hO
  go_enter Tryd.func34, Tryd.ntmps34
  go_wp2_with (go_at_call 40; refine (St.next (m := 0) HS0.out HCH.out HLH.out HTH.out (by omega) hc hcm hg hw0 hgp hgo hpo).mono ?_; rintro e w1 ⟨rfl, hs⟩; have HS1 := Aside0.mk hs; obtain ⟨ic1, ig1, oc1, of1⟩ := hs.cells; obtain ⟨wb0, wt0⟩ := word_bd (num l) 0; clear hs HS0)
  have E0 := Aside0.mk (show word (num l) 0 % 1024 = bitsAt (num l) (10 * 0) 10 from (in_word0 (num l) _ 0 10 (by decide) (by omega)).symm)
  have E1 := Aside0.mk (show word (num l) 0 / 1024 % 1024 = bitsAt (num l) (10 * 1) 10 from (in_word (num l) _ 0 10 10 (by decide) (by omega)).symm)
  have E2 := Aside0.mk (show word (num l) 0 / 1048576 % 1024 = bitsAt (num l) (10 * 2) 10 from (in_word (num l) _ 0 20 10 (by decide) (by omega)).symm)
  go_wp2_with (go_at_call 40; refine (St.next (m := 1) ((((HS1.out.full hgo hpo ho _ E0.out).full hgo hpo ho _ E1.out).full hgo hpo ho _ E2.out).part hgo hpo ho _) HCH.out HLH.out HTH.out (by omega) hc hcm hg hw0 hgp hgo hpo).mono ?_; rintro e w2 ⟨rfl, hs⟩; have HS2 := Aside0.mk hs; obtain ⟨ic2, ig2, hoc, hof⟩ := hs.cells; have rc2 := hoc 3 (by omega); have rf2 := hof 3; clear hoc hof; obtain ⟨wb1, wt1⟩ := word_bd (num l) 1; clear hs HS1 wb0 wt0 oc1 of1 ic1 ig1 E0 E1 E2)
  go_region
  clear rc2 rf2
  have oc2 := HS2.out.cells.2.2.1
  have of2 := HS2.out.cells.2.2.2
  have E3 := Aside0.mk (show Go.bits .or .u32 (placeV (num l) 10 3 (word (num l) 0 / 1073741824) 3) (word (num l) 1 % 256 * 4) = bitsAt (num l) (10 * 3) 10 from half_or (num l) 10 3 0 30 8 (by decide) (by omega) (by omega) (by omega) (by omega))
  have E4 := Aside0.mk (show word (num l) 1 / 256 % 1024 = bitsAt (num l) (10 * 4) 10 from (in_word (num l) _ 1 8 10 (by decide) (by omega)).symm)
  have E5 := Aside0.mk (show word (num l) 1 / 262144 % 1024 = bitsAt (num l) (10 * 5) 10 from (in_word (num l) _ 1 18 10 (by decide) (by omega)).symm)
  go_wp2_with (go_at_call 40; refine (St.next (m := 2) ((((HS2.out.full hgo hpo ho _ E3.out).full hgo hpo ho _ E4.out).full hgo hpo ho _ E5.out).part hgo hpo ho _).drew HCH.out HLH.out HTH.out (by omega) hc hcm hg hw0 hgp hgo hpo).mono ?_; rintro e w3 ⟨rfl, hs⟩; have HS3 := Aside0.mk hs; obtain ⟨ic3, ig3, hoc, hof⟩ := hs.cells; have rc3 := hoc 6 (by omega); have rf3 := hof 6; clear hoc hof; obtain ⟨wb2, wt2⟩ := word_bd (num l) 2; clear hs HS2 wb1 wt1 oc2 of2 ic2 ig2 E3 E4 E5)
  go_region
  clear rc3 rf3
  have oc3 := HS3.out.cells.2.2.1
  have of3 := HS3.out.cells.2.2.2
  have E6 := Aside0.mk (show Go.bits .or .u32 (placeV (num l) 10 6 (word (num l) 1 / 268435456) 6) (word (num l) 2 % 64 * 16) = bitsAt (num l) (10 * 6) 10 from half_or (num l) 10 6 1 28 6 (by decide) (by omega) (by omega) (by omega) (by omega))
  have E7 := Aside0.mk (show word (num l) 2 / 64 % 1024 = bitsAt (num l) (10 * 7) 10 from (in_word (num l) _ 2 6 10 (by decide) (by omega)).symm)
  have E8 := Aside0.mk (show word (num l) 2 / 65536 % 1024 = bitsAt (num l) (10 * 8) 10 from (in_word (num l) _ 2 16 10 (by decide) (by omega)).symm)
  go_wp2_with (go_at_call 40; refine (St.next (m := 3) ((((HS3.out.full hgo hpo ho _ E6.out).full hgo hpo ho _ E7.out).full hgo hpo ho _ E8.out).part hgo hpo ho _).drew HCH.out HLH.out HTH.out (by omega) hc hcm hg hw0 hgp hgo hpo).mono ?_; rintro e w4 ⟨rfl, hs⟩; have HS4 := Aside0.mk hs; obtain ⟨ic4, ig4, hoc, hof⟩ := hs.cells; have rc4 := hoc 9 (by omega); have rf4 := hof 9; clear hoc hof; obtain ⟨wb3, wt3⟩ := word_bd (num l) 3; clear hs HS3 wb2 wt2 oc3 of3 ic3 ig3 E6 E7 E8)
  go_region
  clear rc4 rf4
  have oc4 := HS4.out.cells.2.2.1
  have of4 := HS4.out.cells.2.2.2
  have E9 := Aside0.mk (show Go.bits .or .u32 (placeV (num l) 10 9 (word (num l) 2 / 67108864) 9) (word (num l) 3 % 16 * 64) = bitsAt (num l) (10 * 9) 10 from half_or (num l) 10 9 2 26 4 (by decide) (by omega) (by omega) (by omega) (by omega))
  have E10 := Aside0.mk (show word (num l) 3 / 16 % 1024 = bitsAt (num l) (10 * 10) 10 from (in_word (num l) _ 3 4 10 (by decide) (by omega)).symm)
  have E11 := Aside0.mk (show word (num l) 3 / 16384 % 1024 = bitsAt (num l) (10 * 11) 10 from (in_word (num l) _ 3 14 10 (by decide) (by omega)).symm)
  go_wp2_with (go_at_call 40; refine (St.next (m := 4) ((((HS4.out.full hgo hpo ho _ E9.out).full hgo hpo ho _ E10.out).full hgo hpo ho _ E11.out).part hgo hpo ho _).drew HCH.out HLH.out HTH.out (by omega) hc hcm hg hw0 hgp hgo hpo).mono ?_; rintro e w5 ⟨rfl, hs⟩; have HS5 := Aside0.mk hs; obtain ⟨ic5, ig5, hoc, hof⟩ := hs.cells; have rc5 := hoc 12 (by omega); have rf5 := hof 12; clear hoc hof; obtain ⟨wb4, wt4⟩ := word_bd (num l) 4; clear hs HS4 wb3 wt3 oc4 of4 ic4 ig4 E9 E10 E11)
  go_region
  clear rc5 rf5
  have oc5 := HS5.out.cells.2.2.1
  have of5 := HS5.out.cells.2.2.2
  have E12 := Aside0.mk (show Go.bits .or .u32 (placeV (num l) 10 12 (word (num l) 3 / 16777216) 12) (word (num l) 4 % 4 * 256) = bitsAt (num l) (10 * 12) 10 from half_or (num l) 10 12 3 24 2 (by decide) (by omega) (by omega) (by omega) (by omega))
  have E13 := Aside0.mk (show word (num l) 4 / 4 % 1024 = bitsAt (num l) (10 * 13) 10 from (in_word (num l) _ 4 2 10 (by decide) (by omega)).symm)
  have E14 := Aside0.mk (show word (num l) 4 / 4096 % 1024 = bitsAt (num l) (10 * 14) 10 from (in_word (num l) _ 4 12 10 (by decide) (by omega)).symm)
  have E15 := Aside0.mk (show word (num l) 4 / 4194304 = bitsAt (num l) (10 * 15) 10 from (end_word (num l) _ 4 22 10 (by decide) (by omega)).symm)
  go_wp2_with (go_at_call 40; refine (St.next (m := 5) ((((HS5.out.full hgo hpo ho _ E12.out).full hgo hpo ho _ E13.out).full hgo hpo ho _ E14.out).full hgo hpo ho _ E15.out).drew HCH.out HLH.out HTH.out (by omega) hc hcm hg hw0 hgp hgo hpo).mono ?_; rintro e w6 ⟨rfl, hs⟩; have HS6 := Aside0.mk hs; obtain ⟨ic6, ig6, oc6, of6⟩ := hs.cells; obtain ⟨wb5, wt5⟩ := word_bd (num l) 5; clear hs HS5 wb4 wt4 oc5 of5 ic5 ig5 E12 E13 E14 E15)
  have E16 := Aside0.mk (show word (num l) 5 % 1024 = bitsAt (num l) (10 * 16) 10 from (in_word0 (num l) _ 5 10 (by decide) (by omega)).symm)
  have E17 := Aside0.mk (show word (num l) 5 / 1024 % 1024 = bitsAt (num l) (10 * 17) 10 from (in_word (num l) _ 5 10 10 (by decide) (by omega)).symm)
  have E18 := Aside0.mk (show word (num l) 5 / 1048576 % 1024 = bitsAt (num l) (10 * 18) 10 from (in_word (num l) _ 5 20 10 (by decide) (by omega)).symm)
  go_wp2_with (go_at_call 40; refine (St.next (m := 6) ((((HS6.out.full hgo hpo ho _ E16.out).full hgo hpo ho _ E17.out).full hgo hpo ho _ E18.out).part hgo hpo ho _) HCH.out HLH.out HTH.out (by omega) hc hcm hg hw0 hgp hgo hpo).mono ?_; rintro e w7 ⟨rfl, hs⟩; have HS7 := Aside0.mk hs; obtain ⟨ic7, ig7, hoc, hof⟩ := hs.cells; have rc7 := hoc 19 (by omega); have rf7 := hof 19; clear hoc hof; obtain ⟨wb6, wt6⟩ := word_bd (num l) 6; clear hs HS6 wb5 wt5 oc6 of6 ic6 ig6 E16 E17 E18)
  go_region
  clear rc7 rf7
  have oc7 := HS7.out.cells.2.2.1
  have of7 := HS7.out.cells.2.2.2
  have E19 := Aside0.mk (show Go.bits .or .u32 (placeV (num l) 10 19 (word (num l) 5 / 1073741824) 19) (word (num l) 6 % 256 * 4) = bitsAt (num l) (10 * 19) 10 from half_or (num l) 10 19 5 30 8 (by decide) (by omega) (by omega) (by omega) (by omega))
  have E20 := Aside0.mk (show word (num l) 6 / 256 % 1024 = bitsAt (num l) (10 * 20) 10 from (in_word (num l) _ 6 8 10 (by decide) (by omega)).symm)
  have E21 := Aside0.mk (show word (num l) 6 / 262144 % 1024 = bitsAt (num l) (10 * 21) 10 from (in_word (num l) _ 6 18 10 (by decide) (by omega)).symm)
  go_wp2_with (go_at_call 40; refine (St.next (m := 7) ((((HS7.out.full hgo hpo ho _ E19.out).full hgo hpo ho _ E20.out).full hgo hpo ho _ E21.out).part hgo hpo ho _).drew HCH.out HLH.out HTH.out (by omega) hc hcm hg hw0 hgp hgo hpo).mono ?_; rintro e w8 ⟨rfl, hs⟩; have HS8 := Aside0.mk hs; obtain ⟨ic8, ig8, hoc, hof⟩ := hs.cells; have rc8 := hoc 22 (by omega); have rf8 := hof 22; clear hoc hof; obtain ⟨wb7, wt7⟩ := word_bd (num l) 7; clear hs HS7 wb6 wt6 oc7 of7 ic7 ig7 E19 E20 E21)
  go_region
  clear rc8 rf8
  have oc8 := HS8.out.cells.2.2.1
  have of8 := HS8.out.cells.2.2.2
  have E22 := Aside0.mk (show Go.bits .or .u32 (placeV (num l) 10 22 (word (num l) 6 / 268435456) 22) (word (num l) 7 % 64 * 16) = bitsAt (num l) (10 * 22) 10 from half_or (num l) 10 22 6 28 6 (by decide) (by omega) (by omega) (by omega) (by omega))
  have E23 := Aside0.mk (show word (num l) 7 / 64 % 1024 = bitsAt (num l) (10 * 23) 10 from (in_word (num l) _ 7 6 10 (by decide) (by omega)).symm)
  have E24 := Aside0.mk (show word (num l) 7 / 65536 % 1024 = bitsAt (num l) (10 * 24) 10 from (in_word (num l) _ 7 16 10 (by decide) (by omega)).symm)
  go_wp2_with (go_at_call 40; refine (St.next (m := 8) ((((HS8.out.full hgo hpo ho _ E22.out).full hgo hpo ho _ E23.out).full hgo hpo ho _ E24.out).part hgo hpo ho _).drew HCH.out HLH.out HTH.out (by omega) hc hcm hg hw0 hgp hgo hpo).mono ?_; rintro e w9 ⟨rfl, hs⟩; have HS9 := Aside0.mk hs; obtain ⟨ic9, ig9, hoc, hof⟩ := hs.cells; have rc9 := hoc 25 (by omega); have rf9 := hof 25; clear hoc hof; obtain ⟨wb8, wt8⟩ := word_bd (num l) 8; clear hs HS8 wb7 wt7 oc8 of8 ic8 ig8 E22 E23 E24)
  go_region
  clear rc9 rf9
  have oc9 := HS9.out.cells.2.2.1
  have of9 := HS9.out.cells.2.2.2
  have E25 := Aside0.mk (show Go.bits .or .u32 (placeV (num l) 10 25 (word (num l) 7 / 67108864) 25) (word (num l) 8 % 16 * 64) = bitsAt (num l) (10 * 25) 10 from half_or (num l) 10 25 7 26 4 (by decide) (by omega) (by omega) (by omega) (by omega))
  have E26 := Aside0.mk (show word (num l) 8 / 16 % 1024 = bitsAt (num l) (10 * 26) 10 from (in_word (num l) _ 8 4 10 (by decide) (by omega)).symm)
  have E27 := Aside0.mk (show word (num l) 8 / 16384 % 1024 = bitsAt (num l) (10 * 27) 10 from (in_word (num l) _ 8 14 10 (by decide) (by omega)).symm)
  go_wp2_with (go_at_call 40; refine (St.next (m := 9) ((((HS9.out.full hgo hpo ho _ E25.out).full hgo hpo ho _ E26.out).full hgo hpo ho _ E27.out).part hgo hpo ho _).drew HCH.out HLH.out HTH.out (by omega) hc hcm hg hw0 hgp hgo hpo).mono ?_; rintro e w10 ⟨rfl, hs⟩; have HS10 := Aside0.mk hs; obtain ⟨ic10, ig10, hoc, hof⟩ := hs.cells; have rc10 := hoc 28 (by omega); have rf10 := hof 28; clear hoc hof; obtain ⟨wb9, wt9⟩ := word_bd (num l) 9; clear hs HS9 wb8 wt8 oc9 of9 ic9 ig9 E25 E26 E27)
  go_region
  clear rc10 rf10
  have oc10 := HS10.out.cells.2.2.1
  have of10 := HS10.out.cells.2.2.2
  have E28 := Aside0.mk (show Go.bits .or .u32 (placeV (num l) 10 28 (word (num l) 8 / 16777216) 28) (word (num l) 9 % 4 * 256) = bitsAt (num l) (10 * 28) 10 from half_or (num l) 10 28 8 24 2 (by decide) (by omega) (by omega) (by omega) (by omega))
  have E29 := Aside0.mk (show word (num l) 9 / 4 % 1024 = bitsAt (num l) (10 * 29) 10 from (in_word (num l) _ 9 2 10 (by decide) (by omega)).symm)
  have E30 := Aside0.mk (show word (num l) 9 / 4096 % 1024 = bitsAt (num l) (10 * 30) 10 from (in_word (num l) _ 9 12 10 (by decide) (by omega)).symm)
  have E31 := Aside0.mk (show word (num l) 9 / 4194304 = bitsAt (num l) (10 * 31) 10 from (end_word (num l) _ 9 22 10 (by decide) (by omega)).symm)
  go_wp2_with fail
  go_end0
  exact ⟨rfl, ((((HS10.out.full hgo hpo ho _ E28.out).full hgo hpo ho _ E29.out).full hgo hpo ho _ E30.out).full hgo hpo ho _ E31.out).drew.out, ((((HS10.out.full hgo hpo ho _ E28.out).full hgo hpo ho _ E29.out).full hgo hpo ho _ E30.out).full hgo hpo ho _ E31.out).drew.bel⟩

end Go.Proofs.YtngihompgcjlmaaDoor.Unp
