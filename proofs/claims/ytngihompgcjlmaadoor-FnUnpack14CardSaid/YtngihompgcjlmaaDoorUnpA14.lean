/- Numbers of 14 bits, read word by word: the walk. -/
import Derived.Test.YtngihompgcjlmaaDoorUnpS
namespace Go.Proofs.YtngihompgcjlmaaDoor.Unp
open Go.RowKit Go.Proofs.YtngihompgcjlmaaDoorW.PrintWords Go.Proofs.YtngihompgcjlmaaDoorW.PrintLast Go.Proofs.YtngihompgcjlmaaDoorW.PrintMore
set_option linter.unusedVariables false
set_option linter.unusedSimpArgs false

def Told14 (w0 : World) (o : Nat) (N : Int) (e : Ending) (w' : World) : Prop := e = .returned (.tuple #[]) ∧ OutAt w' o N 14 32 0 ∧ Below w0.heap.size w0 w'
set_option maxRecDepth 1000000 in
set_option maxHeartbeats 16000000 in
theorem unpack14_any (g o : Nat) (A : Addr) (n c : Nat) (q : Int) (l : List Int) (w0 w : World) (HC : (Kd.int .u8).C w0 (some A) n l) (HL : l.length = n) (HT : Byt l) (HB : Below w0.heap.size w0 w) (hR : RdAt w g (some A) n c 0 q) (hO : OutAt w o (num l) 14 0 0)
    (hn : 56 ≤ n) (hc : n ≤ c) (hcm : c ≤ 9223372036854775807) (hg : w0.heap.size ≤ g) (ho : w0.heap.size ≤ o) (hgo : g ≠ o) :
    Calls Tryd.prog 35 #[.iface 34 (.pointer (some ⟨g, 0, none⟩)), .slice (some ⟨o, 0, none⟩) 32 32] w (Told14 w0 o (num l)) := by
  have hgl : g < w.heap.size := (Array.getElem?_eq_some_iff.1 hR).1
  have hol : o < w.heap.size := (Array.getElem?_eq_some_iff.1 hO).1
  have hw0 : w0.heap.size ≤ w.heap.size := HB.size
  have hgp : g ≠ w.heap.size := by omega
  have hpo : w.heap.size ≠ o := by omega
  have HCH := Aside0.mk HC
  have HLH := Aside0.mk HL
  have HTH := Aside0.mk HT
  have HS0 := Aside0.mk (show St w0 g o w.heap.size A n c l 14 0 0 q 0 0 (w.alloc (.cells #[.int .u32 0] 30)) from ⟨(Below.heap_alloc w _ g hgl).trans hR, heap_alloc_new w _, (Below.heap_alloc w _ o hol).trans hO, HB.alloc hw0 _⟩)
  clear HC HL HT HB hR hO
  go_enter Tryd.func35, Tryd.ntmps35
  go_wp2_with (go_at_call 40; refine (St.next (m := 0) HS0.out HCH.out HLH.out HTH.out (by omega) hc hcm hg hw0 hgp hgo hpo).mono ?_; rintro e w1 ⟨rfl, hs⟩; have HS1 := Aside0.mk hs; obtain ⟨ic1, ig1, oc1, of1⟩ := hs.cells; obtain ⟨wb0, wt0⟩ := word_bd (num l) 0; clear hs HS0)
  have E0 := Aside0.mk (show word (num l) 0 % 16384 = bitsAt (num l) (14 * 0) 14 from (in_word0 (num l) _ 0 14 (by decide) (by omega)).symm)
  have E1 := Aside0.mk (show word (num l) 0 / 16384 % 16384 = bitsAt (num l) (14 * 1) 14 from (in_word (num l) _ 0 14 14 (by decide) (by omega)).symm)
  go_wp2_with (go_at_call 40; refine (St.next (m := 1) (((HS1.out.full hgo hpo ho _ E0.out).full hgo hpo ho _ E1.out).part hgo hpo ho _) HCH.out HLH.out HTH.out (by omega) hc hcm hg hw0 hgp hgo hpo).mono ?_; rintro e w2 ⟨rfl, hs⟩; have HS2 := Aside0.mk hs; obtain ⟨ic2, ig2, hoc, hof⟩ := hs.cells; have rc2 := hoc 2 (by omega); have rf2 := hof 2; clear hoc hof; obtain ⟨wb1, wt1⟩ := word_bd (num l) 1; clear hs HS1 wb0 wt0 oc1 of1 ic1 ig1 E0 E1)
  go_region
  clear rc2 rf2
  have oc2 := HS2.out.cells.2.2.1
  have of2 := HS2.out.cells.2.2.2
  have E2 := Aside0.mk (show Go.bits .or .u32 (placeV (num l) 14 2 (word (num l) 0 / 268435456) 2) (word (num l) 1 % 1024 * 16) = bitsAt (num l) (14 * 2) 14 from half_or (num l) 14 2 0 28 10 (by decide) (by omega) (by omega) (by omega) (by omega))
  have E3 := Aside0.mk (show word (num l) 1 / 1024 % 16384 = bitsAt (num l) (14 * 3) 14 from (in_word (num l) _ 1 10 14 (by decide) (by omega)).symm)
  go_wp2_with (go_at_call 40; refine (St.next (m := 2) (((HS2.out.full hgo hpo ho _ E2.out).full hgo hpo ho _ E3.out).part hgo hpo ho _).drew HCH.out HLH.out HTH.out (by omega) hc hcm hg hw0 hgp hgo hpo).mono ?_; rintro e w3 ⟨rfl, hs⟩; have HS3 := Aside0.mk hs; obtain ⟨ic3, ig3, hoc, hof⟩ := hs.cells; have rc3 := hoc 4 (by omega); have rf3 := hof 4; clear hoc hof; obtain ⟨wb2, wt2⟩ := word_bd (num l) 2; clear hs HS2 wb1 wt1 oc2 of2 ic2 ig2 E2 E3)
  go_region
  clear rc3 rf3
  have oc3 := HS3.out.cells.2.2.1
  have of3 := HS3.out.cells.2.2.2
  have E4 := Aside0.mk (show Go.bits .or .u32 (placeV (num l) 14 4 (word (num l) 1 / 16777216) 4) (word (num l) 2 % 64 * 256) = bitsAt (num l) (14 * 4) 14 from half_or (num l) 14 4 1 24 6 (by decide) (by omega) (by omega) (by omega) (by omega))
  have E5 := Aside0.mk (show word (num l) 2 / 64 % 16384 = bitsAt (num l) (14 * 5) 14 from (in_word (num l) _ 2 6 14 (by decide) (by omega)).symm)
  go_wp2_with (go_at_call 40; refine (St.next (m := 3) (((HS3.out.full hgo hpo ho _ E4.out).full hgo hpo ho _ E5.out).part hgo hpo ho _).drew HCH.out HLH.out HTH.out (by omega) hc hcm hg hw0 hgp hgo hpo).mono ?_; rintro e w4 ⟨rfl, hs⟩; have HS4 := Aside0.mk hs; obtain ⟨ic4, ig4, hoc, hof⟩ := hs.cells; have rc4 := hoc 6 (by omega); have rf4 := hof 6; clear hoc hof; obtain ⟨wb3, wt3⟩ := word_bd (num l) 3; clear hs HS3 wb2 wt2 oc3 of3 ic3 ig3 E4 E5)
  go_region
  clear rc4 rf4
  have oc4 := HS4.out.cells.2.2.1
  have of4 := HS4.out.cells.2.2.2
  have E6 := Aside0.mk (show Go.bits .or .u32 (placeV (num l) 14 6 (word (num l) 2 / 1048576) 6) (word (num l) 3 % 4 * 4096) = bitsAt (num l) (14 * 6) 14 from half_or (num l) 14 6 2 20 2 (by decide) (by omega) (by omega) (by omega) (by omega))
  have E7 := Aside0.mk (show word (num l) 3 / 4 % 16384 = bitsAt (num l) (14 * 7) 14 from (in_word (num l) _ 3 2 14 (by decide) (by omega)).symm)
  have E8 := Aside0.mk (show word (num l) 3 / 65536 % 16384 = bitsAt (num l) (14 * 8) 14 from (in_word (num l) _ 3 16 14 (by decide) (by omega)).symm)
  go_wp2_with (go_at_call 40; refine (St.next (m := 4) ((((HS4.out.full hgo hpo ho _ E6.out).full hgo hpo ho _ E7.out).full hgo hpo ho _ E8.out).part hgo hpo ho _).drew HCH.out HLH.out HTH.out (by omega) hc hcm hg hw0 hgp hgo hpo).mono ?_; rintro e w5 ⟨rfl, hs⟩; have HS5 := Aside0.mk hs; obtain ⟨ic5, ig5, hoc, hof⟩ := hs.cells; have rc5 := hoc 9 (by omega); have rf5 := hof 9; clear hoc hof; obtain ⟨wb4, wt4⟩ := word_bd (num l) 4; clear hs HS4 wb3 wt3 oc4 of4 ic4 ig4 E6 E7 E8)
  go_region
  clear rc5 rf5
  have oc5 := HS5.out.cells.2.2.1
  have of5 := HS5.out.cells.2.2.2
  have E9 := Aside0.mk (show Go.bits .or .u32 (placeV (num l) 14 9 (word (num l) 3 / 1073741824) 9) (word (num l) 4 % 4096 * 4) = bitsAt (num l) (14 * 9) 14 from half_or (num l) 14 9 3 30 12 (by decide) (by omega) (by omega) (by omega) (by omega))
  have E10 := Aside0.mk (show word (num l) 4 / 4096 % 16384 = bitsAt (num l) (14 * 10) 14 from (in_word (num l) _ 4 12 14 (by decide) (by omega)).symm)
  go_wp2_with (go_at_call 40; refine (St.next (m := 5) (((HS5.out.full hgo hpo ho _ E9.out).full hgo hpo ho _ E10.out).part hgo hpo ho _).drew HCH.out HLH.out HTH.out (by omega) hc hcm hg hw0 hgp hgo hpo).mono ?_; rintro e w6 ⟨rfl, hs⟩; have HS6 := Aside0.mk hs; obtain ⟨ic6, ig6, hoc, hof⟩ := hs.cells; have rc6 := hoc 11 (by omega); have rf6 := hof 11; clear hoc hof; obtain ⟨wb5, wt5⟩ := word_bd (num l) 5; clear hs HS5 wb4 wt4 oc5 of5 ic5 ig5 E9 E10)
  go_region
  clear rc6 rf6
  have oc6 := HS6.out.cells.2.2.1
  have of6 := HS6.out.cells.2.2.2
  have E11 := Aside0.mk (show Go.bits .or .u32 (placeV (num l) 14 11 (word (num l) 4 / 67108864) 11) (word (num l) 5 % 256 * 64) = bitsAt (num l) (14 * 11) 14 from half_or (num l) 14 11 4 26 8 (by decide) (by omega) (by omega) (by omega) (by omega))
  have E12 := Aside0.mk (show word (num l) 5 / 256 % 16384 = bitsAt (num l) (14 * 12) 14 from (in_word (num l) _ 5 8 14 (by decide) (by omega)).symm)
  go_wp2_with (go_at_call 40; refine (St.next (m := 6) (((HS6.out.full hgo hpo ho _ E11.out).full hgo hpo ho _ E12.out).part hgo hpo ho _).drew HCH.out HLH.out HTH.out (by omega) hc hcm hg hw0 hgp hgo hpo).mono ?_; rintro e w7 ⟨rfl, hs⟩; have HS7 := Aside0.mk hs; obtain ⟨ic7, ig7, hoc, hof⟩ := hs.cells; have rc7 := hoc 13 (by omega); have rf7 := hof 13; clear hoc hof; obtain ⟨wb6, wt6⟩ := word_bd (num l) 6; clear hs HS6 wb5 wt5 oc6 of6 ic6 ig6 E11 E12)
  go_region
  clear rc7 rf7
  have oc7 := HS7.out.cells.2.2.1
  have of7 := HS7.out.cells.2.2.2
  have E13 := Aside0.mk (show Go.bits .or .u32 (placeV (num l) 14 13 (word (num l) 5 / 4194304) 13) (word (num l) 6 % 16 * 1024) = bitsAt (num l) (14 * 13) 14 from half_or (num l) 14 13 5 22 4 (by decide) (by omega) (by omega) (by omega) (by omega))
  have E14 := Aside0.mk (show word (num l) 6 / 16 % 16384 = bitsAt (num l) (14 * 14) 14 from (in_word (num l) _ 6 4 14 (by decide) (by omega)).symm)
  have E15 := Aside0.mk (show word (num l) 6 / 262144 = bitsAt (num l) (14 * 15) 14 from (end_word (num l) _ 6 18 14 (by decide) (by omega)).symm)
  go_wp2_with (go_at_call 40; refine (St.next (m := 7) (((HS7.out.full hgo hpo ho _ E13.out).full hgo hpo ho _ E14.out).full hgo hpo ho _ E15.out).drew HCH.out HLH.out HTH.out (by omega) hc hcm hg hw0 hgp hgo hpo).mono ?_; rintro e w8 ⟨rfl, hs⟩; have HS8 := Aside0.mk hs; obtain ⟨ic8, ig8, oc8, of8⟩ := hs.cells; obtain ⟨wb7, wt7⟩ := word_bd (num l) 7; clear hs HS7 wb6 wt6 oc7 of7 ic7 ig7 E13 E14 E15)
  have E16 := Aside0.mk (show word (num l) 7 % 16384 = bitsAt (num l) (14 * 16) 14 from (in_word0 (num l) _ 7 14 (by decide) (by omega)).symm)
  have E17 := Aside0.mk (show word (num l) 7 / 16384 % 16384 = bitsAt (num l) (14 * 17) 14 from (in_word (num l) _ 7 14 14 (by decide) (by omega)).symm)
  go_wp2_with (go_at_call 40; refine (St.next (m := 8) (((HS8.out.full hgo hpo ho _ E16.out).full hgo hpo ho _ E17.out).part hgo hpo ho _) HCH.out HLH.out HTH.out (by omega) hc hcm hg hw0 hgp hgo hpo).mono ?_; rintro e w9 ⟨rfl, hs⟩; have HS9 := Aside0.mk hs; obtain ⟨ic9, ig9, hoc, hof⟩ := hs.cells; have rc9 := hoc 18 (by omega); have rf9 := hof 18; clear hoc hof; obtain ⟨wb8, wt8⟩ := word_bd (num l) 8; clear hs HS8 wb7 wt7 oc8 of8 ic8 ig8 E16 E17)
  go_region
  clear rc9 rf9
  have oc9 := HS9.out.cells.2.2.1
  have of9 := HS9.out.cells.2.2.2
  have E18 := Aside0.mk (show Go.bits .or .u32 (placeV (num l) 14 18 (word (num l) 7 / 268435456) 18) (word (num l) 8 % 1024 * 16) = bitsAt (num l) (14 * 18) 14 from half_or (num l) 14 18 7 28 10 (by decide) (by omega) (by omega) (by omega) (by omega))
  have E19 := Aside0.mk (show word (num l) 8 / 1024 % 16384 = bitsAt (num l) (14 * 19) 14 from (in_word (num l) _ 8 10 14 (by decide) (by omega)).symm)
  go_wp2_with (go_at_call 40; refine (St.next (m := 9) (((HS9.out.full hgo hpo ho _ E18.out).full hgo hpo ho _ E19.out).part hgo hpo ho _).drew HCH.out HLH.out HTH.out (by omega) hc hcm hg hw0 hgp hgo hpo).mono ?_; rintro e w10 ⟨rfl, hs⟩; have HS10 := Aside0.mk hs; obtain ⟨ic10, ig10, hoc, hof⟩ := hs.cells; have rc10 := hoc 20 (by omega); have rf10 := hof 20; clear hoc hof; obtain ⟨wb9, wt9⟩ := word_bd (num l) 9; clear hs HS9 wb8 wt8 oc9 of9 ic9 ig9 E18 E19)
  go_region
  clear rc10 rf10
  have oc10 := HS10.out.cells.2.2.1
  have of10 := HS10.out.cells.2.2.2
  have E20 := Aside0.mk (show Go.bits .or .u32 (placeV (num l) 14 20 (word (num l) 8 / 16777216) 20) (word (num l) 9 % 64 * 256) = bitsAt (num l) (14 * 20) 14 from half_or (num l) 14 20 8 24 6 (by decide) (by omega) (by omega) (by omega) (by omega))
  have E21 := Aside0.mk (show word (num l) 9 / 64 % 16384 = bitsAt (num l) (14 * 21) 14 from (in_word (num l) _ 9 6 14 (by decide) (by omega)).symm)
  go_wp2_with (go_at_call 40; refine (St.next (m := 10) (((HS10.out.full hgo hpo ho _ E20.out).full hgo hpo ho _ E21.out).part hgo hpo ho _).drew HCH.out HLH.out HTH.out (by omega) hc hcm hg hw0 hgp hgo hpo).mono ?_; rintro e w11 ⟨rfl, hs⟩; have HS11 := Aside0.mk hs; obtain ⟨ic11, ig11, hoc, hof⟩ := hs.cells; have rc11 := hoc 22 (by omega); have rf11 := hof 22; clear hoc hof; obtain ⟨wb10, wt10⟩ := word_bd (num l) 10; clear hs HS10 wb9 wt9 oc10 of10 ic10 ig10 E20 E21)
  go_region
  clear rc11 rf11
  have oc11 := HS11.out.cells.2.2.1
  have of11 := HS11.out.cells.2.2.2
  have E22 := Aside0.mk (show Go.bits .or .u32 (placeV (num l) 14 22 (word (num l) 9 / 1048576) 22) (word (num l) 10 % 4 * 4096) = bitsAt (num l) (14 * 22) 14 from half_or (num l) 14 22 9 20 2 (by decide) (by omega) (by omega) (by omega) (by omega))
  have E23 := Aside0.mk (show word (num l) 10 / 4 % 16384 = bitsAt (num l) (14 * 23) 14 from (in_word (num l) _ 10 2 14 (by decide) (by omega)).symm)
  have E24 := Aside0.mk (show word (num l) 10 / 65536 % 16384 = bitsAt (num l) (14 * 24) 14 from (in_word (num l) _ 10 16 14 (by decide) (by omega)).symm)
  go_wp2_with (go_at_call 40; refine (St.next (m := 11) ((((HS11.out.full hgo hpo ho _ E22.out).full hgo hpo ho _ E23.out).full hgo hpo ho _ E24.out).part hgo hpo ho _).drew HCH.out HLH.out HTH.out (by omega) hc hcm hg hw0 hgp hgo hpo).mono ?_; rintro e w12 ⟨rfl, hs⟩; have HS12 := Aside0.mk hs; obtain ⟨ic12, ig12, hoc, hof⟩ := hs.cells; have rc12 := hoc 25 (by omega); have rf12 := hof 25; clear hoc hof; obtain ⟨wb11, wt11⟩ := word_bd (num l) 11; clear hs HS11 wb10 wt10 oc11 of11 ic11 ig11 E22 E23 E24)
  go_region
  clear rc12 rf12
  have oc12 := HS12.out.cells.2.2.1
  have of12 := HS12.out.cells.2.2.2
  have E25 := Aside0.mk (show Go.bits .or .u32 (placeV (num l) 14 25 (word (num l) 10 / 1073741824) 25) (word (num l) 11 % 4096 * 4) = bitsAt (num l) (14 * 25) 14 from half_or (num l) 14 25 10 30 12 (by decide) (by omega) (by omega) (by omega) (by omega))
  have E26 := Aside0.mk (show word (num l) 11 / 4096 % 16384 = bitsAt (num l) (14 * 26) 14 from (in_word (num l) _ 11 12 14 (by decide) (by omega)).symm)
  go_wp2_with (go_at_call 40; refine (St.next (m := 12) (((HS12.out.full hgo hpo ho _ E25.out).full hgo hpo ho _ E26.out).part hgo hpo ho _).drew HCH.out HLH.out HTH.out (by omega) hc hcm hg hw0 hgp hgo hpo).mono ?_; rintro e w13 ⟨rfl, hs⟩; have HS13 := Aside0.mk hs; obtain ⟨ic13, ig13, hoc, hof⟩ := hs.cells; have rc13 := hoc 27 (by omega); have rf13 := hof 27; clear hoc hof; obtain ⟨wb12, wt12⟩ := word_bd (num l) 12; clear hs HS12 wb11 wt11 oc12 of12 ic12 ig12 E25 E26)
  go_region
  clear rc13 rf13
  have oc13 := HS13.out.cells.2.2.1
  have of13 := HS13.out.cells.2.2.2
  have E27 := Aside0.mk (show Go.bits .or .u32 (placeV (num l) 14 27 (word (num l) 11 / 67108864) 27) (word (num l) 12 % 256 * 64) = bitsAt (num l) (14 * 27) 14 from half_or (num l) 14 27 11 26 8 (by decide) (by omega) (by omega) (by omega) (by omega))
  have E28 := Aside0.mk (show word (num l) 12 / 256 % 16384 = bitsAt (num l) (14 * 28) 14 from (in_word (num l) _ 12 8 14 (by decide) (by omega)).symm)
  go_wp2_with (go_at_call 40; refine (St.next (m := 13) (((HS13.out.full hgo hpo ho _ E27.out).full hgo hpo ho _ E28.out).part hgo hpo ho _).drew HCH.out HLH.out HTH.out (by omega) hc hcm hg hw0 hgp hgo hpo).mono ?_; rintro e w14 ⟨rfl, hs⟩; have HS14 := Aside0.mk hs; obtain ⟨ic14, ig14, hoc, hof⟩ := hs.cells; have rc14 := hoc 29 (by omega); have rf14 := hof 29; clear hoc hof; obtain ⟨wb13, wt13⟩ := word_bd (num l) 13; clear hs HS13 wb12 wt12 oc13 of13 ic13 ig13 E27 E28)
  go_region
  clear rc14 rf14
  have oc14 := HS14.out.cells.2.2.1
  have of14 := HS14.out.cells.2.2.2
  have E29 := Aside0.mk (show Go.bits .or .u32 (placeV (num l) 14 29 (word (num l) 12 / 4194304) 29) (word (num l) 13 % 16 * 1024) = bitsAt (num l) (14 * 29) 14 from half_or (num l) 14 29 12 22 4 (by decide) (by omega) (by omega) (by omega) (by omega))
  have E30 := Aside0.mk (show word (num l) 13 / 16 % 16384 = bitsAt (num l) (14 * 30) 14 from (in_word (num l) _ 13 4 14 (by decide) (by omega)).symm)
  have E31 := Aside0.mk (show word (num l) 13 / 262144 = bitsAt (num l) (14 * 31) 14 from (end_word (num l) _ 13 18 14 (by decide) (by omega)).symm)
  go_wp2_with fail
  go_end0
  exact ⟨rfl, (((HS14.out.full hgo hpo ho _ E29.out).full hgo hpo ho _ E30.out).full hgo hpo ho _ E31.out).drew.out, (((HS14.out.full hgo hpo ho _ E29.out).full hgo hpo ho _ E30.out).full hgo hpo ho _ E31.out).drew.bel⟩

end Go.Proofs.YtngihompgcjlmaaDoor.Unp
