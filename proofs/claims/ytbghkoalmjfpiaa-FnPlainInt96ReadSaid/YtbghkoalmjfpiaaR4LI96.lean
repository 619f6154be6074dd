/- The law on values that are read plainly, where the values are asked: each of its ways. -/
import Derived.Test.YtbghkoalmjfpiaaR4KI96
namespace Go.Proofs.Ytbghkoalmjfpiaa.Plain
open Go.RowKit Go.Proofs.YtbghkoalmjfpiaaW.PrintWords Go.Proofs.YtbghkoalmjfpiaaW.PrintLast Go.Proofs.YtbghkoalmjfpiaaW.PrintMore Go.Proofs.Ytbghkoalmjfpiaa.PBatchedValues
set_option linter.unusedVariables false
set_option linter.unusedSimpArgs false

/-! ### calls with the lengths named -/
theorem plainAll_is (k wd : Int) (s : Bool) (fits : V → Bool) (A : Option Addr) (c n : Nat) (l : List V) (b : Bool) (w : World) (hf : Fits k wd s fits l) (hl : Kd.C kV w A n l) (hn : l.length = n) (hs : n ≤ 2147483647) (hb : (l.all (good fits) && decide (l.length ≤ 500)) = b) :
    Calls Try.prog 14 #[tv k wd s, .slice A n c] w fun e w' => e = .returned (.bool b) ∧ Below w.heap.size w w' := by
  subst hn
  subst hb
  exact plainAll_any k wd s fits A c l w hf hl hs
theorem plainly_at (k wd : Int) (s : Bool) (enc : V → List Int) (A : Option Addr) (c n m : Nat) (l : List V) (w : World) (hf : Wrote k wd s enc l) (hl : Kd.C kV w A n l) (hn : l.length = n) (hs : n ≤ 500) (hm : (l.flatMap enc).length = m) :
    Calls Try.prog 11 #[tv k wd s, .slice A n c] w fun e w' => ∃ A' c', e = .returned (.slice A' m c') ∧ m ≤ c' ∧ Kd.C (Kd.int .u8) w' A' m (l.flatMap enc) ∧ Below w.heap.size w w' := by
  subst hn
  subst hm
  refine (plainly_any k wd s enc A c l w hf hl (by omega)).mono ?_
  rintro e w' ⟨A', n', c', rfl, rfl, hc, hC, hb⟩
  exact ⟨A', c', rfl, hc, hC, hb⟩
theorem readI96_at (dd : Nat) (c d nb n m : Nat) (A B : Option Addr) (l r : List V) (b : List Int) (w : World) (ho : OkI96 0 l) (hm : (l.flatMap encI96).length = m) (hn : l.length = n) (hfl : m ≤ 1000000) (ha : Kd.C (Kd.int .u8) w A m (l.flatMap encI96)) (hb : Kd.C (Kd.int .i64) w B nb b)
    (hnb : b.length = nb) (hw : ∀ x ∈ b, -9223372036854775808 ≤ x ∧ x ≤ 9223372036854775807) (hbat : bat l b = some r) :
    Calls Try.prog 20 #[ .slice A m c, .int .i64 n, .slice B nb d] w fun e w' => ∃ A9 c9, e = .returned (.tuple #[.slice A9 r.length c9, .bool true]) ∧ Kd.C kV w' A9 r.length (r.map outI96) ∧ Below w.heap.size w w' := by
  subst hm
  subst hn
  refine (readI96 dd c d nb A B l r b w ho hfl ha hb hnb hw hbat).mono ?_
  rintro e w' ⟨v, rfl, hr, hb⟩
  obtain ⟨A9, c9, rfl, _, hC⟩ := Kd.R_reads hr
  simp only [List.length_map] at hC ⊢
  exact ⟨A9, c9, rfl, hC, hb⟩
theorem batched_at (A B : Option Addr) (c d n nb : Nat) (l r : List V) (b : List Int) (w : World) (hl : Kd.C kV w A n l) (hb : Kd.C (Kd.int .i64) w B nb b) (hc : n ≤ c) (hd : nb ≤ d) (hln : l.length = n) (hbn : b.length = nb) (hn : n ≤ 500)
    (hw : ∀ x ∈ b, -9223372036854775808 ≤ x ∧ x ≤ 9223372036854775807) (h : bat l b = some r) :
    Calls Try.prog 15 #[.slice A n c, .slice B nb d] w fun e w' => ∃ A8 c8, e = .returned (.tuple #[.slice A8 r.length c8, .bool true]) ∧ Kd.C kV w' A8 r.length r ∧ Below w.heap.size w w' := by
  subst hln
  subst hbn
  refine (batched_some A B c d l r b w hl hb hc hd (by omega) hw h).mono ?_
  rintro e w' ⟨v, rfl, hr, hb⟩
  obtain ⟨A9, c9, rfl, _, hC⟩ := Kd.R_reads hr
  exact ⟨A9, c9, rfl, hC, hb⟩
theorem batched_no (A B : Option Addr) (c d n nb : Nat) (l : List V) (b : List Int) (w : World) (hl : Kd.C kV w A n l) (hb : Kd.C (Kd.int .i64) w B nb b) (hc : n ≤ c) (hd : nb ≤ d) (hln : l.length = n) (hbn : b.length = nb) (hn : n ≤ 500)
    (hw : ∀ x ∈ b, -9223372036854775808 ≤ x ∧ x ≤ 9223372036854775807) (h : bat l b = none) :
    Calls Try.prog 15 #[.slice A n c, .slice B nb d] w fun e w' => e = .returned (.tuple #[.slice none 0 0, .bool false]) ∧ Below w.heap.size w w' := by
  subst hln
  subst hbn
  exact batched_none A B c d l b w hl hb hc hd (by omega) hw h
theorem cutI96_at (dd : Nat) (c m n p : Nat) (A : Option Addr) (bs : List Int) (w : World) (hs : CutI96 0 n (bs.take p)) (hn : n ≤ 500) (hbl : bs.length = m) (hp : p ≤ m) (hfl : m ≤ 1000000) (ha : Kd.C (Kd.int .u8) w A m bs) :
    Calls Try.prog 20 #[ .slice A p c, .int .i64 n, .slice (some ⟨w.heap.size, 0, none⟩) 1 1] (w.alloc (.cells #[.int .i64 n] 3)) fun e w' => ∃ v, e = .returned (.tuple #[v, .bool false]) ∧ Below w.heap.size w w' := by
  have hl : (bs.take p).length = p := by rw [List.length_take]; omega
  have hA : Kd.C (Kd.int .u8) (w.alloc (.cells #[.int .i64 n] 3)) A (bs.take p).length (bs.take p) := by
    have h1 := Kd.C_below ha ((Below.refl _ _).alloc (Nat.le_refl _) (.cells #[.int .i64 n] 3))
    have h2 := (Kd.reads_of_C (enc := Value.int .u8) (d := (0 : Int)) (h1 := fun _ => rfl) h1).take_ p hp
    rw [hl]
    exact Kd.C_of_reads h2
  have h3 := readI96_cut dd c 1 n A ⟨w.heap.size, 0, none⟩ (bs.take p) (w.alloc (.cells #[.int .i64 n] 3)) hs hn (by omega) hA (blk_cell (heap_alloc_new w _) 0) (by simp)
  rw [hl] at h3
  refine h3.mono ?_
  rintro e w' ⟨v, rfl, hb⟩
  exact ⟨v, rfl, ((Below.refl _ _).alloc (Nat.le_refl _) _).trans (hb.mono (by simp))⟩
/-! ### the law, where the values are asked -/
set_option maxRecDepth 100000 in
set_option maxHeartbeats 4000000 in
theorem lawI96_not ( cut : Int) (A B : Option Addr) (n nb c d : Nat) (l : List V) (w : World) (hn : n ≤ 2147483647) (hnb : nb ≤ 2147483647) (hln : l.length = n) (hl : Kd.C kV w A n l)  (hft : Fits 15 12 false (fitsF 12) l) (hall : (l.all (good (fitsF 12)) && decide (l.length ≤ 500)) = false) :
    Calls Try.prog 7 #[ .slice A n c, .int .i64 cut, .slice B nb d] w (Fine w) := by
  have HT2 := Aside0.mk True.intro
  have HL := Aside0.mk hl
  have HN := Aside0.mk hln
  have HFT := Aside0.mk hft
  have HALL := Aside0.mk hall
  clear hl hln hft hall
  go_enter Try.func7, Try.ntmps7
  go_wp2_with (first | (have hg := HT2.out; clear hg; go_at_call 11; refine (plainlyI96_first _).mono ?_; rintro e w2 ⟨A2, c2, rfl, hC2, hb⟩; have HC2 := Aside0.mk hC2; have HBW := Aside0.mk (show Below w.heap.size w w2 from hb); have HT3 := Aside0.mk True.intro; clear HT2 hb hC2) | (have hg := HT3.out; clear hg; go_at_call 20; refine (readI96_first A2 c2 _ HC2.out).mono ?_; rintro e w3 ⟨g3, c3, rfl, f0, f1, f2, f3, hb⟩; replace HBW := Aside0.mk (HBW.out.trans (hb.mono HBW.out.size)); have HT4 := Aside0.mk True.intro; clear HT3 HC2 hb) | (have hg := HT4.out; clear hg; go_at_call 13; refine (same_one 0 ⟨#[97, 98, 99, 100, 101, 102, 103, 104, 105, 106, 107, 108]⟩ none none 0 0 _).mono ?_; rintro e w4 ⟨rfl, hb⟩; replace HBW := Aside0.mk (HBW.out.trans (hb.mono HBW.out.size)); clear HT4 f0 f1 f2 f3 hb) | (go_at_call 14; refine (plainAll_is 15 12 false (fitsF 12) A c _ l false _ HFT.out (Kd.C_below HL.out HBW.out) HN.out hn HALL.out).mono ?_; rintro e w6 ⟨rfl, hb⟩; replace HBW := Aside0.mk (HBW.out.trans (hb.mono HBW.out.size)); clear hb))
  all_goals first | (exfalso; omega) | (go_ret; exact ⟨rfl, HBW.out⟩)
set_option maxRecDepth 100000 in
set_option maxHeartbeats 4000000 in
theorem lawI96_nil ( cut : Int) (A B : Option Addr) (n nb c d : Nat) (l : List V) (w : World) (hn : n ≤ 2147483647) (hnb : nb ≤ 2147483647) (hln : l.length = n) (hl : Kd.C kV w A n l)  (hft : Fits 15 12 false (fitsF 12) l) (hall : (l.all (good (fitsF 12)) && decide (l.length ≤ 500)) = true) (h0 : n = 0) :
    Calls Try.prog 7 #[ .slice A n c, .int .i64 cut, .slice B nb d] w (Fine w) := by
  have HT2 := Aside0.mk True.intro
  have HL := Aside0.mk hl
  have HN := Aside0.mk hln
  have HFT := Aside0.mk hft
  have HALL := Aside0.mk hall
  clear hl hln hft hall
  subst h0
  go_enter Try.func7, Try.ntmps7
  go_wp2_with (first | (have hg := HT2.out; clear hg; go_at_call 11; refine (plainlyI96_first _).mono ?_; rintro e w2 ⟨A2, c2, rfl, hC2, hb⟩; have HC2 := Aside0.mk hC2; have HBW := Aside0.mk (show Below w.heap.size w w2 from hb); have HT3 := Aside0.mk True.intro; clear HT2 hb hC2) | (have hg := HT3.out; clear hg; go_at_call 20; refine (readI96_first A2 c2 _ HC2.out).mono ?_; rintro e w3 ⟨g3, c3, rfl, f0, f1, f2, f3, hb⟩; replace HBW := Aside0.mk (HBW.out.trans (hb.mono HBW.out.size)); have HT4 := Aside0.mk True.intro; clear HT3 HC2 hb) | (have hg := HT4.out; clear hg; go_at_call 13; refine (same_one 0 ⟨#[97, 98, 99, 100, 101, 102, 103, 104, 105, 106, 107, 108]⟩ none none 0 0 _).mono ?_; rintro e w4 ⟨rfl, hb⟩; replace HBW := Aside0.mk (HBW.out.trans (hb.mono HBW.out.size)); clear HT4 f0 f1 f2 f3 hb) | (go_at_call 14; refine (plainAll_is 15 12 false (fitsF 12) A c _ l true _ HFT.out (Kd.C_below HL.out HBW.out) HN.out hn HALL.out).mono ?_; rintro e w6 ⟨rfl, hb⟩; replace HBW := Aside0.mk (HBW.out.trans (hb.mono HBW.out.size)); clear hb))
  all_goals first | (exfalso; omega) | (go_ret; exact ⟨rfl, HBW.out⟩)
set_option maxRecDepth 100000 in
set_option maxHeartbeats 4000000 in
theorem lawI96_lo ( cut : Int) (A B : Option Addr) (n nb c d : Nat) (l : List V) (w : World) (hn : n ≤ 2147483647) (hnb : nb ≤ 2147483647) (hln : l.length = n) (hl : Kd.C kV w A n l)  (hft : Fits 15 12 false (fitsF 12) l) (hall : (l.all (good (fitsF 12)) && decide (l.length ≤ 500)) = true) (h0 : 0 < n) (h1 : cut < 0) :
    Calls Try.prog 7 #[ .slice A n c, .int .i64 cut, .slice B nb d] w (Fine w) := by
  have HT2 := Aside0.mk True.intro
  have HL := Aside0.mk hl
  have HN := Aside0.mk hln
  have HFT := Aside0.mk hft
  have HALL := Aside0.mk hall
  clear hl hln hft hall
  go_enter Try.func7, Try.ntmps7
  go_wp2_with (first | (have hg := HT2.out; clear hg; go_at_call 11; refine (plainlyI96_first _).mono ?_; rintro e w2 ⟨A2, c2, rfl, hC2, hb⟩; have HC2 := Aside0.mk hC2; have HBW := Aside0.mk (show Below w.heap.size w w2 from hb); have HT3 := Aside0.mk True.intro; clear HT2 hb hC2) | (have hg := HT3.out; clear hg; go_at_call 20; refine (readI96_first A2 c2 _ HC2.out).mono ?_; rintro e w3 ⟨g3, c3, rfl, f0, f1, f2, f3, hb⟩; replace HBW := Aside0.mk (HBW.out.trans (hb.mono HBW.out.size)); have HT4 := Aside0.mk True.intro; clear HT3 HC2 hb) | (have hg := HT4.out; clear hg; go_at_call 13; refine (same_one 0 ⟨#[97, 98, 99, 100, 101, 102, 103, 104, 105, 106, 107, 108]⟩ none none 0 0 _).mono ?_; rintro e w4 ⟨rfl, hb⟩; replace HBW := Aside0.mk (HBW.out.trans (hb.mono HBW.out.size)); clear HT4 f0 f1 f2 f3 hb) | (go_at_call 14; refine (plainAll_is 15 12 false (fitsF 12) A c _ l true _ HFT.out (Kd.C_below HL.out HBW.out) HN.out hn HALL.out).mono ?_; rintro e w6 ⟨rfl, hb⟩; replace HBW := Aside0.mk (HBW.out.trans (hb.mono HBW.out.size)); clear hb))
  all_goals first | (exfalso; omega) | (go_ret; exact ⟨rfl, HBW.out⟩)
set_option maxRecDepth 100000 in
set_option maxHeartbeats 4000000 in
theorem lawI96_hi ( cut : Int) (A B : Option Addr) (n nb c d : Nat) (l : List V) (w : World) (hn : n ≤ 2147483647) (hnb : nb ≤ 2147483647) (hln : l.length = n) (hl : Kd.C kV w A n l)  (hft : Fits 15 12 false (fitsF 12) l) (hall : (l.all (good (fitsF 12)) && decide (l.length ≤ 500)) = true) (h0 : 0 < n) (h1 : 1 < cut) :
    Calls Try.prog 7 #[ .slice A n c, .int .i64 cut, .slice B nb d] w (Fine w) := by
  have HT2 := Aside0.mk True.intro
  have HL := Aside0.mk hl
  have HN := Aside0.mk hln
  have HFT := Aside0.mk hft
  have HALL := Aside0.mk hall
  clear hl hln hft hall
  go_enter Try.func7, Try.ntmps7
  go_wp2_with (first | (have hg := HT2.out; clear hg; go_at_call 11; refine (plainlyI96_first _).mono ?_; rintro e w2 ⟨A2, c2, rfl, hC2, hb⟩; have HC2 := Aside0.mk hC2; have HBW := Aside0.mk (show Below w.heap.size w w2 from hb); have HT3 := Aside0.mk True.intro; clear HT2 hb hC2) | (have hg := HT3.out; clear hg; go_at_call 20; refine (readI96_first A2 c2 _ HC2.out).mono ?_; rintro e w3 ⟨g3, c3, rfl, f0, f1, f2, f3, hb⟩; replace HBW := Aside0.mk (HBW.out.trans (hb.mono HBW.out.size)); have HT4 := Aside0.mk True.intro; clear HT3 HC2 hb) | (have hg := HT4.out; clear hg; go_at_call 13; refine (same_one 0 ⟨#[97, 98, 99, 100, 101, 102, 103, 104, 105, 106, 107, 108]⟩ none none 0 0 _).mono ?_; rintro e w4 ⟨rfl, hb⟩; replace HBW := Aside0.mk (HBW.out.trans (hb.mono HBW.out.size)); clear HT4 f0 f1 f2 f3 hb) | (go_at_call 14; refine (plainAll_is 15 12 false (fitsF 12) A c _ l true _ HFT.out (Kd.C_below HL.out HBW.out) HN.out hn HALL.out).mono ?_; rintro e w6 ⟨rfl, hb⟩; replace HBW := Aside0.mk (HBW.out.trans (hb.mono HBW.out.size)); clear hb))
  all_goals first | (exfalso; omega) | (go_ret; exact ⟨rfl, HBW.out⟩)
set_option maxRecDepth 100000 in
set_option maxHeartbeats 4000000 in
theorem lawI96_cut ( cut : Int) (A B : Option Addr) (n nb c d : Nat) (l : List V) (w : World) (hn : n ≤ 2147483647) (hnb : nb ≤ 2147483647) (hln : l.length = n) (hl : Kd.C kV w A n l)  (hft : Fits 15 12 false (fitsF 12) l) (hall : (l.all (good (fitsF 12)) && decide (l.length ≤ 500)) = true) (h0 : 0 < n) (hn5 : n ≤ 500) (hwr : Wrote 15 12 false encI96 l) (m : Nat) (hm : (l.flatMap encI96).length = m) (hm0 : 0 < m) (hms : m ≤ 1000000) (h1 : cut = 1) (hct : CutI96 0 n ((l.flatMap encI96).take (m - 1))) :
    Calls Try.prog 7 #[ .slice A n c, .int .i64 cut, .slice B nb d] w (Fine w) := by
  have HT2 := Aside0.mk True.intro
  have HL := Aside0.mk hl
  have HN := Aside0.mk hln
  have HFT := Aside0.mk hft
  have HALL := Aside0.mk hall
  clear hl hln hft hall
  have HWR := Aside0.mk hwr
  have HM := Aside0.mk hm
  clear hwr hm
  have HCT := Aside0.mk hct
  clear hct
  subst h1
  go_enter Try.func7, Try.ntmps7
  go_wp2_with (first | (have hg := HT2.out; clear hg; go_at_call 11; refine (plainlyI96_first _).mono ?_; rintro e w2 ⟨A2, c2, rfl, hC2, hb⟩; have HC2 := Aside0.mk hC2; have HBW := Aside0.mk (show Below w.heap.size w w2 from hb); have HT3 := Aside0.mk True.intro; clear HT2 hb hC2) | (have hg := HT3.out; clear hg; go_at_call 20; refine (readI96_first A2 c2 _ HC2.out).mono ?_; rintro e w3 ⟨g3, c3, rfl, f0, f1, f2, f3, hb⟩; replace HBW := Aside0.mk (HBW.out.trans (hb.mono HBW.out.size)); have HT4 := Aside0.mk True.intro; clear HT3 HC2 hb) | (have hg := HT4.out; clear hg; go_at_call 13; refine (same_one 0 ⟨#[97, 98, 99, 100, 101, 102, 103, 104, 105, 106, 107, 108]⟩ none none 0 0 _).mono ?_; rintro e w4 ⟨rfl, hb⟩; replace HBW := Aside0.mk (HBW.out.trans (hb.mono HBW.out.size)); clear HT4 f0 f1 f2 f3 hb) | (go_at_call 14; refine (plainAll_is 15 12 false (fitsF 12) A c _ l true _ HFT.out (Kd.C_below HL.out HBW.out) HN.out hn HALL.out).mono ?_; rintro e w6 ⟨rfl, hb⟩; replace HBW := Aside0.mk (HBW.out.trans (hb.mono HBW.out.size)); clear hb) | (go_at_call 11; (with_reducible refine (plainly_at 15 12 false encI96 A c n m l _ HWR.out (Kd.C_below HL.out HBW.out) HN.out hn5 HM.out).mono ?_); rintro e w7 ⟨A7, c7, rfl, hc7, hC7, hb⟩; have HC7 := Aside0.mk hC7; replace HBW := Aside0.mk (HBW.out.trans (hb.mono HBW.out.size)); clear hb hC7) | (have hg := HCT.out; clear hg; go_at_call 20; refine (cutI96_at 0 c7 m n (m - 1) A7 (l.flatMap encI96) _ HCT.out hn5 HM.out (by omega) hms HC7.out).mono ?_; rintro e w8 ⟨v8, rfl, hb⟩; replace HBW := Aside0.mk (HBW.out.trans (hb.mono HBW.out.size)); clear hb HC7))
  all_goals first | (exfalso; omega) | (go_ret; exact ⟨rfl, HBW.out⟩)
set_option maxRecDepth 100000 in
set_option maxHeartbeats 4000000 in
theorem lawI96_none ( cut : Int) (A B : Option Addr) (n nb c d : Nat) (l : List V) (w : World) (hn : n ≤ 2147483647) (hnb : nb ≤ 2147483647) (hln : l.length = n) (hl : Kd.C kV w A n l)  (hft : Fits 15 12 false (fitsF 12) l) (hall : (l.all (good (fitsF 12)) && decide (l.length ≤ 500)) = true) (h0 : 0 < n) (hn5 : n ≤ 500) (hwr : Wrote 15 12 false encI96 l) (m : Nat) (hm : (l.flatMap encI96).length = m) (hm0 : 0 < m) (hms : m ≤ 1000000) (b : List Int) (hbn : b.length = nb) (hB : Kd.C (Kd.int .i64) w B nb b) (hc : n ≤ c) (hd : nb ≤ d) (hw : ∀ x ∈ b, -9223372036854775808 ≤ x ∧ x ≤ 9223372036854775807) (h1 : cut = 0) (hbat : bat l b = none) :
    Calls Try.prog 7 #[ .slice A n c, .int .i64 cut, .slice B nb d] w (Fine w) := by
  have HT2 := Aside0.mk True.intro
  have HL := Aside0.mk hl
  have HN := Aside0.mk hln
  have HFT := Aside0.mk hft
  have HALL := Aside0.mk hall
  clear hl hln hft hall
  have HWR := Aside0.mk hwr
  have HM := Aside0.mk hm
  clear hwr hm
  have HB := Aside0.mk hB
  have HBN := Aside0.mk hbn
  have HC := Aside0.mk hc
  have HD := Aside0.mk hd
  have HW := Aside0.mk hw
  have HBT := Aside0.mk hbat
  clear hB hbn hc hd hw hbat
  subst h1
  go_enter Try.func7, Try.ntmps7
  go_wp2_with (first | (have hg := HT2.out; clear hg; go_at_call 11; refine (plainlyI96_first _).mono ?_; rintro e w2 ⟨A2, c2, rfl, hC2, hb⟩; have HC2 := Aside0.mk hC2; have HBW := Aside0.mk (show Below w.heap.size w w2 from hb); have HT3 := Aside0.mk True.intro; clear HT2 hb hC2) | (have hg := HT3.out; clear hg; go_at_call 20; refine (readI96_first A2 c2 _ HC2.out).mono ?_; rintro e w3 ⟨g3, c3, rfl, f0, f1, f2, f3, hb⟩; replace HBW := Aside0.mk (HBW.out.trans (hb.mono HBW.out.size)); have HT4 := Aside0.mk True.intro; clear HT3 HC2 hb) | (have hg := HT4.out; clear hg; go_at_call 13; refine (same_one 0 ⟨#[97, 98, 99, 100, 101, 102, 103, 104, 105, 106, 107, 108]⟩ none none 0 0 _).mono ?_; rintro e w4 ⟨rfl, hb⟩; replace HBW := Aside0.mk (HBW.out.trans (hb.mono HBW.out.size)); clear HT4 f0 f1 f2 f3 hb) | (go_at_call 14; refine (plainAll_is 15 12 false (fitsF 12) A c _ l true _ HFT.out (Kd.C_below HL.out HBW.out) HN.out hn HALL.out).mono ?_; rintro e w6 ⟨rfl, hb⟩; replace HBW := Aside0.mk (HBW.out.trans (hb.mono HBW.out.size)); clear hb) | (go_at_call 11; (with_reducible refine (plainly_at 15 12 false encI96 A c n m l _ HWR.out (Kd.C_below HL.out HBW.out) HN.out hn5 HM.out).mono ?_); rintro e w7 ⟨A7, c7, rfl, hc7, hC7, hb⟩; have HC7 := Aside0.mk hC7; replace HBW := Aside0.mk (HBW.out.trans (hb.mono HBW.out.size)); clear hb hC7) | (go_at_call 15; (with_reducible refine (batched_no A B c d n nb l b _ (Kd.C_below HL.out HBW.out) (Kd.C_below HB.out HBW.out) HC.out HD.out HN.out HBN.out hn5 HW.out HBT.out).mono ?_); rintro e w8 ⟨rfl, hb⟩; replace HBW := Aside0.mk (HBW.out.trans (hb.mono HBW.out.size)); clear hb))
  all_goals first | (exfalso; omega) | (go_ret; exact ⟨rfl, HBW.out⟩)
set_option maxRecDepth 100000 in
set_option maxHeartbeats 4000000 in
theorem lawI96_some ( cut : Int) (A B : Option Addr) (n nb c d : Nat) (l : List V) (w : World) (hn : n ≤ 2147483647) (hnb : nb ≤ 2147483647) (hln : l.length = n) (hl : Kd.C kV w A n l)  (hft : Fits 15 12 false (fitsF 12) l) (hall : (l.all (good (fitsF 12)) && decide (l.length ≤ 500)) = true) (h0 : 0 < n) (hn5 : n ≤ 500) (hwr : Wrote 15 12 false encI96 l) (m : Nat) (hm : (l.flatMap encI96).length = m) (hm0 : 0 < m) (hms : m ≤ 1000000) (b : List Int) (hbn : b.length = nb) (hB : Kd.C (Kd.int .i64) w B nb b) (hc : n ≤ c) (hd : nb ≤ d) (hw : ∀ x ∈ b, -9223372036854775808 ≤ x ∧ x ≤ 9223372036854775807) (h1 : cut = 0) (r : List V) (hbat : bat l b = some r) (ho : OkI96 0 l) (hrl : r.length ≤ 1000) (hsm : ∀ j, j < r.length → same (gv (r.map outI96) j) (gv r j)) :
    Calls Try.prog 7 #[ .slice A n c, .int .i64 cut, .slice B nb d] w (Fine w) := by
  have HT2 := Aside0.mk True.intro
  have HL := Aside0.mk hl
  have HN := Aside0.mk hln
  have HFT := Aside0.mk hft
  have HALL := Aside0.mk hall
  clear hl hln hft hall
  have HWR := Aside0.mk hwr
  have HM := Aside0.mk hm
  clear hwr hm
  have HB := Aside0.mk hB
  have HBN := Aside0.mk hbn
  have HC := Aside0.mk hc
  have HD := Aside0.mk hd
  have HW := Aside0.mk hw
  have HBT := Aside0.mk hbat
  clear hB hbn hc hd hw hbat
  subst h1
  have HO := Aside0.mk ho
  have HRL := Aside0.mk hrl
  have HSM := Aside0.mk hsm
  clear ho hrl hsm
  go_enter Try.func7, Try.ntmps7
  go_wp2_with (first | (have hg := HT2.out; clear hg; go_at_call 11; refine (plainlyI96_first _).mono ?_; rintro e w2 ⟨A2, c2, rfl, hC2, hb⟩; have HC2 := Aside0.mk hC2; have HBW := Aside0.mk (show Below w.heap.size w w2 from hb); have HT3 := Aside0.mk True.intro; clear HT2 hb hC2) | (have hg := HT3.out; clear hg; go_at_call 20; refine (readI96_first A2 c2 _ HC2.out).mono ?_; rintro e w3 ⟨g3, c3, rfl, f0, f1, f2, f3, hb⟩; replace HBW := Aside0.mk (HBW.out.trans (hb.mono HBW.out.size)); have HT4 := Aside0.mk True.intro; clear HT3 HC2 hb) | (have hg := HT4.out; clear hg; go_at_call 13; refine (same_one 0 ⟨#[97, 98, 99, 100, 101, 102, 103, 104, 105, 106, 107, 108]⟩ none none 0 0 _).mono ?_; rintro e w4 ⟨rfl, hb⟩; replace HBW := Aside0.mk (HBW.out.trans (hb.mono HBW.out.size)); clear HT4 f0 f1 f2 f3 hb) | (go_at_call 14; refine (plainAll_is 15 12 false (fitsF 12) A c _ l true _ HFT.out (Kd.C_below HL.out HBW.out) HN.out hn HALL.out).mono ?_; rintro e w6 ⟨rfl, hb⟩; replace HBW := Aside0.mk (HBW.out.trans (hb.mono HBW.out.size)); clear hb) | (go_at_call 11; (with_reducible refine (plainly_at 15 12 false encI96 A c n m l _ HWR.out (Kd.C_below HL.out HBW.out) HN.out hn5 HM.out).mono ?_); rintro e w7 ⟨A7, c7, rfl, hc7, hC7, hb⟩; have HC7 := Aside0.mk hC7; replace HBW := Aside0.mk (HBW.out.trans (hb.mono HBW.out.size)); clear hb hC7) | (go_at_call 15; (with_reducible refine (batched_at A B c d n nb l r b _ (Kd.C_below HL.out HBW.out) (Kd.C_below HB.out HBW.out) HC.out HD.out HN.out HBN.out hn5 HW.out HBT.out).mono ?_); rintro e w8 ⟨A8, c8, rfl, hC8, hb⟩; have HC8 := Aside0.mk hC8; replace HC7 := Aside0.mk (Kd.C_below HC7.out hb); replace HBW := Aside0.mk (HBW.out.trans (hb.mono HBW.out.size)); clear hb hC8) | (have hg := HC8.out; clear hg; go_at_call 20; (with_reducible refine (readI96_at 0 c7 d nb n m A7 B l r b _ HO.out HM.out HN.out hms HC7.out (Kd.C_below HB.out HBW.out) HBN.out HW.out HBT.out).mono ?_); rintro e w9 ⟨A9, c9, rfl, hC9, hb⟩; have HC9 := Aside0.mk hC9; replace HC8 := Aside0.mk (Kd.C_below HC8.out hb); replace HBW := Aside0.mk (HBW.out.trans (hb.mono HBW.out.size)); clear hb hC9 HC7) | (go_at_call 16; (with_reducible refine (same_any A9 A8 c9 c8 r.length (r.map outI96) r _ HC9.out HC8.out HRL.out HSM.out).mono ?_); rintro e w10 ⟨rfl, hb⟩; replace HBW := Aside0.mk (HBW.out.trans (hb.mono HBW.out.size)); clear hb))
  all_goals first | (exfalso; omega) | (go_ret; exact ⟨rfl, HBW.out⟩)

end Go.Proofs.Ytbghkoalmjfpiaa.Plain
