/- FnUnpack26: the door, the thin package's function, the law: walks. -/
import Derived.Test.YtngihompgcjlmaaDoorUnpI
import Derived.Test.YtngihompgcjlmaaDoorUnpA26
namespace Go.Proofs.YtngihompgcjlmaaDoor.Unp
open Go.RowKit Go.Proofs.YtngihompgcjlmaaDoorW.PrintWords Go.Proofs.YtngihompgcjlmaaDoorW.PrintLast Go.Proofs.YtngihompgcjlmaaDoorW.PrintMore Go.Proofs.YtngihompgcjlmaaDoor.Punpacked Go.Proofs.YtngihompgcjlmaaDoor.Plowest
set_option linter.unusedVariables false
set_option linter.unusedSimpArgs false

theorem door26 (g o : Nat) (A : Addr) (n c : Nat) (q : Int) (l : List Int) (w0 w : World) (HC : (Kd.int .u8).C w0 (some A) n l) (HL : l.length = n) (HT : Byt l) (HB : Below w0.heap.size w0 w) (hR : RdAt w g (some A) n c 0 q) (hO : OutAt w o (num l) 26 0 0)
    (hn : 104 ≤ n) (hc : n ≤ c) (hcm : c ≤ 9223372036854775807) (hg : w0.heap.size ≤ g) (ho : w0.heap.size ≤ o) (hgo : g ≠ o) :
    Calls Tryd.prog 30 #[.iface 34 (.pointer (some ⟨g, 0, none⟩)), .slice (some ⟨o, 0, none⟩) 32 32] w (Told26 w0 o (num l)) := by
  have H := Aside0.mk (unpack26_any g o A n c q l w0 w HC HL HT HB hR hO hn hc hcm hg ho hgo)
  clear HC HL HT HB hR hO
  go_enter Tryd.func30, Tryd.ntmps30
  go_wp2_with (go_at_call 38; refine H.out.mono ?_; rintro e w1 ⟨rfl, h1, h2⟩; have H1 := Aside0.mk h1; have H2 := Aside0.mk h2; clear h1 h2)
  go_end0
  exact ⟨rfl, H1.out, H2.out⟩
set_option maxRecDepth 100000 in
set_option maxHeartbeats 4000000 in
theorem impl26 (A : Addr) (n c : Nat) (l : List Int) (w : World) (HC : (Kd.int .u8).C w (some A) n l) (HL : l.length = n) (HT : Byt l) (hn : 104 ≤ n) (hc : n ≤ c) (hcm : c ≤ 9223372036854775807) :
    Calls Tryd.prog 19 #[.slice (some A) n c] w (ImplPost w (num l) 26) := by
  have hmk := print_make (P := Tryd.prog) 23 30 .u32 4 Tryd.underlying23 (by kernel_rfl) (by omega) 32 (by omega)
  rw [show ((32 : Nat) : Int) = 32 from rfl] at hmk
  have HCH := Aside0.mk HC
  have HLH := Aside0.mk HL
  have HTH := Aside0.mk HT
  clear HC HL HT
  go_enter_defers Tryd.func19, Tryd.ntmps19
  go_wp2_with fail
  go_region_held3 (fun w' => w'.cell? ⟨w.heap.size, 0, none⟩ = some (.slice (some ⟨w.heap.size + 1 + 1, 0, none⟩) 32 32)) (with_reducible first | exact k0 | exact q0 | (go_keep; done)) (first
    | (go_at_call 23; refine (NewReader_at (some A) n c (w.heap.size + 1 + 1 + 1) _ (by simp)).mono ?_; rintro e w4 ⟨rfl, hw4⟩; have HA := Aside0.mk (atStart w A n c (num l) 26 w4 hw4); obtain ⟨k0, f0⟩ := one_at HA.out.var; clear hw4)
    | (go_at_call 30; refine (door26 (w.heap.size + 1 + 1 + 1) (w.heap.size + 1 + 1) A n c (-1) l _ _ (Kd.C_below HCH.out ((((Below.refl _ _).alloc (Nat.le_refl _) (O1 w.heap.size)).alloc (by simp) O2))) HLH.out HTH.out HA.out.bel HA.out.rdr HA.out.out hn hc hcm (by simp) (by simp) (by omega)).mono ?_; rintro e w5 ⟨rfl, h1, h2⟩; have HO5 := Aside0.mk h1; have HB5 := Aside0.mk (own_two h2); obtain ⟨q0, p0⟩ := one_at HB5.out.1; obtain ⟨q1, p1⟩ := one_at HB5.out.2.1; have hz := HB5.out.2.2.1; clear h1 h2))
  go_wp2_with fail
  refine leaves_cons (f := 21) (args := #[.pointer (some ⟨w.heap.size, 0, none⟩), .pointer (some ⟨w.heap.size + 1, 0, none⟩)]) (by simp) (by simp [go_sem]) ?_
  refine (idle _ _ _).mono ?_
  rintro e u' w'' ⟨rfl, rfl, rfl⟩
  simp [Leaves, settle, results, Tryd.results19, go_sem, q0, q1, hz]
  refine ⟨_, rfl, OutAt.list ?_, ?_⟩
  · exact (Below.heap_setCell _ _ _ _ (by simp)).trans ((Below.heap_setCell _ _ _ _ (by simp; omega)).trans HO5.out)
  · exact (HB5.out.2.2.2.setCell (Nat.le_refl _) _).setCell (Nat.le_succ _) _

def Fine26 (w : World) (e : Ending) (w' : World) : Prop := e = .returned (.bool true) ∧ Below w.heap.size w w'
theorem told26 (A : Option Addr) (n c o : Nat) (l : List Int) (w : World) (HC : (Kd.int .u8).C w A n l) (hl : l.length = n) (hT : Byt l) (hn : n = 104) (hc : n ≤ c) (HO : (Kd.int .u32).C w (some ⟨o, 0, none⟩) 32 (unpacks (num l) 26)) :
    Calls Tryd.prog 13 #[.slice A n c, .int .i64 26, .slice (some ⟨o, 0, none⟩) 32 32, .bool true] w (fun e w' => e = .returned (.bool true) ∧ Below w.heap.size w w') := by
  subst hl
  have h := laws_unpacked.calls _ A c l (26 : Nat) (some ⟨o, 0, none⟩) 32 (unpacks (num l) 26) true true w HC hc (by rw [show (unpacks (num l) 26).length = 32 by simp [unpacks]]; exact HO) (by simp [unpacks]) (unpacked_f 26 (by omega) (by omega) l hT hn)
  rw [show (unpacks (num l) 26).length = 32 by simp [unpacks]] at h
  exact h
set_option maxRecDepth 100000 in
set_option maxHeartbeats 4000000 in
theorem law26 (A : Option Addr) (n c : Nat) (l : List Int) (w : World) (HC : (Kd.int .u8).C w A n l) (HL : l.length = n) (HT : Byt l) (hc : n ≤ c) (hcm : c ≤ 9223372036854775807) :
    Calls Tryd.prog 9 #[.slice A n c] w (Fine26 w) := by
  by_cases hbig : n ≤ 2147483647
  · by_cases hn : n = 104
    · subst hn
      obtain ⟨a, ea, _⟩ := Kd.at_int HC 0 (by omega) (by omega)
      subst ea
      have HCH := Aside0.mk HC
      have HLH := Aside0.mk HL
      have HTH := Aside0.mk HT
      clear HC HL HT
      have TA : True := trivial
      go_enter Tryd.func9, Tryd.ntmps9
      go_wp2_with (first
        | (go_at_call 12; have tA := TA; refine (lowest_any 104 (by omega) (by omega) _ rfl _).mono ?_; rintro e w1 ⟨A1, c1, rfl, hC1, hc1, hm1, hb1⟩; have HC1 := Aside0.mk hC1; have HB1 := Aside0.mk hb1; clear tA TA hC1 hb1)
        | (go_at_call 19; refine (impl26 A1 104 c1 (low 104) _ HC1.out (low_len _) (low_byt _) (Nat.le_refl _) hc1 hm1).mono ?_; rintro e w2 ⟨o2, rfl, hO2, hb2⟩; have HO2 := Aside0.mk hO2; have HB2 := Aside0.mk (HB1.out.trans (hb2.mono HB1.out.size)); clear hO2 hb2 HC1)
        | (go_at_call 12; refine (lowest_any 104 (by omega) (by omega) _ rfl _).mono ?_; rintro e w3 ⟨A3, c3, rfl, hC3, hc3, hm3, hb3⟩; have HC3 := Aside0.mk hC3; have HO3 := Aside0.mk (Kd.C_below HO2.out hb3); have HB3 := Aside0.mk (HB2.out.trans (hb3.mono HB2.out.size)); clear hC3 hb3 HO2)
        | (go_at_call 13; refine (told26 (some A3) 104 c3 o2 (low 104) _ HC3.out (low_len _) (low_byt _) rfl hc3 HO3.out).mono ?_; rintro e w4 ⟨rfl, hb4⟩; have HB4 := Aside0.mk (HB3.out.trans (hb4.mono HB3.out.size)); clear hb4 HC3)
        | (go_at_call 19; refine (impl26 a 104 c l _ (Kd.C_below HCH.out HB4.out) HLH.out HTH.out (Nat.le_refl _) hc hcm).mono ?_; rintro e w5 ⟨o5, rfl, hO5, hb5⟩; have HO5 := Aside0.mk hO5; have HB5 := Aside0.mk (HB4.out.trans (hb5.mono HB4.out.size)); clear hO5 hb5)
        | (go_at_call 13; refine (told26 (some a) 104 c o5 l _ (Kd.C_below HCH.out HB5.out) HLH.out HTH.out rfl hc HO5.out).mono ?_; rintro e w6 ⟨rfl, hb6⟩; have HB6 := Aside0.mk (HB5.out.trans (hb6.mono HB5.out.size)); clear hb6))
      go_ret
      exact ⟨rfl, HB6.out⟩
    · clear HC HL HT
      have TA : True := trivial
      go_enter Tryd.func9, Tryd.ntmps9
      go_wp2_with (first
        | (go_at_call 12; have tA := TA; refine (lowest_any 104 (by omega) (by omega) _ rfl _).mono ?_; rintro e w1 ⟨A1, c1, rfl, hC1, hc1, hm1, hb1⟩; have HC1 := Aside0.mk hC1; have HB1 := Aside0.mk hb1; clear tA TA hC1 hb1)
        | (go_at_call 19; refine (impl26 A1 104 c1 (low 104) _ HC1.out (low_len _) (low_byt _) (Nat.le_refl _) hc1 hm1).mono ?_; rintro e w2 ⟨o2, rfl, hO2, hb2⟩; have HO2 := Aside0.mk hO2; have HB2 := Aside0.mk (HB1.out.trans (hb2.mono HB1.out.size)); clear hO2 hb2 HC1)
        | (go_at_call 12; refine (lowest_any 104 (by omega) (by omega) _ rfl _).mono ?_; rintro e w3 ⟨A3, c3, rfl, hC3, hc3, hm3, hb3⟩; have HC3 := Aside0.mk hC3; have HO3 := Aside0.mk (Kd.C_below HO2.out hb3); have HB3 := Aside0.mk (HB2.out.trans (hb3.mono HB2.out.size)); clear hC3 hb3 HO2)
        | (go_at_call 13; refine (told26 (some A3) 104 c3 o2 (low 104) _ HC3.out (low_len _) (low_byt _) rfl hc3 HO3.out).mono ?_; rintro e w4 ⟨rfl, hb4⟩; have HB4 := Aside0.mk (HB3.out.trans (hb4.mono HB3.out.size)); clear hb4 HC3))
      go_ret
      exact ⟨rfl, HB4.out⟩
  · clear HC HL HT
    have hbig' : 2147483647 < n := by omega
    clear hbig
    go_enter Tryd.func9, Tryd.ntmps9
    go_wp2_with fail
    go_ret
    exact ⟨rfl, Below.refl _ _⟩
theorem law_row26 (a0 : Option Addr) (len0 cap0 : Nat) (z0 : List Int) (w : World) (w0 : (a0 = none ∧ len0 = 0 ∧ cap0 = 0 ∧ z0 = []) ∨ ∃ x, a0 = some x ∧ len0 ≤ cap0 ∧ cap0 ≤ maxLen ∧ z0.length = cap0 ∧ (∀ i, i < z0.length → w.cell? (x.add i) = some (.int .u8 (z0.getD i 0))) ∧ ∀ n ∈ z0, (Lit.int .u8 n).wf = true) :
    Calls Tryd.prog 9 #[.slice a0 len0 cap0] w (fun e w' => e = .returned (.bool true) ∧ Below w.heap.size w w') := by
  have hcm : cap0 ≤ 9223372036854775807 := by
    rcases w0 with h | ⟨_, _, _, h, _⟩
    · omega
    · exact h
  obtain ⟨l0, rfl, hr0, hm0, hw0, hc0⟩ := ReadsInt.ofRowC w0
  have hT : Byt l0 := fun b hb => by
    have h := hw0 b hb
    simp only [Lit.wf, Bool.and_eq_true, decide_eq_true_eq, show IntKind.u8.min = 0 from rfl, show IntKind.u8.max = 255 from rfl] at h
    exact h
  exact law26 a0 l0.length cap0 l0 w (Kd.C_of_reads (d := (0 : Int)) (h1 := fun _ => rfl) hr0) rfl hT hc0 hcm

end Go.Proofs.YtngihompgcjlmaaDoor.Unp
