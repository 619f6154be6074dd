/- The comparisons, each a function literal: a row of words is told. -/
import Derived.Test.YtmdmpdbnnegpiaaGreatDoorCmC0
namespace Go.Proofs.YtmdmpdbnnegpiaaGreatDoor.Cmp
open Go.RowKit Go.Proofs.YtmdmpdbnnegpiaaGreatDoorW.PrintWords Go.Proofs.YtmdmpdbnnegpiaaGreatDoorW.PrintLast Go.Proofs.YtmdmpdbnnegpiaaGreatDoorW.PrintMore
set_option linter.unusedVariables false
set_option linter.unusedSimpArgs false

set_option maxRecDepth 100000 in
set_option maxHeartbeats 4000000 in
theorem aaF0 (A1 A2 : Option Addr) (n1 c1 n2 c2 q m c : Nat) (xs ys us : List Int) (w : World) (h1 : RdT encF w q A1 n1 xs) (h2 : RdT encF w q A2 n2 ys) (hq : W32 w q us) (hm1 : m ≤ n1) (hm2 : m ≤ n2) (hu : m ≤ us.length) (hs : m ≤ 1000) :
    Calls Tryz.prog 55 #[.slice A1 n1 c1, .slice A2 n2 c2, .slice (some ⟨q, 0, none⟩) m c] w (Wrote w q us m (fun i => cmpF 0 (xs.getD i 0) (ys.getD i 0))) := by
  have H1 := Aside0.mk h1
  have H2 := Aside0.mk h2
  have HQ := Aside0.mk hq
  have HO := Aside0.mk (outs_step (fun i => cmpF 0 (xs.getD i 0) (ys.getD i 0)))
  clear h1 h2 hq
  go_enter Tryz.func55, Tryz.ntmps55
  go_wp2
  go_loopw [9] (fun i wr => ∃ k : Nat, k ≤ m ∧ i = .int .i64 k ∧ Aside0 (w.grownBy wr (some q)) ∧ Aside0 (W32 wr q (outs (fun i => cmpF 0 (xs.getD i 0) (ys.getD i 0)) k us))) (fun i _ => m - (intOf i).toNat)
  case atStart => exact ⟨0, Nat.zero_le _, rfl, ⟨World.grownBy.refl _ _⟩, ⟨by rw [outs_none]; exact HQ.out⟩⟩
  case round =>
    clear HQ
    obtain ⟨k, hk, rfl, HG, HW⟩ := hrel
    by_cases hlt : k < m
    · obtain ⟨a1, e1, g1⟩ := H1.out.cell HG.out k (by omega)
      obtain ⟨a2, e2, g2⟩ := H2.out.cell HG.out k (by omega)
      subst e1
      subst e2
      have HS := Aside0.mk (HO.out k us (by omega))
      have hl := outs_len (fun i => cmpF 0 (xs.getD i 0) (ys.getD i 0)) k us (by omega)
      have z := HW.out.frozen k
      have g := HW.out.cell k (by omega)
      generalize outs (fun i => cmpF 0 (xs.getD i 0) (ys.getD i 0)) k us = vs at HS HW g
      generalize vs.getD k 0 = v at g
      have HS2 := Aside0.mk (show vs.set k (b2i (cmpF 0 (xs.getD k 0) (ys.getD k 0))) = outs (fun i => cmpF 0 (xs.getD i 0) (ys.getD i 0)) (k + 1) us from HS.out)
      clear HS HO hl
      obtain ⟨x, hx⟩ : ∃ x, xs.getD k 0 = x := ⟨_, rfl⟩
      obtain ⟨y, hy⟩ : ∃ y, ys.getD k 0 = y := ⟨_, rfl⟩
      rw [hx] at g1
      rw [hy] at g2
      rw [hx, hy] at HS2
      clear hx hy
      replace g1 : wr.cell? (a1.add k) = some (.float .f64 x.toNat) := g1
      replace g2 : wr.cell? (a2.add k) = some (.float .f64 y.toNat) := g2
      cases hb : cmpF 0 x y <;> rw [hb] at HS2 <;> replace hb : (FloatKind.f64.format.order x.toNat y.toNat == some .eq) = _ := hb
      all_goals
        go_wp2
        go_quiet (fail)
        go_wp2
        go_roundw
        case rel => exact ⟨k + 1, by omega, by go_num, ⟨gb_set (p := ⟨q, k, none⟩) (gb_drewN HG.out _) (.inl rfl) _⟩, ⟨by rw [← HS2.out]; exact W32.put (w := wr.drewN _) HW.out k _⟩⟩
        case measure => simp [intOf]; omega
    · obtain rfl : k = m := by omega
      go_wp2
      go_end0
      exact ⟨rfl, HG.out, HW.out⟩
set_option maxRecDepth 100000 in
set_option maxHeartbeats 4000000 in
theorem asF0 (A1 : Option Addr) (n1 c1 q m c : Nat) (xs : List Int) (y : Int) (us : List Int) (w : World) (h1 : RdT encF w q A1 n1 xs) (hq : W32 w q us) (hm1 : m ≤ n1) (hu : m ≤ us.length) (hs : m ≤ 1000) :
    Calls Tryz.prog 56 #[.slice A1 n1 c1, .float .f64 y.toNat, .slice (some ⟨q, 0, none⟩) m c] w (Wrote w q us m (fun i => cmpF 0 (xs.getD i 0) y)) := by
  have H1 := Aside0.mk h1
  have HQ := Aside0.mk hq
  have HO := Aside0.mk (outs_step (fun i => cmpF 0 (xs.getD i 0) y))
  clear h1 hq
  go_enter Tryz.func56, Tryz.ntmps56
  go_wp2
  go_loopw [9] (fun i wr => ∃ k : Nat, k ≤ m ∧ i = .int .i64 k ∧ Aside0 (w.grownBy wr (some q)) ∧ Aside0 (W32 wr q (outs (fun i => cmpF 0 (xs.getD i 0) y) k us))) (fun i _ => m - (intOf i).toNat)
  case atStart => exact ⟨0, Nat.zero_le _, rfl, ⟨World.grownBy.refl _ _⟩, ⟨by rw [outs_none]; exact HQ.out⟩⟩
  case round =>
    clear HQ
    obtain ⟨k, hk, rfl, HG, HW⟩ := hrel
    by_cases hlt : k < m
    · obtain ⟨a1, e1, g1⟩ := H1.out.cell HG.out k (by omega)
      subst e1
      have HS := Aside0.mk (HO.out k us (by omega))
      have hl := outs_len (fun i => cmpF 0 (xs.getD i 0) y) k us (by omega)
      have z := HW.out.frozen k
      have g := HW.out.cell k (by omega)
      generalize outs (fun i => cmpF 0 (xs.getD i 0) y) k us = vs at HS HW g
      generalize vs.getD k 0 = v at g
      have HS2 := Aside0.mk (show vs.set k (b2i (cmpF 0 (xs.getD k 0) y)) = outs (fun i => cmpF 0 (xs.getD i 0) y) (k + 1) us from HS.out)
      clear HS HO hl
      obtain ⟨x, hx⟩ : ∃ x, xs.getD k 0 = x := ⟨_, rfl⟩
      rw [hx] at g1
      rw [hx] at HS2
      clear hx
      replace g1 : wr.cell? (a1.add k) = some (.float .f64 x.toNat) := g1
      cases hb : cmpF 0 x y <;> rw [hb] at HS2 <;> replace hb : (FloatKind.f64.format.order x.toNat y.toNat == some .eq) = _ := hb
      all_goals
        go_wp2
        go_roundw
        case rel => exact ⟨k + 1, by omega, by go_num, ⟨gb_set (p := ⟨q, k, none⟩) HG.out (.inl rfl) _⟩, ⟨by rw [← HS2.out]; exact W32.put HW.out k _⟩⟩
        case measure => simp [intOf]; omega
    · obtain rfl : k = m := by omega
      go_wp2
      go_end0
      exact ⟨rfl, HG.out, HW.out⟩
set_option maxRecDepth 100000 in
set_option maxHeartbeats 4000000 in
theorem saF0 (A2 : Option Addr) (n2 c2 q m c : Nat) (x : Int) (ys us : List Int) (w : World) (h2 : RdT encF w q A2 n2 ys) (hq : W32 w q us) (hm2 : m ≤ n2) (hu : m ≤ us.length) (hs : m ≤ 1000) :
    Calls Tryz.prog 57 #[.float .f64 x.toNat, .slice A2 n2 c2, .slice (some ⟨q, 0, none⟩) m c] w (Wrote w q us m (fun i => cmpF 0 x (ys.getD i 0))) := by
  have H2 := Aside0.mk h2
  have HQ := Aside0.mk hq
  have HO := Aside0.mk (outs_step (fun i => cmpF 0 x (ys.getD i 0)))
  clear h2 hq
  go_enter Tryz.func57, Tryz.ntmps57
  go_wp2
  go_loopw [9] (fun i wr => ∃ k : Nat, k ≤ m ∧ i = .int .i64 k ∧ Aside0 (w.grownBy wr (some q)) ∧ Aside0 (W32 wr q (outs (fun i => cmpF 0 x (ys.getD i 0)) k us))) (fun i _ => m - (intOf i).toNat)
  case atStart => exact ⟨0, Nat.zero_le _, rfl, ⟨World.grownBy.refl _ _⟩, ⟨by rw [outs_none]; exact HQ.out⟩⟩
  case round =>
    clear HQ
    obtain ⟨k, hk, rfl, HG, HW⟩ := hrel
    by_cases hlt : k < m
    · obtain ⟨a2, e2, g2⟩ := H2.out.cell HG.out k (by omega)
      subst e2
      have HS := Aside0.mk (HO.out k us (by omega))
      have hl := outs_len (fun i => cmpF 0 x (ys.getD i 0)) k us (by omega)
      have z := HW.out.frozen k
      have g := HW.out.cell k (by omega)
      generalize outs (fun i => cmpF 0 x (ys.getD i 0)) k us = vs at HS HW g
      generalize vs.getD k 0 = v at g
      have HS2 := Aside0.mk (show vs.set k (b2i (cmpF 0 x (ys.getD k 0))) = outs (fun i => cmpF 0 x (ys.getD i 0)) (k + 1) us from HS.out)
      clear HS HO hl
      obtain ⟨y, hy⟩ : ∃ y, ys.getD k 0 = y := ⟨_, rfl⟩
      rw [hy] at g2
      rw [hy] at HS2
      clear hy
      replace g2 : wr.cell? (a2.add k) = some (.float .f64 y.toNat) := g2
      cases hb : cmpF 0 x y <;> rw [hb] at HS2 <;> replace hb : (FloatKind.f64.format.order x.toNat y.toNat == some .eq) = _ := hb
      all_goals
        go_wp2
        go_roundw
        case rel => exact ⟨k + 1, by omega, by go_num, ⟨gb_set (p := ⟨q, k, none⟩) HG.out (.inl rfl) _⟩, ⟨by rw [← HS2.out]; exact W32.put HW.out k _⟩⟩
        case measure => simp [intOf]; omega
    · obtain rfl : k = m := by omega
      go_wp2
      go_end0
      exact ⟨rfl, HG.out, HW.out⟩
set_option maxRecDepth 100000 in
set_option maxHeartbeats 4000000 in
theorem aaF1 (A1 A2 : Option Addr) (n1 c1 n2 c2 q m c : Nat) (xs ys us : List Int) (w : World) (h1 : RdT encF w q A1 n1 xs) (h2 : RdT encF w q A2 n2 ys) (hq : W32 w q us) (hm1 : m ≤ n1) (hm2 : m ≤ n2) (hu : m ≤ us.length) (hs : m ≤ 1000) :
    Calls Tryz.prog 58 #[.slice A1 n1 c1, .slice A2 n2 c2, .slice (some ⟨q, 0, none⟩) m c] w (Wrote w q us m (fun i => cmpF 1 (xs.getD i 0) (ys.getD i 0))) := by
  have H1 := Aside0.mk h1
  have H2 := Aside0.mk h2
  have HQ := Aside0.mk hq
  have HO := Aside0.mk (outs_step (fun i => cmpF 1 (xs.getD i 0) (ys.getD i 0)))
  clear h1 h2 hq
  go_enter Tryz.func58, Tryz.ntmps58
  go_wp2
  go_loopw [9] (fun i wr => ∃ k : Nat, k ≤ m ∧ i = .int .i64 k ∧ Aside0 (w.grownBy wr (some q)) ∧ Aside0 (W32 wr q (outs (fun i => cmpF 1 (xs.getD i 0) (ys.getD i 0)) k us))) (fun i _ => m - (intOf i).toNat)
  case atStart => exact ⟨0, Nat.zero_le _, rfl, ⟨World.grownBy.refl _ _⟩, ⟨by rw [outs_none]; exact HQ.out⟩⟩
  case round =>
    clear HQ
    obtain ⟨k, hk, rfl, HG, HW⟩ := hrel
    by_cases hlt : k < m
    · obtain ⟨a1, e1, g1⟩ := H1.out.cell HG.out k (by omega)
      obtain ⟨a2, e2, g2⟩ := H2.out.cell HG.out k (by omega)
      subst e1
      subst e2
      have HS := Aside0.mk (HO.out k us (by omega))
      have hl := outs_len (fun i => cmpF 1 (xs.getD i 0) (ys.getD i 0)) k us (by omega)
      have z := HW.out.frozen k
      have g := HW.out.cell k (by omega)
      generalize outs (fun i => cmpF 1 (xs.getD i 0) (ys.getD i 0)) k us = vs at HS HW g
      generalize vs.getD k 0 = v at g
      have HS2 := Aside0.mk (show vs.set k (b2i (cmpF 1 (xs.getD k 0) (ys.getD k 0))) = outs (fun i => cmpF 1 (xs.getD i 0) (ys.getD i 0)) (k + 1) us from HS.out)
      clear HS HO hl
      obtain ⟨x, hx⟩ : ∃ x, xs.getD k 0 = x := ⟨_, rfl⟩
      obtain ⟨y, hy⟩ : ∃ y, ys.getD k 0 = y := ⟨_, rfl⟩
      rw [hx] at g1
      rw [hy] at g2
      rw [hx, hy] at HS2
      clear hx hy
      replace g1 : wr.cell? (a1.add k) = some (.float .f64 x.toNat) := g1
      replace g2 : wr.cell? (a2.add k) = some (.float .f64 y.toNat) := g2
      cases hb : cmpF 1 x y <;> rw [hb] at HS2 <;> replace hb : (FloatKind.f64.format.order x.toNat y.toNat != some .eq) = _ := hb
      all_goals
        go_wp2
        go_quiet (fail)
        go_wp2
        go_roundw
        case rel => exact ⟨k + 1, by omega, by go_num, ⟨gb_set (p := ⟨q, k, none⟩) (gb_drewN HG.out _) (.inl rfl) _⟩, ⟨by rw [← HS2.out]; exact W32.put (w := wr.drewN _) HW.out k _⟩⟩
        case measure => simp [intOf]; omega
    · obtain rfl : k = m := by omega
      go_wp2
      go_end0
      exact ⟨rfl, HG.out, HW.out⟩
set_option maxRecDepth 100000 in
set_option maxHeartbeats 4000000 in
theorem asF1 (A1 : Option Addr) (n1 c1 q m c : Nat) (xs : List Int) (y : Int) (us : List Int) (w : World) (h1 : RdT encF w q A1 n1 xs) (hq : W32 w q us) (hm1 : m ≤ n1) (hu : m ≤ us.length) (hs : m ≤ 1000) :
    Calls Tryz.prog 59 #[.slice A1 n1 c1, .float .f64 y.toNat, .slice (some ⟨q, 0, none⟩) m c] w (Wrote w q us m (fun i => cmpF 1 (xs.getD i 0) y)) := by
  have H1 := Aside0.mk h1
  have HQ := Aside0.mk hq
  have HO := Aside0.mk (outs_step (fun i => cmpF 1 (xs.getD i 0) y))
  clear h1 hq
  go_enter Tryz.func59, Tryz.ntmps59
  go_wp2
  go_loopw [9] (fun i wr => ∃ k : Nat, k ≤ m ∧ i = .int .i64 k ∧ Aside0 (w.grownBy wr (some q)) ∧ Aside0 (W32 wr q (outs (fun i => cmpF 1 (xs.getD i 0) y) k us))) (fun i _ => m - (intOf i).toNat)
  case atStart => exact ⟨0, Nat.zero_le _, rfl, ⟨World.grownBy.refl _ _⟩, ⟨by rw [outs_none]; exact HQ.out⟩⟩
  case round =>
    clear HQ
    obtain ⟨k, hk, rfl, HG, HW⟩ := hrel
    by_cases hlt : k < m
    · obtain ⟨a1, e1, g1⟩ := H1.out.cell HG.out k (by omega)
      subst e1
      have HS := Aside0.mk (HO.out k us (by omega))
      have hl := outs_len (fun i => cmpF 1 (xs.getD i 0) y) k us (by omega)
      have z := HW.out.frozen k
      have g := HW.out.cell k (by omega)
      generalize outs (fun i => cmpF 1 (xs.getD i 0) y) k us = vs at HS HW g
      generalize vs.getD k 0 = v at g
      have HS2 := Aside0.mk (show vs.set k (b2i (cmpF 1 (xs.getD k 0) y)) = outs (fun i => cmpF 1 (xs.getD i 0) y) (k + 1) us from HS.out)
      clear HS HO hl
      obtain ⟨x, hx⟩ : ∃ x, xs.getD k 0 = x := ⟨_, rfl⟩
      rw [hx] at g1
      rw [hx] at HS2
      clear hx
      replace g1 : wr.cell? (a1.add k) = some (.float .f64 x.toNat) := g1
      cases hb : cmpF 1 x y <;> rw [hb] at HS2 <;> replace hb : (FloatKind.f64.format.order x.toNat y.toNat != some .eq) = _ := hb
      all_goals
        go_wp2
        go_roundw
        case rel => exact ⟨k + 1, by omega, by go_num, ⟨gb_set (p := ⟨q, k, none⟩) HG.out (.inl rfl) _⟩, ⟨by rw [← HS2.out]; exact W32.put HW.out k _⟩⟩
        case measure => simp [intOf]; omega
    · obtain rfl : k = m := by omega
      go_wp2
      go_end0
      exact ⟨rfl, HG.out, HW.out⟩
set_option maxRecDepth 100000 in
set_option maxHeartbeats 4000000 in
theorem saF1 (A2 : Option Addr) (n2 c2 q m c : Nat) (x : Int) (ys us : List Int) (w : World) (h2 : RdT encF w q A2 n2 ys) (hq : W32 w q us) (hm2 : m ≤ n2) (hu : m ≤ us.length) (hs : m ≤ 1000) :
    Calls Tryz.prog 60 #[.float .f64 x.toNat, .slice A2 n2 c2, .slice (some ⟨q, 0, none⟩) m c] w (Wrote w q us m (fun i => cmpF 1 x (ys.getD i 0))) := by
  have H2 := Aside0.mk h2
  have HQ := Aside0.mk hq
  have HO := Aside0.mk (outs_step (fun i => cmpF 1 x (ys.getD i 0)))
  clear h2 hq
  go_enter Tryz.func60, Tryz.ntmps60
  go_wp2
  go_loopw [9] (fun i wr => ∃ k : Nat, k ≤ m ∧ i = .int .i64 k ∧ Aside0 (w.grownBy wr (some q)) ∧ Aside0 (W32 wr q (outs (fun i => cmpF 1 x (ys.getD i 0)) k us))) (fun i _ => m - (intOf i).toNat)
  case atStart => exact ⟨0, Nat.zero_le _, rfl, ⟨World.grownBy.refl _ _⟩, ⟨by rw [outs_none]; exact HQ.out⟩⟩
  case round =>
    clear HQ
    obtain ⟨k, hk, rfl, HG, HW⟩ := hrel
    by_cases hlt : k < m
    · obtain ⟨a2, e2, g2⟩ := H2.out.cell HG.out k (by omega)
      subst e2
      have HS := Aside0.mk (HO.out k us (by omega))
      have hl := outs_len (fun i => cmpF 1 x (ys.getD i 0)) k us (by omega)
      have z := HW.out.frozen k
      have g := HW.out.cell k (by omega)
      generalize outs (fun i => cmpF 1 x (ys.getD i 0)) k us = vs at HS HW g
      generalize vs.getD k 0 = v at g
      have HS2 := Aside0.mk (show vs.set k (b2i (cmpF 1 x (ys.getD k 0))) = outs (fun i => cmpF 1 x (ys.getD i 0)) (k + 1) us from HS.out)
      clear HS HO hl
      obtain ⟨y, hy⟩ : ∃ y, ys.getD k 0 = y := ⟨_, rfl⟩
      rw [hy] at g2
      rw [hy] at HS2
      clear hy
      replace g2 : wr.cell? (a2.add k) = some (.float .f64 y.toNat) := g2
      cases hb : cmpF 1 x y <;> rw [hb] at HS2 <;> replace hb : (FloatKind.f64.format.order x.toNat y.toNat != some .eq) = _ := hb
      all_goals
        go_wp2
        go_roundw
        case rel => exact ⟨k + 1, by omega, by go_num, ⟨gb_set (p := ⟨q, k, none⟩) HG.out (.inl rfl) _⟩, ⟨by rw [← HS2.out]; exact W32.put HW.out k _⟩⟩
        case measure => simp [intOf]; omega
    · obtain rfl : k = m := by omega
      go_wp2
      go_end0
      exact ⟨rfl, HG.out, HW.out⟩
set_option maxRecDepth 100000 in
set_option maxHeartbeats 4000000 in
theorem aaF2 (A1 A2 : Option Addr) (n1 c1 n2 c2 q m c : Nat) (xs ys us : List Int) (w : World) (h1 : RdT encF w q A1 n1 xs) (h2 : RdT encF w q A2 n2 ys) (hq : W32 w q us) (hm1 : m ≤ n1) (hm2 : m ≤ n2) (hu : m ≤ us.length) (hs : m ≤ 1000) :
    Calls Tryz.prog 61 #[.slice A1 n1 c1, .slice A2 n2 c2, .slice (some ⟨q, 0, none⟩) m c] w (Wrote w q us m (fun i => cmpF 2 (xs.getD i 0) (ys.getD i 0))) := by
  have H1 := Aside0.mk h1
  have H2 := Aside0.mk h2
  have HQ := Aside0.mk hq
  have HO := Aside0.mk (outs_step (fun i => cmpF 2 (xs.getD i 0) (ys.getD i 0)))
  clear h1 h2 hq
  go_enter Tryz.func61, Tryz.ntmps61
  go_wp2
  go_loopw [9] (fun i wr => ∃ k : Nat, k ≤ m ∧ i = .int .i64 k ∧ Aside0 (w.grownBy wr (some q)) ∧ Aside0 (W32 wr q (outs (fun i => cmpF 2 (xs.getD i 0) (ys.getD i 0)) k us))) (fun i _ => m - (intOf i).toNat)
  case atStart => exact ⟨0, Nat.zero_le _, rfl, ⟨World.grownBy.refl _ _⟩, ⟨by rw [outs_none]; exact HQ.out⟩⟩
  case round =>
    clear HQ
    obtain ⟨k, hk, rfl, HG, HW⟩ := hrel
    by_cases hlt : k < m
    · obtain ⟨a1, e1, g1⟩ := H1.out.cell HG.out k (by omega)
      obtain ⟨a2, e2, g2⟩ := H2.out.cell HG.out k (by omega)
      subst e1
      subst e2
      have HS := Aside0.mk (HO.out k us (by omega))
      have hl := outs_len (fun i => cmpF 2 (xs.getD i 0) (ys.getD i 0)) k us (by omega)
      have z := HW.out.frozen k
      have g := HW.out.cell k (by omega)
      generalize outs (fun i => cmpF 2 (xs.getD i 0) (ys.getD i 0)) k us = vs at HS HW g
      generalize vs.getD k 0 = v at g
      have HS2 := Aside0.mk (show vs.set k (b2i (cmpF 2 (xs.getD k 0) (ys.getD k 0))) = outs (fun i => cmpF 2 (xs.getD i 0) (ys.getD i 0)) (k + 1) us from HS.out)
      clear HS HO hl
      obtain ⟨x, hx⟩ : ∃ x, xs.getD k 0 = x := ⟨_, rfl⟩
      obtain ⟨y, hy⟩ : ∃ y, ys.getD k 0 = y := ⟨_, rfl⟩
      rw [hx] at g1
      rw [hy] at g2
      rw [hx, hy] at HS2
      clear hx hy
      replace g1 : wr.cell? (a1.add k) = some (.float .f64 x.toNat) := g1
      replace g2 : wr.cell? (a2.add k) = some (.float .f64 y.toNat) := g2
      cases hb : cmpF 2 x y <;> rw [hb] at HS2 <;> replace hb : (FloatKind.f64.format.order x.toNat y.toNat == some .gt) = _ := hb
      all_goals
        go_wp2
        go_quiet (fail)
        go_wp2
        go_roundw
        case rel => exact ⟨k + 1, by omega, by go_num, ⟨gb_set (p := ⟨q, k, none⟩) (gb_drewN HG.out _) (.inl rfl) _⟩, ⟨by rw [← HS2.out]; exact W32.put (w := wr.drewN _) HW.out k _⟩⟩
        case measure => simp [intOf]; omega
    · obtain rfl : k = m := by omega
      go_wp2
      go_end0
      exact ⟨rfl, HG.out, HW.out⟩
set_option maxRecDepth 100000 in
set_option maxHeartbeats 4000000 in
theorem asF2 (A1 : Option Addr) (n1 c1 q m c : Nat) (xs : List Int) (y : Int) (us : List Int) (w : World) (h1 : RdT encF w q A1 n1 xs) (hq : W32 w q us) (hm1 : m ≤ n1) (hu : m ≤ us.length) (hs : m ≤ 1000) :
    Calls Tryz.prog 62 #[.slice A1 n1 c1, .float .f64 y.toNat, .slice (some ⟨q, 0, none⟩) m c] w (Wrote w q us m (fun i => cmpF 2 (xs.getD i 0) y)) := by
  have H1 := Aside0.mk h1
  have HQ := Aside0.mk hq
  have HO := Aside0.mk (outs_step (fun i => cmpF 2 (xs.getD i 0) y))
  clear h1 hq
  go_enter Tryz.func62, Tryz.ntmps62
  go_wp2
  go_loopw [9] (fun i wr => ∃ k : Nat, k ≤ m ∧ i = .int .i64 k ∧ Aside0 (w.grownBy wr (some q)) ∧ Aside0 (W32 wr q (outs (fun i => cmpF 2 (xs.getD i 0) y) k us))) (fun i _ => m - (intOf i).toNat)
  case atStart => exact ⟨0, Nat.zero_le _, rfl, ⟨World.grownBy.refl _ _⟩, ⟨by rw [outs_none]; exact HQ.out⟩⟩
  case round =>
    clear HQ
    obtain ⟨k, hk, rfl, HG, HW⟩ := hrel
    by_cases hlt : k < m
    · obtain ⟨a1, e1, g1⟩ := H1.out.cell HG.out k (by omega)
      subst e1
      have HS := Aside0.mk (HO.out k us (by omega))
      have hl := outs_len (fun i => cmpF 2 (xs.getD i 0) y) k us (by omega)
      have z := HW.out.frozen k
      have g := HW.out.cell k (by omega)
      generalize outs (fun i => cmpF 2 (xs.getD i 0) y) k us = vs at HS HW g
      generalize vs.getD k 0 = v at g
      have HS2 := Aside0.mk (show vs.set k (b2i (cmpF 2 (xs.getD k 0) y)) = outs (fun i => cmpF 2 (xs.getD i 0) y) (k + 1) us from HS.out)
      clear HS HO hl
      obtain ⟨x, hx⟩ : ∃ x, xs.getD k 0 = x := ⟨_, rfl⟩
      rw [hx] at g1
      rw [hx] at HS2
      clear hx
      replace g1 : wr.cell? (a1.add k) = some (.float .f64 x.toNat) := g1
      cases hb : cmpF 2 x y <;> rw [hb] at HS2 <;> replace hb : (FloatKind.f64.format.order x.toNat y.toNat == some .gt) = _ := hb
      all_goals
        go_wp2
        go_roundw
        case rel => exact ⟨k + 1, by omega, by go_num, ⟨gb_set (p := ⟨q, k, none⟩) HG.out (.inl rfl) _⟩, ⟨by rw [← HS2.out]; exact W32.put HW.out k _⟩⟩
        case measure => simp [intOf]; omega
    · obtain rfl : k = m := by omega
      go_wp2
      go_end0
      exact ⟨rfl, HG.out, HW.out⟩
set_option maxRecDepth 100000 in
set_option maxHeartbeats 4000000 in
theorem saF2 (A2 : Option Addr) (n2 c2 q m c : Nat) (x : Int) (ys us : List Int) (w : World) (h2 : RdT encF w q A2 n2 ys) (hq : W32 w q us) (hm2 : m ≤ n2) (hu : m ≤ us.length) (hs : m ≤ 1000) :
    Calls Tryz.prog 63 #[.float .f64 x.toNat, .slice A2 n2 c2, .slice (some ⟨q, 0, none⟩) m c] w (Wrote w q us m (fun i => cmpF 2 x (ys.getD i 0))) := by
  have H2 := Aside0.mk h2
  have HQ := Aside0.mk hq
  have HO := Aside0.mk (outs_step (fun i => cmpF 2 x (ys.getD i 0)))
  clear h2 hq
  go_enter Tryz.func63, Tryz.ntmps63
  go_wp2
  go_loopw [9] (fun i wr => ∃ k : Nat, k ≤ m ∧ i = .int .i64 k ∧ Aside0 (w.grownBy wr (some q)) ∧ Aside0 (W32 wr q (outs (fun i => cmpF 2 x (ys.getD i 0)) k us))) (fun i _ => m - (intOf i).toNat)
  case atStart => exact ⟨0, Nat.zero_le _, rfl, ⟨World.grownBy.refl _ _⟩, ⟨by rw [outs_none]; exact HQ.out⟩⟩
  case round =>
    clear HQ
    obtain ⟨k, hk, rfl, HG, HW⟩ := hrel
    by_cases hlt : k < m
    · obtain ⟨a2, e2, g2⟩ := H2.out.cell HG.out k (by omega)
      subst e2
      have HS := Aside0.mk (HO.out k us (by omega))
      have hl := outs_len (fun i => cmpF 2 x (ys.getD i 0)) k us (by omega)
      have z := HW.out.frozen k
      have g := HW.out.cell k (by omega)
      generalize outs (fun i => cmpF 2 x (ys.getD i 0)) k us = vs at HS HW g
      generalize vs.getD k 0 = v at g
      have HS2 := Aside0.mk (show vs.set k (b2i (cmpF 2 x (ys.getD k 0))) = outs (fun i => cmpF 2 x (ys.getD i 0)) (k + 1) us from HS.out)
      clear HS HO hl
      obtain ⟨y, hy⟩ : ∃ y, ys.getD k 0 = y := ⟨_, rfl⟩
      rw [hy] at g2
      rw [hy] at HS2
      clear hy
      replace g2 : wr.cell? (a2.add k) = some (.float .f64 y.toNat) := g2
      cases hb : cmpF 2 x y <;> rw [hb] at HS2 <;> replace hb : (FloatKind.f64.format.order x.toNat y.toNat == some .gt) = _ := hb
      all_goals
        go_wp2
        go_roundw
        case rel => exact ⟨k + 1, by omega, by go_num, ⟨gb_set (p := ⟨q, k, none⟩) HG.out (.inl rfl) _⟩, ⟨by rw [← HS2.out]; exact W32.put HW.out k _⟩⟩
        case measure => simp [intOf]; omega
    · obtain rfl : k = m := by omega
      go_wp2
      go_end0
      exact ⟨rfl, HG.out, HW.out⟩
set_option maxRecDepth 100000 in
set_option maxHeartbeats 4000000 in
theorem aaF3 (A1 A2 : Option Addr) (n1 c1 n2 c2 q m c : Nat) (xs ys us : List Int) (w : World) (h1 : RdT encF w q A1 n1 xs) (h2 : RdT encF w q A2 n2 ys) (hq : W32 w q us) (hm1 : m ≤ n1) (hm2 : m ≤ n2) (hu : m ≤ us.length) (hs : m ≤ 1000) :
    Calls Tryz.prog 64 #[.slice A1 n1 c1, .slice A2 n2 c2, .slice (some ⟨q, 0, none⟩) m c] w (Wrote w q us m (fun i => cmpF 3 (xs.getD i 0) (ys.getD i 0))) := by
  have H1 := Aside0.mk h1
  have H2 := Aside0.mk h2
  have HQ := Aside0.mk hq
  have HO := Aside0.mk (outs_step (fun i => cmpF 3 (xs.getD i 0) (ys.getD i 0)))
  clear h1 h2 hq
  go_enter Tryz.func64, Tryz.ntmps64
  go_wp2
  go_loopw [9] (fun i wr => ∃ k : Nat, k ≤ m ∧ i = .int .i64 k ∧ Aside0 (w.grownBy wr (some q)) ∧ Aside0 (W32 wr q (outs (fun i => cmpF 3 (xs.getD i 0) (ys.getD i 0)) k us))) (fun i _ => m - (intOf i).toNat)
  case atStart => exact ⟨0, Nat.zero_le _, rfl, ⟨World.grownBy.refl _ _⟩, ⟨by rw [outs_none]; exact HQ.out⟩⟩
  case round =>
    clear HQ
    obtain ⟨k, hk, rfl, HG, HW⟩ := hrel
    by_cases hlt : k < m
    · obtain ⟨a1, e1, g1⟩ := H1.out.cell HG.out k (by omega)
      obtain ⟨a2, e2, g2⟩ := H2.out.cell HG.out k (by omega)
      subst e1
      subst e2
      have HS := Aside0.mk (HO.out k us (by omega))
      have hl := outs_len (fun i => cmpF 3 (xs.getD i 0) (ys.getD i 0)) k us (by omega)
      have z := HW.out.frozen k
      have g := HW.out.cell k (by omega)
      generalize outs (fun i => cmpF 3 (xs.getD i 0) (ys.getD i 0)) k us = vs at HS HW g
      generalize vs.getD k 0 = v at g
      have HS2 := Aside0.mk (show vs.set k (b2i (cmpF 3 (xs.getD k 0) (ys.getD k 0))) = outs (fun i => cmpF 3 (xs.getD i 0) (ys.getD i 0)) (k + 1) us from HS.out)
      clear HS HO hl
      obtain ⟨x, hx⟩ : ∃ x, xs.getD k 0 = x := ⟨_, rfl⟩
      obtain ⟨y, hy⟩ : ∃ y, ys.getD k 0 = y := ⟨_, rfl⟩
      rw [hx] at g1
      rw [hy] at g2
      rw [hx, hy] at HS2
      clear hx hy
      replace g1 : wr.cell? (a1.add k) = some (.float .f64 x.toNat) := g1
      replace g2 : wr.cell? (a2.add k) = some (.float .f64 y.toNat) := g2
      cases hb : cmpF 3 x y <;> rw [hb] at HS2 <;> replace hb : (FloatKind.f64.format.order x.toNat y.toNat == some .gt || FloatKind.f64.format.order x.toNat y.toNat == some .eq) = _ := hb
      all_goals
        go_wp2
        go_quiet (fail)
        go_wp2
        go_roundw
        case rel => exact ⟨k + 1, by omega, by go_num, ⟨gb_set (p := ⟨q, k, none⟩) (gb_drewN HG.out _) (.inl rfl) _⟩, ⟨by rw [← HS2.out]; exact W32.put (w := wr.drewN _) HW.out k _⟩⟩
        case measure => simp [intOf]; omega
    · obtain rfl : k = m := by omega
      go_wp2
      go_end0
      exact ⟨rfl, HG.out, HW.out⟩
set_option maxRecDepth 100000 in
set_option maxHeartbeats 4000000 in
theorem asF3 (A1 : Option Addr) (n1 c1 q m c : Nat) (xs : List Int) (y : Int) (us : List Int) (w : World) (h1 : RdT encF w q A1 n1 xs) (hq : W32 w q us) (hm1 : m ≤ n1) (hu : m ≤ us.length) (hs : m ≤ 1000) :
    Calls Tryz.prog 65 #[.slice A1 n1 c1, .float .f64 y.toNat, .slice (some ⟨q, 0, none⟩) m c] w (Wrote w q us m (fun i => cmpF 3 (xs.getD i 0) y)) := by
  have H1 := Aside0.mk h1
  have HQ := Aside0.mk hq
  have HO := Aside0.mk (outs_step (fun i => cmpF 3 (xs.getD i 0) y))
  clear h1 hq
  go_enter Tryz.func65, Tryz.ntmps65
  go_wp2
  go_loopw [9] (fun i wr => ∃ k : Nat, k ≤ m ∧ i = .int .i64 k ∧ Aside0 (w.grownBy wr (some q)) ∧ Aside0 (W32 wr q (outs (fun i => cmpF 3 (xs.getD i 0) y) k us))) (fun i _ => m - (intOf i).toNat)
  case atStart => exact ⟨0, Nat.zero_le _, rfl, ⟨World.grownBy.refl _ _⟩, ⟨by rw [outs_none]; exact HQ.out⟩⟩
  case round =>
    clear HQ
    obtain ⟨k, hk, rfl, HG, HW⟩ := hrel
    by_cases hlt : k < m
    · obtain ⟨a1, e1, g1⟩ := H1.out.cell HG.out k (by omega)
      subst e1
      have HS := Aside0.mk (HO.out k us (by omega))
      have hl := outs_len (fun i => cmpF 3 (xs.getD i 0) y) k us (by omega)
      have z := HW.out.frozen k
      have g := HW.out.cell k (by omega)
      generalize outs (fun i => cmpF 3 (xs.getD i 0) y) k us = vs at HS HW g
      generalize vs.getD k 0 = v at g
      have HS2 := Aside0.mk (show vs.set k (b2i (cmpF 3 (xs.getD k 0) y)) = outs (fun i => cmpF 3 (xs.getD i 0) y) (k + 1) us from HS.out)
      clear HS HO hl
      obtain ⟨x, hx⟩ : ∃ x, xs.getD k 0 = x := ⟨_, rfl⟩
      rw [hx] at g1
      rw [hx] at HS2
      clear hx
      replace g1 : wr.cell? (a1.add k) = some (.float .f64 x.toNat) := g1
      cases hb : cmpF 3 x y <;> rw [hb] at HS2 <;> replace hb : (FloatKind.f64.format.order x.toNat y.toNat == some .gt || FloatKind.f64.format.order x.toNat y.toNat == some .eq) = _ := hb
      all_goals
        go_wp2
        go_roundw
        case rel => exact ⟨k + 1, by omega, by go_num, ⟨gb_set (p := ⟨q, k, none⟩) HG.out (.inl rfl) _⟩, ⟨by rw [← HS2.out]; exact W32.put HW.out k _⟩⟩
        case measure => simp [intOf]; omega
    · obtain rfl : k = m := by omega
      go_wp2
      go_end0
      exact ⟨rfl, HG.out, HW.out⟩
set_option maxRecDepth 100000 in
set_option maxHeartbeats 4000000 in
theorem saF3 (A2 : Option Addr) (n2 c2 q m c : Nat) (x : Int) (ys us : List Int) (w : World) (h2 : RdT encF w q A2 n2 ys) (hq : W32 w q us) (hm2 : m ≤ n2) (hu : m ≤ us.length) (hs : m ≤ 1000) :
    Calls Tryz.prog 66 #[.float .f64 x.toNat, .slice A2 n2 c2, .slice (some ⟨q, 0, none⟩) m c] w (Wrote w q us m (fun i => cmpF 3 x (ys.getD i 0))) := by
  have H2 := Aside0.mk h2
  have HQ := Aside0.mk hq
  have HO := Aside0.mk (outs_step (fun i => cmpF 3 x (ys.getD i 0)))
  clear h2 hq
  go_enter Tryz.func66, Tryz.ntmps66
  go_wp2
  go_loopw [9] (fun i wr => ∃ k : Nat, k ≤ m ∧ i = .int .i64 k ∧ Aside0 (w.grownBy wr (some q)) ∧ Aside0 (W32 wr q (outs (fun i => cmpF 3 x (ys.getD i 0)) k us))) (fun i _ => m - (intOf i).toNat)
  case atStart => exact ⟨0, Nat.zero_le _, rfl, ⟨World.grownBy.refl _ _⟩, ⟨by rw [outs_none]; exact HQ.out⟩⟩
  case round =>
    clear HQ
    obtain ⟨k, hk, rfl, HG, HW⟩ := hrel
    by_cases hlt : k < m
    · obtain ⟨a2, e2, g2⟩ := H2.out.cell HG.out k (by omega)
      subst e2
      have HS := Aside0.mk (HO.out k us (by omega))
      have hl := outs_len (fun i => cmpF 3 x (ys.getD i 0)) k us (by omega)
      have z := HW.out.frozen k
      have g := HW.out.cell k (by omega)
      generalize outs (fun i => cmpF 3 x (ys.getD i 0)) k us = vs at HS HW g
      generalize vs.getD k 0 = v at g
      have HS2 := Aside0.mk (show vs.set k (b2i (cmpF 3 x (ys.getD k 0))) = outs (fun i => cmpF 3 x (ys.getD i 0)) (k + 1) us from HS.out)
      clear HS HO hl
      obtain ⟨y, hy⟩ : ∃ y, ys.getD k 0 = y := ⟨_, rfl⟩
      rw [hy] at g2
      rw [hy] at HS2
      clear hy
      replace g2 : wr.cell? (a2.add k) = some (.float .f64 y.toNat) := g2
      cases hb : cmpF 3 x y <;> rw [hb] at HS2 <;> replace hb : (FloatKind.f64.format.order x.toNat y.toNat == some .gt || FloatKind.f64.format.order x.toNat y.toNat == some .eq) = _ := hb
      all_goals
        go_wp2
        go_roundw
        case rel => exact ⟨k + 1, by omega, by go_num, ⟨gb_set (p := ⟨q, k, none⟩) HG.out (.inl rfl) _⟩, ⟨by rw [← HS2.out]; exact W32.put HW.out k _⟩⟩
        case measure => simp [intOf]; omega
    · obtain rfl : k = m := by omega
      go_wp2
      go_end0
      exact ⟨rfl, HG.out, HW.out⟩

end Go.Proofs.YtmdmpdbnnegpiaaGreatDoor.Cmp
