/- How rows of values come in: trees of them, as deep as the law reads. -/
import Derived.Test.YtcjobencclihdaaDoorLvJw
import Derived.Test.YtcjobencclihdaaDoorLvJn
import Derived.Test.YtcjobencclihdaaDoorRows
import Derived.Deep.Slices
import Derived.Deep.Fields
import Derived.ChangeSame
namespace Go.Proofs.YtcjobencclihdaaDoor.Lv
open Go.RowKit Go.Proofs.YtcjobencclihdaaDoorW.PrintWords Go.Proofs.YtcjobencclihdaaDoorW.PrintLast Go.Proofs.YtcjobencclihdaaDoorW.PrintMore Go.ChangeShapes Go.WideShapes Go.Deep
set_option linter.unusedVariables false
set_option linter.unusedSimpArgs false

theorem bulk_one {H : Type} (d : DataW H) : 1 ≤ Rows.uptoBulk d := by
  cases d with
  | lit l => cases l <;> simp [Rows.uptoBulk]
  | nil => simp [Rows.uptoBulk]
  | ptr d => simp [Rows.uptoBulk]
  | slice elems spare => simp [Rows.uptoBulk]
  | agg parts => simp [Rows.uptoBulk]
  | iface t d => simp [Rows.uptoBulk]
  | map entries => simp [Rows.uptoBulk]
  | held h => simp [Rows.uptoBulk]
theorem bulk_all {H : Type} (l : List (DataW H)) : Rows.uptoBulkAll l = (l.map Rows.uptoBulk).sum := by
  induction l with
  | nil => rfl
  | cons a l ih => simp only [Rows.uptoBulkAll, List.map_cons, List.sum_cons, ih]
theorem under45 : ∃ f0 f1 f2 f3 : Field, Tryd.prog.underlying 45 = some (.struct #[f0, f1, f2, f3]) ∧ f0.offset = 0 ∧ f0.type = 4 ∧ f1.offset = 1 ∧ f1.type = 43 ∧ f2.offset = 2 ∧ f2.type = 9 ∧ f3.offset = 3 ∧ f3.type = 22 :=
  ⟨_, _, _, _, Tryd.underlying45, rfl, rfl, rfl, rfl, rfl, rfl, rfl, rfl⟩
theorem list_of {α : Type} (z : α) (R : Nat → α → Prop) (n : Nat) (h : ∀ i, i < n → ∃ x, R i x) : ∃ l : List α, l.length = n ∧ ∀ i, i < n → R i (l.getD i z) := by
  induction n with
  | zero => exact ⟨[], rfl, fun i hi => by omega⟩
  | succ n ih =>
    obtain ⟨l, hl, hr⟩ := ih (fun i hi => h i (by omega))
    obtain ⟨x, hx⟩ := h n (by omega)
    refine ⟨l ++ [x], by simp [hl], fun i hi => ?_⟩
    by_cases he : i < n
    · have := hr i he
      simpa [List.getD_eq_getElem?_getD, List.getElem?_append_left (show i < l.length by omega)] using this
    · obtain rfl : i = n := by omega
      simpa [List.getD_eq_getElem?_getD, hl] using hx
theorem all2_of {α β : Type} {R : α → β → Prop} (da : α) (db : β) : ∀ (xs : List α) (ys : List β), xs.length = ys.length → (∀ i, i < xs.length → R (xs.getD i da) (ys.getD i db)) → All2 R xs ys
  | [], [], _, _ => trivial
  | x :: xs, y :: ys, h, hr => ⟨by simpa using hr 0 (by simp), all2_of da db xs ys (by simpa using h) (fun i hi => by simpa using hr (i + 1) (by simpa using hi))⟩
  | [], _ :: _, h, _ => by simp at h
  | _ :: _, [], h, _ => by simp at h
theorem sum_le {α : Type} (z : α) (f : α → Nat) (g : Nat → Nat) : ∀ (n : Nat) (l : List α), l.length = n → (∀ i, i < n → f (l.getD i z) ≤ g i) → (l.map f).sum ≤ ((List.range n).map g).sum := by
  intro n
  induction n with
  | zero => intro l hl _; rw [List.length_eq_zero_iff.1 hl]; simp
  | succ n ih =>
    intro l hl h
    rcases List.eq_nil_or_concat l with rfl | ⟨l, a, rfl⟩
    · simp at hl
    · rw [List.concat_eq_append] at hl h ⊢
      have hn : l.length = n := by simpa using hl
      rw [List.range_succ, List.map_append, List.sum_append, List.map_append, List.sum_append]
      have h1 := ih l hn (fun i hi => by
        have := h i (by omega)
        rwa [List.getD_eq_getElem?_getD, List.getElem?_append_left (by omega), ← List.getD_eq_getElem?_getD] at this)
      have h2 := h n (by omega)
      subst hn
      simp [List.getD_eq_getElem?_getD] at h2
      simp
      omega
theorem len_sum (g : Nat → Nat) (h : ∀ i, 1 ≤ g i) : ∀ n, n ≤ ((List.range n).map g).sum := by
  intro n
  induction n with
  | zero => simp
  | succ n ih =>
    rw [List.range_succ, List.map_append, List.sum_append]
    have := h n
    simp
    omega
theorem mem_sum (g : Nat → Nat) : ∀ n i, i < n → g i ≤ ((List.range n).map g).sum := by
  intro n
  induction n with
  | zero => intro i hi; omega
  | succ n ih =>
    intro i hi
    rw [List.range_succ, List.map_append, List.sum_append]
    by_cases h : i = n
    · subst h; simp
    · have := ih i (by omega); simp; omega
theorem atT_sum (j : Nat) (ts : List T) : (atT j (ts.flatMap T.kids)).length = (ts.map (fun t => (atT j t.kids).length)).sum := by
  induction ts with
  | nil => simp [atT_nil]
  | cons a l ih => rw [List.flatMap_cons, atT_append, List.length_append, ih]; rfl
section
variable {H : Type} {enc : TypeId × Value → H} {w : World} {base : Nat} {spare : Nat → Bool} {held : Bool}
set_option maxRecDepth 100000 in
theorem val_in {fuel : Nat} {cs : List Value} {x : DataW H × List MemPlace} (h : DataW.trod enc Tryd.prog w base spare held fuel 45 cs = some x) : ∃ (v : V) (n : Nat) (y : DataW H × List MemPlace), cs = v.enc ∧ DataW.trod enc Tryd.prog w base spare held n 22 [.slice v.kA v.kn v.kc] = some y ∧ Rows.uptoBulk y.1 + 1 ≤ Rows.uptoBulk x.1 := by
  obtain ⟨f0, f1, f2, f3, hu, o0, t0, o1, t1, o2, t2, o3, t3⟩ := under45
  obtain ⟨xs, n, _, hx, hlen, hxl, hf⟩ := DataW.trod_struct hu h
  have hlen4 : cs.length = 4 := hlen.trans (by kernel_rfl)
  match cs, hlen4 with
  | [c0, c1, c2, c3], _ =>
    have k4 : Tryd.prog.cellsOf 4 = 1 := by kernel_rfl
    have k43 : Tryd.prog.cellsOf 43 = 1 := by kernel_rfl
    have k9 : Tryd.prog.cellsOf 9 = 1 := by kernel_rfl
    have k22 : Tryd.prog.cellsOf 22 = 1 := by kernel_rfl
    match xs, hxl with
    | [y0, y1, y2, y3], _ =>
      have g0 := hf 0 f0 rfl
      have g1 := hf 1 f1 rfl
      have g2 := hf 2 f2 rfl
      have g3 := hf 3 f3 rfl
      rw [o0, t0, k4] at g0
      rw [o1, t1, k43] at g1
      rw [o2, t2, k9] at g2
      rw [o3, t3, k22] at g3
      simp at g0 g1 g2 g3
      obtain ⟨b, hb, _⟩ := DataW.trod_bool Tryd.underlying4 g0
      obtain ⟨m, hm, _, hw⟩ := DataW.trod_int Tryd.underlying43 g1
      obtain ⟨s, hs, _, hsz⟩ := DataW.trod_string Tryd.underlying9 g2
      have hk : ∃ A n c, [c3] = [Value.slice A n c] := by
        rcases open_slice Tryd.underlying22 g3 with ⟨hc, _⟩ | ⟨a, len, cap, _, _, _, _, hc, _⟩
        · exact ⟨_, _, _, hc⟩
        · exact ⟨_, _, _, hc⟩
      obtain ⟨A, kn, c, hk⟩ := hk
      injection hb with hb
      injection hm with hm
      injection hs with hs
      injection hk with hk
      subst hb hm hs hk
      refine ⟨⟨b, m, s, A, kn, c⟩, n, y3, rfl, g3, ?_⟩
      rw [hx]
      simp [Rows.uptoBulk, Rows.uptoBulkAll]
      omega
/-- A slice of values: how many there are, and what the bulk gives. -/
theorem kids_in {fuel : Nat} {a : Option Addr} {len cap : Nat} {x : DataW H × List MemPlace} (h : DataW.trod enc Tryd.prog w base spare held fuel 22 [.slice a len cap] = some x) : len ≤ cap ∧ len + 1 ≤ Rows.uptoBulk x.1 := by
  rcases open_slice Tryd.underlying22 h with ⟨hc, hx⟩ | ⟨a2, len2, cap2, m2, n2, D2, P2, hcs2, _, hl2, hm2, hmm2, hx2, _⟩
  · simp at hc
    obtain ⟨_, rfl, rfl⟩ := hc
    exact ⟨Nat.le_refl _, by have := bulk_one x.1; omega⟩
  · simp at hcs2
    obtain ⟨_, rfl, rfl⟩ := hcs2
    refine ⟨hl2, ?_⟩
    rw [hx2]
    simp only [Rows.uptoBulk, bulk_all, List.map_map]
    have := len_sum (Rows.uptoBulk ∘ D2) (fun i => bulk_one _) len
    omega
theorem step_in (D : Nat) (hel : ∀ (n : Nat) (v : V) (y : DataW H × List MemPlace), DataW.trod enc Tryd.prog w base spare held n 22 [.slice v.kA v.kn v.kc] = some y → Rows.uptoBulk y.1 ≤ 1048576 → ∃ t, Rd w D v t ∧ ∀ j, j + 1 ≤ D → (atT j t.kids).length ≤ Rows.uptoBulk y.1)
    {fuel : Nat} {a : Option Addr} {len cap : Nat} {x : DataW H × List MemPlace} (h : DataW.trod enc Tryd.prog w base spare held fuel 22 [.slice a len cap] = some x) (hB : Rows.uptoBulk x.1 ≤ 1048576) :
    ∃ vs ts, Row w D a len vs ts ∧ len ≤ cap ∧ ∀ j, j ≤ D → (atT j ts).length ≤ Rows.uptoBulk x.1 := by
  have hk := kids_in h
  rcases open_slice Tryd.underlying22 h with ⟨hc, _⟩ | ⟨a', len', cap', m, n, Dt, Pl, hcs, _, hl, hm, hmm, hx, hi⟩
  · simp at hc
    obtain ⟨rfl, rfl, rfl⟩ := hc
    exact ⟨[], [], ⟨⟨rfl, by simp, fun h => absurd h (by simp)⟩, trivial⟩, Nat.le_refl _, fun j _ => by rw [atT_nil]; exact Nat.zero_le _⟩
  · simp at hcs
    obtain ⟨rfl, rfl, rfl⟩ := hcs
    have hlm : len ≤ m := by rw [hmm]; split <;> omega
    have k45 : Tryd.prog.cellsOf 45 = 4 := by kernel_rfl
    have hbl : ((List.range len).map (fun i => Rows.uptoBulk (Dt i))).sum + 1 ≤ Rows.uptoBulk x.1 := by
      rw [hx]
      simp only [Rows.uptoBulk, bulk_all, List.map_map]
      have : ((List.range len).map (Rows.uptoBulk ∘ Dt)).sum = ((List.range len).map (fun i => Rows.uptoBulk (Dt i))).sum := rfl
      omega
    obtain ⟨l, hll, hr⟩ := list_of (z0, T.mk false []) (fun i (vt : V × T) => (Rd w D vt.1 vt.2 ∧ ∀ j, j + 1 ≤ D → (atT j vt.2.kids).length ≤ Rows.uptoBulk (Dt i)) ∧ ∀ j u, vt.1.enc[j]? = some u → w.cell? (a'.add (i * 4 + j)) = some u) len (fun i hil => by
      obtain ⟨cs', hc, ht⟩ := hi i (by omega)
      rw [k45] at hc
      obtain ⟨_, hcl, hat⟩ := World.cells?_some hc
      obtain ⟨v, n', y, rfl, hy, hby⟩ := val_in ht
      have hm1 := mem_sum (fun i => Rows.uptoBulk (Dt i)) len i hil
      dsimp only at hm1 hby
      obtain ⟨t, ht1, ht2⟩ := hel n' v y hy (by omega)
      refine ⟨(v, t), ⟨ht1, fun j hj => Nat.le_trans (ht2 j hj) (by omega)⟩, fun j u hu => ?_⟩
      have hj : j < 4 := by
        rcases Nat.lt_or_ge j 4 with h | h
        · exact h
        · rw [List.getElem?_eq_none (by rw [hcl]; exact h)] at hu; cases hu
      have := hat j hj
      rw [hu] at this
      rwa [Go.Deep.add_add] at this)
    refine ⟨l.map (·.1), l.map (·.2), ⟨⟨by simp [hll], by unfold maxLen at hm; omega, fun _ => ⟨a', rfl, fun j p hp => ?_⟩⟩, all2_of z0 (T.mk false []) _ _ (by simp) (fun i hi' => ?_)⟩, hl, fun j hj => ?_⟩
    · have hjl : j < l.length := by have := (List.getElem?_eq_some_iff.1 hp).1; simpa using this
      obtain ⟨_, h2⟩ := hr j (by omega)
      have e : (l.getD j (z0, T.mk false [])).1 = p := by
        rw [List.getElem?_map] at hp
        rw [List.getElem?_eq_getElem hjl] at hp
        simp [List.getD_eq_getElem?_getD, List.getElem?_eq_getElem hjl] at hp ⊢
        exact hp
      rw [e] at h2
      exact ⟨p.enc, rfl, rfl, fun i u hu => h2 i u hu⟩
    · have hil : i < l.length := by simpa using hi'
      obtain ⟨⟨h1, _⟩, _⟩ := hr i (by omega)
      simpa [List.getD_eq_getElem?_getD, List.getElem?_eq_getElem hil] using h1
    · cases j with
      | zero =>
        show (l.map (·.2)).length ≤ _
        rw [List.length_map, hll]
        omega
      | succ j =>
        rw [atT, atT_sum, List.map_map]
        have h5 := sum_le (z0, T.mk false []) (fun vt : V × T => (atT j vt.2.kids).length) (fun i => Rows.uptoBulk (Dt i)) len l hll (fun i hi' => (hr i hi').1.2 j hj)
        have h6 : (l.map ((fun t => (atT j t.kids).length) ∘ (·.2))).sum = (l.map (fun vt : V × T => (atT j vt.2.kids).length)).sum := rfl
        omega
theorem trees_in : ∀ (D : Nat) {fuel : Nat} {a : Option Addr} {len cap : Nat} {x : DataW H × List MemPlace}, DataW.trod enc Tryd.prog w base spare held fuel 22 [.slice a len cap] = some x → Rows.uptoBulk x.1 ≤ 1048576 →
    ∃ vs ts, Row w D a len vs ts ∧ len ≤ cap ∧ ∀ j, j ≤ D → (atT j ts).length ≤ Rows.uptoBulk x.1 := by
  intro D
  induction D with
  | zero =>
    intro fuel a len cap x h hB
    refine step_in 0 (fun n v y hy hb => ?_) h hB
    obtain ⟨h1, h2⟩ := kids_in hy
    exact ⟨T.mk v.nul (List.replicate v.kn (T.mk false [])), ⟨rfl, by simp [T.kids], h1, by omega⟩, fun j hj => by omega⟩
  | succ D ih =>
    intro fuel a len cap x h hB
    refine step_in (D + 1) (fun n v y hy hb => ?_) h hB
    obtain ⟨vs', ts', hrow, hc, hat⟩ := ih hy hb
    obtain ⟨_, h2⟩ := kids_in hy
    exact ⟨T.mk v.nul ts', ⟨rfl, hrow.len.2.symm, ⟨hc, by omega⟩, vs', hrow.row, hrow.all⟩, fun j hj => hat j (by omega)⟩
end

end Go.Proofs.YtcjobencclihdaaDoor.Lv
