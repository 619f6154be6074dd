/- Integers out of words, powers of two, opposites: what the walks of these small functions come to. No condition beyond the word's bounds. -/
import Derived.Test.YtlhfmbpijcniaaaGreatWdSl
namespace Go.Proofs.YtlhfmbpijcniaaaGreat.WidemagDiv
open Go.RowKit Go.Proofs.YtlhfmbpijcniaaaGreat.PmagDiv Go.Proofs.YtlhfmbpijcniaaaGreatW.PrintWords Go.Proofs.YtlhfmbpijcniaaaGreatW.PrintLast Go.Proofs.YtlhfmbpijcniaaaGreatW.PrintMore
set_option linter.unusedVariables false
set_option linter.unusedSimpArgs false

/-- A row of the call's own is a slice of digits. -/
theorem Sl.of_own {P : Nat → Prop} {w : World} {base e : Nat} {v : Value} {l : List Int} (h : w.ownsRow base e 1 v l.length (nums .u32 l)) (hP : ∀ k, v.ownBlock = some k → P k) : Sl P w v l := by
  refine Sl.of_V (Kd.R_V (e := e) (base := base) (base' := 0) ⟨hP, nums .u32 l, h, ?_⟩)
  refine ⟨by simp [nums, Kd.int, Kd.scalar], fun j p hj => ?_⟩
  have hj' : j < l.length := (List.getElem?_eq_some_iff.1 hj).1
  have hp : l[j] = p := (List.getElem?_eq_some_iff.1 hj).2
  show (List.drop (j * 1) (nums .u32 l)).take 1 = [.int .u32 p]
  rw [Nat.mul_one, List.drop_eq_getElem_cons (by simpa [nums] using hj')]
  simp [nums, hp]
/-- A block of digits, read whole. -/
theorem Sl.lit {P : Nat → Prop} (w : World) (g t : Nat) (l : List Int) (hg : w.heap[g]? = some (.cells (nums .u32 l).toArray t (0, 0))) (hP : P g) (hl : l.length ≤ 1000000) : Sl P w (.slice (some ⟨g, 0, none⟩) l.length l.length) l := by
  refine Sl.of_own (base := 0) (e := t) ⟨by simp [nums], .inr ⟨g, l.length, _, rfl, Nat.zero_le _, hg, Nat.le_refl _, by simp only [maxLen]; omega, by simp [nums], by simp [nums, List.take_of_length_le]⟩⟩ ?_
  intro k hk
  have : g = k := by simpa [Value.ownBlock] using hk
  subst this
  exact hP
theorem Sl.lit_ {P : Nat → Prop} (w : World) (g t m : Nat) (l : List Int) (hm : l.length = m) (hg : w.heap[g]? = some (.cells (nums .u32 l).toArray t (0, 0))) (hP : P g) (hl : m ≤ 1000000) : Sl P w (.slice (some ⟨g, 0, none⟩) m m) l := by
  subst hm
  exact Sl.lit w g t l hg hP hl
theorem heap_new2 (w : World) (o1 o2 : Obj) : ((w.alloc o1).alloc o2).heap[w.heap.size + 1]? = some o2 := by
  have h := heap_alloc_new (w.alloc o1) o2
  simpa using h
theorem ne_lt {n m : Nat} (h : n < m) : ∀ k, (n < k ∨ m ≤ k) → k ≠ n := by omega
theorem lt_new {P : Nat → Prop} {n m : Nat} (h : n ≤ m) : ∀ k, (n < k ∨ m ≤ k) → P k ∨ n ≤ k := by
  intro k hk
  right
  omega

/-- A struct of the call's own that lies where it was laid, behind what was made since. -/
theorem struct_at {w : World} {g t : Nat} {a b : Value} (h : w.heap[g]? = some (.cells #[a, b] t (0, 0))) : w.cell? ⟨g, 0, none⟩ = some a ∧ w.cell? ⟨g, 1, none⟩ = some b ∧ w.frozen? ⟨g, 0, none⟩ = false ∧ w.frozen? ⟨g, 1, none⟩ = false := by
  refine ⟨?_, ?_, ?_, ?_⟩
  · rw [cell_of_row w g 0 _ t (0, 0) h]; rfl
  · rw [cell_of_row w g 1 _ t (0, 0) h]; rfl
  · simp [World.frozen?, h]
  · simp [World.frozen?, h]
theorem own1 {w w1 : World} {o1 : Obj} {N : Nat} (hb : Below N (w.alloc o1) w1) (hN : w.heap.size < N) : w1.heap[w.heap.size]? = some o1 := (hb.block _ hN).trans (heap_alloc_new w o1)
theorem own2 {w w1 : World} {o1 o2 : Obj} {N : Nat} (hb : Below N ((w.alloc o1).alloc o2) w1) (hN : w.heap.size < N) : w1.heap[w.heap.size]? = some o1 :=
  (hb.block _ hN).trans ((Below.heap_alloc _ o2 _ (by simp)).trans (heap_alloc_new w o1))

set_option maxRecDepth 100000 in
theorem WideInt_any (P : Nat → Prop) (z : Int) (w : World) (hz : -9223372036854775808 ≤ z ∧ z ≤ 9223372036854775807) :
    Calls Tryz.prog 16 #[.int .i64 z] w (RetW P w z 2) := by
  obtain ⟨h0, h1⟩ := hz
  by_cases hn : z < 0
  · have hu : IntKind.u64.wrap (-(IntKind.u64.wrap z)) = -z := by rw [u64m, u64m]; omega
    have HD := Aside0.mk (show Dig [IntKind.u64.wrap (-(IntKind.u64.wrap z)) % 4294967296, IntKind.u64.wrap (-(IntKind.u64.wrap z)) / 4294967296 % 4294967296] from dig_pair _)
    have HM := Aside0.mk (show (if true = true then - mag [IntKind.u64.wrap (-(IntKind.u64.wrap z)) % 4294967296, IntKind.u64.wrap (-(IntKind.u64.wrap z)) / 4294967296 % 4294967296] else mag [IntKind.u64.wrap (-(IntKind.u64.wrap z)) % 4294967296, IntKind.u64.wrap (-(IntKind.u64.wrap z)) / 4294967296 % 4294967296]) = z by rw [if_pos rfl, mag_pair _ (by rw [hu]; omega), hu]; omega)
    clear hu
    go_enter Tryz.func16, Tryz.ntmps16
    go_wp2_with (go_at_call 24; refine (wide_any (fun k => w.heap.size < k) true _ [IntKind.u64.wrap (-(IntKind.u64.wrap z)) % 4294967296, IntKind.u64.wrap (-(IntKind.u64.wrap z)) / 4294967296 % 4294967296] _ (Sl.lit _ (w.heap.size + 1) 104 _ (heap_new2 w _ _) (Nat.lt_succ_self _) (by simp)) HD.out (by simp)).mono ?_; rintro e w1 ⟨v1, rfl, hW1, hb1⟩; rw [HM.out] at hW1; obtain ⟨b1, A1, c1, l1, rfl, hS1, hR1, hB1⟩ := hW1.shape; have HS1 := Aside0.mk hS1; have HR1 := Aside0.mk hR1; clear hS1 hR1 hW1; obtain ⟨hc0, hc1, hf0, hf1⟩ := struct_at (own2 hb1 (by simp <;> omega)); have hz1 : w.heap.size + 1 < w1.heap.size := by have := hb1.size; simp at this; omega)
    refine bodyPost_ret (v := .agg #[.bool b1, .slice A1 l1.length c1]) (by simp [results, Tryz.results16, go_sem, hc0, hc1, hz1]) rfl ?_
    refine ⟨_, rfl, IsW.mk (((HS1.out.far (p := ⟨w.heap.size, 0, none⟩) (ne_lt (by simp <;> omega)) _).far (p := ⟨w.heap.size, 1, none⟩) (ne_lt (by simp <;> omega)) _).mono (lt_new (by simp <;> omega))) HR1.out hB1, ?_⟩
    exact (((((Below.refl _ _).alloc (Nat.le_refl _) _).alloc (by simp) _).trans (hb1.mono (by simp <;> omega))).setCell (by simp) _).setCell (by simp) _
  · have HD := Aside0.mk (show Dig [z % 4294967296, z / 4294967296] from Dig.mk_cons (by omega) (Dig.mk_cons (by omega) Dig.nil))
    have HM := Aside0.mk (show (if false = true then - mag [z % 4294967296, z / 4294967296] else mag [z % 4294967296, z / 4294967296]) = z by simp only [mag]; simp; omega)
    go_enter Tryz.func16, Tryz.ntmps16
    go_wp2_with (go_at_call 24; refine (wide_any (fun k => w.heap.size < k) false _ [z % 4294967296, z / 4294967296] _ (Sl.lit _ (w.heap.size + 1) 104 _ (heap_new2 w _ _) (Nat.lt_succ_self _) (by simp)) HD.out (by simp)).mono ?_; rintro e w1 ⟨v1, rfl, hW1, hb1⟩; rw [HM.out] at hW1; obtain ⟨b1, A1, c1, l1, rfl, hS1, hR1, hB1⟩ := hW1.shape; have HS1 := Aside0.mk hS1; have HR1 := Aside0.mk hR1; clear hS1 hR1 hW1; obtain ⟨hc0, hc1, hf0, hf1⟩ := struct_at (own2 hb1 (by simp <;> omega)); have hz1 : w.heap.size + 1 < w1.heap.size := by have := hb1.size; simp at this; omega)
    refine bodyPost_ret (v := .agg #[.bool b1, .slice A1 l1.length c1]) (by simp [results, Tryz.results16, go_sem, hc0, hc1, hz1]) rfl ?_
    refine ⟨_, rfl, IsW.mk (((HS1.out.far (p := ⟨w.heap.size, 0, none⟩) (ne_lt (by simp <;> omega)) _).far (p := ⟨w.heap.size, 1, none⟩) (ne_lt (by simp <;> omega)) _).mono (lt_new (by simp <;> omega))) HR1.out hB1, ?_⟩
    exact (((((Below.refl _ _).alloc (Nat.le_refl _) _).alloc (by simp) _).trans (hb1.mono (by simp <;> omega))).setCell (by simp) _).setCell (by simp) _

theorem two_pw (q : Nat) : pw q = (2 : Int) ^ (32 * q) := by
  unfold pw
  rw [Int.pow_mul]
  rfl
theorem two_pos (n : Nat) : 1 ≤ (2 : Int) ^ n := by
  induction n with
  | zero => simp
  | succ n ih => rw [Int.pow_succ]; omega
theorem two_lt (n : Nat) (h : n < 32) : (2 : Int) ^ n ≤ 2147483648 := by
  have e : (2147483648 : Int) = 2 ^ n * 2 ^ (31 - n) := by rw [← Int.pow_add, show n + (31 - n) = 31 by omega]; rfl
  have h1 := two_pos (31 - n)
  have h2 := two_pos n
  have h3 := Int.mul_le_mul_of_nonneg_left h1 (show 0 ≤ (2 : Int) ^ n by omega)
  rw [← e] at h3
  omega
def twoL (n : Nat) : List Int := List.replicate (n / 32) 0 ++ [2 ^ (n % 32) % 4294967296]
theorem twoL_dig (n : Nat) : Dig (twoL n) := Dig.append (fun x hx => by rw [List.mem_replicate] at hx; omega) (Dig.mk_cons (by omega) Dig.nil)
theorem twoL_mag (n : Nat) : mag (twoL n) = 2 ^ n := by
  have h1 := two_lt (n % 32) (Nat.mod_lt _ (by omega))
  have h2 := two_pos (n % 32)
  unfold twoL
  rw [mag_snoc, mag_zeros, List.length_replicate, two_pw, Int.emod_eq_of_lt (by omega) (by omega), ← Int.pow_add, show 32 * (n / 32) + n % 32 = n by omega]
  omega
theorem twoL_len (n : Nat) : (twoL n).length = n / 32 + 1 := by simp [twoL]
theorem two_made (n : Nat) : (madeCells #[Value.int .u32 0] (n / 32 + 1)).setIfInBounds (n / 32) (.int .u32 (2 ^ (n % 32) % 4294967296)) = (nums .u32 (twoL n)).toArray := by
  have h : madeCells #[Value.int .u32 0] (n / 32 + 1) = (nums .u32 (List.replicate (n / 32) 0 ++ [0])).toArray := by
    apply Array.toList_inj.1
    apply List.ext_getElem
    · simp [nums, madeCells]
    · intro i h1 h2
      have h3 : i < n / 32 + 1 := by simpa [madeCells] using h1
      by_cases hi : i = n / 32
      · subst hi; simp [nums, madeCells, Nat.mod_one]
      · have h4 : i < (List.replicate (n / 32) (0 : Int)).length := by simp; omega
        simp [nums, madeCells, Nat.mod_one]
        rw [List.getElem_append_left (by simpa using h4)]
        simp
  rw [h]
  simp [nums, twoL]
set_option maxRecDepth 100000 in
theorem Two_any (P : Nat → Prop) (n : Nat) (w : World) (hn : n ≤ 1000) :
    Calls Tryz.prog 13 #[.int .i64 n] w (RetW P w (2 ^ n) (n / 32 + 1)) := by
  have hmk := print_make (P := Tryz.prog) 25 104 .u32 4 Tryz.underlying25 (by kernel_rfl) (by omega) (n / 32 + 1) (by omega)
  rw [show ((n / 32 + 1 : Nat) : Int) = (n : Int) / 32 + 1 by omega] at hmk
  have hcm : (madeCells #[Value.int .u32 0] (n / 32 + 1))[n / 32]? = some (.int .u32 0) := by
    rw [Array.getElem?_eq_getElem (by simp [size_madeCells])]
    simp [madeCells, Nat.mod_one]
  have HM := Aside0.mk (show (if false = true then - mag (twoL n) else mag (twoL n)) = 2 ^ n by rw [if_neg (by simp), twoL_mag])
  go_enter Tryz.func13, Tryz.ntmps13
  go_wp2_with (go_at_call 24; refine (wide_any (fun k => w.heap.size < k) false _ (twoL n) _ (Sl.lit_ _ (w.heap.size + 1) 104 (n / 32 + 1) (twoL n) (twoL_len n) ((heap_new2 w _ _).trans (by rw [two_made])) (Nat.lt_succ_self _) (by omega)) (twoL_dig n) (by rw [twoL_len]; omega)).mono ?_; rintro e w1 ⟨v1, rfl, hW1, hb1⟩; rw [HM.out] at hW1; obtain ⟨b1, A1, c1, l1, rfl, hS1, hR1, hB1⟩ := hW1.shape; have HS1 := Aside0.mk hS1; have HR1 := Aside0.mk hR1; clear hS1 hR1 hW1; obtain ⟨hc0, hc1, hf0, hf1⟩ := struct_at (own2 hb1 (by simp <;> omega)); have hz1 : w.heap.size + 1 < w1.heap.size := by have := hb1.size; simp at this; omega)
  rw [twoL_len] at hB1
  refine bodyPost_ret (v := .agg #[.bool b1, .slice A1 l1.length c1]) (by simp [results, Tryz.results13, go_sem, hc0, hc1, hz1]) rfl ?_
  refine ⟨_, rfl, IsW.mk (((HS1.out.far (p := ⟨w.heap.size, 0, none⟩) (ne_lt (by simp <;> omega)) _).far (p := ⟨w.heap.size, 1, none⟩) (ne_lt (by simp <;> omega)) _).mono (lt_new (by simp <;> omega))) HR1.out hB1, ?_⟩
  exact (((((Below.refl _ _).alloc (Nat.le_refl _) _).alloc (by simp) _).trans (hb1.mono (by simp <;> omega))).setCell (by simp) _).setCell (by simp) _

end Go.Proofs.YtlhfmbpijcniaaaGreat.WidemagDiv
