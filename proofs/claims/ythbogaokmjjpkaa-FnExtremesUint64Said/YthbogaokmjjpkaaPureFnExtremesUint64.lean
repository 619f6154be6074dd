/- A law of extremes of a list of uint64 holds: two loops over the list keep the same least and greatest one. No condition. -/
import Derived.Test.YthbogaokmjjpkaaPFnExtremesUint64x1
namespace Go.Proofs.Ythbogaokmjjpkaa.Pure
open Go.RowKit Go.Proofs.Ythbogaokmjjpkaa.PFnExtremesUint64 Go.Proofs.YthbogaokmjjpkaaW.PrintWords Go.Proofs.YthbogaokmjjpkaaW.PrintLast Go.Proofs.YthbogaokmjjpkaaW.PrintMore

def ext64 (p : Int × Int) (l : List Int) : Int × Int := l.foldl (fun p v => (mn p.1 v, mx p.2 v)) p

theorem ext64_nil (p : Int × Int) : ext64 p [] = p := rfl
theorem ext64_cons (p : Int × Int) (v : Int) (l : List Int) : ext64 p (v :: l) = ext64 (mn p.1 v, mx p.2 v) l := rfl

theorem drop64 (l : List Int) (i : Nat) (h : i < l.length) : l.drop i = rd l (i : Int) :: l.drop (i + 1) := by
  rw [List.drop_eq_getElem_cons h]
  simp [rd, List.getD_eq_getElem?_getD, List.getElem?_eq_getElem h]

theorem step64 (i : Nat) (h : i ≤ 2147483647) : wrap64 ((i : Int) + 1) = ((i + 1 : Nat) : Int) := by
  unfold wrap64; omega

theorem minmax64_tells (l : List Int) (hn : l.length ≤ 2147483647) (d : Nat) : ∀ (k i : Nat) (x y : Int), l.length - i = d → i ≤ l.length → d < k →
    utils_uint64MinMax.l0 k x y l (l.length : Int) (i : Int) = some (ext64 (x, y) (l.drop i)) := by
  induction d with
  | zero =>
    intro k i x y hd hi hk
    obtain ⟨k, rfl⟩ : ∃ m, k = m + 1 := ⟨k - 1, by omega⟩
    simp only [utils_uint64MinMax.l0]
    rw [if_neg (by omega), List.drop_of_length_le (by omega), ext64_nil]
  | succ d ih =>
    intro k i x y hd hi hk
    obtain ⟨k, rfl⟩ : ∃ m, k = m + 1 := ⟨k - 1, by omega⟩
    have hlt : i < l.length := by omega
    simp only [utils_uint64MinMax.l0]
    rw [if_pos (by omega), if_pos (by omega), if_pos (by omega), step64 i (by omega), drop64 l i hlt, ext64_cons]
    generalize rd l (i : Int) = v
    by_cases h1 : x > v <;> by_cases h2 : y < v
    · rw [if_pos h1, if_pos h2, ih k (i + 1) v v (by omega) (by omega) (by omega)]; simp [mn, mx, h1, h2]
    · rw [if_pos h1, if_neg h2, ih k (i + 1) v y (by omega) (by omega) (by omega)]; simp [mn, mx, h1, h2]
    · rw [if_neg h1, if_pos h2, ih k (i + 1) x v (by omega) (by omega) (by omega)]; simp [mn, mx, h2]; rw [if_neg (by omega)]
    · rw [if_neg h1, if_neg h2, ih k (i + 1) x y (by omega) (by omega) (by omega)]; simp [mn, mx, h2]; rw [if_neg (by omega)]

theorem impl64_tells (l : List Int) (hn : l.length ≤ 2147483647) (k : Nat) (hk : l.length < k) : impl_ExtremesUint64.f k l = some (ext64 (18446744073709551615, 0) l) := by
  have h := minmax64_tells l hn l.length k 0 18446744073709551615 0 (by omega) (by omega) hk
  rw [List.drop_zero] at h
  unfold impl_ExtremesUint64.f utils_GetMinMaxUint64.f utils_uint64MinMax.f
  rw [show ((0 : Nat) : Int) = 0 from rfl] at h
  rw [h]; rfl

theorem law64_tells (l : List Int) (hn : l.length ≤ 2147483647) (b : Bool) (d : Nat) : ∀ (k i : Nat) (x y : Int), l.length - i = d → i ≤ l.length → d + l.length + 1 < k →
    ext64 (x, y) (l.drop i) = ext64 (18446744073709551615, 0) l → laws_FnExtremesUint64.l0 k l b x y l (l.length : Int) (i : Int) = some b := by
  induction d with
  | zero =>
    intro k i x y hd hi hk he
    obtain ⟨k, rfl⟩ : ∃ m, k = m + 1 := ⟨k - 1, by omega⟩
    simp only [laws_FnExtremesUint64.l0]
    rw [List.drop_of_length_le (by omega), ext64_nil] at he
    rw [if_neg (by omega), impl64_tells l hn k (by omega), ← he]
    simp
  | succ d ih =>
    intro k i x y hd hi hk he
    obtain ⟨k, rfl⟩ : ∃ m, k = m + 1 := ⟨k - 1, by omega⟩
    have hlt : i < l.length := by omega
    simp only [laws_FnExtremesUint64.l0]
    rw [drop64 l i hlt, ext64_cons] at he
    rw [if_pos (by omega), if_pos (by omega), if_pos (by omega), step64 i (by omega)]
    exact ih k (i + 1) _ _ (by omega) (by omega) (by omega) he

theorem one64 (k : Nat) (hk : 2 < k) : impl_ExtremesUint64.f k [1, 2] = some (1, 2) := by
  rw [impl64_tells [1, 2] (by simp) k (by simpa using hk)]
  decide

theorem FnExtremesUint64 : laws_FnExtremesUint64.Pure := by
  intro l hm _ _
  refine ⟨2 * l.length + 10, ?_⟩
  unfold laws_FnExtremesUint64.f
  by_cases h : (l.length : Int) > 2147483647
  · rw [if_pos h]
  · rw [if_neg h, one64 _ (by omega)]
    simp only [Option.bind_some]
    rw [if_pos True.intro]
    show laws_FnExtremesUint64.j0 (2 * l.length + 9 + 1) l (2 == 2) = some true
    simp only [laws_FnExtremesUint64.j0]
    by_cases h2 : (l.length : Int) > 1000
    · rw [if_pos h2]; rfl
    · rw [if_neg h2]
      have h3 := law64_tells l (by omega) true l.length (2 * l.length + 9) 0 18446744073709551615 0 (by omega) (by omega) (by omega) (by rw [List.drop_zero])
      exact h3

end Go.Proofs.Ythbogaokmjjpkaa.Pure
