/- A law of extremes of a list of uint16 holds: two loops over the list keep the same least and greatest one. No condition. -/
import Derived.Test.YthbogaokmjjpkaaPFnExtremesUint16x1
namespace Go.Proofs.Ythbogaokmjjpkaa.Pure
open Go.RowKit Go.Proofs.Ythbogaokmjjpkaa.PFnExtremesUint16 Go.Proofs.YthbogaokmjjpkaaW.PrintWords Go.Proofs.YthbogaokmjjpkaaW.PrintLast Go.Proofs.YthbogaokmjjpkaaW.PrintMore

def ext16 (p : Int × Int) (l : List Int) : Int × Int := l.foldl (fun p v => (mn p.1 v, mx p.2 v)) p

theorem ext16_nil (p : Int × Int) : ext16 p [] = p := rfl
theorem ext16_cons (p : Int × Int) (v : Int) (l : List Int) : ext16 p (v :: l) = ext16 (mn p.1 v, mx p.2 v) l := rfl

theorem drop16 (l : List Int) (i : Nat) (h : i < l.length) : l.drop i = rd l (i : Int) :: l.drop (i + 1) := by
  rw [List.drop_eq_getElem_cons h]
  simp [rd, List.getD_eq_getElem?_getD, List.getElem?_eq_getElem h]

theorem step16 (i : Nat) (h : i ≤ 2147483647) : wrap64 ((i : Int) + 1) = ((i + 1 : Nat) : Int) := by
  unfold wrap64; omega

theorem minmax16_tells (l : List Int) (hn : l.length ≤ 2147483647) (d : Nat) : ∀ (k i : Nat) (x y : Int), l.length - i = d → i ≤ l.length → d < k →
    utils_uint16MinMax.l0 k x y l (l.length : Int) (i : Int) = some (ext16 (x, y) (l.drop i)) := by
  induction d with
  | zero =>
    intro k i x y hd hi hk
    obtain ⟨k, rfl⟩ : ∃ m, k = m + 1 := ⟨k - 1, by omega⟩
    simp only [utils_uint16MinMax.l0]
    rw [if_neg (by omega), List.drop_of_length_le (by omega), ext16_nil]
  | succ d ih =>
    intro k i x y hd hi hk
    obtain ⟨k, rfl⟩ : ∃ m, k = m + 1 := ⟨k - 1, by omega⟩
    have hlt : i < l.length := by omega
    simp only [utils_uint16MinMax.l0]
    rw [if_pos (by omega), if_pos (by omega), if_pos (by omega), step16 i (by omega), drop16 l i hlt, ext16_cons]
    generalize rd l (i : Int) = v
    by_cases h1 : x > v <;> by_cases h2 : y < v
    · rw [if_pos h1, if_pos h2, ih k (i + 1) v v (by omega) (by omega) (by omega)]; simp [mn, mx, h1, h2]
    · rw [if_pos h1, if_neg h2, ih k (i + 1) v y (by omega) (by omega) (by omega)]; simp [mn, mx, h1, h2]
    · rw [if_neg h1, if_pos h2, ih k (i + 1) x v (by omega) (by omega) (by omega)]; simp [mn, mx, h2]; rw [if_neg (by omega)]
    · rw [if_neg h1, if_neg h2, ih k (i + 1) x y (by omega) (by omega) (by omega)]; simp [mn, mx, h2]; rw [if_neg (by omega)]

theorem impl16_tells (l : List Int) (hn : l.length ≤ 2147483647) (k : Nat) (hk : l.length < k) : impl_ExtremesUint16.f k l = some (ext16 (65535, 0) l) := by
  have h := minmax16_tells l hn l.length k 0 65535 0 (by omega) (by omega) hk
  rw [List.drop_zero] at h
  unfold impl_ExtremesUint16.f utils_GetMinMaxUint16.f utils_uint16MinMax.f
  rw [show ((0 : Nat) : Int) = 0 from rfl] at h
  rw [h]; rfl

theorem law16_tells (l : List Int) (hn : l.length ≤ 2147483647) (b : Bool) (d : Nat) : ∀ (k i : Nat) (x y : Int), l.length - i = d → i ≤ l.length → d + l.length + 1 < k →
    ext16 (x, y) (l.drop i) = ext16 (65535, 0) l → laws_FnExtremesUint16.l0 k l b x y l (l.length : Int) (i : Int) = some b := by
  induction d with
  | zero =>
    intro k i x y hd hi hk he
    obtain ⟨k, rfl⟩ : ∃ m, k = m + 1 := ⟨k - 1, by omega⟩
    simp only [laws_FnExtremesUint16.l0]
    rw [List.drop_of_length_le (by omega), ext16_nil] at he
    rw [if_neg (by omega), impl16_tells l hn k (by omega), ← he]
    simp
  | succ d ih =>
    intro k i x y hd hi hk he
    obtain ⟨k, rfl⟩ : ∃ m, k = m + 1 := ⟨k - 1, by omega⟩
    have hlt : i < l.length := by omega
    simp only [laws_FnExtremesUint16.l0]
    rw [drop16 l i hlt, ext16_cons] at he
    rw [if_pos (by omega), if_pos (by omega), if_pos (by omega), step16 i (by omega)]
    exact ih k (i + 1) _ _ (by omega) (by omega) (by omega) he

theorem one16 (k : Nat) (hk : 2 < k) : impl_ExtremesUint16.f k [1, 2] = some (1, 2) := by
  rw [impl16_tells [1, 2] (by simp) k (by simpa using hk)]
  decide

theorem FnExtremesUint16 : laws_FnExtremesUint16.Pure := by
  intro l hm _ _
  refine ⟨2 * l.length + 10, ?_⟩
  unfold laws_FnExtremesUint16.f
  by_cases h : (l.length : Int) > 2147483647
  · rw [if_pos h]
  · rw [if_neg h, one16 _ (by omega)]
    simp only [Option.bind_some]
    rw [if_pos True.intro]
    show laws_FnExtremesUint16.j0 (2 * l.length + 9 + 1) l (2 == 2) = some true
    simp only [laws_FnExtremesUint16.j0]
    by_cases h2 : (l.length : Int) > 1000
    · rw [if_pos h2]; rfl
    · rw [if_neg h2]
      have h3 := law16_tells l (by omega) true l.length (2 * l.length + 9) 0 65535 0 (by omega) (by omega) (by omega) (by rw [List.drop_zero])
      exact h3

end Go.Proofs.Ythbogaokmjjpkaa.Pure
