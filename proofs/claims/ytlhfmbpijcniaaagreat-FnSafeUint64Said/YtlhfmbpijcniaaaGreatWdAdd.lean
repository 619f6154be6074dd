/- The printed sum of digits is the sum. No condition beyond small lengths. -/
import Derived.Test.YtlhfmbpijcniaaaGreatWdMag
namespace Go.Proofs.YtlhfmbpijcniaaaGreat.WidemagDiv
open Go.RowKit Go.Proofs.YtlhfmbpijcniaaaGreat.PmagDiv Go.Proofs.YtlhfmbpijcniaaaGreatW.PrintWords Go.Proofs.YtlhfmbpijcniaaaGreatW.PrintLast Go.Proofs.YtlhfmbpijcniaaaGreatW.PrintMore

/-! ### adding -/
theorem add_step (P s q X Y x y c : Int) (hs : s % 4294967296 + 4294967296 * q = s) (he : s = c + x + y) :
    P * (s % 4294967296) + P * 4294967296 * (q + X + Y) = P * (c + (x + 4294967296 * X) + (y + 4294967296 * Y)) := by
  have h : c + (x + 4294967296 * X) + (y + 4294967296 * Y) = s % 4294967296 + 4294967296 * (q + X + Y) := by omega
  rw [h, Int.mul_add P (s % 4294967296), Int.mul_assoc P 4294967296 (q + X + Y)]
set_option maxHeartbeats 1000000 in
theorem magAdd_l (M n : Nat) : ∀ (k : Nat) (a b out : List Int) (c : Int) (T : Int), Dig a → Dig b → Dig out → 0 ≤ c → c ≤ 1 → a.length ≤ M → b.length ≤ M → M ≤ 1099511627776 →
    out.length + n = M + 1 → 2 * n + 2 < k → (c = 0 ∨ n ≠ 0) → mag out + pw out.length * (c + mag (a.drop out.length) + mag (b.drop out.length)) = T →
    ∃ r, spec_magAdd.l0 k a b out c (out.length : Int) = some r ∧ mag r = T ∧ Dig r ∧ r.length ≤ M + 1 := by
  induction n with
  | zero =>
    intro k a b out c T ha hb ho hc0 hc1 hla hlb hM hn hk hz he
    obtain ⟨k, rfl⟩ : ∃ m, k = m + 2 := ⟨k - 2, by omega⟩
    have hcz : c = 0 := by rcases hz with h | h; exact h; exact absurd rfl h
    subst hcz
    refine ⟨out, ?_, ?_, ho, by omega⟩
    · rw [spec_magAdd.l0]
      rw [if_neg (by omega), if_neg (by omega)]
      rw [spec_magAdd.j1]
      rw [if_neg (by simp)]
    · rw [List.drop_of_length_le (by omega), List.drop_of_length_le (by omega)] at he
      simpa [mag] using he
  | succ n ih =>
    intro k a b out c T ha hb ho hc0 hc1 hla hlb hM hn hk hz he
    obtain ⟨k, rfl⟩ : ∃ m, k = m + 2 := ⟨k - 2, by omega⟩
    have hax := rd_dig ha out.length
    have hbx := rd_dig hb out.length
    -- one round: the digit that is told, what is carried on
    have go : ∀ s : Int, s = c + rd a (out.length : Int) + rd b (out.length : Int) →
        ∃ r, spec_magAdd.l0 k a b (out ++ [s % 4294967296]) (s / 4294967296) (wrap64 ((out.length : Int) + 1)) = some r ∧ mag r = T ∧ Dig r ∧ r.length ≤ M + 1 := by
      intro s hs
      have h := ih k a b (out ++ [s % 4294967296]) (s / 4294967296) T ha hb (ho.append (Dig.mk_cons (by omega) Dig.nil)) (by omega) (by omega) hla hlb hM (by rw [List.length_append, List.length_cons, List.length_nil]; omega) (by omega)
        (by
          by_cases hn0 : n = 0
          · left
            have h1 : a.length ≤ out.length := by omega
            have h2 : b.length ≤ out.length := by omega
            rw [rd_ge a _ h1, rd_ge b _ h2] at hs
            omega
          · exact .inr hn0)
        (by
          rw [← he, mag_snoc, List.length_append, List.length_cons, List.length_nil, Nat.zero_add, mag_drop a out.length, mag_drop b out.length, pw_succ, Int.add_assoc,
            add_step (pw out.length) s (s / 4294967296) (mag (a.drop (out.length + 1))) (mag (b.drop (out.length + 1))) (rd a (out.length : Int)) (rd b (out.length : Int)) c (by omega) hs])
      rw [stepw _ (by omega)]
      rw [List.length_append, List.length_cons, List.length_nil, Nat.zero_add] at h
      exact h
    by_cases h1 : out.length < a.length
    · by_cases h2 : out.length < b.length
      · obtain ⟨r, hr, hh⟩ := go (c + rd a (out.length : Int) + rd b (out.length : Int)) rfl
        refine ⟨r, ?_, hh⟩
        rw [spec_magAdd.l0]
        rw [if_pos (by omega)]
        rw [spec_magAdd.j1]
        rw [if_pos rfl, if_pos (by omega), if_pos (by omega), if_pos (by omega), if_pos (by omega), u64 (rd a (out.length : Int)) (by omega), u64 (rd b (out.length : Int)) (by omega),
          u64 (c + rd a (out.length : Int)) (by omega), u64 _ (by omega)]
        exact hr
      · have hz2 : rd b (out.length : Int) = 0 := rd_ge b _ (by omega)
        obtain ⟨r, hr, hh⟩ := go (c + rd a (out.length : Int)) (by omega)
        refine ⟨r, ?_, hh⟩
        rw [spec_magAdd.l0]
        rw [if_pos (by omega)]
        rw [spec_magAdd.j1]
        rw [if_pos rfl, if_pos (by omega), if_pos (by omega), if_neg (by omega), if_pos (by omega), u64 (rd a (out.length : Int)) (by omega), u64 (c + rd a (out.length : Int)) (by omega)]
        exact hr
    · have hz1 : rd a (out.length : Int) = 0 := rd_ge a _ (by omega)
      by_cases h2 : out.length < b.length
      · obtain ⟨r, hr, hh⟩ := go (c + rd b (out.length : Int)) (by omega)
        refine ⟨r, ?_, hh⟩
        rw [spec_magAdd.l0]
        rw [if_neg (by omega), if_pos (by omega)]
        rw [spec_magAdd.j1]
        rw [if_pos rfl, if_neg (by omega), if_pos (by omega), if_pos (by omega), if_pos (by omega), u64 (rd b (out.length : Int)) (by omega), u64 (c + rd b (out.length : Int)) (by omega)]
        exact hr
      · have hz2 : rd b (out.length : Int) = 0 := rd_ge b _ (by omega)
        by_cases hc : c > 0
        · obtain ⟨r, hr, hh⟩ := go c (by omega)
          refine ⟨r, ?_, hh⟩
          rw [spec_magAdd.l0]
          rw [if_neg (by omega), if_neg (by omega)]
          rw [spec_magAdd.j1]
          rw [if_pos (by simpa using hc), if_neg (by omega), if_neg (by omega), if_pos (by omega)]
          exact hr
        · have hcz : c = 0 := by omega
          subst hcz
          refine ⟨out, ?_, ?_, ho, by omega⟩
          · rw [spec_magAdd.l0]
            rw [if_neg (by omega), if_neg (by omega)]
            rw [spec_magAdd.j1]
            rw [if_neg (by simp)]
          · rw [List.drop_of_length_le (by omega), List.drop_of_length_le (by omega)] at he
            simpa [mag] using he
theorem magAdd_f (M k : Nat) (a b : List Int) (ha : Dig a) (hb : Dig b) (hla : a.length ≤ M) (hlb : b.length ≤ M) (hM : M ≤ 1099511627776) (hk : 2 * M + 4 < k) :
    ∃ r, spec_magAdd.f k a b = some r ∧ mag r = mag a + mag b ∧ Dig r ∧ r.length ≤ M + 1 := by
  have h := magAdd_l M (M + 1) k a b [] 0 (mag a + mag b) ha hb Dig.nil (by omega) (by omega) hla hlb hM (by simp) (by omega) (.inl rfl) (by simp [mag, pw_zero])
  simpa [spec_magAdd.f] using h

end Go.Proofs.YtlhfmbpijcniaaaGreat.WidemagDiv
