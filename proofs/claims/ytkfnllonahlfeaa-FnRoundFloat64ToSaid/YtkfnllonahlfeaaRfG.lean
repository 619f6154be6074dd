/- math.Round. -/
import Derived.Test.YtkfnllonahlfeaaRfE
namespace Go.Proofs.Ytkfnllonahlfeaa.Rf
open Go.RowKit Ieee
set_option linter.unusedVariables false
set_option linter.unusedSimpArgs false

set_option maxRecDepth 100000 in
theorem round_fn (x : Nat) (hf : Fin x) (w : World) : Calls Try.prog 36 #[.float .f64 x] w (fun e w' => e = .returned (.float .f64 (rdW x)) ∧ w = w') := by
  have hx := hf.1
  have hxb : x ≤ 9223372036854775808 + 9218868437227405312 := by have := hf.2; unfold rg at this; omega
  clear hf
  have h1 := bits64 x
  have he := exp_bits x hx
  have hs := sign_bits x hx
  have hE : ex x < 2048 := by unfold ex rg; omega
  have hrd : rdW x = rdW x := rfl
  unfold rdW
  obtain ⟨E, hEE⟩ : ∃ E, ex x = E := ⟨_, rfl⟩
  obtain ⟨s, hsS⟩ : ∃ s, (if sg x then 9223372036854775808 else 0) = s := ⟨_, rfl⟩
  have hs2 : s = 0 ∨ s = 9223372036854775808 := by rw [← hsS]; cases sg x <;> simp
  rw [hEE] at he hE ⊢
  rw [hsS] at hs ⊢
  clear hrd hEE hsS
  by_cases ha : E < 1023
  · rw [if_pos ha]
    by_cases hb : E = 1022
    · subst hb
      rw [if_pos rfl]
      have ho := one_bits s hs2
      obtain ⟨r, hr⟩ : ∃ r, s + 1023 * 4503599627370496 = r := ⟨_, rfl⟩
      rw [hr] at ho ⊢
      have h2 := from64 (r : Int)
      rw [Int.toNat_natCast] at h2
      clear hx hs2 hr
      go_enter Try.func36, Try.ntmps36
      go_wp2
      go_ret
      exact ⟨rfl, rfl⟩
    · rw [if_neg hb, Nat.add_zero]
      have h2 := from64 (s : Int)
      rw [Int.toNat_natCast] at h2
      have hb' : ((E : Int) == 1022) = false := by simp; omega
      clear hx hs2
      go_enter Try.func36, Try.ntmps36
      go_wp2
      go_ret
      exact ⟨rfl, rfl⟩
  · rw [if_neg ha]
    by_cases hb : E < 1075
    · rw [if_pos hb]
      obtain ⟨e, hee⟩ : ∃ e, E = 1023 + e := ⟨E - 1023, by omega⟩
      have he51 : e ≤ 51 := by omega
      rw [hee, show 1075 - (1023 + e) = 52 - e by omega, show 52 - e - 1 = 51 - e by omega]
      have f1 := half_shr e he51
      have f2 := frac_shr e (by omega)
      have hp51 : 2 ^ (51 - e) ≤ 2251799813685248 := by
        have := Nat.pow_le_pow_right (show 0 < 2 by omega) (show 51 - e ≤ 51 by omega)
        rwa [show (2 : Nat) ^ 51 = 2251799813685248 by decide] at this
      obtain ⟨h, hh⟩ : ∃ h, 2 ^ (51 - e) = h := ⟨_, rfl⟩
      obtain ⟨m, hm⟩ : ∃ m, 2 ^ (52 - e) - 1 = m := ⟨_, rfl⟩
      rw [hh] at f1 hp51 ⊢
      rw [hm] at f2
      obtain ⟨y, hy⟩ : ∃ y, x + h = y := ⟨_, rfl⟩
      have hcl := clear_bits y (52 - e) (by omega) (by omega)
      rw [hm] at hcl
      obtain ⟨z, hz⟩ : ∃ z, y / 2 ^ (52 - e) * 2 ^ (52 - e) = z := ⟨_, rfl⟩
      rw [hy, hz]
      rw [hz] at hcl
      have h2 := from64 (z : Int)
      rw [Int.toNat_natCast] at h2
      have esum : IntKind.u64.wrap ((x : Int) + (h : Int)) = (y : Int) := by rw [IntKind.wrap_u64]; omega
      have esub : IntKind.u64.wrap ((E : Int) - 1023) = (e : Int) := by rw [IntKind.wrap_u64]; omega
      have g1 : (2251799813685248 : Int) / 2 ^ e = (h : Int) := by rw [← f1, Int.natCast_ediv, Int.natCast_pow]; rfl
      have g2 : (4503599627370495 : Int) / 2 ^ e = (m : Int) := by rw [← f2, Int.natCast_ediv, Int.natCast_pow]; rfl
      clear hx hxb hs2 hy hz f1 f2 hee hh hm
      go_enter Try.func36, Try.ntmps36
      go_wp2
      go_ret
      exact ⟨rfl, rfl⟩
    · rw [if_neg hb]
      have h2 := from64 (x : Int)
      rw [Int.toNat_natCast] at h2
      clear hx hs2
      go_enter Try.func36, Try.ntmps36
      go_wp2
      go_ret
      exact ⟨rfl, rfl⟩

end Go.Proofs.Ytkfnllonahlfeaa.Rf
