/- Digits taken off greater digits: the loop's invariant and its walk. No condition beyond small lengths. -/
import Derived.Test.YtlhfmbpijcniaaaGreatWdNeg
namespace Go.Proofs.YtlhfmbpijcniaaaGreat.WidemagDiv
open Go.RowKit Go.Proofs.YtlhfmbpijcniaaaGreat.PmagDiv Go.Proofs.YtlhfmbpijcniaaaGreatW.PrintWords Go.Proofs.YtlhfmbpijcniaaaGreatW.PrintLast Go.Proofs.YtlhfmbpijcniaaaGreatW.PrintMore
set_option linter.unusedVariables false
set_option linter.unusedSimpArgs false

theorem take_set (l : List Int) (i : Nat) (d : Int) (h : i < l.length) : (l.set i d).take (i + 1) = l.take i ++ [d] := by
  rw [List.take_succ_eq_append_getElem (by simpa using h), List.take_set_of_le (Nat.le_refl i)]
  simp
theorem rd_set_other (l : List Int) (i j : Nat) (d : Int) (h : i ≠ j) : rd (l.set i d) (j : Int) = rd l (j : Int) := by
  simp [rd, List.getD_eq_getElem?_getD, List.getElem?_set, h]
/-- What holds behind i digits. -/
structure SubInv (a b out : List Int) (c : Int) (i : Nat) : Prop where
  dig : Dig out
  len : out.length = a.length
  rest : ∀ j : Nat, i ≤ j → rd out (j : Int) = rd a (j : Int)
  val : mag (out.take i) - pw i * c = mag (a.take i) - mag (b.take i)
theorem SubInv.start {a b : List Int} (ha : Dig a) : SubInv a b a 0 0 := ⟨ha, rfl, fun _ _ => rfl, by simp [mag]⟩
theorem SubInv.step {a b out : List Int} {c d q : Int} {i : Nat} (h : SubInv a b out c i) (hi : i < a.length) (hd0 : 0 ≤ d) (hd1 : d ≤ 4294967295) (hdq : d - 4294967296 * q = rd a (i : Int) - c - rd b (i : Int)) : SubInv a b (out.set i d) q (i + 1) := by
  have hl := h.len
  have hv := h.val
  refine ⟨h.dig.set i ⟨hd0, hd1⟩, by simpa using hl, fun j hj => ?_, ?_⟩
  · rw [rd_set_other _ _ _ _ (by omega)]; exact h.rest j (by omega)
  · have hta := mag_take a i hi
    have htb : mag (b.take (i + 1)) = mag (b.take i) + pw i * rd b (i : Int) := by
      rcases Nat.lt_or_ge i b.length with h | h
      · exact mag_take b i h
      · rw [rd_ge b i h, List.take_of_length_le h, List.take_of_length_le (by omega)]; simp
    rw [take_set _ _ _ (by omega), mag_snoc, List.length_take, Nat.min_eq_left (by omega), hta, htb, pw_succ]
    have e : pw i * d - pw i * 4294967296 * q = pw i * rd a (i : Int) - pw i * c - pw i * rd b (i : Int) := by
      rw [Int.mul_assoc, ← Int.mul_sub, ← Int.mul_sub, ← Int.mul_sub, hdq]
    omega
theorem SubInv.fin {a b out : List Int} {c : Int} (h : SubInv a b out c a.length) (hc0 : 0 ≤ c) (hc1 : c ≤ 1) (hlb : b.length ≤ a.length) (hle : mag b ≤ mag a) : mag out = mag a - mag b := by
  have hl := h.len
  have he := h.val
  rw [List.take_of_length_le (by omega), List.take_of_length_le (Nat.le_refl _), List.take_of_length_le hlb] at he
  have h1 := mag_lt h.dig
  rw [hl] at h1
  rcases (show c = 0 ∨ c = 1 by omega) with h | h
  · subst h; simpa using he
  · subst h; rw [Int.mul_one] at he; omega
theorem info_u32 : (Tryz.prog.info? 104).map (fun i => (i.zero, i.size, i.bytes)) = some (some (.int .u32 0), 1, 4) := by kernel_rfl
theorem lt_new1 {n k : Nat} (h : n ≤ k) {m : Nat} (hm : m ≤ n) : m ≤ k := Nat.le_trans hm h
/-- A block of no cells, owned. -/
theorem empty_own (w : World) : Kd.R (Kd.int .u32) 104 (w.alloc (.cells #[] 104)) w.heap.size (fun k => w.heap.size ≤ k) (.slice (some ⟨w.heap.size, 0, none⟩) 0 0) [] := by
  refine ⟨fun k hk => ?_, [], ?_, ⟨rfl, fun j p hj => by simp at hj⟩⟩
  · have : w.heap.size = k := by simpa [Value.ownBlock] using hk
    omega
  · exact ⟨rfl, .inr ⟨w.heap.size, 0, #[], rfl, Nat.le_refl _, heap_alloc_new w _, Nat.le_refl _, by simp [maxLen], rfl, rfl⟩⟩

theorem R_at {W : World} {e base g n c : Nat} {ok : Nat → Prop} {xs : List Int} (h : (Kd.int .u32).R e W base ok (.slice (some ⟨g, 0, none⟩) n c) xs) (k : Nat) (hk : k < n) : W.cell? ⟨g, k, none⟩ = some (.int .u32 (rd xs (k : Int))) ∧ W.frozen? ⟨g, k, none⟩ = false := by
  have h1 := Kd.R_celln 0 h (k : Int) (by omega) (by omega)
  rw [Int.toNat_natCast] at h1
  exact h1
theorem R_set {W : World} {e base g n c : Nat} {ok : Nat → Prop} {xs : List Int} (h : (Kd.int .u32).R e W base ok (.slice (some ⟨g, 0, none⟩) n c) xs) (k : Nat) (y : Int) : (Kd.int .u32).R e (W.setCell ⟨g, k, none⟩ (.int .u32 y)) base ok (.slice (some ⟨g, 0, none⟩) n c) (xs.set k y) := by
  have h1 := (Kd.R_putg h (k : Int) y).1
  rw [Int.toNat_natCast] at h1
  exact h1
set_option maxRecDepth 100000 in
set_option maxHeartbeats 4000000 in
theorem magSub_any (P : Nat → Prop) (v1 v2 : Value) (l1 l2 : List Int) (w : World) (h1 : Sl P w v1 l1) (h2 : Sl P w v2 l2) (d1 : Dig l1) (d2 : Dig l2) (n2 : Nrm l2) (hl1 : l1.length ≤ 1000000) (hle : mag l2 ≤ mag l1) :
    Calls Tryz.prog 50 #[v1, v2] w (RetSl P w fun r => mag r = mag l1 - mag l2 ∧ Dig r ∧ Nrm r ∧ r.length ≤ l1.length) := by
  have hl2 := len_le_of_le d2 d1 n2 hle
  obtain ⟨A1, c1, rfl, hc1, hC1⟩ := h1.shape
  obtain ⟨A2, c2, rfl, hc2, hC2⟩ := h2.shape
  have HC1 := Aside0.mk hC1
  have HC2 := Aside0.mk hC2
  have HLE := Aside0.mk hle
  have HD1 := Aside0.mk d1
  have HD2 := Aside0.mk d2
  clear h1 h2 hC1 hC2 hle d1 d2 n2
  go_enter Tryz.func50, Tryz.ntmps50
  go_wp2_with (at_builtin; refine Kd.R_append_rows (Kd.int .u32) (w0 := w) w.heap.size rfl (.tmp 9) (.tmp 10) 25 104 (.int .u32 0) 4 rfl Tryz.underlying25 info_u32 rfl (by decide) (by omega) _ [] l1 _ _ _ (fun k => w.heap.size ≤ k) (fun _ => False) rfl rfl (empty_own w) (Kd.C_alloc HC1.out _) (fun _ _ h => h) (fun _ h => h.elim) (fun k hk => by simp at hk; omega) ((Below.refl _ _).alloc (Nat.le_refl _) _) (by simp) (by simp; omega) ?_; intro v3 w3 hR3 hB3 _ _; rw [List.nil_append] at hR3; obtain ⟨A3, c3, rfl⟩ := Kd.R_slice hR3; have HR3 := Aside0.mk hR3; have HB3 := Aside0.mk hB3; clear hR3 hB3)
  go_loopw [14, 6] (fun i cb wr => ∃ (k : Nat) (c : Int) (out : List Int), k ≤ l1.length ∧ i = .int .i64 k ∧ cb = .int .i64 c ∧ 0 ≤ c ∧ c ≤ 1 ∧ out.length = l1.length ∧ Aside0 (SubInv l1 l2 out c k) ∧ Aside0 ((Kd.int .u32).R 104 wr w.heap.size (fun k => w.heap.size ≤ k) (.slice A3 l1.length c3) out) ∧ Aside0 (Below w.heap.size w wr)) (fun i _ _ => l1.length - (intOf i).toNat)
  case atStart => exact ⟨0, 0, l1, Nat.zero_le _, rfl, rfl, by omega, by omega, rfl, ⟨SubInv.start HD1.out⟩, HR3, HB3⟩
  case round =>
    obtain ⟨k, c, out, hk, rfl, rfl, hc0, hc1', hlo, HI, HO, HB⟩ := hrel
    by_cases hlt : k < l1.length
    · obtain ⟨go, co, eo, gb, gl, cl, HG⟩ := Kd.R_form HO.out (by omega)
      obtain ⟨rfl, rfl⟩ : A3 = some ⟨go, 0, none⟩ ∧ c3 = co := by injection eo with e1 e2 e3; exact ⟨e1, e3⟩
      clear eo
      have HGB := Aside0.mk gb
      clear gb gl cl HG
      obtain ⟨hx, hf⟩ := R_at HO.out k (by omega)
      rw [HI.out.rest k (Nat.le_refl k)] at hx
      obtain ⟨ha0, ha1⟩ := rd_dig HD1.out k
      obtain ⟨hb0, hb1⟩ := rd_dig HD2.out k
      by_cases hlb : k < l2.length
      · obtain ⟨ad, ea, hcb⟩ := Kd.at_int (Kd.C_below HC2.out HB.out) (k : Int) (by omega) (by omega)
        rw [Int.toNat_natCast] at hcb
        subst ea
        by_cases hneg : rd l1 (k : Int) - c - rd l2 (k : Int) < 0
        · go_wp2_with fail
          go_roundw
          case rel => exact ⟨k + 1, 1, out.set k (rd l1 (k : Int) - c - rd l2 (k : Int) + 4294967296), by omega, by go_num, rfl, by omega, by omega, by simpa using hlo, ⟨HI.out.step hlt (by omega) (by omega) (by omega)⟩, ⟨R_set HO.out k _⟩, ⟨HB.out.setCell HGB.out _⟩⟩
          case measure => simp [intOf]; omega
        · go_wp2_with fail
          go_roundw
          case rel => exact ⟨k + 1, 0, out.set k (rd l1 (k : Int) - c - rd l2 (k : Int)), by omega, by go_num, rfl, by omega, by omega, by simpa using hlo, ⟨HI.out.step hlt (by omega) (by omega) (by omega)⟩, ⟨R_set HO.out k _⟩, ⟨HB.out.setCell HGB.out _⟩⟩
          case measure => simp [intOf]; omega
      · have hz : rd l2 (k : Int) = 0 := rd_ge l2 k (by omega)
        have HZ := Aside0.mk hz
        clear hz
        by_cases hneg : rd l1 (k : Int) - c < 0
        · go_wp2_with fail
          go_roundw
          case rel => exact ⟨k + 1, 1, out.set k (rd l1 (k : Int) - c + 4294967296), by omega, by go_num, rfl, by omega, by omega, by simpa using hlo, ⟨HI.out.step hlt (by omega) (by omega) (by rw [HZ.out]; omega)⟩, ⟨R_set HO.out k _⟩, ⟨HB.out.setCell HGB.out _⟩⟩
          case measure => simp [intOf]; omega
        · go_wp2_with fail
          go_roundw
          case rel => exact ⟨k + 1, 0, out.set k (rd l1 (k : Int) - c), by omega, by go_num, rfl, by omega, by omega, by simpa using hlo, ⟨HI.out.step hlt (by omega) (by omega) (by rw [HZ.out]; omega)⟩, ⟨R_set HO.out k _⟩, ⟨HB.out.setCell HGB.out _⟩⟩
          case measure => simp [intOf]; omega
    · have hke : k = l1.length := by omega
      subst hke
      have HM := Aside0.mk (HI.out.fin hc0 hc1' hl2 HLE.out)
      have HDo := Aside0.mk HI.out.dig
      have HSl := Aside0.mk (show Sl (fun k => w.heap.size ≤ k) wr (.slice A3 l1.length c3) out from Sl.of_V (Kd.R_V (base' := 0) HO.out))
      clear HO HI
      go_wp2_with (go_at_call 48; refine (trim_any _ _ out _ HSl.out (by omega)).mono ?_; rintro e w4 ⟨v4, r, rfl, hS4, hp4, hb4⟩; have HS4 := Aside0.mk hS4; have HP4 := Aside0.mk hp4; clear hS4 hp4)
      go_ret
      exact ⟨_, r, rfl, HS4.out.mono (fun k hk => .inr (by rcases hk with h | h; exact h; exact Nat.le_trans HB.out.size h)), ⟨by rw [HP4.out.1, HM.out], HP4.out.2.2.2 HDo.out, HP4.out.2.1, by have := HP4.out.2.2.1; omega⟩, HB.out.trans (hb4.mono HB.out.size)⟩

end Go.Proofs.YtlhfmbpijcniaaaGreat.WidemagDiv
