import PyProof.Rows.All
import Wide.All
import OpenK.AllK
import Wide.FinOn
import PySem.Challenge.RW_jy0006_01
open PySem PySem.W PyProof.Rows
set_option Elab.async false
namespace Mine
local macro_rules | `(tactic| walk_at $s:str) => `(tactic| k_extra $s)
section
open PySem PySem.W PyProof.Rows
set_option Elab.async false
set_option maxRecDepth 100000
set_option maxHeartbeats 8000000
open_top hd for PySem.Challenge.rw_jy0006_01
end

section
open PySem PySem.W PyProof.Rows
set_option Elab.async false

/-! multiples of a polynomial over two elements, as numbers -/
inductive Mu (D : Nat) : Nat → Nat → Prop
  | zero : Mu D 0 0
  | skip {k a} : Mu D k a → Mu D (k + 1) a
  | add {k a} : Mu D k a → Mu D (k + 1) (a ^^^ (D <<< k))

theorem Mu.up {D k a : Nat} (h : Mu D k a) : ∀ j, Mu D (k + j) a
  | 0 => h
  | j + 1 => (h.up j).skip
theorem Mu.to {D k a j : Nat} (h : Mu D k a) (hj : k ≤ j) : Mu D j a := by
  have := h.up (j - k)
  rwa [Nat.add_sub_cancel' hj] at this
theorem Mu.nil {D : Nat} (k : Nat) : Mu D k 0 := by simpa using Mu.zero.up k
theorem Mu.base {D : Nat} (k : Nat) : Mu D (k + 1) (D <<< k) := by simpa using (Mu.nil (D := D) k).add
theorem Mu.xor {D k a : Nat} (h : Mu D k a) : ∀ {b}, Mu D k b → Mu D k (a ^^^ b) := by
  induction h with
  | zero => intro b hb; simpa using hb
  | skip _ ih =>
    intro b hb
    cases hb with
    | skip hb => exact (ih hb).skip
    | add hb => rw [← Nat.xor_assoc]; exact (ih hb).add
  | add _ ih =>
    intro b hb
    cases hb with
    | skip hb =>
      rw [Nat.xor_assoc, Nat.xor_comm (D <<< _), ← Nat.xor_assoc]
      exact (ih hb).add
    | add hb =>
      rename_i k a _ b
      have e : a ^^^ D <<< k ^^^ (b ^^^ D <<< k) = a ^^^ b := by
        rw [Nat.xor_assoc, Nat.xor_comm b, ← Nat.xor_assoc (D <<< k), Nat.xor_self, Nat.zero_xor]
      rw [e]
      exact (ih hb).skip
theorem Mu.shl1 {D k a : Nat} (h : Mu D k a) : Mu D (k + 1) (a <<< 1) := by
  induction h with
  | zero => simpa using Mu.nil (D := D) 1
  | skip _ ih => exact ih.skip
  | add _ ih =>
    rw [Nat.shiftLeft_xor_distrib, ← Nat.shiftLeft_add]
    exact ih.add
theorem Mu.shl {D k a : Nat} (h : Mu D k a) : ∀ j, Mu D (k + j) (a <<< j)
  | 0 => by simpa using h
  | j + 1 => by rw [Nat.shiftLeft_add]; exact (h.shl j).shl1

theorem xor_lt {a b n : Nat} (ha : a < 2 ^ n) (hb : b < 2 ^ n) : a ^^^ b < 2 ^ n := Nat.xor_lt_two_pow ha hb
theorem shl_lt {a n : Nat} (k : Nat) (ha : a < 2 ^ n) : a <<< k < 2 ^ (n + k) := by
  rw [Nat.shiftLeft_eq, Nat.pow_add]
  exact Nat.mul_lt_mul_of_pos_right ha (Nat.two_pow_pos k)
theorem Mu.lt {D W k a : Nat} (hD : D < 2 ^ (W + 1)) (h : Mu D k a) : a < 2 ^ (W + k) := by
  induction h with
  | zero => exact Nat.two_pow_pos _
  | skip _ ih => exact Nat.lt_of_lt_of_le ih (Nat.pow_le_pow_right (by decide) (by omega))
  | @add k a _ ih =>
    refine xor_lt (Nat.lt_of_lt_of_le ih (Nat.pow_le_pow_right (by decide) (by omega))) ?_
    have := shl_lt k hD
    rwa [show W + 1 + k = W + (k + 1) from by omega] at this
/-- the one remainder -/
theorem Mu.small {D W k a : Nat} (hD : D < 2 ^ (W + 1)) (hT : D.testBit W = true) (h : Mu D k a) (ha : a < 2 ^ W) : a = 0 := by
  induction h with
  | zero => rfl
  | skip _ ih => exact ih ha
  | @add k a h _ =>
    exfalso
    have h1 : a.testBit (W + k) = false := Nat.testBit_lt_two_pow (h.lt hD)
    have h2 : (a ^^^ D <<< k).testBit (W + k) = true := by
      rw [Nat.testBit_xor, h1, Nat.testBit_shiftLeft]
      simp [hT]
    have h3 : (a ^^^ D <<< k).testBit (W + k) = false := Nat.testBit_lt_two_pow (Nat.lt_of_lt_of_le ha (Nat.pow_le_pow_right (by decide) (by omega)))
    rw [h2] at h3
    cases h3

def Cg (D a b : Nat) : Prop := ∃ k, Mu D k (a ^^^ b)
theorem Cg.refl (D a : Nat) : Cg D a a := ⟨0, by rw [Nat.xor_self]; exact .zero⟩
theorem Cg.of_eq {D a b : Nat} (h : a = b) : Cg D a b := h ▸ Cg.refl D a
theorem Cg.symm {D a b : Nat} (h : Cg D a b) : Cg D b a := by
  obtain ⟨k, h⟩ := h
  exact ⟨k, by rwa [Nat.xor_comm]⟩
theorem Mu.both {D k j a b : Nat} (h : Mu D k a) (g : Mu D j b) : ∃ i, Mu D i (a ^^^ b) := by
  rcases Nat.le_total k j with e | e
  · exact ⟨j, (h.to e).xor g⟩
  · exact ⟨k, h.xor (g.to e)⟩
theorem Cg.trans {D a b c : Nat} (h : Cg D a b) (g : Cg D b c) : Cg D a c := by
  obtain ⟨k, h⟩ := h
  obtain ⟨j, g⟩ := g
  obtain ⟨i, m⟩ := h.both g
  refine ⟨i, ?_⟩
  have e : a ^^^ b ^^^ (b ^^^ c) = a ^^^ c := by
    rw [Nat.xor_assoc, ← Nat.xor_assoc b, Nat.xor_self, Nat.zero_xor]
  rwa [e] at m
theorem Cg.xor {D a b c d : Nat} (h : Cg D a b) (g : Cg D c d) : Cg D (a ^^^ c) (b ^^^ d) := by
  obtain ⟨k, h⟩ := h
  obtain ⟨j, g⟩ := g
  obtain ⟨i, m⟩ := h.both g
  refine ⟨i, ?_⟩
  have e : a ^^^ b ^^^ (c ^^^ d) = a ^^^ c ^^^ (b ^^^ d) := by
    rw [Nat.xor_assoc, ← Nat.xor_assoc b, Nat.xor_comm b c, Nat.xor_assoc c, ← Nat.xor_assoc a]
  rwa [e] at m
theorem Cg.shl {D a b : Nat} (h : Cg D a b) (j : Nat) : Cg D (a <<< j) (b <<< j) := by
  obtain ⟨k, h⟩ := h
  refine ⟨k + j, ?_⟩
  rw [← Nat.shiftLeft_xor_distrib]
  exact h.shl j
theorem Cg.D {D : Nat} (j : Nat) : Cg D (D <<< j) 0 := ⟨j + 1, by rw [Nat.xor_zero]; exact Mu.base j⟩
theorem xor_eq_zero {a b : Nat} (h : a ^^^ b = 0) : a = b := by
  have : a ^^^ b ^^^ b = b := by rw [h, Nat.zero_xor]
  rwa [Nat.xor_assoc, Nat.xor_self, Nat.xor_zero] at this
theorem Cg.one {D W a b : Nat} (hD : D < 2 ^ (W + 1)) (hT : D.testBit W = true) (ha : a < 2 ^ W) (hb : b < 2 ^ W) (h : Cg D a b) : a = b := by
  obtain ⟨k, h⟩ := h
  exact xor_eq_zero (h.small hD hT (xor_lt ha hb))
/-- what has been moved up by m places -/
theorem Mu.down {D m k a : Nat} (h : Mu (D <<< m) k a) : ∃ b, a = b <<< m ∧ Mu D k b := by
  induction h with
  | zero => exact ⟨0, by simp, .zero⟩
  | skip _ ih =>
    obtain ⟨b, e, h⟩ := ih
    exact ⟨b, e, h.skip⟩
  | @add k a _ ih =>
    obtain ⟨b, e, h⟩ := ih
    refine ⟨b ^^^ D <<< k, ?_, h.add⟩
    rw [e, Nat.shiftLeft_xor_distrib, ← Nat.shiftLeft_add, ← Nat.shiftLeft_add, Nat.add_comm]
theorem shl_inj {a b m : Nat} (h : a <<< m = b <<< m) : a = b := by
  rw [Nat.shiftLeft_eq, Nat.shiftLeft_eq] at h
  exact Nat.eq_of_mul_eq_mul_right (Nat.two_pow_pos m) h
theorem Cg.down {D m a b : Nat} (h : Cg (D <<< m) (a <<< m) (b <<< m)) : Cg D a b := by
  obtain ⟨k, h⟩ := h
  rw [← Nat.shiftLeft_xor_distrib] at h
  obtain ⟨c, e, h⟩ := h.down
  exact ⟨k, by rw [shl_inj e]; exact h⟩

-- the remainder
open Classical in
noncomputable def restN (D W n : Nat) : Nat := if h : ∃ r, r < 2 ^ W ∧ Cg D r n then h.choose else 0
theorem restN_lt (D W n : Nat) : restN D W n < 2 ^ W := by
  unfold restN
  split
  · rename_i h; exact h.choose_spec.1
  · exact Nat.two_pow_pos W
theorem restN_eq {D W n r : Nat} (hD : D < 2 ^ (W + 1)) (hT : D.testBit W = true) (hr : r < 2 ^ W) (h : Cg D r n) : r = restN D W n := by
  have ex : ∃ r, r < 2 ^ W ∧ Cg D r n := ⟨r, hr, h⟩
  have e : restN D W n = ex.choose := by unfold restN; rw [dif_pos ex]
  rw [e]
  exact Cg.one hD hT hr ex.choose_spec.1 (h.trans ex.choose_spec.2.symm)

theorem testBit_top {D W : Nat} (h0 : 2 ^ W ≤ D) (h1 : D < 2 ^ (W + 1)) : D.testBit W = true := by
  have : D / 2 ^ W = 1 := by
    have hp := Nat.two_pow_pos W
    refine Nat.div_eq_of_lt_le (by omega) ?_
    rw [Nat.pow_succ] at h1
    omega
  rw [Nat.testBit_eq_decide_div_mod_eq, this]
  rfl
end

section
open PySem PySem.W PyProof.Rows
set_option Elab.async false

theorem nat_xor_and (m : Nat) : ∀ n : Nat, (m ^^^ n) + 2 * (m &&& n) = m + n := by
  induction m using Nat.strongRecOn with
  | ind m ih =>
    intro n
    by_cases h0 : m = 0
    · subst h0; simp
    · have ih' := ih (m / 2) (by omega) (n / 2)
      rw [← Nat.xor_div_two, ← Nat.and_div_two] at ih'
      have o1 := @Nat.xor_mod_two_eq_one m n
      have a1 := @Nat.and_mod_two_eq_one m n
      rcases Nat.mod_two_eq_zero_or_one m with hm | hm <;> rcases Nat.mod_two_eq_zero_or_one n with hn | hn <;> rcases Nat.mod_two_eq_zero_or_one (m ^^^ n) with e1 | e1 <;> rcases Nat.mod_two_eq_zero_or_one (m &&& n) with e2 | e2 <;> simp [hm, hn, e1, e2] at o1 a1 <;> (clear ih h0; omega)
theorem bitXor_pp {x y : Int} (hx : 0 ≤ x) (hy : 0 ≤ y) : Builtin.bitXor x y = ((x.toNat ^^^ y.toNat : Nat) : Int) := by
  rw [bitXor_and, bitAnd_pp hx hy]
  have h := nat_xor_and x.toNat y.toNat
  omega
theorem bitXor_toNat {x y : Int} (hx : 0 ≤ x) (hy : 0 ≤ y) : (Builtin.bitXor x y).toNat = x.toNat ^^^ y.toNat := by
  rw [bitXor_pp hx hy]; rfl
theorem bitXor_nonneg {x y : Int} (hx : 0 ≤ x) (hy : 0 ≤ y) : 0 ≤ Builtin.bitXor x y := by
  rw [bitXor_pp hx hy]; exact Int.natCast_nonneg _
theorem pow_cast (k : Nat) : ((2 ^ k : Nat) : Int) = (2 : Int) ^ k := kbt_cast k
theorem pow_toNat (k : Nat) : ((2 : Int) ^ k).toNat = 2 ^ k := by
  have h := pow_cast k
  rw [← h]
  exact Int.toNat_natCast _
theorem mulpow_toNat {x : Int} (hx : 0 ≤ x) (k : Nat) : (x * 2 ^ k).toNat = x.toNat <<< k := by
  rw [Nat.shiftLeft_eq]
  obtain ⟨n, rfl⟩ := Int.eq_ofNat_of_zero_le hx
  rw [← pow_cast]
  have : ((n : Int) * ((2 ^ k : Nat) : Int)) = ((n * 2 ^ k : Nat) : Int) := by simp
  rw [this]
  rfl
theorem mulpow_nonneg {x : Int} (hx : 0 ≤ x) (k : Nat) : 0 ≤ x * 2 ^ k := Int.mul_nonneg hx (Int.le_of_lt (kbt_pos k))
theorem toNat_lt_pow {x : Int} {k : Nat} (h : x < 2 ^ k) : x.toNat < 2 ^ k := by
  have := pow_cast k
  have hp := kbt_pos k
  omega
theorem lt_pow_of_toNat {x : Int} {k : Nat} (h : x.toNat < 2 ^ k) : x < 2 ^ k := by
  have := pow_cast k
  omega
theorem intBits_pos {x : Int} (h : 0 < x) : 2 ^ (Builtin.Int.intBits x - 1) ≤ x.toNat ∧ x.toNat < 2 ^ Builtin.Int.intBits x ∧ 0 < Builtin.Int.intBits x := by
  unfold Builtin.Int.intBits
  have e : (x == 0) = false := by simp; omega
  rw [e]
  have e2 : x.natAbs = x.toNat := by omega
  rw [e2]
  have hz : x.toNat ≠ 0 := by omega
  exact ⟨by simpa using Nat.log2_self_le hz, by simpa using Nat.lt_log2_self, by simp⟩
theorem intBits_zero : Builtin.Int.intBits 0 = 0 := rfl
theorem intBits_le {x : Int} {k : Nat} (h0 : 0 ≤ x) (h : x.toNat < 2 ^ k) : Builtin.Int.intBits x ≤ k := by
  by_cases hx : x = 0
  · subst hx; simp [intBits_zero]
  · obtain ⟨a, b, c⟩ := intBits_pos (show 0 < x by omega)
    refine Nat.le_of_not_lt fun hk => ?_
    have : 2 ^ k ≤ 2 ^ (Builtin.Int.intBits x - 1) := Nat.pow_le_pow_right (by decide) (by omega)
    omega
theorem lt_of_intBits {x : Int} {k : Nat} (h0 : 0 ≤ x) (h : Builtin.Int.intBits x ≤ k) : x.toNat < 2 ^ k := by
  by_cases hx : x = 0
  · subst hx; exact Nat.two_pow_pos k
  · obtain ⟨a, b, c⟩ := intBits_pos (show 0 < x by omega)
    exact Nat.lt_of_lt_of_le b (Nat.pow_le_pow_right (by decide) h)

noncomputable def restI (d sz n : Int) : Int := ((restN d.toNat sz.toNat n.toNat : Nat) : Int)
structure DivOk (d sz : Int) : Prop where
  s0 : 0 ≤ sz
  s1 : sz ≤ 64
  lo : 2 ^ sz.toNat ≤ d.toNat
  hi : d.toNat < 2 ^ (sz.toNat + 1)
theorem DivOk.d0 {d sz : Int} (h : DivOk d sz) : 0 ≤ d := by
  have := h.lo
  have := Nat.two_pow_pos sz.toNat
  omega

theorem rest_start {d n : Int} (h0 : 0 ≤ n) (h1 : n < 2 ^ 90) : 0 ≤ n ∧ n < 2 ^ 90 ∧ (Builtin.Int.intBits n : Int) ≤ 90 ∧ Cg d.toNat n.toNat n.toNat :=
  ⟨h0, h1, by have := intBits_le (k := 90) h0 (toNat_lt_pow h1); omega, Cg.refl _ _⟩

theorem rest_step {d sz n : Int} (ok : DivOk d sz) (h0 : 0 ≤ n) (ht : sz < (Builtin.Int.intBits n : Int)) :
    (Builtin.bitXor n (d * 2 ^ ((Builtin.Int.intBits n : Int) - sz - 1).toNat)).toNat < n.toNat := by
  have hz : 0 < n := by
    rcases Int.lt_or_eq_of_le h0 with q | q
    · exact q
    · exfalso
      rw [← q, intBits_zero] at ht
      have := ok.s0
      omega
  obtain ⟨a, b, c⟩ := intBits_pos hz
  have hd := ok.d0
  rw [bitXor_toNat h0 (mulpow_nonneg hd _), mulpow_toNat hd]
  have hs := ok.s0
  obtain ⟨k, hk⟩ : ∃ k, Builtin.Int.intBits n = sz.toNat + 1 + k := ⟨Builtin.Int.intBits n - sz.toNat - 1, by omega⟩
  have ek : ((Builtin.Int.intBits n : Int) - sz - 1).toNat = k := by omega
  rw [ek]
  rw [hk] at a b
  have hn : n.toNat.testBit (sz.toNat + k) = true := by
    refine testBit_top (W := sz.toNat + k) ?_ ?_
    · simpa [Nat.add_right_comm] using a
    · rwa [Nat.add_right_comm] at b
  have hD : (d.toNat <<< k).testBit (sz.toNat + k) = true := by
    rw [Nat.testBit_shiftLeft]
    simp [testBit_top ok.lo ok.hi]
  have hl : n.toNat ^^^ d.toNat <<< k < 2 ^ (sz.toNat + k) := by
    refine Nat.lt_pow_two_of_testBit _ fun i hi => ?_
    rcases Nat.lt_or_ge (sz.toNat + k) i with g | g
    · have e1 : n.toNat.testBit i = false := Nat.testBit_lt_two_pow (Nat.lt_of_lt_of_le b (Nat.pow_le_pow_right (by decide) (by omega)))
      have e2 : (d.toNat <<< k).testBit i = false := Nat.testBit_lt_two_pow (Nat.lt_of_lt_of_le (shl_lt k ok.hi) (Nat.pow_le_pow_right (by decide) (by omega)))
      rw [Nat.testBit_xor, e1, e2]; rfl
    · have : i = sz.toNat + k := by omega
      subst this
      rw [Nat.testBit_xor, hn, hD]; rfl
  have : 2 ^ (sz.toNat + k) ≤ n.toNat := by simpa [Nat.add_right_comm] using a
  omega

theorem rest_turn {d sz n n₀ : Int} (ok : DivOk d sz) (h0 : 0 ≤ n) (h1 : n < 2 ^ 90) (hc : Cg d.toNat n.toNat n₀.toNat) (ht : sz < (Builtin.Int.intBits n : Int)) :
    0 ≤ Builtin.bitXor n (d * 2 ^ ((Builtin.Int.intBits n : Int) - sz - 1).toNat) ∧ Builtin.bitXor n (d * 2 ^ ((Builtin.Int.intBits n : Int) - sz - 1).toNat) < 2 ^ 90 ∧
    (Builtin.Int.intBits (Builtin.bitXor n (d * 2 ^ ((Builtin.Int.intBits n : Int) - sz - 1).toNat)) : Int) ≤ 90 ∧ Cg d.toNat (Builtin.bitXor n (d * 2 ^ ((Builtin.Int.intBits n : Int) - sz - 1).toNat)).toNat n₀.toNat := by
  have hs := rest_step ok h0 ht
  have hd := ok.d0
  have hn := bitXor_nonneg h0 (mulpow_nonneg hd ((Builtin.Int.intBits n : Int) - sz - 1).toNat)
  have hl : (Builtin.bitXor n (d * 2 ^ ((Builtin.Int.intBits n : Int) - sz - 1).toNat)).toNat < 2 ^ 90 := Nat.lt_trans hs (toNat_lt_pow h1)
  refine ⟨hn, by omega, by have := intBits_le hn hl; omega, ?_⟩
  rw [bitXor_toNat h0 (mulpow_nonneg hd _), mulpow_toNat hd]
  have := hc.xor (Cg.D (D := d.toNat) ((Builtin.Int.intBits n : Int) - sz - 1).toNat)
  rwa [Nat.xor_zero] at this

theorem rest_done {d sz n n₀ : Int} (ok : DivOk d sz) (h0 : 0 ≤ n) (hc : Cg d.toNat n.toNat n₀.toNat) (ht : ¬ sz < (Builtin.Int.intBits n : Int)) : n = restI d sz n₀ := by
  have hs := ok.s0
  have hl : n.toNat < 2 ^ sz.toNat := lt_of_intBits h0 (by omega)
  have := restN_eq ok.hi (testBit_top ok.lo ok.hi) hl hc
  unfold restI
  omega
end

section
open PySem PySem.W PyProof.Rows
set_option Elab.async false

/-- the first k digits, turned -/
def turnN (n : Nat) : Nat → Nat
  | 0 => 0
  | k + 1 => turnN n k * 2 + (n >>> k) % 2
def turnI (n sz : Int) : Int := ((turnN n.toNat sz.toNat : Nat) : Int)
theorem turnN_lt (n : Nat) : ∀ k, turnN n k < 2 ^ k
  | 0 => by simp [turnN]
  | k + 1 => by
    have := turnN_lt n k
    rw [turnN, Nat.pow_succ]
    omega
theorem turnN_bit (n : Nat) : ∀ k i, (turnN n k).testBit i = (decide (i < k) && n.testBit (k - 1 - i))
  | 0, i => by simp [turnN]
  | k + 1, 0 => by
    rw [turnN, Nat.testBit_zero]
    simp only [Nat.zero_lt_succ, decide_true, Bool.true_and, Nat.sub_zero, Nat.add_sub_cancel]
    rw [Nat.testBit, Nat.and_comm, Nat.and_one_is_mod]
    have h : (turnN n k * 2 + n >>> k % 2) % 2 = n >>> k % 2 := by rw [Nat.add_comm, Nat.add_mul_mod_self_right, Nat.mod_mod]
    rw [h]
    rcases Nat.mod_two_eq_zero_or_one (n >>> k) with e | e <;> rw [e] <;> rfl
  | k + 1, i + 1 => by
    rw [turnN, Nat.testBit_succ, show (turnN n k * 2 + n >>> k % 2) / 2 = turnN n k from by rw [Nat.add_comm, Nat.add_mul_div_right _ _ (by decide), Nat.div_eq_of_lt (Nat.mod_lt _ (by decide)), Nat.zero_add], turnN_bit n k i]
    have : k + 1 - 1 - (i + 1) = k - 1 - i := by rw [Nat.add_sub_cancel, Nat.sub_sub, Nat.add_comm]
    rw [this]
    simp
theorem turn_fold {n : Int} (h0 : 0 ≤ n) (k : Nat) : (List.foldl (fun (σ : Int × Unit) (j : Int) => (σ.1 * 2 + Int.fmod (Int.fdiv n (2 ^ j.toNat)) 2, ())) (0, ()) (rangeInts 0 1 k)).1 = ((turnN n.toNat k : Nat) : Int) := by
  induction k with
  | zero => rfl
  | succ k ih =>
    rw [rangeInts_snoc, List.foldl_append, List.foldl_cons, List.foldl_nil]
    simp only []
    rw [ih, turnN]
    have e1 : ((0 : Int) + (k : Nat) * 1).toNat = k := by omega
    rw [e1, Int.fdiv_eq_ediv_of_nonneg _ (Int.le_of_lt (kbt_pos k)), Int.fmod_eq_emod_of_nonneg _ (show (0 : Int) ≤ 2 by decide)]
    obtain ⟨m, rfl⟩ := Int.eq_ofNat_of_zero_le h0
    rw [← pow_cast, Nat.shiftRight_eq_div_pow]
    simp
theorem turnI_nonneg (n sz : Int) : 0 ≤ turnI n sz := Int.natCast_nonneg _
end

section
open PySem PySem.W PyProof.Rows
set_option Elab.async false

def streamI (S : Int) (ti : Bool) (ws : List Int) : Int := ws.foldl (fun s w => s * 2 ^ S.toNat + (if ti = true then turnI w S else w)) 0
def WordsOk (S : Int) (ws : List Int) : Prop := ∀ x ∈ ws, 0 ≤ x ∧ x < 2 ^ S.toNat
theorem streamI_snoc (S : Int) (ti : Bool) (ws : List Int) (w : Int) : streamI S ti (ws ++ [w]) = streamI S ti ws * 2 ^ S.toNat + (if ti = true then turnI w S else w) := by
  unfold streamI
  rw [List.foldl_append]
  rfl
theorem turnI_lt (n S : Int) : turnI n S < 2 ^ S.toNat := by
  have := turnN_lt n.toNat S.toNat
  unfold turnI
  have h := pow_cast S.toNat
  omega
theorem pow_mono {a b : Nat} (h : a ≤ b) : (2 : Int) ^ a ≤ 2 ^ b := by
  have h1 := pow_cast a
  have h2 := pow_cast b
  have : 2 ^ a ≤ 2 ^ b := Nat.pow_le_pow_right (by decide) h
  omega
theorem horner_lt {x y : Int} {a b : Nat} (hx : x < 2 ^ a) (hx0 : 0 ≤ x) (hy : y < 2 ^ b) (hy0 : 0 ≤ y) : 0 ≤ x * 2 ^ b + y ∧ x * 2 ^ b + y < 2 ^ (a + b) := by
  have h1 := mulpow_nonneg hx0 b
  refine ⟨by omega, ?_⟩
  rw [Int.pow_add]
  have h2 : (x + 1) * 2 ^ b ≤ 2 ^ a * 2 ^ b := Int.mul_le_mul_of_nonneg_right (by omega) (Int.le_of_lt (kbt_pos b))
  rw [Int.add_mul, Int.one_mul] at h2
  omega
theorem streamI_bound {S : Int} {ti : Bool} : ∀ (ws : List Int), WordsOk S ws → 0 ≤ streamI S ti ws ∧ streamI S ti ws < 2 ^ (S.toNat * ws.length) := by
  refine PyProof.Rows.FinIter.snoc_ind ?_ ?_
  · intro _; simp [streamI]
  · intro ws w ih h
    have ih := ih fun x hx => h x (List.mem_append.mpr (.inl hx))
    have hw := h w (by simp)
    rw [streamI_snoc, List.length_append, List.length_singleton, Nat.mul_add, Nat.mul_one]
    cases ti with
    | true => exact horner_lt ih.2 ih.1 (turnI_lt w S) (turnI_nonneg w S)
    | false => exact horner_lt ih.2 ih.1 hw.2 hw.1
/-- a few words fit -/
theorem streamI_fit {S : Int} {ti : Bool} {ws : List Int} (h : WordsOk S ws) (hs : S.toNat * ws.length ≤ 63) : 0 ≤ streamI S ti ws ∧ streamI S ti ws < 2 ^ 63 := by
  have hb := streamI_bound (ti := ti) ws h
  exact ⟨hb.1, Int.lt_of_lt_of_le hb.2 (pow_mono hs)⟩
/-- the word of the loop -/
theorem stream_turn {S : Int} {ti : Bool} {ws pre post : List Int} {n s s' : Int} (h : WordsOk S ws) (hs : S.toNat * ws.length ≤ 63) (e : ws = pre ++ n :: post) (hp : s = streamI S ti pre)
    (hs' : s' = s * 2 ^ S.toNat + (if ti = true then turnI n S else n)) : s' = streamI S ti (pre ++ [n]) ∧ 0 ≤ s' ∧ s' < 2 ^ 63 := by
  have e' : s' = streamI S ti (pre ++ [n]) := by rw [streamI_snoc, ← hp, hs']
  refine ⟨e', ?_⟩
  rw [e']
  refine streamI_fit (fun x hx => h x ?_) (Nat.le_trans (Nat.mul_le_mul_left _ ?_) hs)
  · rw [e]; simp at hx ⊢; rcases hx with hx | hx <;> simp [hx]
  · rw [e]; simp

theorem stream_turnT {S : Int} {ti : Bool} {ws pre post : List Int} {n s s' : Int} (h : WordsOk S ws) (hs : S.toNat * ws.length ≤ 63) (e : ws = pre ++ n :: post) (hp : s = streamI S ti pre) (ht : ti = true)
    (hs' : s' = s * 2 ^ S.toNat + turnI n S) : s' = streamI S ti (pre ++ [n]) ∧ 0 ≤ s' ∧ s' < 2 ^ 63 := stream_turn h hs e hp (by rw [hs', if_pos ht])
theorem stream_turnF {S : Int} {ti : Bool} {ws pre post : List Int} {n s s' : Int} (h : WordsOk S ws) (hs : S.toNat * ws.length ≤ 63) (e : ws = pre ++ n :: post) (hp : s = streamI S ti pre) (ht : ti = false)
    (hs' : s' = s * 2 ^ S.toNat + n) : s' = streamI S ti (pre ++ [n]) ∧ 0 ≤ s' ∧ s' < 2 ^ 63 := stream_turn h hs e hp (by rw [hs', if_neg (by rw [ht]; decide)])

def outI (to : Bool) (W r : Int) : Int := if to = true then turnI r W else r
noncomputable def restOf (d W f S : Int) (ti : Bool) (ws : List Int) : Int := restI d W (Builtin.bitXor (streamI S ti ws * 2 ^ W.toNat) (f * 2 ^ (S * (ws.length : Int)).toNat))
noncomputable def sumI (W d f l : Int) (ti to : Bool) (ws : List Int) (S : Int) : Int := Builtin.bitXor (outI to W (restOf d W f S ti ws)) l
theorem sum_outT {W d f l st : Int} {ti to : Bool} {ws : List Int} {S : Int} (ht : to = true) (hs : st = streamI S ti ws) :
    Builtin.bitXor (turnI (restI d W (Builtin.bitXor (st * 2 ^ W.toNat) (f * 2 ^ (S * (ws.length : Int)).toNat))) W) l = sumI W d f l ti to ws S := by
  unfold sumI outI restOf
  rw [if_pos ht, hs]
theorem sum_outF {W d f l st : Int} {ti to : Bool} {ws : List Int} {S : Int} (ht : to = false) (hs : st = streamI S ti ws) :
    Builtin.bitXor (restI d W (Builtin.bitXor (st * 2 ^ W.toNat) (f * 2 ^ (S * (ws.length : Int)).toNat))) l = sumI W d f l ti to ws S := by
  unfold sumI outI restOf
  rw [if_neg (by rw [ht]; decide), hs]
theorem outI_nonneg {to : Bool} {W r : Int} (h : 0 ≤ r) : 0 ≤ outI to W r := by
  unfold outI
  split
  · exact turnI_nonneg _ _
  · exact h
theorem restI_nonneg (d W n : Int) : 0 ≤ restI d W n := Int.natCast_nonneg _
theorem restI_lt (d W n : Int) : restI d W n < 2 ^ W.toNat := by
  have := restN_lt d.toNat W.toNat n.toNat
  unfold restI
  have h := pow_cast W.toNat
  omega
theorem xor_bound {a b : Int} {k : Nat} (ha : 0 ≤ a) (hb : 0 ≤ b) (h1 : a < 2 ^ k) (h2 : b < 2 ^ k) : 0 ≤ Builtin.bitXor a b ∧ Builtin.bitXor a b < 2 ^ k := by
  refine ⟨bitXor_nonneg ha hb, lt_pow_of_toNat ?_⟩
  rw [bitXor_toNat ha hb]
  exact xor_lt (toNat_lt_pow h1) (toNat_lt_pow h2)
theorem mulpow_lt {x : Int} {a : Nat} (hx : x < 2 ^ a) (b : Nat) : x * 2 ^ b < 2 ^ (a + b) := by
  rw [Int.pow_add]
  exact Int.mul_lt_mul_of_pos_right hx (kbt_pos b)
/-- what the sum's division starts from -/
theorem sum_in {W f S : Int} {ti : Bool} {ws : List Int} (hW0 : 0 ≤ W) (hW : W ≤ 16) (hf0 : 0 ≤ f) (hf : f < 2 ^ W.toNat) (h : WordsOk S ws) (hS : 0 ≤ S) (hs : S.toNat * ws.length ≤ 63) :
    0 ≤ Builtin.bitXor (streamI S ti ws * 2 ^ W.toNat) (f * 2 ^ (S * (ws.length : Int)).toNat) ∧ Builtin.bitXor (streamI S ti ws * 2 ^ W.toNat) (f * 2 ^ (S * (ws.length : Int)).toNat) < 2 ^ 90 := by
  have hb := streamI_fit (ti := ti) h hs
  have e : (S * (ws.length : Int)).toNat = S.toNat * ws.length := by
    obtain ⟨n, rfl⟩ := Int.eq_ofNat_of_zero_le hS
    rfl
  rw [e]
  refine xor_bound (mulpow_nonneg hb.1 _) (mulpow_nonneg hf0 _) ?_ ?_
  · exact Int.lt_of_lt_of_le (mulpow_lt hb.2 _) (pow_mono (by omega))
  · exact Int.lt_of_lt_of_le (mulpow_lt hf _) (pow_mono (by omega))
end

section
open PySem PySem.W PyProof.Rows
set_option Elab.async false
set_option maxRecDepth 100000
set_option maxHeartbeats 8000000
/-- what a call of f with vs gives back: nothing that stands is touched, a value R comes back -/
abbrev Cl (k : Nat) (w : World) (loose : List Str) (mean : ExcName → Option Value) (mg mb : Str → Option Value) (f : Addr) (news : List (Addr × Obj)) (pre : Prop) (vs : List Value) (R : Tok → Value) : Prop :=
  ∀ (dp un : Nat) (gd : Option (List Code)) (cn : Str) (cs : Scope) (a : Addr) (ccd : Value) (cl : List (Str × Addr)) (outer : List Env) (A₀ : Around) (base h₀ : Heap) (L : Addr) (m : Str → Option Value) (s : Shared) (Q E : Value → Shared → Prop),
    Below A₀ base outer h₀ → Fr h₀ L s.heap m → (hd.heap_39 w.params).In h₀ → News h₀ L s.heap news → Top hd.view_39 loose mean mg mb h₀ → cs.kind = .function →
    dp + k < recursionLimit → un + 8 * k < cLine → pre → (∀ (t : Tok) (h' : Heap) (tk' : Nat), Fr h₀ L h' m → News h₀ L h' news → Q (R t) { s with heap := h', toks := tk' }) →
      wpAny (model PySem.Challenge.rw_jy0006_01.row.toRowW.prog w) (ktrTop dp un gd cn cs L a ccd cl outer) (call (.ref f) vs) Q E s
theorem Cl.use {k : Nat} {w : World} {loose : List Str} {mean : ExcName → Option Value} {mg mb : Str → Option Value} {f : Addr} {news : List (Addr × Obj)} {pre : Prop} {vs : List Value} {R : Tok → Value}
  {dp un : Nat} {gd : Option (List Code)} {cn : Str} {cs : Scope} {a : Addr} {ccd : Value} {cl : List (Str × Addr)} {outer : List Env} {A₀ : Around} {base h₀ : Heap} {L : Addr} {m : Str → Option Value} {s : Shared} {Q E : Value → Shared → Prop}
   (B : Below A₀ base outer h₀) (F : Fr h₀ L s.heap m) (X : (hd.heap_39 w.params).In h₀) (N : News h₀ L s.heap news) (T : Top hd.view_39 loose mean mg mb h₀) (hk : cs.kind = .function) (C : Cl k w loose mean mg mb f news pre vs R)
   (hd1 : dp + k < recursionLimit) (hu1 : un + 8 * k < cLine) (p : pre) (ret : ∀ (t : Tok) (h' : Heap) (tk' : Nat), Fr h₀ L h' m → News h₀ L h' news → Q (R t) { s with heap := h', toks := tk' }) :
   wpAny (model PySem.Challenge.rw_jy0006_01.row.toRowW.prog w) (ktrTop dp un gd cn cs L a ccd cl outer) (call (.ref f) vs) Q E s :=
  C dp un gd cn cs a ccd cl outer A₀ base h₀ L m s Q E B F X N T hk hd1 hu1 p ret

/-- the fields of a Parameters -/
abbrev parD (h1 h2 h3 h4 h5 h6 h7 : Int) (k1 k2 k3 k4 k5 k6 k7 t1 t2 t3 t6 t7 : Tok) (W P I : Int) (ti to : Bool) (X S : Int) : List DictEntry :=
  [⟨h1, .str "_crc_width" k1, .int W t1⟩, ⟨h2, .str "_polynomial" k2, .int P t2⟩, ⟨h3, .str "_initial_crc" k3, .int I t3⟩, ⟨h4, .str "_reflect_input" k4, .bool ti⟩, ⟨h5, .str "_reflect_output" k5, .bool to⟩, ⟨h6, .str "_xor_output" k6, .int X t6⟩, ⟨h7, .str "data_width" k7, .int S t7⟩]
/-- the fields of an Algorithm -/
abbrev algD (h1 h2 h3 h4 h5 h6 : Int) (k1 k2 k3 k4 k5 k6 t1 t2 t3 t6 : Tok) (W P I : Int) (ti to : Bool) (X : Int) : List DictEntry :=
  [⟨h1, .str "crc_width" k1, .int W t1⟩, ⟨h2, .str "polynomial" k2, .int P t2⟩, ⟨h3, .str "initial_crc" k3, .int I t3⟩, ⟨h4, .str "reflect_input" k4, .bool ti⟩, ⟨h5, .str "reflect_output" k5, .bool to⟩, ⟨h6, .str "xor_output" k6, .int X t6⟩]
def Fine (W P I X : Int) : Prop := 0 < W ∧ (0 ≤ P ∧ P < 2 ^ W.toNat) ∧ (0 ≤ I ∧ I < 2 ^ W.toNat) ∧ (0 ≤ X ∧ X < 2 ^ W.toNat)
theorem of_allLt {d : Addr} : ∀ {l : List (Addr × Obj)}, AllLt d l → ∀ p ∈ l, p.1 < d
  | [], _, p, hp => nomatch hp
  | q :: r, h, p, hp => by
    rcases List.mem_cons.mp hp with rfl | hp
    · exact h.1
    · exact of_allLt h.2 p hp
theorem RaisedN.sub {base : Heap} {l : List Env} {e : Addr} {cls : Value} {news news' : List (Addr × Obj)} {h : Heap} (R : RaisedN base l e cls news h) (hs : ∀ p ∈ news', p ∈ news) : RaisedN base l e cls news' h := by
  obtain ⟨B, a0, h1, h2, h3⟩ := R
  exact ⟨B, a0, h1, fun q hq => h2 q (hs q hq), h3⟩
theorem room_le {a k r : Nat} (h : a + k < r) (j : Nat) (hj : j ≤ k) : a + j < r := Nat.lt_of_le_of_lt (Nat.add_le_add_left hj a) h
theorem turned_tells (w : World) (loose : List Str) (mean : ExcName → Option Value) (mg mb : Str → Option Value) (news : List (Addr × Obj)) (n sz : Int) (t1 t2 : Tok) :
    Cl 1 w loose mean mg mb 163 news (0 ≤ n ∧ 0 ≤ sz ∧ sz ≤ 64) [.int n t1, .int sz t2] (fun t => .int (turnI n sz) t) := by
  k_with_none
  dsimp only [Cl]
  k_fill
  intros
  rename_i hd1 hu1 hpre hret
  obtain ⟨hn0, hs0, hs1⟩ := hpre
  refine wpAny_call ?_
  k_dflt cell_enter
  k_steps
  all_goals refine cb_retI hret ?_ (by k_asm) (by k_asm)
  all_goals refine (turn_fold hn0 _).trans ?_
  all_goals (unfold turnI; rw [Int.sub_zero])

theorem rest_tells (w : World) (loose : List Str) (mean : ExcName → Option Value) (mg mb : Str → Option Value) (news : List (Addr × Obj)) (n d sz : Int) (t1 t2 t3 : Tok) :
    Cl 1 w loose mean mg mb 170 news (DivOk d sz ∧ d < 2 ^ 64 ∧ 0 ≤ n ∧ n < 2 ^ 90) [.int n t1, .int d t2, .int sz t3] (fun t => .int (restI d sz n) t) := by
  k_with_none
  dsimp only [Cl]
  k_fill
  intros
  rename_i hd1 hu1 hpre hret
  obtain ⟨hok, hd64, hn0, hn1⟩ := hpre
  have hd0 := hok.d0
  have hs0 := hok.s0
  have hs1 := hok.s1
  refine wpAny_call ?_
  k_dflt cell_enter
  (k_with "state" => first | exact rest_start (by assumption) (by assumption) | exact rest_turn (by assumption) (by assumption) (by assumption) (by assumption) (by assumption))
  (k_with "measure" => exact rest_step (by assumption) (by assumption) (by assumption))
  (k_with "exec While Compare cons nil" => k_while_given ["divisor", "size", "number!"] (fun d sz n₀ _ n => 0 ≤ n ∧ n < 2 ^ 90 ∧ (Builtin.Int.intBits n : Int) ≤ 90 ∧ Cg d.toNat n.toNat n₀.toNat) (fun d sz n₀ _ n => n.toNat) "number")
  k_steps
  all_goals refine cb_retI hret ?_ (by k_asm) (by k_asm)
  all_goals exact rest_done (by assumption) (by assumption) (by assumption) (by assumption)

def fieldI (n w : Int) : Int := if Int.fmod n 13 = 12 then (if Int.fmod (Int.fdiv n 13) 2 = 0 then -1 else 2 ^ w.toNat) else Int.fmod n (2 ^ w.toNat)
theorem field_tells (w : World) (loose : List Str) (mean : ExcName → Option Value) (mg mb : Str → Option Value) (news : List (Addr × Obj)) (n sz : Int) (t1 t2 : Tok) :
    Cl 1 w loose mean mg mb 184 news (0 ≤ sz ∧ sz ≤ 64) [.int n t1, .int sz t2] (fun t => .int (fieldI n sz) t) := by
  k_with_none
  dsimp only [Cl]
  k_fill
  intros
  rename_i hd1 hu1 hpre hret
  obtain ⟨hs0, hs1⟩ := hpre
  refine wpAny_call ?_
  k_dflt cell_enter
  k_steps
  all_goals refine cb_retI hret ?_ (by k_asm) (by k_asm)
  all_goals (unfold fieldI; simp [*])
theorem News_add {h₀ h : Heap} {L : Addr} {news : List (Addr × Obj)} {p : Addr × Obj} (N : News h₀ L h news) (hp : p ∈ news) : News h₀ L h (p :: news) := fun q hq => by
  rcases List.mem_cons.mp hq with rfl | hq
  · exact N _ hp
  · exact N _ hq
end

section
open PySem PySem.W PyProof.Rows
set_option Elab.async false
set_option maxRecDepth 100000
set_option maxHeartbeats 8000000
theorem isList_keeps {h₀ h : Heap} {l : Addr} {its : Array Value} (hl : h₀.IsList l its) (k : ∀ b o, h₀.get? b = some o → h.get? b = some o) : h.IsList l its := by
  obtain ⟨o, ho, r⟩ := hl
  exact ⟨o, k _ _ ho, r⟩
/-- a cell of the script, or nought -/
def atI (ns : List Int) (k : Int) : Int := if k < (ns.length : Int) then ns.getD k.toNat 0 else 0
theorem atI_in {ns : List Int} {k : Int} (h : k < (ns.length : Int)) : ns.getD k.toNat 0 = atI ns k := by unfold atI; rw [if_pos h]
theorem atI_out {ns : List Int} {k : Int} (h : ¬ k < (ns.length : Int)) : 0 = atI ns k := by unfold atI; rw [if_neg h]
theorem at_tells {w : World} {loose : List Str} {mean : ExcName → Option Value} {mg mb : Str → Option Value} {news : List (Addr × Obj)} {l : Addr} {vs : List Value} {ns : List Int} {k : Int} {t1 : Tok}
  {dp un : Nat} {gd : Option (List Code)} {cn : Str} {cs : Scope} {a : Addr} {ccd : Value} {cl : List (Str × Addr)} {outer : List Env} {A₀ : Around} {base h₀ : Heap} {L : Addr} {m : Str → Option Value} {s : Shared} {Q E : Value → Shared → Prop}
   (B : Below A₀ base outer h₀) (F : Fr h₀ L s.heap m) (K : (hd.heap_39 w.params).In h₀) (N : News h₀ L s.heap news) (T : Top hd.view_39 loose mean mg mb h₀) (hk : cs.kind = .function)
   (hl : h₀.IsList l vs.toArray) (hi : IntsAre vs ns) (hd1 : dp + 1 < recursionLimit) (hu1 : un + 8 * 1 < cLine) (h0 : 0 ≤ k) (h1 : k < 100) (hn : ns.length ≤ 63)
   (ret : ∀ (t : Tok) (h' : Heap) (tk' : Nat), Fr h₀ L h' m → News h₀ L h' news → Q (.int (atI ns k) t) { s with heap := h', toks := tk' }) :
   wpAny (model PySem.Challenge.rw_jy0006_01.row.toRowW.prog w) (ktrTop dp un gd cn cs L a ccd cl outer) (call (.ref 156) [.ref l, .int k t1]) Q E s := by
  k_with_none
  (k_with "call builtin:len" => (k_here; (with_reducible show wpAny _ _ (call (Value.builtin _) [Value.ref _]) _ _ _); (rename Fr _ _ _ _ => fB'); (have hL9 := isList_keeps (isList_keeps (by assumption) (Fr.keep (by assumption))) (Fr.keep fB')); with_unfolding_all refine' len_ints_fit hL9 (by assumption) (by omega) ?_))
  (k_with "subscriptTail Name Name ref int" => ((with_reducible show wpAny _ _ (subscriptTail _ _ (Value.ref _) (Value.int _ _)) _ _ _); (rename Fr _ _ _ _ => fB'); (have hL9 := isList_keeps (isList_keeps (by assumption) (Fr.keep (by assumption))) (Fr.keep fB')); with_unfolding_all refine' item_list_ints hL9 (by assumption) (by omega) (by omega) (by omega) ?_))
  revert B F K N T hk hl hi hd1 hu1 h0 h1 hn ret
  k_fill
  intros
  rename_i hret
  refine wpAny_call ?_
  k_dflt cell_enter
  k_steps
  all_goals refine cb_retI hret ?_ (by k_asm) (by k_asm)
  · exact atI_in (by assumption)
  · exact atI_out (by assumption)
end

section
open PySem PySem.W PyProof.Rows
set_option Elab.async false
set_option maxRecDepth 100000
set_option maxHeartbeats 8000000

theorem sum_tells (w : World) (loose : List Str) (mean : ExcName → Option Value) (mg mb : Str → Option Value) (news : List (Addr × Obj)) (W d f l S : Int) (ti to : Bool) (lw : Addr) (vs : List Value) (nn : Nat) (ws : List Int) (t1 t2 t3 t4 t5 : Tok)
    (hm : (lw, listOf vs.toArray nn) ∈ news) (hi : IntsAre vs ws) :
    Cl 2 w loose mean mg mb 177 news (0 ≤ W ∧ W ≤ 16 ∧ DivOk d W ∧ d < 2 ^ 64 ∧ 0 ≤ f ∧ f < 2 ^ W.toNat ∧ 0 ≤ l ∧ f < 2 ^ 64 ∧ 0 ≤ S ∧ S ≤ 9 ∧ WordsOk S ws ∧ ws.length ≤ 7)
      [.int W t1, .int d t2, .int f t3, .int l t4, .bool ti, .bool to, .ref lw, .int S t5] (fun t => .int (sumI W d f l ti to ws S) t) := by
  k_with_none
  (k_with "InvEndN" => k_dflt kst_close)
  (k_with "call ref" => (k_here; k_dflt (refine' Cl.use (by k_asm) (by k_asm) (by k_asm) (by k_asm) (by k_asm) (by first | exact rfl | assumption) (turned_tells _ _ _ _ _ _ _ _ _ _) (by ktr_room) (by ktr_units) (by first | exact ⟨by omega, by omega, by omega⟩ | k_extra "turned") ?_; k_whole; intro t9 h9 tk9 F9 N9; (try dsimp only); (try k_fold))))
  (k_with "call ref" => (k_here; k_dflt (refine' Cl.use (by k_asm) (by k_asm) (by k_asm) (by k_asm) (by k_asm) (by first | exact rfl | assumption) (rest_tells _ _ _ _ _ _ _ _ _ _ _ _) (by ktr_room) (by ktr_units) (by first | exact ⟨by assumption, by omega, by omega, by omega⟩ | k_extra "rest") ?_; k_whole; intro t9 h9 tk9 F9 N9; (try dsimp only); (try k_fold))))
  dsimp only [Cl]
  k_fill
  intros
  rename_i hd1 hu1 hpre hret
  obtain ⟨hW0, hW1, hok, hd64, hf0, hf1, hl0, hf64, hS0, hS1, hws, hlen⟩ := hpre
  have hp0 : 0 ≤ S * (ws.length : Int) := Int.mul_nonneg hS0 (Int.natCast_nonneg _)
  have hp1 : S * (ws.length : Int) ≤ 63 := Int.le_trans (Int.mul_le_mul hS1 (show (ws.length : Int) ≤ 7 by omega) (Int.natCast_nonneg _) (by decide)) (by decide)
  have hfit : S.toNat * ws.length ≤ 63 := Nat.le_trans (Nat.mul_le_mul (show S.toNat ≤ 9 by omega) hlen) (by decide)
  have hin := sum_in (ti := ti) hW0 hW1 hf0 hf1 hws hS0 hfit
  rename News _ _ _ _ => N0
  have N2 := News_add N0 hm
  clear N0
  refine wpAny_call ?_
  k_dflt cell_enter
  (k_with "state" => first | exact ⟨rfl, by decide, by decide⟩ | exact stream_turnT hws hfit (by assumption) (by assumption) (by assumption) rfl | exact stream_turnF hws hfit (by assumption) (by assumption) (by assumption) rfl)
  (k_with "turned" => first | exact ⟨(hws _ (by assumption)).1, by omega, by omega⟩ | exact ⟨restI_nonneg _ _ _, by omega, by omega⟩)
  (k_with "rest" => (subst_vars; exact ⟨hok, hd64, hin.1, hin.2⟩))
  (k_with "pyIter ref" => k_state (fun pre stream => stream = streamI S ti pre ∧ 0 ≤ stream ∧ stream < 2 ^ 63) "stream")
  k_steps
  all_goals refine cb_retI hret ?_ (by k_asm) (cb_drop (by k_asm) (by kcj_all))
  · exact sum_outT (by assumption) (by assumption)
  · exact sum_outF (by assumption) (by assumption)
end

section
open PySem PySem.W PyProof.Rows PySem.Calls
set_option Elab.async false
set_option maxRecDepth 100000

/-- the signs of n's last k digits, the highest first -/
def binL : Nat → Nat → List Nat
  | 0, _ => []
  | k + 1, n => binL k (n / 2) ++ [48 + n % 2]
theorem binL_length : ∀ k n, (binL k n).length = k
  | 0, _ => rfl
  | k + 1, n => by rw [binL, List.length_append, binL_length k]; rfl
theorem binL_zero : ∀ k, binL k 0 = List.replicate k 48
  | 0 => rfl
  | k + 1 => by rw [binL, binL_zero k, List.replicate_succ']
theorem dig2 : ∀ d : Nat, d < 2 → (Nat.digitChar d).toNat = 48 + d := by decide
theorem binL_digits : ∀ k n, 1 ≤ k → n < 2 ^ k → List.replicate (k - (Nat.toDigits 2 n).length) 48 ++ (Nat.toDigits 2 n).map Char.toNat = binL k n ∧ (Nat.toDigits 2 n).length ≤ k
  | 0, _, h, _ => absurd h (by decide)
  | k + 1, n, _, hn => by
    by_cases h2 : n < 2
    · rw [Nat.toDigits_of_lt_base h2]
      refine ⟨?_, by simp⟩
      rw [binL, show n / 2 = 0 by omega, binL_zero, show n % 2 = n by omega]
      simp [dig2 n h2]
    · have hk : 1 ≤ k := by
        refine Nat.pos_of_ne_zero fun e => ?_
        subst e
        simp at hn
        omega
      have hn2 : n / 2 < 2 ^ k := by
        rw [Nat.pow_succ] at hn
        omega
      obtain ⟨e, l⟩ := binL_digits k (n / 2) hk hn2
      rw [Nat.toDigits_of_base_le (by decide) (by omega), binL, ← e]
      refine ⟨?_, by simp; exact l⟩
      rw [List.length_append, List.length_singleton, List.map_append, List.append_assoc]
      simp [dig2 (n % 2) (Nat.mod_lt _ (by decide))]
theorem binL_get : ∀ k n i, i < k → (binL k n).getD i 0 = 48 + (n >>> (k - 1 - i)) % 2
  | 0, _, _, h => absurd h (Nat.not_lt_zero _)
  | k + 1, n, i, h => by
    rw [binL, List.getD_eq_getElem?_getD, List.getElem?_append, binL_length]
    by_cases hi : i < k
    · rw [if_pos hi, ← List.getD_eq_getElem?_getD, binL_get k (n / 2) i hi]
      have e : k + 1 - 1 - i = (k - 1 - i) + 1 := by omega
      rw [e, Nat.shiftRight_succ_inside]
    · have e : i = k := by omega
      subst e
      simp
/-- turned -/
def revL (n : Nat) : Nat → List Nat
  | 0 => []
  | k + 1 => revL n k ++ [48 + (n >>> k) % 2]
theorem revL_length (n : Nat) : ∀ k, (revL n k).length = k
  | 0 => rfl
  | k + 1 => by rw [revL, List.length_append, revL_length n k]; rfl
theorem revL_map (n : Nat) : ∀ k, revL n k = (List.range k).map fun i => 48 + (n >>> i) % 2
  | 0 => rfl
  | k + 1 => by rw [revL, revL_map n k, List.range_succ, List.map_append]; rfl
theorem revL_mem (n : Nat) (k : Nat) : ∀ c ∈ revL n k, c = 48 ∨ c = 49 := by
  intro c hc
  rw [revL_map] at hc
  obtain ⟨i, _, rfl⟩ := List.mem_map.mp hc
  omega
theorem rev_text (k n : Nat) (u : Tok) : (Txt.sliceBy ⟨(binL k n).toArray⟩ none none (-1, u)).cps.toList = revL n k := by
  rw [step_rev_list, revL_map]
  have hl : (Str.mk (binL k n).toArray).length = k := by show (binL k n).toArray.size = k; rw [List.size_toArray, binL_length]
  rw [hl]
  refine List.map_congr_left fun i hi => ?_
  have hi := List.mem_range.mp hi
  show (binL k n).toArray.getD (k - 1 - i) 0 = _
  have h := binL_get k n (k - 1 - i) (by omega)
  have e : k - 1 - (k - 1 - i) = i := by omega
  rw [e] at h
  rw [← h]
  simp [List.getD_eq_getElem?_getD, Array.getD_eq_getD_getElem?]
theorem turn_digits (n : Nat) : ∀ k, ((revL n k).map (· - 48)).foldl (fun acc d => acc * 2 + d) 0 = turnN n k
  | 0 => rfl
  | k + 1 => by
    rw [revL, List.map_append, List.foldl_append, turn_digits n k, turnN]
    simp
end

section
open PySem PySem.W PyProof.Rows PySem.Calls PySem.Builtin PySem.Builtin.Float
set_option Elab.async false
set_option maxRecDepth 100000
set_option maxHeartbeats 4000000

section
variable {prog : Program} {w : World} {A : Around} {E : Value → Shared → Prop} {s : Shared} {Q : Value → Shared → Prop}
theorem ret_bin {M : Model} {X T : PySem.Str} {Q : Fin → Shared → Prop} (e : X = T) (hL : T.length ≤ sizeLine) (h : ∀ t k, Q (.done (.ret (.str T t))) { s with toks := k }) : wpAny M A (retStr X) Q E s :=
  KXf.ret_text e (e ▸ hL) h
theorem meets_bin {k n : Nat} {t u : Tok} {spec : PySem.Str} (hk : 1 ≤ k) (hk2 : k ≤ 16) (hn : n < 2 ^ k)
    (hne : (spec.length == 0) = false)
    (hasc : ((spec.cps.toList.drop 1).any (· ≥ 128) || (spec.cps.getD 0 0 ≥ 128 && !([60, 62, 61, 94] : List Nat).contains (spec.cps.getD 1 0))) = false)
    (hp : parseFormatSpec spec.cps.toList "int" 62 = .ok { fill := 48, align := 61, width := some k, type := some 98 }) :
    Meets («int.__format__» ⟨[.int (n : Int) t, .str spec u], []⟩) (fun _ R s => ∀ t' j, R (.ok (.ret (.str ⟨(binL k n).toArray⟩ t'))) { s with toks := j }) := by
  apply KPc.meets_of
  intro prog w A s Q E h
  unfold Builtin.«int.__format__»
  simp only [selfAndOne, noKeywords, Int.intOfSelf, asInt?, asStr?, List.isEmpty_nil, if_true, pure_bind, bind_assoc, hne, hasc, Bool.false_eq_true, if_false,
    show (Value.str spec u == Value.none) = false from rfl]
  refine wpAny_bind (wpAny_typeNameOf (T := "str") (typeIs_str _ _ _) (by decide) fun _ => ?_)
  refine wpAny_bind (wpAny_typeNameOfCut_int ?_)
  simp only [hp]
  rw [Option.getD_some, if_pos (by decide)]
  show wpAny _ _ (if _ then _ else _) _ _ _
  rw [if_neg (by show ¬ ((some k).getD 0 > 100000); rw [Option.getD_some]; omega)]
  refine ret_bin (T := ⟨(binL k n).toArray⟩) ?_ ?_ h
  · conv => lhs; whnf
    obtain ⟨e, l⟩ := binL_digits k n hk hn
    have hm : (Nat.toDigits 2 n).map (fun c => (if ((98 : Nat) == 88) = true then c.toUpper else c).toNat) = (Nat.toDigits 2 n).map Char.toNat := by
      refine List.map_congr_left fun c _ => ?_
      rw [if_neg (by decide)]
    have hne : ((Nat.toDigits 2 n).map Char.toNat).isEmpty = false := by
      have := toDigits_len_ge 2 n
      cases h : Nat.toDigits 2 n with
      | nil => rw [h] at this; exact absurd this (by decide)
      | cons c r => rfl
    have hneg : decide (((n : Nat) : Int) < 0) = false := by simp
    simp only [hneg, Int.natAbs_natCast, hm, hne, Bool.false_eq_true, if_false, List.length_nil, List.length_map, List.nil_append, List.append_nil, beq_self_eq_true, Bool.and_self, if_true,
      show ((61 : Nat) == 60) = false from rfl, show ((61 : Nat) == 94) = false from rfl, List.replicate_zero]
    have hroom : ((k : Int) - (((0 : Nat) : Int) + ((0 : Nat) : Int) + ((0 : Nat) : Int))).toNat = k := by omega
    rw [hroom, e, binL_length]
    have hpad : ((k : Int) - (((0 : Nat) : Int) + ((0 : Nat) : Int) + ((0 : Nat) : Int)) - (k : Int)).toNat = 0 := by omega
    rw [hpad]
    rfl
  · show (binL k n).toArray.size ≤ _
    rw [List.size_toArray, binL_length, sizeLine_eq]
    omega
theorem field_bin {n : Int} {k : Nat} {t : Tok} {spec : PySem.Str} (hk : 1 ≤ k) (hk2 : k ≤ 16) (h0 : 0 ≤ n) (hn : n.toNat < 2 ^ k) (hs : spec = PySem.Str.empty ++ PySem.Str.ofString "0" ++ PySem.Str.ofString (toString (k : Int)) ++ PySem.Str.ofString "b")
    (h : ∀ t' j, Q (.str ⟨(binL k n.toNat).toArray⟩ t') { s with toks := j }) : wpAny (model prog w) A (formatField (.int n t) spec) Q E s := by
  obtain ⟨m, rfl⟩ := Int.eq_ofNat_of_zero_le h0
  have hn : m < 2 ^ k := hn
  have hc : k ∈ List.range' 1 16 := List.mem_range'_1.mpr ⟨hk, Nat.lt_succ_of_le hk2⟩
  simp only [show List.range' 1 16 = [1, 2, 3, 4, 5, 6, 7, 8, 9, 10, 11, 12, 13, 14, 15, 16] from rfl, List.mem_cons, List.not_mem_nil, or_false] at hc
  subst hs
  rcases hc with rfl | rfl | rfl | rfl | rfl | rfl | rfl | rfl | rfl | rfl | rfl | rfl | rfl | rfl | rfl | rfl
  all_goals exact KXf.field_int rfl (by decide +kernel) (by decide +kernel) (fun u => meets_bin hk hk2 hn (by decide +kernel) (by decide +kernel) rfl) h
end
end

section
open PySem PySem.W PyProof.Rows PySem.Calls PySem.NumText
set_option Elab.async false
set_option maxRecDepth 100000
set_option maxHeartbeats 4000000

theorem takeWhile_all {p : Nat → Bool} : ∀ l : List Nat, (∀ c ∈ l, p c = true) → l.takeWhile p = l
  | [], _ => rfl
  | c :: r, h => by
    rw [List.takeWhile_cons, if_pos (h c (.head _)), takeWhile_all r fun d hd => h d (.tail _ hd)]
theorem dropWhile_none {p : Nat → Bool} : ∀ l : List Nat, (∀ c ∈ l, p c = false) → l.dropWhile p = l
  | [], _ => rfl
  | c :: r, h => by
    rw [List.dropWhile_cons, if_neg (by rw [h c (.head _)]; decide)]
def Bits (l : List Nat) : Prop := ∀ c ∈ l, c = 48 ∨ c = 49
theorem bits_blank {l : List Nat} (h : Bits l) : ∀ c ∈ l, blank c = false := fun c hc => by
  rcases h c hc with rfl | rfl <;> rfl
theorem digits_bits : ∀ (l : List Nat) (p : Array Nat × Bool), Bits l → l.foldlM (step 2) p = some (p.1 ++ (l.map (· - 48)).toArray, if l.isEmpty then p.2 else true)
  | [], p, _ => by simp
  | c :: r, p, h => by
    have hr : Bits r := fun d hd => h d (.tail _ hd)
    have hs : step 2 p c = some (p.1.push (c - 48), true) := by
      rcases h c (.head _) with rfl | rfl <;> rfl
    rw [List.foldlM_cons, hs]
    show r.foldlM (step 2) (p.1.push (c - 48), true) = _
    rw [digits_bits r _ hr]
    simp
theorem read_bits {l : List Nat} (h : Bits l) (hne : l ≠ []) : (int_private% "readNumeral") 0 2 l = (int_private% "Numeral.value") (((l.map (· - 48)).foldl (fun acc d => acc * 2 + d) 0 : Nat) : Int) := by
  refine (readNumeral_eq 0 2 l).trans ?_
  have h1 : l.dropWhile blank = l := dropWhile_none l (bits_blank h)
  have h2 : sign l = (false, l) := by
    cases l with
    | nil => rfl
    | cons c r =>
      rcases h c (.head _) with rfl | rfl <;> rfl
  have h3 : based 2 l = (2, false, l) := by
    cases l with
    | nil => rfl
    | cons c r =>
      cases r with
      | nil => rcases h c (.head _) with rfl | rfl <;> rfl
      | cons d r =>
        rcases h c (.head _) with rfl | rfl <;> rcases h d (.tail _ (.head _)) with rfl | rfl <;> rfl
  have h4 : (l.reverse.dropWhile blank).reverse = l := by
    rw [dropWhile_none _ (fun c hc => bits_blank h c (List.mem_reverse.mp hc)), List.reverse_reverse]
  have h5 : digits? 2 l = some ((l.map (· - 48)).toArray) := by
    unfold digits?
    rw [digits_bits l _ h]
    cases l with
    | nil => exact absurd rfl hne
    | cons c r => simp
  rw [h1, h2]
  simp only []
  rw [h3]
  simp only []
  rw [h4, h5]
  unfold judge
  simp only [bne_self_eq_false, Bool.and_false, Bool.false_and, Bool.false_eq_true, if_false, show ((2 : Nat) == 10) = false from rfl]
  rw [List.foldl_toArray]
theorem wp_text2 {M : Model} {A : Around} {E : Value → Shared → Prop} {s : Shared} {Q : Value → Shared → Prop} {v : Value} {text : List Nat} {n : Int}
    (hs : (text.takeWhile (· != 0)).length ≤ 640) (hr : (int_private% "readNumeral") 0 2 (text.takeWhile (· != 0)) = (int_private% "Numeral.value") n)
    (ha : ((text.takeWhile (· != 0)).length == text.length) = true) (h : Q (.int n s.toks) { s with toks := s.toks + 1 }) :
    wpAny M A ((int_private% "intFromText") v text 2) Q E s := by
  obtain ⟨hp, g, d, tk, os⟩ := s
  repeat (any_goals (first
    | assumption
    | (with_reducible refine wpAny_ite_true (decide_eq_true hs) ?_)
    | (with_reducible refine wpAny_ite_true (decide_eq_true ha) ?_)
    | wp_step))
  all_goals (try rw [hr])
  all_goals (try dsimp only)
  repeat (any_goals (first
    | assumption
    | (with_reducible refine wpAny_ite_true (decide_eq_true hs) ?_)
    | (with_reducible refine wpAny_ite_true (decide_eq_true ha) ?_)
    | wp_step))

def textOf (x : PySem.Str) : List Nat := if x.cps.all (· < 128) then x.cps.toList else Unicode.numberText x.cps.toList
theorem textOf_bits {x : PySem.Str} (h : Bits x.cps.toList) : textOf x = x.cps.toList := by
  unfold textOf
  rw [if_pos]
  rw [← Array.all_toList, List.all_eq_true]
  intro c hc
  rcases h c hc with rfl | rfl <;> rfl
theorem gives_text2 {x : PySem.Str} {u v : Tok} (hb : Bits x.cps.toList) (hne : x.cps.toList ≠ []) (hl : x.cps.toList.length ≤ 640) :
    Gives (Builtin.«int.__new__» ⟨[.type "int", .str x u, .int 2 v], []⟩) (.int (((x.cps.toList.map (· - 48)).foldl (fun acc d => acc * 2 + d) 0 : Nat) : Int)) :=
  .of_wp fun M A E s Q h => by
    obtain ⟨hp, g, d, tk, os⟩ := s
    have f1 := F.conv_sub_int
    have f2 := F.madeHere_int
    have ht := textOf_bits hb
    have h0 : x.cps.toList.takeWhile (· != 0) = x.cps.toList := takeWhile_all _ fun c hc => by rcases hb c hc with rfl | rfl <;> rfl
    have k1 : ((textOf x).takeWhile (· != 0)).length ≤ 640 := by rw [ht, h0]; exact hl
    have k2 : (int_private% "readNumeral") 0 2 ((textOf x).takeWhile (· != 0)) = (int_private% "Numeral.value") (((x.cps.toList.map (· - 48)).foldl (fun acc d => acc * 2 + d) 0 : Nat) : Int) := by
      rw [ht, h0]; exact read_bits hb hne
    have k3 : (((textOf x).takeWhile (· != 0)).length == (textOf x).length) = true := by rw [ht, h0]; simp
    clear ht h0
    repeat (any_goals (first
      | assumption
      | ((with_reducible show wpAny _ _ ((int_private% "intFromText") _ _ _) _ _ _); refine wp_text2 k1 k2 k3 ?_)
      | wp_step))
    all_goals exact ⟨_, rfl, h⟩
theorem typeCall_int_2 (a b : Value) : checkTypeCall "int" ⟨[a, b], []⟩ = pure () := by kernel_rfl
theorem newCall_int_2 (a b : Value) : checkBuiltinCall "int.__new__" ⟨[.type "int", a, b], []⟩ = pure () := by kernel_rfl
theorem init_object_3 (a b c : Value) : argsOk "object.__init__" ⟨[a, b, c], []⟩ := by unfold argsOk; kernel_rfl
theorem call_int_bits {prog : Program} {w : World} {A : Around} {E : Value → Shared → Prop} {s : Shared} {Q : Value → Shared → Prop} {x : PySem.Str} {t u : Tok} {m k : Nat} (hx : x.cps.toList = revL m k) (hk : 1 ≤ k) (hk2 : k ≤ 16)
    (h : Q (.int ((turnN m k : Nat) : Int) s.toks) { s with toks := s.toks + 1 }) : wpAny (model prog w) A (call (.type "int") [.str x t, .int 2 u]) Q E s := by
  have hb : Bits x.cps.toList := by rw [hx]; exact revL_mem m k
  have hl : x.cps.toList.length = k := by rw [hx, revL_length]
  have hne : x.cps.toList ≠ [] := fun e => by rw [e] at hl; simp at hl; omega
  have g := gives_text2 (u := t) (v := u) hb hne (by omega)
  have e : ((x.cps.toList.map (· - 48)).foldl (fun acc d => acc * 2 + d) 0) = turnN m k := by rw [hx]; exact turn_digits m k
  rw [e] at g
  exact callType_new F.called_int F.newNe_int (typeCall_int_2 _ _) (newCall_int_2 _ _) (fun obj => init_object_3 _ _ _) F.entry_int_new g.meets (show (Made.int _).post _ s from ⟨rfl, h⟩)
end

section
open PySem PySem.W PyProof.Rows
set_option Elab.async false
set_option maxRecDepth 100000
set_option maxHeartbeats 8000000
theorem field_binR {prog : Program} {w : World} {A : Around} {E : Value → Shared → Prop} {s : Shared} {Q : Value → Shared → Prop} {n : Int} {k : Nat} {t : Tok} {spec : PySem.Str} (hs : spec = PySem.Str.empty ++ PySem.Str.ofString "0" ++ PySem.Str.ofString (toString (k : Int)) ++ PySem.Str.ofString "b") (hk : 1 ≤ k) (hk2 : k ≤ 16) (h0 : 0 ≤ n) (hn : n.toNat < 2 ^ k)
    (h : ∀ t' j, Q (.str ⟨(binL k n.toNat).toArray⟩ t') { s with toks := j }) : wpAny (model prog w) A (formatField (.int n t) spec) Q E s := field_bin hk hk2 h0 hn hs h
theorem reflect_tells (w : World) (loose : List Str) (mean : ExcName → Option Value) (mg mb : Str → Option Value) (news : List (Addr × Obj)) (n sz : Int) (t1 t2 : Tok) :
    Cl 1 w loose mean mg mb 125 news (0 ≤ n ∧ n < 2 ^ sz.toNat ∧ 0 < sz ∧ sz ≤ 16) [.int n t1, .int sz t2] (fun t => .int (turnI n sz) t) := by
  k_with_none
  (k_with "formatField int" => (k_here; (with_reducible show wpAny _ _ (formatField (Value.int _ _) _) _ _ _); (refine field_binR (by exact rfl) (by omega) (by omega) (by omega) (by assumption) ?_); intro t9 j9; (try dsimp only)))
  (k_with "subscriptTail" => (k_here; (with_reducible rename Fr _ _ _ _ => F'); (with_reducible rename News _ _ _ _ => N'); (refine slice_strK_nn (k := -1) (hsz := by (show (binL _ _).toArray.size ≤ _; rw [List.size_toArray, binL_length, sizeLine_eq]; omega)) (s := ⟨_, _, _, _, _⟩) F' N' (by decide) ?_); intro h9 t9 c9 F9 N9; (try dsimp only)))
  (k_with "call type:int" => (k_here; (refine call_int_bits (rev_text _ _ _) (by omega) (by omega) ?_)))
  dsimp only [Cl]
  k_fill
  intros
  rename_i hd1 hu1 hpre hret
  obtain ⟨hn0, hn1, hs0, hs1⟩ := hpre
  have hn2 := toNat_lt_pow hn1
  obtain ⟨k, rfl⟩ := Int.eq_ofNat_of_zero_le (show 0 ≤ sz by omega)
  rw [Int.toNat_natCast] at hn2
  refine wpAny_call ?_
  k_dflt cell_enter
  k_steps
  all_goals refine cb_retI hret ?_ (by k_asm) (by k_asm)
  all_goals rfl
end

section
open PySem PySem.W PyProof.Rows
set_option Elab.async false

theorem rest_cg_step {d sz n : Int} (ok : DivOk d sz) (h0 : 0 ≤ n) : Cg d.toNat (Builtin.bitXor n (d * 2 ^ ((Builtin.Int.intBits n : Int) - sz - 1).toNat)).toNat n.toNat := by
  rw [bitXor_toNat h0 (mulpow_nonneg ok.d0 _), mulpow_toNat ok.d0]
  have := (Cg.refl d.toNat n.toNat).xor (Cg.D (D := d.toNat) ((Builtin.Int.intBits n : Int) - sz - 1).toNat)
  rwa [Nat.xor_zero] at this
theorem restN_cg {d sz : Int} (ok : DivOk d sz) : ∀ (m : Nat) (n : Int), 0 ≤ n → n.toNat < m → Cg d.toNat (restN d.toNat sz.toNat n.toNat) n.toNat
  | 0, _, _, h => absurd h (Nat.not_lt_zero _)
  | m + 1, n, h0, hm => by
    by_cases ht : sz < (Builtin.Int.intBits n : Int)
    · have hs := rest_step ok h0 ht
      have hn := bitXor_nonneg h0 (mulpow_nonneg ok.d0 ((Builtin.Int.intBits n : Int) - sz - 1).toNat)
      have ih := restN_cg ok m _ hn (by omega)
      have hc := ih.trans (rest_cg_step ok h0)
      have e := restN_eq ok.hi (testBit_top ok.lo ok.hi) (restN_lt _ _ _) hc
      rwa [e] at hc
    · have hs := ok.s0
      have hl : n.toNat < 2 ^ sz.toNat := lt_of_intBits h0 (by omega)
      have e := restN_eq ok.hi (testBit_top ok.lo ok.hi) hl (Cg.refl d.toNat n.toNat)
      rw [← e]
      exact Cg.refl _ _
theorem restI_cg {d sz n : Int} (ok : DivOk d sz) (h0 : 0 ≤ n) : Cg d.toNat (restI d sz n).toNat n.toNat := restN_cg ok _ n h0 (Nat.lt_succ_self _)
theorem restI_eq {d sz n r : Int} (ok : DivOk d sz) (hr0 : 0 ≤ r) (hr : r < 2 ^ sz.toNat) (h : Cg d.toNat r.toNat n.toNat) : r = restI d sz n := by
  have := restN_eq ok.hi (testBit_top ok.lo ok.hi) (toNat_lt_pow hr) h
  unfold restI
  omega
theorem restI_congr {d sz a b : Int} (ok : DivOk d sz) (h0 : 0 ≤ a) (h : Cg d.toNat a.toNat b.toNat) : restI d sz a = restI d sz b :=
  restI_eq ok (restI_nonneg _ _ _) (restI_lt _ _ _) ((restI_cg ok h0).trans h)

/-! the register -/
def rdN (T ps c : Nat) : Nat := if c.testBit (T - 1) = true then (c <<< 1) ^^^ ps else c <<< 1
def rdsN (T ps : Nat) : Nat → Nat → Nat
  | 0, c => c
  | k + 1, c => rdN T ps (rdsN T ps k c)
theorem rdN_lt {T ps c k : Nat} (hc : c < 2 ^ (T + k)) (hp : ps < 2 ^ T) : rdN T ps c < 2 ^ (T + (k + 1)) := by
  have h1 : c <<< 1 < 2 ^ (T + (k + 1)) := shl_lt 1 hc
  unfold rdN
  split
  · exact xor_lt h1 (Nat.lt_of_lt_of_le hp (Nat.pow_le_pow_right (by decide) (by omega)))
  · exact h1
theorem rdsN_lt {T ps c : Nat} (hc : c < 2 ^ T) (hp : ps < 2 ^ T) : ∀ k, rdsN T ps k c < 2 ^ (T + k)
  | 0 => hc
  | k + 1 => rdN_lt (rdsN_lt hc hp k) hp
/-- its low digits stay nought -/
theorem rdsN_low {W S P c : Nat} : ∀ k, k ≤ S → ∀ i, i < k → (rdsN (W + S) (P <<< S) k c).testBit i = false
  | 0, _, _, h => absurd h (Nat.not_lt_zero _)
  | k + 1, hk, i, hi => by
    have h1 : ((rdsN (W + S) (P <<< S) k c) <<< 1).testBit i = false := by
      rw [Nat.testBit_shiftLeft]
      by_cases h : 1 ≤ i
      · rw [rdsN_low k (by omega) (i - 1) (by omega)]
        simp
      · simp [h]
    have h2 : (P <<< S).testBit i = false := by
      rw [Nat.testBit_shiftLeft]
      simp; omega
    show (rdN _ _ _).testBit i = false
    unfold rdN
    split
    · rw [Nat.testBit_xor, h1, h2]; rfl
    · exact h1
theorem mod_bit {a T i : Nat} : (a % 2 ^ T).testBit i = (decide (i < T) && a.testBit i) := Nat.testBit_mod_two_pow a T i
/-- a turn, below the top -/
theorem rdN_mod {W S P r : Nat} (hS : 0 < S) (hP : P < 2 ^ W) :
    rdN (W + S) (P <<< S) r % 2 ^ (W + S) = ((r % 2 ^ (W + S)) <<< 1) ^^^ (if (r % 2 ^ (W + S)).testBit (W + S - 1) = true then (2 ^ W + P) <<< S else 0) := by
  have hps : P <<< S < 2 ^ (W + S) := shl_lt S hP
  have hD : (2 ^ W + P) <<< S = 2 ^ (W + S) + P <<< S := by
    rw [Nat.shiftLeft_eq, Nat.add_mul, ← Nat.pow_add, ← Nat.shiftLeft_eq]
  have htop : (r % 2 ^ (W + S)).testBit (W + S - 1) = r.testBit (W + S - 1) := by
    rw [mod_bit]
    simp; omega
  have hDb : ∀ i, ((2 ^ W + P) <<< S).testBit i = (decide (i = W + S) || (P <<< S).testBit i) := by
    intro i
    rw [hD]
    by_cases hi : i = W + S
    · subst hi
      rw [Nat.testBit_two_pow_add_eq]
      simp [Nat.testBit_lt_two_pow hps]
    · rcases Nat.lt_or_gt_of_ne hi with g | g
      · rw [Nat.testBit_two_pow_add_gt g]
        simp [hi]
      · have e1 : (2 ^ (W + S) + P <<< S).testBit i = false := by
          refine Nat.testBit_lt_two_pow (Nat.lt_of_lt_of_le (m := 2 ^ (W + S + 1)) ?_ (Nat.pow_le_pow_right (by decide) (by omega)))
          rw [Nat.pow_succ]; omega
        have e2 : (P <<< S).testBit i = false := Nat.testBit_lt_two_pow (Nat.lt_of_lt_of_le hps (Nat.pow_le_pow_right (by decide) (by omega)))
        rw [e1, e2]
        simp [hi]
  have hpb : ∀ i, W + S ≤ i → (P <<< S).testBit i = false := fun i hi => Nat.testBit_lt_two_pow (Nat.lt_of_lt_of_le hps (Nat.pow_le_pow_right (by decide) hi))
  refine Nat.eq_of_testBit_eq fun i => ?_
  rw [mod_bit, Nat.testBit_xor, Nat.testBit_shiftLeft, mod_bit, htop]
  unfold rdN
  rcases Nat.lt_trichotomy i (W + S) with g | g | g
  · have g1 : i - 1 < W + S := by omega
    by_cases hb : r.testBit (W + S - 1) = true
    · rw [if_pos hb, if_pos hb, Nat.testBit_xor, Nat.testBit_shiftLeft, hDb]
      simp [g, g1, Nat.ne_of_lt g]
    · rw [if_neg hb, if_neg hb, Nat.testBit_shiftLeft]
      simp [g, g1]
  · subst g
    have e0 : decide (W + S < W + S) = false := by simp
    have e1 : decide (W + S ≥ 1) = true := by simp; omega
    have e2 : decide (W + S - 1 < W + S) = true := by simp; omega
    rw [e0, e1, e2]
    by_cases hb : r.testBit (W + S - 1) = true
    · rw [if_pos hb, if_pos hb, hDb, hb]
      simp [hpb _ (Nat.le_refl _)]
    · rw [if_neg hb, if_neg hb]
      simp at hb
      rw [hb]
      simp
  · have e0 : decide (i < W + S) = false := by simp; omega
    have e2 : decide (i - 1 < W + S) = false := by simp; omega
    rw [e0, e2]
    by_cases hb : r.testBit (W + S - 1) = true
    · rw [if_pos hb, if_pos hb, hDb, hpb i (by omega)]
      simp; omega
    · rw [if_neg hb, if_neg hb]
      simp
theorem rdsN_cg {W S P c : Nat} (hS : 0 < S) (hP : P < 2 ^ W) (hc : c < 2 ^ (W + S)) : ∀ k, Cg ((2 ^ W + P) <<< S) (rdsN (W + S) (P <<< S) k c % 2 ^ (W + S)) (c <<< k)
  | 0 => by
    show Cg _ (c % 2 ^ (W + S)) (c <<< 0)
    rw [Nat.mod_eq_of_lt hc]
    exact Cg.refl _ _
  | k + 1 => by
    show Cg _ (rdN _ _ _ % 2 ^ (W + S)) _
    rw [rdN_mod hS hP]
    have ih := (rdsN_cg hS hP hc k).shl 1
    rw [← Nat.shiftLeft_add] at ih
    have h0 : Cg ((2 ^ W + P) <<< S) (if (rdsN (W + S) (P <<< S) k c % 2 ^ (W + S)).testBit (W + S - 1) = true then (2 ^ W + P) <<< S else 0) 0 := by
      split
      · exact Cg.D (D := (2 ^ W + P) <<< S) 0
      · exact Cg.refl _ _
    have := ih.xor h0
    rwa [Nat.xor_zero] at this
/-- a whole word's turns: the remainder, moved up -/
theorem rdsN_rest {W S P c : Nat} (hS : 0 < S) (hP : P < 2 ^ W) (hc : c < 2 ^ (W + S)) : rdsN (W + S) (P <<< S) S c % 2 ^ (W + S) = restN (2 ^ W + P) W c <<< S := by
  have hlow : ∀ i, i < S → (rdsN (W + S) (P <<< S) S c % 2 ^ (W + S)).testBit i = false := fun i hi => by
    rw [mod_bit, rdsN_low S (Nat.le_refl _) i hi]
    simp
  have e : rdsN (W + S) (P <<< S) S c % 2 ^ (W + S) = ((rdsN (W + S) (P <<< S) S c % 2 ^ (W + S)) >>> S) <<< S := by
    refine Nat.eq_of_testBit_eq fun i => ?_
    rw [Nat.testBit_shiftLeft, Nat.testBit_shiftRight]
    by_cases hi : S ≤ i
    · rw [show S + (i - S) = i by omega]
      simp [hi]
    · rw [hlow i (by omega)]
      simp [hi]
  have hm : rdsN (W + S) (P <<< S) S c % 2 ^ (W + S) < 2 ^ (W + S) := Nat.mod_lt _ (Nat.two_pow_pos _)
  have hl : (rdsN (W + S) (P <<< S) S c % 2 ^ (W + S)) >>> S < 2 ^ W := by
    rw [Nat.shiftRight_eq_div_pow]
    refine Nat.div_lt_of_lt_mul ?_
    have e2 : 2 ^ S * 2 ^ W = 2 ^ (W + S) := by rw [Nat.add_comm W S, Nat.pow_add]
    rw [e2]
    exact hm
  have hcg := rdsN_cg hS hP hc S
  rw [e] at hcg
  have h2 := hcg.down
  have hDlt : 2 ^ W + P < 2 ^ (W + 1) := by rw [Nat.pow_succ]; omega
  have hr := restN_eq hDlt (testBit_top (Nat.le_add_right _ _) hDlt) hl h2
  rw [e, hr]
end

section
open PySem PySem.W PyProof.Rows
set_option Elab.async false

theorem pow16 {S : Int} (h : S ≤ 16) : (2 : Int) ^ S.toNat ≤ 65536 := by
  have := pow_mono (show S.toNat ≤ 16 by omega)
  omega
theorem pow_ge2 {S : Int} (h : 0 < S) : 2 ≤ (2 : Int) ^ S.toNat := by
  have := pow_mono (show 1 ≤ S.toNat by omega)
  omega
theorem turn16 {n S : Int} (h : S ≤ 16) : turnI n S < 65536 := Int.lt_of_lt_of_le (turnI_lt n S) (pow16 h)
theorem divOk_of {W P : Int} (h0 : 0 ≤ W) (h1 : W ≤ 64) (hP0 : 0 ≤ P) (hP : P < 2 ^ W.toNat) : DivOk (1 * 2 ^ W.toNat + P) W := by
  have hc := pow_cast W.toNat
  have hc1 := pow_cast (W.toNat + 1)
  rw [Nat.pow_succ] at hc1
  exact ⟨h0, h1, by omega, by rw [Nat.pow_succ]; omega⟩
theorem div_toNat {W P : Int} (hP0 : 0 ≤ P) : (1 * 2 ^ W.toNat + P).toNat = 2 ^ W.toNat + P.toNat := by
  rw [Int.one_mul, Int.toNat_add (Int.le_of_lt (kbt_pos _)) hP0, pow_toNat]
theorem add_xor {a v S : Nat} (hv : v < 2 ^ S) : a <<< S + v = a <<< S ^^^ v := by
  have h := nat_xor_and (a <<< S) v
  have h0 : a <<< S &&& v = 0 := by
    refine Nat.eq_of_testBit_eq fun i => ?_
    rw [Nat.testBit_and, Nat.testBit_shiftLeft, Nat.zero_testBit]
    by_cases hi : S ≤ i
    · rw [Nat.testBit_lt_two_pow (Nat.lt_of_lt_of_le hv (Nat.pow_le_pow_right (by decide) hi))]
      simp
    · simp [hi]
  omega
theorem horner_toNat {x v : Int} {S : Nat} (hx : 0 ≤ x) (hv0 : 0 ≤ v) (hv : v < 2 ^ S) : (x * 2 ^ S + v).toNat = x.toNat <<< S ^^^ v.toNat := by
  rw [← add_xor (toNat_lt_pow hv), ← mulpow_toNat hx]
  exact Int.toNat_add (mulpow_nonneg hx S) hv0
theorem streamI_nonneg {S : Int} {ti : Bool} {ws : List Int} (h : WordsOk S ws) : 0 ≤ streamI S ti ws := (streamI_bound ws h).1
theorem len_toNat {S : Int} (hS : 0 ≤ S) (n : Nat) : (S * (n : Int)).toNat = S.toNat * n := by
  obtain ⟨k, rfl⟩ := Int.eq_ofNat_of_zero_le hS
  rfl
/-- what the whole stream stands for -/
def fullI (W f S : Int) (ti : Bool) (ws : List Int) : Int := Builtin.bitXor (streamI S ti ws * 2 ^ W.toNat) (f * 2 ^ (S * (ws.length : Int)).toNat)
theorem restOf_eq (d W f S : Int) (ti : Bool) (ws : List Int) : restOf d W f S ti ws = restI d W (fullI W f S ti ws) := rfl
theorem fullI_nonneg {W f S : Int} {ti : Bool} {ws : List Int} (h : WordsOk S ws) (hf : 0 ≤ f) : 0 ≤ fullI W f S ti ws := bitXor_nonneg (mulpow_nonneg (streamI_nonneg h) _) (mulpow_nonneg hf _)
theorem fullI_toNat {W f S : Int} {ti : Bool} {ws : List Int} (h : WordsOk S ws) (hf : 0 ≤ f) (hS : 0 ≤ S) : (fullI W f S ti ws).toNat = ((streamI S ti ws).toNat <<< W.toNat) ^^^ (f.toNat <<< (S.toNat * ws.length)) := by
  unfold fullI
  rw [bitXor_toNat (mulpow_nonneg (streamI_nonneg h) _) (mulpow_nonneg hf _), mulpow_toNat (streamI_nonneg h), mulpow_toNat hf, len_toNat hS]
/-- one word more -/
theorem full_snoc {W f S v n : Int} {ti : Bool} {ws : List Int} (h : WordsOk S ws) (hf : 0 ≤ f) (hS : 0 ≤ S) (hn : 0 ≤ n ∧ n < 2 ^ S.toNat) (hv : v = if ti = true then turnI n S else n) :
    (fullI W f S ti (ws ++ [n])).toNat = ((fullI W f S ti ws).toNat <<< S.toNat) ^^^ (v.toNat <<< W.toNat) := by
  have h' : WordsOk S (ws ++ [n]) := fun x hx => by
    rcases List.mem_append.mp hx with hx | hx
    · exact h x hx
    · rw [List.mem_singleton.mp hx]; exact hn
  have hv0 : 0 ≤ v := by
    rw [hv]
    split
    · exact turnI_nonneg _ _
    · exact hn.1
  have hv1 : v < 2 ^ S.toNat := by
    rw [hv]
    split
    · exact turnI_lt _ _
    · exact hn.2
  rw [fullI_toNat h' hf hS, fullI_toNat h hf hS, streamI_snoc, ← hv, horner_toNat (streamI_nonneg h) hv0 hv1, List.length_append, List.length_singleton, Nat.mul_add, Nat.mul_one]
  rw [Nat.shiftLeft_xor_distrib, Nat.shiftLeft_xor_distrib, ← Nat.shiftLeft_add, ← Nat.shiftLeft_add, ← Nat.shiftLeft_add, Nat.add_comm S.toNat W.toNat]
  rw [Nat.xor_assoc, Nat.xor_comm (v.toNat <<< W.toNat), ← Nat.xor_assoc]

section
variable {W S P I : Int} {ti : Bool}
theorem comp_start (hW0 : 0 < W) (hW1 : W ≤ 16) (hS0 : 0 < S) (hS1 : S ≤ 16) (hP0 : 0 ≤ P) (hP : P < 2 ^ W.toNat) (hI0 : 0 ≤ I) (hI : I < 2 ^ W.toNat) :
    I * 2 ^ S.toNat = restOf (1 * 2 ^ W.toNat + P) W I S ti [] * 2 ^ S.toNat ∧ WordsOk S [] ∧ 0 ≤ I * 2 ^ S.toNat ∧ I * 2 ^ S.toNat < 2 ^ 40 := by
  have ok := divOk_of (by omega) (by omega) hP0 hP
  have e : I = restOf (1 * 2 ^ W.toNat + P) W I S ti [] := by
    rw [restOf_eq]
    refine restI_eq ok hI0 hI (Cg.of_eq ?_)
    rw [fullI_toNat (fun x hx => by cases hx) hI0 (by omega)]
    simp [streamI]
  refine ⟨congrArg (· * 2 ^ S.toNat) e, (fun x hx => by cases hx), mulpow_nonneg hI0 _, ?_⟩
  exact Int.lt_of_lt_of_le (mulpow_lt hI _) (pow_mono (by omega))
theorem restOf_nonneg (d W f S : Int) (ti : Bool) (ws : List Int) : 0 ≤ restOf d W f S ti ws := restI_nonneg _ _ _
theorem restOf_lt (d W f S : Int) (ti : Bool) (ws : List Int) : restOf d W f S ti ws < 2 ^ W.toNat := restI_lt _ _ _
theorem inner_start {c v d f : Int} {pre : List Int} (hW0 : 0 < W) (hW1 : W ≤ 16) (hS0 : 0 < S) (hS1 : S ≤ 16) (hc : c = restOf d W f S ti pre * 2 ^ S.toNat) (hv0 : 0 ≤ v) (hv : v < 2 ^ S.toNat) {ps : Nat} :
    (Builtin.bitXor c (v * 2 ^ W.toNat)).toNat = rdsN (W.toNat + S.toNat) ps ([] : List Int).length (Builtin.bitXor c (v * 2 ^ W.toNat)).toNat ∧ (Builtin.bitXor c (v * 2 ^ W.toNat)).toNat < 2 ^ (W.toNat + S.toNat) ∧
      0 ≤ Builtin.bitXor c (v * 2 ^ W.toNat) ∧ Builtin.bitXor c (v * 2 ^ W.toNat) < 2 ^ 60 := by
  have h0 := mulpow_nonneg (restOf_nonneg d W f S ti pre) S.toNat
  have h1 := mulpow_lt (restOf_lt d W f S ti pre) S.toNat
  have h2 := mulpow_nonneg hv0 W.toNat
  have h3 := mulpow_lt hv W.toNat
  rw [Nat.add_comm S.toNat W.toNat] at h3
  rw [← hc] at h0 h1
  have b := xor_bound h0 h2 h1 h3
  exact ⟨rfl, toNat_lt_pow b.2, b.1, Int.lt_of_lt_of_le b.2 (pow_mono (by omega))⟩
theorem top_toNat (hW0 : 0 < W) (hS0 : 0 < S) : (W + S - 1).toNat = W.toNat + S.toNat - 1 := by
  obtain ⟨w, rfl⟩ := Int.eq_ofNat_of_zero_le (Int.le_of_lt hW0)
  obtain ⟨k, rfl⟩ := Int.eq_ofNat_of_zero_le (Int.le_of_lt hS0)
  exact Int.toNat_sub (w + k) 1
theorem band_bit {c : Int} (h0 : 0 ≤ c) (k : Nat) : Builtin.bitAnd c (1 * 2 ^ k) ≠ 0 ↔ c.toNat.testBit k = true := by
  rw [Int.one_mul, kbt_bit]
  obtain ⟨n, rfl⟩ := Int.eq_ofNat_of_zero_le h0
  have hp := kbt_pos k
  have e : ((n : Int) / 2 ^ k) % 2 = ((n / 2 ^ k % 2 : Nat) : Int) := by
    rw [← pow_cast]
    simp
  rw [e, Int.toNat_natCast, Nat.testBit_eq_decide_div_mod_eq, decide_eq_true_eq]
  rcases Nat.mod_two_eq_zero_or_one (n / 2 ^ k) with q | q <;> rw [q]
  · simp
  · simp; omega
theorem inner_turnT {c c0 : Int} {pre : List Int} {n : Int} (hW0 : 0 < W) (hW1 : W ≤ 16) (hS0 : 0 < S) (hS1 : S ≤ 16) (hP0 : 0 ≤ P) (hP : P < 2 ^ W.toNat)
    (hc : c.toNat = rdsN (W.toNat + S.toNat) (P.toNat <<< S.toNat) pre.length c0.toNat) (hb : c0.toNat < 2 ^ (W.toNat + S.toNat)) (h0 : 0 ≤ c) (hl : pre.length < (S - 0).toNat)
    (ht : Builtin.bitAnd c (1 * 2 ^ (W + S - 1).toNat) ≠ 0) :
    (Builtin.bitXor (c * 2 ^ (1 : Int).toNat) (P * 2 ^ S.toNat)).toNat = rdsN (W.toNat + S.toNat) (P.toNat <<< S.toNat) (pre ++ [n]).length c0.toNat ∧ c0.toNat < 2 ^ (W.toNat + S.toNat) ∧
      0 ≤ Builtin.bitXor (c * 2 ^ (1 : Int).toNat) (P * 2 ^ S.toNat) ∧ Builtin.bitXor (c * 2 ^ (1 : Int).toNat) (P * 2 ^ S.toNat) < 2 ^ 60 := by
  rw [top_toNat hW0 hS0, band_bit h0] at ht
  have n1 := mulpow_nonneg h0 (1 : Int).toNat
  have n2 := mulpow_nonneg hP0 S.toNat
  have hps := shl_lt S.toNat (toNat_lt_pow hP)
  have e : (Builtin.bitXor (c * 2 ^ (1 : Int).toNat) (P * 2 ^ S.toNat)).toNat = rdsN (W.toNat + S.toNat) (P.toNat <<< S.toNat) (pre ++ [n]).length c0.toNat := by
    rw [bitXor_toNat n1 n2, mulpow_toNat h0, mulpow_toNat hP0, List.length_append, List.length_singleton]
    show _ = rdN _ _ _
    rw [← hc]
    unfold rdN
    rw [if_pos ht]
    rfl
  have hlt := rdsN_lt hb hps (pre ++ [n]).length
  rw [← e] at hlt
  refine ⟨e, hb, bitXor_nonneg n1 n2, Int.lt_of_lt_of_le (lt_pow_of_toNat hlt) (pow_mono ?_)⟩
  rw [List.length_append, List.length_singleton]
  omega
theorem inner_turnF {c c0 : Int} {pre : List Int} {n : Int} (hW0 : 0 < W) (hW1 : W ≤ 16) (hS0 : 0 < S) (hS1 : S ≤ 16) (hP : P < 2 ^ W.toNat)
    (hc : c.toNat = rdsN (W.toNat + S.toNat) (P.toNat <<< S.toNat) pre.length c0.toNat) (hb : c0.toNat < 2 ^ (W.toNat + S.toNat)) (h0 : 0 ≤ c) (hl : pre.length < (S - 0).toNat)
    (ht0 : Builtin.bitAnd c (1 * 2 ^ (W + S - 1).toNat) = 0) :
    (c * 2 ^ (1 : Int).toNat).toNat = rdsN (W.toNat + S.toNat) (P.toNat <<< S.toNat) (pre ++ [n]).length c0.toNat ∧ c0.toNat < 2 ^ (W.toNat + S.toNat) ∧
      0 ≤ c * 2 ^ (1 : Int).toNat ∧ c * 2 ^ (1 : Int).toNat < 2 ^ 60 := by
  have ht : ¬ Builtin.bitAnd c (1 * 2 ^ (W + S - 1).toNat) ≠ 0 := fun h => h ht0
  rw [top_toNat hW0 hS0, band_bit h0] at ht
  have n1 := mulpow_nonneg h0 (1 : Int).toNat
  have hps := shl_lt S.toNat (toNat_lt_pow hP)
  have e : (c * 2 ^ (1 : Int).toNat).toNat = rdsN (W.toNat + S.toNat) (P.toNat <<< S.toNat) (pre ++ [n]).length c0.toNat := by
    rw [mulpow_toNat h0, List.length_append, List.length_singleton]
    show _ = rdN _ _ _
    rw [← hc]
    unfold rdN
    rw [if_neg ht]
    rfl
  have hlt := rdsN_lt hb hps (pre ++ [n]).length
  rw [← e] at hlt
  refine ⟨e, hb, n1, Int.lt_of_lt_of_le (lt_pow_of_toNat hlt) (pow_mono ?_)⟩
  rw [List.length_append, List.length_singleton]
  omega
theorem outer_turn {c c1 v n : Int} {pre : List Int} (hW0 : 0 < W) (hW1 : W ≤ 16) (hS0 : 0 < S) (hS1 : S ≤ 16) (hP0 : 0 ≤ P) (hP : P < 2 ^ W.toNat) (hI0 : 0 ≤ I)
    (hc : c = restOf (1 * 2 ^ W.toNat + P) W I S ti pre * 2 ^ S.toNat) (hw : WordsOk S pre) (hn0 : 0 ≤ n) (hn1 : n ≤ 1 * 2 ^ S.toNat - 1) (hv : v = if ti = true then turnI n S else n)
    (hc1 : c1.toNat = rdsN (W.toNat + S.toNat) (P.toNat <<< S.toNat) (rangeKs 0 (S - 0).toNat).length (Builtin.bitXor c (v * 2 ^ W.toNat)).toNat)
    (hb : (Builtin.bitXor c (v * 2 ^ W.toNat)).toNat < 2 ^ (W.toNat + S.toNat)) (h1 : 0 ≤ c1) :
    Builtin.bitAnd c1 (1 * 2 ^ (W + S).toNat - 1) = restOf (1 * 2 ^ W.toNat + P) W I S ti (pre ++ [n]) * 2 ^ S.toNat ∧ WordsOk S (pre ++ [n]) ∧
      0 ≤ Builtin.bitAnd c1 (1 * 2 ^ (W + S).toNat - 1) ∧ Builtin.bitAnd c1 (1 * 2 ^ (W + S).toNat - 1) < 2 ^ 40 := by
  have ok := divOk_of (P := P) (W := W) (Int.le_of_lt hW0) (Int.le_trans hW1 (by decide)) hP0 hP
  have hn : 0 ≤ n ∧ n < 2 ^ S.toNat := ⟨hn0, by rw [Int.one_mul] at hn1; exact Int.le_sub_one_iff.mp hn1⟩
  have hv0 : 0 ≤ v := by
    rw [hv]
    split
    · exact turnI_nonneg _ _
    · exact hn.1
  have hr0 := restOf_nonneg (1 * 2 ^ W.toNat + P) W I S ti pre
  have hc0 : 0 ≤ c := by rw [hc]; exact mulpow_nonneg hr0 _
  have hw' : WordsOk S (pre ++ [n]) := fun x hx => by
    rcases List.mem_append.mp hx with hx | hx
    · exact hw x hx
    · rw [List.mem_singleton.mp hx]; exact hn
  have hX0 := bitXor_nonneg hc0 (mulpow_nonneg hv0 W.toNat)
  have key : restI (1 * 2 ^ W.toNat + P) W (Builtin.bitXor c (v * 2 ^ W.toNat)) = restOf (1 * 2 ^ W.toNat + P) W I S ti (pre ++ [n]) := by
    rw [restOf_eq]
    refine restI_congr ok hX0 ?_
    rw [bitXor_toNat hc0 (mulpow_nonneg hv0 _), mulpow_toNat hv0, hc, mulpow_toNat hr0, full_snoc hw hI0 (Int.le_of_lt hS0) hn hv]
    exact ((restI_cg ok (fullI_nonneg hw hI0)).shl S.toNat).xor (Cg.refl _ _)
  have hlen : (rangeKs 0 (S - 0).toNat).length = S.toNat := by rw [rangeKs_length, Int.sub_zero]
  rw [hlen] at hc1
  have e1 : (W + S).toNat = W.toNat + S.toNat := Int.toNat_add (Int.le_of_lt hW0) (Int.le_of_lt hS0)
  have hres := rdsN_rest (W := W.toNat) (S := S.toNat) (P := P.toNat) (c := (Builtin.bitXor c (v * 2 ^ W.toNat)).toNat) (by omega) (toNat_lt_pow hP) hb
  rw [← hc1, ← div_toNat hP0] at hres
  have hmask : Builtin.bitAnd c1 (1 * 2 ^ (W + S).toNat - 1) = restOf (1 * 2 ^ W.toNat + P) W I S ti (pre ++ [n]) * 2 ^ S.toNat := by
    rw [Int.one_mul, kbt_mask, e1, ← key]
    have e2 : c1 % 2 ^ (W.toNat + S.toNat) = ((c1.toNat % 2 ^ (W.toNat + S.toNat) : Nat) : Int) := by
      rw [Int.natCast_emod, pow_cast, Int.toNat_of_nonneg h1]
    rw [e2, hres]
    unfold restI
    rw [Nat.shiftLeft_eq, ← pow_cast]
    simp
  refine ⟨hmask, hw', ?_, ?_⟩
  · rw [hmask]
    exact mulpow_nonneg (restOf_nonneg _ _ _ _ _ _) _
  · rw [hmask]
    exact Int.lt_of_lt_of_le (mulpow_lt (restOf_lt _ _ _ _ _ _) _) (pow_mono (by omega))
theorem final_div {c d f : Int} {ws : List Int} (hc : c = restOf d W f S ti ws * 2 ^ S.toNat) : Int.fdiv c (2 ^ S.toNat) = restOf d W f S ti ws := by
  rw [hc, kbt_q1]
end
end

section
open PySem PySem.W PyProof.Rows
set_option Elab.async false
set_option maxRecDepth 100000
set_option maxHeartbeats 8000000
theorem reflect_use {w : World} {loose : List Str} {mean : ExcName → Option Value} {mg mb : Str → Option Value} {news : List (Addr × Obj)} {n sz : Int} {t1 t2 : Tok}
  {dp un : Nat} {gd : Option (List Code)} {cn : Str} {cs : Scope} {a : Addr} {ccd : Value} {cl : List (Str × Addr)} {outer : List Env} {A₀ : Around} {base h₀ : Heap} {L : Addr} {m : Str → Option Value} {s : Shared} {Q E : Value → Shared → Prop}
   (B : Below A₀ base outer h₀) (F : Fr h₀ L s.heap m) (X : (hd.heap_39 w.params).In h₀) (N : News h₀ L s.heap news) (T : Top hd.view_39 loose mean mg mb h₀) (hk : cs.kind = .function)
   (hd1 : dp + 1 < recursionLimit) (hu1 : un + 8 * 1 < cLine) (h0 : 0 ≤ n) (h1 : n < 2 ^ sz.toNat) (h2 : 0 < sz) (h3 : sz ≤ 16)
   (ret : ∀ (t : Tok) (h' : Heap) (tk' : Nat), Fr h₀ L h' m → News h₀ L h' news → 0 ≤ turnI n sz → turnI n sz < 2 ^ sz.toNat → Q (.int (turnI n sz) t) { s with heap := h', toks := tk' }) :
   wpAny (model PySem.Challenge.rw_jy0006_01.row.toRowW.prog w) (ktrTop dp un gd cn cs L a ccd cl outer) (call (.ref 125) [.int n t1, .int sz t2]) Q E s :=
  Cl.use B F X N T hk (reflect_tells w loose mean mg mb news n sz t1 t2) hd1 hu1 ⟨h0, h1, h2, h3⟩ fun t h' tk' F' N' => ret t h' tk' F' N' (turnI_nonneg _ _) (turnI_lt _ _)
theorem sum_out {W P I X c S : Int} {ti to : Bool} {ws : List Int} (hc : c = restOf (1 * 2 ^ W.toNat + P) W I S ti ws * 2 ^ S.toNat) :
    (to = true → Builtin.bitXor (turnI (Int.fdiv c (2 ^ S.toNat)) W) X = sumI W (1 * 2 ^ W.toNat + P) I X ti to ws S) ∧ (to = false → Builtin.bitXor (Int.fdiv c (2 ^ S.toNat)) X = sumI W (1 * 2 ^ W.toNat + P) I X ti to ws S) := by
  rw [final_div hc]
  unfold sumI outI
  exact ⟨fun h => by rw [if_pos h], fun h => by rw [if_neg (by rw [h]; decide)]⟩
theorem not_words {S n : Int} {ws : List Int} (hn : n ∈ ws) (h : ¬ 0 ≤ n ∨ ¬ n ≤ 1 * 2 ^ S.toNat - 1) : ¬ WordsOk S ws := fun hw => by
  have := hw n hn
  omega
/-- the end of the test whether a word is out of its range -/
def NotEnd (h₀ : Heap) (L : Addr) (m : Str → Option Value) (news : List (Addr × Obj)) (s : Shared) (n S : Int) (b : Bool) (s' : Shared) : Prop :=
  ∃ (h : Heap) (tk : Nat), s' = { s with heap := h, toks := tk } ∧ (b = true ↔ ¬ (0 ≤ n ∧ n ≤ 1 * 2 ^ S.toNat - 1)) ∧ Fr h₀ L h m ∧ News h₀ L h news
theorem NotEnd.intro {h₀ : Heap} {L : Addr} {m : Str → Option Value} {news news' : List (Addr × Obj)} {s : Shared} {n S : Int} {b : Bool} {h : Heap} {tk : Nat} (F : Fr h₀ L h m) (N : News h₀ L h news') (hn : ∀ p ∈ news, p ∈ news')
    (e : b = true ↔ ¬ (0 ≤ n ∧ n ≤ 1 * 2 ^ S.toNat - 1)) : NotEnd h₀ L m news s n S b { s with heap := h, toks := tk } := ⟨h, tk, rfl, e, F, fun p hp => N p (hn p hp)⟩
theorem cut_not {M : Model} {A : Around} {E : Value → Shared → Prop} {s : Shared} {c : Sem Bool} {Q : Bool → Shared → Prop} {h₀ : Heap} {L : Addr} {m : Str → Option Value} {news : List (Addr × Obj)} {n S : Int} {t : Tok}
    (_hm : m (Str.ofString "word") = some (.int n t)) (_F : Fr h₀ L s.heap m) (_N : News h₀ L s.heap news) (h1 : wpAny M A c (NotEnd h₀ L m news s n S) E s)
    (hT : ¬ (0 ≤ n ∧ n ≤ 1 * 2 ^ S.toNat - 1) → ∀ (h : Heap) (tk : Nat), Fr h₀ L h m → News h₀ L h news → Q true { s with heap := h, toks := tk })
    (hF : 0 ≤ n → n ≤ 1 * 2 ^ S.toNat - 1 → ∀ (h : Heap) (tk : Nat), Fr h₀ L h m → News h₀ L h news → Q false { s with heap := h, toks := tk }) : wpAny M A c Q E s := by
  refine wpAny_mono h1 (fun b s' hq => ?_) fun _ _ x => x
  obtain ⟨h, tk, rfl, e, F, N⟩ := hq
  cases b with
  | true => exact hT (e.mp rfl) h tk F N
  | false =>
    have g : 0 ≤ n ∧ n ≤ 1 * 2 ^ S.toNat - 1 := Decidable.byContradiction fun q => absurd (e.mpr q) (by decide)
    exact hF g.1 g.2 h tk F N
theorem not_words2 {S n : Int} {ws : List Int} (hn : n ∈ ws) (h : ¬ (0 ≤ n ∧ n ≤ 1 * 2 ^ S.toNat - 1)) : ¬ WordsOk S ws := fun hw => by
  have := hw n hn
  omega
/-- the end of the statement that may turn the word -/
def RefEnd (h₀ : Heap) (L : Addr) (m : Str → Option Value) (news : List (Addr × Obj)) (s : Shared) (n S : Int) (ti : Bool) (fl : Flow) (s' : Shared) : Prop :=
  fl = .next ∧ ∃ (v : Int) (t : Tok) (h : Heap) (tk : Nat), s' = { s with heap := h, toks := tk } ∧ (v = if ti = true then turnI n S else n) ∧ Fr h₀ L h (fun y => if y = Str.ofString "word" then some (.int v t) else m y) ∧ News h₀ L h news
theorem RefEnd.introT {h₀ : Heap} {L : Addr} {m : Str → Option Value} {news news' : List (Addr × Obj)} {s : Shared} {n S : Int} {ti : Bool} {t : Tok} {h : Heap} {tk : Nat} (ht : ti = true)
    (F : Fr h₀ L h (fun y => if y = Str.ofString "word" then some (.int (turnI n S) t) else m y)) (N : News h₀ L h news') (hn : ∀ p ∈ news, p ∈ news') : RefEnd h₀ L m news s n S ti .next { s with heap := h, toks := tk } :=
  ⟨rfl, turnI n S, t, h, tk, rfl, by rw [if_pos ht], F, fun p hp => N p (hn p hp)⟩
theorem RefEnd.introF {h₀ : Heap} {L : Addr} {m : Str → Option Value} {news news' : List (Addr × Obj)} {s : Shared} {n S : Int} {ti : Bool} {t : Tok} {h : Heap} {tk : Nat} (ht : ti = false)
    (F : Fr h₀ L h m) (N : News h₀ L h news') (hm : m (Str.ofString "word") = some (.int n t)) (hn : ∀ p ∈ news, p ∈ news') : RefEnd h₀ L m news s n S ti .next { s with heap := h, toks := tk } := by
  have em : (fun y => if y = Str.ofString "word" then some (.int n t) else m y) = m := by
    funext y
    split
    · rename_i h; rw [h, hm]
    · rfl
  exact ⟨rfl, n, t, h, tk, rfl, by rw [if_neg (by rw [ht]; decide)], em.symm ▸ F, fun p hp => N p (hn p hp)⟩
theorem cut_ref {M : Model} {A : Around} {E : Value → Shared → Prop} {s : Shared} {c : Sem Flow} {Q : Flow → Shared → Prop} {h₀ : Heap} {L : Addr} {m : Str → Option Value} {news : List (Addr × Obj)} {n S : Int} {t : Tok} {ti : Bool}
    (_hm : m (Str.ofString "word") = some (.int n t)) (_F : Fr h₀ L s.heap m) (_N : News h₀ L s.heap news) (hn0 : 0 ≤ n) (hn1 : n ≤ 1 * 2 ^ S.toNat - 1)
    (h1 : wpAny M A c (RefEnd h₀ L m news s n S ti) E s)
    (h2 : ∀ (v : Int) (t : Tok) (h : Heap) (tk : Nat), (v = if ti = true then turnI n S else n) → 0 ≤ v → v < 2 ^ S.toNat → Fr h₀ L h (fun y => if y = Str.ofString "word" then some (.int v t) else m y) → News h₀ L h news → Q .next { s with heap := h, toks := tk }) : wpAny M A c Q E s := by
  refine wpAny_mono h1 (fun fl s' hq => ?_) fun _ _ x => x
  obtain ⟨rfl, v, t, h, tk, rfl, hv, F, N⟩ := hq
  refine h2 v t h tk hv ?_ ?_ F N
  · rw [hv]
    split
    · exact turnI_nonneg _ _
    · exact hn0
  · rw [hv]
    split
    · exact turnI_lt _ _
    · omega
/-- compute's contract: it tells the law's own sum, or raises where a word is out of its range -/
abbrev CmpCl (w : World) (loose : List Str) (mean : ExcName → Option Value) (mg mb : Str → Option Value) (news : List (Addr × Obj)) (x lw : Addr) (W P I X S : Int) (ti to : Bool) (ws : List Int) : Prop :=
  ∀ (dp un : Nat) (gd : Option (List Code)) (cn : Str) (cs : Scope) (a : Addr) (ccd : Value) (cl : List (Str × Addr)) (outer : List Env) (A₀ : Around) (base h₀ : Heap) (L : Addr) (m : Str → Option Value) (s : Shared) (Q E : Value → Shared → Prop),
    Below A₀ base outer h₀ → Fr h₀ L s.heap m → (hd.heap_39 w.params).In h₀ → News h₀ L s.heap news → Top hd.view_39 loose mean mg mb h₀ → cs.kind = .function →
    dp + 2 < recursionLimit → un + 8 * 2 < cLine → (0 < W ∧ W ≤ 16 ∧ 0 < S ∧ S ≤ 16 ∧ 0 ≤ P ∧ P < 2 ^ W.toNat ∧ 0 ≤ I ∧ I < 2 ^ W.toNat ∧ 0 ≤ X ∧ X < 2 ^ W.toNat) →
    (WordsOk S ws → ∀ (t : Tok) (h' : Heap) (tk' : Nat), Fr h₀ L h' m → News h₀ L h' news → Q (.int (sumI W (1 * 2 ^ W.toNat + P) I X ti to ws S) t) { s with heap := h', toks := tk' }) →
    (¬ WordsOk S ws → ∀ (g : Heap) (e : Addr) (h' : Heap) (tk' : Nat), Fr h₀ L g m → RaisedN base (envX cn cs L a ccd cl :: outer) e (.type "ValueError") news h' → g.UpToSlots h' → E (.ref e) { s with heap := h', toks := tk' }) →
      wpAny (model PySem.Challenge.rw_jy0006_01.row.toRowW.prog w) (ktrTop dp un gd cn cs L a ccd cl outer) (call (.ref 118) [.ref x, .ref lw]) Q E s

theorem compute_tells (w : World) (loose : List Str) (mean : ExcName → Option Value) (mg mb : Str → Option Value) (news : List (Addr × Obj)) (h1 h2 h3 h4 h5 h6 h7 : Int) (k1 k2 k3 k4 k5 k6 k7 t1 t2 t3 t6 t7 : Tok) (W P I : Int) (ti to : Bool) (X S : Int)
    (x dx lw : Addr) (vs : List Value) (nn : Nat) (ws : List Int) (hx : (x, instObj 145 dx) ∈ news) (hdx : (dx, dictOf (parD h1 h2 h3 h4 h5 h6 h7 k1 k2 k3 k4 k5 k6 k7 t1 t2 t3 t6 t7 W P I ti to X S) 7) ∈ news)
    (hm : (lw, listOf vs.toArray nn) ∈ news) (hi : IntsAre vs ws) : CmpCl w loose mean mg mb news x lw W P I X S ti to ws := by
  k_with_none
  (k_with "InvEndN" => k_dflt kst_close)
  (k_with "getMethod ref" => ((with_reducible show wpAny _ _ (getMethod (Value.ref _) (PySem.Str.ofString "_reflect") _) _ _ _); walk_at "last getMethod ref"))
  (k_with "call ref" => (k_here; k_dflt (refine' reflect_use (by k_asm) (by k_asm) (by k_asm) (by k_asm) (by k_asm) (by first | exact rfl | assumption) (by ktr_room) (by ktr_units) (by first | omega | k_extra "p1") (by first | omega | k_extra "p2") (by omega) (by omega) ?_; k_whole; intro t9 h9 tk9 F9 N9 hT8 hT9; (try dsimp only); (try k_fold))))
  dsimp only [CmpCl]
  k_fill
  intros
  rename_i hd1 hu1 hpre hret hraise
  obtain ⟨hW0, hW1, hS0, hS1, hP0, hP1, hI0, hI1, hX0, hX1⟩ := hpre
  have hpW := pow16 hW1
  have hpS := pow16 hS1
  have hpS2 := pow_ge2 hS0
  rename News _ _ _ _ => N0
  have N2 := News_add (News_add (News_add N0 hm) (.tail _ hdx)) (.tail _ (.tail _ hx))
  clear N0
  refine wpAny_call ?_
  k_dflt cell_enter
  (k_with "isTrue UnaryOp" => (k_here; (fail_if_success (with_reducible show wpAny _ _ _ (NotEnd _ _ _ _ _ _ _) _ _)); (with_reducible rename Fr _ _ _ _ => cF'); (with_reducible rename News _ _ _ _ => cN'); (refine' cut_not (S := S) (by with_unfolding_all rfl) cF' cN' ?_ (fun hNo9 h9 tk9 F9 N9 => ?_) (fun hn8 hn9 h9 tk9 F9 N9 => ?_)); (all_goals (try dsimp only))))
  (k_with "NotEnd" => ((with_reducible rename Fr _ _ _ _ => cF'); (with_reducible rename News _ _ _ _ => cN'); (refine' NotEnd.intro cF' cN' (by kcf_all) (by first | exact iff_of_true rfl (fun h => absurd h.1 (by assumption)) | exact iff_of_true rfl (fun h => absurd h.2 (by assumption)) | exact iff_of_false (by decide) (fun h => h ⟨by assumption, by assumption⟩) | (simp only [Bool.not_eq_true', decide_eq_false_iff_not, decide_eq_true_eq]; omega)))))
  (k_with "exec If" => (k_here; (with_reducible show wpAny _ _ (exec (Stmt.If (Expr.Attribute _ (PySem.Str.ofString "_reflect_input") _) _ _ _) _) _ _ _); (fail_if_success (with_reducible show wpAny _ _ _ (RefEnd _ _ _ _ _ _ _ _) _ _)); (with_reducible rename Fr _ _ _ _ => cF'); (with_reducible rename News _ _ _ _ => cN'); (refine' cut_ref (S := S) (ti := ti) (by with_unfolding_all rfl) cF' cN' (by assumption) (by assumption) ?_ (fun v9 t9 h9 tk9 hv9 hv8 hv7 F9 N9 => ?_)); (all_goals (try dsimp only))))
  (k_with "RefEnd" => ((with_reducible rename Fr _ _ _ _ => cF'); (with_reducible rename News _ _ _ _ => cN'); first | ((have ht9 : ti = true := by assumption); refine' RefEnd.introT ht9 cF' cN' (by kcf_all)) | ((have ht9 : ti = false := by assumption); refine' RefEnd.introF ht9 cF' cN' (by with_unfolding_all rfl) (by kcf_all))))
  (k_with "state" => first
    | with_reducible exact comp_start hW0 hW1 hS0 hS1 hP0 hP1 hI0 hI1
    | with_reducible exact inner_start hW0 hW1 hS0 hS1 (by assumption) (by omega) (by omega)
    | with_reducible exact inner_turnT hW0 hW1 hS0 hS1 hP0 hP1 (by assumption) (by assumption) (by assumption) (by assumption) (by assumption)
    | with_reducible exact inner_turnF hW0 hW1 hS0 hS1 hP1 (by assumption) (by assumption) (by assumption) (by assumption) (by assumption)
    | with_reducible exact outer_turn hW0 hW1 hS0 hS1 hP0 hP1 hI0 (by assumption) (by assumption) (by assumption) (by assumption) (by assumption) (by assumption) (by assumption) (by assumption)
    | with_reducible exact outer_turn hW0 hW1 hS0 hS1 hP0 hP1 hI0 (by assumption) (by assumption) (by assumption) (by assumption) (by rw [if_pos (by assumption)]) (by assumption) (by assumption) (by assumption)
    | with_reducible exact outer_turn hW0 hW1 hS0 hS1 hP0 hP1 hI0 (by assumption) (by assumption) (by assumption) (by assumption) (by rw [if_neg (by simp [*])]) (by assumption) (by assumption) (by assumption))
  (k_with "p1" => (rw [final_div (by assumption)]; exact restOf_nonneg _ _ _ _ _ _))
  (k_with "p2" => (rw [final_div (by assumption)]; exact restOf_lt _ _ _ _ _ _))
  (k_with "pyIter ref" => (k_of "_" => k_state_given ["crc!"] (fun c0 pre crc => crc.toNat = rdsN (W.toNat + S.toNat) (P.toNat <<< S.toNat) pre.length c0.toNat ∧ c0.toNat < 2 ^ (W.toNat + S.toNat) ∧ 0 ≤ crc ∧ crc < 2 ^ 60) "crc"))
  (k_with "pyIter ref" => (k_of "word" => k_state (fun pre crc => crc = restOf (1 * 2 ^ W.toNat + P) W I S ti pre * 2 ^ S.toNat ∧ WordsOk S pre ∧ 0 ≤ crc ∧ crc < 2 ^ 40) "crc"))
  k_steps
  all_goals first
    | (refine hraise (not_words2 (by assumption) (by assumption)) _ _ _ _ (by k_asm) (RaisedN.sub (by assumption) ?_) (by assumption); kcj_all)
    | (refine hraise (not_words (by assumption) (by first | exact .inl (by assumption) | exact .inr (by assumption))) _ _ _ _ (by k_asm) (RaisedN.sub (by assumption) ?_) (by assumption); kcj_all)
    | (refine cb_retI (hret (by assumption)) ?_ (by k_asm) (cb_drop (by k_asm) (by kcj_all)); first | ((have ht9 : to = true := by assumption); exact (sum_out (by assumption)).1 ht9) | ((have ht9 : to = false := by assumption); exact (sum_out (by assumption)).2 ht9))
end

section
open PySem PySem.W PyProof.Rows PySem.Calls
set_option Elab.async false
set_option maxRecDepth 100000
theorem place_is (i b : Int) : (Builtin.Range.rangePlace? 0 b 1 i).isSome = decide (0 ≤ i ∧ i < b) := by
  unfold Builtin.Range.rangePlace?
  have h1 : ((i - 0) % 1 == 0) = true := by simp [Int.emod_one]
  have h2 : (1 : Int) > 0 := by decide
  rw [if_pos h2, h1]
  by_cases h : 0 ≤ i ∧ i < b
  · rw [if_pos (by simp [h.1, h.2])]
    simp [h]
  · rw [if_neg (by simpa using h)]
    simp [h]
section
variable {prog : Program} {w : World} {A : Around} {E : Value → Shared → Prop} {s : Shared} {Q : Value → Shared → Prop}
theorem notIn_range {r : Addr} {b i : Int} {t u v ti : Tok} (hr : IsRange s.heap r 0 b 1 t u v) (h : Q (.bool (!decide (0 ≤ i ∧ i < b))) s) : wpAny (model prog w) A (compareOp .NotIn (.int i ti) (.ref r)) Q E s := by
  have hT : s.TypeIs (.ref r) "range" := ⟨_, hr, rfl⟩
  show wpAny _ _ (do return .bool (!(← contains (.ref r) (.int i ti)))) Q E s
  refine wpAny_bind (wpAny_contains_slot hT F.slot_range_contains (wpAny_call_entry F.slot_range_contains hT F.entry_range_contains ?_ (F.args_range_contains_2 _ _)))
  unfold Builtin.«range.__contains__»
  refine wpAny_bind (m := slotArgs "__contains__" 1 _) (wpAny_pure ?_)
  refine wpAny_bind (m := rule _) (wpAny_rule ?_)
  refine wpAny_bind (m := Builtin.Range.rangeFields _) ?_
  unfold Builtin.Range.rangeFields
  show wpAny _ _ (field (.ref r) 0 >>= _) _ _ s
  refine wpAny_bind (wpAny_field hr rfl (x := .int 0 t) rfl ?_)
  show wpAny _ _ (field (.ref r) 1 >>= _) _ _ s
  refine wpAny_bind (wpAny_field hr rfl (x := .int b u) rfl ?_)
  show wpAny _ _ (field (.ref r) 2 >>= _) _ _ s
  refine wpAny_bind (wpAny_field hr rfl (x := .int 1 v) rfl ?_)
  refine wpAny_bind (m := asInt? _) (wpAny_pure ?_)
  refine wpAny_pure ?_
  show wpAny _ _ (ret _) _ _ s
  rw [place_is]
  refine wpAny_pure ⟨_, rfl, ?_⟩
  exact wpAny_pure (wpAny_pure h)
theorem notIn_yes {r : Addr} {b i : Int} {t u v ti : Tok} (hr : IsRange s.heap r 0 b 1 t u v) (h0 : 0 ≤ i) (h1 : i < b) (h : Q (.bool false) s) : wpAny (model prog w) A (compareOp .NotIn (.int i ti) (.ref r)) Q E s :=
  notIn_range hr (by rw [decide_eq_true (And.intro h0 h1)]; exact h)
theorem notIn_no {r : Addr} {b i : Int} {t u v ti : Tok} (hr : IsRange s.heap r 0 b 1 t u v) (h0 : ¬ (0 ≤ i ∧ i < b)) (h : Q (.bool true) s) : wpAny (model prog w) A (compareOp .NotIn (.int i ti) (.ref r)) Q E s :=
  notIn_range hr (by rw [decide_eq_false h0]; exact h)
end
end

section
local macro_rules | `(tactic| ktr_room) => `(tactic| k_extra "ktr_room")
local macro_rules | `(tactic| ktr_units) => `(tactic| k_extra "ktr_units")
local macro_rules | `(tactic| k_room) => `(tactic| ktr_room)
local macro_rules | `(tactic| k_units) => `(tactic| ktr_units)
section
open PySem PySem.W PyProof.Rows
set_option Elab.async false
set_option maxRecDepth 100000
set_option maxHeartbeats 8000000
abbrev MkAlg (w : World) (loose : List Str) (mean : ExcName → Option Value) (mg mb : Str → Option Value) (news : List (Addr × Obj)) (W P I : Int) (ti to : Bool) (X : Int) (t1 t2 t3 t6 : Tok) : Prop :=
  ∀ (dp un : Nat) (gd : Option (List Code)) (cn : Str) (nm : List (Str × NameKind)) (ig ic : Bool) (mo : List (Str × Const)) (a : Addr) (ccd : Value) (cl : List (Str × Addr)) (outer : List Env) (A₀ : Around) (base h₀ : Heap) (L : Addr) (m : Str → Option Value) (s : Shared) (Q E : Value → Shared → Prop),
    Below A₀ base outer h₀ → Fr h₀ L s.heap m → (hd.heap_39 w.params).In h₀ → News h₀ L s.heap news → Top hd.view_39 loose mean mg mb h₀ →
    dp + 4 < recursionLimit → un + 8 * 4 < cLine → 0 ≤ W → W ≤ 16 →
    (Fine W P I X → ∀ (x dx : Addr) (h1 h2 h3 h4 h5 h6 : Int) (k1 k2 k3 k4 k5 k6 : Tok) (h' : Heap) (tk' : Nat), Fr h₀ L h' m → News h₀ L h' ((x, instObj 77 dx) :: (dx, dictOf (algD h1 h2 h3 h4 h5 h6 k1 k2 k3 k4 k5 k6 t1 t2 t3 t6 W P I ti to X) 6) :: news) → (∀ p ∈ news, p.1 < dx) → dx < x → Q (.ref x) { s with heap := h', toks := tk' }) →
    (¬ Fine W P I X → ∀ (g : Heap) (e : Addr) (h' : Heap) (tk' : Nat), Fr h₀ L g m → RaisedN base (envX cn (⟨.function, nm, ig, ic, mo⟩ : Scope) L a ccd cl :: outer) e (.type "ValueError") news h' → g.UpToSlots h' → E (.ref e) { s with heap := h', toks := tk' }) →
      wpAny (model PySem.Challenge.rw_jy0006_01.row.toRowW.prog w) (ktrTop dp un gd cn (⟨.function, nm, ig, ic, mo⟩ : Scope) L a ccd cl outer) (call (.ref 77) [] [("crc_width", .int W t1), ("polynomial", .int P t2), ("initial_crc", .int I t3), ("reflect_input", .bool ti), ("reflect_output", .bool to), ("xor_output", .int X t6)]) Q E s
theorem mkAlg_tells (w : World) (loose : List Str) (mean : ExcName → Option Value) (mg mb : Str → Option Value) (news : List (Addr × Obj)) (W P I : Int) (ti to : Bool) (X : Int) (t1 t2 t3 t6 : Tok) : MkAlg w loose mean mg mb news W P I ti to X t1 t2 t3 t6 := by
  k_with_none
  (k_with "compareOp NotIn" => (k_here; (with_reducible show wpAny _ _ (compareOp CmpOp.NotIn (Value.int _ _) (Value.ref _)) _ _ _); (refine' notIn_range (by first | assumption | with_unfolding_all assumption) ?_); (try dsimp only)))
  (k_with "ktr_room" => ((try simp only [depth_under_make, depth_under_kw, depth_in1, depth_deeper]); (try dsimp only [ktrTop]); (with_reducible rename _ + _ < recursionLimit => hRm9); first | exact hRm9 | exact room_le hRm9 1 (by decide) | exact room_le hRm9 2 (by decide) | exact room_le hRm9 3 (by decide) | exact room_le hRm9 4 (by decide) | exact room_le hRm9 5 (by decide) | exact room_le hRm9 6 (by decide)))
  (k_with "ktr_units" => ((try simp only [units_in1, units_deeper, Around.mark_units]); (try dsimp only [ktrTop]); omega))
  dsimp only [MkAlg]
  k_fill
  intros
  rename_i hd1 hu1 hW0 hW1 hret hraise
  k_steps
  all_goals first
    | exact hret ⟨by assumption, by assumption, by assumption, by assumption⟩ _ _ _ _ _ _ _ _ _ _ _ _ _ _ _ _ (by k_asm) (by k_asm) (by first | assumption | exact of_allLt (by assumption)) (by assumption)
    | ((rename Heap.UpToSlots _ _ => hU); (refine hraise ?hf _ _ _ _ (by assumption) (RaisedN.sub (by assumption) (by kcj_all)) hU); (case hf => (unfold Fine; intro hF; first | exact absurd hF.1 (by assumption) | exact absurd hF.2.1 (by assumption) | exact absurd hF.2.2.1 (by assumption) | exact absurd hF.2.2.2 (by assumption))))
theorem mkAlg_use {w : World} {loose : List Str} {mean : ExcName → Option Value} {mg mb : Str → Option Value} {news : List (Addr × Obj)} {W P I : Int} {ti to : Bool} {X : Int} {t1 t2 t3 t6 : Tok}
  {dp un : Nat} {gd : Option (List Code)} {cn : Str} {nm : List (Str × NameKind)} {ig ic : Bool} {mo : List (Str × Const)} {a : Addr} {ccd : Value} {cl : List (Str × Addr)} {outer : List Env} {A₀ : Around} {base h₀ : Heap} {L : Addr} {m : Str → Option Value} {s : Shared} {Q E : Value → Shared → Prop}
    (B : Below A₀ base outer h₀) (F : Fr h₀ L s.heap m) (K : (hd.heap_39 w.params).In h₀) (N : News h₀ L s.heap news) (T : Top hd.view_39 loose mean mg mb h₀)
    (hd1 : dp + 4 < recursionLimit) (hu1 : un + 8 * 4 < cLine) (hW0 : 0 ≤ W) (hW1 : W ≤ 16)
    (ret : Fine W P I X → ∀ (x dx : Addr) (h1 h2 h3 h4 h5 h6 : Int) (k1 k2 k3 k4 k5 k6 : Tok) (h' : Heap) (tk' : Nat), Fr h₀ L h' m → News h₀ L h' ((x, instObj 77 dx) :: (dx, dictOf (algD h1 h2 h3 h4 h5 h6 k1 k2 k3 k4 k5 k6 t1 t2 t3 t6 W P I ti to X) 6) :: news) → (∀ p ∈ news, p.1 < dx) → dx < x → Q (.ref x) { s with heap := h', toks := tk' })
    (raise : ¬ Fine W P I X → ∀ (g : Heap) (e : Addr) (h' : Heap) (tk' : Nat), Fr h₀ L g m → RaisedN base (envX cn (⟨.function, nm, ig, ic, mo⟩ : Scope) L a ccd cl :: outer) e (.type "ValueError") news h' → g.UpToSlots h' → E (.ref e) { s with heap := h', toks := tk' }) :
      wpAny (model PySem.Challenge.rw_jy0006_01.row.toRowW.prog w) (ktrTop dp un gd cn (⟨.function, nm, ig, ic, mo⟩ : Scope) L a ccd cl outer) (call (.ref 77) [] [("crc_width", .int W t1), ("polynomial", .int P t2), ("initial_crc", .int I t3), ("reflect_input", .bool ti), ("reflect_output", .bool to), ("xor_output", .int X t6)]) Q E s :=
  mkAlg_tells w loose mean mg mb news W P I ti to X t1 t2 t3 t6 dp un gd cn nm ig ic mo a ccd cl outer A₀ base h₀ L m s Q E B F K N T hd1 hu1 hW0 hW1 ret raise
end

section
open PySem PySem.W PyProof.Rows
set_option Elab.async false
set_option maxRecDepth 100000
set_option maxHeartbeats 8000000
abbrev MkPar (w : World) (loose : List Str) (mean : ExcName → Option Value) (mg mb : Str → Option Value) (news : List (Addr × Obj)) (av : Addr) (W P I : Int) (ti to : Bool) (X : Int) (t1 t2 t3 t6 : Tok) (S : Int) (t7 : Tok) (callee : Value) (args : List Value) : Prop :=
  ∀ (dp un : Nat) (gd : Option (List Code)) (cn : Str) (nm : List (Str × NameKind)) (ig ic : Bool) (mo : List (Str × Const)) (a : Addr) (ccd : Value) (cl : List (Str × Addr)) (outer : List Env) (A₀ : Around) (base h₀ : Heap) (L : Addr) (m : Str → Option Value) (s : Shared) (Q E : Value → Shared → Prop),
    Below A₀ base outer h₀ → Fr h₀ L s.heap m → (hd.heap_39 w.params).In h₀ → News h₀ L s.heap news → Top hd.view_39 loose mean mg mb h₀ →
    dp + 6 < recursionLimit → un + 8 * 6 < cLine →
    (0 < S → ∀ (x dx : Addr) (h1 h2 h3 h4 h5 h6 h7 : Int) (k1 k2 k3 k4 k5 k6 k7 : Tok) (h' : Heap) (tk' : Nat), Fr h₀ L h' m → News h₀ L h' ((x, instObj 145 dx) :: (dx, dictOf (parD h1 h2 h3 h4 h5 h6 h7 k1 k2 k3 k4 k5 k6 k7 t1 t2 t3 t6 t7 W P I ti to X S) 7) :: news) → (∀ p ∈ news, p.1 < dx) → dx < x → Q (.ref x) { s with heap := h', toks := tk' }) →
    (¬ 0 < S → ∀ (g : Heap) (e : Addr) (h' : Heap) (tk' : Nat), Fr h₀ L g m → RaisedN base (envX cn (⟨.function, nm, ig, ic, mo⟩ : Scope) L a ccd cl :: outer) e (.type "ValueError") news h' → g.UpToSlots h' → E (.ref e) { s with heap := h', toks := tk' }) →
      wpAny (model PySem.Challenge.rw_jy0006_01.row.toRowW.prog w) (ktrTop dp un gd cn (⟨.function, nm, ig, ic, mo⟩ : Scope) L a ccd cl outer) (call callee args) Q E s
theorem mkPar_tells (w : World) (loose : List Str) (mean : ExcName → Option Value) (mg mb : Str → Option Value) (news : List (Addr × Obj)) (av dav : Addr) (g1 g2 g3 g4 g5 g6 : Int) (q1 q2 q3 q4 q5 q6 t1 t2 t3 t6 : Tok) (W P I : Int) (ti to : Bool) (X S : Int) (t7 : Tok)
    (hx : (av, instObj 77 dav) ∈ news) (hdx : (dav, dictOf (algD g1 g2 g3 g4 g5 g6 q1 q2 q3 q4 q5 q6 t1 t2 t3 t6 W P I ti to X) 6) ∈ news) : MkPar w loose mean mg mb news av W P I ti to X t1 t2 t3 t6 S t7 (.ref 145) [.ref av, .int S t7] := by
  k_with_none
  (k_with "compareOp NotIn" => (k_here; (with_reducible show wpAny _ _ (compareOp CmpOp.NotIn (Value.int _ _) (Value.ref _)) _ _ _); (refine' notIn_range (by first | assumption | with_unfolding_all assumption) ?_); (try dsimp only)))
  (k_with "ktr_room" => ((try simp only [depth_under_make, depth_under_kw, depth_in1, depth_deeper]); (try dsimp only [ktrTop]); (with_reducible rename _ + _ < recursionLimit => hRm9); first | exact hRm9 | exact room_le hRm9 1 (by decide) | exact room_le hRm9 2 (by decide) | exact room_le hRm9 3 (by decide) | exact room_le hRm9 4 (by decide) | exact room_le hRm9 5 (by decide) | exact room_le hRm9 6 (by decide)))
  (k_with "ktr_units" => ((try simp only [units_in1, units_deeper, Around.mark_units]); (try dsimp only [ktrTop]); omega))
  dsimp only [MkPar]
  k_fill
  intros
  rename_i hd1 hu1 hret hraise
  rename News _ _ _ _ => N0
  have N2 := News_add (News_add N0 hdx) (.tail _ hx)
  clear N0
  k_steps
  all_goals first
    | exact hret (by assumption) _ _ _ _ _ _ _ _ _ _ _ _ _ _ _ _ _ _ (by k_asm) (cb_drop (by k_asm) (by kcj_all)) (by first | assumption | exact of_allLt (And.right (And.right (by assumption)))) (by assumption)
    | ((rename Heap.UpToSlots _ _ => hU); exact hraise (by assumption) _ _ _ _ (by assumption) (RaisedN.sub (by assumption) (by kcj_all)) hU)
theorem mkPar_use {w : World} {loose : List Str} {mean : ExcName → Option Value} {mg mb : Str → Option Value} {news : List (Addr × Obj)} {av dav : Addr} {g1 g2 g3 g4 g5 g6 : Int} {q1 q2 q3 q4 q5 q6 t1 t2 t3 t6 : Tok} {W P I : Int} {ti to : Bool} {X S : Int} {t7 : Tok}
  {dp un : Nat} {gd : Option (List Code)} {cn : Str} {nm : List (Str × NameKind)} {ig ic : Bool} {mo : List (Str × Const)} {a : Addr} {ccd : Value} {cl : List (Str × Addr)} {outer : List Env} {A₀ : Around} {base h₀ : Heap} {L : Addr} {m : Str → Option Value} {s : Shared} {Q E : Value → Shared → Prop}
    (B : Below A₀ base outer h₀) (F : Fr h₀ L s.heap m) (K : (hd.heap_39 w.params).In h₀) (N : News h₀ L s.heap news) (T : Top hd.view_39 loose mean mg mb h₀)
    (hx : (av, instObj 77 dav) ∈ news) (hdx : (dav, dictOf (algD g1 g2 g3 g4 g5 g6 q1 q2 q3 q4 q5 q6 t1 t2 t3 t6 W P I ti to X) 6) ∈ news)
    (hd1 : dp + 6 < recursionLimit) (hu1 : un + 8 * 6 < cLine)
    (ret : 0 < S → ∀ (x dx : Addr) (h1 h2 h3 h4 h5 h6 h7 : Int) (k1 k2 k3 k4 k5 k6 k7 : Tok) (h' : Heap) (tk' : Nat), Fr h₀ L h' m → News h₀ L h' ((x, instObj 145 dx) :: (dx, dictOf (parD h1 h2 h3 h4 h5 h6 h7 k1 k2 k3 k4 k5 k6 k7 t1 t2 t3 t6 t7 W P I ti to X S) 7) :: news) → (∀ p ∈ news, p.1 < dx) → dx < x → Q (.ref x) { s with heap := h', toks := tk' })
    (raise : ¬ 0 < S → ∀ (g : Heap) (e : Addr) (h' : Heap) (tk' : Nat), Fr h₀ L g m → RaisedN base (envX cn (⟨.function, nm, ig, ic, mo⟩ : Scope) L a ccd cl :: outer) e (.type "ValueError") news h' → g.UpToSlots h' → E (.ref e) { s with heap := h', toks := tk' }) :
      wpAny (model PySem.Challenge.rw_jy0006_01.row.toRowW.prog w) (ktrTop dp un gd cn (⟨.function, nm, ig, ic, mo⟩ : Scope) L a ccd cl outer) (call (.ref 145) [.ref av, .int S t7]) Q E s :=
  mkPar_tells w loose mean mg mb news av dav g1 g2 g3 g4 g5 g6 q1 q2 q3 q4 q5 q6 t1 t2 t3 t6 W P I ti to X S t7 hx hdx dp un gd cn nm ig ic mo a ccd cl outer A₀ base h₀ L m s Q E B F K N T hd1 hu1 ret raise
theorem callAlg_tells (w : World) (loose : List Str) (mean : ExcName → Option Value) (mg mb : Str → Option Value) (news : List (Addr × Obj)) (av dav : Addr) (g1 g2 g3 g4 g5 g6 : Int) (q1 q2 q3 q4 q5 q6 t1 t2 t3 t6 : Tok) (W P I : Int) (ti to : Bool) (X S : Int) (t7 : Tok)
    (hx : (av, instObj 77 dav) ∈ news) (hdx : (dav, dictOf (algD g1 g2 g3 g4 g5 g6 q1 q2 q3 q4 q5 q6 t1 t2 t3 t6 W P I ti to X) 6) ∈ news) : MkPar w loose mean mg mb news av W P I ti to X t1 t2 t3 t6 S t7 (.ref av) [.int S t7] := by
  k_with_none
  (k_with "compareOp NotIn" => (k_here; (with_reducible show wpAny _ _ (compareOp CmpOp.NotIn (Value.int _ _) (Value.ref _)) _ _ _); (refine' notIn_range (by first | assumption | with_unfolding_all assumption) ?_); (try dsimp only)))
  (k_with "ktr_room" => ((try simp only [depth_under_make, depth_under_kw, depth_in1, depth_deeper]); (try dsimp only [ktrTop]); (with_reducible rename _ + _ < recursionLimit => hRm9); first | exact hRm9 | exact room_le hRm9 1 (by decide) | exact room_le hRm9 2 (by decide) | exact room_le hRm9 3 (by decide) | exact room_le hRm9 4 (by decide) | exact room_le hRm9 5 (by decide) | exact room_le hRm9 6 (by decide)))
  (k_with "ktr_units" => ((try simp only [units_in1, units_deeper, Around.mark_units]); (try dsimp only [ktrTop]); omega))
  dsimp only [MkPar]
  k_fill
  intros
  rename_i hd1 hu1 hret hraise
  rename News _ _ _ _ => N0
  have N2 := News_add (News_add N0 hdx) (.tail _ hx)
  clear N0
  k_steps
  all_goals (try (dsimp only [InitBack]; k_steps))
  all_goals first
    | exact hret (by assumption) _ _ _ _ _ _ _ _ _ _ _ _ _ _ _ _ _ _ (by k_asm) (cb_drop (by k_asm) (by kcj_all)) (by first | assumption | exact of_allLt (And.right (And.right (by assumption)))) (by assumption)
    | ((rename Heap.UpToSlots _ _ => hU); exact hraise (by assumption) _ _ _ _ (by assumption) (RaisedN.sub (by assumption) (by kcj_all)) hU)
theorem callAlg_use {w : World} {loose : List Str} {mean : ExcName → Option Value} {mg mb : Str → Option Value} {news : List (Addr × Obj)} {av dav : Addr} {g1 g2 g3 g4 g5 g6 : Int} {q1 q2 q3 q4 q5 q6 t1 t2 t3 t6 : Tok} {W P I : Int} {ti to : Bool} {X S : Int} {t7 : Tok}
  {dp un : Nat} {gd : Option (List Code)} {cn : Str} {nm : List (Str × NameKind)} {ig ic : Bool} {mo : List (Str × Const)} {a : Addr} {ccd : Value} {cl : List (Str × Addr)} {outer : List Env} {A₀ : Around} {base h₀ : Heap} {L : Addr} {m : Str → Option Value} {s : Shared} {Q E : Value → Shared → Prop}
    (B : Below A₀ base outer h₀) (F : Fr h₀ L s.heap m) (K : (hd.heap_39 w.params).In h₀) (N : News h₀ L s.heap news) (T : Top hd.view_39 loose mean mg mb h₀)
    (hx : (av, instObj 77 dav) ∈ news) (hdx : (dav, dictOf (algD g1 g2 g3 g4 g5 g6 q1 q2 q3 q4 q5 q6 t1 t2 t3 t6 W P I ti to X) 6) ∈ news)
    (hd1 : dp + 6 < recursionLimit) (hu1 : un + 8 * 6 < cLine)
    (ret : 0 < S → ∀ (x dx : Addr) (h1 h2 h3 h4 h5 h6 h7 : Int) (k1 k2 k3 k4 k5 k6 k7 : Tok) (h' : Heap) (tk' : Nat), Fr h₀ L h' m → News h₀ L h' ((x, instObj 145 dx) :: (dx, dictOf (parD h1 h2 h3 h4 h5 h6 h7 k1 k2 k3 k4 k5 k6 k7 t1 t2 t3 t6 t7 W P I ti to X S) 7) :: news) → (∀ p ∈ news, p.1 < dx) → dx < x → Q (.ref x) { s with heap := h', toks := tk' })
    (raise : ¬ 0 < S → ∀ (g : Heap) (e : Addr) (h' : Heap) (tk' : Nat), Fr h₀ L g m → RaisedN base (envX cn (⟨.function, nm, ig, ic, mo⟩ : Scope) L a ccd cl :: outer) e (.type "ValueError") news h' → g.UpToSlots h' → E (.ref e) { s with heap := h', toks := tk' }) :
      wpAny (model PySem.Challenge.rw_jy0006_01.row.toRowW.prog w) (ktrTop dp un gd cn (⟨.function, nm, ig, ic, mo⟩ : Scope) L a ccd cl outer) (call (.ref av) [.int S t7]) Q E s :=
  callAlg_tells w loose mean mg mb news av dav g1 g2 g3 g4 g5 g6 q1 q2 q3 q4 q5 q6 t1 t2 t3 t6 W P I ti to X S t7 hx hdx dp un gd cn nm ig ic mo a ccd cl outer A₀ base h₀ L m s Q E B F K N T hd1 hu1 ret raise
end

section
open PySem PySem.W PyProof.Rows
set_option Elab.async false
set_option maxRecDepth 100000
set_option maxHeartbeats 8000000
abbrev GetAlg (w : World) (loose : List Str) (mean : ExcName → Option Value) (mg mb : Str → Option Value) (news : List (Addr × Obj)) (x : Addr) (W P I : Int) (ti to : Bool) (X : Int) (t1 t2 t3 t6 : Tok) : Prop :=
  ∀ (dp un : Nat) (gd : Option (List Code)) (cn : Str) (nm : List (Str × NameKind)) (ig ic : Bool) (mo : List (Str × Const)) (a : Addr) (ccd : Value) (cl : List (Str × Addr)) (outer : List Env) (A₀ : Around) (base h₀ : Heap) (L : Addr) (m : Str → Option Value) (s : Shared) (Q E : Value → Shared → Prop),
    Below A₀ base outer h₀ → Fr h₀ L s.heap m → (hd.heap_39 w.params).In h₀ → News h₀ L s.heap news → Top hd.view_39 loose mean mg mb h₀ →
    dp + 6 < recursionLimit → un + 8 * 6 < cLine → Fine W P I X → W ≤ 16 →
    (∀ (x dx : Addr) (h1 h2 h3 h4 h5 h6 : Int) (k1 k2 k3 k4 k5 k6 : Tok) (h' : Heap) (tk' : Nat), Fr h₀ L h' m → News h₀ L h' ((x, instObj 77 dx) :: (dx, dictOf (algD h1 h2 h3 h4 h5 h6 k1 k2 k3 k4 k5 k6 t1 t2 t3 t6 W P I ti to X) 6) :: news) → (∀ p ∈ news, p.1 < dx) → dx < x → Q (.ref x) { s with heap := h', toks := tk' }) →
      wpAny (model PySem.Challenge.rw_jy0006_01.row.toRowW.prog w) (ktrTop dp un gd cn (⟨.function, nm, ig, ic, mo⟩ : Scope) L a ccd cl outer) (getAttr (.ref x) "algorithm" true) Q E s
theorem getAlg_tells (w : World) (loose : List Str) (mean : ExcName → Option Value) (mg mb : Str → Option Value) (news : List (Addr × Obj)) (h1 h2 h3 h4 h5 h6 h7 : Int) (k1 k2 k3 k4 k5 k6 k7 t1 t2 t3 t6 t7 : Tok) (W P I : Int) (ti to : Bool) (X S : Int)
    (x dx : Addr) (hx : (x, instObj 145 dx) ∈ news) (hdx : (dx, dictOf (parD h1 h2 h3 h4 h5 h6 h7 k1 k2 k3 k4 k5 k6 k7 t1 t2 t3 t6 t7 W P I ti to X S) 7) ∈ news) : GetAlg w loose mean mg mb news x W P I ti to X t1 t2 t3 t6 := by
  k_with_none
  (k_with "compareOp NotIn" => (k_here; (with_reducible show wpAny _ _ (compareOp CmpOp.NotIn (Value.int _ _) (Value.ref _)) _ _ _); (refine' notIn_range (by first | assumption | with_unfolding_all assumption) ?_); (try dsimp only)))
  (k_with "call ref" => (k_here; k_dflt (refine' mkAlg_use (by k_asm) (by k_asm) (by k_asm) (by k_asm) (by k_asm) (by ktr_room) (by ktr_units) (by omega) (by omega) ?_ (by intro hF9; exact absurd (by assumption) hF9); k_whole); (intro hS9 x9 d9 c1 c2 c3 c4 c5 c6 r1 r2 r3 r4 r5 r6 h9 tk9 F9 N9 l9 m9; (try k_lt l9); (try k_lt2 m9); (try dsimp only); (try k_fold))))
  (k_with "ktr_room" => ((try simp only [depth_under_make, depth_under_kw, depth_in1, depth_deeper]); (try dsimp only [ktrTop]); (with_reducible rename _ + _ < recursionLimit => hRm9); first | exact hRm9 | exact room_le hRm9 1 (by decide) | exact room_le hRm9 2 (by decide) | exact room_le hRm9 3 (by decide) | exact room_le hRm9 4 (by decide) | exact room_le hRm9 5 (by decide) | exact room_le hRm9 6 (by decide)))
  (k_with "ktr_units" => ((try simp only [units_in1, units_deeper, Around.mark_units]); (try dsimp only [ktrTop]); omega))
  dsimp only [GetAlg]
  k_fill
  intros
  rename_i hd1 hu1 hF hW1 hret
  have hW0 := hF.1
  rename News _ _ _ _ => N0
  have N2 := News_add (News_add N0 hdx) (.tail _ hx)
  clear N0
  k_steps
  all_goals first
    | exact hret _ _ _ _ _ _ _ _ _ _ _ _ _ _ _ _ (by k_asm) (cb_drop (by k_asm) (by kcj_all)) (by first | assumption | exact of_allLt (And.right (And.right (by assumption)))) (by assumption)
theorem getAlg_use {w : World} {loose : List Str} {mean : ExcName → Option Value} {mg mb : Str → Option Value} {news : List (Addr × Obj)} {h1 h2 h3 h4 h5 h6 h7 : Int} {k1 k2 k3 k4 k5 k6 k7 t1 t2 t3 t6 t7 : Tok} {W P I : Int} {ti to : Bool} {X S : Int}
    {x dx : Addr}
  {dp un : Nat} {gd : Option (List Code)} {cn : Str} {nm : List (Str × NameKind)} {ig ic : Bool} {mo : List (Str × Const)} {a : Addr} {ccd : Value} {cl : List (Str × Addr)} {outer : List Env} {A₀ : Around} {base h₀ : Heap} {L : Addr} {m : Str → Option Value} {s : Shared} {Q E : Value → Shared → Prop}
    (B : Below A₀ base outer h₀) (F : Fr h₀ L s.heap m) (K : (hd.heap_39 w.params).In h₀) (N : News h₀ L s.heap news) (T : Top hd.view_39 loose mean mg mb h₀)
    (hx : (x, instObj 145 dx) ∈ news) (hdx : (dx, dictOf (parD h1 h2 h3 h4 h5 h6 h7 k1 k2 k3 k4 k5 k6 k7 t1 t2 t3 t6 t7 W P I ti to X S) 7) ∈ news)
    (hd1 : dp + 6 < recursionLimit) (hu1 : un + 8 * 6 < cLine) (hF : Fine W P I X) (hW1 : W ≤ 16)
    (ret : ∀ (x dx : Addr) (h1 h2 h3 h4 h5 h6 : Int) (k1 k2 k3 k4 k5 k6 : Tok) (h' : Heap) (tk' : Nat), Fr h₀ L h' m → News h₀ L h' ((x, instObj 77 dx) :: (dx, dictOf (algD h1 h2 h3 h4 h5 h6 k1 k2 k3 k4 k5 k6 t1 t2 t3 t6 W P I ti to X) 6) :: news) → (∀ p ∈ news, p.1 < dx) → dx < x → Q (.ref x) { s with heap := h', toks := tk' }) :
      wpAny (model PySem.Challenge.rw_jy0006_01.row.toRowW.prog w) (ktrTop dp un gd cn (⟨.function, nm, ig, ic, mo⟩ : Scope) L a ccd cl outer) (getAttr (.ref x) "algorithm" true) Q E s :=
  getAlg_tells w loose mean mg mb news h1 h2 h3 h4 h5 h6 h7 k1 k2 k3 k4 k5 k6 k7 t1 t2 t3 t6 t7 W P I ti to X S x dx hx hdx dp un gd cn nm ig ic mo a ccd cl outer A₀ base h₀ L m s Q E B F K N T hd1 hu1 hF hW1 ret
end

section
open PySem PySem.W PyProof.Rows
set_option Elab.async false
set_option maxRecDepth 100000
set_option maxHeartbeats 8000000
theorem compute_use {w : World} {loose : List Str} {mean : ExcName → Option Value} {mg mb : Str → Option Value} {news : List (Addr × Obj)} {h1 h2 h3 h4 h5 h6 h7 : Int} {k1 k2 k3 k4 k5 k6 k7 t1 t2 t3 t6 t7 : Tok} {W P I : Int} {ti to : Bool} {X S : Int}
    {x dx lw : Addr} {vs : List Value} {nn : Nat} {ws : List Int}
  {dp un : Nat} {gd : Option (List Code)} {cn : Str} {cs : Scope} {a : Addr} {ccd : Value} {cl : List (Str × Addr)} {outer : List Env} {A₀ : Around} {base h₀ : Heap} {L : Addr} {m : Str → Option Value} {s : Shared} {Q E : Value → Shared → Prop}
   (B : Below A₀ base outer h₀) (F : Fr h₀ L s.heap m) (K : (hd.heap_39 w.params).In h₀) (N : News h₀ L s.heap news) (T : Top hd.view_39 loose mean mg mb h₀) (hk : cs.kind = .function)
   (hx : (x, instObj 145 dx) ∈ news) (hdx : (dx, dictOf [⟨h1, .str "_crc_width" k1, .int W t1⟩, ⟨h2, .str "_polynomial" k2, .int P t2⟩, ⟨h3, .str "_initial_crc" k3, .int I t3⟩, ⟨h4, .str "_reflect_input" k4, .bool ti⟩, ⟨h5, .str "_reflect_output" k5, .bool to⟩, ⟨h6, .str "_xor_output" k6, .int X t6⟩, ⟨h7, .str "data_width" k7, .int S t7⟩] 7) ∈ news)
    (hm : (lw, listOf vs.toArray nn) ∈ news) (hi : IntsAre vs ws)
   (hd1 : dp + 2 < recursionLimit) (hu1 : un + 8 * 2 < cLine) (p : 0 < W ∧ W ≤ 16 ∧ 0 < S ∧ S ≤ 16 ∧ 0 ≤ P ∧ P < 2 ^ W.toNat ∧ 0 ≤ I ∧ I < 2 ^ W.toNat ∧ 0 ≤ X ∧ X < 2 ^ W.toNat)
    (ret : WordsOk S ws → ∀ (t : Tok) (h' : Heap) (tk' : Nat), Fr h₀ L h' m → News h₀ L h' news → Q (.int (sumI W (1 * 2 ^ W.toNat + P) I X ti to ws S) t) { s with heap := h', toks := tk' })
    (raise : ¬ WordsOk S ws → ∀ (g : Heap) (e : Addr) (h' : Heap) (tk' : Nat), Fr h₀ L g m → RaisedN base (envX cn cs L a ccd cl :: outer) e (.type "ValueError") news h' → g.UpToSlots h' → E (.ref e) { s with heap := h', toks := tk' }) :
      wpAny (model PySem.Challenge.rw_jy0006_01.row.toRowW.prog w) (ktrTop dp un gd cn cs L a ccd cl outer) (call (.ref 118) [.ref x, .ref lw]) Q E s :=
   compute_tells w loose mean mg mb news h1 h2 h3 h4 h5 h6 h7 k1 k2 k3 k4 k5 k6 k7 t1 t2 t3 t6 t7 W P I ti to X S x dx lw vs nn ws hx hdx hm hi dp un gd cn cs a ccd cl outer A₀ base h₀ L m s Q E B F K N T hk hd1 hu1 p ret raise
theorem words0 (W : Int) : WordsOk W [0] := fun x hx => by
  rw [List.mem_singleton.mp hx]
  exact ⟨Int.le_refl _, kbt_pos _⟩
theorem residue_is {W P X : Int} {to : Bool} {i : Int} (hW : 0 ≤ W) (hi : 0 ≤ i) (he : i = outI to W X) : sumI W (1 * 2 ^ W.toNat + P) i 0 false to [0] W = outI to W (restI (1 * 2 ^ W.toNat + P) W (outI to W X * 2 ^ W.toNat)) := by
  have h0 : Builtin.bitXor (outI to W (restOf (1 * 2 ^ W.toNat + P) W i W false [0])) 0 = outI to W (restOf (1 * 2 ^ W.toNat + P) W i W false [0]) := bitXor_zero _
  unfold sumI
  rw [h0, restOf_eq]
  have e : fullI W i W false [0] = outI to W X * 2 ^ W.toNat := by
    unfold fullI
    have s0 : streamI W false [0] = 0 := by simp [streamI]
    rw [s0, Int.zero_mul, bitXor_pp (Int.le_refl 0) (mulpow_nonneg hi _), ← he]
    have h1 : (W * (([0] : List Int).length : Int)).toNat = W.toNat := by simp
    rw [h1]
    have := mulpow_nonneg hi W.toNat
    simp
    omega
  rw [e]
theorem residue_tells (w : World) (loose : List Str) (mean : ExcName → Option Value) (mg mb : Str → Option Value) (news : List (Addr × Obj)) (h1 h2 h3 h4 h5 h6 h7 : Int) (k1 k2 k3 k4 k5 k6 k7 t1 t2 t3 t6 t7 : Tok) (W P I : Int) (ti to : Bool) (X S : Int)
    (x dx : Addr) (hx : (x, instObj 145 dx) ∈ news) (hdx : (dx, dictOf (parD h1 h2 h3 h4 h5 h6 h7 k1 k2 k3 k4 k5 k6 k7 t1 t2 t3 t6 t7 W P I ti to X S) 7) ∈ news) :
    Cl 9 w loose mean mg mb 111 news (Fine W P I X ∧ W ≤ 16) [.ref x] (fun t => .int (outI to W (restI (1 * 2 ^ W.toNat + P) W (outI to W X * 2 ^ W.toNat))) t) := by
  k_with_none
  (k_with "call ref" => (k_here; (with_reducible show wpAny _ _ (call (Value.ref 125) _ _) _ _ _); k_dflt (refine' reflect_use (by k_asm) (by k_asm) (by k_asm) (by k_asm) (by k_asm) (by first | exact rfl | assumption) (by ktr_room) (by ktr_units) (by first | omega | k_extra "p1") (by first | omega | k_extra "p2") (by omega) (by omega) ?_; k_whole; intro t9 h9 tk9 F9 N9 hT8 hT9; (try dsimp only); (try k_fold))))
  (k_with "call ref" => (k_here; k_dflt (refine' callAlg_use (by k_asm) (by k_asm) (by k_asm) (by k_asm) (by k_asm) (by k_mem) (by k_mem) (by ktr_room) (by ktr_units) ?_ (by (intro hS9; exact absurd (by assumption) hS9)); k_whole); (intro hS9 x9 d9 c1 c2 c3 c4 c5 c6 c7 r1 r2 r3 r4 r5 r6 r7 h9 tk9 F9 N9 l9 m9; (try k_lt l9); (try k_lt2 m9); (try dsimp only); (try k_fold))))
  (k_with "getAttr ref" => (k_here; (with_reducible show wpAny _ _ (getAttr (Value.ref _) (PySem.Str.ofString "algorithm") _) _ _ _); k_dflt (refine' getAlg_use (by k_asm) (by k_asm) (by k_asm) (by k_asm) (by k_asm) (by k_mem) (by k_mem) (by ktr_room) (by ktr_units) (by assumption) (by assumption) ?_; k_whole); (intro x9 d9 c1 c2 c3 c4 c5 c6 r1 r2 r3 r4 r5 r6 h9 tk9 F9 N9 l9 m9; (try k_lt l9); (try k_lt2 m9); (try dsimp only); (try k_fold))))
  (k_with "call ref" => (k_here; (with_reducible show wpAny _ _ (call (Value.ref 118) _ _) _ _ _); k_dflt (refine' compute_use (by k_asm) (by k_asm) (by k_asm) (by k_asm) (by k_asm) (by first | exact rfl | assumption) (by k_mem) (by k_mem) (by k_mem) (by first | assumption | exact .cons _ _ .nil | l_ints) (by ktr_room) (by ktr_units) (by k_extra "cp") ?_ (by k_extra "cr")); (intro hW9 t9 h9 tk9 F9 N9; (try dsimp only); (try k_fold))))
  (k_with "ktr_room" => ((try simp only [depth_under_make, depth_under_kw, depth_in1, depth_deeper]); (try dsimp only [ktrTop]); (with_reducible rename _ + _ < recursionLimit => hRm9); first | exact hRm9 | exact room_le hRm9 1 (by decide) | exact room_le hRm9 2 (by decide) | exact room_le hRm9 3 (by decide) | exact room_le hRm9 4 (by decide) | exact room_le hRm9 5 (by decide) | exact room_le hRm9 6 (by decide)))
  (k_with "ktr_units" => ((try simp only [units_in1, units_deeper, Around.mark_units]); (try dsimp only [ktrTop]); omega))
  dsimp only [Cl]
  k_fill
  intros
  rename_i hd1 hu1 hpre hret
  obtain ⟨hF, hW1⟩ := hpre
  have hW0 := hF.1
  have hP := hF.2.1
  have hX := hF.2.2.2
  have hX0 := hX.1
  have hX1 := hX.2
  rename News _ _ _ _ => N0
  have N2 := News_add (News_add N0 hdx) (.tail _ hx)
  clear N0
  refine wpAny_call ?_
  k_dflt cell_enter
  (k_with "cp" => exact ⟨hW0, hW1, hW0, hW1, hP.1, hP.2, by first | assumption | omega, by first | assumption | omega, Int.le_refl 0, kbt_pos _⟩)
  (k_with "cr" => exact fun h => absurd (words0 _) h)
  repeat' (first | (k_unfold; (try dsimp only)) | (k_end; kc_close) | walk1 | (dsimp only; walk1) | (leave1; walk_say "STEP leave1"; (try dsimp only)) | fail "no step")
  all_goals refine cb_retI hret (residue_is (by omega) (by first | assumption | omega) (by unfold outI; first | rw [if_pos (by assumption)] | rw [if_neg (by simp [*])])) (by k_asm) (cb_drop (by k_asm) (by kcj_all))
end
end

section
open PySem PySem.W PyProof.Rows PySem.Calls PySem.Spec
set_option Elab.async false
set_option maxRecDepth 100000
open PyProof.Rows.LCg
/-- what a comprehension over a made tuple asks of its tuple -/
def TupSrc (prog : Program) (w : World) (A : Around) (h₀ : Heap) (L : Addr) (m : Str → Option Value) (env : Env) (elt : Expr) (x : Str) (scope : Scope) (cl : List (Str × Addr)) (Q : Value → Shared → Prop) (xv : Value) (s₁ : Shared) : Prop :=
  ∃ ax o its k news, xv = .ref ax ∧ A.handled = none ∧ Fr h₀ L s₁.heap m ∧ News h₀ L s₁.heap news ∧ (ax, o) ∈ news ∧ o.cls = .type "tuple" ∧ o.data = .seq its k ∧ its.size ≤ sizeLine ∧
    ∀ s₂ : Shared, (∃ h, s₂ = { s₁ with heap := h }) → CompRest prog w A h₀ L m env elt x scope cl s₂ (fun nw => (ax, o) ∈ nw) (fun i v => its[i]? = some v) (FinE h₀ L m s₂ Q) its.size 0 [] news
section
variable {prog : Program} {w : World} {A : Around} {E : Value → Shared → Prop} {s : Shared} {h₀ : Heap} {L : Addr} {m : Str → Option Value} {env : Env}
theorem TupSrc.intro {elt : Expr} {x : Str} {scope : Scope} {cl : List (Str × Addr)} {Q : Value → Shared → Prop} {ax : Addr} {o : Obj} {its : Array Value} {k : Nat} {news : List (Addr × Obj)} {s₁ : Shared}
    (hh : A.handled = none) (F : Fr h₀ L s₁.heap m) (N : News h₀ L s₁.heap news) (hm : (ax, o) ∈ news) (hc : o.cls = .type "tuple") (hd : o.data = .seq its k) (hsz : its.size ≤ sizeLine)
    (h : ∀ g, CompRest prog w A h₀ L m env elt x scope cl { s₁ with heap := g } (fun nw => (ax, o) ∈ nw) (fun i v => its[i]? = some v) (FinE h₀ L m { s₁ with heap := g } Q) its.size 0 [] news) :
    TupSrc prog w A h₀ L m env elt x scope cl Q (.ref ax) s₁ := ⟨ax, o, its, k, news, rfl, hh, F, N, hm, hc, hd, hsz, fun _ ⟨g, e⟩ => e ▸ h g⟩
theorem listComp_tup {elt iter : Expr} {x : Str} {px : Pos} {scope : Scope} {cl : List (Str × Addr)} {pos : Pos} {Q : Value → Shared → Prop} (_F₀ : Fr h₀ L s.heap m)
    (hclos : closureFor scope env = pure cl) (hcell : ∀ y ∈ scope.names, y.2 ≠ .cell) (hkind : scope.kind = .function)
    (hnames : ∀ y ∈ scope.names, y.2 = .local → scope.names.lookup y.1 = some .local) (hx : scope.names.lookup x = some .local)
    (h : wpAny (model prog w) A (eval iter env) (TupSrc prog w A h₀ L m env elt x scope cl Q) E s)
    (hs : ∀ x, foldedSetIterable iter env x = pure x := by intro _; rfl) :
    wpAny (model prog w) A (eval (.ListComp elt [⟨.Name x px, iter, [], 0⟩] scope pos) env) Q E s := by
  rw [eval_ListComp]
  refine wpAny_comprehension_free (use := none) rfl hs hclos hkind hnames (wpAny_mono h (fun xv s₁ h₁ => ?_) fun _ _ e => e)
  obtain ⟨ax, o, its, k, news, rfl, hh, F, N, hm, hc, hd, hsz, R⟩ := h₁
  have hget := (N _ hm).1
  have hl : s₁.heap.IsTuple ax its := ⟨o, hget, hc, k, hd⟩
  have hlt : ax < s₁.heap.objs.size := Heap.lt_size hget
  have up : ∀ b ob, s₁.heap.get? b = some ob → (s₁.heap.push { cls := .type "tuple_iterator", data := .fields #[.ref ax, .int 0 0] }).get? b = some ob := fun b ob e => Heap.get?_push_of_some _ e
  refine wpAny_pyIter_tuple hl ?_
  refine block_U (Walks.tuple hh s₁.heap.objs.size ax (Nat.ne_of_lt hlt) its) hsz (fun i h st => by obtain ⟨ob, e, _⟩ := st.1; exact ⟨ob, e⟩)
    (fun i g g' ob nw st e e' kp N' S => ⟨by obtain ⟨o', q, r⟩ := st.1; rw [e] at q; cases q; exact ⟨ob, e', r⟩, ⟨o, (N' _ S).1, hc, k, hd⟩⟩)
    hcell hkind hx ⟨⟨_, Heap.get?_push_size _ rfl, rfl, rfl⟩, hl.push _⟩ (fun b hb => ?_)
    (F.keeps up) (N.grown up) (Nat.ne_of_lt F.ns.lt) (next_is_new F) (fun p hp => Nat.ne_of_lt (Heap.lt_size (N p hp).1)) hm (R _ ⟨_, rfl⟩) ?_
  · show b < (s₁.heap.push _).objs.size
    rw [Heap.size_push]
    rcases List.mem_cons.mp hb with rfl | hb
    · exact Nat.lt_succ_self _
    · rw [List.mem_singleton.mp hb]; exact Nat.lt_succ_of_lt hlt
  · intro D C h tk m' ys news' F' N' o1 hn hC₀ hD₀ hCL hDL hCD offC fin
    refine ⟨m', hn, fun h'' hs'' => fin D h'' tk (F'.change hs'' hCL hC₀) (fun p hp => ?_) o1⟩
    refine ⟨hs''.extBut _ _ ?_ (N' p hp).1, (N' p hp).2⟩
    rcases List.mem_cons.mp hp with rfl | hp
    · exact Ne.symm hCD
    · exact offC p hp
end
end

section
open PySem PySem.W PyProof.Rows PySem.Calls PySem.Spec PyProof.V
set_option Elab.async false
set_option maxRecDepth 100000
/-- an exception of a built-in class that a callee raised is caught in a frame that may have cells -/
theorem caught_C0 {prog : Program} {w : World} {A₀ : Around} {E : Value → Shared → Prop} {s' : Shared} {h₀ h : Heap} {outer : List Env} {L e : Addr} {m : Str → Option Value} {env : Env}
    {b₀ : Stmt} {suite : List Stmt} {pos np : Pos} {rest : List ExceptHandler} {Q : Flow → Shared → Prop} {news : List (Addr × Obj)}
    {p : Program} {loose : List Str} {mg mb : Str → Option Value} {x : Str} {X T' : String}
    (K : Below A₀ h₀ outer h₀) (F : Fr h₀ L h m) (hsm : h.UpToSlots s'.heap) (R : RaisedN h₀ (env :: outer) e (.type X) news s'.heap)
    (T : TopRead p loose mg mb h₀) (hv : bootBuiltins x = some (.type T'))
    (hexc : isSubtype (.type T') (.type "BaseException") = pure true) (hnt : isSubtype (.type ((Manifest.find? T').elim "type" fun y => y.metatype)) (.type "tuple") = pure false) (hsub : isSubtype (.type X) (.type T') = pure true)
    (k : ∀ h', Fr h₀ L h' m → News h₀ L h' news → wpAny (model prog w) ((A₀.deeper env).mark (some (.ref e))) (execs (b₀ :: suite) env) Q E { s' with heap := h' })
    (hfr : env.frame = some L) (hgl : env.globals = mainGlobals) (hbu : env.builtins = builtinsNs)
    (h1 : x ∉ startupNames) (h2 : x ∉ loose) (h3 : x ∉ (recsOf p).map (·.name)) (h4 : x ∉ (litsOf p).map (·.1)) (h4c : x ∉ (clssOf p loose).map (·.name)) (hn : x ≠ "__name__")
    (hk : env.scope.kind = .function) (hx : env.kindOf x = some .globalImplicit) (hd : (x == ("__debug__" : Str)) = false)
    (hE : PassesOwnAt (model prog w) ((A₀.deeper env).mark (some (.ref e))) (A₀.deeper env) env E) :
    wpAny (model prog w) (A₀.deeper env) (noteFrame (.ref e) env)
      (fun _ s₂ => wpAny (model prog w) (A₀.deeper env) (setFlight (.ref e) none) (fun _ s₃ =>
        wpAny (model prog w) (A₀.deeper env) (handleBy (.ref e) env (.ExceptHandler (some (.Name x np)) none (b₀ :: suite) pos :: rest)) Q E s₃) E s₂) E s' := by
  obtain ⟨B, a0, hB, hl, hfl⟩ := R
  have hL : B.get? L = none := by
    obtain ⟨_, ⟨L', _, hf, hn', _⟩, _⟩ := hfl.2.2.1
    obtain rfl : L = L' := Option.some.inj (hfr.symm.trans hf)
    exact hn'
  refine wpAny_looks_onW (Around.frames_deeper K.stack) hfr hfl fun h₄ hheld₄ hsm₄ => ?_
  refine wpAny_landsW hheld₄ fun h₅ hheld hsm₅' => ?_
  have hsm₅ := hsm₄.trans hsm₅'
  have hheld' := flyingW_base hB hheld
  have F₅ := F.of_stays hheld'.1 (hsm.trans hsm₅)
  obtain ⟨ob, hob, hobc⟩ := hheld'.there
  refine wpAny_handleBy_builtin (X := X) (T := T') (b := true) hexc hnt hsub (Calls.Name_function_global hk hx (Calls.loadGlobal_builtin (env := env) (by rw [hgl]; exact T.g.keeps F₅.keep) (T.free x h1 h2 h3 h4 h4c) (by rw [hbu]; exact T.b.keeps F₅.keep) ((T.builtins x hn).trans hv) ⟨rfl, ⟨ob, hob, hobc⟩, ?_⟩) hd)
  refine lands_againW hheld fun h₆ hfl₆ hsm₆ => ?_
  have F₆ := F.of_stays (flyingW_base hB hfl₆).1 ((hsm.trans hsm₅).trans hsm₆)
  exact wpAny_passesOwnAt hE (k h₆ F₆ fun q hq => ⟨hfl₆.1 _ _ (hl q hq).1, (fun z => by have := (hl q hq).1; rw [z, hL] at this; cases this), (hl q hq).2⟩)
end

section
open PySem PySem.W PyProof.Rows
set_option Elab.async false
theorem turnN_add (n a : Nat) : ∀ b, turnN n (a + b) = turnN n a * 2 ^ b + turnN (n >>> a) b
  | 0 => by simp [turnN]
  | b + 1 => by
    rw [← Nat.add_assoc, turnN, turnN_add n a b, turnN, Nat.shiftRight_add, Nat.pow_succ, Nat.add_mul, Nat.mul_assoc, Nat.add_assoc]
theorem turnN_mod (n k : Nat) : turnN (n % 2 ^ k) k = turnN n k := by
  refine Nat.eq_of_testBit_eq fun i => ?_
  rw [turnN_bit, turnN_bit]
  by_cases hi : i < k
  · rw [Nat.testBit_mod_two_pow]
    have : k - 1 - i < k := by omega
    simp [hi, this]
  · simp [hi]
theorem turnN_xor {r x k : Nat} (hr : r < 2 ^ k) : turnN (turnN r k ^^^ x) k = r ^^^ turnN x k := by
  refine Nat.eq_of_testBit_eq fun i => ?_
  rw [turnN_bit, Nat.testBit_xor, Nat.testBit_xor, turnN_bit, turnN_bit]
  by_cases hi : i < k
  · have h1 : k - 1 - i < k := by omega
    have h2 : k - 1 - (k - 1 - i) = i := by omega
    simp [hi, h1, h2]
  · have h3 : r.testBit i = false := Nat.testBit_lt_two_pow (Nat.lt_of_lt_of_le hr (Nat.pow_le_pow_right (by decide) (by omega)))
    simp [hi, h3]
/-- a word of a sum -/
def partI (S x k : Int) : Int := Builtin.bitAnd (Int.fdiv x (2 ^ (k * S).toNat)) (1 * 2 ^ S.toNat - 1)
def partsI (S x : Int) (n : Nat) : List Int := (List.range n).map fun (k : Nat) => partI S x (k : Int)
theorem partI_nat {S x : Int} (hS : 0 ≤ S) (hx : 0 ≤ x) (k : Nat) : partI S x (k : Int) = ((x.toNat >>> (S.toNat * k) % 2 ^ S.toNat : Nat) : Int) := by
  unfold partI
  rw [Int.mul_comm, len_toNat hS, Int.one_mul, kbt_mask, Int.fdiv_eq_ediv_of_nonneg _ (Int.le_of_lt (kbt_pos _))]
  obtain ⟨m, rfl⟩ := Int.eq_ofNat_of_zero_le hx
  rw [Nat.shiftRight_eq_div_pow, ← pow_cast, ← pow_cast]
  simp
theorem partsI_succ (S x : Int) (n : Nat) : partsI S x (n + 1) = partsI S x n ++ [partI S x (n : Int)] := by
  unfold partsI
  rw [List.range_succ, List.map_append]
  rfl
theorem partsI_length (S x : Int) (n : Nat) : (partsI S x n).length = n := by simp [partsI]
theorem partI_ok {S x : Int} (hS : 0 ≤ S) (hx : 0 ≤ x) (k : Nat) : 0 ≤ partI S x (k : Int) ∧ partI S x (k : Int) < 2 ^ S.toNat := by
  rw [partI_nat hS hx]
  refine ⟨Int.natCast_nonneg _, ?_⟩
  rw [← pow_cast]
  exact Int.ofNat_lt.mpr (Nat.mod_lt _ (Nat.two_pow_pos _))
theorem partsI_ok {S x : Int} (hS : 0 ≤ S) (hx : 0 ≤ x) (n : Nat) : WordsOk S (partsI S x n) := fun y hy => by
  unfold partsI at hy
  obtain ⟨k, _, rfl⟩ := List.mem_map.mp hy
  exact partI_ok hS hx k
theorem partsI_rev_ok {S x : Int} (hS : 0 ≤ S) (hx : 0 ≤ x) (n : Nat) : WordsOk S (partsI S x n).reverse := fun y hy => partsI_ok hS hx n y (List.mem_reverse.mp hy)
theorem stream_foldl (S : Int) (ti : Bool) : ∀ (ws : List Int) (a : Int), ws.foldl (fun s w => s * 2 ^ S.toNat + (if ti = true then turnI w S else w)) a = a * 2 ^ (S.toNat * ws.length) + streamI S ti ws
  | [], a => by simp [streamI]
  | w :: ws, a => by
    have e : streamI S ti (w :: ws) = ws.foldl (fun s w => s * 2 ^ S.toNat + (if ti = true then turnI w S else w)) (0 * 2 ^ S.toNat + (if ti = true then turnI w S else w)) := rfl
    rw [List.foldl_cons, stream_foldl S ti ws, e, stream_foldl S ti ws, List.length_cons, Nat.mul_add, Nat.mul_one, Nat.add_comm (S.toNat * ws.length), Int.pow_add, Int.add_mul, Int.zero_mul, Int.zero_add, Int.mul_assoc, Int.add_assoc]
theorem streamI_append (S : Int) (ti : Bool) (ws ps : List Int) : streamI S ti (ws ++ ps) = streamI S ti ws * 2 ^ (S.toNat * ps.length) + streamI S ti ps := by
  have h := stream_foldl S ti ps (streamI S ti ws)
  rw [← h]
  unfold streamI
  rw [List.foldl_append]
theorem streamI_one (S : Int) (ti : Bool) (w : Int) : streamI S ti [w] = if ti = true then turnI w S else w := by
  unfold streamI
  simp
theorem stream_low {S x : Int} (hS : 0 ≤ S) (hx : 0 ≤ x) : ∀ n, streamI S false (partsI S x n).reverse = ((x.toNat % 2 ^ (S.toNat * n) : Nat) : Int)
  | 0 => by simp [partsI, streamI, Nat.mod_one]
  | n + 1 => by
    rw [partsI_succ, List.reverse_append, List.reverse_singleton, streamI_append, stream_low hS hx n, streamI_one, List.length_reverse, partsI_length, partI_nat hS hx, Nat.mul_add, Nat.mul_one, Nat.pow_add, Nat.mod_mul, Nat.shiftRight_eq_div_pow, ← pow_cast]
    simp only [Bool.false_eq_true, if_false]
    rw [← Int.natCast_mul, ← Int.natCast_add, Nat.add_comm, Nat.mul_comm (_ % 2 ^ S.toNat)]
theorem stream_turned {S x : Int} (hS : 0 ≤ S) (hx : 0 ≤ x) : ∀ n, streamI S true (partsI S x n) = ((turnN x.toNat (S.toNat * n) : Nat) : Int)
  | 0 => by simp [partsI, streamI, turnN]
  | n + 1 => by
    rw [partsI_succ, streamI_snoc, stream_turned hS hx n, if_pos rfl, partI_nat hS hx]
    unfold turnI
    rw [Int.toNat_natCast, turnN_mod, Nat.mul_add, Nat.mul_one, turnN_add, ← pow_cast]
    simp
theorem sum_of_lt {W r : Int} {to : Bool} (hr : r < 2 ^ W.toNat) : outI to W r < 2 ^ W.toNat := by
  unfold outI
  split
  · exact turnI_lt _ _
  · exact hr
theorem sumI_nonneg {W d I X S : Int} {ti to : Bool} {ws : List Int} (hX : 0 ≤ X) : 0 ≤ sumI W d I X ti to ws S :=
  bitXor_nonneg (outI_nonneg (restOf_nonneg _ _ _ _ _ _)) hX
theorem sumI_lt {W d I X S : Int} {ti to : Bool} {ws : List Int} (hX : 0 ≤ X) (hX1 : X < 2 ^ W.toNat) : sumI W d I X ti to ws S < 2 ^ W.toNat :=
  (xor_bound (outI_nonneg (restOf_nonneg _ _ _ _ _ _)) hX (sum_of_lt (restOf_lt _ _ _ _ _ _)) hX1).2
/-- the sum's own words, untouched -/
theorem partsF {W d I X S : Int} {ws : List Int} {n : Nat} (hS : 0 ≤ S) (hX : 0 ≤ X) (hX1 : X < 2 ^ W.toNat) (hn : S.toNat * n = W.toNat) :
    streamI S false (partsI S (sumI W d I X false false ws S) n).reverse = Builtin.bitXor (restOf d W I S false ws) (outI false W X) := by
  have h0 := sumI_nonneg (W := W) (d := d) (I := I) (S := S) (ti := false) (to := false) (ws := ws) hX
  rw [stream_low hS h0, hn, Nat.mod_eq_of_lt (toNat_lt_pow (sumI_lt hX hX1)), Int.toNat_of_nonneg h0]
  rfl
theorem partsT {W d I X S : Int} {ws : List Int} {n : Nat} (hS : 0 ≤ S) (hX : 0 ≤ X) (hn : S.toNat * n = W.toNat) :
    streamI S true (partsI S (sumI W d I X true true ws S) n) = Builtin.bitXor (restOf d W I S true ws) (outI true W X) := by
  have h0 := sumI_nonneg (W := W) (d := d) (I := I) (S := S) (ti := true) (to := true) (ws := ws) hX
  rw [stream_turned hS h0, hn]
  have hr := restOf_nonneg d W I S true ws
  unfold sumI outI
  rw [if_pos rfl, if_pos rfl, bitXor_toNat (turnI_nonneg _ _) hX, bitXor_pp hr (turnI_nonneg _ _)]
  unfold turnI
  rw [Int.toNat_natCast, Int.toNat_natCast, turnN_xor (toNat_lt_pow (restOf_lt d W I S true ws))]
theorem WordsOk.app {S : Int} {a b : List Int} (ha : WordsOk S a) (hb : WordsOk S b) : WordsOk S (a ++ b) := fun x hx => by
  rcases List.mem_append.mp hx with hx | hx
  · exact ha x hx
  · exact hb x hx
theorem xor_back {a b : Int} (ha : 0 ≤ a) (hb : 0 ≤ b) : Builtin.bitXor (Builtin.bitXor a b) b = a := by
  rw [bitXor_pp (bitXor_nonneg ha hb) hb, bitXor_toNat ha hb, Nat.xor_assoc, Nat.xor_self, Nat.xor_zero, Int.toNat_of_nonneg ha]
/-- a sum put behind its words leaves the residue -/
theorem behind {W P I X S : Int} {ti to : Bool} {ws ps : List Int} (hW1 : W ≤ 16) (hP : 0 ≤ P ∧ P < 2 ^ W.toNat) (hW0 : 0 ≤ W) (hI : 0 ≤ I) (hX : 0 ≤ X) (hS : 0 ≤ S) (hws : WordsOk S ws) (hps : WordsOk S ps) (hlen : S.toNat * ps.length = W.toNat)
    (hst : streamI S ti ps = Builtin.bitXor (restOf (1 * 2 ^ W.toNat + P) W I S ti ws) (outI to W X)) :
    Builtin.bitXor (sumI W (1 * 2 ^ W.toNat + P) I X ti to (ws ++ ps) S) X = outI to W (restI (1 * 2 ^ W.toNat + P) W (outI to W X * 2 ^ W.toNat)) := by
  have ok := divOk_of hW0 (by omega) hP.1 hP.2
  have hr := restOf_nonneg (1 * 2 ^ W.toNat + P) W I S ti (ws ++ ps)
  show Builtin.bitXor (Builtin.bitXor (outI to W (restOf (1 * 2 ^ W.toNat + P) W I S ti (ws ++ ps))) X) X = _
  rw [xor_back (outI_nonneg hr) hX]
  refine congrArg (outI to W) ?_
  have hr0 := restOf_nonneg (1 * 2 ^ W.toNat + P) W I S ti ws
  have he := outI_nonneg (to := to) (W := W) hX
  rw [restOf_eq]
  refine restI_congr ok (fullI_nonneg (hws.app hps) hI) ?_
  have hst0 : 0 ≤ streamI S ti ws := streamI_nonneg hws
  have hsp0 : 0 ≤ streamI S ti ps := streamI_nonneg hps
  have hlt : streamI S ti ps < 2 ^ W.toNat := by rw [← hlen]; exact (streamI_bound ps hps).2
  have hs : (streamI S ti (ws ++ ps)).toNat = (streamI S ti ws).toNat <<< W.toNat ^^^ (streamI S ti ps).toNat := by
    rw [streamI_append, hlen]
    exact horner_toNat hst0 hsp0 hlt
  rw [fullI_toNat (hws.app hps) hI hS, hs, List.length_append, Nat.mul_add, hlen, mulpow_toNat he]
  have e2 : I.toNat <<< (S.toNat * ws.length + W.toNat) = (I.toNat <<< (S.toNat * ws.length)) <<< W.toNat := Nat.shiftLeft_add ..
  rw [e2, ← Nat.shiftLeft_xor_distrib]
  refine Cg.shl ?_ _
  rw [hst, bitXor_toNat hr0 he]
  have hc := restI_cg ok (fullI_nonneg (f := I) (W := W) (ti := ti) hws hI)
  rw [fullI_toNat hws hI hS, ← restOf_eq] at hc
  have h2 := hc.symm.xor (Cg.refl (1 * 2 ^ W.toNat + P).toNat ((restOf (1 * 2 ^ W.toNat + P) W I S ti ws).toNat ^^^ (outI to W X).toNat))
  have e3 : (restOf (1 * 2 ^ W.toNat + P) W I S ti ws).toNat ^^^ ((restOf (1 * 2 ^ W.toNat + P) W I S ti ws).toNat ^^^ (outI to W X).toNat) = (outI to W X).toNat := by
    rw [← Nat.xor_assoc, Nat.xor_self, Nat.zero_xor]
  rw [e3] at h2
  have e4 : (streamI S ti ws).toNat <<< W.toNat ^^^ ((restOf (1 * 2 ^ W.toNat + P) W I S ti ws).toNat ^^^ (outI to W X).toNat) ^^^ I.toNat <<< (S.toNat * ws.length) = (streamI S ti ws).toNat <<< W.toNat ^^^ I.toNat <<< (S.toNat * ws.length) ^^^ ((restOf (1 * 2 ^ W.toNat + P) W I S ti ws).toNat ^^^ (outI to W X).toNat) := by
    rw [Nat.xor_assoc, Nat.xor_comm _ (I.toNat <<< _), ← Nat.xor_assoc]
  rw [e4]
  exact h2
end

section
open PySem PySem.W PyProof.Rows
set_option Elab.async false
theorem fdiv_facts {W S : Int} (hS : 0 < S) (hW0 : 0 ≤ W) (hW1 : W ≤ 16) : 0 ≤ Int.fdiv W S ∧ Int.fdiv W S ≤ 16 := by
  rw [Int.fdiv_eq_ediv_of_nonneg _ (Int.le_of_lt hS)]
  exact ⟨Int.ediv_nonneg hW0 (Int.le_of_lt hS), Int.le_trans (Int.ediv_le_self _ hW0) hW1⟩
theorem fdiv_whole {W S : Int} (hS : 0 < S) (hW0 : 0 ≤ W) (h : Int.fmod W S = 0) : S.toNat * (Int.fdiv W S - 0).toNat = W.toNat := by
  have e := Int.mul_fdiv_add_fmod W S
  rw [h, Int.add_zero] at e
  have hd : 0 ≤ Int.fdiv W S := by
    rw [Int.fdiv_eq_ediv_of_nonneg _ (Int.le_of_lt hS)]
    exact Int.ediv_nonneg hW0 (Int.le_of_lt hS)
  obtain ⟨n, hn⟩ := Int.eq_ofNat_of_zero_le hd
  obtain ⟨k, hk⟩ := Int.eq_ofNat_of_zero_le (Int.le_of_lt hS)
  rw [hn, hk] at e
  rw [Int.sub_zero, hn, hk, ← e]
  rfl
theorem kS_facts {W S k : Int} (hS : 0 < S) (hS9 : S ≤ 9) (hW0 : 0 ≤ W) (hW1 : W ≤ 16) (h0 : 0 ≤ k) (h1 : k < 0 + ((Int.fdiv W S - 0).toNat : Int)) : 0 ≤ k * S ∧ k * S ≤ 160 := by
  have hf := fdiv_facts hS hW0 hW1
  refine ⟨Int.mul_nonneg h0 (Int.le_of_lt hS), ?_⟩
  have : k * S ≤ 16 * 9 := Int.mul_le_mul (show k ≤ 16 by omega) hS9 (Int.le_of_lt hS) (by decide)
  omega
theorem parts_map (S x : Int) (n : Nat) : (rangeKs 0 n).map (partI S x) = partsI S x n := by
  unfold rangeKs partsI
  rw [List.map_map]
  refine List.map_congr_left fun i _ => ?_
  show partI S x (0 + (i : Int)) = _
  rw [Int.zero_add]
theorem okT {S x : Int} {n : Nat} (hS : 0 < S) (hx : 0 ≤ x) : WordsOk S ((rangeKs 0 n).map (partI S x)) := parts_map S x n ▸ partsI_ok (Int.le_of_lt hS) hx n
theorem okF {S x : Int} {n : Nat} (hS : 0 < S) (hx : 0 ≤ x) : WordsOk S ((rangeKs 0 n).map (partI S x)).reverse := parts_map S x n ▸ partsI_rev_ok (Int.le_of_lt hS) hx n
theorem finT {W P I X S : Int} {ti to : Bool} {ws : List Int} (hF : Fine W P I X) (hW1 : W ≤ 16) (hS : 0 < S) (hws : WordsOk S ws) (he : (ti == to) = true) (ht : to = true) (hm : Int.fmod W S = 0) :
    Builtin.bitXor (sumI W (1 * 2 ^ W.toNat + P) I X ti to (ws ++ (rangeKs 0 (Int.fdiv W S - 0).toNat).map (partI S (sumI W (1 * 2 ^ W.toNat + P) I X ti to ws S))) S) X = outI to W (restI (1 * 2 ^ W.toNat + P) W (outI to W X * 2 ^ W.toNat)) := by
  have hi : ti = to := eq_of_beq he
  subst hi
  subst ht
  have hW0 := Int.le_of_lt hF.1
  have hS0 := Int.le_of_lt hS
  have hn := fdiv_whole hS hW0 hm
  rw [parts_map]
  refine behind hW1 hF.2.1 hW0 hF.2.2.1.1 hF.2.2.2.1 hS0 hws (partsI_ok hS0 (sumI_nonneg hF.2.2.2.1) _) (by rw [partsI_length]; exact hn) ?_
  exact partsT hS0 hF.2.2.2.1 hn
theorem finF {W P I X S : Int} {ti to : Bool} {ws : List Int} (hF : Fine W P I X) (hW1 : W ≤ 16) (hS : 0 < S) (hws : WordsOk S ws) (he : (ti == to) = true) (ht : to = false) (hm : Int.fmod W S = 0) :
    Builtin.bitXor (sumI W (1 * 2 ^ W.toNat + P) I X ti to (ws ++ ((rangeKs 0 (Int.fdiv W S - 0).toNat).map (partI S (sumI W (1 * 2 ^ W.toNat + P) I X ti to ws S))).reverse) S) X = outI to W (restI (1 * 2 ^ W.toNat + P) W (outI to W X * 2 ^ W.toNat)) := by
  have hi : ti = to := eq_of_beq he
  subst hi
  subst ht
  have hW0 := Int.le_of_lt hF.1
  have hS0 := Int.le_of_lt hS
  have hn := fdiv_whole hS hW0 hm
  rw [parts_map]
  refine behind hW1 hF.2.1 hW0 hF.2.2.1.1 hF.2.2.2.1 hS0 hws (partsI_rev_ok hS0 (sumI_nonneg hF.2.2.2.1) _) (by rw [List.length_reverse, partsI_length]; exact hn) ?_
  exact partsF hS0 hF.2.2.2.1 hF.2.2.2.2 hn
theorem sum_nn {W P I X S : Int} {ti to : Bool} {ws : List Int} (hF : Fine W P I X) : 0 ≤ sumI W (1 * 2 ^ W.toNat + P) I X ti to ws S := sumI_nonneg hF.2.2.2.1
theorem sum_16 {W P I X S : Int} {ti to : Bool} {ws : List Int} (hF : Fine W P I X) (hW1 : W ≤ 16) : sumI W (1 * 2 ^ W.toNat + P) I X ti to ws S < 65536 := Int.lt_of_lt_of_le (sumI_lt hF.2.2.2.1 hF.2.2.2.2) (pow16 hW1)
end

section
open PySem PySem.W PyProof.Rows
set_option Elab.async false
set_option maxRecDepth 100000
section
variable {M : Model} {A : Around} {E : Value → Shared → Prop} {s : Shared} {env : Env}
theorem execs_app : ∀ (a b : List Stmt), execs (a ++ b) env = (do match ← execs a env with | .next => execs b env | f => pure f)
  | [], b => rfl
  | st :: a, b => by
    rw [List.cons_append, execs_cons, execs_cons, bind_assoc]
    refine congrArg (exec st env >>= ·) (funext fun f => ?_)
    cases f with
    | next => exact execs_app a b
    | _ => rfl
theorem wpAny_execs_app {a b : List Stmt} {Q : Flow → Shared → Prop}
    (h : wpAny M A (execs a env) (fun f s' => match f with | .next => wpAny M A (execs b env) Q E s' | f => Q f s') E s) : wpAny M A (execs (a ++ b) env) Q E s := fun Γ p hΓ => by
  rw [execs_app, Sem.wp_bind']
  refine Sem.wp_mono M Γ _ (fun f p' s' h' => ?_) (fun _ _ _ h' => h') _ _ (h Γ p hΓ)
  cases f <;> first | exact h' Γ p' hΓ | exact h'
/-- an address that is none of the frame's cells -/
abbrev OffCells (L lw : Nat) : Prop := lw ≠ L + 1 ∧ lw ≠ L + 1 + 1 ∧ lw ≠ L + 1 + 1 + 1
/-- the end of the pieces that tell the sum -/
def WordsEnd (h₀ : Heap) (L : Addr) (m : Str → Option Value) (news : List (Addr × Obj)) (s : Shared) (W P I X S : Int) (ti to : Bool) (fl : Flow) (s' : Shared) : Prop :=
  fl = .next ∧ ∃ (ws : List Int) (lw : Addr) (vs : List Value) (nn : Nat) (t1 t2 : Tok) (m' : Str → Option Value) (h : Heap) (tk : Nat), s' = { s with heap := h, toks := tk } ∧ WordsOk S ws ∧ ws.length ≤ 7 ∧ IntsAre vs ws ∧ OffCells L lw ∧ Fr h₀ L h m' ∧
    News h₀ L h ((lw, listOf vs.toArray nn) :: news) ∧ m' (Str.ofString "told") = some (.int (sumI W (1 * 2 ^ W.toNat + P) I X ti to ws S) t1) ∧ m' (Str.ofString "divisor") = some (.int (1 * 2 ^ W.toNat + P) t2) ∧ m' (Str.ofString "words") = some (.ref lw) ∧
    ∀ y, y ≠ Str.ofString "told" → y ≠ Str.ofString "divisor" → y ≠ Str.ofString "words" → m' y = m y
theorem WordsEnd.intro {h₀ : Heap} {L : Addr} {m m' : Str → Option Value} {news news' : List (Addr × Obj)} {s : Shared} {W P I X S : Int} {ti to : Bool} {ws : List Int} {lw : Addr} {vs : List Value} {nn : Nat} {t1 t2 : Tok} {h : Heap} {tk : Nat}
    (F : Fr h₀ L h m') (N : News h₀ L h news') (e1 : m' (Str.ofString "told") = some (.int (sumI W (1 * 2 ^ W.toNat + P) I X ti to ws S) t1)) (e2 : m' (Str.ofString "divisor") = some (.int (1 * 2 ^ W.toNat + P) t2)) (e3 : m' (Str.ofString "words") = some (.ref lw))
    (e4 : ∀ y, y ≠ Str.ofString "told" → y ≠ Str.ofString "divisor" → y ≠ Str.ofString "words" → m' y = m y) (hw : WordsOk S ws) (hl : ws.length ≤ 7) (hi : IntsAre vs ws) (hb : OffCells L lw) (hm : (lw, listOf vs.toArray nn) ∈ news') (hn : ∀ p ∈ news, p ∈ news') : WordsEnd h₀ L m news s W P I X S ti to .next { s with heap := h, toks := tk } :=
  ⟨rfl, ws, lw, vs, nn, t1, t2, m', h, tk, rfl, hw, hl, hi, hb, F, fun p hp => N p (by rcases List.mem_cons.mp hp with rfl | hp; exact hm; exact hn _ hp), e1, e2, e3, e4⟩
theorem cut_words {a b c : Stmt} {rest : List Stmt} {Q : Flow → Shared → Prop} {h₀ : Heap} {L : Addr} {m : Str → Option Value} {news : List (Addr × Obj)} (W P I X S : Int) (ti to : Bool) (_F : Fr h₀ L s.heap m) (_N : News h₀ L s.heap news)
    (h1 : wpAny M A (execs [a, b, c] env) (WordsEnd h₀ L m news s W P I X S ti to) E s)
    (h2 : ∀ (ws : List Int) (lw : Addr) (vs : List Value) (nn : Nat) (t1 t2 : Tok) (h : Heap) (tk : Nat), WordsOk S ws → ws.length ≤ 7 → IntsAre vs ws → OffCells L lw →
      Fr h₀ L h (fun y => if y = Str.ofString "told" then some (.int (sumI W (1 * 2 ^ W.toNat + P) I X ti to ws S) t1) else if y = Str.ofString "divisor" then some (.int (1 * 2 ^ W.toNat + P) t2) else if y = Str.ofString "words" then some (.ref lw) else m y) →
      News h₀ L h ((lw, listOf vs.toArray nn) :: news) → wpAny M A (execs rest env) Q E { s with heap := h, toks := tk }) : wpAny M A (execs (a :: b :: c :: rest) env) Q E s := by
  refine wpAny_execs_app (a := [a, b, c]) (wpAny_mono h1 (fun fl s' hq => ?_) fun _ _ x => x)
  obtain ⟨rfl, ws, lw, vs, nn, t1, t2, m', h, tk, rfl, hw, hl, hi, hb, F, N, e1, e2, e3, e4⟩ := hq
  refine h2 ws lw vs nn t1 t2 h tk hw hl hi hb ?_ N
  have em : (fun y => if y = Str.ofString "told" then some (.int (sumI W (1 * 2 ^ W.toNat + P) I X ti to ws S) t1) else if y = Str.ofString "divisor" then some (.int (1 * 2 ^ W.toNat + P) t2) else if y = Str.ofString "words" then some (.ref lw) else m y) = m' := by
    funext y
    split
    · rename_i h; rw [h, e1]
    · split
      · rename_i h; rw [h, e2]
      · split
        · rename_i h; rw [h, e3]
        · rw [e4 y (by assumption) (by assumption) (by assumption)]
  rw [em]
  exact F
/-- the end of a piece that stores one int -/
def IntEnd (h₀ : Heap) (L : Addr) (m : Str → Option Value) (news : List (Addr × Obj)) (s : Shared) (x : Str) (R : Int → Prop) (fl : Flow) (s' : Shared) : Prop :=
  fl = .next ∧ ∃ (v : Int) (t : Tok) (h : Heap) (tk : Nat), s' = { s with heap := h, toks := tk } ∧ R v ∧ Fr h₀ L h (fun y => if y = x then some (.int v t) else m y) ∧ News h₀ L h news
theorem IntEnd.intro {h₀ : Heap} {L : Addr} {m : Str → Option Value} {news news' : List (Addr × Obj)} {s : Shared} {x : Str} {R : Int → Prop} {v : Int} {t : Tok} {h : Heap} {tk : Nat}
    (F : Fr h₀ L h (fun y => if y = x then some (.int v t) else m y)) (N : News h₀ L h news') (hn : ∀ p ∈ news, p ∈ news') (hR : R v) : IntEnd h₀ L m news s x R .next { s with heap := h, toks := tk } :=
  ⟨rfl, v, t, h, tk, rfl, hR, F, fun p hp => N p (hn p hp)⟩
theorem cut_int {c : Sem Flow} {Q : Flow → Shared → Prop} {h₀ : Heap} {L : Addr} {m : Str → Option Value} {news : List (Addr × Obj)} (x : Str) (R : Int → Prop) (_F : Fr h₀ L s.heap m) (_N : News h₀ L s.heap news)
    (h1 : wpAny M A c (IntEnd h₀ L m news s x R) E s)
    (h2 : ∀ (v : Int) (t : Tok) (h : Heap) (tk : Nat), R v → Fr h₀ L h (fun y => if y = x then some (.int v t) else m y) → News h₀ L h news → Q .next { s with heap := h, toks := tk }) : wpAny M A c Q E s := by
  refine wpAny_mono h1 (fun fl s' hq => ?_) fun _ _ x => x
  obtain ⟨rfl, v, t, h, tk, rfl, r, F, N⟩ := hq
  exact h2 v t h tk r F N
/-- the end of a piece that stores one bool -/
def BoolEnd (h₀ : Heap) (L : Addr) (m : Str → Option Value) (news : List (Addr × Obj)) (s : Shared) (x : Str) (R : Bool → Prop) (fl : Flow) (s' : Shared) : Prop :=
  fl = .next ∧ ∃ (v : Bool) (h : Heap) (tk : Nat), s' = { s with heap := h, toks := tk } ∧ R v ∧ Fr h₀ L h (fun y => if y = x then some (.bool v) else m y) ∧ News h₀ L h news
theorem BoolEnd.intro {h₀ : Heap} {L : Addr} {m : Str → Option Value} {news news' : List (Addr × Obj)} {s : Shared} {x : Str} {R : Bool → Prop} {v : Bool} {h : Heap} {tk : Nat}
    (F : Fr h₀ L h (fun y => if y = x then some (.bool v) else m y)) (N : News h₀ L h news') (hn : ∀ p ∈ news, p ∈ news') (hR : R v) : BoolEnd h₀ L m news s x R .next { s with heap := h, toks := tk } :=
  ⟨rfl, v, h, tk, rfl, hR, F, fun p hp => N p (hn p hp)⟩
theorem cut_bool {c : Sem Flow} {Q : Flow → Shared → Prop} {h₀ : Heap} {L : Addr} {m : Str → Option Value} {news : List (Addr × Obj)} (x : Str) (R : Bool → Prop) (_F : Fr h₀ L s.heap m) (_N : News h₀ L s.heap news)
    (h1 : wpAny M A c (BoolEnd h₀ L m news s x R) E s)
    (h2 : ∀ (v : Bool) (h : Heap) (tk : Nat), R v → Fr h₀ L h (fun y => if y = x then some (.bool v) else m y) → News h₀ L h news → Q .next { s with heap := h, toks := tk }) : wpAny M A c Q E s := by
  refine wpAny_mono h1 (fun fl s' hq => ?_) fun _ _ x => x
  obtain ⟨rfl, v, h, tk, rfl, r, F, N⟩ := hq
  exact h2 v h tk r F N
/-- the end of a piece that comes through, one name stored or not -/
def ThruEnd (h₀ : Heap) (L : Addr) (m : Str → Option Value) (news : List (Addr × Obj)) (s : Shared) (x : Str) (fl : Flow) (s' : Shared) : Prop :=
  fl = .next ∧ ∃ (m' : Str → Option Value) (h : Heap) (tk : Nat), s' = { s with heap := h, toks := tk } ∧ (∀ y, y ≠ x → m' y = m y) ∧ Fr h₀ L h m' ∧ News h₀ L h news
theorem ThruEnd.intro {h₀ : Heap} {L : Addr} {m m' : Str → Option Value} {news news' : List (Addr × Obj)} {s : Shared} {x : Str} {h : Heap} {tk : Nat}
    (F : Fr h₀ L h m') (N : News h₀ L h news') (hn : ∀ p ∈ news, p ∈ news') (hm : ∀ y, y ≠ x → m' y = m y) : ThruEnd h₀ L m news s x .next { s with heap := h, toks := tk } :=
  ⟨rfl, m', h, tk, rfl, hm, F, fun p hp => N p (hn p hp)⟩
theorem cut_thru {c : Sem Flow} {Q : Flow → Shared → Prop} {h₀ : Heap} {L : Addr} {m : Str → Option Value} {news : List (Addr × Obj)} (x : Str) (_F : Fr h₀ L s.heap m) (_N : News h₀ L s.heap news)
    (h1 : wpAny M A c (ThruEnd h₀ L m news s x) E s)
    (h2 : ∀ (u : Str → Option Value) (h : Heap) (tk : Nat), Fr h₀ L h (fun y => if y = x then u y else m y) → News h₀ L h news → Q .next { s with heap := h, toks := tk }) : wpAny M A c Q E s := by
  refine wpAny_mono h1 (fun fl s' hq => ?_) fun _ _ x => x
  obtain ⟨rfl, m', h, tk, rfl, hm, F, N⟩ := hq
  refine h2 m' h tk ?_ N
  have em : (fun y => if y = x then m' y else m y) = m' := by
    funext y
    split
    · rfl
    · rw [hm y (by assumption)]
  rw [em]
  exact F
end
end

section
open PySem PySem.W PyProof.Rows
set_option Elab.async false
set_option maxRecDepth 100000
set_option maxHeartbeats 8000000
set_option rowWalk.seconds 0
/-- a value that has been made a letter -/
def GenI (_ : String) (_ : Int) : Prop := True
def GenB (_ : String) (_ : Bool) : Prop := True
theorem gen_int {M : Model} {A : Around} {E : Value → Shared → Prop} {Q : Unit → Shared → Prop} {s : Shared} {env : Env} {x : Str} {v : Int} {t : Tok} (n : String) (R : Int → Prop) (hR : R v)
    (h : ∀ W t', GenI n W → R W → wpAny M A (storeName env x (.int W t')) Q E s) : wpAny M A (storeName env x (.int v t)) Q E s := h v t trivial hR
theorem gen_bool {M : Model} {A : Around} {E : Value → Shared → Prop} {Q : Unit → Shared → Prop} {s : Shared} {env : Env} {x : Str} {v : Bool} (n : String)
    (h : ∀ b, GenB n b → wpAny M A (storeName env x (.bool b)) Q E s) : wpAny M A (storeName env x (.bool v)) Q E s := h v trivial
theorem fmod17 (x : Int) : 0 ≤ Int.fmod x 17 ∧ Int.fmod x 17 ≤ 16 := by
  rw [Int.fmod_eq_emod_of_nonneg _ (by decide)]
  omega
theorem fmod10 (x : Int) : 0 ≤ Int.fmod x 10 ∧ Int.fmod x 10 ≤ 9 := by
  rw [Int.fmod_eq_emod_of_nonneg _ (by decide)]
  omega
/-- the end of the statement that reckons fine -/
def FineEnd (h₀ : Heap) (L : Addr) (m : Str → Option Value) (news : List (Addr × Obj)) (s : Shared) (W P I X : Int) (fl : Flow) (s' : Shared) : Prop :=
  fl = .next ∧ ∃ (b : Bool) (h : Heap) (tk : Nat), s' = { s with heap := h, toks := tk } ∧ (b = true ↔ Fine W P I X) ∧ Fr h₀ L h (fun y => if y = Str.ofString "fine" then some (.bool b) else m y) ∧ News h₀ L h news
theorem FineEnd.intro {h₀ : Heap} {L : Addr} {m : Str → Option Value} {news news' : List (Addr × Obj)} {s : Shared} {W P I X : Int} {b : Bool} {h : Heap} {tk : Nat} (e : b = true ↔ Fine W P I X)
    (F : Fr h₀ L h (fun y => if y = Str.ofString "fine" then some (.bool b) else m y)) (N : News h₀ L h news') (hn : ∀ p ∈ news, p ∈ news') : FineEnd h₀ L m news s W P I X .next { s with heap := h, toks := tk } :=
  ⟨rfl, b, h, tk, rfl, e, F, fun p hp => N p (hn p hp)⟩
theorem kstB_self {m : Str → Option Value} {ps : List (Str × Value)} (h : ∀ p ∈ ps, m p.1 = some p.2) : kstB m ps = m := funext fun _ => kstB_eq h fun _ => rfl
theorem cut_fine {M : Model} {A : Around} {E : Value → Shared → Prop} {Q : Flow → Shared → Prop} {s : Shared} {c : Sem Flow} {h₀ : Heap} {L : Addr} {m : Str → Option Value} {news : List (Addr × Obj)} {W P I X : Int} (ps : List (Str × Value))
    (_gW : GenI "width" W) (_gP : GenI "polynomial" P) (_gI : GenI "first" I) (_gX : GenI "last" X) (_F : Fr h₀ L s.heap m) (_N : News h₀ L s.heap news) (hps : ∀ p ∈ ps, m p.1 = some p.2)
    (h1 : wpAny M A c (FineEnd h₀ L m news s W P I X) E s)
    (hT : Fine W P I X → ∀ (u : Str → Option Value) (h : Heap) (tk : Nat), Fr h₀ L h (fun y => if y = Str.ofString "fine" then some (.bool true) else kstB u ps y) → News h₀ L h news → Q .next { s with heap := h, toks := tk })
    (hF : ¬ Fine W P I X → ∀ (u : Str → Option Value) (h : Heap) (tk : Nat), Fr h₀ L h (fun y => if y = Str.ofString "fine" then some (.bool false) else kstB u ps y) → News h₀ L h news → Q .next { s with heap := h, toks := tk }) : wpAny M A c Q E s := by
  refine wpAny_mono h1 (fun fl s' hq => ?_) fun _ _ x => x
  obtain ⟨rfl, b, h, tk, rfl, e, F, N⟩ := hq
  have em := kstB_self hps
  cases b with
  | true => exact hT (e.mp rfl) m h tk (by rw [em]; exact F) N
  | false => exact hF (fun q => absurd (e.mpr q) (by decide)) m h tk (by rw [em]; exact F) N
abbrev theI {n : String} {v : Int} (_ : GenI n v) : Int := v
theorem words_start (S : Int) : ([] : List Int).length = ([] : List Int).length ∧ (true = true ↔ WordsOk S []) := ⟨rfl, fun _ x hx => (by cases hx), fun _ => rfl⟩
theorem words_turn {S w n : Int} {b v : Bool} {pre ws : List Int} (h1 : ws.length = pre.length) (h2 : b = true ↔ WordsOk S ws) (h3 : v = true ↔ (b = true ∧ 0 ≤ w ∧ w < 2 ^ S.toNat)) :
    (ws ++ [w]).length = (pre ++ [n]).length ∧ (v = true ↔ WordsOk S (ws ++ [w])) := by
  refine ⟨by simp [h1], ?_⟩
  rw [h3, h2]
  constructor
  · intro h x hx
    rcases List.mem_append.mp hx with hx | hx
    · exact h.1 x hx
    · rw [List.mem_singleton.mp hx]; exact h.2
  · intro h
    exact ⟨fun x hx => h x (List.mem_append.mpr (.inl hx)), h w (by simp)⟩
theorem fl_a {b : Bool} {n S : Int} (hb : b = true) (h0 : 0 ≤ n) : decide (n < 1 * 2 ^ S.toNat) = true ↔ (b = true ∧ 0 ≤ n ∧ n < 2 ^ S.toNat) := by
  rw [decide_eq_true_eq, Int.one_mul]
  exact ⟨fun h => ⟨hb, h0, h⟩, fun h => h.2.2⟩
theorem fl_b {b : Bool} {n S : Int} (h0 : ¬ 0 ≤ n) : false = true ↔ (b = true ∧ 0 ≤ n ∧ n < 2 ^ S.toNat) := ⟨fun h => (by cases h), fun h => absurd h.2.1 h0⟩
theorem fl_e {b : Bool} {n S : Int} (h0 : ¬ 0 ≤ n) : decide (0 ≤ n) = true ↔ (b = true ∧ 0 ≤ n ∧ n < 2 ^ S.toNat) := ⟨fun h => absurd (of_decide_eq_true h) h0, fun h => absurd h.2.1 h0⟩
theorem fl_c {b : Bool} {n S : Int} (hb : b = false) : b = true ↔ (b = true ∧ 0 ≤ n ∧ n < 2 ^ S.toNat) := ⟨fun h => (by rw [hb] at h; cases h), fun h => h.1⟩
theorem fl_d {b : Bool} {n S : Int} (hb : b = false) : false = true ↔ (b = true ∧ 0 ≤ n ∧ n < 2 ^ S.toNat) := ⟨fun h => (by cases h), fun h => (by rw [hb] at h; cases h.1)⟩
theorem cut_fineL {M : Model} {A : Around} {E : Value → Shared → Prop} {s : Shared} {c : Sem Flow} {Q : Flow → Shared → Prop} {h₀ : Heap} {L : Addr} {m : Str → Option Value} {news : List (Addr × Obj)} {n S : Int} {b : Bool}
    (_gw : GenI "word" n) (_gS : GenI "size" S) (F : Fr h₀ L s.heap m) (N : News h₀ L s.heap news) (_hb : m (Str.ofString "fine") = some (.bool b))
    (h1 : wpAny M A c (BoolEnd h₀ L m news s (Str.ofString "fine") (fun v => v = true ↔ (b = true ∧ 0 ≤ n ∧ n < 2 ^ S.toNat))) E s)
    (h2 : ∀ (v : Bool) (h : Heap) (tk : Nat), (v = true ↔ (b = true ∧ 0 ≤ n ∧ n < 2 ^ S.toNat)) → Fr h₀ L h (fun y => if y = Str.ofString "fine" then some (.bool v) else m y) → News h₀ L h news → Q .next { s with heap := h, toks := tk }) : wpAny M A c Q E s :=
  cut_bool _ _ F N h1 h2
theorem cut_word {M : Model} {A : Around} {E : Value → Shared → Prop} {s : Shared} {c : Sem Flow} {Q : Flow → Shared → Prop} {h₀ : Heap} {L : Addr} {m : Str → Option Value} {news : List (Addr × Obj)}
    (F : Fr h₀ L s.heap m) (N : News h₀ L s.heap news)
    (h1 : wpAny M A c (IntEnd h₀ L m news s (Str.ofString "word") (fun _ => True)) E s)
    (h2 : ∀ (v : Int) (t : Tok) (h : Heap) (tk : Nat), GenI "word" v → Fr h₀ L h (fun y => if y = Str.ofString "word" then some (.int v t) else m y) → News h₀ L h news → Q .next { s with heap := h, toks := tk }) : wpAny M A c Q E s :=
  cut_int _ _ F N h1 fun v t h tk _ F' N' => h2 v t h tk trivial F' N'
theorem len7 {n a b : Nat} (h1 : n = a) (h2 : a = min (min 13 b - 6) (b - 6)) : n ≤ 7 := by
  rw [h1, h2]
  exact Nat.le_trans (Nat.min_le_left _ _) (Nat.sub_le_sub_right (Nat.min_le_left 13 b) 6)
def wfilt (S : Int) (l : List Int) (k : Int) : List Int := if 0 ≤ k ∧ k < 2 ^ S.toNat then l ++ [k] else l
theorem wfilt_yes {S k : Int} {l : List Int} (h0 : 0 ≤ k) (h1 : k < 1 * 2 ^ S.toNat) : wfilt S l k = l ++ [k] := by
  unfold wfilt
  rw [if_pos ⟨h0, by omega⟩]
theorem wfilt_no0 {S k : Int} {l : List Int} (h0 : ¬ 0 ≤ k) : wfilt S l k = l := by
  unfold wfilt
  rw [if_neg fun h => h0 h.1]
theorem wfilt_no1 {S k : Int} {l : List Int} (h1 : ¬ k < 1 * 2 ^ S.toNat) : wfilt S l k = l := by
  unfold wfilt
  rw [if_neg fun h => h1 (by omega)]
theorem wfilt_grows (S : Int) : KPfGrows (wfilt S) := fun l k => by
  unfold wfilt
  split
  · simp
  · exact Nat.le_succ _
theorem wfilt_ok (S : Int) : ∀ (ws l : List Int), WordsOk S l → WordsOk S (ws.foldl (wfilt S) l)
  | [], _, h => h
  | k :: ws, l, h => by
    rw [List.foldl_cons]
    refine wfilt_ok S ws _ ?_
    unfold wfilt
    split
    · rename_i hk
      intro x hx
      rcases List.mem_append.mp hx with hx | hx
      · exact h x hx
      · rw [List.mem_singleton.mp hx]; exact hk
    · exact h
theorem wfilt_ok0 (S : Int) (ws : List Int) : WordsOk S (ws.foldl (wfilt S) []) := wfilt_ok S ws [] fun x hx => by cases hx
theorem wfilt_len (S : Int) : ∀ (ws l : List Int), (ws.foldl (wfilt S) l).length ≤ l.length + ws.length
  | [], _ => Nat.le_add_right _ _
  | k :: ws, l => by
    rw [List.foldl_cons]
    refine Nat.le_trans (wfilt_len S ws _) ?_
    have := wfilt_grows S l k
    rw [List.length_cons]
    omega
theorem cp_of {W P I X S : Int} (h : Fine W P I X) (hW : W ≤ 16) (hS : 0 < S) (hS9 : S ≤ 9) : 0 < W ∧ W ≤ 16 ∧ 0 < S ∧ S ≤ 16 ∧ 0 ≤ P ∧ P < 2 ^ W.toNat ∧ 0 ≤ I ∧ I < 2 ^ W.toNat ∧ 0 ≤ X ∧ X < 2 ^ W.toNat :=
  ⟨h.1, hW, hS, Int.le_trans hS9 (by decide), h.2.1.1, h.2.1.2, h.2.2.1.1, h.2.2.1.2, h.2.2.2.1, h.2.2.2.2⟩
theorem cut_wordsG {M : Model} {A : Around} {E : Value → Shared → Prop} {s : Shared} {env : Env} {a b c : Stmt} {rest : List Stmt} {Q : Flow → Shared → Prop} {h₀ : Heap} {L : Addr} {m : Str → Option Value} {p q : Addr × Obj} {news : List (Addr × Obj)} {W P I X S : Int} {ti to : Bool} (ps : List (Str × Value))
    (_gW : GenI "width" W) (_gP : GenI "polynomial" P) (_gI : GenI "first" I) (_gX : GenI "last" X) (_gS : GenI "size" S) (_gi : GenB "turn_in" ti) (_go : GenB "turn_out" to) (F : Fr h₀ L s.heap m) (N : News h₀ L s.heap (p :: q :: news)) (hps : ∀ p ∈ ps, m p.1 = some p.2)
    (h1 : wpAny M A (execs [a, b, c] env) (WordsEnd h₀ L m news s W P I X S ti to) E s)
    (h2 : ∀ (u : Str → Option Value) (ws : List Int) (lw : Addr) (vs : List Value) (nn : Nat) (t1 t2 : Tok) (h : Heap) (tk : Nat), WordsOk S ws → ws.length ≤ 7 → IntsAre vs ws → OffCells L lw →
      Fr h₀ L h (fun y => if y = Str.ofString "told" then some (.int (sumI W (1 * 2 ^ W.toNat + P) I X ti to ws S) t1) else if y = Str.ofString "divisor" then some (.int (1 * 2 ^ W.toNat + P) t2) else if y = Str.ofString "words" then some (.ref lw) else kstB u ps y) →
      News h₀ L h ((lw, listOf vs.toArray nn) :: news) → wpAny M A (execs rest env) Q E { s with heap := h, toks := tk }) : wpAny M A (execs (a :: b :: c :: rest) env) Q E s := by
  have em := kstB_self hps
  refine cut_words W P I X S ti to F (fun r hr => N r (.tail _ (.tail _ hr))) h1 fun ws lw vs nn t1 t2 h tk hw hl hi hb F' N' => h2 m ws lw vs nn t1 t2 h tk hw hl hi hb ?_ N'
  rw [em]
  exact F'
theorem divFine {W P I X : Int} (h : Fine W P I X) (hW : W ≤ 16) : DivOk (1 * 2 ^ W.toNat + P) W := divOk_of (Int.le_of_lt h.1) (by omega) h.2.1.1 h.2.1.2
theorem sp_of {W P I X S : Int} {ws : List Int} (h : Fine W P I X) (hW : W ≤ 16) (hS0 : 0 ≤ S) (hS9 : S ≤ 9) (hws : WordsOk S ws) (hl : ws.length ≤ 7) :
    0 ≤ W ∧ W ≤ 16 ∧ DivOk (1 * 2 ^ W.toNat + P) W ∧ 1 * 2 ^ W.toNat + P < 2 ^ 64 ∧ 0 ≤ I ∧ I < 2 ^ W.toNat ∧ 0 ≤ X ∧ I < 2 ^ 64 ∧ 0 ≤ S ∧ S ≤ 9 ∧ WordsOk S ws ∧ ws.length ≤ 7 := by
  have hp := pow16 hW
  have h0 := h.1
  have h1 := h.2.1.2
  have h2 := h.2.2.1
  exact ⟨by omega, hW, divFine h hW, by omega, h2.1, h2.2, h.2.2.2.1, by omega, hS0, hS9, hws, hl⟩
theorem tp_of {W P I X : Int} (h : Fine W P I X) (hW : W ≤ 16) : 0 ≤ X ∧ 0 ≤ W ∧ W ≤ 64 := ⟨h.2.2.2.1, Int.le_of_lt h.1, by omega⟩
theorem tr_of {W d n : Int} (h0 : 0 ≤ W) (hW : W ≤ 16) : 0 ≤ restI d W n ∧ 0 ≤ W ∧ W ≤ 64 := ⟨restI_nonneg _ _ _, h0, by omega⟩
theorem rp_of {W P I X : Int} {to : Bool} (h : Fine W P I X) (hW : W ≤ 16) : DivOk (1 * 2 ^ W.toNat + P) W ∧ 1 * 2 ^ W.toNat + P < 2 ^ 64 ∧ 0 ≤ outI to W X * 2 ^ W.toNat ∧ outI to W X * 2 ^ W.toNat < 2 ^ 90 := by
  have hp := pow16 hW
  have h1 := h.2.1.2
  have h3 := mulpow_lt (sum_of_lt (to := to) h.2.2.2.2) W.toNat
  have h4 : (2 : Int) ^ (W.toNat + W.toNat) ≤ 2 ^ 90 := pow_mono (by omega)
  exact ⟨divFine h hW, by omega, mulpow_nonneg (outI_nonneg h.2.2.2.1) _, by omega⟩
theorem outI_t {to : Bool} {W n : Int} (h : to = true) : turnI n W = outI to W n := by unfold outI; rw [if_pos h]
theorem outI_f {to : Bool} {W n : Int} (h : to = false) : n = outI to W n := by unfold outI; rw [if_neg (by rw [h]; decide)]
theorem mark_int {M : Model} {A : Around} {E : Value → Shared → Prop} {Q : Unit → Shared → Prop} {s : Shared} {env : Env} {x : Str} {v : Int} {t : Tok} (n : String)
    (h : GenI n v → wpAny M A (storeName env x (.int v t)) Q E s) : wpAny M A (storeName env x (.int v t)) Q E s := h trivial
/-- a number, turned or not -/
def OutEnd (h₀ : Heap) (L : Addr) (m : Str → Option Value) (news : List (Addr × Obj)) (s : Shared) (to : Bool) (W r : Int) (v : Value) (s' : Shared) : Prop :=
  ∃ (t : Tok) (h : Heap) (tk : Nat), v = .int (outI to W r) t ∧ s' = { s with heap := h, toks := tk } ∧ Fr h₀ L h m ∧ News h₀ L h news
theorem OutEnd.intro {h₀ : Heap} {L : Addr} {m : Str → Option Value} {news news' : List (Addr × Obj)} {s : Shared} {to : Bool} {W r n : Int} {t : Tok} {h : Heap} {tk : Nat}
    (F : Fr h₀ L h m) (N : News h₀ L h news') (hn : ∀ p ∈ news, p ∈ news') (e : n = outI to W r) : OutEnd h₀ L m news s to W r (.int n t) { s with heap := h, toks := tk } :=
  ⟨t, h, tk, by rw [e], rfl, F, fun p hp => N p (hn p hp)⟩
theorem cut_out {M : Model} {A : Around} {E : Value → Shared → Prop} {s : Shared} {c : Sem Value} {Q : Value → Shared → Prop} {h₀ : Heap} {L : Addr} {m : Str → Option Value} {news : List (Addr × Obj)} {n : String} {W r : Int} {to : Bool}
    (_gr : GenI n r) (_gW : GenI "width" W) (_go : GenB "turn_out" to) (_F : Fr h₀ L s.heap m) (_N : News h₀ L s.heap news) (hW : W ≤ 16) (hr : 0 ≤ r ∧ r < 2 ^ W.toNat)
    (h1 : wpAny M A c (OutEnd h₀ L m news s to W r) E s)
    (h2 : ∀ (t : Tok) (h : Heap) (tk : Nat), 0 ≤ outI to W r → outI to W r < 65536 → Fr h₀ L h m → News h₀ L h news → Q (.int (outI to W r) t) { s with heap := h, toks := tk }) : wpAny M A c Q E s := by
  refine wpAny_mono h1 (fun fl s' hq => ?_) fun _ _ x => x
  obtain ⟨t, h, tk, rfl, rfl, F, N⟩ := hq
  exact h2 t h tk (outI_nonneg hr.1) (Int.lt_of_lt_of_le (sum_of_lt hr.2) (pow16 hW)) F N
theorem last_in {W P I X : Int} (h : Fine W P I X) : 0 ≤ X ∧ X < 2 ^ W.toNat := h.2.2.2
theorem rest_in (d W n : Int) : 0 ≤ restI d W n ∧ restI d W n < 2 ^ W.toNat := ⟨restI_nonneg _ _ _, restI_lt _ _ _⟩
theorem sum_use {w : World} {loose : List Str} {mean : ExcName → Option Value} {mg mb : Str → Option Value} {news : List (Addr × Obj)} {W P f l S : Int} {ti to : Bool} {lw : Addr} {vs : List Value} {nn : Nat} {ws : List Int} {t1 t2 t3 t4 t5 : Tok}
  {dp un : Nat} {gd : Option (List Code)} {cn : Str} {cs : Scope} {a : Addr} {ccd : Value} {cl : List (Str × Addr)} {outer : List Env} {A₀ : Around} {base h₀ : Heap} {L : Addr} {m : Str → Option Value} {s : Shared} {Q E : Value → Shared → Prop}
   (B : Below A₀ base outer h₀) (F : Fr h₀ L s.heap m) (K : (hd.heap_39 w.params).In h₀) (N : News h₀ L s.heap news) (T : Top hd.view_39 loose mean mg mb h₀) (hk : cs.kind = .function)
   (hm : (lw, listOf vs.toArray nn) ∈ news) (hi : IntsAre vs ws) (hd1 : dp + 2 < recursionLimit) (hu1 : un + 8 * 2 < cLine)
   (p : 0 ≤ W ∧ W ≤ 16 ∧ DivOk (1 * 2 ^ W.toNat + P) W ∧ 1 * 2 ^ W.toNat + P < 2 ^ 64 ∧ 0 ≤ f ∧ f < 2 ^ W.toNat ∧ 0 ≤ l ∧ f < 2 ^ 64 ∧ 0 ≤ S ∧ S ≤ 9 ∧ WordsOk S ws ∧ ws.length ≤ 7)
   (ret : ∀ (t : Tok) (h' : Heap) (tk' : Nat), Fr h₀ L h' m → News h₀ L h' news → Q (.int (sumI W (1 * 2 ^ W.toNat + P) f l ti to ws S) t) { s with heap := h', toks := tk' }) :
   wpAny (model PySem.Challenge.rw_jy0006_01.row.toRowW.prog w) (ktrTop dp un gd cn cs L a ccd cl outer) (call (.ref 177) [.int W t1, .int (1 * 2 ^ W.toNat + P) t2, .int f t3, .int l t4, .bool ti, .bool to, .ref lw, .int S t5]) Q E s :=
  Cl.use B F K N T hk (sum_tells w loose mean mg mb news W (1 * 2 ^ W.toNat + P) f l S ti to lw vs nn ws t1 t2 t3 t4 t5 hm hi) hd1 hu1 p ret
theorem residue_use {w : World} {loose : List Str} {mean : ExcName → Option Value} {mg mb : Str → Option Value} {news : List (Addr × Obj)} {h1 h2 h3 h4 h5 h6 h7 : Int} {k1 k2 k3 k4 k5 k6 k7 t1 t2 t3 t6 t7 : Tok} {W P I : Int} {ti to : Bool} {X S : Int} {x dx : Addr}
  {dp un : Nat} {gd : Option (List Code)} {cn : Str} {cs : Scope} {a : Addr} {ccd : Value} {cl : List (Str × Addr)} {outer : List Env} {A₀ : Around} {base h₀ : Heap} {L : Addr} {m : Str → Option Value} {s : Shared} {Q E : Value → Shared → Prop}
   (B : Below A₀ base outer h₀) (F : Fr h₀ L s.heap m) (K : (hd.heap_39 w.params).In h₀) (N : News h₀ L s.heap news) (T : Top hd.view_39 loose mean mg mb h₀) (hk : cs.kind = .function)
   (hx : (x, instObj 145 dx) ∈ news) (hdx : (dx, dictOf (parD h1 h2 h3 h4 h5 h6 h7 k1 k2 k3 k4 k5 k6 k7 t1 t2 t3 t6 t7 W P I ti to X S) 7) ∈ news) (hd1 : dp + 9 < recursionLimit) (hu1 : un + 8 * 9 < cLine)
   (p : Fine W P I X) (q : W ≤ 16)
   (ret : ∀ (t : Tok) (h' : Heap) (tk' : Nat), Fr h₀ L h' m → News h₀ L h' news → Q (.int (outI to W (restI (1 * 2 ^ W.toNat + P) W (outI to W X * 2 ^ W.toNat))) t) { s with heap := h', toks := tk' }) :
   wpAny (model PySem.Challenge.rw_jy0006_01.row.toRowW.prog w) (ktrTop dp un gd cn cs L a ccd cl outer) (call (.ref 111) [.ref x]) Q E s :=
  Cl.use B F K N T hk (residue_tells w loose mean mg mb news h1 h2 h3 h4 h5 h6 h7 k1 k2 k3 k4 k5 k6 k7 t1 t2 t3 t6 t7 W P I ti to X S x dx hx hdx) hd1 hu1 ⟨p, q⟩ ret
theorem fdiv_factsG {W S : Int} (_gW : GenI "width" W) (_gS : GenI "size" S) (hS : 0 < S) (hW0 : 0 ≤ W) (hW1 : W ≤ 16) : 0 ≤ Int.fdiv W S ∧ Int.fdiv W S ≤ 16 := fdiv_facts hS hW0 hW1
noncomputable abbrev partG {W P I X S : Int} {ti to : Bool} {ws : List Int} (_gW : GenI "width" W) (_gP : GenI "polynomial" P) (_gI : GenI "first" I) (_gX : GenI "last" X) (_gS : GenI "size" S) (_gi : GenB "turn_in" ti) (_go : GenB "turn_out" to) (_h : WordsOk S ws) : Int → Int :=
  partI S (sumI W (1 * 2 ^ W.toNat + P) I X ti to ws S)
theorem sum_G {W P I X S : Int} {ti to : Bool} {ws : List Int} (_gW : GenI "width" W) (_gP : GenI "polynomial" P) (_gI : GenI "first" I) (_gX : GenI "last" X) (_gS : GenI "size" S) (_gi : GenB "turn_in" ti) (_go : GenB "turn_out" to) (_h : WordsOk S ws) (hF : Fine W P I X) (hW1 : W ≤ 16) :
    0 ≤ sumI W (1 * 2 ^ W.toNat + P) I X ti to ws S ∧ sumI W (1 * 2 ^ W.toNat + P) I X ti to ws S < 65536 := ⟨sum_nn hF, sum_16 hF hW1⟩
theorem kS_factsG {W S k : Int} (_gW : GenI "width" W) (_gS : GenI "size" S) (hS : 0 < S) (hS9 : S ≤ 9) (hW0 : 0 ≤ W) (hW1 : W ≤ 16) (h0 : 0 ≤ k) (h1 : k < 0 + ((Int.fdiv W S - 0).toNat : Int)) : 0 ≤ k * S ∧ k * S ≤ 160 := kS_facts hS hS9 hW0 hW1 h0 h1
theorem finT_no {W P I X S : Int} {ti to : Bool} {ws : List Int} (hF : Fine W P I X) (hW1 : W ≤ 16) (hS : 0 < S) (hws : WordsOk S ws) (he : (ti == to) = true) (ht : to = true) (hm : Int.fmod W S = 0)
    (h : Builtin.bitXor (sumI W (1 * 2 ^ W.toNat + P) I X ti to (ws ++ (rangeKs 0 (Int.fdiv W S - 0).toNat).map (partI S (sumI W (1 * 2 ^ W.toNat + P) I X ti to ws S))) S) X ≠ outI to W (restI (1 * 2 ^ W.toNat + P) W (outI to W X * 2 ^ W.toNat))) : False := h (finT hF hW1 hS hws he ht hm)
theorem finF_no {W P I X S : Int} {ti to : Bool} {ws : List Int} (hF : Fine W P I X) (hW1 : W ≤ 16) (hS : 0 < S) (hws : WordsOk S ws) (he : (ti == to) = true) (ht : to = false) (hm : Int.fmod W S = 0)
    (h : Builtin.bitXor (sumI W (1 * 2 ^ W.toNat + P) I X ti to (ws ++ ((rangeKs 0 (Int.fdiv W S - 0).toNat).map (partI S (sumI W (1 * 2 ^ W.toNat + P) I X ti to ws S))).reverse) S) X ≠ outI to W (restI (1 * 2 ^ W.toNat + P) W (outI to W X * 2 ^ W.toNat))) : False := h (finF hF hW1 hS hws he ht hm)
theorem toT {to : Bool} (_g : GenB "turn_out" to) (h : to = true) : to = true := h
theorem toF {to : Bool} (_g : GenB "turn_out" to) (h : to = false) : to = false := h
theorem kcf_elP {news news' : List (Addr × Obj)} {r r' : Int} {y : Value} {t : Tok} (hn : news' = news) (hy : y = .int r' t) (e : r = r') : KCfEl news r y news' := kcf_el e hn hy
/-- the end of a field's test -/
def CmpEnd (h₀ : Heap) (L : Addr) (m : Str → Option Value) (news : List (Addr × Obj)) (s : Shared) (n W : Int) (v : Value) (s' : Shared) : Prop :=
  ∃ (b : Bool) (h : Heap) (tk : Nat), v = .bool b ∧ s' = { s with heap := h, toks := tk } ∧ (b = true ↔ (0 ≤ n ∧ n < 2 ^ W.toNat)) ∧ Fr h₀ L h m ∧ News h₀ L h news
theorem CmpEnd.intro {h₀ : Heap} {L : Addr} {m : Str → Option Value} {news news' : List (Addr × Obj)} {s : Shared} {n W : Int} {b : Bool} {h : Heap} {tk : Nat}
    (F : Fr h₀ L h m) (N : News h₀ L h news') (hn : ∀ p ∈ news, p ∈ news') (e : b = true ↔ (0 ≤ n ∧ n < 2 ^ W.toNat)) : CmpEnd h₀ L m news s n W (.bool b) { s with heap := h, toks := tk } :=
  ⟨b, h, tk, rfl, rfl, e, F, fun p hp => N p (hn p hp)⟩
theorem cut_cmp {M : Model} {A : Around} {E : Value → Shared → Prop} {s : Shared} {c : Sem Value} {Q : Value → Shared → Prop} {h₀ : Heap} {L : Addr} {m : Str → Option Value} {news : List (Addr × Obj)} {mm : Str → Option Value} {y : Str} {n W : Int} {t : Tok}
    (_gW : GenI "width" W) (_hx : mm y = some (.int n t)) (_F : Fr h₀ L s.heap m) (_N : News h₀ L s.heap news)
    (h1 : wpAny M A c (CmpEnd h₀ L m news s n W) E s)
    (h2 : ∀ (b : Bool) (h : Heap) (tk : Nat), (b = true ↔ (0 ≤ n ∧ n < 2 ^ W.toNat)) → Fr h₀ L h m → News h₀ L h news → Q (.bool b) { s with heap := h, toks := tk }) : wpAny M A c Q E s := by
  refine wpAny_mono h1 (fun fl s' hq => ?_) fun _ _ x => x
  obtain ⟨b, h, tk, rfl, rfl, e, F, N⟩ := hq
  exact h2 b h tk e F N
theorem ce_a {n W : Int} (h0 : 0 ≤ n) : decide (n < 1 * 2 ^ W.toNat) = true ↔ (0 ≤ n ∧ n < 2 ^ W.toNat) := by
  rw [decide_eq_true_eq, Int.one_mul]
  exact ⟨fun h => ⟨h0, h⟩, fun h => h.2⟩
theorem ce_b {n W : Int} (h0 : ¬ 0 ≤ n) : decide (0 ≤ n) = true ↔ (0 ≤ n ∧ n < 2 ^ W.toNat) := ⟨fun h => absurd (of_decide_eq_true h) h0, fun h => absurd h.1 h0⟩
theorem ce_c {n W : Int} (h0 : ¬ 0 ≤ n) : false = true ↔ (0 ≤ n ∧ n < 2 ^ W.toNat) := ⟨fun h => (by cases h), fun h => absurd h.1 h0⟩
theorem fe_all {W P I X : Int} {b1 b2 b3 : Bool} (hW : 0 < W) (i1 : b1 = true ↔ (0 ≤ P ∧ P < 2 ^ W.toNat)) (i2 : b2 = true ↔ (0 ≤ I ∧ I < 2 ^ W.toNat)) (i3 : b3 = true ↔ (0 ≤ X ∧ X < 2 ^ W.toNat)) : (b1 && (b2 && b3)) = true ↔ Fine W P I X := by
  rw [Bool.and_eq_true, Bool.and_eq_true, i1, i2, i3]
  exact ⟨fun h => ⟨hW, h.1, h.2.1, h.2.2⟩, fun h => ⟨h.2.1, h.2.2.1, h.2.2.2⟩⟩

theorem law_holds : PySem.Challenge.rw_jy0006_01.Holds := hd (by
  k_with_none
  (k_with "state" => first | exact words_start _ | exact words_turn (by assumption) (by assumption) (by assumption))
  (k_with "pyIter ref" => (k_of "number" => ((with_reducible rename GenI "size" _ => gS); k_state (fun pre words fine => words.length = pre.length ∧ (fine = true ↔ WordsOk (theI gS) words)) "words" "fine")))
  (k_with "storeName" => (k_here; (with_reducible show wpAny _ _ (storeName _ (PySem.Str.ofString "width") (Value.int _ _)) _ _ _); (fail_if_success (with_reducible rename GenI "width" _ => hG)); (refine gen_int "width" (fun W => 0 ≤ W ∧ W ≤ 16) (fmod17 _) ?_); intro W tW hGW hW; (have hW0 := hW.1); (have hW1 := hW.2); (try dsimp only)))
  (k_with "storeName" => (k_here; (with_reducible show wpAny _ _ (storeName _ (PySem.Str.ofString "polynomial") (Value.int _ _)) _ _ _); (fail_if_success (with_reducible rename GenI "polynomial" _ => hG)); (refine gen_int "polynomial" (fun _ => True) trivial ?_); intro P tP hGP _; (try dsimp only)))
  (k_with "storeName" => (k_here; (with_reducible show wpAny _ _ (storeName _ (PySem.Str.ofString "first") (Value.int _ _)) _ _ _); (fail_if_success (with_reducible rename GenI "first" _ => hG)); (refine gen_int "first" (fun _ => True) trivial ?_); intro I tI hGI _; (try dsimp only)))
  (k_with "storeName" => (k_here; (with_reducible show wpAny _ _ (storeName _ (PySem.Str.ofString "last") (Value.int _ _)) _ _ _); (fail_if_success (with_reducible rename GenI "last" _ => hG)); (refine gen_int "last" (fun _ => True) trivial ?_); intro X tX hGX _; (try dsimp only)))
  (k_with "storeName" => (k_here; (with_reducible show wpAny _ _ (storeName _ (PySem.Str.ofString "size") (Value.int _ _)) _ _ _); (fail_if_success (with_reducible rename GenI "size" _ => hG)); (refine gen_int "size" (fun S => 0 ≤ S ∧ S ≤ 9) (fmod10 _) ?_); intro S tS hGS hS; (have hS0 := hS.1); (have hS1 := hS.2); (try dsimp only)))
  (k_with "storeName" => (k_here; (with_reducible show wpAny _ _ (storeName _ (PySem.Str.ofString "turn_in") (Value.bool _)) _ _ _); (fail_if_success (with_reducible rename GenB "turn_in" _ => hG)); (refine gen_bool "turn_in" ?_); intro ti hGti; (try dsimp only)))
  (k_with "storeName" => (k_here; (with_reducible show wpAny _ _ (storeName _ (PySem.Str.ofString "turn_out") (Value.bool _)) _ _ _); (fail_if_success (with_reducible rename GenB "turn_out" _ => hG)); (refine gen_bool "turn_out" ?_); intro to hGto; (try dsimp only)))
  (k_with "call ref" => (k_here; (with_reducible show wpAny _ _ (call (Value.ref 184) _ _) _ _ _); k_dflt (refine' Cl.use (by k_asm) (by k_asm) (by k_asm) (by k_asm) (by k_asm) (by first | exact rfl | assumption) (field_tells _ _ _ _ _ _ _ _ _ _) (by k_room) (by k_units) (by exact ⟨by omega, by omega⟩) ?_; k_whole; intro t9 h9 tk9 F9 N9; (try dsimp only); (try k_fold))))
  (k_with "eval ListComp" => (k_here; (with_reducible show wpAny _ _ (eval (Expr.ListComp _ [⟨_, Expr.Tuple _ _ _, _, _⟩] _ _) _) _ _ _); k_dflt (refine listComp_tup (by k_asm) (by with_unfolding_all rfl) (by decide) (by rfl) (by decide) (by rfl) ?_)))
  (k_with "TupSrc" => (k_here; k_dflt (refine TupSrc.intro (by rfl) (by k_asm) (by k_asm) (by k_mem) (by rfl) (by rfl) (by first | size_fits | exact Nat.le_of_ble_eq_true rfl) ?_; intro g'; lcg_lit)))
  (k_with "exec Assign" => (k_here; (with_reducible show wpAny _ _ (exec (Stmt.Assign [Expr.Name (PySem.Str.ofString "fine") _] (Expr.BoolOp _ _ _) _) _) _ _ _); (fail_if_success (with_reducible show wpAny _ _ _ (FineEnd _ _ _ _ _ _ _ _ _) _ _)); (fail_if_success (with_reducible rename GenI "word" _ => hG)); (with_reducible rename Fr _ _ _ _ => cF'); (with_reducible rename News _ _ _ _ => cN'); (with_reducible rename GenI "width" _ => gW'); (with_reducible rename GenI "polynomial" _ => gP'); (with_reducible rename GenI "first" _ => gI'); (with_reducible rename GenI "last" _ => gX'); k_dflt (refine' cut_fine [(PySem.Str.ofString "turn_out", _), (PySem.Str.ofString "turn_in", _), (PySem.Str.ofString "last", _), (PySem.Str.ofString "first", _), (PySem.Str.ofString "polynomial", _), (PySem.Str.ofString "script", _)] gW' gP' gI' gX' cF' cN' (by kst_all) ?_ (fun hFine u9 h' tk' FX9 N' => ?_) (fun hFine u9 h' tk' FX9 N' => ?_)); (all_goals (try dsimp only [kstB] at FX9)); (all_goals (try dsimp only))))
  (k_with "FineEnd" => ((with_reducible rename Fr _ _ _ _ => cF'); (with_reducible rename News _ _ _ _ => cN'); k_dflt (refine' FineEnd.intro (by first | with_reducible exact fe_all (by assumption) (by assumption) (by assumption) (by assumption) | (unfold Fine; simp only [Bool.and_eq_true, decide_eq_true_eq, Int.one_mul]; omega)) cF' cN' (by kcj_all))))
  (k_with "call ref" => (k_here; (with_reducible show wpAny _ _ (call (Value.ref 77) _ _) _ _ _); k_dflt (refine' mkAlg_use (by k_asm) (by k_asm) (by k_asm) (by k_asm) (by k_asm) (by k_room) (by k_units) (by omega) (by omega) (fun hF9 x9 d9 c1 c2 c3 c4 c5 c6 r1 r2 r3 r4 r5 r6 h9 tk9 F9 N9 l9 m9 => ?_) (fun hF9 g9 e9 h9 tk9 FG9 R9 U9 => ?_)); (all_goals first | (exfalso; contradiction) | ((try k_lt l9); k_lt2 m9; (try dsimp only); (try k_fold)) | (try dsimp only))))
  (k_with "call ref" => (k_here; k_dflt (refine' callAlg_use (by k_asm) (by k_asm) (by k_asm) (by k_asm) (by k_asm) (by k_mem) (by k_mem) (by k_room) (by k_units) (fun hS9 x9 d9 c1 c2 c3 c4 c5 c6 c7 r1 r2 r3 r4 r5 r6 r7 h9 tk9 F9 N9 l9 m9 => ?_) (fun hS9 g9 e9 h9 tk9 FG9 R9 U9 => ?_)); (all_goals first | (exfalso; contradiction) | ((try k_lt l9); k_lt2 m9; (try dsimp only); (try k_fold)) | (try dsimp only))))
  (k_with "call ref" => (k_here; (with_reducible show wpAny _ _ (call (Value.ref 145) _ _) _ _ _); k_dflt (refine' mkPar_use (by k_asm) (by k_asm) (by k_asm) (by k_asm) (by k_asm) (by k_mem) (by k_mem) (by k_room) (by k_units) (fun hS9 x9 d9 c1 c2 c3 c4 c5 c6 c7 r1 r2 r3 r4 r5 r6 r7 h9 tk9 F9 N9 l9 m9 => ?_) (fun hS9 g9 e9 h9 tk9 FG9 R9 U9 => ?_)); (all_goals first | (exfalso; contradiction) | ((try k_lt l9); k_lt2 m9; (try dsimp only); (try k_fold)) | (try dsimp only))))
  (k_with "exec Try" => (k_here; (with_reducible show wpAny _ _ (exec (Stmt.Try _ (_ :: _) _ [] _) _) _ _ _); refine wpAny_Try_except ?_))
  (k_with "noteFrame ref" => (k_here; (rename RaisedN _ _ _ _ _ _ => rkX); (refine caught_C0 (T' := "ValueError") (by assumption) (by assumption) (by assumption) rkX (by k_asm) PyProof.Rows.Boot.«ValueError» PySem.F.isExc_ValueError PySem.F.notTuple_ValueError (by rw [isSubtype_type]; kernel_rfl) ?_ (by rfl) (by rfl) (by rfl) (by decide +kernel) (by decide +kernel) (by decide +kernel) (by decide +kernel) (by decide +kernel) (by decide +kernel) (by rfl) (by rfl) (by decide) (by passes_own)); intro h' F' N'; (try k_sweep)))
  (k_with "exec Assign" => (k_here; (with_reducible show wpAny _ _ (exec (Stmt.Assign [Expr.Name (PySem.Str.ofString "word") _] _ _) _) _ _ _); (fail_if_success (with_reducible show wpAny _ _ _ (IntEnd _ _ _ _ _ _ _) _ _)); (with_reducible rename Fr _ _ _ _ => cF'); (with_reducible rename News _ _ _ _ => cN'); (refine cut_word cF' cN' ?_ (fun w9 t9 h9 tk9 gw9 F9 N9 => ?_)); (all_goals (try dsimp only))))
  (k_with "IntEnd" => ((with_reducible rename Fr _ _ _ _ => cF'); (with_reducible rename News _ _ _ _ => cN'); (refine IntEnd.intro cF' cN' (by (first | exact fun _ h => h | kcj_all)) (by exact trivial))))
  (k_with "exec Assign" => (k_here; (with_reducible show wpAny _ _ (exec (Stmt.Assign [Expr.Name (PySem.Str.ofString "fine") _] (Expr.BoolOp _ _ _) _) _) _ _ _); (fail_if_success (with_reducible show wpAny _ _ _ (BoolEnd _ _ _ _ _ _ _) _ _)); (with_reducible rename GenI "word" _ => gw'); (with_reducible rename GenI "size" _ => gS'); (with_reducible rename Fr _ _ _ _ => cF'); (with_reducible rename News _ _ _ _ => cN'); (refine' cut_fineL gw' gS' cF' cN' (by with_unfolding_all rfl) ?_ (fun v9 h9 tk9 hv9 F9 N9 => ?_)); (all_goals (try dsimp only))))
  (k_with "BoolEnd" => ((with_reducible rename Fr _ _ _ _ => cF'); (with_reducible rename News _ _ _ _ => cN'); (refine BoolEnd.intro cF' cN' (by (first | exact fun _ h => h | kcj_all)) (by with_reducible first | exact fl_a (by assumption) (by assumption) | exact fl_e (by assumption) | exact fl_b (by assumption) | exact fl_b (by omega) | exact fl_c (by assumption) | exact fl_d (by assumption)))))
  (k_with "execs cons" => (k_here; (try dsimp only); (with_reducible show wpAny _ _ (execs (Stmt.Try _ _ _ _ _ :: Stmt.Assign _ _ _ :: Stmt.If _ _ _ _ :: _ :: _) _) _ _ _); (with_reducible rename GenI "width" _ => gW'); (with_reducible rename GenI "polynomial" _ => gP'); (with_reducible rename GenI "first" _ => gI'); (with_reducible rename GenI "last" _ => gX'); (with_reducible rename GenI "size" _ => gS'); (with_reducible rename GenB "turn_in" _ => gi'); (with_reducible rename GenB "turn_out" _ => go'); (with_reducible rename Fr _ _ _ _ => cF'); (with_reducible rename News _ _ _ _ => cN'); k_dflt (refine' cut_wordsG [(PySem.Str.ofString "full", _), (PySem.Str.ofString "made", _), (PySem.Str.ofString "turn_out", _), (PySem.Str.ofString "turn_in", _), (PySem.Str.ofString "last", _), (PySem.Str.ofString "first", _), (PySem.Str.ofString "polynomial", _)] gW' gP' gI' gX' gS' gi' go' cF' cN' (by kst_all) ?_ (fun u9' ws9 lw9 vs9 nn9 t9 u9 h9 tk9 hWs9 hLn9 hIs9 hLw9 FW9 N9 => ?_)); (all_goals (try dsimp only [kstB] at FW9)); (all_goals (try dsimp only))))
  (k_with "call ref" => (k_here; (with_reducible show wpAny _ _ (call (Value.ref 118) _ _) _ _ _); k_dflt (refine' compute_use (by k_asm) (by k_asm) (by k_asm) (by k_asm) (by k_asm) (by first | exact rfl | assumption) (by k_mem) (by k_mem) (by k_mem) (by first | assumption | l_ints) (by k_room) (by k_units) (by exact cp_of (by assumption) (by assumption) (by assumption) (by assumption)) (fun hW9 t9 h9 tk9 F9 N9 => ?_) (fun hW9 g9 e9 h9 tk9 FG9 RC9 U9 => ?_)); (all_goals first | ((have hr9 := RC9); clear hr9; first | exact absurd (by assumption) hW9 | exact absurd (wfilt_ok0 _ _) hW9 | ((try dsimp only); (try k_fold))) | ((try ((rename (_ = true ↔ WordsOk _ _) => hv9'); (have hb9 := hv9'.mpr hW9); subst hb9)); (try dsimp only); (try k_fold)))))
  (k_with "CompSrcT" => (k_here; (with_reducible rename GenI "size" _ => gS'); k_dflt (refine LCt.CompSrcT.ledger (by rfl) (by k_asm) (by k_asm) (by k_mem) (by size_fits) ?_; intro g'; (refine' kci_list (wfilt (theI gS')) (by assumption) (fun k' t' I' oI' C' oC' D' m' ys' l' h' tk' E' hk' hI' hC' hx' F' N' off' ne' hMark' => ?_) ?_ (wfilt_grows _)); kcf_last)))
  (k_with "CompEnd" => ((with_reducible rename LCg.Off3 _ _ _ _ => oF'); (refine' LCg.CompEnd.intro (by assumption) (by assumption) _ (by kcf_all) oF' (by first | ((show _ ∈ _); k_mem) | lcg_src) ?_)))
  (k_with "KCiEl" => (refine kci_el (wfilt_yes (by assumption) (by assumption)) (by with_unfolding_all rfl) (by with_unfolding_all rfl)))
  (k_with "KCiNo" => (refine kci_no (by first | exact wfilt_no0 (by assumption) | exact wfilt_no1 (by assumption)) (by with_unfolding_all rfl)))
  (k_with "WordsEnd" => first | ((rename (_ = true ↔ WordsOk _ _) => hv8); exact absurd (hv8.mp (by assumption)) (by assumption)) | ((with_reducible rename Fr _ _ _ _ => cF'); (with_reducible rename News _ _ _ _ => cN'); (refine' WordsEnd.intro cF' cN' (by with_unfolding_all rfl) (by with_unfolding_all rfl) (by with_unfolding_all rfl) (by (intro y h1 h2 h3; (simp only [if_neg h1, if_neg h2, if_neg h3]))) (by assumption) (by first | exact len7 (by assumption) (by assumption) | (refine Nat.le_trans (wfilt_len _ _ _) ?_; (simp only [List.length_nil, Nat.zero_add]); exact len7 (by assumption) (by assumption)) | omega) (by assumption) (by first | ((rename (Ne _ _ ∧ _) => ho9); exact ⟨Ne.symm ho9.2.2.2.2.2.2.2.2.2, Ne.symm ho9.2.2.2.2.2.2.2.2.1, Ne.symm ho9.2.2.2.2.2.2.2.1⟩) | exact ⟨by omega, by omega, by omega⟩) (by k_mem) (by kcf_all))))
  (k_with "call ref" => (k_here; (with_reducible show wpAny _ _ (call (Value.ref 177) _ _) _ _ _); k_dflt (refine' sum_use (by k_asm) (by k_asm) (by k_asm) (by k_asm) (by k_asm) (by first | exact rfl | assumption) (by k_mem) (by assumption) (by k_room) (by k_units) (by exact sp_of (by assumption) (by assumption) (by assumption) (by assumption) (by assumption) (by assumption)) (fun t9 h9 tk9 F9 N9 => ?_)); (try dsimp only); (try k_fold)))
  (k_with "call ref" => (k_here; (with_reducible show wpAny _ _ (call (Value.ref 111) _ _) _ _ _); k_dflt (refine' residue_use (by k_asm) (by k_asm) (by k_asm) (by k_asm) (by k_asm) (by first | exact rfl | assumption) (by k_mem) (by k_mem) (by k_room) (by k_units) (by assumption) (by assumption) (fun t9 h9 tk9 F9 N9 => ?_)); (try dsimp only); (try k_fold)))
  (k_with "call ref" => (k_here; (with_reducible show wpAny _ _ (call (Value.ref 163) _ _) _ _ _); k_dflt (refine' Cl.use (by k_asm) (by k_asm) (by k_asm) (by k_asm) (by k_asm) (by first | exact rfl | assumption) (turned_tells _ _ _ _ _ _ _ _ _ _) (by k_room) (by k_units) (by first | exact tp_of (by assumption) (by assumption) | exact tr_of (by assumption) (by assumption)) ?_); (intro t9 h9 tk9 F9 N9; (try dsimp only); (try k_fold))))
  (k_with "call ref" => (k_here; (with_reducible show wpAny _ _ (call (Value.ref 170) _ _) _ _ _); k_dflt (refine' Cl.use (by k_asm) (by k_asm) (by k_asm) (by k_asm) (by k_asm) (by first | exact rfl | assumption) (rest_tells _ _ _ _ _ _ _ _ _ _ _ _) (by k_room) (by k_units) (by exact rp_of (by assumption) (by assumption)) ?_); (intro t9 h9 tk9 F9 N9; (try dsimp only); (try k_fold))))
  (k_with "storeName" => (k_here; (with_reducible show wpAny _ _ (storeName _ (PySem.Str.ofString "rest") (Value.int _ _)) _ _ _); (fail_if_success (with_reducible rename GenI "rest" _ => hG)); (refine mark_int "rest" (fun hGr => ?_)); (try dsimp only)))
  (k_with "eval IfExp" => (k_here; (with_reducible show wpAny _ _ (eval (Expr.IfExp (Expr.Name (PySem.Str.ofString "turn_out") _) _ (Expr.Name (PySem.Str.ofString "last") _) _) _) _ _ _); (fail_if_success (with_reducible show wpAny _ _ _ (OutEnd _ _ _ _ _ _ _ _) _ _)); (with_reducible rename GenI "last" _ => gX'); (with_reducible rename GenI "width" _ => gW'); (with_reducible rename GenB "turn_out" _ => go'); (with_reducible rename Fr _ _ _ _ => cF'); (with_reducible rename News _ _ _ _ => cN'); (refine' cut_out gX' gW' go' cF' cN' (by assumption) (last_in (by assumption)) ?_ (fun t9 h9 tk9 hp9 hq9 F9 N9 => ?_)); (all_goals (try dsimp only))))
  (k_with "eval IfExp" => (k_here; (with_reducible show wpAny _ _ (eval (Expr.IfExp (Expr.Name (PySem.Str.ofString "turn_out") _) _ (Expr.Name (PySem.Str.ofString "rest") _) _) _) _ _ _); (fail_if_success (with_reducible show wpAny _ _ _ (OutEnd _ _ _ _ _ _ _ _) _ _)); (with_reducible rename GenI "rest" _ => gR'); (with_reducible rename GenI "width" _ => gW'); (with_reducible rename GenB "turn_out" _ => go'); (with_reducible rename Fr _ _ _ _ => cF'); (with_reducible rename News _ _ _ _ => cN'); (refine' cut_out gR' gW' go' cF' cN' (by assumption) (rest_in _ _ _) ?_ (fun t9 h9 tk9 hp9 hq9 F9 N9 => ?_)); (all_goals (try dsimp only))))
  (k_with "OutEnd" => ((with_reducible rename Fr _ _ _ _ => cF'); (with_reducible rename News _ _ _ _ => cN'); (refine' OutEnd.intro cF' cN' (by (first | exact fun _ h => h | kcf_all)) (by first | exact outI_t (by assumption) | exact outI_f (by assumption)))))
  (k_with "exec If" => (k_here; (with_reducible show wpAny _ _ (exec (Stmt.If (Expr.BoolOp _ _ _) (Stmt.Assign _ _ _ :: _) [] _) _) _ _ _); (fail_if_success (with_reducible show wpAny _ _ _ (ThruEnd _ _ _ _ _ _) _ _)); (with_reducible rename Fr _ _ _ _ => cF'); (with_reducible rename News _ _ _ _ => cN'); (refine' cut_thru (PySem.Str.ofString "parts") cF' cN' ?_ (fun u9 h9 tk9 F9 N9 => ?_)); (all_goals (try dsimp only))))
  (k_with "ThruEnd" => ((with_reducible show ThruEnd _ _ _ _ _ _ Flow.next _); (with_reducible rename Fr _ _ _ _ => cF'); (with_reducible rename News _ _ _ _ => cN'); (refine' ThruEnd.intro cF' cN' (by (first | exact fun _ h => h | kcf_all)) (by first | exact fun _ _ => rfl | (intro y h1; simp only [if_neg h1])))))
  (k_with "CompSrc" => (k_here; (rename IsRange _ _ _ (Int.fdiv _ _) _ _ _ _ => rgX); (with_reducible rename GenI "width" _ => gW'); (with_reducible rename GenI "polynomial" _ => gP'); (with_reducible rename GenI "first" _ => gI'); (with_reducible rename GenI "last" _ => gX'); (with_reducible rename GenI "size" _ => gS'); (with_reducible rename GenB "turn_in" _ => gi'); (with_reducible rename GenB "turn_out" _ => go'); (with_reducible rename WordsOk _ _ => hWs'); (have hfd9 := fdiv_factsG gW' gS' (by assumption) (by assumption) (by assumption)); (have hsG9 := sum_G gW' gP' gI' gX' gS' gi' go' hWs' (by assumption) (by assumption)); k_dflt (refine LCg.CompSrc.range (by rfl) (by k_asm) (by k_asm) rgX (small_one (by omega) (by omega) (by omega) (by omega)) (rangeSize_nat _ _) (by rw [PySem.sizeLine_eq]; omega) ?_); intro g'; (refine' kcf_range (partG gW' gP' gI' gX' gS' gi' go' hWs') (fun k' t' I' oI' C' oC' D' m' ys' h' tk' E' hlo' hhi' hC' hx' F' N' off' ne' hMark' => ?_) ?_); (try (have hkS9 := kS_factsG gW' gS' (by assumption) (by assumption) (by assumption) (by assumption) hlo' hhi')); kcf_last))
  (k_with "KCfEl" => (refine kcf_elP (by with_unfolding_all rfl) (by with_unfolding_all rfl) (by k_dflt rfl)))
  (k_with "leaving" => (k_here; (with_reducible rename ¬ WordsOk _ _ => hW8); k_dflt (first | exact absurd (WordsOk.app (by assumption) (okT (by assumption) (sum_nn (by assumption)))) hW8 | exact absurd (WordsOk.app (by assumption) (okF (by assumption) (sum_nn (by assumption)))) hW8)))
  (k_with "ThruEnd" => ((with_reducible show ThruEnd _ _ _ _ _ _ (Flow.ret _) _); (rename ¬ ((_ : Int) = _) => hn8); exfalso; (with_reducible rename GenB "turn_out" _ => go'); first | ((have ht9 := toT go' (by assumption)); with_reducible exact finT_no (by assumption) (by assumption) (by assumption) (by assumption) (by assumption) ht9 (by assumption) hn8) | ((have ht9 := toF go' (by assumption)); with_reducible exact finF_no (by assumption) (by assumption) (by assumption) (by assumption) (by assumption) ht9 (by assumption) hn8)))
  (k_with "callWith ref" => (k_here; (with_reducible show wpAny _ _ (callWith _ (Value.ref _) _ (backTo _ (starEach [] _)) []) _ _ _); k_dflt (refine' callWith_K0 (by k_in) (by k_is) ?_)))
  (k_with "callWith ref" => (k_here; (with_reducible show wpAny _ _ (callWith _ (Value.ref _) _ (backTo _ (starEach [] _)) (backToKw _ (keywordEach (_ :: _) _))) _ _ _); k_dflt (refine' callWith_KW0 (by k_asm) (by k_is) (by exact rfl) ?_)))
  (k_with "CompRest" => (with_unfolding_all (refine LCg.CompRest.succ ?_; intro v' I' oI' C' oC' D' m' h' tk' E' hv' hC' hx' F' N' off' ne'; lcg_open hv')))
  (k_with "eval Compare" => (k_here; (with_reducible show wpAny _ _ (eval (Expr.Compare _ _ _ _) (compEnvC _ _ _ _)) (LCg.CompEnd _ _ _ _ _ _ _ _ _ _ _ _) _ _); (with_reducible rename GenI "width" _ => gW'); (rename (_ = some (Value.int _ _)) => hxF); (with_reducible rename Fr _ _ _ _ => cF'); (with_reducible rename News _ _ _ _ => cN'); (refine' cut_cmp gW' hxF cF' cN' ?_ (fun b9 h9 tk9 hb9 F9 N9 => ?_)); (all_goals (try dsimp only))))
  (k_with "CmpEnd" => ((with_reducible rename Fr _ _ _ _ => cF'); (with_reducible rename News _ _ _ _ => cN'); (refine' CmpEnd.intro cF' cN' (by (first | exact fun _ h => h | kcf_all)) (by with_reducible first | exact ce_a (by assumption) | exact ce_b (by assumption) | exact ce_c (by assumption)))))
  (k_with "call ref" => (k_here; (with_reducible show wpAny _ _ (call (Value.ref 156) _ _) _ _ _); k_dflt (refine' at_tells (by k_asm) (by k_asm) (by k_asm) (by k_asm) (by k_asm) (by first | exact rfl | assumption) (by assumption) (by assumption) (by k_room) (by k_units) (by decide) (by decide) (by omega) (fun t9 h9 tk9 F9 N9 => ?_)); (try dsimp only); (try k_fold)))
  (k_with "InvEndN" => k_dflt kst_close)
  k_go0
  all_goals try k_fold
  repeat' (first | (k_unfold; (try dsimp only)) | (k_end; kc_close) | walk1 | (dsimp only; walk1) | (leave1; walk_say "STEP leave1"; (try dsimp only)) | fail "no step"))
end
end Mine
set_option maxRecDepth 100000 in
set_option maxHeartbeats 8000000 in
theorem PySem.Challenge.cw_jy0006_01_holds : PySem.Challenge.rw_jy0006_01.Holds := by
  exact Mine.law_holds
