import PyProof.Rows.All
import Wide.All
import OpenK.AllK
import Wide.FinOn
import Lean
import PySem.Challenge.RW_fk5023_01
open PySem PySem.W PyProof.Rows PySem.Spec PySem.Calls
set_option Elab.async false
set_option maxRecDepth 100000
set_option maxHeartbeats 8000000
set_option linter.unusedVariables false
namespace Mine
open_top hd for PySem.Challenge.rw_fk5023_01
-- the walk's lines of the top are put off again
theorem calm : True := by
  w_top off
  exact True.intro
inductive Nd where
  | zero
  | var (m : Int)
  | mul (t : Nd) (k : Int)
  | div (t : Nd) (k : Int)
  | mod (t : Nd) (k : Int)
def Nd.mx : Nd → Int
  | .zero => 0
  | .var m => m
  | .mul t k => t.mx * k
  | .div t k => t.mx.fdiv k
  | .mod _ k => k - 1
def Nd.val (x : Int) : Nd → Int
  | .zero => 0
  | .var _ => x
  | .mul t k => t.val x * k
  | .div t k => (t.val x).fdiv k
  | .mod t k => (t.val x).fmod k
def Nd.sz : Nd → Nat
  | .zero => 0
  | .var _ => 0
  | .mul t _ => t.sz + 1
  | .div t _ => t.sz + 1
  | .mod t _ => t.sz + 1
def Nd.pr : Nd → Int
  | .zero => 1
  | .var _ => 1
  | .mul t k => t.pr * k
  | .div t k => t.pr * k
  | .mod t k => t.pr * k
def Nd.pl : Nd → Bool
  | .zero => true
  | .var _ => true
  | .mul t _ => t.pl
  | .div t _ => t.pl
  | .mod _ _ => false
def Nd.isMul : Nd → Bool
  | .mul _ _ => true
  | _ => false
def Nd.WF (M : Int) : Nd → Prop
  | .zero => True
  | .var m => m = M ∧ 1 ≤ m ∧ m ≤ 11
  | .mul t k => t.WF M ∧ t.isMul = false ∧ 1 ≤ t.mx ∧ 2 ≤ k
  | .div t k => t.WF M ∧ 2 ≤ k ∧ k ≤ t.mx
  | .mod t k => t.WF M ∧ 2 ≤ k ∧ k ≤ t.mx

theorem fd {a b : Int} (hb : 0 ≤ b) : a.fdiv b = a / b := Int.fdiv_eq_ediv_of_nonneg _ hb
theorem fm {a b : Int} (hb : 0 ≤ b) : a.fmod b = a % b := Int.fmod_eq_emod_of_nonneg _ hb

theorem WF.mx0 {M : Int} : ∀ {t : Nd}, t.WF M → 0 ≤ t.mx
  | .zero, _ => Int.le_refl 0
  | .var m, h => by have := h.2.1; simp only [Nd.mx]; omega
  | .mul t k, h => by simp only [Nd.mx]; exact Int.mul_nonneg (WF.mx0 h.1) (by have := h.2.2.2; omega)
  | .div t k, h => by simp only [Nd.mx]; rw [fd (by have := h.2.1; omega)]; exact Int.ediv_nonneg (WF.mx0 h.1) (by have := h.2.1; omega)
  | .mod t k, h => by have := h.2.1; simp only [Nd.mx]; omega

theorem WF.mx1 {M : Int} {t : Nd} (h : t.WF M) (hz : t ≠ .zero) : 1 ≤ t.mx := by
  cases t with
  | zero => exact absurd rfl hz
  | var m => exact h.2.1
  | mul t k =>
    simp only [Nd.mx]
    have h1 := h.2.2.1
    have h2 := h.2.2.2
    have : 1 * 1 ≤ t.mx * k := Int.mul_le_mul h1 (by omega) (by omega) (by omega)
    omega
  | div t k =>
    simp only [Nd.mx]
    have h1 := h.2.1
    have h2 := h.2.2
    rw [fd (by omega)]
    exact Int.le_ediv_of_mul_le (by omega) (by omega)
  | mod t k => have := h.2.1; simp only [Nd.mx]; omega

theorem WF.val {M x : Int} (hx : 0 ≤ x) (hM : x ≤ M) : ∀ {t : Nd}, t.WF M → 0 ≤ t.val x ∧ t.val x ≤ t.mx
  | .zero, _ => ⟨Int.le_refl 0, Int.le_refl 0⟩
  | .var m, h => by
    have := h.1
    simp only [Nd.val, Nd.mx]; omega
  | .mul t k, h => by
    obtain ⟨h1, h2⟩ := WF.val hx hM h.1
    have := h.2.2.2
    simp only [Nd.val, Nd.mx]
    exact ⟨Int.mul_nonneg h1 (by omega), Int.mul_le_mul_of_nonneg_right h2 (by omega)⟩
  | .div t k, h => by
    obtain ⟨h1, h2⟩ := WF.val hx hM h.1
    have := h.2.1
    simp only [Nd.val, Nd.mx]
    rw [fd (by omega), fd (by omega)]
    exact ⟨Int.ediv_nonneg h1 (by omega), Int.ediv_le_ediv (by omega) h2⟩
  | .mod t k, h => by
    have := h.2.1
    simp only [Nd.val, Nd.mx]
    rw [fm (by omega)]
    have h3 := Int.emod_lt_of_pos (t.val x) (show 0 < k by omega)
    exact ⟨Int.emod_nonneg _ (by omega), by omega⟩

theorem WF.pr1 {M : Int} : ∀ {t : Nd}, t.WF M → 1 ≤ t.pr
  | .zero, _ => Int.le_refl 1
  | .var m, h => Int.le_refl 1
  | .mul t k, h => by
    have h1 := WF.pr1 h.1
    have h2 := h.2.2.2
    simp only [Nd.pr]
    have : 1 * 1 ≤ t.pr * k := Int.mul_le_mul h1 (by omega) (by omega) (by omega)
    omega
  | .div t k, h => by
    have h1 := WF.pr1 h.1
    have h2 := h.2.1
    simp only [Nd.pr]
    have : 1 * 1 ≤ t.pr * k := Int.mul_le_mul h1 (by omega) (by omega) (by omega)
    omega
  | .mod t k, h => by
    have h1 := WF.pr1 h.1
    have h2 := h.2.1
    simp only [Nd.pr]
    have : 1 * 1 ≤ t.pr * k := Int.mul_le_mul h1 (by omega) (by omega) (by omega)
    omega

theorem le_mul1 {a k : Int} (ha : 0 ≤ a) (hk : 1 ≤ k) : a ≤ a * k := by
  have := Int.mul_le_mul_of_nonneg_left hk ha
  omega

/-- the greatest value is below eleven times the product of the constants -/
theorem WF.mxpr {M : Int} : ∀ {t : Nd}, t.WF M → t.mx ≤ 11 * t.pr
  | .zero, _ => by decide
  | .var m, h => by have := h.2.2; simp only [Nd.mx, Nd.pr]; omega
  | .mul t k, h => by
    have h1 := WF.mxpr h.1
    have h2 := h.2.2.2
    simp only [Nd.mx, Nd.pr]
    have := Int.mul_le_mul_of_nonneg_right h1 (show 0 ≤ k by omega)
    rw [← Int.mul_assoc]; exact this
  | .div t k, h => by
    have h1 := WF.mxpr h.1
    have h2 := h.2.1
    simp only [Nd.mx, Nd.pr]
    rw [fd (by omega)]
    have h3 := Int.ediv_le_self k (WF.mx0 h.1)
    have h4 := le_mul1 (k := k) (show 0 ≤ t.pr by have := WF.pr1 h.1; omega) (by omega)
    omega
  | .mod t k, h => by
    have h0 := WF.pr1 h.1
    have h1 := WF.mxpr h.1
    have h2 := h.2.1
    have h3 := h.2.2
    simp only [Nd.mx, Nd.pr]
    have h4 := le_mul1 (k := t.pr) (show 0 ≤ k by omega) (by omega)
    rw [Int.mul_comm] at h4
    omega

/-- a part's product is at most the whole's; so is its constant -/
theorem pr_part {a : Nd} {k : Int} {M : Int} (h : a.WF M) (hk : 2 ≤ k) : a.pr ≤ a.pr * k ∧ k ≤ a.pr * k := by
  have h1 := WF.pr1 h
  refine ⟨le_mul1 (by omega) (by omega), ?_⟩
  have := le_mul1 (k := a.pr) (show 0 ≤ k by omega) h1
  rw [Int.mul_comm] at this
  exact this

structure MulRes (M b : Int) (t t' : Nd) : Prop where
  wf : t'.WF M
  val : ∀ x, 0 ≤ x → x ≤ M → t'.val x = t.val x * b
  mx : t'.mx = t.mx * b
  sz : t'.sz ≤ t.sz + 1
  pr : ∀ c, b ≤ c → 1 ≤ c → t'.pr ≤ t.pr * c
  pl : t.pl = true → t'.pl = true
structure DivRes (M b : Int) (t t' : Nd) : Prop where
  wf : t'.WF M
  val : ∀ x, 0 ≤ x → x ≤ M → t'.val x = (t.val x).fdiv b
  mx : t.pl = true → t'.mx = t.mx.fdiv b
  sz : t'.sz ≤ t.sz + 1
  pr : t'.pr ≤ t.pr * b
  pl : t.pl = true → t'.pl = true
structure ModRes (M b : Int) (t t' : Nd) : Prop where
  wf : t'.WF M
  val : ∀ x, 0 ≤ x → x ≤ M → t'.val x = (t.val x).fmod b
  sz : t'.sz ≤ t.sz + 1
  pr : t'.pr ≤ t.pr * b

-- TIMES
theorem mulres_zero {M : Int} {t : Nd} (h : t.WF M) : MulRes M 0 t .zero where
  wf := trivial
  val := fun x _ _ => (Int.mul_zero _).symm
  mx := (Int.mul_zero _).symm
  sz := Nat.zero_le _
  pr := fun c _ h1 => by
    have := WF.pr1 h
    have := le_mul1 (k := c) (show 0 ≤ t.pr by omega) h1
    simp only [Nd.pr]; omega
  pl := fun _ => rfl
theorem mulres_zero' {M b : Int} : MulRes M b .zero .zero where
  wf := trivial
  val := fun x _ _ => (Int.zero_mul _).symm
  mx := (Int.zero_mul _).symm
  sz := Nat.zero_le _
  pr := fun c _ h1 => by simp only [Nd.pr]; omega
  pl := fun _ => rfl
theorem mulres_one {M : Int} {t : Nd} (h : t.WF M) : MulRes M 1 t t where
  wf := h
  val := fun x _ _ => (Int.mul_one _).symm
  mx := (Int.mul_one _).symm
  sz := Nat.le_succ _
  pr := fun c _ h1 => by
    have := WF.pr1 h
    exact le_mul1 (k := c) (show 0 ≤ t.pr by omega) h1
  pl := fun h => h
theorem mulres_mul {M b : Int} {t : Nd} (h : t.WF M) (hz : t ≠ .zero) (hm : t.isMul = false) (hb : 2 ≤ b) : MulRes M b t (.mul t b) where
  wf := ⟨h, hm, WF.mx1 h hz, hb⟩
  val := fun x _ _ => rfl
  mx := rfl
  sz := Nat.le_refl _
  pr := fun c h1 _ => by
    have := WF.pr1 h
    exact Int.mul_le_mul_of_nonneg_left h1 (by omega)
  pl := fun h => h
theorem mulres_into {M k b : Int} {a t' : Nd} (hk : 2 ≤ k) (ha : a.WF M) (hb : 0 ≤ b) (r : MulRes M (k * b) a t') : MulRes M b (.mul a k) t' where
  wf := r.wf
  val := fun x h0 h1 => by rw [r.val x h0 h1]; simp only [Nd.val]; rw [Int.mul_assoc]
  mx := by rw [r.mx]; simp only [Nd.mx]; rw [Int.mul_assoc]
  sz := by have := r.sz; simp only [Nd.sz]; omega
  pr := fun c h1 h2 => by
    have h3 := r.pr (k * c) (Int.mul_le_mul_of_nonneg_left h1 (by omega)) (by have := le_mul1 (k := c) (show 0 ≤ k by omega) h2; omega)
    simp only [Nd.pr]
    rw [Int.mul_assoc]; exact h3
  pl := r.pl

-- DIVIDED
theorem divres_one {M : Int} {t : Nd} (h : t.WF M) : DivRes M 1 t t where
  wf := h
  val := fun x _ _ => by rw [fd (by decide), Int.ediv_one]
  mx := fun _ => by rw [fd (by decide), Int.ediv_one]
  sz := Nat.le_succ _
  pr := by rw [Int.mul_one]; exact Int.le_refl _
  pl := fun h => h
theorem divres_small {M b : Int} {t : Nd} (h : t.WF M) (hb : 1 ≤ b) (hs : t.mx < b) : DivRes M b t .zero where
  wf := trivial
  val := fun x h0 h1 => by
    obtain ⟨h2, h3⟩ := WF.val h0 h1 h
    rw [fd (by omega), Int.ediv_eq_zero_of_lt h2 (by omega)]; rfl
  mx := fun _ => by rw [fd (by omega), Int.ediv_eq_zero_of_lt (WF.mx0 h) hs]; rfl
  sz := Nat.zero_le _
  pr := by
    have := WF.pr1 h
    have := le_mul1 (k := b) (show 0 ≤ t.pr by omega) hb
    simp only [Nd.pr]; omega
  pl := fun _ => rfl
theorem divres_div {M b : Int} {t : Nd} (h : t.WF M) (hb : 2 ≤ b) (hs : b ≤ t.mx) : DivRes M b t (.div t b) where
  wf := ⟨h, hb, hs⟩
  val := fun x _ _ => rfl
  mx := fun _ => rfl
  sz := Nat.le_refl _
  pr := Int.le_refl _
  pl := fun h => h
/-- (a * k) // b where b divides k -/
theorem divres_mulA {M k b : Int} {a t' : Nd} (hk : 2 ≤ k) (ha : a.WF M) (hb : 1 ≤ b) (hd : k.fmod b = 0) (r : MulRes M (k.fdiv b) a t') : DivRes M b (.mul a k) t' := by
  rw [fm (by omega)] at hd
  rw [fd (by omega)] at r
  obtain ⟨c, hc⟩ := Int.dvd_of_emod_eq_zero hd
  have hkc : k / b = c := by rw [hc, Int.mul_ediv_cancel_left _ (by omega)]
  rw [hkc] at r
  have key : ∀ v : Int, (v * k).fdiv b = v * c := fun v => by
    rw [fd (by omega), hc, ← Int.mul_assoc, Int.mul_comm v b, Int.mul_assoc, Int.mul_ediv_cancel_left _ (by omega)]
  have hc1 : 1 ≤ c := by
    rcases Int.lt_or_le c 1 with h | h
    · have : b * c ≤ b * 0 := Int.mul_le_mul_of_nonneg_left (by omega) (by omega)
      omega
    · exact h
  have hck : c ≤ k := by
    rw [hc, Int.mul_comm]
    exact le_mul1 (by omega) hb
  refine ⟨r.wf, fun x h0 h1 => ?_, fun _ => ?_, ?_, ?_, r.pl⟩
  · rw [r.val x h0 h1]; simp only [Nd.val]; rw [key]
  · rw [r.mx]; simp only [Nd.mx]; rw [key]
  · have := r.sz; simp only [Nd.sz]; omega
  · have h1 := r.pr c (Int.le_refl _) hc1
    simp only [Nd.pr]
    have hp := WF.pr1 ha
    have h2 : a.pr * c ≤ a.pr * k := Int.mul_le_mul_of_nonneg_left hck (by omega)
    have h3 := le_mul1 (k := b) (show 0 ≤ a.pr * k from Int.mul_nonneg (by omega) (by omega)) hb
    omega
/-- (a * k) // b where k divides b -/
theorem divres_mulB {M k b : Int} {a t' : Nd} (hk : 2 ≤ k) (ha : a.WF M) (hb : 1 ≤ b) (hd : b.fmod k = 0) (r : DivRes M (b.fdiv k) a t') : DivRes M b (.mul a k) t' := by
  rw [fm (by omega)] at hd
  rw [fd (by omega)] at r
  obtain ⟨c, hc⟩ := Int.dvd_of_emod_eq_zero hd
  have hkc : b / k = c := by rw [hc, Int.mul_ediv_cancel_left _ (by omega)]
  rw [hkc] at r
  have hc1 : 1 ≤ c := by
    rcases Int.lt_or_le c 1 with h | h
    · have : k * c ≤ k * 0 := Int.mul_le_mul_of_nonneg_left (by omega) (by omega)
      omega
    · exact h
  have key : ∀ v : Int, (v * k).fdiv b = v.fdiv c := fun v => by
    rw [fd (by omega), fd (by omega), hc, Int.mul_comm v k, Int.mul_ediv_mul_of_pos _ _ (by omega)]
  refine ⟨r.wf, fun x h0 h1 => ?_, fun hp => ?_, ?_, ?_, r.pl⟩
  · rw [r.val x h0 h1]; simp only [Nd.val]; rw [key]
  · rw [r.mx hp]; simp only [Nd.mx]; rw [key]
  · have := r.sz; simp only [Nd.sz]; omega
  · have h1 := r.pr
    simp only [Nd.pr]
    have hp := WF.pr1 ha
    have hcb : c ≤ b := by rw [hc, Int.mul_comm]; exact le_mul1 (by omega) (by omega)
    have h2 : a.pr * c ≤ a.pr * b := Int.mul_le_mul_of_nonneg_left hcb (by omega)
    have h3 : a.pr * b ≤ a.pr * k * b := Int.mul_le_mul_of_nonneg_right (le_mul1 (by omega) (by omega)) (by omega)
    omega
/-- (a // k) // b -/
theorem divres_div2 {M k b : Int} {a t' : Nd} (hk : 2 ≤ k) (hb : 1 ≤ b) (r : DivRes M (k * b) a t') : DivRes M b (.div a k) t' := by
  have key : ∀ v : Int, v.fdiv (k * b) = (v.fdiv k).fdiv b := fun v => by
    rw [fd (Int.mul_nonneg (by omega) (by omega)), fd (by omega), fd (by omega), Int.ediv_ediv_of_nonneg (by omega)]
  refine ⟨r.wf, fun x h0 h1 => ?_, fun hp => ?_, ?_, ?_, r.pl⟩
  · rw [r.val x h0 h1]; simp only [Nd.val]; rw [key]
  · rw [r.mx hp]; simp only [Nd.mx]; rw [key]
  · have := r.sz; simp only [Nd.sz]; omega
  · have h1 := r.pr
    simp only [Nd.pr]
    rw [Int.mul_assoc]; exact h1
/-- (a % k) // b where b divides k: (a // b) % (k // b) -/
theorem divres_mod {M k b : Int} {a t₁ t' : Nd} (hk : 2 ≤ k) (ha : a.WF M) (hb : 1 ≤ b) (hd : k.fmod b = 0) (r₁ : DivRes M b a t₁) (r : ModRes M (k.fdiv b) t₁ t') : DivRes M b (.mod a k) t' := by
  rw [fm (by omega)] at hd
  rw [fd (by omega)] at r
  obtain ⟨c, hc⟩ := Int.dvd_of_emod_eq_zero hd
  have hkc : k / b = c := by rw [hc, Int.mul_ediv_cancel_left _ (by omega)]
  rw [hkc] at r
  have hc1 : 1 ≤ c := by
    rcases Int.lt_or_le c 1 with h | h
    · have : b * c ≤ b * 0 := Int.mul_le_mul_of_nonneg_left (by omega) (by omega)
      omega
    · exact h
  have key : ∀ v : Int, 0 ≤ v → (v.fdiv b).fmod c = (v.fmod k).fdiv b := fun v hv => by
    rw [fd (by omega), fm (by omega), fm (by omega), fd (by omega), hc]
    -- v = b q + s, q = c p + r
    have e1 := Int.mul_ediv_add_emod v b
    have e2 := Int.mul_ediv_add_emod (v / b) c
    have s0 := Int.emod_nonneg v (show b ≠ 0 by omega)
    have s1 := Int.emod_lt_of_pos v (show 0 < b by omega)
    have q0 := Int.emod_nonneg (v / b) (show c ≠ 0 by omega)
    have q1 := Int.emod_lt_of_pos (v / b) (show 0 < c by omega)
    have hle : b * ((v / b) % c) + v % b < b * c := by
      have : b * ((v / b) % c) ≤ b * (c - 1) := Int.mul_le_mul_of_nonneg_left (by omega) (by omega)
      rw [Int.mul_sub, Int.mul_one] at this
      omega
    have hm : v % (b * c) = b * ((v / b) % c) + v % b := by
      have e3 : v = (b * ((v / b) % c) + v % b) + (b * c) * (v / b / c) := by
        have e4 : b * (v / b) = b * (c * (v / b / c)) + b * ((v / b) % c) := by rw [← Int.mul_add, e2]
        rw [Int.mul_assoc]
        omega
      have h5 : ((b * ((v / b) % c) + v % b) + (b * c) * (v / b / c)) % (b * c) = b * ((v / b) % c) + v % b := by
        rw [Int.add_mul_emod_self_left]
        exact Int.emod_eq_of_lt (by have := Int.mul_nonneg (show 0 ≤ b by omega) q0; omega) hle
      rw [← e3] at h5
      exact h5
    rw [hm]
    rw [Int.add_comm, Int.add_mul_ediv_left _ _ (by omega), Int.ediv_eq_zero_of_lt s0 s1, Int.zero_add]
  refine ⟨r.wf, fun x h0 h1 => ?_, fun hp => (by cases hp), ?_, ?_, fun hp => (by cases hp)⟩
  · rw [r.val x h0 h1, r₁.val x h0 h1]; simp only [Nd.val]; exact key _ (WF.val h0 h1 ha).1
  · have h1 := r.sz; have h2 := r₁.sz; simp only [Nd.sz]; omega
  · have h1 := r.pr
    have h2 := r₁.pr
    simp only [Nd.pr]
    have h3 : t₁.pr * c ≤ a.pr * b * c := Int.mul_le_mul_of_nonneg_right h2 (by omega)
    rw [Int.mul_assoc, ← hc] at h3
    have hp := WF.pr1 ha
    have h4 := le_mul1 (k := b) (show 0 ≤ a.pr * k from Int.mul_nonneg (by omega) (by omega)) hb
    omega

-- THE REST
theorem modres_one {M : Int} {t : Nd} (h : t.WF M) : ModRes M 1 t .zero where
  wf := trivial
  val := fun x _ _ => by rw [fm (by decide), Int.emod_one]; rfl
  sz := Nat.zero_le _
  pr := by have := WF.pr1 h; simp only [Nd.pr]; omega
theorem modres_small {M b : Int} {t : Nd} (h : t.WF M) (hb : 1 ≤ b) (hs : t.mx < b) : ModRes M b t t where
  wf := h
  val := fun x h0 h1 => by
    obtain ⟨h2, h3⟩ := WF.val h0 h1 h
    rw [fm (by omega), Int.emod_eq_of_lt h2 (by omega)]
  sz := Nat.le_succ _
  pr := le_mul1 (by have := WF.pr1 h; omega) hb
theorem modres_mod {M b : Int} {t : Nd} (h : t.WF M) (hb : 2 ≤ b) (hs : b ≤ t.mx) : ModRes M b t (.mod t b) where
  wf := ⟨h, hb, hs⟩
  val := fun x _ _ => rfl
  sz := Nat.le_refl _
  pr := Int.le_refl _
/-- (a * k) % b by (a * (k % b)) % b -/
theorem modres_mul {M k b : Int} {a t₁ t' : Nd} (hk : 2 ≤ k) (ha : a.WF M) (hb : 1 ≤ b) (r₁ : MulRes M (k.fmod b) a t₁) (hs : t'.sz ≤ t₁.sz + 1) (r : ModRes M b t₁ t') : ModRes M b (.mul a k) t' := by
  rw [fm (by omega)] at r₁
  have h0 := Int.emod_nonneg k (show b ≠ 0 by omega)
  refine ⟨r.wf, fun x h0 h1 => ?_, ?_, ?_⟩
  · rw [r.val x h0 h1, r₁.val x h0 h1]; simp only [Nd.val]
    rw [fm (by omega), fm (by omega), Int.mul_emod, Int.emod_emod, ← Int.mul_emod]
  · have h2 := r₁.sz; simp only [Nd.sz]; omega
  · have h1 := r.pr
    have hkb : k % b ≤ k := by
      have := Int.emod_lt_of_pos k (show 0 < b by omega)
      rcases Int.lt_or_le k b with h | h
      · rw [Int.emod_eq_of_lt (by omega) h]; exact Int.le_refl _
      · omega
    have h2 := r₁.pr k hkb (by omega)
    simp only [Nd.pr]
    have h3 : t₁.pr * b ≤ a.pr * k * b := Int.mul_le_mul_of_nonneg_right h2 (by omega)
    omega
/-- (a % k) % b where b divides k -/
theorem modres_mod2 {M k b : Int} {a t' : Nd} (hk : 2 ≤ k) (ha : a.WF M) (hb : 1 ≤ b) (hd : k.fmod b = 0) (r : ModRes M b a t') : ModRes M b (.mod a k) t' := by
  rw [fm (by omega)] at hd
  refine ⟨r.wf, fun x h0 h1 => ?_, ?_, ?_⟩
  · rw [r.val x h0 h1]; simp only [Nd.val]
    rw [fm (by omega), fm (by omega), fm (by omega), Int.emod_emod_of_dvd _ (Int.dvd_of_emod_eq_zero hd)]
  · have := r.sz; simp only [Nd.sz]; omega
  · have h1 := r.pr
    simp only [Nd.pr]
    have hp := WF.pr1 ha
    have : a.pr * b ≤ a.pr * k * b := Int.mul_le_mul_of_nonneg_right (le_mul1 (by omega) (by omega)) (by omega)
    omega
theorem fdiv_exact {k b : Int} (hk : 2 ≤ k) (hb : 1 ≤ b) (h : k.fmod b = 0) : 1 ≤ k.fdiv b ∧ b * k.fdiv b = k := by
  rw [fm (by omega)] at h
  rw [fd (by omega)]
  have e := Int.mul_ediv_add_emod k b
  rw [h, Int.add_zero] at e
  refine ⟨?_, e⟩
  rcases Int.lt_or_le (k / b) 1 with h1 | h1
  · have : b * (k / b) ≤ b * 0 := Int.mul_le_mul_of_nonneg_left (by omega) (by omega)
    omega
  · exact h1
abbrev ent (P : Params) (x : String) (t : Tok) (v : Value) : DictEntry := ⟨PyData.keyHash P (PySem.Str.ofString x), .str (PySem.Str.ofString x) t, v⟩
/-- the node t as the ledger bears it at v -/
inductive NodeIn (P : Params) (news : List (Addr × Obj)) : Value → Nd → Prop where
  | zero {x dx : Addr} {k1 k2 k3 t1 t2 t3 : Tok} {b lo hi : Int} : b = 0 → lo = 0 → hi = 0 → (x, instObj 352 dx) ∈ news →
      (dx, dictOf [⟨PyData.keyHash P (PySem.Str.ofString "b"), .str (PySem.Str.ofString "b") k1, .int b t1⟩, ⟨PyData.keyHash P (PySem.Str.ofString "min"), .str (PySem.Str.ofString "min") k2, .int lo t2⟩, ⟨PyData.keyHash P (PySem.Str.ofString "max"), .str (PySem.Str.ofString "max") k3, .int hi t3⟩] 3) ∈ news →
      NodeIn P news (.ref x) .zero
  | var {x dx : Addr} {k1 k2 k3 k4 t1 t2 t3 : Tok} {lo hi m : Int} : lo = 0 → hi = m → (x, instObj 298 dx) ∈ news →
      (dx, dictOf [⟨PyData.keyHash P (PySem.Str.ofString "expr"), .str (PySem.Str.ofString "expr") k1, .str (PySem.Str.ofString "x") t1⟩, ⟨PyData.keyHash P (PySem.Str.ofString "min"), .str (PySem.Str.ofString "min") k2, .int lo t2⟩, ⟨PyData.keyHash P (PySem.Str.ofString "max"), .str (PySem.Str.ofString "max") k3, .int hi t3⟩, ⟨PyData.keyHash P (PySem.Str.ofString "_val"), .str (PySem.Str.ofString "_val") k4, .none⟩] 4) ∈ news →
      NodeIn P news (.ref x) (.var m)
  | mul {x dx : Addr} {k1 k2 k3 k4 t1 t2 t3 : Tok} {lo hi k kk : Int} {v : Value} {t : Nd} : k = kk → lo = 0 → hi = t.mx * kk → NodeIn P news v t → (x, instObj 473 dx) ∈ news →
      (dx, dictOf [⟨PyData.keyHash P (PySem.Str.ofString "a"), .str (PySem.Str.ofString "a") k1, v⟩, ⟨PyData.keyHash P (PySem.Str.ofString "b"), .str (PySem.Str.ofString "b") k2, .int k t1⟩, ⟨PyData.keyHash P (PySem.Str.ofString "min"), .str (PySem.Str.ofString "min") k3, .int lo t2⟩, ⟨PyData.keyHash P (PySem.Str.ofString "max"), .str (PySem.Str.ofString "max") k4, .int hi t3⟩] 4) ∈ news →
      NodeIn P news (.ref x) (.mul t kk)
  | div {x dx : Addr} {k1 k2 k3 k4 t1 t2 t3 : Tok} {lo hi k kk : Int} {v : Value} {t : Nd} : k = kk → lo = 0 → hi = t.mx.fdiv kk → NodeIn P news v t → (x, instObj 507 dx) ∈ news →
      (dx, dictOf [⟨PyData.keyHash P (PySem.Str.ofString "a"), .str (PySem.Str.ofString "a") k1, v⟩, ⟨PyData.keyHash P (PySem.Str.ofString "b"), .str (PySem.Str.ofString "b") k2, .int k t1⟩, ⟨PyData.keyHash P (PySem.Str.ofString "min"), .str (PySem.Str.ofString "min") k3, .int lo t2⟩, ⟨PyData.keyHash P (PySem.Str.ofString "max"), .str (PySem.Str.ofString "max") k4, .int hi t3⟩] 4) ∈ news →
      NodeIn P news (.ref x) (.div t kk)
  | mod {x dx : Addr} {k1 k2 k3 k4 t1 t2 t3 : Tok} {lo hi k kk : Int} {v : Value} {t : Nd} : k = kk → lo = 0 → hi = kk - 1 → NodeIn P news v t → (x, instObj 548 dx) ∈ news →
      (dx, dictOf [⟨PyData.keyHash P (PySem.Str.ofString "a"), .str (PySem.Str.ofString "a") k1, v⟩, ⟨PyData.keyHash P (PySem.Str.ofString "b"), .str (PySem.Str.ofString "b") k2, .int k t1⟩, ⟨PyData.keyHash P (PySem.Str.ofString "min"), .str (PySem.Str.ofString "min") k3, .int lo t2⟩, ⟨PyData.keyHash P (PySem.Str.ofString "max"), .str (PySem.Str.ofString "max") k4, .int hi t3⟩] 4) ∈ news →
      NodeIn P news (.ref x) (.mod t kk)
theorem NodeIn.mono {P : Params} {news news' : List (Addr × Obj)} {v : Value} {t : Nd} (h : NodeIn P news v t) (hs : ∀ p ∈ news, p ∈ news') : NodeIn P news' v t := by
  induction h with
  | zero h1 h2 h3 h4 h5 => exact .zero h1 h2 h3 (hs _ h4) (hs _ h5)
  | var h1 h2 h4 h5 => exact .var h1 h2 (hs _ h4) (hs _ h5)
  | mul h1 h2 h3 _ h4 h5 ih => exact .mul h1 h2 h3 ih (hs _ h4) (hs _ h5)
  | div h1 h2 h3 _ h4 h5 ih => exact .div h1 h2 h3 ih (hs _ h4) (hs _ h5)
  | mod h1 h2 h3 _ h4 h5 ih => exact .mod h1 h2 h3 ih (hs _ h4) (hs _ h5)
theorem NodeIn.isRef {P : Params} {news : List (Addr × Obj)} {v : Value} {t : Nd} (h : NodeIn P news v t) : ∃ x, v = .ref x := by
  cases h <;> exact ⟨_, rfl⟩
/-- what a step on a node hands back: a node, in a ledger that has grown -/
def Ret1 (w : World) (news : List (Addr × Obj)) (h₀ : Heap) (L : Addr) (m : Str → Option Value) (s : Shared) (Q : Value → Shared → Prop) (R : Nd → Prop) : Prop :=
  ∀ (r : Addr) (t' : Nd) (new : List (Addr × Obj)) (h' : Heap) (tk' : Nat), NodeIn w.params (new ++ news) (.ref r) t' → R t' → Fr h₀ L h' m → News h₀ L h' (new ++ news) → Q (.ref r) { s with heap := h', toks := tk' }
theorem Ret1.fin {w : World} {news L1 : List (Addr × Obj)} {h₀ h' : Heap} {L r : Addr} {m : Str → Option Value} {s : Shared} {Q : Value → Shared → Prop} {R : Nd → Prop} {t' : Nd} {tk' : Nat} (ret : Ret1 w news h₀ L m s Q R) (hR : R t')
    (F : Fr h₀ L h' m) (N : News h₀ L h' L1) (hs : ∀ p ∈ news, p ∈ L1) (H : NodeIn w.params L1 (.ref r) t') : Q (.ref r) { s with heap := h', toks := tk' } :=
  ret r t' L1 h' tk' (H.mono fun _ h => List.mem_append_left _ h) hR F fun p hp => (List.mem_append.mp hp).elim (N p) fun h => N p (hs p h)
/-- a step on a node: what comes back is a node again -/
def Tells1 (prog : Program) (w : World) (p : Program) (loose : List Str) (mean : ExcName → Option Value) (mg mb : Str → Option Value) (c : Value → Sem Value) (t : Nd) (lim : Nat) (R : Nd → Prop) : Prop :=
  ∀ (dp un : Nat) (gd : Option (List Code)) (cn : Str) (cs : Scope) (a : Addr) (ccd : Value) (cl : List (Str × Addr)) (outer : List Env) (A₀ : Around) (base h₀ : Heap) (L : Addr) (m : Str → Option Value) (news : List (Addr × Obj)) (s : Shared) (x : Addr)
    (Q E : Value → Shared → Prop),
    Below A₀ base outer h₀ → Fr h₀ L s.heap m → (Mine.hd.heap_39 w.params).In h₀ → News h₀ L s.heap news → Top p loose mean mg mb h₀ → cs.kind = .function → NodeIn w.params news (.ref x) t → dp + lim < recursionLimit → un + 8 * lim < cLine →
    Ret1 w news h₀ L m s Q R →
    wpAny (model prog w) (ktrTop dp un gd cn cs L a ccd cl outer) (c (.ref x)) Q E s
section
variable {prog : Program} {w : World} {p : Program} {loose : List Str} {mean : ExcName → Option Value} {mg mb : Str → Option Value} {dp un : Nat} {gd : Option (List Code)} {cn : Str} {cs : Scope} {a : Addr} {ccd : Value} {cl : List (Str × Addr)} {outer : List Env} {A₀ : Around} {base h₀ : Heap} {L : Addr} {m : Str → Option Value} {news : List (Addr × Obj)} {s : Shared} {x : Addr} {Q E : Value → Shared → Prop} {c : Value → Sem Value} {t : Nd} {lim : Nat} {R : Nd → Prop}
theorem tells1_use (C : Tells1 prog w p loose mean mg mb c t lim R) (B : Below A₀ base outer h₀) (F : Fr h₀ L s.heap m) (X : (Mine.hd.heap_39 w.params).In h₀) (N : News h₀ L s.heap news) (T : Top p loose mean mg mb h₀) (hk : cs.kind = .function) (H : NodeIn w.params news (.ref x) t)
    (hd : dp + lim < recursionLimit) (hu : un + 8 * lim < cLine)
    (ret : ∀ (r : Addr) t' new h' tk', NodeIn w.params (new ++ news) (.ref r) t' → R t' → Fr h₀ L h' m → News h₀ L h' (new ++ news) → Q (.ref r) { s with heap := h', toks := tk' }) :
    wpAny (model prog w) (ktrTop dp un gd cn cs L a ccd cl outer) (c (.ref x)) Q E s := C _ _ _ _ _ _ _ _ _ _ _ _ _ _ _ _ _ _ _ B F X N T hk H hd hu ret
end
section
variable {prog : Program} {w : World} {A : Around} {E : Value → Shared → Prop} {s : Shared} {h₀ : Heap} {L D : Addr} {m : Str → Option Value} {news news' : List (Addr × Obj)}
theorem pop0 {n : Nat} {u : Tok} {v : Value} {r : List Value} {Q : Value → Shared → Prop} (F : Fr h₀ L s.heap m) (N : News h₀ L s.heap news) (U : Upd D (listOf (v :: r).toArray n) (listOf r.toArray (n + 1)) news news')
    (hz : r.length ≤ 1000) (h : ∀ h', Fr h₀ L h' m → News h₀ L h' news' → Q v { s with heap := h' }) : wpAny (model prog w) A (call (.builtin "list.pop") [.ref D, .int 0 u]) Q E s := by
  refine kl_popAt (k := 0) (p := []) (q := r) (y := v) F N rfl ?_ ?_ U ?_ h
  · simp [seqIndex?]
  · rfl
  · simp only [List.length_cons, sizeLine]; omega
theorem truthy_cons {n : Nat} {v : Value} {r : List Value} {Q : Bool → Shared → Prop} (N : News h₀ L s.heap news) (hm : (D, listOf (v :: r).toArray n) ∈ news) (hz : r.length ≤ 1000) (h : Q true { s with toks := s.toks + 1 + 1 }) :
    wpAny (model prog w) A (truthy (.ref D)) Q E s := by
  have hl : s.heap.IsList D (v :: r).toArray := ⟨_, (N _ hm).1, rfl, n, rfl⟩
  refine wpAny_truthy_list hl (by rw [List.size_toArray, List.length_cons]; omega) ?_
  have e : (!(v :: r).toArray.isEmpty) = true := by simp
  rw [e]; exact h
end
theorem compEnd_same {h₀ : Heap} {L I C D : Addr} {m : Str → Option Value} {s₁ : Shared} {oI oC oD : Obj} {S : List (Addr × Obj) → Prop} {rest : Value → List (Addr × Obj) → Prop} {y : Value} {h' : Heap} {tk : Nat} {news' : List (Addr × Obj)}
    (F : Fr h₀ L h' m) (N : News h₀ L h' ((I, oI) :: (C, oC) :: (D, oD) :: news')) (off : LCg.Off3 I C D news') (hS : S news') (r : rest y news') :
    LCg.CompEnd h₀ L m s₁ I oI C oC D oD S rest y { s₁ with heap := h', toks := tk } := LCg.CompEnd.intro F N news' (fun _ h => h) off hS r
theorem pyl {x y : Int} (h0 : 0 ≤ y) (h : y < 1000000000000000000) : Builtin.divisionGoesByPylong x y = false := by
  refine PyProof.noPylong_of_log2 ?_
  by_cases h1 : y.natAbs = 0
  · rw [h1]; decide +kernel
  · have h2 : y.natAbs.log2 < 60 := (Nat.log2_lt h1).mpr (by omega)
    omega
theorem Tells1.more {prog : Program} {w : World} {p : Program} {loose : List Str} {mean : ExcName → Option Value} {mg mb : Str → Option Value} {c : Value → Sem Value} {t : Nd} {lim lim' : Nat} {R : Nd → Prop} (h : Tells1 prog w p loose mean mg mb c t lim R) (hl : lim ≤ lim') :
    Tells1 prog w p loose mean mg mb c t lim' R := by
  intro dp un gd cn cs a ccd cl outer A₀ base h₀ L m news s x Q E B F X N T hk H hd hu ret
  exact h dp un gd cn cs a ccd cl outer A₀ base h₀ L m news s x Q E B F X N T hk H (by omega) (by omega) ret
theorem newsSub {h₀ h : Heap} {L : Addr} {l1 l2 : List (Addr × Obj)} (N : News h₀ L h l1) (hs : ∀ p ∈ l2, p ∈ l1) : News h₀ L h l2 := fun p hp => N p (hs p hp)
theorem off1_ne {D : Addr} : ∀ {l : List (Addr × Obj)}, LCg.Off1 D l → ∀ p ∈ l, p.1 ≠ D
  | [], _, _, h => nomatch h
  | _ :: _, x, p, h => by
    rcases List.mem_cons.mp h with rfl | h
    · exact x.1
    · exact off1_ne x.2 p h
section
variable {prog : Program} {w : World} {A : Around} {E : Value → Shared → Prop} {s : Shared} {env : Env} {h₀ : Heap} {x : Str} {body : List Stmt} {Q : Flow → Shared → Prop}
/-- a turn's end of a loop over a range: the iterator stands as it stood, the word holds -/
def GEnd (h₀ : Heap) (L : Addr) (J : (Str → Option Value) → List (Addr × Obj) → Prop) (I : Addr) (oI : Obj) (s₁ s₂ : Shared) : Prop :=
  ∃ h' tk m' nx, s₂ = { s₁ with heap := h', toks := tk } ∧ Fr h₀ L h' m' ∧ News h₀ L h' ((I, oI) :: nx) ∧ (∀ p ∈ nx, p.1 ≠ I) ∧ J m' nx
def GPost (h₀ : Heap) (L : Addr) (J : (Str → Option Value) → List (Addr × Obj) → Prop) (I : Addr) (oI : Obj) (s₁ : Shared) (Q : Flow → Shared → Prop) (f : Flow) (s₂ : Shared) : Prop :=
  match f with
  | .ret v => Q (.ret v) s₂
  | .brk => Q .next s₂
  | _ => GEnd h₀ L J I oI s₁ s₂
theorem range_invG {r : Addr} {a₀ b₀ : Int} {t₀ u₀ v₀ : Tok} {n : Nat} {m₀ : Str → Option Value} {news : List (Addr × Obj)} (J : Nat → (Str → Option Value) → List (Addr × Obj) → Prop)
    (hh : A.handled = none) (hr : IsRange s.heap r a₀ b₀ 1 t₀ u₀ v₀) (hsmall : Builtin.Range.small a₀ b₀ 1 = true) (hn : Builtin.Range.rangeSize a₀ b₀ 1 = (n : Int)) (F : Fr h₀ env.locals s.heap m₀) (N : News h₀ env.locals s.heap news) (hj : J 0 m₀ news)
    (turn : ∀ i k t m₁ nx h tk I oI, i < n → (∃ vs, oI.data = .fields vs) → (∀ p ∈ nx, p.1 ≠ I) → J i m₁ nx → Fr h₀ env.locals h (fun y => if y = x then some (.int k t) else m₁ y) → News h₀ env.locals h ((I, oI) :: nx) →
      wpAny (model prog w) A (execs body env) (GPost h₀ env.locals (J (i + 1)) I oI { s with heap := h, toks := tk } Q) E { s with heap := h, toks := tk })
    (done : ∀ m₁ nx h tk, J n m₁ nx → Fr h₀ env.locals h m₁ → News h₀ env.locals h nx → Q .next { s with heap := h, toks := tk }) :
    wpAny (model prog w) A (pyIter (.ref r)) (fun it s₂ => LoopAtV prog w A h₀ env x body Q E it s₂) E s := by
  refine wpAny_pyIter_range hr hsmall ?_
  have W : Walks prog w A s.heap.objs.size [s.heap.objs.size] [s.heap.objs.size] n (fun i v => ∃ t, v = .int (a₀ + i * 1) t)
      (fun i h => IsRangeIter h s.heap.objs.size (a₀ + (i : Nat) * 1) ((n : Int) - (i : Nat)) 1) := Walks.range hh _ a₀ 1 n
  refine ⟨_, _, _, n, _, _, m₀, news, J, rfl, W, ?_, ?_, ?_, (by show IsRangeIter _ _ _ _ _; rw [hn]; simpa using Heap.get?_push_size _ rfl), F.push _, (fun p hp => ⟨Heap.get?_push_of_some _ (N p hp).1, (N p hp).2⟩), hj, ?_, ?_⟩
  · intro hm
    exact absurd F.ns.lt ((List.mem_singleton.mp hm) ▸ Nat.lt_irrefl _)
  · intro b hb
    rw [List.mem_singleton.mp hb]
    exact next_is_new F
  · intro p hp hI
    exact absurd (Heap.lt_size (N p hp).1) ((List.mem_singleton.mp hI) ▸ Nat.lt_irrefl _)
  · rintro i v m₁ news₁ s₁ own ⟨hh', tk', rfl⟩ hin ⟨t, rfl⟩ hJ hoff hown hget hmem hst F₁ N₁
    obtain ⟨oI, hst', hoI⟩ : ∃ o, hh'.get? s.heap.objs.size = some o ∧ ∃ vs, o.data = .fields vs := ⟨_, hst, _, rfl⟩
    have hI := hmem _ (.head _) (next_is_new F) _ hst'
    have hsep : ∀ p ∈ news₁, p.1 ≠ s.heap.objs.size := fun p hp e => hoff p hp (List.mem_singleton.mpr e)
    refine wpAny_mono (turn i _ t m₁ news₁ hh' tk' s.heap.objs.size oI hin hoI hsep hJ F₁ (fun p hp => ?_)) (fun f s₂ p => ?_) fun _ _ e => e
    · rcases List.mem_cons.mp hp with rfl | hp
      · exact N₁ _ (List.mem_append.mpr (.inl hI))
      · exact N₁ _ (List.mem_append.mpr (.inr hp))
    have fin : GEnd h₀ env.locals (J (i + 1)) s.heap.objs.size oI { s with heap := hh', toks := tk' } s₂ → LoopStepU h₀ env.locals [s.heap.objs.size] own (J (i + 1)) { s with heap := hh', toks := tk' } .next s₂ := by
      rintro ⟨h', tk, m', nx, e, F', N', ha, hm⟩
      refine ⟨rfl, h', tk, m', nx, e, F', fun p hp => ?_, fun p hp hq => ha p hp (List.mem_singleton.mp hq), hm⟩
      rcases List.mem_append.mp hp with hp | hp
      · have e1 := List.mem_singleton.mp (hown p hp)
        have e2 := hget p hp
        have e3 : p = (s.heap.objs.size, oI) := Prod.ext e1 (by rw [e1] at e2; dsimp only at e2; rw [hst'] at e2; exact (Option.some.inj e2).symm)
        rw [e3]
        exact N' _ (.head _)
      · exact N' _ (.tail _ hp)
    cases f with
    | ret v => exact .ret p
    | brk => exact .brk p
    | next => exact .next (fin p)
    | cont => exact .cont (fin p)
  · rintro h' tk m' news' F' N' _ hJ
    exact done m' news' h' tk hJ F' N'
end
/-- what a list of addresses bars -/
def keepOff (bad : List Addr) (l : List (Addr × Obj)) : List (Addr × Obj) := l.filter fun p => !bad.contains p.1
theorem keepOff_ne {bad : List Addr} {l : List (Addr × Obj)} {b : Addr} (hb : b ∈ bad) : ∀ p ∈ keepOff bad l, p.1 ≠ b := by
  intro p hp e
  have h := (List.mem_filter.mp hp).2
  rw [e] at h
  simp [hb] at h
theorem keepOff_sub {bad : List Addr} {l : List (Addr × Obj)} : ∀ p ∈ keepOff bad l, p ∈ l := fun _ hp => (List.mem_filter.mp hp).1
theorem keepOff_mem {bad : List Addr} {l : List (Addr × Obj)} {p : Addr × Obj} (h : p ∈ l) (hn : p.1 ∉ bad) : p ∈ keepOff bad l := List.mem_filter.mpr ⟨h, by simp [hn]⟩
/-- no barred object is a node's -/
def BadAll (l : List (Addr × Obj)) (bad : List Addr) : Prop := ∀ b ∈ bad, ∃ o, (b, o) ∈ l ∧ o.data ≠ .plain ∧ ∀ es n, o.data ≠ .dict es n
theorem BadAll.not {h₀ h : Heap} {L : Addr} {l : List (Addr × Obj)} {bad : List Addr} {a : Addr} {o : Obj} (N : News h₀ L h l) (B : BadAll l bad) (hm : (a, o) ∈ l) (ho : o.data = .plain ∨ ∃ es n, o.data = .dict es n) : a ∉ bad := by
  intro hb
  obtain ⟨o', h1, h2, h3⟩ := B a hb
  have e1 := (N _ hm).1
  have e2 := (N _ h1).1
  rw [e1] at e2
  cases e2
  rcases ho with hC | ⟨es, n, hd⟩
  · exact h2 hC
  · exact h3 es n hd
theorem NodeIn.off {P : Params} {h₀ h : Heap} {L : Addr} {l : List (Addr × Obj)} {bad : List Addr} {v : Value} {t : Nd} (N : News h₀ L h l) (B : BadAll l bad) (H : NodeIn P l v t) : NodeIn P (keepOff bad l) v t := by
  have f1 : ∀ {a C dx : Addr}, (a, instObj C dx) ∈ l → (a, instObj C dx) ∈ keepOff bad l := fun hm => keepOff_mem hm (B.not N hm (.inl rfl))
  have f2 : ∀ {a : Addr} {es : List DictEntry} {n : Nat}, (a, dictOf es n) ∈ l → (a, dictOf es n) ∈ keepOff bad l := fun hm => keepOff_mem hm (B.not N hm (.inr ⟨_, _, rfl⟩))
  induction H with
  | zero h1 h2 h3 h4 h5 => exact .zero h1 h2 h3 (f1 h4) (f2 h5)
  | var h1 h2 h4 h5 => exact .var h1 h2 (f1 h4) (f2 h5)
  | mul h1 h2 h3 _ h4 h5 ih => exact .mul h1 h2 h3 ih (f1 h4) (f2 h5)
  | div h1 h2 h3 _ h4 h5 ih => exact .div h1 h2 h3 ih (f1 h4) (f2 h5)
  | mod h1 h2 h3 _ h4 h5 ih => exact .mod h1 h2 h3 ih (f1 h4) (f2 h5)
section
local macro_rules | `(tactic| k_all) => `(tactic| assumption)
local macro_rules | `(tactic| walk_at "call builtin:list.pop") => `(tactic| (k_here; k_dflt ((with_reducible show wpAny _ _ (call (Value.builtin _) [Value.ref _, Value.int _ _]) _ _ _); refine' pop0 ?F ?N ?U ?z ?_; (case F => k_asm); (case N => k_asm); (case U => k_upd); (case z => omega)); intro h' F' N'))
local macro_rules | `(tactic| walk_at "truthy ref") => `(tactic| (k_here; (with_reducible show wpAny _ _ (truthy (Value.ref _)) _ _ _); k_dflt (refine' truthy_cons ?N ?m ?z ?_; (case N => k_asm); (case m => k_mem); (case z => omega); k_whole)))
local macro_rules | `(tactic| walk_at "call ref") => `(tactic| (k_here; refine wpAny_call ?_; k_dflt ktr_enter))
local macro_rules | `(tactic| k_room) => `(tactic| ((try simp only [depth_mark, depth_under_make, depth_under_kw, depth_in1, depth_deeper]); (try dsimp only [ktrTop]); omega))
local macro_rules | `(tactic| ktr_room) => `(tactic| ((try simp only [depth_mark, depth_under_make, depth_under_kw, depth_in1, depth_deeper]); (try dsimp only [ktrTop]); omega))
local macro_rules | `(tactic| k_units) => `(tactic| ((try simp only [units_in1, units_deeper, Around.mark_units]); (try dsimp only [ktrTop]); omega))
local macro_rules | `(tactic| k_mem) => `(tactic| first | exact List.mem_cons_self | assumption | (refine' List.mem_cons_of_mem _ ?_; k_mem) | (refine' List.mem_append_left _ ?_; k_mem) | (refine' List.mem_append_right _ ?_; k_mem))
local macro_rules | `(tactic| ktr_rel) => `(tactic| (refine' NodeIn.mono ?nma ?nmb; (case nma => assumption); (case nmb => (intro p9 h9; k_mem))))
local macro_rules | `(tactic| walk_at "ite") => `(tactic| (k_here; first | (refine ite_pos (by (simp only [beq_iff_eq, bne_iff_ne, decide_eq_true_eq, Bool.not_eq_true', Bool.not_eq_eq_eq_not, Bool.not_true, Bool.not_false, ne_eq, decide_eq_false_iff_not, beq_eq_false_iff_ne]); omega) ?_; walk_say "PRUNED+") | (refine ite_neg (by (simp only [beq_iff_eq, bne_iff_ne, decide_eq_true_eq, Bool.not_eq_true', Bool.not_eq_eq_eq_not, Bool.not_true, Bool.not_false, ne_eq, decide_eq_false_iff_not, beq_eq_false_iff_ne]); omega) ?_; walk_say "PRUNED-")))
local macro_rules | `(tactic| tb_rel) => `(tactic| first | assumption | rfl | (intro h9; cases h9) | omega | ((try dsimp only [Nd.mx, Nd.pr] at *); omega))
local macro_rules | `(tactic| walk_at "CompEnd") => `(tactic| (k_here; k_dflt (refine' compEnd_same ?F ?N ?off ?S ?_; (case F => k_asm); (case N => k_asm); (case off => first | assumption | (simp only [LCg.Off3, and_true]; first | done | assumption)); (case S => lcg_src))))
local macro_rules | `(tactic| walk_at "binaryOp FloorDiv int int") => `(tactic| (k_here; (with_reducible refine floordiv_int ?kbe ?_ (Or.inl (Mine.pyl ?p0 ?p1))); (case kbe => omega); (case p0 => omega); (case p1 => omega)))
variable {prog : Program} {w : World} {p : Program} {loose : List Str} {mean : ExcName → Option Value} {mg mb : Str → Option Value} {dp un : Nat} {gd : Option (List Code)} {cn : Str} {cs : Scope} {a : Addr} {ccd : Value} {cl : List (Str × Addr)} {outer : List Env} {A₀ : Around} {base h₀ : Heap} {L : Addr} {m : Str → Option Value} {s : Shared} {Q E : Value → Shared → Prop}
theorem take_ok {st q : Addr} {x y many : Int} {tx ty tm : Tok} {vs : List Value} {ns : List Int} {nst nq : Nat} {news : List (Addr × Obj)}
  (B : Below A₀ base outer h₀) (F : Fr h₀ L s.heap m) (X : (Mine.hd.heap_39 w.params).In h₀) (N : News h₀ L s.heap ((st, listOf #[.ref q, .int x tx, .int y ty] nst) :: (q, listOf vs.toArray nq) :: news)) (T : Top p loose mean mg mb h₀) (hk : cs.kind = .function)
  (hd : dp + 5 < recursionLimit) (hu : un + 40 < cLine) (hsq : st ≠ q) (hqs : q ≠ st) (hn1 : ∀ p ∈ news, p.1 ≠ st) (hn2 : ∀ p ∈ news, p.1 ≠ q)
  (hi : IntsAre vs ns) (hlen : ns.length ≤ 24) (hns : ∀ n ∈ ns, 0 ≤ n ∧ n < 2147483647) (hx0 : 0 ≤ x) (hx1 : x < 2147483647) (hy0 : 0 ≤ y) (hy1 : y < 2147483647) (hm0 : 1 ≤ many) (hm1 : many < 100)
  (ret : ∀ k tk x' tx' y' ty' vs' ns' nst' nq' h' tk', 0 ≤ k → k < many → IntsAre vs' ns' → ns'.length ≤ 24 → (∀ n ∈ ns', 0 ≤ n ∧ n < 2147483647) → 0 ≤ x' → x' < 2147483647 → 0 ≤ y' → y' < 2147483647 → Fr h₀ L h' m → News h₀ L h' ((st, listOf #[.ref q, .int x' tx', .int y' ty'] nst') :: (q, listOf vs'.toArray nq') :: news) → Q (.int k tk) { s with heap := h', toks := tk' }) :
  wpAny (model prog w) (ktrTop dp un gd cn cs L a ccd cl outer) (call (.ref 728) [.ref st, .int many tm]) Q E s := by
  have fin : ∀ (z many : Int) (tk1 : Tok), 1 ≤ many → 0 ≤ z → z < 2147483647 → 0 ≤ z.fmod many ∧ z.fmod many < many ∧ 0 ≤ z.fdiv many ∧ z.fdiv many < 2147483647 := by
    intro z many _ hm hz hz1
    rw [Int.fmod_eq_emod_of_nonneg _ (by omega), Int.fdiv_eq_ediv_of_nonneg _ (by omega)]
    refine ⟨Int.emod_nonneg _ (by omega), Int.emod_lt_of_pos _ (by omega), Int.ediv_nonneg hz (by omega), ?_⟩
    exact Int.lt_of_le_of_lt (Int.ediv_le_self _ hz) hz1
  have hf2 : 0 ≤ (y * 48271 + 11).fmod 2147483647 ∧ (y * 48271 + 11).fmod 2147483647 < 2147483647 := by
    rw [Int.fmod_eq_emod_of_nonneg _ (by omega)]
    omega
  cases ns with
  | nil =>
    have := hi.nil_inv
    subst this
    refine wpAny_call ?_
    k_dflt ktr_enter
    k_steps
    · obtain ⟨h1, h2, h3, h4⟩ := fin _ many 0 hm0 hf2.1 hf2.2
      exact ret _ _ _ _ _ _ _ _ _ _ _ _ h1 h2 hi hlen hns h3 h4 hf2.1 hf2.2 (by k_asm) (by k_asm)
    · obtain ⟨h1, h2, h3, h4⟩ := fin _ many 0 hm0 hx0 hx1
      exact ret _ _ _ _ _ _ _ _ _ _ _ _ h1 h2 hi hlen hns h3 h4 hy0 hy1 (by k_asm) (by k_asm)
  | cons n ns =>
    obtain ⟨t, vs', rfl, hi'⟩ := hi.cons_inv
    obtain ⟨hn0, hn1⟩ := hns n (.head _)
    have hlen' : vs'.length ≤ 24 := by rw [hi'.length]; simp only [List.length_cons] at hlen; omega
    refine wpAny_call ?_
    k_dflt ktr_enter
    k_steps
    · obtain ⟨h1, h2, h3, h4⟩ := fin _ many 0 hm0 hn0 hn1
      exact ret _ _ _ _ _ _ _ _ _ _ _ _ h1 h2 hi' (by simp only [List.length_cons] at hlen; omega) (fun n h => hns n (.tail _ h)) h3 h4 hy0 hy1 (by k_asm) (by k_asm)
    · obtain ⟨h1, h2, h3, h4⟩ := fin _ many 0 hm0 hx0 hx1
      exact ret _ _ _ _ _ _ _ _ _ _ _ _ h1 h2 hi hlen hns h3 h4 hy0 hy1 (by k_asm) (by k_asm)
end
section
local macro_rules | `(tactic| k_all) => `(tactic| assumption)
local macro_rules | `(tactic| walk_at "call builtin:list.pop") => `(tactic| (k_here; k_dflt ((with_reducible show wpAny _ _ (call (Value.builtin _) [Value.ref _, Value.int _ _]) _ _ _); refine' pop0 ?F ?N ?U ?z ?_; (case F => k_asm); (case N => k_asm); (case U => k_upd); (case z => omega)); intro h' F' N'))
local macro_rules | `(tactic| walk_at "truthy ref") => `(tactic| (k_here; (with_reducible show wpAny _ _ (truthy (Value.ref _)) _ _ _); k_dflt (refine' truthy_cons ?N ?m ?z ?_; (case N => k_asm); (case m => k_mem); (case z => omega); k_whole)))
local macro_rules | `(tactic| walk_at "call ref") => `(tactic| (k_here; refine wpAny_call ?_; k_dflt ktr_enter))
local macro_rules | `(tactic| k_room) => `(tactic| ((try simp only [depth_mark, depth_under_make, depth_under_kw, depth_in1, depth_deeper]); (try dsimp only [ktrTop]); omega))
local macro_rules | `(tactic| ktr_room) => `(tactic| ((try simp only [depth_mark, depth_under_make, depth_under_kw, depth_in1, depth_deeper]); (try dsimp only [ktrTop]); omega))
local macro_rules | `(tactic| k_units) => `(tactic| ((try simp only [units_in1, units_deeper, Around.mark_units]); (try dsimp only [ktrTop]); omega))
local macro_rules | `(tactic| k_mem) => `(tactic| first | exact List.mem_cons_self | assumption | (refine' List.mem_cons_of_mem _ ?_; k_mem) | (refine' List.mem_append_left _ ?_; k_mem) | (refine' List.mem_append_right _ ?_; k_mem))
local macro_rules | `(tactic| ktr_rel) => `(tactic| (refine' NodeIn.mono ?nma ?nmb; (case nma => assumption); (case nmb => (intro p9 h9; k_mem))))
local macro_rules | `(tactic| walk_at "ite") => `(tactic| (k_here; first | (refine ite_pos (by (simp only [beq_iff_eq, bne_iff_ne, decide_eq_true_eq, Bool.not_eq_true', Bool.not_eq_eq_eq_not, Bool.not_true, Bool.not_false, ne_eq, decide_eq_false_iff_not, beq_eq_false_iff_ne]); omega) ?_; walk_say "PRUNED+") | (refine ite_neg (by (simp only [beq_iff_eq, bne_iff_ne, decide_eq_true_eq, Bool.not_eq_true', Bool.not_eq_eq_eq_not, Bool.not_true, Bool.not_false, ne_eq, decide_eq_false_iff_not, beq_eq_false_iff_ne]); omega) ?_; walk_say "PRUNED-")))
local macro_rules | `(tactic| tb_rel) => `(tactic| first | assumption | rfl | (intro h9; cases h9) | omega | ((try dsimp only [Nd.mx, Nd.pr] at *); omega))
local macro_rules | `(tactic| walk_at "CompEnd") => `(tactic| (k_here; k_dflt (refine' compEnd_same ?F ?N ?off ?S ?_; (case F => k_asm); (case N => k_asm); (case off => first | assumption | (simp only [LCg.Off3, and_true]; first | done | assumption)); (case S => lcg_src))))
local macro_rules | `(tactic| walk_at "binaryOp FloorDiv int int") => `(tactic| (k_here; (with_reducible refine floordiv_int ?kbe ?_ (Or.inl (Mine.pyl ?p0 ?p1))); (case kbe => omega); (case p0 => omega); (case p1 => omega)))
local macro_rules | `(tactic| walk_at "no such key") => `(tactic| skip)
variable {prog : Program} {w : World} {p : Program} {loose : List Str} {mean : ExcName → Option Value} {mg mb : Str → Option Value} {dp un : Nat} {gd : Option (List Code)} {cn : Str} {cs : Scope} {a : Addr} {ccd : Value} {cl : List (Str × Addr)} {outer : List Env} {A₀ : Around} {base h₀ : Heap} {L : Addr} {m : Str → Option Value} {s : Shared} {Q E : Value → Shared → Prop}
theorem get_min {A : Around} {Q : Value → Shared → Prop} {E : Value → Shared → Prop} {ex : Bool} {x : Addr} {t : Nd} {news : List (Addr × Obj)} (F : Fr h₀ L s.heap m) (X : (Mine.hd.heap_39 w.params).In h₀) (N : News h₀ L s.heap news) (H : NodeIn w.params news (.ref x) t)
    (h : ∀ u tk, Q (.int 0 u) { s with toks := tk }) : wpAny (model prog w) A (getAttr (.ref x) (PySem.Str.ofString "min") ex) Q E s := by
  cases H with
  | zero h1 h2 h3 m1 m2 => subst h1 h2 h3; walk1; exact h _ _
  | var h1 h2 m1 m2 => subst h1 h2; walk1; exact h _ _
  | mul h1 h2 h3 hv m1 m2 => subst h1 h2 h3; walk1; exact h _ _
  | div h1 h2 h3 hv m1 m2 => subst h1 h2 h3; walk1; exact h _ _
  | mod h1 h2 h3 hv m1 m2 => subst h1 h2 h3; walk1; exact h _ _
theorem get_max {A : Around} {Q : Value → Shared → Prop} {E : Value → Shared → Prop} {ex : Bool} {x : Addr} {t : Nd} {news : List (Addr × Obj)} (F : Fr h₀ L s.heap m) (X : (Mine.hd.heap_39 w.params).In h₀) (N : News h₀ L s.heap news) (H : NodeIn w.params news (.ref x) t)
    (h : ∀ u tk, Q (.int t.mx u) { s with toks := tk }) : wpAny (model prog w) A (getAttr (.ref x) (PySem.Str.ofString "max") ex) Q E s := by
  cases H with
  | zero h1 h2 h3 m1 m2 => subst h1 h2 h3; walk1; exact h _ _
  | var h1 h2 m1 m2 => subst h1 h2; walk1; exact h _ _
  | mul h1 h2 h3 hv m1 m2 => subst h1 h2 h3; walk1; exact h _ _
  | div h1 h2 h3 hv m1 m2 => subst h1 h2 h3; walk1; exact h _ _
  | mod h1 h2 h3 hv m1 m2 => subst h1 h2 h3; walk1; exact h _ _
end
section
local macro_rules | `(tactic| k_all) => `(tactic| assumption)
local macro_rules | `(tactic| walk_at "call builtin:list.pop") => `(tactic| (k_here; k_dflt ((with_reducible show wpAny _ _ (call (Value.builtin _) [Value.ref _, Value.int _ _]) _ _ _); refine' pop0 ?F ?N ?U ?z ?_; (case F => k_asm); (case N => k_asm); (case U => k_upd); (case z => omega)); intro h' F' N'))
local macro_rules | `(tactic| walk_at "truthy ref") => `(tactic| (k_here; (with_reducible show wpAny _ _ (truthy (Value.ref _)) _ _ _); k_dflt (refine' truthy_cons ?N ?m ?z ?_; (case N => k_asm); (case m => k_mem); (case z => omega); k_whole)))
local macro_rules | `(tactic| walk_at "call ref") => `(tactic| (k_here; refine wpAny_call ?_; k_dflt ktr_enter))
local macro_rules | `(tactic| k_room) => `(tactic| ((try simp only [depth_mark, depth_under_make, depth_under_kw, depth_in1, depth_deeper]); (try dsimp only [ktrTop]); omega))
local macro_rules | `(tactic| ktr_room) => `(tactic| ((try simp only [depth_mark, depth_under_make, depth_under_kw, depth_in1, depth_deeper]); (try dsimp only [ktrTop]); omega))
local macro_rules | `(tactic| k_units) => `(tactic| ((try simp only [units_in1, units_deeper, Around.mark_units]); (try dsimp only [ktrTop]); omega))
local macro_rules | `(tactic| k_mem) => `(tactic| first | exact List.mem_cons_self | assumption | (refine' List.mem_cons_of_mem _ ?_; k_mem) | (refine' List.mem_append_left _ ?_; k_mem) | (refine' List.mem_append_right _ ?_; k_mem))
local macro_rules | `(tactic| ktr_rel) => `(tactic| (refine' NodeIn.mono ?nma ?nmb; (case nma => assumption); (case nmb => (intro p9 h9; k_mem))))
local macro_rules | `(tactic| walk_at "getAttr ref") => `(tactic| (k_here; (with_reducible show wpAny _ _ (getAttr (Value.ref _) (PySem.Str.ofString "min") _) _ _ _); k_dflt (refine' get_min ?F ?X ?N ?H ?_; (case F => k_asm); (case X => k_asm); (case N => k_asm); (case H => ktr_rel); k_whole); intro u' tk'; (try dsimp only)))
local macro_rules | `(tactic| walk_at "getAttr ref") => `(tactic| (k_here; (with_reducible show wpAny _ _ (getAttr (Value.ref _) (PySem.Str.ofString "max") _) _ _ _); k_dflt (refine' get_max ?F ?X ?N ?H ?_; (case F => k_asm); (case X => k_asm); (case N => k_asm); (case H => ktr_rel); k_whole); intro u' tk'; (try dsimp only)))
local macro_rules | `(tactic| walk_at "ite") => `(tactic| (k_here; first | (refine ite_pos (by (simp only [beq_iff_eq, bne_iff_ne, decide_eq_true_eq, Bool.not_eq_true', Bool.not_eq_eq_eq_not, Bool.not_true, Bool.not_false, ne_eq, decide_eq_false_iff_not, beq_eq_false_iff_ne]); omega) ?_; walk_say "PRUNED+") | (refine ite_neg (by (simp only [beq_iff_eq, bne_iff_ne, decide_eq_true_eq, Bool.not_eq_true', Bool.not_eq_eq_eq_not, Bool.not_true, Bool.not_false, ne_eq, decide_eq_false_iff_not, beq_eq_false_iff_ne]); omega) ?_; walk_say "PRUNED-")))
local macro_rules | `(tactic| tb_rel) => `(tactic| first | assumption | rfl | (intro h9; cases h9) | omega | ((try dsimp only [Nd.mx, Nd.pr] at *); omega))
local macro_rules | `(tactic| walk_at "CompEnd") => `(tactic| (k_here; k_dflt (refine' compEnd_same ?F ?N ?off ?S ?_; (case F => k_asm); (case N => k_asm); (case off => first | assumption | (simp only [LCg.Off3, and_true]; first | done | assumption)); (case S => lcg_src))))
local macro_rules | `(tactic| walk_at "binaryOp FloorDiv int int") => `(tactic| (k_here; (with_reducible refine floordiv_int ?kbe ?_ (Or.inl (Mine.pyl ?p0 ?p1))); (case kbe => omega); (case p0 => omega); (case p1 => omega)))
variable {prog : Program} {w : World} {p : Program} {loose : List Str} {mean : ExcName → Option Value} {mg mb : Str → Option Value} {dp un : Nat} {gd : Option (List Code)} {cn : Str} {cs : Scope} {a : Addr} {ccd : Value} {cl : List (Str × Addr)} {outer : List Env} {A₀ : Around} {base h₀ : Heap} {L : Addr} {m : Str → Option Value} {s : Shared} {Q E : Value → Shared → Prop}
theorem nmul_ok {M b : Int} {tb : Tok} {t : Nd} (hW : t.WF M) (hz : t ≠ .zero) (hm : t.isMul = false) (hb0 : 0 ≤ b) (hb1 : b < 100000000000000000) (hmb : t.mx < 100000000000000000) :
    Tells1 prog w p loose mean mg mb (fun v => call (.ref 177) [v, .int b tb]) t 8 (MulRes M b t) := by
  intro dp un gd cn cs a ccd cl outer A₀ base h₀ L m news s x Q E B F X N T hk H hd hu ret
  have hmx := WF.mx1 hW hz
  have hr : b = 0 ∨ b = 1 ∨ 2 ≤ b := by omega
  dsimp only
  rcases hr with rfl | rfl | hb2
  · k_steps
    refine ret.fin (mulres_zero hW) (by k_asm) (by k_asm) (by intro p9 h9; k_mem) ?_
    refine' NodeIn.zero ?a ?b ?c ?d ?e
    (case d => k_mem); (case e => k_mem); all_goals rfl
  · k_steps
    exact ret.fin (mulres_one hW) (by k_asm) (by k_asm) (by intro p9 h9; k_mem) (by ktr_rel)
  · have hmm : 2 ≤ t.mx * b := by
      have := Int.mul_le_mul hmx hb2 (by omega) (by omega)
      omega
    k_steps
    refine ret.fin (mulres_mul hW hz hm hb2) (by k_asm) (by k_asm) (by intro p9 h9; k_mem) ?_
    refine' NodeIn.mul ?ma ?mb ?mc ?mn ?md ?me
    (case md => k_mem); (case me => k_mem); (case mn => ktr_rel); all_goals (first | rfl | omega)
end
section
local macro_rules | `(tactic| k_all) => `(tactic| assumption)
local macro_rules | `(tactic| walk_at "call builtin:list.pop") => `(tactic| (k_here; k_dflt ((with_reducible show wpAny _ _ (call (Value.builtin _) [Value.ref _, Value.int _ _]) _ _ _); refine' pop0 ?F ?N ?U ?z ?_; (case F => k_asm); (case N => k_asm); (case U => k_upd); (case z => omega)); intro h' F' N'))
local macro_rules | `(tactic| walk_at "truthy ref") => `(tactic| (k_here; (with_reducible show wpAny _ _ (truthy (Value.ref _)) _ _ _); k_dflt (refine' truthy_cons ?N ?m ?z ?_; (case N => k_asm); (case m => k_mem); (case z => omega); k_whole)))
local macro_rules | `(tactic| walk_at "call ref") => `(tactic| (k_here; refine wpAny_call ?_; k_dflt ktr_enter))
local macro_rules | `(tactic| k_room) => `(tactic| ((try simp only [depth_mark, depth_under_make, depth_under_kw, depth_in1, depth_deeper]); (try dsimp only [ktrTop]); omega))
local macro_rules | `(tactic| ktr_room) => `(tactic| ((try simp only [depth_mark, depth_under_make, depth_under_kw, depth_in1, depth_deeper]); (try dsimp only [ktrTop]); omega))
local macro_rules | `(tactic| k_units) => `(tactic| ((try simp only [units_in1, units_deeper, Around.mark_units]); (try dsimp only [ktrTop]); omega))
local macro_rules | `(tactic| k_mem) => `(tactic| first | exact List.mem_cons_self | assumption | (refine' List.mem_cons_of_mem _ ?_; k_mem) | (refine' List.mem_append_left _ ?_; k_mem) | (refine' List.mem_append_right _ ?_; k_mem))
local macro_rules | `(tactic| ktr_rel) => `(tactic| (refine' NodeIn.mono ?nma ?nmb; (case nma => assumption); (case nmb => (intro p9 h9; k_mem))))
local macro_rules | `(tactic| walk_at "getAttr ref") => `(tactic| (k_here; (with_reducible show wpAny _ _ (getAttr (Value.ref _) (PySem.Str.ofString "min") _) _ _ _); k_dflt (refine' get_min ?F ?X ?N ?H ?_; (case F => k_asm); (case X => k_asm); (case N => k_asm); (case H => ktr_rel); k_whole); intro u' tk'; (try dsimp only)))
local macro_rules | `(tactic| walk_at "getAttr ref") => `(tactic| (k_here; (with_reducible show wpAny _ _ (getAttr (Value.ref _) (PySem.Str.ofString "max") _) _ _ _); k_dflt (refine' get_max ?F ?X ?N ?H ?_; (case F => k_asm); (case X => k_asm); (case N => k_asm); (case H => ktr_rel); k_whole); intro u' tk'; (try dsimp only)))
local macro_rules | `(tactic| walk_at "ite") => `(tactic| (k_here; first | (refine ite_pos (by (simp only [beq_iff_eq, bne_iff_ne, decide_eq_true_eq, Bool.not_eq_true', Bool.not_eq_eq_eq_not, Bool.not_true, Bool.not_false, ne_eq, decide_eq_false_iff_not, beq_eq_false_iff_ne]); omega) ?_; walk_say "PRUNED+") | (refine ite_neg (by (simp only [beq_iff_eq, bne_iff_ne, decide_eq_true_eq, Bool.not_eq_true', Bool.not_eq_eq_eq_not, Bool.not_true, Bool.not_false, ne_eq, decide_eq_false_iff_not, beq_eq_false_iff_ne]); omega) ?_; walk_say "PRUNED-")))
local macro_rules | `(tactic| tb_rel) => `(tactic| first | assumption | rfl | (intro h9; cases h9) | omega | ((try dsimp only [Nd.mx, Nd.pr] at *); omega))
local macro_rules | `(tactic| walk_at "CompEnd") => `(tactic| (k_here; k_dflt (refine' compEnd_same ?F ?N ?off ?S ?_; (case F => k_asm); (case N => k_asm); (case off => first | assumption | (simp only [LCg.Off3, and_true]; first | done | assumption)); (case S => lcg_src))))
local macro_rules | `(tactic| walk_at "binaryOp FloorDiv int int") => `(tactic| (k_here; (with_reducible refine floordiv_int ?kbe ?_ (Or.inl (Mine.pyl ?p0 ?p1))); (case kbe => omega); (case p0 => omega); (case p1 => omega)))
local macro_rules | `(tactic| walk_at "call ref") => `(tactic| (k_here; (with_reducible show wpAny _ _ (call (Value.ref 177) [Value.ref _, Value.int _ _]) _ _ _); k_dflt (refine' tells1_use (nmul_ok ?wf ?nz ?nm ?b0 ?b1 ?mb) ?B ?F ?X ?N ?T ?hk ?H ?hd ?hu ?_; (case B => k_asm); (case F => k_asm); (case X => k_asm); (case N => k_asm); (case T => k_asm); (case hk => first | assumption | rfl); (case H => ktr_rel); (case wf => tb_rel); (case nz => tb_rel); (case nm => tb_rel); (case b0 => tb_rel); (case b1 => tb_rel); (case mb => tb_rel); (case hd => k_room); (case hu => k_units); k_whole); intro r' t' new' h' tk' H' R' F' N'; (try dsimp only [PySem.W.CmpBack, PyProof.Rows.CmpBack])))
variable {prog : Program} {w : World} {p : Program} {loose : List Str} {mean : ExcName → Option Value} {mg mb : Str → Option Value} {dp un : Nat} {gd : Option (List Code)} {cn : Str} {cs : Scope} {a : Addr} {ccd : Value} {cl : List (Str × Addr)} {outer : List Env} {A₀ : Around} {base h₀ : Heap} {L : Addr} {m : Str → Option Value} {s : Shared} {Q E : Value → Shared → Prop}
theorem mul0_ok {M b : Int} {tb : Tok} {t : Nd} (hW : t.WF M) (hm : t.isMul = false) (hb0 : 0 ≤ b) (hb1 : b < 100000000000000000) (hmb : t.mx < 100000000000000000) :
    Tells1 prog w p loose mean mg mb (fun v => binaryOp .Mult v (.int b tb)) t 10 (MulRes M b t) := by
  intro dp un gd cn cs a ccd cl outer A₀ base h₀ L m news s x Q E B F X N T hk H hd hu ret
  dsimp only
  have H0 := H
  cases H with
  | zero h1 h2 h3 m1 m2 =>
    subst h1 h2 h3
    k_steps
    refine ret.fin mulres_zero' (by k_asm) (by k_asm) (by intro p9 h9; k_mem) ?_
    refine' NodeIn.zero ?a ?b ?c ?d ?e
    (case d => k_mem); (case e => k_mem); all_goals exact Int.zero_mul _
  | var h1 h2 m1 m2 =>
    k_steps
    exact ret.fin (by assumption) (by k_asm) (by k_asm) (by intro p9 h9; k_mem) (by ktr_rel)
  | mul => cases hm
  | div h1 h2 h3 hv m1 m2 =>
    k_steps
    exact ret.fin (by assumption) (by k_asm) (by k_asm) (by intro p9 h9; k_mem) (by ktr_rel)
  | mod h1 h2 h3 hv m1 m2 =>
    k_steps
    exact ret.fin (by assumption) (by k_asm) (by k_asm) (by intro p9 h9; k_mem) (by ktr_rel)
end
section
local macro_rules | `(tactic| k_all) => `(tactic| assumption)
local macro_rules | `(tactic| walk_at "call builtin:list.pop") => `(tactic| (k_here; k_dflt ((with_reducible show wpAny _ _ (call (Value.builtin _) [Value.ref _, Value.int _ _]) _ _ _); refine' pop0 ?F ?N ?U ?z ?_; (case F => k_asm); (case N => k_asm); (case U => k_upd); (case z => omega)); intro h' F' N'))
local macro_rules | `(tactic| walk_at "truthy ref") => `(tactic| (k_here; (with_reducible show wpAny _ _ (truthy (Value.ref _)) _ _ _); k_dflt (refine' truthy_cons ?N ?m ?z ?_; (case N => k_asm); (case m => k_mem); (case z => omega); k_whole)))
local macro_rules | `(tactic| walk_at "call ref") => `(tactic| (k_here; refine wpAny_call ?_; k_dflt ktr_enter))
local macro_rules | `(tactic| k_room) => `(tactic| ((try simp only [depth_mark, depth_under_make, depth_under_kw, depth_in1, depth_deeper]); (try dsimp only [ktrTop]); omega))
local macro_rules | `(tactic| ktr_room) => `(tactic| ((try simp only [depth_mark, depth_under_make, depth_under_kw, depth_in1, depth_deeper]); (try dsimp only [ktrTop]); omega))
local macro_rules | `(tactic| k_units) => `(tactic| ((try simp only [units_in1, units_deeper, Around.mark_units]); (try dsimp only [ktrTop]); omega))
local macro_rules | `(tactic| k_mem) => `(tactic| first | exact List.mem_cons_self | assumption | (refine' List.mem_cons_of_mem _ ?_; k_mem) | (refine' List.mem_append_left _ ?_; k_mem) | (refine' List.mem_append_right _ ?_; k_mem))
local macro_rules | `(tactic| ktr_rel) => `(tactic| (refine' NodeIn.mono ?nma ?nmb; (case nma => assumption); (case nmb => (intro p9 h9; k_mem))))
local macro_rules | `(tactic| walk_at "getAttr ref") => `(tactic| (k_here; (with_reducible show wpAny _ _ (getAttr (Value.ref _) (PySem.Str.ofString "min") _) _ _ _); k_dflt (refine' get_min ?F ?X ?N ?H ?_; (case F => k_asm); (case X => k_asm); (case N => k_asm); (case H => ktr_rel); k_whole); intro u' tk'; (try dsimp only)))
local macro_rules | `(tactic| walk_at "getAttr ref") => `(tactic| (k_here; (with_reducible show wpAny _ _ (getAttr (Value.ref _) (PySem.Str.ofString "max") _) _ _ _); k_dflt (refine' get_max ?F ?X ?N ?H ?_; (case F => k_asm); (case X => k_asm); (case N => k_asm); (case H => ktr_rel); k_whole); intro u' tk'; (try dsimp only)))
local macro_rules | `(tactic| walk_at "ite") => `(tactic| (k_here; first | (refine ite_pos (by (simp only [beq_iff_eq, bne_iff_ne, decide_eq_true_eq, Bool.not_eq_true', Bool.not_eq_eq_eq_not, Bool.not_true, Bool.not_false, ne_eq, decide_eq_false_iff_not, beq_eq_false_iff_ne]); omega) ?_; walk_say "PRUNED+") | (refine ite_neg (by (simp only [beq_iff_eq, bne_iff_ne, decide_eq_true_eq, Bool.not_eq_true', Bool.not_eq_eq_eq_not, Bool.not_true, Bool.not_false, ne_eq, decide_eq_false_iff_not, beq_eq_false_iff_ne]); omega) ?_; walk_say "PRUNED-")))
local macro_rules | `(tactic| tb_rel) => `(tactic| first | assumption | rfl | (intro h9; cases h9) | omega | ((try dsimp only [Nd.mx, Nd.pr] at *); omega))
local macro_rules | `(tactic| walk_at "CompEnd") => `(tactic| (k_here; k_dflt (refine' compEnd_same ?F ?N ?off ?S ?_; (case F => k_asm); (case N => k_asm); (case off => first | assumption | (simp only [LCg.Off3, and_true]; first | done | assumption)); (case S => lcg_src))))
local macro_rules | `(tactic| walk_at "binaryOp FloorDiv int int") => `(tactic| (k_here; (with_reducible refine floordiv_int ?kbe ?_ (Or.inl (Mine.pyl ?p0 ?p1))); (case kbe => omega); (case p0 => omega); (case p1 => omega)))
local macro_rules | `(tactic| walk_at "binaryOp Mult ref int") => `(tactic| (k_here; k_dflt (refine' tells1_use (mul0_ok ?wf ?nm ?b0 ?b1 ?mb) ?B ?F ?X ?N ?T ?hk ?H ?hd ?hu ?_; (case B => k_asm); (case F => k_asm); (case X => k_asm); (case N => k_asm); (case T => k_asm); (case hk => first | assumption | rfl); (case H => ktr_rel); (case wf => tb_rel); (case nm => tb_rel); (case b0 => tb_rel); (case b1 => tb_rel); (case mb => tb_rel); (case hd => k_room); (case hu => k_units); k_whole); intro r' t' new' h' tk' H' R' F' N'; (have w9 := MulRes.wf R'); (have x9 := MulRes.mx R'); (try dsimp only [PySem.W.CmpBack, PyProof.Rows.CmpBack])))
local macro_rules | `(tactic| walk_at "no such key") => `(tactic| skip)
variable {prog : Program} {w : World} {p : Program} {loose : List Str} {mean : ExcName → Option Value} {mg mb : Str → Option Value} {dp un : Nat} {gd : Option (List Code)} {cn : Str} {cs : Scope} {a : Addr} {ccd : Value} {cl : List (Str × Addr)} {outer : List Env} {A₀ : Around} {base h₀ : Heap} {L : Addr} {m : Str → Option Value} {s : Shared} {Q E : Value → Shared → Prop}
theorem mulm_ok {M k b : Int} {tb : Tok} {t : Nd} (hW : (Nd.mul t k).WF M) (hb0 : 0 ≤ b) (hp : (Nd.mul t k).pr < 1000000000000000) (hpb : (Nd.mul t k).pr * b < 1000000000000000) :
    Tells1 prog w p loose mean mg mb (fun v => binaryOp .Mult v (.int b tb)) (.mul t k) 14 (MulRes M b (.mul t k)) := by
  intro dp un gd cn cs a ccd cl outer A₀ base h₀ L m news s x Q E B F X N T hk H hd hu ret
  dsimp only
  obtain ⟨hWt, hm, hmx, hk2⟩ := hW
  have hpr := WF.pr1 hWt
  have hmxp := WF.mxpr hWt
  simp only [Nd.pr] at hp hpb
  have hkb : k * b ≤ t.pr * k * b := Int.mul_le_mul_of_nonneg_right (by have := (pr_part hWt hk2).2; omega) hb0
  have hkb0 : 0 ≤ k * b := Int.mul_nonneg (by omega) hb0
  have hpk := (pr_part hWt hk2).1
  have hk9 : k < 1000000000000000 := by have := (pr_part hWt hk2).2; omega
  cases H with
  | mul h1 h2 h3 hv m1 m2 =>
    subst h1 h2 h3
    obtain ⟨y, rfl⟩ := hv.isRef
    k_steps
    exact ret.fin (mulres_into hk2 hWt hb0 (by assumption)) (by k_asm) (by k_asm) (by intro p9 h9; k_mem) (by ktr_rel)

theorem mul_ok {M b : Int} {tb : Tok} {t : Nd} (hW : t.WF M) (hb0 : 0 ≤ b) (hb1 : b < 1000000000000000) (hp : t.pr < 1000000000000000) (hpb : t.pr * b < 1000000000000000) :
    Tells1 prog w p loose mean mg mb (fun v => binaryOp .Mult v (.int b tb)) t 14 (MulRes M b t) := by
  cases hm : t.isMul with
  | false =>
    have hmxp := WF.mxpr hW
    intro dp un gd cn cs a ccd cl outer A₀ base h₀ L m news s x Q E B F X N T hk H hd hu ret
    exact mul0_ok hW hm hb0 (by omega) (by omega) dp un gd cn cs a ccd cl outer A₀ base h₀ L m news s x Q E B F X N T hk H (by omega) (by omega) ret
  | true =>
    cases t with
    | mul t k => exact mulm_ok hW hb0 hp hpb
    | _ => cases hm
end
section
local macro_rules | `(tactic| k_all) => `(tactic| assumption)
local macro_rules | `(tactic| walk_at "call builtin:list.pop") => `(tactic| (k_here; k_dflt ((with_reducible show wpAny _ _ (call (Value.builtin _) [Value.ref _, Value.int _ _]) _ _ _); refine' pop0 ?F ?N ?U ?z ?_; (case F => k_asm); (case N => k_asm); (case U => k_upd); (case z => omega)); intro h' F' N'))
local macro_rules | `(tactic| walk_at "truthy ref") => `(tactic| (k_here; (with_reducible show wpAny _ _ (truthy (Value.ref _)) _ _ _); k_dflt (refine' truthy_cons ?N ?m ?z ?_; (case N => k_asm); (case m => k_mem); (case z => omega); k_whole)))
local macro_rules | `(tactic| walk_at "call ref") => `(tactic| (k_here; refine wpAny_call ?_; k_dflt ktr_enter))
local macro_rules | `(tactic| k_room) => `(tactic| ((try simp only [depth_mark, depth_under_make, depth_under_kw, depth_in1, depth_deeper]); (try dsimp only [ktrTop]); omega))
local macro_rules | `(tactic| ktr_room) => `(tactic| ((try simp only [depth_mark, depth_under_make, depth_under_kw, depth_in1, depth_deeper]); (try dsimp only [ktrTop]); omega))
local macro_rules | `(tactic| k_units) => `(tactic| ((try simp only [units_in1, units_deeper, Around.mark_units]); (try dsimp only [ktrTop]); omega))
local macro_rules | `(tactic| k_mem) => `(tactic| first | exact List.mem_cons_self | assumption | (refine' List.mem_cons_of_mem _ ?_; k_mem) | (refine' List.mem_append_left _ ?_; k_mem) | (refine' List.mem_append_right _ ?_; k_mem))
local macro_rules | `(tactic| ktr_rel) => `(tactic| (refine' NodeIn.mono ?nma ?nmb; (case nma => assumption); (case nmb => (intro p9 h9; k_mem))))
local macro_rules | `(tactic| walk_at "getAttr ref") => `(tactic| (k_here; (with_reducible show wpAny _ _ (getAttr (Value.ref _) (PySem.Str.ofString "min") _) _ _ _); k_dflt (refine' get_min ?F ?X ?N ?H ?_; (case F => k_asm); (case X => k_asm); (case N => k_asm); (case H => ktr_rel); k_whole); intro u' tk'; (try dsimp only)))
local macro_rules | `(tactic| walk_at "getAttr ref") => `(tactic| (k_here; (with_reducible show wpAny _ _ (getAttr (Value.ref _) (PySem.Str.ofString "max") _) _ _ _); k_dflt (refine' get_max ?F ?X ?N ?H ?_; (case F => k_asm); (case X => k_asm); (case N => k_asm); (case H => ktr_rel); k_whole); intro u' tk'; (try dsimp only)))
local macro_rules | `(tactic| walk_at "ite") => `(tactic| (k_here; first | (refine ite_pos (by (simp only [beq_iff_eq, bne_iff_ne, decide_eq_true_eq, Bool.not_eq_true', Bool.not_eq_eq_eq_not, Bool.not_true, Bool.not_false, ne_eq, decide_eq_false_iff_not, beq_eq_false_iff_ne]); omega) ?_; walk_say "PRUNED+") | (refine ite_neg (by (simp only [beq_iff_eq, bne_iff_ne, decide_eq_true_eq, Bool.not_eq_true', Bool.not_eq_eq_eq_not, Bool.not_true, Bool.not_false, ne_eq, decide_eq_false_iff_not, beq_eq_false_iff_ne]); omega) ?_; walk_say "PRUNED-")))
local macro_rules | `(tactic| tb_rel) => `(tactic| first | assumption | rfl | (intro h9; cases h9) | omega | ((try dsimp only [Nd.mx, Nd.pr] at *); omega))
local macro_rules | `(tactic| walk_at "CompEnd") => `(tactic| (k_here; k_dflt (refine' compEnd_same ?F ?N ?off ?S ?_; (case F => k_asm); (case N => k_asm); (case off => first | assumption | (simp only [LCg.Off3, and_true]; first | done | assumption)); (case S => lcg_src))))
local macro_rules | `(tactic| walk_at "binaryOp FloorDiv int int") => `(tactic| (k_here; (with_reducible refine floordiv_int ?kbe ?_ (Or.inl (Mine.pyl ?p0 ?p1))); (case kbe => omega); (case p0 => omega); (case p1 => omega)))
variable {prog : Program} {w : World} {p : Program} {loose : List Str} {mean : ExcName → Option Value} {mg mb : Str → Option Value} {dp un : Nat} {gd : Option (List Code)} {cn : Str} {cs : Scope} {a : Addr} {ccd : Value} {cl : List (Str × Addr)} {outer : List Env} {A₀ : Around} {base h₀ : Heap} {L : Addr} {m : Str → Option Value} {s : Shared} {Q E : Value → Shared → Prop}
theorem nsum_ok {M : Int} {x z l : Addr} {nl : Nat} {t : Nd} {news : List (Addr × Obj)} (hW : t.WF M)
  (B : Below A₀ base outer h₀) (F : Fr h₀ L s.heap m) (X : (Mine.hd.heap_39 w.params).In h₀) (N : News h₀ L s.heap news) (T : Top p loose mean mg mb h₀) (hk : cs.kind = .function)
  (hl : (l, listOf #[.ref x, .ref z] nl) ∈ news) (H : NodeIn w.params news (.ref x) t) (Hz : NodeIn w.params news (.ref z) .zero)
  (hd : dp + 6 < recursionLimit) (hu : un + 48 < cLine) (ret : Ret1 w news h₀ L m s Q (fun t' => t' = t)) :
  wpAny (model prog w) (ktrTop dp un gd cn cs L a ccd cl outer) (call (.ref 225) [.ref l]) Q E s := by
  by_cases hz : t = .zero
  · subst hz
    have hmx : Nd.mx .zero = 0 := rfl
    k_steps
    refine ret.fin rfl (by k_asm) (by k_asm) (by intro p9 h9; k_mem) ?_
    refine' NodeIn.zero ?a ?b ?c ?d ?e
    (case d => k_mem); (case e => k_mem); all_goals rfl
  · have hmx := WF.mx1 hW hz
    k_steps
    exact ret.fin rfl (by k_asm) (by k_asm) (by intro p9 h9; k_mem) (by ktr_rel)
end
section
local macro_rules | `(tactic| k_all) => `(tactic| assumption)
local macro_rules | `(tactic| walk_at "call builtin:list.pop") => `(tactic| (k_here; k_dflt ((with_reducible show wpAny _ _ (call (Value.builtin _) [Value.ref _, Value.int _ _]) _ _ _); refine' pop0 ?F ?N ?U ?z ?_; (case F => k_asm); (case N => k_asm); (case U => k_upd); (case z => omega)); intro h' F' N'))
local macro_rules | `(tactic| walk_at "truthy ref") => `(tactic| (k_here; (with_reducible show wpAny _ _ (truthy (Value.ref _)) _ _ _); k_dflt (refine' truthy_cons ?N ?m ?z ?_; (case N => k_asm); (case m => k_mem); (case z => omega); k_whole)))
local macro_rules | `(tactic| walk_at "call ref") => `(tactic| (k_here; refine wpAny_call ?_; k_dflt ktr_enter))
local macro_rules | `(tactic| k_room) => `(tactic| ((try simp only [depth_mark, depth_under_make, depth_under_kw, depth_in1, depth_deeper]); (try dsimp only [ktrTop]); omega))
local macro_rules | `(tactic| ktr_room) => `(tactic| ((try simp only [depth_mark, depth_under_make, depth_under_kw, depth_in1, depth_deeper]); (try dsimp only [ktrTop]); omega))
local macro_rules | `(tactic| k_units) => `(tactic| ((try simp only [units_in1, units_deeper, Around.mark_units]); (try dsimp only [ktrTop]); omega))
local macro_rules | `(tactic| k_mem) => `(tactic| first | exact List.mem_cons_self | assumption | (refine' List.mem_cons_of_mem _ ?_; k_mem) | (refine' List.mem_append_left _ ?_; k_mem) | (refine' List.mem_append_right _ ?_; k_mem))
local macro_rules | `(tactic| ktr_rel) => `(tactic| (refine' NodeIn.mono ?nma ?nmb; (case nma => assumption); (case nmb => (intro p9 h9; k_mem))))
local macro_rules | `(tactic| walk_at "getAttr ref") => `(tactic| (k_here; (with_reducible show wpAny _ _ (getAttr (Value.ref _) (PySem.Str.ofString "min") _) _ _ _); k_dflt (refine' get_min ?F ?X ?N ?H ?_; (case F => k_asm); (case X => k_asm); (case N => k_asm); (case H => ktr_rel); k_whole); intro u' tk'; (try dsimp only)))
local macro_rules | `(tactic| walk_at "getAttr ref") => `(tactic| (k_here; (with_reducible show wpAny _ _ (getAttr (Value.ref _) (PySem.Str.ofString "max") _) _ _ _); k_dflt (refine' get_max ?F ?X ?N ?H ?_; (case F => k_asm); (case X => k_asm); (case N => k_asm); (case H => ktr_rel); k_whole); intro u' tk'; (try dsimp only)))
local macro_rules | `(tactic| walk_at "ite") => `(tactic| (k_here; first | (refine ite_pos (by (simp only [beq_iff_eq, bne_iff_ne, decide_eq_true_eq, Bool.not_eq_true', Bool.not_eq_eq_eq_not, Bool.not_true, Bool.not_false, ne_eq, decide_eq_false_iff_not, beq_eq_false_iff_ne]); omega) ?_; walk_say "PRUNED+") | (refine ite_neg (by (simp only [beq_iff_eq, bne_iff_ne, decide_eq_true_eq, Bool.not_eq_true', Bool.not_eq_eq_eq_not, Bool.not_true, Bool.not_false, ne_eq, decide_eq_false_iff_not, beq_eq_false_iff_ne]); omega) ?_; walk_say "PRUNED-")))
local macro_rules | `(tactic| tb_rel) => `(tactic| first | assumption | rfl | (intro h9; cases h9) | omega | ((try dsimp only [Nd.mx, Nd.pr] at *); omega))
local macro_rules | `(tactic| walk_at "CompEnd") => `(tactic| (k_here; k_dflt (refine' compEnd_same ?F ?N ?off ?S ?_; (case F => k_asm); (case N => k_asm); (case off => first | assumption | (simp only [LCg.Off3, and_true]; first | done | assumption)); (case S => lcg_src))))
local macro_rules | `(tactic| walk_at "binaryOp FloorDiv int int") => `(tactic| (k_here; (with_reducible refine floordiv_int ?kbe ?_ (Or.inl (Mine.pyl ?p0 ?p1))); (case kbe => omega); (case p0 => omega); (case p1 => omega)))
local macro_rules | `(tactic| walk_at "call ref") => `(tactic| (k_here; (with_reducible show wpAny _ _ (call (Value.ref 225) [Value.ref _]) _ _ _); k_dflt (refine' nsum_ok (M := ?M) (t := ?t) ?wf ?B ?F ?X ?N ?T ?hk ?hl ?H ?Hz ?hd ?hu ?_; (case B => k_asm); (case F => k_asm); (case X => k_asm); (case N => k_asm); (case T => k_asm); (case hk => first | assumption | rfl); (case hl => k_mem); (case H => ktr_rel); (case wf => assumption); (case Hz => (refine' NodeIn.zero ?z1 ?z2 ?z3 ?z4 ?z5; (case z4 => k_mem); (case z5 => k_mem); all_goals rfl)); (case hd => k_room); (case hu => k_units); k_whole); unfold Ret1; intro r' t' new' h' tk' H' R' F' N'; subst R'; (try dsimp only [PySem.W.CmpBack, PyProof.Rows.CmpBack])))
variable {prog : Program} {w : World} {p : Program} {loose : List Str} {mean : ExcName → Option Value} {mg mb : Str → Option Value} {dp un : Nat} {gd : Option (List Code)} {cn : Str} {cs : Scope} {a : Addr} {ccd : Value} {cl : List (Str × Addr)} {outer : List Env} {A₀ : Around} {base h₀ : Heap} {L : Addr} {m : Str → Option Value} {s : Shared} {Q E : Value → Shared → Prop}
theorem nadd_ok {M z : Int} {tb : Tok} {t : Nd} (hW : t.WF M) (hz : z = 0) :
    Tells1 prog w p loose mean mg mb (fun v => call (.ref 121) [v, .int z tb]) t 9 (fun t' => t' = t) := by
  intro dp un gd cn cs a ccd cl outer A₀ base h₀ L m news s x Q E B F X N T hk H hd hu ret
  subst hz
  dsimp only
  k_steps
  exact ret.fin rfl (by k_asm) (by k_asm) (by intro p9 h9; k_mem) (by ktr_rel)
theorem badd_ok {M z : Int} {tb : Tok} {t : Nd} (hW : t.WF M) (hz : z = 0) :
    Tells1 prog w p loose mean mg mb (fun v => binaryOp .Add v (.int z tb)) t 9 (fun t' => t' = t) := by
  intro dp un gd cn cs a ccd cl outer A₀ base h₀ L m news s x Q E B F X N T hk H hd hu ret
  dsimp only
  have H0 := H
  have fin : wpAny (model prog w) (ktrTop dp un gd cn cs L a ccd cl outer) (call (.ref 121) [.ref x, .int z tb]) (PySem.W.CmpBack Q) E s := by
    refine nadd_ok hW hz dp un gd cn cs a ccd cl outer A₀ base h₀ L m news s x _ E B F X N T hk H hd hu ?_
    intro r t' new h' tk' H' R' F' N'
    exact ret r t' new h' tk' H' R' F' N'
  cases H with
  | zero h1 h2 h3 m1 m2 => walk1; exact fin
  | var h1 h2 m1 m2 => walk1; exact fin
  | mul h1 h2 h3 hv m1 m2 => walk1; exact fin
  | div h1 h2 h3 hv m1 m2 => walk1; exact fin
  | mod h1 h2 h3 hv m1 m2 => walk1; exact fin
end
section
local macro_rules | `(tactic| k_all) => `(tactic| assumption)
local macro_rules | `(tactic| walk_at "call builtin:list.pop") => `(tactic| (k_here; k_dflt ((with_reducible show wpAny _ _ (call (Value.builtin _) [Value.ref _, Value.int _ _]) _ _ _); refine' pop0 ?F ?N ?U ?z ?_; (case F => k_asm); (case N => k_asm); (case U => k_upd); (case z => omega)); intro h' F' N'))
local macro_rules | `(tactic| walk_at "truthy ref") => `(tactic| (k_here; (with_reducible show wpAny _ _ (truthy (Value.ref _)) _ _ _); k_dflt (refine' truthy_cons ?N ?m ?z ?_; (case N => k_asm); (case m => k_mem); (case z => omega); k_whole)))
local macro_rules | `(tactic| walk_at "call ref") => `(tactic| (k_here; refine wpAny_call ?_; k_dflt ktr_enter))
local macro_rules | `(tactic| k_room) => `(tactic| ((try simp only [depth_mark, depth_under_make, depth_under_kw, depth_in1, depth_deeper]); (try dsimp only [ktrTop]); omega))
local macro_rules | `(tactic| ktr_room) => `(tactic| ((try simp only [depth_mark, depth_under_make, depth_under_kw, depth_in1, depth_deeper]); (try dsimp only [ktrTop]); omega))
local macro_rules | `(tactic| k_units) => `(tactic| ((try simp only [units_in1, units_deeper, Around.mark_units]); (try dsimp only [ktrTop]); omega))
local macro_rules | `(tactic| k_mem) => `(tactic| first | exact List.mem_cons_self | assumption | (refine' List.mem_cons_of_mem _ ?_; k_mem) | (refine' List.mem_append_left _ ?_; k_mem) | (refine' List.mem_append_right _ ?_; k_mem))
local macro_rules | `(tactic| ktr_rel) => `(tactic| (refine' NodeIn.mono ?nma ?nmb; (case nma => assumption); (case nmb => (intro p9 h9; k_mem))))
local macro_rules | `(tactic| walk_at "getAttr ref") => `(tactic| (k_here; (with_reducible show wpAny _ _ (getAttr (Value.ref _) (PySem.Str.ofString "min") _) _ _ _); k_dflt (refine' get_min ?F ?X ?N ?H ?_; (case F => k_asm); (case X => k_asm); (case N => k_asm); (case H => ktr_rel); k_whole); intro u' tk'; (try dsimp only)))
local macro_rules | `(tactic| walk_at "getAttr ref") => `(tactic| (k_here; (with_reducible show wpAny _ _ (getAttr (Value.ref _) (PySem.Str.ofString "max") _) _ _ _); k_dflt (refine' get_max ?F ?X ?N ?H ?_; (case F => k_asm); (case X => k_asm); (case N => k_asm); (case H => ktr_rel); k_whole); intro u' tk'; (try dsimp only)))
local macro_rules | `(tactic| walk_at "ite") => `(tactic| (k_here; first | (refine ite_pos (by (simp only [beq_iff_eq, bne_iff_ne, decide_eq_true_eq, Bool.not_eq_true', Bool.not_eq_eq_eq_not, Bool.not_true, Bool.not_false, ne_eq, decide_eq_false_iff_not, beq_eq_false_iff_ne]); omega) ?_; walk_say "PRUNED+") | (refine ite_neg (by (simp only [beq_iff_eq, bne_iff_ne, decide_eq_true_eq, Bool.not_eq_true', Bool.not_eq_eq_eq_not, Bool.not_true, Bool.not_false, ne_eq, decide_eq_false_iff_not, beq_eq_false_iff_ne]); omega) ?_; walk_say "PRUNED-")))
local macro_rules | `(tactic| tb_rel) => `(tactic| first | assumption | rfl | (intro h9; cases h9) | omega | ((try dsimp only [Nd.mx, Nd.pr] at *); omega))
local macro_rules | `(tactic| walk_at "CompEnd") => `(tactic| (k_here; k_dflt (refine' compEnd_same ?F ?N ?off ?S ?_; (case F => k_asm); (case N => k_asm); (case off => first | assumption | (simp only [LCg.Off3, and_true]; first | done | assumption)); (case S => lcg_src))))
local macro_rules | `(tactic| walk_at "binaryOp FloorDiv int int") => `(tactic| (k_here; (with_reducible refine floordiv_int ?kbe ?_ (Or.inl (Mine.pyl ?p0 ?p1))); (case kbe => omega); (case p0 => omega); (case p1 => omega)))
local macro_rules | `(tactic| walk_at "call ref") => `(tactic| (k_here; (with_reducible show wpAny _ _ (call (Value.ref 225) [Value.ref _]) _ _ _); k_dflt (refine' nsum_ok (M := ?M) (t := ?t) ?wf ?B ?F ?X ?N ?T ?hk ?hl ?H ?Hz ?hd ?hu ?_; (case B => k_asm); (case F => k_asm); (case X => k_asm); (case N => k_asm); (case T => k_asm); (case hk => first | assumption | rfl); (case hl => k_mem); (case H => ktr_rel); (case wf => assumption); (case Hz => (refine' NodeIn.zero ?z1 ?z2 ?z3 ?z4 ?z5; (case z4 => k_mem); (case z5 => k_mem); all_goals rfl)); (case hd => k_room); (case hu => k_units); k_whole); unfold Ret1; intro r' t' new' h' tk' H' R' F' N'; subst R'; (try dsimp only [PySem.W.CmpBack, PyProof.Rows.CmpBack])))
local macro_rules | `(tactic| walk_at "binaryOp Add ref int") => `(tactic| (k_here; k_dflt (refine' tells1_use (badd_ok ?wf ?z0) ?B ?F ?X ?N ?T ?hk ?H ?hd ?hu ?_; (case B => k_asm); (case F => k_asm); (case X => k_asm); (case N => k_asm); (case T => k_asm); (case hk => first | assumption | rfl); (case H => ktr_rel); (case wf => tb_rel); (case z0 => first | rfl | omega); (case hd => k_room); (case hu => k_units); k_whole); intro r' t' new' h' tk' H' R' F' N'; subst R'; (try dsimp only [PySem.W.CmpBack, PyProof.Rows.CmpBack])))
variable {prog : Program} {w : World} {p : Program} {loose : List Str} {mean : ExcName → Option Value} {mg mb : Str → Option Value} {dp un : Nat} {gd : Option (List Code)} {cn : Str} {cs : Scope} {a : Addr} {ccd : Value} {cl : List (Str × Addr)} {outer : List Env} {A₀ : Around} {base h₀ : Heap} {L : Addr} {m : Str → Option Value} {s : Shared} {Q E : Value → Shared → Prop}
theorem nsub_ok {M z : Int} {tb : Tok} {t : Nd} (hW : t.WF M) (hz : z = 0) :
    Tells1 prog w p loose mean mg mb (fun v => call (.ref 135) [v, .int z tb]) t 11 (fun t' => t' = t) := by
  intro dp un gd cn cs a ccd cl outer A₀ base h₀ L m news s x Q E B F X N T hk H hd hu ret
  dsimp only
  k_steps
  exact ret.fin rfl (by k_asm) (by k_asm) (by intro p9 h9; k_mem) (by ktr_rel)
theorem bsub_ok {M z : Int} {tb : Tok} {t : Nd} (hW : t.WF M) (hz : z = 0) :
    Tells1 prog w p loose mean mg mb (fun v => binaryOp .Sub v (.int z tb)) t 11 (fun t' => t' = t) := by
  intro dp un gd cn cs a ccd cl outer A₀ base h₀ L m news s x Q E B F X N T hk H hd hu ret
  dsimp only
  have H0 := H
  have fin : wpAny (model prog w) (ktrTop dp un gd cn cs L a ccd cl outer) (call (.ref 135) [.ref x, .int z tb]) (PySem.W.CmpBack Q) E s := by
    refine nsub_ok hW hz dp un gd cn cs a ccd cl outer A₀ base h₀ L m news s x _ E B F X N T hk H hd hu ?_
    intro r t' new h' tk' H' R' F' N'
    exact ret r t' new h' tk' H' R' F' N'
  cases H with
  | zero h1 h2 h3 m1 m2 => walk1; exact fin
  | var h1 h2 m1 m2 => walk1; exact fin
  | mul h1 h2 h3 hv m1 m2 => walk1; exact fin
  | div h1 h2 h3 hv m1 m2 => walk1; exact fin
  | mod h1 h2 h3 hv m1 m2 => walk1; exact fin
end
section
local macro_rules | `(tactic| k_all) => `(tactic| assumption)
local macro_rules | `(tactic| walk_at "call builtin:list.pop") => `(tactic| (k_here; k_dflt ((with_reducible show wpAny _ _ (call (Value.builtin _) [Value.ref _, Value.int _ _]) _ _ _); refine' pop0 ?F ?N ?U ?z ?_; (case F => k_asm); (case N => k_asm); (case U => k_upd); (case z => omega)); intro h' F' N'))
local macro_rules | `(tactic| walk_at "truthy ref") => `(tactic| (k_here; (with_reducible show wpAny _ _ (truthy (Value.ref _)) _ _ _); k_dflt (refine' truthy_cons ?N ?m ?z ?_; (case N => k_asm); (case m => k_mem); (case z => omega); k_whole)))
local macro_rules | `(tactic| walk_at "call ref") => `(tactic| (k_here; refine wpAny_call ?_; k_dflt ktr_enter))
local macro_rules | `(tactic| k_room) => `(tactic| ((try simp only [depth_mark, depth_under_make, depth_under_kw, depth_in1, depth_deeper]); (try dsimp only [ktrTop]); omega))
local macro_rules | `(tactic| ktr_room) => `(tactic| ((try simp only [depth_mark, depth_under_make, depth_under_kw, depth_in1, depth_deeper]); (try dsimp only [ktrTop]); omega))
local macro_rules | `(tactic| k_units) => `(tactic| ((try simp only [units_in1, units_deeper, Around.mark_units]); (try dsimp only [ktrTop]); omega))
local macro_rules | `(tactic| k_mem) => `(tactic| first | exact List.mem_cons_self | assumption | (refine' List.mem_cons_of_mem _ ?_; k_mem) | (refine' List.mem_append_left _ ?_; k_mem) | (refine' List.mem_append_right _ ?_; k_mem))
local macro_rules | `(tactic| ktr_rel) => `(tactic| (refine' NodeIn.mono ?nma ?nmb; (case nma => assumption); (case nmb => (intro p9 h9; k_mem))))
local macro_rules | `(tactic| walk_at "getAttr ref") => `(tactic| (k_here; (with_reducible show wpAny _ _ (getAttr (Value.ref _) (PySem.Str.ofString "min") _) _ _ _); k_dflt (refine' get_min ?F ?X ?N ?H ?_; (case F => k_asm); (case X => k_asm); (case N => k_asm); (case H => ktr_rel); k_whole); intro u' tk'; (try dsimp only)))
local macro_rules | `(tactic| walk_at "getAttr ref") => `(tactic| (k_here; (with_reducible show wpAny _ _ (getAttr (Value.ref _) (PySem.Str.ofString "max") _) _ _ _); k_dflt (refine' get_max ?F ?X ?N ?H ?_; (case F => k_asm); (case X => k_asm); (case N => k_asm); (case H => ktr_rel); k_whole); intro u' tk'; (try dsimp only)))
local macro_rules | `(tactic| walk_at "ite") => `(tactic| (k_here; first | (refine ite_pos (by (simp only [beq_iff_eq, bne_iff_ne, decide_eq_true_eq, Bool.not_eq_true', Bool.not_eq_eq_eq_not, Bool.not_true, Bool.not_false, ne_eq, decide_eq_false_iff_not, beq_eq_false_iff_ne]); omega) ?_; walk_say "PRUNED+") | (refine ite_neg (by (simp only [beq_iff_eq, bne_iff_ne, decide_eq_true_eq, Bool.not_eq_true', Bool.not_eq_eq_eq_not, Bool.not_true, Bool.not_false, ne_eq, decide_eq_false_iff_not, beq_eq_false_iff_ne]); omega) ?_; walk_say "PRUNED-")))
local macro_rules | `(tactic| tb_rel) => `(tactic| first | assumption | rfl | (intro h9; cases h9) | omega | ((try dsimp only [Nd.mx, Nd.pr] at *); omega))
local macro_rules | `(tactic| walk_at "CompEnd") => `(tactic| (k_here; k_dflt (refine' compEnd_same ?F ?N ?off ?S ?_; (case F => k_asm); (case N => k_asm); (case off => first | assumption | (simp only [LCg.Off3, and_true]; first | done | assumption)); (case S => lcg_src))))
local macro_rules | `(tactic| walk_at "binaryOp FloorDiv int int") => `(tactic| (k_here; (with_reducible refine floordiv_int ?kbe ?_ (Or.inl (Mine.pyl ?p0 ?p1))); (case kbe => omega); (case p0 => omega); (case p1 => omega)))
local macro_rules | `(tactic| walk_at "binaryOp Sub ref int") => `(tactic| (k_here; k_dflt (refine' tells1_use (bsub_ok ?wf ?z0) ?B ?F ?X ?N ?T ?hk ?H ?hd ?hu ?_; (case B => k_asm); (case F => k_asm); (case X => k_asm); (case N => k_asm); (case T => k_asm); (case hk => first | assumption | rfl); (case H => ktr_rel); (case wf => tb_rel); (case z0 => first | rfl | omega | (simp only [Int.zero_fdiv, Int.mul_zero]; done)); (case hd => k_room); (case hu => k_units); k_whole); intro r' t' new' h' tk' H' R' F' N'; subst R'; (try dsimp only [PySem.W.CmpBack, PyProof.Rows.CmpBack])))
variable {prog : Program} {w : World} {p : Program} {loose : List Str} {mean : ExcName → Option Value} {mg mb : Str → Option Value} {dp un : Nat} {gd : Option (List Code)} {cn : Str} {cs : Scope} {a : Addr} {ccd : Value} {cl : List (Str × Addr)} {outer : List Env} {A₀ : Around} {base h₀ : Heap} {L : Addr} {m : Str → Option Value} {s : Shared} {Q E : Value → Shared → Prop}
theorem nmod_ok {M b : Int} {tb : Tok} {t : Nd} (hW : t.WF M) (hb : 1 ≤ b) (hb1 : b < 100000000000000000) (hmb : t.mx < 100000000000000000) :
    Tells1 prog w p loose mean mg mb (fun v => call (.ref 220) [v, .int b tb]) t 14 (ModRes M b t) := by
  intro dp un gd cn cs a ccd cl outer A₀ base h₀ L m news s x Q E B F X N T hk H hd hu ret
  dsimp only
  have hmx0 := WF.mx0 hW
  have hf0 : Int.fdiv 0 b = 0 := Int.zero_fdiv b
  have hr : b = 1 ∨ (2 ≤ b ∧ t.mx < b) ∨ (2 ≤ b ∧ b ≤ t.mx) := by omega
  rcases hr with rfl | ⟨hb2, hs⟩ | ⟨hb2, hs⟩
  · k_steps
    refine ret.fin (modres_one hW) (by k_asm) (by k_asm) (by intro p9 h9; k_mem) ?_
    refine' NodeIn.zero ?a ?b ?c ?d ?e
    (case d => k_mem); (case e => k_mem); all_goals rfl
  · have hf1 : Int.fdiv t.mx b = 0 := by rw [fd (by omega)]; exact Int.ediv_eq_zero_of_lt hmx0 hs
    k_steps
    exact ret.fin (modres_small hW hb hs) (by k_asm) (by k_asm) (by intro p9 h9; k_mem) (by ktr_rel)
  · have hf1 : 1 ≤ Int.fdiv t.mx b := by rw [fd (by omega)]; exact Int.le_ediv_of_mul_le (by omega) (by omega)
    k_steps
    refine ret.fin (modres_mod hW hb2 hs) (by k_asm) (by k_asm) (by intro p9 h9; k_mem) ?_
    refine' NodeIn.mod ?ma ?mb ?mc ?mn ?md ?me
    (case md => k_mem); (case me => k_mem); (case mn => ktr_rel); all_goals (first | rfl | omega)
end
section
local macro_rules | `(tactic| k_all) => `(tactic| assumption)
local macro_rules | `(tactic| walk_at "call builtin:list.pop") => `(tactic| (k_here; k_dflt ((with_reducible show wpAny _ _ (call (Value.builtin _) [Value.ref _, Value.int _ _]) _ _ _); refine' pop0 ?F ?N ?U ?z ?_; (case F => k_asm); (case N => k_asm); (case U => k_upd); (case z => omega)); intro h' F' N'))
local macro_rules | `(tactic| walk_at "truthy ref") => `(tactic| (k_here; (with_reducible show wpAny _ _ (truthy (Value.ref _)) _ _ _); k_dflt (refine' truthy_cons ?N ?m ?z ?_; (case N => k_asm); (case m => k_mem); (case z => omega); k_whole)))
local macro_rules | `(tactic| walk_at "call ref") => `(tactic| (k_here; refine wpAny_call ?_; k_dflt ktr_enter))
local macro_rules | `(tactic| k_room) => `(tactic| ((try simp only [depth_mark, depth_under_make, depth_under_kw, depth_in1, depth_deeper]); (try dsimp only [ktrTop]); omega))
local macro_rules | `(tactic| ktr_room) => `(tactic| ((try simp only [depth_mark, depth_under_make, depth_under_kw, depth_in1, depth_deeper]); (try dsimp only [ktrTop]); omega))
local macro_rules | `(tactic| k_units) => `(tactic| ((try simp only [units_in1, units_deeper, Around.mark_units]); (try dsimp only [ktrTop]); omega))
local macro_rules | `(tactic| k_mem) => `(tactic| first | exact List.mem_cons_self | assumption | (refine' List.mem_cons_of_mem _ ?_; k_mem) | (refine' List.mem_append_left _ ?_; k_mem) | (refine' List.mem_append_right _ ?_; k_mem))
local macro_rules | `(tactic| ktr_rel) => `(tactic| (refine' NodeIn.mono ?nma ?nmb; (case nma => assumption); (case nmb => (intro p9 h9; k_mem))))
local macro_rules | `(tactic| walk_at "getAttr ref") => `(tactic| (k_here; (with_reducible show wpAny _ _ (getAttr (Value.ref _) (PySem.Str.ofString "min") _) _ _ _); k_dflt (refine' get_min ?F ?X ?N ?H ?_; (case F => k_asm); (case X => k_asm); (case N => k_asm); (case H => ktr_rel); k_whole); intro u' tk'; (try dsimp only)))
local macro_rules | `(tactic| walk_at "getAttr ref") => `(tactic| (k_here; (with_reducible show wpAny _ _ (getAttr (Value.ref _) (PySem.Str.ofString "max") _) _ _ _); k_dflt (refine' get_max ?F ?X ?N ?H ?_; (case F => k_asm); (case X => k_asm); (case N => k_asm); (case H => ktr_rel); k_whole); intro u' tk'; (try dsimp only)))
local macro_rules | `(tactic| walk_at "ite") => `(tactic| (k_here; first | (refine ite_pos (by (simp only [beq_iff_eq, bne_iff_ne, decide_eq_true_eq, Bool.not_eq_true', Bool.not_eq_eq_eq_not, Bool.not_true, Bool.not_false, ne_eq, decide_eq_false_iff_not, beq_eq_false_iff_ne]); omega) ?_; walk_say "PRUNED+") | (refine ite_neg (by (simp only [beq_iff_eq, bne_iff_ne, decide_eq_true_eq, Bool.not_eq_true', Bool.not_eq_eq_eq_not, Bool.not_true, Bool.not_false, ne_eq, decide_eq_false_iff_not, beq_eq_false_iff_ne]); omega) ?_; walk_say "PRUNED-")))
local macro_rules | `(tactic| tb_rel) => `(tactic| first | assumption | rfl | (intro h9; cases h9) | omega | ((try dsimp only [Nd.mx, Nd.pr] at *); omega))
local macro_rules | `(tactic| walk_at "CompEnd") => `(tactic| (k_here; k_dflt (refine' compEnd_same ?F ?N ?off ?S ?_; (case F => k_asm); (case N => k_asm); (case off => first | assumption | (simp only [LCg.Off3, and_true]; first | done | assumption)); (case S => lcg_src))))
local macro_rules | `(tactic| walk_at "binaryOp FloorDiv int int") => `(tactic| (k_here; (with_reducible refine floordiv_int ?kbe ?_ (Or.inl (Mine.pyl ?p0 ?p1))); (case kbe => omega); (case p0 => omega); (case p1 => omega)))
local macro_rules | `(tactic| walk_at "call ref") => `(tactic| (k_here; (with_reducible show wpAny _ _ (call (Value.ref 220) [Value.ref _, Value.int _ _]) _ _ _); k_dflt (refine' tells1_use (nmod_ok ?wf ?b0 ?b1 ?mb) ?B ?F ?X ?N ?T ?hk ?H ?hd ?hu ?_; (case B => k_asm); (case F => k_asm); (case X => k_asm); (case N => k_asm); (case T => k_asm); (case hk => first | assumption | rfl); (case H => ktr_rel); (case wf => tb_rel); (case b0 => tb_rel); (case b1 => tb_rel); (case mb => tb_rel); (case hd => k_room); (case hu => k_units); k_whole); intro r' t' new' h' tk' H' R' F' N'; (try dsimp only [PySem.W.CmpBack, PyProof.Rows.CmpBack])))
local macro_rules | `(tactic| walk_at "binaryOp Mult ref int") => `(tactic| (k_here; k_dflt (refine' tells1_use (mul0_ok ?wf ?nm ?b0 ?b1 ?mb) ?B ?F ?X ?N ?T ?hk ?H ?hd ?hu ?_; (case B => k_asm); (case F => k_asm); (case X => k_asm); (case N => k_asm); (case T => k_asm); (case hk => first | assumption | rfl); (case H => ktr_rel); (case wf => tb_rel); (case nm => tb_rel); (case b0 => tb_rel); (case b1 => tb_rel); (case mb => tb_rel); (case hd => k_room); (case hu => k_units); k_whole); intro r' t' new' h' tk' H' R' F' N'; (have w9 := MulRes.wf R'); (have x9 := MulRes.mx R'); (try dsimp only [PySem.W.CmpBack, PyProof.Rows.CmpBack])))
local macro_rules | `(tactic| walk_at "binaryOp Mod ref int") => `(tactic| (k_here; (with_reducible rename ∀ _, Tells1 _ _ _ _ _ _ _ _ _ _ _ => ih9); k_dflt (refine' tells1_use (ih9 _) ?B ?F ?X ?N ?T ?hk ?H ?hd ?hu ?_; (case B => k_asm); (case F => k_asm); (case X => k_asm); (case N => k_asm); (case T => k_asm); (case hk => first | assumption | rfl); (case H => ktr_rel); (case hd => k_room); (case hu => k_units); k_whole); intro r' t' new' h' tk' H' R' F' N'; (try dsimp only [PySem.W.CmpBack, PyProof.Rows.CmpBack])))
variable {prog : Program} {w : World} {p : Program} {loose : List Str} {mean : ExcName → Option Value} {mg mb : Str → Option Value} {dp un : Nat} {gd : Option (List Code)} {cn : Str} {cs : Scope} {a : Addr} {ccd : Value} {cl : List (Str × Addr)} {outer : List Env} {A₀ : Around} {base h₀ : Heap} {L : Addr} {m : Str → Option Value} {s : Shared} {Q E : Value → Shared → Prop}
theorem modM_ok {M k b : Int} {tb : Tok} {t : Nd} (hW : (Nd.mul t k).WF M) (hb : 1 ≤ b) (hpb : (Nd.mul t k).pr * b < 1000000000000000) :
    Tells1 prog w p loose mean mg mb (fun v => binaryOp .Mod v (.int b tb)) (.mul t k) 17 (ModRes M b (.mul t k)) := by
  intro dp un gd cn cs a ccd cl outer A₀ base h₀ L m news s x Q E B F X N T hk H hd hu ret
  dsimp only
  obtain ⟨hWt, hm, hmx, hk2⟩ := hW
  have hpr := WF.pr1 hWt
  have hmxp := WF.mxpr hWt
  have hmx0 := WF.mx0 hWt
  simp only [Nd.pr] at hpb
  have hq := pr_part hWt hk2
  have hq2 := le_mul1 (k := b) (show 0 ≤ t.pr * k by omega) hb
  have hb9 : b < 1000000000000000 := by
    have := Int.mul_le_mul_of_nonneg_right (show 1 ≤ t.pr * k by omega) (show 0 ≤ b by omega)
    omega
  have hf0 : 0 ≤ Int.fmod k b := by rw [fm (by omega)]; exact Int.emod_nonneg _ (by omega)
  have hf1 : Int.fmod k b < b := by rw [fm (by omega)]; exact Int.emod_lt_of_pos _ (by omega)
  have hf2 : Int.fmod k b ≤ k := by
    rw [fm (by omega)]
    rcases Int.lt_or_le k b with h | h
    · rw [Int.emod_eq_of_lt (by omega) h]; exact Int.le_refl _
    · have := Int.emod_lt_of_pos k (show 0 < b by omega); omega
  have hf3 : t.mx * Int.fmod k b < 100000000000000000 := by
    have h1 := Int.mul_le_mul_of_nonneg_left hf2 hmx0
    have h2 := Int.mul_le_mul_of_nonneg_right hmxp (show 0 ≤ k by omega)
    rw [Int.mul_assoc] at h2
    omega
  cases H with
  | mul h1 h2 h3 hv m1 m2 =>
    subst h1 h2 h3
    obtain ⟨y, rfl⟩ := hv.isRef
    k_steps
    exact ret.fin (modres_mul hk2 hWt hb (by assumption) (ModRes.sz (b := b) (M := M) (by assumption)) (by assumption)) (by k_asm) (by k_asm) (by intro p9 h9; k_mem) (by ktr_rel)
theorem modD_ok {M b : Int} {tb : Tok} {t : Nd} (hW : t.WF M) (hm : t.isMul = false) (hb : 1 ≤ b) (hpb : t.pr * b < 1000000000000000) (hnm : ∀ u k, t ≠ .mod u k) :
    Tells1 prog w p loose mean mg mb (fun v => binaryOp .Mod v (.int b tb)) t 17 (ModRes M b t) := by
  intro dp un gd cn cs a ccd cl outer A₀ base h₀ L m news s x Q E B F X N T hk H hd hu ret
  dsimp only
  have hpr := WF.pr1 hW
  have hmxp := WF.mxpr hW
  have hq2 := le_mul1 (k := b) (show 0 ≤ t.pr by omega) hb
  have hb9 : b < 1000000000000000 := by
    have := Int.mul_le_mul_of_nonneg_right hpr (show 0 ≤ b by omega)
    omega
  have H0 := H
  cases H with
  | zero h1 h2 h3 m1 m2 =>
    k_steps
    exact ret.fin (by assumption) (by k_asm) (by k_asm) (by intro p9 h9; k_mem) (by ktr_rel)
  | var h1 h2 m1 m2 =>
    k_steps
    exact ret.fin (by assumption) (by k_asm) (by k_asm) (by intro p9 h9; k_mem) (by ktr_rel)
  | mul => cases hm
  | div h1 h2 h3 hv m1 m2 =>
    k_steps
    exact ret.fin (by assumption) (by k_asm) (by k_asm) (by intro p9 h9; k_mem) (by ktr_rel)
  | mod h1 h2 h3 hv m1 m2 => exact absurd rfl (hnm _ _)
theorem modR_ok {M k b : Int} {tb : Tok} {t : Nd} (hW : (Nd.mod t k).WF M) (hb : 1 ≤ b) (hpb : (Nd.mod t k).pr * b < 1000000000000000)
    (ih : ∀ tb, Tells1 prog w p loose mean mg mb (fun v => binaryOp .Mod v (.int b tb)) t (17 + 2 * t.sz) (ModRes M b t)) :
    Tells1 prog w p loose mean mg mb (fun v => binaryOp .Mod v (.int b tb)) (.mod t k) (17 + 2 * (t.sz + 1)) (ModRes M b (.mod t k)) := by
  intro dp un gd cn cs a ccd cl outer A₀ base h₀ L m news s x Q E B F X N T hk H hd hu ret
  dsimp only
  have hW0 := hW
  obtain ⟨hWt, hk2, hkm⟩ := hW
  have hpr := WF.pr1 hWt
  have hmxp := WF.mxpr hWt
  simp only [Nd.pr] at hpb
  have hq := pr_part hWt hk2
  have hq2 := le_mul1 (k := b) (show 0 ≤ t.pr * k by omega) hb
  have hb9 : b < 1000000000000000 := by
    have := Int.mul_le_mul_of_nonneg_right (show 1 ≤ t.pr * k by omega) (show 0 ≤ b by omega)
    omega
  have hm9 : (Nd.mod t k).mx < 100000000000000000 := by simp only [Nd.mx]; omega
  have H0 := H
  cases H with
  | mod h1 h2 h3 hv m1 m2 =>
    subst h1 h2 h3
    obtain ⟨y, rfl⟩ := hv.isRef
    k_steps
    · exact ret.fin (modres_mod2 hk2 hWt hb (by assumption) (by assumption)) (by k_asm) (by k_asm) (by intro p9 h9; k_mem) (by ktr_rel)
    · exact ret.fin (by assumption) (by k_asm) (by k_asm) (by intro p9 h9; k_mem) (by ktr_rel)

theorem mod_ok {M : Int} : ∀ {t : Nd} {b : Int}, t.WF M → 1 ≤ b → t.pr * b < 1000000000000000 → ∀ tb : Tok,
    Tells1 prog w p loose mean mg mb (fun v => binaryOp .Mod v (.int b tb)) t (17 + 2 * t.sz) (ModRes M b t)
  | .zero, b, hW, hb, hp, tb => modD_ok hW rfl hb hp (fun _ _ h => nomatch h)
  | .var m, b, hW, hb, hp, tb => modD_ok hW rfl hb hp (fun _ _ h => nomatch h)
  | .mul t k, b, hW, hb, hp, tb => (modM_ok hW hb hp).more (by omega)
  | .div t k, b, hW, hb, hp, tb => (modD_ok hW rfl hb hp (fun _ _ h => nomatch h)).more (by omega)
  | .mod t k, b, hW, hb, hp, tb => modR_ok hW hb hp fun tb => mod_ok hW.1 hb (by
      have h1 := (pr_part hW.1 hW.2.1).1
      have h2 := Int.mul_le_mul_of_nonneg_right h1 (show 0 ≤ b by omega)
      simp only [Nd.pr] at hp
      omega) tb
end
section
local macro_rules | `(tactic| k_all) => `(tactic| assumption)
local macro_rules | `(tactic| walk_at "call builtin:list.pop") => `(tactic| (k_here; k_dflt ((with_reducible show wpAny _ _ (call (Value.builtin _) [Value.ref _, Value.int _ _]) _ _ _); refine' pop0 ?F ?N ?U ?z ?_; (case F => k_asm); (case N => k_asm); (case U => k_upd); (case z => omega)); intro h' F' N'))
local macro_rules | `(tactic| walk_at "truthy ref") => `(tactic| (k_here; (with_reducible show wpAny _ _ (truthy (Value.ref _)) _ _ _); k_dflt (refine' truthy_cons ?N ?m ?z ?_; (case N => k_asm); (case m => k_mem); (case z => omega); k_whole)))
local macro_rules | `(tactic| walk_at "call ref") => `(tactic| (k_here; refine wpAny_call ?_; k_dflt ktr_enter))
local macro_rules | `(tactic| k_room) => `(tactic| ((try simp only [depth_mark, depth_under_make, depth_under_kw, depth_in1, depth_deeper]); (try dsimp only [ktrTop]); omega))
local macro_rules | `(tactic| ktr_room) => `(tactic| ((try simp only [depth_mark, depth_under_make, depth_under_kw, depth_in1, depth_deeper]); (try dsimp only [ktrTop]); omega))
local macro_rules | `(tactic| k_units) => `(tactic| ((try simp only [units_in1, units_deeper, Around.mark_units]); (try dsimp only [ktrTop]); omega))
local macro_rules | `(tactic| k_mem) => `(tactic| first | exact List.mem_cons_self | assumption | (refine' List.mem_cons_of_mem _ ?_; k_mem) | (refine' List.mem_append_left _ ?_; k_mem) | (refine' List.mem_append_right _ ?_; k_mem))
local macro_rules | `(tactic| ktr_rel) => `(tactic| (refine' NodeIn.mono ?nma ?nmb; (case nma => assumption); (case nmb => (intro p9 h9; k_mem))))
local macro_rules | `(tactic| walk_at "getAttr ref") => `(tactic| (k_here; (with_reducible show wpAny _ _ (getAttr (Value.ref _) (PySem.Str.ofString "min") _) _ _ _); k_dflt (refine' get_min ?F ?X ?N ?H ?_; (case F => k_asm); (case X => k_asm); (case N => k_asm); (case H => ktr_rel); k_whole); intro u' tk'; (try dsimp only)))
local macro_rules | `(tactic| walk_at "getAttr ref") => `(tactic| (k_here; (with_reducible show wpAny _ _ (getAttr (Value.ref _) (PySem.Str.ofString "max") _) _ _ _); k_dflt (refine' get_max ?F ?X ?N ?H ?_; (case F => k_asm); (case X => k_asm); (case N => k_asm); (case H => ktr_rel); k_whole); intro u' tk'; (try dsimp only)))
local macro_rules | `(tactic| walk_at "ite") => `(tactic| (k_here; first | (refine ite_pos (by (simp only [beq_iff_eq, bne_iff_ne, decide_eq_true_eq, Bool.not_eq_true', Bool.not_eq_eq_eq_not, Bool.not_true, Bool.not_false, ne_eq, decide_eq_false_iff_not, beq_eq_false_iff_ne]); omega) ?_; walk_say "PRUNED+") | (refine ite_neg (by (simp only [beq_iff_eq, bne_iff_ne, decide_eq_true_eq, Bool.not_eq_true', Bool.not_eq_eq_eq_not, Bool.not_true, Bool.not_false, ne_eq, decide_eq_false_iff_not, beq_eq_false_iff_ne]); omega) ?_; walk_say "PRUNED-")))
local macro_rules | `(tactic| tb_rel) => `(tactic| first | assumption | rfl | (intro h9; cases h9) | omega | ((try dsimp only [Nd.mx, Nd.pr] at *); omega))
local macro_rules | `(tactic| walk_at "CompEnd") => `(tactic| (k_here; k_dflt (refine' compEnd_same ?F ?N ?off ?S ?_; (case F => k_asm); (case N => k_asm); (case off => first | assumption | (simp only [LCg.Off3, and_true]; first | done | assumption)); (case S => lcg_src))))
local macro_rules | `(tactic| walk_at "binaryOp FloorDiv int int") => `(tactic| (k_here; (with_reducible refine floordiv_int ?kbe ?_ (Or.inl (Mine.pyl ?p0 ?p1))); (case kbe => omega); (case p0 => omega); (case p1 => omega)))
local macro_rules | `(tactic| walk_at "call ref") => `(tactic| (k_here; refine wpAny_call ?_; k_dflt (refine' code_def ?k1 ?k2 ?k3 ?k4 ?k5 ?kA ?kF ?kK ?k6 ?k7 ?k8 ?k9 ?kB ?_ ?c2 ?c3 ?c4 ?c5; (case kA => exact rfl); (case kF => exact rfl); (case kK => assumption); (case k1 => k_asm); (case k2 => k_asm); (case k3 => k_asm); (case k4 => k_asm); (case k5 => k_asm); (case k6 => k_is); (case k7 => k_is); (case k8 => ktr_room); (case k9 => first | exact BindsTo.of_eq rfl | exact binds_K (by k_in) rfl (by k_is) rfl rfl rfl); (case c5 => decide); (case kB => exact locs rfl); (case c2 => exact rfl); (case c3 => exact rfl); (case c4 => exact rfl); k_whole; intro g' L' h' FG' F' N' B' X' T'; (try dsimp only); (try k_fold))))
variable {prog : Program} {w : World} {p : Program} {loose : List Str} {mean : ExcName → Option Value} {mg mb : Str → Option Value} {dp un : Nat} {gd : Option (List Code)} {cn : Str} {cs : Scope} {a : Addr} {ccd : Value} {cl : List (Str × Addr)} {outer : List Env} {A₀ : Around} {base h₀ : Heap} {L : Addr} {m : Str → Option Value} {s : Shared} {Q E : Value → Shared → Prop}
theorem nfd3_ok {M b : Int} {tb : Tok} {f : Bool} {t : Nd} (hW : t.WF M) (hb : 1 ≤ b) (hb1 : b < 100000000000000000) (hmb : t.mx < 100000000000000000) :
    Tells1 prog w p loose mean mg mb (fun v => call (.ref 206) [v, .int b tb, .bool f]) t 8 (DivRes M b t) := by
  intro dp un gd cn cs a ccd cl outer A₀ base h₀ L m news s x Q E B F X N T hk H hd hu ret
  dsimp only
  have hmx0 := WF.mx0 hW
  have hf0 : Int.fdiv 0 b = 0 := Int.zero_fdiv b
  have hr : b = 1 ∨ (2 ≤ b ∧ t.mx < b) ∨ (2 ≤ b ∧ b ≤ t.mx) := by omega
  rcases hr with rfl | ⟨hb2, hs⟩ | ⟨hb2, hs⟩
  · k_steps
    exact ret.fin (divres_one hW) (by k_asm) (by k_asm) (by intro p9 h9; k_mem) (by ktr_rel)
  · have hf1 : Int.fdiv t.mx b = 0 := by rw [fd (by omega)]; exact Int.ediv_eq_zero_of_lt hmx0 hs
    k_steps
    refine ret.fin (divres_small hW hb hs) (by k_asm) (by k_asm) (by intro p9 h9; k_mem) ?_
    refine' NodeIn.zero ?a ?b ?c ?d ?e
    (case d => k_mem); (case e => k_mem); all_goals (first | rfl | exact hf0)
  · have hf1 : 1 ≤ Int.fdiv t.mx b := by rw [fd (by omega)]; exact Int.le_ediv_of_mul_le (by omega) (by omega)
    k_steps
    refine ret.fin (divres_div hW hb2 hs) (by k_asm) (by k_asm) (by intro p9 h9; k_mem) ?_
    refine' NodeIn.div ?ma ?mb ?mc ?mn ?md ?me
    (case md => k_mem); (case me => k_mem); (case mn => ktr_rel); all_goals (first | rfl | exact hf0 | omega)
end
section
local macro_rules | `(tactic| k_all) => `(tactic| assumption)
local macro_rules | `(tactic| walk_at "call builtin:list.pop") => `(tactic| (k_here; k_dflt ((with_reducible show wpAny _ _ (call (Value.builtin _) [Value.ref _, Value.int _ _]) _ _ _); refine' pop0 ?F ?N ?U ?z ?_; (case F => k_asm); (case N => k_asm); (case U => k_upd); (case z => omega)); intro h' F' N'))
local macro_rules | `(tactic| walk_at "truthy ref") => `(tactic| (k_here; (with_reducible show wpAny _ _ (truthy (Value.ref _)) _ _ _); k_dflt (refine' truthy_cons ?N ?m ?z ?_; (case N => k_asm); (case m => k_mem); (case z => omega); k_whole)))
local macro_rules | `(tactic| walk_at "call ref") => `(tactic| (k_here; refine wpAny_call ?_; k_dflt ktr_enter))
local macro_rules | `(tactic| k_room) => `(tactic| ((try simp only [depth_mark, depth_under_make, depth_under_kw, depth_in1, depth_deeper]); (try dsimp only [ktrTop]); omega))
local macro_rules | `(tactic| ktr_room) => `(tactic| ((try simp only [depth_mark, depth_under_make, depth_under_kw, depth_in1, depth_deeper]); (try dsimp only [ktrTop]); omega))
local macro_rules | `(tactic| k_units) => `(tactic| ((try simp only [units_in1, units_deeper, Around.mark_units]); (try dsimp only [ktrTop]); omega))
local macro_rules | `(tactic| k_mem) => `(tactic| first | exact List.mem_cons_self | assumption | (refine' List.mem_cons_of_mem _ ?_; k_mem) | (refine' List.mem_append_left _ ?_; k_mem) | (refine' List.mem_append_right _ ?_; k_mem))
local macro_rules | `(tactic| ktr_rel) => `(tactic| (refine' NodeIn.mono ?nma ?nmb; (case nma => assumption); (case nmb => (intro p9 h9; k_mem))))
local macro_rules | `(tactic| walk_at "getAttr ref") => `(tactic| (k_here; (with_reducible show wpAny _ _ (getAttr (Value.ref _) (PySem.Str.ofString "min") _) _ _ _); k_dflt (refine' get_min ?F ?X ?N ?H ?_; (case F => k_asm); (case X => k_asm); (case N => k_asm); (case H => ktr_rel); k_whole); intro u' tk'; (try dsimp only)))
local macro_rules | `(tactic| walk_at "getAttr ref") => `(tactic| (k_here; (with_reducible show wpAny _ _ (getAttr (Value.ref _) (PySem.Str.ofString "max") _) _ _ _); k_dflt (refine' get_max ?F ?X ?N ?H ?_; (case F => k_asm); (case X => k_asm); (case N => k_asm); (case H => ktr_rel); k_whole); intro u' tk'; (try dsimp only)))
local macro_rules | `(tactic| walk_at "ite") => `(tactic| (k_here; first | (refine ite_pos (by (simp only [beq_iff_eq, bne_iff_ne, decide_eq_true_eq, Bool.not_eq_true', Bool.not_eq_eq_eq_not, Bool.not_true, Bool.not_false, ne_eq, decide_eq_false_iff_not, beq_eq_false_iff_ne]); omega) ?_; walk_say "PRUNED+") | (refine ite_neg (by (simp only [beq_iff_eq, bne_iff_ne, decide_eq_true_eq, Bool.not_eq_true', Bool.not_eq_eq_eq_not, Bool.not_true, Bool.not_false, ne_eq, decide_eq_false_iff_not, beq_eq_false_iff_ne]); omega) ?_; walk_say "PRUNED-")))
local macro_rules | `(tactic| tb_rel) => `(tactic| first | assumption | rfl | (intro h9; cases h9) | omega | ((try dsimp only [Nd.mx, Nd.pr] at *); omega))
local macro_rules | `(tactic| walk_at "CompEnd") => `(tactic| (k_here; k_dflt (refine' compEnd_same ?F ?N ?off ?S ?_; (case F => k_asm); (case N => k_asm); (case off => first | assumption | (simp only [LCg.Off3, and_true]; first | done | assumption)); (case S => lcg_src))))
local macro_rules | `(tactic| walk_at "binaryOp FloorDiv int int") => `(tactic| (k_here; (with_reducible refine floordiv_int ?kbe ?_ (Or.inl (Mine.pyl ?p0 ?p1))); (case kbe => omega); (case p0 => omega); (case p1 => omega)))
local macro_rules | `(tactic| walk_at "call ref") => `(tactic| (k_here; refine wpAny_call ?_; k_dflt (refine' code_def ?k1 ?k2 ?k3 ?k4 ?k5 ?kA ?kF ?kK ?k6 ?k7 ?k8 ?k9 ?kB ?_ ?c2 ?c3 ?c4 ?c5; (case kA => exact rfl); (case kF => exact rfl); (case kK => assumption); (case k1 => k_asm); (case k2 => k_asm); (case k3 => k_asm); (case k4 => k_asm); (case k5 => k_asm); (case k6 => k_is); (case k7 => k_is); (case k8 => ktr_room); (case k9 => first | exact BindsTo.of_eq rfl | exact binds_K (by k_in) rfl (by k_is) rfl rfl rfl); (case c5 => decide); (case kB => exact locs rfl); (case c2 => exact rfl); (case c3 => exact rfl); (case c4 => exact rfl); k_whole; intro g' L' h' FG' F' N' B' X' T'; (try dsimp only); (try k_fold))))
local macro_rules | `(tactic| walk_at "no such key") => `(tactic| skip)
variable {prog : Program} {w : World} {p : Program} {loose : List Str} {mean : ExcName → Option Value} {mg mb : Str → Option Value} {dp un : Nat} {gd : Option (List Code)} {cn : Str} {cs : Scope} {a : Addr} {ccd : Value} {cl : List (Str × Addr)} {outer : List Env} {A₀ : Around} {base h₀ : Heap} {L : Addr} {m : Str → Option Value} {s : Shared} {Q E : Value → Shared → Prop}
theorem nfd2_ok {M b : Int} {tb : Tok} {t : Nd} (hW : t.WF M) (hb : 1 ≤ b) (hb1 : b < 100000000000000000) (hmb : t.mx < 100000000000000000) :
    Tells1 prog w p loose mean mg mb (fun v => call (.ref 206) [v, .int b tb]) t 8 (DivRes M b t) := by
  intro dp un gd cn cs a ccd cl outer A₀ base h₀ L m news s x Q E B F X N T hk H hd hu ret
  dsimp only
  have hmx0 := WF.mx0 hW
  have hf0 : Int.fdiv 0 b = 0 := Int.zero_fdiv b
  have hr : b = 1 ∨ (2 ≤ b ∧ t.mx < b) ∨ (2 ≤ b ∧ b ≤ t.mx) := by omega
  rcases hr with rfl | ⟨hb2, hs⟩ | ⟨hb2, hs⟩
  · k_steps
    exact ret.fin (divres_one hW) (by k_asm) (by k_asm) (by intro p9 h9; k_mem) (by ktr_rel)
  · have hf1 : Int.fdiv t.mx b = 0 := by rw [fd (by omega)]; exact Int.ediv_eq_zero_of_lt hmx0 hs
    k_steps
    refine ret.fin (divres_small hW hb hs) (by k_asm) (by k_asm) (by intro p9 h9; k_mem) ?_
    refine' NodeIn.zero ?a ?b ?c ?d ?e
    (case d => k_mem); (case e => k_mem); all_goals (first | rfl | exact hf0)
  · have hf1 : 1 ≤ Int.fdiv t.mx b := by rw [fd (by omega)]; exact Int.le_ediv_of_mul_le (by omega) (by omega)
    k_steps
    refine ret.fin (divres_div hW hb2 hs) (by k_asm) (by k_asm) (by intro p9 h9; k_mem) ?_
    refine' NodeIn.div ?ma ?mb ?mc ?mn ?md ?me
    (case md => k_mem); (case me => k_mem); (case mn => ktr_rel); all_goals (first | rfl | exact hf0 | omega)
end
section
local macro_rules | `(tactic| k_all) => `(tactic| assumption)
local macro_rules | `(tactic| walk_at "call builtin:list.pop") => `(tactic| (k_here; k_dflt ((with_reducible show wpAny _ _ (call (Value.builtin _) [Value.ref _, Value.int _ _]) _ _ _); refine' pop0 ?F ?N ?U ?z ?_; (case F => k_asm); (case N => k_asm); (case U => k_upd); (case z => omega)); intro h' F' N'))
local macro_rules | `(tactic| walk_at "truthy ref") => `(tactic| (k_here; (with_reducible show wpAny _ _ (truthy (Value.ref _)) _ _ _); k_dflt (refine' truthy_cons ?N ?m ?z ?_; (case N => k_asm); (case m => k_mem); (case z => omega); k_whole)))
local macro_rules | `(tactic| walk_at "call ref") => `(tactic| (k_here; refine wpAny_call ?_; k_dflt ktr_enter))
local macro_rules | `(tactic| k_room) => `(tactic| ((try simp only [depth_mark, depth_under_make, depth_under_kw, depth_in1, depth_deeper]); (try dsimp only [ktrTop]); omega))
local macro_rules | `(tactic| ktr_room) => `(tactic| ((try simp only [depth_mark, depth_under_make, depth_under_kw, depth_in1, depth_deeper]); (try dsimp only [ktrTop]); omega))
local macro_rules | `(tactic| k_units) => `(tactic| ((try simp only [units_in1, units_deeper, Around.mark_units]); (try dsimp only [ktrTop]); omega))
local macro_rules | `(tactic| k_mem) => `(tactic| first | exact List.mem_cons_self | assumption | (refine' List.mem_cons_of_mem _ ?_; k_mem) | (refine' List.mem_append_left _ ?_; k_mem) | (refine' List.mem_append_right _ ?_; k_mem))
local macro_rules | `(tactic| ktr_rel) => `(tactic| (refine' NodeIn.mono ?nma ?nmb; (case nma => assumption); (case nmb => (intro p9 h9; k_mem))))
local macro_rules | `(tactic| walk_at "getAttr ref") => `(tactic| (k_here; (with_reducible show wpAny _ _ (getAttr (Value.ref _) (PySem.Str.ofString "min") _) _ _ _); k_dflt (refine' get_min ?F ?X ?N ?H ?_; (case F => k_asm); (case X => k_asm); (case N => k_asm); (case H => ktr_rel); k_whole); intro u' tk'; (try dsimp only)))
local macro_rules | `(tactic| walk_at "getAttr ref") => `(tactic| (k_here; (with_reducible show wpAny _ _ (getAttr (Value.ref _) (PySem.Str.ofString "max") _) _ _ _); k_dflt (refine' get_max ?F ?X ?N ?H ?_; (case F => k_asm); (case X => k_asm); (case N => k_asm); (case H => ktr_rel); k_whole); intro u' tk'; (try dsimp only)))
local macro_rules | `(tactic| walk_at "ite") => `(tactic| (k_here; first | (refine ite_pos (by (simp only [beq_iff_eq, bne_iff_ne, decide_eq_true_eq, Bool.not_eq_true', Bool.not_eq_eq_eq_not, Bool.not_true, Bool.not_false, ne_eq, decide_eq_false_iff_not, beq_eq_false_iff_ne]); omega) ?_; walk_say "PRUNED+") | (refine ite_neg (by (simp only [beq_iff_eq, bne_iff_ne, decide_eq_true_eq, Bool.not_eq_true', Bool.not_eq_eq_eq_not, Bool.not_true, Bool.not_false, ne_eq, decide_eq_false_iff_not, beq_eq_false_iff_ne]); omega) ?_; walk_say "PRUNED-")))
local macro_rules | `(tactic| tb_rel) => `(tactic| first | assumption | rfl | (intro h9; cases h9) | omega | ((try dsimp only [Nd.mx, Nd.pr] at *); omega))
local macro_rules | `(tactic| walk_at "CompEnd") => `(tactic| (k_here; k_dflt (refine' compEnd_same ?F ?N ?off ?S ?_; (case F => k_asm); (case N => k_asm); (case off => first | assumption | (simp only [LCg.Off3, and_true]; first | done | assumption)); (case S => lcg_src))))
local macro_rules | `(tactic| walk_at "binaryOp FloorDiv int int") => `(tactic| (k_here; (with_reducible refine floordiv_int ?kbe ?_ (Or.inl (Mine.pyl ?p0 ?p1))); (case kbe => omega); (case p0 => omega); (case p1 => omega)))
local macro_rules | `(tactic| walk_at "binaryOp Mult ref int") => `(tactic| (k_here; k_dflt (refine' tells1_use (mul0_ok ?wf ?nm ?b0 ?b1 ?mb) ?B ?F ?X ?N ?T ?hk ?H ?hd ?hu ?_; (case B => k_asm); (case F => k_asm); (case X => k_asm); (case N => k_asm); (case T => k_asm); (case hk => first | assumption | rfl); (case H => ktr_rel); (case wf => tb_rel); (case nm => tb_rel); (case b0 => tb_rel); (case b1 => tb_rel); (case mb => tb_rel); (case hd => k_room); (case hu => k_units); k_whole); intro r' t' new' h' tk' H' R' F' N'; (have w9 := MulRes.wf R'); (have x9 := MulRes.mx R'); (try dsimp only [PySem.W.CmpBack, PyProof.Rows.CmpBack])))
local macro_rules | `(tactic| walk_at "call ref") => `(tactic| (k_here; refine wpAny_call ?_; k_dflt (refine' code_def ?k1 ?k2 ?k3 ?k4 ?k5 ?kA ?kF ?kK ?k6 ?k7 ?k8 ?k9 ?kB ?_ ?c2 ?c3 ?c4 ?c5; (case kA => exact rfl); (case kF => exact rfl); (case kK => assumption); (case k1 => k_asm); (case k2 => k_asm); (case k3 => k_asm); (case k4 => k_asm); (case k5 => k_asm); (case k6 => k_is); (case k7 => k_is); (case k8 => ktr_room); (case k9 => first | exact BindsTo.of_eq rfl | exact binds_K (by k_in) rfl (by k_is) rfl rfl rfl); (case c5 => decide); (case kB => exact locs rfl); (case c2 => exact rfl); (case c3 => exact rfl); (case c4 => exact rfl); k_whole; intro g' L' h' FG' F' N' B' X' T'; (try dsimp only); (try k_fold))))
local macro_rules | `(tactic| walk_at "binaryOp FloorDiv ref int") => `(tactic| (k_here; (with_reducible rename ∀ _ _, _ = _ → Tells1 _ _ _ _ _ _ _ _ _ _ _ => ih9); k_dflt (refine' tells1_use (ih9 _ _ ?ce) ?B ?F ?X ?N ?T ?hk ?H ?hd ?hu ?_; (case ce => with_reducible rfl); (case B => k_asm); (case F => k_asm); (case X => k_asm); (case N => k_asm); (case T => k_asm); (case hk => first | assumption | rfl); (case H => ktr_rel); (case hd => k_room); (case hu => k_units); k_whole); intro r' t' new' h' tk' H' R' F' N'; (try dsimp only [PySem.W.CmpBack, PyProof.Rows.CmpBack])))
local macro_rules | `(tactic| walk_at "call ref") => `(tactic| (k_here; (with_reducible show wpAny _ _ (call (Value.ref 206) [Value.ref _, Value.int _ _, Value.bool _]) _ _ _); k_dflt (refine' tells1_use (nfd3_ok ?wf ?b0 ?b1 ?mb) ?B ?F ?X ?N ?T ?hk ?H ?hd ?hu ?_; (case B => k_asm); (case F => k_asm); (case X => k_asm); (case N => k_asm); (case T => k_asm); (case hk => first | assumption | rfl); (case H => ktr_rel); (case wf => tb_rel); (case b0 => tb_rel); (case b1 => tb_rel); (case mb => tb_rel); (case hd => k_room); (case hu => k_units); k_whole); intro r' t' new' h' tk' H' R' F' N'; (try dsimp only [PySem.W.CmpBack, PyProof.Rows.CmpBack])))
local macro_rules | `(tactic| walk_at "call ref") => `(tactic| (k_here; (with_reducible show wpAny _ _ (call (Value.ref 206) [Value.ref _, Value.int _ _]) _ _ _); k_dflt (refine' tells1_use (nfd2_ok ?wf ?b0 ?b1 ?mb) ?B ?F ?X ?N ?T ?hk ?H ?hd ?hu ?_; (case B => k_asm); (case F => k_asm); (case X => k_asm); (case N => k_asm); (case T => k_asm); (case hk => first | assumption | rfl); (case H => ktr_rel); (case wf => tb_rel); (case b0 => tb_rel); (case b1 => tb_rel); (case mb => tb_rel); (case hd => k_room); (case hu => k_units); k_whole); intro r' t' new' h' tk' H' R' F' N'; (try dsimp only [PySem.W.CmpBack, PyProof.Rows.CmpBack])))
variable {prog : Program} {w : World} {p : Program} {loose : List Str} {mean : ExcName → Option Value} {mg mb : Str → Option Value} {dp un : Nat} {gd : Option (List Code)} {cn : Str} {cs : Scope} {a : Addr} {ccd : Value} {cl : List (Str × Addr)} {outer : List Env} {A₀ : Around} {base h₀ : Heap} {L : Addr} {m : Str → Option Value} {s : Shared} {Q E : Value → Shared → Prop}
theorem fdB_ok {M b : Int} {tb : Tok} {t : Nd} (hW : t.WF M) (hb : 1 ≤ b) (hpb : t.pr * b < 1000000000000000) (ht : t = .zero ∨ ∃ m, t = .var m) :
    Tells1 prog w p loose mean mg mb (fun v => binaryOp .FloorDiv v (.int b tb)) t 20 (DivRes M b t) := by
  intro dp un gd cn cs a ccd cl outer A₀ base h₀ L m news s x Q E B F X N T hk H hd hu ret
  dsimp only
  have hpr := WF.pr1 hW
  have hmxp := WF.mxpr hW
  have hq2 := le_mul1 (k := b) (show 0 ≤ t.pr by omega) hb
  have hb9 : b < 1000000000000000 := by
    have := Int.mul_le_mul_of_nonneg_right hpr (show 0 ≤ b by omega)
    omega
  have H0 := H
  rcases ht with rfl | ⟨m, rfl⟩
  · cases H with
    | zero h1 h2 h3 m1 m2 =>
      k_steps
      exact ret.fin (by assumption) (by k_asm) (by k_asm) (by intro p9 h9; k_mem) (by ktr_rel)
  · cases H with
    | var h1 h2 m1 m2 =>
      k_steps
      exact ret.fin (by assumption) (by k_asm) (by k_asm) (by intro p9 h9; k_mem) (by ktr_rel)
theorem fdD_ok {M k b : Int} {tb : Tok} {t : Nd} (hW : (Nd.div t k).WF M) (hb : 1 ≤ b) (hpb : (Nd.div t k).pr * b < 1000000000000000)
    (ih : ∀ (c : Int) (tb : Tok), c = k * b → Tells1 prog w p loose mean mg mb (fun v => binaryOp .FloorDiv v (.int c tb)) t (20 + 4 * t.sz) (DivRes M c t)) :
    Tells1 prog w p loose mean mg mb (fun v => binaryOp .FloorDiv v (.int b tb)) (.div t k) (20 + 4 * (t.sz + 1)) (DivRes M b (.div t k)) := by
  intro dp un gd cn cs a ccd cl outer A₀ base h₀ L m news s x Q E B F X N T hk H hd hu ret
  dsimp only
  obtain ⟨hWt, hk2, hkm⟩ := hW
  have hpr := WF.pr1 hWt
  simp only [Nd.pr] at hpb
  have hq := pr_part hWt hk2
  have hq2 := le_mul1 (k := b) (show 0 ≤ t.pr * k by omega) hb
  have hk9 : k < 1000000000000000 := by omega
  cases H with
  | div h1 h2 h3 hv m1 m2 =>
    subst h1 h2 h3
    obtain ⟨y, rfl⟩ := hv.isRef
    k_steps
    exact ret.fin (divres_div2 hk2 hb (by assumption)) (by k_asm) (by k_asm) (by intro p9 h9; k_mem) (by ktr_rel)
theorem fdM_ok {M k b : Int} {tb : Tok} {t : Nd} (hW : (Nd.mul t k).WF M) (hb : 1 ≤ b) (hpb : (Nd.mul t k).pr * b < 1000000000000000)
    (ih : b.fmod k = 0 → ∀ (c : Int) (tb : Tok), c = b.fdiv k → Tells1 prog w p loose mean mg mb (fun v => binaryOp .FloorDiv v (.int c tb)) t (20 + 4 * t.sz) (DivRes M c t)) :
    Tells1 prog w p loose mean mg mb (fun v => binaryOp .FloorDiv v (.int b tb)) (.mul t k) (20 + 4 * (t.sz + 1)) (DivRes M b (.mul t k)) := by
  intro dp un gd cn cs a ccd cl outer A₀ base h₀ L m news s x Q E B F X N T hk H hd hu ret
  dsimp only
  have hW0 := hW
  have hmxp := WF.mxpr hW
  obtain ⟨hWt, hm, hmx, hk2⟩ := hW
  have hpr := WF.pr1 hWt
  have hmxp' := WF.mxpr hWt
  simp only [Nd.pr] at hpb hmxp
  have hq := pr_part hWt hk2
  have hq2 := le_mul1 (k := b) (show 0 ≤ t.pr * k by omega) hb
  have hk9 : k < 1000000000000000 := by omega
  have hb9 : b < 1000000000000000 := by
    have := Int.mul_le_mul_of_nonneg_right (show 1 ≤ t.pr * k by omega) (show 0 ≤ b by omega)
    omega
  have hf0 : 0 ≤ Int.fdiv k b := by rw [fd (by omega)]; exact Int.ediv_nonneg (by omega) (by omega)
  have hf1 : Int.fdiv k b ≤ k := by rw [fd (by omega)]; exact Int.ediv_le_self _ (by omega)
  have hm9 : (Nd.mul t k).mx < 100000000000000000 := by omega
  have H0 := H
  by_cases hbk : Int.fmod b k = 0
  · have ih1 := ih hbk
    cases H with
    | mul h1 h2 h3 hv m1 m2 =>
    subst h1 h2 h3
    obtain ⟨y, rfl⟩ := hv.isRef
    k_steps
    · exact ret.fin (divres_mulA hk2 hWt hb (by assumption) (by assumption)) (by k_asm) (by k_asm) (by intro p9 h9; k_mem) (by ktr_rel)
    · exact ret.fin (divres_mulB hk2 hWt hb hbk (by assumption)) (by k_asm) (by k_asm) (by intro p9 h9; k_mem) (by ktr_rel)
  · cases H with
    | mul h1 h2 h3 hv m1 m2 =>
    subst h1 h2 h3
    obtain ⟨y, rfl⟩ := hv.isRef
    k_steps
    · exact ret.fin (divres_mulA hk2 hWt hb (by assumption) (by assumption)) (by k_asm) (by k_asm) (by intro p9 h9; k_mem) (by ktr_rel)
    · exact ret.fin (by assumption) (by k_asm) (by k_asm) (by intro p9 h9; k_mem) (by ktr_rel)

theorem fdR_ok {M k b : Int} {tb : Tok} {t : Nd} (hW : (Nd.mod t k).WF M) (hb : 1 ≤ b) (hpb : (Nd.mod t k).pr * b < 1000000000000000)
    (ih : ∀ (c : Int) (tb : Tok), c = b → Tells1 prog w p loose mean mg mb (fun v => binaryOp .FloorDiv v (.int c tb)) t (20 + 4 * t.sz) (DivRes M c t)) :
    Tells1 prog w p loose mean mg mb (fun v => binaryOp .FloorDiv v (.int b tb)) (.mod t k) (20 + 4 * (t.sz + 1)) (DivRes M b (.mod t k)) := by
  intro dp un gd cn cs a ccd cl outer A₀ base h₀ L m news s x Q E B F X N T hk H hd hu ret
  dsimp only
  have hW0 := hW
  have hmxp := WF.mxpr hW
  obtain ⟨hWt, hk2, hkm⟩ := hW
  have hpr := WF.pr1 hWt
  simp only [Nd.pr] at hpb hmxp
  have hq := pr_part hWt hk2
  have hq2 := le_mul1 (k := b) (show 0 ≤ t.pr * k by omega) hb
  have hk9 : k < 1000000000000000 := by omega
  have hb9 : b < 1000000000000000 := by
    have := Int.mul_le_mul_of_nonneg_right (show 1 ≤ t.pr * k by omega) (show 0 ≤ b by omega)
    omega
  have hm9 : (Nd.mod t k).mx < 100000000000000000 := by omega
  have H0 := H
  cases H with
  | mod h1 h2 h3 hv m1 m2 =>
    subst h1 h2 h3
    obtain ⟨y, rfl⟩ := hv.isRef
    k_steps
    · rename DivRes _ _ _ _ => R1
      rename Int.fmod _ _ = 0 => hkb
      obtain ⟨e1, e2⟩ := fdiv_exact hk2 hb hkb
      have e3 := Int.mul_le_mul_of_nonneg_right R1.pr (show 0 ≤ Int.fdiv _ b by exact Int.le_trans (by decide) e1)
      rw [Int.mul_assoc, e2] at e3
      have e4 := R1.sz
      refine' tells1_use (mod_ok R1.wf e1 ?c2 _) ?B ?F ?X ?N ?T ?hk ?H ?hd ?hu ?_
      (case B => k_asm); (case F => k_asm); (case X => k_asm); (case N => k_asm); (case T => k_asm); (case hk => rfl); (case H => ktr_rel)
      (case c2 => omega); (case hd => k_room); (case hu => k_units)
      intro r2 t2 n2 h2 tk2 H2 R2 F2 N2
      dsimp only [PySem.W.CmpBack, PyProof.Rows.CmpBack]
      k_steps
      exact ret.fin (divres_mod hk2 hWt hb hkb R1 R2) (by k_asm) (by k_asm) (by intro p9 h9; k_mem) (by ktr_rel)
    · exact ret.fin (by assumption) (by k_asm) (by k_asm) (by intro p9 h9; k_mem) (by ktr_rel)

theorem fd_ok {M : Int} : ∀ {t : Nd} {b : Int}, t.WF M → 1 ≤ b → t.pr * b < 1000000000000000 → ∀ tb : Tok,
    Tells1 prog w p loose mean mg mb (fun v => binaryOp .FloorDiv v (.int b tb)) t (20 + 4 * t.sz) (DivRes M b t)
  | .zero, b, hW, hb, hp, tb => fdB_ok hW hb hp (.inl rfl)
  | .var m, b, hW, hb, hp, tb => fdB_ok hW hb hp (.inr ⟨m, rfl⟩)
  | .mul t k, b, hW, hb, hp, tb => fdM_ok hW hb hp fun hbk c tb hc => by
      subst hc
      obtain ⟨hWt, hm, hmx, hk2⟩ := hW
      simp only [Nd.pr] at hp
      have hpr := WF.pr1 hWt
      have h0 : 1 ≤ b.fdiv k := by
        rw [fm (by omega)] at hbk
        rw [fd (by omega)]
        have e := Int.mul_ediv_add_emod b k
        rw [hbk, Int.add_zero] at e
        rcases Int.lt_or_le (b / k) 1 with h1 | h1
        · have : k * (b / k) ≤ k * 0 := Int.mul_le_mul_of_nonneg_left (by omega) (by omega)
          omega
        · exact h1
      have h1 : b.fdiv k ≤ b := by rw [fd (by omega)]; exact Int.ediv_le_self _ (by omega)
      refine fd_ok hWt h0 ?_ tb
      have h2 : t.pr * b.fdiv k ≤ t.pr * b := Int.mul_le_mul_of_nonneg_left h1 (by omega)
      have h3 : t.pr * b ≤ t.pr * k * b := Int.mul_le_mul_of_nonneg_right (pr_part hWt hk2).1 (by omega)
      omega
  | .div t k, b, hW, hb, hp, tb => fdD_ok hW hb hp fun c tb hc => by
      subst hc
      simp only [Nd.pr] at hp
      refine fd_ok hW.1 ?_ (by rw [← Int.mul_assoc]; exact hp) tb
      have h2 := hW.2.1
      have := Int.mul_le_mul h2 hb (by omega) (by omega)
      omega
  | .mod t k, b, hW, hb, hp, tb => fdR_ok hW hb hp fun c tb hc => by
      subst hc
      simp only [Nd.pr] at hp
      refine fd_ok hW.1 hb ?_ tb
      have h3 := Int.mul_le_mul_of_nonneg_right (pr_part hW.1 hW.2.1).1 (show 0 ≤ c by omega)
      omega
end
section
variable {prog : Program} {w : World} {p : Program} {loose : List Str} {mean : ExcName → Option Value} {mg mb : Str → Option Value} {dp un : Nat} {gd : Option (List Code)} {cn : Str} {cs : Scope} {a : Addr} {ccd : Value} {cl : List (Str × Addr)} {outer : List Env} {A₀ : Around} {base h₀ : Heap} {L : Addr} {m : Str → Option Value} {s : Shared} {Q E : Value → Shared → Prop}
def TellsV (prog : Program) (w : World) (p : Program) (loose : List Str) (mean : ExcName → Option Value) (mg mb : Str → Option Value) (t : Nd) (k : Int) (lim : Nat) : Prop :=
  ∀ (dp un : Nat) (gd : Option (List Code)) (cn : Str) (cs : Scope) (a : Addr) (ccd : Value) (cl : List (Str × Addr)) (outer : List Env) (A₀ : Around) (base h₀ : Heap) (L : Addr) (m : Str → Option Value) (news : List (Addr × Obj)) (s : Shared) (x pl : Addr) (t1 t2 : Tok)
    (Q E : Value → Shared → Prop),
    Below A₀ base outer h₀ → Fr h₀ L s.heap m → (Mine.hd.heap_39 w.params).In h₀ → News h₀ L s.heap news → Top p loose mean mg mb h₀ → cs.kind = .function → NodeIn w.params news (.ref x) t →
    (pl, ({ cls := .type "tuple", data := .seq #[.int k t1, .int 0 t2] } : Obj)) ∈ news → dp + lim < recursionLimit → un + 8 * lim < cLine →
    (∀ (tok : Tok) (h' : Heap) (tk' : Nat), Fr h₀ L h' m → News h₀ L h' news → Q (.int (t.val k) tok) { s with heap := h', toks := tk' }) →
    wpAny (model prog w) (ktrTop dp un gd cn cs L a ccd cl outer) (call (.ref 733) [.ref x, .ref pl]) Q E s
theorem tellsV_use {t : Nd} {k : Int} {lim : Nat} {news : List (Addr × Obj)} {x pl : Addr} {t1 t2 : Tok} (C : TellsV prog w p loose mean mg mb t k lim) (B : Below A₀ base outer h₀) (F : Fr h₀ L s.heap m) (X : (Mine.hd.heap_39 w.params).In h₀) (N : News h₀ L s.heap news) (T : Top p loose mean mg mb h₀) (hk : cs.kind = .function) (H : NodeIn w.params news (.ref x) t)
    (hpl : (pl, ({ cls := .type "tuple", data := .seq #[.int k t1, .int 0 t2] } : Obj)) ∈ news) (hd : dp + lim < recursionLimit) (hu : un + 8 * lim < cLine)
    (ret : ∀ (tok : Tok) (h' : Heap) (tk' : Nat), Fr h₀ L h' m → News h₀ L h' news → Q (.int (t.val k) tok) { s with heap := h', toks := tk' }) :
    wpAny (model prog w) (ktrTop dp un gd cn cs L a ccd cl outer) (call (.ref 733) [.ref x, .ref pl]) Q E s := C _ _ _ _ _ _ _ _ _ _ _ _ _ _ _ _ _ _ _ _ _ _ B F X N T hk H hpl hd hu ret
end
section
local macro_rules | `(tactic| k_all) => `(tactic| assumption)
local macro_rules | `(tactic| walk_at "call builtin:list.pop") => `(tactic| (k_here; k_dflt ((with_reducible show wpAny _ _ (call (Value.builtin _) [Value.ref _, Value.int _ _]) _ _ _); refine' pop0 ?F ?N ?U ?z ?_; (case F => k_asm); (case N => k_asm); (case U => k_upd); (case z => omega)); intro h' F' N'))
local macro_rules | `(tactic| walk_at "truthy ref") => `(tactic| (k_here; (with_reducible show wpAny _ _ (truthy (Value.ref _)) _ _ _); k_dflt (refine' truthy_cons ?N ?m ?z ?_; (case N => k_asm); (case m => k_mem); (case z => omega); k_whole)))
local macro_rules | `(tactic| walk_at "call ref") => `(tactic| (k_here; refine wpAny_call ?_; k_dflt ktr_enter))
local macro_rules | `(tactic| k_room) => `(tactic| ((try simp only [depth_mark, depth_under_make, depth_under_kw, depth_in1, depth_deeper]); (try dsimp only [ktrTop]); omega))
local macro_rules | `(tactic| ktr_room) => `(tactic| ((try simp only [depth_mark, depth_under_make, depth_under_kw, depth_in1, depth_deeper]); (try dsimp only [ktrTop]); omega))
local macro_rules | `(tactic| k_units) => `(tactic| ((try simp only [units_in1, units_deeper, Around.mark_units]); (try dsimp only [ktrTop]); omega))
local macro_rules | `(tactic| k_mem) => `(tactic| first | exact List.mem_cons_self | assumption | (refine' List.mem_cons_of_mem _ ?_; k_mem) | (refine' List.mem_append_left _ ?_; k_mem) | (refine' List.mem_append_right _ ?_; k_mem))
local macro_rules | `(tactic| ktr_rel) => `(tactic| (refine' NodeIn.mono ?nma ?nmb; (case nma => assumption); (case nmb => (intro p9 h9; k_mem))))
local macro_rules | `(tactic| walk_at "getAttr ref") => `(tactic| (k_here; (with_reducible show wpAny _ _ (getAttr (Value.ref _) (PySem.Str.ofString "min") _) _ _ _); k_dflt (refine' get_min ?F ?X ?N ?H ?_; (case F => k_asm); (case X => k_asm); (case N => k_asm); (case H => ktr_rel); k_whole); intro u' tk'; (try dsimp only)))
local macro_rules | `(tactic| walk_at "getAttr ref") => `(tactic| (k_here; (with_reducible show wpAny _ _ (getAttr (Value.ref _) (PySem.Str.ofString "max") _) _ _ _); k_dflt (refine' get_max ?F ?X ?N ?H ?_; (case F => k_asm); (case X => k_asm); (case N => k_asm); (case H => ktr_rel); k_whole); intro u' tk'; (try dsimp only)))
local macro_rules | `(tactic| walk_at "ite") => `(tactic| (k_here; first | (refine ite_pos (by (simp only [beq_iff_eq, bne_iff_ne, decide_eq_true_eq, Bool.not_eq_true', Bool.not_eq_eq_eq_not, Bool.not_true, Bool.not_false, ne_eq, decide_eq_false_iff_not, beq_eq_false_iff_ne]); omega) ?_; walk_say "PRUNED+") | (refine ite_neg (by (simp only [beq_iff_eq, bne_iff_ne, decide_eq_true_eq, Bool.not_eq_true', Bool.not_eq_eq_eq_not, Bool.not_true, Bool.not_false, ne_eq, decide_eq_false_iff_not, beq_eq_false_iff_ne]); omega) ?_; walk_say "PRUNED-")))
local macro_rules | `(tactic| tb_rel) => `(tactic| first | assumption | rfl | (intro h9; cases h9) | omega | ((try dsimp only [Nd.mx, Nd.pr] at *); omega))
local macro_rules | `(tactic| walk_at "CompEnd") => `(tactic| (k_here; k_dflt (refine' compEnd_same ?F ?N ?off ?S ?_; (case F => k_asm); (case N => k_asm); (case off => first | assumption | (simp only [LCg.Off3, and_true]; first | done | assumption)); (case S => lcg_src))))
local macro_rules | `(tactic| walk_at "binaryOp FloorDiv int int") => `(tactic| (k_here; (with_reducible refine floordiv_int ?kbe ?_ (Or.inl (Mine.pyl ?p0 ?p1))); (case kbe => omega); (case p0 => omega); (case p1 => omega)))
local macro_rules | `(tactic| walk_at "call ref") => `(tactic| (k_here; refine wpAny_call ?_; k_dflt (refine' code_defC ?k1 ?k2 ?k3 ?k4 ?k5 ?kA ?kF ?kK ?k6 ?k7 ?k8 ?k9 ?kB ?kD ?_ ?c2 ?c3 ?c4; (case kA => exact rfl); (case kF => exact rfl); (case kK => first | assumption | exact rfl); (case k1 => k_asm); (case k2 => k_asm); (case k3 => k_asm); (case k4 => k_asm); (case k5 => k_asm); (case k6 => k_is); (case k7 => k_is); (case k8 => ktr_room); (case k9 => exact BindsTo.of_eq rfl); (case kB => exact rfl); (case kD => decide +kernel); (case c2 => exact rfl); (case c3 => exact rfl); (case c4 => exact rfl); k_whole; intro g' L' h' tk' cells' FG' F' N' Y' B' X' T' l1; (try k_lt l1); k_cells Y'; (try simp only [List.cons_append, List.nil_append] at N'); (try dsimp only); (try k_fold))))
local macro_rules | `(tactic| walk_at "call ref") => `(tactic| (k_here; (with_reducible show wpAny _ _ (call (Value.ref 733) [Value.ref _, Value.ref _]) _ _ _); (with_reducible rename TellsV _ _ _ _ _ _ _ _ _ _ => ih9); k_dflt (refine' tellsV_use ih9 ?B ?F ?X ?N ?T ?hk ?H ?hpl ?hd ?hu ?_; (case B => k_asm); (case F => k_asm); (case X => k_asm); (case N => k_asm); (case T => k_asm); (case hk => first | assumption | rfl); (case H => ktr_rel); (case hpl => k_mem); (case hd => k_room); (case hu => k_units); k_whole); intro u' h' tk' F' N'; (try dsimp only)))
variable {prog : Program} {w : World} {p : Program} {loose : List Str} {mean : ExcName → Option Value} {mg mb : Str → Option Value} {dp un : Nat} {gd : Option (List Code)} {cn : Str} {cs : Scope} {a : Addr} {ccd : Value} {cl : List (Str × Addr)} {outer : List Env} {A₀ : Around} {base h₀ : Heap} {L : Addr} {m : Str → Option Value} {s : Shared} {Q E : Value → Shared → Prop}
theorem val0_ok {k : Int} : TellsV prog w p loose mean mg mb .zero k 4 := by
  intro dp un gd cn cs a ccd cl outer A₀ base h₀ L m news s x pl t1 t2 Q E B F X N T hk H hpl hd hu ret
  cases H with
  | zero h1 h2 h3 m1 m2 =>
    subst h1 h2 h3
    k_steps
    exact ret _ _ _ (by k_asm) (newsSub (by k_asm) (by intro p9 h9; k_mem))
theorem valV_ok {M k : Int} : TellsV prog w p loose mean mg mb (.var M) k 4 := by
  intro dp un gd cn cs a ccd cl outer A₀ base h₀ L m news s x pl t1 t2 Q E B F X N T hk H hpl hd hu ret
  cases H with
  | var h1 h2 m1 m2 =>
    subst h1 h2
    k_steps
    exact ret _ _ _ (by k_asm) (newsSub (by k_asm) (by intro p9 h9; k_mem))
theorem valM_ok {c k : Int} {t : Nd} {n : Nat} (ih : TellsV prog w p loose mean mg mb t k n) (hc : 2 ≤ c) (hc1 : c < 1000000000000000000) : TellsV prog w p loose mean mg mb (.mul t c) k (n + 2) := by
  intro dp un gd cn cs a ccd cl outer A₀ base h₀ L m news s x pl t1 t2 Q E B F X N T hk H hpl hd hu ret
  cases H with
  | mul h1 h2 h3 hv m1 m2 =>
    subst h1 h2 h3
    obtain ⟨y, rfl⟩ := hv.isRef
    k_steps
    exact ret _ _ _ (by k_asm) (newsSub (by k_asm) (by intro p9 h9; k_mem))
theorem valD_ok {c k : Int} {t : Nd} {n : Nat} (ih : TellsV prog w p loose mean mg mb t k n) (hc : 2 ≤ c) (hc1 : c < 1000000000000000000) : TellsV prog w p loose mean mg mb (.div t c) k (n + 2) := by
  intro dp un gd cn cs a ccd cl outer A₀ base h₀ L m news s x pl t1 t2 Q E B F X N T hk H hpl hd hu ret
  cases H with
  | div h1 h2 h3 hv m1 m2 =>
    subst h1 h2 h3
    obtain ⟨y, rfl⟩ := hv.isRef
    k_steps
    exact ret _ _ _ (by k_asm) (newsSub (by k_asm) (by intro p9 h9; k_mem))
theorem valR_ok {c k : Int} {t : Nd} {n : Nat} (ih : TellsV prog w p loose mean mg mb t k n) (hc : 2 ≤ c) (hc1 : c < 1000000000000000000) : TellsV prog w p loose mean mg mb (.mod t c) k (n + 2) := by
  intro dp un gd cn cs a ccd cl outer A₀ base h₀ L m news s x pl t1 t2 Q E B F X N T hk H hpl hd hu ret
  cases H with
  | mod h1 h2 h3 hv m1 m2 =>
    subst h1 h2 h3
    obtain ⟨y, rfl⟩ := hv.isRef
    k_steps
    exact ret _ _ _ (by k_asm) (newsSub (by k_asm) (by intro p9 h9; k_mem))
theorem val_ok {M k : Int} : ∀ {t : Nd}, t.WF M → t.pr < 1000000000000000 → TellsV prog w p loose mean mg mb t k (4 + 2 * t.sz)
  | .zero, _, _ => val0_ok
  | .var m, _, _ => valV_ok
  | .mul t c, hW, hp => by
    have h2 := hW.2.2.2
    have h3 := pr_part hW.1 h2
    simp only [Nd.pr] at hp
    exact valM_ok (val_ok hW.1 (by omega)) h2 (by omega)
  | .div t c, hW, hp => by
    have h2 := hW.2.1
    have h3 := pr_part hW.1 h2
    simp only [Nd.pr] at hp
    exact valD_ok (val_ok hW.1 (by omega)) h2 (by omega)
  | .mod t c, hW, hp => by
    have h2 := hW.2.1
    have h3 := pr_part hW.1 h2
    simp only [Nd.pr] at hp
    exact valR_ok (val_ok hW.1 (by omega)) h2 (by omega)
end
section
local macro_rules | `(tactic| k_all) => `(tactic| assumption)
local macro_rules | `(tactic| walk_at "call builtin:list.pop") => `(tactic| (k_here; k_dflt ((with_reducible show wpAny _ _ (call (Value.builtin _) [Value.ref _, Value.int _ _]) _ _ _); refine' pop0 ?F ?N ?U ?z ?_; (case F => k_asm); (case N => k_asm); (case U => k_upd); (case z => omega)); intro h' F' N'))
local macro_rules | `(tactic| walk_at "truthy ref") => `(tactic| (k_here; (with_reducible show wpAny _ _ (truthy (Value.ref _)) _ _ _); k_dflt (refine' truthy_cons ?N ?m ?z ?_; (case N => k_asm); (case m => k_mem); (case z => omega); k_whole)))
local macro_rules | `(tactic| walk_at "call ref") => `(tactic| (k_here; refine wpAny_call ?_; k_dflt ktr_enter))
local macro_rules | `(tactic| k_room) => `(tactic| ((try simp only [depth_mark, depth_under_make, depth_under_kw, depth_in1, depth_deeper]); (try dsimp only [ktrTop]); omega))
local macro_rules | `(tactic| ktr_room) => `(tactic| ((try simp only [depth_mark, depth_under_make, depth_under_kw, depth_in1, depth_deeper]); (try dsimp only [ktrTop]); omega))
local macro_rules | `(tactic| k_units) => `(tactic| ((try simp only [units_in1, units_deeper, Around.mark_units]); (try dsimp only [ktrTop]); omega))
local macro_rules | `(tactic| k_mem) => `(tactic| first | exact List.mem_cons_self | assumption | (refine' List.mem_cons_of_mem _ ?_; k_mem) | (refine' List.mem_append_left _ ?_; k_mem) | (refine' List.mem_append_right _ ?_; k_mem))
local macro_rules | `(tactic| ktr_rel) => `(tactic| (refine' NodeIn.mono ?nma ?nmb; (case nma => assumption); (case nmb => (intro p9 h9; k_mem))))
local macro_rules | `(tactic| walk_at "getAttr ref") => `(tactic| (k_here; (with_reducible show wpAny _ _ (getAttr (Value.ref _) (PySem.Str.ofString "min") _) _ _ _); k_dflt (refine' get_min ?F ?X ?N ?H ?_; (case F => k_asm); (case X => k_asm); (case N => k_asm); (case H => ktr_rel); k_whole); intro u' tk'; (try dsimp only)))
local macro_rules | `(tactic| walk_at "getAttr ref") => `(tactic| (k_here; (with_reducible show wpAny _ _ (getAttr (Value.ref _) (PySem.Str.ofString "max") _) _ _ _); k_dflt (refine' get_max ?F ?X ?N ?H ?_; (case F => k_asm); (case X => k_asm); (case N => k_asm); (case H => ktr_rel); k_whole); intro u' tk'; (try dsimp only)))
local macro_rules | `(tactic| walk_at "ite") => `(tactic| (k_here; first | (refine ite_pos (by (simp only [beq_iff_eq, bne_iff_ne, decide_eq_true_eq, Bool.not_eq_true', Bool.not_eq_eq_eq_not, Bool.not_true, Bool.not_false, ne_eq, decide_eq_false_iff_not, beq_eq_false_iff_ne]); omega) ?_; walk_say "PRUNED+") | (refine ite_neg (by (simp only [beq_iff_eq, bne_iff_ne, decide_eq_true_eq, Bool.not_eq_true', Bool.not_eq_eq_eq_not, Bool.not_true, Bool.not_false, ne_eq, decide_eq_false_iff_not, beq_eq_false_iff_ne]); omega) ?_; walk_say "PRUNED-")))
local macro_rules | `(tactic| tb_rel) => `(tactic| first | assumption | rfl | (intro h9; cases h9) | omega | ((try dsimp only [Nd.mx, Nd.pr] at *); omega))
local macro_rules | `(tactic| walk_at "CompEnd") => `(tactic| (k_here; k_dflt (refine' compEnd_same ?F ?N ?off ?S ?_; (case F => k_asm); (case N => k_asm); (case off => first | assumption | (simp only [LCg.Off3, and_true]; first | done | assumption)); (case S => lcg_src))))
local macro_rules | `(tactic| walk_at "binaryOp FloorDiv int int") => `(tactic| (k_here; (with_reducible refine floordiv_int ?kbe ?_ (Or.inl (Mine.pyl ?p0 ?p1))); (case kbe => omega); (case p0 => omega); (case p1 => omega)))
local macro_rules | `(tactic| walk_at "call ref") => `(tactic| (k_here; refine wpAny_call ?_; k_dflt (refine' code_defC ?k1 ?k2 ?k3 ?k4 ?k5 ?kA ?kF ?kK ?k6 ?k7 ?k8 ?k9 ?kB ?kD ?_ ?c2 ?c3 ?c4; (case kA => exact rfl); (case kF => exact rfl); (case kK => first | assumption | exact rfl); (case k1 => k_asm); (case k2 => k_asm); (case k3 => k_asm); (case k4 => k_asm); (case k5 => k_asm); (case k6 => k_is); (case k7 => k_is); (case k8 => ktr_room); (case k9 => exact BindsTo.of_eq rfl); (case kB => exact rfl); (case kD => decide +kernel); (case c2 => exact rfl); (case c3 => exact rfl); (case c4 => exact rfl); k_whole; intro g' L' h' tk' cells' FG' F' N' Y' B' X' T' l1; (try k_lt l1); k_cells Y'; (try simp only [List.cons_append, List.nil_append] at N'); (try dsimp only); (try k_fold))))
local macro_rules | `(tactic| walk_at "call ref") => `(tactic| (k_here; (with_reducible show wpAny _ _ (call (Value.ref 733) [Value.ref _, Value.ref _]) _ _ _); (with_reducible rename ∀ _, TellsV _ _ _ _ _ _ _ _ _ _ => ih9); k_dflt (refine' tellsV_use (ih9 _) ?B ?F ?X ?N ?T ?hk ?H ?hpl ?hd ?hu ?_; (case B => k_asm); (case F => k_asm); (case X => k_asm); (case N => k_asm); (case T => k_asm); (case hk => first | assumption | rfl); (case H => ktr_rel); (case hpl => k_mem); (case hd => k_room); (case hu => k_units); k_whole); intro u' h' tk' F' N'; (try dsimp only)))
local macro_rules | `(tactic| walk_at "no such key") => `(tactic| skip)
variable {prog : Program} {w : World} {p : Program} {loose : List Str} {mean : ExcName → Option Value} {mg mb : Str → Option Value} {dp un : Nat} {gd : Option (List Code)} {cn : Str} {cs : Scope} {a : Addr} {ccd : Value} {cl : List (Str × Addr)} {outer : List Env} {A₀ : Around} {base h₀ : Heap} {L : Addr} {m : Str → Option Value} {s : Shared} {Q E : Value → Shared → Prop}
def rowOf (M : Int) (t : Nd) : List Int := (rangeKs 0 (M + 1 - 0).toNat).map (fun k => t.val k)
theorem row_ok {M : Int} {t : Nd} {news : List (Addr × Obj)} {x : Addr} {tm : Tok} (hM0 : 1 ≤ M) (hM1 : M ≤ 11)
  (ih : ∀ k, TellsV prog w p loose mean mg mb t k (4 + 2 * t.sz))
  (B : Below A₀ base outer h₀) (F : Fr h₀ L s.heap m) (X : (Mine.hd.heap_39 w.params).In h₀) (N : News h₀ L s.heap news) (T : Top p loose mean mg mb h₀) (hk : cs.kind = .function)
  (H : NodeIn w.params news (.ref x) t) (hd : dp + (10 + 2 * t.sz) < recursionLimit) (hu : un + 8 * (10 + 2 * t.sz) < cLine)
  (ret : ∀ (l : Addr) (ys : List Value) (h' : Heap) (tk' : Nat), IntsAre ys (rowOf M t) → (∀ p ∈ news, p.1 ≠ l) → Fr h₀ L h' m → News h₀ L h' ((l, listOf ys.toArray ys.length) :: news) → Q (.ref l) { s with heap := h', toks := tk' }) :
  wpAny (model prog w) (ktrTop dp un gd cn cs L a ccd cl outer) (call (.ref 738) [.ref x, .int M tm]) Q E s := by
  k_steps
  rename _ ∧ LCg.Off1 _ _ => o1
  refine ret _ _ _ _ (by assumption) ?_ (by k_asm) (newsSub (by k_asm) (by intro p9 h9; (rcases List.mem_cons.mp h9 with rfl | h9); (· exact List.mem_cons_self); (· k_mem)))
  exact off1_ne o1.2
end
section
local macro_rules | `(tactic| k_all) => `(tactic| assumption)
local macro_rules | `(tactic| walk_at "call builtin:list.pop") => `(tactic| (k_here; k_dflt ((with_reducible show wpAny _ _ (call (Value.builtin _) [Value.ref _, Value.int _ _]) _ _ _); refine' pop0 ?F ?N ?U ?z ?_; (case F => k_asm); (case N => k_asm); (case U => k_upd); (case z => omega)); intro h' F' N'))
local macro_rules | `(tactic| walk_at "truthy ref") => `(tactic| (k_here; (with_reducible show wpAny _ _ (truthy (Value.ref _)) _ _ _); k_dflt (refine' truthy_cons ?N ?m ?z ?_; (case N => k_asm); (case m => k_mem); (case z => omega); k_whole)))
local macro_rules | `(tactic| walk_at "call ref") => `(tactic| (k_here; refine wpAny_call ?_; k_dflt ktr_enter))
local macro_rules | `(tactic| k_room) => `(tactic| ((try simp only [depth_mark, depth_under_make, depth_under_kw, depth_in1, depth_deeper]); (try dsimp only [ktrTop]); omega))
local macro_rules | `(tactic| ktr_room) => `(tactic| ((try simp only [depth_mark, depth_under_make, depth_under_kw, depth_in1, depth_deeper]); (try dsimp only [ktrTop]); omega))
local macro_rules | `(tactic| k_units) => `(tactic| ((try simp only [units_in1, units_deeper, Around.mark_units]); (try dsimp only [ktrTop]); omega))
local macro_rules | `(tactic| k_mem) => `(tactic| first | exact List.mem_cons_self | assumption | (refine' List.mem_cons_of_mem _ ?_; k_mem) | (refine' List.mem_append_left _ ?_; k_mem) | (refine' List.mem_append_right _ ?_; k_mem))
local macro_rules | `(tactic| ktr_rel) => `(tactic| (refine' NodeIn.mono ?nma ?nmb; (case nma => assumption); (case nmb => (intro p9 h9; k_mem))))
local macro_rules | `(tactic| walk_at "getAttr ref") => `(tactic| (k_here; (with_reducible show wpAny _ _ (getAttr (Value.ref _) (PySem.Str.ofString "min") _) _ _ _); k_dflt (refine' get_min ?F ?X ?N ?H ?_; (case F => k_asm); (case X => k_asm); (case N => k_asm); (case H => ktr_rel); k_whole); intro u' tk'; (try dsimp only)))
local macro_rules | `(tactic| walk_at "getAttr ref") => `(tactic| (k_here; (with_reducible show wpAny _ _ (getAttr (Value.ref _) (PySem.Str.ofString "max") _) _ _ _); k_dflt (refine' get_max ?F ?X ?N ?H ?_; (case F => k_asm); (case X => k_asm); (case N => k_asm); (case H => ktr_rel); k_whole); intro u' tk'; (try dsimp only)))
local macro_rules | `(tactic| walk_at "ite") => `(tactic| (k_here; first | (refine ite_pos (by (simp only [beq_iff_eq, bne_iff_ne, decide_eq_true_eq, Bool.not_eq_true', Bool.not_eq_eq_eq_not, Bool.not_true, Bool.not_false, ne_eq, decide_eq_false_iff_not, beq_eq_false_iff_ne]); omega) ?_; walk_say "PRUNED+") | (refine ite_neg (by (simp only [beq_iff_eq, bne_iff_ne, decide_eq_true_eq, Bool.not_eq_true', Bool.not_eq_eq_eq_not, Bool.not_true, Bool.not_false, ne_eq, decide_eq_false_iff_not, beq_eq_false_iff_ne]); omega) ?_; walk_say "PRUNED-")))
local macro_rules | `(tactic| tb_rel) => `(tactic| first | assumption | rfl | (intro h9; cases h9) | omega | ((try dsimp only [Nd.mx, Nd.pr] at *); omega))
local macro_rules | `(tactic| walk_at "CompEnd") => `(tactic| (k_here; k_dflt (refine' compEnd_same ?F ?N ?off ?S ?_; (case F => k_asm); (case N => k_asm); (case off => first | assumption | (simp only [LCg.Off3, and_true]; first | done | assumption)); (case S => lcg_src))))
local macro_rules | `(tactic| walk_at "binaryOp FloorDiv int int") => `(tactic| (k_here; (with_reducible refine floordiv_int ?kbe ?_ (Or.inl (Mine.pyl ?p0 ?p1))); (case kbe => omega); (case p0 => omega); (case p1 => omega)))
variable {prog : Program} {w : World} {p : Program} {loose : List Str} {mean : ExcName → Option Value} {mg mb : Str → Option Value} {dp un : Nat} {gd : Option (List Code)} {cn : Str} {cs : Scope} {a : Addr} {ccd : Value} {cl : List (Str × Addr)} {outer : List Env} {A₀ : Around} {base h₀ : Heap} {L : Addr} {m : Str → Option Value} {s : Shared} {Q E : Value → Shared → Prop}
/-- what the law keeps of a node behind n deeds -/
structure Good (n : Nat) (M : Int) (t : Nd) : Prop where
  wf : t.WF M
  pr : t.pr ≤ 16 ^ n
  sz : t.sz ≤ n
theorem pow16 {n : Nat} (h : n ≤ 8) : (16 : Int) ^ n ≤ 4294967296 := by
  have : n = 0 ∨ n = 1 ∨ n = 2 ∨ n = 3 ∨ n = 4 ∨ n = 5 ∨ n = 6 ∨ n = 7 ∨ n = 8 := by omega
  rcases this with rfl | rfl | rfl | rfl | rfl | rfl | rfl | rfl | rfl <;> decide
theorem pow16s {n : Nat} {p q b : Int} (hq : q ≤ 16 ^ n) (hb0 : 0 ≤ b) (hb : b ≤ 16) (hq0 : 0 ≤ q) (hp : p ≤ q * b) : p ≤ 16 ^ (n + 1) := by
  have h1 := Int.mul_le_mul_of_nonneg_left hb hq0
  have h2 := Int.mul_le_mul_of_nonneg_right hq (show (0 : Int) ≤ 16 by decide)
  have h3 : (16 : Int) ^ (n + 1) = 16 ^ n * 16 := Int.pow_succ 16 n
  omega
theorem Good.mul {n : Nat} {M b : Int} {t t' : Nd} (g : Good n M t) (hb1 : b ≤ 16) (r : MulRes M b t t') : Good (n + 1) M t' where
  wf := r.wf
  pr := by
    have h1 := WF.pr1 g.wf
    exact pow16s g.pr (by decide) (by decide) (by omega) (r.pr 16 hb1 (by decide))
  sz := by have := r.sz; have := g.sz; omega
theorem Good.div {n : Nat} {M b : Int} {t t' : Nd} (g : Good n M t) (hb : 1 ≤ b) (hb1 : b ≤ 16) (r : DivRes M b t t') : Good (n + 1) M t' where
  wf := r.wf
  pr := by
    have h1 := WF.pr1 g.wf
    exact pow16s g.pr (by omega) hb1 (by omega) r.pr
  sz := by have := r.sz; have := g.sz; omega
theorem Good.mod {n : Nat} {M b : Int} {t t' : Nd} (g : Good n M t) (hb : 1 ≤ b) (hb1 : b ≤ 16) (r : ModRes M b t t') : Good (n + 1) M t' where
  wf := r.wf
  pr := by
    have h1 := WF.pr1 g.wf
    exact pow16s g.pr (by omega) hb1 (by omega) r.pr
  sz := by have := r.sz; have := g.sz; omega
theorem Good.pr9 {n : Nat} {M : Int} {t : Nd} (g : Good n M t) (hn : n ≤ 8) : t.pr ≤ 4294967296 := Int.le_trans g.pr (pow16 hn)
theorem Good.prb {n : Nat} {M b : Int} {t : Nd} (g : Good n M t) (hn : n ≤ 8) (hb0 : 0 ≤ b) (hb1 : b ≤ 16) : t.pr * b < 1000000000000000 := by
  have h1 := g.pr9 hn
  have h2 := WF.pr1 g.wf
  have h3 := Int.mul_le_mul_of_nonneg_right h1 hb0
  omega
theorem mulL {n : Nat} {M b : Int} {tb : Tok} {t : Nd} (g : Good n M t) (hn : n ≤ 8) (hb0 : 0 ≤ b) (hb1 : b ≤ 16) : Tells1 prog w p loose mean mg mb (fun v => binaryOp .Mult v (.int b tb)) t 60 (fun t' => MulRes M b t t' ∧ Good (n + 1) M t') := by
  have h9 := g.pr9 hn
  intro dp un gd cn cs a ccd cl outer A₀ base h₀ L m news s x Q E B F X N T hk H hd hu ret
  refine mul_ok g.wf hb0 (by omega) (by omega) (g.prb hn hb0 hb1) dp un gd cn cs a ccd cl outer A₀ base h₀ L m news s x Q E B F X N T hk H (by omega) (by omega) ?_
  intro r t' new h' tk' H' R' F' N'
  exact ret r t' new h' tk' H' ⟨R', g.mul hb1 R'⟩ F' N'
theorem divL {n : Nat} {M b : Int} {tb : Tok} {t : Nd} (g : Good n M t) (hn : n ≤ 8) (hb0 : 1 ≤ b) (hb1 : b ≤ 16) : Tells1 prog w p loose mean mg mb (fun v => binaryOp .FloorDiv v (.int b tb)) t 60 (fun t' => DivRes M b t t' ∧ Good (n + 1) M t') := by
  have h9 := g.sz
  intro dp un gd cn cs a ccd cl outer A₀ base h₀ L m news s x Q E B F X N T hk H hd hu ret
  refine fd_ok g.wf hb0 (g.prb hn (by omega) hb1) tb dp un gd cn cs a ccd cl outer A₀ base h₀ L m news s x Q E B F X N T hk H (by omega) (by omega) ?_
  intro r t' new h' tk' H' R' F' N'
  exact ret r t' new h' tk' H' ⟨R', g.div hb0 hb1 R'⟩ F' N'
theorem modL {n : Nat} {M b : Int} {tb : Tok} {t : Nd} (g : Good n M t) (hn : n ≤ 8) (hb0 : 1 ≤ b) (hb1 : b ≤ 16) : Tells1 prog w p loose mean mg mb (fun v => binaryOp .Mod v (.int b tb)) t 60 (fun t' => ModRes M b t t' ∧ Good (n + 1) M t') := by
  have h9 := g.sz
  intro dp un gd cn cs a ccd cl outer A₀ base h₀ L m news s x Q E B F X N T hk H hd hu ret
  refine mod_ok g.wf hb0 (g.prb hn (by omega) hb1) tb dp un gd cn cs a ccd cl outer A₀ base h₀ L m news s x Q E B F X N T hk H (by omega) (by omega) ?_
  intro r t' new h' tk' H' R' F' N'
  exact ret r t' new h' tk' H' ⟨R', g.mod hb0 hb1 R'⟩ F' N'
theorem rowL {n : Nat} {M : Int} {t : Nd} {news : List (Addr × Obj)} {x : Addr} {tm : Tok} (g : Good n M t) (hn : n ≤ 9) (hM0 : 1 ≤ M) (hM1 : M ≤ 11) (hp : t.pr < 1000000000000000)
  (B : Below A₀ base outer h₀) (F : Fr h₀ L s.heap m) (X : (Mine.hd.heap_39 w.params).In h₀) (N : News h₀ L s.heap news) (T : Top p loose mean mg mb h₀) (hk : cs.kind = .function)
  (H : NodeIn w.params news (.ref x) t) (hd : dp + 60 < recursionLimit) (hu : un + 480 < cLine)
  (ret : ∀ (l : Addr) (ys : List Value) (h' : Heap) (tk' : Nat), IntsAre ys (rowOf M t) → (∀ p ∈ news, p.1 ≠ l) → Fr h₀ L h' m → News h₀ L h' ((l, listOf ys.toArray ys.length) :: news) → Q (.ref l) { s with heap := h', toks := tk' }) :
  wpAny (model prog w) (ktrTop dp un gd cn cs L a ccd cl outer) (call (.ref 738) [.ref x, .int M tm]) Q E s := by
  have h9 := g.sz
  exact row_ok hM0 hM1 (fun k => val_ok g.wf hp) B F X N T hk H (by omega) (by omega) ret
theorem isnum_ok {A : Around} {t : Nd} {M : Int} {news : List (Addr × Obj)} {x : Addr} (hW : t.WF M) (h0 : t.mx = 0) (F : Fr h₀ L s.heap m) (X : (Mine.hd.heap_39 w.params).In h₀) (N : News h₀ L s.heap news) (H : NodeIn w.params news (.ref x) t)
    (h : Q (.bool true) s) : wpAny (model prog w) A (call (.builtin "isinstance") [.ref x, .ref 352]) Q E s := by
  have hz : t = .zero := by
    by_cases hz : t = .zero
    · exact hz
    · have := WF.mx1 hW hz; omega
  subst hz
  cases H with
  | zero h1 h2 h3 m1 m2 =>
    walk1
    exact h
/-- the draw's state -/
def StOk (vs : List Value) (x y : Int) : Prop := ∃ ns, IntsAre vs ns ∧ ns.length ≤ 24 ∧ (∀ n ∈ ns, 0 ≤ n ∧ n < 2147483647) ∧ 0 ≤ x ∧ x < 2147483647 ∧ 0 ≤ y ∧ y < 2147483647
def Apart (st q : Addr) (rest : List (Addr × Obj)) : Prop := st ≠ q ∧ ∀ p ∈ rest, p.1 ≠ st ∧ p.1 ≠ q
theorem takeL {st q : Addr} {x y many : Int} {tx ty tm : Tok} {vs : List Value} {nst nq : Nat} {c1 c2 c3 : Addr × Obj} {rest : List (Addr × Obj)}
  (S : StOk vs x y) (D : Apart st q (c1 :: c2 :: c3 :: rest)) (hm0 : 1 ≤ many) (hm1 : many < 100)
  (B : Below A₀ base outer h₀) (F : Fr h₀ L s.heap m) (X : (Mine.hd.heap_39 w.params).In h₀) (N : News h₀ L s.heap (c1 :: c2 :: c3 :: (st, listOf #[.ref q, .int x tx, .int y ty] nst) :: (q, listOf vs.toArray nq) :: rest)) (T : Top p loose mean mg mb h₀) (hk : cs.kind = .function)
  (hd : dp + 60 < recursionLimit) (hu : un + 480 < cLine)
  (ret : ∀ k tk x' tx' y' ty' vs' nst' nq' h' tk', 0 ≤ k → k < many → StOk vs' x' y' → Fr h₀ L h' m → News h₀ L h' (c1 :: c2 :: c3 :: (st, listOf #[.ref q, .int x' tx', .int y' ty'] nst') :: (q, listOf vs'.toArray nq') :: rest) → Q (.int k tk) { s with heap := h', toks := tk' }) :
  wpAny (model prog w) (ktrTop dp un gd cn cs L a ccd cl outer) (call (.ref 728) [.ref st, .int many tm]) Q E s := by
  obtain ⟨ns, hi, hlen, hns, hx0, hx1, hy0, hy1⟩ := S
  refine take_ok (news := c1 :: c2 :: c3 :: rest) (nst := nst) (nq := nq) (tx := tx) (ty := ty) B F X (newsSub N ?_) T hk (by omega) (by omega) D.1 (Ne.symm D.1) (fun p hp => (D.2 p hp).1) (fun p hp => (D.2 p hp).2) hi hlen hns hx0 hx1 hy0 hy1 hm0 hm1 ?_
  · intro p hp
    simp only [List.mem_cons] at hp ⊢
    rcases hp with h | h | h | h | h | h <;> simp [h]
  · intro k tk x' tx' y' ty' vs' ns' nst' nq' h' tk' k0 k1 hi' hl' hn' a0 a1 b0 b1 F' N'
    refine ret k tk x' tx' y' ty' vs' nst' nq' h' tk' k0 k1 ⟨ns', hi', hl', hn', a0, a1, b0, b1⟩ F' (newsSub N' ?_)
    intro p hp
    simp only [List.mem_cons] at hp ⊢
    rcases hp with h | h | h | h | h | h <;> simp [h]
end
section
variable {prog : Program} {w : World} {p : Program} {loose : List Str} {mean : ExcName → Option Value} {mg mb : Str → Option Value} {dp un : Nat} {gd : Option (List Code)} {cn : Str} {cs : Scope} {a : Addr} {ccd : Value} {cl : List (Str × Addr)} {outer : List Env} {A₀ : Around} {base h₀ : Heap} {L : Addr} {m : Str → Option Value} {s : Shared} {Q E : Value → Shared → Prop}
def LawJ (P : Params) (M : Int) (st q c1 c2 c3 : Addr) (i : Nat) (m : Str → Option Value) (nx : List (Addr × Obj)) : Prop :=
  ∃ (o1 o2 o3 : Obj) (x y : Int) (tx ty tm : Tok) (vs ys : List Value) (nst nq nr : Nat) (rest : List (Addr × Obj)) (v rw : Addr) (t : Nd) (pl : Bool),
    nx = (c1, o1) :: (c2, o2) :: (c3, o3) :: (st, listOf #[.ref q, .int x tx, .int y ty] nst) :: (q, listOf vs.toArray nq) :: rest ∧
    StOk vs x y ∧ Apart st q ((c1, o1) :: (c2, o2) :: (c3, o3) :: rest) ∧ (∀ p ∈ rest, p.1 ≠ c1 ∧ p.1 ≠ c2 ∧ p.1 ≠ c3) ∧
    (∃ u, o1.data = .cell u) ∧ (∃ u, o2.data = .cell u) ∧ (∃ u, o3.data = .cell u) ∧
    NodeIn P rest (.ref v) t ∧ Good i M t ∧ (rw, listOf ys.toArray nr) ∈ rest ∧ IntsAre ys (rowOf M t) ∧ (pl = true → t.pl = true) ∧
    m (PySem.Str.ofString "state") = some (.ref st) ∧ m (PySem.Str.ofString "most") = some (.int M tm) ∧ m (PySem.Str.ofString "node") = some (.ref v) ∧
    m (PySem.Str.ofString "row") = some (.ref rw) ∧ m (PySem.Str.ofString "plain") = some (.bool pl)
theorem map5 {x a b c d e : Str} {m : Str → Option Value} {u va vb vc vd ve : Value} (ha : m a = some va) (hb : m b = some vb) (hc : m c = some vc) (hd : m d = some vd) (he : m e = some ve) :
    (fun z => if z = x then some u else m z) = fun z => if z = x then some u else if z = a then some va else if z = b then some vb else if z = c then some vc else if z = d then some vd else if z = e then some ve else m z := by
  funext z
  by_cases h0 : z = x
  · simp [h0]
  simp only [if_neg h0]
  by_cases h1 : z = a
  · subst h1; simp [ha]
  simp only [if_neg h1]
  by_cases h2 : z = b
  · subst h2; simp [hb]
  simp only [if_neg h2]
  by_cases h3 : z = c
  · subst h3; simp [hc]
  simp only [if_neg h3]
  by_cases h4 : z = d
  · subst h4; simp [hd]
  simp only [if_neg h4]
  by_cases h5 : z = e
  · subst h5; simp [he]
  simp only [if_neg h5]
theorem map5' {a b c d e : Str} {m : Str → Option Value} {va vb vc vd ve : Value} (ha : m a = some va) (hb : m b = some vb) (hc : m c = some vc) (hd : m d = some vd) (he : m e = some ve) :
    m = fun z => if z = a then some va else if z = b then some vb else if z = c then some vc else if z = d then some vd else if z = e then some ve else m z := by
  funext z
  by_cases h1 : z = a
  · subst h1; simp [ha]
  simp only [if_neg h1]
  by_cases h2 : z = b
  · subst h2; simp [hb]
  simp only [if_neg h2]
  by_cases h3 : z = c
  · subst h3; simp [hc]
  simp only [if_neg h3]
  by_cases h4 : z = d
  · subst h4; simp [hd]
  simp only [if_neg h4]
  by_cases h5 : z = e
  · subst h5; simp [he]
  simp only [if_neg h5]
theorem rowOf_var {M : Int} : rowOf M (.var M) = rangeKs 0 (M + 1 - 0).toNat := by
  unfold rowOf
  exact List.map_id' _
theorem good_var {M : Int} (h1 : 1 ≤ M) (h2 : M ≤ 11) : Good 0 M (.var M) := ⟨⟨rfl, h1, h2⟩, (by show (1 : Int) ≤ 16 ^ 0; decide), Nat.le_refl 0⟩
theorem mem_row {M k : Int} (h : k ∈ rangeKs 0 (M + 1 - 0).toNat) : 0 ≤ k ∧ k ≤ M := by
  have := mem_rangeKs h
  omega
theorem rowOf_mul {M b : Int} {t t' : Nd} (r : MulRes M b t t') : rowOf M t' = (rowOf M t).map (fun k' => k' * b) := by
  unfold rowOf
  rw [List.map_map]
  exact List.map_congr_left fun k hk => r.val k (mem_row hk).1 (mem_row hk).2
theorem rowOf_div {M b : Int} {t t' : Nd} (r : DivRes M b t t') : rowOf M t' = (rowOf M t).map (fun k' => k'.fdiv b) := by
  unfold rowOf
  rw [List.map_map]
  exact List.map_congr_left fun k hk => r.val k (mem_row hk).1 (mem_row hk).2
theorem rowOf_mod {M b : Int} {t t' : Nd} (r : ModRes M b t t') : rowOf M t' = (rowOf M t).map (fun k' => k'.fmod b) := by
  unfold rowOf
  rw [List.map_map]
  exact List.map_congr_left fun k hk => r.val k (mem_row hk).1 (mem_row hk).2
theorem rowOf_len {M : Int} {t : Nd} : (rowOf M t).length = (M + 1 - 0).toNat := by
  unfold rowOf
  rw [List.length_map, rangeKs_length]
theorem rowOf_le {M v : Int} {t : Nd} (h : t.WF M) (hv : v ∈ rowOf M t) : 0 ≤ v ∧ v ≤ t.mx := by
  unfold rowOf at hv
  obtain ⟨k, hk, rfl⟩ := List.mem_map.mp hv
  exact WF.val (mem_row hk).1 (mem_row hk).2 h
theorem pl_mx {M : Int} (hM : 1 ≤ M) : ∀ {t : Nd}, t.WF M → t.pl = true → t.mx = t.val M
  | .zero, _, _ => rfl
  | .var m, h, _ => by simp only [Nd.mx, Nd.val]; exact h.1
  | .mul t k, h, hp => by simp only [Nd.mx, Nd.val]; rw [pl_mx hM h.1 hp]
  | .div t k, h, hp => by simp only [Nd.mx, Nd.val]; rw [pl_mx hM h.1 hp]
  | .mod t k, _, hp => by cases hp
theorem LawJ.intro {P : Params} {M : Int} {st q c1 c2 c3 : Addr} {i : Nat} {m : Str → Option Value} {o1 o2 o3 : Obj} {x y : Int} {tx ty tm : Tok} {vs ys : List Value} {nst nq nr : Nat} {rest : List (Addr × Obj)} {v rw : Addr} {t : Nd} {pl : Bool} {u1 u2 u3 : Option Value}
    (S : StOk vs x y) (D : Apart st q ((c1, o1) :: (c2, o2) :: (c3, o3) :: rest)) (C : ∀ p ∈ rest, p.1 ≠ c1 ∧ p.1 ≠ c2 ∧ p.1 ≠ c3) (d1 : o1.data = .cell u1) (d2 : o2.data = .cell u2) (d3 : o3.data = .cell u3)
    (s1 : m (PySem.Str.ofString "state") = some (.ref st)) (s2 : m (PySem.Str.ofString "most") = some (.int M tm)) (s3 : m (PySem.Str.ofString "node") = some (.ref v)) (s4 : m (PySem.Str.ofString "row") = some (.ref rw)) (s5 : m (PySem.Str.ofString "plain") = some (.bool pl))
    (G : Good i M t) (H : NodeIn P rest (.ref v) t) (R : (rw, listOf ys.toArray nr) ∈ rest) (I : IntsAre ys (rowOf M t)) (p1 : pl = true → t.pl = true) :
    LawJ P M st q c1 c2 c3 i m ((c1, o1) :: (c2, o2) :: (c3, o3) :: (st, listOf #[.ref q, .int x tx, .int y ty] nst) :: (q, listOf vs.toArray nq) :: rest) :=
  ⟨o1, o2, o3, x, y, tx, ty, tm, vs, ys, nst, nq, nr, rest, v, rw, t, pl, rfl, S, D, C, ⟨_, d1⟩, ⟨_, d2⟩, ⟨_, d3⟩, H, G, R, I, p1, s1, s2, s3, s4, s5⟩
end
section
variable {prog : Program} {w : World} {p : Program} {loose : List Str} {mean : ExcName → Option Value} {mg mb : Str → Option Value} {dp un : Nat} {gd : Option (List Code)} {cn : Str} {cs : Scope} {a : Addr} {ccd : Value} {cl : List (Str × Addr)} {outer : List Env} {A₀ : Around} {base h₀ : Heap} {L : Addr} {m : Str → Option Value} {s : Shared} {Q E : Value → Shared → Prop}
theorem neL {A : Around} {l l' : Addr} {ys us : List Value} {n n' : Nat} {ns : List Int} {news : List (Addr × Obj)} (N : News h₀ L s.heap news) (m1 : (l, listOf ys.toArray n) ∈ news) (i1 : IntsAre ys ns) (m2 : (l', listOf us.toArray n') ∈ news) (i2 : IntsAre us ns) (hu : A.units + 64 < cLine)
    (h : Q (.bool false) s) : wpAny (model prog w) A (compareOp .NotEq (.ref l) (.ref l')) Q E s :=
  ne_intsK ⟨_, (N _ m1).1, rfl, _, rfl⟩ i1 ⟨_, (N _ m2).1, rfl, _, rfl⟩ i2 hu (by simpa using h)
theorem eqL {A : Around} {l l' : Addr} {ys us : List Value} {n n' : Nat} {ns : List Int} {news : List (Addr × Obj)} (N : News h₀ L s.heap news) (m1 : (l, listOf ys.toArray n) ∈ news) (i1 : IntsAre ys ns) (m2 : (l', listOf us.toArray n') ∈ news) (i2 : IntsAre us ns) (hu : A.units + 64 < cLine)
    (h : Q (.bool true) s) : wpAny (model prog w) A (compareOp .Eq (.ref l) (.ref l')) Q E s :=
  eq_intsK ⟨_, (N _ m1).1, rfl, _, rfl⟩ i1 ⟨_, (N _ m2).1, rfl, _, rfl⟩ i2 hu (by simpa using h)
theorem maxL {A : Around} {M : Int} {t : Nd} {l : Addr} {ys : List Value} {n : Nat} {news : List (Addr × Obj)} (hh : A.handled = none) (F : Fr h₀ L s.heap m) (N : News h₀ L s.heap news) (m1 : (l, listOf ys.toArray n) ∈ news) (i1 : IntsAre ys (rowOf M t)) (hW : t.WF M) (hM : 1 ≤ M)
    (h : ∀ h' v (u : Tok) tk, Fr h₀ L h' m → News h₀ L h' news → 0 ≤ v → v ≤ t.mx → Q (.int v u) { s with heap := h', toks := tk }) : wpAny (model prog w) A (call (.builtin "max") [.ref l]) Q E s :=
  kso_max F N ⟨_, (N _ m1).1, rfl, _, rfl⟩ i1 (by rw [rowOf_len]; omega) hh fun h' v u tk F' N' hv _ => h h' v u tk F' N' (rowOf_le hW hv).1 (rowOf_le hW hv).2
theorem row_last {M : Int} {t : Nd} (hM : 1 ≤ M) : (rowOf M t).getD M.toNat 0 = t.val M := by
  unfold rowOf rangeKs
  have h1 : M.toNat < (M + 1 - 0).toNat := by omega
  rw [List.map_map, List.getD_eq_getElem?_getD, List.getElem?_map, List.getElem?_range h1]
  simp only [Option.map_some, Option.getD_some, Function.comp_apply]
  congr 1
  omega
theorem lastL {A : Around} {M k : Int} {u : Tok} {t : Nd} {l : Addr} {ys : List Value} {n : Nat} {value slice : PySem.Expr} {news : List (Addr × Obj)} (N : News h₀ L s.heap news) (m1 : (l, listOf ys.toArray n) ∈ news) (i1 : IntsAre ys (rowOf M t)) (hM : 1 ≤ M) (hk : k = -1)
    (h : ∀ u, Q (.int (t.val M) u) s)
    (hs : subscripted slice false (.ref l) (.int k u) = operate [.ref l, .int k u] (getItem (.ref l) (.int k u)) := by with_unfolding_all rfl) :
    wpAny (model prog w) A (subscriptTail value slice (.ref l) (.int k u)) Q E s := by
  have hl : s.heap.IsList l ys.toArray := ⟨_, (N _ m1).1, rfl, _, rfl⟩
  have hlen : ys.length = (M + 1 - 0).toNat := by rw [i1.length, rowOf_len]
  obtain ⟨t', hx⟩ := i1.get M.toNat _ (ints_getD (k := M) (by omega) (by rw [rowOf_len]; omega))
  rw [row_last hM] at hx
  refine tail_any hl.typeIs slot_list_getitem.lookup (wpAny_getItem_list_neg hl (by omega) (by rw [List.size_toArray]; omega) (by omega) ?_ (h t')) hs
  have e : (k + (ys.toArray.size : Int)).toNat = M.toNat := by rw [List.size_toArray]; omega
  rw [e]
  simpa using hx
end
section
variable {prog : Program} {w : World} {p : Program} {loose : List Str} {mean : ExcName → Option Value} {mg mb : Str → Option Value} {dp un : Nat} {gd : Option (List Code)} {cn : Str} {cs : Scope} {a : Addr} {ccd : Value} {cl : List (Str × Addr)} {outer : List Env} {A₀ : Around} {base h₀ : Heap} {L : Addr} {m : Str → Option Value} {s : Shared} {Q E : Value → Shared → Prop}
def Q1 (st q c1 c2 c3 : Addr) : Prop := @Ne Nat c1 st ∧ @Ne Nat c1 q ∧ @Ne Nat c2 st ∧ @Ne Nat c2 q ∧ @Ne Nat c3 st ∧ @Ne Nat c3 q ∧ @Ne Nat st q
def Q2 (st q c1 c2 c3 I : Addr) : Prop := @Ne Nat c1 I ∧ @Ne Nat c2 I ∧ @Ne Nat c3 I ∧ @Ne Nat st I ∧ @Ne Nat q I
structure CellsOff (c1 c2 c3 st q : Addr) (rest : List (Addr × Obj)) : Prop where
  c12 : c1 ≠ c2
  c13 : c1 ≠ c3
  c23 : c2 ≠ c3
  s1 : c1 ≠ st
  s2 : c2 ≠ st
  s3 : c3 ≠ st
  q1 : c1 ≠ q
  q2 : c2 ≠ q
  q3 : c3 ≠ q
  r : ∀ p ∈ rest, p.1 ≠ c1 ∧ p.1 ≠ c2 ∧ p.1 ≠ c3
theorem CellsOff.of {c1 c2 c3 st q : Addr} {o1 o2 o3 : Obj} {rest : List (Addr × Obj)} (D : Apart st q ((c1, o1) :: (c2, o2) :: (c3, o3) :: rest)) (C : ∀ p ∈ rest, p.1 ≠ c1 ∧ p.1 ≠ c2 ∧ p.1 ≠ c3) (h12 : @Ne Nat c1 c2) (h13 : @Ne Nat c1 c3) (h23 : @Ne Nat c2 c3) : CellsOff c1 c2 c3 st q rest :=
  have e1 := D.2 (c1, o1) (by simp)
  have e2 := D.2 (c2, o2) (by simp)
  have e3 := D.2 (c3, o3) (by simp)
  ⟨h12, h13, h23, e1.1, e2.1, e3.1, e1.2, e2.2, e3.2, C⟩
theorem CellsOff.more {c1 c2 c3 st q I : Addr} {oI : Obj} {rest : List (Addr × Obj)} (K : CellsOff c1 c2 c3 st q rest) (h : Q2 st q c1 c2 c3 I) : CellsOff c1 c2 c3 st q ((I, oI) :: rest) :=
  ⟨K.c12, K.c13, K.c23, K.s1, K.s2, K.s3, K.q1, K.q2, K.q3, fun p hp => by
    rcases List.mem_cons.mp hp with rfl | hp
    · exact ⟨Ne.symm h.1, Ne.symm h.2.1, Ne.symm h.2.2.1⟩
    · exact K.r p hp⟩
section
variable {A : Around} {c1 c2 c3 st q : Addr} {o1 o2 o3 os oq : Obj} {rest : List (Addr × Obj)} {e : Addr × Obj} {v₀ : Option Value} {x : Str} {v : Value} {Q : Unit → Shared → Prop}
theorem storeC3 (F : Fr h₀ L s.heap m) (N : News h₀ L s.heap ((c1, o1) :: (c2, o2) :: (c3, o3) :: (st, os) :: (q, oq) :: rest)) (K : CellsOff c1 c2 c3 st q rest) (hc : cl.lookup x = some c3) (hd : o3.data = .cell v₀)
    (h : ∀ h' o', Fr h₀ L h' m → News h₀ L h' ((c1, o1) :: (c2, o2) :: (c3, o') :: (st, os) :: (q, oq) :: rest) → o'.data = .cell (some v) → Q () { s with heap := h' })
    (hk : cs.kind = .function) (hx : (envX cn cs L a ccd cl).kindOf x = some .cell) : wpAny (model prog w) A (storeName (envX cn cs L a ccd cl) x v) Q E s := by
  refine storeX_C F N hc (UpdF.tail K.c13 (UpdF.tail K.c23 (UpdF.head fun p hp => ?_))) hd h hk hx
  simp only [List.mem_cons] at hp
  rcases hp with rfl | rfl | hp
  · exact Ne.symm K.s3
  · exact Ne.symm K.q3
  · exact (K.r p hp).2.2
theorem storeC2 (F : Fr h₀ L s.heap m) (N : News h₀ L s.heap (e :: (c1, o1) :: (c2, o2) :: (c3, o3) :: (st, os) :: (q, oq) :: rest)) (K : CellsOff c1 c2 c3 st q rest) (hc : cl.lookup x = some c2) (hd : o2.data = .cell v₀)
    (h : ∀ h' o', Fr h₀ L h' m → News h₀ L h' ((c1, o1) :: (c2, o') :: (c3, o3) :: (st, os) :: (q, oq) :: rest) → o'.data = .cell (some v) → Q () { s with heap := h' })
    (hk : cs.kind = .function) (hx : (envX cn cs L a ccd cl).kindOf x = some .cell) : wpAny (model prog w) A (storeName (envX cn cs L a ccd cl) x v) Q E s := by
  refine storeX_C F (newsSub N fun _ h => List.mem_cons_of_mem _ h) hc (UpdF.tail K.c12 (UpdF.head fun p hp => ?_)) hd h hk hx
  simp only [List.mem_cons] at hp
  rcases hp with rfl | rfl | rfl | hp
  · exact Ne.symm K.c23
  · exact Ne.symm K.s2
  · exact Ne.symm K.q2
  · exact (K.r p hp).2.1
theorem storeC1 (F : Fr h₀ L s.heap m) (N : News h₀ L s.heap ((c1, o1) :: (c2, o2) :: (c3, o3) :: (st, os) :: (q, oq) :: rest)) (K : CellsOff c1 c2 c3 st q rest) (hc : cl.lookup x = some c1) (hd : o1.data = .cell v₀)
    (h : ∀ h' o', Fr h₀ L h' m → News h₀ L h' ((c1, o') :: (c2, o2) :: (c3, o3) :: (st, os) :: (q, oq) :: rest) → o'.data = .cell (some v) → Q () { s with heap := h' })
    (hk : cs.kind = .function) (hx : (envX cn cs L a ccd cl).kindOf x = some .cell) : wpAny (model prog w) A (storeName (envX cn cs L a ccd cl) x v) Q E s := by
  refine storeX_C F N hc (UpdF.head fun p hp => ?_) hd h hk hx
  simp only [List.mem_cons] at hp
  rcases hp with rfl | rfl | rfl | rfl | hp
  · exact Ne.symm K.c12
  · exact Ne.symm K.c13
  · exact Ne.symm K.s1
  · exact Ne.symm K.q1
  · exact (K.r p hp).1
end
theorem turn_end {P : Params} {M : Int} {st q c1 c2 c3 I rw v : Addr} {oI o1 o2 o3 : Obj} {u1 u2 u3 : Option Value} {i : Nat} {m' : Str → Option Value} {L1 : List (Addr × Obj)} {h h' : Heap} {tk tk' : Nat} {x y : Int} {tx ty tm : Tok} {vs ys : List Value} {nst nq nr : Nat} {t : Nd} {pl : Bool} {Q : Flow → Shared → Prop}
    (F : Fr h₀ L h' m') (N : News h₀ L h' L1) (mI : (I, oI) ∈ L1) (hoI : ∃ vs, oI.data = .fields vs) (m1 : (c1, o1) ∈ L1) (m2 : (c2, o2) ∈ L1) (m3 : (c3, o3) ∈ L1) (d1 : o1.data = .cell u1) (d2 : o2.data = .cell u2) (d3 : o3.data = .cell u3)
    (ms : (st, listOf #[.ref q, .int x tx, .int y ty] nst) ∈ L1) (mq : (q, listOf vs.toArray nq) ∈ L1) (S : StOk vs x y)
    (q1 : Q1 st q c1 c2 c3) (q2 : Q2 st q c1 c2 c3 I)
    (r1 : st ≠ rw) (r2 : q ≠ rw) (r3 : c1 ≠ rw) (r4 : c2 ≠ rw) (r5 : c3 ≠ rw) (r6 : I ≠ rw)
    (H : NodeIn P L1 (.ref v) t) (G : Good (i + 1) M t) (R : (rw, listOf ys.toArray nr) ∈ L1) (IA : IntsAre ys (rowOf M t)) (p1 : pl = true → t.pl = true)
    (s1 : m' (PySem.Str.ofString "state") = some (.ref st)) (s2 : m' (PySem.Str.ofString "most") = some (.int M tm)) (s3 : m' (PySem.Str.ofString "node") = some (.ref v)) (s4 : m' (PySem.Str.ofString "row") = some (.ref rw)) (s5 : m' (PySem.Str.ofString "plain") = some (.bool pl)) :
    GPost h₀ L (LawJ P M st q c1 c2 c3 (i + 1)) I oI { s with heap := h, toks := tk } Q .next { s with heap := h', toks := tk' } := by
  have hB : BadAll L1 [st, q, c1, c2, c3, I] := by
    intro b hb
    simp only [List.mem_cons, List.not_mem_nil, or_false] at hb
    obtain ⟨vI, hI⟩ := hoI
    rcases hb with rfl | rfl | rfl | rfl | rfl | rfl
    · exact ⟨_, ms, (fun e => nomatch e), fun _ _ e => nomatch e⟩
    · exact ⟨_, mq, (fun e => nomatch e), fun _ _ e => nomatch e⟩
    · exact ⟨_, m1, (fun e => by rw [d1] at e; cases e), fun _ _ e => by rw [d1] at e; cases e⟩
    · exact ⟨_, m2, (fun e => by rw [d2] at e; cases e), fun _ _ e => by rw [d2] at e; cases e⟩
    · exact ⟨_, m3, (fun e => by rw [d3] at e; cases e), fun _ _ e => by rw [d3] at e; cases e⟩
    · exact ⟨_, mI, (fun e => by rw [hI] at e; cases e), fun _ _ e => by rw [hI] at e; cases e⟩
  have kn : ∀ b ∈ [st, q, c1, c2, c3, I], ∀ p ∈ keepOff [st, q, c1, c2, c3, I] L1, p.1 ≠ b := fun b hb => keepOff_ne hb
  obtain ⟨a1, a2, a3, a4, a5, a6, a7⟩ := q1
  obtain ⟨b1, b2, b3, b4, b5⟩ := q2
  refine ⟨h', tk', m', (c1, o1) :: (c2, o2) :: (c3, o3) :: (st, listOf #[.ref q, .int x tx, .int y ty] nst) :: (q, listOf vs.toArray nq) :: keepOff [st, q, c1, c2, c3, I] L1, rfl, F, ?_, ?_, ?_⟩
  · refine newsSub N fun p hp => ?_
    simp only [List.mem_cons] at hp
    rcases hp with rfl | rfl | rfl | rfl | rfl | rfl | hp
    · exact mI
    · exact m1
    · exact m2
    · exact m3
    · exact ms
    · exact mq
    · exact keepOff_sub p hp
  · intro p hp
    simp only [List.mem_cons] at hp
    rcases hp with rfl | rfl | rfl | rfl | rfl | hp
    · exact b1
    · exact b2
    · exact b3
    · exact b4
    · exact b5
    · exact kn I (by simp) p hp
  · refine LawJ.intro S ⟨a7, fun p hp => ?_⟩ (fun p hp => ⟨kn c1 (by simp) p hp, kn c2 (by simp) p hp, kn c3 (by simp) p hp⟩) d1 d2 d3 s1 s2 s3 s4 s5 G (H.off N hB) (keepOff_mem R ?_) IA p1
    · simp only [List.mem_cons] at hp
      rcases hp with rfl | rfl | rfl | hp
      · exact ⟨a1, a2⟩
      · exact ⟨a3, a4⟩
      · exact ⟨a5, a6⟩
      · exact ⟨kn st (by simp) p hp, kn q (by simp) p hp⟩
    · simp only [List.mem_cons, List.not_mem_nil, or_false]
      rintro (e | e | e | e | e | e)
      · exact r1 e.symm
      · exact r2 e.symm
      · exact r3 e.symm
      · exact r4 e.symm
      · exact r5 e.symm
      · exact r6 e.symm
end
section
variable {prog : Program} {w : World} {p : Program} {loose : List Str} {mean : ExcName → Option Value} {mg mb : Str → Option Value} {dp un : Nat} {gd : Option (List Code)} {cn : Str} {cs : Scope} {a : Addr} {ccd : Value} {cl : List (Str × Addr)} {outer : List Env} {A₀ : Around} {base h₀ : Heap} {L : Addr} {m : Str → Option Value} {s : Shared} {Q E : Value → Shared → Prop}
theorem rowOf_congr {M : Int} {t t' : Nd} {f : Int → Int} (h : ∀ x, 0 ≤ x → x ≤ M → t'.val x = f (t.val x)) : rowOf M t' = (rowOf M t).map f := by
  unfold rowOf
  rw [List.map_map]
  exact List.map_congr_left fun k hk => h k (mem_row hk).1 (mem_row hk).2
theorem cmp1 {M a b : Int} {t t1 t2 : Nd} (r1 : DivRes M a t t1) (r2 : DivRes M b t1 t2) (ha : 1 ≤ a) (hb : 1 ≤ b) : rowOf M t2 = (rowOf M t).map (fun k' => k'.fdiv (a * b)) :=
  rowOf_congr fun x h0 h1 => by
    rw [r2.val x h0 h1, r1.val x h0 h1, fd (by omega), fd (by omega), fd (Int.mul_nonneg (by omega) (by omega)), Int.ediv_ediv_of_nonneg (by omega)]
theorem cmp3 {M a : Int} {t t1 t2 : Nd} (r1 : MulRes M a t t1) (r2 : DivRes M a t1 t2) (ha : 1 ≤ a) : rowOf M t2 = rowOf M t := by
  rw [rowOf_congr (t := t) (f := id) fun x h0 h1 => ?_, List.map_id]
  rw [r2.val x h0 h1, r1.val x h0 h1, fd (by omega), Int.mul_ediv_cancel _ (by omega)]
  rfl
theorem cmp4 {M a : Int} {t t1 t2 : Nd} (r1 : MulRes M a t t1) (r2 : ModRes M a t1 t2) (ha : 1 ≤ a) : rowOf M t2 = (rowOf M t).map (fun _ => 0) :=
  rowOf_congr fun x h0 h1 => by
    rw [r2.val x h0 h1, r1.val x h0 h1, fm (by omega), Int.mul_emod_left]
theorem cmp5 {M a b : Int} {t t1 t2 : Nd} (r1 : ModRes M (a * b) t t1) (r2 : ModRes M b t1 t2) (ha : 1 ≤ a) (hb : 1 ≤ b) : rowOf M t2 = (rowOf M t).map (fun k' => k'.fmod b) :=
  rowOf_congr fun x h0 h1 => by
    rw [r2.val x h0 h1, r1.val x h0 h1, fm (by omega), fm (Int.mul_nonneg (by omega) (by omega)), fm (by omega), Int.emod_emod_of_dvd _ (Int.dvd_mul_left _ _)]
theorem cmp6 {M c b : Int} {t t1 t2 : Nd} (r1 : ModRes M c t t1) (r2 : DivRes M b t1 t2) : rowOf M t2 = (rowOf M t).map (fun k' => (k'.fmod c).fdiv b) :=
  rowOf_congr fun x h0 h1 => by
    rw [r2.val x h0 h1, r1.val x h0 h1]
theorem prodAB {a b : Int} (h0 : 0 ≤ a) (h1 : a < 4) (h2 : 0 ≤ b) (h3 : b < 4) : 1 ≤ (1 + a) * (1 + b) ∧ (1 + a) * (1 + b) ≤ 16 := by
  have e1 := Int.mul_le_mul (show 1 ≤ 1 + a by omega) (show 1 ≤ 1 + b by omega) (by omega) (by omega)
  have e2 := Int.mul_le_mul (show 1 + a ≤ 4 by omega) (show 1 + b ≤ 4 by omega) (by omega) (by omega)
  omega
theorem map_const0 : ∀ l : List Int, l.map (fun _ => (0 : Int)) = List.replicate l.length 0
  | [] => rfl
  | _ :: r => by simp only [List.map_cons, List.length_cons, List.replicate_succ, map_const0 r]
theorem cmp4' {M a : Int} {t t1 t2 : Nd} (r1 : MulRes M a t t1) (r2 : ModRes M a t1 t2) (ha : 1 ≤ a) : rowOf M t2 = List.replicate (M + 1).toNat 0 := by
  rw [cmp4 r1 r2 ha, map_const0, rowOf_len, Int.sub_zero]
theorem flat0 : ∀ n : Nat, (List.replicate n [(0 : Int)]).flatten = List.replicate n 0
  | 0 => rfl
  | n + 1 => by rw [List.replicate_succ, List.flatten_cons, flat0 n, List.replicate_succ]; rfl
theorem zerosL {l : Addr} {k : Nat} {x : Int} {u u0 : Tok} {news : List (Addr × Obj)} (F : Fr h₀ L s.heap m) (N : News h₀ L s.heap news) (m1 : (l, listOf [Value.int 0 u0].toArray k) ∈ news) (hx0 : 0 ≤ x) (hx1 : x ≤ 100) {A : Around}
    (h : ∀ D us h', Fr h₀ L h' m → News h₀ L h' ((D, listOf us.toArray 0) :: news) → IntsAre us (List.replicate x.toNat 0) → Q (.ref D) { s with heap := h' }) : wpAny (model prog w) A (binaryOp .Mult (.ref l) (.int x u)) Q E s := by
  refine KM.mul (vs := [Value.int 0 u0]) (ns := [0]) F N ⟨_, (N _ m1).1, rfl, _, rfl⟩ (.cons 0 u0 .nil) (by omega) (by omega) (by simp only [List.length_cons, List.length_nil]; omega) ?_
  intro D h' F' N' _ hI _ _ _ _ _
  rw [flat0] at hI
  exact h D _ h' F' N' hI
end
section
local macro_rules | `(tactic| k_all) => `(tactic| assumption)
local macro_rules | `(tactic| walk_at "call builtin:list.pop") => `(tactic| (k_here; k_dflt ((with_reducible show wpAny _ _ (call (Value.builtin _) [Value.ref _, Value.int _ _]) _ _ _); refine' pop0 ?F ?N ?U ?z ?_; (case F => k_asm); (case N => k_asm); (case U => k_upd); (case z => omega)); intro h' F' N'))
local macro_rules | `(tactic| walk_at "truthy ref") => `(tactic| (k_here; (with_reducible show wpAny _ _ (truthy (Value.ref _)) _ _ _); k_dflt (refine' truthy_cons ?N ?m ?z ?_; (case N => k_asm); (case m => k_mem); (case z => omega); k_whole)))
local macro_rules | `(tactic| walk_at "call ref") => `(tactic| (k_here; refine wpAny_call ?_; k_dflt ktr_enter))
local macro_rules | `(tactic| k_room) => `(tactic| ((try simp only [depth_mark, depth_under_make, depth_under_kw, depth_in1, depth_deeper]); (try dsimp only [ktrTop]); omega))
local macro_rules | `(tactic| ktr_room) => `(tactic| ((try simp only [depth_mark, depth_under_make, depth_under_kw, depth_in1, depth_deeper]); (try dsimp only [ktrTop]); omega))
local macro_rules | `(tactic| k_units) => `(tactic| ((try simp only [units_in1, units_deeper, Around.mark_units]); (try dsimp only [ktrTop]); omega))
local macro_rules | `(tactic| k_mem) => `(tactic| first | exact List.mem_cons_self | assumption | (refine' List.mem_cons_of_mem _ ?_; k_mem) | (refine' List.mem_append_left _ ?_; k_mem) | (refine' List.mem_append_right _ ?_; k_mem))
local macro_rules | `(tactic| ktr_rel) => `(tactic| (refine' NodeIn.mono ?nma ?nmb; (case nma => assumption); (case nmb => (intro p9 h9; k_mem))))
local macro_rules | `(tactic| walk_at "getAttr ref") => `(tactic| (k_here; (with_reducible show wpAny _ _ (getAttr (Value.ref _) (PySem.Str.ofString "min") _) _ _ _); k_dflt (refine' get_min ?F ?X ?N ?H ?_; (case F => k_asm); (case X => k_asm); (case N => k_asm); (case H => ktr_rel); k_whole); intro u' tk'; (try dsimp only)))
local macro_rules | `(tactic| walk_at "getAttr ref") => `(tactic| (k_here; (with_reducible show wpAny _ _ (getAttr (Value.ref _) (PySem.Str.ofString "max") _) _ _ _); k_dflt (refine' get_max ?F ?X ?N ?H ?_; (case F => k_asm); (case X => k_asm); (case N => k_asm); (case H => ktr_rel); k_whole); intro u' tk'; (try dsimp only)))
local macro_rules | `(tactic| walk_at "ite") => `(tactic| (k_here; first | (refine ite_pos (by (simp only [beq_iff_eq, bne_iff_ne, decide_eq_true_eq, Bool.not_eq_true', Bool.not_eq_eq_eq_not, Bool.not_true, Bool.not_false, ne_eq, decide_eq_false_iff_not, beq_eq_false_iff_ne]); omega) ?_; walk_say "PRUNED+") | (refine ite_neg (by (simp only [beq_iff_eq, bne_iff_ne, decide_eq_true_eq, Bool.not_eq_true', Bool.not_eq_eq_eq_not, Bool.not_true, Bool.not_false, ne_eq, decide_eq_false_iff_not, beq_eq_false_iff_ne]); omega) ?_; walk_say "PRUNED-")))
local macro_rules | `(tactic| tb_rel) => `(tactic| first | assumption | rfl | (intro h9; cases h9) | omega | ((try dsimp only [Nd.mx, Nd.pr] at *); omega))
local macro_rules | `(tactic| walk_at "CompEnd") => `(tactic| (k_here; k_dflt (refine' compEnd_same ?F ?N ?off ?S ?_; (case F => k_asm); (case N => k_asm); (case off => first | assumption | (simp only [LCg.Off3, and_true]; first | done | assumption)); (case S => lcg_src))))
local macro_rules | `(tactic| walk_at "binaryOp FloorDiv int int") => `(tactic| (k_here; (with_reducible refine floordiv_int ?kbe ?_ (Or.inl (Mine.pyl ?p0 ?p1))); (case kbe => omega); (case p0 => omega); (case p1 => omega)))
local macro_rules | `(tactic| walk_at "call ref") => `(tactic| (k_here; (with_reducible show wpAny _ _ (call (Value.ref 728) [Value.ref _, Value.int _ _]) _ _ _); k_dflt (refine' takeL ?S ?D ?m0 ?m1 ?B ?F ?X ?N ?T ?hk ?hd ?hu ?_; (case B => k_asm); (case F => k_asm); (case X => k_asm); (case N => k_asm); (case T => k_asm); (case hk => first | assumption | rfl); (case S => assumption); (case D => assumption); (case m0 => decide); (case m1 => decide); (case hd => k_room); (case hu => k_units); k_whole); intro k' tk' x' tx' y' ty' vs' nst' nq' h' tk2' k0' k1' S' F' N'; (try dsimp only)))
local macro_rules | `(tactic| walk_at "binaryOp Mult ref int") => `(tactic| (k_here; k_dflt (refine' tells1_use (mulL ?g ?hn ?b0 ?b1) ?B ?F ?X ?N ?T ?hk ?H ?hd ?hu ?_; (case B => k_asm); (case F => k_asm); (case X => k_asm); (case N => k_asm); (case T => k_asm); (case hk => first | assumption | rfl); (case H => ktr_rel); (case g => assumption); (case hn => omega); (case b0 => omega); (case b1 => omega); (case hd => k_room); (case hu => k_units); k_whole); intro r' t' new' h' tk' H' R' F' N'; (have R1' := And.left R'); (have R2' := And.right R'); clear R'; (try dsimp only)))
local macro_rules | `(tactic| walk_at "binaryOp FloorDiv ref int") => `(tactic| (k_here; k_dflt (refine' tells1_use (divL ?g ?hn ?b0 ?b1) ?B ?F ?X ?N ?T ?hk ?H ?hd ?hu ?_; (case B => k_asm); (case F => k_asm); (case X => k_asm); (case N => k_asm); (case T => k_asm); (case hk => first | assumption | rfl); (case H => ktr_rel); (case g => assumption); (case hn => omega); (case b0 => omega); (case b1 => omega); (case hd => k_room); (case hu => k_units); k_whole); intro r' t' new' h' tk' H' R' F' N'; (have R1' := And.left R'); (have R2' := And.right R'); clear R'; (try dsimp only)))
local macro_rules | `(tactic| walk_at "binaryOp Mod ref int") => `(tactic| (k_here; k_dflt (refine' tells1_use (modL ?g ?hn ?b0 ?b1) ?B ?F ?X ?N ?T ?hk ?H ?hd ?hu ?_; (case B => k_asm); (case F => k_asm); (case X => k_asm); (case N => k_asm); (case T => k_asm); (case hk => first | assumption | rfl); (case H => ktr_rel); (case g => assumption); (case hn => omega); (case b0 => omega); (case b1 => omega); (case hd => k_room); (case hu => k_units); k_whole); intro r' t' new' h' tk' H' R' F' N'; (have R1' := And.left R'); (have R2' := And.right R'); clear R'; (try dsimp only)))
local macro_rules | `(tactic| walk_at "CompSrc") => `(tactic| (k_here; k_dflt (refine' LCg.CompSrc.ledger ?h1 ?h2 ?h3 ?h4 ?h5 ?_; (case h1 => rfl); (case h2 => k_asm); (case h3 => k_asm); (case h4 => k_mem); (case h5 => ((rw [PySem.sizeLine_eq]); (simp only [List.size_toArray]); omega))); intro g'; (k_dflt (refine' kcf_list _ ?hI (fun k' t' I' oI' C' oC' D' m' ys' h' tk' E' hk' hC' hx' F' N' off' ne' hMark' => ?_) ?_)); (case hI => assumption); (all_goals (try (simp only [LCg.Off3, and_true] at off'))); kcf_last))
local macro_rules | `(tactic| walk_at "call ref") => `(tactic| (k_here; (with_reducible show wpAny _ _ (call (Value.ref 738) [Value.ref _, Value.int _ _]) _ _ _); k_dflt (refine' rowL ?g ?hn ?M0 ?M1 ?hp ?B ?F ?X ?N ?T ?hk ?H ?hd ?hu ?_; (case B => k_asm); (case F => k_asm); (case X => k_asm); (case N => k_asm); (case T => k_asm); (case hk => first | assumption | rfl); (case H => ktr_rel); (case g => assumption); (case hn => omega); (case M0 => omega); (case M1 => omega); (case hp => exact Int.lt_of_le_of_lt (Good.pr9 (by assumption) (by omega)) (by decide)); (case hd => k_room); (case hu => k_units); k_whole); intro l' ys' h' tk' hI' o1' F' N'; (try dsimp only)))
local macro_rules | `(tactic| walk_at "call builtin:isinstance") => `(tactic| (k_here; (with_reducible show wpAny _ _ (call (Value.builtin _) [Value.ref _, Value.ref 352]) _ _ _); k_dflt (refine' isnum_ok ?wf ?h0 ?F ?X ?N ?H ?_; (case F => k_asm); (case X => k_asm); (case N => k_asm); (case H => ktr_rel); (case wf => exact Good.wf (by assumption)); (case h0 => omega); k_whole)))
local macro_rules | `(tactic| walk_at "compareOp NotEq ref ref") => `(tactic| (k_here; k_dflt (refine' neL ?N ?m1 ?i1 ?m2 ?i2 ?hu ?_; (case N => k_asm); (case m1 => k_mem); (case m2 => k_mem); (case i1 => assumption); (case i2 => assumption); (case hu => k_units); k_whole)))
local macro_rules | `(tactic| walk_at "compareOp Eq ref ref") => `(tactic| (k_here; k_dflt (refine' eqL ?N ?m1 ?i1 ?m2 ?i2 ?hu ?_; (case N => k_asm); (case m1 => k_mem); (case m2 => k_mem); (case i1 => assumption); (case i2 => assumption); (case hu => k_units); k_whole)))
local macro_rules | `(tactic| walk_at "call builtin:max") => `(tactic| (k_here; k_dflt (refine' maxL ?hh ?F ?N ?m1 ?i1 ?hW ?hM ?_; (case hh => rfl); (case F => k_asm); (case N => k_asm); (case m1 => k_mem); (case i1 => assumption); (case hW => exact Good.wf (by assumption)); (case hM => omega); k_whole); intro h' v' u' tk' F' N' a1' a2'; (try dsimp only)))
local macro_rules | `(tactic| walk_at "subscriptTail Name UnaryOp ref int") => `(tactic| (k_here; (with_reducible show wpAny _ _ (subscriptTail _ _ (Value.ref _) (Value.int _ _)) _ _ _); k_dflt (refine' lastL ?N ?m1 ?i1 ?hM ?hk ?_ ?hs; (case N => k_asm); (case m1 => k_mem); (case i1 => assumption); (case hM => omega); (case hk => first | rfl | omega); (case hs => with_unfolding_all rfl); k_whole); intro u'))
local macro_rules | `(tactic| walk_at "GPost next") => `(tactic| ((rename LCg.Off1 _ _ => o9); k_dflt (refine' turn_end ?F ?N ?mI ?hoI ?m1 ?m2 ?m3 ?d1 ?d2 ?d3 ?ms ?mq ?S ?q1 ?q2 ?r1 ?r2 ?r3 ?r4 ?r5 ?r6 ?H ?G ?R ?IA ?p1 ?s1 ?s2 ?s3 ?s4 ?s5); (case F => k_asm); (case N => k_asm); (case s1 => with_unfolding_all rfl); (case s2 => with_unfolding_all rfl); (case s3 => with_unfolding_all rfl); (case s4 => with_unfolding_all rfl); (case s5 => with_unfolding_all rfl); (case mI => k_mem); (case hoI => assumption); (case m1 => k_mem); (case m2 => k_mem); (case m3 => k_mem); (case d1 => assumption); (case d2 => assumption); (case d3 => assumption); (case ms => k_mem); (case mq => k_mem); (case S => assumption); (case q1 => assumption); (case q2 => assumption); (case r1 => exact off1_ne o9 (_, _) (by k_mem)); (case r2 => exact off1_ne o9 (_, _) (by k_mem)); (case r3 => exact off1_ne o9 (_, _) (by k_mem)); (case r4 => exact off1_ne o9 (_, _) (by k_mem)); (case r5 => exact off1_ne o9 (_, _) (by k_mem)); (case r6 => exact off1_ne o9 (_, _) (by k_mem)); (case H => ktr_rel); (case G => assumption); (case R => k_mem); (case IA => assumption); (case p1 => first | assumption | (intro h9; cases h9))))
local macro_rules | `(tactic| walk_at "storeName") => `(tactic| (k_here; k_dflt (first | (refine' storeC3 ?F ?N ?K ?hc ?hd ?_ ?hk ?hx; (case hx => rfl); (case hc => rfl); (case hk => rfl); (case F => k_asm); (case N => k_asm); (case K => assumption); (case hd => assumption)) | (refine' storeC2 ?F ?N ?K ?hc ?hd ?_ ?hk ?hx; (case hx => rfl); (case hc => rfl); (case hk => rfl); (case F => k_asm); (case N => k_asm); (case K => assumption); (case hd => assumption)) | (refine' storeC1 ?F ?N ?K ?hc ?hd ?_ ?hk ?hx; (case hx => rfl); (case hc => rfl); (case hk => rfl); (case F => k_asm); (case N => k_asm); (case K => assumption); (case hd => assumption))); intro h' o' F' N' d'))
local macro_rules | `(tactic| walk_at "binaryOp Mult ref int") => `(tactic| (k_here; k_dflt (refine' zerosL ?F ?N ?m1 ?x0 ?x1 ?_; (case F => k_asm); (case N => k_asm); (case m1 => exact List.mem_cons_self); (case x0 => omega); (case x1 => omega); k_whole); intro D' us' h' F' N' I'; (try dsimp only)))
theorem perm6 {h₀ h : Heap} {L : Addr} {a b c d e f : Addr × Obj} (N : News h₀ L h [a, b, c, d, e, f]) : News h₀ L h [d, e, f, a, b] := newsSub N (by
  intro p hp
  simp only [List.mem_cons, List.not_mem_nil, or_false] at hp ⊢
  rcases hp with h | h | h | h | h <;> simp [h])
theorem perm10 {h₀ h : Heap} {L : Addr} {a b c d e f g i j k : Addr × Obj} (N : News h₀ L h [a, b, c, d, e, f, g, i, j, k]) : News h₀ L h [f, g, i, j, k, b, d, e] := newsSub N (by
  intro p hp
  simp only [List.mem_cons, List.not_mem_nil, or_false] at hp ⊢
  rcases hp with h | h | h | h | h | h | h | h <;> simp [h])
def ApL (st q : Addr) : List (Addr × Obj) → Prop
  | [] => True
  | p :: r => (@Ne Nat p.1 st ∧ @Ne Nat p.1 q) ∧ ApL st q r
theorem ApL.all {st q : Addr} : ∀ {l : List (Addr × Obj)}, ApL st q l → ∀ p ∈ l, p.1 ≠ st ∧ p.1 ≠ q
  | [], _, _, h => nomatch h
  | _ :: _, x, p, h => by
    rcases List.mem_cons.mp h with rfl | h
    · exact x.1
    · exact ApL.all x.2 p h
theorem apart_of {h₀ h : Heap} {L st q : Addr} {os oq : Obj} {c1 c2 c3 : Addr × Obj} {rest : List (Addr × Obj)} (_N : News h₀ L h (c1 :: c2 :: c3 :: (st, os) :: (q, oq) :: rest)) (x : @Ne Nat st q ∧ ApL st q (c1 :: c2 :: c3 :: rest)) : Apart st q (c1 :: c2 :: c3 :: rest) := ⟨x.1, x.2.all⟩
def CeL (c1 c2 c3 : Addr) : List (Addr × Obj) → Prop
  | [] => True
  | p :: r => (@Ne Nat p.1 c1 ∧ @Ne Nat p.1 c2 ∧ @Ne Nat p.1 c3) ∧ CeL c1 c2 c3 r
theorem CeL.all {c1 c2 c3 : Addr} : ∀ {l : List (Addr × Obj)}, CeL c1 c2 c3 l → ∀ p ∈ l, p.1 ≠ c1 ∧ p.1 ≠ c2 ∧ p.1 ≠ c3
  | [], _, _, h => nomatch h
  | _ :: _, x, p, h => by
    rcases List.mem_cons.mp h with rfl | h
    · exact x.1
    · exact CeL.all x.2 p h
theorem cells_of {h₀ h : Heap} {L : Addr} {c1 c2 c3 s q : Addr × Obj} {rest : List (Addr × Obj)} (_N : News h₀ L h (c1 :: c2 :: c3 :: s :: q :: rest)) (x : CeL c1.1 c2.1 c3.1 rest) : ∀ p ∈ rest, p.1 ≠ c1.1 ∧ p.1 ≠ c2.1 ∧ p.1 ≠ c3.1 := x.all
theorem turnN {h₀ h : Heap} {L : Addr} {a b c d e f : Addr × Obj} {rest : List (Addr × Obj)} (N : News h₀ L h (a :: b :: c :: d :: e :: f :: rest)) : News h₀ L h (b :: c :: d :: e :: f :: a :: rest) := newsSub N (by
  intro p hp
  simp only [List.mem_cons] at hp ⊢
  rcases hp with h | h | h | h | h | h | h <;> simp [h])
theorem turnD {st q : Addr} {c1 c2 c3 : Addr × Obj} {I : Addr} {oI os oq : Obj} {rest : List (Addr × Obj)} (D : Apart st q (c1 :: c2 :: c3 :: rest)) (hnI : ∀ p ∈ c1 :: c2 :: c3 :: (st, os) :: (q, oq) :: rest, p.1 ≠ I) : Apart st q (c1 :: c2 :: c3 :: (I, oI) :: rest) := by
  refine ⟨D.1, fun p hp => ?_⟩
  simp only [List.mem_cons] at hp
  rcases hp with rfl | rfl | rfl | rfl | h
  · exact D.2 _ (by simp)
  · exact D.2 _ (by simp)
  · exact D.2 _ (by simp)
  · exact ⟨fun e => hnI (st, os) (by simp) e.symm, fun e => hnI (q, oq) (by simp) e.symm⟩
  · exact D.2 _ (by simp [h])
theorem apNe {st q c1 c2 c3 : Addr} {o1 o2 o3 : Obj} {rest : List (Addr × Obj)} (D : Apart st q ((c1, o1) :: (c2, o2) :: (c3, o3) :: rest)) : Q1 st q c1 c2 c3 := by
  have e1 := D.2 (c1, o1) (by simp)
  have e2 := D.2 (c2, o2) (by simp)
  have e3 := D.2 (c3, o3) (by simp)
  exact ⟨e1.1, e1.2, e2.1, e2.2, e3.1, e3.2, D.1⟩
theorem inNe {st q c1 c2 c3 I : Addr} {o1 o2 o3 os oq : Obj} {rest : List (Addr × Obj)} (D : ∀ p ∈ (c1, o1) :: (c2, o2) :: (c3, o3) :: (st, os) :: (q, oq) :: rest, p.1 ≠ I) : Q2 st q c1 c2 c3 I :=
  ⟨D (c1, o1) (by simp), D (c2, o2) (by simp), D (c3, o3) (by simp), D (st, os) (by simp), D (q, oq) (by simp)⟩
theorem start_ok {ys : List Value} {ws : List Int} {n : Int} (hI : IntsAre ys (List.map (fun k' => (if k' < 0 then -k' else k').fmod 1000000007) (List.take 24 ws))) (hn0 : 0 ≤ n) (hn : n < 2147483647) : StOk ys 0 n := by
  refine ⟨_, hI, ?_, ?_, by decide, by decide, hn0, hn⟩
  · rw [List.length_map, List.length_take]; omega
  · intro v hv
    obtain ⟨k, _, rfl⟩ := List.mem_map.mp hv
    rw [fm (by decide)]
    omega
theorem whole : PySem.Challenge.rw_fk5023_01.Holds := Mine.hd (by
  k_go0
  (all_goals try k_fold)
  repeat' (first | (k_unfold; (try dsimp only)) | (k_end; wrow_close) | ((fail_if_success (with_reducible show wpAny _ _ (call (Value.ref 728) _) _ _ _)); walk1) | (leave1; walk_say "STEP leave1"; try dsimp only))
  rename News _ _ _ [_, _, _, _, _, _] => N6
  rename ¬ _ < ((List.length _ : Nat) : Int) => hlen
  rename IntsAre _ (List.map _ (List.take 24 _)) => hI8
  rename _ ∧ _ ∧ _ ∧ _ ∧ _ => l9
  refine' takeL (start_ok hI8 ?n0 ?n1) ?D ?m0 ?m1 ?B ?F ?X (perm6 N6) ?T ?hk ?hd ?hu ?_
  (case B => k_asm); (case F => k_asm); (case X => k_asm); (case T => k_asm); (case hk => exact rfl)
  (case n0 => omega); (case n1 => omega)
  (case m0 => decide); (case m1 => decide)
  (case hd => k_room); (case hu => k_units)
  (case D =>
    rename _ ∧ _ ∧ _ ∧ _ => o9
    refine ⟨neN (by omega), fun p hp => ?_⟩
    simp only [List.mem_cons, List.not_mem_nil, or_false] at hp
    rcases hp with rfl | rfl | rfl <;> exact ⟨neN (by dsimp only; omega), neN (by dsimp only; omega)⟩)
  intro k tk x' tx' y' ty' vs' nst' nq' h' tk' k0 k1 S1 F1 N1
  rename List.length _ = _ => hkl; clear hkl
  rename List.length _ = _ => hkl; clear hkl
  repeat' (first | (k_unfold; (try dsimp only)) | (k_end; wrow_close) | ((fail_if_success (with_reducible show wpAny _ _ (call (Value.ref 728) _) _ _ _)); walk1) | (leave1; walk_say "STEP leave1"; try dsimp only))
  rename News _ _ _ [_, _, _, _, _, _, _, _, _, _] => N10
  have N10' := perm10 N10
  have AP2 : Apart _ _ _ := apart_of N10' (by
    rename _ ∧ _ ∧ _ ∧ _ => o9
    refine ⟨neN (by omega), ?_⟩
    (repeat' (first | exact True.intro | (refine And.intro ⟨neN (by dsimp only; omega), neN (by dsimp only; omega)⟩ ?_))))
  have CP2 := cells_of N10' (by (repeat' (first | exact True.intro | (refine And.intro ⟨neN (by dsimp only; omega), neN (by dsimp only; omega), neN (by dsimp only; omega)⟩ ?_))))
  refine' takeL S1 AP2 ?m02 ?m12 ?B2 ?F2 ?X2 N10' ?T2 ?hk2 ?hd2 ?hu2 ?_
  (case B2 => k_asm); (case F2 => k_asm); (case X2 => k_asm); (case T2 => k_asm); (case hk2 => exact rfl)
  (case m02 => decide); (case m12 => decide)
  (case hd2 => k_room); (case hu2 => k_units)
  (repeat' (with_reducible rename _ ∧ _ => h9; clear h9))
  intro k2 tk2 x2 tx2 y2 ty2 vs2 nst2 nq2 h2 tk2' k20 k21 S2 F2 N2
  repeat' (first | (k_unfold; (try dsimp only)) | (k_end; wrow_close) | ((fail_if_success (with_reducible show wpAny _ _ (pyIter _) _ _ _)); walk1) | (leave1; walk_say "STEP leave1"; try dsimp only))
  rename News _ _ _ [_, _, _, _, _, _, _, _] => N8
  rename IsRange _ _ _ (1 + k2) _ _ _ _ => rg
  refine' range_invG (n := (1 + k2 - 0).toNat) (LawJ (World.params _) (1 + k) _ _ _ _ _) ?hh3 rg ?sm3 ?rs3 ?F3 N8 ?hj3 ?turn3 ?done3
  (case hh3 => rfl)
  (case sm3 => exact small_one (by omega) (by omega) (by omega) (by omega))
  (case rs3 => exact rangeSize_nat _ _)
  (case F3 => k_asm)
  (case hj3 =>
    refine' LawJ.intro S2 AP2 CP2 ?e1 ?e2 ?e3 ?e4 ?e5 ?e6 ?e7 ?e8 (good_var (M := 1 + k) ?e9 ?e10) ?e11 ?e12 ?e13 ?e14
    (case e1 => assumption); (case e2 => assumption); (case e3 => assumption)
    (case e4 => with_unfolding_all rfl); (case e5 => with_unfolding_all rfl); (case e6 => with_unfolding_all rfl); (case e7 => with_unfolding_all rfl); (case e8 => with_unfolding_all rfl)
    (case e9 => omega); (case e10 => omega)
    (case e11 => (refine' NodeIn.var ?f1 ?f2 ?f3 ?f4; (case f3 => k_mem); (case f4 => k_mem); (case f1 => rfl); (case f2 => rfl)))
    (case e12 => k_mem)
    (case e13 => rw [rowOf_var]; assumption)
    (case e14 => exact fun _ => rfl))
  (case turn3 =>
    intro i kk tki m₁ nx h tk I oI hi hoI hnI J F N
    obtain ⟨o1, o2, o3, x, y, tx, ty, tm, vs, ys, nst, nq, nr, rest, v, rw, t, pl, rfl, S, D, C, ⟨u1, d1⟩, ⟨u2, d2⟩, ⟨u3, d3⟩, H, G, R, IA, p1, s1, s2, s3, s4, s5⟩ := J
    rw [map5 s1 s2 s3 s4 s5] at F
    have N' := turnN N
    have D' := turnD (oI := oI) D hnI
    have hle : i ≤ 5 := by omega
    have hyl : ys.length ≤ 12 := by rw [IA.length, rowOf_len]; omega
    have q1 := apNe D
    have q2 := inNe hnI
    have K := CellsOff.more (oI := oI) (CellsOff.of D C (neN (by omega)) (neN (by omega)) (neN (by omega))) q2
    clear N
    repeat' (first | (k_unfold; (try dsimp only)) | (k_end; wrow_close) | ((fail_if_success (with_reducible show wpAny _ _ (compareOp CmpOp.NotEq (Value.ref _) (Value.ref _)) _ _ _)); walk1) | (leave1; walk_say "STEP leave1"; try dsimp only))
    · rename MulRes _ _ _ _ => RR
      rename IntsAre _ (List.map _ (rowOf _ _)) => IB
      rw [← rowOf_mul RR] at IB
      have pm : pl = true → _ := fun h => pl_mx (show 1 ≤ 1 + k by omega) RR.wf (RR.pl (p1 h))
      have wm := WF.mx0 RR.wf
      have pq : pl = true → _ := fun h => RR.pl (p1 h)
      repeat' (first | (k_unfold; (try dsimp only)) | (k_end; wrow_close) | ((fail_if_success (with_reducible show wpAny _ _ (compareOp CmpOp.NotEq (Value.int (Nd.mx _) _) (Value.int (Nd.val _ _) _)) _ _ _)); walk1) | (leave1; walk_say "STEP leave1"; try dsimp only))
      · have e := pm (by assumption)
        k_steps
      all_goals k_steps
    · rename DivRes _ _ _ _ => RR
      rename IntsAre _ (List.map _ (rowOf _ _)) => IB
      rw [← rowOf_div RR] at IB
      have pm : pl = true → _ := fun h => pl_mx (show 1 ≤ 1 + k by omega) RR.wf (RR.pl (p1 h))
      have wm := WF.mx0 RR.wf
      have pq : pl = true → _ := fun h => RR.pl (p1 h)
      repeat' (first | (k_unfold; (try dsimp only)) | (k_end; wrow_close) | ((fail_if_success (with_reducible show wpAny _ _ (compareOp CmpOp.NotEq (Value.int (Nd.mx _) _) (Value.int (Nd.val _ _) _)) _ _ _)); walk1) | (leave1; walk_say "STEP leave1"; try dsimp only))
      · have e := pm (by assumption)
        k_steps
      all_goals k_steps
    · rename ModRes _ _ _ _ => RR
      rename IntsAre _ (List.map _ (rowOf _ _)) => IB
      rw [← rowOf_mod RR] at IB
      have wm := WF.mx0 RR.wf
      k_steps)
  (case done3 =>
    intro m₁ nx h tk J F N
    obtain ⟨o1, o2, o3, x, y, tx, ty, tm, vs, ys, nst, nq, nr, rest, v, rw, t, pl, rfl, S, D, C, ⟨u1, d1⟩, ⟨u2, d2⟩, ⟨u3, d3⟩, H, G, R, IA, p1, s1, s2, s3, s4, s5⟩ := J
    rw [map5' s1 s2 s3 s4 s5] at F
    have hn6 : (1 + k2 - 0).toNat ≤ 6 := by omega
    have hyl : ys.length ≤ 12 := by rw [IA.length, rowOf_len]; omega
    have K := CellsOff.of D C (neN (by omega)) (neN (by omega)) (neN (by omega))
    repeat' (first | (k_unfold; (try dsimp only)) | (k_end; wrow_close) | ((fail_if_success (with_reducible show wpAny _ _ (call (Value.ref 728) _) _ _ _)); walk1) | (leave1; walk_say "STEP leave1"; try dsimp only))
    refine' takeL S D ?m04 ?m14 ?B4 ?F4 ?X4 N ?T4 ?hk4 ?hd4 ?hu4 ?_
    (case B4 => k_asm); (case F4 => k_asm); (case X4 => k_asm); (case T4 => k_asm); (case hk4 => exact rfl)
    (case m04 => decide); (case m14 => decide)
    (case hd4 => k_room); (case hu4 => k_units)
    intro ka tk3 x3 tx3 y3 ty3 vs3 nst3 nq3 h3 tk3' ka0 ka1 S3 F3 N3
    repeat' (first | (k_unfold; (try dsimp only)) | (k_end; wrow_close) | ((fail_if_success (with_reducible show wpAny _ _ (call (Value.ref 728) _) _ _ _)); walk1) | (leave1; walk_say "STEP leave1"; try dsimp only))
    refine' takeL S3 D ?m05 ?m15 ?B5 ?F5 ?X5 N3 ?T5 ?hk5 ?hd5 ?hu5 ?_
    (case B5 => k_asm); (case F5 => k_asm); (case X5 => k_asm); (case T5 => k_asm); (case hk5 => exact rfl)
    (case m05 => decide); (case m15 => decide)
    (case hd5 => k_room); (case hu5 => k_units)
    intro kb tk4 x4 tx4 y4 ty4 vs4 nst4 nq4 h4 tk4' kb0 kb1 S4 F4 N4
    have hab := prodAB ka0 ka1 kb0 kb1
    clear S S3 S4
    repeat' (first | (k_unfold; (try dsimp only)) | (k_end; wrow_close) | ((fail_if_success (with_reducible show wpAny _ _ (compareOp _ (Value.ref _) (Value.ref _)) _ _ _)); walk1) | (leave1; walk_say "STEP leave1"; try dsimp only))
    rename DivRes _ _ _ _ => RB
    have e1 := cmp1 (t := t) (a := 1 + ka) (b := 1 + kb) (by assumption) RB (by omega) (by omega)
    rename IntsAre _ (List.map _ (rowOf _ _)) => IB
    rw [← e1] at IB
    walk1
    repeat' (first | (k_unfold; (try dsimp only)) | (k_end; wrow_close) | ((fail_if_success (with_reducible show wpAny _ _ (compareOp _ (Value.ref _) (Value.ref _)) _ _ _)); walk1) | (leave1; walk_say "STEP leave1"; try dsimp only))
    rename DivRes _ _ _ _ => RB2
    rename IntsAre _ (List.map _ (rowOf _ _)) => IB2
    rw [← rowOf_div RB2] at IB2
    walk1
    repeat' (first | (k_unfold; (try dsimp only)) | (k_end; wrow_close) | ((fail_if_success (with_reducible show wpAny _ _ (compareOp _ (Value.ref _) (Value.ref _)) _ _ _)); walk1) | (leave1; walk_say "STEP leave1"; try dsimp only))
    rename DivRes _ _ _ _ => RB3
    have e3 := cmp3 (t := t) (a := 1 + ka) (by assumption) RB3 (by omega)
    rename IntsAre _ (rowOf _ _) => IB3
    rw [e3] at IB3
    walk1
    repeat' (first | (k_unfold; (try dsimp only)) | (k_end; wrow_close) | ((fail_if_success (with_reducible show wpAny _ _ (compareOp _ (Value.ref _) (Value.ref _)) _ _ _)); walk1) | (leave1; walk_say "STEP leave1"; try dsimp only))
    rename ModRes _ _ _ _ => RB4
    have e4 := cmp4' (t := t) (a := 1 + ka) (by assumption) RB4 (by omega)
    rename IntsAre _ (rowOf _ _) => IB4
    rw [e4] at IB4
    walk1
    repeat' (first | (k_unfold; (try dsimp only)) | (k_end; wrow_close) | ((fail_if_success (with_reducible show wpAny _ _ (compareOp _ (Value.ref _) (Value.ref _)) _ _ _)); walk1) | (leave1; walk_say "STEP leave1"; try dsimp only))
    rename ModRes _ _ _ _ => RB5
    have e5 := cmp5 (t := t) (a := 1 + ka) (b := 1 + kb) (by assumption) RB5 (by omega) (by omega)
    rename IntsAre _ (List.map _ (rowOf _ _)) => IB5
    rw [← e5] at IB5
    walk1
    repeat' (first | (k_unfold; (try dsimp only)) | (k_end; wrow_close) | ((fail_if_success (with_reducible show wpAny _ _ (compareOp _ (Value.ref _) (Value.ref _)) _ _ _)); walk1) | (leave1; walk_say "STEP leave1"; try dsimp only))
    rename DivRes _ _ _ _ => RB6
    have e6 := cmp6 (t := t) (by assumption) RB6
    rename IntsAre _ (List.map _ (rowOf _ _)) => IB6
    rw [← e6] at IB6
    walk1
    k_steps))
end
end Mine
theorem PySem.Challenge.cw_fk5023_01_holds : PySem.Challenge.rw_fk5023_01.Holds := by
  exact Mine.whole
