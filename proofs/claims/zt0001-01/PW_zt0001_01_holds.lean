import PyProof.Rows.All
import Wide.All
import OpenK.AllK
import Wide.FinOn
import Lean
import PySem.Challenge.RW_zt0001_01
set_option compiler.extract_closed false
set_option linter.all false
local macro_rules | `(tactic| walk_at "last exec While") => `(tactic| k_extra "!last exec While")
local macro_rules | `(tactic| walk_at "WhlRest") => `(tactic| k_extra "!WhlRest")
local macro_rules | `(tactic| walk_at "call builtin:min") => `(tactic| k_extra "!call builtin:min")
local macro_rules | `(tactic| walk_at "call builtin:max") => `(tactic| k_extra "!call builtin:max")
local macro_rules | `(tactic| walk_at "eval ListComp") => `(tactic| k_extra "!eval ListComp")
local macro_rules | `(tactic| mul_fits) => `(tactic| k_extra "mul_fits")

-- PA
set_option linter.unusedVariables false
namespace Mine

/-- the sum of f over n ints from lo on -/
def Sz (lo : Int) : Nat → (Int → Int) → Int
  | 0, _ => 0
  | n + 1, f => Sz lo n f + f (lo + n)

theorem Sz_succ (lo : Int) (n : Nat) (f : Int → Int) : Sz lo (n + 1) f = Sz lo n f + f (lo + n) := rfl
theorem Sz_ext {lo : Int} {f g : Int → Int} : ∀ {n : Nat}, (∀ x, lo ≤ x → x < lo + n → f x = g x) → Sz lo n f = Sz lo n g
  | 0, _ => rfl
  | n + 1, h => by
    unfold Sz
    rw [Sz_ext (n := n) fun x h1 h2 => h x h1 (by omega), h (lo + n) (by omega) (by omega)]
theorem Sz_zero {lo : Int} {f : Int → Int} : ∀ {n : Nat}, (∀ x, lo ≤ x → x < lo + n → f x = 0) → Sz lo n f = 0
  | 0, _ => rfl
  | n + 1, h => by
    unfold Sz
    rw [Sz_zero (n := n) fun x h1 h2 => h x h1 (by omega), h (lo + n) (by omega) (by omega)]; rfl
theorem Sz_cut (lo : Int) (f : Int → Int) (a : Nat) : ∀ (b : Nat), Sz lo (a + b) f = Sz lo a f + Sz (lo + a) b f
  | 0 => by simp [Sz]
  | b + 1 => by
    have ih := Sz_cut lo f a b
    show Sz lo (a + b) f + f (lo + ((a + b : Nat) : Int)) = Sz lo a f + (Sz (lo + a) b f + f (lo + a + b))
    rw [ih, Int.natCast_add, Int.add_assoc lo, Int.add_assoc]
theorem Sz_plus (lo : Int) (f g : Int → Int) : ∀ (n : Nat), Sz lo n (fun x => f x + g x) = Sz lo n f + Sz lo n g
  | 0 => rfl
  | n + 1 => by
    rw [Sz_succ, Sz_succ, Sz_succ, Sz_plus lo f g n]; omega
theorem Sz_const (lo c : Int) : ∀ (n : Nat), Sz lo n (fun _ => c) = n * c
  | 0 => by simp [Sz]
  | n + 1 => by
    unfold Sz
    rw [Sz_const lo c n]; grind
theorem Sz_shift (lo t : Int) (f : Int → Int) : ∀ (n : Nat), Sz lo n (fun x => f (x + t)) = Sz (lo + t) n f
  | 0 => rfl
  | n + 1 => by
    rw [Sz_succ, Sz_succ, Sz_shift lo t f n, show lo + t + n = lo + (n : Int) + t by omega]
theorem Sz_wide {lo LO : Int} {n N : Nat} {f : Int → Int} (h : ∀ x, f x ≠ 0 → lo ≤ x ∧ x < lo + n) (h1 : LO ≤ lo) (h2 : lo + n ≤ LO + N) : Sz LO N f = Sz lo n f := by
  obtain ⟨a, ha⟩ := Int.eq_ofNat_of_zero_le (show 0 ≤ lo - LO by omega)
  obtain ⟨b, hb⟩ := Int.eq_ofNat_of_zero_le (show 0 ≤ LO + N - (lo + n) by omega)
  have e : N = a + (n + b) := by omega
  have e2 : LO + (a : Int) = lo := by omega
  rw [e, Sz_cut, Sz_cut, e2]
  have z1 : Sz LO a f = 0 := Sz_zero fun x h3 h4 => by
    by_cases q : f x = 0
    · exact q
    · have := h x q; omega
  have z2 : Sz (lo + n) b f = 0 := Sz_zero fun x h3 h4 => by
    by_cases q : f x = 0
    · exact q
    · have := h x q; omega
  rw [z1, z2]; omega
theorem Sz_flip (lo mo : Int) (f : Int → Int → Int) (m : Nat) : ∀ (n : Nat), Sz lo n (fun x => Sz mo m (f x)) = Sz mo m (fun y => Sz lo n fun x => f x y)
  | 0 => (Sz_zero fun _ _ _ => rfl).symm
  | n + 1 => by
    show Sz lo n (fun x => Sz mo m (f x)) + Sz mo m (f (lo + n)) = Sz mo m (fun y => Sz lo n (fun x => f x y) + f (lo + n) y)
    rw [Sz_flip lo mo f m n, Sz_plus]
theorem Sz_front (lo : Int) (f : Int → Int) (n : Nat) : Sz lo (n + 1) f = f lo + Sz (lo + 1) n f := by
  rw [Nat.add_comm, Sz_cut]
  show 0 + f (lo + ((0 : Nat) : Int)) + _ = _
  simp
theorem Sz_neg : ∀ (n : Nat) (lo : Int) (f : Int → Int), Sz lo n (fun x => f (-x)) = Sz (1 - lo - n) n f
  | 0, _, _ => rfl
  | n + 1, lo, f => by
    rw [Sz_front (1 - lo - ((n + 1 : Nat) : Int)), Sz_succ, Sz_neg n lo f, show 1 - lo - ((n + 1 : Nat) : Int) = -(lo + (n : Int)) by omega, show -(lo + (n : Int)) + 1 = 1 - lo - n by omega]
    omega

/-- v is the sum of f over all points: f is nought outside a box about the origin -/
def Tot (f : Int → Int → Int) (v : Int) : Prop :=
  ∃ N : Nat, (∀ x y, f x y ≠ 0 → (-(N : Int) ≤ x ∧ x < N) ∧ -(N : Int) ≤ y ∧ y < N) ∧ Sz (-N) (N + N) (fun x => Sz (-N) (N + N) (f x)) = v
theorem dbl (N : Nat) (x : Int) : x < -(N : Int) + (N + N : Nat) ↔ x < N := by omega
theorem neg_le {N M : Nat} (h : N ≤ M) : -(M : Int) ≤ -(N : Int) := by omega
theorem dbl_le {N M : Nat} (h : N ≤ M) : -(N : Int) + (N + N : Nat) ≤ -(M : Int) + (M + M : Nat) := by omega
theorem Sz_big {N M : Nat} {f : Int → Int} (h : ∀ x, f x ≠ 0 → -(N : Int) ≤ x ∧ x < N) (le : N ≤ M) : Sz (-M) (M + M) f = Sz (-N) (N + N) f :=
  Sz_wide (fun x hx => ⟨(h x hx).1, (dbl N x).mpr (h x hx).2⟩) (neg_le le) (dbl_le le)
theorem Sz_ne {f : Int → Int} {lo : Int} {n : Nat} (h : Sz lo n f ≠ 0) : ∃ x, f x ≠ 0 := Classical.byContradiction fun q => h (Sz_zero fun x _ _ => Classical.byContradiction fun r => q ⟨x, r⟩)
theorem box_big {N M : Nat} {f : Int → Int → Int} (h : ∀ x y, f x y ≠ 0 → (-(N : Int) ≤ x ∧ x < N) ∧ -(N : Int) ≤ y ∧ y < N) (le : N ≤ M) :
    Sz (-M) (M + M) (fun x => Sz (-M) (M + M) (f x)) = Sz (-N) (N + N) (fun x => Sz (-N) (N + N) (f x)) := by
  rw [show (fun x => Sz (-M) (M + M) (f x)) = fun x => Sz (-N) (N + N) (f x) from funext fun x => Sz_big (fun y hy => (h x y hy).2) le]
  exact Sz_big (fun x hx => let ⟨y, hy⟩ := Sz_ne hx; (h x y hy).1) le
theorem Tot.big {f : Int → Int → Int} {v : Int} (a : Tot f v) : ∃ N : Nat, ∀ M : Nat, N ≤ M → (∀ x y, f x y ≠ 0 → (-(M : Int) ≤ x ∧ x < M) ∧ -(M : Int) ≤ y ∧ y < M) ∧ Sz (-M) (M + M) (fun x => Sz (-M) (M + M) (f x)) = v := by
  obtain ⟨N, h, e⟩ := a
  refine ⟨N, fun M le => ⟨fun x y q => ?_, (box_big h le).trans e⟩⟩
  have up : ∀ {z : Int}, (-(N : Int) ≤ z ∧ z < N) → -(M : Int) ≤ z ∧ z < M := fun q => ⟨Int.le_trans (neg_le le) q.1, Int.lt_of_lt_of_le q.2 (Int.ofNat_le.mpr le)⟩
  exact ⟨up (h x y q).1, up (h x y q).2⟩
theorem Tot.box {f : Int → Int → Int} (lo : Int) (n : Nat) (mo : Int) (m : Nat) (h : ∀ x y, f x y ≠ 0 → (lo ≤ x ∧ x < lo + n) ∧ mo ≤ y ∧ y < mo + m) : Tot f (Sz lo n (fun x => Sz mo m (f x))) := by
  have h1 : -((lo.natAbs + n + mo.natAbs + m : Nat) : Int) ≤ lo ∧ lo + n ≤ ((lo.natAbs + n + mo.natAbs + m : Nat) : Int) := by omega
  have h2 : -((lo.natAbs + n + mo.natAbs + m : Nat) : Int) ≤ mo ∧ mo + m ≤ ((lo.natAbs + n + mo.natAbs + m : Nat) : Int) := by omega
  generalize lo.natAbs + n + mo.natAbs + m = N at h1 h2
  refine ⟨N, fun x y q => ?_, ?_⟩
  · have := h x y q
    exact ⟨⟨Int.le_trans h1.1 this.1.1, Int.lt_of_lt_of_le this.1.2 h1.2⟩, Int.le_trans h2.1 this.2.1, Int.lt_of_lt_of_le this.2.2 h2.2⟩
  · have e : -(N : Int) + (N + N : Nat) = N := by omega
    rw [show (fun x => Sz (-N) (N + N) (f x)) = fun x => Sz mo m (f x) from funext fun x => Sz_wide (fun y hy => (h x y hy).2) h2.1 (e.symm ▸ h2.2)]
    exact Sz_wide (fun x hx => let ⟨y, hy⟩ := Sz_ne hx; (h x y hy).1) h1.1 (e.symm ▸ h1.2)
theorem Tot.of {f : Int → Int → Int} {v : Int} (lo : Int) (n : Nat) (mo : Int) (m : Nat) (h : ∀ x y, f x y ≠ 0 → (lo ≤ x ∧ x < lo + n) ∧ mo ≤ y ∧ y < mo + m) (e : Sz lo n (fun x => Sz mo m (f x)) = v) : Tot f v := e ▸ Tot.box lo n mo m h
theorem Tot.unique {f : Int → Int → Int} {v w : Int} (a : Tot f v) (b : Tot f w) : v = w := by
  obtain ⟨N, h⟩ := a.big
  obtain ⟨M, h'⟩ := b.big
  exact (h (N + M) (Nat.le_add_right ..)).2.symm.trans (h' (N + M) (Nat.le_add_left ..)).2
theorem Tot.ext {f g : Int → Int → Int} {v : Int} (a : Tot f v) (h : ∀ x y, f x y = g x y) : Tot g v := by
  rw [show g = f from funext fun x => funext fun y => (h x y).symm]; exact a
theorem Tot.flip {f : Int → Int → Int} {v : Int} (a : Tot f v) : Tot (fun x y => f y x) v := by
  obtain ⟨N, h, rfl⟩ := a
  exact ⟨N, fun x y q => ⟨(h y x q).2, (h y x q).1⟩, (Sz_flip _ _ f _ _).symm⟩
theorem Tot.negx {f : Int → Int → Int} {v : Int} (a : Tot f v) : Tot (fun x y => f (-x) y) v := by
  obtain ⟨N, h, rfl⟩ := a
  have e : Sz (-(N : Int)) (N + N) (fun x => Sz (-(N : Int)) (N + N) (f x)) = Sz (1 - (N : Int)) (N + N) (fun x => Sz (-(N : Int)) (N + N) (f (-x))) := by
    rw [Sz_neg _ _ fun x => Sz (-(N : Int)) (N + N) (f x), show 1 - (1 - (N : Int)) - (N + N : Nat) = -N by omega]
  rw [e]
  refine Tot.box _ _ _ _ fun x y q => ⟨?_, (h _ y q).2.1, (dbl _ _).mpr (h _ y q).2.2⟩
  have := (h _ y q).1
  omega
/-- each row shifted by its own number -/
theorem Tot.rows {f : Int → Int → Int} {v : Int} (t : Int → Int) (B : Nat → Nat) (hB : ∀ (N : Nat) (y : Int), -(N : Int) ≤ y → y < N → -(B N : Int) ≤ t y ∧ t y ≤ B N) (a : Tot f v) : Tot (fun x y => f (x - t y) y) v := by
  obtain ⟨N, h, rfl⟩ := a
  have hb := hB N
  generalize B N = b at hb
  have e : Sz (-(N : Int)) (N + N) (fun x => Sz (-(N : Int)) (N + N) (f x)) = Sz (-(N : Int) - b) (N + N + (b + b)) (fun x => Sz (-(N : Int)) (N + N) (fun y => f (x - t y) y)) := by
    rw [Sz_flip _ _ (fun x y => f (x - t y) y), Sz_flip _ _ f]
    refine Sz_ext fun y h1 h2 => ?_
    have h3 := hb y h1 ((dbl N y).mp h2)
    have e := Sz_shift (-(N : Int)) (t y) (fun x => f (x - t y) y) (N + N)
    simp only [Int.add_sub_cancel] at e
    rw [e]
    refine (Sz_wide (fun x q => ?_) (by omega) (by omega)).symm
    have := (h _ _ q).1
    omega
  rw [e]
  refine Tot.box _ _ _ _ fun x y q => ⟨?_, (h _ _ q).2.1, (dbl _ _).mpr (h _ _ q).2.2⟩
  have h1 := (h _ _ q).1
  have h2 := hb y (h _ _ q).2.1 (h _ _ q).2.2
  omega
theorem Tot.movex {f : Int → Int → Int} {v : Int} (a : Tot f v) (t : Int) : Tot (fun x y => f (x - t) y) v :=
  a.rows (fun _ => t) (fun _ => t.natAbs) (by intro N y _ _; omega)
theorem Tot.move {f : Int → Int → Int} {v : Int} (a : Tot f v) (t u : Int) : Tot (fun x y => f (x - t) (y - u)) v :=
  ((a.movex t).flip.movex u).flip
theorem Tot.shear {f : Int → Int → Int} {v : Int} (a : Tot f v) : Tot (fun x y => f (x - y) y) v :=
  a.rows (fun y => y) (fun N => N) (fun N y h1 h2 => ⟨h1, Int.le_of_lt h2⟩)
theorem Tot.unshear {f : Int → Int → Int} {v : Int} (a : Tot f v) : Tot (fun x y => f (x + y) y) v :=
  a.negx.shear.negx.ext fun x y => by rw [show -(-x - y) = x + y by omega]
end Mine

-- PB
set_option linter.unusedVariables false
namespace Mine

/-- how many of 0 .. n-1 -/
def one (p : Prop) [Decidable p] : Int := if p then 1 else 0
theorem Sz_mults (m : Nat) (hm : 0 < m) : ∀ g : Nat, Sz 0 (g * m) (fun k => one ((m : Int) ∣ k)) = g
  | 0 => by simp [Sz]
  | g + 1 => by
    rw [Nat.succ_mul, Sz_cut, Sz_mults m hm g]
    obtain ⟨k, rfl⟩ : ∃ k, m = k + 1 := ⟨m - 1, by omega⟩
    rw [Sz_front]
    have e0 : one (((k + 1 : Nat) : Int) ∣ 0 + ((g * (k + 1) : Nat) : Int)) = 1 := by
      unfold one
      rw [if_pos]
      rw [Int.zero_add]
      exact Int.natCast_dvd_natCast.mpr (Nat.dvd_mul_left _ _)
    rw [e0, Sz_zero]
    · omega
    · intro x h1 h2
      unfold one
      rw [if_neg]
      rintro ⟨c, hc⟩
      subst hc
      have h3 : ((k + 1 : Nat) : Int) * g < ((k + 1 : Nat) : Int) * c := by
        have : ((g * (k + 1) : Nat) : Int) = ((k + 1 : Nat) : Int) * g := by rw [Int.natCast_mul, Int.mul_comm]
        omega
      have h4 : ((k + 1 : Nat) : Int) * c < ((k + 1 : Nat) : Int) * (g + 1) := by
        have : ((g * (k + 1) : Nat) : Int) = ((k + 1 : Nat) : Int) * g := by rw [Int.natCast_mul, Int.mul_comm]
        rw [Int.mul_add]
        omega
      have h5 := Int.lt_of_mul_lt_mul_left h3 (by omega)
      have h6 := Int.lt_of_mul_lt_mul_left h4 (by omega)
      omega

theorem dvd_iff (a : Int) (b : Nat) (hb : 0 < b) (k : Int) : ((b : Int) ∣ a * k) ↔ (((b / Int.gcd a b : Nat) : Int) ∣ k) := by
  have hg : 0 < Int.gcd a b := Int.gcd_pos_of_ne_zero_right _ (by omega)
  have h1 : Int.gcd a b ∣ b := by
    have := Int.gcd_dvd_natAbs_right a b
    simpa using this
  have h2 : Int.gcd a b ∣ a.natAbs := Int.gcd_dvd_natAbs_left a b
  have e : ((b : Int) ∣ a * k) ↔ b ∣ a.natAbs * k.natAbs := by
    rw [Int.ofNat_dvd_left, Int.natAbs_mul]
  have e2 : (((b / Int.gcd a b : Nat) : Int) ∣ k) ↔ (b / Int.gcd a b) ∣ k.natAbs := Int.ofNat_dvd_left
  rw [e, e2]
  have cop : Nat.Coprime (b / Int.gcd a b) (a.natAbs / Int.gcd a b) := (Nat.coprime_div_gcd_div_gcd (m := a.natAbs) (n := b) hg).symm
  clear e e2
  generalize Int.gcd a b = g at *
  obtain ⟨m, hm⟩ := h1
  obtain ⟨n, hn⟩ := h2
  rw [hm, Nat.mul_div_cancel_left _ hg]
  rw [hm, hn, Nat.mul_div_cancel_left _ hg, Nat.mul_div_cancel_left _ hg] at cop
  rw [hn, Nat.mul_assoc, Nat.mul_dvd_mul_iff_left hg]
  exact ⟨fun q => cop.dvd_of_dvd_mul_left q, fun q => Nat.dvd_mul_left_of_dvd q _⟩

theorem Sz_dvd (a : Int) (b : Nat) (hb : 0 < b) : Sz 0 b (fun k => one ((b : Int) ∣ a * k)) = Int.gcd a b := by
  have hg : 0 < Int.gcd a b := Int.gcd_pos_of_ne_zero_right _ (by omega)
  have h1 : Int.gcd a b ∣ b := by
    have := Int.gcd_dvd_natAbs_right a b
    simpa using this
  rw [← Sz_mults (b / Int.gcd a b) (Nat.div_pos (Nat.le_of_dvd hb h1) hg) (Int.gcd a b), Nat.mul_div_cancel' h1]
  refine Sz_ext fun k _ _ => ?_
  unfold one
  by_cases q : (b : Int) ∣ a * k
  · rw [if_pos q, if_pos ((dvd_iff a b hb k).mp q)]
  · rw [if_neg q, if_neg fun r => q ((dvd_iff a b hb k).mpr r)]
theorem Sz_dvd1 (a : Int) (b : Nat) (hb : 0 < b) : Sz 1 (b - 1) (fun k => one ((b : Int) ∣ a * k)) = Int.gcd a b - 1 := by
  have := Sz_dvd a b hb
  obtain ⟨c, rfl⟩ : ∃ c, b = c + 1 := ⟨b - 1, by omega⟩
  rw [Sz_front] at this
  have e : one (((c + 1 : Nat) : Int) ∣ a * 0) = 1 := by
    unfold one; rw [if_pos]; rw [Int.mul_zero]; exact Int.dvd_zero _
  rw [e] at this
  simp only [Nat.add_sub_cancel]
  rw [Int.zero_add] at this
  omega
/-- the classical sum of floors -/
theorem Sz_floor (a : Int) (b : Nat) (hb : 0 < b) : 2 * Sz 1 (b - 1) (fun k => a * k / b) = (a - 1) * (b - 1) + Int.gcd a b - 1 := by
  have h1 := Sz_neg (b - 1) 1 (fun k => (a * (b + k)) / b)
  have h2 := Sz_shift (1 - 1 - ((b - 1 : Nat) : Int)) b (fun k => a * k / b) (b - 1)
  have e1 : (fun x => a * (x + (b : Int)) / b) = fun k => (a * (b + k)) / b := funext fun x => by rw [Int.add_comm]
  rw [show 1 - 1 - ((b - 1 : Nat) : Int) + (b : Int) = 1 by omega] at h2
  have h2' := h2
  rw [show ((b - 1 : Nat) : Int) = (b : Int) - 1 by omega] at h2'
  have e2 : ∀ k : Int, (a * (b + -k)) / b = a - 1 + one ((b : Int) ∣ a * k) - a * k / b := fun k => by
    have hb' : (b : Int) ≠ 0 := by omega
    have : a * ((b : Int) + -k) = (-(a * k)) + a * b := by grind
    rw [this, Int.add_mul_ediv_right _ _ hb']
    unfold one
    split
    · rename_i h
      rw [Int.neg_ediv_of_dvd h]; omega
    · rename_i h
      have h3 : 0 < (a * k) % b := by
        have := Int.emod_nonneg (a * k) hb'
        have h4 : (a * k) % b ≠ 0 := fun q => h (Int.dvd_of_emod_eq_zero q)
        omega
      have h5 := Int.emod_lt_of_pos (a * k) (show (0 : Int) < b by omega)
      have h6 := Int.mul_ediv_add_emod (a * k) b
      have : -(a * k) / (b : Int) = -(a * k / b) - 1 := by
        rw [Int.ediv_eq_iff_of_pos (by omega)]
        constructor <;> grind
      omega
  have e3 : Sz 1 (b - 1) (fun k => a * (b + -k) / b) + Sz 1 (b - 1) (fun k => a * k / b) = Sz 1 (b - 1) (fun _ => a - 1) + Sz 1 (b - 1) (fun k => one ((b : Int) ∣ a * k)) := by
    rw [← Sz_plus, ← Sz_plus]
    refine Sz_ext fun k _ _ => ?_
    rw [e2]; omega
  rw [Sz_const, Sz_dvd1 a b hb] at e3
  have e4 : ((b - 1 : Nat) : Int) = b - 1 := by omega
  rw [e4] at e3
  have e5 : Sz 1 (b - 1) (fun k => a * (b + -k) / b) = Sz 1 (b - 1) (fun k => a * k / b) := by rw [h1, e4, ← e1]; exact h2'
  grind
end Mine

-- MyHead
open PySem PySem.W PyProof.Rows
set_option Elab.async false
namespace Mine
set_option maxRecDepth 100000 in
set_option maxHeartbeats 8000000 in
open_top hd for PySem.Challenge.rw_zt0001_01
end Mine
theorem Mine.top_off : True := by
  w_top off
  trivial

-- Base
open PySem PySem.W PyProof.Rows PySem.Calls
set_option Elab.async false
namespace Mine

/-- what a call needs of the place where it stands: the stack, the written part, the top -/
structure Rdy (p : Program) (loose : List Str) (mean : ExcName → Option Value) (mg mb : Str → Option Value) (K : Frag) (A : Around) (h : Heap) : Prop where
  below : ∃ base outer, Below A base outer h
  K : K.In h
  T : Top p loose mean mg mb h

/-- everything but S stays -/
def Stay (S : List Addr) (h h' : Heap) : Prop := ∀ b o, h.get? b = some o → b ∉ S → h'.get? b = some o
theorem Stay.refl (S : List Addr) (h : Heap) : Stay S h h := fun _ _ e _ => e
theorem Stay.trans {S : List Addr} {h h' h'' : Heap} (x : Stay S h h') (y : Stay S h' h'') : Stay S h h'' := fun b o e n => y b o (x b o e n) n
theorem Stay.of {h h' : Heap} {S : List Addr} (x : (hideAll h S).StaysIn h') : Stay S h h' := fun b o e n => x b o (hideAll_get _ e n)
theorem hidden_of {h : Heap} {b : Addr} {o : Obj} : ∀ {S : List Addr}, (hideAll h S).get? b = some o → b ∉ S := fun e q => by rw [hideAll_none _ q] at e; cases e
theorem Stay.hid {h h' : Heap} {S : List Addr} (x : Stay S h h') : (hideAll h S).StaysIn h' := fun b o e => x b o (of_hideAll _ e) (hidden_of e)
theorem Stay.more {h h' : Heap} {S S' : List Addr} (x : Stay S h h') (hs : ∀ a ∈ S, a ∈ S') : Stay S' h h' := fun b o e n => x b o e fun q => n (hs b q)
theorem Stay.tup {h h' : Heap} {S : List Addr} {a : Addr} {its : Array Value} (x : Stay S h h') (i : IsTup h a its) (n : a ∉ S) : IsTup h' a its := let ⟨o, ho, r⟩ := i; ⟨o, x a o ho n, r⟩
theorem Stay.list {h h' : Heap} {S : List Addr} {a : Addr} {its : Array Value} (x : Stay S h h') (i : h.IsList a its) (n : a ∉ S) : h'.IsList a its := let ⟨o, ho, r⟩ := i; ⟨o, x a o ho n, r⟩
theorem hid_tup {h : Heap} {S : List Addr} {a : Addr} {its : Array Value} (i : IsTup h a its) (n : a ∉ S) : IsTup (hideAll h S) a its := let ⟨o, ho, r⟩ := i; ⟨o, hideAll_get _ ho n, r⟩
theorem hid_list {h : Heap} {S : List Addr} {a : Addr} {its : Array Value} (i : h.IsList a its) (n : a ∉ S) : (hideAll h S).IsList a its := let ⟨o, ho, r⟩ := i; ⟨o, hideAll_get _ ho n, r⟩

section
variable {p : Program} {loose : List Str} {mean : ExcName → Option Value} {mg mb : Str → Option Value} {K : Frag} {A A₀ : Around} {h h' h₀ base : Heap} {outer : List Env} {env : Env} {L : Addr} {m : Str → Option Value} {S : List Addr} {news : List (Addr × Obj)}

theorem Rdy.mono {g g' : Heap} (r : Rdy p loose mean mg mb K A g) (k : g.StaysIn g') : Rdy p loose mean mg mb K A g' := by
  obtain ⟨base, outer, B⟩ := r.below
  refine ⟨⟨base, outer, B.stack, fun b o e => k b o (B.stays b o e), B.frames.of_keeps fun b o e _ => ⟨o, k b o e, rfl⟩⟩, r.K.keeps k, r.T.keeps k⟩

theorem rdy_hid (B : Below A₀ base outer h₀) (F : Fr h₀ L h m) (X : K.In h₀) (T : Top p loose mean mg mb h₀) (hS : ∀ a ∈ S, h₀.get? a = none ∧ a ≠ L) (hA : A.frames = some (env :: outer)) (hf : env.frame = some L) (hk : env.scope.kind = .function) :
    Rdy p loose mean mg mb K A (hideAll h S) := by
  have nm : ∀ b o, h₀.get? b = some o → b ∉ S := fun b o e q => by rw [(hS b q).1] at e; cases e
  have st : h₀.StaysIn (hideAll h S) := fun b o e => hideAll_get _ (F.keep b o e) (nm b o e)
  refine ⟨⟨base, env :: outer, hA, fun b o e => st b o (B.stays b o e), ?_⟩, X.keeps st, T.keeps st⟩
  refine funFrames_hideAll (pushX (env := env) B F hf hk).frames fun env' he b hb hf' => ?_
  cases he with
  | head => exact (hS b hb).2 (Option.some.inj (hf.symm.trans hf')).symm
  | tail _ he =>
    obtain ⟨L₁, o₁, hf₁, ho₁⟩ := funFrames_in B.frames env' he
    rw [hf₁] at hf'
    exact nm L₁ o₁ ho₁ ((Option.some.inj hf' : L₁ = b) ▸ hb)

theorem fr_back (F : Fr h₀ L h m) (st : Stay S h h') (hS : ∀ a ∈ S, h₀.get? a = none ∧ a ≠ L) : Fr h₀ L h' m := by
  obtain ⟨oL, es, ep, hL, r⟩ := F.ns
  refine ⟨⟨oL, es, ep, st L oL hL fun q => (hS L q).2 rfl, r⟩, fun b o e => st b o (F.keep b o e) fun q => ?_, F.above⟩
  rw [(hS b q).1] at e; cases e
theorem news_back (N : News h₀ L h news) (st : Stay S h h') (hn : ∀ p ∈ news, p.1 ∉ S) : News h₀ L h' news := fun p hp => ⟨st _ _ (N p hp).1 (hn p hp), (N p hp).2⟩
theorem news_set (N : News h₀ L h news) {a : Addr} {o o' : Obj} (hm : (a, o) ∈ news) (e : h'.get? a = some o') : News h₀ L h' [(a, o')] := fun p hp => by
  cases hp with
  | head => exact ⟨e, (N _ hm).2⟩
  | tail _ q => cases q
theorem news_app {n1 n2 : List (Addr × Obj)} (N : News h₀ L h n1) (N' : News h₀ L h n2) : News h₀ L h (n1 ++ n2) := fun p hp => (List.mem_append.mp hp).elim (N p) (N' p)

variable {prog : Program} {w : World} {s : Shared} {R : Result → Shared → Prop} {name qual : Str} {params : Arguments} {body : List Stmt} {scope : Scope} {dV kV doc pm cdv ct oc : Value} {an od : Option Addr} {osl : Array (Option Value)} {f : Addr} {args : Args} {binds : List (Str × Value)}

/-- the way into a def of the text: S may be changed, all else stays -/
theorem code_hid (S : List Addr) (r : Rdy p loose mean mg mb K A (hideAll s.heap S))
    (ho : K.lookup f = some ⟨oc, od, .func (fnOf name qual params body scope dV kV doc pm an cdv ct), osl⟩) (hcd : codeIn K cdv qual = true) (hroom : A.depth < recursionLimit)
    (hbind : BindsTo s (fnOf name qual params body scope dV kV doc pm an cdv ct) args binds) (hloc : ∀ y ∈ binds, scope.names.lookup y.1 = some .local)
    (h : ∀ A₀ base outer L' h₁, Below A₀ base outer (hideAll s.heap S) → (A.deeper (envOf qual scope L' f cdv)).frames = some (envOf qual scope L' f cdv :: outer) →
      Fr (hideAll s.heap S) L' h₁ (fun y => binds.reverse.lookup y) → (∀ nw : List (Addr × Obj), (∀ p ∈ nw, s.heap.get? p.1 = some p.2 ∧ p.1 ∈ S) → News (hideAll s.heap S) L' h₁ nw) → K.In (hideAll s.heap S) → Top p loose mean mg mb (hideAll s.heap S) →
      wpAny (model prog w) (A.deeper (envOf qual scope L' f cdv)) (execs body (envOf qual scope L' f cdv))
        (fun fl s' => R (.ok (.ret (match fl with | .ret v => v | _ => .none))) s')
        (fun e s' => wpAny (model prog w) (A.deeper (envOf qual scope L' f cdv)) (leaving (envOf qual scope L' f cdv) e) (fun _ s'' => R (.error e) s'') (fun e' s'' => R (.error e') s'') s')
        { s with heap := h₁, toks := s.toks + binds.length })
    (hco : scope.isCoroutine = false) (hgen : scope.isGenerator = false) (hk : scope.kind = .function)
    (hcell : ∀ x ∈ scope.names, x.2 ≠ .cell) : codeAny (model prog w) A (.call (.ref f) args) R s := by
  obtain ⟨base, outer, B⟩ := r.below
  have st : (hideAll s.heap S).StaysIn s.heap := fun b o e => of_hideAll _ e
  refine codeAny_call_def (fd := fnX name qual params body scope [] dV kV doc pm an cdv ct) (body := body) (binds := binds) hroom (st _ _ (r.K _ _ ho)) rfl (r.T.nolimit.keeps st) (codeRec_of (r.K.keeps st) hcd) rfl hbind hcell hloc (fun h₁ hns hk₁ => ?_) hco hgen hk
  refine h A base outer s.heap.objs.size h₁ B (Around.frames_deeper B.stack) ⟨hns, fun b o e => hk₁ b o (of_hideAll _ e), Nat.le_of_eq (hideAll_size _ _)⟩ (fun nw hnw p hp => ?_) r.K r.T
  obtain ⟨e, hm⟩ := hnw p hp
  exact ⟨hk₁ _ _ e, Nat.ne_of_lt (Heap.lt_size e), hideAll_none _ hm⟩


theorem code_pure (r : Rdy p loose mean mg mb K A s.heap)
    (ho : K.lookup f = some ⟨oc, od, .func (fnOf name qual params body scope dV kV doc pm an cdv ct), osl⟩) (hcd : codeIn K cdv qual = true) (hroom : A.depth < recursionLimit)
    (hbind : BindsTo s (fnOf name qual params body scope dV kV doc pm an cdv ct) args binds) (hloc : ∀ y ∈ binds, scope.names.lookup y.1 = some .local)
    (h : ∀ A₀ base outer L' h₁, Below A₀ base outer s.heap → (A.deeper (envOf qual scope L' f cdv)).frames = some (envOf qual scope L' f cdv :: outer) →
      Fr s.heap L' h₁ (fun y => binds.reverse.lookup y) → News s.heap L' h₁ [] → K.In s.heap → Top p loose mean mg mb s.heap →
      wpAny (model prog w) (A.deeper (envOf qual scope L' f cdv)) (execs body (envOf qual scope L' f cdv))
        (fun fl s' => R (.ok (.ret (match fl with | .ret v => v | _ => .none))) s')
        (fun e s' => wpAny (model prog w) (A.deeper (envOf qual scope L' f cdv)) (leaving (envOf qual scope L' f cdv) e) (fun _ s'' => R (.error e) s'') (fun e' s'' => R (.error e') s'') s')
        { s with heap := h₁, toks := s.toks + binds.length })
    (hco : scope.isCoroutine = false) (hgen : scope.isGenerator = false) (hk : scope.kind = .function)
    (hcell : ∀ x ∈ scope.names, x.2 ≠ .cell) : codeAny (model prog w) A (.call (.ref f) args) R s :=
  code_hid [] r ho hcd hroom hbind hloc (fun A₀ base outer L' h₁ B SA F N X T => h A₀ base outer L' h₁ B SA F (N [] fun _ q => nomatch q) X T) hco hgen hk hcell

/-- the same for a def made in a body -/
theorem code_hidX {cl : List (Str × Addr)} {fo : Obj} (S : List Addr) (r : Rdy p loose mean mg mb K A (hideAll s.heap S))
    (ho : s.heap.get? f = some fo) (hd : fo.data = .func (fnX name qual params body scope cl dV kV doc pm an cdv ct)) (hcd : s.heap.CodeRec cdv qual) (hroom : A.depth < recursionLimit)
    (hbind : BindsTo s (fnX name qual params body scope cl dV kV doc pm an cdv ct) args binds) (hloc : ∀ y ∈ binds, scope.names.lookup y.1 = some .local)
    (h : ∀ A₀ base outer L' h₁, Below A₀ base outer (hideAll s.heap S) → (A.deeper (envX qual scope L' f cdv cl)).frames = some (envX qual scope L' f cdv cl :: outer) →
      Fr (hideAll s.heap S) L' h₁ (fun y => binds.reverse.lookup y) → (∀ nw : List (Addr × Obj), (∀ p ∈ nw, s.heap.get? p.1 = some p.2 ∧ p.1 ∈ S) → News (hideAll s.heap S) L' h₁ nw) → K.In (hideAll s.heap S) → Top p loose mean mg mb (hideAll s.heap S) →
      wpAny (model prog w) (A.deeper (envX qual scope L' f cdv cl)) (execs body (envX qual scope L' f cdv cl))
        (fun fl s' => R (.ok (.ret (match fl with | .ret v => v | _ => .none))) s')
        (fun e s' => wpAny (model prog w) (A.deeper (envX qual scope L' f cdv cl)) (leaving (envX qual scope L' f cdv cl) e) (fun _ s'' => R (.error e) s'') (fun e' s'' => R (.error e') s'') s')
        { s with heap := h₁, toks := s.toks + binds.length })
    (hco : scope.isCoroutine = false) (hgen : scope.isGenerator = false) (hk : scope.kind = .function)
    (hcell : ∀ x ∈ scope.names, x.2 ≠ .cell) : codeAny (model prog w) A (.call (.ref f) args) R s := by
  obtain ⟨base, outer, B⟩ := r.below
  have st : (hideAll s.heap S).StaysIn s.heap := fun b o e => of_hideAll _ e
  refine codeAny_call_def (fd := fnX name qual params body scope cl dV kV doc pm an cdv ct) (body := body) (binds := binds) hroom ho hd (r.T.nolimit.keeps st) hcd rfl hbind hcell hloc (fun h₁ hns hk₁ => ?_) hco hgen hk
  refine h A base outer s.heap.objs.size h₁ B (Around.frames_deeper B.stack) ⟨hns, fun b o e => hk₁ b o (of_hideAll _ e), Nat.le_of_eq (hideAll_size _ _)⟩ (fun nw hnw p hp => ?_) r.K r.T
  obtain ⟨e, hm⟩ := hnw p hp
  exact ⟨hk₁ _ _ e, Nat.ne_of_lt (Heap.lt_size e), hideAll_none _ hm⟩

/-- a def of the text whose locals are captured -/
theorem code_hidC (S : List Addr) (r : Rdy p loose mean mg mb K A (hideAll s.heap S))
    (ho : K.lookup f = some ⟨oc, od, .func (fnOf name qual params body scope dV kV doc pm an cdv ct), osl⟩) (hcd : codeIn K cdv qual = true) (hroom : A.depth < recursionLimit)
    (hbind : BindsTo s (fnOf name qual params body scope dV kV doc pm an cdv ct) args binds)
    (hkind : ∀ n, ∀ x ∈ binds, scope.names.lookup x.1 = some .local ∨ (scope.names.lookup x.1 = some .cell ∧ ((cellsFrom n scope.names []).lookup x.1).isSome = true))
    (hnd : ((cellsFrom 0 scope.names []).map (·.1)).Nodup)
    (h : ∀ A₀ base outer L' h₁ tk cells, Below A₀ base outer (hideAll s.heap S) → (A.deeper (envOfC qual scope L' f cdv)).frames = some (envOfC qual scope L' f cdv :: outer) →
      Fr (hideAll s.heap S) L' h₁ (bindL (envOfC qual scope L' f cdv).kindOf binds fun _ => none) →
      (∀ nw : List (Addr × Obj), (∀ p ∈ nw, s.heap.get? p.1 = some p.2 ∧ p.1 ∈ S) → News (hideAll s.heap S) L' h₁ (cells ++ nw)) →
      CellsAre (bindC (envOfC qual scope L' f cdv).kindOf binds fun _ => none) (cellsFrom (L' + 1) scope.names []) cells → L' = s.heap.objs.size → K.In (hideAll s.heap S) → Top p loose mean mg mb (hideAll s.heap S) →
      wpAny (model prog w) (A.deeper (envOfC qual scope L' f cdv)) (execs body (envOfC qual scope L' f cdv))
        (fun fl s' => R (.ok (.ret (match fl with | .ret v => v | _ => .none))) s')
        (fun e s' => wpAny (model prog w) (A.deeper (envOfC qual scope L' f cdv)) (leaving (envOfC qual scope L' f cdv) e) (fun _ s'' => R (.error e) s'') (fun e' s'' => R (.error e') s'') s')
        { s with heap := h₁, toks := tk })
    (hco : scope.isCoroutine = false) (hgen : scope.isGenerator = false) (hk : scope.kind = .function) : codeAny (model prog w) A (.call (.ref f) args) R s := by
  obtain ⟨base, outer, B⟩ := r.below
  have st : (hideAll s.heap S).StaysIn s.heap := fun b o e => of_hideAll _ e
  refine codeAny_call_function hroom (st _ _ (r.K _ _ ho)) rfl hco hgen rfl (codeRec_of (r.K.keeps st) hcd) (hbind _ _ _ _ ?_)
  refine wpAny_newFunctionEnv_cells hk (hkind _) fun env' he s' x => ?_
  subst he
  refine ⟨(r.T.nolimit.keeps st).keeps x.toInCall.keep, codeAny_func ?_⟩
  obtain ⟨h₁, tk, rfl, _⟩ := x.done
  have hk₁ := x.toInCall.keep
  obtain ⟨cells, NC, Y⟩ := Cl.news (h₀ := s.heap) (Nat.le_refl _) fun n c hm => ⟨x.cell n c (lookup_of_mem_nodup (cellsFrom_names scope.names 0 (s.heap.objs.size + 1) [] [] rfl ▸ hnd) hm), x.above n c hm⟩
  refine h A base outer s.heap.objs.size h₁ tk cells B (Around.frames_deeper B.stack) ⟨x.toInCall.ns, fun b o e => hk₁ b o (of_hideAll _ e), Nat.le_of_eq (hideAll_size _ _)⟩ (fun nw hnw p hp => ?_) Y rfl r.K r.T
  rcases List.mem_append.mp hp with hp | hp
  · refine ⟨(NC p hp).1, (NC p hp).2.1, ?_⟩
    cases q : (hideAll s.heap S).get? p.1 with
    | none => rfl
    | some o => have := of_hideAll _ q; rw [(NC p hp).2.2] at this; cases this
  · obtain ⟨e, hm⟩ := hnw p hp
    exact ⟨hk₁ _ _ e, Nat.ne_of_lt (Heap.lt_size e), hideAll_none _ hm⟩
end

end Mine

-- C1
open PySem PySem.W PyProof.Rows PySem.Calls
set_option Elab.async false
namespace Mine
set_option maxRecDepth 100000

def Sm (x : Int) : Prop := -1000 ≤ x ∧ x ≤ 1000

theorem words_C1 : True := by
  k_with_none
  k_with "subscriptTail" => (k_here; k_dflt (refine' item_tupleT (IsTup.keeps (by assumption) (Fr.keep (by k_asm))) (by decide) (by decide) (by exact rfl) (by exact rfl) ?_ (by with_unfolding_all rfl); k_whole))
  k_with "MYENTER" => (refine' code_pure (by assumption) (by k_is) (by k_is) (by ktr_room) (by exact BindsTo.of_eq rfl) (by exact locs rfl) ?_ (by exact rfl) (by exact rfl) (by exact rfl) (by decide); k_whole; intro A₀kw basekw outerkw Lkw hkw Bkw SAkw Fkw Nkw Xkw Tkw; (try dsimp only); (try k_fold))
  k_with "mul_fits" => exact PySem.IntMulOk.of_left (PySem.intBits_le_64 (by (try simp only [Sm] at *); omega) (by (try simp only [Sm] at *); omega))
  trivial

section
variable {p : Program} {loose : List Str} {mean : ExcName → Option Value} {mg mb : Str → Option Value} {w : World} {A : Around} {s : Shared} {Q E : Value → Shared → Prop}
set_option maxHeartbeats 4000000 in
theorem cross_ok (X : Rdy p loose mean mg mb (hd.heap_39 w.params) A s.heap) (hroom : A.depth + 1 < recursionLimit) {a b c : Addr} {x1 y1 x2 y2 x3 y3 : Int} {t1 u1 t2 u2 t3 u3 : Tok}
    (i1 : IsTup s.heap a [.int x1 t1, .int y1 u1].toArray) (i2 : IsTup s.heap b [.int x2 t2, .int y2 u2].toArray) (i3 : IsTup s.heap c [.int x3 t3, .int y3 u3].toArray)
    (a1 : Sm x1) (a2 : Sm y1) (a3 : Sm x2) (a4 : Sm y2) (a5 : Sm x3) (a6 : Sm y3)
    (ret : ∀ h' tk' t, s.heap.StaysIn h' → Q (.int ((x2 - x1) * (y3 - y1) - (x3 - x1) * (y2 - y1)) t) { s with heap := h', toks := tk' }) :
    wpAny (model PySem.Challenge.rw_zt0001_01.row.prog w) A (call (.ref 84) [.ref a, .ref b, .ref c]) Q E s := by
  revert X; k_fill; intro X
  refine wpAny_call ?_
  k_dflt walk_at "MYENTER"
  k_steps
  exact ret _ _ _ (Fr.keep (by k_asm))
end
end Mine

-- D1
open PySem PySem.W PyProof.Rows PySem.Calls
set_option Elab.async false
set_option linter.unusedVariables false
namespace Mine
set_option maxRecDepth 100000

theorem words_D1 : True := by
  k_with_none
  k_with "ENTER" => (refine' code_pure (by assumption) (by k_is) (by k_is) (by ktr_room) (by exact BindsTo.of_eq rfl) (by exact locs rfl) ?_ (by exact rfl) (by exact rfl) (by exact rfl) (by decide); k_whole; intro A₀kw basekw outerkw Lkw hkw Bkw SAkw Fkw Nkw Xkw Tkw; (try dsimp only); (try k_fold))
  trivial

section
variable {p : Program} {loose : List Str} {mean : ExcName → Option Value} {mg mb : Str → Option Value} {w : World} {A : Around} {s : Shared} {Q E : Value → Shared → Prop}
set_option maxHeartbeats 4000000 in
theorem div2n1n_ok (X : Rdy p loose mean mg mb (hd.heap_39 w.params) A s.heap) (hroom : A.depth + 1 < recursionLimit) {a b n : Int} {t1 t2 t3 : Tok}
    (a0 : 0 ≤ a) (a1 : a ≤ 1000) (b0 : 0 < b) (b1 : b ≤ 1000) (n0 : 0 ≤ n) (n1 : n ≤ 1000)
    (ret : ∀ h' tk' r, s.heap.StaysIn h' → (∃ t t', IsTup h' r [.int (a / b) t, .int (a % b) t'].toArray) → Q (.ref r) { s with heap := h', toks := tk' }) :
    wpAny (model PySem.Challenge.rw_zt0001_01.row.prog w) A (call (.ref 35) [.int a t1, .int b t2, .int n t3]) Q E s := by
  have hb : ((Builtin.Int.intBits a : Nat) : Int) ≤ 64 := Int.ofNat_le.mpr (PySem.intBits_le_64 (by omega) (by omega))
  revert X; k_fill; intro X
  refine wpAny_call ?_
  k_dflt walk_at "ENTER"
  k_steps
  rename News _ _ _ _ => N9
  have tt := News.isTup N9 (List.Mem.head _)
  rw [Int.fdiv_eq_ediv_of_nonneg a (by omega), Int.fmod_eq_emod_of_nonneg a (by omega)] at tt
  exact ret _ _ _ (Fr.keep (by k_asm)) ⟨_, _, tt⟩
end
end Mine

-- D2a
open PySem PySem.W PyProof.Rows PySem.Calls
set_option Elab.async false
set_option linter.unusedVariables false
namespace Mine
set_option maxRecDepth 100000

/-- the def made in a def's body: its name, its parameters, its body and its names -/
def nestOf (o : Obj) : Option (Str × Arguments × List Stmt × Scope) := match o.data with
  | .func fd => (match fd.body with
    | .stmts b => b.findSome? fun st => match st with
      | .FunctionDef name params body _ _ _ scope _ _ _ => some (name, params, body, scope)
      | _ => none
    | _ => none)
  | _ => none

def CellAt (h : Heap) (c : Addr) (v : Value) : Prop := ∃ o, h.get? c = some o ∧ o.data = .cell (some v)
theorem CellAt.stay {S : List Addr} {h h' : Heap} {c : Addr} {v : Value} (x : CellAt h c v) (st : Stay S h h') (n : c ∉ S) : CellAt h' c v := let ⟨o, e, r⟩ := x; ⟨o, st c o e n, r⟩
theorem CellAt.hid {S : List Addr} {h : Heap} {c : Addr} {v : Value} (x : CellAt h c v) (n : c ∉ S) : CellAt (hideAll h S) c v := let ⟨o, e, r⟩ := x; ⟨o, hideAll_get _ e n, r⟩
theorem CellAt.keeps {h h' : Heap} {c : Addr} {v : Value} (x : CellAt h c v) (k : h.StaysIn h') : CellAt h' c v := let ⟨o, e, r⟩ := x; ⟨o, k _ _ e, r⟩
theorem nameX_Fb {M : Model} {A : Around} {E : Value → Shared → Prop} {s : Shared} {h₀ : Heap} {L a : Addr} {m : Str → Option Value} {cn : Str} {cs : Scope} {ccd : Value} {cl : List (Str × Addr)} {x : Str} {pos : Pos} {v : Value} {Q : Value → Shared → Prop} {c : Addr}
    (F : Fr h₀ L s.heap m) (hc : cl.lookup x = some c) (hv : CellAt h₀ c v) (h : Q v s)
    (hk : cs.kind = .function := by rfl) (hx : (envX cn cs L a ccd cl).kindOf x = some .free := by rfl) (hb : (x == ("__debug__" : Str)) = false := by decide) (hn : (x == ("__classdict__" : Str)) = false := by decide) :
    wpAny M A (eval (.Name x pos) (envX cn cs L a ccd cl)) Q E s := wpAny_Name (wpAny_loadName_free hk hx hc (hv.keeps F.keep) h hn) hb

theorem bits_fdiv {x : Int} (h0 : 0 ≤ x) (h1 : x ≤ 1000) (k : Nat) : ((Builtin.Int.intBits (x.fdiv (2 ^ k)) : Nat) : Int) ≤ 64 := by
  have p : (0 : Int) < 2 ^ k := Int.pow_pos (by decide)
  have e : x.fdiv (2 ^ k) = x / 2 ^ k := Int.fdiv_eq_ediv_of_nonneg _ (Int.le_of_lt p)
  have a := Int.ediv_nonneg h0 (Int.le_of_lt p)
  have b := Int.ediv_le_self (2 ^ k) h0
  exact Int.ofNat_le.mpr (PySem.intBits_le_64 (by omega) (by omega))
theorem lsh_ok {x sh : Int} {k : Nat} (h0 : 0 ≤ x) (h1 : x ≤ 1000) (h2 : sh ≤ 100000) : ((Builtin.Int.intBits (x.fdiv (2 ^ k)) : Nat) : Int) + sh ≤ 2 ^ 27 := by
  have := bits_fdiv h0 h1 k
  omega

theorem and_upper (x s : Nat) : x &&& (x / 2 ^ s * 2 ^ s) = x / 2 ^ s * 2 ^ s := by
  rw [← Nat.shiftLeft_eq, ← Nat.shiftRight_eq_div_pow]
  apply Nat.eq_of_testBit_eq
  intro i
  rw [Nat.testBit_and, Nat.testBit_shiftLeft, Nat.testBit_shiftRight]
  by_cases h : i ≥ s
  · rw [show s + (i - s) = i by omega]
    cases x.testBit i <;> simp [h]
  · simp [h]
theorem low_eq {x : Int} (h0 : 0 ≤ x) (s : Nat) : Builtin.bitXor x (x.fdiv (2 ^ s) * 2 ^ s) = x - x.fdiv (2 ^ s) * 2 ^ s ∧ 0 ≤ x.fdiv (2 ^ s) * 2 ^ s ∧ x.fdiv (2 ^ s) * 2 ^ s ≤ x ∧ 0 ≤ x.fdiv (2 ^ s) ∧ x.fdiv (2 ^ s) ≤ x := by
  obtain ⟨y, rfl⟩ := Int.eq_ofNat_of_zero_le h0
  have e : ((y : Int).fdiv (2 ^ s)) = ((y / 2 ^ s : Nat) : Int) := by
    rw [Int.fdiv_eq_ediv_of_nonneg _ (Int.le_of_lt (Int.pow_pos (by decide)))]
    simp
  have e2 : ((y : Int).fdiv (2 ^ s)) * 2 ^ s = ((y / 2 ^ s * 2 ^ s : Nat) : Int) := by rw [e]; simp
  rw [e2, e]
  have h1 : y / 2 ^ s * 2 ^ s ≤ y := Nat.div_mul_le_self y _
  have h2 : y / 2 ^ s ≤ y := Nat.div_le_self y _
  refine ⟨?_, Int.natCast_nonneg _, Int.ofNat_le.mpr h1, Int.natCast_nonneg _, Int.ofNat_le.mpr h2⟩
  rw [bitXor_and, bitAnd_pp (Int.natCast_nonneg _) (Int.natCast_nonneg _)]
  have h3 := and_upper y s
  have h4 : ((y : Int).toNat &&& ((y / 2 ^ s * 2 ^ s : Nat) : Int).toNat) = y / 2 ^ s * 2 ^ s := h3
  rw [h4]
  generalize y / 2 ^ s * 2 ^ s = z at h1 ⊢
  omega
theorem FnAt.keeps {q : Addr} {h h' : Heap} (x : FnAt q h) (k : h.StaysIn h') : FnAt q h' := let ⟨a, b, c, d, e⟩ := x; ⟨a, b, c, d, k _ _ e⟩

/-- the digits, as the def lays them -/
def fillD (n : Int) : Nat → Int → Int → Int → List Int → List Int
  | 0, _, _, _, ds => ds
  | k + 1, x, L, R, ds => if L + 1 = R then ds.set L.toNat x else
    let mid := (L + R).fdiv (2 ^ 1)
    let sh := (mid - L) * n
    let up := x.fdiv (2 ^ sh.toNat)
    let low := Builtin.bitXor x (up * 2 ^ sh.toNat)
    fillD n k up mid R (fillD n k low L mid ds)

theorem fillD_length (n : Int) : ∀ (k : Nat) (x L R : Int) (ds : List Int), (fillD n k x L R ds).length = ds.length
  | 0, _, _, _, _ => rfl
  | k + 1, x, L, R, ds => by
    rw [fillD]
    split
    · exact List.length_set ..
    · rw [fillD_length, fillD_length]
theorem fillD_succ {n : Int} {k : Nat} {x L R : Int} {ds : List Int} (h : L + 1 ≠ R) : fillD n (k + 1) x L R ds =
    fillD n k (x.fdiv (2 ^ (((L + R).fdiv (2 ^ Int.toNat 1) - L) * n).toNat)) ((L + R).fdiv (2 ^ Int.toNat 1)) R
      (fillD n k (Builtin.bitXor x (x.fdiv (2 ^ (((L + R).fdiv (2 ^ Int.toNat 1) - L) * n).toNat) * 2 ^ (((L + R).fdiv (2 ^ Int.toNat 1) - L) * n).toNat)) L ((L + R).fdiv (2 ^ Int.toNat 1)) ds) := by
  rw [fillD, if_neg h]
  rfl

/-- the middle of L and R -/
abbrev midI (L R : Int) : Int := (L + R).fdiv (2 ^ Int.toNat 1)
theorem mid_le {L R : Int} (h : L < R) : L ≤ midI L R ∧ midI L R ≤ R := by
  have hm : (L + R).fdiv 2 = (L + R) / 2 := Int.fdiv_eq_ediv_of_nonneg _ (by decide)
  show L ≤ (L + R).fdiv 2 ∧ (L + R).fdiv 2 ≤ R
  omega
theorem mid_lt {L R : Int} (h : L < R) (n : L + 1 ≠ R) : L < midI L R ∧ midI L R < R := by
  have hm : (L + R).fdiv 2 = (L + R) / 2 := Int.fdiv_eq_ediv_of_nonneg _ (by decide)
  show L < (L + R).fdiv 2 ∧ (L + R).fdiv 2 < R
  omega
theorem mid_k {L M R : Int} {k : Nat} (h1 : L < M) (h2 : M < R) (h : R - L ≤ ((k + 1 : Nat) : Int)) : M - L ≤ (k : Int) ∧ R - M ≤ (k : Int) := by omega
theorem sub_le_of {L M R d : Int} (h : M ≤ R) (l : 0 ≤ L) (r : R ≤ d) : M - L ≤ d := Int.le_trans (Int.sub_le_self _ l) (Int.le_trans h r)

theorem words_D2a : True := by
  k_with_none
  k_with "ENTERX" => (refine' code_hidX _ (by assumption) (by assumption) (by exact rfl) (by assumption) (by ktr_room) (by exact BindsTo.of_eq rfl) (by exact locs rfl) ?_ (by exact rfl) (by exact rfl) (by exact rfl) (by decide); k_whole)
  k_with "eval Name" => (k_here; k_dflt (refine' nameX_Fb (by k_asm) (by rfl) (by assumption) ?_ (by rfl) (by rfl); k_whole))
  k_with "binaryOp LShift int int" => (k_here; refine lshift_int (by assumption) (lsh_ok (by assumption) (by assumption) (by assumption)) ?_)
  k_with "FnAt" => (k_dflt (exact FnAt.keeps (by assumption) (Fr.keep (by k_asm))))
  k_with "callWith ref" => (k_here; k_dflt (first
  | (refine' callWith_F (by exact FnAt.keeps (by assumption) (Fr.keep (by k_asm))) ?_; k_whole)
  | (refine' callWith_F0 (by exact FnAt.keeps (by assumption) (Fr.keep (by k_asm))) ?_; k_whole; try dsimp only [List.nil_append, List.cons_append])))
  trivial

section
variable {p : Program} {loose : List Str} {mean : ExcName → Option Value} {mg mb : Str → Option Value} {w : World} {A : Around} {s : Shared} {Q E : Value → Shared → Prop}
set_option maxHeartbeats 4000000 in
theorem i2d_inner {o : Obj} (ho : (hd.heap_39 w.params).lookup 49 = some o) {name qual : Str} {params : Arguments} {body : List Stmt} {scope : Scope} (hn : nestOf o = some (name, params, body, scope))
    {la f cn ci ca c' : Addr} {doc pm ctv : Value} {n : Int} {tn : Tok} (n0 : 1 ≤ n) (n1 : n ≤ 16) {g : Heap} (hla : la ∉ [f, cn, ci, ca])
    (hf : g.get? f = some (fnMade name qual params body scope [("n", cn), ("inner", ci), ("a_digits", ca)] doc pm c' ctv))
    (hcr : g.CodeRec (.ref c') qual) (h1 : CellAt g cn (.int n tn)) (h2 : CellAt g ci (.ref f)) (h3 : CellAt g ca (.ref la)) :
    ∀ (k : Nat) {A : Around} {s : Shared} {Q E : Value → Shared → Prop} {x L R : Int} {t1 t2 t3 : Tok} {vs : List Value} {ns : List Int} {c : Nat},
      Rdy p loose mean mg mb (hd.heap_39 w.params) A (hideAll s.heap [la]) → A.depth + k < recursionLimit → g.StaysIn (hideAll s.heap [la]) →
      s.heap.get? la = some (listOf vs.toArray c) → IntsAre vs ns → 0 ≤ x → x ≤ 1000 → 0 ≤ L → L < R → R ≤ ns.length → ns.length ≤ 100 → R - L ≤ k →
      (∀ h' tk' v vs' c', Stay [la] s.heap h' → h'.get? la = some (listOf vs'.toArray c') → IntsAre vs' (fillD n k x L R ns) → Q v { s with heap := h', toks := tk' }) →
      wpAny (model PySem.Challenge.rw_zt0001_01.row.prog w) A (call (.ref f) [.int x t1, .int L t2, .int R t3]) Q E s := by
  revert ho; k_fill; intro ho
  obtain rfl := Option.some.inj (ho.symm.trans (by k_is : _ = some _))
  cases (hn.symm.trans (rfl : _ = some (_, _, _, _)))
  intro k
  induction k with
  | zero => intro A s Q E x L R t1 t2 t3 vs ns c X room st hl hi x0 x1 l0 lr rn n100 rk ret; exact absurd lr (Int.not_lt.mpr (Int.le_of_sub_nonpos rk))
  | succ k IH =>
    intro A s Q E x L R t1 t2 t3 vs ns c X room st hl hi x0 x1 l0 lr rn n100 rk ret
    have hf' := of_hideAll _ (st _ _ hf)
    have hcr' : s.heap.CodeRec (.ref c') qual := by
      obtain ⟨c, o, vs, t, e, h, r⟩ := hcr; exact ⟨c, o, vs, t, e, of_hideAll _ (st _ _ h), r⟩
    have k1 := h1.keeps st
    have k2 := h2.keeps st
    have k3 := h3.keeps st
    have kf : FnAt f (hideAll s.heap [la]) := ⟨_, _, _, _, st _ _ hf⟩
    refine wpAny_call ?_
    k_dflt walk_at "ENTERX"
    intro A₀ base outer L' h' B' SA' F' N0 X' T'
    have N' := N0 [(la, listOf vs.toArray c)] (by intro p hp; cases hp with | head => exact ⟨hl, List.Mem.head _⟩ | tail _ q => cases q)
    clear N0
    have hm := mid_le lr
    have hs0 : 0 ≤ ((L + R).fdiv (2 ^ Int.toNat 1) - L) * n := Int.mul_nonneg (Int.sub_nonneg.mpr hm.1) (Int.le_trans (by decide) n0)
    have hs1 : ((L + R).fdiv (2 ^ Int.toNat 1) - L) * n ≤ 100000 := Int.le_trans (Int.mul_le_mul (sub_le_of hm.2 l0 (Int.le_trans rn (Int.ofNat_le.mpr n100))) n1 (Int.le_trans (by decide) n0) (by decide)) (by decide)
    have room' : A.depth + 1 + k < recursionLimit := by rw [Nat.add_right_comm]; exact room
    try dsimp only
    try k_fold
    k_steps
    all_goals try dsimp only
    · rename News _ _ _ _ => N9
      rename Fr _ _ _ _ => F9
      rename IntsAre _ _ => i9
      refine ret _ _ _ _ _ (Stay.of F9.keep) (N9 _ (List.Mem.head _)).1 ?_
      rw [fillD, if_pos (by assumption)]
      exact i9
    · rename (L + 1 ≠ R) => hne
      have lo := low_eq x0 (((L + R).fdiv (2 ^ Int.toNat 1) - L) * n).toNat
      rename News _ _ _ _ => N9
      rename Fr _ _ _ _ => F9
      have hS : ∀ a ∈ [la], (hideAll s.heap [la]).get? a = none ∧ a ≠ L' := by
        intro a ha
        cases ha with
        | head => exact ⟨hideAll_none _ (List.Mem.head _), (N9 _ (List.Mem.head _)).2.1⟩
        | tail _ q => cases q
      obtain ⟨m1, m2⟩ := mid_lt lr hne
      obtain ⟨m3, m4⟩ := mid_k m1 m2 rk
      refine IH (rdy_hid B' F9 X' T' hS SA' rfl rfl) room' (fun b o e => ?_) (N9 _ (List.Mem.head _)).1 hi (lo.1 ▸ Int.sub_nonneg.mpr lo.2.2.1) (lo.1 ▸ Int.le_trans (Int.sub_le_self _ lo.2.1) x1) l0 m1 (Int.le_trans (Int.le_of_lt m2) rn) n100 m3 ?_
      · exact hideAll_get _ (F9.keep b o (st b o e)) (hidden_of (st b o e))
      intro h5 tk5 v5 vs5 c5 st5 hl5 hi5
      replace F9 := fr_back F9 st5 hS
      replace N9 := news_set N9 (List.Mem.head _) hl5
      have n5 := fillD_length n k (Builtin.bitXor x (x.fdiv (2 ^ (((L + R).fdiv (2 ^ Int.toNat 1) - L) * n).toNat) * 2 ^ (((L + R).fdiv (2 ^ Int.toNat 1) - L) * n).toNat)) L ((L + R).fdiv (2 ^ Int.toNat 1)) ns
      k_steps
      refine IH (rdy_hid B' F9 X' T' hS SA' rfl rfl) room' (fun b o e => ?_) hl5 hi5 lo.2.2.2.1 (Int.le_trans lo.2.2.2.2 x1) (Int.le_trans l0 (Int.le_of_lt m1)) m2 (n5.symm ▸ rn) (n5.symm ▸ n100) m4 ?_
      · exact hideAll_get _ (F9.keep b o (st b o e)) (hidden_of (st b o e))
      intro h6 tk6 v6 vs6 c6 st6 hl6 hi6
      replace F9 := fr_back F9 st6 hS
      replace N9 := news_set N9 (List.Mem.head _) hl6
      k_steps
      exact ret h6 tk6 .none vs6 c6 (Stay.of F9.keep) hl6 (by rw [fillD_succ hne]; exact hi6)
end
end Mine

-- D2
open PySem PySem.W PyProof.Rows PySem.Calls
set_option Elab.async false
set_option linter.unusedVariables false
namespace Mine
set_option maxRecDepth 100000

theorem news_putF {h₀ h h' : Heap} {L a : Addr} {o o' : Obj} {news : List (Addr × Obj)} {g : Obj → List (Addr × Obj)} (N : News h₀ L h news) (U : UpdF a o news g) (st : Stay [a] h h') (e : h'.get? a = some o') : News h₀ L h' (g o') := by
  obtain ⟨pre, post, rfl, hg, h1, h2⟩ := U.split
  rw [hg]
  intro p hp
  rcases List.mem_append.mp hp with hp | hp
  · have n := N p (List.mem_append_left _ hp)
    exact ⟨st _ _ n.1 (by simpa using h1 p hp), n.2⟩
  · rcases List.mem_cons.mp hp with rfl | hp
    · exact ⟨e, (N (a, o) (List.mem_append_right _ (.head _))).2⟩
    · have n := N p (List.mem_append_right _ (.tail _ hp))
      exact ⟨st _ _ n.1 (by simpa using h2 p hp), n.2⟩

theorem ne_list {h : Heap} {a b : Addr} {o : Obj} {vs : Array Value} {c : Nat} (e : h.get? a = some o) (e' : h.get? b = some (listOf vs c)) (n : match o.data with | .seq .. => False | _ => True) : @Ne Nat a b := fun q => by
  rw [show a = b from q, e'] at e; cases e; exact n
theorem ne_cell {h : Heap} {a b : Addr} {o : Obj} {v : Option Value} {vs : Array Value} {c : Nat} (e : h.get? a = some o) (e' : h.get? b = some (listOf vs c)) (n : o.data = .cell v) : @Ne Nat a b := ne_list e e' (by rw [n]; trivial)
theorem nmem1 {a b : Addr} (h : @Ne Nat a b) : a ∉ [b] := fun q => by
  cases q with
  | head => exact h rfl
  | tail _ q => cases q
theorem nmem4 {a b c d e : Addr} (h1 : @Ne Nat a b) (h2 : @Ne Nat a c) (h3 : @Ne Nat a d) (h4 : @Ne Nat a e) : a ∉ [b, c, d, e] := fun q => by
  rcases List.mem_cons.mp q with q | q
  · exact h1 q
  rcases List.mem_cons.mp q with q | q
  · exact h2 q
  rcases List.mem_cons.mp q with q | q
  · exact h3 q
  exact nmem1 h4 q
theorem codeRec_hid {h : Heap} {S : List Addr} {v : Value} {q : Str} (x : h.CodeRec v q) (nt : ∀ a ∈ S, ∃ ps, h.get? a = some (tabObj ps) ∧ ∀ s t, ps[1]? ≠ some (.str s t)) : (hideAll h S).CodeRec v q := by
  obtain ⟨c, o, vs, t, e, ho, hd, hv⟩ := x
  refine ⟨c, o, vs, t, e, hideAll_get _ ho fun q => ?_, hd, hv⟩
  obtain ⟨ps, e1, e2⟩ := nt _ q
  rw [ho] at e1
  cases e1
  cases hd
  exact e2 _ _ hv
theorem tabs1 {h : Heap} {P : Addr} {ps : Array Value} (e : h.get? P = some (tabObj ps)) (n : ∀ s t, ps[1]? ≠ some (.str s t)) : ∀ a ∈ [P], ∃ ps, h.get? a = some (tabObj ps) ∧ ∀ s t, ps[1]? ≠ some (.str s t) := by
  intro a ha
  cases ha with
  | head => exact ⟨ps, e, n⟩
  | tail _ q => cases q
theorem codeRec_back {h₀ h : Heap} {L : Addr} {m : Str → Option Value} {v : Value} {q : Str} (x : h₀.CodeRec v q) (F : Fr h₀ L h m) : h.CodeRec v q := by
  obtain ⟨c, o, vs, t, e, ho, hd, hv⟩ := x
  exact ⟨c, o, vs, t, e, F.keep _ _ ho, hd, hv⟩
theorem codeRec_list {h h' : Heap} {D : Addr} {vs : Array Value} {c : Nat} {v : Value} {q : Str} (x : h.CodeRec v q) (hD : h.get? D = some (listOf vs c)) (st : Stay [D] h h') : h'.CodeRec v q := by
  obtain ⟨c, o, vs, t, e, ho, hd, hv⟩ := x
  exact ⟨c, o, vs, t, e, st _ _ ho (nmem1 (ne_list ho hD (by rw [hd]; trivial))), hd, hv⟩
theorem stay_hide {h : Heap} {D : Addr} : Stay [D] h (hideAll h [D]) := fun _ _ e n => hideAll_get _ e n
section
variable {M : Model} {A : Around} {E : Value → Shared → Prop} {s : Shared} {h₀ : Heap} {L a c P : Addr} {m mg mb : Str → Option Value} {cn : Str} {cs : Scope} {ccd : Value} {cl : List (Str × Addr)} {news : List (Addr × Obj)} {g : Obj → List (Addr × Obj)}
  {p : Program} {loose : List Str} {mean : ExcName → Option Value} {name qual : Str} {params : Arguments} {body : List Stmt} {scope : Scope} {ps : Array Value} {pos : Pos} {firstLine : Nat} {clos : List (Str × Addr)}
def RecBy (h₀ : Heap) (L x : Addr) (ox : Obj) (c : Addr) (q : Str) : Prop := ∀ {h : Heap} {m : Str → Option Value}, Fr h₀ L h m → h.get? x = some ox → h.CodeRec (.ref c) q
theorem codeAmong_own (pos : Pos) (c : Addr) : codeAmong pos [rawInt pos.line, rawInt pos.col, .ref c] = some (.ref c) := by simp [codeAmong, rawInt]
/-- the def made in a def, whether or no its code lies in the table -/
theorem nest_any {Q : Value → Shared → Prop} (F : Fr h₀ L s.heap m) (N : News h₀ L s.heap news) (T : Top p loose mean mg mb h₀) (C : CodeHd h₀ c P) (hcd : ccd = .ref c) (U : UpdF P (tabObj ps) news g)
    (hps : ps = #[] ∨ ∃ c', ps = #[rawInt pos.line, rawInt pos.col, .ref c'] ∧ h₀.CodeRec (.ref c') qual) (hcl : closureFor scope (envX cn cs L a ccd cl) = pure clos)
    (h : ∀ f x ox c' ctv doc h' tk, Fr h₀ L h' m → News h₀ L h' ((f, fnMade name qual params body scope clos doc ((mg "__name__").getD .none) c' ctv) :: (x, ox) :: g (tabObj #[rawInt pos.line, rawInt pos.col, .ref c'])) →
      RecBy h₀ L x ox c' qual → (∀ q ∈ news, q.1 < x) → (∀ q ∈ news, q.1 < f) → Q (.ref f) { s with heap := h', toks := tk }) :
    wpAny M A (makeFunction name qual params (.stmts body) scope (envX cn cs L a ccd cl) [] [] [] pos firstLine) Q E s := by
  rcases hps with rfl | ⟨c', rfl, r⟩
  · exact nest_K F N T C hcd U True.intro rfl hcl fun f c' oc vs t ctv doc h' tk F' N' hd hv l1 l2 =>
      h f c' oc c' ctv doc h' tk F' N' (fun _ e => ⟨c', oc, vs, t, rfl, e, hd, hv⟩) l1 (fun q hq => Nat.lt_trans (l1 q hq) l2)
  · obtain ⟨own, rest, rfl, hgr, h1, h2⟩ := U.split
    exact nestHit_K (c' := c') F N T C hcd (List.mem_append_right _ (.head _)) (by simp [TriplesOk, rawInt]) (codeAmong_own pos c') hcl fun f ctv doc h' tk F' N' l1 =>
      h f f _ c' ctv doc h' tk F' (fun q hq => by
        rw [hgr] at hq
        cases hq with
        | head => exact N' _ (.head _)
        | tail _ hq => exact N' q hq) (fun F _ => codeRec_back r F) l1 l1
end
theorem fresh_lt {h₀ h : Heap} {L D : Addr} {o : Obj} {P : Prop} (e : L = h₀.objs.size) (_ : h.get? D = some o ∧ P) (hl : @LT.lt Nat _ L D) : h₀.get? D = none := Heap.get?_none_of_le (Nat.le_of_lt (e ▸ hl))
theorem hS1 {h₀ : Heap} {D L : Addr} (h1 : h₀.get? D = none) (h2 : D ≠ L) : ∀ a ∈ [D], h₀.get? a = none ∧ a ≠ L := by
  intro a ha
  cases ha with
  | head => exact ⟨h1, h2⟩
  | tail _ q => cases q
/-- the table of the code of the defs made in a body: empty, or the one def's code -/
def Tab (P : Addr) (ln cl : Int) (q : Str) (h : Heap) : Prop :=
  h.get? P = some (tabObj #[]) ∨ ∃ c', h.get? P = some (tabObj #[rawInt ln, rawInt cl, .ref c']) ∧ h.CodeRec (.ref c') q
theorem Tab.stay {P : Addr} {ln cl : Int} {q : Str} {h h' : Heap} {S : List Addr} (x : Tab P ln cl q h) (st : Stay S h h') (n : P ∉ S) (nt : ∀ a ∈ S, ∃ ps, h.get? a = some (tabObj ps) ∧ ∀ s t, ps[1]? ≠ some (.str s t)) : Tab P ln cl q h' := by
  rcases x with x | ⟨c', x, c, o, vs, t, e, ho, hd, hv⟩
  · exact .inl (st _ _ x n)
  · refine .inr ⟨c', st _ _ x n, c, o, vs, t, e, st _ _ ho fun q => ?_, hd, hv⟩
    obtain ⟨ps, e1, e2⟩ := nt _ q
    rw [ho] at e1
    cases e1
    cases hd
    exact e2 _ _ hv

def digsD (a n : Int) : List Int :=
  if a = 0 then (List.replicate ((((Builtin.Int.intBits a : Nat) : Int) + n - 1).fdiv n).toNat [0]).flatten
  else fillD n ((((Builtin.Int.intBits a : Nat) : Int) + n - 1).fdiv n).toNat a 0 ((((Builtin.Int.intBits a : Nat) : Int) + n - 1).fdiv n) (List.replicate ((((Builtin.Int.intBits a : Nat) : Int) + n - 1).fdiv n).toNat [0]).flatten

abbrev q48 : Str := Str.ofString "_int2digits" ++ ".<locals>." ++ Str.ofString "inner"

theorem words_D2 : True := by
  k_with_none
  k_with "ENTERC" => (refine' code_hidC [44] (by assumption) (by k_is) (by k_is) (by ktr_room) (by exact BindsTo.of_eq rfl) (by exact kindsX rfl) (by decide +kernel) ?_ (by exact rfl) (by exact rfl) (by exact rfl); k_whole)
  k_with "exec FunctionDef" => (k_here; k_dflt (refine' nestDef_K (by exact rfl) (by exact rfl) (by exact rfl) ?_); k_dflt (refine' nest_any (by k_asm) (by k_asm) (by k_asm) (by kn_code) (by exact rfl) (by k_updF) (by assumption) (by exact rfl) ?_; k_whole); intro fkw xkw oxkw ckw ctkw dckw hkw tkkw Fkw Nkw Rkw lkw llkw; (try dsimp only at Nkw); (try k_lt lkw); (try k_lt llkw))
  trivial

section
variable {p : Program} {loose : List Str} {mean : ExcName → Option Value} {mg mb : Str → Option Value} {w : World} {A : Around} {s : Shared} {Q E : Value → Shared → Prop}
set_option maxHeartbeats 4000000 in
theorem i2d_ok (X : Rdy p loose mean mg mb (hd.heap_39 w.params) A (hideAll s.heap [44])) (hroom : A.depth + 110 < recursionLimit) {a n : Int} {t1 t2 : Tok}
    (C : CodeHd (hideAll s.heap [44]) 48 44) (hT : Tab 44 50 4 q48 s.heap)
    (a0 : 0 ≤ a) (a1 : a ≤ 1000) (n0 : 1 ≤ n) (n1 : n ≤ 16)
    (ret : ∀ h' tk' r vs c, Stay [44] s.heap h' → Tab 44 50 4 q48 h' → s.heap.get? r = none → h'.get? r = some (listOf vs.toArray c) → IntsAre vs (digsD a n) → Q (.ref r) { s with heap := h', toks := tk' }) :
    wpAny (model PySem.Challenge.rw_zt0001_01.row.prog w) A (call (.ref 49) [.int a t1, .int n t2]) Q E s := by
  have hb : ((Builtin.Int.intBits a : Nat) : Int) ≤ 64 := Int.ofNat_le.mpr (PySem.intBits_le_64 (by omega) (by omega))
  have hk0 : 0 ≤ (((Builtin.Int.intBits a : Nat) : Int) + n - 1).fdiv n := Int.fdiv_nonneg (by omega) (by omega)
  have hk1 : (((Builtin.Int.intBits a : Nat) : Int) + n - 1).fdiv n ≤ 100 := by
    rw [Int.fdiv_eq_ediv_of_nonneg _ (by omega)]
    exact Int.le_trans (Int.ediv_le_self _ (by omega)) (by omega)
  have hk2 : a ≠ 0 → 0 < (((Builtin.Int.intBits a : Nat) : Int) + n - 1).fdiv n := fun h => by
    have : 1 ≤ Builtin.Int.intBits a := by
      unfold Builtin.Int.intBits
      split
      · rename_i q; exact absurd (by simpa using q) h
      · omega
    rw [Int.fdiv_eq_ediv_of_nonneg _ (by omega)]
    exact (Int.le_ediv_iff_mul_le (by omega)).mpr (by omega)
  revert X; k_fill; intro X
  have hP : ∃ ps, s.heap.get? 44 = some (tabObj ps) ∧ (ps = #[] ∨ ∃ c', ps = #[rawInt 50, rawInt 4, .ref c'] ∧ (hideAll s.heap [44]).CodeRec (.ref c') q48) := by
    rcases hT with h | ⟨c', h, r⟩
    · exact ⟨_, h, .inl rfl⟩
    · exact ⟨_, h, .inr ⟨_, rfl, codeRec_hid r (tabs1 h (fun _ _ q => nomatch q))⟩⟩
  obtain ⟨ps, hP, hps⟩ := hP
  refine wpAny_call ?_
  k_dflt walk_at "ENTERC"
  intro A₀ base outer L' h' tk' cells' B' SA' F' N0 Y' eL' X' T'; k_cells Y'; (try dsimp only)
  have N' := N0 [(44, tabObj ps)] (by intro p hp; cases hp with | head => exact ⟨hP, List.Mem.head _⟩ | tail _ q => cases q)
  have l44 : @LT.lt Nat _ 44 L' := eL' ▸ Heap.lt_size hP
  simp only [List.cons_append, List.nil_append] at N'
  clear N0
  try k_fold
  k_steps
  all_goals try dsimp only
  · rename News _ _ _ _ => N9
    rename Fr _ _ _ _ => F9
    rename IntsAre _ _ => i9
    rename RecBy _ _ _ _ _ _ => hR
    have hx := N9 _ (List.Mem.tail _ (List.Mem.head _))
    have hf := N9 _ (List.Mem.head _)
    have hD := N9 _ (List.Mem.tail _ (List.Mem.tail _ (List.Mem.head _)))
    have hci := N9 _ (List.Mem.tail _ (List.Mem.tail _ (List.Mem.tail _ (List.Mem.tail _ (List.Mem.head _)))))
    have hca := N9 _ (List.Mem.tail _ (List.Mem.tail _ (List.Mem.tail _ (List.Mem.tail _ (List.Mem.tail _ (List.Mem.head _))))))
    have hcn := N9 _ (List.Mem.tail _ (List.Mem.tail _ (List.Mem.tail _ (List.Mem.tail _ (List.Mem.tail _ (List.Mem.tail _ (List.Mem.head _)))))))
    dsimp only at hf hD hci hca hcn
    have hS := hS1 hD.2.2 hD.2.1
    rename (0 ≤ (((Builtin.Int.intBits a : Nat) : Int) + n - 1).fdiv n → _) => e3
    rename (List.flatten (List.replicate _ [(0 : Int)])).length = _ => e1
    have e4 := e3 hk0
    rw [show ((0 + 1 : Nat) : Int) = 1 from rfl, Int.one_mul] at e4
    refine i2d_inner (by k_is) rfl n0 n1 ?_ (hideAll_get [_] hf.1 ?_) ?_ ⟨_, hideAll_get [_] hcn.1 ?_, by assumption⟩ ⟨_, hideAll_get [_] hci.1 ?_, by assumption⟩ ⟨_, hideAll_get [_] hca.1 ?_, by assumption⟩ ((((Builtin.Int.intBits a : Nat) : Int) + n - 1).fdiv n).toNat (rdy_hid B' F9 X' T' hS SA' rfl rfl) (by ktr_room) (fun _ _ e => e) hD.1 i9 a0 a1 (by decide) ?_ ?_ ?_ ?_ ?_
    · exact nmem4 (Ne.symm (ne_list hf.1 hD.1 trivial)) (Ne.symm (ne_cell hcn.1 hD.1 (by assumption))) (Ne.symm (ne_cell hci.1 hD.1 (by assumption))) (Ne.symm (ne_cell hca.1 hD.1 (by assumption)))
    · exact nmem1 (ne_list hf.1 hD.1 trivial)
    · exact codeRec_list (hR F9 hx.1) hD.1 stay_hide
    · exact nmem1 (ne_cell hcn.1 hD.1 (by assumption))
    · exact nmem1 (ne_cell hci.1 hD.1 (by assumption))
    · exact nmem1 (ne_cell hca.1 hD.1 (by assumption))
    · rw [e4]; exact hk2 (by assumption)
    · exact Int.le_of_eq (congrArg (fun n : Nat => (n : Int)) e1.symm)
    · rw [e1]; exact Int.ofNat_le.mp (Int.le_trans (Int.le_of_eq e4) hk1)
    · rw [Int.sub_zero, Int.toNat_of_nonneg hk0, e4]; exact Int.le_refl _
    · intro h5 tk5 v5 vs5 c5 st5 hl5 hi5
      have F9' := fr_back F9 st5 hS
      have N9' := news_putF N9 (by k_dflt k_updF) st5 hl5
      have hfr := fresh_lt eL' hD (by omega)
      clear F9 N9
      k_steps
      try dsimp only
      refine ret _ _ _ vs5 c5 (Stay.of F9'.keep) (.inr ⟨_, (N9' _ (List.Mem.tail _ (List.Mem.tail _ (List.Mem.tail _ (List.Mem.tail _ (List.Mem.tail _ (List.Mem.tail _ (List.Mem.tail _ (List.Mem.head _))))))))).1, hR F9' (N9' _ (List.Mem.tail _ (List.Mem.head _))).1⟩) hfr hl5 ?_
      rw [digsD, if_neg (by assumption)]
      rw [e4] at hi5
      exact hi5
  · rename News _ _ _ _ => N9
    rename Fr _ _ _ _ => F9
    rename IntsAre _ _ => i9
    have hD := N9 _ (List.Mem.tail _ (List.Mem.tail _ (List.Mem.head _)))
    have hfr := fresh_lt eL' hD (by omega)
    refine ret _ _ _ _ _ (Stay.of F9.keep) (.inr ⟨_, (N9 _ (List.Mem.tail _ (List.Mem.tail _ (List.Mem.tail _ (List.Mem.tail _ (List.Mem.tail _ (List.Mem.tail _ (List.Mem.tail _ (List.Mem.head _))))))))).1, by rename RecBy _ _ _ _ _ _ => hR; exact hR F9 (N9 _ (List.Mem.tail _ (List.Mem.head _))).1⟩) hfr hD.1 ?_
    rw [digsD, if_pos (by assumption)]
    exact i9
end
end Mine

-- D3a
open PySem PySem.W PyProof.Rows PySem.Calls
set_option Elab.async false
set_option linter.unusedVariables false
namespace Mine
set_option maxRecDepth 100000

def joinD (n : Int) : Nat → Int → Int → List Int → Int
  | 0, _, _, _ => 0
  | k + 1, L, R, ds => if L + 1 = R then ds.getD L.toNat 0 else
    joinD n k ((L + R).fdiv (2 ^ Int.toNat 1)) R ds * 2 ^ (((L + R).fdiv (2 ^ Int.toNat 1) - L) * n).toNat + joinD n k L ((L + R).fdiv (2 ^ Int.toNat 1)) ds
theorem getD_bound {ds : List Int} (hd : ∀ d ∈ ds, 0 ≤ d ∧ d ≤ 15) (j : Nat) : 0 ≤ ds.getD j 0 ∧ ds.getD j 0 ≤ 15 := by
  rw [List.getD_eq_getElem?_getD]
  cases h : ds[j]? with
  | none => exact ⟨Int.le_refl _, by decide⟩
  | some d => exact hd d (List.mem_of_getElem? h)
theorem pow_le {b : Nat} (h : 0 < b) {j k : Nat} (hjk : j ≤ k) : (b : Int) ^ j ≤ (b : Int) ^ k := by
  rw [← Int.natCast_pow, ← Int.natCast_pow]
  exact Int.ofNat_le.mpr (Nat.pow_le_pow_right h hjk)
theorem joinD_bound {n : Int} (n0 : 1 ≤ n) (n1 : n ≤ 4) {ds : List Int} (hd : ∀ d ∈ ds, 0 ≤ d ∧ d ≤ 15) (hl : ds.length ≤ 4) : ∀ (k : Nat) (L R : Int), 0 ≤ L → L < R → R ≤ ds.length → 0 ≤ joinD n k L R ds ∧ joinD n k L R ds ≤ 15 * 65537 ^ k
  | 0, _, _, _, _, _ => by simp [joinD]
  | k + 1, L, R, l0, lr, rn => by
    rw [joinD]
    split
    · have := getD_bound hd L.toNat
      have p : (1 : Int) ≤ 65537 ^ (k + 1) := Int.pow_pos (by decide)
      omega
    · rename_i hne
      obtain ⟨m1, m2⟩ := mid_lt lr hne
      have a := joinD_bound n0 n1 hd hl k ((L + R).fdiv (2 ^ Int.toNat 1)) R (Int.le_trans l0 (Int.le_of_lt m1)) m2 rn
      have b := joinD_bound n0 n1 hd hl k L ((L + R).fdiv (2 ^ Int.toNat 1)) l0 m1 (Int.le_trans (Int.le_of_lt m2) rn)
      have hs1 : ((L + R).fdiv (2 ^ Int.toNat 1) - L) * n ≤ 16 := Int.le_trans (Int.mul_le_mul (sub_le_of (Int.le_of_lt m2) l0 (Int.le_trans rn (Int.ofNat_le.mpr hl))) n1 (Int.le_trans (by decide) n0) (by decide)) (by decide)
      generalize joinD n k ((L + R).fdiv (2 ^ Int.toNat 1)) R ds = x at a ⊢
      generalize joinD n k L ((L + R).fdiv (2 ^ Int.toNat 1)) ds = y at b ⊢
      generalize (((L + R).fdiv (2 ^ Int.toNat 1) - L) * n) = sh at hs1 ⊢
      have p8 : (2 : Int) ^ sh.toNat ≤ 65536 := Int.le_trans (pow_le (b := 2) (by decide) (Int.toNat_le.mpr hs1)) (by decide)
      have pp : (0 : Int) < 2 ^ sh.toNat := Int.pow_pos (by decide)
      have m1 : x * 2 ^ sh.toNat ≤ x * 65536 := Int.mul_le_mul_of_nonneg_left p8 a.1
      have m0 : 0 ≤ x * 2 ^ sh.toNat := Int.mul_nonneg a.1 (Int.le_of_lt pp)
      rw [Int.pow_succ]
      omega

theorem lsh_fit {x sh : Int} {k : Nat} (h : 0 ≤ x ∧ x ≤ 15 * 65537 ^ k) (hk : k ≤ 3) (hs : sh ≤ 16) : ((Builtin.Int.intBits x : Nat) : Int) + sh ≤ 2 ^ 27 := by
  have b : (15 : Int) * 65537 ^ k ≤ 15 * 65537 ^ 3 := Int.mul_le_mul_of_nonneg_left (pow_le (b := 65537) (by decide) hk) (by decide)
  have : ((Builtin.Int.intBits x : Nat) : Int) ≤ 64 := Int.ofNat_le.mpr (PySem.intBits_le_64 (by omega) (by omega))
  omega

theorem words_D3a : True := by
  k_with_none
  k_with "ENTERX" => (refine' code_hidX [] (by assumption) (by assumption) (by exact rfl) (by assumption) (by ktr_room) (by exact BindsTo.of_eq rfl) (by exact locs rfl) ?_ (by exact rfl) (by exact rfl) (by exact rfl) (by decide); k_whole)
  k_with "eval Name" => (k_here; k_dflt (refine' nameX_Fb (by k_asm) (by rfl) (by assumption) ?_ (by rfl) (by rfl); k_whole))
  k_with "FnAt" => (k_dflt (exact FnAt.keeps (by assumption) (Fr.keep (by k_asm))))
  k_with "callWith ref" => (k_here; k_dflt (first
  | (refine' callWith_F (by exact FnAt.keeps (by assumption) (Fr.keep (by k_asm))) ?_; k_whole)
  | (refine' callWith_F0 (by exact FnAt.keeps (by assumption) (Fr.keep (by k_asm))) ?_; k_whole; try dsimp only [List.nil_append, List.cons_append])))
  k_with "subscriptTail" => (k_here; k_dflt (refine' item_anyK (stays_list (Fr.keep (by k_asm)) (by assumption)) (by assumption) (by assumption) (by assumption) (by assumption) ?_ (by with_unfolding_all rfl); k_whole); intro _)
  k_with "binaryOp LShift int int" => (k_here; refine lshift_int (by assumption) (by assumption) ?_)
  trivial

section
variable {p : Program} {loose : List Str} {mean : ExcName → Option Value} {mg mb : Str → Option Value} {w : World} {A : Around} {s : Shared} {Q E : Value → Shared → Prop}
set_option maxHeartbeats 4000000 in
theorem d2i_inner {o : Obj} (ho : (hd.heap_39 w.params).lookup 56 = some o) {name qual : Str} {params : Arguments} {body : List Stmt} {scope : Scope} (hn : nestOf o = some (name, params, body, scope))
    {la f cn ci ca c' : Addr} {doc pm ctv : Value} {n : Int} {tn : Tok} (n0 : 1 ≤ n) (n1 : n ≤ 4) {g : Heap} {vs : List Value} {ds : List Int}
    (hf : g.get? f = some (fnMade name qual params body scope [("n", cn), ("inner", ci), ("digits", ca)] doc pm c' ctv))
    (hcr : g.CodeRec (.ref c') qual) (h1 : CellAt g cn (.int n tn)) (h2 : CellAt g ci (.ref f)) (h3 : CellAt g ca (.ref la)) (h4 : g.IsList la vs.toArray) (hi : IntsAre vs ds) (hdd : ∀ d ∈ ds, 0 ≤ d ∧ d ≤ 15) (hl : ds.length ≤ 4) :
    ∀ (k : Nat), k ≤ 4 → ∀ {A : Around} {s : Shared} {Q E : Value → Shared → Prop} {L R : Int} {t2 t3 : Tok},
      Rdy p loose mean mg mb (hd.heap_39 w.params) A s.heap → A.depth + k < recursionLimit → g.StaysIn s.heap →
      0 ≤ L → L < R → R ≤ ds.length → R - L ≤ k →
      (∀ h' tk' t, s.heap.StaysIn h' → Q (.int (joinD n k L R ds) t) { s with heap := h', toks := tk' }) →
      wpAny (model PySem.Challenge.rw_zt0001_01.row.prog w) A (call (.ref f) [.int L t2, .int R t3]) Q E s := by
  revert ho; k_fill; intro ho
  obtain rfl := Option.some.inj (ho.symm.trans (by k_is : _ = some _))
  cases (hn.symm.trans (rfl : _ = some (_, _, _, _)))
  intro k
  induction k with
  | zero => intro kk A s Q E L R t2 t3 X room st l0 lr rn rk ret; exact absurd lr (Int.not_lt.mpr (Int.le_of_sub_nonpos rk))
  | succ k IH =>
    intro kk A s Q E L R t2 t3 X room st l0 lr rn rk ret
    have hf' := st _ _ hf
    have hcr' : s.heap.CodeRec (.ref c') qual := by
      obtain ⟨c, o, vs, t, e, h, r⟩ := hcr; exact ⟨c, o, vs, t, e, st _ _ h, r⟩
    have k1 := h1.keeps st
    have k2 := h2.keeps st
    have k3 := h3.keeps st
    have k4 := stays_list st h4
    have kf : FnAt f s.heap := ⟨_, _, _, _, st _ _ hf⟩
    have hm := mid_le lr
    have hs0 : 0 ≤ ((L + R).fdiv (2 ^ Int.toNat 1) - L) * n := Int.mul_nonneg (Int.sub_nonneg.mpr hm.1) (Int.le_trans (by decide) n0)
    have hs1 : ((L + R).fdiv (2 ^ Int.toNat 1) - L) * n ≤ 16 := Int.le_trans (Int.mul_le_mul (sub_le_of hm.2 l0 (Int.le_trans rn (Int.ofNat_le.mpr hl))) n1 (Int.le_trans (by decide) n0) (by decide)) (by decide)
    have il : L < (ds.length : Int) := Int.lt_of_lt_of_le lr rn
    have il' : L < 2 ^ 63 := Int.lt_of_lt_of_le il (Int.le_trans (Int.ofNat_le.mpr hl) (by decide))
    have room' : A.depth + 1 + k < recursionLimit := by rw [Nat.add_right_comm]; exact room
    refine wpAny_call ?_
    k_dflt walk_at "ENTERX"
    intro A₀ base outer L' h' B' SA' F' N0 X' T'
    have N' := N0 [] (fun _ q => nomatch q)
    clear N0
    try dsimp only
    try k_fold
    k_steps
    all_goals try dsimp only
    · rename Fr _ _ _ _ => F9
      refine ret _ _ _ F9.keep |> cast (congrArg (fun v => Q (.int v _) _) ?_)
      rw [joinD, if_pos (by assumption)]
    · rename (L + 1 ≠ R) => hne
      rename Fr _ _ _ _ => F9
      obtain ⟨m1, m2⟩ := mid_lt lr hne
      obtain ⟨m3, m4⟩ := mid_k m1 m2 rk
      have ml := Int.le_trans l0 (Int.le_of_lt m1)
      have kk' := Nat.le_of_succ_le kk
      have hb := lsh_fit (joinD_bound n0 n1 hdd hl k ((L + R).fdiv (2 ^ Int.toNat 1)) R ml m2 rn) (Nat.le_of_succ_le_succ kk) hs1
      refine IH kk' (rdy_hid (S := []) B' F9 X' T' (fun _ q => nomatch q) SA' rfl rfl) room' (fun b o e => F9.keep _ _ (st _ _ e)) ml m2 rn m4 ?_
      intro h5 tk5 t5 st5
      replace F9 := Fr.keeps F9 st5
      k_steps
      refine IH kk' (rdy_hid (S := []) B' F9 X' T' (fun _ q => nomatch q) SA' rfl rfl) room' (fun b o e => F9.keep _ _ (st _ _ e)) l0 m1 (Int.le_trans (Int.le_of_lt m2) rn) m3 ?_
      intro h6 tk6 t6 st6
      replace F9 := Fr.keeps F9 st6
      k_steps
      refine ret _ _ _ F9.keep |> cast (congrArg (fun v => Q (.int v _) _) ?_)
      rw [joinD, if_neg hne]
end
end Mine

-- D3
open PySem PySem.W PyProof.Rows PySem.Calls
set_option Elab.async false
set_option linter.unusedVariables false
namespace Mine
set_option maxRecDepth 100000

def sumD (n : Int) (ds : List Int) : Int := if ds.length = 0 then 0 else joinD n 4 0 ds.length ds

abbrev q55 : Str := Str.ofString "_digits2int" ++ ".<locals>." ++ Str.ofString "inner"

theorem words_D3 : True := by
  k_with_none
  k_with "ENTERC" => (refine' code_hidC [51] (by assumption) (by k_is) (by k_is) (by ktr_room) (by exact BindsTo.of_eq rfl) (by exact kindsX rfl) (by decide +kernel) ?_ (by exact rfl) (by exact rfl) (by exact rfl); k_whole)
  k_with "exec FunctionDef" => (k_here; k_dflt (refine' nestDef_K (by exact rfl) (by exact rfl) (by exact rfl) ?_); k_dflt (refine' nest_any (by k_asm) (by k_asm) (by k_asm) (by kn_code) (by exact rfl) (by k_updF) (by assumption) (by exact rfl) ?_; k_whole); intro fkw xkw oxkw ckw ctkw dckw hkw tkkw Fkw Nkw Rkw lkw llkw; (try dsimp only at Nkw); (try k_lt lkw); (try k_lt llkw))
  trivial

section
variable {p : Program} {loose : List Str} {mean : ExcName → Option Value} {mg mb : Str → Option Value} {w : World} {A : Around} {s : Shared} {Q E : Value → Shared → Prop}
set_option maxHeartbeats 4000000 in
theorem d2i_ok (X : Rdy p loose mean mg mb (hd.heap_39 w.params) A (hideAll s.heap [51])) (hroom : A.depth + 110 < recursionLimit) {n : Int} {t2 : Tok}
    (C : CodeHd (hideAll s.heap [51]) 55 51) (hT : Tab 51 65 4 q55 s.heap) {la : Addr} {vs : List Value} {ds : List Int} {c : Nat}
    (n0 : 1 ≤ n) (n1 : n ≤ 4) (hla : s.heap.get? la = some (listOf vs.toArray c)) (hi : IntsAre vs ds) (hdd : ∀ d ∈ ds, 0 ≤ d ∧ d ≤ 15) (hl : ds.length ≤ 4)
    (ret : ∀ h' tk' t, Stay [51] s.heap h' → Tab 51 65 4 q55 h' → Q (.int (sumD n ds) t) { s with heap := h', toks := tk' }) :
    wpAny (model PySem.Challenge.rw_zt0001_01.row.prog w) A (call (.ref 56) [.ref la, .int n t2]) Q E s := by
  revert X; k_fill; intro X
  have hP : ∃ ps, s.heap.get? 51 = some (tabObj ps) ∧ (ps = #[] ∨ ∃ c', ps = #[rawInt 65, rawInt 4, .ref c'] ∧ (hideAll s.heap [51]).CodeRec (.ref c') q55) := by
    rcases hT with h | ⟨c', h, r⟩
    · exact ⟨_, h, .inl rfl⟩
    · exact ⟨_, h, .inr ⟨_, rfl, codeRec_hid r (tabs1 h (fun _ _ q => nomatch q))⟩⟩
  obtain ⟨ps, hP, hps⟩ := hP
  have hll : (hideAll s.heap [51]).IsList la vs.toArray := ⟨_, hideAll_get _ hla (by
    intro q
    cases q with
    | head => rw [hP] at hla; cases hla
    | tail _ q => cases q), rfl, _, rfl⟩
  refine wpAny_call ?_
  k_dflt walk_at "ENTERC"
  intro A₀ base outer L' h' tk' cells' B' SA' F' N0 Y' eL' X' T'; k_cells Y'; (try dsimp only)
  have N' := N0 [(51, tabObj ps)] (by intro p hp; cases hp with | head => exact ⟨hP, List.Mem.head _⟩ | tail _ q => cases q)
  have l51 : @LT.lt Nat _ 51 L' := eL' ▸ Heap.lt_size hP
  simp only [List.cons_append, List.nil_append] at N'
  clear N0
  try k_fold
  k_steps
  all_goals try dsimp only
  · rename News _ _ _ _ => N9
    rename Fr _ _ _ _ => F9
    rename RecBy _ _ _ _ _ _ => hR
    have hf := N9 _ (List.Mem.head _)
    have hci := N9 _ (List.Mem.tail _ (List.Mem.tail _ (List.Mem.head _)))
    have hcn := N9 _ (List.Mem.tail _ (List.Mem.tail _ (List.Mem.tail _ (List.Mem.head _))))
    have hca := N9 _ (List.Mem.tail _ (List.Mem.tail _ (List.Mem.tail _ (List.Mem.tail _ (List.Mem.head _)))))
    dsimp only at hf hci hca hcn
    refine d2i_inner (p := p) (loose := loose) (mean := mean) (mg := mg) (mb := mb) (by k_is) rfl n0 n1 hf.1 (hR F9 (N9 _ (List.Mem.tail _ (List.Mem.head _))).1) ⟨_, hcn.1, by assumption⟩ ⟨_, hci.1, by assumption⟩ ⟨_, hca.1, by assumption⟩ (stays_list F9.keep hll) hi hdd hl 4 (Nat.le_refl _) ?_ ?_ ?_ ?_ ?_ ?_ ?_ ?_
    · exact rdy_hid (S := []) B' F9 X' T' (fun _ q => nomatch q) SA' rfl rfl
    · ktr_room
    · exact fun _ _ e => e
    · decide
    · omega
    · exact Int.le_refl _
    · omega
    intro h5 tk5 t5 st5
    replace F9 := Fr.keeps F9 st5
    replace N9 := News.grown N9 st5
    try dsimp only
    have e0 : sumD n ds = joinD n 4 0 ds.length ds := by rw [sumD, if_neg (by omega)]
    rw [e0] at ret
    exact ret _ _ _ (Stay.of F9.keep) (.inr ⟨_, (N9 _ (List.Mem.tail _ (List.Mem.tail _ (List.Mem.tail _ (List.Mem.tail _ (List.Mem.tail _ (List.Mem.head _))))))).1, (hR F9 (N9 _ (List.Mem.tail _ (List.Mem.head _))).1)⟩)
  · rename News _ _ _ _ => N9
    rename Fr _ _ _ _ => F9
    rename RecBy _ _ _ _ _ _ => hR
    have e0 : sumD n ds = 0 := by rw [sumD, if_pos (by omega)]
    rw [e0] at ret
    exact ret _ _ _ (Stay.of F9.keep) (.inr ⟨_, (N9 _ (List.Mem.tail _ (List.Mem.tail _ (List.Mem.tail _ (List.Mem.tail _ (List.Mem.tail _ (List.Mem.head _))))))).1, (hR F9 (N9 _ (List.Mem.tail _ (List.Mem.head _))).1)⟩)
end
end Mine

-- D4
theorem Mine.off_D4 : True := by
  k_with_none
  trivial
open PySem PySem.W PyProof.Rows PySem.Calls
set_option Elab.async false
set_option linter.unusedVariables false
namespace Mine
set_option maxRecDepth 100000

theorem tab_carry {g h : Heap} {L P : Addr} {m : Str → Option Value} {ln cl : Int} {q : Str} (F : Fr g L h m) (T : Tab P ln cl q h) (hP : g.get? P = none) (hL : P ≠ L) :
    ∃ ps x ox, h.get? P = some (tabObj ps) ∧ (∀ s t, ps[1]? ≠ some (.str s t)) ∧ h.get? x = some ox ∧ g.get? x = none ∧ x ≠ L ∧ (∀ h', g.StaysIn h' → h'.get? x = some ox → h'.get? P = some (tabObj ps) → Tab P ln cl q h') ∧ (x = P ∨ ∃ vs s t, ox.data = .fields vs ∧ vs[1]? = some (.str s t)) := by
  rcases T with e | ⟨c', e, c, o, vs, t, ec, ho, hd, hv⟩
  · exact ⟨_, P, _, e, (fun _ _ q => nomatch q), e, hP, hL, (fun h' _ _ e' => .inl e'), .inl rfl⟩
  · cases ec
    cases hg : g.get? c' with
    | some o' =>
      have := F.keep _ _ hg
      rw [ho] at this
      cases this
      exact ⟨_, P, _, e, (fun _ _ q => nomatch q), e, hP, hL, (fun h' st _ e' => .inr ⟨c', e', c', o, vs, t, rfl, st _ _ hg, hd, hv⟩), .inl rfl⟩
    | none =>
      refine ⟨_, c', o, e, (fun _ _ q => nomatch q), ho, hg, fun q => ?_, (fun h' st e1 e' => .inr ⟨c', e', c', o, vs, t, rfl, e1, hd, hv⟩), .inr ⟨vs, q, t, hd, hv⟩⟩
      obtain ⟨oL, es, ep, hL, hLd, _⟩ := F.ns
      rw [← q, ho] at hL
      cases hL
      rw [hd] at hLd
      cases hLd

theorem tab_ne {h : Heap} {x P P' : Addr} {ox : Obj} {ps : Array Value} (hx : h.get? x = some ox) (hP : h.get? P' = some (tabObj ps)) (hs : ∀ s t, ps[1]? ≠ some (.str s t)) (hne : P ≠ P') (k : x = P ∨ ∃ vs s t, ox.data = .fields vs ∧ vs[1]? = some (.str s t)) : x ≠ P' := by
  rcases k with rfl | ⟨vs, s, t, hd, hv⟩
  · exact hne
  · intro e
    rw [e, hP] at hx
    cases hx
    cases hd
    exact hs _ _ hv
theorem stays_hid {g h : Heap} {L : Addr} {m : Str → Option Value} {S : List Addr} (F : Fr g L h m) (hS : ∀ a ∈ S, g.get? a = none ∧ a ≠ L) : g.StaysIn (hideAll h S) := fun b o e => hideAll_get _ (F.keep b o e) fun q => by rw [(hS b q).1] at e; cases e

section
variable {p : Program} {loose : List Str} {mean : ExcName → Option Value} {mg mb : Str → Option Value} {w : World} {A : Around} {s : Shared} {Q E : Value → Shared → Prop}

theorem pow_small {k : Nat} (h : k ≤ 4) : (0 : Int) < 2 ^ k ∧ (2 : Int) ^ k ≤ 16 := by
  refine ⟨Int.pow_pos (by decide), ?_⟩
  have : (2 : Nat) ^ k ≤ 2 ^ 4 := Nat.pow_le_pow_right (by decide) h
  exact_mod_cast this

theorem d2_step (X : Rdy p loose mean mg mb (hd.heap_39 w.params) A s.heap) (hroom : A.depth + 1 < recursionLimit) {r d b n : Int} {t1 t2 t3 : Tok}
    (r0 : 0 ≤ r) (r1 : r < b) (d0 : 0 ≤ d) (d1 : d < 2 ^ n.toNat) (b0 : 0 < b) (b1 : b ≤ 15) (n0 : 0 ≤ n) (n1 : n ≤ 4)
    (ret : ∀ h' tk' f q r' t t', s.heap.StaysIn h' → q = (r * 2 ^ n.toNat + d) / b → r' = (r * 2 ^ n.toNat + d) % b → 0 ≤ q → q ≤ 15 → 0 ≤ r' → r' < b → IsTup h' f [.int q t, .int r' t'].toArray → Q (.ref f) { s with heap := h', toks := tk' }) :
    wpAny (model PySem.Challenge.rw_zt0001_01.row.prog w) A (call (.ref 35) [.int (r * 2 ^ n.toNat + d) t1, .int b t2, .int n t3]) Q E s := by
  have p := pow_small (k := n.toNat) (by omega)
  generalize (2 : Int) ^ n.toNat = P at d1 p ret ⊢
  have x0 : 0 ≤ r * P := Int.mul_nonneg r0 (by omega)
  have x1 : r * P ≤ (b - 1) * P := Int.mul_le_mul_of_nonneg_right (by omega) (by omega)
  have x2 : (b - 1) * P = b * P - P := by rw [Int.sub_mul, Int.one_mul]
  have x3 : b * P ≤ 15 * 16 := Int.mul_le_mul b1 p.2 (by omega) (by decide)
  have x4 : (r * P + d) / b < P := Int.ediv_lt_of_lt_mul b0 (by rw [Int.mul_comm P b]; omega)
  refine div2n1n_ok X hroom (by omega) (by omega) b0 (by omega) n0 (by omega) fun h' tk' f st hit => ?_
  obtain ⟨t, t', i⟩ := hit
  exact ret h' tk' f _ _ t t' st rfl rfl (Int.ediv_nonneg (by omega) (by omega)) (by omega) (Int.emod_nonneg _ (by omega)) (Int.emod_lt_of_pos _ b0) i
end

def stepD (b n : Int) (st : List Int × Int) (d : Int) : List Int × Int := (st.1 ++ [(st.2 * 2 ^ n.toNat + d) / b], (st.2 * 2 ^ n.toNat + d) % b)
def divP (a b : Int) : Int × Int :=
  let st := (digsD a ((Builtin.Int.intBits b : Nat) : Int)).reverse.foldl (stepD b ((Builtin.Int.intBits b : Nat) : Int)) ([], 0)
  (sumD ((Builtin.Int.intBits b : Nat) : Int) st.1.reverse, st.2)
theorem divP_all : ∀ a : Fin 16, ∀ b : Fin 16, 0 < b.val → divP (a.val : Int) (b.val : Int) = ((a.val : Int) / (b.val : Int), (a.val : Int) % (b.val : Int)) := by decide +kernel
theorem digsD_all : ∀ a : Fin 16, ∀ n : Fin 5, 0 < n.val → (digsD (a.val : Int) (n.val : Int)).length ≤ 4 ∧ ∀ d ∈ digsD (a.val : Int) (n.val : Int), 0 ≤ d ∧ d < 2 ^ (n.val : Int).toNat := by decide +kernel
theorem bits_all : ∀ b : Fin 16, 0 < b.val → 1 ≤ Builtin.Int.intBits (b.val : Int) ∧ Builtin.Int.intBits (b.val : Int) ≤ 4 := by decide +kernel
end Mine

-- D5
open PySem PySem.W PyProof.Rows PySem.Calls
set_option Elab.async false
set_option linter.unusedVariables false
namespace Mine
set_option maxRecDepth 100000

theorem tab_start {h : Heap} {P : Addr} {ln cl : Int} {q : Str} {S : List Addr} (T : Tab P ln cl q h) (nt : ∀ a ∈ S, ∃ ps, h.get? a = some (tabObj ps) ∧ ∀ s t, ps[1]? ≠ some (.str s t)) :
    ∃ ps, h.get? P = some (tabObj ps) ∧ (∀ s t, ps[1]? ≠ some (.str s t)) ∧ ∀ h', (hideAll h S).StaysIn h' → h'.get? P = some (tabObj ps) → Tab P ln cl q h' := by
  rcases T with e | ⟨c', e, r⟩
  · exact ⟨_, e, (fun _ _ q => nomatch q), fun h' _ e' => .inl e'⟩
  · have := codeRec_hid r nt
    refine ⟨_, e, (fun _ _ q => nomatch q), fun h' st e' => .inr ⟨c', e', ?_⟩⟩
    obtain ⟨c, o, vs, t, ec, ho, r⟩ := this
    exact ⟨c, o, vs, t, ec, st _ _ ho, r⟩
theorem Tab.nostr {h : Heap} {P : Addr} {ln cl : Int} {q : Str} (T : Tab P ln cl q h) : ∃ ps, h.get? P = some (tabObj ps) ∧ ∀ s t, ps[1]? ≠ some (.str s t) := by
  rcases T with e | ⟨c', e, r⟩
  · exact ⟨_, e, (fun _ _ q => nomatch q)⟩
  · exact ⟨_, e, (fun _ _ q => nomatch q)⟩
theorem tabs2 {h : Heap} {P P' : Addr} {ln cl ln' cl' : Int} {q q' : Str} (T : Tab P ln cl q h) (T' : Tab P' ln' cl' q' h) : ∀ a ∈ [P, P'], ∃ ps, h.get? a = some (tabObj ps) ∧ ∀ s t, ps[1]? ≠ some (.str s t) := by
  intro a ha
  cases ha with
  | head => exact T.nostr
  | tail _ q => cases q with
    | head => exact T'.nostr
    | tail _ q => cases q
theorem fresh_entry {g h h' : Heap} {L r : Addr} {m : Str → Option Value} {o : Obj} (F : Fr g L h m) (e : h.get? r = none) (e' : h'.get? r = some o) : h'.get? r = some o ∧ r ≠ L ∧ g.get? r = none := by
  refine ⟨e', fun q => ?_, ?_⟩
  · obtain ⟨oL, es, ep, hL, _⟩ := F.ns
    rw [← q, e] at hL; cases hL
  · cases q : g.get? r with
    | none => rfl
    | some o => have := F.keep _ _ q; rw [e] at this; cases this
theorem lsh_small {r n : Int} (r0 : 0 ≤ r) (r1 : r ≤ 1000) (n1 : n ≤ 100000) : ((Builtin.Int.intBits r : Nat) : Int) + n ≤ 2 ^ 27 := by
  have : ((Builtin.Int.intBits r : Nat) : Int) ≤ 64 := Int.ofNat_le.mpr (PySem.intBits_le_64 (by omega) (by omega))
  omega

/-- a def's own text -/
def funOf (o : Obj) : Option (Str × List Stmt × Scope × Value) := match o.data with
  | .func fd => (match fd.body with
    | .stmts b => some (fd.qualname, b, fd.scope, fd.code)
    | _ => none)
  | _ => none

theorem words_D5 : True := by
  k_with_none
  k_with "binaryOp LShift int int" => (k_here; refine lshift_int (by omega) (lsh_small (by omega) (by omega) (by omega)) ?_)
  k_with "call ref" => (k_here; k_dflt (refine' d2_step (by exact rdy_hid (S := []) (by k_asm) (by k_asm) (by k_asm) (by k_asm) (fun _ qkw => nomatch qkw) (by assumption) rfl rfl) (by ktr_room) (by omega) (by omega) (by assumption) (by assumption) (by omega) (by omega) (by omega) (by omega) ?_; k_whole); intro hkw tkkw fkw qkw rkw tkw tkw stkw e1kw e2kw q0kw q1kw r0kw r1kw itkw; (rename Fr _ _ _ _ => kFkw); (rename News _ _ _ _ => kNkw); have Fkw := Fr.keeps kFkw stkw; have Nkw := News.grown kNkw stkw; clear kFkw kNkw)
  k_with "assign Tuple" => (k_here; (with_reducible show wpAny _ _ (assign (Expr.Tuple _ _ _) _ (Value.ref _)) _ _ _); k_dflt (refine' unpackN_ (by k_asm) (by k_asm) (by assumption) (by assumption) (by exact rfl) (by exact rfl) ?_; k_whole); intro hkw Fkw Nkw; (try k_sweep))
  k_with "eval Name" => (k_here; k_dflt (refine' ld (by k_asm) (by assumption) ?_; k_whole))
  trivial

section
variable {p : Program} {loose : List Str} {mean : ExcName → Option Value} {mg mb : Str → Option Value} {w : World} {A A₀ : Around} {s : Shared} {Q : Flow → Shared → Prop} {E : Value → Shared → Prop}
set_option maxHeartbeats 4000000 in
theorem dp_t0 {o : Obj} (ho : (hd.heap_39 w.params).lookup 63 = some o) {qual : Str} {body : List Stmt} {scope : Scope} {cdv : Value} (hf : funOf o = some (qual, body, scope, cdv)) {tgt itx : PySem.Expr} {b4 ore : List Stmt} {ps : Pos} (hst : body[4]? = some (.For tgt itx b4 ore ps)) {st : Stmt} (hst4 : b4[0]? = some st)
    {base g : Heap} {outer : List Env} {L : Addr} (B : Below A₀ base outer g) (SA : (A.deeper (envOf qual scope L 63 cdv)).frames = some (envOf qual scope L 63 cdv :: outer))
    {m : Str → Option Value} (F : Fr g L s.heap m) (X : (hd.heap_39 w.params).In g) (Tp : Top p loose mean mg mb g) (hh : A.handled = none) (hroom : A.depth + 120 < recursionLimit)
    {n b rv d : Int} {tn tb tr u : Tok} (hn : m (Str.ofString "n") = some (.int n tn)) (hb : m (Str.ofString "b") = some (.int b tb)) (hr : m (Str.ofString "r") = some (.int rv tr)) (hd : m (Str.ofString "a_digit") = some (.int d u)) {nb : List (Addr × Obj)} (N : News g L s.heap nb)
    (b0 : 0 < b) (b1 : b ≤ 15) (n0 : 1 ≤ n) (n1 : n ≤ 4) (r0 : 0 ≤ rv) (r1 : rv < b) (d0 : 0 ≤ d) (d1 : d < 2 ^ n.toNat)
    (ret : ∀ h' tk' t t' q' r', q' = (rv * 2 ^ n.toNat + d) / b → r' = (rv * 2 ^ n.toNat + d) % b → 0 ≤ q' → q' ≤ 15 → 0 ≤ r' → r' < b →
      Fr g L h' (fun y => if y = Str.ofString "r" then some (.int r' t') else if y = Str.ofString "q_digit" then some (.int q' t) else m y) → News g L h' nb → Q .next { s with heap := h', toks := tk' }) :
    wpAny (model PySem.Challenge.rw_zt0001_01.row.prog w) (A.deeper (envOf qual scope L 63 cdv)) (exec st (envOf qual scope L 63 cdv)) Q E s := by
  revert ho; k_fill; intro ho
  obtain rfl := Option.some.inj (ho.symm.trans (by k_is : _ = some _))
  cases (hf.symm.trans (rfl : _ = some (_, _, _, _)))
  cases hst
  cases hst4
  clear ho hf
  k_steps
  exact ret _ _ _ _ _ _ (by assumption) (by assumption) (by assumption) (by assumption) (by assumption) (by assumption) (by k_asm) (by k_asm)

set_option maxHeartbeats 4000000 in
theorem dp_t1 {o : Obj} (ho : (hd.heap_39 w.params).lookup 63 = some o) {qual : Str} {body : List Stmt} {scope : Scope} {cdv : Value} (hf : funOf o = some (qual, body, scope, cdv)) {tgt itx : PySem.Expr} {b4 ore : List Stmt} {ps : Pos} (hst : body[4]? = some (.For tgt itx b4 ore ps)) {st : Stmt} (hst4 : b4[1]? = some st)
    {base g : Heap} {outer : List Env} {L : Addr} (B : Below A₀ base outer g) (SA : (A.deeper (envOf qual scope L 63 cdv)).frames = some (envOf qual scope L 63 cdv :: outer))
    {m : Str → Option Value} (F : Fr g L s.heap m) (X : (hd.heap_39 w.params).In g) (Tp : Top p loose mean mg mb g) (hh : A.handled = none) (hroom : A.depth + 120 < recursionLimit)
    {q : Int} {t : Tok} {D : Addr} (hq : m (Str.ofString "q_digits") = some (.ref D)) (hd : m (Str.ofString "q_digit") = some (.int q t)) {its : List Value} {c : Nat} {nb : List (Addr × Obj)} (N : News g L s.heap ((D, listOf its.toArray c) :: nb)) (hD : ∀ q ∈ nb, q.1 ≠ D) (hlen : its.length ≤ 100)
    (ret : ∀ h' tk', Fr g L h' m → News g L h' ((D, listOf (its ++ [Value.int q t]).toArray (c + 1)) :: nb) → Q .next { s with heap := h', toks := tk' }) :
    wpAny (model PySem.Challenge.rw_zt0001_01.row.prog w) (A.deeper (envOf qual scope L 63 cdv)) (exec st (envOf qual scope L 63 cdv)) Q E s := by
  revert ho; k_fill; intro ho
  obtain rfl := Option.some.inj (ho.symm.trans (by k_is : _ = some _))
  cases (hf.symm.trans (rfl : _ = some (_, _, _, _)))
  cases hst
  cases hst4
  clear ho hf
  k_steps
  refine append_K F N (.head hD) (fun h' F' N' => ?_) (Nat.le_trans (by simpa using hlen) (show 100 ≤ sizeLine by decide))
  exact ret _ _ F' (by simpa using N')

theorem dp_loop {o : Obj} (ho : (hd.heap_39 w.params).lookup 63 = some o) {qual : Str} {body : List Stmt} {scope : Scope} {cdv : Value} (hf : funOf o = some (qual, body, scope, cdv)) {tgt itx : PySem.Expr} {b4 ore : List Stmt} {ps : Pos} (hst : body[4]? = some (.For tgt itx b4 ore ps)) {st0 st1 : Stmt} (hb4 : b4 = [st0, st1])
    {base g : Heap} {outer : List Env} {L : Addr} (B : Below A₀ base outer g) (SA : (A.deeper (envOf qual scope L 63 cdv)).frames = some (envOf qual scope L 63 cdv :: outer))
    (X : (hd.heap_39 w.params).In g) (Tp : Top p loose mean mg mb g) (hh : A.handled = none) (hroom : A.depth + 120 < recursionLimit)
    {n b : Int} (b0 : 0 < b) (b1 : b ≤ 15) (n0 : 1 ≤ n) (n1 : n ≤ 4) {D I : Addr} {lp : Addr × Obj} {nb : List (Addr × Obj)} (hl : lp ∈ nb) (hD : ∀ q ∈ nb, q.1 ≠ D) (hI : ∀ q ∈ nb, q.1 ≠ I) (hDI : D ≠ I) :
    ∀ (dr : List Int) (vr : List Value) (m : Str → Option Value) (its : List Value) (c : Nat) (rv : Int) (qds : List Int), IntsAre vr dr → IntsAre its qds → (∀ q ∈ qds, 0 ≤ q ∧ q ≤ 15) → its.length + vr.length ≤ 100 →
      (∃ t, m (Str.ofString "n") = some (.int n t)) → (∃ t, m (Str.ofString "b") = some (.int b t)) → (∃ t, m (Str.ofString "r") = some (.int rv t)) → m (Str.ofString "q_digits") = some (.ref D) → 0 ≤ rv → rv < b → (∀ d ∈ dr, 0 ≤ d ∧ d < 2 ^ n.toNat) →
      (∀ h tk m' its' c', Fr g L h m' → (∃ t, m' (Str.ofString "n") = some (.int n t)) → (∃ t, m' (Str.ofString "r") = some (.int (dr.foldl (stepD b n) (qds, rv)).2 t)) → m' (Str.ofString "q_digits") = some (.ref D) → News g L h ((D, listOf its'.toArray c') :: nb) → IntsAre its' (dr.foldl (stepD b n) (qds, rv)).1 → (∀ q ∈ (dr.foldl (stepD b n) (qds, rv)).1, 0 ≤ q ∧ q ≤ 15) → its'.length = its.length + vr.length → Q .next { s with heap := h, toks := tk }) →
      RevRest PySem.Challenge.rw_zt0001_01.row.prog w (A.deeper (envOf qual scope L 63 cdv)) E g (envOf qual scope L 63 cdv) (Str.ofString "a_digit") b4 Q s I lp vr m ((D, listOf its.toArray c) :: nb) := by
  subst hb4
  intro dr
  induction dr with
  | nil =>
    intro vr m its c rv qds hv hi hq hlen hn hb hr hqd r0 r1 hd fin
    cases hv
    exact RevRest.zero fun h tk F N => fin h tk m its c F hn hr hqd N hi hq (by simp)
  | cons d dr ih =>
    intro vr m its c rv qds hv hi hq hlen hn hb hr hqd r0 r1 hd fin
    cases hv with
    | cons d u hv =>
      obtain ⟨tn, hn⟩ := hn
      obtain ⟨tb, hb⟩ := hb
      obtain ⟨tr, hr⟩ := hr
      have hd0 := hd d (.head _)
      refine RevRest.succ fun it h tk hit F N => ?_
      refine wpAny_execs_cons (dp_t0 (p := p) (loose := loose) (mean := mean) (mg := mg) (mb := mb) ho hf hst rfl B SA F X Tp hh hroom ((if_neg (by decide)).trans hn) ((if_neg (by decide)).trans hb) ((if_neg (by decide)).trans hr) (if_pos rfl) N b0 b1 n0 n1 r0 r1 hd0.1 hd0.2 ?_)
      intro h1 tk1 t t' q' r' eq er q0 q1 s0 s1 F1 N1
      have N2 : News g L h1 ((D, listOf its.toArray c) :: (I, it) :: nb) := fun x hx => by
        rcases List.mem_cons.mp hx with rfl | hx
        · exact N1 _ (.tail _ (.head _))
        rcases List.mem_cons.mp hx with rfl | hx
        · exact N1 _ (.head _)
        · exact N1 _ (.tail _ (.tail _ hx))
      refine wpAny_execs_cons (dp_t1 (p := p) (loose := loose) (mean := mean) (mg := mg) (mb := mb) ho hf hst rfl B SA F1 X Tp hh hroom ((if_neg (by decide)).trans ((if_neg (by decide)).trans ((if_neg (by decide)).trans hqd))) ((if_neg (by decide)).trans (if_pos rfl)) N2 (fun x hx => ?_) (by simp only [List.length_cons] at hlen; omega) ?_)
      · rcases List.mem_cons.mp hx with rfl | hx
        · exact Ne.symm hDI
        · exact hD x hx
      intro h2 tk2 F2 N3
      refine wpAny_execs_nil ⟨h2, tk2, _, (D, listOf (its ++ [Value.int q' t]).toArray (c + 1)) :: nb, rfl, F2, fun x hx => ?_, fun x hx => ?_, .tail _ hl, ?_⟩
      · rcases List.mem_cons.mp hx with rfl | hx
        · exact N3 _ (.tail _ (.head _))
        rcases List.mem_cons.mp hx with rfl | hx
        · exact N3 _ (.head _)
        · exact N3 _ (.tail _ (.tail _ hx))
      · rcases List.mem_cons.mp hx with rfl | hx
        · exact hDI
        · exact hI x hx
      · have e : (d :: dr).foldl (stepD b n) (qds, rv) = dr.foldl (stepD b n) (qds ++ [q'], r') := by rw [List.foldl_cons, eq, er]; rfl
        rw [e] at fin
        refine ih _ _ _ _ r' (qds ++ [q']) hv (IntsAre.append hi (.cons _ _ .nil)) (fun x hx => ?_) (by simp only [List.length_cons, List.length_append, List.length_nil] at hlen ⊢; omega) ⟨tn, (if_neg (by decide)).trans ((if_neg (by decide)).trans ((if_neg (by decide)).trans hn))⟩ ⟨tb, (if_neg (by decide)).trans ((if_neg (by decide)).trans ((if_neg (by decide)).trans hb))⟩ ⟨t', if_pos rfl⟩
          ((if_neg (by decide)).trans ((if_neg (by decide)).trans ((if_neg (by decide)).trans hqd))) s0 s1 (fun x hx => hd x (.tail _ hx)) fun h tk m' its' c' a1 a2 a3 a4 a5 a6 a7 a8 => fin h tk m' its' c' a1 a2 a3 a4 a5 a6 a7 (by simp only [List.length_cons, List.length_append, List.length_nil] at a8 ⊢; omega)
        rcases List.mem_append.mp hx with hx | hx
        · exact hq x hx
        · rw [List.mem_singleton.mp hx]; exact ⟨q0, q1⟩
end

theorem ints_rev {vs : List Value} {ns : List Int} (h : IntsAre vs ns) : IntsAre vs.reverse ns.reverse := by
  induction h with
  | nil => exact .nil
  | cons n t r ih => rw [List.reverse_cons, List.reverse_cons]; exact IntsAre.append ih (.cons _ _ .nil)
section
variable {p : Program} {loose : List Str} {mean : ExcName → Option Value} {mg mb : Str → Option Value} {w : World} {A : Around} {s : Shared} {Q E : Value → Shared → Prop}
set_option maxHeartbeats 4000000 in
theorem divpos_ok (X : Rdy p loose mean mg mb (hd.heap_39 w.params) A (hideAll s.heap [44, 51])) (hroom : A.depth + 120 < recursionLimit) (hh : A.handled = none) {a b : Int} {t1 t2 : Tok}
    (C44 : CodeHd (hideAll s.heap [44, 51]) 48 44) (C51 : CodeHd (hideAll s.heap [44, 51]) 55 51) (T44 : Tab 44 50 4 q48 s.heap) (T51 : Tab 51 65 4 q55 s.heap)
    (a0 : 0 ≤ a) (a1 : a ≤ 15) (b0 : 0 < b) (b1 : b ≤ 15)
    (ret : ∀ h' tk' f, Stay [44, 51] s.heap h' → Tab 44 50 4 q48 h' → Tab 51 65 4 q55 h' → (∃ t t', IsTup h' f [.int (a / b) t, .int (a % b) t'].toArray) → Q (.ref f) { s with heap := h', toks := tk' }) :
    wpAny (model PySem.Challenge.rw_zt0001_01.row.prog w) A (call (.ref 63) [.int a t1, .int b t2]) Q E s := by
  obtain ⟨ps44, hP44, hs44, K44⟩ := tab_start T44 (tabs2 T44 T51)
  obtain ⟨ps51, hP51, hs51, K51⟩ := tab_start T51 (tabs2 T44 T51)
  have hnb : 1 ≤ Builtin.Int.intBits b ∧ Builtin.Int.intBits b ≤ 4 := by
    have := bits_all ⟨b.toNat, by omega⟩ (by show 0 < b.toNat; omega)
    rwa [show ((b.toNat : Nat) : Int) = b by omega] at this
  have hdg := digsD_all ⟨a.toNat, by omega⟩ ⟨Builtin.Int.intBits b, by omega⟩ (by show 0 < Builtin.Int.intBits b; omega)
  rw [show ((a.toNat : Nat) : Int) = a by omega] at hdg
  dsimp only at hdg
  have hfin : divP a b = (a / b, a % b) := by
    have := divP_all ⟨a.toNat, by omega⟩ ⟨b.toNat, by omega⟩ (by show 0 < b.toNat; omega)
    rwa [show ((a.toNat : Nat) : Int) = a by omega, show ((b.toNat : Nat) : Int) = b by omega] at this
  revert X; k_fill; intro X
  refine wpAny_call ?_
  k_dflt (refine' code_hid (binds := [(Str.ofString "a", .int a t1), (Str.ofString "b", .int b t2)]) [44, 51] ?k1 ?k6 ?k7 ?k8 ?k9 ?kB ?_ ?c2 ?c3 ?c4 ?c5; (case k1 => assumption); (case k6 => k_is); (case k7 => k_is); (case k8 => ktr_room); (case k9 => exact BindsTo.of_eq (by kernel_rfl)); (case c5 => decide); (case kB => exact locs rfl); (case c2 => exact rfl); (case c3 => exact rfl); (case c4 => exact rfl); k_whole)
  intro A₀ base outer L' h' B' SA' F' N0 X' T'
  have N' := N0 [(44, tabObj ps44), (51, tabObj ps51)] (by
    intro p hp
    cases hp with
    | head => exact ⟨hP44, List.Mem.head _⟩
    | tail _ q => cases q with
      | head => exact ⟨hP51, List.Mem.tail _ (List.Mem.head _)⟩
      | tail _ q => cases q)
  clear N0
  try dsimp only
  try k_fold
  k_steps
  rename News _ _ _ _ => N9
  rename Fr _ _ _ _ => F9
  have h44 := N9 _ (List.Mem.head _)
  have h51 := N9 _ (List.Mem.tail _ (List.Mem.head _))
  dsimp only at h44 h51
  have hS44 := hS1 h44.2.2 h44.2.1
  refine i2d_ok (rdy_hid (S := [44]) B' F9 X' T' hS44 SA' rfl rfl) (by ktr_room) (C44.keeps (stays_hid F9 hS44)) (K44 _ F9.keep h44.1) a0 (by omega) (by omega) (by omega) ?_
  intro h5 tk5 r vs c st5 T5 fr5 hl5 hi5
  have hr5 := fresh_entry F9 fr5 hl5
  have n51 := st5 _ _ h51.1 (by decide)
  replace F9 := fr_back F9 st5 hS44
  obtain ⟨qs, x, ox, c1, c2, c3, c4, c5, K44', c6⟩ := tab_carry F9 T5 h44.2.2 h44.2.1
  have N5 : News (hideAll s.heap [44, 51]) L' h5 [(r, listOf vs.toArray c), (x, ox), (44, tabObj qs), (51, tabObj ps51)] := by
    intro p hp
    rcases List.mem_cons.mp hp with rfl | hp
    · exact hr5
    rcases List.mem_cons.mp hp with rfl | hp
    · exact ⟨c3, c5, c4⟩
    rcases List.mem_cons.mp hp with rfl | hp
    · exact ⟨c1, h44.2⟩
    rcases List.mem_cons.mp hp with rfl | hp
    · exact ⟨n51, h51.2⟩
    cases hp
  clear N9
  obtain ⟨hdl, hdd⟩ := hdg
  have hf1 := (congrArg Prod.fst hfin).symm
  have hf2 := (congrArg Prod.snd hfin).symm
  rw [divP] at hf1 hf2
  dsimp only at hf1 hf2
  rw [hf1, hf2] at ret
  clear hf1 hf2 hfin
  generalize digsD a ↑(Builtin.Int.intBits b) = ds at hi5 hdl hdd ret
  have hvl := hi5.length
  k_steps
  rename_i hA tkA hB lq hC lq1 hD' I' hE F9 N9 lI1
  have i1 : I' ≠ lq := Nat.ne_of_gt lI1.1
  refine iter_revUnr (vs := vs) hh F9 N9 (by k_offL) (.tail _ (.head _)) rfl rfl ?_
  refine dp_loop (p := p) (loose := loose) (mean := mean) (mg := mg) (mb := mb) (its := []) (by k_is) rfl rfl rfl B' SA' X' T' hh (by ktr_room) b0 b1 (by omega) (by omega) (.head _) (fun q hq => ?_) (fun q hq => ?_) (Ne.symm i1) ds.reverse vs.reverse _ _ 0 [] (ints_rev hi5) .nil (fun _ q => nomatch q) (by rw [List.length_reverse]; simp only [List.length_nil]; omega) ⟨_, rfl⟩ ⟨_, rfl⟩ ⟨_, rfl⟩ rfl (by decide) b0 (fun d hd => hdd d (List.mem_reverse.mp hd)) ?_
  · simp only [List.mem_cons, List.not_mem_nil, or_false] at hq
    rcases hq with rfl | rfl | rfl | rfl
    · exact Nat.ne_of_lt lq1.1
    · exact Nat.ne_of_lt lq1.2.1
    · exact Nat.ne_of_lt lq1.2.2.1
    · exact Nat.ne_of_lt lq1.2.2.2
  · simp only [List.mem_cons, List.not_mem_nil, or_false] at hq
    rcases hq with rfl | rfl | rfl | rfl
    · exact Nat.ne_of_lt lI1.2.1
    · exact Nat.ne_of_lt lI1.2.2.1
    · exact Nat.ne_of_lt lI1.2.2.2.1
    · exact Nat.ne_of_lt lI1.2.2.2.2
  intro h7 tk7 m7 its7 cc7 F7 hn7 hr7 hq7 N7 hi7 hb7 hl7
  clear N9 F9 lI1
  obtain ⟨tn, hn7⟩ := hn7
  obtain ⟨tr, hr7⟩ := hr7
  try dsimp only
  k_steps
  refine kl_reverse F7 N7 (l := its7.reverse) (by simp) (.head fun q hq => ?_) (Nat.le_trans (show its7.toArray.toList.length ≤ 4 by simp only [List.length_nil, List.length_reverse] at hl7; simp; omega) (by decide)) fun h8 F8 N8 => ?_
  · simp only [List.mem_cons, List.not_mem_nil, or_false] at hq
    rcases hq with rfl | rfl | rfl | rfl
    · exact Nat.ne_of_lt lq1.1
    · exact Nat.ne_of_lt lq1.2.1
    · exact Nat.ne_of_lt lq1.2.2.1
    · exact Nat.ne_of_lt lq1.2.2.2
  clear F7 N7
  k_steps
  have hx := N8 (x, ox) (.tail _ (.tail _ (.head _)))
  have h44 := N8 (44, tabObj qs) (.tail _ (.tail _ (.tail _ (.head _))))
  have h51 := N8 (51, tabObj ps51) (.tail _ (.tail _ (.tail _ (.tail _ (.head _)))))
  dsimp only at hx h44 h51
  have hS51 := hS1 h51.2.2 h51.2.1
  refine d2i_ok (p := p) (loose := loose) (mean := mean) (mg := mg) (mb := mb) ?_ ?_ ?_ ?_ ?_ ?_ (N8 _ (.head _)).1 (ints_rev hi7) ?_ ?_ ?_
  · exact rdy_hid (S := [51]) B' F8 X' T' hS51 SA' rfl rfl
  · ktr_room
  · exact C51.keeps (stays_hid F8 hS51)
  · exact K51 _ F8.keep h51.1
  · omega
  · omega
  · intro d hx9; exact hb7 d (List.mem_reverse.mp hx9)
  · rw [List.length_reverse, ← hi7.length, hl7]; simp only [List.length_nil, List.length_reverse]; omega
  intro h6 tk6 t6 st6 T6
  have x6 := st6 _ _ hx.1 (nmem1 (tab_ne hx.1 h51.1 hs51 (by decide) c6))
  have n44 := st6 _ _ h44.1 (by decide)
  replace F8 := fr_back F8 st6 hS51
  obtain ⟨qs', y, oy, d1', d2', d3', d4', d5', K51', d6'⟩ := tab_carry F8 T6 h51.2.2 h51.2.1
  have N6 : News (hideAll s.heap [44, 51]) L' h6 [(x, ox), (44, tabObj qs), (y, oy), (51, tabObj qs')] := by
    intro p hp
    rcases List.mem_cons.mp hp with rfl | hp
    · exact ⟨x6, hx.2⟩
    rcases List.mem_cons.mp hp with rfl | hp
    · exact ⟨n44, h44.2⟩
    rcases List.mem_cons.mp hp with rfl | hp
    · exact ⟨d3', d5', d4'⟩
    rcases List.mem_cons.mp hp with rfl | hp
    · exact ⟨d1', h51.2⟩
    cases hp
  clear N8
  k_steps
  rename News _ _ _ _ => N9
  rename Fr _ _ _ _ => F9
  have it := News.isTup N9 (List.Mem.head _)
  exact ret _ _ _ (Stay.of F9.keep) (K44' _ F9.keep (N9 _ (List.Mem.tail _ (List.Mem.head _))).1 (N9 _ (List.Mem.tail _ (List.Mem.tail _ (List.Mem.head _)))).1) (K51' _ F9.keep (N9 _ (List.Mem.tail _ (List.Mem.tail _ (List.Mem.tail _ (List.Mem.head _))))).1 (N9 _ (List.Mem.tail _ (List.Mem.tail _ (List.Mem.tail _ (List.Mem.tail _ (List.Mem.head _)))))).1) ⟨_, _, it⟩
end
end Mine

-- D6
theorem Mine.off_D6 : True := by
  k_with_none
  trivial
open PySem PySem.W PyProof.Rows PySem.Calls
set_option Elab.async false
set_option linter.unusedVariables false
namespace Mine
set_option maxRecDepth 100000

theorem hS2 {h₀ : Heap} {L : Addr} (h1 : h₀.get? 44 = none ∧ 44 ≠ L) (h2 : h₀.get? 51 = none ∧ 51 ≠ L) : ∀ a ∈ [44, 51], h₀.get? a = none ∧ a ≠ L := by
  intro a ha
  cases ha with
  | head => exact h1
  | tail _ q => cases q with
    | head => exact h2
    | tail _ q => cases q

/-- the two tables of the defs made in bodies -/
structure Tabs (h : Heap) : Prop where
  t44 : Tab 44 50 4 q48 h
  t51 : Tab 51 65 4 q55 h
structure Codes (h : Heap) : Prop where
  c44 : CodeHd h 48 44
  c51 : CodeHd h 55 51
theorem Codes.keeps {h h' : Heap} (x : Codes h) (k : h.StaysIn h') : Codes h' := ⟨x.c44.keeps k, x.c51.keeps k⟩

abbrev ST : List Addr := [44, 51]

/-- the tables, laid into a ledger beside what was found with them -/
theorem tabs_lay {g h : Heap} {L : Addr} {m : Str → Option Value} (F : Fr g L h m) (T : Tabs h) (h1 : g.get? 44 = none ∧ 44 ≠ L) (h2 : g.get? 51 = none ∧ 51 ≠ L) :
    ∃ q1 x1 o1 q2 x2 o2, News g L h [(x1, o1), (x2, o2), (44, tabObj q1), (51, tabObj q2)] ∧
      ∀ h', g.StaysIn h' → h'.get? x1 = some o1 → h'.get? x2 = some o2 → h'.get? 44 = some (tabObj q1) → h'.get? 51 = some (tabObj q2) → Tabs h' := by
  obtain ⟨q1, x1, o1, c1, c2, c3, c4, c5, K1, _⟩ := tab_carry F T.t44 h1.1 h1.2
  obtain ⟨q2, x2, o2, d1, d2, d3, d4, d5, K2, _⟩ := tab_carry F T.t51 h2.1 h2.2
  refine ⟨q1, x1, o1, q2, x2, o2, fun p hp => ?_, fun h' st e1 e2 e3 e4 => ⟨K1 h' st e1 e3, K2 h' st e2 e4⟩⟩
  rcases List.mem_cons.mp hp with rfl | hp
  · exact ⟨c3, c5, c4⟩
  rcases List.mem_cons.mp hp with rfl | hp
  · exact ⟨d3, d5, d4⟩
  rcases List.mem_cons.mp hp with rfl | hp
  · exact ⟨c1, h1.2, h1.1⟩
  rcases List.mem_cons.mp hp with rfl | hp
  · exact ⟨d1, h2.2, h2.1⟩
  cases hp
/-- the same at a call's start, of what stood before -/
theorem tabs_start {h : Heap} (T : Tabs h) : ∃ q1 q2, h.get? 44 = some (tabObj q1) ∧ h.get? 51 = some (tabObj q2) ∧ ∀ h', (hideAll h ST).StaysIn h' → h'.get? 44 = some (tabObj q1) → h'.get? 51 = some (tabObj q2) → Tabs h' := by
  obtain ⟨q1, a1, _, K1⟩ := tab_start T.t44 (tabs2 T.t44 T.t51)
  obtain ⟨q2, a2, _, K2⟩ := tab_start T.t51 (tabs2 T.t44 T.t51)
  exact ⟨q1, q2, a1, a2, fun h' st e1 e2 => ⟨K1 h' st e1, K2 h' st e2⟩⟩
theorem tabs_news {h : Heap} {q1 q2 : Array Value} (h1 : h.get? 44 = some (tabObj q1)) (h2 : h.get? 51 = some (tabObj q2)) : ∀ p ∈ [((44 : Addr), tabObj q1), (51, tabObj q2)], h.get? p.1 = some p.2 ∧ p.1 ∈ ST := by
  intro p hp
  cases hp with
  | head => exact ⟨h1, List.Mem.head _⟩
  | tail _ q => cases q with
    | head => exact ⟨h2, List.Mem.tail _ (List.Mem.head _)⟩
    | tail _ q => cases q

section
variable {p : Program} {loose : List Str} {mean : ExcName → Option Value} {mg mb : Str → Option Value} {w : World} {A : Around} {s : Shared} {Q E : Value → Shared → Prop}
set_option maxHeartbeats 4000000 in
theorem divmod_ok (X : Rdy p loose mean mg mb (hd.heap_39 w.params) A (hideAll s.heap ST)) (hroom : A.depth + 130 < recursionLimit) (hh : A.handled = none) {a b : Int} {t1 t2 : Tok}
    (C : Codes (hideAll s.heap ST)) (T : Tabs s.heap) (a0 : 0 ≤ a) (a1 : a ≤ 15) (b0 : 0 < b) (b1 : b ≤ 15)
    (ret : ∀ h' tk' f, Stay ST s.heap h' → Tabs h' → (∃ t t', IsTup h' f [.int (a / b) t, .int (a % b) t'].toArray) → Q (.ref f) { s with heap := h', toks := tk' }) :
    wpAny (model PySem.Challenge.rw_zt0001_01.row.prog w) A (call (.ref 70) [.int a t1, .int b t2]) Q E s := by
  obtain ⟨q1, q2, h44, h51, K⟩ := tabs_start T
  revert X; k_fill; intro X
  refine wpAny_call ?_
  k_dflt (refine' code_hid (binds := [(Str.ofString "a", .int a t1), (Str.ofString "b", .int b t2)]) ST ?k1 ?k6 ?k7 ?k8 ?k9 ?kB ?_ ?c2 ?c3 ?c4 ?c5; (case k1 => assumption); (case k6 => k_is); (case k7 => k_is); (case k8 => ktr_room); (case k9 => exact BindsTo.of_eq (by kernel_rfl)); (case c5 => decide); (case kB => exact locs rfl); (case c2 => exact rfl); (case c3 => exact rfl); (case c4 => exact rfl); k_whole)
  intro A₀ base outer L' h' B' SA' F' N0 X' T'
  have N' := N0 _ (tabs_news h44 h51)
  clear N0
  try dsimp only
  try k_fold
  k_steps
  · exfalso; omega
  rename News _ _ _ _ => N9
  rename Fr _ _ _ _ => F9
  have n44 := N9 _ (List.Mem.head _)
  have n51 := N9 _ (List.Mem.tail _ (List.Mem.head _))
  dsimp only at n44 n51
  have hS := hS2 ⟨n44.2.2, n44.2.1⟩ ⟨n51.2.2, n51.2.1⟩
  have TT := K _ F9.keep n44.1 n51.1
  refine divpos_ok (p := p) (loose := loose) (mean := mean) (mg := mg) (mb := mb) ?_ ?_ ?_ ?_ ?_ ?_ ?_ a0 a1 b0 b1 ?_
  · exact rdy_hid (S := ST) B' F9 X' T' hS SA' rfl rfl
  · ktr_room
  · exact hh
  · exact C.c44.keeps (stays_hid F9 hS)
  · exact C.c51.keeps (stays_hid F9 hS)
  · exact TT.t44
  · exact TT.t51
  intro h5 tk5 f st5 T5 T5' it
  replace F9 := fr_back F9 st5 hS
  k_steps
  exact ret _ _ _ (Stay.of F9.keep) ⟨T5, T5'⟩ it
end
end Mine

-- D7
open PySem PySem.W PyProof.Rows PySem.Calls
set_option Elab.async false
set_option linter.unusedVariables false
namespace Mine
set_option maxRecDepth 100000

section
variable {p : Program} {loose : List Str} {mean : ExcName → Option Value} {mg mb : Str → Option Value} {K : Frag} {A A₀ : Around} {h h' h₀ base : Heap} {outer : List Env} {env : Env} {L : Addr} {m : Str → Option Value} {S : List Addr} {news : List (Addr × Obj)}
variable {prog : Program} {w : World} {s : Shared} {R : Result → Shared → Prop} {name qual : Str} {params : Arguments} {body : List Stmt} {scope : Scope} {dV kV doc pm cdv ct oc : Value} {an od : Option Addr} {osl : Array (Option Value)} {f : Addr} {args : Args} {binds : List (Str × Value)}

theorem code_hidF (S : List Addr) (r : Rdy p loose mean mg mb K A (hideAll s.heap S))
    (ho : K.lookup f = some ⟨oc, od, .func (fnOf name qual params body scope dV kV doc pm an cdv ct), osl⟩) (hcd : codeIn K cdv qual = true) (hroom : A.depth < recursionLimit)
    (hbind : BindsTo s (fnOf name qual params body scope dV kV doc pm an cdv ct) args binds) (hloc : ∀ y ∈ binds, scope.names.lookup y.1 = some .local)
    (h : ∀ A₀ base outer L' h₁, Below A₀ base outer (hideAll s.heap S) → (A.deeper (envOf qual scope L' f cdv)).frames = some (envOf qual scope L' f cdv :: outer) →
      Fr (hideAll s.heap S) L' h₁ (fun y => binds.reverse.lookup y) → (∀ nw : List (Addr × Obj), (∀ p ∈ nw, s.heap.get? p.1 = some p.2 ∧ p.1 ∈ S) → News (hideAll s.heap S) L' h₁ nw) → K.In (hideAll s.heap S) → Top p loose mean mg mb (hideAll s.heap S) → L' = s.heap.objs.size →
      wpAny (model prog w) (A.deeper (envOf qual scope L' f cdv)) (execs body (envOf qual scope L' f cdv))
        (fun fl s' => R (.ok (.ret (match fl with | .ret v => v | _ => .none))) s') (fun _ _ => False)
        { s with heap := h₁, toks := s.toks + binds.length })
    (hco : scope.isCoroutine = false) (hgen : scope.isGenerator = false) (hk : scope.kind = .function)
    (hcell : ∀ x ∈ scope.names, x.2 ≠ .cell) : codeAny (model prog w) A (.call (.ref f) args) R s := by
  obtain ⟨base, outer, B⟩ := r.below
  have st : (hideAll s.heap S).StaysIn s.heap := fun b o e => of_hideAll _ e
  refine codeAny_call_def (fd := fnX name qual params body scope [] dV kV doc pm an cdv ct) (body := body) (binds := binds) hroom (st _ _ (r.K _ _ ho)) rfl (r.T.nolimit.keeps st) (codeRec_of (r.K.keeps st) hcd) rfl hbind hcell hloc (fun h₁ hns hk₁ => ?_) hco hgen hk
  refine wpAny_mono (h A base outer s.heap.objs.size h₁ B (Around.frames_deeper B.stack) ⟨hns, fun b o e => hk₁ b o (of_hideAll _ e), Nat.le_of_eq (hideAll_size _ _)⟩ (fun nw hnw p hp => ?_) r.K r.T rfl) (fun _ _ x => x) (fun _ _ x => x.elim)
  obtain ⟨e, hm⟩ := hnw p hp
  exact ⟨hk₁ _ _ e, Nat.ne_of_lt (Heap.lt_size e), hideAll_none _ hm⟩
end

section
variable {prog : Program} {w : World} {A : Around} {E : Value → Shared → Prop} {s : Shared} {env : Env} {test : PySem.Expr} {body orelse : List Stmt} {Q : Flow → Shared → Prop}
def Held (P : Prop) : Prop := P
theorem unheld {P : Prop} (h : Held P) : P := h
theorem whl_held {pos : Pos} (h : Held (WhlRest prog w A E env test body orelse Q 0 s)) : wpAny (model prog w) A (exec (.While test body orelse pos) env) Q E s := whl_start 0 h
theorem whl_ind (I : Nat → Shared → Prop) (turn : ∀ n s, I n s → (∀ n' s', n' < n → I n' s' → WhlRest prog w A E env test body orelse Q 0 s') → WhlRest prog w A E env test body orelse Q 1 s) : ∀ (n : Nat) (s : Shared), I n s → WhlRest prog w A E env test body orelse Q 0 s := by
  intro n
  induction n using Nat.strongRecOn with
  | ind n ih => intro s h; exact turn n s h fun n' s' hl hi => ih n' hl s' hi
end

/-- all that a def of one's own knows of the place where it walks, beside its frame -/
theorem tabs_back {g h h' : Heap} {L : Addr} {m : Str → Option Value} (F : Fr g L h m) (st : Stay ST h h') (h1 : g.get? 44 = none ∧ 44 ≠ L) (h2 : g.get? 51 = none ∧ 51 ≠ L) : Fr g L h' m := fr_back F st (hS2 h1 h2)

def gcdI (x y : Int) : Int := ((Nat.gcd x.toNat y.toNat : Nat) : Int)
theorem gcdI_zero {x : Int} (h : 0 ≤ x) : gcdI x 0 = x := by
  unfold gcdI
  show ((Nat.gcd x.toNat 0 : Nat) : Int) = x
  rw [Nat.gcd_zero_right]; omega
theorem gcdI_step {x y : Int} (hx : 0 ≤ x) (hy : 0 < y) : gcdI y (x % y) = gcdI x y := by
  unfold gcdI
  have e : (x % y).toNat = x.toNat % y.toNat := by
    obtain ⟨a, rfl⟩ := Int.eq_ofNat_of_zero_le hx
    obtain ⟨b, rfl⟩ := Int.eq_ofNat_of_zero_le (Int.le_of_lt hy)
    rfl
  rw [e, Nat.gcd_comm x.toNat y.toNat, Nat.gcd_rec y.toNat x.toNat, Nat.gcd_comm]

theorem words_D7 : True := by
  k_with_none
  k_with "unpackItems ref" => (k_here; k_dflt (refine' unpackItemsN_ (by k_asm) (by k_asm) (by first | assumption | kun_tup) (by assumption) (by exact rfl) ?_; k_whole); intro hkw Fkw Nkw; (try k_sweep))
  k_with "eval Name" => (k_here; k_dflt (refine' ld (by k_asm) (by assumption) ?_; k_whole))
  k_with "subscriptTail" => (k_here; k_dflt (refine' item_tupleT (by assumption) (by decide) (by decide) (by exact rfl) (by exact rfl) ?_ (by with_unfolding_all rfl); k_whole))
  k_with "!last exec While" => (k_here; k_dflt (refine whl_held ?_))
  k_with "!WhlRest" => (refine unheld ?_)
  trivial

section
variable {p : Program} {loose : List Str} {mean : ExcName → Option Value} {mg mb : Str → Option Value} {w : World} {A : Around} {s : Shared} {Q E : Value → Shared → Prop}
set_option maxHeartbeats 4000000 in
theorem shared_ok (X : Rdy p loose mean mg mb (hd.heap_39 w.params) A (hideAll s.heap ST)) (hroom : A.depth + 140 < recursionLimit) (hh : A.handled = none) {a b : Int} {t1 t2 : Tok}
    (C : Codes (hideAll s.heap ST)) (T : Tabs s.heap) (a0 : 0 ≤ a) (a1 : a ≤ 15) (b0 : 0 ≤ b) (b1 : b ≤ 15)
    (ret : ∀ h' tk' t, Stay ST s.heap h' → Tabs h' → Q (.int (gcdI a b) t) { s with heap := h', toks := tk' }) :
    wpAny (model PySem.Challenge.rw_zt0001_01.row.prog w) A (call (.ref 77) [.int a t1, .int b t2]) Q E s := by
  obtain ⟨q1, q2, h44, h51, K⟩ := tabs_start T
  revert X; k_fill; intro X
  refine wpAny_call ?_
  k_dflt (refine' code_hidF (binds := [(Str.ofString "one", .int a t1), (Str.ofString "other", .int b t2)]) ST ?k1 ?k6 ?k7 ?k8 ?k9 ?kB ?_ ?c2 ?c3 ?c4 ?c5; (case k1 => assumption); (case k6 => k_is); (case k7 => k_is); (case k8 => ktr_room); (case k9 => exact BindsTo.of_eq (by kernel_rfl)); (case c5 => decide); (case kB => exact locs rfl); (case c2 => exact rfl); (case c3 => exact rfl); (case c4 => exact rfl); k_whole)
  intro A₀ base outer L' h' B' SA' F' N0 X' T' eL'
  have N' := N0 _ (tabs_news h44 h51)
  clear N0
  have n44 := N' _ (List.Mem.head _)
  have n51 := N' _ (List.Mem.tail _ (List.Mem.head _))
  dsimp only at n44 n51
  have TB := K _ F'.keep n44.1 n51.1
  replace n44 := And.intro n44.2.2 n44.2.1
  replace n51 := And.intro n51.2.2 n51.2.1
  clear N'
  try dsimp only
  k_steps
  unfold Held
  refine whl_ind (fun n s' => ∃ (x y : Int) (t u : Tok) (m : Str → Option Value) (hh : Heap) (tk : Nat), s' = { s with heap := hh, toks := tk } ∧ y = n ∧ 0 ≤ x ∧ x ≤ 15 ∧ y ≤ 15 ∧ gcdI x y = gcdI a b ∧
    m (Str.ofString "one") = some (.int x t) ∧ m (Str.ofString "other") = some (.int y u) ∧ Fr (hideAll s.heap ST) L' hh m ∧ Tabs hh) ?_ b.toNat _ ⟨a, b, t1, t2, _, _, _, rfl, by omega, a0, a1, b1, rfl, rfl, rfl, F', TB⟩
  clear F' TB
  rintro n _ ⟨x, y, t, u, m, hh1, tk, rfl, hy, x0, x1, y1, hg, m1, m2, F', TB⟩ rec
  obtain ⟨q1', y1', o1', q2', y2', o2', N', K'⟩ := tabs_lay F' TB n44 n51
  refine whl_turn PassesOwn.never ?_
  k_steps
  by_cases hy0 : y = 0
  · refine WhlIf.no (by subst hy0; rfl) ?_
    k_steps
    try dsimp only
    rename News _ _ _ _ => N9
    rename Fr _ _ _ _ => F9
    have TT := K' _ F9.keep (N9 _ (List.Mem.head _)).1 (N9 _ (List.Mem.tail _ (List.Mem.head _))).1 (N9 _ (List.Mem.tail _ (List.Mem.tail _ (List.Mem.head _)))).1 (N9 _ (List.Mem.tail _ (List.Mem.tail _ (List.Mem.tail _ (List.Mem.head _))))).1
    have e : gcdI a b = x := by rw [← hg, hy0, gcdI_zero x0]
    rw [e] at ret
    exact ret _ _ _ (Stay.of F9.keep) TT
  · refine WhlIf.yes (by simpa using hy0) ?_
    k_steps
    rename News _ _ _ _ => N9
    rename Fr _ _ _ _ => F9
    have TT := K' _ F9.keep (N9 _ (List.Mem.head _)).1 (N9 _ (List.Mem.tail _ (List.Mem.head _))).1 (N9 _ (List.Mem.tail _ (List.Mem.tail _ (List.Mem.head _)))).1 (N9 _ (List.Mem.tail _ (List.Mem.tail _ (List.Mem.tail _ (List.Mem.head _))))).1
    refine divmod_ok (p := p) (loose := loose) (mean := mean) (mg := mg) (mb := mb) ?_ ?_ ?_ ?_ ?_ x0 x1 ?_ y1 ?_
    · exact rdy_hid (S := ST) B' F9 X' T' (hS2 n44 n51) SA' rfl rfl
    · ktr_room
    · exact hh
    · exact C.keeps (stays_hid F9 (hS2 n44 n51))
    · exact TT
    · omega
    intro h5 tk5 f st5 T5 it
    obtain ⟨t5, t6, it⟩ := it
    replace F9 := tabs_back F9 st5 n44 n51
    clear N9 K'
    obtain ⟨q1', y1', o1', q2', y2', o2', N', K'⟩ := tabs_lay F9 T5 n44 n51
    k_steps
    unfold Held
    rename News _ _ _ _ => N9
    rename Fr _ _ _ _ => F9
    have TT := K' _ F9.keep (N9 _ (List.Mem.tail _ (List.Mem.head _))).1 (N9 _ (List.Mem.tail _ (List.Mem.tail _ (List.Mem.head _)))).1 (N9 _ (List.Mem.tail _ (List.Mem.tail _ (List.Mem.tail _ (List.Mem.head _))))).1 (N9 _ (List.Mem.tail _ (List.Mem.tail _ (List.Mem.tail _ (List.Mem.tail _ (List.Mem.head _)))))).1
    have e0 := Int.emod_nonneg x hy0
    have e1 := Int.emod_lt_of_pos x (show 0 < y by omega)
    have e2 := gcdI_step x0 (show 0 < y by omega)
    exact rec (x % y).toNat _ (by omega) ⟨y, x % y, _, _, _, _, _, rfl, by omega, by omega, by omega, by omega, e2.trans hg, rfl, rfl, F9, TT⟩
end
end Mine

-- D8
open PySem PySem.W PyProof.Rows PySem.Calls
set_option Elab.async false
set_option linter.unusedVariables false
namespace Mine
set_option maxRecDepth 100000

theorem tab_notup {h : Heap} {a : Addr} {its : Array Value} (T : Tabs h) (i : IsTup h a its) : a ∉ ST := by
  obtain ⟨o, ho, hc, n, hd⟩ := i
  obtain ⟨p1, e1, _⟩ := T.t44.nostr
  obtain ⟨p2, e2, _⟩ := T.t51.nostr
  intro q
  cases q with
  | head => rw [e1] at ho; cases ho; cases hc
  | tail _ q => cases q with
    | head => rw [e2] at ho; cases ho; cases hc
    | tail _ q => cases q
theorem tab_nolist {h : Heap} {a : Addr} {its : Array Value} (T : Tabs h) (i : h.IsList a its) : a ∉ ST := by
  obtain ⟨o, ho, hc, n, hd⟩ := i
  obtain ⟨p1, e1, _⟩ := T.t44.nostr
  obtain ⟨p2, e2, _⟩ := T.t51.nostr
  intro q
  cases q with
  | head => rw [e1] at ho; cases ho; cases hc
  | tail _ q => cases q with
    | head => rw [e2] at ho; cases ho; cases hc
    | tail _ q => cases q
def absI (x : Int) : Int := if x < 0 then -x else x
def sideI (x1 y1 x2 y2 : Int) : Int := gcdI (absI (x2 - x1)) (absI (y2 - y1))

theorem words_D8 : True := by
  k_with_none
  k_with "subscriptTail" => (k_here; k_dflt (refine' item_tupleT (IsTup.keeps (by assumption) (Fr.keep (by k_asm))) (by decide) (by decide) (by exact rfl) (by exact rfl) ?_ (by with_unfolding_all rfl); k_whole))
  trivial

section
variable {p : Program} {loose : List Str} {mean : ExcName → Option Value} {mg mb : Str → Option Value} {w : World} {A : Around} {s : Shared} {Q E : Value → Shared → Prop}
set_option maxHeartbeats 4000000 in
theorem side_ok (X : Rdy p loose mean mg mb (hd.heap_39 w.params) A (hideAll s.heap ST)) (hroom : A.depth + 150 < recursionLimit) (hh : A.handled = none) {a b : Addr} {x1 y1 x2 y2 : Int} {t1 u1 t2 u2 : Tok}
    (C : Codes (hideAll s.heap ST)) (T : Tabs s.heap) (i1 : IsTup s.heap a [.int x1 t1, .int y1 u1].toArray) (i2 : IsTup s.heap b [.int x2 t2, .int y2 u2].toArray) (dx : -15 ≤ x2 - x1 ∧ x2 - x1 ≤ 15) (dy : -15 ≤ y2 - y1 ∧ y2 - y1 ≤ 15)
    (ret : ∀ h' tk' t, Stay ST s.heap h' → Tabs h' → Q (.int (sideI x1 y1 x2 y2) t) { s with heap := h', toks := tk' }) :
    wpAny (model PySem.Challenge.rw_zt0001_01.row.prog w) A (call (.ref 91) [.ref a, .ref b]) Q E s := by
  obtain ⟨q1, q2, h44, h51, K⟩ := tabs_start T
  replace i1 := hid_tup i1 (tab_notup T i1)
  replace i2 := hid_tup i2 (tab_notup T i2)
  revert X; k_fill; intro X
  refine wpAny_call ?_
  k_dflt (refine' code_hidF (binds := [(Str.ofString "one", .ref a), (Str.ofString "two", .ref b)]) ST ?k1 ?k6 ?k7 ?k8 ?k9 ?kB ?_ ?c2 ?c3 ?c4 ?c5; (case k1 => assumption); (case k6 => k_is); (case k7 => k_is); (case k8 => ktr_room); (case k9 => exact BindsTo.of_eq (by kernel_rfl)); (case c5 => decide); (case kB => exact locs rfl); (case c2 => exact rfl); (case c3 => exact rfl); (case c4 => exact rfl); k_whole)
  intro A₀ base outer L' h' B' SA' F' N0 X' T' eL'
  have N' := N0 _ (tabs_news h44 h51)
  clear N0
  try dsimp only
  k_steps
  rename News _ _ _ _ => N9
  rename Fr _ _ _ _ => F9
  have n44 := N9 _ (List.Mem.head _)
  have n51 := N9 _ (List.Mem.tail _ (List.Mem.head _))
  dsimp only at n44 n51
  have TT := K _ F9.keep n44.1 n51.1
  have hS := hS2 ⟨n44.2.2, n44.2.1⟩ ⟨n51.2.2, n51.2.1⟩
  refine shared_ok (p := p) (loose := loose) (mean := mean) (mg := mg) (mb := mb) ?_ ?_ ?_ ?_ ?_ ?_ ?_ ?_ ?_ ?_
  · exact rdy_hid (S := ST) B' F9 X' T' hS SA' rfl rfl
  · ktr_room
  · exact hh
  · exact C.keeps (stays_hid F9 hS)
  · exact TT
  · omega
  · omega
  · omega
  · omega
  intro h5 tk5 t5 st5 T5
  replace F9 := fr_back F9 st5 hS
  try dsimp only
  exact ret _ _ _ (Stay.of F9.keep) T5
end
end Mine

-- E1
open PySem PySem.W PyProof.Rows PySem.Calls
set_option Elab.async false
set_option linter.unusedVariables false
namespace Mine
set_option maxRecDepth 100000

def crossI (x1 y1 x2 y2 x3 y3 : Int) : Int := (x2 - x1) * (y3 - y1) - (x3 - x1) * (y2 - y1)
def inI (x1 y1 x2 y2 x3 y3 x y : Int) : Bool :=
  decide (0 < crossI x1 y1 x2 y2 x y ∧ 0 < crossI x2 y2 x3 y3 x y ∧ 0 < crossI x3 y3 x1 y1 x y) || decide (crossI x1 y1 x2 y2 x y < 0 ∧ crossI x2 y2 x3 y3 x y < 0 ∧ crossI x3 y3 x1 y1 x y < 0)

theorem words_E1 : True := by
  k_with_none
  k_with "call builtin:min" => (k_here; (with_reducible show wpAny _ _ (call (Value.builtin _) [Value.ref _]) _ _ _); (with_unfolding_all refine' kso_min (by k_asm) (by k_asm) (by kso_list) (by l_ints) (by kso_len) (by assumption) ?_; k_whole); intro hkw Mkw tkw kkw Fkw Nkw akw bkw; (try kso_open akw); (try kso_open bkw); (try k_sweep))
  k_with "call builtin:max" => (k_here; (with_reducible show wpAny _ _ (call (Value.builtin _) [Value.ref _]) _ _ _); (with_unfolding_all refine' kso_max (by k_asm) (by k_asm) (by kso_list) (by l_ints) (by kso_len) (by assumption) ?_; k_whole); intro hkw Mkw tkw kkw Fkw Nkw akw bkw; (try kso_open akw); (try kso_open bkw); (try k_sweep))
  k_with "call ref" => (k_here; k_dflt (refine' cross_ok (by exact rdy_hid (S := []) (by k_asm) (by k_asm) (by k_asm) (by k_asm) (fun _ q => nomatch q) (by assumption) rfl rfl) (by ktr_room) (by exact IsTup.keeps (by assumption) (Fr.keep (by k_asm))) (by exact IsTup.keeps (by assumption) (Fr.keep (by k_asm))) (by exact IsTup.keeps (by assumption) (Fr.keep (by k_asm))) (by assumption) (by assumption) (by assumption) (by assumption) (by assumption) (by assumption) ?_; k_whole); intro hkw tkkw tkw stkw; (rename Fr _ _ _ _ => kFkw); (rename News _ _ _ _ => kNkw); have Fkw := Fr.keeps kFkw stkw; have Nkw := News.grown kNkw stkw; clear kFkw kNkw)
  k_with "assign Tuple" => (k_here; (with_reducible show wpAny _ _ (assign (Expr.Tuple _ _ _) _ (Value.ref _)) _ _ _); k_dflt (refine' kun_list (by k_asm) (by k_asm) (by exact stays_list (Fr.keep (by k_asm)) (by assumption)) (by assumption) (by exact rfl) (by exact rfl) ?_; k_whole); intro hkw Fkw Nkw; (try k_sweep))
  trivial

section
variable {p : Program} {loose : List Str} {mean : ExcName → Option Value} {mg mb : Str → Option Value} {w : World} {A : Around} {s : Shared} {Q E : Value → Shared → Prop}
set_option maxHeartbeats 4000000 in
theorem within_ok (X : Rdy p loose mean mg mb (hd.heap_39 w.params) A s.heap) (hroom : A.depth + 2 < recursionLimit) (hh : A.handled = none) {l a b c d : Addr} {x1 y1 x2 y2 x3 y3 x y : Int} {t1 u1 t2 u2 t3 u3 t u : Tok}
    (hl : s.heap.IsList l [.ref a, .ref b, .ref c].toArray)
    (i1 : IsTup s.heap a [.int x1 t1, .int y1 u1].toArray) (i2 : IsTup s.heap b [.int x2 t2, .int y2 u2].toArray) (i3 : IsTup s.heap c [.int x3 t3, .int y3 u3].toArray) (i4 : IsTup s.heap d [.int x t, .int y u].toArray)
    (a1 : Sm x1) (a2 : Sm y1) (a3 : Sm x2) (a4 : Sm y2) (a5 : Sm x3) (a6 : Sm y3) (a7 : Sm x) (a8 : Sm y)
    (ret : ∀ h' tk', s.heap.StaysIn h' → Q (.bool (inI x1 y1 x2 y2 x3 y3 x y)) { s with heap := h', toks := tk' }) :
    wpAny (model PySem.Challenge.rw_zt0001_01.row.prog w) A (call (.ref 98) [.ref l, .ref d]) Q E s := by
  revert X; k_fill; intro X
  refine wpAny_call ?_
  k_dflt (refine' code_hidF (binds := [(Str.ofString "corners", .ref l), (Str.ofString "spot", .ref d)]) [] ?k1 ?k6 ?k7 ?k8 ?k9 ?kB ?_ ?c2 ?c3 ?c4 ?c5; (case k1 => exact X); (case k6 => k_is); (case k7 => k_is); (case k8 => ktr_room); (case k9 => exact BindsTo.of_eq (by kernel_rfl)); (case c5 => decide); (case kB => exact locs rfl); (case c2 => exact rfl); (case c3 => exact rfl); (case c4 => exact rfl); k_whole)
  intro A₀ base outer L' h' B' SA' F' N0 X' T' eL'
  have N' := N0 [] (fun _ q => nomatch q)
  clear N0
  change Below A₀ base outer s.heap at B'
  change Fr s.heap L' h' _ at F'
  change News s.heap L' h' [] at N'
  change (hd.heap_39 w.params).In s.heap at X'
  change Top p loose mean mg mb s.heap at T'
  try dsimp only
  k_steps
  · have e : inI x1 y1 x2 y2 x3 y3 x y = decide (0 < Mkw) := by
      rw [decide_eq_true (by assumption)]; unfold inI crossI; rw [decide_eq_true (by omega)]; rfl
    rw [e] at ret
    exact ret _ _ (Fr.keep (by k_asm))
  · have e : inI x1 y1 x2 y2 x3 y3 x y = decide (Mkw < 0) := by
      unfold inI crossI; rw [decide_eq_false (by omega), Bool.false_or]; exact decide_eq_decide.mpr (by omega)
    rw [e] at ret
    exact ret _ _ (Fr.keep (by k_asm))
end
end Mine

-- G1
theorem Mine.off_G1 : True := by
  k_with_none
  trivial
open PySem PySem.W PyProof.Rows PySem.Calls
set_option Elab.async false
set_option linter.unusedVariables false
namespace Mine
set_option maxRecDepth 100000

abbrev lst (ys : List Value) : Obj := listOf ys.toArray ys.length
abbrev NoErr : Value → Shared → Prop := fun _ _ => False

/-- what one turn of a comprehension leaves -/
def EltEnd (s₂ : Shared) (h : Heap) (C : Addr) (J : List Value → Heap → Prop) (ys : List Value) (s' : Shared) : Prop :=
  ∃ h' tk, s' = { s₂ with heap := h', toks := tk } ∧ Stay [C] h h' ∧ (∃ m, h'.Ns C m) ∧ J ys h'

/-- between two turns of a comprehension -/
inductive WInv (s₂ : Shared) (n : Nat) (St : Nat → Heap → Prop) (I : Addr) (J : Nat → List Value → Heap → Prop) (k : Nat) (s' : Shared) : Prop
  | mk (h : Heap) (tk : Tok) (i : Nat) (ys : List Value) (m : Str → Option Value) (es : s' = { s₂ with heap := h, toks := tk }) (hi : i ≤ n) (ek : k = n + 1 - i) (hst : St i h)
    (hk : ∀ b o, s₂.heap.get? b = some o → b ≠ I → h.get? b = some o) (hn : h.Ns (s₂.heap.objs.size + 1) m) (hD : h.get? s₂.heap.objs.size = some (lst ys)) (hJ : J i ys h) (hyl : ys.length ≤ i)

theorem comp_walks {prog : Program} {w : World} {A : Around} {E : Value → Shared → Prop} {elt target iter : PySem.Expr} {ifs : List PySem.Expr} {scope : Scope} {pos : Pos} {cl : List (Str × Addr)} {env : Env} {use : Option (Value → Sem Unit)} {Q : Value → Shared → Prop}
    {s₂ : Shared} {I : Addr} {fp : List Addr} {n : Nat} {P : Nat → Value → Prop} {St : Nat → Heap → Prop} (W : Walks prog w A I fp [I] n P St) (hfp : ∀ b ∈ fp, b < s₂.heap.objs.size) (hst : St 0 s₂.heap) (hI : I < s₂.heap.objs.size)
    (hsz : n ≤ sizeLine) (hcell : ∀ y ∈ scope.names, y.2 ≠ .cell) (hkind : scope.kind = .function)
    (hlet : ∀ i v (s' : Shared) (Q' : Unit → Shared → Prop), P i v → St (i + 1) s'.heap → Q' () s' → wpAny (model prog w) A (letOwnedTupleGo target (.ref I) v) Q' NoErr s')
    (J : Nat → List Value → Heap → Prop) (hJ0 : J 0 [] s₂.heap)
    (stab : ∀ i ys h h', J i ys h → (∀ b o, h.get? b = some o → b ≠ I → b ≠ s₂.heap.objs.size → b ≠ s₂.heap.objs.size + 1 → h'.get? b = some o) → J i ys h')
    (turn : ∀ i v ys h m tk, i < n → P i v → (∀ b o, s₂.heap.get? b = some o → b ≠ I → h.get? b = some o) → h.Ns (s₂.heap.objs.size + 1) m → J i ys h → ys.length ≤ i →
      wpAny (model prog w) A (assign target (compEnvC scope cl (s₂.heap.objs.size + 1) env) v) (fun _ s₃ =>
        wpAny (model prog w) A (forIn ifs true fun c r => if r = true then do let ok ← isTrue c (compEnvC scope cl (s₂.heap.objs.size + 1) env) (eval c (compEnvC scope cl (s₂.heap.objs.size + 1) env)); pure (ForInStep.yield ok) else pure (ForInStep.yield r)) (fun ok s₄ =>
          if ok = true then wpAny (model prog w) A (eval elt (compEnvC scope cl (s₂.heap.objs.size + 1) env)) (fun y s₅ => EltEnd s₂ h (s₂.heap.objs.size + 1) (J (i + 1)) (ys ++ [y]) s₅) NoErr s₄
          else EltEnd s₂ h (s₂.heap.objs.size + 1) (J (i + 1)) ys s₄) NoErr s₃) NoErr { s₂ with heap := h, toks := tk })
    (done : ∀ ys h tk m, (∀ b o, s₂.heap.get? b = some o → b ≠ I → h.get? b = some o) → h.get? s₂.heap.objs.size = some (lst ys) → h.Ns (s₂.heap.objs.size + 1) m → J n ys h →
      compPost (model prog w) A E use Q (.ref s₂.heap.objs.size) (s₂.heap.objs.size + 1) (.ok .next) { s₂ with heap := h, toks := tk }) :
    wpAny (model prog w) A (newList []) (fun acc s₃ => wpAny (model prog w) A (newFunctionEnv scope env.globals cl [] env.qual none .none (some env)) (fun cenv s₄ =>
      codeAny (model prog w) A (.compStart (.ListComp elt [⟨target, iter, ifs, 0⟩] scope pos) 0 (.ref I) acc { cenv with scope := relabel scope env }) (compPost (model prog w) A E use Q acc cenv.locals) s₄) E s₃) E s₂ := by
  refine wpAny_newObj_type (wpAny_newFunctionEnv hcell (by intro y hy; simp at hy) (fun h₁ hns₁ hsb₁ => ?_) hkind)
  dsimp only at hns₁ hsb₁ ⊢
  have hH2 : (s₂.heap.push { cls := .type "list", dict := none, data := .seq ([] : List Value).toArray }).objs.size = s₂.heap.objs.size + 1 := Heap.size_push ..
  rw [hH2] at hns₁ hsb₁ ⊢
  have old : ∀ b o, s₂.heap.get? b = some o → h₁.get? b = some o := fun b o e => hsb₁.extBut b o (Nat.ne_of_lt (Nat.lt_succ_of_lt (Heap.lt_size e))) (Heap.get?_push_of_some _ (Heap.get?_push_of_some _ e))
  have hacc : h₁.get? s₂.heap.objs.size = some (lst []) := hsb₁.extBut _ _ (Nat.ne_of_lt (Nat.lt_succ_self _)) (Heap.get?_push_of_some _ (Heap.get?_push_size _ rfl))
  have hDI : s₂.heap.objs.size ≠ I := Nat.ne_of_gt hI
  have hCI : s₂.heap.objs.size + 1 ≠ I := Nat.ne_of_gt (Nat.lt_succ_of_lt hI)
  have hCD : s₂.heap.objs.size + 1 ≠ s₂.heap.objs.size := Nat.succ_ne_self _
  have loop : ∀ s₃ : Shared, s₃ = { s₂ with heap := h₁, toks := s₂.toks + ([] : List (Str × Value)).length } →
      codeAny (model prog w) A (.compLoop (.ListComp elt [⟨target, iter, ifs, 0⟩] scope pos) 0 (.ref I) (.ref s₂.heap.objs.size) (compEnvC scope cl (s₂.heap.objs.size + 1) env))
        (compPost (model prog w) A E use Q (.ref s₂.heap.objs.size) (s₂.heap.objs.size + 1)) s₃ := by
    rintro s₃ rfl
    refine codeAny_loop rfl (WInv s₂ n St I J) (fun k s' hI' => ?_) (n + 1) ⟨h₁, _, 0, [], _, rfl, Nat.zero_le _, rfl, W.frame _ _ _ hst fun b _ o e => old b o e, fun b o e _ => old b o e, hns₁, hacc, stab _ _ _ _ hJ0 fun b o e _ _ _ => old b o e, Nat.le_refl _⟩
    obtain ⟨h, tk, i, ys, m, es, hi, ek, hst', hk, hn, hD, hJ, hyl⟩ := hI'
    subst es ek
    show wpAny _ A ((compTurn (.ListComp elt [⟨target, iter, ifs, 0⟩] scope pos) 0 (.ref I) (.ref s₂.heap.objs.size) (compEnvC scope cl (s₂.heap.objs.size + 1) env)).onRaise (fun x => do noteFrame x (compEnvC scope cl (s₂.heap.objs.size + 1) env); theTreesLotGoes x)) _ _ _
    refine wpAny_noted ?_
    rw [compTurn_list]
    refine wpAny_bind (wpAny_standAt (wpAny_bind ?_))
    by_cases hlt : i < n
    · refine W.item i _ _ _ hlt hst' fun v h₂ tk₂ hPv hst₂ hk₂ => ?_
      have hk₂' : ∀ b o, b ≠ I → h.get? b = some o → h₂.get? b = some o := fun b o hb e => hk₂ b o (by simpa using hb) e
      have hn₂ : h₂.Ns (s₂.heap.objs.size + 1) m := hn.at' fun o e => hk₂' _ o hCI e
      have hJ₂ := stab _ _ _ h₂ hJ fun b o e hb _ _ => hk₂' b o hb e
      refine wpAny_bind (wpAny_mono (hlet i v _ (fun _ s' => s' = { s₂ with heap := h₂, toks := tk₂ }) hPv hst₂ rfl) ?_ (fun _ _ x => x.elim))
      rintro _ _ rfl
      refine wpAny_bind (wpAny_mono (turn i v ys h₂ m tk₂ hlt hPv (fun b o e hb => hk₂' b o hb (hk b o e hb)) hn₂ hJ₂ hyl) (fun _ s₃ h₃ => ?_) (fun _ _ x => x.elim))
      refine wpAny_bind (wpAny_mono h₃ (fun ok s₄ h₄ => ?_) (fun _ _ x => x.elim))
      cases ok with
      | false =>
        simp only [Bool.false_eq_true, if_false] at h₄
        obtain ⟨h', tk', rfl, hs', ⟨m', hn'⟩, hJ'⟩ := h₄
        have up : ∀ b o, b ≠ s₂.heap.objs.size + 1 → h₂.get? b = some o → h'.get? b = some o := fun b o hb e => hs' b o e (by simpa using hb)
        refine wpAny_pure ⟨rfl, _, Nat.sub_lt_sub_left (Nat.lt_succ_of_lt hlt) (Nat.lt_succ_self i), ⟨h', tk', i + 1, ys, m', rfl, hlt, rfl, W.frame _ _ _ hst₂ fun b hb o e => up b o (Nat.ne_of_lt (Nat.lt_succ_of_lt (hfp b hb))) e, fun b o e hb => up b o (Nat.ne_of_lt (Nat.lt_succ_of_lt (Heap.lt_size e))) (hk₂' b o hb (hk b o e hb)), hn',
          up _ _ (Ne.symm hCD) (hk₂' _ _ hDI hD), hJ', Nat.le_succ_of_le hyl⟩⟩
      | true =>
        simp only [if_true] at h₄ ⊢
        refine wpAny_bind (wpAny_bind (wpAny_mono h₄ (fun y s₅ h₅ => ?_) (fun _ _ x => x.elim)))
        obtain ⟨h', tk', rfl, hs', ⟨m', hn'⟩, hJ'⟩ := h₅
        have up : ∀ b o, b ≠ s₂.heap.objs.size + 1 → h₂.get? b = some o → h'.get? b = some o := fun b o hb e => hs' b o e (by simpa using hb)
        have hD' : h'.get? s₂.heap.objs.size = some (lst ys) := up _ _ (Ne.symm hCD) (hk₂' _ _ hDI hD)
        refine wpAny_bind (append_at (hsz := by show ys.toArray.size ≤ sizeLine; rw [List.size_toArray]; exact Nat.le_trans hyl (Nat.le_trans hi hsz)) hD' fun h₆ hs₆ hD₆ => ?_)
        have up₆ : ∀ b o, b ≠ s₂.heap.objs.size → h'.get? b = some o → h₆.get? b = some o := fun b o hb e => hs₆.extBut b o hb e
        have eD : h₆.get? s₂.heap.objs.size = some (lst (ys ++ [y])) := by
          rw [hD₆]; simp [lst]
        refine wpAny_pure (wpAny_pure ⟨rfl, n + 1 - (i + 1), Nat.sub_lt_sub_left (Nat.lt_succ_of_lt hlt) (Nat.lt_succ_self i), ⟨h₆, tk', i + 1, ys ++ [y], m', rfl, hlt, rfl, W.frame _ _ _ hst₂ fun b hb o e => up₆ b o (Nat.ne_of_lt (hfp b hb)) (up b o (Nat.ne_of_lt (Nat.lt_succ_of_lt (hfp b hb))) e),
          fun b o e hb => up₆ b o (Nat.ne_of_lt (Heap.lt_size e)) (up b o (Nat.ne_of_lt (Nat.lt_succ_of_lt (Heap.lt_size e))) (hk₂' b o hb (hk b o e hb))), hn'.at' fun o e => up₆ _ o hCD e, eD, stab _ _ _ _ hJ' fun b o e _ hb _ => up₆ b o hb e, by rw [List.length_append]; exact Nat.succ_le_succ hyl⟩⟩)
    · have hin : i = n := Nat.le_antisymm hi (Nat.not_lt.mp hlt)
      subst hin
      refine W.done _ _ _ hst' fun h' tk' hk' => ?_
      have up : ∀ b o, b ≠ I → h.get? b = some o → h'.get? b = some o := fun b o hb e => hk' b o (by simpa using hb) e
      refine wpAny_pure ?_
      exact done ys h' tk' m (fun b o e hb => up b o hb (hk b o e hb)) (up _ _ hDI hD) (hn.at' fun o e => up _ o hCI e) (stab _ _ _ _ hJ fun b o e h1 h2 h3 => up b o h1 e)
  exact codeAny_compStart_list (loop _ rfl) (W.self 0 _ _ _ (W.frame _ _ _ hst fun b _ o e => old b o e) (loop _ rfl))
end Mine

-- G2
open PySem PySem.W PyProof.Rows PySem.Calls
set_option Elab.async false
set_option linter.unusedVariables false
namespace Mine
set_option maxRecDepth 100000

def CompAt (prog : Program) (w : World) (A : Around) (E : Value → Shared → Prop) (use : Option (Value → Sem Unit)) (e : PySem.Expr) (scope : Scope) (cl : List (Str × Addr)) (env : Env) (Q : Value → Shared → Prop) (it : Value) (s₂ : Shared) : Prop :=
  wpAny (model prog w) A (newList []) (fun acc s₃ => wpAny (model prog w) A (newFunctionEnv scope env.globals cl [] env.qual none .none (some env)) (fun cenv s₄ =>
      codeAny (model prog w) A (.compStart e 0 it acc { cenv with scope := relabel scope env }) (compPost (model prog w) A E use Q acc cenv.locals) s₄) E s₃) E s₂

section
variable {prog : Program} {w : World} {A : Around} {E : Value → Shared → Prop} {elt target iter : PySem.Expr} {ifs : List PySem.Expr} {rest : List Comprehension} {scope : Scope} {pos : Pos} {cl : List (Str × Addr)} {env : Env} {use : Option (Value → Sem Unit)} {Q : Value → Shared → Prop} {s : Shared}

theorem comp_eval (hclos : closureFor scope env = pure cl) (hkind : scope.kind = .function) (hnames : ∀ x ∈ scope.names, x.2 = .local → scope.names.lookup x.1 = some .local) (hs : ∀ x, foldedSetIterable iter env x = pure x)
    (h : wpAny (model prog w) A (eval iter env) (fun x s₁ => wpAny (model prog w) A (pyIter x) (fun it s₂ => CompAt prog w A E none (.ListComp elt (⟨target, iter, ifs, 0⟩ :: rest) scope pos) scope cl env Q it s₂) E s₁) E s) :
    wpAny (model prog w) A (eval (.ListComp elt (⟨target, iter, ifs, 0⟩ :: rest) scope pos) env) Q E s := by
  rw [eval_ListComp]
  exact wpAny_comprehension_free (use := none) rfl hs hclos hkind hnames h
theorem comp_assign {y : Str} {py spos : Pos} {Q : Flow → Shared → Prop} (hsw : swapsWith (.ListComp elt (⟨target, iter, ifs, 0⟩ :: rest) scope pos) (some (.Name y py)) spos.line env = pure true)
    (hclos : closureFor scope env = pure cl) (hkind : scope.kind = .function) (hnames : ∀ x ∈ scope.names, x.2 = .local → scope.names.lookup x.1 = some .local) (hs : ∀ x, foldedSetIterable iter env x = pure x)
    (h : wpAny (model prog w) A (eval iter env) (fun x s₁ => wpAny (model prog w) A (pyIter x) (fun it s₂ => CompAt prog w A E (some (assign (.Name y py) env)) (.ListComp elt (⟨target, iter, ifs, 0⟩ :: rest) scope pos) scope cl env (fun _ s' => Q .next s') it s₂) E s₁) E s) :
    wpAny (model prog w) A (exec (.Assign [.Name y py] (.ListComp elt (⟨target, iter, ifs, 0⟩ :: rest) scope pos) spos) env) Q E s := by
  rw [exec_Assign_Name_used _ _ _ _ hsw]
  refine wpAny_bind (wpAny_standAt (wpAny_bind ?_))
  show wpAny _ A (do let _ ← comprehension (.ListComp elt (⟨target, iter, ifs, 0⟩ :: rest) scope pos) scope env _ (newList []) false (eval iter env) (some (assign (.Name y py) env))) _ _ s
  exact wpAny_bind (wpAny_mono (wpAny_comprehension_free (use := some (assign (.Name y py) env)) (Q := fun _ s' => Q .next s') rfl hs hclos hkind hnames h) (fun _ s' hq => wpAny_pure (wpAny_pure hq)) fun _ _ e => e)

/-- one turn's tree -/
def TurnAt (prog : Program) (w : World) (A : Around) (elt target : PySem.Expr) (ifs : List PySem.Expr) (cenv : Env) (s₂ : Shared) (h : Heap) (C : Addr) (J : List Value → Heap → Prop) (ys : List Value) (v : Value) (tk : Nat) : Prop :=
  wpAny (model prog w) A (assign target cenv v) (fun _ s₃ =>
    wpAny (model prog w) A (forIn ifs true fun c r => if r = true then do let ok ← isTrue c cenv (eval c cenv); pure (ForInStep.yield ok) else pure (ForInStep.yield r)) (fun ok s₄ =>
      if ok = true then wpAny (model prog w) A (eval elt cenv) (fun y s₅ => EltEnd s₂ h C J (ys ++ [y]) s₅) NoErr s₄
      else EltEnd s₂ h C J ys s₄) NoErr s₃) NoErr { s₂ with heap := h, toks := tk }

theorem turn_noif {cenv : Env} {s₂ : Shared} {h : Heap} {C : Addr} {J : List Value → Heap → Prop} {ys : List Value} {v : Value} {tk : Nat}
    (t : wpAny (model prog w) A (assign target cenv v) (fun _ s₃ => wpAny (model prog w) A (eval elt cenv) (fun y s₅ => EltEnd s₂ h C J (ys ++ [y]) s₅) NoErr s₃) NoErr { s₂ with heap := h, toks := tk }) :
    TurnAt prog w A elt target [] cenv s₂ h C J ys v tk :=
  wpAny_mono t (fun _ s₃ h₃ => wpAny_tests_nil (by simp only [if_true]; exact h₃)) fun _ _ x => x
theorem turn_if {c : PySem.Expr} {cenv : Env} {s₂ : Shared} {h : Heap} {C : Addr} {J : List Value → Heap → Prop} {ys : List Value} {v : Value} {tk : Nat}
    (t : wpAny (model prog w) A (assign target cenv v) (fun _ s₃ => wpAny (model prog w) A (isTrue c cenv (eval c cenv)) (fun ok s₄ => if ok = true then wpAny (model prog w) A (eval elt cenv) (fun y s₅ => EltEnd s₂ h C J (ys ++ [y]) s₅) NoErr s₄ else EltEnd s₂ h C J ys s₄) NoErr s₃) NoErr { s₂ with heap := h, toks := tk }) :
    TurnAt prog w A elt target [c] cenv s₂ h C J ys v tk :=
  wpAny_mono t (fun _ s₃ h₃ => wpAny_tests_one h₃) fun _ _ x => x

variable {g : Heap} {L : Addr} {m : Str → Option Value} {news : List (Addr × Obj)}

/-- what stands when a comprehension's rounds are over -/
def CompDone (prog : Program) (w : World) (A : Around) (E : Value → Shared → Prop) (use : Option (Value → Sem Unit)) (Q : Value → Shared → Prop) (g : Heap) (L : Addr) (m : Str → Option Value) (news : List (Addr × Obj)) (s : Shared) (K : List Value → Heap → Prop) : Prop :=
  ∀ ys h tk mc, s.heap.StaysIn h → Fr g L h m → News g L h ((s.heap.objs.size + 1, lst ys) :: news) → h.Ns (s.heap.objs.size + 2) mc → K ys h →
    compPost (model prog w) A E use Q (.ref (s.heap.objs.size + 1)) (s.heap.objs.size + 2) (.ok .next) { s with heap := h, toks := tk }

theorem comp_frame {h h' : Heap} {n : Nat} {ys : List Value} (F : Fr g L h m) (N : News g L h ((n + 1, lst ys) :: news)) (hlt : ∀ p ∈ news, @LT.lt Nat _ p.1 n) (hL : @LT.lt Nat _ L n) (hs : Heap.SameBut (n + 2) h h') (hC : g.get? (n + 2) = none) :
    Fr g L h' m ∧ News g L h' ((n + 1, lst ys) :: news) := by
  have up : ∀ b o, b ≠ n + 2 → h.get? b = some o → h'.get? b = some o := fun b o hb e => (hs.2 b hb).trans e
  refine ⟨fr_back (S := [n + 2]) F (fun b o e hb => up b o (by simpa using hb) e) (fun a ha => ?_), fun p hp => ?_⟩
  · rw [List.mem_singleton.mp ha]
    exact ⟨hC, Nat.ne_of_gt (Nat.lt_succ_of_lt (Nat.lt_succ_of_lt hL))⟩
  · refine ⟨up _ _ ?_ (N p hp).1, (N p hp).2⟩
    rcases List.mem_cons.mp hp with rfl | hp
    · exact Nat.ne_of_lt (Nat.lt_succ_self _)
    · exact Nat.ne_of_lt (Nat.lt_succ_of_lt (Nat.lt_succ_of_lt (hlt p hp)))
theorem base_none (F : Fr g L s.heap m) (k : Nat) : g.get? (s.heap.objs.size + k) = none := Heap.get?_none_of_le (Nat.le_trans F.above (Nat.le_trans (Nat.le_of_lt F.ns.lt) (Nat.le_add_right _ _)))

theorem CompDone.none {K : List Value → Heap → Prop} (F₀ : Fr g L s.heap m) (N₀ : News g L s.heap news) (stab : ∀ ys h h', K ys h → Heap.SameBut (s.heap.objs.size + 2) h h' → K ys h')
    (done : ∀ D ys h tk, Fr g L h m → News g L h ((D, lst ys) :: news) → (∀ p ∈ news, p.1 < D) → K ys h → Q (.ref D) { s with heap := h, toks := tk }) : CompDone prog w A E none Q g L m news s K := by
  intro ys h tk mc st F N hn hK
  refine ⟨mc, hn, fun h' hs => ?_⟩
  obtain ⟨F', N'⟩ := comp_frame F N (fun p hp => Heap.lt_size (N₀ p hp).1) F₀.ns.lt hs (base_none F₀ 2)
  exact done _ ys h' tk F' N' (fun p hp => Nat.lt_succ_of_lt (Heap.lt_size (N₀ p hp).1)) (stab _ _ _ hK hs)

theorem CompDone.local {K : List Value → Heap → Prop} {y : Str} {py : Pos} (F₀ : Fr g L s.heap m) (N₀ : News g L s.heap news) (hL : env.locals = L) (hy : env.kindOf y = some .local) (hp : (env.scope.kind == .class || (env.scope.kind == .module && env.locals != env.globals)) = false)
    (stab : ∀ ys h h', K ys h → (∀ b o, h.get? b = some o → b ≠ L → b ≠ s.heap.objs.size + 2 → h'.get? b = some o) → K ys h')
    (done : ∀ D ys h tk, Fr g L h (fun z => if z = y then some (.ref D) else m z) → News g L h ((D, lst ys) :: news) → (∀ p ∈ news, p.1 < D) → K ys h → Q .none { s with heap := h, toks := tk }) :
    CompDone prog w A E (some (assign (.Name y py) env)) Q g L m news s K := by
  subst hL
  intro ys h tk mc st F N hn hK
  have hLt : @LT.lt Nat _ env.locals s.heap.objs.size := F₀.ns.lt
  have hLC : env.locals ≠ s.heap.objs.size + 2 := Nat.ne_of_lt (Nat.lt_succ_of_lt (Nat.lt_succ_of_lt hLt))
  show wpAny _ A (assign (.Name y py) env (.ref _)) _ _ _
  refine wpAny_assign_Name (wpAny_storeName_local hy F.ns (fun h₂ hn₂ hs₂ => ?_) hp)
  have F₂ : Fr g env.locals h₂ _ := F.set hn₂ hs₂
  have N₂ : News g env.locals h₂ _ := N.set hs₂
  refine ⟨mc, hn.at' fun o e => (hs₂.2 _ (Ne.symm hLC)).trans e, fun h' hs => ?_⟩
  obtain ⟨F', N'⟩ := comp_frame F₂ N₂ (fun p hp => Heap.lt_size (N₀ p hp).1) hLt hs (base_none F₀ 2)
  exact done _ ys h' _ F' N' (fun p hp => Nat.lt_succ_of_lt (Heap.lt_size (N₀ p hp).1)) (stab _ _ _ hK fun b o e h1 h2 => (hs.2 b h2).trans ((hs₂.2 b h1).trans e))

theorem CompDone.cell {K : List Value → Heap → Prop} {y : Str} {py : Pos} {c : Addr} {oc : Obj} {v₀ : Option Value} {gn : Obj → List (Addr × Obj)} (F₀ : Fr g L s.heap m) (N₀ : News g L s.heap news) (U : UpdF c oc news gn) (hd : oc.data = .cell v₀) (hk : env.scope.kind = .function) (hy : env.kindOf y = some .cell) (hc : env.cells.lookup y = some c)
    (stab : ∀ ys h h', K ys h → (∀ b o, h.get? b = some o → b ≠ c → b ≠ s.heap.objs.size + 2 → h'.get? b = some o) → K ys h')
    (done : ∀ D ys h tk o', Fr g L h m → News g L h ((D, lst ys) :: gn o') → o'.data = .cell (some (.ref D)) → (∀ p ∈ news, p.1 < D) → K ys h → Q .none { s with heap := h, toks := tk }) :
    CompDone prog w A E (some (assign (.Name y py) env)) Q g L m news s K := by
  intro ys h tk mc st F N hn hK
  obtain ⟨own, rst, rfl, hg, h1, h2⟩ := U.split
  have hlt : ∀ p ∈ own ++ (c, oc) :: rst, @LT.lt Nat _ p.1 s.heap.objs.size := fun p hp => Heap.lt_size (N₀ p hp).1
  have hclt := hlt (c, oc) (List.mem_append_right _ (.head _))
  dsimp only at hclt
  have hcm := N (c, oc) (List.mem_cons_of_mem _ (List.mem_append_right _ (.head _)))
  show wpAny _ A (assign (.Name y py) env (.ref _)) _ _ _
  refine wpAny_assign_Name (wpAny_storeName_cell hk hy hc ⟨oc, hcm.1, hd⟩ fun h₂ hv hs₂ => ?_)
  obtain ⟨o', ho', hd'⟩ := hv
  have N₂ : News g L h₂ ((s.heap.objs.size + 1, lst ys) :: (own ++ (c, o') :: rst)) := by
    have := News.setAt (own := (s.heap.objs.size + 1, lst ys) :: own) N (fun p hp => ?_) h2 hs₂ ho'
    · exact this
    · rcases List.mem_cons.mp hp with rfl | hp
      · exact Nat.ne_of_gt (Nat.lt_succ_of_lt hclt)
      · exact h1 p hp
  have F₂ : Fr g L h₂ m := ⟨F.ns.sameBut hs₂ (Ne.symm hcm.2.1), fun b ob e => (hs₂.2 b (fun q => by rw [q, hcm.2.2] at e; cases e)).trans (F.keep b ob e), F.above⟩
  refine ⟨mc, hn.at' fun o e => (hs₂.2 _ (Nat.ne_of_gt (Nat.lt_succ_of_lt (Nat.lt_succ_of_lt hclt)))).trans e, fun h' hs => ?_⟩
  obtain ⟨F', N'⟩ := comp_frame F₂ N₂ (fun p hp => by
    rcases List.mem_append.mp hp with hp | hp
    · exact hlt p (List.mem_append_left _ hp)
    · rcases List.mem_cons.mp hp with rfl | hp
      · exact hclt
      · exact hlt p (List.mem_append_right _ (.tail _ hp))) F₀.ns.lt hs (base_none F₀ 2)
  refine done _ ys h' _ o' F' (by rw [hg]; exact N') hd' (fun p hp => Nat.lt_succ_of_lt (hlt p hp)) (stab _ _ _ hK fun b o e h1 h2 => (hs.2 b h2).trans ((hs₂.2 b h1).trans e))

theorem comp_list {l : Addr} {vs : List Value} (F : Fr g L s.heap m) (N : News g L s.heap news) (hl : s.heap.IsList l vs.toArray) (hh : A.handled = none) (hsz : vs.length ≤ sizeLine)
    (hcell : ∀ y ∈ scope.names, y.2 ≠ .cell) (hkind : scope.kind = .function) (hlet : ∀ v ∈ vs, (∃ e k p t, target = .Tuple e k p ∧ v = .ref t) ∨ (∃ y p, target = .Name y p))
    (J : Nat → List Value → Heap → Prop) (hJ0 : ∀ h, s.heap.StaysIn h → J 0 [] h)
    (stab : ∀ i ys h h', J i ys h → (∀ b o, h.get? b = some o → b ≠ s.heap.objs.size → b ≠ s.heap.objs.size + 1 → b ≠ s.heap.objs.size + 2 → h'.get? b = some o) → J i ys h')
    (turn : ∀ i v ys h mc tk, vs[i]? = some v → s.heap.StaysIn h → Fr g L h m → News g L h news → h.Ns (s.heap.objs.size + 2) mc → J i ys h →
      TurnAt prog w A elt target ifs (compEnvC scope cl (s.heap.objs.size + 2) env) s h (s.heap.objs.size + 2) (J (i + 1)) ys v tk)
    (done : CompDone prog w A E use Q g L m news s (J vs.length)) :
    wpAny (model prog w) A (pyIter (.ref l)) (fun it s₂ => CompAt prog w A E use (.ListComp elt [⟨target, iter, ifs, 0⟩] scope pos) scope cl env Q it s₂) E s := by
  refine wpAny_pyIter_list hl ?_
  have hlt : l < s.heap.objs.size := let ⟨_, ho, _⟩ := hl; Heap.lt_size ho
  have hs1 : (s.heap.push { cls := .type "list_iterator", data := .fields #[.ref l, .int 0 0] }).objs.size = s.heap.objs.size + 1 := Heap.size_push ..
  have stp : s.heap.StaysIn (s.heap.push { cls := .type "list_iterator", data := .fields #[.ref l, .int 0 0] }) := fun b o e => Heap.get?_push_of_some _ e
  have W := Walks.list (prog := prog) (w := w) hh s.heap.objs.size l (Nat.ne_of_lt hlt) vs.toArray
  have hlen : vs.toArray.size = vs.length := by simp
  rw [hlen] at W
  have sub : ∀ {h : Heap}, (∀ b o, (s.heap.push { cls := .type "list_iterator", data := .fields #[.ref l, .int 0 0] }).get? b = some o → b ≠ s.heap.objs.size → h.get? b = some o) → s.heap.StaysIn h :=
    fun k b o e => k b o (stp b o e) (Nat.ne_of_lt (Heap.lt_size e))
  unfold CompAt
  refine comp_walks (s₂ := { s with heap := s.heap.push { cls := .type "list_iterator", data := .fields #[.ref l, .int 0 0] } }) W (fun b hb => ?_) ⟨⟨_, Heap.get?_push_size _ rfl, rfl, rfl⟩, hl.at fun o e => stp _ _ e⟩ (by show _ < (Heap.push _ _).objs.size; rw [hs1]; exact Nat.lt_succ_self _) hsz hcell hkind ?_ J (hJ0 _ stp) ?_ ?_ ?_
  · show _ < (Heap.push _ _).objs.size
    rw [hs1]
    rcases List.mem_cons.mp hb with rfl | hb
    · exact Nat.lt_succ_self _
    · rw [List.mem_singleton.mp hb]; exact Nat.lt_succ_of_lt hlt
  · intro i v s' Q' hP hst hq
    have hv : v ∈ vs := List.mem_of_getElem? (by simpa using hP)
    rcases hlet v hv with ⟨e, k, p, t, rfl, rfl⟩ | ⟨y, p, rfl⟩
    · exact wpAny_letOwnedTupleGo_listiter hst.1 hq
    · exact wpAny_of_eq (a := ()) rfl hq
  · intro i ys h h' hJ hk
    exact stab i ys h h' hJ fun b o e a1 a2 a3 => hk b o e a1 (by show b ≠ (Heap.push _ _).objs.size; rw [hs1]; exact a2) (by show b ≠ (Heap.push _ _).objs.size + 1; rw [hs1]; exact a3)
  · intro i v ys h mc tk hi hP hk hn hJ _
    dsimp only at hn ⊢
    rw [hs1] at hn ⊢
    have hst := sub hk
    exact turn i v ys h mc tk (by simpa using hP) hst (F.keeps hst) (N.grown hst) hn hJ
  · intro ys h tk mc hk hD hn hJ
    dsimp only at hD hn ⊢
    rw [hs1] at hD hn ⊢
    have hst := sub hk
    have F' := F.keeps hst
    refine done ys h tk mc hst F' (fun p hp => ?_) hn hJ
    rcases List.mem_cons.mp hp with rfl | hp
    · exact fresh_entry F (Heap.get?_none_of_le (Nat.le_succ _)) hD
    · exact N.grown hst p hp
end
end Mine

-- G3
open PySem PySem.W PyProof.Rows PySem.Calls
set_option Elab.async false
set_option linter.unusedVariables false
namespace Mine
set_option maxRecDepth 100000

section
variable {prog : Program} {w : World} {A : Around} {E : Value → Shared → Prop} {iter : PySem.Expr} {scope : Scope} {pos : Pos} {cl : List (Str × Addr)} {env : Env} {Q : Value → Shared → Prop} {s : Shared}
variable {g : Heap} {L : Addr} {m : Str → Option Value} {news : List (Addr × Obj)}

theorem isTuple_of {h : Heap} {t : Addr} {its : Array Value} (i : IsTup h t its) : h.IsTuple t its := let ⟨o, a, b, n, c⟩ := i; ⟨o, a, b, n, c⟩

theorem comp_pick3 {x y e : Str} {px py pe tp : Pos} {kk : Nat} {l a b c : Addr} {v1 w1 v2 w2 v3 w3 : Value} (pick : Value × Value → Value)
    (F : Fr g L s.heap m) (N : News g L s.heap news) (hl : s.heap.IsList l [.ref a, .ref b, .ref c].toArray) (hh : A.handled = none)
    (i1 : IsTup s.heap a [v1, w1].toArray) (i2 : IsTup s.heap b [v2, w2].toArray) (i3 : IsTup s.heap c [v3, w3].toArray)
    (hcell : ∀ y ∈ scope.names, y.2 ≠ .cell) (hkind : scope.kind = .function) (hx : scope.names.lookup x = some .local) (hy : scope.names.lookup y = some .local) (he : scope.names.lookup e = some .local) (hdb : (e == ("__debug__" : Str)) = false)
    (hp : ∀ (p : Value × Value) (m : Str → Option Value), (if e = y then some p.2 else if e = x then some p.1 else m e) = some (pick p))
    (done : ∀ D h tk, Fr g L h m → News g L h ((D, lst [pick (v1, w1), pick (v2, w2), pick (v3, w3)]) :: news) → (∀ p ∈ news, p.1 < D) → Q (.ref D) { s with heap := h, toks := tk }) :
    wpAny (model prog w) A (pyIter (.ref l)) (fun it s₂ => CompAt prog w A E none (.ListComp (.Name e pe) [⟨.Tuple [.Name x px, .Name y py] kk tp, iter, [], 0⟩] scope pos) scope cl env Q it s₂) E s := by
  refine comp_list F N hl hh (show 3 ≤ sizeLine by decide) hcell hkind (fun v hv => .inl ?_) (fun i ys h => ys = [pick (v1, w1), pick (v2, w2), pick (v3, w3)].take i) (fun _ _ => rfl) (fun i ys h h' hJ _ => hJ) ?_ ?_
  · simp only [List.mem_cons, List.not_mem_nil, or_false] at hv
    rcases hv with rfl | rfl | rfl <;> exact ⟨_, _, _, _, rfl, rfl⟩
  · intro i v ys h mc tk hi st F' N' hn hJ
    have key : ∀ t v' w', IsTup s.heap t [v', w'].toArray → v = .ref t → [pick (v1, w1), pick (v2, w2), pick (v3, w3)].take i ++ [pick (v', w')] = [pick (v1, w1), pick (v2, w2), pick (v3, w3)].take (i + 1) →
        TurnAt prog w A (.Name e pe) (.Tuple [.Name x px, .Name y py] kk tp) [] (compEnvC scope cl (s.heap.objs.size + 2) env) s h (s.heap.objs.size + 2) (fun ys h => ys = [pick (v1, w1), pick (v2, w2), pick (v3, w3)].take (i + 1)) ys v tk := by
      rintro t v' w' it rfl ht
      refine turn_noif ?_
      refine kcp_assign (env := compEnvC scope cl (s.heap.objs.size + 2) env) hh (isTuple_of (IsTup.keeps it st)) (lookup_relabel_local hx) (lookup_relabel_local hy) (by simp [compEnvC, relabel, hkind]) hn fun h₄ tk₄ hn₄ hs₄ => ?_
      refine wpAny_Name (wpAny_loadName_local (by simpa [compEnvC, relabel] using hkind) (lookup_relabel_local he) hn₄ (hp (v', w') mc) ?_) hdb
      refine ⟨h₄, tk₄, rfl, fun b o e hb => hs₄ b o (show b ≠ s.heap.objs.size + 2 by simpa using hb) e, ⟨_, hn₄⟩, ?_⟩
      rw [hJ]; exact ht
    match i, hi with
    | 0, hi => exact key a v1 w1 i1 (by simpa using hi.symm) rfl
    | 1, hi => exact key b v2 w2 i2 (by simpa using hi.symm) rfl
    | 2, hi => exact key c v3 w3 i3 (by simpa using hi.symm) rfl
    | k + 3, hi => simp at hi
  · refine CompDone.none F N (fun _ _ _ hK _ => hK) fun D ys h tk F' N' hlt hJ => ?_
    subst hJ
    exact done D h tk F' N' hlt
end
end Mine

-- G4
open PySem PySem.W PyProof.Rows PySem.Calls
set_option Elab.async false
set_option linter.unusedVariables false
namespace Mine
set_option maxRecDepth 100000

def minL : List Int → Int
  | [] => 0
  | [a] => a
  | a :: b :: r => min a (minL (b :: r))
def maxL : List Int → Int
  | [] => 0
  | [a] => a
  | a :: b :: r => max a (maxL (b :: r))
theorem minL_mem : ∀ {l : List Int}, 0 < l.length → minL l ∈ l ∧ ∀ a ∈ l, minL l ≤ a
  | [], h => absurd h (by decide)
  | [a], _ => ⟨List.Mem.head _, fun b hb => by cases hb with | head => exact Int.le_refl _ | tail _ q => cases q⟩
  | a :: b :: r, _ => by
    have ih := minL_mem (l := b :: r) (Nat.succ_pos _)
    show min a (minL (b :: r)) ∈ _ ∧ ∀ c ∈ _, min a (minL (b :: r)) ≤ c
    refine ⟨?_, fun c hc => ?_⟩
    · by_cases h : a ≤ minL (b :: r)
      · rw [Int.min_eq_left h]; exact List.Mem.head _
      · rw [Int.min_eq_right (by omega)]; exact List.Mem.tail _ ih.1
    · cases hc with
      | head => exact Int.min_le_left ..
      | tail _ hc => exact Int.le_trans (Int.min_le_right ..) (ih.2 c hc)
theorem maxL_mem : ∀ {l : List Int}, 0 < l.length → maxL l ∈ l ∧ ∀ a ∈ l, a ≤ maxL l
  | [], h => absurd h (by decide)
  | [a], _ => ⟨List.Mem.head _, fun b hb => by cases hb with | head => exact Int.le_refl _ | tail _ q => cases q⟩
  | a :: b :: r, _ => by
    have ih := maxL_mem (l := b :: r) (Nat.succ_pos _)
    show max a (maxL (b :: r)) ∈ _ ∧ ∀ c ∈ _, c ≤ max a (maxL (b :: r))
    refine ⟨?_, fun c hc => ?_⟩
    · by_cases h : a ≤ maxL (b :: r)
      · rw [Int.max_eq_right h]; exact List.Mem.tail _ ih.1
      · rw [Int.max_eq_left (by omega)]; exact List.Mem.head _
    · cases hc with
      | head => exact Int.le_max_left ..
      | tail _ hc => exact Int.le_trans (ih.2 c hc) (Int.le_max_right ..)
section
variable {prog : Program} {w : World} {A : Around} {E : Value → Shared → Prop} {s : Shared} {h₀ : Heap} {L l : Addr} {m : Str → Option Value} {news : List (Addr × Obj)} {vs : List Value} {ns : List Int} {Q : Value → Shared → Prop}
theorem my_min (F : Fr h₀ L s.heap m) (N : News h₀ L s.heap news) (hl : s.heap.IsList l vs.toArray) (hi : IntsAre vs ns) (hne : 0 < ns.length) (hh : A.handled = none)
    (h : ∀ h' (t : Tok) tk, Fr h₀ L h' m → News h₀ L h' news → Q (.int (minL ns) t) { s with heap := h', toks := tk }) : wpAny (model prog w) A (call (.builtin "min") [.ref l]) Q E s :=
  kso_min F N hl hi hne hh fun h' M t tk F' N' hm hb => by
    have e := minL_mem hne
    have : M = minL ns := Int.le_antisymm (hb _ e.1) (e.2 _ hm)
    subst this
    exact h h' t tk F' N'
theorem my_max (F : Fr h₀ L s.heap m) (N : News h₀ L s.heap news) (hl : s.heap.IsList l vs.toArray) (hi : IntsAre vs ns) (hne : 0 < ns.length) (hh : A.handled = none)
    (h : ∀ h' (t : Tok) tk, Fr h₀ L h' m → News h₀ L h' news → Q (.int (maxL ns) t) { s with heap := h', toks := tk }) : wpAny (model prog w) A (call (.builtin "max") [.ref l]) Q E s :=
  kso_max F N hl hi hne hh fun h' M t tk F' N' hm hb => by
    have e := maxL_mem hne
    have : M = maxL ns := Int.le_antisymm (e.2 _ hm) (hb _ e.1)
    subst this
    exact h h' t tk F' N'
end

theorem map_row {x w y : Str} {m₁ m₀ : Str → Option Value} {v u : Value} (ha : m₁ w = some u) (hm : ∀ z, z ≠ x → z ≠ y → z ≠ w → m₁ z = m₀ z) :
    (fun z => if z = x then some v else m₁ z) = fun z => if z = x then some v else if z = w then some u else if z = y then m₁ y else m₀ z := by
  funext z
  by_cases h1 : z = x
  · simp [h1]
  · simp only [if_neg h1]
    by_cases h2 : z = w
    · subst h2; simp [ha]
    · simp only [if_neg h2]
      by_cases h3 : z = y
      · subst h3; simp
      · simp only [if_neg h3]; exact hm z h1 h3 h2
theorem map_cell {x w : Str} {m₁ m₀ : Str → Option Value} {v u : Value} (ha : m₁ w = some u) (hm : ∀ z, z ≠ x → z ≠ w → m₁ z = m₀ z) :
    (fun z => if z = x then some v else m₁ z) = fun z => if z = x then some v else if z = w then some u else m₀ z := by
  funext z
  by_cases h1 : z = x
  · simp [h1]
  · simp only [if_neg h1]
    by_cases h2 : z = w
    · subst h2; simp [ha]
    · simp only [if_neg h2]; exact hm z h1 h2

def b2i (b : Bool) : Int := if b then 1 else 0
def rowI (x1 y1 x2 y2 x3 y3 x a : Int) : Int :=
  (rangeKs (minL [y1, y2, y3]) (maxL [y1, y2, y3] + 1 - minL [y1, y2, y3]).toNat).foldl (fun a y => a + b2i (inI x1 y1 x2 y2 x3 y3 x y)) a
def countI (x1 y1 x2 y2 x3 y3 : Int) : Int :=
  (rangeKs (minL [x1, x2, x3]) (maxL [x1, x2, x3] + 1 - minL [x1, x2, x3]).toNat).foldl (fun a x => rowI x1 y1 x2 y2 x3 y3 x a) 0
def sizeI (x1 y1 x2 y2 x3 y3 : Int) : Int := absI (crossI x1 y1 x2 y2 x3 y3)
def edgeI (x1 y1 x2 y2 x3 y3 : Int) : Int := sideI x1 y1 x2 y2 + sideI x2 y2 x3 y3 + sideI x3 y3 x1 y1
end Mine

-- G5
open PySem PySem.W PyProof.Rows PySem.Calls
set_option Elab.async false
set_option linter.unusedVariables false
namespace Mine
set_option maxRecDepth 100000
section
variable {prog : Program} {w : World} {A : Around} {E : Value → Shared → Prop} {s : Shared} {env : Env} {h₀ : Heap} {x : Str} {body : List Stmt} {Q : Flow → Shared → Prop}
theorem iter_one {wn y : Str} {r : Addr} {a₀ b₀ c₀ : Int} {t₀ u₀ v₀ tc : Tok} {n : Nat} {m₀ : Str → Option Value} {news : List (Addr × Obj)} (g : Int → Int → Int)
    (hh : A.handled = none) (hr : IsRange s.heap r a₀ b₀ 1 t₀ u₀ v₀) (hsmall : Builtin.Range.small a₀ b₀ 1 = true) (hn : Builtin.Range.rangeSize a₀ b₀ 1 = (n : Int)) (F : Fr h₀ env.locals s.heap m₀) (N : News h₀ env.locals s.heap news)
    (hw : m₀ wn = some (.int c₀ tc)) (hwx : wn ≠ x)
    (turn : ∀ k t a ta (u : Option Value) h tk own, k ∈ rangeKs a₀ n → Fr h₀ env.locals h (fun z => if z = x then some (.int k t) else if z = wn then some (.int a ta) else if z = y then u else m₀ z) → News h₀ env.locals h (news ++ own) →
      wpAny (model prog w) A (execs body env) (InvPostN h₀ env.locals (fun m' nx => nx = news ∧ (∃ t', m' wn = some (.int (g a k) t')) ∧ ∀ z, z ≠ x → z ≠ y → z ≠ wn → m' z = m₀ z) own (news.map (·.1)) { s with heap := h, toks := tk } Q) E { s with heap := h, toks := tk })
    (done : ∀ (u1 u2 : Option Value) t h tk, Fr h₀ env.locals h (fun z => if z = wn then some (.int ((rangeKs a₀ n).foldl g c₀) t) else if z = x then u1 else if z = y then u2 else m₀ z) → News h₀ env.locals h news → Q .next { s with heap := h, toks := tk }) :
    wpAny (model prog w) A (pyIter (.ref r)) (fun it s₂ => LoopAtV prog w A h₀ env x body Q E it s₂) E s := by
  refine iter_rangeS (σ := Int) (fun a m nx => nx = news ∧ (∃ t, m wn = some (.int a t)) ∧ ∀ z, z ≠ x → z ≠ y → z ≠ wn → m z = m₀ z) g c₀ hh hr hsmall hn F N ⟨rfl, ⟨tc, hw⟩, fun _ _ _ _ => rfl⟩ ?_ ?_
  · rintro k t a m₁ nx h tk own hk _ ⟨rfl, ⟨ta, ha⟩, hm⟩ F' N'
    rw [map_row ha hm] at F'
    exact turn k t a ta _ h tk own hk F' N'
  · rintro m₁ nx h tk ⟨rfl, ⟨ta, ha⟩, hm⟩ F' N'
    have e : m₁ = fun z => if z = wn then some (.int ((rangeKs a₀ n).foldl g c₀) ta) else if z = x then m₁ x else if z = y then m₁ y else m₀ z := by
      funext z
      by_cases h2 : z = wn
      · subst h2; simp [ha]
      · simp only [if_neg h2]
        by_cases h1 : z = x
        · subst h1; simp
        · simp only [if_neg h1]
          by_cases h3 : z = y
          · subst h3; simp
          · simp only [if_neg h3]; exact hm z h1 h3 h2
    rw [e] at F'
    exact done _ _ ta h tk F' N'
end
theorem len3 {a b : Int} : ((b - a).toNat : Int) = ((b - a).toNat : Nat) := rfl
end Mine

-- E2
open PySem PySem.W PyProof.Rows PySem.Calls
set_option Elab.async false
set_option linter.unusedVariables false
namespace Mine
set_option maxRecDepth 100000
theorem words_E2 : True := by
  k_with_none
  k_with "pyIter ref" => ((with_reducible show wpAny _ _ (pyIter (Value.ref _)) (fun it s₂ => CompAt _ _ _ _ _ _ _ _ _ _ it s₂) _ _); (rename Fr _ _ _ _ => kFkw); (rename News _ _ _ _ => kNkw); k_dflt (first
  | refine comp_pick3 (fun p => p.1) kFkw kNkw (stays_list (Fr.keep kFkw) (by assumption)) (by assumption) (IsTup.keeps (by assumption) (Fr.keep kFkw)) (IsTup.keeps (by assumption) (Fr.keep kFkw)) (IsTup.keeps (by assumption) (Fr.keep kFkw)) (by decide) rfl rfl rfl rfl rfl (fun _ _ => rfl) ?_
  | refine comp_pick3 (fun p => p.2) kFkw kNkw (stays_list (Fr.keep kFkw) (by assumption)) (by assumption) (IsTup.keeps (by assumption) (Fr.keep kFkw)) (IsTup.keeps (by assumption) (Fr.keep kFkw)) (IsTup.keeps (by assumption) (Fr.keep kFkw)) (by decide) rfl rfl rfl rfl rfl (fun _ _ => rfl) ?_); intro Dkw hkw tkkw Fkw Nkw l1kw; (try dsimp only at Nkw); (try k_lt l1kw); (try k_sweep))
  k_with "eval Name" => (k_here; k_dflt (refine' ld (by k_asm) (by assumption) ?_; k_whole))
  k_with "call ref" => (k_here; k_dflt (refine' within_ok (by exact rdy_hid (S := []) (by k_asm) (by k_asm) (by k_asm) (by k_asm) (fun _ q => nomatch q) (by assumption) rfl rfl) (by ktr_room) (by assumption) (by exact stays_list (Fr.keep (by k_asm)) (by assumption)) (by exact IsTup.keeps (by assumption) (Fr.keep (by k_asm))) (by exact IsTup.keeps (by assumption) (Fr.keep (by k_asm))) (by exact IsTup.keeps (by assumption) (Fr.keep (by k_asm))) (by exact News.isTup (by k_asm) (List.Mem.head _)) (by first | assumption | (unfold Sm; omega)) (by first | assumption | (unfold Sm; omega)) (by first | assumption | (unfold Sm; omega)) (by first | assumption | (unfold Sm; omega)) (by first | assumption | (unfold Sm; omega)) (by first | assumption | (unfold Sm; omega)) (by first | assumption | (unfold Sm; omega)) (by first | assumption | (unfold Sm; omega)) ?_; k_whole); intro hkw tkkw stkw; (rename Fr _ _ _ _ => kFkw); (rename News _ _ _ _ => kNkw); have Fkw := Fr.keeps kFkw stkw; have Nkw := News.grown kNkw stkw; clear kFkw kNkw)
  k_with "call ref" => (k_here; k_dflt (refine' cross_ok (by exact rdy_hid (S := []) (by k_asm) (by k_asm) (by k_asm) (by k_asm) (fun _ q => nomatch q) (by assumption) rfl rfl) (by ktr_room) (by exact IsTup.keeps (by assumption) (Fr.keep (by k_asm))) (by exact IsTup.keeps (by assumption) (Fr.keep (by k_asm))) (by exact IsTup.keeps (by assumption) (Fr.keep (by k_asm))) (by first | assumption | (unfold Sm; omega)) (by first | assumption | (unfold Sm; omega)) (by first | assumption | (unfold Sm; omega)) (by first | assumption | (unfold Sm; omega)) (by first | assumption | (unfold Sm; omega)) (by first | assumption | (unfold Sm; omega)) ?_; k_whole); intro hkw tkkw tkw stkw; (rename Fr _ _ _ _ => kFkw); (rename News _ _ _ _ => kNkw); have Fkw := Fr.keeps kFkw stkw; have Nkw := News.grown kNkw stkw; clear kFkw kNkw)
  k_with "unpackItems ref" => (k_here; k_dflt (refine' unpackItemsN_ (by k_asm) (by k_asm) (by first | assumption | kun_tup) (by assumption) (by exact rfl) ?_; k_whole); intro hkw Fkw Nkw; (try k_sweep))
  k_with "assign Tuple" => (k_here; (with_reducible show wpAny _ _ (assign (Expr.Tuple _ _ _) _ (Value.ref _)) _ _ _); k_dflt (refine' kun_list (by k_asm) (by k_asm) (by exact stays_list (Fr.keep (by k_asm)) (by assumption)) (by assumption) (by exact rfl) (by exact rfl) ?_; k_whole); intro hkw Fkw Nkw; (try k_sweep))
  k_with "!call builtin:min" => (k_here; with_unfolding_all refine my_min (by k_asm) (by k_asm) (by kso_list) (by l_ints) (by exact Nat.succ_pos _) (by assumption) ?_; intro _ _ _ _ _; (try k_sweep))
  k_with "!call builtin:max" => (k_here; with_unfolding_all refine my_max (by k_asm) (by k_asm) (by kso_list) (by l_ints) (by exact Nat.succ_pos _) (by assumption) ?_; intro _ _ _ _ _; (try k_sweep))
  k_with "!eval ListComp" => (k_here; k_dflt (refine comp_eval (cl := []) (closureFor_none (by decide)) rfl (by decide) (fun _ => rfl) ?_))
  trivial
theorem minL_b {a b c lo hi : Int} (h1 : lo ≤ a ∧ a ≤ hi) (h2 : lo ≤ b ∧ b ≤ hi) (h3 : lo ≤ c ∧ c ≤ hi) : lo ≤ minL [a, b, c] ∧ minL [a, b, c] ≤ hi := by
  have := (minL_mem (l := [a, b, c]) (Nat.succ_pos _)).1
  simp only [List.mem_cons, List.not_mem_nil, or_false] at this
  rcases this with e | e | e <;> rw [e] <;> assumption
theorem maxL_b {a b c lo hi : Int} (h1 : lo ≤ a ∧ a ≤ hi) (h2 : lo ≤ b ∧ b ≤ hi) (h3 : lo ≤ c ∧ c ≤ hi) : lo ≤ maxL [a, b, c] ∧ maxL [a, b, c] ≤ hi := by
  have := (maxL_mem (l := [a, b, c]) (Nat.succ_pos _)).1
  simp only [List.mem_cons, List.not_mem_nil, or_false] at this
  rcases this with e | e | e <;> rw [e] <;> assumption
theorem sm20 {x : Int} (h : -20 ≤ x ∧ x ≤ 20) : Sm x := by unfold Sm; omega
theorem hid_none {h : Heap} {a : Addr} : ∀ {S : List Addr}, (hideAll h S).get? a = none → a ∉ S → h.get? a = none := fun {S} e n => by
  cases q : h.get? a with
  | none => rfl
  | some o => rw [hideAll_get S q n] at e; cases e
section
variable {p : Program} {loose : List Str} {mean : ExcName → Option Value} {mg mb : Str → Option Value} {w : World} {A : Around} {s : Shared} {Q E : Value → Shared → Prop}
set_option maxHeartbeats 4000000 in
theorem counted_ret {o : Obj} (ho : (hd.heap_39 w.params).lookup 103 = some o) {qual : Str} {body : List Stmt} {scope : Scope} {cdv : Value} (hf : funOf o = some (qual, body, scope, cdv)) {st : Stmt} (hst : body[4]? = some st) {A₀ : Around} {Q : Flow → Shared → Prop}
    {s₀ : Heap} {base : Heap} {outer : List Env} {L' : Addr} (B' : Below A₀ base outer (hideAll s₀ ST)) (SA' : (A.deeper (envOf qual scope L' 103 cdv)).frames = some (envOf qual scope L' 103 cdv :: outer)) (X' : (hd.heap_39 w.params).In (hideAll s₀ ST)) (T' : Top p loose mean mg mb (hideAll s₀ ST)) (hroom : A.depth + 160 < recursionLimit) (hh : A.handled = none) (C : Codes (hideAll s₀ ST))
    {m : Str → Option Value} (F : Fr (hideAll s₀ ST) L' s.heap m) (n44 : (hideAll s₀ ST).get? 44 = none ∧ 44 ≠ L') (n51 : (hideAll s₀ ST).get? 51 = none ∧ 51 ≠ L') {q1 q2 : Array Value} (N : News (hideAll s₀ ST) L' s.heap [(44, tabObj q1), (51, tabObj q2)]) (K : ∀ h', (hideAll s₀ ST).StaysIn h' → h'.get? 44 = some (tabObj q1) → h'.get? 51 = some (tabObj q2) → Tabs h')
    {a b c : Addr} {x1 y1 x2 y2 x3 y3 z : Int} {t1 u1 t2 u2 t3 u3 tz : Tok} (m1 : m (Str.ofString "one") = some (.ref a)) (m2 : m (Str.ofString "two") = some (.ref b)) (m3 : m (Str.ofString "three") = some (.ref c)) (m4 : m (Str.ofString "within") = some (.int z tz))
    (i1 : IsTup (hideAll s₀ ST) a [.int x1 t1, .int y1 u1].toArray) (i2 : IsTup (hideAll s₀ ST) b [.int x2 t2, .int y2 u2].toArray) (i3 : IsTup (hideAll s₀ ST) c [.int x3 t3, .int y3 u3].toArray)
    (a1 : -20 ≤ x1 ∧ x1 ≤ 20) (a2 : -20 ≤ y1 ∧ y1 ≤ 20) (a3 : -20 ≤ x2 ∧ x2 ≤ 20) (a4 : -20 ≤ y2 ∧ y2 ≤ 20) (a5 : -20 ≤ x3 ∧ x3 ≤ 20) (a6 : -20 ≤ y3 ∧ y3 ≤ 20)
    (d1 : -15 ≤ x2 - x1 ∧ x2 - x1 ≤ 15) (d2 : -15 ≤ y2 - y1 ∧ y2 - y1 ≤ 15) (d3 : -15 ≤ x3 - x2 ∧ x3 - x2 ≤ 15) (d4 : -15 ≤ y3 - y2 ∧ y3 - y2 ≤ 15) (d5 : -15 ≤ x1 - x3 ∧ x1 - x3 ≤ 15) (d6 : -15 ≤ y1 - y3 ∧ y1 - y3 ≤ 15)
    (ret : ∀ h' tk' r t t' t'', Fr (hideAll s₀ ST) L' h' m → Tabs h' → (h'.get? r = some { cls := .type "tuple", data := .seq [.int (sizeI x1 y1 x2 y2 x3 y3) t, .int z t', .int (edgeI x1 y1 x2 y2 x3 y3) t''].toArray } ∧ r ≠ L' ∧ (hideAll s₀ ST).get? r = none) → r ∉ ST → Q (.ret (.ref r)) { s with heap := h', toks := tk' }) :
    wpAny (model PySem.Challenge.rw_zt0001_01.row.prog w) (A.deeper (envOf qual scope L' 103 cdv)) (exec st (envOf qual scope L' 103 cdv)) Q E s := by
  revert ho; k_fill; intro ho
  obtain rfl := Option.some.inj (ho.symm.trans (by k_is : _ = some _))
  cases (hf.symm.trans (rfl : _ = some (_, _, _, _)))
  cases hst
  clear ho hf
  k_steps
  rename News _ _ _ _ => N9
  rename Fr _ _ _ _ => F9
  have TT := K _ F9.keep (N9 _ (List.Mem.head _)).1 (N9 _ (List.Mem.tail _ (List.Mem.head _))).1
  refine side_ok (p := p) (loose := loose) (mean := mean) (mg := mg) (mb := mb) ?_ ?_ ?_ ?_ TT (IsTup.keeps (by assumption) F9.keep) (IsTup.keeps (by assumption) F9.keep) ?_ ?_ ?_
  · exact rdy_hid (S := ST) B' F9 X' T' (hS2 n44 n51) SA' rfl rfl
  · ktr_room
  · exact hh
  · exact C.keeps (stays_hid F9 (hS2 n44 n51))
  · assumption
  · assumption
  clear K TT
  intro h7 tk7 t7 st7 T7
  replace F9 := tabs_back F9 st7 n44 n51
  clear N9
  obtain ⟨q1', y1', o1', q2', y2', o2', N9, K⟩ := tabs_lay F9 T7 n44 n51
  clear T7 st7
  k_steps
  rename News _ _ _ _ => N9
  rename Fr _ _ _ _ => F9
  have TT := K _ F9.keep (N9 _ (List.Mem.head _)).1 (N9 _ (List.Mem.tail _ (List.Mem.head _))).1 (N9 _ (List.Mem.tail _ (List.Mem.tail _ (List.Mem.head _)))).1 (N9 _ (List.Mem.tail _ (List.Mem.tail _ (List.Mem.tail _ (List.Mem.head _))))).1
  refine side_ok (p := p) (loose := loose) (mean := mean) (mg := mg) (mb := mb) ?_ ?_ ?_ ?_ TT (IsTup.keeps (by assumption) F9.keep) (IsTup.keeps (by assumption) F9.keep) ?_ ?_ ?_
  · exact rdy_hid (S := ST) B' F9 X' T' (hS2 n44 n51) SA' rfl rfl
  · ktr_room
  · exact hh
  · exact C.keeps (stays_hid F9 (hS2 n44 n51))
  · assumption
  · assumption
  clear K TT
  intro h7 tk7 t7 st7 T7
  replace F9 := tabs_back F9 st7 n44 n51
  clear N9
  obtain ⟨q1', y1', o1', q2', y2', o2', N9, K⟩ := tabs_lay F9 T7 n44 n51
  clear T7 st7
  k_steps
  rename News _ _ _ _ => N9
  rename Fr _ _ _ _ => F9
  have TT := K _ F9.keep (N9 _ (List.Mem.head _)).1 (N9 _ (List.Mem.tail _ (List.Mem.head _))).1 (N9 _ (List.Mem.tail _ (List.Mem.tail _ (List.Mem.head _)))).1 (N9 _ (List.Mem.tail _ (List.Mem.tail _ (List.Mem.tail _ (List.Mem.head _))))).1
  refine side_ok (p := p) (loose := loose) (mean := mean) (mg := mg) (mb := mb) ?_ ?_ ?_ ?_ TT (IsTup.keeps (by assumption) F9.keep) (IsTup.keeps (by assumption) F9.keep) ?_ ?_ ?_
  · exact rdy_hid (S := ST) B' F9 X' T' (hS2 n44 n51) SA' rfl rfl
  · ktr_room
  · exact hh
  · exact C.keeps (stays_hid F9 (hS2 n44 n51))
  · assumption
  · assumption
  clear K TT
  intro h7 tk7 t7 st7 T7
  replace F9 := tabs_back F9 st7 n44 n51
  clear N9
  obtain ⟨q1', y1', o1', q2', y2', o2', N9, K⟩ := tabs_lay F9 T7 n44 n51
  clear T7 st7
  k_steps
  rename News _ _ _ _ => N9
  rename Fr _ _ _ _ => F9
  have hr := N9 _ (List.Mem.head _)
  refine ret _ _ _ _ _ _ F9 (K _ F9.keep (N9 _ (List.Mem.tail _ (List.Mem.head _))).1 (N9 _ (List.Mem.tail _ (List.Mem.tail _ (List.Mem.head _)))).1 (N9 _ (List.Mem.tail _ (List.Mem.tail _ (List.Mem.tail _ (List.Mem.head _))))).1 (N9 _ (List.Mem.tail _ (List.Mem.tail _ (List.Mem.tail _ (List.Mem.tail _ (List.Mem.head _)))))).1) hr ?_
  have h1 := (N9 _ (List.Mem.tail _ (List.Mem.tail _ (List.Mem.tail _ (List.Mem.head _))))).1
  have h2 := (N9 _ (List.Mem.tail _ (List.Mem.tail _ (List.Mem.tail _ (List.Mem.tail _ (List.Mem.head _)))))).1
  intro q
  cases q with
  | head => have := hr.1; rw [h1] at this; cases this
  | tail _ q => cases q with
    | head => have := hr.1; rw [h2] at this; cases this
    | tail _ q => cases q
set_option maxHeartbeats 4000000 in
theorem counted_turn {o : Obj} (ho : (hd.heap_39 w.params).lookup 103 = some o) {qual : Str} {body : List Stmt} {scope : Scope} {cdv : Value} (hf : funOf o = some (qual, body, scope, cdv)) {tgt itx tgt2 itx2 : PySem.Expr} {b3 ore b4 ore2 : List Stmt} {ps ps2 : Pos} (hst : body[3]? = some (.For tgt itx b3 ore ps)) (hst3 : b3[0]? = some (.For tgt2 itx2 b4 ore2 ps2)) {st : Stmt} (hst4 : b4[0]? = some st) {A₀ : Around} {Q : Flow → Shared → Prop}
    {s₀ : Heap} {base : Heap} {outer : List Env} {L' : Addr} (B' : Below A₀ base outer (hideAll s₀ ST)) (SA' : (A.deeper (envOf qual scope L' 103 cdv)).frames = some (envOf qual scope L' 103 cdv :: outer)) (X' : (hd.heap_39 w.params).In (hideAll s₀ ST)) (T' : Top p loose mean mg mb (hideAll s₀ ST)) (hroom : A.depth + 160 < recursionLimit) (hh : A.handled = none)
    {m : Str → Option Value} (F : Fr (hideAll s₀ ST) L' s.heap m) {nb : List (Addr × Obj)} (N : News (hideAll s₀ ST) L' s.heap nb)
    {l a b c : Addr} {x1 y1 x2 y2 x3 y3 z k k2 : Int} {t1 u1 t2 u2 t3 u3 tz tk tk2 : Tok} (m1 : m (Str.ofString "corners") = some (.ref l)) (m2 : m (Str.ofString "x") = some (.int k tk)) (m3 : m (Str.ofString "y") = some (.int k2 tk2)) (m4 : m (Str.ofString "within") = some (.int z tz)) (hl : (hideAll s₀ ST).IsList l [.ref a, .ref b, .ref c].toArray)
    (i1 : IsTup (hideAll s₀ ST) a [.int x1 t1, .int y1 u1].toArray) (i2 : IsTup (hideAll s₀ ST) b [.int x2 t2, .int y2 u2].toArray) (i3 : IsTup (hideAll s₀ ST) c [.int x3 t3, .int y3 u3].toArray)
    (a1 : Sm x1) (a2 : Sm y1) (a3 : Sm x2) (a4 : Sm y2) (a5 : Sm x3) (a6 : Sm y3) (a7 : Sm k) (a8 : Sm k2)
    (ret : ∀ h' tk' t, Fr (hideAll s₀ ST) L' h' (fun v => if v = Str.ofString "within" then some (.int (z + b2i (inI x1 y1 x2 y2 x3 y3 k k2)) t) else m v) → News (hideAll s₀ ST) L' h' nb → Q .next { s with heap := h', toks := tk' }) :
    wpAny (model PySem.Challenge.rw_zt0001_01.row.prog w) (A.deeper (envOf qual scope L' 103 cdv)) (exec st (envOf qual scope L' 103 cdv)) Q E s := by
  revert ho; k_fill; intro ho
  obtain rfl := Option.some.inj (ho.symm.trans (by k_is : _ = some _))
  cases (hf.symm.trans (rfl : _ = some (_, _, _, _)))
  cases hst
  cases hst3
  cases hst4
  clear ho hf
  k_steps
  rename News _ _ _ _ => N9
  rename Fr _ _ _ _ => F9
  exact ret _ _ _ F9 (fun q hq => N9 q (.tail _ hq))
set_option maxHeartbeats 4000000 in
theorem counted_ok (X : Rdy p loose mean mg mb (hd.heap_39 w.params) A (hideAll s.heap ST)) (hroom : A.depth + 160 < recursionLimit) (hh : A.handled = none) {l a b c : Addr} {x1 y1 x2 y2 x3 y3 : Int} {t1 u1 t2 u2 t3 u3 : Tok}
    (C : Codes (hideAll s.heap ST)) (T : Tabs s.heap) (hl : s.heap.IsList l [.ref a, .ref b, .ref c].toArray)
    (i1 : IsTup s.heap a [.int x1 t1, .int y1 u1].toArray) (i2 : IsTup s.heap b [.int x2 t2, .int y2 u2].toArray) (i3 : IsTup s.heap c [.int x3 t3, .int y3 u3].toArray)
    (a1 : -20 ≤ x1 ∧ x1 ≤ 20) (a2 : -20 ≤ y1 ∧ y1 ≤ 20) (a3 : -20 ≤ x2 ∧ x2 ≤ 20) (a4 : -20 ≤ y2 ∧ y2 ≤ 20) (a5 : -20 ≤ x3 ∧ x3 ≤ 20) (a6 : -20 ≤ y3 ∧ y3 ≤ 20)
    (d1 : -15 ≤ x2 - x1 ∧ x2 - x1 ≤ 15) (d2 : -15 ≤ y2 - y1 ∧ y2 - y1 ≤ 15) (d3 : -15 ≤ x3 - x2 ∧ x3 - x2 ≤ 15) (d4 : -15 ≤ y3 - y2 ∧ y3 - y2 ≤ 15) (d5 : -15 ≤ x1 - x3 ∧ x1 - x3 ≤ 15) (d6 : -15 ≤ y1 - y3 ∧ y1 - y3 ≤ 15)
    (ret : ∀ h' tk' r t t' t'', Stay ST s.heap h' → Tabs h' → s.heap.get? r = none → h'.get? r = some { cls := .type "tuple", data := .seq [.int (sizeI x1 y1 x2 y2 x3 y3) t, .int (countI x1 y1 x2 y2 x3 y3) t', .int (edgeI x1 y1 x2 y2 x3 y3) t''].toArray } → Q (.ref r) { s with heap := h', toks := tk' }) :
    wpAny (model PySem.Challenge.rw_zt0001_01.row.prog w) A (call (.ref 103) [.ref l]) Q E s := by
  obtain ⟨q1, q2, h44, h51, K⟩ := tabs_start T
  replace i1 := hid_tup i1 (tab_notup T i1)
  replace i2 := hid_tup i2 (tab_notup T i2)
  replace i3 := hid_tup i3 (tab_notup T i3)
  replace hl := hid_list hl (tab_nolist T hl)
  revert X; k_fill; intro X
  refine wpAny_call ?_
  k_dflt (refine' code_hidF (binds := [(Str.ofString "corners", .ref l)]) ST ?k1 ?k6 ?k7 ?k8 ?k9 ?kB ?_ ?c2 ?c3 ?c4 ?c5; (case k1 => assumption); (case k6 => k_is); (case k7 => k_is); (case k8 => ktr_room); (case k9 => exact BindsTo.of_eq (by kernel_rfl)); (case c5 => decide); (case kB => exact locs rfl); (case c2 => exact rfl); (case c3 => exact rfl); (case c4 => exact rfl); k_whole)
  intro A₀ base outer L' h' B' SA' F' N0 X' T' eL'
  have N' := N0 _ (tabs_news h44 h51)
  clear N0
  try dsimp only
  k_steps
  have ex := minL_b a1 a3 a5
  have fx := maxL_b a1 a3 a5
  have ey := minL_b a2 a4 a6
  have fy := maxL_b a2 a4 a6
  rename News _ _ _ _ => N9
  rename Fr _ _ _ _ => F9
  rename IsRange _ _ _ _ _ _ _ _ => R9
  have N1 : News (hideAll s.heap ST) L' _ [(44, tabObj q1), (51, tabObj q2)] := fun p hp => N9 p (List.mem_of_mem_drop (i := 3) hp)
  clear N9
  refine iter_one (wn := Str.ofString "within") (y := Str.ofString "y") (fun a x => rowI x1 y1 x2 y2 x3 y3 x a) hh R9 (small_one (by omega) (by omega) (by omega) (by omega)) (rangeSize_nat _ _) F9 N1 rfl (by decide) ?_ ?_
  · intro k t a' ta u h5 tk5 own hk F5 N5
    have hk' := mem_rangeKs hk
    clear N1 F9 R9
    simp only [List.cons_append, List.nil_append] at N5
    k_steps
    rename News _ _ _ _ => N9
    rename Fr _ _ _ _ => F9
    rename IsRange _ _ _ _ _ _ _ _ => R9
    have N1 : News (hideAll s.heap ST) L' _ ((44, tabObj q1) :: (51, tabObj q2) :: own) := fun p hp => N9 p (List.mem_of_mem_drop (i := 2) hp)
    clear N9
    refine iter_one (wn := Str.ofString "within") (y := Str.ofString "y") (fun a y => a + b2i (inI x1 y1 x2 y2 x3 y3 k y)) hh R9 (small_one (by omega) (by omega) (by omega) (by omega)) (rangeSize_nat _ _) F9 N1 rfl (by decide) ?_ ?_
    · intro k2 t2' a2' ta2 u2' h6 tk6 own2 hk2 F6 N6
      have hk2' := mem_rangeKs hk2
      clear N1 F9 R9
      refine wpAny_execs_cons (counted_turn (p := p) (loose := loose) (mean := mean) (mg := mg) (mb := mb) (o := _) (by k_is) rfl rfl rfl rfl B' SA' X' T' hroom hh F6 N6 rfl rfl rfl rfl hl i1 i2 i3 (sm20 a1) (sm20 a2) (sm20 a3) (sm20 a4) (sm20 a5) (sm20 a6) (by unfold Sm; omega) (by unfold Sm; omega) ?_)
      intro h7 tk7 t7 F7 N7
      refine wpAny_execs_nil ⟨_, _, _, _, _, rfl, F7, N7, fun p hp => ?_, fun p hp => ?_, rfl, rfl, ⟨_, rfl⟩, fun z h1 h2 h3 => ?_⟩
      · simp only [List.mem_cons, List.mem_append] at hp ⊢
        rcases hp with hp | hp | hp <;> simp [hp]
      · simp [hp]
      · simp only [if_neg h1, if_neg h3]
    · intro u1' u2' t6 h6 tk6 F6 N6
      clear N1 F9 R9
      k_steps
  · intro u1' u2' t h5 tk5 F5 N5
    clear N1 F9 R9
    have n44 := And.intro (N5 _ (List.Mem.head _)).2.2 (N5 _ (List.Mem.head _)).2.1
    have n51 := And.intro (N5 _ (List.Mem.tail _ (List.Mem.head _))).2.2 (N5 _ (List.Mem.tail _ (List.Mem.head _))).2.1
    dsimp only at n44 n51
    refine wpAny_execs_cons (counted_ret (p := p) (loose := loose) (mean := mean) (mg := mg) (mb := mb) (o := _) (by k_is) rfl rfl B' SA' X' T' hroom hh C F5 n44 n51 N5 K rfl rfl rfl rfl i1 i2 i3 a1 a2 a3 a4 a5 a6 d1 d2 d3 d4 d5 d6 ?_)
    intro h7 tk7 r t t' t'' F7 T7 hr hrS
    exact ret _ _ _ _ _ _ (Stay.of F7.keep) T7 (hid_none hr.2.2 hrS) hr.1
end
end Mine

-- F1
open PySem PySem.W PyProof.Rows PySem.Calls
set_option Elab.async false
set_option linter.unusedVariables false
namespace Mine
set_option maxRecDepth 100000

section
variable {prog : Program} {w : World} {A : Around} {E : Value → Shared → Prop} {s : Shared} {g : Heap} {L a : Addr} {m : Str → Option Value} {news : List (Addr × Obj)} {cn : Str} {cs : Scope} {ccd : Value}
theorem stays2 {h h' : Heap} {d1 d2 : Addr} {o1 o2 : Obj} (k : ∀ b o, (hideAll h [d1, d2]).get? b = some o → h'.get? b = some o) (e1 : h.get? d1 = some o1) (f1 : h'.get? d1 = some o1) (e2 : h.get? d2 = some o2) (f2 : h'.get? d2 = some o2) : h.StaysIn h' := fun b o e => by
  by_cases h1 : b = d1
  · subst h1; rw [e1] at e; cases e; exact f1
  by_cases h2 : b = d2
  · subst h2; rw [e2] at e; cases e; exact f2
  exact k b o (hideAll_get _ e (by simp [h1, h2]))
theorem tup_nodict {h : Heap} {a d1 d2 : Addr} {its : Array Value} {o1 o2 : Obj} (i : IsTup h a its) (e1 : h.get? d1 = some o1) (j1 : Obj.IsDictOf (strKind prog w) o1 []) (e2 : h.get? d2 = some o2) (j2 : Obj.IsDictOf (strKind prog w) o2 []) : a ∉ [d1, d2] := by
  obtain ⟨o, ho, hc, n, hd⟩ := i
  intro q
  cases q with
  | head => rw [e1] at ho; cases ho; obtain ⟨es, ep, _, hd', _⟩ := j1; rw [hd] at hd'; cases hd'
  | tail _ q => cases q with
    | head => rw [e2] at ho; cases ho; obtain ⟨es, ep, _, hd', _⟩ := j2; rw [hd] at hd'; cases hd'
    | tail _ q => cases q
theorem for_items_none {Q : Flow → Shared → Prop} {xk xv y : Str} {pk pv pt pos apos cpos npos : Pos} {x1 : Nat} {body : List Stmt} {d : Addr} (F : Fr g L s.heap m) (N : News g L s.heap news) (hh : A.handled = none)
    {o9 : Obj} (hm9 : (d, o9) ∈ news) (ho9 : Obj.IsDictOf (strKind prog w) o9 []) (hdS : (d == sysModules) = false) (hy : m y = some (.ref d)) (hk : cs.kind = .function) (hl : (envOf cn cs L a ccd).kindOf y = some .local) (hdb : (y == ("__debug__" : Str)) = false)
    (hxk : (envOf cn cs L a ccd).kindOf xk = some .local) (hxv : (envOf cn cs L a ccd).kindOf xv = some .local)
    (hbase : attributeBase (.Name y npos) "items" (envOf cn cs L a ccd) (eval (.Name y npos) (envOf cn cs L a ccd)) = eval (.Name y npos) (envOf cn cs L a ccd)) (hline : (apos.endLine == cpos.line) = true)
    (hE : PassesOwn (model prog w) A (envOf cn cs L a ccd) E)
    (h : ∀ h' tk, Fr g L h' m → News g L h' news → Q .next { s with heap := h', toks := tk }) :
    wpAny (model prog w) A (exec (.For (.Tuple [.Name xk pk, .Name xv pv] x1 pt) (.Call (.Attribute (.Name y npos) "items" apos) [] [] cpos) body [] pos) (envOf cn cs L a ccd)) Q E s := by
  have hd := (N _ hm9).1
  have hdL := (N _ hm9).2.1
  dsimp only at hd hdL
  obtain ⟨ep, hat⟩ := (show s.heap.DictOf (strKind prog w) d [] from Heap.dictOf_iff.mpr ⟨_, hd, ho9⟩).dictAt
  refine wpAny_For_items_locals (knd := strKind prog w) (kvs := []) (ep := ep) (d := d) hh hxk hxv (by show (cs.kind == .class || (cs.kind == .module && L != mainGlobals)) = false; rw [hk]; rfl) hdL hdS hat F.ns hbase hline (fun Q' hq => ld F hy hq hk hl hdb)
    (fun i m' => m' = m) rfl (fun i k v key m₁ s₁ hi => by simp at hi) (fun h' tk m' hn hm hs => ?_) (by intro _; rfl) hE
  subst hm
  refine h h' tk ⟨hn, fun b o e => hs b o (Nat.ne_of_lt (Nat.lt_of_lt_of_le (Heap.lt_size e) F.above)) (F.keep b o e), F.above⟩ fun p hp => ⟨hs _ _ (N p hp).2.1 (N p hp).1, (N p hp).2⟩
end
theorem words_F1 : True := by
  k_with_none
  k_with "exec For Tuple Call cons nil" => (k_here; (rename Fr _ _ _ _ => kFkw); (rename News _ _ _ _ => kNkw); k_dflt (refine for_items_none kFkw kNkw (by assumption) (by k_mem) (by assumption) (by assumption) rfl rfl rfl rfl rfl rfl rfl rfl PassesOwn.never ?_); intro hkw tkkw Fkw Nkw; clear kFkw kNkw)
  k_with "assign Tuple" => (k_here; (with_reducible show wpAny _ _ (assign (Expr.Tuple _ _ _) _ (Value.ref _)) _ _ _); k_dflt (refine' unpackN_ (by k_asm) (by k_asm) (by exact IsTup.keeps (by assumption) (Fr.keep (by k_asm))) (by assumption) (by exact rfl) (by exact rfl) ?_; k_whole); intro hkw Fkw Nkw; (try k_sweep))
  trivial
section
variable {p : Program} {loose : List Str} {mean : ExcName → Option Value} {mg mb : Str → Option Value} {w : World} {A : Around} {s : Shared} {Q E : Value → Shared → Prop}
set_option maxHeartbeats 4000000 in
theorem callers_ok {d1 d2 : Addr} (X : Rdy p loose mean mg mb (hd.heap_39 w.params) A (hideAll s.heap [d1, d2])) (hroom : A.depth + 10 < recursionLimit) (hh : A.handled = none) (hne : @Ne Nat d1 d2)
    (s1 : (d1 == sysModules) = false) (s2 : (d2 == sysModules) = false) {o1 o2 : Obj} (i1 : s.heap.get? d1 = some o1) (i2 : s.heap.get? d2 = some o2)
    (j1 : Obj.IsDictOf (strKind PySem.Challenge.rw_zt0001_01.row.prog w) o1 []) (j2 : Obj.IsDictOf (strKind PySem.Challenge.rw_zt0001_01.row.prog w) o2 [])
    (ret : ∀ h' tk' r, s.heap.StaysIn h' → Q (.ref r) { s with heap := h', toks := tk' }) :
    wpAny (model PySem.Challenge.rw_zt0001_01.row.prog w) A (call (.ref 28) [.ref d1, .ref d2]) Q E s := by
  revert X; k_fill; intro X
  refine wpAny_call ?_
  k_dflt (refine' code_hidF (binds := [(Str.ofString "target", .ref d1), (Str.ofString "source", .ref d2)]) [d1, d2] ?k1 ?k6 ?k7 ?k8 ?k9 ?kB ?_ ?c2 ?c3 ?c4 ?c5; (case k1 => assumption); (case k6 => k_is); (case k7 => k_is); (case k8 => ktr_room); (case k9 => exact BindsTo.of_eq (by kernel_rfl)); (case c5 => decide); (case kB => exact locs rfl); (case c2 => exact rfl); (case c3 => exact rfl); (case c4 => exact rfl); k_whole)
  intro A₀ base outer L' h' B' SA' F' N0 X' T' eL'
  have N' := N0 [(d1, o1), (d2, o2)] (by
    intro p hp
    cases hp with
    | head => exact ⟨i1, List.Mem.head _⟩
    | tail _ q => cases q with
      | head => exact ⟨i2, List.Mem.tail _ (List.Mem.head _)⟩
      | tail _ q => cases q)
  clear N0
  have lt1 : @LT.lt Nat _ d1 L' := eL' ▸ Heap.lt_size i1
  have lt2 : @LT.lt Nat _ d2 L' := eL' ▸ Heap.lt_size i2
  try dsimp only
  k_steps
  dsimp only
  rename Fr _ _ _ _ => kF
  rename News _ _ _ _ => kN
  exact ret _ _ _ (stays2 kF.keep i1 (kN _ (.tail _ (.head _))).1 i2 (kN _ (.tail _ (.tail _ (.head _)))).1)


set_option maxHeartbeats 4000000 in
theorem stats_ok {d1 d2 a b : Addr} (X : Rdy p loose mean mg mb (hd.heap_39 w.params) A (hideAll s.heap [d1, d2])) (hroom : A.depth + 20 < recursionLimit) (hh : A.handled = none) (hne : @Ne Nat d1 d2)
    (s1 : (d1 == sysModules) = false) (s2 : (d2 == sysModules) = false) {o1 o2 : Obj} (i1 : s.heap.get? d1 = some o1) (i2 : s.heap.get? d2 = some o2)
    (j1 : Obj.IsDictOf (strKind PySem.Challenge.rw_zt0001_01.row.prog w) o1 []) (j2 : Obj.IsDictOf (strKind PySem.Challenge.rw_zt0001_01.row.prog w) o2 [])
    {x1 x2 x3 x4 y1 y2 y3 y4 : Int} {t1 t2 t3 t4 u1 u2 u3 u4 : Tok} (ia : IsTup s.heap a [.int x1 t1, .int x2 t2, .int x3 t3, .int x4 t4, .ref d1].toArray) (ib : IsTup s.heap b [.int y1 u1, .int y2 u2, .int y3 u3, .int y4 u4, .ref d2].toArray)
    (ret : ∀ h' tk' r, s.heap.StaysIn h' → s.heap.get? r = none → (∃ t t' t'' t4 d, h'.get? r = some { cls := .type "tuple", data := .seq [.int (y1 + x1) t, .int (y2 + x2) t', .int (y3 + x3) t'', .int (y4 + x4) t4, .ref d].toArray }) → Q (.ref r) { s with heap := h', toks := tk' }) :
    wpAny (model PySem.Challenge.rw_zt0001_01.row.prog w) A (call (.ref 21) [.ref a, .ref b]) Q E s := by
  have hsz1 := Heap.lt_size i1
  have hsz2 := Heap.lt_size i2
  replace ia := hid_tup ia (tup_nodict ia i1 j1 i2 j2)
  replace ib := hid_tup ib (tup_nodict ib i1 j1 i2 j2)
  revert X; k_fill; intro X
  refine wpAny_call ?_
  k_dflt (refine' code_hidF (binds := [(Str.ofString "target", .ref a), (Str.ofString "source", .ref b)]) [d1, d2] ?k1 ?k6 ?k7 ?k8 ?k9 ?kB ?_ ?c2 ?c3 ?c4 ?c5; (case k1 => assumption); (case k6 => k_is); (case k7 => k_is); (case k8 => ktr_room); (case k9 => exact BindsTo.of_eq (by kernel_rfl)); (case c5 => decide); (case kB => exact locs rfl); (case c2 => exact rfl); (case c3 => exact rfl); (case c4 => exact rfl); k_whole)
  intro A₀ base outer L' h' B' SA' F' N0 X' T' eL'
  have N' := N0 [(d1, o1), (d2, o2)] (by
    intro p hp
    cases hp with
    | head => exact ⟨i1, List.Mem.head _⟩
    | tail _ q => cases q with
      | head => exact ⟨i2, List.Mem.tail _ (List.Mem.head _)⟩
      | tail _ q => cases q)
  clear N0
  have lt1 : @LT.lt Nat _ d1 L' := eL' ▸ Heap.lt_size i1
  have lt2 : @LT.lt Nat _ d2 L' := eL' ▸ Heap.lt_size i2
  try dsimp only
  k_steps
  rename Fr _ _ _ _ => F9
  rename News _ _ _ _ => N9
  have m1 := N9 _ (.head _)
  have m2 := N9 _ (.tail _ (.head _))
  dsimp only at m1 m2
  refine callers_ok (p := p) (loose := loose) (mean := mean) (mg := mg) (mb := mb) ?_ ?_ ?_ hne s1 s2 m1.1 m2.1 j1 j2 ?_
  · refine rdy_hid (S := [d1, d2]) B' F9 X' T' (fun c hc => ?_) SA' rfl rfl
    cases hc with
    | head => exact ⟨m1.2.2, m1.2.1⟩
    | tail _ q => cases q with
      | head => exact ⟨m2.2.2, m2.2.1⟩
      | tail _ q => cases q
  · ktr_room
  · exact hh
  intro h5 tk5 r st5
  replace F9 := Fr.keeps F9 st5
  replace N9 := News.grown N9 st5
  k_steps
  rename Fr _ _ _ _ => F8
  rename News _ _ _ _ => N8
  have e1 := (N8 _ (.tail _ (.head _))).1
  have e2 := (N8 _ (.tail _ (.tail _ (.head _)))).1
  refine ret _ _ _ (stays2 F8.keep i1 e1 i2 e2) ?_ ⟨_, _, _, _, _, (N8 _ (.head _)).1⟩
  have tr := News.isTup N8 (.head _)
  have nr := (N8 _ (.head _)).2.2
  have ne := tup_nodict (w := w) tr e1 j1 e2 j2
  cases q : s.heap.get? _ with
  | none => rfl
  | some o => rw [hideAll_get _ q ne] at nr; cases nr
end
end Mine

-- G6
theorem Mine.off_G6 : True := by
  k_with_none
  trivial
open PySem PySem.W PyProof.Rows PySem.Calls
set_option Elab.async false
set_option linter.unusedVariables false
namespace Mine
set_option maxRecDepth 100000

section
variable {prog : Program} {w : World} {A : Around} {E : Value → Shared → Prop} {iter : PySem.Expr} {scope : Scope} {pos : Pos} {cl : List (Str × Addr)} {env : Env} {use : Option (Value → Sem Unit)} {Q : Value → Shared → Prop} {s : Shared} {C : Addr} {mc : Str → Option Value}
variable {g : Heap} {L : Addr} {m : Str → Option Value} {news : List (Addr × Obj)}

theorem cn_local {y : Str} {py : Pos} {v : Value} (hk : scope.kind = .function) (hy : scope.names.lookup y = some .local) (hdb : (y == ("__debug__" : Str)) = false) (hn : s.heap.Ns C mc) (hv : mc y = some v) (h : Q v s) :
    wpAny (model prog w) A (eval (.Name y py) (compEnvC scope cl C env)) Q E s :=
  wpAny_Name (wpAny_loadName_local (by simpa [compEnvC, relabel] using hk) (lookup_relabel_local hy) hn hv h) hdb
theorem cn_cell {y : Str} {py : Pos} {c : Addr} {v : Value} (hk : scope.kind = .function) (hy : (relabel scope env).names.lookup y = some .cell) (hc : cl.lookup y = some c) (hdb : (y == ("__debug__" : Str)) = false) (hv : s.heap.IsCell c (some v)) (h : Q v s) :
    wpAny (model prog w) A (eval (.Name y py) (compEnvC scope cl C env)) Q E s :=
  wpAny_Name (wpAny_loadName_cell (by simpa [compEnvC, relabel] using hk) hy hc hv h) hdb
theorem cn_store {y : Str} {py : Pos} {v : Value} {Q : Unit → Shared → Prop} (hk : scope.kind = .function) (hy : scope.names.lookup y = some .local) (hn : s.heap.Ns C mc)
    (h : ∀ h', h'.Ns C (fun z => if z = y then some v else mc z) → Heap.SameBut C s.heap h' → Q () { s with heap := h', toks := s.toks + 1 }) :
    wpAny (model prog w) A (assign (.Name y py) (compEnvC scope cl C env) v) Q E s :=
  wpAny_assign_Name (wpAny_storeName_local (env := compEnvC scope cl C env) (lookup_relabel_local hy) hn h (by simp [compEnvC, relabel, hk]))

abbrev tup2 (x : Int) (t : Tok) (y : Int) (u : Tok) : Obj := { cls := .type "tuple", data := .seq [.int x t, .int y u].toArray }

theorem comp_mod {x : Str} {px px' cp ep : Pos} {ck : Nat} {l : Addr} {vs : List Value} {ns : List Int} (F : Fr g L s.heap m) (N : News g L s.heap news) (hl : s.heap.IsList l vs.toArray) (hi : IntsAre vs ns) (hh : A.handled = none) (hsz : vs.length ≤ sizeLine)
    (hcell : ∀ y ∈ scope.names, y.2 ≠ .cell) (hkind : scope.kind = .function) (hx : scope.names.lookup x = some .local) (hdb : (x == ("__debug__" : Str)) = false)
    (done : ∀ D ys h tk, Fr g L h m → News g L h ((D, lst ys) :: news) → (∀ p ∈ news, p.1 < D) → IntsAre ys (ns.map fun a : Int => a.fmod 8) → Q (.ref D) { s with heap := h, toks := tk }) :
    wpAny (model prog w) A (pyIter (.ref l)) (fun it s₂ => CompAt prog w A E none (.ListComp (.BinOp (.Name x px') .Mod (.Constant (.int 8) ck cp) ep) [⟨.Name x px, iter, [], 0⟩] scope pos) scope cl env Q it s₂) E s := by
  refine comp_list F N hl hh hsz hcell hkind (fun v hv => .inr ⟨_, _, rfl⟩) (fun i ys h => IntsAre ys ((ns.take i).map fun a : Int => a.fmod 8)) (fun _ _ => .nil) (fun i ys h h' hJ _ => hJ) ?_ ?_
  · intro i v ys h mc tk hv st F' N' hn hJ
    obtain ⟨n, t, rfl, hn'⟩ := hi.at i v hv
    refine turn_noif (cn_store hkind hx hn fun h₁ hn₁ hs₁ => wpAny_BinOp (cn_local hkind hx hdb hn₁ (if_pos rfl) (wpAny_Constant_int (mod_int (by decide) ?_))))
    refine ⟨h₁, _, rfl, fun b o e hb => (hs₁.2 b (by simpa using hb)).trans e, ⟨_, hn₁⟩, ?_⟩
    rw [List.take_add_one, hn', List.map_append]
    exact IntsAre.append hJ (.cons _ _ .nil)
  · refine CompDone.none F N (fun _ _ _ hK _ => hK) fun D ys h tk F' N' hlt hJ => ?_
    rw [hi.length, List.take_length] at hJ
    exact done D ys h tk F' N' hlt hJ

/-- made pairs, one beside the other -/
inductive TupsAt (h : Heap) (lo : Addr) : List Value → List (Int × Int) → Prop
  | nil : TupsAt h lo [] []
  | cons {a : Addr} {t u : Tok} {p : Int × Int} {vs ps} : @LT.lt Nat _ lo a → h.get? a = some (tup2 p.1 t p.2 u) → TupsAt h lo vs ps → TupsAt h lo (.ref a :: vs) (p :: ps)
theorem TupsAt.snoc {h : Heap} {lo a : Addr} {t u : Tok} {p : Int × Int} (hlo : @LT.lt Nat _ lo a) (e : h.get? a = some (tup2 p.1 t p.2 u)) : ∀ {vs ps}, TupsAt h lo vs ps → TupsAt h lo (vs ++ [.ref a]) (ps ++ [p])
  | _, _, .nil => .cons hlo e .nil
  | _, _, .cons a b r => .cons a b (r.snoc hlo e)
theorem TupsAt.keeps {h h' : Heap} {lo : Addr} (k : ∀ b o, h.get? b = some o → @LT.lt Nat _ lo b → h'.get? b = some o) : ∀ {vs ps}, TupsAt h lo vs ps → TupsAt h' lo vs ps
  | _, _, .nil => .nil
  | _, _, .cons a b r => .cons a (k _ _ b a) (r.keeps k)
theorem TupsAt.length {h : Heap} {lo : Addr} : ∀ {vs ps}, TupsAt h lo vs ps → vs.length = ps.length
  | _, _, .nil => rfl
  | _, _, .cons a b r => by rw [List.length_cons, List.length_cons, r.length]

theorem TupsAt.but {h h' : Heap} {n L : Addr} {vs ps} (hT : TupsAt h (n + 2) vs ps) (hL : @LT.lt Nat _ L n) (k : ∀ b o, h.get? b = some o → b ≠ L → b ≠ n + 2 → h'.get? b = some o) : TupsAt h' (n + 2) vs ps :=
  hT.keeps fun b o e hlt => k b o e (Nat.ne_of_gt (Nat.lt_trans (Nat.lt_succ_of_lt (Nat.lt_succ_of_lt hL)) hlt)) (Nat.ne_of_gt hlt)
theorem TupsAt.same {h h' : Heap} {n : Addr} {vs ps} (hT : TupsAt h (n + 2) vs ps) (hs : Heap.SameBut (n + 2) h h') : TupsAt h' (n + 2) vs ps :=
  hT.keeps fun b o e hlt => (hs.2 b (Nat.ne_of_gt hlt)).trans e
/-- an element that is a new pair -/
def EltPair (prog : Program) (w : World) (A : Around) (elt : PySem.Expr) (cenv : Env) (p : Int × Int) (s : Shared) : Prop :=
  wpAny (model prog w) A (eval elt cenv) (fun y s₅ => ∃ t u tk, y = .ref s.heap.objs.size ∧ s₅ = { s with heap := s.heap.push (tup2 p.1 t p.2 u), toks := tk }) NoErr s

theorem comp_pairs {elt : PySem.Expr} {x y : Str} {px py tp : Pos} {kk : Nat} {l : Addr} {ts : List Value} {qs : List (Int × Int)} (f : Int × Int → Int × Int) (F : Fr g L s.heap m) (N : News g L s.heap news)
    (hl : s.heap.IsList l ts.toArray) (hts : ∀ (i : Nat) v, ts[i]? = some v → ∃ a t u q, v = .ref a ∧ qs[i]? = some q ∧ IsTup s.heap a [.int q.1 t, .int q.2 u].toArray) (hlen : ts.length = qs.length) (hh : A.handled = none) (hsz : ts.length ≤ sizeLine)
    (hcell : ∀ y ∈ scope.names, y.2 ≠ .cell) (hkind : scope.kind = .function) (hx : scope.names.lookup x = some .local) (hy : scope.names.lookup y = some .local)
    (helt : ∀ q ∈ qs, ∀ h (mc : Str → Option Value) tk t u, s.heap.StaysIn h → h.Ns (s.heap.objs.size + 2) (fun z => if z = y then some (.int q.2 u) else if z = x then some (.int q.1 t) else mc z) → EltPair prog w A elt (compEnvC scope cl (s.heap.objs.size + 2) env) (f q) { s with heap := h, toks := tk })
    (done : CompDone prog w A E use Q g L m news s (fun ys h => TupsAt h (s.heap.objs.size + 2) ys (qs.map f))) :
    wpAny (model prog w) A (pyIter (.ref l)) (fun it s₂ => CompAt prog w A E use (.ListComp elt [⟨.Tuple [.Name x px, .Name y py] kk tp, iter, [], 0⟩] scope pos) scope cl env Q it s₂) E s := by
  refine comp_list F N hl hh hsz hcell hkind (fun v hv => .inl ?_) (fun i ys h => TupsAt h (s.heap.objs.size + 2) ys ((qs.take i).map f)) (fun _ _ => .nil) (fun i ys h h' hJ hk => hJ.keeps fun b o e hlt => hk b o e (Nat.ne_of_gt (Nat.lt_of_succ_lt (Nat.lt_of_succ_lt hlt))) (Nat.ne_of_gt (Nat.lt_of_succ_lt hlt)) (Nat.ne_of_gt hlt)) ?_ ?_
  · obtain ⟨i, hi⟩ := List.mem_iff_getElem?.mp hv
    obtain ⟨a, t, u, q, rfl, _⟩ := hts i v hi
    exact ⟨_, _, _, _, rfl, rfl⟩
  · intro i v ys h mc tk hv st F' N' hn hJ
    obtain ⟨a, t, u, q, rfl, hq, it⟩ := hts i v hv
    refine turn_noif ?_
    refine kcp_assign (env := compEnvC scope cl (s.heap.objs.size + 2) env) hh (isTuple_of (IsTup.keeps it st)) (lookup_relabel_local hx) (lookup_relabel_local hy) (by simp [compEnvC, relabel, hkind]) hn fun h₄ tk₄ hn₄ hs₄ => ?_
    have hs₄' : ∀ b o, b ≠ s.heap.objs.size + 2 → h.get? b = some o → h₄.get? b = some o := hs₄
    have st₄ : s.heap.StaysIn h₄ := fun b o e => hs₄' b o (Nat.ne_of_lt (Nat.lt_succ_of_lt (Nat.lt_succ_of_lt (Heap.lt_size e)))) (st b o e)
    refine wpAny_mono (helt q (List.mem_of_getElem? hq) h₄ mc tk₄ t u st₄ hn₄) ?_ fun _ _ x => x
    rintro _ _ ⟨t', u', tk', rfl, rfl⟩
    dsimp only
    refine ⟨_, tk', rfl, fun b o e hb => Heap.get?_push_of_some _ (hs₄' b o (by simpa using hb) e), ⟨_, Heap.Ns.push hn₄ _⟩, ?_⟩
    rw [List.take_add_one, hq, List.map_append]
    have hlt : @LT.lt Nat _ (s.heap.objs.size + 2) h₄.objs.size := Heap.Ns.lt hn₄
    exact TupsAt.snoc (p := f q) hlt (Heap.get?_push_size _ rfl) (hJ.keeps fun b o e hlt => Heap.get?_push_of_some _ (hs₄' b o (Nat.ne_of_gt hlt) e))
  · rw [hlen, List.take_length]
    exact done
end
end Mine

-- G7
open PySem PySem.W PyProof.Rows PySem.Calls
set_option Elab.async false
set_option linter.unusedVariables false
namespace Mine
set_option maxRecDepth 100000

section
variable {prog : Program} {w : World} {A : Around} {E : Value → Shared → Prop} {iter : PySem.Expr} {scope : Scope} {pos : Pos} {cl : List (Str × Addr)} {env : Env} {use : Option (Value → Sem Unit)} {Q : Value → Shared → Prop} {s : Shared} {C : Addr} {mc : Str → Option Value}
variable {g : Heap} {L : Addr} {m : Str → Option Value} {news : List (Addr × Obj)}

theorem isCell_keeps {h h' : Heap} {c : Addr} {v : Option Value} (x : h.IsCell c v) (k : h.StaysIn h') : h'.IsCell c v := let ⟨o, e, r⟩ := x; ⟨o, k _ _ e, r⟩

theorem elt_shear {x y : Str} {p1 p2 p3 p4 p5 : Pos} {k1 : Nat} {q : Int × Int} {t u : Tok} (hk : scope.kind = .function) (hx : scope.names.lookup x = some .local) (hy : scope.names.lookup y = some .local)
    (dx : (x == ("__debug__" : Str)) = false) (dy : (y == ("__debug__" : Str)) = false) (hxy : x ≠ y) (hn : s.heap.Ns C (fun z => if z = y then some (.int q.2 u) else if z = x then some (.int q.1 t) else mc z)) :
    EltPair prog w A (.Tuple [.BinOp (.Name x p1) .Add (.Name y p2) p3, .Name y p4] k1 p5) (compEnvC scope cl C env) (q.1 + q.2, q.2) s := by
  refine Tuple_ (args_cons (wpAny_BinOp (cn_local hk hx dx hn (by rw [if_neg hxy, if_pos rfl]) (cn_local hk hy dy hn (if_pos rfl) (add_int ?_)))))
  refine args_cons (cn_local hk hy dy hn (if_pos rfl) (args_nil ?_))
  exact wpAny_newObj_type ⟨_, _, _, rfl, rfl⟩

theorem elt_moved {x y z0 : Str} {p1 p2 p3 p4 p5 p6 p7 p8 p9 p10 p11 : Pos} {k1 k2 k3 k4 : Nat} {q : Int × Int} {t u : Tok} {c S : Addr} {vs : List Value} {ns : List Int} (hk : scope.kind = .function) (hx : scope.names.lookup x = some .local) (hy : scope.names.lookup y = some .local)
    (dx : (x == ("__debug__" : Str)) = false) (dy : (y == ("__debug__" : Str)) = false) (dz : (z0 == ("__debug__" : Str)) = false) (hxy : x ≠ y) (hz : (relabel scope env).names.lookup z0 = some .cell) (hc : cl.lookup z0 = some c)
    (hcell : s.heap.IsCell c (some (.ref S))) (hl : s.heap.IsList S vs.toArray) (hi : IntsAre vs ns) (h8 : ns.length = 8)
    (hn : s.heap.Ns C (fun z => if z = y then some (.int q.2 u) else if z = x then some (.int q.1 t) else mc z)) :
    EltPair prog w A (.Tuple [.BinOp (.BinOp (.Name x p1) .Add (.Subscript (.Name z0 p2) (.Constant (.int 0) k1 p3) p4) p5) .Sub (.Constant (.int 9) k2 p6) p7, .BinOp (.Name y p8) .Add (.Constant (.int 3) k3 p9) p10] k4 p11) (compEnvC scope cl C env) (q.1 + ns.getD 0 0 - 9, q.2 + 3) s := by
  refine Tuple_ (args_cons (wpAny_BinOp (wpAny_BinOp (cn_local hk hx dx hn (by rw [if_neg hxy, if_pos rfl]) ?_))))
  refine Subscript_ (cn_cell hk hz hc dz hcell (wpAny_Constant_int ?_))
  refine item_anyK hl hi (by decide) (by omega) (by decide) (fun t' => ?_) (by with_unfolding_all rfl)
  refine add_int (wpAny_Constant_int (sub_int ?_))
  refine args_cons (wpAny_BinOp (cn_local (C := C) hk hy dy hn (if_pos rfl) (wpAny_Constant_int (add_int (args_nil ?_)))))
  exact wpAny_newObj_type ⟨_, _, _, rfl, rfl⟩

theorem comp_range {elt : PySem.Expr} {x : Str} {px : Pos} {r : Addr} {b₀ : Int} {t₀ u₀ v₀ : Tok} {n : Nat} (f : Nat → Int × Int) (F : Fr g L s.heap m) (N : News g L s.heap news)
    (hr : IsRange s.heap r 0 b₀ 1 t₀ u₀ v₀) (hsmall : Builtin.Range.small 0 b₀ 1 = true) (hn : Builtin.Range.rangeSize 0 b₀ 1 = (n : Int)) (hh : A.handled = none) (hsz : n ≤ sizeLine)
    (hcell : ∀ y ∈ scope.names, y.2 ≠ .cell) (hkind : scope.kind = .function) (hx : scope.names.lookup x = some .local)
    (helt : ∀ i, i < n → ∀ h (mc : Str → Option Value) tk t, s.heap.StaysIn h → h.Ns (s.heap.objs.size + 2) (fun z => if z = x then some (.int (i : Int) t) else mc z) → EltPair prog w A elt (compEnvC scope cl (s.heap.objs.size + 2) env) (f i) { s with heap := h, toks := tk })
    (done : CompDone prog w A E use Q g L m news s (fun ys h => TupsAt h (s.heap.objs.size + 2) ys ((List.range n).map f))) :
    wpAny (model prog w) A (pyIter (.ref r)) (fun it s₂ => CompAt prog w A E use (.ListComp elt [⟨.Name x px, iter, [], 0⟩] scope pos) scope cl env Q it s₂) E s := by
  refine wpAny_pyIter_range hr hsmall ?_
  rw [hn]
  have hs1 : (s.heap.push { cls := .type "range_iterator", data := .fields #[rawInt 0, rawInt n, rawInt 1] }).objs.size = s.heap.objs.size + 1 := Heap.size_push ..
  have stp : s.heap.StaysIn (s.heap.push { cls := .type "range_iterator", data := .fields #[rawInt 0, rawInt n, rawInt 1] }) := fun b o e => Heap.get?_push_of_some _ e
  have W := Walks.range (prog := prog) (w := w) hh s.heap.objs.size 0 1 n
  have sub : ∀ {h : Heap}, (∀ b o, (s.heap.push { cls := .type "range_iterator", data := .fields #[rawInt 0, rawInt n, rawInt 1] }).get? b = some o → b ≠ s.heap.objs.size → h.get? b = some o) → s.heap.StaysIn h :=
    fun k b o e => k b o (stp b o e) (Nat.ne_of_lt (Heap.lt_size e))
  unfold CompAt
  refine comp_walks (s₂ := { s with heap := s.heap.push { cls := .type "range_iterator", data := .fields #[rawInt 0, rawInt n, rawInt 1] } }) W (fun b hb => ?_) (by show IsRangeIter _ _ _ _ _; simpa using Heap.get?_push_size _ rfl) (by show _ < (Heap.push _ _).objs.size; rw [hs1]; exact Nat.lt_succ_self _) hsz hcell hkind ?_
    (fun i ys h => TupsAt h (s.heap.objs.size + 2) ys ((List.range i).map f)) .nil ?_ ?_ ?_
  · show _ < (Heap.push _ _).objs.size
    rw [hs1, List.mem_singleton.mp hb]
    exact Nat.lt_succ_self _
  · intro i v s' Q' hP hst hq
    exact wpAny_of_eq (a := ()) rfl hq
  · intro i ys h h' hJ hk
    refine hJ.keeps fun b o e hlt => hk b o e (Nat.ne_of_gt (Nat.lt_of_succ_lt (Nat.lt_of_succ_lt hlt))) ?_ ?_
    · show b ≠ (Heap.push _ _).objs.size; rw [hs1]; exact Nat.ne_of_gt (Nat.lt_of_succ_lt hlt)
    · show b ≠ (Heap.push _ _).objs.size + 1; rw [hs1]; exact Nat.ne_of_gt hlt
  · intro i v ys h mc tk hi hP hk hnn hJ _
    dsimp only at hnn ⊢
    rw [hs1] at hnn ⊢
    have hst := sub hk
    obtain ⟨t, rfl⟩ := hP
    have ei : (0 : Int) + (i : Int) * 1 = (i : Int) := by omega
    rw [ei]
    refine turn_noif (cn_store hkind hx hnn fun h₁ hn₁ hs₁ => ?_)
    have hs₁' : ∀ b o, b ≠ s.heap.objs.size + 2 → h.get? b = some o → h₁.get? b = some o := fun b o hb e => (hs₁.2 b hb).trans e
    have st₁ : s.heap.StaysIn h₁ := fun b o e => hs₁' b o (Nat.ne_of_lt (Nat.lt_succ_of_lt (Nat.lt_succ_of_lt (Heap.lt_size e)))) (hst b o e)
    refine wpAny_mono (helt i hi h₁ mc _ t st₁ hn₁) ?_ fun _ _ x => x
    rintro _ _ ⟨t', u', tk', rfl, rfl⟩
    dsimp only
    refine ⟨_, tk', rfl, fun b o e hb => Heap.get?_push_of_some _ (hs₁' b o (by simpa using hb) e), ⟨_, Heap.Ns.push hn₁ _⟩, ?_⟩
    rw [List.range_succ, List.map_append]
    have hlt : @LT.lt Nat _ (s.heap.objs.size + 2) h₁.objs.size := Heap.Ns.lt hn₁
    exact TupsAt.snoc (p := f i) hlt (Heap.get?_push_size _ rfl) (hJ.keeps fun b o e hlt => Heap.get?_push_of_some _ (hs₁' b o (Nat.ne_of_gt hlt) e))
  · intro ys h tk mc hk hD hnn hJ
    dsimp only at hD hnn ⊢
    rw [hs1] at hD hnn ⊢
    have hst := sub hk
    have F' := F.keeps hst
    refine done ys h tk mc hst F' (fun p hp => ?_) hnn hJ
    rcases List.mem_cons.mp hp with rfl | hp
    · exact fresh_entry F (Heap.get?_none_of_le (Nat.le_succ _)) hD
    · exact N.grown hst p hp

theorem elt_corner {x z0 : Str} {p1 p2 p3 p4 p5 p6 p7 p8 p9 p10 p11 p12 p13 : Pos} {k1 k2 k3 k4 : Nat} {i : Nat} {t : Tok} {c S : Addr} {vs : List Value} {ns : List Int} (hk : scope.kind = .function) (hx : scope.names.lookup x = some .local)
    (dx : (x == ("__debug__" : Str)) = false) (dz : (z0 == ("__debug__" : Str)) = false) (hz : (relabel scope env).names.lookup z0 = some .cell) (hc : cl.lookup z0 = some c)
    (hcell : s.heap.IsCell c (some (.ref S))) (hl : s.heap.IsList S vs.toArray) (hi : IntsAre vs ns) (h8 : ns.length = 8) (h4 : i < 4)
    (hn : s.heap.Ns C (fun z => if z = x then some (.int (i : Int) t) else mc z)) :
    EltPair prog w A (.Tuple [.Subscript (.Name z0 p1) (.BinOp (.Constant (.int 2) k1 p2) .Mult (.Name x p3) p4) p5, .Subscript (.Name z0 p6) (.BinOp (.BinOp (.Constant (.int 2) k2 p7) .Mult (.Name x p8) p9) .Add (.Constant (.int 1) k3 p10) p11) p12] k4 p13) (compEnvC scope cl C env)
      (ns.getD (2 * i) 0, ns.getD (2 * i + 1) 0) s := by
  have hm : IntMulOk 2 (i : Int) := PySem.IntMulOk.of_left (PySem.intBits_le_64 (by decide) (by decide))
  refine Tuple_ (args_cons (Subscript_ (cn_cell hk hz hc dz hcell (wpAny_BinOp (wpAny_Constant_int (cn_local (C := C) hk hx dx hn (if_pos rfl) (mul_int ?_ hm)))))))
  refine item_anyK hl hi (by omega) (by omega) (by omega) (fun t' => ?_) (by with_unfolding_all rfl)
  refine args_cons (Subscript_ (cn_cell hk hz hc dz hcell (wpAny_BinOp (wpAny_BinOp (wpAny_Constant_int (cn_local (C := C) hk hx dx hn (if_pos rfl) (mul_int (wpAny_Constant_int (add_int ?_)) hm)))))))
  refine item_anyK hl hi (by omega) (by omega) (by omega) (fun t'' => args_nil ?_) (by with_unfolding_all rfl)
  have e1 : (2 * (i : Int)).toNat = 2 * i := by omega
  have e2 : (2 * (i : Int) + 1).toNat = 2 * i + 1 := by omega
  rw [e1, e2]
  exact wpAny_newObj_type ⟨_, _, _, rfl, rfl⟩
end
end Mine

-- G8
open PySem PySem.W PyProof.Rows PySem.Calls
set_option Elab.async false
set_option linter.unusedVariables false
namespace Mine
set_option maxRecDepth 100000

section
variable {prog : Program} {w : World} {A : Around} {E : Value → Shared → Prop} {scope : Scope} {pos : Pos} {cl : List (Str × Addr)} {env : Env} {s : Shared}

theorem compTurn_two0 (elt t1 i1 t2 i2 : PySem.Expr) (scope : Scope) (pos : Pos) (it acc : Value) (env : Env) :
    compTurn (.ListComp elt [⟨t1, i1, [], 0⟩, ⟨t2, i2, [], 0⟩] scope pos) 0 it acc env = (do
      standAt i1.pos
      match ← pyNext it with
      | none => pure (.done .next)
      | some v =>
        letOwnedTupleGo t1 it v
        assign t1 env v
        let x ← eval i2 env
        standAt i2.pos
        let x ← foldedSetIterable i2 env x
        let _ ← runOwn (.compStart (.ListComp elt [⟨t1, i1, [], 0⟩, ⟨t2, i2, [], 0⟩] scope pos) 1 (← holding [x] (pyIter x)) acc env) env
        again (.compLoop (.ListComp elt [⟨t1, i1, [], 0⟩, ⟨t2, i2, [], 0⟩] scope pos) 0 it acc env)) := by rfl
theorem compTurn_two1 (elt t1 i1 t2 i2 : PySem.Expr) (scope : Scope) (pos : Pos) (it acc : Value) (env : Env) :
    compTurn (.ListComp elt [⟨t1, i1, [], 0⟩, ⟨t2, i2, [], 0⟩] scope pos) 1 it acc env = (do
      standAt i2.pos
      match ← pyNext it with
      | none => pure (.done .next)
      | some v =>
        letOwnedTupleGo t2 it v
        assign t2 env v
        (do let _ ← call (.builtin "list.append") [acc, ← eval elt env])
        again (.compLoop (.ListComp elt [⟨t1, i1, [], 0⟩, ⟨t2, i2, [], 0⟩] scope pos) 1 it acc env)) := by rfl

theorem TupsAt.keepsT {h h' : Heap} {lo : Addr} (k : ∀ b o, h.get? b = some o → @LT.lt Nat _ lo b → o.cls = .type "tuple" → h'.get? b = some o) : ∀ {vs ps}, TupsAt h lo vs ps → TupsAt h' lo vs ps
  | _, _, .nil => .nil
  | _, _, .cons a b r => .cons a (k _ _ b a rfl) (r.keepsT k)
theorem mark_none (A : Around) : A.mark none = A := by cases A; rfl

theorem start_two1 {elt t1 i1 t2 i2 : PySem.Expr} {it acc : Value} {R : Result → Shared → Prop}
    (h0 : codeAny (model prog w) A (.compLoop (.ListComp elt [⟨t1, i1, [], 0⟩, ⟨t2, i2, [], 0⟩] scope pos) 1 it acc env) R s)
    (h : wpAny (model prog w) A (pyIter it) (fun it' s' => codeAny (model prog w) A (.compLoop (.ListComp elt [⟨t1, i1, [], 0⟩, ⟨t2, i2, [], 0⟩] scope pos) 1 it' acc env) R s') NoErr s) :
    codeAny (model prog w) A (.compStart (.ListComp elt [⟨t1, i1, [], 0⟩, ⟨t2, i2, [], 0⟩] scope pos) 1 it acc env) R s := by
  refine codeAny_of_tree ?_
  show wpAny _ _ ((compStart (.ListComp elt [⟨t1, i1, [], 0⟩, ⟨t2, i2, [], 0⟩] scope pos) 1 it acc env).onRaise (fun x => do noteFrame x env; standAt theWindowsPlace)) _ _ s
  refine wpAny_notedAt ?_
  unfold compStart
  show wpAny _ _ (ask >>= _) _ _ s
  refine wpAny_bind (wpAny_askSetting (wpAny_ite ?_))
  split
  · first
      | exact wpAny_bind (wpAny_pure (wpAny_pure (And.intro rfl h0)))
      | exact wpAny_pure (And.intro rfl h0)
  · refine wpAny_bind (wpAny_rule ?_)
    show wpAny _ _ (standAt i2.pos >>= _) _ _ s
    exact wpAny_bind (wpAny_standAt (wpAny_bind (wpAny_mono h (fun it' s' h' => wpAny_pure (And.intro rfl h')) fun _ _ x => x.elim)))

variable {iter : PySem.Expr} {use : Option (Value → Sem Unit)} {Q : Value → Shared → Prop} {g : Heap} {L : Addr} {m : Str → Option Value} {news : List (Addr × Obj)}

/-- between two inner rounds -/
inductive IInv (s : Shared) (s₀ : Heap) (C D I2 I : Addr) (oI : Obj) (n2 : Nat) (x : Str) (vx : Value) (n0 : Nat) (ps : List (Int × Int)) (f : Nat → Int × Int) (k : Nat) (s' : Shared) : Prop
  | mk (h : Heap) (tk : Tok) (j : Nat) (ys : List Value) (mc : Str → Option Value) (es : s' = { s with heap := h, toks := tk }) (hj : j ≤ n2) (ek : k = n2 + 1 - j) (hst : IsRangeIter h I2 (0 + (j : Int) * 1) ((n2 : Int) - (j : Int)) 1) (hs : s₀.StaysIn h) (hI : h.get? I = some oI)
    (hD : h.get? D = some (lst ys)) (hn : h.Ns C mc) (hmx : mc x = some vx) (hT : TupsAt h C ys (ps ++ (List.range j).map f)) (hyl : ys.length = n0 + j)
/-- the inner rounds -/
theorem two_inner {elt i1 i2 t1 : PySem.Expr} {x y : Str} {py : Pos} {s₀ : Heap} {C D I2 I : Addr} {n2 : Nat} {i : Nat} {t : Tok} (f : Nat → Int × Int) {R : Result → Shared → Prop} {ys : List Value} {ps : List (Int × Int)} {oI : Obj} {mc : Str → Option Value}
    (hh : A.handled = none) (hkind : scope.kind = .function) (hy : scope.names.lookup y = some .local) (hxy : x ≠ y)
    (hIC : I ≠ C) (hID : I ≠ D) (hI2I : I2 ≠ I) (hI2C : I2 ≠ C) (hI2D : I2 ≠ D) (hDC : D ≠ C) (hDlo : @LT.lt Nat _ D C) (hC0 : s₀.get? C = none) (hD0 : s₀.get? D = none) (hI20 : s₀.get? I2 = none) (hsz : ys.length + n2 ≤ sizeLine) (hI2C' : @LT.lt Nat _ C I2) (hI2t : ∀ h : Heap, s.heap.get? I2 = some { cls := .type "range_iterator", data := .fields #[rawInt 0, rawInt n2, rawInt 1] })
    (st : s₀.StaysIn s.heap) (hI : s.heap.get? I = some oI) (hD : s.heap.get? D = some (lst ys)) (hn : s.heap.Ns C mc) (hmx : mc x = some (.int (i : Int) t)) (hT : TupsAt s.heap C ys ps)
    (helt : ∀ j, j < n2 → ∀ h (mc : Str → Option Value) tk u, s₀.StaysIn h → mc x = some (.int (i : Int) t) → h.Ns C (fun z => if z = y then some (.int (j : Int) u) else mc z) → EltPair prog w A elt (compEnvC scope cl C env) (f j) { s with heap := h, toks := tk })
    (done : ∀ h tk ys' mc', s₀.StaysIn h → h.get? I = some oI → h.get? D = some (lst ys') → h.Ns C mc' → TupsAt h C ys' (ps ++ (List.range n2).map f) → R (.ok .next) { s with heap := h, toks := tk }) :
    codeAny (model prog w) A (.compLoop (.ListComp elt [⟨t1, i1, [], 0⟩, ⟨.Name y py, i2, [], 0⟩] scope pos) 1 (.ref I2) (.ref D) (compEnvC scope cl C env)) R s := by
  have W := Walks.range (prog := prog) (w := w) hh I2 0 1 n2
  have hst0 : IsRangeIter s.heap I2 (0 + ((0 : Nat) : Int) * 1) ((n2 : Int) - ((0 : Nat) : Int)) 1 := by simpa using hI2t s.heap
  refine codeAny_loop rfl (IInv s s₀ C D I2 I oI n2 x (.int (i : Int) t) ys.length ps f) (fun k s' hI' => ?_) (n2 + 1) ⟨s.heap, s.toks, 0, ys, mc, rfl, Nat.zero_le _, rfl, hst0, st, hI, hD, hn, hmx, by simpa using hT, rfl⟩
  obtain ⟨h, tk, j, ys', mc', es, hj, ek, hst', hs', hI', hD', hn', hmx', hT', hyl⟩ := hI'
  subst es ek
  show wpAny _ A ((compTurn (.ListComp elt [⟨t1, i1, [], 0⟩, ⟨.Name y py, i2, [], 0⟩] scope pos) 1 (.ref I2) (.ref D) (compEnvC scope cl C env)).onRaise (fun x => do noteFrame x (compEnvC scope cl C env); theTreesLotGoes x)) _ _ _
  refine wpAny_noted ?_
  rw [compTurn_two1]
  refine wpAny_bind (wpAny_standAt (wpAny_bind ?_))
  by_cases hlt : j < n2
  · refine W.item j _ _ _ hlt hst' fun v h₂ tk₂ hPv hst₂ hk₂ => ?_
    have hk : ∀ b o, b ≠ I2 → h.get? b = some o → h₂.get? b = some o := fun b o hb e => hk₂ b o (by simpa using hb) e
    obtain ⟨u, rfl⟩ := hPv
    have ej : (0 : Int) + (j : Int) * 1 = (j : Int) := by rw [Int.zero_add, Int.mul_one]
    rw [ej]
    refine wpAny_bind (wpAny_of_eq (a := ()) rfl ?_)
    refine wpAny_bind (cn_store hkind hy (hn'.at' fun o e => hk _ o (Ne.symm hI2C) e) fun h₃ hn₃ hs₃ => ?_)
    have hk₃ : ∀ b o, b ≠ C → h₂.get? b = some o → h₃.get? b = some o := fun b o hb e => (hs₃.2 b hb).trans e
    have hs₃' : s₀.StaysIn h₃ := fun b o e => hk₃ b o (fun q => by rw [q, hC0] at e; cases e) (hk b o (fun q => by rw [q, hI20] at e; cases e) (hs' b o e))
    refine wpAny_bind (wpAny_bind (wpAny_mono (helt j hlt h₃ mc' _ u hs₃' hmx' hn₃) ?_ fun _ _ x => x.elim))
    rintro _ _ ⟨t', u', tk', rfl, rfl⟩
    dsimp only
    have hD₄ : (h₃.push (tup2 (f j).1 t' (f j).2 u')).get? D = some (lst ys') := Heap.get?_push_of_some _ (hk₃ _ _ hDC (hk _ _ (Ne.symm hI2D) hD'))
    refine wpAny_bind (append_at (hsz := by show ys'.toArray.size ≤ sizeLine; rw [List.size_toArray, hyl]; exact Nat.le_trans (Nat.add_le_add_left hj _) hsz) hD₄ fun h₆ hs₆ hD₆ => ?_)
    have up : ∀ b o, b ≠ D → b ≠ C → b ≠ I2 → h.get? b = some o → h₆.get? b = some o := fun b o h1 h2 h3 e => hs₆.extBut b o h1 (Heap.get?_push_of_some _ (hk₃ b o h2 (hk b o h3 e)))
    have hCs : @LT.lt Nat _ C h₃.objs.size := Heap.Ns.lt hn₃
    have hDne : h₃.objs.size ≠ D := Nat.ne_of_gt (Nat.lt_trans hDlo hCs)
    refine wpAny_pure (wpAny_pure ⟨rfl, n2 + 1 - (j + 1), Nat.sub_lt_sub_left (Nat.lt_succ_of_lt hlt) (Nat.lt_succ_self j), h₆, tk', j + 1, ys' ++ [.ref h₃.objs.size], _, rfl, hlt, rfl, ?_, ?_, ?_, ?_, (Heap.Ns.push hn₃ _).at' (fun o e => hs₆.extBut _ o (Ne.symm hDC) e), ?_, ?_, ?_⟩)
    · exact hs₆.extBut _ _ hI2D (Heap.get?_push_of_some _ (hk₃ _ _ hI2C hst₂))
    · exact fun b o e => hs₆.extBut b o (fun q => by rw [q, hD0] at e; cases e) (Heap.get?_push_of_some _ (hs₃' b o e))
    · exact up _ _ hID hIC (Ne.symm hI2I) hI'
    · rw [hD₆]; simp [lst]
    · rw [if_neg hxy]; exact hmx'
    · rw [List.range_succ, List.map_append, ← List.append_assoc]
      exact TupsAt.snoc (p := f j) hCs (hs₆.extBut _ _ hDne (Heap.get?_push_size _ rfl)) (hT'.keepsT fun b o e hlt hc => hs₆.extBut b o (Nat.ne_of_gt (Nat.lt_trans hDlo hlt)) (Heap.get?_push_of_some _ (hk₃ b o (Nat.ne_of_gt hlt) (hk b o (fun q => by
        rw [q, hst'] at e
        cases e
        exact absurd hc (by simp)) e))))
    · rw [List.length_append, hyl]; rfl
  · have hin : j = n2 := Nat.le_antisymm hj (Nat.not_lt.mp hlt)
    subst hin
    refine W.done _ _ _ hst' fun h' tk' hk' => ?_
    have up : ∀ b o, b ≠ I2 → h.get? b = some o → h'.get? b = some o := fun b o hb e => hk' b o (by simpa using hb) e
    refine wpAny_pure ?_
    refine done h' tk' ys' mc' (fun b o e => up b o (fun q => by rw [q, hI20] at e; cases e) (hs' b o e)) (up _ _ (Ne.symm hI2I) hI') (up _ _ (Ne.symm hI2D) hD') (hn'.at' fun o e => up _ o (Ne.symm hI2C) e) ?_
    exact hT'.keepsT fun b o e hlt hc => up b o (fun q => by
      rw [q, hst'] at e
      cases e
      exact absurd hc (by simp)) e

theorem flat_len (f : Nat → Nat → Int × Int) (n2 : Nat) : ∀ i, ((List.range i).flatMap fun i => (List.range n2).map (f i)).length = i * n2
  | 0 => by simp
  | i + 1 => by
    rw [List.range_succ, List.flatMap_append, List.length_append, flat_len f n2 i, Nat.add_mul, Nat.one_mul]
    simp
/-- between two outer rounds -/
inductive OInv (s : Shared) (n1 n2 : Nat) (f : Nat → Nat → Int × Int) (k : Nat) (s' : Shared) : Prop
  | mk (h : Heap) (tk : Tok) (i : Nat) (ys : List Value) (mc : Str → Option Value) (es : s' = { s with heap := h, toks := tk }) (hi : i ≤ n1) (ek : k = n1 + 1 - i) (hst : IsRangeIter h s.heap.objs.size (0 + (i : Int) * 1) ((n1 : Int) - (i : Int)) 1) (hs : s.heap.StaysIn h)
    (hD : h.get? (s.heap.objs.size + 1) = some (lst ys)) (hn : h.Ns (s.heap.objs.size + 2) mc) (hT : TupsAt h (s.heap.objs.size + 2) ys ((List.range i).flatMap fun i => (List.range n2).map (f i)))
inductive REnd (s : Shared) (h₃ : Heap) (b : Int) (xv : Value) (s' : Shared) : Prop
  | mk (h : Heap) (tk : Tok) (r : Addr) (t u v : Tok) (ev : xv = .ref r) (es : s' = { s with heap := h, toks := tk }) (st : h₃.StaysIn h) (hr : IsRange h r 0 b 1 t u v)
/-- what the inner rounds leave -/
inductive IEnd (s : Shared) (n1 n2 : Nat) (f : Nat → Nat → Int × Int) (i : Nat) (r : Result) (s' : Shared) : Prop
  | mk (h : Heap) (tk : Tok) (ys : List Value) (mc : Str → Option Value) (er : r = .ok .next) (es : s' = { s with heap := h, toks := tk }) (hs : s.heap.StaysIn h)
    (hst : h.get? s.heap.objs.size = some { cls := .type "range_iterator", data := .fields #[rawInt (0 + ((i + 1 : Nat) : Int) * 1), rawInt ((n1 : Int) - ((i + 1 : Nat) : Int)), rawInt 1] }) (hD : h.get? (s.heap.objs.size + 1) = some (lst ys)) (hn : h.Ns (s.heap.objs.size + 2) mc)
    (hT : TupsAt h (s.heap.objs.size + 2) ys (((List.range i).flatMap fun i => (List.range n2).map (f i)) ++ (List.range n2).map (f i)))
theorem comp_two {elt i2 : PySem.Expr} {x y : Str} {px py : Pos} {r : Addr} {b₀ b₂ : Int} {t₀ u₀ v₀ : Tok} {n1 n2 : Nat} (f : Nat → Nat → Int × Int) (F : Fr g L s.heap m) (N : News g L s.heap news)
    (hr : IsRange s.heap r 0 b₀ 1 t₀ u₀ v₀) (hsmall : Builtin.Range.small 0 b₀ 1 = true) (hn1 : Builtin.Range.rangeSize 0 b₀ 1 = (n1 : Int)) (hsmall2 : Builtin.Range.small 0 b₂ 1 = true) (hn2 : Builtin.Range.rangeSize 0 b₂ 1 = (n2 : Int)) (hh : A.handled = none) (hsz : n1 * n2 ≤ sizeLine)
    (hcell : ∀ y ∈ scope.names, y.2 ≠ .cell) (hkind : scope.kind = .function) (hx : scope.names.lookup x = some .local) (hy : scope.names.lookup y = some .local) (hxy : x ≠ y)
    (hs2 : ∀ v, foldedSetIterable i2 (compEnvC scope cl (s.heap.objs.size + 2) env) v = pure v)
    (hit2 : ∀ h tk, s.heap.StaysIn h → ∀ Q' : Value → Shared → Prop, (∀ h' tk' r t u v, h.StaysIn h' → IsRange h' r 0 b₂ 1 t u v → Q' (.ref r) { s with heap := h', toks := tk' }) → wpAny (model prog w) A (eval i2 (compEnvC scope cl (s.heap.objs.size + 2) env)) Q' NoErr { s with heap := h, toks := tk })
    (helt : ∀ i j, i < n1 → j < n2 → ∀ h (mc : Str → Option Value) tk t u, s.heap.StaysIn h → mc x = some (.int (i : Int) t) → h.Ns (s.heap.objs.size + 2) (fun z => if z = y then some (.int (j : Int) u) else mc z) → EltPair prog w A elt (compEnvC scope cl (s.heap.objs.size + 2) env) (f i j) { s with heap := h, toks := tk })
    (hclos : closureFor scope env = pure cl) (hnames : ∀ x ∈ scope.names, x.2 = .local → scope.names.lookup x.1 = some .local)
    (done : CompDone prog w A E use Q g L m news s (fun ys h => TupsAt h (s.heap.objs.size + 2) ys ((List.range n1).flatMap fun i => (List.range n2).map (f i)))) :
    wpAny (model prog w) A (pyIter (.ref r)) (fun it s₂ => CompAt prog w A E use (.ListComp elt [⟨.Name x px, iter, [], 0⟩, ⟨.Name y py, i2, [], 0⟩] scope pos) scope cl env Q it s₂) E s := by
  refine wpAny_pyIter_range hr hsmall ?_
  rw [hn1]
  have hs1 : (s.heap.push { cls := .type "range_iterator", data := .fields #[rawInt 0, rawInt n1, rawInt 1] }).objs.size = s.heap.objs.size + 1 := Heap.size_push ..
  have stp : s.heap.StaysIn (s.heap.push { cls := .type "range_iterator", data := .fields #[rawInt 0, rawInt n1, rawInt 1] }) := fun b o e => Heap.get?_push_of_some _ e
  have W := Walks.range (prog := prog) (w := w) hh s.heap.objs.size 0 1 n1
  unfold CompAt
  refine wpAny_newObj_type (wpAny_newFunctionEnv hcell (by intro y hy; simp at hy) (fun h₁ hns₁ hsb₁ => ?_) hkind)
  dsimp only at hns₁ hsb₁ ⊢
  rw [hs1]
  have hH2 : ((s.heap.push { cls := .type "range_iterator", data := .fields #[rawInt 0, rawInt n1, rawInt 1] }).push { cls := .type "list", dict := none, data := .seq ([] : List Value).toArray }).objs.size = s.heap.objs.size + 2 := by rw [Heap.size_push, hs1]
  rw [hH2] at hns₁ hsb₁ ⊢
  have old : s.heap.StaysIn h₁ := fun b o e => hsb₁.extBut b o (Nat.ne_of_lt (Nat.lt_succ_of_lt (Nat.lt_succ_of_lt (Heap.lt_size e)))) (Heap.get?_push_of_some _ (Heap.get?_push_of_some _ (Heap.get?_push_of_some _ e)))
  have hacc : h₁.get? (s.heap.objs.size + 1) = some (lst []) := hsb₁.extBut _ _ (Nat.ne_of_lt (Nat.lt_succ_self _)) (Heap.get?_push_of_some _ (hs1 ▸ Heap.get?_push_size _ rfl))
  have hit₁ : h₁.get? s.heap.objs.size = some { cls := .type "range_iterator", data := .fields #[rawInt 0, rawInt n1, rawInt 1] } := hsb₁.extBut _ _ (Nat.ne_of_lt (Nat.lt_succ_of_lt (Nat.lt_succ_self _))) (Heap.get?_push_of_some _ (Heap.get?_push_of_some _ (Heap.get?_push_size _ rfl)))
  have none₀ : ∀ a, @LE.le Nat _ s.heap.objs.size a → s.heap.get? a = none := fun a ha => Heap.get?_none_of_le ha
  have loop : ∀ s₃ : Shared, (∃ tk, s₃ = { s with heap := h₁, toks := tk }) →
      codeAny (model prog w) A (.compLoop (.ListComp elt [⟨.Name x px, iter, [], 0⟩, ⟨.Name y py, i2, [], 0⟩] scope pos) 0 (.ref s.heap.objs.size) (.ref (s.heap.objs.size + 1)) (compEnvC scope cl (s.heap.objs.size + 2) env))
        (compPost (model prog w) A E use Q (.ref (s.heap.objs.size + 1)) (s.heap.objs.size + 2)) s₃ := by
    rintro s₃ ⟨tk₃, rfl⟩
    refine codeAny_loop rfl (OInv s n1 n2 f) (fun k s' hI' => ?_) (n1 + 1) ⟨h₁, _, 0, [], _, rfl, Nat.zero_le _, rfl, by simpa using hit₁, old, hacc, hns₁, .nil⟩
    obtain ⟨h, tk, i, ys, mc, es, hi, ek, hst', hs', hD', hn', hT'⟩ := hI'
    subst es ek
    show wpAny _ A ((compTurn (.ListComp elt [⟨.Name x px, iter, [], 0⟩, ⟨.Name y py, i2, [], 0⟩] scope pos) 0 (.ref s.heap.objs.size) (.ref (s.heap.objs.size + 1)) (compEnvC scope cl (s.heap.objs.size + 2) env)).onRaise (fun x => do noteFrame x (compEnvC scope cl (s.heap.objs.size + 2) env); theTreesLotGoes x)) _ _ _
    refine wpAny_noted ?_
    rw [compTurn_two0]
    refine wpAny_bind (wpAny_standAt (wpAny_bind ?_))
    by_cases hlt : i < n1
    · refine W.item i _ _ _ hlt hst' fun v h₂ tk₂ hPv hst₂ hk₂ => ?_
      have hk : ∀ b o, b ≠ s.heap.objs.size → h.get? b = some o → h₂.get? b = some o := fun b o hb e => hk₂ b o (by simpa using hb) e
      obtain ⟨t, rfl⟩ := hPv
      have ei : (0 : Int) + (i : Int) * 1 = (i : Int) := by rw [Int.zero_add, Int.mul_one]
      rw [ei]
      refine wpAny_bind (wpAny_of_eq (a := ()) rfl ?_)
      refine wpAny_bind (cn_store hkind hx (hn'.at' fun o e => hk _ o (Nat.ne_of_gt (Nat.lt_succ_of_lt (Nat.lt_succ_self _))) e) fun h₃ hn₃ hs₃ => ?_)
      have hk₃ : ∀ b o, b ≠ s.heap.objs.size + 2 → h₂.get? b = some o → h₃.get? b = some o := fun b o hb e => (hs₃.2 b hb).trans e
      have hs₃' : s.heap.StaysIn h₃ := fun b o e => hk₃ b o (Nat.ne_of_lt (Nat.lt_succ_of_lt (Nat.lt_succ_of_lt (Heap.lt_size e)))) (hk b o (Nat.ne_of_lt (Heap.lt_size e)) (hs' b o e))
      refine wpAny_bind (wpAny_mono (hit2 h₃ _ hs₃' (REnd s h₃ b₂) fun h' tk' r t u v a b => ⟨h', tk', r, t, u, v, rfl, rfl, a, b⟩) ?_ fun _ _ x => x.elim)
      intro v₄ s₄ hE
      obtain ⟨h₄, tk₄, r₂, t₂, u₂, v₂, ev, es, st₄, hr₂⟩ := hE
      subst ev es
      refine wpAny_bind (wpAny_standAt (wpAny_bind (wpAny_of_eq (hs2 _) ?_)))
      refine wpAny_bind (wpAny_holding (wpAny_pyIter_range hr₂ hsmall2 ?_))
      rw [hn2]
      dsimp only
      have hI2 : (h₄.push { cls := .type "range_iterator", data := .fields #[rawInt 0, rawInt n2, rawInt 1] }).get? h₄.objs.size = some { cls := .type "range_iterator", data := .fields #[rawInt 0, rawInt n2, rawInt 1] } := Heap.get?_push_size _ rfl
      have st₅ : h₃.StaysIn (h₄.push { cls := .type "range_iterator", data := .fields #[rawInt 0, rawInt n2, rawInt 1] }) := fun b o e => Heap.get?_push_of_some _ (st₄ b o e)
      have hCs : @LT.lt Nat _ (s.heap.objs.size + 2) h₄.objs.size := Heap.Ns.lt (hn₃.at' fun o e => st₄ _ o e)
      have hI₅ := st₅ _ _ (hk₃ s.heap.objs.size _ (Nat.ne_of_lt (Nat.lt_succ_of_lt (Nat.lt_succ_self _))) hst₂)
      have hD₅ := st₅ _ _ (hk₃ (s.heap.objs.size + 1) _ (Nat.ne_of_lt (Nat.lt_succ_self _)) (hk _ _ (Nat.ne_of_gt (Nat.lt_succ_self _)) hD'))
      have hn₅ := hn₃.at' fun o e => st₅ _ o e
      have hT₅ : TupsAt (h₄.push { cls := .type "range_iterator", data := .fields #[rawInt 0, rawInt n2, rawInt 1] }) (s.heap.objs.size + 2) ys ((List.range i).flatMap fun i => (List.range n2).map (f i)) :=
        hT'.keeps fun b o e hlt => st₅ b o (hk₃ b o (Nat.ne_of_gt hlt) (hk b o (Nat.ne_of_gt (Nat.lt_of_succ_lt (Nat.lt_of_succ_lt hlt))) e))
      have hyl : ys.length = i * n2 := by rw [hT'.length]; exact flat_len f n2 i
      have hcap : ys.length + n2 ≤ sizeLine := by
        rw [hyl]
        have : i * n2 + n2 = (i + 1) * n2 := by rw [Nat.add_mul, Nat.one_mul]
        rw [this]
        exact Nat.le_trans (Nat.mul_le_mul_right _ hlt) hsz
      have inner : ∀ tk, codeAny (model prog w) A (.compLoop (.ListComp elt [⟨.Name x px, iter, [], 0⟩, ⟨.Name y py, i2, [], 0⟩] scope pos) 1 (.ref h₄.objs.size) (.ref (s.heap.objs.size + 1)) (compEnvC scope cl (s.heap.objs.size + 2) env))
          (IEnd s n1 n2 f i) { s with heap := h₄.push { cls := .type "range_iterator", data := .fields #[rawInt 0, rawInt n2, rawInt 1] }, toks := tk } := fun tk =>
        two_inner (s₀ := s.heap) (I := s.heap.objs.size) (f i) hh hkind hy hxy (Nat.ne_of_lt (Nat.lt_succ_of_lt (Nat.lt_succ_self _))) (Nat.ne_of_lt (Nat.lt_succ_self _)) (Nat.ne_of_gt (Nat.lt_of_succ_lt (Nat.lt_of_succ_lt hCs))) (Nat.ne_of_gt hCs) (Nat.ne_of_gt (Nat.lt_of_succ_lt hCs)) (Nat.ne_of_lt (Nat.lt_succ_self _)) (Nat.lt_succ_self _)
          (none₀ _ (Nat.le_add_right _ _)) (none₀ _ (Nat.le_succ _)) (none₀ _ (Nat.le_of_lt (Nat.lt_of_succ_lt (Nat.lt_of_succ_lt hCs)))) hcap hCs (fun _ => hI2) (fun b o e => st₅ b o (hs₃' b o e)) hI₅ hD₅ hn₅ (if_pos rfl) hT₅
          (fun j hj h mc tk u a b c => helt i j hlt hj h mc tk t u a b c) (fun h tk ys' mc' a b c d e => ⟨h, tk, ys', mc', rfl, rfl, a, b, c, d, e⟩)
      refine wpAny_bind (wpAny_runOwn ?_)
      rw [mark_none]
      refine codeAny_mono (start_two1 (inner _) (wpAny_pyIter_rangeiter hI2 (inner _))) ?_
      intro r₆ s₆ hE
      obtain ⟨h₆, tk₆, ys', mc', er, es, a, b, c, d, e⟩ := hE
      subst er es
      refine wpAny_pure ⟨rfl, n1 + 1 - (i + 1), Nat.sub_lt_sub_left (Nat.lt_succ_of_lt hlt) (Nat.lt_succ_self i), h₆, tk₆, i + 1, ys', mc', rfl, hlt, rfl, b, a, c, d, ?_⟩
      rw [List.range_succ, List.flatMap_append]
      simpa using e
    · have hin : i = n1 := Nat.le_antisymm hi (Nat.not_lt.mp hlt)
      subst hin
      refine W.done _ _ _ hst' fun h' tk' hk' => ?_
      have up : ∀ b o, b ≠ s.heap.objs.size → h.get? b = some o → h'.get? b = some o := fun b o hb e => hk' b o (by simpa using hb) e
      have st₅ : s.heap.StaysIn h' := fun b o e => up b o (Nat.ne_of_lt (Heap.lt_size e)) (hs' b o e)
      have hD₅ := up (s.heap.objs.size + 1) _ (Nat.ne_of_gt (Nat.lt_succ_self _)) hD'
      refine wpAny_pure ?_
      refine done ys h' tk' mc st₅ (F.keeps st₅) (fun p hp => ?_) (hn'.at' fun o e => up _ o (Nat.ne_of_gt (Nat.lt_succ_of_lt (Nat.lt_succ_self _))) e) (hT'.keeps fun b o e hlt => up b o (Nat.ne_of_gt (Nat.lt_of_succ_lt (Nat.lt_of_succ_lt hlt))) e)
      rcases List.mem_cons.mp hp with rfl | hp
      · exact fresh_entry F (Heap.get?_none_of_le (Nat.le_succ _)) hD₅
      · exact N.grown st₅ p hp
  exact codeAny_compStart_list (loop _ ⟨_, rfl⟩) (wpAny_pyIter_rangeiter (by simpa using hit₁) (loop _ ⟨_, rfl⟩))
end
end Mine

-- H1
open PySem PySem.W PyProof.Rows PySem.Calls
set_option Elab.async false
set_option linter.unusedVariables false
namespace Mine
set_option maxRecDepth 100000
theorem lt_pairs {prog : Program} {w : World} {A : Around} {E : Value → Shared → Prop} {s : Shared} {a b : Addr} {x1 y1 x2 y2 : Int} {t1 u1 t2 u2 : Tok} {Q : Value → Shared → Prop}
    (ia : IsTup s.heap a [.int x1 t1, .int y1 u1].toArray) (ib : IsTup s.heap b [.int x2 t2, .int y2 u2].toArray) (hu : A.units < cLine)
    (h : Q (.bool (decide (x1 < x2 ∨ (x1 = x2 ∧ y1 < y2)))) s) : wpAny (model prog w) A (richCompare .Lt (.ref a) (.ref b)) Q E s := by
  refine wpAny_richCompare_same_room ia.typeIs ib.typeIs F.slot_tuple_lt (wpAny_call_entry F.slot_tuple_lt ia.typeIs F.entry_tuple_lt ?_ (F.args_tuple_lt_2 _ _)) hu
  show wpAny _ _ (slotArgs "__lt__" 1 ⟨[.ref a, .ref b], []⟩ >>= _) _ _ s
  refine wpAny_bind (wpAny_of_eq (a := (Value.ref a, [Value.ref b])) rfl ?_)
  dsimp only
  refine wpAny_bind (wpAny_isInstance (T := "tuple") (b := true) ib.typeIs AutoSeq1.sub_tuple_tuple ?_)
  simp only [Bool.not_true, Bool.false_eq_true, if_false]
  refine wpAny_bind (tupleItemsOf_ ia ?_)
  refine wpAny_bind (tupleItemsOf_ ib ?_)
  simp only [List.zip_cons_cons, List.zip_nil_right, List.forIn_cons, List.forIn_nil]
  refine wpAny_bind (wpAny_bind (wpAny_bind (wpAny_eqBool_int ?_)))
  cases hx : (x1 == x2) with
  | false =>
    simp only [Bool.not_false, if_true]
    refine wpAny_bind (wpAny_rule ?_)
    refine wpAny_bind (show wpAny _ _ (compareOp .Lt _ _) _ _ _ from lt_int ?_)
    refine wpAny_bind (m := ret _) (wpAny_pure ?_)
    refine wpAny_pure ?_
    refine wpAny_pure ?_
    have hne : x1 ≠ x2 := by simpa using hx
    refine wpAny_pure ⟨_, rfl, by simp, ?_⟩
    have e : decide (x1 < x2) = decide (x1 < x2 ∨ (x1 = x2 ∧ y1 < y2)) := decide_eq_decide.mpr (by omega)
    rw [e]; exact h
  | true =>
    have heq : x1 = x2 := by simpa using hx
    simp only [Bool.not_true, Bool.false_eq_true, if_false]
    refine wpAny_pure ?_
    refine wpAny_bind (wpAny_bind (wpAny_eqBool_int ?_))
    cases hy : (y1 == y2) with
    | false =>
      simp only [Bool.not_false, if_true]
      refine wpAny_bind (wpAny_rule ?_)
      refine wpAny_bind (show wpAny _ _ (compareOp .Lt _ _) _ _ _ from lt_int ?_)
      refine wpAny_bind (m := ret _) (wpAny_pure ?_)
      refine wpAny_pure ?_
      refine wpAny_pure ?_
      refine wpAny_pure ⟨_, rfl, by simp, ?_⟩
      have e : decide (y1 < y2) = decide (x1 < x2 ∨ (x1 = x2 ∧ y1 < y2)) := decide_eq_decide.mpr (by omega)
      rw [e]; exact h
    | true =>
      have hyq : y1 = y2 := by simpa using hy
      simp only [Bool.not_true, Bool.false_eq_true, if_false]
      refine wpAny_pure ?_
      refine wpAny_pure ?_
      refine wpAny_pure ⟨_, rfl, (fun q => nomatch q), ?_⟩
      have e : (Builtin.Tuple.tupleCompareSizes CmpOp.Lt 2 2) = .bool (decide (x1 < x2 ∨ (x1 = x2 ∧ y1 < y2))) := by
        rw [decide_eq_false (by omega)]; rfl
      show Q (Builtin.Tuple.tupleCompareSizes CmpOp.Lt 2 2) s
      rw [e]; exact h
theorem gt_pairs {prog : Program} {w : World} {A : Around} {E : Value → Shared → Prop} {s : Shared} {a b : Addr} {x1 y1 x2 y2 : Int} {t1 u1 t2 u2 : Tok} {Q : Value → Shared → Prop}
    (ia : IsTup s.heap a [.int x1 t1, .int y1 u1].toArray) (ib : IsTup s.heap b [.int x2 t2, .int y2 u2].toArray) (hu : A.units < cLine)
    (h : Q (.bool (decide (x2 < x1 ∨ (x1 = x2 ∧ y2 < y1)))) s) : wpAny (model prog w) A (richCompare .Gt (.ref a) (.ref b)) Q E s := by
  refine wpAny_richCompare_same_room ia.typeIs ib.typeIs F.slot_tuple_gt (wpAny_call_entry F.slot_tuple_gt ia.typeIs F.entry_tuple_gt ?_ (F.args_tuple_gt_2 _ _)) hu
  show wpAny _ _ (slotArgs "__gt__" 1 ⟨[.ref a, .ref b], []⟩ >>= _) _ _ s
  refine wpAny_bind (wpAny_of_eq (a := (Value.ref a, [Value.ref b])) rfl ?_)
  dsimp only
  refine wpAny_bind (wpAny_isInstance (T := "tuple") (b := true) ib.typeIs AutoSeq1.sub_tuple_tuple ?_)
  simp only [Bool.not_true, Bool.false_eq_true, if_false]
  refine wpAny_bind (tupleItemsOf_ ia ?_)
  refine wpAny_bind (tupleItemsOf_ ib ?_)
  simp only [List.zip_cons_cons, List.zip_nil_right, List.forIn_cons, List.forIn_nil]
  refine wpAny_bind (wpAny_bind (wpAny_bind (wpAny_eqBool_int ?_)))
  cases hx : (x1 == x2) with
  | false =>
    simp only [Bool.not_false, if_true]
    refine wpAny_bind (wpAny_rule ?_)
    refine wpAny_bind (show wpAny _ _ (compareOp .Gt _ _) _ _ _ from gt_int ?_)
    refine wpAny_bind (m := ret _) (wpAny_pure ?_)
    refine wpAny_pure ?_
    refine wpAny_pure ?_
    have hne : x1 ≠ x2 := by simpa using hx
    refine wpAny_pure ⟨_, rfl, by simp, ?_⟩
    have e : decide (x2 < x1) = decide (x2 < x1 ∨ (x1 = x2 ∧ y2 < y1)) := decide_eq_decide.mpr (by omega)
    rw [e]; exact h
  | true =>
    have heq : x1 = x2 := by simpa using hx
    simp only [Bool.not_true, Bool.false_eq_true, if_false]
    refine wpAny_pure ?_
    refine wpAny_bind (wpAny_bind (wpAny_eqBool_int ?_))
    cases hy : (y1 == y2) with
    | false =>
      simp only [Bool.not_false, if_true]
      refine wpAny_bind (wpAny_rule ?_)
      refine wpAny_bind (show wpAny _ _ (compareOp .Gt _ _) _ _ _ from gt_int ?_)
      refine wpAny_bind (m := ret _) (wpAny_pure ?_)
      refine wpAny_pure ?_
      refine wpAny_pure ?_
      refine wpAny_pure ⟨_, rfl, by simp, ?_⟩
      have e : decide (y2 < y1) = decide (x2 < x1 ∨ (x1 = x2 ∧ y2 < y1)) := decide_eq_decide.mpr (by omega)
      rw [e]; exact h
    | true =>
      have hyq : y1 = y2 := by simpa using hy
      simp only [Bool.not_true, Bool.false_eq_true, if_false]
      refine wpAny_pure ?_
      refine wpAny_pure ?_
      refine wpAny_pure ⟨_, rfl, (fun q => nomatch q), ?_⟩
      have e : (Builtin.Tuple.tupleCompareSizes CmpOp.Gt 2 2) = .bool (decide (x2 < x1 ∨ (x1 = x2 ∧ y2 < y1))) := by
        rw [decide_eq_false (by omega)]; rfl
      show Q (Builtin.Tuple.tupleCompareSizes CmpOp.Gt 2 2) s
      rw [e]; exact h

/-- the lesser and the greater of two pairs, as min and max of a list find them -/
def lexB (x1 y1 x2 y2 : Int) : Bool := decide (x1 < x2 ∨ (x1 = x2 ∧ y1 < y2))
def lexG (x1 y1 x2 y2 : Int) : Bool := decide (x2 < x1 ∨ (x1 = x2 ∧ y2 < y1))
section
variable {prog : Program} {w : World} {A : Around} {s : Shared}

/-- the last round of min of two: nothing comes any more -/
theorem min_end {R : Result → Shared → Prop} {I S l a b v : Addr} {c : Nat} (hh : A.handled = none) (hIl : l ≠ I) (hSI : S ≠ I) (hSl : S ≠ l) (hit : s.heap.IsListIter I l 2) (hl : s.heap.IsList l [.ref a, .ref b].toArray)
    (hS : s.heap.get? S = some { cls := .type "list", dict := none, data := .seq #[.ref v, .ref v] c, slots := #[] })
    (h : ∀ h' tk, (∀ d o, d ≠ I → d ≠ S → s.heap.get? d = some o → h'.get? d = some o) → R (.ok (.ret (.ref v))) { s with heap := h', toks := tk }) : codeAny (model prog w) A (.builtin "min.loop" ⟨[.ref I, .none, .ref S], []⟩) R s := by
  have W := Walks.list (prog := prog) (w := w) (show A.in1.handled = none from hh) I l hIl [.ref a, .ref b].toArray
  refine codeAny_builtin F.entry_min_loop ?_
  rw [Around.under_plainId F.plain_min_loop _]
  show wpAny _ A.in1 (seqItems? (.ref S) >>= _) _ _ s
  refine wpAny_bind (wpAny_seqItems hS rfl ?_)
  show wpAny _ A.in1 (tryCatch (pyNext (.ref I)) _ >>= _) _ _ s
  refine wpAny_bind (wpAny_tryCatch (W.done s _ _ ⟨hit, hl⟩ fun h' tk hk' => ?_))
  have hS' := hk' S _ (by simpa using hSI) hS
  show wpAny _ A.in1 (updateSeq S (fun _ => #[]) >>= _) _ _ _
  refine wpAny_bind (wpAny_updateSeq hS' rfl (wpAny_bind (wpAny_letGo (wpAny_pure ?_))))
  exact h _ tk fun d o hI hd e => (Heap.get?_update_other _ _ (Ne.symm hd)).trans (hk' d o (by simpa using hI) e)

/-- its second round -/
theorem min_mid {R : Result → Shared → Prop} {I S l a b : Addr} {c : Nat} {x1 y1 x2 y2 : Int} {t1 u1 t2 u2 : Tok} (hh : A.handled = none) (hu : A.units + 1 < cLine) (hIl : l ≠ I) (hSI : S ≠ I) (hSl : S ≠ l) (hit : s.heap.IsListIter I l 1) (hl : s.heap.IsList l [.ref a, .ref b].toArray)
    (haI : a ≠ I) (hbI : b ≠ I) (ia : IsTup s.heap a [.int x1 t1, .int y1 u1].toArray) (ib : IsTup s.heap b [.int x2 t2, .int y2 u2].toArray)
    (hS : s.heap.get? S = some { cls := .type "list", dict := none, data := .seq #[.ref a, .ref a] c, slots := #[] })
    (h : ∀ h' tk, (∀ d o, d ≠ I → d ≠ S → s.heap.get? d = some o → h'.get? d = some o) → R (.ok (.ret (if lexB x2 y2 x1 y1 then .ref b else .ref a))) { s with heap := h', toks := tk }) : codeAny (model prog w) A (.builtin "min.loop" ⟨[.ref I, .none, .ref S], []⟩) R s := by
  have hname : (toString "min" ++ toString ".loop" : String) = "min.loop" := by decide
  have W := Walks.list (prog := prog) (w := w) (show A.in1.handled = none from hh) I l hIl [.ref a, .ref b].toArray
  refine codeAny_builtin F.entry_min_loop ?_
  rw [Around.under_plainId F.plain_min_loop _]
  show wpAny _ A.in1 (seqItems? (.ref S) >>= _) _ _ s
  refine wpAny_bind (wpAny_seqItems hS rfl ?_)
  show wpAny _ A.in1 (tryCatch (pyNext (.ref I)) _ >>= _) _ _ s
  refine wpAny_bind (wpAny_tryCatch (W.item 1 s _ _ (show 1 < 2 by decide) ⟨hit, hl⟩ fun v h' tk hP hst' hk' => ?_))
  have hva : v = .ref b := by simpa using hP.symm
  subst hva
  have k : ∀ d o, d ≠ I → s.heap.get? d = some o → h'.get? d = some o := fun d o hd e => hk' d o (by simpa using hd) e
  have hS' := k S _ hSI hS
  have ia' : IsTup h' a _ := let ⟨o, e, r⟩ := ia; ⟨o, k _ _ haI e, r⟩
  have ib' : IsTup h' b _ := let ⟨o, e, r⟩ := ib; ⟨o, k _ _ hbI e, r⟩
  show wpAny _ A.in1 (tryCatch (holding [.ref b, .ref b] (richCompare .Lt (.ref b) (.ref a) >>= _)) _ >>= _) _ _ _
  refine wpAny_bind (wpAny_tryCatch (wpAny_holding (wpAny_bind (lt_pairs ib' ia' hu ?_))))
  refine wpAny_bind (wpAny_holding (wpAny_truthy_bool ?_))
  refine wpAny_bind (wpAny_letGo (wpAny_pure ?_))
  rw [show decide (x2 < x1 ∨ (x2 = x1 ∧ y2 < y1)) = lexB x2 y2 x1 y1 from rfl]
  cases hb : lexB x2 y2 x1 y1 with
  | true =>
    rw [hb] at h
    simp only [if_true] at h ⊢
    refine wpAny_bind ?_
    refine wpAny_updateSeq hS' rfl (wpAny_bind (wpAny_letGo ?_))
    rw [hname]
    have u : ∀ d o, d ≠ S → h'.get? d = some o → (h'.update S fun o => o.mapSeq fun _ => #[.ref b, .ref b]).get? d = some o := fun d o hd e => (Heap.get?_update_other _ _ (Ne.symm hd)).trans e
    refine wpAny_pure ⟨plainId_quiet F.plain_min_loop _, min_end (a := a) (b := b) (v := b) hh hIl hSI hSl (hst'.1.at fun o e => u _ o (Ne.symm hSI) e) (hst'.2.at fun o e => u _ o (Ne.symm hSl) e) (Heap.get?_update_self _ hS' rfl) fun h'' tk' k'' => ?_⟩
    exact h h'' tk' fun d o hI hd e => k'' d o hI hd (u d o hd (k d o hI e))
  | false =>
    rw [hb] at h
    simp only [Bool.false_eq_true, if_false] at h ⊢
    refine wpAny_bind (wpAny_letGo ?_)
    rw [hname]
    refine wpAny_pure ⟨plainId_quiet F.plain_min_loop _, min_end (a := a) (b := b) (v := a) hh hIl hSI hSl hst'.1 hst'.2 hS' fun h'' tk' k'' => ?_⟩
    exact h h'' tk' fun d o hI hd e => k'' d o hI hd (k d o hI e)

theorem min_two {l a b : Addr} {x1 y1 x2 y2 : Int} {t1 u1 t2 u2 : Tok} {Q : Value → Shared → Prop} (hh : A.handled = none) (hu : A.units + 1 < cLine) (hl : s.heap.IsList l [.ref a, .ref b].toArray) (ia : IsTup s.heap a [.int x1 t1, .int y1 u1].toArray) (ib : IsTup s.heap b [.int x2 t2, .int y2 u2].toArray)
    (h : ∀ h' tk, s.heap.StaysIn h' → Q (if lexB x2 y2 x1 y1 then .ref b else .ref a) { s with heap := h', toks := tk }) : wpAny (model prog w) A (call (.builtin "min") [.ref l]) Q NoErr s := by
  have hname : (toString "min" ++ toString ".loop" : String) = "min.loop" := by decide
  have hlt : l < s.heap.objs.size := let ⟨_, ho, _⟩ := hl; Heap.lt_size ho
  have halt : a < s.heap.objs.size := ia.lt
  have hblt : b < s.heap.objs.size := ib.lt
  refine call_function_tree F.kind_min F.plain_min F.entry_min (F.args_min1 _) ?_
  show wpAny _ A.in1 (Builtin.Builtins.bindParams "min" ["key", "default"] 0 ⟨[], []⟩ >>= _) _ _ s
  refine wpAny_bind (wpAny_of_eq (show Builtin.Builtins.bindParams "min" ["key", "default"] 0 ⟨[], []⟩ = pure [none, none] from rfl) ?_)
  refine wpAny_bind (wpAny_pure ?_)
  refine wpAny_bind (wpAny_pyIter_list hl ?_)
  refine wpAny_bind (wpAny_newObj_type ?_)
  have hs1 : (s.heap.push { cls := .type "list_iterator", data := .fields #[.ref l, .int 0 0] }).objs.size = s.heap.objs.size + 1 := Heap.size_push ..
  have W := Walks.list (prog := prog) (w := w) (show A.in1.handled = none from hh) s.heap.objs.size l (Nat.ne_of_lt hlt) [.ref a, .ref b].toArray
  dsimp only
  rw [hname, hs1]
  have stp : s.heap.StaysIn ((s.heap.push { cls := .type "list_iterator", data := .fields #[.ref l, .int 0 0] }).push { cls := .type "list", dict := none, data := .seq #[] }) := fun b o e => Heap.get?_push_of_some _ (Heap.get?_push_of_some _ e)
  have st0 : ((s.heap.push { cls := .type "list_iterator", data := .fields #[.ref l, .int 0 0] }).push { cls := .type "list", dict := none, data := .seq #[] }).IsListIter s.heap.objs.size l 0 :=
    ⟨_, Heap.get?_push_of_some _ (Heap.get?_push_size _ rfl), rfl, rfl⟩
  have hS : ((s.heap.push { cls := .type "list_iterator", data := .fields #[.ref l, .int 0 0] }).push { cls := .type "list", dict := none, data := .seq #[] }).get? (s.heap.objs.size + 1) = some { cls := .type "list", dict := none, data := .seq #[] } := by
    rw [← hs1]; exact Heap.get?_push_size _ rfl
  have hIS : s.heap.objs.size + 1 ≠ s.heap.objs.size := Nat.succ_ne_self _
  have hlI : l ≠ s.heap.objs.size := Nat.ne_of_lt hlt
  have hSl : s.heap.objs.size + 1 ≠ l := Nat.ne_of_gt (Nat.lt_succ_of_lt hlt)
  generalize ((s.heap.push { cls := .type "list_iterator", data := .fields #[.ref l, .int 0 0] }).push { cls := .type "list", dict := none, data := .seq #[] }) = H at stp st0 hS ⊢
  refine wpAny_pure ⟨plainId_quiet F.plain_min_loop _, codeAny_builtin F.entry_min_loop ?_⟩
  rw [Around.under_plainId F.plain_min_loop _]
  show wpAny _ A.in1 (seqItems? (.ref (s.heap.objs.size + 1)) >>= _) _ _ _
  refine wpAny_bind (wpAny_seqItems hS rfl ?_)
  show wpAny _ A.in1 (tryCatch (pyNext (.ref s.heap.objs.size)) _ >>= _) _ _ _
  refine wpAny_bind (wpAny_tryCatch (W.item 0 _ _ _ (show 0 < 2 by decide) ⟨st0, hl.at fun o e => stp _ _ e⟩ fun v h1 tk1 hP st1 k1 => ?_))
  have hva : v = .ref a := by simpa using hP.symm
  subst hva
  have hS1 := k1 _ _ (by simp) hS
  show wpAny _ A.in1 (updateSeq (s.heap.objs.size + 1) (fun _ => #[.ref a, .ref a]) >>= _) _ _ _
  refine wpAny_bind ?_
  refine wpAny_updateSeq hS1 rfl ?_
  rw [hname]
  have k1' : ∀ c o, c ≠ s.heap.objs.size → H.get? c = some o → h1.get? c = some o := fun c o hc e => k1 c o (by simpa using hc) e
  have u1 : ∀ c o, c ≠ s.heap.objs.size + 1 → h1.get? c = some o → (h1.update (s.heap.objs.size + 1) fun o => o.mapSeq fun _ => #[.ref a, .ref a]).get? c = some o := fun c o hc e => (Heap.get?_update_other _ _ (Ne.symm hc)).trans e
  have up : ∀ c o, s.heap.get? c = some o → (h1.update (s.heap.objs.size + 1) fun o => o.mapSeq fun _ => #[.ref a, .ref a]).get? c = some o := fun c o e => u1 c o (Nat.ne_of_lt (Nat.lt_succ_of_lt (Heap.lt_size e))) (k1' c o (Nat.ne_of_lt (Heap.lt_size e)) (stp _ _ e))
  refine wpAny_pure ⟨plainId_quiet F.plain_min_loop _, min_mid hh hu hlI hIS hSl (st1.1.at fun o e => u1 _ o (Ne.symm hIS) e) (st1.2.at fun o e => u1 _ o (Ne.symm hSl) e) (Nat.ne_of_lt halt) (Nat.ne_of_lt hblt) (ia.keeps up) (ib.keeps up) (Heap.get?_update_self _ hS1 rfl) fun h' tk k => ?_⟩
  exact h h' tk fun c o e => k c o (Nat.ne_of_lt (Heap.lt_size e)) (Nat.ne_of_lt (Nat.lt_succ_of_lt (Heap.lt_size e))) (up c o e)

/-- the last round of max of two: nothing comes any more -/
theorem max_end {R : Result → Shared → Prop} {I S l a b v : Addr} {c : Nat} (hh : A.handled = none) (hIl : l ≠ I) (hSI : S ≠ I) (hSl : S ≠ l) (hit : s.heap.IsListIter I l 2) (hl : s.heap.IsList l [.ref a, .ref b].toArray)
    (hS : s.heap.get? S = some { cls := .type "list", dict := none, data := .seq #[.ref v, .ref v] c, slots := #[] })
    (h : ∀ h' tk, (∀ d o, d ≠ I → d ≠ S → s.heap.get? d = some o → h'.get? d = some o) → R (.ok (.ret (.ref v))) { s with heap := h', toks := tk }) : codeAny (model prog w) A (.builtin "max.loop" ⟨[.ref I, .none, .ref S], []⟩) R s := by
  have W := Walks.list (prog := prog) (w := w) (show A.in1.handled = none from hh) I l hIl [.ref a, .ref b].toArray
  refine codeAny_builtin F.entry_max_loop ?_
  rw [Around.under_plainId F.plain_max_loop _]
  show wpAny _ A.in1 (seqItems? (.ref S) >>= _) _ _ s
  refine wpAny_bind (wpAny_seqItems hS rfl ?_)
  show wpAny _ A.in1 (tryCatch (pyNext (.ref I)) _ >>= _) _ _ s
  refine wpAny_bind (wpAny_tryCatch (W.done s _ _ ⟨hit, hl⟩ fun h' tk hk' => ?_))
  have hS' := hk' S _ (by simpa using hSI) hS
  show wpAny _ A.in1 (updateSeq S (fun _ => #[]) >>= _) _ _ _
  refine wpAny_bind (wpAny_updateSeq hS' rfl (wpAny_bind (wpAny_letGo (wpAny_pure ?_))))
  exact h _ tk fun d o hI hd e => (Heap.get?_update_other _ _ (Ne.symm hd)).trans (hk' d o (by simpa using hI) e)

/-- its second round -/
theorem max_mid {R : Result → Shared → Prop} {I S l a b : Addr} {c : Nat} {x1 y1 x2 y2 : Int} {t1 u1 t2 u2 : Tok} (hh : A.handled = none) (hu : A.units + 1 < cLine) (hIl : l ≠ I) (hSI : S ≠ I) (hSl : S ≠ l) (hit : s.heap.IsListIter I l 1) (hl : s.heap.IsList l [.ref a, .ref b].toArray)
    (haI : a ≠ I) (hbI : b ≠ I) (ia : IsTup s.heap a [.int x1 t1, .int y1 u1].toArray) (ib : IsTup s.heap b [.int x2 t2, .int y2 u2].toArray)
    (hS : s.heap.get? S = some { cls := .type "list", dict := none, data := .seq #[.ref a, .ref a] c, slots := #[] })
    (h : ∀ h' tk, (∀ d o, d ≠ I → d ≠ S → s.heap.get? d = some o → h'.get? d = some o) → R (.ok (.ret (if lexG x2 y2 x1 y1 then .ref b else .ref a))) { s with heap := h', toks := tk }) : codeAny (model prog w) A (.builtin "max.loop" ⟨[.ref I, .none, .ref S], []⟩) R s := by
  have hname : (toString "max" ++ toString ".loop" : String) = "max.loop" := by decide
  have W := Walks.list (prog := prog) (w := w) (show A.in1.handled = none from hh) I l hIl [.ref a, .ref b].toArray
  refine codeAny_builtin F.entry_max_loop ?_
  rw [Around.under_plainId F.plain_max_loop _]
  show wpAny _ A.in1 (seqItems? (.ref S) >>= _) _ _ s
  refine wpAny_bind (wpAny_seqItems hS rfl ?_)
  show wpAny _ A.in1 (tryCatch (pyNext (.ref I)) _ >>= _) _ _ s
  refine wpAny_bind (wpAny_tryCatch (W.item 1 s _ _ (show 1 < 2 by decide) ⟨hit, hl⟩ fun v h' tk hP hst' hk' => ?_))
  have hva : v = .ref b := by simpa using hP.symm
  subst hva
  have k : ∀ d o, d ≠ I → s.heap.get? d = some o → h'.get? d = some o := fun d o hd e => hk' d o (by simpa using hd) e
  have hS' := k S _ hSI hS
  have ia' : IsTup h' a _ := let ⟨o, e, r⟩ := ia; ⟨o, k _ _ haI e, r⟩
  have ib' : IsTup h' b _ := let ⟨o, e, r⟩ := ib; ⟨o, k _ _ hbI e, r⟩
  show wpAny _ A.in1 (tryCatch (holding [.ref b, .ref b] (richCompare .Gt (.ref b) (.ref a) >>= _)) _ >>= _) _ _ _
  refine wpAny_bind (wpAny_tryCatch (wpAny_holding (wpAny_bind (gt_pairs ib' ia' hu ?_))))
  refine wpAny_bind (wpAny_holding (wpAny_truthy_bool ?_))
  refine wpAny_bind (wpAny_letGo (wpAny_pure ?_))
  rw [show decide (x1 < x2 ∨ (x2 = x1 ∧ y1 < y2)) = lexG x2 y2 x1 y1 from rfl]
  cases hb : lexG x2 y2 x1 y1 with
  | true =>
    rw [hb] at h
    simp only [if_true] at h ⊢
    refine wpAny_bind ?_
    refine wpAny_updateSeq hS' rfl (wpAny_bind (wpAny_letGo ?_))
    rw [hname]
    have u : ∀ d o, d ≠ S → h'.get? d = some o → (h'.update S fun o => o.mapSeq fun _ => #[.ref b, .ref b]).get? d = some o := fun d o hd e => (Heap.get?_update_other _ _ (Ne.symm hd)).trans e
    refine wpAny_pure ⟨plainId_quiet F.plain_max_loop _, max_end (a := a) (b := b) (v := b) hh hIl hSI hSl (hst'.1.at fun o e => u _ o (Ne.symm hSI) e) (hst'.2.at fun o e => u _ o (Ne.symm hSl) e) (Heap.get?_update_self _ hS' rfl) fun h'' tk' k'' => ?_⟩
    exact h h'' tk' fun d o hI hd e => k'' d o hI hd (u d o hd (k d o hI e))
  | false =>
    rw [hb] at h
    simp only [Bool.false_eq_true, if_false] at h ⊢
    refine wpAny_bind (wpAny_letGo ?_)
    rw [hname]
    refine wpAny_pure ⟨plainId_quiet F.plain_max_loop _, max_end (a := a) (b := b) (v := a) hh hIl hSI hSl hst'.1 hst'.2 hS' fun h'' tk' k'' => ?_⟩
    exact h h'' tk' fun d o hI hd e => k'' d o hI hd (k d o hI e)

theorem max_two {l a b : Addr} {x1 y1 x2 y2 : Int} {t1 u1 t2 u2 : Tok} {Q : Value → Shared → Prop} (hh : A.handled = none) (hu : A.units + 1 < cLine) (hl : s.heap.IsList l [.ref a, .ref b].toArray) (ia : IsTup s.heap a [.int x1 t1, .int y1 u1].toArray) (ib : IsTup s.heap b [.int x2 t2, .int y2 u2].toArray)
    (h : ∀ h' tk, s.heap.StaysIn h' → Q (if lexG x2 y2 x1 y1 then .ref b else .ref a) { s with heap := h', toks := tk }) : wpAny (model prog w) A (call (.builtin "max") [.ref l]) Q NoErr s := by
  have hname : (toString "max" ++ toString ".loop" : String) = "max.loop" := by decide
  have hlt : l < s.heap.objs.size := let ⟨_, ho, _⟩ := hl; Heap.lt_size ho
  have halt : a < s.heap.objs.size := ia.lt
  have hblt : b < s.heap.objs.size := ib.lt
  refine call_function_tree F.kind_max F.plain_max F.entry_max (F.args_max1 _) ?_
  show wpAny _ A.in1 (Builtin.Builtins.bindParams "max" ["key", "default"] 0 ⟨[], []⟩ >>= _) _ _ s
  refine wpAny_bind (wpAny_of_eq (show Builtin.Builtins.bindParams "max" ["key", "default"] 0 ⟨[], []⟩ = pure [none, none] from rfl) ?_)
  refine wpAny_bind (wpAny_pure ?_)
  refine wpAny_bind (wpAny_pyIter_list hl ?_)
  refine wpAny_bind (wpAny_newObj_type ?_)
  have hs1 : (s.heap.push { cls := .type "list_iterator", data := .fields #[.ref l, .int 0 0] }).objs.size = s.heap.objs.size + 1 := Heap.size_push ..
  have W := Walks.list (prog := prog) (w := w) (show A.in1.handled = none from hh) s.heap.objs.size l (Nat.ne_of_lt hlt) [.ref a, .ref b].toArray
  dsimp only
  rw [hname, hs1]
  have stp : s.heap.StaysIn ((s.heap.push { cls := .type "list_iterator", data := .fields #[.ref l, .int 0 0] }).push { cls := .type "list", dict := none, data := .seq #[] }) := fun b o e => Heap.get?_push_of_some _ (Heap.get?_push_of_some _ e)
  have st0 : ((s.heap.push { cls := .type "list_iterator", data := .fields #[.ref l, .int 0 0] }).push { cls := .type "list", dict := none, data := .seq #[] }).IsListIter s.heap.objs.size l 0 :=
    ⟨_, Heap.get?_push_of_some _ (Heap.get?_push_size _ rfl), rfl, rfl⟩
  have hS : ((s.heap.push { cls := .type "list_iterator", data := .fields #[.ref l, .int 0 0] }).push { cls := .type "list", dict := none, data := .seq #[] }).get? (s.heap.objs.size + 1) = some { cls := .type "list", dict := none, data := .seq #[] } := by
    rw [← hs1]; exact Heap.get?_push_size _ rfl
  have hIS : s.heap.objs.size + 1 ≠ s.heap.objs.size := Nat.succ_ne_self _
  have hlI : l ≠ s.heap.objs.size := Nat.ne_of_lt hlt
  have hSl : s.heap.objs.size + 1 ≠ l := Nat.ne_of_gt (Nat.lt_succ_of_lt hlt)
  generalize ((s.heap.push { cls := .type "list_iterator", data := .fields #[.ref l, .int 0 0] }).push { cls := .type "list", dict := none, data := .seq #[] }) = H at stp st0 hS ⊢
  refine wpAny_pure ⟨plainId_quiet F.plain_max_loop _, codeAny_builtin F.entry_max_loop ?_⟩
  rw [Around.under_plainId F.plain_max_loop _]
  show wpAny _ A.in1 (seqItems? (.ref (s.heap.objs.size + 1)) >>= _) _ _ _
  refine wpAny_bind (wpAny_seqItems hS rfl ?_)
  show wpAny _ A.in1 (tryCatch (pyNext (.ref s.heap.objs.size)) _ >>= _) _ _ _
  refine wpAny_bind (wpAny_tryCatch (W.item 0 _ _ _ (show 0 < 2 by decide) ⟨st0, hl.at fun o e => stp _ _ e⟩ fun v h1 tk1 hP st1 k1 => ?_))
  have hva : v = .ref a := by simpa using hP.symm
  subst hva
  have hS1 := k1 _ _ (by simp) hS
  show wpAny _ A.in1 (updateSeq (s.heap.objs.size + 1) (fun _ => #[.ref a, .ref a]) >>= _) _ _ _
  refine wpAny_bind ?_
  refine wpAny_updateSeq hS1 rfl ?_
  rw [hname]
  have k1' : ∀ c o, c ≠ s.heap.objs.size → H.get? c = some o → h1.get? c = some o := fun c o hc e => k1 c o (by simpa using hc) e
  have u1 : ∀ c o, c ≠ s.heap.objs.size + 1 → h1.get? c = some o → (h1.update (s.heap.objs.size + 1) fun o => o.mapSeq fun _ => #[.ref a, .ref a]).get? c = some o := fun c o hc e => (Heap.get?_update_other _ _ (Ne.symm hc)).trans e
  have up : ∀ c o, s.heap.get? c = some o → (h1.update (s.heap.objs.size + 1) fun o => o.mapSeq fun _ => #[.ref a, .ref a]).get? c = some o := fun c o e => u1 c o (Nat.ne_of_lt (Nat.lt_succ_of_lt (Heap.lt_size e))) (k1' c o (Nat.ne_of_lt (Heap.lt_size e)) (stp _ _ e))
  refine wpAny_pure ⟨plainId_quiet F.plain_max_loop _, max_mid hh hu hlI hIS hSl (st1.1.at fun o e => u1 _ o (Ne.symm hIS) e) (st1.2.at fun o e => u1 _ o (Ne.symm hSl) e) (Nat.ne_of_lt halt) (Nat.ne_of_lt hblt) (ia.keeps up) (ib.keeps up) (Heap.get?_update_self _ hS1 rfl) fun h' tk k => ?_⟩
  exact h h' tk fun c o e => k c o (Nat.ne_of_lt (Heap.lt_size e)) (Nat.ne_of_lt (Nat.lt_succ_of_lt (Heap.lt_size e))) (up c o e)
end
end Mine

-- H2
open PySem PySem.W PyProof.Rows PySem.Calls
set_option Elab.async false
set_option linter.unusedVariables false
namespace Mine
set_option maxRecDepth 100000
section
variable {prog : Program} {w : World} {A : Around} {E : Value → Shared → Prop} {iter : PySem.Expr} {scope : Scope} {pos : Pos} {cl : List (Str × Addr)} {env : Env} {use : Option (Value → Sem Unit)} {Q : Value → Shared → Prop} {s : Shared} {C : Addr} {mc : Str → Option Value}
variable {g : Heap} {L : Addr} {m : Str → Option Value} {news : List (Addr × Obj)}

/-- what a test in a comprehension leaves -/
def TestEnd (s : Shared) (h : Heap) (b : Bool) (ok : Bool) (s' : Shared) : Prop := ok = b ∧ ∃ h' tk', s' = { s with heap := h', toks := tk' } ∧ h.StaysIn h'

def pickL (vs : List Value) (pr : Nat → Bool) (n : Nat) : List Value := ((List.range n).filter pr).map fun j => vs.getD j .none

theorem comp_filter {c : PySem.Expr} {x : Str} {px pe : Pos} {l : Addr} {vs : List Value} (pr : Nat → Bool) (F : Fr g L s.heap m) (N : News g L s.heap news) (hl : s.heap.IsList l vs.toArray) (hh : A.handled = none) (hsz : vs.length ≤ sizeLine)
    (hcell : ∀ y ∈ scope.names, y.2 ≠ .cell) (hkind : scope.kind = .function) (hx : scope.names.lookup x = some .local) (hdb : (x == ("__debug__" : Str)) = false)
    (hcond : ∀ i v h (mc : Str → Option Value) tk, vs[i]? = some v → s.heap.StaysIn h → Fr g L h m → News g L h news → h.Ns (s.heap.objs.size + 2) (fun z => if z = x then some v else mc z) →
      wpAny (model prog w) A (isTrue c (compEnvC scope cl (s.heap.objs.size + 2) env) (eval c (compEnvC scope cl (s.heap.objs.size + 2) env))) (TestEnd s h (pr i)) NoErr { s with heap := h, toks := tk })
    (done : CompDone prog w A E use Q g L m news s (fun ys h => ys = pickL vs pr vs.length)) :
    wpAny (model prog w) A (pyIter (.ref l)) (fun it s₂ => CompAt prog w A E use (.ListComp (.Name x pe) [⟨.Name x px, iter, [c], 0⟩] scope pos) scope cl env Q it s₂) E s := by
  refine comp_list F N hl hh hsz hcell hkind (fun v hv => .inr ⟨_, _, rfl⟩) (fun i ys h => ys = pickL vs pr i) (fun _ _ => rfl) (fun i ys h h' hJ _ => hJ) ?_ ?_
  · intro i v ys h mc tk hv st F' N' hn hJ
    refine turn_if (cn_store hkind hx hn fun h₁ hn₁ hs₁ => ?_)
    have hs₁' : ∀ b o, b ≠ s.heap.objs.size + 2 → h.get? b = some o → h₁.get? b = some o := fun b o hb e => (hs₁.2 b hb).trans e
    have st₁ : s.heap.StaysIn h₁ := fun b o e => hs₁' b o (Nat.ne_of_lt (Nat.lt_succ_of_lt (Nat.lt_succ_of_lt (Heap.lt_size e)))) (st b o e)
    refine wpAny_mono (hcond i v h₁ mc _ hv st₁ (F.keeps st₁) (N.grown st₁) hn₁) ?_ fun _ _ x => x
    rintro ok _ ⟨rfl, h₂, tk₂, rfl, st₂⟩
    have e1 : pickL vs pr (i + 1) = pickL vs pr i ++ (if pr i = true then [v] else []) := by
      unfold pickL
      rw [List.range_succ, List.filter_append, List.map_append]
      congr 1
      cases h : pr i <;> simp [h, List.getD_eq_getElem?_getD, hv]
    cases hp : pr i with
    | true =>
      simp only [if_true]
      refine cn_local (C := s.heap.objs.size + 2) hkind hx hdb (hn₁.at' fun o e => st₂ _ o e) (if_pos rfl) ?_
      refine ⟨h₂, _, rfl, fun b o e hb => st₂ b o (hs₁' b o (by simpa using hb) e), ⟨_, hn₁.at' fun o e => st₂ _ o e⟩, ?_⟩
      rw [e1, hp, hJ]; rfl
    | false =>
      simp only [Bool.false_eq_true, if_false]
      refine ⟨h₂, _, rfl, fun b o e hb => st₂ b o (hs₁' b o (by simpa using hb) e), ⟨_, hn₁.at' fun o e => st₂ _ o e⟩, ?_⟩
      rw [e1, hp, hJ]; simp
  · exact done
end
end Mine

-- L1
open PySem PySem.W PyProof.Rows PySem.Calls
set_option Elab.async false
set_option linter.unusedVariables false
namespace Mine
set_option maxRecDepth 100000

theorem my_min2 {prog : Program} {w : World} {A : Around} {E : Value → Shared → Prop} {s : Shared} {h₀ : Heap} {L : Addr} {m : Str → Option Value} {news : List (Addr × Obj)} {a b : Int} {t u : Tok} {Q : Value → Shared → Prop} (hh : A.handled = none) (F : Fr h₀ L s.heap m) (N : News h₀ L s.heap news)
    (h : ∀ h' tk t M, Fr h₀ L h' m → News h₀ L h' news → M ≤ a → M ≤ b → (M = a ∨ M = b) → Q (.int M t) { s with heap := h', toks := tk }) :
    wpAny (model prog w) A (call (.builtin "min") [.int a t, .int b u]) Q E s :=
  min_two_N hh F N fun h' tk F' N' => h h' tk _ _ F' N' (by split <;> omega) (by split <;> omega) (by split <;> simp)
theorem len_cons {α : Type} {zs : List α} {n : Nat} (h : zs.length = n + 1) : ∃ a r, zs = a :: r := by
  cases zs with
  | nil => cases h
  | cons a r => exact ⟨a, r, rfl⟩
theorem ints_cons {vs : List Value} {z : Int} {zs : List Int} (h : IntsAre vs (z :: zs)) : ∃ t vs', vs = .int z t :: vs' ∧ IntsAre vs' zs := by
  cases h with
  | cons a t r => exact ⟨_, _, rfl, r⟩
theorem ints_nil {vs : List Value} (h : IntsAre vs []) : vs = [] := by
  cases h; rfl
theorem ints8 {vs : List Value} {zs : List Int} (h : IntsAre vs zs) (h8 : zs.length = 8) (hb : ∀ z ∈ zs, 0 ≤ z ∧ z ≤ 7) {C : Prop} (k : ∀ a b c d e f g i t1 t2 t3 t4 t5 t6 t7 t8,
    vs = [.int a t1, .int b t2, .int c t3, .int d t4, .int e t5, .int f t6, .int g t7, .int i t8] → (0 ≤ a ∧ a ≤ 7) → (0 ≤ b ∧ b ≤ 7) → (0 ≤ c ∧ c ≤ 7) → (0 ≤ d ∧ d ≤ 7) → (0 ≤ e ∧ e ≤ 7) → (0 ≤ f ∧ f ≤ 7) → (0 ≤ g ∧ g ≤ 7) → (0 ≤ i ∧ i ≤ 7) → C) : C := by
  obtain ⟨a, zs, rfl⟩ := len_cons h8
  obtain ⟨b, zs, rfl⟩ := len_cons (Nat.succ.inj h8)
  obtain ⟨c, zs, rfl⟩ := len_cons (Nat.succ.inj (Nat.succ.inj h8))
  obtain ⟨d, zs, rfl⟩ := len_cons (Nat.succ.inj (Nat.succ.inj (Nat.succ.inj h8)))
  obtain ⟨e, zs, rfl⟩ := len_cons (Nat.succ.inj (Nat.succ.inj (Nat.succ.inj (Nat.succ.inj h8))))
  obtain ⟨f, zs, rfl⟩ := len_cons (Nat.succ.inj (Nat.succ.inj (Nat.succ.inj (Nat.succ.inj (Nat.succ.inj h8)))))
  obtain ⟨g, zs, rfl⟩ := len_cons (Nat.succ.inj (Nat.succ.inj (Nat.succ.inj (Nat.succ.inj (Nat.succ.inj (Nat.succ.inj h8))))))
  obtain ⟨i, zs, rfl⟩ := len_cons (Nat.succ.inj (Nat.succ.inj (Nat.succ.inj (Nat.succ.inj (Nat.succ.inj (Nat.succ.inj (Nat.succ.inj h8)))))))
  obtain rfl : zs = [] := List.length_eq_zero_iff.mp (Nat.succ.inj (Nat.succ.inj (Nat.succ.inj (Nat.succ.inj (Nat.succ.inj (Nat.succ.inj (Nat.succ.inj (Nat.succ.inj h8))))))))
  obtain ⟨t1, vs1, rfl, q1⟩ := ints_cons h
  obtain ⟨t2, vs2, rfl, q2⟩ := ints_cons q1
  obtain ⟨t3, vs3, rfl, q3⟩ := ints_cons q2
  obtain ⟨t4, vs4, rfl, q4⟩ := ints_cons q3
  obtain ⟨t5, vs5, rfl, q5⟩ := ints_cons q4
  obtain ⟨t6, vs6, rfl, q6⟩ := ints_cons q5
  obtain ⟨t7, vs7, rfl, q7⟩ := ints_cons q6
  obtain ⟨t8, vs8, rfl, q8⟩ := ints_cons q7
  obtain rfl := ints_nil q8
  exact k a b c d e f g i t1 t2 t3 t4 t5 t6 t7 t8 rfl (hb _ (.head _)) (hb _ (.tail _ (.head _))) (hb _ (.tail _ (.tail _ (.head _)))) (hb _ (.tail _ (.tail _ (.tail _ (.head _))))) (hb _ (.tail _ (.tail _ (.tail _ (.tail _ (.head _)))))) (hb _ (.tail _ (.tail _ (.tail _ (.tail _ (.tail _ (.head _))))))) (hb _ (.tail _ (.tail _ (.tail _ (.tail _ (.tail _ (.tail _ (.head _)))))))) (hb _ (.tail _ (.tail _ (.tail _ (.tail _ (.tail _ (.tail _ (.tail _ (.head _)))))))))
theorem steps_ok {ns : List Int} {M : Int} (h1 : M ≤ 8) (h2 : M ≤ ns.length) (h3 : M = 8 ∨ M = ns.length) :
    (List.map (fun a : Int => a.fmod 8) (List.take 8 ns) ++ (List.replicate (8 - M).toNat [(0 : Int)]).flatten).length = 8 ∧
    ∀ z ∈ (List.map (fun a : Int => a.fmod 8) (List.take 8 ns) ++ (List.replicate (8 - M).toNat [(0 : Int)]).flatten), 0 ≤ z ∧ z ≤ 7 := by
  constructor
  · rw [List.length_append, List.length_map, List.length_take, List.length_flatten, List.map_replicate, List.sum_replicate_nat]
    simp only [List.length_singleton, Nat.mul_one]
    omega
  · intro z hz
    rcases List.mem_append.mp hz with hz | hz
    · obtain ⟨a, _, rfl⟩ := List.mem_map.mp hz
      rw [Int.fmod_eq_emod_of_nonneg _ (by decide)]
      omega
    · obtain ⟨l, hl, hz⟩ := List.mem_flatten.mp hz
      rw [List.eq_of_mem_replicate hl] at hz
      rw [List.mem_singleton.mp hz]
      decide
theorem words_L1 : True := by
  k_with_none
  k_with "call builtin:min" => (k_here; (with_reducible show wpAny _ _ (call (Value.builtin _) [Value.int _ _, Value.int _ _]) _ _ _); k_dflt (refine' my_min2 (by assumption) (by k_asm) (by k_asm) ?_; k_whole); intro hkw tkkw tkw Mkw Fkw Nkw e1kw e2kw e3kw; (try k_sweep))
  k_with "eval ListComp" => (k_here; k_dflt (refine comp_eval (by exact rfl) rfl (by decide) (fun _ => rfl) ?_))
  k_with "pyIter ref" => ((with_reducible show wpAny _ _ (pyIter (Value.ref _)) (fun it s₂ => CompAt _ _ _ _ _ _ _ _ _ _ it s₂) _ _); (rename Fr _ _ _ _ => kFkw); (rename News _ _ _ _ => kNkw); k_dflt (refine comp_mod kFkw kNkw (News.isList kNkw (List.Mem.head _)) (by assumption) (by assumption) (by (have := IntsAre.length ‹IntsAre _ _›; simp only [sizeLine]; omega)) (by decide) rfl rfl rfl ?_); intro Dkw yskw hkw tkkw Fkw Nkw l1kw ikw; (try k_lt l1kw))
  trivial

section
variable {p : Program} {loose : List Str} {mean : ExcName → Option Value} {mg mb : Str → Option Value} {w : World} {A A₀ : Around} {s : Shared} {Q : Flow → Shared → Prop}
set_option maxHeartbeats 8000000 in
theorem law_s0 {o : Obj} (ho : (hd.heap_39 w.params).lookup 108 = some o) {qual : Str} {body : List Stmt} {scope : Scope} {cdv cd : Value} {fa : Addr} (hf : funOf o = some (qual, body, scope, cdv)) {st : Stmt} (hst : body[0]? = some st)
    {base g : Heap} {outer : List Env} {L l : Addr} (l51 : @LT.lt Nat _ 51 L) (l44 : @LT.lt Nat _ 44 L) (B : Below A₀ base outer g) (SA : (A.deeper (envOfC qual scope L fa cd)).frames = some (envOfC qual scope L fa cd :: outer))
    (F : Fr g L s.heap (bindL (envOfC qual scope L fa cd).kindOf [(Str.ofString "script", .ref l)] fun _ => none)) {c1 c2 c3 c4 c5 : Obj}
    (N : News g L s.heap [(L + 1 + 1 + 1 + 1 + 1, c5), (L + 1 + 1 + 1 + 1, c4), (L + 1 + 1 + 1, c3), (L + 1 + 1, c2), (L + 1, c1), (51, tabObj #[]), (44, tabObj #[])])
    (k1 : c1.data = .cell none)
    (X : (hd.heap_39 w.params).In g) (T : Top p loose mean mg mb g) (hh : A.handled = none)
    {vs : List Value} {ns : List Int} (hl : g.IsList l vs.toArray) (hi : IntsAre vs ns) (hn : ns.length ≤ 63)
    (ret : ∀ h' tk' D m' o1 a b c d e f g' i t1 t2 t3 t4 t5 t6 t7 t8, Fr g L h' m' → News g L h' [(D, listOf [.int a t1, .int b t2, .int c t3, .int d t4, .int e t5, .int f t6, .int g' t7, .int i t8].toArray 0), (L + 1 + 1 + 1 + 1 + 1, c5), (L + 1 + 1 + 1 + 1, c4), (L + 1 + 1 + 1, c3), (L + 1 + 1, c2), (L + 1, o1), (51, tabObj #[]), (44, tabObj #[])] →
      o1.data = .cell (some (.ref D)) → @LT.lt Nat _ (L + 1 + 1 + 1 + 1 + 1) D → @LT.lt Nat _ 51 D → @LT.lt Nat _ 44 D → (0 ≤ a ∧ a ≤ 7) → (0 ≤ b ∧ b ≤ 7) → (0 ≤ c ∧ c ≤ 7) → (0 ≤ d ∧ d ≤ 7) → (0 ≤ e ∧ e ≤ 7) → (0 ≤ f ∧ f ≤ 7) → (0 ≤ g' ∧ g' ≤ 7) → (0 ≤ i ∧ i ≤ 7) → Q .next { s with heap := h', toks := tk' }) :
    wpAny (model PySem.Challenge.rw_zt0001_01.row.prog w) (A.deeper (envOfC qual scope L fa cd)) (exec st (envOfC qual scope L fa cd)) Q NoErr s := by
  revert ho; k_fill; intro ho
  obtain rfl := Option.some.inj (ho.symm.trans (by k_is : _ = some _))
  cases (hf.symm.trans (rfl : _ = some (_, _, _, _)))
  cases hst
  clear ho hf
  k_steps
  rename News _ _ _ _ => N9
  rename Fr _ _ _ _ => F9
  rename IntsAre _ _ => iw
  rename (_ = _ ∨ _ = _) => e3
  rename _ = Data.cell _ => hc
  have sk := steps_ok (by assumption) (by assumption) e3
  refine ints8 iw sk.1 sk.2 fun a b c d e f g' i t1 t2 t3 t4 t5 t6 t7 t8 hws h1 h2 h3 h4 h5 h6 h7 h8 => ?_
  subst hws
  have N1 : News g L _ [_, (L + 1 + 1 + 1 + 1 + 1, c5), (L + 1 + 1 + 1 + 1, c4), (L + 1 + 1 + 1, c3), (L + 1 + 1, c2), (L + 1, _), (51, tabObj #[]), (44, tabObj #[])] := fun p hp => by
    rcases List.mem_cons.mp hp with rfl | hp
    · exact N9 _ (List.Mem.head _)
    · exact N9 p (List.mem_of_mem_drop (i := 5) hp)
  exact ret _ _ _ _ _ _ _ _ _ _ _ _ _ _ _ _ _ _ _ _ _ F9 N1 hc (by omega) (by omega) (by omega) h1 h2 h3 h4 h5 h6 h7 h8
end
end Mine

-- L2
theorem Mine.off_L2 : True := by
  k_with_none
  trivial
open PySem PySem.W PyProof.Rows PySem.Calls
set_option Elab.async false
set_option linter.unusedVariables false
namespace Mine
set_option maxRecDepth 100000

theorem TupsAt.inv {h : Heap} {lo : Addr} {vs : List Value} {p : Int × Int} {ps : List (Int × Int)} (x : TupsAt h lo vs (p :: ps)) : ∃ a t u vs', vs = .ref a :: vs' ∧ @LT.lt Nat _ lo a ∧ h.get? a = some (tup2 p.1 t p.2 u) ∧ TupsAt h lo vs' ps := by
  cases x with
  | cons q e r => exact ⟨_, _, _, _, rfl, q, e, r⟩
theorem TupsAt.inv0 {h : Heap} {lo : Addr} {vs : List Value} (x : TupsAt h lo vs []) : vs = [] := by cases x; rfl
theorem news_tup {g h₀ h : Heap} {L p : Addr} {m : Str → Option Value} {o : Obj} {k : Nat} (F : Fr g L h₀ m) (hlo : @LT.lt Nat _ (h₀.objs.size + k) p) (e : h.get? p = some o) : h.get? p = some o ∧ p ≠ L ∧ g.get? p = none := by
  have h1 : @LT.lt Nat _ L h₀.objs.size := F.ns.lt
  have h2 : @LT.lt Nat _ h₀.objs.size p := Nat.lt_of_le_of_lt (Nat.le_add_right _ _) hlo
  exact ⟨e, Nat.ne_of_gt (Nat.lt_trans h1 h2), Heap.get?_none_of_le (Nat.le_trans F.above (Nat.le_of_lt (Nat.lt_trans h1 h2)))⟩

section
variable {p : Program} {loose : List Str} {mean : ExcName → Option Value} {mg mb : Str → Option Value} {w : World} {A A₀ : Around} {s : Shared} {Q : Flow → Shared → Prop}
set_option maxHeartbeats 8000000 in
theorem law_s1 {o : Obj} (ho : (hd.heap_39 w.params).lookup 108 = some o) {qual : Str} {body : List Stmt} {scope : Scope} {cdv cd : Value} {fa : Addr} (hf : funOf o = some (qual, body, scope, cdv)) {st : Stmt} (hst : body[1]? = some st)
    {base g : Heap} {outer : List Env} {L D : Addr} (l51 : @LT.lt Nat _ 51 L) (l44 : @LT.lt Nat _ 44 L) (B : Below A₀ base outer g) (SA : (A.deeper (envOfC qual scope L fa cd)).frames = some (envOfC qual scope L fa cd :: outer))
    {m : Str → Option Value} (F : Fr g L s.heap m) {o1 : Obj} {rest : List (Addr × Obj)} {a b c d e f g' i : Int} {t1 t2 t3 t4 t5 t6 t7 t8 : Tok}
    (N : News g L s.heap ((D, listOf [.int a t1, .int b t2, .int c t3, .int d t4, .int e t5, .int f t6, .int g' t7, .int i t8].toArray 0) :: (L + 1, o1) :: rest))
    (k1 : o1.data = .cell (some (.ref D)))
    (X : (hd.heap_39 w.params).In g) (T : Top p loose mean mg mb g) (hh : A.handled = none)
    (ret : ∀ h' tk' DC p0 p1 p2 p3 u0 u1 u2 u3 v0 v1 v2 v3, Fr g L h' (fun z => if z = Str.ofString "corners" then some (.ref DC) else m z) →
      News g L h' ((DC, listOf [.ref p0, .ref p1, .ref p2, .ref p3].toArray 4) :: (p0, tup2 a u0 b v0) :: (p1, tup2 c u1 d v1) :: (p2, tup2 e u2 f v2) :: (p3, tup2 g' u3 i v3) ::
        (D, listOf [.int a t1, .int b t2, .int c t3, .int d t4, .int e t5, .int f t6, .int g' t7, .int i t8].toArray 0) :: (L + 1, o1) :: rest) → (∀ q ∈ (L + 1, o1) :: rest, @LT.lt Nat _ q.1 DC ∧ @LT.lt Nat _ q.1 p0 ∧ @LT.lt Nat _ q.1 p1 ∧ @LT.lt Nat _ q.1 p2 ∧ @LT.lt Nat _ q.1 p3) → Q .next { s with heap := h', toks := tk' }) :
    wpAny (model PySem.Challenge.rw_zt0001_01.row.prog w) (A.deeper (envOfC qual scope L fa cd)) (exec st (envOfC qual scope L fa cd)) Q NoErr s := by
  revert ho; k_fill; intro ho
  obtain rfl := Option.some.inj (ho.symm.trans (by k_is : _ = some _))
  cases (hf.symm.trans (rfl : _ = some (_, _, _, _)))
  cases hst
  clear ho hf
  k_dflt (refine comp_assign (by rfl) (by exact rfl) rfl (by decide) (fun _ => rfl) ?_)
  k_steps
  rename News _ _ _ _ => N9
  rename Fr _ _ _ _ => F9
  rename IsRange _ _ _ _ _ _ _ _ => R9
  have hcl := (N9 _ (.tail _ (.head _))).1
  have hls := News.isList N9 (.head _)
  refine comp_range (n := 4) (fun k => ([a, b, c, d, e, f, g', i].getD (2 * k) 0, [a, b, c, d, e, f, g', i].getD (2 * k + 1) 0)) F9 N9 R9 (by decide) (by decide) hh (by decide) (by decide) rfl rfl
    (fun k hk h mc tk t st hn => elt_corner rfl rfl rfl rfl rfl rfl ⟨_, st _ _ hcl, k1⟩ (hls.at fun o e => st _ _ e) (.cons _ _ (.cons _ _ (.cons _ _ (.cons _ _ (.cons _ _ (.cons _ _ (.cons _ _ (.cons _ _ .nil)))))))) rfl hk hn)
    (CompDone.local F9 N9 rfl rfl rfl (fun ys h h' hK k => hK.but F9.ns.lt k) fun DC ys h tk F8 N8 hlt hT => ?_)
  have hT : TupsAt h _ ys [(a, b), (c, d), (e, f), (g', i)] := hT
  obtain ⟨p0, u0, v0, vs0, rfl, q1, e1, hT⟩ := hT.inv
  obtain ⟨p1, u1, v1, vs1, rfl, q2, e2, hT⟩ := hT.inv
  obtain ⟨p2, u2, v2, vs2, rfl, q3, e3, hT⟩ := hT.inv
  obtain ⟨p3, u3, v3, vs3, rfl, q4, e4, hT⟩ := hT.inv
  obtain rfl := hT.inv0
  refine ret _ _ DC p0 p1 p2 p3 u0 u1 u2 u3 v0 v1 v2 v3 F8 (fun p hp => ?_) fun q hq => ?_
  rcases List.mem_cons.mp hp with rfl | hp
  · exact N8 _ (.head _)
  rcases List.mem_cons.mp hp with rfl | hp
  · exact news_tup F9 q1 e1
  rcases List.mem_cons.mp hp with rfl | hp
  · exact news_tup F9 q2 e2
  rcases List.mem_cons.mp hp with rfl | hp
  · exact news_tup F9 q3 e3
  rcases List.mem_cons.mp hp with rfl | hp
  · exact news_tup F9 q4 e4
  · exact N8 _ (.tail _ hp)
  · have l0 : @LT.lt Nat _ q.1 _ := Heap.lt_size (N9 q (.tail _ hq)).1
    exact ⟨hlt q (.tail _ hq), Nat.lt_trans (Nat.lt_of_lt_of_le l0 (Nat.le_add_right _ 2)) q1, Nat.lt_trans (Nat.lt_of_lt_of_le l0 (Nat.le_add_right _ 2)) q2, Nat.lt_trans (Nat.lt_of_lt_of_le l0 (Nat.le_add_right _ 2)) q3, Nat.lt_trans (Nat.lt_of_lt_of_le l0 (Nat.le_add_right _ 2)) q4⟩
end
end Mine

-- L3
open PySem PySem.W PyProof.Rows PySem.Calls
set_option Elab.async false
set_option linter.unusedVariables false
namespace Mine
set_option maxRecDepth 100000

theorem words_L3 : True := by
  k_with_none
  k_with "eval Name" => (k_here; k_dflt (refine' nameX_L (by k_asm) (by assumption) ?_ (by rfl) (by rfl) (by decide); k_whole))
  k_with "unpackItems ref" => (k_here; k_dflt (refine' unpackItemsN_ (by k_asm) (by k_asm) (by first | assumption | kun_tup) (by assumption) (by exact rfl) ?_; k_whole); intro hkw Fkw Nkw; (try k_sweep))
  k_with "assign Tuple" => (k_here; (with_reducible show wpAny _ _ (assign (Expr.Tuple _ _ _) _ (Value.ref _)) _ _ _); k_dflt (refine' unpackN_ (by k_asm) (by k_asm) (by first | assumption | kun_tup) (by assumption) (by exact rfl) (by exact rfl) ?_; k_whole); intro hkw Fkw Nkw; (try k_sweep))
  trivial

section
variable {p : Program} {loose : List Str} {mean : ExcName → Option Value} {mg mb : Str → Option Value} {w : World} {A A₀ : Around} {s : Shared} {Q : Flow → Shared → Prop}
set_option maxHeartbeats 8000000 in
theorem law_s2 {o : Obj} (ho : (hd.heap_39 w.params).lookup 108 = some o) {qual : Str} {body : List Stmt} {scope : Scope} {cdv cd : Value} {fa : Addr} (hf : funOf o = some (qual, body, scope, cdv)) {st : Stmt} (hst : body[2]? = some st)
    {base g : Heap} {outer : List Env} {L DC p0 p1 p2 p3 : Addr} (l51 : @LT.lt Nat _ 51 L) (l44 : @LT.lt Nat _ 44 L) (B : Below A₀ base outer g) (SA : (A.deeper (envOfC qual scope L fa cd)).frames = some (envOfC qual scope L fa cd :: outer))
    {m : Str → Option Value} (F : Fr g L s.heap m) {o1 o2 o3 o4 o5 q1 q2 r0 r1 r2 r3 oD : Obj} {D : Addr} (hm : m (Str.ofString "corners") = some (.ref DC))
    (N : News g L s.heap [(DC, listOf [.ref p0, .ref p1, .ref p2, .ref p3].toArray 4), (p0, r0), (p1, r1), (p2, r2), (p3, r3), (D, oD), (L + 1, o1), (L + 1 + 1 + 1 + 1 + 1, o5), (L + 1 + 1 + 1 + 1, o4), (L + 1 + 1 + 1, o3), (L + 1 + 1, o2), (51, q1), (44, q2)])
    (i0 : @LT.lt Nat _ (L + 1 + 1 + 1 + 1 + 1) DC) (i1 : @LT.lt Nat _ (L + 1 + 1 + 1 + 1 + 1) p0) (i2 : @LT.lt Nat _ (L + 1 + 1 + 1 + 1 + 1) p1) (i3 : @LT.lt Nat _ (L + 1 + 1 + 1 + 1 + 1) p2) (i4 : @LT.lt Nat _ (L + 1 + 1 + 1 + 1 + 1) p3) (i5 : @LT.lt Nat _ (L + 1 + 1 + 1 + 1 + 1) D)
    (k2 : o2.data = .cell none) (k3 : o3.data = .cell none)
    (X : (hd.heap_39 w.params).In g) (T : Top p loose mean mg mb g) (hh : A.handled = none)
    (ret : ∀ h' tk' DF DS cF cS o2' o3' m', Fr g L h' m' → m' (Str.ofString "corners") = some (.ref DC) →
      News g L h' [(DS, listOf [.ref p0, .ref p2, .ref p3].toArray cS), (DF, listOf [.ref p0, .ref p1, .ref p2].toArray cF), (DC, listOf [.ref p0, .ref p1, .ref p2, .ref p3].toArray 4), (p0, r0), (p1, r1), (p2, r2), (p3, r3), (D, oD), (L + 1, o1), (L + 1 + 1 + 1 + 1 + 1, o5), (L + 1 + 1 + 1 + 1, o4), (L + 1 + 1 + 1, o3'), (L + 1 + 1, o2'), (51, q1), (44, q2)] →
      o2'.data = .cell (some (.ref DF)) → o3'.data = .cell (some (.ref DS)) → @LT.lt Nat _ (L + 1 + 1 + 1 + 1 + 1) DF → @LT.lt Nat _ (L + 1 + 1 + 1 + 1 + 1) DS → Q .next { s with heap := h', toks := tk' }) :
    wpAny (model PySem.Challenge.rw_zt0001_01.row.prog w) (A.deeper (envOfC qual scope L fa cd)) (exec st (envOfC qual scope L fa cd)) Q NoErr s := by
  revert ho; k_fill; intro ho
  obtain rfl := Option.some.inj (ho.symm.trans (by k_is : _ = some _))
  cases (hf.symm.trans (rfl : _ = some (_, _, _, _)))
  cases hst
  clear ho hf
  k_steps
  rename News _ _ _ _ => N9
  rename Fr _ _ _ _ => F9
  exact ret _ _ _ _ _ _ _ _ _ F9 hm (fun p hp => N9 p (.tail _ hp)) (by assumption) (by assumption) (by omega) (by omega)
end
end Mine

-- L4
theorem Mine.off_L4 : True := by
  k_with_none
  trivial
open PySem PySem.W PyProof.Rows PySem.Calls
set_option Elab.async false
set_option linter.unusedVariables false
namespace Mine
set_option maxRecDepth 100000

def NoRec (o : Obj) : Prop := ∀ vs s t, o.data = .fields vs → vs[1]? ≠ some (.str s t)
theorem Tab.but {P : Addr} {ln cl : Int} {q : Str} {h h' : Heap} {S : List Addr} (x : Tab P ln cl q h) (st : Stay S h h') (n : P ∉ S) (nt : ∀ a ∈ S, ∀ o, h.get? a = some o → NoRec o) : Tab P ln cl q h' := by
  rcases x with x | ⟨c', x, c, o, vs, t, e, ho, hd, hv⟩
  · exact .inl (st _ _ x n)
  · exact .inr ⟨c', st _ _ x n, c, o, vs, t, e, st _ _ ho fun q => nt _ q _ ho _ _ _ hd hv, hd, hv⟩
theorem Tabs.but {h h' : Heap} {S : List Addr} (x : Tabs h) (st : Stay S h h') (n : 44 ∉ S) (n' : 51 ∉ S) (nt : ∀ a ∈ S, ∀ o, h.get? a = some o → NoRec o) : Tabs h' := ⟨x.t44.but st n nt, x.t51.but st n' nt⟩
theorem norec_ns {h : Heap} {L : Addr} {m : Str → Option Value} (n : h.Ns L m) : ∀ o, h.get? L = some o → NoRec o := fun o e vs s t hd _ => by
  obtain ⟨oL, es, ep, hL, hLd, _⟩ := n
  rw [e] at hL; cases hL
  rw [hd] at hLd; cases hLd
theorem tab_none {g h : Heap} {L : Addr} {m : Str → Option Value} (F : Fr g L h m) (T : Tabs h) : 44 ≠ L ∧ 51 ≠ L := by
  obtain ⟨p1, e1, _⟩ := T.t44.nostr
  obtain ⟨p2, e2, _⟩ := T.t51.nostr
  obtain ⟨oL, es, ep, hL, hLd, _⟩ := F.ns
  constructor
  · intro q; rw [← q, e1] at hL; cases hL; cases hLd
  · intro q; rw [← q, e2] at hL; cases hL; cases hLd

section
variable {prog : Program} {w : World} {A : Around} {s : Shared} {env : Env} {g : Heap} {L : Addr} {x : Str} {px pos : Pos} {iter : PySem.Expr} {body : List Stmt} {Q : Flow → Shared → Prop}

/-- what a turn of a for leaves -/
inductive FEnd (s₁ : Shared) (g : Heap) (L : Addr) (P : (Str → Option Value) → Prop) (nb : List (Addr × Obj)) (f : Flow) (s' : Shared) : Prop
  | mk (h : Heap) (tk : Nat) (m : Str → Option Value) (ef : f = .next) (es : s' = { s₁ with heap := h, toks := tk }) (F : Fr g L h m) (hP : P m) (T : Tabs h) (N : News g L h nb)
/-- what a for over a list of objects asks, where its list is told -/
inductive ForRefs (prog : Program) (w : World) (A : Around) (env : Env) (g : Heap) (L : Addr) (x : Str) (body : List Stmt) (P : (Str → Option Value) → Prop) (nb : List (Addr × Obj)) (Q : Flow → Shared → Prop) (vs : List Value) (v : Value) (s₁ : Shared) : Prop
  | mk (l : Addr) (ev : v = .ref l) (hl : s₁.heap.IsList l vs.toArray) (gl : g.get? l = none) (m : Str → Option Value) (F : Fr g L s₁.heap m) (hP : P m) (T : Tabs s₁.heap) (N : News g L s₁.heap nb)
    (turn : ∀ (i : Nat) (v : Value) (m : Str → Option Value) (h : Heap) (tk : Nat) (nx : List (Addr × Obj)), vs[i]? = some v → Fr g L h (fun y => if y = x then some v else m y) → P m → Tabs h → News g L h (nx ++ nb) → (∀ p ∈ nx, p.1 ∉ ST) →
      wpAny (model prog w) A (execs body env) (FEnd s₁ g L P (nx ++ nb)) NoErr { s₁ with heap := h, toks := tk })
    (done : ∀ h tk m, Fr g L h m → P m → Tabs h → News g L h nb → Q .next { s₁ with heap := h, toks := tk })
/-- between two turns of a for -/
inductive FInv (s₁ : Shared) (g : Heap) (L : Addr) (P : (Str → Option Value) → Prop) (nb : List (Addr × Obj)) (vs : List Value) (l : Addr) (k : Nat) (s' : Shared) : Prop
  | mk (h : Heap) (tk : Nat) (m : Str → Option Value) (i : Nat) (es : s' = { s₁ with heap := h, toks := tk }) (hi : i ≤ vs.length) (ek : k = vs.length + 1 - i) (hit : h.IsListIter s₁.heap.objs.size l i) (hl : h.IsList l vs.toArray)
    (F : Fr g L h m) (hP : P m) (T : Tabs h) (N : News g L h nb)

theorem for_refs {P : (Str → Option Value) → Prop} {nb : List (Addr × Obj)} {vs : List Value} (hh : A.handled = none) (hL : env.locals = L) (hx : env.kindOf x = some .local) (hp : (env.scope.kind == .class || (env.scope.kind == .module && env.locals != env.globals)) = false)
    (hs : ∀ v, foldedSetIterable iter env v = pure v) (h : wpAny (model prog w) A (eval iter env) (ForRefs prog w A env g L x body P nb Q vs) NoErr s) :
    wpAny (model prog w) A (exec (.For (.Name x px) iter body [] pos) env) Q NoErr s := by
  refine wpAny_For (wpAny_mono h (fun v s₁ h₁ => ?_) fun _ _ e => e) hs
  obtain ⟨l, ev, hl, gl, m₀, F₀, hP₀, T₀, N₀, turn, done⟩ := h₁
  subst ev
  refine wpAny_pyIter_list hl ?_
  have hlt : l < s₁.heap.objs.size := let ⟨_, ho, _⟩ := hl; Heap.lt_size ho
  have hLlt : @LT.lt Nat _ L s₁.heap.objs.size := F₀.ns.lt
  have W := Walks.list (prog := prog) (w := w) hh s₁.heap.objs.size l (Nat.ne_of_lt hlt) vs.toArray
  have hlen : vs.toArray.size = vs.length := by simp
  rw [hlen] at W
  have stp : s₁.heap.StaysIn (s₁.heap.push { cls := .type "list_iterator", data := .fields #[.ref l, .int 0 0] }) := fun b o e => Heap.get?_push_of_some _ e
  have h44 : ∀ {h : Heap}, Tabs h → ∃ o, h.get? 44 = some o := fun T => let ⟨_, e, _⟩ := T.t44.nostr; ⟨_, e⟩
  have h51 : ∀ {h : Heap}, Tabs h → ∃ o, h.get? 51 = some o := fun T => let ⟨_, e, _⟩ := T.t51.nostr; ⟨_, e⟩
  have i44 : 44 ≠ s₁.heap.objs.size := by obtain ⟨o, e⟩ := h44 T₀; exact Nat.ne_of_lt (Heap.lt_size e)
  have i51 : 51 ≠ s₁.heap.objs.size := by obtain ⟨o, e⟩ := h51 T₀; exact Nat.ne_of_lt (Heap.lt_size e)
  have hlS : l ∉ ST := tab_nolist T₀ hl
  have hIS : s₁.heap.objs.size ∉ ST := by
    intro q
    rcases List.mem_cons.mp q with q | q
    · exact i44 q.symm
    rcases List.mem_cons.mp q with q | q
    · exact i51 q.symm
    cases q
  have hlL : l ≠ L := by
    intro q
    obtain ⟨oL, es, ep, hL', hLd, _⟩ := F₀.ns
    obtain ⟨ol, ho, _, n, hd⟩ := hl
    rw [← q, ho] at hL'; cases hL'; rw [hd] at hLd; cases hLd
  have gI : g.get? s₁.heap.objs.size = none := base_none F₀ 0
  have hIL : s₁.heap.objs.size ≠ L := Nat.ne_of_gt hLlt
  have nI : ∀ a ∈ [s₁.heap.objs.size], g.get? a = none ∧ a ≠ L := fun a ha => by
    rw [List.mem_singleton.mp ha]
    exact ⟨gI, hIL⟩
  have nbI : ∀ p ∈ nb, p.1 ∉ [s₁.heap.objs.size] := fun p hp q => by
    have := Heap.lt_size (N₀ p hp).1
    rw [List.mem_singleton.mp q] at this
    exact absurd this (Nat.lt_irrefl _)
  have itrec : ∀ (h : Heap) (i : Nat), h.IsListIter s₁.heap.objs.size l i → ∀ a ∈ [s₁.heap.objs.size], ∀ o, h.get? a = some o → NoRec o := fun h i hi a ha o e vs s t hd hv => by
    obtain ⟨o', e', _, hd'⟩ := hi
    rw [List.mem_singleton.mp ha, e'] at e; cases e
    rw [hd'] at hd; cases hd; cases hv
  refine codeAny_forLoop (FInv s₁ g L P nb vs l) ?_ (vs.length + 1)
    ⟨_, _, m₀, 0, rfl, Nat.zero_le _, rfl, ⟨_, Heap.get?_push_size _ rfl, rfl, rfl⟩, hl.at fun o e => stp _ _ e, F₀.keeps stp, hP₀, T₀.but (S := []) (fun b o e _ => stp b o e) (fun q => nomatch q) (fun q => nomatch q) (fun _ q => nomatch q), news_back (S := []) N₀ (fun b o e _ => stp b o e) fun _ _ q => nomatch q⟩ (by intro _; rfl)
  intro k s' hI
  obtain ⟨h, tk, m, i, es, hi, ek, hit, hl', F, hP, T, hN⟩ := hI
  subst es ek
  by_cases hlt' : i < vs.length
  · refine W.item i _ _ _ hlt' ⟨hit, hl'⟩ fun v h₂ tk₂ hv hst₂ hk₂ => ?_
    have k2 : Stay [s₁.heap.objs.size] h h₂ := fun b o e hb => hk₂ b o hb e
    have F₂ := fr_back F k2 nI
    have T₂ := T.but k2 (by simpa using i44) (by simpa using i51) (itrec h i hit)
    have N₂ := news_back hN k2 nbI
    subst hL
    refine wpAny_assign_Name (wpAny_storeName_local hx F₂.ns (fun h₃ hn₃ hs₃ => ?_) hp)
    have F₃ := F₂.set hn₃ hs₃
    have k3 : Stay [env.locals] h₂ h₃ := fun b o e hb => (hs₃.2 b (by simpa using hb)).trans e
    have tl := tab_none F₂ T₂
    have T₃ := T₂.but k3 (by simpa using tl.1) (by simpa using tl.2) (fun a ha => by rw [List.mem_singleton.mp ha]; exact norec_ns F₂.ns)
    have N₃ : News g env.locals h₃ nb := news_back N₂ k3 fun p hp q => (N₀ p hp).2.1 (List.mem_singleton.mp q)
    have it3 : h₃.IsListIter s₁.heap.objs.size l (i + 1) := hst₂.1.at fun o e => k3 _ o e (by simpa using hIL)
    have l3 : h₃.IsList l vs.toArray := hst₂.2.at fun o e => k3 _ o e (by simpa using hlL)
    obtain ⟨oI, eI, hI2⟩ := it3
    obtain ⟨ol, el, hl2⟩ := l3
    refine wpAny_mono (turn i v m h₃ _ [(s₁.heap.objs.size, oI), (l, ol)] (by simpa using hv) F₃ hP T₃ (fun p hp => ?_) (fun p hp => ?_)) ?_ fun _ _ e => e.elim
    · rcases List.mem_cons.mp hp with rfl | hp
      · exact ⟨eI, hIL, gI⟩
      rcases List.mem_cons.mp hp with rfl | hp
      · exact ⟨el, hlL, gl⟩
      exact N₃ p hp
    · rcases List.mem_cons.mp hp with rfl | hp
      · exact hIS
      rcases List.mem_cons.mp hp with rfl | hp
      · exact hlS
      cases hp
    intro f s₄ hE
    obtain ⟨h₄, tk₄, m₄, ef, es, F₄, hP₄, T₄, N₄⟩ := hE
    subst ef es
    exact ⟨vs.length + 1 - (i + 1), Nat.sub_lt_sub_left (Nat.lt_succ_of_lt hlt') (Nat.lt_succ_self i), h₄, tk₄, m₄, i + 1, rfl, hlt', rfl, ⟨oI, (N₄ _ (.head _)).1, hI2⟩, ⟨ol, (N₄ _ (.tail _ (.head _))).1, hl2⟩, F₄, hP₄, T₄, fun p hp => N₄ p (.tail _ (.tail _ hp))⟩
  · have hin : i = vs.length := Nat.le_antisymm hi (Nat.not_lt.mp hlt')
    subst hin
    refine W.done _ _ _ ⟨hit, hl'⟩ fun h₂ tk₂ hk₂ => ?_
    have k2 : Stay [s₁.heap.objs.size] h h₂ := fun b o e hb => hk₂ b o hb e
    refine wpAny_pure ?_
    exact done h₂ tk₂ m (fr_back F k2 nI) hP (T.but k2 (by simpa using i44) (by simpa using i51) (itrec h _ hit)) (news_back hN k2 nbI)
end
end Mine

-- L5
open PySem PySem.W PyProof.Rows PySem.Calls
set_option Elab.async false
set_option linter.unusedVariables false
namespace Mine
set_option maxRecDepth 100000

theorem ite_both {c : Prop} [Decidable c] {a b : Prop} (h1 : c → a) (h2 : ¬ c → b) : if c then a else b := by
  split
  · exact h1 ‹_›
  · exact h2 ‹_›
theorem notST {x : Addr} (h : @LT.lt Nat _ 51 x) : x ∉ ST := by
  intro q
  rcases List.mem_cons.mp q with q | q
  · rw [q] at h; exact absurd h (by decide)
  rcases List.mem_cons.mp q with q | q
  · rw [q] at h; exact absurd h (by decide)
  cases q
/-- entries of a ledger, by their places -/
def picks (l : List (Addr × Obj)) : List Nat → List (Addr × Obj)
  | [] => []
  | i :: is => (l.drop i).head?.toList ++ picks l is
theorem nw_pick {g h : Heap} {L : Addr} {l : List (Addr × Obj)} (N : News g L h l) : ∀ is : List Nat, News g L h (picks l is)
  | [] => fun p hp => nomatch hp
  | i :: is => fun p hp => by
    unfold picks at hp
    rcases List.mem_append.mp hp with hp | hp
    · cases e : l.drop i with
      | nil => rw [e] at hp; cases hp
      | cons x r =>
        rw [e] at hp
        rw [List.mem_singleton.mp hp]
        exact N x (List.mem_of_mem_drop (i := i) (e ▸ .head _))
    · exact nw_pick N is p hp
theorem st_app {l l' : List (Addr × Obj)} (r : ∀ p ∈ l, p.1 ∉ ST) (r' : ∀ p ∈ l', p.1 ∉ ST) : ∀ p ∈ l ++ l', p.1 ∉ ST := fun p hp => (List.mem_append.mp hp).elim (r p) (r' p)
def NewAt (g : Heap) (L : Addr) (h : Heap) (a : Addr) (o : Obj) : Prop := h.get? a = some o ∧ a ≠ L ∧ g.get? a = none
theorem nw_nil {g h : Heap} {L : Addr} : News g L h [] := fun _ q => nomatch q
theorem nw_cons {g h : Heap} {L a : Addr} {o : Obj} {nb : List (Addr × Obj)} (x : NewAt g L h a o) (N : News g L h nb) : News g L h ((a, o) :: nb) := fun p hp => by
  rcases List.mem_cons.mp hp with rfl | hp
  · exact x
  · exact N p hp
theorem ne_nil {x : Addr} : ∀ q ∈ ([] : List (Addr × Obj)), q.1 ≠ x := fun _ q => nomatch q
theorem ne_cons {x a : Addr} {o : Obj} {l : List (Addr × Obj)} (h : a ≠ x) (r : ∀ q ∈ l, q.1 ≠ x) : ∀ q ∈ (a, o) :: l, q.1 ≠ x := fun q hq => by
  rcases List.mem_cons.mp hq with rfl | hq
  · exact h
  · exact r q hq
theorem st_nil : ∀ p ∈ ([] : List (Addr × Obj)), p.1 ∉ ST := fun _ q => nomatch q
theorem st_cons {a : Addr} {o : Obj} {l : List (Addr × Obj)} (h : a ∉ ST) (r : ∀ p ∈ l, p.1 ∉ ST) : ∀ p ∈ (a, o) :: l, p.1 ∉ ST := fun q hq => by
  rcases List.mem_cons.mp hq with rfl | hq
  · exact h
  · exact r q hq
theorem st_pick {l : List (Addr × Obj)} (r : ∀ p ∈ l, p.1 ∉ ST) : ∀ is : List Nat, ∀ p ∈ picks l is, p.1 ∉ ST
  | [] => fun p hp => nomatch hp
  | i :: is => fun p hp => by
    unfold picks at hp
    rcases List.mem_append.mp hp with hp | hp
    · cases e : l.drop i with
      | nil => rw [e] at hp; cases hp
      | cons x t =>
        rw [e] at hp
        rw [List.mem_singleton.mp hp]
        exact r x (List.mem_of_mem_drop (i := i) (e ▸ .head _))
    · exact st_pick r is p hp
theorem bd {x : Int} (h : 0 ≤ x ∧ x ≤ 7) : -20 ≤ x ∧ x ≤ 20 := by omega
theorem df {x y : Int} (h : 0 ≤ x ∧ x ≤ 7) (h' : 0 ≤ y ∧ y ≤ 7) : -15 ≤ y - x ∧ y - x ≤ 15 := by omega
theorem bdm {x s : Int} (h : 0 ≤ x ∧ x ≤ 7) (h' : 0 ≤ s ∧ s ≤ 7) : -20 ≤ x + s - 9 ∧ x + s - 9 ≤ 20 := by omega
theorem bd3 {x : Int} (h : 0 ≤ x ∧ x ≤ 7) : -20 ≤ x + 3 ∧ x + 3 ≤ 20 := by omega
theorem dfm {x y : Int} (h : 0 ≤ x ∧ x ≤ 7) (h' : 0 ≤ y ∧ y ≤ 7) (s : Int) : -15 ≤ y + s - 9 - (x + s - 9) ∧ y + s - 9 - (x + s - 9) ≤ 15 := by omega
theorem df3 {x y : Int} (h : 0 ≤ x ∧ x ≤ 7) (h' : 0 ≤ y ∧ y ≤ 7) : -15 ≤ y + 3 - (x + 3) ∧ y + 3 - (x + 3) ≤ 15 := by omega
theorem bds {x y : Int} (h : 0 ≤ x ∧ x ≤ 7) (h' : 0 ≤ y ∧ y ≤ 7) : -20 ≤ x + y ∧ x + y ≤ 20 := by omega
theorem dfs {x y x' y' : Int} (h : 0 ≤ x ∧ x ≤ 7) (h1 : 0 ≤ y ∧ y ≤ 7) (h2 : 0 ≤ x' ∧ x' ≤ 7) (h3 : 0 ≤ y' ∧ y' ≤ 7) : -15 ≤ x' + y' - (x + y) ∧ x' + y' - (x + y) ≤ 15 := by omega
abbrev tup3 (x : Int) (t : Tok) (y : Int) (u : Tok) (z : Int) (v : Tok) : Obj := { cls := .type "tuple", data := .seq [.int x t, .int y u, .int z v].toArray }

theorem words_L5 : True := by
  k_with_none
  k_with "STEPS" => repeat' (first | walk1 | (dsimp only; walk1) | (k_unfold; (try dsimp only)) | fail "no step")
  k_with "ite" => (refine ite_both (fun h => ?_) (fun h => ?_) <;> (try simp only [bne_iff_ne, ne_eq, beq_iff_eq, Bool.not_eq_true, bne_eq_false_iff_eq, beq_eq_false_iff_ne, Bool.false_eq_true, decide_eq_true_eq, decide_eq_false_iff_not, not_true_eq_false, not_false_eq_true, Decidable.not_not] at h) <;> (try (exfalso; omega)))
  k_with "exec Assign" => (k_here; k_dflt (refine comp_assign (by rfl) (by exact rfl) rfl (by decide) (fun _ => rfl) ?_))
  k_with "exec Assign cons ListComp" => (k_here; k_dflt (refine comp_assign (by rfl) (by exact rfl) rfl (by decide) (fun _ => rfl) ?_))
  k_with "eval Name" => (k_here; k_dflt (refine' nameX_L (by k_asm) (by assumption) ?_ (by rfl) (by rfl) (by decide); k_whole))
  k_with "assign Tuple" => (k_here; (with_reducible show wpAny _ _ (assign (Expr.Tuple _ _ _) _ (Value.ref _)) _ _ _); k_dflt (refine' unpackN_ (by k_asm) (by k_asm) (by first | assumption | kun_tup) (by assumption) (by exact rfl) (by exact rfl) ?_; k_whole); intro hkw Fkw Nkw; (try k_sweep))
  k_with "unpackItems ref" => (k_here; k_dflt (refine' unpackItemsN_ (by k_asm) (by k_asm) (by first | assumption | kun_tup) (by assumption) (by exact rfl) ?_; k_whole); intro hkw Fkw Nkw; (try k_sweep))
  k_with "mul_fits" => exact PySem.IntMulOk.of_left (PySem.intBits_le_64 (by first | decide | omega) (by first | decide | omega))
  k_with "!eval ListComp" => (k_here; k_dflt (refine comp_eval (by exact rfl) rfl (by decide) (fun _ => rfl) ?_))
  trivial

section
variable {p : Program} {loose : List Str} {mean : ExcName → Option Value} {mg mb : Str → Option Value} {w : World} {A A' A₀ : Around} {s : Shared} {Q : Value → Shared → Prop}
theorem counted_at {base g : Heap} {outer : List Env} {env : Env} {L l a b c : Addr} {m : Str → Option Value} {nb : List (Addr × Obj)} (B : Below A₀ base outer g) (SA : A'.frames = some (env :: outer)) (hfr : env.frame = some L) (hkf : env.scope.kind = .function) (F : Fr g L s.heap m) (N : News g L s.heap nb) (hn : ∀ p ∈ nb, p.1 ∉ ST)
    (T : Tabs s.heap) (C : Codes g) (n44 : g.get? 44 = none ∧ 44 ≠ L) (n51 : g.get? 51 = none ∧ 51 ≠ L) (X : (hd.heap_39 w.params).In g) (Tp : Top p loose mean mg mb g) (hh : A'.handled = none) (hroom : A'.depth + 160 < recursionLimit)
    {x1 y1 x2 y2 x3 y3 : Int} {t1 u1 t2 u2 t3 u3 : Tok} (hl : s.heap.IsList l [.ref a, .ref b, .ref c].toArray)
    (i1 : IsTup s.heap a [.int x1 t1, .int y1 u1].toArray) (i2 : IsTup s.heap b [.int x2 t2, .int y2 u2].toArray) (i3 : IsTup s.heap c [.int x3 t3, .int y3 u3].toArray)
    (a1 : -20 ≤ x1 ∧ x1 ≤ 20) (a2 : -20 ≤ y1 ∧ y1 ≤ 20) (a3 : -20 ≤ x2 ∧ x2 ≤ 20) (a4 : -20 ≤ y2 ∧ y2 ≤ 20) (a5 : -20 ≤ x3 ∧ x3 ≤ 20) (a6 : -20 ≤ y3 ∧ y3 ≤ 20)
    (d1 : -15 ≤ x2 - x1 ∧ x2 - x1 ≤ 15) (d2 : -15 ≤ y2 - y1 ∧ y2 - y1 ≤ 15) (d3 : -15 ≤ x3 - x2 ∧ x3 - x2 ≤ 15) (d4 : -15 ≤ y3 - y2 ∧ y3 - y2 ≤ 15) (d5 : -15 ≤ x1 - x3 ∧ x1 - x3 ≤ 15) (d6 : -15 ≤ y1 - y3 ∧ y1 - y3 ≤ 15)
    {z1 z2 z3 : Int} (ez1 : sizeI x1 y1 x2 y2 x3 y3 = z1) (ez2 : countI x1 y1 x2 y2 x3 y3 = z2) (ez3 : edgeI x1 y1 x2 y2 x3 y3 = z3)
    (ret : ∀ h' tk' r t t' t'', Fr g L h' m → News g L h' ((r, tup3 z1 t z2 t' z3 t'') :: nb) → r ∉ ST → Tabs h' → Stay ST s.heap h' → Q (.ref r) { s with heap := h', toks := tk' }) :
    wpAny (model PySem.Challenge.rw_zt0001_01.row.prog w) A' (call (.ref 103) [.ref l]) Q NoErr s := by
  subst ez1 ez2 ez3
  have hS := hS2 n44 n51
  refine counted_ok (p := p) (loose := loose) (mean := mean) (mg := mg) (mb := mb) (rdy_hid (S := ST) B F X Tp hS SA hfr hkf) hroom hh (C.keeps (stays_hid F hS)) T hl i1 i2 i3 a1 a2 a3 a4 a5 a6 d1 d2 d3 d4 d5 d6 ?_
  intro h' tk' r t t' t'' st T' hr e
  have hrS : r ∉ ST := by
    obtain ⟨p1, e1, _⟩ := T.t44.nostr
    obtain ⟨p2, e2, _⟩ := T.t51.nostr
    intro q
    rcases List.mem_cons.mp q with q | q
    · rw [q, e1] at hr; cases hr
    rcases List.mem_cons.mp q with q | q
    · rw [q, e2] at hr; cases hr
    cases q
  refine ret h' tk' r t t' t'' (fr_back F st hS) (fun p hp => ?_) hrS T' st
  rcases List.mem_cons.mp hp with rfl | hp
  · exact fresh_entry F hr e
  · exact news_back N st hn p hp
end
section
variable {p : Program} {loose : List Str} {mean : ExcName → Option Value} {mg mb : Str → Option Value} {w : World} {A A₀ : Around} {s : Shared} {Q : Flow → Shared → Prop}
set_option maxHeartbeats 8000000 in
theorem turn0 {o : Obj} (ho : (hd.heap_39 w.params).lookup 108 = some o) {qual : Str} {body : List Stmt} {scope : Scope} {cdv cd : Value} {fa : Addr} (hf : funOf o = some (qual, body, scope, cdv)) {tgt it3 : PySem.Expr} {b3 ore : List Stmt} {ps3 : Pos} (hst : body[3]? = some (.For tgt it3 b3 ore ps3)) {st : Stmt} (hst3 : b3[0]? = some st)
    {base g : Heap} {outer : List Env} {L : Addr} (l51 : @LT.lt Nat _ 51 L) (B : Below A₀ base outer g) (SA : (A.deeper (envOfC qual scope L fa cd)).frames = some (envOfC qual scope L fa cd :: outer))
    {m : Str → Option Value} (F : Fr g L s.heap m)
    (X : (hd.heap_39 w.params).In g) (Tp : Top p loose mean mg mb g) (hh : A.handled = none) (hroom : A.depth + 200 < recursionLimit) (hu : A.units + 100 < cLine)
    (T : Tabs s.heap) (C : Codes g) (g44 : g.get? 44 = none) (g51 : g.get? 51 = none) {l a b c : Addr} (hm3 : m (Str.ofString "three") = some (.ref l)) {cl : Nat} {x1 y1 x2 y2 x3 y3 : Int} {t1 u1 t2 u2 t3 u3 : Tok} {nb : List (Addr × Obj)}
    (N : News g L s.heap ((l, listOf [.ref a, .ref b, .ref c].toArray cl) :: (a, tup2 x1 t1 y1 u1) :: (b, tup2 x2 t2 y2 u2) :: (c, tup2 x3 t3 y3 u3) :: nb)) (hn : ∀ p ∈ ((l, listOf [.ref a, .ref b, .ref c].toArray cl) :: (a, tup2 x1 t1 y1 u1) :: (b, tup2 x2 t2 y2 u2) :: (c, tup2 x3 t3 y3 u3) :: nb), p.1 ∉ ST)
    (a1 : 0 ≤ x1 ∧ x1 ≤ 7) (a2 : 0 ≤ y1 ∧ y1 ≤ 7) (a3 : 0 ≤ x2 ∧ x2 ≤ 7) (a4 : 0 ≤ y2 ∧ y2 ≤ 7) (a5 : 0 ≤ x3 ∧ x3 ≤ 7) (a6 : 0 ≤ y3 ∧ y3 ≤ 7)
    {z1 z2 z3 : Int} (e1 : sizeI x1 y1 x2 y2 x3 y3 = z1) (e2 : countI x1 y1 x2 y2 x3 y3 = z2) (e3 : edgeI x1 y1 x2 y2 x3 y3 = z3)
    (ret : ∀ h' tk' v1 v2 v3 m', Fr g L h' m' → m' (Str.ofString "corners") = m (Str.ofString "corners") → m' (Str.ofString "three") = some (.ref l) → m' (Str.ofString "size") = some (.int z1 v1) → m' (Str.ofString "within") = some (.int z2 v2) → m' (Str.ofString "edge") = some (.int z3 v3) →
      News g L h' ((l, listOf [.ref a, .ref b, .ref c].toArray cl) :: (a, tup2 x1 t1 y1 u1) :: (b, tup2 x2 t2 y2 u2) :: (c, tup2 x3 t3 y3 u3) :: nb) → Tabs h' → Q .next { s with heap := h', toks := tk' }) :
    wpAny (model PySem.Challenge.rw_zt0001_01.row.prog w) (A.deeper (envOfC qual scope L fa cd)) (exec st (envOfC qual scope L fa cd)) Q NoErr s := by
  revert ho; k_fill; intro ho
  obtain rfl := Option.some.inj (ho.symm.trans (by k_is : _ = some _))
  cases (hf.symm.trans (rfl : _ = some (_, _, _, _)))
  cases hst
  cases hst3
  clear ho hf
  have tn := tab_none F T
  have n44 : g.get? 44 = none ∧ 44 ≠ L := ⟨g44, tn.1⟩
  have n51 : g.get? 51 = none ∧ 51 ≠ L := ⟨g51, tn.2⟩
  walk_at "STEPS"
  rename News _ _ _ _ => N9
  rename Fr _ _ _ _ => F9
  refine counted_at (p := p) (loose := loose) (mean := mean) (mg := mg) (mb := mb) B SA rfl rfl F9 N9 hn T C n44 n51 X Tp hh (by ktr_room) (News.isList N9 (.head _)) (News.isTup N9 (.tail _ (.head _))) (News.isTup N9 (.tail _ (.tail _ (.head _)))) (News.isTup N9 (.tail _ (.tail _ (.tail _ (.head _)))))
    (bd a1) (bd a2) (bd a3) (bd a4) (bd a5) (bd a6) (df a1 a3) (df a2 a4) (df a3 a5) (df a4 a6) (df a5 a1) (df a6 a2) e1 e2 e3 ?_
  intro h5 tk5 r v1 v2 v3 F5 N5 hr5 T5 st5
  clear F9 N9
  obtain ⟨q1', y1', o1', q2', y2', o2', N6, K⟩ := tabs_lay F5 T5 n44 n51
  have N7 := news_app N5 N6
  clear N5 N6
  walk_at "STEPS"
  rename News _ _ _ _ => N9
  rename Fr _ _ _ _ => F9
  have N8 := fun q hq => N9 q (List.mem_append_right _ hq)
  exact ret _ _ v1 v2 v3 _ F9 rfl hm3 rfl rfl rfl (fun q hq => N9 q (List.mem_append_left _ (.tail _ hq))) (K _ F9.keep (N8 _ (.head _)).1 (N8 _ (.tail _ (.head _))).1 (N8 _ (.tail _ (.tail _ (.head _)))).1 (N8 _ (.tail _ (.tail _ (.tail _ (.head _))))).1)

set_option maxHeartbeats 8000000 in
theorem turn1 {o : Obj} (ho : (hd.heap_39 w.params).lookup 108 = some o) {qual : Str} {body : List Stmt} {scope : Scope} {cdv cd : Value} {fa : Addr} (hf : funOf o = some (qual, body, scope, cdv)) {tgt it3 : PySem.Expr} {b3 ore : List Stmt} {ps3 : Pos} (hst : body[3]? = some (.For tgt it3 b3 ore ps3)) {st : Stmt} (hst3 : b3[1]? = some st)
    {base g : Heap} {outer : List Env} {L : Addr} (l51 : @LT.lt Nat _ 51 L) (B : Below A₀ base outer g) (SA : (A.deeper (envOfC qual scope L fa cd)).frames = some (envOfC qual scope L fa cd :: outer))
    {m : Str → Option Value} (F : Fr g L s.heap m)
    (X : (hd.heap_39 w.params).In g) (Tp : Top p loose mean mg mb g) (hh : A.handled = none) (hroom : A.depth + 200 < recursionLimit) (hu : A.units + 100 < cLine)
    {z1 z2 z3 : Int} {v1 v2 v3 : Tok} (h1 : m (Str.ofString "size") = some (.int z1 v1)) (h2 : m (Str.ofString "within") = some (.int z2 v2)) (h3 : m (Str.ofString "edge") = some (.int z3 v3)) (P1 : z1 ≠ 0 → z1 = 2 * z2 + z3 - 2) (P2 : z1 = 0 → z2 = 0)
    (ret : ∀ tk', Q .next { s with toks := tk' }) :
    wpAny (model PySem.Challenge.rw_zt0001_01.row.prog w) (A.deeper (envOfC qual scope L fa cd)) (exec st (envOfC qual scope L fa cd)) Q NoErr s := by
  revert ho; k_fill; intro ho
  obtain rfl := Option.some.inj (ho.symm.trans (by k_is : _ = some _))
  cases (hf.symm.trans (rfl : _ = some (_, _, _, _)))
  cases hst
  cases hst3
  clear ho hf
  walk_at "STEPS"
  all_goals exact ret _

set_option maxHeartbeats 8000000 in
theorem turn2 {o : Obj} (ho : (hd.heap_39 w.params).lookup 108 = some o) {qual : Str} {body : List Stmt} {scope : Scope} {cdv cd : Value} {fa : Addr} (hf : funOf o = some (qual, body, scope, cdv)) {tgt it3 : PySem.Expr} {b3 ore : List Stmt} {ps3 : Pos} (hst : body[3]? = some (.For tgt it3 b3 ore ps3)) {st : Stmt} (hst3 : b3[2]? = some st)
    {base g : Heap} {outer : List Env} {L : Addr} (l51 : @LT.lt Nat _ 51 L) (B : Below A₀ base outer g) (SA : (A.deeper (envOfC qual scope L fa cd)).frames = some (envOfC qual scope L fa cd :: outer))
    {m : Str → Option Value} (F : Fr g L s.heap m)
    (X : (hd.heap_39 w.params).In g) (Tp : Top p loose mean mg mb g) (hh : A.handled = none) (hroom : A.depth + 200 < recursionLimit) (hu : A.units + 100 < cLine)
    {l a b c D : Addr} (hm3 : m (Str.ofString "three") = some (.ref l)) {cl : Nat} {o1 : Obj} {x1 y1 x2 y2 x3 y3 s0 s1 s2 s3 s4 s5 s6 s7 : Int} {t1 u1 t2 u2 t3 u3 w0 w1 w2 w3 w4 w5 w6 w7 : Tok} {nb : List (Addr × Obj)}
    (N : News g L s.heap ((l, listOf [.ref a, .ref b, .ref c].toArray cl) :: (a, tup2 x1 t1 y1 u1) :: (b, tup2 x2 t2 y2 u2) :: (c, tup2 x3 t3 y3 u3) :: (D, listOf [.int s0 w0, .int s1 w1, .int s2 w2, .int s3 w3, .int s4 w4, .int s5 w5, .int s6 w6, .int s7 w7].toArray 0) :: (L + 1, o1) :: nb))
    (k1 : o1.data = .cell (some (.ref D)))
    (ret : ∀ h' tk' DM q1 q2 q3 u1' v1' u2' v2' u3' v3', Fr g L h' (fun z => if z = Str.ofString "moved" then some (.ref DM) else m z) →
      News g L h' ((DM, listOf [.ref q1, .ref q2, .ref q3].toArray 3) :: (q1, tup2 (x1 + s0 - 9) u1' (y1 + 3) v1') :: (q2, tup2 (x2 + s0 - 9) u2' (y2 + 3) v2') :: (q3, tup2 (x3 + s0 - 9) u3' (y3 + 3) v3') :: (l, listOf [.ref a, .ref b, .ref c].toArray cl) :: (a, tup2 x1 t1 y1 u1) :: (b, tup2 x2 t2 y2 u2) :: (c, tup2 x3 t3 y3 u3) :: (D, listOf [.int s0 w0, .int s1 w1, .int s2 w2, .int s3 w3, .int s4 w4, .int s5 w5, .int s6 w6, .int s7 w7].toArray 0) :: (L + 1, o1) :: nb) →
      (∀ x, (x = DM ∨ x = q1 ∨ x = q2 ∨ x = q3) → @LT.lt Nat _ L x) → Q .next { s with heap := h', toks := tk' }) :
    wpAny (model PySem.Challenge.rw_zt0001_01.row.prog w) (A.deeper (envOfC qual scope L fa cd)) (exec st (envOfC qual scope L fa cd)) Q NoErr s := by
  revert ho; k_fill; intro ho
  obtain rfl := Option.some.inj (ho.symm.trans (by k_is : _ = some _))
  cases (hf.symm.trans (rfl : _ = some (_, _, _, _)))
  cases hst
  cases hst3
  clear ho hf
  k_dflt (refine comp_assign (by rfl) (by exact rfl) rfl (by decide) (fun _ => rfl) ?_)
  walk_at "STEPS"
  have hc := (N _ (.tail _ (.tail _ (.tail _ (.tail _ (.tail _ (.head _))))))).1
  have hls := News.isList N (.tail _ (.tail _ (.tail _ (.tail _ (.head _)))))
  refine comp_pairs (qs := [(x1, y1), (x2, y2), (x3, y3)]) (fun q => (q.1 + [s0, s1, s2, s3, s4, s5, s6, s7].getD 0 0 - 9, q.2 + 3)) F N (News.isList N (.head _)) (fun i v hv => ?_) rfl hh (show 3 ≤ sizeLine by decide) (by decide) rfl rfl rfl
    (fun q hq h mc tk t u st hn => elt_moved rfl rfl rfl rfl rfl rfl (by decide) rfl rfl ⟨_, st _ _ hc, k1⟩ (hls.at fun o e => st _ _ e) (.cons _ _ (.cons _ _ (.cons _ _ (.cons _ _ (.cons _ _ (.cons _ _ (.cons _ _ (.cons _ _ .nil)))))))) rfl hn)
    (CompDone.local F N rfl rfl rfl (fun ys h h' hK k => hK.but F.ns.lt k) fun DM ys h tk F8 N8 hlt hT => ?_)
  · match i, hv with
    | 0, hv => exact ⟨a, t1, u1, (x1, y1), by simpa using hv.symm, rfl, News.isTup N (.tail _ (.head _))⟩
    | 1, hv => exact ⟨b, t2, u2, (x2, y2), by simpa using hv.symm, rfl, News.isTup N (.tail _ (.tail _ (.head _)))⟩
    | 2, hv => exact ⟨c, t3, u3, (x3, y3), by simpa using hv.symm, rfl, News.isTup N (.tail _ (.tail _ (.tail _ (.head _))))⟩
    | k + 3, hv => simp at hv
  have hT : TupsAt h _ ys [(x1 + s0 - 9, y1 + 3), (x2 + s0 - 9, y2 + 3), (x3 + s0 - 9, y3 + 3)] := hT
  obtain ⟨q1, u1', v1', vs1, rfl, j1, e1, hT⟩ := hT.inv
  obtain ⟨q2, u2', v2', vs2, rfl, j2, e2, hT⟩ := hT.inv
  obtain ⟨q3, u3', v3', vs3, rfl, j3, e3, hT⟩ := hT.inv
  obtain rfl := hT.inv0
  have hL : @LT.lt Nat _ L s.heap.objs.size := F.ns.lt
  refine ret h tk DM q1 q2 q3 u1' v1' u2' v2' u3' v3' F8 (fun p hp => ?_) (fun x hx => ?_)
  · rcases List.mem_cons.mp hp with rfl | hp
    · exact N8 _ (.head _)
    rcases List.mem_cons.mp hp with rfl | hp
    · exact news_tup F j1 e1
    rcases List.mem_cons.mp hp with rfl | hp
    · exact news_tup F j2 e2
    rcases List.mem_cons.mp hp with rfl | hp
    · exact news_tup F j3 e3
    · exact N8 _ (.tail _ hp)
  · have lM : @LT.lt Nat _ (L + 1) DM := hlt (L + 1, o1) (.tail _ (.tail _ (.tail _ (.tail _ (.tail _ (.head _))))))
    rcases hx with rfl | rfl | rfl | rfl <;> omega
end

-- L6
open PySem PySem.W PyProof.Rows PySem.Calls
set_option Elab.async false
set_option linter.unusedVariables false
set_option maxRecDepth 100000

theorem ne_tup3 {prog : Program} {w : World} {A : Around} {E : Value → Shared → Prop} {s : Shared} {a b : Addr} {x y z : Int} {t u v t' u' v' : Tok} {Q : Value → Shared → Prop} (ia : IsTup s.heap a [.int x t, .int y u, .int z v].toArray) (ib : IsTup s.heap b [.int x t', .int y u', .int z v'].toArray) (hu : A.units < cLine)
    (h : Q (.bool false) s) : wpAny (model prog w) A (compareOp .NotEq (.ref a) (.ref b)) Q E s := by
  refine SeqAt.RcNeAt.tuples (e := fun _ => true) (isTuple_of ia) (isTuple_of ib) hu (fun j h1 h2 => ?_) prog w E _ h
  have key : ∀ (n : Int) (t t' : Tok), SeqAt.EqAt A.in1 s (.int n t) (.int n t') true := fun n t t' => by
    have := MeetsSeq.EqGives.int n n t t'
    rw [beq_self_eq_true] at this
    exact this.at _ _
  match j, h1 with
  | 0, _ => exact key x t t'
  | 1, _ => exact key y u u'
  | 2, _ => exact key z v v'
  | k + 3, h => exact absurd h (by simp)

theorem News.sub5 {g h : Heap} {L : Addr} {a b c d e : Addr × Obj} {nb : List (Addr × Obj)} (N : News g L h (a :: b :: c :: d :: e :: nb)) : News g L h (a :: nb) := fun q hq => by
  rcases List.mem_cons.mp hq with rfl | hq
  · exact N _ (.head _)
  · exact N q (.tail _ (.tail _ (.tail _ (.tail _ (.tail _ hq)))))
theorem words_L6 : True := by
  k_with_none
  k_with "STEPS" => repeat' (first | walk1 | (dsimp only; walk1) | (k_unfold; (try dsimp only)) | fail "no step")
  k_with "ite" => (refine ite_both (fun h => ?_) (fun h => ?_) <;> (try simp only [bne_iff_ne, ne_eq, beq_iff_eq, Bool.not_eq_true, bne_eq_false_iff_eq, beq_eq_false_iff_ne, Bool.false_eq_true, decide_eq_true_eq, decide_eq_false_iff_not, not_true_eq_false, not_false_eq_true, Decidable.not_not] at h) <;> (try (exfalso; omega)))
  k_with "exec Assign" => (k_here; k_dflt (refine comp_assign (by rfl) (by exact rfl) rfl (by decide) (fun _ => rfl) ?_))
  k_with "exec Assign cons ListComp" => (k_here; k_dflt (refine comp_assign (by rfl) (by exact rfl) rfl (by decide) (fun _ => rfl) ?_))
  k_with "eval Name" => (k_here; k_dflt (refine' nameX_L (by k_asm) (by assumption) ?_ (by rfl) (by rfl) (by decide); k_whole))
  k_with "assign Tuple" => (k_here; (with_reducible show wpAny _ _ (assign (Expr.Tuple _ _ _) _ (Value.ref _)) _ _ _); k_dflt (refine' unpackN_ (by k_asm) (by k_asm) (by first | assumption | kun_tup) (by assumption) (by exact rfl) (by exact rfl) ?_; k_whole); intro hkw Fkw Nkw; (try k_sweep))
  k_with "unpackItems ref" => (k_here; k_dflt (refine' unpackItemsN_ (by k_asm) (by k_asm) (by first | assumption | kun_tup) (by assumption) (by exact rfl) ?_; k_whole); intro hkw Fkw Nkw; (try k_sweep))
  k_with "compareOp NotEq ref" => (k_here; (with_reducible show wpAny _ _ (compareOp CmpOp.NotEq (Value.ref _) (Value.ref _)) _ _ _); k_dflt (refine' ne_tup3 (News.isTup (by k_asm) (by exact .tail _ (.tail _ (.tail _ (.tail _ (.tail _ (.head _))))))) (News.isTup (by k_asm) (by exact .head _)) (by (simp only [Around.deeper_units]; omega)) ?_; k_whole))
  k_with "mul_fits" => exact PySem.IntMulOk.of_left (PySem.intBits_le_64 (by first | decide | omega) (by first | decide | omega))
  k_with "!eval ListComp" => (k_here; k_dflt (refine comp_eval (by exact rfl) rfl (by decide) (fun _ => rfl) ?_))
  trivial

section
variable {p : Program} {loose : List Str} {mean : ExcName → Option Value} {mg mb : Str → Option Value} {w : World} {A A₀ : Around} {s : Shared} {Q : Flow → Shared → Prop}
set_option maxHeartbeats 8000000 in
theorem turn3 {o : Obj} (ho : (hd.heap_39 w.params).lookup 108 = some o) {qual : Str} {body : List Stmt} {scope : Scope} {cdv cd : Value} {fa : Addr} (hf : funOf o = some (qual, body, scope, cdv)) {tgt it3 : PySem.Expr} {b3 ore : List Stmt} {ps3 : Pos} (hst : body[3]? = some (.For tgt it3 b3 ore ps3)) {st : Stmt} (hst3 : b3[3]? = some st)
    {base g : Heap} {outer : List Env} {L : Addr} (l51 : @LT.lt Nat _ 51 L) (B : Below A₀ base outer g) (SA : (A.deeper (envOfC qual scope L fa cd)).frames = some (envOfC qual scope L fa cd :: outer))
    {m : Str → Option Value} (F : Fr g L s.heap m)
    (X : (hd.heap_39 w.params).In g) (Tp : Top p loose mean mg mb g) (hh : A.handled = none) (hroom : A.depth + 200 < recursionLimit) (hu : A.units + 100 < cLine)
    (T : Tabs s.heap) (C : Codes g) (g44 : g.get? 44 = none) (g51 : g.get? 51 = none)
    {l a b c DM q1 q2 q3 : Addr} (hm3 : m (Str.ofString "three") = some (.ref l)) (hmM : m (Str.ofString "moved") = some (.ref DM)) {cl : Nat} {x1 y1 x2 y2 x3 y3 s0 : Int} {t1 u1 t2 u2 t3 u3 u1' v1' u2' v2' u3' v3' : Tok} {nb : List (Addr × Obj)}
    {z1 z2 z3 : Int} {v1 v2 v3 : Tok} (h1 : m (Str.ofString "size") = some (.int z1 v1)) (h2 : m (Str.ofString "within") = some (.int z2 v2)) (h3 : m (Str.ofString "edge") = some (.int z3 v3))
    (N : News g L s.heap ((DM, listOf [.ref q1, .ref q2, .ref q3].toArray 3) :: (q1, tup2 (x1 + s0 - 9) u1' (y1 + 3) v1') :: (q2, tup2 (x2 + s0 - 9) u2' (y2 + 3) v2') :: (q3, tup2 (x3 + s0 - 9) u3' (y3 + 3) v3') :: (l, listOf [.ref a, .ref b, .ref c].toArray cl) :: (a, tup2 x1 t1 y1 u1) :: (b, tup2 x2 t2 y2 u2) :: (c, tup2 x3 t3 y3 u3) :: nb))
    (hn : ∀ p ∈ ((DM, listOf [.ref q1, .ref q2, .ref q3].toArray 3) :: (q1, tup2 (x1 + s0 - 9) u1' (y1 + 3) v1') :: (q2, tup2 (x2 + s0 - 9) u2' (y2 + 3) v2') :: (q3, tup2 (x3 + s0 - 9) u3' (y3 + 3) v3') :: (l, listOf [.ref a, .ref b, .ref c].toArray cl) :: (a, tup2 x1 t1 y1 u1) :: (b, tup2 x2 t2 y2 u2) :: (c, tup2 x3 t3 y3 u3) :: nb), p.1 ∉ ST)
    (a1 : 0 ≤ x1 ∧ x1 ≤ 7) (a2 : 0 ≤ y1 ∧ y1 ≤ 7) (a3 : 0 ≤ x2 ∧ x2 ≤ 7) (a4 : 0 ≤ y2 ∧ y2 ≤ 7) (a5 : 0 ≤ x3 ∧ x3 ≤ 7) (a6 : 0 ≤ y3 ∧ y3 ≤ 7) (a7 : 0 ≤ s0 ∧ s0 ≤ 7)
    (M1 : sizeI (x1 + s0 - 9) (y1 + 3) (x2 + s0 - 9) (y2 + 3) (x3 + s0 - 9) (y3 + 3) = z1) (M2 : countI (x1 + s0 - 9) (y1 + 3) (x2 + s0 - 9) (y2 + 3) (x3 + s0 - 9) (y3 + 3) = z2) (M3 : edgeI (x1 + s0 - 9) (y1 + 3) (x2 + s0 - 9) (y2 + 3) (x3 + s0 - 9) (y3 + 3) = z3)
    (S1 : sizeI (x1 + y1) y1 (x2 + y2) y2 (x3 + y3) y3 = z1) (S2 : countI (x1 + y1) y1 (x2 + y2) y2 (x3 + y3) y3 = z2) (S3 : edgeI (x1 + y1) y1 (x2 + y2) y2 (x3 + y3) y3 = z3)
    (ret : ∀ h' tk', Fr g L h' m → Tabs h' → News g L h' ((l, listOf [.ref a, .ref b, .ref c].toArray cl) :: (a, tup2 x1 t1 y1 u1) :: (b, tup2 x2 t2 y2 u2) :: (c, tup2 x3 t3 y3 u3) :: nb) → Q .next { s with heap := h', toks := tk' }) :
    wpAny (model PySem.Challenge.rw_zt0001_01.row.prog w) (A.deeper (envOfC qual scope L fa cd)) (exec st (envOfC qual scope L fa cd)) Q NoErr s := by
  revert ho; k_fill; intro ho
  obtain rfl := Option.some.inj (ho.symm.trans (by k_is : _ = some _))
  cases (hf.symm.trans (rfl : _ = some (_, _, _, _)))
  cases hst
  cases hst3
  clear ho hf
  have tn := tab_none F T
  have n44 : g.get? 44 = none ∧ 44 ≠ L := ⟨g44, tn.1⟩
  have n51 : g.get? 51 = none ∧ 51 ≠ L := ⟨g51, tn.2⟩
  walk_at "STEPS"
  refine counted_at (p := p) (loose := loose) (mean := mean) (mg := mg) (mb := mb) B SA rfl rfl F N hn T C n44 n51 X Tp hh (by ktr_room) (News.isList N (.head _)) (News.isTup N (.tail _ (.head _))) (News.isTup N (.tail _ (.tail _ (.head _)))) (News.isTup N (.tail _ (.tail _ (.tail _ (.head _)))))
    (bdm a1 a7) (bd3 a2) (bdm a3 a7) (bd3 a4) (bdm a5 a7) (bd3 a6) (dfm a1 a3 _) (df3 a2 a4) (dfm a3 a5 _) (df3 a4 a6) (dfm a5 a1 _) (df3 a6 a2) M1 M2 M3 ?_
  intro h5 tk5 r w1 w2 w3 F5 N5 hr5 T5 st5
  clear N M1 M2 M3 F
  replace N5 := News.sub5 N5
  replace hn := fun p hp => hn p (.tail _ (.tail _ (.tail _ (.tail _ hp))))
  obtain ⟨q1', y1', o1', q2', y2', o2', NT, K⟩ := tabs_lay F5 T5 n44 n51
  have N7 := news_app NT N5
  clear N5 NT T5
  simp only [List.cons_append, List.nil_append] at N7
  walk_at "STEPS"
  rename News _ _ _ _ => N6
  rename Fr _ _ _ _ => F6
  refine comp_pairs (qs := [(x1, y1), (x2, y2), (x3, y3)]) (fun q => (q.1 + q.2, q.2)) F6 N6 (News.isList N6 (.tail _ (.tail _ (.tail _ (.tail _ (.tail _ (.tail _ (.head _)))))))) (fun i v hv => ?_) rfl hh (show 3 ≤ sizeLine by decide) (by decide) rfl rfl rfl
    (fun q hq h mc tk t u st hn => elt_shear rfl rfl rfl rfl rfl (by decide) hn)
    (CompDone.none F6 N6 (fun ys h h' hK hs => hK.same hs) fun D2 ys h tk F8 N8 hlt hT => ?_)
  · match i, hv with
    | 0, hv => exact ⟨a, t1, u1, (x1, y1), by simpa using hv.symm, rfl, News.isTup N6 (.tail _ (.tail _ (.tail _ (.tail _ (.tail _ (.tail _ (.tail _ (.head _))))))))⟩
    | 1, hv => exact ⟨b, t2, u2, (x2, y2), by simpa using hv.symm, rfl, News.isTup N6 (.tail _ (.tail _ (.tail _ (.tail _ (.tail _ (.tail _ (.tail _ (.tail _ (.head _)))))))))⟩
    | 2, hv => exact ⟨c, t3, u3, (x3, y3), by simpa using hv.symm, rfl, News.isTup N6 (.tail _ (.tail _ (.tail _ (.tail _ (.tail _ (.tail _ (.tail _ (.tail _ (.tail _ (.head _))))))))))⟩
    | k + 3, hv => simp at hv
  have hT : TupsAt h _ ys [(x1 + y1, y1), (x2 + y2, y2), (x3 + y3, y3)] := hT
  obtain ⟨p1, a1', b1', vs1, rfl, j1, e1, hT⟩ := hT.inv
  obtain ⟨p2, a2', b2', vs2, rfl, j2, e2, hT⟩ := hT.inv
  obtain ⟨p3, a3', b3', vs3, rfl, j3, e3, hT⟩ := hT.inv
  obtain rfl := hT.inv0
  have T8 := K _ F8.keep (N8 _ (.tail _ (.tail _ (.head _)))).1 (N8 _ (.tail _ (.tail _ (.tail _ (.head _))))).1 (N8 _ (.tail _ (.tail _ (.tail _ (.tail _ (.head _)))))).1 (N8 _ (.tail _ (.tail _ (.tail _ (.tail _ (.tail _ (.head _))))))).1
  have l51' : @LT.lt Nat _ 51 _ := Heap.lt_size (N6 _ (.tail _ (.tail _ (.tail _ (.tail _ (.head _)))))).1
  have Nc : News g L h ((D2, lst [.ref p1, .ref p2, .ref p3]) :: (p1, tup2 (x1 + y1) a1' y1 b1') :: (p2, tup2 (x2 + y2) a2' y2 b2') :: (p3, tup2 (x3 + y3) a3' y3 b3') :: ((l, listOf [.ref a, .ref b, .ref c].toArray cl) :: (a, tup2 x1 t1 y1 u1) :: (b, tup2 x2 t2 y2 u2) :: (c, tup2 x3 t3 y3 u3) :: nb)) := fun q hq => by
    rcases List.mem_cons.mp hq with rfl | hq
    · exact N8 _ (.head _)
    rcases List.mem_cons.mp hq with rfl | hq
    · exact news_tup F6 j1 e1
    rcases List.mem_cons.mp hq with rfl | hq
    · exact news_tup F6 j2 e2
    rcases List.mem_cons.mp hq with rfl | hq
    · exact news_tup F6 j3 e3
    · exact N8 q (List.mem_of_mem_drop (i := 7) hq)
  have hnc : ∀ q ∈ ((D2, lst [.ref p1, .ref p2, .ref p3]) :: (p1, tup2 (x1 + y1) a1' y1 b1') :: (p2, tup2 (x2 + y2) a2' y2 b2') :: (p3, tup2 (x3 + y3) a3' y3 b3') :: ((l, listOf [.ref a, .ref b, .ref c].toArray cl) :: (a, tup2 x1 t1 y1 u1) :: (b, tup2 x2 t2 y2 u2) :: (c, tup2 x3 t3 y3 u3) :: nb)), q.1 ∉ ST := by
    have lD : @LT.lt Nat _ 51 D2 := hlt (51, tabObj q2') (.tail _ (.tail _ (.tail _ (.tail _ (.head _)))))
    intro q hq
    rcases List.mem_cons.mp hq with rfl | hq
    · exact notST lD
    rcases List.mem_cons.mp hq with rfl | hq
    · exact notST (Nat.lt_trans (Nat.lt_of_lt_of_le l51' (Nat.le_add_right _ 2)) j1)
    rcases List.mem_cons.mp hq with rfl | hq
    · exact notST (Nat.lt_trans (Nat.lt_of_lt_of_le l51' (Nat.le_add_right _ 2)) j2)
    rcases List.mem_cons.mp hq with rfl | hq
    · exact notST (Nat.lt_trans (Nat.lt_of_lt_of_le l51' (Nat.le_add_right _ 2)) j3)
    · exact hn q hq
  clear K N6 F6 N8
  walk_at "STEPS"
  refine counted_at (p := p) (loose := loose) (mean := mean) (mg := mg) (mb := mb) B SA rfl rfl F8 Nc hnc T8 C n44 n51 X Tp hh (by ktr_room) (News.isList Nc (.head _)) (News.isTup Nc (.tail _ (.head _))) (News.isTup Nc (.tail _ (.tail _ (.head _)))) (News.isTup Nc (.tail _ (.tail _ (.tail _ (.head _)))))
    (bds a1 a2) (bd a2) (bds a3 a4) (bd a4) (bds a5 a6) (bd a6) (dfs a1 a2 a3 a4) (df a2 a4) (dfs a3 a4 a5 a6) (df a4 a6) (dfs a5 a6 a1 a2) (df a6 a2) S1 S2 S3 ?_
  intro h9 tk9 r2 w4 w5 w6 F9 N9 hr9 T9 st9
  clear Nc T8 S1 S2 S3 F8
  obtain ⟨q1'', y1'', o1'', q2'', y2'', o2'', NT, K⟩ := tabs_lay F9 T9 n44 n51
  have N7' := news_app NT N9
  clear N9 NT T9
  simp only [List.cons_append, List.nil_append] at N7'
  walk_at "STEPS"
  rename News _ _ _ _ => N6
  rename Fr _ _ _ _ => F6
  exact ret _ _ F6 (K _ F6.keep (N6 _ (.tail _ (.head _))).1 (N6 _ (.tail _ (.tail _ (.head _)))).1 (N6 _ (.tail _ (.tail _ (.tail _ (.head _))))).1 (N6 _ (.tail _ (.tail _ (.tail _ (.tail _ (.head _)))))).1) (fun q hq => N6 q (List.mem_of_mem_drop (i := 10) hq))
end

-- L7
open PySem PySem.W PyProof.Rows PySem.Calls
set_option Elab.async false
set_option linter.unusedVariables false
set_option maxRecDepth 100000

section
variable {p : Program} {loose : List Str} {mean : ExcName → Option Value} {mg mb : Str → Option Value} {w : World} {A A₀ : Around} {s : Shared} {Q : Flow → Shared → Prop}
set_option maxHeartbeats 8000000 in
theorem law_turn {o : Obj} (ho : (hd.heap_39 w.params).lookup 108 = some o) {qual : Str} {body : List Stmt} {scope : Scope} {cdv cd : Value} {fa : Addr} (hf : funOf o = some (qual, body, scope, cdv)) {tgt it3 : PySem.Expr} {b3 ore : List Stmt} {ps3 : Pos} (hst : body[3]? = some (.For tgt it3 b3 ore ps3)) {st0 st1 st2 st3 : Stmt} (hb3 : b3 = [st0, st1, st2, st3])
    {base g : Heap} {outer : List Env} {L : Addr} (l51 : @LT.lt Nat _ 51 L) (B : Below A₀ base outer g) (SA : (A.deeper (envOfC qual scope L fa cd)).frames = some (envOfC qual scope L fa cd :: outer))
    {m : Str → Option Value} (F : Fr g L s.heap m)
    (X : (hd.heap_39 w.params).In g) (Tp : Top p loose mean mg mb g) (hh : A.handled = none) (hroom : A.depth + 200 < recursionLimit) (hu : A.units + 100 < cLine)
    (T : Tabs s.heap) (C : Codes g) (g44 : g.get? 44 = none) (g51 : g.get? 51 = none) {l a b c D : Addr} (hm3 : m (Str.ofString "three") = some (.ref l)) {cl : Nat} {o1 : Obj} {x1 y1 x2 y2 x3 y3 s0 s1 s2 s3 s4 s5 s6 s7 : Int} {t1 u1 t2 u2 t3 u3 w0 w1 w2 w3 w4 w5 w6 w7 : Tok} {nb : List (Addr × Obj)}
    (N : News g L s.heap ((l, listOf [.ref a, .ref b, .ref c].toArray cl) :: (a, tup2 x1 t1 y1 u1) :: (b, tup2 x2 t2 y2 u2) :: (c, tup2 x3 t3 y3 u3) :: (D, listOf [.int s0 w0, .int s1 w1, .int s2 w2, .int s3 w3, .int s4 w4, .int s5 w5, .int s6 w6, .int s7 w7].toArray 0) :: (L + 1, o1) :: nb))
    (hn : ∀ p ∈ ((l, listOf [.ref a, .ref b, .ref c].toArray cl) :: (a, tup2 x1 t1 y1 u1) :: (b, tup2 x2 t2 y2 u2) :: (c, tup2 x3 t3 y3 u3) :: (D, listOf [.int s0 w0, .int s1 w1, .int s2 w2, .int s3 w3, .int s4 w4, .int s5 w5, .int s6 w6, .int s7 w7].toArray 0) :: (L + 1, o1) :: nb), p.1 ∉ ST)
    (k1 : o1.data = .cell (some (.ref D)))
    (a1 : 0 ≤ x1 ∧ x1 ≤ 7) (a2 : 0 ≤ y1 ∧ y1 ≤ 7) (a3 : 0 ≤ x2 ∧ x2 ≤ 7) (a4 : 0 ≤ y2 ∧ y2 ≤ 7) (a5 : 0 ≤ x3 ∧ x3 ≤ 7) (a6 : 0 ≤ y3 ∧ y3 ≤ 7) (a7 : 0 ≤ s0 ∧ s0 ≤ 7)
    {z1 z2 z3 : Int} (e1 : sizeI x1 y1 x2 y2 x3 y3 = z1) (e2 : countI x1 y1 x2 y2 x3 y3 = z2) (e3 : edgeI x1 y1 x2 y2 x3 y3 = z3) (P1 : z1 ≠ 0 → z1 = 2 * z2 + z3 - 2) (P2 : z1 = 0 → z2 = 0)
    (M1 : sizeI (x1 + s0 - 9) (y1 + 3) (x2 + s0 - 9) (y2 + 3) (x3 + s0 - 9) (y3 + 3) = z1) (M2 : countI (x1 + s0 - 9) (y1 + 3) (x2 + s0 - 9) (y2 + 3) (x3 + s0 - 9) (y3 + 3) = z2) (M3 : edgeI (x1 + s0 - 9) (y1 + 3) (x2 + s0 - 9) (y2 + 3) (x3 + s0 - 9) (y3 + 3) = z3)
    (S1 : sizeI (x1 + y1) y1 (x2 + y2) y2 (x3 + y3) y3 = z1) (S2 : countI (x1 + y1) y1 (x2 + y2) y2 (x3 + y3) y3 = z2) (S3 : edgeI (x1 + y1) y1 (x2 + y2) y2 (x3 + y3) y3 = z3)
    (ret : ∀ h' tk' m', Fr g L h' m' → m' (Str.ofString "corners") = m (Str.ofString "corners") → Tabs h' →
      News g L h' ((l, listOf [.ref a, .ref b, .ref c].toArray cl) :: (a, tup2 x1 t1 y1 u1) :: (b, tup2 x2 t2 y2 u2) :: (c, tup2 x3 t3 y3 u3) :: (D, listOf [.int s0 w0, .int s1 w1, .int s2 w2, .int s3 w3, .int s4 w4, .int s5 w5, .int s6 w6, .int s7 w7].toArray 0) :: (L + 1, o1) :: nb) → Q .next { s with heap := h', toks := tk' }) :
    wpAny (model PySem.Challenge.rw_zt0001_01.row.prog w) (A.deeper (envOfC qual scope L fa cd)) (execs b3 (envOfC qual scope L fa cd)) Q NoErr s := by
  subst hb3
  refine wpAny_execs_cons (turn0 (p := p) (loose := loose) (mean := mean) (mg := mg) (mb := mb) ho hf hst rfl l51 B SA F X Tp hh hroom hu T C g44 g51 hm3 N hn a1 a2 a3 a4 a5 a6 e1 e2 e3 ?_)
  intro h1 tk1 v1 v2 v3 m1 F1 c1 q3 q4 q5 q6 N1 T1
  refine wpAny_execs_cons (turn1 (p := p) (loose := loose) (mean := mean) (mg := mg) (mb := mb) ho hf hst rfl l51 B SA F1 X Tp hh hroom hu q4 q5 q6 P1 P2 ?_)
  intro tk2
  have tn := tab_none F1 T1
  obtain ⟨q1', y1', o1', q2', y2', o2', N6, K⟩ := tabs_lay F1 T1 ⟨g44, tn.1⟩ ⟨g51, tn.2⟩
  have N7 := news_app N1 N6
  simp only [List.cons_append] at N7
  refine wpAny_execs_cons (turn2 (p := p) (loose := loose) (mean := mean) (mg := mg) (mb := mb) ho hf hst rfl l51 B SA F1 X Tp hh hroom hu q3 N7 k1 ?_)
  intro h3 tk3 DM r1 r2 r3 u1' v1' u2' v2' u3' v3' F3 N8 lt3
  have N9 := fun q hq => N8 q (.tail _ (.tail _ (.tail _ (.tail _ (.tail _ (.tail _ (.tail _ (.tail _ (.tail _ (.tail _ (List.mem_append_right _ hq)))))))))))
  have T3 : Tabs h3 := K _ F3.keep (N9 _ (.head _)).1 (N9 _ (.tail _ (.head _))).1 (N9 _ (.tail _ (.tail _ (.head _)))).1 (N9 _ (.tail _ (.tail _ (.tail _ (.head _))))).1
  have N3 := fun q (hq : q ∈ (DM, listOf [.ref r1, .ref r2, .ref r3].toArray 3) :: (r1, tup2 (x1 + s0 - 9) u1' (y1 + 3) v1') :: (r2, tup2 (x2 + s0 - 9) u2' (y2 + 3) v2') :: (r3, tup2 (x3 + s0 - 9) u3' (y3 + 3) v3') :: (l, listOf [.ref a, .ref b, .ref c].toArray cl) :: (a, tup2 x1 t1 y1 u1) :: (b, tup2 x2 t2 y2 u2) :: (c, tup2 x3 t3 y3 u3) :: (D, listOf [.int s0 w0, .int s1 w1, .int s2 w2, .int s3 w3, .int s4 w4, .int s5 w5, .int s6 w6, .int s7 w7].toArray 0) :: (L + 1, o1) :: nb) => N8 q (List.mem_append_left (bs := [_, _, _, _]) hq)
  refine wpAny_execs_cons (turn3 (p := p) (loose := loose) (mean := mean) (mg := mg) (mb := mb) ho hf hst rfl l51 B SA F3 X Tp hh hroom hu T3 C g44 g51 (l := l) (a := a) (b := b) (c := c) ((if_neg (by decide)).trans q3) (if_pos rfl) ((if_neg (by decide)).trans q4) ((if_neg (by decide)).trans q5) ((if_neg (by decide)).trans q6) N3 (fun q hq => ?_) a1 a2 a3 a4 a5 a6 a7 M1 M2 M3 S1 S2 S3 ?_)
  · have l51' : @LT.lt Nat _ 51 L := l51
    rcases List.mem_cons.mp hq with rfl | hq
    · exact notST (Nat.lt_trans l51' (lt3 _ (.inl rfl)))
    rcases List.mem_cons.mp hq with rfl | hq
    · exact notST (Nat.lt_trans l51' (lt3 _ (.inr (.inl rfl))))
    rcases List.mem_cons.mp hq with rfl | hq
    · exact notST (Nat.lt_trans l51' (lt3 _ (.inr (.inr (.inl rfl)))))
    rcases List.mem_cons.mp hq with rfl | hq
    · exact notST (Nat.lt_trans l51' (lt3 _ (.inr (.inr (.inr rfl)))))
    · exact hn q hq
  intro h4 tk4 F4 T4 N4
  exact wpAny_execs_nil (ret _ _ _ F4 ((if_neg (by decide)).trans c1) T4 N4)
end

-- L8
open PySem PySem.W PyProof.Rows PySem.Calls
set_option Elab.async false
set_option linter.unusedVariables false
set_option maxRecDepth 100000

theorem words_L8 : True := by
  k_with_none
  k_with "STEPS" => repeat' (first | walk1 | (dsimp only; walk1) | (k_unfold; (try dsimp only)) | fail "no step")
  k_with "ite" => (refine ite_both (fun h => ?_) (fun h => ?_) <;> (try simp only [bne_iff_ne, ne_eq, beq_iff_eq, Bool.not_eq_true, bne_eq_false_iff_eq, beq_eq_false_iff_ne, Bool.false_eq_true, decide_eq_true_eq, decide_eq_false_iff_not, not_true_eq_false, not_false_eq_true, Decidable.not_not] at h) <;> (try (exfalso; omega)))
  k_with "exec Assign" => (k_here; k_dflt (refine comp_assign (by rfl) (by exact rfl) rfl (by decide) (fun _ => rfl) ?_))
  k_with "exec Assign cons ListComp" => (k_here; k_dflt (refine comp_assign (by rfl) (by exact rfl) rfl (by decide) (fun _ => rfl) ?_))
  k_with "eval Name" => (k_here; k_dflt (refine' nameX_L (by k_asm) (by assumption) ?_ (by rfl) (by rfl) (by decide); k_whole))
  k_with "assign Tuple" => (k_here; (with_reducible show wpAny _ _ (assign (Expr.Tuple _ _ _) _ (Value.ref _)) _ _ _); k_dflt (refine' unpackN_ (by k_asm) (by k_asm) (by first | assumption | kun_tup) (by assumption) (by exact rfl) (by exact rfl) ?_; k_whole); intro hkw Fkw Nkw; (try k_sweep))
  k_with "unpackItems ref" => (k_here; k_dflt (refine' unpackItemsN_ (by k_asm) (by k_asm) (by first | assumption | kun_tup) (by assumption) (by exact rfl) ?_; k_whole); intro hkw Fkw Nkw; (try k_sweep))
  k_with "mul_fits" => exact PySem.IntMulOk.of_left (PySem.intBits_le_64 (by first | decide | omega) (by first | decide | omega))
  k_with "!eval ListComp" => (k_here; k_dflt (refine comp_eval (by exact rfl) rfl (by decide) (fun _ => rfl) ?_))
  trivial

section
variable {p : Program} {loose : List Str} {mean : ExcName → Option Value} {mg mb : Str → Option Value} {w : World} {A A₀ : Around} {s : Shared} {Q : Flow → Shared → Prop} {R : Value → Shared → Prop}
set_option maxHeartbeats 8000000 in
theorem law_s3a {o : Obj} (ho : (hd.heap_39 w.params).lookup 108 = some o) {qual : Str} {body : List Stmt} {scope : Scope} {cdv cd : Value} {fa : Addr} (hf : funOf o = some (qual, body, scope, cdv)) {tgt it3 : PySem.Expr} {b3 ore : List Stmt} {ps3 : Pos} (hst : body[3]? = some (.For tgt it3 b3 ore ps3))
    {base g : Heap} {outer : List Env} {L : Addr} (l51 : @LT.lt Nat _ 51 L) (B : Below A₀ base outer g) (SA : (A.deeper (envOfC qual scope L fa cd)).frames = some (envOfC qual scope L fa cd :: outer))
    {m : Str → Option Value} (F : Fr g L s.heap m)
    (X : (hd.heap_39 w.params).In g) (Tp : Top p loose mean mg mb g) (hh : A.handled = none)
    {o2 o3 : Obj} {DF DS : Addr} {nb : List (Addr × Obj)}
    (N : News g L s.heap ((L + 1 + 1 + 1, o3) :: (L + 1 + 1, o2) :: nb)) (k2 : o2.data = .cell (some (.ref DF))) (k3 : o3.data = .cell (some (.ref DS)))
    (ret : ∀ h' tk' l c, Fr g L h' m → News g L h' ((l, listOf [.ref DF, .ref DS].toArray c) :: (L + 1 + 1 + 1, o3) :: (L + 1 + 1, o2) :: nb) → R (.ref l) { s with heap := h', toks := tk' }) :
    wpAny (model PySem.Challenge.rw_zt0001_01.row.prog w) (A.deeper (envOfC qual scope L fa cd)) (eval it3 (envOfC qual scope L fa cd)) R NoErr s := by
  revert ho; k_fill; intro ho
  obtain rfl := Option.some.inj (ho.symm.trans (by k_is : _ = some _))
  cases (hf.symm.trans (rfl : _ = some (_, _, _, _)))
  cases hst
  clear ho hf
  walk_at "STEPS"
  rename News _ _ _ _ => N9
  rename Fr _ _ _ _ => F9
  exact ret _ _ _ _ F9 N9

/-- what the law's text is -/
structure Shape (qual : Str) (body : List Stmt) (scope : Scope) (cdv : Value) (tgt it3 : PySem.Expr) (b3 ore : List Stmt) (ps3 : Pos) : Prop where
  len : ∃ s0 s1 s2 s4 s5 s6 s7, body = [s0, s1, s2, .For tgt it3 b3 ore ps3, s4, s5, s6, s7]
  tg : ∃ px, tgt = .Name (Str.ofString "three") px
  or0 : ore = []
  len3 : ∃ s0 s1 s2 s3, b3 = [s0, s1, s2, s3]
  fold : ∀ env v, foldedSetIterable it3 env v = pure v
  kind : ∀ L fa cd, (envOfC qual scope L fa cd).kindOf (Str.ofString "three") = some .local
  ns : ∀ L fa cd, ((envOfC qual scope L fa cd).scope.kind == .class || ((envOfC qual scope L fa cd).scope.kind == .module && (envOfC qual scope L fa cd).locals != (envOfC qual scope L fa cd).globals)) = false
set_option maxHeartbeats 8000000 in
theorem law_shape {o : Obj} (ho : (hd.heap_39 w.params).lookup 108 = some o) {qual : Str} {body : List Stmt} {scope : Scope} {cdv cd : Value} {fa : Addr} (hf : funOf o = some (qual, body, scope, cdv)) :
    ∃ tgt it3 b3 ore ps3, Shape qual body scope cdv tgt it3 b3 ore ps3 := by
  revert ho; k_fill; intro ho
  obtain rfl := Option.some.inj (ho.symm.trans (by k_is : _ = some _))
  cases (hf.symm.trans (rfl : _ = some (_, _, _, _)))
  exact ⟨_, _, _, _, _, ⟨_, _, _, _, _, _, _, rfl⟩, ⟨_, rfl⟩, rfl, ⟨_, _, _, _, rfl⟩, fun _ _ => rfl, fun _ _ _ => rfl, fun _ _ _ => rfl⟩
end

-- L9
open PySem PySem.W PyProof.Rows PySem.Calls
set_option Elab.async false
set_option linter.unusedVariables false
set_option maxRecDepth 100000

/-- what is asked of one triangle -/
structure TriOK (x1 y1 x2 y2 x3 y3 s0 : Int) : Prop where
  p1 : sizeI x1 y1 x2 y2 x3 y3 ≠ 0 → sizeI x1 y1 x2 y2 x3 y3 = 2 * countI x1 y1 x2 y2 x3 y3 + edgeI x1 y1 x2 y2 x3 y3 - 2
  p2 : sizeI x1 y1 x2 y2 x3 y3 = 0 → countI x1 y1 x2 y2 x3 y3 = 0
  m1 : sizeI (x1 + s0 - 9) (y1 + 3) (x2 + s0 - 9) (y2 + 3) (x3 + s0 - 9) (y3 + 3) = sizeI x1 y1 x2 y2 x3 y3
  m2 : countI (x1 + s0 - 9) (y1 + 3) (x2 + s0 - 9) (y2 + 3) (x3 + s0 - 9) (y3 + 3) = countI x1 y1 x2 y2 x3 y3
  m3 : edgeI (x1 + s0 - 9) (y1 + 3) (x2 + s0 - 9) (y2 + 3) (x3 + s0 - 9) (y3 + 3) = edgeI x1 y1 x2 y2 x3 y3
  s1 : sizeI (x1 + y1) y1 (x2 + y2) y2 (x3 + y3) y3 = sizeI x1 y1 x2 y2 x3 y3
  s2 : countI (x1 + y1) y1 (x2 + y2) y2 (x3 + y3) y3 = countI x1 y1 x2 y2 x3 y3
  s3 : edgeI (x1 + y1) y1 (x2 + y2) y2 (x3 + y3) y3 = edgeI x1 y1 x2 y2 x3 y3

section
variable {p : Program} {loose : List Str} {mean : ExcName → Option Value} {mg mb : Str → Option Value} {w : World} {A A₀ : Around} {s : Shared} {Q : Flow → Shared → Prop} {R : Value → Shared → Prop}
set_option maxHeartbeats 8000000 in
theorem law_s3 {o : Obj} (ho : (hd.heap_39 w.params).lookup 108 = some o) {qual : Str} {body : List Stmt} {scope : Scope} {cdv cd : Value} {fa : Addr} (hf : funOf o = some (qual, body, scope, cdv)) {tgt it3 : PySem.Expr} {b3 ore : List Stmt} {ps3 : Pos} (sh : Shape qual body scope cdv tgt it3 b3 ore ps3) {st : Stmt} (hst : body[3]? = some st)
    {base g : Heap} {outer : List Env} {L : Addr} (l51 : @LT.lt Nat _ 51 L) (B : Below A₀ base outer g) (SA : (A.deeper (envOfC qual scope L fa cd)).frames = some (envOfC qual scope L fa cd :: outer))
    {m : Str → Option Value} (F : Fr g L s.heap m)
    (X : (hd.heap_39 w.params).In g) (Tp : Top p loose mean mg mb g) (hh : A.handled = none) (hroom : A.depth + 200 < recursionLimit) (hu : A.units + 100 < cLine)
    (T : Tabs s.heap) (C : Codes g) (g44 : g.get? 44 = none) (g51 : g.get? 51 = none)
    {DS DF DC p0 p1 p2 p3 D : Addr} (hm : m (Str.ofString "corners") = some (.ref DC)) {o1 o2 o3 o4 o5 : Obj} {cS cF : Nat} {a b c d e f g' i : Int} {u0 u1 u2 u3 v0 v1 v2 v3 t1 t2 t3 t4 t5 t6 t7 t8 : Tok}
    {nb : List (Addr × Obj)} (hnb : nb = [(DS, listOf [.ref p0, .ref p2, .ref p3].toArray cS), (DF, listOf [.ref p0, .ref p1, .ref p2].toArray cF), (DC, listOf [.ref p0, .ref p1, .ref p2, .ref p3].toArray 4), (p0, tup2 a u0 b v0), (p1, tup2 c u1 d v1), (p2, tup2 e u2 f v2), (p3, tup2 g' u3 i v3),
      (D, listOf [.int a t1, .int b t2, .int c t3, .int d t4, .int e t5, .int f t6, .int g' t7, .int i t8].toArray 0), (L + 1, o1), (L + 1 + 1 + 1 + 1 + 1, o5), (L + 1 + 1 + 1 + 1, o4), (L + 1 + 1 + 1, o3), (L + 1 + 1, o2)])
    (N : News g L s.heap nb) (hn : ∀ p ∈ nb, p.1 ∉ ST)
    (k1 : o1.data = .cell (some (.ref D))) (k2 : o2.data = .cell (some (.ref DF))) (k3 : o3.data = .cell (some (.ref DS)))
    (a1 : 0 ≤ a ∧ a ≤ 7) (a2 : 0 ≤ b ∧ b ≤ 7) (a3 : 0 ≤ c ∧ c ≤ 7) (a4 : 0 ≤ d ∧ d ≤ 7) (a5 : 0 ≤ e ∧ e ≤ 7) (a6 : 0 ≤ f ∧ f ≤ 7) (a7 : 0 ≤ g' ∧ g' ≤ 7) (a8 : 0 ≤ i ∧ i ≤ 7)
    (O1 : TriOK a b c d e f a) (O2 : TriOK a b e f g' i a)
    (ret : ∀ h' tk' m', Fr g L h' m' → m' (Str.ofString "corners") = some (.ref DC) → Tabs h' → News g L h' nb → Q .next { s with heap := h', toks := tk' }) :
    wpAny (model PySem.Challenge.rw_zt0001_01.row.prog w) (A.deeper (envOfC qual scope L fa cd)) (exec st (envOfC qual scope L fa cd)) Q NoErr s := by
  obtain ⟨st0, st1, st2, st4, st5, st6, st7, hb⟩ := sh.len
  have hst' : body[3]? = some (.For tgt it3 b3 ore ps3) := by rw [hb]; rfl
  cases hst.symm.trans hst'
  clear hb
  obtain ⟨px, htg⟩ := sh.tg
  obtain ⟨r0, r1, r2, r3, hb3⟩ := sh.len3
  have hor := sh.or0
  have tn := tab_none F T
  obtain ⟨q1', y1', o1', q2', y2', o2', NT, K⟩ := tabs_lay F T ⟨g44, tn.1⟩ ⟨g51, tn.2⟩
  have hgoal : wpAny (model PySem.Challenge.rw_zt0001_01.row.prog w) (A.deeper (envOfC qual scope L fa cd)) (exec (.For (.Name (Str.ofString "three") px) it3 b3 [] ps3) (envOfC qual scope L fa cd)) Q NoErr s := by
    refine for_refs (g := g) (L := L) (P := fun m => m (Str.ofString "corners") = some (.ref DC)) (nb := nb) (vs := [.ref DF, .ref DS]) hh rfl (sh.kind L _ _) (sh.ns L _ _) (sh.fold _) ?_
    have pk : ∀ {h : Heap}, News g L h nb → ∀ is : List Nat, News g L h (picks [(DS, listOf [.ref p0, .ref p2, .ref p3].toArray cS), (DF, listOf [.ref p0, .ref p1, .ref p2].toArray cF), (DC, listOf [.ref p0, .ref p1, .ref p2, .ref p3].toArray 4), (p0, tup2 a u0 b v0), (p1, tup2 c u1 d v1), (p2, tup2 e u2 f v2), (p3, tup2 g' u3 i v3),
      (D, listOf [.int a t1, .int b t2, .int c t3, .int d t4, .int e t5, .int f t6, .int g' t7, .int i t8].toArray 0), (L + 1, o1), (L + 1 + 1 + 1 + 1 + 1, o5), (L + 1 + 1 + 1 + 1, o4), (L + 1 + 1 + 1, o3), (L + 1 + 1, o2)] is) := fun N => nw_pick (hnb ▸ N)
    have sk := st_pick (hnb ▸ hn)
    have N1 : News g L s.heap ((L + 1 + 1 + 1, o3) :: (L + 1 + 1, o2) :: (nb ++ [(y1', o1'), (y2', o2'), (44, tabObj q1'), (51, tabObj q2')])) := news_app (pk N [11, 12]) (news_app N NT)
    refine law_s3a (p := p) (loose := loose) (mean := mean) (mg := mg) (mb := mb) ho hf hst' l51 B SA F X Tp hh N1 k2 k3 ?_
    intro h1 tk1 l cl F1 N2
    have N3 := fun q hq => N2 q (.tail _ (.tail _ (.tail _ (List.mem_append_right _ hq))))
    refine ⟨l, rfl, News.isList N2 (.head _), (N2 _ (.head _)).2.2, m, F1, hm, K _ F1.keep (N3 _ (.head _)).1 (N3 _ (.tail _ (.head _))).1 (N3 _ (.tail _ (.tail _ (.head _)))).1 (N3 _ (.tail _ (.tail _ (.tail _ (.head _))))).1, fun q hq => N2 q (.tail _ (.tail _ (.tail _ (List.mem_append_left _ hq)))), ?_, ?_⟩
    · intro j v m' h tk nx hv F5 hP T5 N5 hx
      have hx' : ∀ p ∈ nx ++ nb, p.1 ∉ ST := fun p hp => (List.mem_append.mp hp).elim (hx p) (hn p)
      match j, hv with
      | 0, hv =>
        obtain rfl : Value.ref DF = v := by simpa using hv
        refine law_turn (p := p) (loose := loose) (mean := mean) (mg := mg) (mb := mb) ho hf hst' hb3 l51 B SA F5 X Tp hh hroom hu T5 C g44 g51 (s0 := a) (if_pos rfl) (news_app (pk (fun q hq => N5 q (List.mem_append_right _ hq)) [1, 3, 4, 5, 7, 8]) N5) (st_app (sk [1, 3, 4, 5, 7, 8]) hx') k1 a1 a2 a3 a4 a5 a6 a1 rfl rfl rfl O1.p1 O1.p2 O1.m1 O1.m2 O1.m3 O1.s1 O1.s2 O1.s3 ?_
        intro h' tk' m'' F6 c6 T6 N6
        exact ⟨h', tk', m'', rfl, rfl, F6, c6.trans ((if_neg (by decide)).trans hP), T6, fun q hq => N6 q (.tail _ (.tail _ (.tail _ (.tail _ (.tail _ (.tail _ hq))))))⟩
      | 1, hv =>
        obtain rfl : Value.ref DS = v := by simpa using hv
        refine law_turn (p := p) (loose := loose) (mean := mean) (mg := mg) (mb := mb) ho hf hst' hb3 l51 B SA F5 X Tp hh hroom hu T5 C g44 g51 (s0 := a) (if_pos rfl) (news_app (pk (fun q hq => N5 q (List.mem_append_right _ hq)) [0, 3, 5, 6, 7, 8]) N5) (st_app (sk [0, 3, 5, 6, 7, 8]) hx') k1 a1 a2 a5 a6 a7 a8 a1 rfl rfl rfl O2.p1 O2.p2 O2.m1 O2.m2 O2.m3 O2.s1 O2.s2 O2.s3 ?_
        intro h' tk' m'' F6 c6 T6 N6
        exact ⟨h', tk', m'', rfl, rfl, F6, c6.trans ((if_neg (by decide)).trans hP), T6, fun q hq => N6 q (.tail _ (.tail _ (.tail _ (.tail _ (.tail _ (.tail _ hq))))))⟩
      | k + 2, hv => simp at hv
    · intro h' tk' m' F6 c6 T6 N6
      exact ret h' tk' m' F6 c6 T6 N6
  rw [htg, hor]
  exact hgoal
end

-- M1
open PySem PySem.W PyProof.Rows PySem.Calls
set_option Elab.async false
set_option linter.unusedVariables false
set_option maxRecDepth 100000


section
variable {p : Program} {loose : List Str} {mean : ExcName → Option Value} {mg mb : Str → Option Value} {w : World} {A A₀ : Around} {s : Shared} {Q : Flow → Shared → Prop} {R : Value → Shared → Prop}
set_option maxHeartbeats 8000000 in
theorem law_s4 {o : Obj} (ho : (hd.heap_39 w.params).lookup 108 = some o) {qual : Str} {body : List Stmt} {scope : Scope} {cdv cd : Value} {fa : Addr} (hf : funOf o = some (qual, body, scope, cdv)) {st : Stmt} (hst : body[4]? = some st)
    {base g : Heap} {outer : List Env} {L : Addr} (l51 : @LT.lt Nat _ 51 L) (B : Below A₀ base outer g) (SA : (A.deeper (envOfC qual scope L fa cd)).frames = some (envOfC qual scope L fa cd :: outer))
    {m : Str → Option Value} (F : Fr g L s.heap m)
    (X : (hd.heap_39 w.params).In g) (Tp : Top p loose mean mg mb g) (hh : A.handled = none) (hroom : A.depth + 200 < recursionLimit) (hu : A.units + 100 < cLine)
    (T : Tabs s.heap) (C : Codes g) (g44 : g.get? 44 = none) (g51 : g.get? 51 = none)
    {DS DF p0 p1 p2 p3 : Addr} {o2 o3 : Obj} {cS cF : Nat} {a b c d e f g' i : Int} {u0 u1 u2 u3 v0 v1 v2 v3 : Tok}
    {nb : List (Addr × Obj)}
    (N : News g L s.heap ((DS, listOf [.ref p0, .ref p2, .ref p3].toArray cS) :: (DF, listOf [.ref p0, .ref p1, .ref p2].toArray cF) :: (p0, tup2 a u0 b v0) :: (p1, tup2 c u1 d v1) :: (p2, tup2 e u2 f v2) :: (p3, tup2 g' u3 i v3) :: (L + 1 + 1 + 1, o3) :: (L + 1 + 1, o2) :: nb))
    (hn : ∀ p ∈ ((DS, listOf [.ref p0, .ref p2, .ref p3].toArray cS) :: (DF, listOf [.ref p0, .ref p1, .ref p2].toArray cF) :: (p0, tup2 a u0 b v0) :: (p1, tup2 c u1 d v1) :: (p2, tup2 e u2 f v2) :: (p3, tup2 g' u3 i v3) :: (L + 1 + 1 + 1, o3) :: (L + 1 + 1, o2) :: nb), p.1 ∉ ST)
    (k2 : o2.data = .cell (some (.ref DF))) (k3 : o3.data = .cell (some (.ref DS)))
    (a1 : 0 ≤ a ∧ a ≤ 7) (a2 : 0 ≤ b ∧ b ≤ 7) (a3 : 0 ≤ c ∧ c ≤ 7) (a4 : 0 ≤ d ∧ d ≤ 7) (a5 : 0 ≤ e ∧ e ≤ 7) (a6 : 0 ≤ f ∧ f ≤ 7) (a7 : 0 ≤ g' ∧ g' ≤ 7) (a8 : 0 ≤ i ∧ i ≤ 7)
    {z1 z2 z3 : Int} (e1 : sizeI a b c d e f = z1) (e2 : countI a b c d e f = z2) (e3 : edgeI a b c d e f = z3)
    {y1 y2 y3 : Int} (e4 : sizeI a b e f g' i = y1) (e5 : countI a b e f g' i = y2) (e6 : edgeI a b e f g' i = y3)
    (ret : ∀ h' tk' m' r1 r2 w1 w2 w3 w4 w5 w6, Fr g L h' m' → (∀ y, y ≠ Str.ofString "one" → y ≠ Str.ofString "other" → m' y = m y) → m' (Str.ofString "one") = some (.ref r1) → m' (Str.ofString "other") = some (.ref r2) → Tabs h' → r1 ∉ ST → r2 ∉ ST →
      News g L h' ((r2, tup3 y1 w4 y2 w5 y3 w6) :: (r1, tup3 z1 w1 z2 w2 z3 w3) :: (DS, listOf [.ref p0, .ref p2, .ref p3].toArray cS) :: (DF, listOf [.ref p0, .ref p1, .ref p2].toArray cF) :: (p0, tup2 a u0 b v0) :: (p1, tup2 c u1 d v1) :: (p2, tup2 e u2 f v2) :: (p3, tup2 g' u3 i v3) :: (L + 1 + 1 + 1, o3) :: (L + 1 + 1, o2) :: nb) → Q .next { s with heap := h', toks := tk' }) :
    wpAny (model PySem.Challenge.rw_zt0001_01.row.prog w) (A.deeper (envOfC qual scope L fa cd)) (exec st (envOfC qual scope L fa cd)) Q NoErr s := by
  revert ho; k_fill; intro ho
  obtain rfl := Option.some.inj (ho.symm.trans (by k_is : _ = some _))
  cases (hf.symm.trans (rfl : _ = some (_, _, _, _)))
  cases hst
  clear ho hf
  have tn := tab_none F T
  have n44 : g.get? 44 = none ∧ 44 ≠ L := ⟨g44, tn.1⟩
  have n51 : g.get? 51 = none ∧ 51 ≠ L := ⟨g51, tn.2⟩
  walk_at "STEPS"
  rename News _ _ _ _ => N9
  rename Fr _ _ _ _ => F9
  refine counted_at (p := p) (loose := loose) (mean := mean) (mg := mg) (mb := mb) B SA rfl rfl F9 N9 hn T C n44 n51 X Tp hh (by ktr_room) (News.isList N9 (.tail _ (.head _))) (News.isTup N9 (.tail _ (.tail _ (.head _)))) (News.isTup N9 (.tail _ (.tail _ (.tail _ (.head _))))) (News.isTup N9 (.tail _ (.tail _ (.tail _ (.tail _ (.head _))))))
    (bd a1) (bd a2) (bd a3) (bd a4) (bd a5) (bd a6) (df a1 a3) (df a2 a4) (df a3 a5) (df a4 a6) (df a5 a1) (df a6 a2) e1 e2 e3 ?_
  intro h5 tk5 r w1 w2 w3 F5 N5 hr5 T5 st5
  clear F9 N9 e1 e2 e3 T
  have hn5 : ∀ p ∈ ((r, tup3 z1 w1 z2 w2 z3 w3) :: (DS, listOf [.ref p0, .ref p2, .ref p3].toArray cS) :: (DF, listOf [.ref p0, .ref p1, .ref p2].toArray cF) :: (p0, tup2 a u0 b v0) :: (p1, tup2 c u1 d v1) :: (p2, tup2 e u2 f v2) :: (p3, tup2 g' u3 i v3) :: (L + 1 + 1 + 1, o3) :: (L + 1 + 1, o2) :: nb), p.1 ∉ ST := fun p hp => by
    rcases List.mem_cons.mp hp with rfl | hp
    · exact hr5
    · exact hn p hp
  walk_at "STEPS"
  rename News _ _ _ _ => N9
  rename Fr _ _ _ _ => F9
  refine counted_at (p := p) (loose := loose) (mean := mean) (mg := mg) (mb := mb) B SA rfl rfl F9 N9 hn5 T5 C n44 n51 X Tp hh (by ktr_room) (News.isList N9 (.tail _ (.head _))) (News.isTup N9 (.tail _ (.tail _ (.tail _ (.head _))))) (News.isTup N9 (.tail _ (.tail _ (.tail _ (.tail _ (.tail _ (.head _))))))) (News.isTup N9 (.tail _ (.tail _ (.tail _ (.tail _ (.tail _ (.tail _ (.head _))))))))
    (bd a1) (bd a2) (bd a5) (bd a6) (bd a7) (bd a8) (df a1 a5) (df a2 a6) (df a5 a7) (df a6 a8) (df a7 a1) (df a8 a2) e4 e5 e6 ?_
  intro h6 tk6 r2 w4 w5 w6 F6 N6 hr6 T6 st6
  clear F9 N9 e4 e5 e6 T5 hn hn5
  obtain ⟨q1', y1', o1', q2', y2', o2', NT, K⟩ := tabs_lay F6 T6 n44 n51
  have N7 := news_app NT N6
  clear N6 NT T6
  simp only [List.cons_append, List.nil_append] at N7
  walk_at "STEPS"
  rename News _ _ _ _ => N9
  rename Fr _ _ _ _ => F9
  exact ret _ _ _ r r2 w1 w2 w3 w4 w5 w6 F9 (fun y n1 n2 => by simp [n1, n2]) rfl rfl (K _ F9.keep (N9 _ (.tail _ (.head _))).1 (N9 _ (.tail _ (.tail _ (.head _)))).1 (N9 _ (.tail _ (.tail _ (.tail _ (.head _))))).1 (N9 _ (.tail _ (.tail _ (.tail _ (.tail _ (.head _)))))).1) hr5 hr6 (fun q hq => N9 q (List.mem_of_mem_drop (i := 5) hq))
end

-- M2
open PySem PySem.W PyProof.Rows PySem.Calls
set_option Elab.async false
set_option linter.unusedVariables false
set_option maxRecDepth 100000


section
variable {p : Program} {loose : List Str} {mean : ExcName → Option Value} {mg mb : Str → Option Value} {w : World} {A A' A₀ : Around} {s : Shared} {Q : Flow → Shared → Prop} {R : Value → Shared → Prop}
theorem rdy_at {base g : Heap} {outer : List Env} {env : Env} {L : Addr} {m : Str → Option Value} {nb : List (Addr × Obj)} (B : Below A₀ base outer g) (SA : A'.frames = some (env :: outer)) (hfr : env.frame = some L) (hkf : env.scope.kind = .function) (F : Fr g L s.heap m) (X : (hd.heap_39 w.params).In g) (Tp : Top p loose mean mg mb g) :
    Rdy p loose mean mg mb (hd.heap_39 w.params) A' s.heap := by
  have := rdy_hid (S := []) B F X Tp (fun _ q => nomatch q) SA hfr hkf
  exact this
theorem cross_at {base g : Heap} {outer : List Env} {env : Env} {L a b c : Addr} {m : Str → Option Value} {nb : List (Addr × Obj)} {R : Value → Shared → Prop} {E : Value → Shared → Prop} (B : Below A₀ base outer g) (SA : A'.frames = some (env :: outer)) (hfr : env.frame = some L) (hkf : env.scope.kind = .function) (F : Fr g L s.heap m) (N : News g L s.heap nb)
    (X : (hd.heap_39 w.params).In g) (Tp : Top p loose mean mg mb g) (hh : A'.handled = none) (hroom : A'.depth + 1 < recursionLimit)
    {x1 y1 x2 y2 x3 y3 : Int} {t1 u1 t2 u2 t3 u3 : Tok}
    (i1 : IsTup s.heap a [.int x1 t1, .int y1 u1].toArray) (i2 : IsTup s.heap b [.int x2 t2, .int y2 u2].toArray) (i3 : IsTup s.heap c [.int x3 t3, .int y3 u3].toArray)
    (a1 : 0 ≤ x1 ∧ x1 ≤ 7) (a2 : 0 ≤ y1 ∧ y1 ≤ 7) (a3 : 0 ≤ x2 ∧ x2 ≤ 7) (a4 : 0 ≤ y2 ∧ y2 ≤ 7) (a5 : 0 ≤ x3 ∧ x3 ≤ 7) (a6 : 0 ≤ y3 ∧ y3 ≤ 7)
    {z : Int} (ez : crossI x1 y1 x2 y2 x3 y3 = z)
    (ret : ∀ h' tk' t, Fr g L h' m → News g L h' nb → s.heap.StaysIn h' → R (.int z t) { s with heap := h', toks := tk' }) :
    wpAny (model PySem.Challenge.rw_zt0001_01.row.prog w) A' (call (.ref 84) [.ref a, .ref b, .ref c]) R E s := by
  subst ez
  refine cross_ok (p := p) (loose := loose) (mean := mean) (mg := mg) (mb := mb) (rdy_at (nb := nb) B SA hfr hkf F X Tp) hroom i1 i2 i3 ⟨by omega, by omega⟩ ⟨by omega, by omega⟩ ⟨by omega, by omega⟩ ⟨by omega, by omega⟩ ⟨by omega, by omega⟩ ⟨by omega, by omega⟩ ?_
  intro h' tk' t st
  exact ret h' tk' t (F.keeps st) (N.grown st) st
set_option maxHeartbeats 8000000 in
theorem law_s5 {o : Obj} (ho : (hd.heap_39 w.params).lookup 108 = some o) {qual : Str} {body : List Stmt} {scope : Scope} {cdv cd : Value} {fa : Addr} (hf : funOf o = some (qual, body, scope, cdv)) {st : Stmt} (hst : body[5]? = some st)
    {base g : Heap} {outer : List Env} {L : Addr} (l51 : @LT.lt Nat _ 51 L) (B : Below A₀ base outer g) (SA : (A.deeper (envOfC qual scope L fa cd)).frames = some (envOfC qual scope L fa cd :: outer))
    {m : Str → Option Value} (F : Fr g L s.heap m)
    (X : (hd.heap_39 w.params).In g) (Tp : Top p loose mean mg mb g) (hh : A.handled = none) (hroom : A.depth + 200 < recursionLimit) (hu : A.units + 100 < cLine)
    {DC p0 p1 p2 p3 : Addr} (hm : m (Str.ofString "corners") = some (.ref DC)) {a b c d e f g' i : Int} {u0 u1 u2 u3 v0 v1 v2 v3 : Tok}
    {nb : List (Addr × Obj)}
    (N : News g L s.heap ((DC, listOf [.ref p0, .ref p1, .ref p2, .ref p3].toArray 4) :: (p0, tup2 a u0 b v0) :: (p1, tup2 c u1 d v1) :: (p2, tup2 e u2 f v2) :: (p3, tup2 g' u3 i v3) :: nb))
    (a1 : 0 ≤ a ∧ a ≤ 7) (a2 : 0 ≤ b ∧ b ≤ 7) (a3 : 0 ≤ c ∧ c ≤ 7) (a4 : 0 ≤ d ∧ d ≤ 7) (a5 : 0 ≤ e ∧ e ≤ 7) (a6 : 0 ≤ f ∧ f ≤ 7) (a7 : 0 ≤ g' ∧ g' ≤ 7) (a8 : 0 ≤ i ∧ i ≤ 7)
    {z1 z2 : Int} (e1 : crossI a b e f c d = z1) (e2 : crossI a b e f g' i = z2)
    (ret : ∀ h' tk' m' w1 w2, Fr g L h' m' → (∀ y, y ≠ Str.ofString "left" → y ≠ Str.ofString "right" → m' y = m y) → m' (Str.ofString "left") = some (.int z1 w1) → m' (Str.ofString "right") = some (.int z2 w2) →
      News g L h' ((DC, listOf [.ref p0, .ref p1, .ref p2, .ref p3].toArray 4) :: (p0, tup2 a u0 b v0) :: (p1, tup2 c u1 d v1) :: (p2, tup2 e u2 f v2) :: (p3, tup2 g' u3 i v3) :: nb) → Q .next { s with heap := h', toks := tk' }) :
    wpAny (model PySem.Challenge.rw_zt0001_01.row.prog w) (A.deeper (envOfC qual scope L fa cd)) (exec st (envOfC qual scope L fa cd)) Q NoErr s := by
  revert ho; k_fill; intro ho
  obtain rfl := Option.some.inj (ho.symm.trans (by k_is : _ = some _))
  cases (hf.symm.trans (rfl : _ = some (_, _, _, _)))
  cases hst
  clear ho hf
  walk_at "STEPS"
  rename News _ _ _ _ => N9
  rename Fr _ _ _ _ => F9
  refine cross_at (p := p) (loose := loose) (mean := mean) (mg := mg) (mb := mb) B SA rfl rfl F9 N9 X Tp hh (by ktr_room) (News.isTup N9 (.tail _ (.head _))) (News.isTup N9 (.tail _ (.tail _ (.tail _ (.head _))))) (News.isTup N9 (.tail _ (.tail _ (.head _)))) a1 a2 a5 a6 a3 a4 e1 ?_
  intro h5 tk5 w1 F5 N5 st5
  clear F9 N9 e1
  walk_at "STEPS"
  rename News _ _ _ _ => N9
  rename Fr _ _ _ _ => F9
  refine cross_at (p := p) (loose := loose) (mean := mean) (mg := mg) (mb := mb) B SA rfl rfl F9 N9 X Tp hh (by ktr_room) (News.isTup N9 (.tail _ (.head _))) (News.isTup N9 (.tail _ (.tail _ (.tail _ (.head _))))) (News.isTup N9 (.tail _ (.tail _ (.tail _ (.tail _ (.head _)))))) a1 a2 a5 a6 a7 a8 e2 ?_
  intro h6 tk6 w2 F6 N6 st6
  clear F9 N9 e2
  walk_at "STEPS"
  rename News _ _ _ _ => N9
  rename Fr _ _ _ _ => F9
  exact ret _ _ _ w1 w2 F9 (fun y n1 n2 => by simp [n1, n2]) rfl rfl (fun q hq => N9 q (List.mem_of_mem_drop (i := 1) hq))
end

-- M3
open PySem PySem.W PyProof.Rows PySem.Calls
set_option Elab.async false
set_option linter.unusedVariables false
set_option maxRecDepth 100000


section
variable {p : Program} {loose : List Str} {mean : ExcName → Option Value} {mg mb : Str → Option Value} {w : World} {A A' A₀ : Around} {s : Shared} {Q : Flow → Shared → Prop} {R : Value → Shared → Prop}
theorem side_at {base g : Heap} {outer : List Env} {env : Env} {L a b : Addr} {m : Str → Option Value} {nb : List (Addr × Obj)} {R : Value → Shared → Prop} {E : Value → Shared → Prop} (B : Below A₀ base outer g) (SA : A'.frames = some (env :: outer)) (hfr : env.frame = some L) (hkf : env.scope.kind = .function) (F : Fr g L s.heap m) (N : News g L s.heap nb) (hn : ∀ p ∈ nb, p.1 ∉ ST)
    (T : Tabs s.heap) (C : Codes g) (n44 : g.get? 44 = none ∧ 44 ≠ L) (n51 : g.get? 51 = none ∧ 51 ≠ L) (X : (hd.heap_39 w.params).In g) (Tp : Top p loose mean mg mb g) (hh : A'.handled = none) (hroom : A'.depth + 150 < recursionLimit)
    {x1 y1 x2 y2 : Int} {t1 u1 t2 u2 : Tok} (i1 : IsTup s.heap a [.int x1 t1, .int y1 u1].toArray) (i2 : IsTup s.heap b [.int x2 t2, .int y2 u2].toArray) (dx : -15 ≤ x2 - x1 ∧ x2 - x1 ≤ 15) (dy : -15 ≤ y2 - y1 ∧ y2 - y1 ≤ 15)
    {z : Int} (ez : sideI x1 y1 x2 y2 = z)
    (ret : ∀ h' tk' t, Fr g L h' m → News g L h' nb → Tabs h' → R (.int z t) { s with heap := h', toks := tk' }) :
    wpAny (model PySem.Challenge.rw_zt0001_01.row.prog w) A' (call (.ref 91) [.ref a, .ref b]) R E s := by
  subst ez
  have hS := hS2 n44 n51
  refine side_ok (p := p) (loose := loose) (mean := mean) (mg := mg) (mb := mb) (rdy_hid (S := ST) B F X Tp hS SA hfr hkf) hroom hh (C.keeps (stays_hid F hS)) T i1 i2 dx dy ?_
  intro h' tk' t st T'
  exact ret h' tk' t (fr_back F st hS) (news_back N st hn) T'
set_option maxHeartbeats 8000000 in
theorem law6_0 {o : Obj} (ho : (hd.heap_39 w.params).lookup 108 = some o) {qual : Str} {body : List Stmt} {scope : Scope} {cdv cd : Value} {fa : Addr} (hf : funOf o = some (qual, body, scope, cdv)) {tst : PySem.Expr} {b6 ore : List Stmt} {ps6 : Pos} (hst : body[6]? = some (.If tst b6 ore ps6)) {st : Stmt} (hst6 : b6[0]? = some st)
    {base g : Heap} {outer : List Env} {L : Addr} (l51 : @LT.lt Nat _ 51 L) (B : Below A₀ base outer g) (SA : (A.deeper (envOfC qual scope L fa cd)).frames = some (envOfC qual scope L fa cd :: outer))
    {m : Str → Option Value} (F : Fr g L s.heap m)
    (X : (hd.heap_39 w.params).In g) (Tp : Top p loose mean mg mb g) (hh : A.handled = none) (hroom : A.depth + 200 < recursionLimit) (hu : A.units + 100 < cLine)
    (T : Tabs s.heap) (C : Codes g) (g44 : g.get? 44 = none) (g51 : g.get? 51 = none)
    {DC p0 p1 p2 p3 : Addr} (hm : m (Str.ofString "corners") = some (.ref DC)) {a b c d e f g' i : Int} {u0 u1 u2 u3 v0 v1 v2 v3 : Tok} {nb : List (Addr × Obj)}
    (N : News g L s.heap ((DC, listOf [.ref p0, .ref p1, .ref p2, .ref p3].toArray 4) :: (p0, tup2 a u0 b v0) :: (p1, tup2 c u1 d v1) :: (p2, tup2 e u2 f v2) :: (p3, tup2 g' u3 i v3) :: nb)) (hn : ∀ p ∈ ((DC, listOf [.ref p0, .ref p1, .ref p2, .ref p3].toArray 4) :: (p0, tup2 a u0 b v0) :: (p1, tup2 c u1 d v1) :: (p2, tup2 e u2 f v2) :: (p3, tup2 g' u3 i v3) :: nb), p.1 ∉ ST)
    (a1 : 0 ≤ a ∧ a ≤ 7) (a2 : 0 ≤ b ∧ b ≤ 7) (a5 : 0 ≤ e ∧ e ≤ 7) (a6 : 0 ≤ f ∧ f ≤ 7) {z : Int} (ez : sideI a b e f = z)
    (ret : ∀ h' tk' t, Fr g L h' (fun y => if y = Str.ofString "shared" then some (.int z t) else m y) → Tabs h' → News g L h' ((DC, listOf [.ref p0, .ref p1, .ref p2, .ref p3].toArray 4) :: (p0, tup2 a u0 b v0) :: (p1, tup2 c u1 d v1) :: (p2, tup2 e u2 f v2) :: (p3, tup2 g' u3 i v3) :: nb) → Q .next { s with heap := h', toks := tk' }) :
    wpAny (model PySem.Challenge.rw_zt0001_01.row.prog w) (A.deeper (envOfC qual scope L fa cd)) (exec st (envOfC qual scope L fa cd)) Q NoErr s := by
  revert ho; k_fill; intro ho
  obtain rfl := Option.some.inj (ho.symm.trans (by k_is : _ = some _))
  cases (hf.symm.trans (rfl : _ = some (_, _, _, _)))
  cases hst
  cases hst6
  clear ho hf
  have tn := tab_none F T
  have n44 : g.get? 44 = none ∧ 44 ≠ L := ⟨g44, tn.1⟩
  have n51 : g.get? 51 = none ∧ 51 ≠ L := ⟨g51, tn.2⟩
  walk_at "STEPS"
  rename News _ _ _ _ => N0
  rename Fr _ _ _ _ => F0
  refine side_at (p := p) (loose := loose) (mean := mean) (mg := mg) (mb := mb) B SA rfl rfl F0 N0 hn T C n44 n51 X Tp hh (by ktr_room) (News.isTup N0 (.tail _ (.head _))) (News.isTup N0 (.tail _ (.tail _ (.tail _ (.head _))))) (by omega) (by omega) ez ?_
  intro h5 tk5 t F9 N9 T5
  clear N0 F0 T ez
  obtain ⟨q1', y1', o1', q2', y2', o2', NT, K⟩ := tabs_lay F9 T5 n44 n51
  have N7 := news_app NT N9
  clear N9 NT T5
  simp only [List.cons_append, List.nil_append] at N7
  walk_at "STEPS"
  rename News _ _ _ _ => N8
  rename Fr _ _ _ _ => F8
  exact ret _ _ t F8 (K _ F8.keep (N8 _ (.head _)).1 (N8 _ (.tail _ (.head _))).1 (N8 _ (.tail _ (.tail _ (.head _)))).1 (N8 _ (.tail _ (.tail _ (.tail _ (.head _))))).1) (fun q hq => N8 q (List.mem_of_mem_drop (i := 4) hq))
end

-- M4
open PySem PySem.W PyProof.Rows PySem.Calls
set_option Elab.async false
set_option linter.unusedVariables false
set_option maxRecDepth 100000


section
variable {p : Program} {loose : List Str} {mean : ExcName → Option Value} {mg mb : Str → Option Value} {w : World} {A A' A₀ : Around} {s : Shared} {Q : Flow → Shared → Prop} {R : Value → Shared → Prop}
abbrev tup5 (x : Int) (t : Tok) (y : Int) (u : Tok) (z : Int) (v : Tok) (a : Int) (v' : Tok) (d : Addr) : Obj := { cls := .type "tuple", data := .seq [.int x t, .int y u, .int z v, .int a v', .ref d].toArray }
theorem stats_at {base g : Heap} {outer : List Env} {env : Env} {L a b d1 d2 : Addr} {m : Str → Option Value} {nb : List (Addr × Obj)} {R : Value → Shared → Prop} {E : Value → Shared → Prop} (B : Below A₀ base outer g) (SA : A'.frames = some (env :: outer)) (hfr : env.frame = some L) (hkf : env.scope.kind = .function) (F : Fr g L s.heap m)
    {x1 x2 x3 x4 y1 y2 y3 y4 : Int} {t1 t2 t3 t4 u1 u2 u3 u4 : Tok} {o1 o2 : Obj} {e1 e2 : Addr × Obj}
    (N : News g L s.heap ((b, tup5 y1 u1 y2 u2 y3 u3 y4 u4 d2) :: e2 :: (d2, o2) :: (a, tup5 x1 t1 x2 t2 x3 t3 x4 t4 d1) :: e1 :: (d1, o1) :: nb))
    (X : (hd.heap_39 w.params).In g) (Tp : Top p loose mean mg mb g) (hh : A'.handled = none) (hroom : A'.depth + 20 < recursionLimit) (hne : @Ne Nat d1 d2)
    (s1 : (d1 == sysModules) = false) (s2 : (d2 == sysModules) = false)
    (j1 : Obj.IsDictOf (strKind PySem.Challenge.rw_zt0001_01.row.prog w) o1 []) (j2 : Obj.IsDictOf (strKind PySem.Challenge.rw_zt0001_01.row.prog w) o2 [])
    (ret : ∀ h' tk' W v1 v2 v3 v4 d, Fr g L h' m → News g L h' ((W, tup5 (y1 + x1) v1 (y2 + x2) v2 (y3 + x3) v3 (y4 + x4) v4 d) :: nb) → R (.ref W) { s with heap := h', toks := tk' }) :
    wpAny (model PySem.Challenge.rw_zt0001_01.row.prog w) A' (call (.ref 21) [.ref a, .ref b]) R E s := by
  have m1 := N _ (.tail _ (.tail _ (.tail _ (.tail _ (.tail _ (.head _))))))
  have m2 := N _ (.tail _ (.tail _ (.head _)))
  refine stats_ok (p := p) (loose := loose) (mean := mean) (mg := mg) (mb := mb) (rdy_hid (S := [d1, d2]) B F X Tp (fun c hc => ?_) SA hfr hkf) hroom hh hne s1 s2 m1.1 m2.1 j1 j2 (News.isTup N (.tail _ (.tail _ (.tail _ (.head _))))) (News.isTup N (.head _)) ?_
  · cases hc with
    | head => exact ⟨m1.2.2, m1.2.1⟩
    | tail _ q => cases q with
      | head => exact ⟨m2.2.2, m2.2.1⟩
      | tail _ q => cases q
  rintro h' tk' r st hr ⟨v1, v2, v3, v4, d, e⟩
  have Nk := News.grown N st
  refine ret h' tk' r v1 v2 v3 v4 d (F.keeps st) fun q hq => ?_
  rcases List.mem_cons.mp hq with rfl | hq
  · exact fresh_entry F hr e
  · exact Nk q (.tail _ (.tail _ (.tail _ (.tail _ (.tail _ (.tail _ hq))))))
set_option maxHeartbeats 8000000 in
theorem law6_1 {o : Obj} (ho : (hd.heap_39 w.params).lookup 108 = some o) {qual : Str} {body : List Stmt} {scope : Scope} {cdv cd : Value} {fa : Addr} (hf : funOf o = some (qual, body, scope, cdv)) {tst : PySem.Expr} {b6 ore : List Stmt} {ps6 : Pos} (hst : body[6]? = some (.If tst b6 ore ps6)) {st : Stmt} (hst6 : b6[1]? = some st)
    {base g : Heap} {outer : List Env} {L : Addr} (l51 : @LT.lt Nat _ 51 L) (B : Below A₀ base outer g) (SA : (A.deeper (envOfC qual scope L fa cd)).frames = some (envOfC qual scope L fa cd :: outer))
    {m : Str → Option Value} (F : Fr g L s.heap m)
    (X : (hd.heap_39 w.params).In g) (Tp : Top p loose mean mg mb g) (hh : A.handled = none) (hroom : A.depth + 200 < recursionLimit) (hu : A.units + 100 < cLine)
    {r1 r2 : Addr} (h1 : m (Str.ofString "one") = some (.ref r1)) (h2 : m (Str.ofString "other") = some (.ref r2)) {z1 z2 z3 y1 y2 y3 : Int} {w1 w2 w3 w4 w5 w6 : Tok} {nb : List (Addr × Obj)}
    (N : News g L s.heap ((r2, tup3 y1 w4 y2 w5 y3 w6) :: (r1, tup3 z1 w1 z2 w2 z3 w3) :: nb))
    (ret : ∀ h' tk' W v1 v2 v3 v4 d, Fr g L h' (fun y => if y = Str.ofString "whole" then some (.ref W) else m y) → News g L h' ((W, tup5 (y1 + z1) v1 (y2 + z2) v2 (y3 + z3) v3 0 v4 d) :: nb) → Q .next { s with heap := h', toks := tk' }) :
    wpAny (model PySem.Challenge.rw_zt0001_01.row.prog w) (A.deeper (envOfC qual scope L fa cd)) (exec st (envOfC qual scope L fa cd)) Q NoErr s := by
  revert ho; k_fill; intro ho
  obtain rfl := Option.some.inj (ho.symm.trans (by k_is : _ = some _))
  cases (hf.symm.trans (rfl : _ = some (_, _, _, _)))
  cases hst
  cases hst6
  clear ho hf

  walk_at "STEPS"
  rename News _ _ _ _ => N0
  rename Fr _ _ _ _ => F0
  refine stats_at (p := p) (loose := loose) (mean := mean) (mg := mg) (mb := mb) B SA rfl rfl F0 N0 X Tp hh (by ktr_room) (Nat.ne_of_lt (by omega)) (by assumption) (by assumption) (by assumption) (by assumption) ?_
  intro h5 tk5 W v1 v2 v3 v4 d F9 N9
  clear N0 F0
  walk_at "STEPS"
  rename News _ _ _ _ => N8
  rename Fr _ _ _ _ => F8
  exact ret _ _ W v1 v2 v3 v4 d F8 (fun q hq => (List.mem_cons.mp hq).elim (fun e => N8 q (e ▸ .head _)) fun hq => N8 q (.tail _ (.tail _ (.tail _ hq))))
end

-- M5
open PySem PySem.W PyProof.Rows PySem.Calls
set_option Elab.async false
set_option linter.unusedVariables false
set_option maxRecDepth 100000


section
variable {p : Program} {loose : List Str} {mean : ExcName → Option Value} {mg mb : Str → Option Value} {w : World} {A A' A₀ : Around} {s : Shared} {Q : Flow → Shared → Prop} {R : Value → Shared → Prop}
set_option maxHeartbeats 8000000 in
theorem law6_2 {o : Obj} (ho : (hd.heap_39 w.params).lookup 108 = some o) {qual : Str} {body : List Stmt} {scope : Scope} {cdv cd : Value} {fa : Addr} (hf : funOf o = some (qual, body, scope, cdv)) {tst : PySem.Expr} {b6 ore : List Stmt} {ps6 : Pos} (hst : body[6]? = some (.If tst b6 ore ps6)) {st : Stmt} (hst6 : b6[2]? = some st)
    {base g : Heap} {outer : List Env} {L : Addr} (l51 : @LT.lt Nat _ 51 L) (B : Below A₀ base outer g) (SA : (A.deeper (envOfC qual scope L fa cd)).frames = some (envOfC qual scope L fa cd :: outer))
    {m : Str → Option Value} (F : Fr g L s.heap m)
    (X : (hd.heap_39 w.params).In g) (Tp : Top p loose mean mg mb g) (hh : A.handled = none) (hroom : A.depth + 200 < recursionLimit) (hu : A.units + 100 < cLine)
    {W d : Addr} {q0 q1 q2 z : Int} {v1 v2 v3 v4 v5 : Tok} {nb : List (Addr × Obj)} (h1 : m (Str.ofString "whole") = some (.ref W)) (h2 : m (Str.ofString "shared") = some (.int z v5))
    (N : News g L s.heap ((W, tup5 q0 v1 q1 v2 q2 v3 0 v4 d) :: nb)) (b1 : -5000 ≤ q1 ∧ q1 ≤ 5000) (b2 : -5000 ≤ q2 ∧ q2 ≤ 5000) (b3 : -5000 ≤ z ∧ z ≤ 5000)
    (ret : ∀ h' tk' m' w1 w2, Fr g L h' m' → (∀ y, y ≠ Str.ofString "within" → y ≠ Str.ofString "edge" → m' y = m y) → m' (Str.ofString "within") = some (.int (q1 + z - 1) w1) → m' (Str.ofString "edge") = some (.int (q2 - 2 * z) w2) → News g L h' ((W, tup5 q0 v1 q1 v2 q2 v3 0 v4 d) :: nb) → Q .next { s with heap := h', toks := tk' }) :
    wpAny (model PySem.Challenge.rw_zt0001_01.row.prog w) (A.deeper (envOfC qual scope L fa cd)) (exec st (envOfC qual scope L fa cd)) Q NoErr s := by
  revert ho; k_fill; intro ho
  obtain rfl := Option.some.inj (ho.symm.trans (by k_is : _ = some _))
  cases (hf.symm.trans (rfl : _ = some (_, _, _, _)))
  cases hst
  cases hst6
  clear ho hf

  walk_at "STEPS"
  rename News _ _ _ _ => N0
  rename Fr _ _ _ _ => F0
  exact ret _ _ _ _ _ F0 (fun y n1 n2 => by simp [n1, n2]) rfl rfl (fun q hq => N0 q (List.mem_of_mem_drop (i := 1) hq))
end

-- M6
open PySem PySem.W PyProof.Rows PySem.Calls
set_option Elab.async false
set_option linter.unusedVariables false
set_option maxRecDepth 100000


section
variable {p : Program} {loose : List Str} {mean : ExcName → Option Value} {mg mb : Str → Option Value} {w : World} {A A' A₀ : Around} {s : Shared} {Q : Flow → Shared → Prop} {R : Value → Shared → Prop}
set_option maxHeartbeats 8000000 in
theorem law6_3 {o : Obj} (ho : (hd.heap_39 w.params).lookup 108 = some o) {qual : Str} {body : List Stmt} {scope : Scope} {cdv cd : Value} {fa : Addr} (hf : funOf o = some (qual, body, scope, cdv)) {tst : PySem.Expr} {b6 ore : List Stmt} {ps6 : Pos} (hst : body[6]? = some (.If tst b6 ore ps6)) {st : Stmt} (hst6 : b6[3]? = some st)
    {base g : Heap} {outer : List Env} {L : Addr} (l51 : @LT.lt Nat _ 51 L) (B : Below A₀ base outer g) (SA : (A.deeper (envOfC qual scope L fa cd)).frames = some (envOfC qual scope L fa cd :: outer))
    {m : Str → Option Value} (F : Fr g L s.heap m)
    (X : (hd.heap_39 w.params).In g) (Tp : Top p loose mean mg mb g) (hh : A.handled = none) (hroom : A.depth + 200 < recursionLimit) (hu : A.units + 100 < cLine)
    {W d : Addr} {q0 q1 q2 z x y l r : Int} {v1 v2 v3 v4 v5 v6 v7 v8 : Tok} {nb : List (Addr × Obj)} (h1 : m (Str.ofString "whole") = some (.ref W)) (h2 : m (Str.ofString "within") = some (.int x v5)) (h3 : m (Str.ofString "edge") = some (.int y v6)) (h4 : m (Str.ofString "left") = some (.int l v7)) (h5 : m (Str.ofString "right") = some (.int r v8))
    (N : News g L s.heap ((W, tup5 q0 v1 q1 v2 q2 v3 0 v4 d) :: nb)) (b1 : -5000 ≤ x ∧ x ≤ 5000) (b2 : -5000 ≤ y ∧ y ≤ 5000) (b3 : -5000 ≤ l ∧ l ≤ 5000) (b4 : -5000 ≤ r ∧ r ≤ 5000) (e1 : q0 = absI l + absI r) (e2 : q0 = 2 * x + y - 2)
    (ret : ∀ h' tk', Fr g L h' m → News g L h' nb → Q .next { s with heap := h', toks := tk' }) :
    wpAny (model PySem.Challenge.rw_zt0001_01.row.prog w) (A.deeper (envOfC qual scope L fa cd)) (exec st (envOfC qual scope L fa cd)) Q NoErr s := by
  revert ho; k_fill; intro ho
  obtain rfl := Option.some.inj (ho.symm.trans (by k_is : _ = some _))
  cases (hf.symm.trans (rfl : _ = some (_, _, _, _)))
  cases hst
  cases hst6
  clear ho hf

  unfold absI at e1
  walk_at "STEPS"
  exact ret s.heap _ F (fun q hq => N q (.tail _ hq))
end

-- M7
open PySem PySem.W PyProof.Rows PySem.Calls
set_option Elab.async false
set_option linter.unusedVariables false
set_option maxRecDepth 100000


section
variable {p : Program} {loose : List Str} {mean : ExcName → Option Value} {mg mb : Str → Option Value} {w : World} {A A' A₀ : Around} {s : Shared} {Q : Flow → Shared → Prop} {R : Value → Shared → Prop}
set_option maxHeartbeats 8000000 in
theorem law6_4 {o : Obj} (ho : (hd.heap_39 w.params).lookup 108 = some o) {qual : Str} {body : List Stmt} {scope : Scope} {cdv cd : Value} {fa : Addr} (hf : funOf o = some (qual, body, scope, cdv)) {tst : PySem.Expr} {b6 ore : List Stmt} {ps6 : Pos} (hst : body[6]? = some (.If tst b6 ore ps6)) {st : Stmt} (hst6 : b6[4]? = some st)
    {base g : Heap} {outer : List Env} {L : Addr} (l51 : @LT.lt Nat _ 51 L) (B : Below A₀ base outer g) (SA : (A.deeper (envOfC qual scope L fa cd)).frames = some (envOfC qual scope L fa cd :: outer))
    {m : Str → Option Value} (F : Fr g L s.heap m)
    (X : (hd.heap_39 w.params).In g) (Tp : Top p loose mean mg mb g) (hh : A.handled = none) (hroom : A.depth + 200 < recursionLimit) (hu : A.units + 100 < cLine)
    {DC p0 p1 p2 p3 : Addr} (hm : m (Str.ofString "corners") = some (.ref DC)) {a b c d e f g' i : Int} {u0 u1 u2 u3 v0 v1 v2 v3 : Tok} {nb : List (Addr × Obj)} {o4 : Obj}
    (N : News g L s.heap ((L + 1 + 1 + 1 + 1, o4) :: (DC, listOf [.ref p0, .ref p1, .ref p2, .ref p3].toArray 4) :: (p0, tup2 a u0 b v0) :: (p1, tup2 c u1 d v1) :: (p2, tup2 e u2 f v2) :: (p3, tup2 g' u3 i v3) :: nb)) (k4 : o4.data = .cell none) (i0 : @LT.lt Nat _ (L + 1 + 1 + 1 + 1) DC) (i1 : @LT.lt Nat _ (L + 1 + 1 + 1 + 1) p0) (i2 : @LT.lt Nat _ (L + 1 + 1 + 1 + 1) p1) (i3 : @LT.lt Nat _ (L + 1 + 1 + 1 + 1) p2) (i4 : @LT.lt Nat _ (L + 1 + 1 + 1 + 1) p3) (i5 : ∀ q ∈ nb, q.1 ≠ L + 1 + 1 + 1 + 1)
    (ret : ∀ h' tk' DE cE o4', Fr g L h' m → News g L h' ((DE, listOf [.ref p0, .ref p2].toArray cE) :: (L + 1 + 1 + 1 + 1, o4') :: (DC, listOf [.ref p0, .ref p1, .ref p2, .ref p3].toArray 4) :: (p0, tup2 a u0 b v0) :: (p1, tup2 c u1 d v1) :: (p2, tup2 e u2 f v2) :: (p3, tup2 g' u3 i v3) :: nb) → o4'.data = .cell (some (.ref DE)) → Q .next { s with heap := h', toks := tk' }) :
    wpAny (model PySem.Challenge.rw_zt0001_01.row.prog w) (A.deeper (envOfC qual scope L fa cd)) (exec st (envOfC qual scope L fa cd)) Q NoErr s := by
  revert ho; k_fill; intro ho
  obtain rfl := Option.some.inj (ho.symm.trans (by k_is : _ = some _))
  cases (hf.symm.trans (rfl : _ = some (_, _, _, _)))
  cases hst
  cases hst6
  clear ho hf

  walk_at "STEPS"
  rename _ ∧ _ => hl
  have hl := hl.1
  rename News _ _ _ _ => N0
  rename Fr _ _ _ _ => F0

  k_dflt (refine storeX_C F0 N0 rfl (.tail (Nat.ne_of_gt (by assumption)) (.head fun q hq => ?_)) k4 ?_ rfl rfl)
  · simp only [List.mem_cons] at hq
    rcases hq with rfl | rfl | rfl | rfl | rfl | hq
    · exact Nat.ne_of_gt i0
    · exact Nat.ne_of_gt i1
    · exact Nat.ne_of_gt i2
    · exact Nat.ne_of_gt i3
    · exact Nat.ne_of_gt i4
    · exact i5 q hq
  intro h' o' F' N' d'
  exact ret _ _ _ _ o' F' N' d'
end

-- M8
open PySem PySem.W PyProof.Rows PySem.Calls
set_option Elab.async false
set_option linter.unusedVariables false
set_option maxRecDepth 100000


section
variable {p : Program} {loose : List Str} {mean : ExcName → Option Value} {mg mb : Str → Option Value} {w : World} {A A' A₀ : Around} {s : Shared} {Q : Flow → Shared → Prop} {R : Value → Shared → Prop}

section
variable {prog : Program} {E : Value → Shared → Prop} {cs : Scope} {cl : List (Str × Addr)} {C : Addr} {env : Env} {g : Heap} {L : Addr} {m : Str → Option Value} {K : Frag} {x : Str} {v : Value} {pos : Pos} {M : Model}
theorem cn_glob {R : Value → Shared → Prop} (st : g.StaysIn s.heap) (X : K.In g) (T : Top p loose mean mg mb g) (e : nsIn K mainGlobals x = some (some v)) (h : R v s)
    (hg : env.globals = mainGlobals) (hk : cs.kind = .function) (hx : (compEnvC cs cl C env).kindOf x = some .globalImplicit) (hd : (x == ("__debug__" : Str)) = false) :
    wpAny M A (eval (.Name x pos) (compEnvC cs cl C env)) R E s := by
  refine Name_function_global (by simpa [compEnvC, relabel] using hk) hx (loadGlobal_global (env := compEnvC cs cl C env) ?_ (mg_of X (topRead_of T).g e) h) hd
  show s.heap.Ns env.globals mg
  rw [hg]
  exact (topRead_of T).g.keeps st
theorem cn_bltn {R : Value → Shared → Prop} (st : g.StaysIn s.heap) (X : K.In g) (T : Top p loose mean mg mb g) (e : nsIn K mainGlobals x = some none) (hv : bootBuiltins x = some v) (hn : x ≠ "__name__") (h : R v s)
    (hg : env.globals = mainGlobals) (hb : env.builtins = builtinsNs) (hk : cs.kind = .function) (hx : (compEnvC cs cl C env).kindOf x = some .globalImplicit) (hd : (x == ("__debug__" : Str)) = false) :
    wpAny M A (eval (.Name x pos) (compEnvC cs cl C env)) R E s := by
  refine Name_function_global (by simpa [compEnvC, relabel] using hk) hx (loadGlobal_builtin (env := compEnvC cs cl C env) (mg := mg) (mb := mb) ?_ (mg_none_of X (topRead_of T).g e) ?_ (((topRead_of T).builtins x hn).trans hv) h) hd
  · show s.heap.Ns env.globals mg
    rw [hg]
    exact (topRead_of T).g.keeps st
  · show s.heap.Ns env.builtins mb
    rw [hb]
    exact (topRead_of T).b.keeps st
theorem elt_xy {w : World} {A : Around} {s : Shared} {mc : Str → Option Value} {x y : Str} {p1 p2 p3 : Pos} {k : Nat} {i j : Int} {t u : Tok} (hk : cs.kind = .function) (hx : cs.names.lookup x = some .local) (hy : cs.names.lookup y = some .local) (dx : (x == ("__debug__" : Str)) = false) (dy : (y == ("__debug__" : Str)) = false) (hxy : x ≠ y) (hmx : mc x = some (.int i t))
    (hn : s.heap.Ns C (fun z => if z = y then some (.int j u) else mc z)) : EltPair prog w A (.Tuple [.Name x p1, .Name y p2] k p3) (compEnvC cs cl C env) (i, j) s := by
  refine Tuple_ (args_cons (cn_local (C := C) hk hx dx hn ((if_neg hxy).trans hmx) (args_cons (cn_local (C := C) hk hy dy hn (if_pos rfl) (args_nil ?_)))))
  exact wpAny_newObj_type ⟨_, _, _, rfl, rfl⟩
end

/-- the 64 spots -/
def spotsL : List (Int × Int) := (List.range 8).flatMap fun (i : Nat) => (List.range 8).map fun (j : Nat) => (Int.ofNat i, Int.ofNat j)
set_option maxHeartbeats 8000000 in
theorem law6_5 {o : Obj} (ho : (hd.heap_39 w.params).lookup 108 = some o) {qual : Str} {body : List Stmt} {scope : Scope} {cdv cd : Value} {fa : Addr} (hf : funOf o = some (qual, body, scope, cdv)) {tst : PySem.Expr} {b6 ore : List Stmt} {ps6 : Pos} (hst : body[6]? = some (.If tst b6 ore ps6)) {st : Stmt} (hst6 : b6[5]? = some st)
    {base g : Heap} {outer : List Env} {L : Addr} (l51 : @LT.lt Nat _ 51 L) (B : Below A₀ base outer g) (SA : (A.deeper (envOfC qual scope L fa cd)).frames = some (envOfC qual scope L fa cd :: outer))
    {m : Str → Option Value} (F : Fr g L s.heap m)
    (X : (hd.heap_39 w.params).In g) (Tp : Top p loose mean mg mb g) (hh : A.handled = none) (hroom : A.depth + 200 < recursionLimit) (hu : A.units + 100 < cLine)
    {nb : List (Addr × Obj)} (N : News g L s.heap nb)
    (ret : ∀ h' tk' DP ys k, Fr g L h' (fun y => if y = Str.ofString "spots" then some (.ref DP) else m y) → News g L h' ((DP, lst ys) :: nb) → (∀ q ∈ nb, @LT.lt Nat _ q.1 k) → TupsAt h' k ys spotsL → Q .next { s with heap := h', toks := tk' }) :
    wpAny (model PySem.Challenge.rw_zt0001_01.row.prog w) (A.deeper (envOfC qual scope L fa cd)) (exec st (envOfC qual scope L fa cd)) Q NoErr s := by
  revert ho; k_fill; intro ho
  obtain rfl := Option.some.inj (ho.symm.trans (by k_is : _ = some _))
  cases (hf.symm.trans (rfl : _ = some (_, _, _, _)))
  cases hst
  cases hst6
  clear ho hf

  k_dflt (refine comp_assign (by rfl) (by exact rfl) rfl (by decide) (fun _ => rfl) ?_)
  walk_at "STEPS"
  rename News _ _ _ _ => N9
  rename Fr _ _ _ _ => F9
  rename IsRange _ _ _ _ _ _ _ _ => R9
  refine comp_two (n1 := 8) (n2 := 8) (b₂ := 8) (fun (i j : Nat) => (Int.ofNat i, Int.ofNat j)) F9 N9 R9 (by decide) (by decide) (by decide) (by decide) hh (by decide) (by decide) rfl rfl rfl (by decide) (fun _ => rfl) ?_
    (fun i j hi hj h mc tk t u st hm hn => elt_xy rfl rfl rfl (by decide) (by decide) (by decide) hm hn) rfl (by decide) ?_
  · intro h tk st Q' ret'
    walk_at "STEPS"
    k_dflt (refine' cn_bltn (p := p) (loose := loose) (mean := mean) (mg := mg) (mb := mb) (fun b o e => st b o (F9.keep b o e)) X Tp ?zE ?zV ?zN ?_ rfl rfl rfl rfl (by decide); (case zE => k_is); (case zV => boot_fast); (case zN => decide); k_whole)
    walk_at "STEPS"
    refine call_range_1 ?_
    exact ret' _ _ _ _ _ _ (fun b o e => Heap.get?_push_of_some _ e) (IsRange.new ..)
  · refine CompDone.local F9 N9 rfl rfl rfl (fun ys h h' hK k => hK.but F9.ns.lt k) fun DP ys h tk F8 N8 hlt hT => ?_
    exact ret _ _ DP ys _ F8 (fun q hq => (List.mem_cons.mp hq).elim (fun e => N8 q (e ▸ .head _)) fun hq => N8 q (List.mem_cons_of_mem _ (List.mem_of_mem_drop (i := 0) hq))) (fun q hq => Nat.lt_of_lt_of_le (Heap.lt_size (N9 q (List.mem_of_mem_drop (i := 0) hq)).1) (Nat.le_add_right _ _)) hT
end

-- M9
open PySem PySem.W PyProof.Rows PySem.Calls
set_option Elab.async false
set_option linter.unusedVariables false
set_option maxRecDepth 100000



section
variable {p : Program} {loose : List Str} {mean : ExcName → Option Value} {mg mb : Str → Option Value} {w : World} {A A' A₀ : Around} {s : Shared} {Q : Flow → Shared → Prop} {R : Value → Shared → Prop}

/-- what stands for the test of on_side -/
def onB (a b e f x y : Int) : Bool :=
  decide (crossI a b e f x y = 0) && ((if lexB e f a b then lexB e f x y else lexB a b x y) && (if lexG e f a b then lexB x y e f else lexB x y a b))
def prOf (ps : List (Int × Int)) (f : Int × Int → Bool) (i : Nat) : Bool := match ps[i]? with | some q => f q | none => false
theorem pickL_cons (v : Value) (vs : List Value) (pr : Nat → Bool) (n : Nat) : pickL (v :: vs) pr (n + 1) = (if pr 0 then [v] else []) ++ pickL vs (fun i => pr (i + 1)) n := by
  unfold pickL
  rw [List.range_succ_eq_map, List.filter_cons, List.filter_map]
  cases h : pr 0 <;> simp [Function.comp_def]
theorem TupsAt.pick {h : Heap} {lo : Addr} (f : Int × Int → Bool) : ∀ {vs ps}, TupsAt h lo vs ps → TupsAt h lo (pickL vs (prOf ps f) vs.length) (ps.filter f)
  | _, _, .nil => .nil
  | _, _, .cons (p := p) (vs := vs) (ps := ps) a b r => by
    rw [List.length_cons, pickL_cons, List.filter_cons]
    have ih := r.pick f
    have e1 : (fun i => prOf (p :: ps) f (i + 1)) = prOf ps f := rfl
    have e0 : prOf (p :: ps) f 0 = f p := rfl
    rw [e1, e0]
    cases f p with
    | true => exact .cons a b ih
    | false => exact ih
theorem TupsAt.nth {h : Heap} {lo : Addr} : ∀ {vs ps}, TupsAt h lo vs ps → ∀ (i : Nat) v, vs[i]? = some v → ∃ c q t u, v = .ref c ∧ ps[i]? = some q ∧ @LT.lt Nat _ lo c ∧ h.get? c = some (tup2 q.1 t q.2 u)
  | _, _, .nil, i, v, hv => by simp at hv
  | _, _, .cons (a := c) (p := p) (t := t) (u := u) a b r, 0, v, hv => ⟨c, p, t, u, by simpa using hv.symm, rfl, a, b⟩
  | _, _, .cons a b r, i + 1, v, hv => by
    obtain ⟨c, q, t, u, e1, e2, e3⟩ := r.nth i v (by simpa using hv)
    exact ⟨c, q, t, u, e1, by simpa using e2, e3⟩
theorem it_of {h : Heap} {c : Addr} {x y : Int} {t u : Tok} (e : h.get? c = some (tup2 x t y u)) : IsTup h c [.int x t, .int y u].toArray := ⟨_, e, rfl, _, rfl⟩
theorem isTup_st {h h' : Heap} {c : Addr} {its : Array Value} (i : IsTup h c its) (st : h.StaysIn h') : IsTup h' c its := let ⟨o, ho, r⟩ := i; ⟨o, st _ _ ho, r⟩
theorem pick_end {h : Heap} {p0 p2 : Addr} {a b e f : Int} {t u t' u' : Tok} (i1 : IsTup h p0 [.int a t, .int b u].toArray) (i2 : IsTup h p2 [.int e t', .int f u'].toArray) (B : Bool) :
    ∃ M mx my tM uM, (if B = true then Value.ref p2 else Value.ref p0) = .ref M ∧ IsTup h M [.int mx tM, .int my uM].toArray ∧ (∀ x y, (if B = true then lexB e f x y else lexB a b x y) = lexB mx my x y) ∧ ∀ x y, (if B = true then lexB x y e f else lexB x y a b) = lexB x y mx my := by
  cases B with
  | true => exact ⟨p2, e, f, t', u', rfl, i2, fun _ _ => rfl, fun _ _ => rfl⟩
  | false => exact ⟨p0, a, b, t, u, rfl, i1, fun _ _ => rfl, fun _ _ => rfl⟩
theorem onB_val {a b e f x y mx my nx ny : Int} (h0 : crossI a b e f x y = 0) (oM : ∀ x y, (if lexB e f a b = true then lexB e f x y else lexB a b x y) = lexB mx my x y) (oN : ∀ x y, (if lexG e f a b = true then lexB x y e f else lexB x y a b) = lexB x y nx ny) :
    onB a b e f x y = (decide (mx < x ∨ mx = x ∧ my < y) && decide (x < nx ∨ x = nx ∧ y < ny)) := by
  unfold onB
  rw [decide_eq_true h0, oM, oN]; rfl
theorem onB_no1 {a b e f x y : Int} (h0 : ¬ crossI a b e f x y = 0) : onB a b e f x y = false := by
  unfold onB
  rw [decide_eq_false h0]; rfl
theorem onB_no2 {a b e f x y mx my : Int} (h0 : crossI a b e f x y = 0) (oM : ∀ x y, (if lexB e f a b = true then lexB e f x y else lexB a b x y) = lexB mx my x y) (h : ¬ (mx < x ∨ mx = x ∧ my < y)) : onB a b e f x y = false := by
  unfold onB
  rw [oM]
  unfold lexB
  rw [decide_eq_false h]; simp
theorem test_end {s : Shared} {h h' : Heap} {b ok : Bool} {tk' : Nat} (e : b = ok) (st : h.StaysIn h') : TestEnd s h b ok { s with heap := h', toks := tk' } := ⟨e.symm, h', tk', rfl, st⟩
theorem storeX_CS {M : Model} {A : Around} {E : Value → Shared → Prop} {s : Shared} {h₀ : Heap} {L a : Addr} {m : Str → Option Value} {cn : Str} {cs : Scope} {ccd : Value} {cl : List (Str × Addr)} {x : Str} {v : Value} {Q : Unit → Shared → Prop} {news : List (Addr × Obj)} {g : Obj → List (Addr × Obj)} {c : Addr} {o : Obj} {v₀ : Option Value}
    (F : Fr h₀ L s.heap m) (N : News h₀ L s.heap news) (hc : cl.lookup x = some c) (U : UpdF c o news g) (hd : o.data = .cell v₀)
    (h : ∀ h' o', Fr h₀ L h' m → News h₀ L h' (g o') → o'.data = .cell (some v) → Heap.SameBut c s.heap h' → Q () { s with heap := h' })
    (hk : cs.kind = .function) (hx : (envX cn cs L a ccd cl).kindOf x = some .cell) : wpAny M A (storeName (envX cn cs L a ccd cl) x v) Q E s := by
  obtain ⟨own, rest, rfl, hg, h1, h2⟩ := U.split
  have hmem := N (c, o) (List.mem_append_right _ (.head _))
  refine wpAny_storeName_cell hk hx hc ⟨o, hmem.1, hd⟩ fun h' hv hs => ?_
  obtain ⟨o', ho', hd'⟩ := hv
  refine h h' o' ⟨F.ns.sameBut hs (Ne.symm hmem.2.1), fun b ob e => (hs.2 b (fun q => ?_)).trans (F.keep b ob e), F.above⟩ (hg o' ▸ N.setAt h1 h2 hs ho') hd' hs
  rw [q, hmem.2.2] at e; cases e
theorem TupsAt.keepsB {h h' : Heap} {lo : Addr} (k : ∀ b o, h.get? b = some o → (match o.data with | .cell _ => False | _ => True) → h'.get? b = some o) : ∀ {vs ps}, TupsAt h lo vs ps → TupsAt h' lo vs ps
  | _, _, .nil => .nil
  | _, _, .cons a b r => .cons a (k _ _ b trivial) (r.keepsB k)
theorem spots_small : ∀ q ∈ spotsL, (0 ≤ q.1 ∧ q.1 ≤ 7) ∧ 0 ≤ q.2 ∧ q.2 ≤ 7 := by decide
set_option maxHeartbeats 8000000 in
theorem law6_6 {o : Obj} (ho : (hd.heap_39 w.params).lookup 108 = some o) {qual : Str} {body : List Stmt} {scope : Scope} {cdv cd : Value} {fa : Addr} (hf : funOf o = some (qual, body, scope, cdv)) {tst : PySem.Expr} {b6 ore : List Stmt} {ps6 : Pos} (hst : body[6]? = some (.If tst b6 ore ps6)) {st : Stmt} (hst6 : b6[6]? = some st)
    {base g : Heap} {outer : List Env} {L : Addr} (l51 : @LT.lt Nat _ 51 L) (B : Below A₀ base outer g) (SA : (A.deeper (envOfC qual scope L fa cd)).frames = some (envOfC qual scope L fa cd :: outer))
    {m : Str → Option Value} (F : Fr g L s.heap m)
    (X : (hd.heap_39 w.params).In g) (Tp : Top p loose mean mg mb g) (hh : A.handled = none) (hroom : A.depth + 200 < recursionLimit) (hu : A.units + 100 < cLine)
    {DP DE p0 p2 : Addr} {ys : List Value} {k cE : Nat} {o4 o5 : Obj} {a b e f : Int} {u0 u2 v0 v2 : Tok} {nb : List (Addr × Obj)} (hm : m (Str.ofString "spots") = some (.ref DP))
    (N : News g L s.heap ((DP, lst ys) :: (DE, listOf [.ref p0, .ref p2].toArray cE) :: (L + 1 + 1 + 1 + 1, o4) :: (p0, tup2 a u0 b v0) :: (p2, tup2 e u2 f v2) :: (L + 1 + 1 + 1 + 1 + 1, o5) :: nb)) (hT : TupsAt s.heap k ys spotsL) (k4 : o4.data = .cell (some (.ref DE))) (k5 : o5.data = .cell none)
    (a1 : 0 ≤ a ∧ a ≤ 7) (a2 : 0 ≤ b ∧ b ≤ 7) (a5 : 0 ≤ e ∧ e ≤ 7) (a6 : 0 ≤ f ∧ f ≤ 7)
    (j0 : ∀ q ∈ ((DP, lst ys) :: (DE, listOf [.ref p0, .ref p2].toArray cE) :: (L + 1 + 1 + 1 + 1, o4) :: (p0, tup2 a u0 b v0) :: (p2, tup2 e u2 f v2) :: nb), q.1 ≠ L + 1 + 1 + 1 + 1 + 1)
    (ret : ∀ h' tk' DO o5', Fr g L h' m → News g L h' ((DO, lst (pickL ys (prOf spotsL fun q => onB a b e f q.1 q.2) ys.length)) :: (DP, lst ys) :: (DE, listOf [.ref p0, .ref p2].toArray cE) :: (L + 1 + 1 + 1 + 1, o4) :: (p0, tup2 a u0 b v0) :: (p2, tup2 e u2 f v2) :: (L + 1 + 1 + 1 + 1 + 1, o5') :: nb) → o5'.data = .cell (some (.ref DO)) → TupsAt h' k ys spotsL → Q .next { s with heap := h', toks := tk' }) :
    wpAny (model PySem.Challenge.rw_zt0001_01.row.prog w) (A.deeper (envOfC qual scope L fa cd)) (exec st (envOfC qual scope L fa cd)) Q NoErr s := by
  revert ho; k_fill; intro ho
  obtain rfl := Option.some.inj (ho.symm.trans (by k_is : _ = some _))
  cases (hf.symm.trans (rfl : _ = some (_, _, _, _)))
  cases hst
  cases hst6
  clear ho hf

  walk_at "STEPS"
  have hlen : ys.length = 64 := (hT.length).trans rfl
  refine comp_filter (prOf spotsL fun q => onB a b e f q.1 q.2) F N (News.isList N (.head _)) hh (by rw [hlen]; decide) (by decide) rfl rfl (by decide) ?_ ?_
  · intro i v h mc tk hv st F9 N9 hn
    obtain ⟨c, q, t, u, rfl, hq, hk, hc⟩ := hT.nth i v hv
    have hpr : prOf spotsL (fun q => onB a b e f q.1 q.2) i = onB a b e f q.1 q.2 := by unfold prOf; rw [hq]
    rw [hpr]
    have hqs := spots_small q (List.mem_of_getElem? hq)
    walk_at "STEPS"
    k_dflt (refine cn_local rfl rfl (by decide) hn (if_pos rfl) ?_)
    walk_at "STEPS"
    refine cross_at (p := p) (loose := loose) (mean := mean) (mg := mg) (mb := mb) B SA rfl rfl F9 N9 X Tp hh (by ktr_room) (News.isTup N9 (.tail _ (.tail _ (.tail _ (.head _))))) (News.isTup N9 (.tail _ (.tail _ (.tail _ (.tail _ (.head _)))))) (isTup_st (it_of hc) st) a1 a2 a5 a6 hqs.1 hqs.2 rfl ?_
    intro h5 tk5 t5 F5 N5 st5
    walk_at "STEPS"
    · obtain ⟨M, mx, my, tM, uM, eM, iM, oM, _⟩ := pick_end (News.isTup N5 (.tail _ (.tail _ (.tail _ (.head _))))) (News.isTup N5 (.tail _ (.tail _ (.tail _ (.tail _ (.head _)))))) (lexB e f a b)
      refine min_two hh (by simp only [Around.deeper_units]; omega) (News.isList N5 (.tail _ (.head _))) (News.isTup N5 (.tail _ (.tail _ (.tail _ (.head _))))) (News.isTup N5 (.tail _ (.tail _ (.tail _ (.tail _ (.head _)))))) ?_
      intro h6 tk6 st6
      rw [eM]
      have F6 := F5.keeps st6
      have N6 := N5.grown st6
      have hn6 := hn.at' fun o e => st6 _ _ (st5 _ o e)
      clear F5 N5
      walk_at "STEPS"
      k_dflt (refine cn_local rfl rfl (by decide) hn6 (if_pos rfl) ?_)
      refine lt_pairs (isTup_st iM st6) (isTup_st (it_of hc) fun b o e => st6 _ _ (st5 _ _ (st _ _ e))) (by simp only [Around.deeper_units]; omega) ?_
      walk_at "STEPS"
      · obtain ⟨M', nx, ny, tN, uN, eN, iN, _, oN⟩ := pick_end (News.isTup N6 (.tail _ (.tail _ (.tail _ (.head _))))) (News.isTup N6 (.tail _ (.tail _ (.tail _ (.tail _ (.head _)))))) (lexG e f a b)
        refine max_two hh (by simp only [Around.deeper_units]; omega) (News.isList N6 (.tail _ (.head _))) (News.isTup N6 (.tail _ (.tail _ (.tail _ (.head _))))) (News.isTup N6 (.tail _ (.tail _ (.tail _ (.tail _ (.head _)))))) ?_
        intro h7 tk7 st7
        rw [eN]
        have F7 := F6.keeps st7
        have N7 := N6.grown st7
        have hn7 := hn6.at' fun o e => st7 _ _ e
        clear F6 N6
        refine lt_pairs (isTup_st (it_of hc) fun b o e => st7 _ _ (st6 _ _ (st5 _ _ (st _ _ e)))) (isTup_st iN st7) (by simp only [Around.deeper_units]; omega) ?_
        walk_at "STEPS"
        · refine test_end ?_ fun b o e => st7 _ _ (st6 _ _ (st5 _ _ e))
          rw [onB_val (by assumption) oM oN, decide_eq_true (by assumption), decide_eq_true (by assumption)]; rfl
        · refine test_end ?_ fun b o e => st7 _ _ (st6 _ _ (st5 _ _ e))
          rw [onB_val (by assumption) oM oN, decide_eq_true (by assumption), decide_eq_false (by assumption)]; rfl
      · refine test_end ?_ fun b o e => st6 _ _ (st5 _ _ e)
        exact onB_no2 (by assumption) oM (by assumption)
    · refine test_end ?_ fun b o e => st5 _ _ e
      exact onB_no1 (by assumption)
  · refine fun ys' h tk mc st F' N' hn hK => CompDone.none (K := fun ys' h => ys' = pickL ys (prOf spotsL fun q => onB a b e f q.1 q.2) ys.length ∧ s.heap.StaysIn h) F N (fun ys' h h' hK hs => ⟨hK.1, fun b o e => (hs.2 b (Nat.ne_of_lt (Nat.lt_succ_of_lt (Nat.lt_succ_of_lt (Heap.lt_size e))))).trans (hK.2 b o e)⟩) ?_ ys' h tk mc st F' N' hn ⟨hK, st⟩
    intro DO ys' h tk F' N' hlt hK
    obtain ⟨rfl, st'⟩ := hK
    walk_at "STEPS"
    have m5 : @LT.lt Nat _ (L + 1 + 1 + 1 + 1 + 1) DO := hlt (L + 1 + 1 + 1 + 1 + 1, o5) (.tail _ (.tail _ (.tail _ (.tail _ (.tail _ (.head _))))))
    k_dflt (refine storeX_CS F' N' rfl (.tail (Nat.ne_of_gt m5) (.tail (j0 _ (.head _)) (.tail (j0 _ (.tail _ (.head _))) (.tail (j0 _ (.tail _ (.tail _ (.head _)))) (.tail (j0 _ (.tail _ (.tail _ (.tail _ (.head _))))) (.tail (j0 _ (.tail _ (.tail _ (.tail _ (.tail _ (.head _)))))) (.head fun q hq => j0 q (.tail _ (.tail _ (.tail _ (.tail _ (.tail _ hq)))))))))))) k5 ?_ rfl rfl)
    intro h' o' F8 N8 d8 sb
    refine ret h' _ DO o' F8 N8 d8 (hT.keepsB fun c o e hd => ?_)
    have e5 := (N (L + 1 + 1 + 1 + 1 + 1, o5) (.tail _ (.tail _ (.tail _ (.tail _ (.tail _ (.head _))))))).1
    refine (sb.2 c fun q => ?_).trans (st' _ _ e)
    subst q
    rw [e5] at e
    cases e
    rw [k5] at hd
    exact hd
end

-- M10
open PySem PySem.W PyProof.Rows PySem.Calls
set_option Elab.async false
set_option linter.unusedVariables false
set_option maxRecDepth 100000



section
variable {p : Program} {loose : List Str} {mean : ExcName → Option Value} {mg mb : Str → Option Value} {w : World} {A A' A₀ : Around} {s : Shared} {Q : Flow → Shared → Prop} {R : Value → Shared → Prop}

theorem within_at {base g : Heap} {outer : List Env} {env : Env} {L l a b c d : Addr} {m : Str → Option Value} {nb : List (Addr × Obj)} {R : Value → Shared → Prop} {E : Value → Shared → Prop} (B : Below A₀ base outer g) (SA : A'.frames = some (env :: outer)) (hfr : env.frame = some L) (hkf : env.scope.kind = .function) (F : Fr g L s.heap m) (N : News g L s.heap nb)
    (X : (hd.heap_39 w.params).In g) (Tp : Top p loose mean mg mb g) (hh : A'.handled = none) (hroom : A'.depth + 2 < recursionLimit)
    {x1 y1 x2 y2 x3 y3 x y : Int} {t1 u1 t2 u2 t3 u3 t u : Tok} (hl : s.heap.IsList l [.ref a, .ref b, .ref c].toArray)
    (i1 : IsTup s.heap a [.int x1 t1, .int y1 u1].toArray) (i2 : IsTup s.heap b [.int x2 t2, .int y2 u2].toArray) (i3 : IsTup s.heap c [.int x3 t3, .int y3 u3].toArray) (i4 : IsTup s.heap d [.int x t, .int y u].toArray)
    (a1 : 0 ≤ x1 ∧ x1 ≤ 7) (a2 : 0 ≤ y1 ∧ y1 ≤ 7) (a3 : 0 ≤ x2 ∧ x2 ≤ 7) (a4 : 0 ≤ y2 ∧ y2 ≤ 7) (a5 : 0 ≤ x3 ∧ x3 ≤ 7) (a6 : 0 ≤ y3 ∧ y3 ≤ 7) (a7 : 0 ≤ x ∧ x ≤ 7) (a8 : 0 ≤ y ∧ y ≤ 7)
    (ret : ∀ h' tk', Fr g L h' m → News g L h' nb → s.heap.StaysIn h' → R (.bool (inI x1 y1 x2 y2 x3 y3 x y)) { s with heap := h', toks := tk' }) :
    wpAny (model PySem.Challenge.rw_zt0001_01.row.prog w) A' (call (.ref 98) [.ref l, .ref d]) R E s := by
  refine within_ok (p := p) (loose := loose) (mean := mean) (mg := mg) (mb := mb) (rdy_at (nb := nb) B SA hfr hkf F X Tp) hroom hh hl i1 i2 i3 i4 ⟨by omega, by omega⟩ ⟨by omega, by omega⟩ ⟨by omega, by omega⟩ ⟨by omega, by omega⟩ ⟨by omega, by omega⟩ ⟨by omega, by omega⟩ ⟨by omega, by omega⟩ ⟨by omega, by omega⟩ ?_
  intro h' tk' st
  exact ret h' tk' (F.keeps st) (N.grown st) st

/-- a pair in a list of pairs -/
theorem in_pairs {prog : Program} {w : World} {A : Around} {E : Value → Shared → Prop} {s : Shared} {Q : Value → Shared → Prop} {l c k : Addr} {os : List Value} {ps : List (Int × Int)} {q : Int × Int} {t u : Tok} (hl : s.heap.IsList l os.toArray) (hT : TupsAt s.heap k os ps) (hc : s.heap.get? c = some (tup2 q.1 t q.2 u)) (hu : A.units + 2 < cLine)
    (h : Q (.bool (ps.contains q)) s) : wpAny (model prog w) A (compareOp .In (.ref c) (.ref l)) Q E s := by
  classical
  have key : ∀ (r : Addr) (p : Int × Int) (t' u' : Tok), s.heap.get? r = some (tup2 p.1 t' p.2 u') → (decide (∃ r' t'' u'', Value.ref r = .ref r' ∧ s.heap.get? r' = some (tup2 q.1 t'' q.2 u'')) : Bool) = (p == q) := fun r p t' u' e => by
    by_cases hpq : p = q
    · subst hpq
      rw [decide_eq_true ⟨r, t', u', rfl, e⟩]; simp
    · rw [decide_eq_false]
      · simp [hpq]
      · rintro ⟨r', t'', u'', er, e2⟩
        cases er
        rw [e] at e2
        injection e2 with e2
        injection e2 with _ _ e2
        simp at e2
        exact hpq (Prod.ext e2.1.1 e2.2.1)
  refine SeqAt.in_listAt (fun v => decide (∃ r' t'' u'', v = .ref r' ∧ s.heap.get? r' = some (tup2 q.1 t'' q.2 u''))) hl (fun v hv => ?_) ?_
  · obtain ⟨i, hi⟩ := List.mem_iff_getElem?.mp (show v ∈ os by simpa using hv)
    obtain ⟨r, p, t', u', rfl, _, _, hr⟩ := hT.nth i v hi
    rw [key r p t' u' hr]
    by_cases hrc : r = c
    · subst hrc
      rw [hr] at hc
      injection hc with e2
      injection e2 with _ _ e2
      simp at e2
      rw [show p = q from Prod.ext e2.1.1 e2.2.1]
      simp only [beq_self_eq_true]
      exact SeqAt.EqAt.same _
    · have := SeqAt.RcAt.tuples (A := A.in1) (s := s) (e := fun j => if j = 0 then p.1 == q.1 else p.2 == q.2) (isTuple_of (it_of hr)) (isTuple_of (it_of hc)) (by show A.units + 1 < cLine; omega) (fun j h1 h2 => ?_)
      · refine SeqAt.EqAt.of_refs hrc ?_
        have e : (p == q) = ((List.range (min [Value.int p.1 t', .int p.2 u'].toArray.size [Value.int q.1 t, .int q.2 u].toArray.size)).all (fun j => if j = 0 then p.1 == q.1 else p.2 == q.2) && [Value.int p.1 t', .int p.2 u'].toArray.size == [Value.int q.1 t, .int q.2 u].toArray.size) := by
          show (p.1 == q.1 && p.2 == q.2) = ((p.1 == q.1) && ((p.2 == q.2) && true) && true)
          simp
        rw [e]; exact this
      · match j, h1 with
        | 0, _ => exact SeqAt.EqAt.int_int _ _ _ _
        | 1, _ => exact SeqAt.EqAt.int_int _ _ _ _
        | k + 2, h => exact absurd h (by simp)
  · have e : os.toArray.any (fun v => decide (∃ r' t'' u'', v = .ref r' ∧ s.heap.get? r' = some (tup2 q.1 t'' q.2 u''))) = ps.contains q := by
      rw [List.any_toArray]
      clear hl h
      induction hT with
      | nil => rfl
      | cons a b r ih =>
        rw [List.any_cons, ih, key _ _ _ _ b, List.contains_cons]
        congr 1
        exact Bool.eq_iff_iff.mpr ⟨fun h => by simpa using (by simpa using h : _ = _).symm, fun h => by simpa using (by simpa using h : _ = _).symm⟩
    rw [e]; exact h
set_option maxHeartbeats 8000000 in
theorem law6_7 {o : Obj} (ho : (hd.heap_39 w.params).lookup 108 = some o) {qual : Str} {body : List Stmt} {scope : Scope} {cdv cd : Value} {fa : Addr} (hf : funOf o = some (qual, body, scope, cdv)) {tst : PySem.Expr} {b6 ore : List Stmt} {ps6 : Pos} (hst : body[6]? = some (.If tst b6 ore ps6)) {st : Stmt} (hst6 : b6[7]? = some st)
    {base g : Heap} {outer : List Env} {L : Addr} (l51 : @LT.lt Nat _ 51 L) (B : Below A₀ base outer g) (SA : (A.deeper (envOfC qual scope L fa cd)).frames = some (envOfC qual scope L fa cd :: outer))
    {m : Str → Option Value} (F : Fr g L s.heap m)
    (X : (hd.heap_39 w.params).In g) (Tp : Top p loose mean mg mb g) (hh : A.handled = none) (hroom : A.depth + 200 < recursionLimit) (hu : A.units + 100 < cLine)
    {DO DP DS DF p0 p1 p2 p3 : Addr} {os ys : List Value} {k cS cF : Nat} {o2 o3 o5 : Obj} {a b c d e f g' i : Int} {u0 u1 u2 u3 v0 v1 v2 v3 : Tok} {nb : List (Addr × Obj)} {on : Int × Int → Bool} (hm : m (Str.ofString "spots") = some (.ref DP))
    (N : News g L s.heap ((DO, lst os) :: (DP, lst ys) :: (DS, listOf [.ref p0, .ref p2, .ref p3].toArray cS) :: (DF, listOf [.ref p0, .ref p1, .ref p2].toArray cF) :: (p0, tup2 a u0 b v0) :: (p1, tup2 c u1 d v1) :: (p2, tup2 e u2 f v2) :: (p3, tup2 g' u3 i v3) :: (L + 1 + 1 + 1 + 1 + 1, o5) :: (L + 1 + 1 + 1, o3) :: (L + 1 + 1, o2) :: nb)) (hT : TupsAt s.heap k ys spotsL) (hO : TupsAt s.heap k os (spotsL.filter on)) (k2 : o2.data = .cell (some (.ref DF))) (k3 : o3.data = .cell (some (.ref DS))) (k5 : o5.data = .cell (some (.ref DO)))
    (a1 : 0 ≤ a ∧ a ≤ 7) (a2 : 0 ≤ b ∧ b ≤ 7) (a3 : 0 ≤ c ∧ c ≤ 7) (a4 : 0 ≤ d ∧ d ≤ 7) (a5 : 0 ≤ e ∧ e ≤ 7) (a6 : 0 ≤ f ∧ f ≤ 7) (a7 : 0 ≤ g' ∧ g' ≤ 7) (a8 : 0 ≤ i ∧ i ≤ 7)
    (ret : ∀ h' tk' DI is, Fr g L h' (fun y => if y = Str.ofString "inside" then some (.ref DI) else m y) → News g L h' ((DI, lst is) :: (DO, lst os) :: (DP, lst ys) :: (DS, listOf [.ref p0, .ref p2, .ref p3].toArray cS) :: (DF, listOf [.ref p0, .ref p1, .ref p2].toArray cF) :: (p0, tup2 a u0 b v0) :: (p1, tup2 c u1 d v1) :: (p2, tup2 e u2 f v2) :: (p3, tup2 g' u3 i v3) :: (L + 1 + 1 + 1 + 1 + 1, o5) :: (L + 1 + 1 + 1, o3) :: (L + 1 + 1, o2) :: nb) → is.length = (spotsL.filter (fun q => inI a b c d e f q.1 q.2 || inI a b e f g' i q.1 q.2 || (spotsL.filter on).contains q)).length → Q .next { s with heap := h', toks := tk' }) :
    wpAny (model PySem.Challenge.rw_zt0001_01.row.prog w) (A.deeper (envOfC qual scope L fa cd)) (exec st (envOfC qual scope L fa cd)) Q NoErr s := by
  revert ho; k_fill; intro ho
  obtain rfl := Option.some.inj (ho.symm.trans (by k_is : _ = some _))
  cases (hf.symm.trans (rfl : _ = some (_, _, _, _)))
  cases hst
  cases hst6
  clear ho hf

  k_dflt (refine comp_assign (by rfl) (by exact rfl) rfl (by decide) (fun _ => rfl) ?_)
  walk_at "STEPS"
  have hlen : ys.length = 64 := (hT.length).trans rfl
  refine comp_filter (prOf spotsL (fun q => inI a b c d e f q.1 q.2 || inI a b e f g' i q.1 q.2 || (spotsL.filter on).contains q)) F N (News.isList N (.tail _ (.head _))) hh (by rw [hlen]; decide) (by decide) rfl rfl (by decide) ?_ ?_
  · intro j v h mc tk hv st F9 N9 hn
    obtain ⟨r, q, t, u, rfl, hq, hk, hc⟩ := hT.nth j v hv
    have hpr : prOf spotsL (fun q => inI a b c d e f q.1 q.2 || inI a b e f g' i q.1 q.2 || (spotsL.filter on).contains q) j = (fun q => inI a b c d e f q.1 q.2 || inI a b e f g' i q.1 q.2 || (spotsL.filter on).contains q) q := by unfold prOf; rw [hq]
    rw [hpr]
    dsimp only
    have hqs := spots_small q (List.mem_of_getElem? hq)
    have isT : ∀ {n : Nat} {h' : Heap}, h.StaysIn h' → IsTup h' r [.int q.1 t, .int q.2 u].toArray := fun st' => isTup_st (it_of hc) fun b o e => st' _ _ (st _ _ e)
    walk_at "STEPS"
    k_dflt (refine cn_local rfl rfl (by decide) hn (if_pos rfl) ?_)
    walk_at "STEPS"
    refine within_at (p := p) (loose := loose) (mean := mean) (mg := mg) (mb := mb) B SA rfl rfl F9 N9 X Tp hh (by ktr_room) (News.isList N9 (.tail _ (.tail _ (.tail _ (.head _))))) (News.isTup N9 (.tail _ (.tail _ (.tail _ (.tail _ (.head _)))))) (News.isTup N9 (.tail _ (.tail _ (.tail _ (.tail _ (.tail _ (.head _))))))) (News.isTup N9 (.tail _ (.tail _ (.tail _ (.tail _ (.tail _ (.tail _ (.head _)))))))) (isT (n := 0) fun _ _ e => e) a1 a2 a3 a4 a5 a6 hqs.1 hqs.2 ?_
    intro h5 tk5 F5 N5 st5
    walk_at "STEPS"
    · refine test_end ?_ st5
      rw [show inI a b c d e f q.1 q.2 = true by assumption]; rfl
    have f1 : inI a b c d e f q.1 q.2 = false := by assumption
    have hn5 := hn.at' fun o e => st5 _ o e
    k_dflt (refine cn_local rfl rfl (by decide) hn5 (if_pos rfl) ?_)
    clear F9 N9
    walk_at "STEPS"
    refine within_at (p := p) (loose := loose) (mean := mean) (mg := mg) (mb := mb) B SA rfl rfl F5 N5 X Tp hh (by ktr_room) (News.isList N5 (.tail _ (.tail _ (.head _)))) (News.isTup N5 (.tail _ (.tail _ (.tail _ (.tail _ (.head _)))))) (News.isTup N5 (.tail _ (.tail _ (.tail _ (.tail _ (.tail _ (.tail _ (.head _)))))))) (News.isTup N5 (.tail _ (.tail _ (.tail _ (.tail _ (.tail _ (.tail _ (.tail _ (.head _))))))))) (isT (n := 0) st5) a1 a2 a5 a6 a7 a8 hqs.1 hqs.2 ?_
    intro h6 tk6 F6 N6 st6
    clear F5 N5
    walk_at "STEPS"
    · refine test_end ?_ fun b o e => st6 _ _ (st5 _ _ e)
      rw [f1, show inI a b e f g' i q.1 q.2 = true by assumption]; rfl
    have f2 : inI a b e f g' i q.1 q.2 = false := by assumption
    have hn6 := hn5.at' fun o e => st6 _ o e
    k_dflt (refine cn_local rfl rfl (by decide) hn6 (if_pos rfl) ?_)
    walk_at "STEPS"
    refine in_pairs (News.isList N6 (.head _)) (hO.keeps fun b o e _ => st6 _ _ (st5 _ _ (st _ _ e))) (st6 _ _ (st5 _ _ (st _ _ hc))) (by simp only [Around.deeper_units]; omega) ?_
    walk_at "STEPS"
    all_goals
      refine test_end ?_ fun b o e => st6 _ _ (st5 _ _ e)
      rw [f1, f2, Bool.false_or, Bool.false_or]
      first | assumption | exact Bool.eq_false_iff.mpr (by assumption)
  · refine CompDone.local F N rfl rfl rfl (fun ys h h' hK k => hK) fun DI is h tk F8 N8 hlt hK => ?_
    exact ret _ _ DI is F8 N8 (by rw [hK]; exact (hT.pick (fun q => inI a b c d e f q.1 q.2 || inI a b e f g' i q.1 q.2 || (spotsL.filter on).contains q)).length)
end

-- M11
open PySem PySem.W PyProof.Rows PySem.Calls
set_option Elab.async false
set_option linter.unusedVariables false
set_option maxRecDepth 100000


section
variable {p : Program} {loose : List Str} {mean : ExcName → Option Value} {mg mb : Str → Option Value} {w : World} {A A' A₀ : Around} {s : Shared} {Q : Flow → Shared → Prop} {R : Value → Shared → Prop}
set_option maxHeartbeats 8000000 in
theorem law6_8 {o : Obj} (ho : (hd.heap_39 w.params).lookup 108 = some o) {qual : Str} {body : List Stmt} {scope : Scope} {cdv cd : Value} {fa : Addr} (hf : funOf o = some (qual, body, scope, cdv)) {tst : PySem.Expr} {b6 ore : List Stmt} {ps6 : Pos} (hst : body[6]? = some (.If tst b6 ore ps6)) {st : Stmt} (hst6 : b6[8]? = some st)
    {base g : Heap} {outer : List Env} {L : Addr} (l51 : @LT.lt Nat _ 51 L) (B : Below A₀ base outer g) (SA : (A.deeper (envOfC qual scope L fa cd)).frames = some (envOfC qual scope L fa cd :: outer))
    {m : Str → Option Value} (F : Fr g L s.heap m)
    (X : (hd.heap_39 w.params).In g) (Tp : Top p loose mean mg mb g) (hh : A.handled = none) (hroom : A.depth + 200 < recursionLimit) (hu : A.units + 100 < cLine)
    {DI DO : Addr} {is os : List Value} {o5 : Obj} {x z : Int} {v5 v6 : Tok} {nb : List (Addr × Obj)} (h1 : m (Str.ofString "inside") = some (.ref DI)) (h2 : m (Str.ofString "within") = some (.int x v5)) (h3 : m (Str.ofString "shared") = some (.int z v6))
    (N : News g L s.heap ((DI, lst is) :: (DO, lst os) :: (L + 1 + 1 + 1 + 1 + 1, o5) :: nb)) (k5 : o5.data = .cell (some (.ref DO))) (b1 : -5000 ≤ x ∧ x ≤ 5000) (b2 : -5000 ≤ z ∧ z ≤ 5000) (e1 : (is.length : Int) = x) (e2 : (os.length : Int) = z - 1)
    (ret : ∀ h' tk', Fr g L h' m → News g L h' nb → Q .next { s with heap := h', toks := tk' }) :
    wpAny (model PySem.Challenge.rw_zt0001_01.row.prog w) (A.deeper (envOfC qual scope L fa cd)) (exec st (envOfC qual scope L fa cd)) Q NoErr s := by
  revert ho; k_fill; intro ho
  obtain rfl := Option.some.inj (ho.symm.trans (by k_is : _ = some _))
  cases (hf.symm.trans (rfl : _ = some (_, _, _, _)))
  cases hst
  cases hst6
  clear ho hf

  walk_at "STEPS"
  refine kun_lenL (k := (is.length : Int)) (News.isList N (.head _)) (by simp) (by omega) ?_
  walk_at "STEPS"
  refine kun_lenL (k := (os.length : Int)) (News.isList N (.tail _ (.head _))) (by simp) (by omega) ?_
  walk_at "STEPS"
  all_goals exact ret _ _ F (fun q hq => N q (.tail _ (.tail _ (.tail _ hq))))
end

-- M12
open PySem PySem.W PyProof.Rows PySem.Calls
set_option Elab.async false
set_option linter.unusedVariables false
set_option maxRecDepth 100000


section
variable {p : Program} {loose : List Str} {mean : ExcName → Option Value} {mg mb : Str → Option Value} {w : World} {A A' A₀ : Around} {s : Shared} {Q : Flow → Shared → Prop} {R : Value → Shared → Prop}

set_option maxHeartbeats 8000000 in
theorem law6_t {o : Obj} (ho : (hd.heap_39 w.params).lookup 108 = some o) {qual : Str} {body : List Stmt} {scope : Scope} {cdv cd : Value} {fa : Addr} (hf : funOf o = some (qual, body, scope, cdv)) {tst : PySem.Expr} {b6 ore : List Stmt} {ps6 : Pos} (hst : body[6]? = some (.If tst b6 ore ps6))
    {base g : Heap} {outer : List Env} {L : Addr} (l51 : @LT.lt Nat _ 51 L) (B : Below A₀ base outer g) (SA : (A.deeper (envOfC qual scope L fa cd)).frames = some (envOfC qual scope L fa cd :: outer))
    {m : Str → Option Value} (F : Fr g L s.heap m)
    (X : (hd.heap_39 w.params).In g) (Tp : Top p loose mean mg mb g) (hh : A.handled = none) (hroom : A.depth + 200 < recursionLimit) (hu : A.units + 100 < cLine)
    {l r : Int} {v1 v2 : Tok} (h1 : m (Str.ofString "left") = some (.int l v1)) (h2 : m (Str.ofString "right") = some (.int r v2)) (b1 : -5000 ≤ l ∧ l ≤ 5000) (b2 : -5000 ≤ r ∧ r ≤ 5000) {K : Bool → Shared → Prop}
    (yes : ∀ tk', l * r < 0 → K true { s with toks := tk' }) (no : ∀ tk', ¬ l * r < 0 → K false { s with toks := tk' }) :
    wpAny (model PySem.Challenge.rw_zt0001_01.row.prog w) (A.deeper (envOfC qual scope L fa cd)) (isTrue tst (envOfC qual scope L fa cd) (eval tst (envOfC qual scope L fa cd))) K NoErr s := by
  revert ho; k_fill; intro ho
  obtain rfl := Option.some.inj (ho.symm.trans (by k_is : _ = some _))
  cases (hf.symm.trans (rfl : _ = some (_, _, _, _)))
  cases hst
  clear ho hf
  walk_at "STEPS"
  by_cases q : l * r < 0
  · rw [decide_eq_true q]; exact yes _ q
  · rw [decide_eq_false q]; exact no _ q

structure Shape6 (body : List Stmt) (tst : PySem.Expr) (b6 : List Stmt) (ps6 : Pos) : Prop where
  at6 : body[6]? = some (.If tst b6 [] ps6)
  len6 : ∃ s0 s1 s2 s3 s4 s5 s6 s7 s8, b6 = [s0, s1, s2, s3, s4, s5, s6, s7, s8]
set_option maxHeartbeats 8000000 in
theorem law_shape6 {o : Obj} (ho : (hd.heap_39 w.params).lookup 108 = some o) {qual : Str} {body : List Stmt} {scope : Scope} {cdv cd : Value} {fa : Addr} (hf : funOf o = some (qual, body, scope, cdv)) : ∃ tst b6 ps6, Shape6 body tst b6 ps6 := by
  revert ho; k_fill; intro ho
  obtain rfl := Option.some.inj (ho.symm.trans (by k_is : _ = some _))
  cases (hf.symm.trans (rfl : _ = some (_, _, _, _)))
  exact ⟨_, _, _, rfl, ⟨_, _, _, _, _, _, _, _, _, rfl⟩⟩
end

-- M13
open PySem PySem.W PyProof.Rows PySem.Calls
set_option Elab.async false
set_option linter.unusedVariables false
set_option maxRecDepth 100000


section
variable {p : Program} {loose : List Str} {mean : ExcName → Option Value} {mg mb : Str → Option Value} {w : World} {A A' A₀ : Around} {s : Shared} {Q : Flow → Shared → Prop} {R : Value → Shared → Prop}

/-- what is asked where the two triangles lie on unlike sides -/
structure WholeOK (a b c d e f g' i l r z1 z2 z3 y1 y2 y3 : Int) : Prop where
  w1 : y1 + z1 = absI l + absI r
  w2 : y1 + z1 = 2 * (y2 + z2 + sideI a b e f - 1) + (y3 + z3 - 2 * sideI a b e f) - 2
  w3 : ((spotsL.filter fun q => onB a b e f q.1 q.2).length : Int) = sideI a b e f - 1
  w4 : ((spotsL.filter (fun q => inI a b c d e f q.1 q.2 || inI a b e f g' i q.1 q.2 || (spotsL.filter fun q => onB a b e f q.1 q.2).contains q)).length : Int) = y2 + z2 + sideI a b e f - 1

def Grown (h : Heap) : Prop := (∃ ps, h.get? 44 = some (tabObj ps)) ∧ ∃ ps, h.get? 51 = some (tabObj ps)
theorem grown_of {h : Heap} (T : Tabs h) : Grown h := by
  obtain ⟨p1, e1, _⟩ := T.t44.nostr
  obtain ⟨p2, e2, _⟩ := T.t51.nostr
  exact ⟨⟨_, e1⟩, _, e2⟩
theorem filter_len (f : Int × Int → Bool) : (spotsL.filter f).length ≤ 64 := List.length_filter_le f spotsL

theorem b5 {x : Int} (h : -1000 ≤ x ∧ x ≤ 1000) : -5000 ≤ x ∧ x ≤ 5000 := by omega
theorem abs_b {x : Int} (h : -1000 ≤ x ∧ x ≤ 1000) : 0 ≤ absI x ∧ absI x ≤ 1000 := by
  unfold absI
  split <;> omega
theorem n64 {n : Nat} {z : Int} (h : n ≤ 64) (e : (n : Int) = z) : 0 ≤ z ∧ z ≤ 64 := by omega
theorem w5 {z : Int} (h : 0 ≤ z ∧ z ≤ 64) : -5000 ≤ z ∧ z ≤ 5000 := by omega
theorem w1 {z : Int} (h : 0 ≤ z - 1 ∧ z - 1 ≤ 64) : -5000 ≤ z ∧ z ≤ 5000 := by omega
theorem wp {p z : Int} (h : 0 ≤ p + z - 1 ∧ p + z - 1 ≤ 64) (h' : 0 ≤ z - 1 ∧ z - 1 ≤ 64) : -5000 ≤ p ∧ p ≤ 5000 := by omega
theorem we {a b x e : Int} (h : 0 ≤ x ∧ x ≤ 64) (W : a + b = 2 * x + e - 2) (h1 : 0 ≤ a ∧ a ≤ 1000) (h2 : 0 ≤ b ∧ b ≤ 1000) : -2000 ≤ e ∧ e ≤ 4000 := by omega
theorem we5 {e : Int} (h : -2000 ≤ e ∧ e ≤ 4000) : -5000 ≤ e ∧ e ≤ 5000 := by omega
theorem wq {q z : Int} (h : -2000 ≤ q - 2 * z ∧ q - 2 * z ≤ 4000) (h' : 0 ≤ z - 1 ∧ z - 1 ≤ 64) : -5000 ≤ q ∧ q ≤ 5000 := by omega
theorem whole_b {l r zs z1 z2 z3 y1 y2 y3 : Int} {no ni : Nat} (bl : -1000 ≤ l ∧ l ≤ 1000) (br : -1000 ≤ r ∧ r ≤ 1000) (W1 : y1 + z1 = absI l + absI r) (W2 : y1 + z1 = 2 * (y2 + z2 + zs - 1) + (y3 + z3 - 2 * zs) - 2) (W3 : (no : Int) = zs - 1) (W4 : (ni : Int) = y2 + z2 + zs - 1) (on64 : no ≤ 64) (in64 : ni ≤ 64) :
    (-5000 ≤ y2 + z2 ∧ y2 + z2 ≤ 5000) ∧ (-5000 ≤ y3 + z3 ∧ y3 + z3 ≤ 5000) ∧ (-5000 ≤ zs ∧ zs ≤ 5000) ∧ (-5000 ≤ y2 + z2 + zs - 1 ∧ y2 + z2 + zs - 1 ≤ 5000) ∧ (-5000 ≤ y3 + z3 - 2 * zs ∧ y3 + z3 - 2 * zs ≤ 5000) :=
  have x := n64 in64 W4
  have z := n64 on64 W3
  have e := we x (W1.symm.trans W2) (abs_b bl) (abs_b br)
  ⟨wp x z, wq e z, w1 z, w5 x, we5 e⟩
set_option maxHeartbeats 8000000 in
theorem law_s6 {o : Obj} (ho : (hd.heap_39 w.params).lookup 108 = some o) {qual : Str} {body : List Stmt} {scope : Scope} {cdv cd : Value} {fa : Addr} (hf : funOf o = some (qual, body, scope, cdv)) {st : Stmt} (hst : body[6]? = some st)
    {base g : Heap} {outer : List Env} {L : Addr} (l51 : @LT.lt Nat _ 51 L) (B : Below A₀ base outer g) (SA : (A.deeper (envOfC qual scope L fa cd)).frames = some (envOfC qual scope L fa cd :: outer))
    {m : Str → Option Value} (F : Fr g L s.heap m)
    (X : (hd.heap_39 w.params).In g) (Tp : Top p loose mean mg mb g) (hh : A.handled = none) (hroom : A.depth + 200 < recursionLimit) (hu : A.units + 100 < cLine)
    (T : Tabs s.heap) (C : Codes g) (g44 : g.get? 44 = none) (g51 : g.get? 51 = none)
    {DS DF DC p0 p1 p2 p3 r1 r2 : Addr} {o2 o3 o4 o5 : Obj} {cS cF : Nat} {a b c d e f g' i l r z1 z2 z3 y1 y2 y3 : Int} {u0 u1 u2 u3 v0 v1 v2 v3 w1 w2 w3 w4 w5 w6 v7 v8 : Tok}
    (hm : m (Str.ofString "corners") = some (.ref DC)) (h1 : m (Str.ofString "one") = some (.ref r1)) (h2 : m (Str.ofString "other") = some (.ref r2)) (h4 : m (Str.ofString "left") = some (.int l v7)) (h5 : m (Str.ofString "right") = some (.int r v8))
    {nb : List (Addr × Obj)} (hnb : nb = [(r2, tup3 y1 w4 y2 w5 y3 w6), (r1, tup3 z1 w1 z2 w2 z3 w3), (DS, listOf [.ref p0, .ref p2, .ref p3].toArray cS), (DF, listOf [.ref p0, .ref p1, .ref p2].toArray cF), (DC, listOf [.ref p0, .ref p1, .ref p2, .ref p3].toArray 4), (p0, tup2 a u0 b v0), (p1, tup2 c u1 d v1), (p2, tup2 e u2 f v2), (p3, tup2 g' u3 i v3), (L + 1 + 1 + 1 + 1 + 1, o5), (L + 1 + 1 + 1 + 1, o4), (L + 1 + 1 + 1, o3), (L + 1 + 1, o2)])
    (N : News g L s.heap nb) (hn : ∀ p ∈ nb, p.1 ∉ ST)
    (i0 : @LT.lt Nat _ (L + 1 + 1 + 1 + 1 + 1) DC) (i1 : @LT.lt Nat _ (L + 1 + 1 + 1 + 1 + 1) p0) (i2 : @LT.lt Nat _ (L + 1 + 1 + 1 + 1 + 1) p1) (i3 : @LT.lt Nat _ (L + 1 + 1 + 1 + 1 + 1) p2) (i4 : @LT.lt Nat _ (L + 1 + 1 + 1 + 1 + 1) p3) (i5 : @LT.lt Nat _ (L + 1 + 1 + 1 + 1 + 1) DF) (i6 : @LT.lt Nat _ (L + 1 + 1 + 1 + 1 + 1) DS)
    (k2 : o2.data = .cell (some (.ref DF))) (k3 : o3.data = .cell (some (.ref DS))) (k4 : o4.data = .cell none) (k5 : o5.data = .cell none)
    (a1 : 0 ≤ a ∧ a ≤ 7) (a2 : 0 ≤ b ∧ b ≤ 7) (a3 : 0 ≤ c ∧ c ≤ 7) (a4 : 0 ≤ d ∧ d ≤ 7) (a5 : 0 ≤ e ∧ e ≤ 7) (a6 : 0 ≤ f ∧ f ≤ 7) (a7 : 0 ≤ g' ∧ g' ≤ 7) (a8 : 0 ≤ i ∧ i ≤ 7)
    (bl : -1000 ≤ l ∧ l ≤ 1000) (br : -1000 ≤ r ∧ r ≤ 1000) (OK : l * r < 0 → WholeOK a b c d e f g' i l r z1 z2 z3 y1 y2 y3)
    (ret : ∀ h' tk' m', Fr g L h' m' → Grown h' → Q .next { s with heap := h', toks := tk' }) :
    wpAny (model PySem.Challenge.rw_zt0001_01.row.prog w) (A.deeper (envOfC qual scope L fa cd)) (exec st (envOfC qual scope L fa cd)) Q NoErr s := by
  obtain ⟨tst, b6, ps6, sh⟩ := law_shape6 (fa := fa) (cd := cd) ho hf
  obtain ⟨t0, t1, t2, t3, t4, t5, t6, t7, t8, hb6⟩ := sh.len6
  cases hst.symm.trans sh.at6
  refine wpAny_If (law6_t (p := p) (loose := loose) (mean := mean) (mg := mg) (mb := mb) ho hf sh.at6 l51 B SA F X Tp hh hroom hu h4 h5 (b5 bl) (b5 br) ?_ ?_)
  · intro tk0 hlr
    obtain ⟨W1, W2, W3, W4⟩ := OK hlr
    have on64 := filter_len (fun q => onB a b e f q.1 q.2)
    have in64 := filter_len (fun q => inI a b c d e f q.1 q.2 || inI a b e f g' i q.1 q.2 || (spotsL.filter fun q => onB a b e f q.1 q.2).contains q)
    generalize hsh : sideI a b e f = zs at *
    obtain ⟨B1, B2, B3, B4, B5⟩ := whole_b bl br W1 W2 W3 W4 on64 in64
    clear on64 in64
    subst hb6
    simp only [if_true]
    subst hnb
    skip
    -- the shared side
    have Np := nw_pick N [4, 5, 6, 7, 8, 3, 2, 0, 1, 9, 10, 11, 12]
    dsimp only [picks, List.drop, List.head?, Option.toList, List.cons_append, List.nil_append, List.append_nil] at Np
    have Sp := st_pick hn [4, 5, 6, 7, 8, 3, 2, 0, 1, 9, 10, 11, 12]
    dsimp only [picks, List.drop, List.head?, Option.toList, List.cons_append, List.nil_append, List.append_nil] at Sp
    refine wpAny_execs_cons (law6_0 (p := p) (loose := loose) (mean := mean) (mg := mg) (mb := mb) ho hf sh.at6 rfl l51 B SA F X Tp hh hroom hu T C g44 g51 hm Np Sp a1 a2 a5 a6 hsh ?_)
    intro ha tk1 ts F1 T1 N
    obtain ⟨qa, ya, oa, qb, yb, ob, NT, _⟩ := tabs_lay F1 T1 ⟨g44, (tab_none F1 T1).1⟩ ⟨g51, (tab_none F1 T1).2⟩
    replace N := news_app N NT
    clear T T1 hn NT
    skip
    -- add_func_stats
    have Np := nw_pick N [7, 8, 0, 1, 2, 3, 4, 5, 6, 9, 10, 11, 12, 15, 16]
    dsimp only [picks, List.drop, List.head?, Option.toList, List.cons_append, List.nil_append, List.append_nil] at Np
    refine wpAny_execs_cons (law6_1 (p := p) (loose := loose) (mean := mean) (mg := mg) (mb := mb) ho hf sh.at6 rfl l51 B SA F1 X Tp hh hroom hu ((if_neg (by decide)).trans h1) ((if_neg (by decide)).trans h2) Np ?_)
    intro hb tk2 W q1 q2 q3 q4 dd F2 N
    skip
    refine wpAny_execs_cons (law6_2 (p := p) (loose := loose) (mean := mean) (mg := mg) (mb := mb) ho hf sh.at6 rfl l51 B SA F2 X Tp hh hroom hu (if_pos rfl) ((if_neg (by decide)).trans (if_pos rfl)) N B1 B2 B3 ?_)
    intro hc tk3 m3 q5 q6 F3 hm3 hin hed N
    skip
    have g1 : m3 (Str.ofString "left") = some (.int l v7) := (hm3 _ (by decide) (by decide)).trans ((if_neg (by decide)).trans ((if_neg (by decide)).trans h4))
    have g2 : m3 (Str.ofString "right") = some (.int r v8) := (hm3 _ (by decide) (by decide)).trans ((if_neg (by decide)).trans ((if_neg (by decide)).trans h5))
    have g3 : m3 (Str.ofString "whole") = some (.ref W) := (hm3 _ (by decide) (by decide)).trans (if_pos rfl)
    have g4 : m3 (Str.ofString "shared") = some (.int zs ts) := (hm3 _ (by decide) (by decide)).trans ((if_neg (by decide)).trans (if_pos rfl))
    have g5 : m3 (Str.ofString "corners") = some (.ref DC) := (hm3 _ (by decide) (by decide)).trans ((if_neg (by decide)).trans ((if_neg (by decide)).trans hm))
    refine wpAny_execs_cons (law6_3 (z := 0) (p := p) (loose := loose) (mean := mean) (mg := mg) (mb := mb) ho hf sh.at6 rfl l51 B SA F3 X Tp hh hroom hu g3 hin hed g1 g2 N B4 B5 (b5 bl) (b5 br) W1 W2 ?_)
    intro hd' tk4 F4 N
    skip
    -- the ends
    have d4 : ∀ {x : Addr}, @LT.lt Nat _ (L + 1 + 1 + 1 + 1 + 1) x → @LT.lt Nat _ (L + 1 + 1 + 1 + 1) x := fun h => Nat.lt_of_succ_lt h
    have m44 : (44 : Addr) ≠ L + 1 + 1 + 1 + 1 := Nat.ne_of_lt (by omega)
    have m51 : (51 : Addr) ≠ L + 1 + 1 + 1 + 1 := Nat.ne_of_lt (by omega)
    have m44' : (44 : Addr) ≠ L + 1 + 1 + 1 + 1 + 1 := Nat.ne_of_lt (by omega)
    have m51' : (51 : Addr) ≠ L + 1 + 1 + 1 + 1 + 1 := Nat.ne_of_lt (by omega)
    have Np := nw_pick N [8, 0, 1, 2, 3, 4, 5, 6, 7, 9, 10, 11, 12]
    dsimp only [picks, List.drop, List.head?, Option.toList, List.cons_append, List.nil_append, List.append_nil] at Np
    refine wpAny_execs_cons (law6_4 (p := p) (loose := loose) (mean := mean) (mg := mg) (mb := mb) ho hf sh.at6 rfl l51 B SA F4 X Tp hh hroom hu g5 Np k4 (d4 i0) (d4 i1) (d4 i2) (d4 i3) (d4 i4) (ne_cons (Nat.ne_of_gt (d4 i5)) (ne_cons (Nat.ne_of_gt (d4 i6)) (ne_cons (Nat.ne_of_gt (Nat.lt_succ_self _)) (ne_cons (Nat.ne_of_lt (Nat.lt_succ_self _)) (ne_cons (Nat.ne_of_lt (Nat.lt_succ_of_lt (Nat.lt_succ_self _))) (ne_cons m44 (ne_cons m51 ne_nil))))))) ?_)
    intro he tk5 DE cE o4' F5 N k4'
    skip
    have ne5 : ∀ {h : Heap} {x : Addr} {vs : Array Value} {n : Nat}, NewAt g L h x (listOf vs n) → NewAt g L h (L + 1 + 1 + 1 + 1 + 1) o5 → x ≠ L + 1 + 1 + 1 + 1 + 1 := fun {h x vs n} hx hy q => by
      rw [q] at hx
      have := hx.1.symm.trans hy.1
      cases this
      cases k5
    have nDE : DE ≠ L + 1 + 1 + 1 + 1 + 1 := ne5 (N _ (.head _)) (nw_pick N [9] _ (.head _))
    -- the spots
    refine wpAny_execs_cons (law6_5 (p := p) (loose := loose) (mean := mean) (mg := mg) (mb := mb) ho hf sh.at6 rfl l51 B SA F5 X Tp hh hroom hu N ?_)
    intro hf' tk6 DP ys k F6 N _ hT
    skip
    have nDP : DP ≠ L + 1 + 1 + 1 + 1 + 1 := ne5 (N _ (.head _)) (nw_pick N [10] _ (.head _))
    -- on_side
    have Np := nw_pick N [0, 1, 2, 4, 6, 10, 5, 7, 8, 9, 11, 12, 13, 14]
    dsimp only [picks, List.drop, List.head?, Option.toList, List.cons_append, List.nil_append, List.append_nil] at Np
    refine wpAny_execs_cons (law6_6 (p := p) (loose := loose) (mean := mean) (mg := mg) (mb := mb) ho hf sh.at6 rfl l51 B SA F6 X Tp hh hroom hu (if_pos rfl) Np hT k4' k5 a1 a2 a5 a6 (ne_cons nDP (ne_cons nDE (ne_cons (Nat.ne_of_lt (Nat.lt_succ_self _)) (ne_cons (Nat.ne_of_gt i1) (ne_cons (Nat.ne_of_gt i3) (ne_cons (Nat.ne_of_gt i2) (ne_cons (Nat.ne_of_gt i4) (ne_cons (Nat.ne_of_gt i5) (ne_cons (Nat.ne_of_gt i6) (ne_cons (Nat.ne_of_lt (Nat.lt_succ_of_lt (Nat.lt_succ_self _))) (ne_cons (Nat.ne_of_lt (Nat.lt_succ_of_lt (Nat.lt_succ_of_lt (Nat.lt_succ_self _)))) (ne_cons m44' (ne_cons m51' ne_nil))))))))))))) ?_)
    intro hg tk7 DO o5' F7 N k5' hT'
    skip
    have hO := hT'.pick (fun q => onB a b e f q.1 q.2)
    have hOl := hO.length
    -- inside
    have Np := nw_pick N [0, 1, 10, 9, 4, 7, 5, 8, 6, 11, 12, 13, 14]
    dsimp only [picks, List.drop, List.head?, Option.toList, List.cons_append, List.nil_append, List.append_nil] at Np
    refine wpAny_execs_cons (law6_7 (p := p) (loose := loose) (mean := mean) (mg := mg) (mb := mb) ho hf sh.at6 rfl l51 B SA F7 X Tp hh hroom hu (if_pos rfl) Np hT' hO k2 k3 k5' a1 a2 a3 a4 a5 a6 a7 a8 ?_)
    intro hi' tk8 DI is F8 N hlen
    skip
    have Np := nw_pick N [0, 1, 9, 10, 11, 12, 13]
    dsimp only [picks, List.drop, List.head?, Option.toList, List.cons_append, List.nil_append, List.append_nil] at Np
    refine wpAny_execs_cons (law6_8 (p := p) (loose := loose) (mean := mean) (mg := mg) (mb := mb) ho hf sh.at6 rfl l51 B SA F8 X Tp hh hroom hu (if_pos rfl) ((if_neg (by decide)).trans ((if_neg (by decide)).trans hin)) ((if_neg (by decide)).trans ((if_neg (by decide)).trans g4)) Np k5' B4 B3 (by rw [hlen]; exact W4) (by rw [hOl]; exact W3) ?_)
    intro hj tk9 F9 N
    exact wpAny_execs_nil (ret _ _ _ F9 ⟨⟨_, (N _ (.tail _ (.tail _ (.head _)))).1⟩, _, (N _ (.tail _ (.tail _ (.tail _ (.head _))))).1⟩)
  · intro tk0 hlr
    simp only [Bool.false_eq_true, if_false]
    exact wpAny_execs_nil (ret _ _ _ F (grown_of T))
end

-- PC
open PySem.W
set_option linter.unusedVariables false

theorem foldl_Sz (f : Int → Int) (lo : Int) : ∀ (n : Nat) (a : Int), (rangeKs lo n).foldl (fun a x => a + f x) a = a + Sz lo n f
  | 0, a => by simp [rangeKs, Sz]
  | n + 1, a => by
    have := foldl_Sz f lo n a
    unfold rangeKs at this ⊢
    rw [List.range_succ, List.map_append, List.foldl_append, this, Sz_succ]
    simp only [List.map_cons, List.map_nil, List.foldl_cons, List.foldl_nil]
    omega
theorem countI_sum (x1 y1 x2 y2 x3 y3 : Int) : countI x1 y1 x2 y2 x3 y3 = Sz (minL [x1, x2, x3]) (maxL [x1, x2, x3] + 1 - minL [x1, x2, x3]).toNat (fun x => Sz (minL [y1, y2, y3]) (maxL [y1, y2, y3] + 1 - minL [y1, y2, y3]).toNat fun y => b2i (inI x1 y1 x2 y2 x3 y3 x y)) := by
  unfold countI
  have : (fun a x => rowI x1 y1 x2 y2 x3 y3 x a) = fun a x => a + (fun x => Sz (minL [y1, y2, y3]) (maxL [y1, y2, y3] + 1 - minL [y1, y2, y3]).toNat fun y => b2i (inI x1 y1 x2 y2 x3 y3 x y)) x := by
    funext a x
    unfold rowI
    rw [foldl_Sz (fun y => b2i (inI x1 y1 x2 y2 x3 y3 x y))]
  rw [this, foldl_Sz (fun x => Sz (minL [y1, y2, y3]) (maxL [y1, y2, y3] + 1 - minL [y1, y2, y3]).toNat fun y => b2i (inI x1 y1 x2 y2 x3 y3 x y))]
  omega

/-- three weights above nought whose sum is D: the point lies between the corners -/
theorem bary {a b c D x1 x2 x3 x lo hi : Int} (ha : 0 < a) (hb : 0 < b) (hc : 0 < c) (hD : D = a + b + c) (e : D * x = a * x1 + b * x2 + c * x3)
    (l1 : lo ≤ x1) (l2 : lo ≤ x2) (l3 : lo ≤ x3) (u1 : x1 ≤ hi) (u2 : x2 ≤ hi) (u3 : x3 ≤ hi) : lo ≤ x ∧ x ≤ hi := by
  subst hD
  constructor
  · have m1 := Int.mul_le_mul_of_nonneg_left l1 (Int.le_of_lt ha)
    have m2 := Int.mul_le_mul_of_nonneg_left l2 (Int.le_of_lt hb)
    have m3 := Int.mul_le_mul_of_nonneg_left l3 (Int.le_of_lt hc)
    refine Int.le_of_mul_le_mul_left (a := a + b + c) ?_ (by omega)
    grind
  · have m1 := Int.mul_le_mul_of_nonneg_left u1 (Int.le_of_lt ha)
    have m2 := Int.mul_le_mul_of_nonneg_left u2 (Int.le_of_lt hb)
    have m3 := Int.mul_le_mul_of_nonneg_left u3 (Int.le_of_lt hc)
    refine Int.le_of_mul_le_mul_left (a := a + b + c) ?_ (by omega)
    grind
theorem inI_cases {x1 y1 x2 y2 x3 y3 x y : Int} (h : inI x1 y1 x2 y2 x3 y3 x y = true) :
    (0 < crossI x1 y1 x2 y2 x y ∧ 0 < crossI x2 y2 x3 y3 x y ∧ 0 < crossI x3 y3 x1 y1 x y) ∨ (crossI x1 y1 x2 y2 x y < 0 ∧ crossI x2 y2 x3 y3 x y < 0 ∧ crossI x3 y3 x1 y1 x y < 0) := by
  unfold inI at h
  simpa using h
theorem cross_sum (x1 y1 x2 y2 x3 y3 x y : Int) : crossI x1 y1 x2 y2 x y + crossI x2 y2 x3 y3 x y + crossI x3 y3 x1 y1 x y = crossI x1 y1 x2 y2 x3 y3 := by
  unfold crossI; grind
theorem inI_box {x1 y1 x2 y2 x3 y3 x y lo hi mo mi : Int} (h : inI x1 y1 x2 y2 x3 y3 x y = true)
    (l1 : lo ≤ x1) (l2 : lo ≤ x2) (l3 : lo ≤ x3) (u1 : x1 ≤ hi) (u2 : x2 ≤ hi) (u3 : x3 ≤ hi) (l4 : mo ≤ y1) (l5 : mo ≤ y2) (l6 : mo ≤ y3) (u4 : y1 ≤ mi) (u5 : y2 ≤ mi) (u6 : y3 ≤ mi) : (lo ≤ x ∧ x ≤ hi) ∧ mo ≤ y ∧ y ≤ mi := by
  have ex : (crossI x2 y2 x3 y3 x y + crossI x3 y3 x1 y1 x y + crossI x1 y1 x2 y2 x y) * x = crossI x2 y2 x3 y3 x y * x1 + crossI x3 y3 x1 y1 x y * x2 + crossI x1 y1 x2 y2 x y * x3 := by unfold crossI; grind
  have ey : (crossI x2 y2 x3 y3 x y + crossI x3 y3 x1 y1 x y + crossI x1 y1 x2 y2 x y) * y = crossI x2 y2 x3 y3 x y * y1 + crossI x3 y3 x1 y1 x y * y2 + crossI x1 y1 x2 y2 x y * y3 := by unfold crossI; grind
  have hc := inI_cases h
  generalize crossI x2 y2 x3 y3 x y = a at *
  generalize crossI x3 y3 x1 y1 x y = b at *
  generalize crossI x1 y1 x2 y2 x y = c at *
  rcases hc with hc | hc
  · exact ⟨bary (a := a) (b := b) (c := c) hc.2.1 hc.2.2 hc.1 rfl ex l1 l2 l3 u1 u2 u3, bary (a := a) (b := b) (c := c) hc.2.1 hc.2.2 hc.1 rfl ey l4 l5 l6 u4 u5 u6⟩
  · exact ⟨bary (a := -a) (b := -b) (c := -c) (by omega) (by omega) (by omega) rfl (by grind) l1 l2 l3 u1 u2 u3, bary (a := -a) (b := -b) (c := -c) (by omega) (by omega) (by omega) rfl (by grind) l4 l5 l6 u4 u5 u6⟩
theorem minL3 (a b c : Int) : minL [a, b, c] ≤ a ∧ minL [a, b, c] ≤ b ∧ minL [a, b, c] ≤ c :=
  have h := (minL_mem (l := [a, b, c]) (Nat.succ_pos _)).2
  ⟨h a (.head _), h b (.tail _ (.head _)), h c (.tail _ (.tail _ (.head _)))⟩
theorem maxL3 (a b c : Int) : a ≤ maxL [a, b, c] ∧ b ≤ maxL [a, b, c] ∧ c ≤ maxL [a, b, c] :=
  have h := (maxL_mem (l := [a, b, c]) (Nat.succ_pos _)).2
  ⟨h a (.head _), h b (.tail _ (.head _)), h c (.tail _ (.tail _ (.head _)))⟩
theorem rng {lo hi x : Int} (h : lo ≤ x ∧ x ≤ hi) : lo ≤ x ∧ x < lo + ((hi + 1 - lo).toNat : Nat) := by omega
theorem sgn3 {a b c : Int} : (0 < -a ∧ 0 < -b ∧ 0 < -c) ↔ (a < 0 ∧ b < 0 ∧ c < 0) := by omega
theorem sgn3' {a b c : Int} : (-a < 0 ∧ -b < 0 ∧ -c < 0) ↔ (0 < a ∧ 0 < b ∧ 0 < c) := by omega
abbrev inF (x1 y1 x2 y2 x3 y3 : Int) : Int → Int → Int := fun x y => b2i (inI x1 y1 x2 y2 x3 y3 x y)
theorem inF_true {x1 y1 x2 y2 x3 y3 x y : Int} (h : inF x1 y1 x2 y2 x3 y3 x y ≠ 0) : inI x1 y1 x2 y2 x3 y3 x y = true := by
  cases q : inI x1 y1 x2 y2 x3 y3 x y with
  | true => rfl
  | false => exact absurd (by show b2i _ = 0; rw [q]; rfl) h
theorem count_tot (x1 y1 x2 y2 x3 y3 : Int) : Tot (inF x1 y1 x2 y2 x3 y3) (countI x1 y1 x2 y2 x3 y3) := by
  refine Tot.of _ _ _ _ (fun x y h => ?_) (countI_sum ..).symm
  have a := minL3 x1 x2 x3
  have b := maxL3 x1 x2 x3
  have c := minL3 y1 y2 y3
  have d := maxL3 y1 y2 y3
  have := inI_box (inF_true h) a.1 a.2.1 a.2.2 b.1 b.2.1 b.2.2 c.1 c.2.1 c.2.2 d.1 d.2.1 d.2.2
  exact ⟨rng this.1, rng this.2⟩
theorem count_eq {x1 y1 x2 y2 x3 y3 v : Int} (h : Tot (inF x1 y1 x2 y2 x3 y3) v) : countI x1 y1 x2 y2 x3 y3 = v := (count_tot ..).unique h
theorem count_move (x1 y1 x2 y2 x3 y3 t u : Int) : countI (x1 + t) (y1 + u) (x2 + t) (y2 + u) (x3 + t) (y3 + u) = countI x1 y1 x2 y2 x3 y3 := by
  refine count_eq (((count_tot x1 y1 x2 y2 x3 y3).move t u).ext fun x y => ?_)
  have e : ∀ a b c d : Int, crossI (a + t) (b + u) (c + t) (d + u) x y = crossI a b c d (x - t) (y - u) := fun a b c d => by unfold crossI; grind
  unfold inF inI
  rw [e, e, e]
theorem cross_shear (a b c d x y : Int) : crossI (a + b) b (c + d) d x y = crossI a b c d (x - y) y := by unfold crossI; grind
theorem count_shear (x1 y1 x2 y2 x3 y3 : Int) : countI (x1 + y1) y1 (x2 + y2) y2 (x3 + y3) y3 = countI x1 y1 x2 y2 x3 y3 := by
  refine count_eq ((count_tot x1 y1 x2 y2 x3 y3).shear.ext fun x y => ?_)
  unfold inF inI
  rw [cross_shear, cross_shear, cross_shear]
theorem inI_swap (x1 y1 x2 y2 x3 y3 x y : Int) : inI y1 x1 y2 x2 y3 x3 y x = inI x1 y1 x2 y2 x3 y3 x y := by
  have e : ∀ a b c d, crossI b a d c y x = - crossI a b c d x y := fun a b c d => by unfold crossI; grind
  unfold inI
  rw [e x1, e x2, e x3, Bool.or_comm, decide_eq_decide.mpr sgn3, decide_eq_decide.mpr sgn3']
theorem count_swap (x1 y1 x2 y2 x3 y3 : Int) : countI y1 x1 y2 x2 y3 x3 = countI x1 y1 x2 y2 x3 y3 := by
  refine count_eq ((count_tot x1 y1 x2 y2 x3 y3).flip.ext fun x y => ?_)
  show b2i _ = b2i _
  rw [← inI_swap]
theorem inI_neg (x1 y1 x2 y2 x3 y3 x y : Int) : inI (-x1) y1 (-x2) y2 (-x3) y3 x y = inI x1 y1 x2 y2 x3 y3 (-x) y := by
  have e : ∀ a b c d, crossI (-a) b (-c) d x y = - crossI a b c d (-x) y := fun a b c d => by unfold crossI; grind
  unfold inI
  rw [e x1, e x2, e x3, Bool.or_comm, decide_eq_decide.mpr sgn3, decide_eq_decide.mpr sgn3']
theorem count_neg (x1 y1 x2 y2 x3 y3 : Int) : countI (-x1) y1 (-x2) y2 (-x3) y3 = countI x1 y1 x2 y2 x3 y3 := by
  refine count_eq ((count_tot x1 y1 x2 y2 x3 y3).negx.ext fun x y => ?_)
  show b2i _ = b2i _
  rw [inI_neg]

/-- the law of Pick, for a triangle with a corner at the origin -/
def Pk (a b c d : Int) : Prop := a * d - c * b ≠ 0 → absI (a * d - c * b) = 2 * countI 0 0 a b c d + (Int.gcd a b + Int.gcd (c - a) (d - b) + Int.gcd c d) - 2
theorem absI_neg (x : Int) : absI (-x) = absI x := by unfold absI; split <;> split <;> omega
theorem Pk.swap {a b c d : Int} (h : Pk a b c d) : Pk b a d c := by
  unfold Pk at *
  intro hn
  have e : b * c - d * a = -(a * d - c * b) := by grind
  rw [e, absI_neg, count_swap 0 0 a b c d, Int.gcd_comm b a, Int.gcd_comm (d - b), Int.gcd_comm d c]
  exact h (by omega)
theorem Pk.neg {a b c d : Int} (h : Pk a b c d) : Pk (-a) b (-c) d := by
  unfold Pk at *
  intro hn
  have e : (-a) * d - (-c) * b = -(a * d - c * b) := by grind
  have e2 : countI 0 0 (-a) b (-c) d = countI 0 0 a b c d := count_neg 0 0 a b c d
  rw [e, absI_neg, e2, Int.neg_gcd, show -c - -a = -(c - a) by omega, Int.neg_gcd, Int.neg_gcd]
  exact h (by omega)
theorem gcd_sh (a b : Int) : Int.gcd (a + b) b = Int.gcd a b := by simp
theorem Pk.shear {a b c d : Int} : Pk (a + b) b (c + d) d ↔ Pk a b c d := by
  unfold Pk
  have e : (a + b) * d - (c + d) * b = a * d - c * b := by grind
  have e2 : countI 0 0 (a + b) b (c + d) d = countI 0 0 a b c d := count_shear 0 0 a b c d
  rw [e, e2, gcd_sh, gcd_sh, show c + d - (a + b) = (c - a) + (d - b) by omega, gcd_sh]

-- PD
open PySem.W
set_option linter.unusedVariables false

theorem Sz_row (lo hi : Int) (p : Int → Prop) [DecidablePred p] (h : ∀ x, p x ↔ lo < x ∧ x < hi) (hle : lo < hi) (LO : Int) (N : Nat) (h1 : LO ≤ lo + 1) (h2 : hi ≤ LO + N) :
    Sz LO N (fun x => one (p x)) = hi - lo - 1 := by
  rw [Sz_wide (lo := lo + 1) (n := (hi - lo - 1).toNat) (fun x hx => ?_) h1 (by omega)]
  · rw [Sz_ext (g := fun _ => 1) fun x h3 h4 => ?_, Sz_const]
    · omega
    · unfold one
      exact if_pos ((h x).mpr (by omega))
  · have : p x := by
      refine Decidable.byContradiction fun q => hx ?_
      unfold one; exact if_neg q
    have := (h x).mp this
    omega
theorem base_cross {g a b x y : Int} (hg : 0 < g) (hb : 0 < b) : inI 0 0 g 0 a b x y = true ↔ 0 < y ∧ a * y < b * x ∧ (g - a) * y < b * (g - x) := by
  have e1 : crossI 0 0 g 0 x y = g * y := by unfold crossI; grind
  have e2 : crossI g 0 a b x y = b * (g - x) - (g - a) * y := by unfold crossI; grind
  have e3 : crossI a b 0 0 x y = b * x - a * y := by unfold crossI; grind
  have es : g * y + (b * (g - x) - (g - a) * y) + (b * x - a * y) = g * b := by grind
  have hgb := Int.mul_pos hg hb
  unfold inI
  rw [e1, e2, e3]
  have ey : 0 < g * y ↔ 0 < y := ⟨fun h => Int.pos_of_mul_pos_right h hg |> fun q => q, fun h => Int.mul_pos hg h⟩
  constructor
  · intro h
    simp only [Bool.or_eq_true, decide_eq_true_eq] at h
    rcases h with h | h
    · exact ⟨ey.mp h.1, by omega, by omega⟩
    · omega
  · rintro ⟨h1, h2, h3⟩
    simp only [Bool.or_eq_true, decide_eq_true_eq]
    exact .inl ⟨ey.mpr h1, by omega, by omega⟩
theorem quo_low {c y b : Int} (hb : 0 < b) (h1 : 0 < y) (h2 : y < b) : min 0 c ≤ c * y / b := by
  rw [Int.le_ediv_iff_mul_le hb]
  rcases Int.le_total 0 c with hc | hc
  · rw [Int.min_eq_left hc, Int.zero_mul]
    exact Int.mul_nonneg hc (Int.le_of_lt h1)
  · rw [Int.min_eq_right hc]
    exact Int.mul_le_mul_of_nonpos_left hc (Int.le_of_lt h2)
theorem max_min (g a : Int) : g - max g a ≤ min 0 (g - a) := by omega
theorem quo_sum {g a y b : Int} (hg : 0 < g) (hb : 0 < b) (h2 : y < b) : a * y / b < g - (g - a) * y / b := by
  have h3 := Int.ediv_mul_le (a * y) (Int.ne_of_gt hb)
  have h4 := Int.ediv_mul_le ((g - a) * y) (Int.ne_of_gt hb)
  have h5 : g * y < g * b := Int.mul_lt_mul_of_pos_left h2 hg
  have h6 : (a * y / b + (g - a) * y / b) * b < g * b := by grind
  exact Int.lt_sub_right_of_add_lt (Int.lt_of_mul_lt_mul_right h6 (Int.le_of_lt hb))
theorem quo_iff {g a y b x : Int} (hb : 0 < b) : (a * y < b * x ∧ (g - a) * y < b * (g - x)) ↔ (a * y / b < x ∧ x < g - (g - a) * y / b) := by
  have e1 : a * y / b < x ↔ a * y < b * x := by rw [Int.ediv_lt_iff_lt_mul hb, Int.mul_comm x]
  have e2 : (g - a) * y / b < g - x ↔ (g - a) * y < b * (g - x) := by rw [Int.ediv_lt_iff_lt_mul hb, Int.mul_comm (g - x)]
  rw [← e1, ← e2]
  omega
theorem row_end (g p q : Int) : g - q - p - 1 = g - 1 - p - q := by omega
theorem base_count {g a : Int} {b : Nat} (hg : 0 < g) (hb : 0 < b) : countI 0 0 g 0 a b = Sz 1 (b - 1) (fun y => g - 1 - a * y / b - (g - a) * y / b) := by
  have hb' : (0 : Int) < b := Int.natCast_pos.mpr hb
  have yb : ∀ {x y : Int}, a * y < b * x → (g - a) * y < b * (g - x) → y < b := fun {x y} h1 h2 => by
    have : g * y < g * b := by grind
    exact Int.lt_of_mul_lt_mul_left this (Int.le_of_lt hg)
  have low1 : ∀ y : Int, 0 < y → y < b → min 0 a ≤ a * y / b := fun y h1 h2 => quo_low hb' h1 h2
  have low2 : ∀ y : Int, 0 < y → y < b → g - max g a ≤ (g - a) * y / b := fun y h1 h2 => Int.le_trans (max_min g a) (quo_low hb' h1 h2)
  have l0 : min 0 a ≤ 0 := Int.min_le_left ..
  have la : min 0 a ≤ a := Int.min_le_right ..
  have g1 : g ≤ max g a := Int.le_max_left ..
  have g2 : a ≤ max g a := Int.le_max_right ..
  generalize min 0 a = lo at *
  generalize max g a = hi at *
  have lg := Int.le_trans l0 (Int.le_of_lt hg)
  have g0 := Int.le_trans (Int.le_of_lt hg) g1
  refine count_eq (Tot.flip (f := fun y x => inF 0 0 g 0 a b x y) (Tot.of 1 (b - 1) lo (hi + 1 - lo).toNat (fun y x h => ?_) ?_))
  · have h1 := inF_true h
    have h2 := inI_box (lo := lo) (hi := hi) (mo := 0) (mi := b) h1 l0 lg la g0 g1 g2 (Int.le_refl _) (Int.le_refl _) (Int.le_of_lt hb') (Int.le_of_lt hb') (Int.le_of_lt hb') (Int.le_refl _)
    have h3 := (base_cross hg hb').mp h1
    have h4 := yb h3.2.1 h3.2.2
    exact ⟨by omega, rng h2.1⟩
  · refine Sz_ext fun y h1 h2 => ?_
    have hyb : y < b := by omega
    show Sz _ _ (fun x => inF 0 0 g 0 a b x y) = _
    have e : (fun x => inF 0 0 g 0 a b x y) = fun x => one (a * y < b * x ∧ (g - a) * y < b * (g - x)) := funext fun x => by
      show b2i _ = _
      unfold one b2i
      by_cases q : a * y < b * x ∧ (g - a) * y < b * (g - x)
      · rw [if_pos q, if_pos ((base_cross hg hb').mpr ⟨h1, q⟩)]
      · rw [if_neg q, if_neg fun r => q ((base_cross hg hb').mp r).2]
    have b1 := low1 y h1 hyb
    have b2 := low2 y h1 hyb
    rw [e, Sz_row (a * y / b) (g - (g - a) * y / b) _ (fun x => quo_iff hb') (quo_sum hg hb' hyb) lo _ (by omega) (by omega)]
    exact row_end ..
theorem Sz_sub (lo : Int) (f g : Int → Int) : ∀ (n : Nat), Sz lo n (fun x => f x - g x) = Sz lo n f - Sz lo n g
  | 0 => rfl
  | n + 1 => by
    rw [Sz_succ, Sz_succ, Sz_succ, Sz_sub lo f g n]; omega
theorem Pk.base {g a b : Int} (hg : 0 < g) (hb : 0 < b) : Pk g 0 a b := by
  obtain ⟨b, rfl⟩ := Int.eq_ofNat_of_zero_le (Int.le_of_lt hb)
  intro _
  rw [base_count hg (by omega), Sz_sub, Sz_sub _ (fun _ => g - 1), Sz_const]
  have h1 := Sz_floor a b (by omega)
  have h2 := Sz_floor (g - a) b (by omega)
  have e1 : Int.gcd g 0 = g.natAbs := by simp
  have e2 : Int.gcd (a - g) (b - 0) = Int.gcd (g - a) b := by rw [Int.sub_zero, show a - g = -(g - a) by omega, Int.neg_gcd]
  have e3 : absI (g * b - a * 0) = g * b := by
    have := Int.mul_pos hg hb
    unfold absI; rw [Int.mul_zero, Int.sub_zero, if_neg (by omega)]
  have e4 : ((b - 1 : Nat) : Int) = b - 1 := by omega
  have e5 : ((g.natAbs : Nat) : Int) = g := by omega
  rw [e1, e2, e3, e4, e5]
  grind
theorem Pk.all : ∀ (n : Nat) (a b c d : Int), a.natAbs + b.natAbs ≤ n → Pk a b c d := by
  have flat : ∀ (a c d : Int), Pk a 0 c d := fun a c d => by
    have pos : ∀ (a c d : Int), 0 < a → Pk a 0 c d := fun a c d ha => by
      by_cases hd : 0 < d
      · exact Pk.base ha hd
      · by_cases hd' : d = 0
        · intro hn
          subst hd'
          exact absurd (by grind) hn
        · have := (Pk.base (g := a) (a := c) (b := -d) ha (by omega)).swap.neg.swap
          simpa using this
    by_cases h1 : 0 < a
    · exact pos a c d h1
    by_cases h2 : a = 0
    · intro hn
      subst h2
      exact absurd (by grind) hn
    · have := (pos (-a) (-c) d (by omega)).neg
      simpa using this
  intro n
  induction n with
  | zero => 
    intro a b c d h
    have : b = 0 := by omega
    subst this
    exact flat a c d
  | succ n ih => 
    intro a b c d h
    have step : ∀ (a b c d : Int), a.natAbs + b.natAbs ≤ n + 1 → b ≠ 0 → b.natAbs ≤ a.natAbs → Pk a b c d := fun a b c d h hb hle => by
      by_cases hs : (0 < a ∧ 0 < b) ∨ (a < 0 ∧ b < 0)
      · have := ih (a - b) b (c - d) d (by omega)
        have := Pk.shear.mpr this
        simpa using this
      · have := ih (a + b) b (c + d) d (by omega)
        exact Pk.shear.mp this
    by_cases hb : b = 0
    · subst hb; exact flat a c d
    by_cases ha : a = 0
    · subst ha; exact (flat b d c).swap
    by_cases hle : b.natAbs ≤ a.natAbs
    · exact step a b c d h hb hle
    · exact (step b a d c (by omega) ha (by omega)).swap

-- PE
open PySem.W
set_option linter.unusedVariables false

theorem absI_toNat (x : Int) : (absI x).toNat = x.natAbs := by
  unfold absI
  split <;> omega
theorem side_gcd (x1 y1 x2 y2 : Int) : sideI x1 y1 x2 y2 = (Int.gcd (x2 - x1) (y2 - y1) : Int) := by
  unfold sideI gcdI
  rw [absI_toNat, absI_toNat]; rfl
theorem size_zero {x : Int} : absI x = 0 ↔ x = 0 := by unfold absI; omega
theorem sb_m (x y s : Int) : x + s - 9 - (y + s - 9) = x - y := by omega
theorem sb_3 (x y : Int) : x + 3 - (y + 3) = x - y := by omega
theorem sb_s (x y x' y' : Int) : x + y - (x' + y') = x - x' + (y - y') := by omega
theorem tri_ok (x1 y1 x2 y2 x3 y3 s0 : Int) : TriOK x1 y1 x2 y2 x3 y3 s0 := by
  have mv : ∀ t u : Int, crossI (x1 + t) (y1 + u) (x2 + t) (y2 + u) (x3 + t) (y3 + u) = crossI x1 y1 x2 y2 x3 y3 := fun t u => by unfold crossI; grind
  have sh : crossI (x1 + y1) y1 (x2 + y2) y2 (x3 + y3) y3 = crossI x1 y1 x2 y2 x3 y3 := by unfold crossI; grind
  refine ⟨fun h => ?_, fun h => ?_, ?_, ?_, ?_, ?_, ?_, ?_⟩
  · have P := Pk.all _ (x2 - x1) (y2 - y1) (x3 - x1) (y3 - y1) (Nat.le_refl _)
    unfold Pk at P
    have ec : (x2 - x1) * (y3 - y1) - (x3 - x1) * (y2 - y1) = crossI x1 y1 x2 y2 x3 y3 := rfl
    have en : countI 0 0 (x2 - x1) (y2 - y1) (x3 - x1) (y3 - y1) = countI x1 y1 x2 y2 x3 y3 := by
      have := count_move 0 0 (x2 - x1) (y2 - y1) (x3 - x1) (y3 - y1) x1 y1
      simpa using this.symm
    rw [ec, en, show x3 - x1 - (x2 - x1) = x3 - x2 by omega, show y3 - y1 - (y2 - y1) = y3 - y2 by omega] at P
    unfold sizeI edgeI at *
    rw [side_gcd, side_gcd, side_gcd x3, show x1 - x3 = -(x3 - x1) by omega, show y1 - y3 = -(y3 - y1) by omega, Int.neg_gcd, Int.gcd_neg]
    have := P fun q => h (size_zero.mpr q)
    omega
  · refine count_eq (Tot.of 0 0 0 0 (fun x y q => ?_) rfl)
    have h0 : crossI x1 y1 x2 y2 x3 y3 = 0 := size_zero.mp h
    have h1 := inI_cases (inF_true q)
    have h2 := cross_sum x1 y1 x2 y2 x3 y3 x y
    omega
  · unfold sizeI
    have := mv (s0 - 9) 3
    simp only [← Int.add_sub_assoc] at this
    rw [this]
  · have := count_move x1 y1 x2 y2 x3 y3 (s0 - 9) 3
    simp only [← Int.add_sub_assoc] at this
    exact this
  · unfold edgeI
    rw [side_gcd, side_gcd, side_gcd (x3 + s0 - 9), side_gcd, side_gcd, side_gcd x3, sb_m, sb_m, sb_m, sb_3, sb_3, sb_3]
  · unfold sizeI; rw [sh]
  · exact count_shear ..
  · unfold edgeI
    rw [side_gcd, side_gcd, side_gcd (x3 + y3), side_gcd, side_gcd, side_gcd x3, sb_s, sb_s, sb_s, gcd_sh, gcd_sh, gcd_sh]

-- PF
open PySem.W
set_option linter.unusedVariables false

theorem b2i_one (b : Bool) : b2i b = one (b = true) := rfl
theorem len_row (p : Int × Int → Bool) (i : Int) : ∀ m : Nat, ((((List.range m).map fun (j : Nat) => (i, Int.ofNat j)).filter p).length : Int) = Sz 0 m (fun y => b2i (p (i, y)))
  | 0 => rfl
  | m + 1 => by
    rw [List.range_succ, List.map_append, List.filter_append, List.length_append, Int.natCast_add, len_row p i m, Sz_succ]
    congr 1
    rw [Int.zero_add]
    show (((List.filter p [(i, Int.ofNat m)]).length : Nat) : Int) = b2i (p (i, Int.ofNat m))
    rw [List.filter_cons]
    cases p (i, Int.ofNat m) <;> rfl
theorem len_box (p : Int × Int → Bool) (m : Nat) : ∀ n : Nat, ((((List.range n).flatMap fun (i : Nat) => (List.range m).map fun (j : Nat) => (Int.ofNat i, Int.ofNat j)).filter p).length : Int) = Sz 0 n (fun x => Sz 0 m (fun y => b2i (p (x, y))))
  | 0 => rfl
  | n + 1 => by
    rw [List.range_succ, List.flatMap_append, List.filter_append, List.length_append, Int.natCast_add, len_box p m n, Sz_succ]
    congr 1
    rw [Int.zero_add, List.flatMap_singleton, len_row p (Int.ofNat n) m]; rfl
theorem len_spots (p : Int × Int → Bool) : ((spotsL.filter p).length : Int) = Sz 0 8 (fun x => Sz 0 8 (fun y => b2i (p (x, y)))) := len_box p 8 8
theorem mem_spots {x y : Int} (hx : 0 ≤ x ∧ x < 8) (hy : 0 ≤ y ∧ y < 8) : (x, y) ∈ spotsL := by
  obtain ⟨i, rfl⟩ := Int.eq_ofNat_of_zero_le hx.1
  obtain ⟨j, rfl⟩ := Int.eq_ofNat_of_zero_le hy.1
  unfold spotsL
  rw [List.mem_flatMap]
  refine ⟨i, List.mem_range.mpr (by omega), ?_⟩
  rw [List.mem_map]
  exact ⟨j, List.mem_range.mpr (by omega), rfl⟩
theorem count_spots {x1 y1 x2 y2 x3 y3 : Int} (a1 : 0 ≤ x1 ∧ x1 ≤ 7) (a2 : 0 ≤ y1 ∧ y1 ≤ 7) (a3 : 0 ≤ x2 ∧ x2 ≤ 7) (a4 : 0 ≤ y2 ∧ y2 ≤ 7) (a5 : 0 ≤ x3 ∧ x3 ≤ 7) (a6 : 0 ≤ y3 ∧ y3 ≤ 7) :
    Sz 0 8 (fun x => Sz 0 8 (fun y => b2i (inI x1 y1 x2 y2 x3 y3 x y))) = countI x1 y1 x2 y2 x3 y3 := by
  refine (count_eq (Tot.of 0 8 0 8 (fun x y h => ?_) rfl)).symm
  have := inI_box (lo := 0) (hi := 7) (mo := 0) (mi := 7) (inF_true h) a1.1 a3.1 a5.1 a1.2 a3.2 a5.2 a2.1 a4.1 a6.1 a2.2 a4.2 a6.2
  omega

/-- a point on the side, not at its ends -/
abbrev onP (a b e f x y : Int) : Prop := crossI a b e f x y = 0 ∧ (a < x ∨ a = x ∧ b < y) ∧ (x < e ∨ x = e ∧ y < f)
theorem onB_iff {a b e f x y : Int} (h : a < e ∨ a = e ∧ b < f) : onB a b e f x y = true ↔ onP a b e f x y := by
  unfold onB onP lexB lexG
  rw [decide_eq_false (p := e < a ∨ e = a ∧ f < b) (by omega), decide_eq_true (p := a < e ∨ e = a ∧ b < f) (by omega)]
  simp
theorem onB_iff' {a b e f x y : Int} (h : e < a ∨ e = a ∧ f < b) : onB a b e f x y = true ↔ onP e f a b x y := by
  have ec : crossI e f a b x y = - crossI a b e f x y := by unfold crossI; grind
  unfold onB onP lexB lexG
  rw [decide_eq_true (p := e < a ∨ e = a ∧ f < b) (by omega), decide_eq_false (p := a < e ∨ e = a ∧ b < f) (by omega), ec]
  simp
theorem on_row {a b e f k : Int} (u0 : 0 < e - a) (hk : 0 < k ∧ k < e - a) (hb : 0 ≤ b ∧ b ≤ 7) (hf : 0 ≤ f ∧ f ≤ 7) :
    Sz 0 8 (fun y => one ((e - a) * (y - b) = k * (f - b))) = one ((e - a) ∣ (f - b) * k) := by
  by_cases h : (e - a) ∣ (f - b) * k
  · obtain ⟨c, hc⟩ := id h
    have hc1 : min 0 (f - b) ≤ c ∧ c ≤ max 0 (f - b) := by
      by_cases hv : 0 ≤ f - b
      · have h1 : (e - a) * 0 ≤ (e - a) * c := by rw [Int.mul_zero, ← hc]; exact Int.mul_nonneg hv (by omega)
        have h2 : (e - a) * c ≤ (e - a) * (f - b) := by rw [← hc, Int.mul_comm (e - a)]; exact Int.mul_le_mul_of_nonneg_left (by omega) hv
        have := Int.le_of_mul_le_mul_left h1 u0
        have := Int.le_of_mul_le_mul_left h2 u0
        omega
      · have h1 : (e - a) * c ≤ (e - a) * 0 := by rw [Int.mul_zero, ← hc]; exact Int.mul_nonpos_of_nonpos_of_nonneg (by omega) (by omega)
        have h2 : (e - a) * (f - b) ≤ (e - a) * c := by rw [← hc, Int.mul_comm (e - a)]; exact Int.mul_le_mul_of_nonpos_left (by omega) (by omega)
        have := Int.le_of_mul_le_mul_left h1 u0
        have := Int.le_of_mul_le_mul_left h2 u0
        omega
    rw [Sz_row (b + c - 1) (b + c + 1) _ (fun y => ?_) (by omega) 0 8 (by omega) (by omega)]
    · unfold one; rw [if_pos h]; omega
    · rw [show k * (f - b) = (e - a) * c by rw [← hc, Int.mul_comm]]
      constructor
      · intro q
        have := Int.eq_of_mul_eq_mul_left (by omega) q
        omega
      · intro q
        rw [show y - b = c by omega]
  · rw [Sz_zero]
    · unfold one; rw [if_neg h]
    · intro y _ _
      unfold one
      refine if_neg fun q => h ⟨y - b, ?_⟩
      rw [q, Int.mul_comm]
theorem onP_iff {a b e f x y : Int} (hae : a < e) : onP a b e f x y ↔ (a < x ∧ x < e) ∧ (e - a) * (y - b) = (x - a) * (f - b) := by
  have ec : crossI a b e f x y = (e - a) * (y - b) - (x - a) * (f - b) := rfl
  unfold onP
  rw [ec]
  constructor
  · rintro ⟨h1, h2, h3⟩
    have h1 := Int.sub_eq_zero.mp h1
    refine ⟨⟨?_, ?_⟩, h1⟩
    · rcases h2 with h2 | ⟨rfl, h2⟩
      · exact h2
      · rw [Int.sub_self, Int.zero_mul] at h1
        exact absurd h1 (Int.ne_of_gt (Int.mul_pos (Int.sub_pos_of_lt hae) (Int.sub_pos_of_lt h2)))
    · rcases h3 with h3 | ⟨rfl, h3⟩
      · exact h3
      · have := Int.eq_of_mul_eq_mul_left (Int.ne_of_gt (Int.sub_pos_of_lt hae)) h1
        omega
  · rintro ⟨h1, h2⟩
    exact ⟨Int.sub_eq_zero.mpr h2, .inl h1.1, .inl h1.2⟩
theorem one_congr {p q : Prop} [Decidable p] [Decidable q] (h : p ↔ q) : one p = one q := by
  unfold one
  by_cases r : q
  · rw [if_pos r, if_pos (h.mpr r)]
  · rw [if_neg r, if_neg fun s => r (h.mp s)]
theorem one_sum {p : Int → Prop} [DecidablePred p] {lo : Int} {n : Nat} (h : Sz lo n (fun y => one (p y)) ≠ 0) : ∃ y, p y := by
  refine Classical.byContradiction fun q => h (Sz_zero fun y _ _ => ?_)
  unfold one
  exact if_neg fun r => q ⟨y, r⟩
theorem on_count1 {a b e f : Int} (u : Nat) (hu : e - a = (u : Int) + 1) (ha : 0 ≤ a) (he : e ≤ 7) (hb : 0 ≤ b ∧ b ≤ 7) (hf : 0 ≤ f ∧ f ≤ 7) :
    Sz 0 8 (fun x => Sz 0 8 (fun y => one (onP a b e f x y))) = Int.gcd (e - a) (f - b) - 1 := by
  have hae : a < e := by omega
  rw [Sz_wide (lo := a + 1) (n := u) (fun x hx => ?_) (by omega) (by omega)]
  · have e1 := Sz_shift 1 a (fun x => Sz 0 8 (fun y => one (onP a b e f x y))) u
    rw [Int.add_comm a 1, ← e1, Int.gcd_comm, hu]
    have e2 := Sz_dvd1 (f - b) (u + 1) (Nat.succ_pos _)
    refine Eq.trans (Sz_ext fun k h1 h2 => ?_) e2
    have hk : 0 < k ∧ k < e - a := by omega
    have e3 := on_row (Int.sub_pos_of_lt hae) hk hb hf
    rw [hu] at e3
    refine Eq.trans (Sz_ext fun y _ _ => one_congr ?_) e3
    rw [onP_iff hae, Int.add_sub_cancel, hu]
    exact ⟨fun q => q.2, fun q => ⟨by omega, q⟩⟩
  · obtain ⟨y, hy⟩ := one_sum hx
    have := ((onP_iff hae).mp hy).1
    omega
theorem on_count0 {a b f : Int} (hbf : b < f) (ha : 0 ≤ a ∧ a ≤ 7) (hb : 0 ≤ b) (hf : f ≤ 7) : Sz 0 8 (fun x => Sz 0 8 (fun y => one (onP a b a f x y))) = Int.gcd (a - a) (f - b) - 1 := by
  have hp : ∀ x y, onP a b a f x y ↔ x = a ∧ b < y ∧ y < f := fun x y => by
    unfold onP
    constructor
    · rintro ⟨_, h2, h3⟩; omega
    · rintro ⟨rfl, h2⟩
      refine ⟨?_, .inr ⟨rfl, h2.1⟩, .inr ⟨rfl, h2.2⟩⟩
      unfold crossI; rw [Int.sub_self, Int.zero_mul, Int.zero_mul]; rfl
  rw [Sz_wide (lo := a) (n := 1) (fun x hx => ?_) ha.1 (by omega)]
  · show 0 + Sz 0 8 (fun y => one (onP a b a f (a + ((0 : Nat) : Int)) y)) = _
    rw [show a + ((0 : Nat) : Int) = a from Int.add_zero a, Int.zero_add, Sz_row b f _ (fun y => ?_) hbf 0 8 (by omega) (by omega)]
    · rw [Int.sub_self, Int.gcd_zero_left]; omega
    · rw [hp]; exact ⟨fun q => q.2, fun q => ⟨rfl, q⟩⟩
  · obtain ⟨y, hy⟩ := one_sum hx
    have := ((hp x y).mp hy).1
    omega
theorem on_count {a b e f : Int} (h : a < e ∨ a = e ∧ b < f) (ha : 0 ≤ a ∧ a ≤ 7) (hb : 0 ≤ b ∧ b ≤ 7) (he : 0 ≤ e ∧ e ≤ 7) (hf : 0 ≤ f ∧ f ≤ 7) :
    Sz 0 8 (fun x => Sz 0 8 (fun y => one (onP a b e f x y))) = Int.gcd (e - a) (f - b) - 1 := by
  rcases h with h | ⟨rfl, h⟩
  · exact on_count1 (e - a - 1).toNat (by omega) ha.1 he.2 hb hf
  · exact on_count0 h ha hb.1 hf.2
theorem on_spots {a b e f : Int} (h : ¬ (a = e ∧ b = f)) (ha : 0 ≤ a ∧ a ≤ 7) (hb : 0 ≤ b ∧ b ≤ 7) (he : 0 ≤ e ∧ e ≤ 7) (hf : 0 ≤ f ∧ f ≤ 7) :
    Sz 0 8 (fun x => Sz 0 8 (fun y => b2i (onB a b e f x y))) = sideI a b e f - 1 := by
  have pt : ∀ (p : Int → Int → Prop) [∀ x y, Decidable (p x y)], (∀ x y, onB a b e f x y = true ↔ p x y) → (fun x => Sz 0 8 (fun y => b2i (onB a b e f x y))) = fun x => Sz 0 8 (fun y => one (p x y)) := fun p _ hp => by
    funext x
    refine Sz_ext fun y _ _ => ?_
    unfold b2i one
    by_cases q : p x y
    · rw [if_pos q, if_pos ((hp x y).mpr q)]
    · rw [if_neg q, if_neg fun r => q ((hp x y).mp r)]
  rw [side_gcd]
  by_cases hl : a < e ∨ a = e ∧ b < f
  · rw [pt _ fun x y => onB_iff hl, on_count hl ha hb he hf]
  · have hl' : e < a ∨ e = a ∧ f < b := by omega
    rw [pt _ fun x y => onB_iff' hl', on_count hl' he hf ha hb, show e - a = -(a - e) by omega, show f - b = -(b - f) by omega, Int.neg_gcd, Int.gcd_neg]

theorem three {p q r : Bool} {c : Int} (h1 : p = true → c < 0) (h2 : q = true → 0 < c) (h3 : r = true → c = 0) : b2i (p || q || r) = b2i q + b2i p + b2i r := by
  cases p <;> cases q <;> cases r <;> first | rfl | exact absurd (h1 rfl) (Int.not_lt.mpr (Int.le_of_lt (h2 rfl))) | exact absurd (h1 rfl) (by rw [h3 rfl]; decide) | exact absurd (h2 rfl) (by rw [h3 rfl]; decide)
theorem inI_pos {x1 y1 x2 y2 x3 y3 x y : Int} (q : inI x1 y1 x2 y2 x3 y3 x y = true) (h : 0 < crossI x1 y1 x2 y2 x3 y3) : 0 < crossI x1 y1 x2 y2 x y ∧ 0 < crossI x2 y2 x3 y3 x y ∧ 0 < crossI x3 y3 x1 y1 x y := by
  rcases inI_cases q with h1 | h1
  · exact h1
  · have := cross_sum x1 y1 x2 y2 x3 y3 x y
    omega
theorem inI_neg' {x1 y1 x2 y2 x3 y3 x y : Int} (q : inI x1 y1 x2 y2 x3 y3 x y = true) (h : crossI x1 y1 x2 y2 x3 y3 < 0) : crossI x1 y1 x2 y2 x y < 0 ∧ crossI x2 y2 x3 y3 x y < 0 ∧ crossI x3 y3 x1 y1 x y < 0 := by
  rcases inI_cases q with h1 | h1
  · have := cross_sum x1 y1 x2 y2 x3 y3 x y
    omega
  · exact h1
theorem mul_sgn {l r : Int} (h : l * r < 0) : (l < 0 ∧ 0 < r) ∨ (0 < l ∧ r < 0) := by
  rcases Int.lt_trichotomy l 0 with h1 | h1 | h1
  · refine .inl ⟨h1, Int.not_le.mp fun q => ?_⟩
    exact absurd h (Int.not_lt.mpr (Int.mul_nonneg_of_nonpos_of_nonpos (Int.le_of_lt h1) q))
  · rw [h1, Int.zero_mul] at h; exact absurd h (by decide)
  · refine .inr ⟨h1, Int.not_le.mp fun q => ?_⟩
    exact absurd h (Int.not_lt.mpr (Int.mul_nonneg (Int.le_of_lt h1) q))
theorem ne_sgn {l r : Int} (h : (l < 0 ∧ 0 < r) ∨ (0 < l ∧ r < 0)) : l ≠ 0 ∧ r ≠ 0 := by omega
theorem pick2 {z1 z2 z3 y1 y2 y3 k : Int} (h : z1 = 2 * z2 + z3 - 2) (h' : y1 = 2 * y2 + y3 - 2) : y1 + z1 = 2 * (y2 + z2 + k - 1) + (y3 + z3 - 2 * k) - 2 := by omega
theorem whole_ok {a b c d e f g i : Int} (a1 : 0 ≤ a ∧ a ≤ 7) (a2 : 0 ≤ b ∧ b ≤ 7) (a3 : 0 ≤ c ∧ c ≤ 7) (a4 : 0 ≤ d ∧ d ≤ 7) (a5 : 0 ≤ e ∧ e ≤ 7) (a6 : 0 ≤ f ∧ f ≤ 7) (a7 : 0 ≤ g ∧ g ≤ 7) (a8 : 0 ≤ i ∧ i ≤ 7)
    (h : crossI a b e f c d * crossI a b e f g i < 0) :
    WholeOK a b c d e f g i (crossI a b e f c d) (crossI a b e f g i) (sizeI a b c d e f) (countI a b c d e f) (edgeI a b c d e f) (sizeI a b e f g i) (countI a b e f g i) (edgeI a b e f g i) := by
  have sgn := mul_sgn h
  have e1 : crossI a b c d e f = - crossI a b e f c d := by unfold crossI; grind
  have T1 := tri_ok a b c d e f 0
  have T2 := tri_ok a b e f g i 0
  have P1 := T1.p1 fun q => (ne_sgn sgn).1 (Int.neg_eq_zero.mp (e1 ▸ size_zero.mp q))
  have P2 := T2.p1 fun q => (ne_sgn sgn).2 (size_zero.mp q)
  have hne : ¬ (a = e ∧ b = f) := by
    rintro ⟨rfl, rfl⟩
    exact (ne_sgn sgn).1 (by unfold crossI; rw [Int.sub_self, Int.sub_self, Int.zero_mul, Int.mul_zero]; rfl)
  have on := on_spots hne a1 a2 a5 a6
  refine ⟨?_, ?_, ?_, ?_⟩
  · unfold sizeI; rw [e1, absI_neg]; exact Int.add_comm _ _
  · exact pick2 P1 P2
  · rw [len_spots]; exact on
  · rw [len_spots, ← count_spots a1 a2 a3 a4 a5 a6, ← count_spots a1 a2 a5 a6 a7 a8, Int.add_sub_assoc, ← on, ← Sz_plus, ← Sz_plus]
    refine Sz_ext fun x hx1 hx2 => ?_
    rw [← Sz_plus, ← Sz_plus]
    refine Sz_ext fun y hy1 hy2 => ?_
    have ec : (spotsL.filter fun q => onB a b e f q.1 q.2).contains (x, y) = onB a b e f x y := by
      cases q : onB a b e f x y with
      | true => exact List.contains_iff_mem.mpr (List.mem_filter.mpr ⟨mem_spots ⟨hx1, by omega⟩ ⟨hy1, by omega⟩, q⟩)
      | false =>
        rw [Bool.eq_false_iff]
        intro r
        have := (List.mem_filter.mp (List.contains_iff_mem.mp r)).2
        rw [q] at this; cases this
    dsimp only
    rw [ec]
    have s3 : onB a b e f x y = true → crossI a b e f x y = 0 := fun q => by
      unfold onB at q
      simp only [Bool.and_eq_true, decide_eq_true_eq] at q
      exact q.1
    have ef : crossI e f a b x y = - crossI a b e f x y := by unfold crossI; grind
    rcases sgn with ⟨g1, g2⟩ | ⟨g1, g2⟩
    · exact three (fun q => Int.neg_pos.mp (ef ▸ (inI_pos q (e1 ▸ Int.neg_pos.mpr g1)).2.2)) (fun q => (inI_pos q g2).1) s3
    · have := three (c := - crossI a b e f x y) (fun q => ef ▸ (inI_neg' q (e1 ▸ Int.neg_neg_iff_pos.mpr g1)).2.2) (fun q => Int.neg_pos.mpr (inI_neg' q g2).1) fun q => (by rw [s3 q]; rfl)
      exact this

-- N1
open PySem PySem.W PyProof.Rows PySem.Calls
set_option Elab.async false
set_option linter.unusedVariables false
set_option maxRecDepth 100000


section
variable {p : Program} {loose : List Str} {mean : ExcName → Option Value} {mg mb : Str → Option Value} {w : World} {A A' A₀ : Around} {s : Shared} {Q : Flow → Shared → Prop} {R : Value → Shared → Prop}

set_option maxHeartbeats 8000000 in
theorem law_s7 {o : Obj} (ho : (hd.heap_39 w.params).lookup 108 = some o) {qual : Str} {body : List Stmt} {scope : Scope} {cdv cd : Value} {fa : Addr} (hf : funOf o = some (qual, body, scope, cdv)) {st : Stmt} (hst : body[7]? = some st)
    {base g : Heap} {outer : List Env} {L : Addr} (l51 : @LT.lt Nat _ 51 L) (B : Below A₀ base outer g) (SA : (A.deeper (envOfC qual scope L fa cd)).frames = some (envOfC qual scope L fa cd :: outer))
    (ret : ∀ tk', Q (.ret (.bool true)) { s with toks := tk' }) :
    wpAny (model PySem.Challenge.rw_zt0001_01.row.prog w) (A.deeper (envOfC qual scope L fa cd)) (exec st (envOfC qual scope L fa cd)) Q NoErr s := by
  revert ho; k_fill; intro ho
  obtain rfl := Option.some.inj (ho.symm.trans (by k_is : _ = some _))
  cases (hf.symm.trans (rfl : _ = some (_, _, _, _)))
  cases hst
  clear ho hf
  walk_at "STEPS"
  exact ret _

theorem mul_b {x y : Int} (hx : -7 ≤ x ∧ x ≤ 7) (hy : -7 ≤ y ∧ y ≤ 7) : -49 ≤ x * y ∧ x * y ≤ 49 := by
  have h1 := Int.mul_nonneg (show 0 ≤ 7 - x by omega) (show 0 ≤ 7 + y by omega)
  have h2 := Int.mul_nonneg (show 0 ≤ 7 + x by omega) (show 0 ≤ 7 - y by omega)
  have h3 := Int.mul_nonneg (show 0 ≤ 7 - x by omega) (show 0 ≤ 7 - y by omega)
  have h4 := Int.mul_nonneg (show 0 ≤ 7 + x by omega) (show 0 ≤ 7 + y by omega)
  constructor <;> grind
theorem cross_b {a b c d e f : Int} (a1 : 0 ≤ a ∧ a ≤ 7) (a2 : 0 ≤ b ∧ b ≤ 7) (a3 : 0 ≤ c ∧ c ≤ 7) (a4 : 0 ≤ d ∧ d ≤ 7) (a5 : 0 ≤ e ∧ e ≤ 7) (a6 : 0 ≤ f ∧ f ≤ 7) : -1000 ≤ crossI a b c d e f ∧ crossI a b c d e f ≤ 1000 := by
  unfold crossI
  have h1 := mul_b (x := c - a) (y := f - b) (by omega) (by omega)
  have h2 := mul_b (x := e - a) (y := d - b) (by omega) (by omega)
  omega

set_option maxHeartbeats 8000000 in
theorem law_body {o : Obj} (ho : (hd.heap_39 w.params).lookup 108 = some o) {qual : Str} {body : List Stmt} {scope : Scope} {cdv cd : Value} {fa : Addr} (hf : funOf o = some (qual, body, scope, cdv))
    {base g : Heap} {outer : List Env} {L l : Addr} (l51 : @LT.lt Nat _ 51 L) (l44 : @LT.lt Nat _ 44 L) (B : Below A₀ base outer g) (SA : (A.deeper (envOfC qual scope L fa cd)).frames = some (envOfC qual scope L fa cd :: outer))
    (F : Fr g L s.heap (bindL (envOfC qual scope L fa cd).kindOf [(Str.ofString "script", .ref l)] fun _ => none)) {c1 c2 c3 c4 c5 : Obj}
    (N : News g L s.heap [(L + 1 + 1 + 1 + 1 + 1, c5), (L + 1 + 1 + 1 + 1, c4), (L + 1 + 1 + 1, c3), (L + 1 + 1, c2), (L + 1, c1), (51, tabObj #[]), (44, tabObj #[])])
    (k1 : c1.data = .cell none) (k2 : c2.data = .cell none) (k3 : c3.data = .cell none) (k4 : c4.data = .cell none) (k5 : c5.data = .cell none)
    (X : (hd.heap_39 w.params).In g) (Tp : Top p loose mean mg mb g) (hh : A.handled = none) (hroom : A.depth + 200 < recursionLimit) (hu : A.units + 100 < cLine) (CC : Codes g)
    {vs : List Value} {ns : List Int} (hl : g.IsList l vs.toArray) (hi : IntsAre vs ns) (hn : ns.length ≤ 63)
    (ret : ∀ h' tk' m', Fr g L h' m' → Grown h' → Q (.ret (.bool true)) { s with heap := h', toks := tk' }) :
    wpAny (model PySem.Challenge.rw_zt0001_01.row.prog w) (A.deeper (envOfC qual scope L fa cd)) (execs body (envOfC qual scope L fa cd)) Q NoErr s := by
  obtain ⟨tgt, it3, b3, ore, ps3, sh⟩ := law_shape (fa := fa) (cd := cd) ho hf
  obtain ⟨st0, st1, st2, st4, st5, st6, st7, hb⟩ := sh.len
  have hb0 : body[0]? = some st0 := by rw [hb]; rfl
  have hb1 : body[1]? = some st1 := by rw [hb]; rfl
  have hb2 : body[2]? = some st2 := by rw [hb]; rfl
  have hb3 : body[3]? = some (.For tgt it3 b3 ore ps3) := by rw [hb]; rfl
  have hb4 : body[4]? = some st4 := by rw [hb]; rfl
  have hb5 : body[5]? = some st5 := by rw [hb]; rfl
  have hb6 : body[6]? = some st6 := by rw [hb]; rfl
  have hb7 : body[7]? = some st7 := by rw [hb]; rfl
  rw [hb]
  -- steps
  refine wpAny_execs_cons (law_s0 (p := p) (loose := loose) (mean := mean) (mg := mg) (mb := mb) ho hf hb0 l51 l44 B SA F N k1 X Tp hh hl hi hn ?_)
  clear F N
  intro ha tk1 D m1 o1 a b c d e f g' i t1 t2 t3 t4 t5 t6 t7 t8 F1 N k1' j1 j2 j3 a1 a2 a3 a4 a5 a6 a7 a8
  skip
  -- corners
  have Np := nw_pick N [0, 5, 1, 2, 3, 4, 6, 7]
  dsimp only [picks, List.drop, List.head?, Option.toList, List.cons_append, List.nil_append, List.append_nil] at Np
  refine wpAny_execs_cons (law_s1 (p := p) (loose := loose) (mean := mean) (mg := mg) (mb := mb) ho hf hb1 l51 l44 B SA F1 Np k1' X Tp hh ?_)
  intro hb' tk2 DC p0 p1 p2 p3 u0 u1 u2 u3 v0 v1 v2 v3 F2 N lt2
  have lt5 := lt2 (L + 1 + 1 + 1 + 1 + 1, c5) (.tail _ (.head _))
  dsimp only at lt5
  skip
  -- first, second
  refine wpAny_execs_cons (law_s2 (p := p) (loose := loose) (mean := mean) (mg := mg) (mb := mb) ho hf hb2 l51 l44 B SA F2 (if_pos rfl) N lt5.1 lt5.2.1 lt5.2.2.1 lt5.2.2.2.1 lt5.2.2.2.2 j1 k2 k3 X Tp hh ?_)
  intro hc tk3 DF DS cF cS o2' o3' m3 F3 hm3 N k2' k3' lF lS
  skip
  have T3 : Tabs hc := ⟨.inl (nw_pick N [14] _ (.head _)).1, .inl (nw_pick N [13] _ (.head _)).1⟩
  have g44 : g.get? 44 = none := (nw_pick N [14] _ (.head _)).2.2
  have g51 : g.get? 51 = none := (nw_pick N [13] _ (.head _)).2.2
  have up : ∀ {x : Addr}, @LT.lt Nat _ (L + 1 + 1 + 1 + 1 + 1) x → x ∉ ST := fun h => notST (by omega)
  have s1 : L + 1 ∉ ST := notST (by omega)
  have s2 : L + 1 + 1 ∉ ST := notST (by omega)
  have s3 : L + 1 + 1 + 1 ∉ ST := notST (by omega)
  have s4 : L + 1 + 1 + 1 + 1 ∉ ST := notST (by omega)
  have s5 : L + 1 + 1 + 1 + 1 + 1 ∉ ST := notST (by omega)
  have q1 := up lt5.1
  have q2 := up lt5.2.1
  have q3 := up lt5.2.2.1
  have q4 := up lt5.2.2.2.1
  have q5 := up lt5.2.2.2.2
  have q6 := up j1
  have q7 := up lF
  have q8 := up lS
  -- the loop
  have Np := nw_pick N [0, 1, 2, 3, 4, 5, 6, 7, 8, 9, 10, 11, 12]
  dsimp only [picks, List.drop, List.head?, Option.toList, List.cons_append, List.nil_append, List.append_nil] at Np
  refine wpAny_execs_cons (law_s3 (p := p) (loose := loose) (mean := mean) (mg := mg) (mb := mb) ho hf sh hb3 l51 B SA F3 X Tp hh hroom hu T3 CC g44 g51 hm3 rfl Np (st_cons q8 (st_cons q7 (st_cons q1 (st_cons q2 (st_cons q3 (st_cons q4 (st_cons q5 (st_cons q6 (st_cons s1 (st_cons s5 (st_cons s4 (st_cons s3 (st_cons s2 st_nil))))))))))))) k1' k2' k3' a1 a2 a3 a4 a5 a6 a7 a8 (tri_ok ..) (tri_ok ..) ?_)
  intro hd' tk4 m4 F4 hm4 T4 N
  skip
  -- one, other
  have Np := nw_pick N [0, 1, 3, 4, 5, 6, 11, 12, 2, 9, 10]
  dsimp only [picks, List.drop, List.head?, Option.toList, List.cons_append, List.nil_append, List.append_nil] at Np
  refine wpAny_execs_cons (law_s4 (p := p) (loose := loose) (mean := mean) (mg := mg) (mb := mb) ho hf hb4 l51 B SA F4 X Tp hh hroom hu T4 CC g44 g51 Np (st_cons q8 (st_cons q7 (st_cons q2 (st_cons q3 (st_cons q4 (st_cons q5 (st_cons s3 (st_cons s2 (st_cons q1 (st_cons s5 (st_cons s4 st_nil))))))))))) k2' k3' a1 a2 a3 a4 a5 a6 a7 a8 rfl rfl rfl rfl rfl rfl ?_)
  intro he tk5 m5 r1 r2 w1 w2 w3 w4 w5 w6 F5 hm5 ho1 ho2 T5 q9 q10 N
  skip
  have hm5c : m5 (Str.ofString "corners") = some (.ref DC) := (hm5 _ (by decide) (by decide)).trans hm4
  -- left, right
  have tn := tab_none F5 T5
  obtain ⟨qa, ya, oa, qb, yb, ob, NT, K⟩ := tabs_lay F5 T5 ⟨g44, tn.1⟩ ⟨g51, tn.2⟩
  have Np := nw_pick N [10, 4, 5, 6, 7, 0, 1, 2, 3, 11, 12, 8, 9]
  dsimp only [picks, List.drop, List.head?, Option.toList, List.cons_append, List.nil_append, List.append_nil] at Np
  refine wpAny_execs_cons (law_s5 (p := p) (loose := loose) (mean := mean) (mg := mg) (mb := mb) ho hf hb5 l51 B SA F5 X Tp hh hroom hu hm5c (news_app Np NT) a1 a2 a3 a4 a5 a6 a7 a8 rfl rfl ?_)
  intro hf' tk6 m6 x1 x2 F6 hm6 hl6 hr6 N
  skip
  have T6 : Tabs hf' := K _ F6.keep (nw_pick N [13] _ (.head _)).1 (nw_pick N [14] _ (.head _)).1 (nw_pick N [15] _ (.head _)).1 (nw_pick N [16] _ (.head _)).1
  have Np := nw_pick N [5, 6, 7, 8, 0, 1, 2, 3, 4, 9, 10, 11, 12]
  dsimp only [picks, List.drop, List.head?, Option.toList, List.cons_append, List.nil_append, List.append_nil] at Np
  refine wpAny_execs_cons (law_s6 (p := p) (loose := loose) (mean := mean) (mg := mg) (mb := mb) ho hf hb6 l51 B SA F6 X Tp hh hroom hu T6 CC g44 g51 ((hm6 _ (by decide) (by decide)).trans hm5c) ((hm6 _ (by decide) (by decide)).trans ho1) ((hm6 _ (by decide) (by decide)).trans ho2) hl6 hr6 rfl Np (st_cons q10 (st_cons q9 (st_cons q8 (st_cons q7 (st_cons q1 (st_cons q2 (st_cons q3 (st_cons q4 (st_cons q5 (st_cons s5 (st_cons s4 (st_cons s3 (st_cons s2 st_nil)))))))))))))
    lt5.1 lt5.2.1 lt5.2.2.1 lt5.2.2.2.1 lt5.2.2.2.2 lF lS k2' k3' k4 k5 a1 a2 a3 a4 a5 a6 a7 a8 (cross_b a1 a2 a5 a6 a3 a4) (cross_b a1 a2 a5 a6 a7 a8) (whole_ok a1 a2 a3 a4 a5 a6 a7 a8) ?_)
  intro hg tk7 m7 F7 G7
  refine wpAny_execs_cons (law_s7 ho hf hb7 l51 B SA ?_)
  intro tk8
  exact ret _ _ _ F7 G7
end

end Mine

-- J1
theorem Mine.off_J1 : True := by
  k_with_none
  trivial
open PySem PySem.W PyProof.Rows PySem.Calls
set_option Elab.async false
set_option maxRecDepth 100000 in
set_option maxHeartbeats 8000000 in
theorem PySem.Challenge.cw_zt0001_01_holds : PySem.Challenge.rw_zt0001_01.Holds := by
  refine Mine.hd ?_
  k_go0
  rename (Mine.hd.heap_39 _).In _ => X
  rename Top _ _ _ _ _ _ => Tp
  rename Below _ _ _ _ => B
  rename Fr _ _ _ _ => F
  rename News _ _ _ _ => N
  rename IntsAre _ _ => hi
  rename (_ < _ ∧ _ < _) => l0
  refine wpAny_mono (Mine.law_body (o := _) (by k_is) rfl l0.1 l0.2 B (Around.frames_deeper B.stack) F N (by assumption) (by assumption) (by assumption) (by assumption) (by assumption) X Tp rfl (by decide) (by decide) ⟨by assumption, by assumption⟩ lifted hi (by omega) ?_) (fun _ _ h => h) (fun _ _ h => h.elim)
  intro h' tk' m' F' G'
  refine ⟨?_, G'.2, G'.1, trivial⟩
  k_steps
