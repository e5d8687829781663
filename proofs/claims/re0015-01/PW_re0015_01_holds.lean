import PyProof.Rows.All
import Wide.All
import OpenK.AllK
import Wide.FinOn
import PySem.Challenge.RW_re0015_01
set_option Elab.async false
set_option maxRecDepth 100000
section
open PySem PySem.W PyProof.Rows
namespace Mine
open PySem.Float64

/-- the float x is finite and stands for the whole number n -/
def Is (x : UInt64) (n : Int) : Prop := (∃ a m e, decode x = .fin a m e) ∧ val x = n * 2 ^ 1074

theorem V_rep (N : Nat) (h : N < 2 ^ 53) : ∃ t, V t = N * 2 ^ 1074 := by
  by_cases h0 : N = 0
  · exact ⟨0, by rw [V_zero, h0, Nat.zero_mul]⟩
  · have hl : N.log2 ≤ 52 := by
      have := (Nat.log2_lt h0).mpr h
      omega
    have h1 : 2 ^ N.log2 ≤ N := Nat.log2_self_le h0
    have h2 : N < 2 ^ (N.log2 + 1) := Nat.lt_log2_self
    refine ⟨(1074 - (52 - N.log2)) * 2 ^ 52 + N * 2 ^ (52 - N.log2), ?_⟩
    have a1 : 2 ^ N.log2 * 2 ^ (52 - N.log2) = 2 ^ 52 := by rw [← Nat.pow_add]; congr 1; omega
    have a2 : 2 ^ (N.log2 + 1) * 2 ^ (52 - N.log2) = 2 ^ 53 := by rw [← Nat.pow_add]; congr 1; omega
    have a3 : 2 ^ (52 - N.log2) * 2 ^ (1074 - (52 - N.log2)) = 2 ^ 1074 := by rw [← Nat.pow_add]; congr 1; omega
    rw [V_at]
    · rw [Nat.mul_assoc, a3]
    · exact Nat.le_of_lt (a2 ▸ Nat.mul_lt_mul_of_pos_right h2 (Nat.two_pow_pos _))
    · exact .inl (a1 ▸ Nat.mul_le_mul_right _ h1)

theorem dist_self' (a : Nat) : Float64.dist a a = 0 := by unfold Float64.dist; omega
theorem eq_of_dist {a b : Nat} (h : Float64.dist a b = 0) : a = b := by unfold Float64.dist at h; omega

theorem big_gap : 2 * (2 ^ 53 * 2 ^ 1074) ≤ (2 ^ 54 - 1) * 2 ^ 2045 := by
  have e : (2 : Nat) ^ 2045 = 2 ^ 1074 * 2 ^ 971 := by rw [← Nat.pow_add]
  rw [e]
  have h1 : (2 : Nat) * 2 ^ 53 ≤ (2 ^ 54 - 1) * 2 ^ 971 := by
    have h2 : (2 : Nat) ≤ 2 ^ 971 := Nat.le_self_pow (by decide) 2
    have h3 : (2 ^ 54 - 1) * 2 ≤ (2 ^ 54 - 1) * 2 ^ 971 := Nat.mul_le_mul_left _ h2
    exact Nat.le_trans (by decide) h3
  have h4 := Nat.mul_le_mul_right (2 ^ 1074) h1
  generalize (2 : Nat) ^ 1074 = K at *
  generalize (2 : Nat) ^ 971 = J at *
  rw [Nat.mul_assoc] at h4
  refine Nat.le_trans h4 (Nat.le_of_eq ?_)
  ac_rfl

theorem right_exact {r : UInt64} {neg : Bool} {W D N : Nat} (R : Right r neg W D) (hD : 0 < D) (hW : W = D * (N * 2 ^ 1074)) (hN : N < 2 ^ 53) :
    (∃ a m e, decode r = .fin a m e) ∧ val r = sgn neg (N * 2 ^ 1074) := by
  obtain ⟨t, rfl, hle, hinf, hn⟩ := R
  have hlt : t < infMag := by
    refine Nat.lt_of_le_of_ne hle fun e => ?_
    have h1 := hinf.mp e
    rw [hW, Nat.mul_left_comm 2 D] at h1
    have h2 : (2 ^ 54 - 1) * 2 ^ 2045 ≤ 2 * (N * 2 ^ 1074) := Nat.le_of_mul_le_mul_left h1 hD
    have h3 : 2 * (N * 2 ^ 1074) < 2 * (2 ^ 53 * 2 ^ 1074) := Nat.mul_lt_mul_of_pos_left (Nat.mul_lt_mul_of_pos_right hN (Nat.two_pow_pos _)) (by decide)
    exact absurd (Nat.lt_of_le_of_lt h2 h3) (Nat.not_lt.mpr big_gap)
  obtain ⟨t', ht'⟩ := V_rep N hN
  have hv : V t = N * 2 ^ 1074 := by
    have h1 := (hn hlt t').1
    rw [ht', ← hW, dist_self'] at h1
    have h2 := eq_of_dist (Nat.le_zero.mp h1)
    exact Nat.eq_of_mul_eq_mul_left hD (h2.symm.trans hW)
  obtain ⟨m, e, hd, _⟩ := decode_pack neg hlt
  exact ⟨⟨_, _, _, hd⟩, by rw [val_pack neg hlt, hv]⟩

theorem sgn_eq (n : Int) : sgn (decide (n < 0)) n.natAbs = n := by
  unfold sgn
  by_cases h : n < 0
  · simp only [h, decide_true, if_true]; omega
  · simp only [h, decide_false, Bool.false_eq_true, if_false]; omega

theorem pow_cast : (((2 : Nat) ^ 1074 : Nat) : Int) = (2 : Int) ^ 1074 := by simp

theorem natAbs_scaled (n : Int) : (n * 2 ^ 1074).natAbs = n.natAbs * 2 ^ 1074 := by
  rw [Int.natAbs_mul, ← pow_cast, Int.natAbs_natCast]

theorem pow_pos' : (0 : Int) < 2 ^ 1074 := by rw [← pow_cast]; exact Int.ofNat_lt.mpr (Nat.two_pow_pos _)

theorem neg_scaled (n : Int) : decide (n * 2 ^ 1074 < 0) = decide (n < 0) := by
  apply decide_eq_decide.mpr
  constructor
  · intro h
    by_cases h2 : n < 0
    · exact h2
    · exact absurd h (Int.not_lt.mpr (Int.mul_nonneg (by omega) (Int.le_of_lt pow_pos')))
  · intro h; exact Int.mul_neg_of_neg_of_pos h pow_pos'

theorem scaled_zero {n : Int} (h : n * 2 ^ 1074 = 0) : n = 0 := by
  rcases Int.mul_eq_zero.mp h with h | h
  · exact h
  · exact absurd h (Int.ne_of_gt pow_pos')

theorem sgn_scaled (b : Bool) (k : Nat) : sgn b (k * 2 ^ 1074) = sgn b k * 2 ^ 1074 := by rw [sgn_mul, pow_cast]

theorem is_ofInt {n : Int} (h : n.natAbs < 2 ^ 53) : Is (ofInt n) n := by
  obtain ⟨h1, h2⟩ := right_exact (ofInt_right n) (by decide) (by rw [Nat.one_mul]) h
  refine ⟨h1, ?_⟩
  rw [h2, sgn_scaled, sgn_eq]

theorem is_zero (b : Bool) : Is (zero b) 0 := by
  have e : zero b = pack b 0 := by unfold zero; rfl
  have hlt : 0 < infMag := by unfold infMag; decide
  obtain ⟨m, e', hd, _⟩ := decode_pack b hlt
  rw [e]
  exact ⟨⟨_, _, _, hd⟩, by rw [val_pack b hlt, V_zero, Int.zero_mul]; cases b <;> rfl⟩

theorem is_zero0 : Is 0 0 := by
  have := is_zero false
  unfold zero pack at this
  simpa using this

theorem is_add {x y : UInt64} {a b : Int} (hx : Is x a) (hy : Is y b) (h : (a + b).natAbs < 2 ^ 53) : Is (add x y) (a + b) := by
  obtain ⟨⟨sa, m, e, dx⟩, vx⟩ := hx
  obtain ⟨⟨sb, k, f, dy⟩, vy⟩ := hy
  have R := add_right dx dy
  rw [vx, vy, ← Int.add_mul] at R
  by_cases h0 : (a + b) * 2 ^ 1074 = 0
  · rw [R.1 h0, scaled_zero h0]; exact is_zero _
  · obtain ⟨h1, h2⟩ := right_exact (R.2 h0) (by decide) (by rw [Nat.one_mul, natAbs_scaled]) h
    refine ⟨h1, ?_⟩
    rw [h2, neg_scaled, sgn_scaled, sgn_eq]

theorem is_neg {y : UInt64} {b : Int} (hy : Is y b) : Is (neg y) (-b) := by
  obtain ⟨⟨sb, k, f, dy⟩, vy⟩ := hy
  exact ⟨⟨_, _, _, neg_decode dy⟩, by rw [neg_val dy, vy, Int.neg_mul]⟩

theorem is_sub {x y : UInt64} {a b : Int} (hx : Is x a) (hy : Is y b) (h : (a - b).natAbs < 2 ^ 53) : Is (Float64.sub x y) (a - b) := by
  unfold Float64.sub
  rw [Int.sub_eq_add_neg] at h ⊢
  exact is_add hx (is_neg hy) h

theorem val_sign {x : UInt64} {a : Bool} {m : Nat} {e : Int} {n : Int} (dx : decode x = .fin a m e) (v : val x = n * 2 ^ 1074) : sgn a n.natAbs = n := by
  have h1 : (val x).natAbs = n.natAbs * 2 ^ 1074 := by rw [v, natAbs_scaled]
  have h2 := val_eq dx
  rw [← val_natAbs dx, h1, v, sgn_scaled] at h2
  exact (Int.eq_of_mul_eq_mul_right (Int.ne_of_gt pow_pos') h2).symm

theorem is_mul {x y : UInt64} {a b : Int} (hx : Is x a) (hy : Is y b) (h : (a * b).natAbs < 2 ^ 53) : Is (mul x y) (a * b) := by
  obtain ⟨⟨sa, m, e, dx⟩, vx⟩ := hx
  obtain ⟨⟨sb, k, f, dy⟩, vy⟩ := hy
  have R := mul_right dx dy
  rw [vx, vy, natAbs_scaled, natAbs_scaled] at R
  obtain ⟨h1, h2⟩ := right_exact (N := (a * b).natAbs) R (Nat.two_pow_pos _) (by rw [Int.natAbs_mul]; generalize (2 : Nat) ^ 1074 = K; ac_rfl) h
  refine ⟨h1, ?_⟩
  rw [h2, sgn_scaled]
  have e1 := val_sign dx vx
  have e2 := val_sign dy vy
  congr 1
  rw [Int.natAbs_mul]
  calc sgn (sa != sb) (a.natAbs * b.natAbs) = sgn sa a.natAbs * sgn sb b.natAbs := by
        unfold sgn; cases sa <;> cases sb <;> simp [Int.neg_mul, Int.mul_neg]
    _ = a * b := by rw [e1, e2]

theorem is_div {x y : UInt64} {a b q : Int} (hx : Is x a) (hy : Is y b) (hb : b ≠ 0) (hq : a = q * b) (h : q.natAbs < 2 ^ 53) : Is (div x y) q := by
  obtain ⟨⟨sa, m, e, dx⟩, vx⟩ := hx
  obtain ⟨⟨sb, k, f, dy⟩, vy⟩ := hy
  have hk : k ≠ 0 := by
    rintro rfl
    have := val_natAbs dy
    rw [vy, natAbs_scaled, Nat.zero_mul] at this
    rcases Nat.mul_eq_zero.mp this with h | h
    · exact hb (Int.natAbs_eq_zero.mp h)
    · exact absurd h (Nat.ne_of_gt (Nat.two_pow_pos _))
  have R := div_right dx dy hk
  rw [vx, vy, natAbs_scaled, natAbs_scaled] at R
  have hD : 0 < b.natAbs * 2 ^ 1074 := Nat.mul_pos (by omega) (Nat.two_pow_pos _)
  obtain ⟨h1, h2⟩ := right_exact (N := q.natAbs) R hD (by rw [hq, Int.natAbs_mul]; generalize (2 : Nat) ^ 1074 = K; ac_rfl) h
  refine ⟨h1, ?_⟩
  rw [h2, sgn_scaled]
  have e1 := val_sign dx vx
  have e2 := val_sign dy vy
  congr 1
  have e3 : sgn (sa != sb) q.natAbs * sgn sb b.natAbs = sgn sa a.natAbs := by
    rw [hq, Int.natAbs_mul]
    unfold sgn; cases sa <;> cases sb <;> simp [Int.neg_mul, Int.mul_neg]
  rw [e2, e1, hq] at e3
  exact Int.eq_of_mul_eq_mul_right hb e3

theorem is_finite {x : UInt64} {a : Int} (hx : Is x a) : isFinite x = true := by
  obtain ⟨⟨sa, m, e, dx⟩, _⟩ := hx
  unfold isFinite; rw [dx]
theorem is_notInf {x : UInt64} {a : Int} (hx : Is x a) : isInf x = false := by
  obtain ⟨⟨sa, m, e, dx⟩, _⟩ := hx
  unfold isInf; rw [dx]
theorem is_notNaN {x : UInt64} {a : Int} (hx : Is x a) : Float64.isNaN x = false := by
  obtain ⟨⟨sa, m, e, dx⟩, _⟩ := hx
  unfold Float64.isNaN; rw [dx]

theorem is_cmpInt {x : UInt64} {a : Int} (hx : Is x a) (i : Int) : cmpInt x i = some (compare a i) := by
  obtain ⟨⟨sa, m, e, dx⟩, vx⟩ := hx
  rw [cmpInt_right dx, vx]
  congr 1
  rcases Int.lt_trichotomy a i with h | h | h
  · rw [Int.compare_eq_lt.mpr h, Int.compare_eq_lt.mpr (Int.mul_lt_mul_of_pos_right h pow_pos')]
  · subst h; simp
  · rw [Int.compare_eq_gt.mpr h, Int.compare_eq_gt.mpr (Int.mul_lt_mul_of_pos_right h pow_pos')]

theorem is_isZero {x : UInt64} {a : Int} (hx : Is x a) : isZero x = decide (a = 0) := by
  rw [PySem.Flt.isZero_eq, is_cmpInt hx]
  by_cases h : a = 0
  · subst h; rfl
  · rw [decide_eq_false h]
    cases hc : compare a 0 with
    | eq => exact absurd (Int.compare_eq_eq.mp hc) h
    | lt => rfl
    | gt => rfl

end Mine
end

section
open PySem PySem.W PyProof.Rows
namespace Mine
open PySem.Float64

/-- the partials of a sum of whole numbers: none, or one that is the sum -/
def FS (ps : List UInt64) (S : Int) : Prop := (ps = [] ∧ S = 0) ∨ ∃ p, ps = [p] ∧ Is p S

theorem two_add {X Y : UInt64} {u v S : Int} (hX : Is X u) (hY : Is Y v) (e : u + v = S) (h1 : S.natAbs < 2 ^ 53) (h2 : v.natAbs < 2 ^ 53) :
    Is (add X Y) S ∧ Is (Float64.sub Y (Float64.sub (add X Y) X)) 0 := by
  have a1 : Is (add X Y) S := e ▸ is_add hX hY (e ▸ h1)
  have a2 : Is (Float64.sub (add X Y) X) (S - u) := is_sub a1 hX (by omega)
  have a3 := is_sub hY a2 (by omega)
  rw [show v - (S - u) = 0 by omega] at a3
  exact ⟨a1, a3⟩

theorem fs_step {ps : List UInt64} {S a : Int} {x : UInt64} (f : FS ps S) (hx : Is x a) (h1 : (S + a).natAbs < 2 ^ 53) (h2 : a.natAbs < 2 ^ 53) (h3 : S.natAbs < 2 ^ 53) :
    isFinite (fsumAdd ps x).2 = true ∧ FS (if isZero (fsumAdd ps x).2 then (fsumAdd ps x).1 else (fsumAdd ps x).1 ++ [(fsumAdd ps x).2]) (S + a) := by
  have last : ∀ {z : UInt64} {T : Int}, Is z T → FS (if isZero z then [] else [] ++ [z]) T := fun {z T} hz => by
    rw [is_isZero hz]
    by_cases h : T = 0
    · simp only [h, decide_true, if_true]; exact .inl ⟨rfl, rfl⟩
    · simp only [h, decide_false, Bool.false_eq_true, if_false]; exact .inr ⟨z, rfl, hz⟩
  rcases f with ⟨rfl, rfl⟩ | ⟨p, rfl, hp⟩
  · rw [show fsumAdd [] x = ([], x) by unfold fsumAdd; rfl, Int.zero_add]
    exact ⟨is_finite hx, last hx⟩
  · have key : ∀ X Y : UInt64, ∀ u v : Int, Is X u → Is Y v → u + v = S + a → v.natAbs < 2 ^ 53 →
        isFinite (let hi := add X Y; let lo := Float64.sub Y (Float64.sub hi X); let r := fsumAdd [] hi; ((if isZero lo then r.1 else lo :: r.1, r.2) : List UInt64 × UInt64)).2 = true ∧
        FS (let q := (let hi := add X Y; let lo := Float64.sub Y (Float64.sub hi X); let r := fsumAdd [] hi; ((if isZero lo then r.1 else lo :: r.1, r.2) : List UInt64 × UInt64)); if isZero q.2 then q.1 else q.1 ++ [q.2]) (S + a) := by
      intro X Y u v hX hY e hv
      obtain ⟨b1, b2⟩ := two_add hX hY e h1 hv
      have e0 : isZero (Float64.sub Y (Float64.sub (add X Y) X)) = true := by rw [is_isZero b2]; rfl
      have e1 : fsumAdd [] (add X Y) = ([], add X Y) := by unfold fsumAdd; rfl
      simp only [e0, e1, if_true]
      exact ⟨is_finite b1, last b1⟩
    have hd : fsumAdd [p] x = if Float64.lt (abs x) (abs p) then (let hi := add p x; let lo := Float64.sub x (Float64.sub hi p); let r := fsumAdd [] hi; ((if isZero lo then r.1 else lo :: r.1, r.2) : List UInt64 × UInt64))
        else (let hi := add x p; let lo := Float64.sub p (Float64.sub hi x); let r := fsumAdd [] hi; ((if isZero lo then r.1 else lo :: r.1, r.2) : List UInt64 × UInt64)) := by
      conv => lhs; unfold fsumAdd
      by_cases hc : Float64.lt (abs x) (abs p) = true
      · rw [if_pos hc, if_pos hc]
      · rw [if_neg hc, if_neg hc]
    rw [hd]
    split
    · exact key p x S a hp hx rfl h2
    · exact key x p a S hx hp (by omega) h3

theorem fs_end {ps : List UInt64} {S : Int} (f : FS ps S) : Is (fsumEnd ps) S := by
  rcases f with ⟨rfl, rfl⟩ | ⟨p, rfl, hp⟩
  · have : fsumEnd [] = zero false := by unfold fsumEnd; rfl
    rw [this]; exact is_zero _
  · have : fsumEnd [p] = p := by unfold fsumEnd fsumTop; rfl
    rw [this]; exact hp

theorem is_fma0 {x y z : UInt64} {a b : Int} (hx : Is x a) (hy : Is y b) (hz : Is z (-(a * b))) : Is (fma x y z) 0 := by
  obtain ⟨⟨sa, m, e, dx⟩, vx⟩ := hx
  obtain ⟨⟨sb, k, f, dy⟩, vy⟩ := hy
  obtain ⟨⟨sc, n, g, dz⟩, vz⟩ := hz
  have he := decode_ge dx
  have hf := decode_ge dy
  have hg := decode_ge dz
  have hfma : fma x y z = if sgn (sa != sb) (m * k * 2 ^ (e + f - min (e + f) g).toNat) + sgn sc (n * 2 ^ (g - min (e + f) g).toNat) == 0 then zero (if m * k == 0 && n == 0 then (sa != sb) && sc else false)
      else ofBin (decide (sgn (sa != sb) (m * k * 2 ^ (e + f - min (e + f) g).toNat) + sgn sc (n * 2 ^ (g - min (e + f) g).toNat) < 0)) (sgn (sa != sb) (m * k * 2 ^ (e + f - min (e + f) g).toNat) + sgn sc (n * 2 ^ (g - min (e + f) g).toNat)).natAbs (min (e + f) g) := by
    unfold fma
    rw [dx, dy, dz]
    rfl
  have hv : val x * val y + val z * 2 ^ 1074 = 0 := by
    rw [vx, vy, vz]
    generalize (2 : Int) ^ 1074 = K
    rw [Int.neg_mul, Int.neg_mul, show a * K * (b * K) = a * b * K * K by ac_rfl]
    omega
  have hxy : val x * val y = sgn (sa != sb) (m * k) * ((2 ^ ((e + 1074).toNat + (f + 1074).toNat) : Nat) : Int) := by
    rw [val_eq dx, val_eq dy, Nat.pow_add, ← sgn_mul]
    have : ∀ u v : Nat, sgn sa u * sgn sb v = sgn (sa != sb) (u * v) := fun u v => by unfold sgn; cases sa <;> cases sb <;> simp [Int.neg_mul, Int.mul_neg]
    rw [this]
    congr 1
    ac_rfl
  have hzz : val z * 2 ^ 1074 = sgn sc n * ((2 ^ ((g + 1074).toNat + 1074) : Nat) : Int) := by
    rw [val_eq dz, Nat.pow_add, ← pow_cast, ← sgn_mul, ← sgn_mul, Nat.mul_assoc]
  have hs : sgn (sa != sb) (m * k * 2 ^ (e + f - min (e + f) g).toNat) + sgn sc (n * 2 ^ (g - min (e + f) g).toNat) = 0 := by
    have h1 : (sgn (sa != sb) (m * k * 2 ^ (e + f - min (e + f) g).toNat) + sgn sc (n * 2 ^ (g - min (e + f) g).toNat)) * ((2 ^ (min (e + f) g + 2148).toNat : Nat) : Int) = 0 := by
      rw [Int.add_mul, ← sgn_mul, ← sgn_mul, Nat.mul_assoc (m * k), Nat.mul_assoc n, ← Nat.pow_add, ← Nat.pow_add]
      rw [show (e + f - min (e + f) g).toNat + (min (e + f) g + 2148).toNat = (e + 1074).toNat + (f + 1074).toNat by omega,
        show (g - min (e + f) g).toNat + (min (e + f) g + 2148).toNat = (g + 1074).toNat + 1074 by omega, sgn_mul _ (m * k), sgn_mul _ n, ← hxy, ← hzz]
      exact hv
    rcases Int.mul_eq_zero.mp h1 with h | h
    · exact h
    · have : (0 : Int) < ((2 ^ (min (e + f) g + 2148).toNat : Nat) : Int) := Int.ofNat_lt.mpr (Nat.two_pow_pos _)
      omega
  rw [hfma, hs]
  exact is_zero _

/-- the three parts of sumprod's running total -/
def T3 (t : UInt64 × UInt64 × UInt64) (S : Int) : Prop := Is t.1 S ∧ Is t.2.1 0 ∧ Is t.2.2 0
open PySem.Builtin.Math in
theorem dl_sum {x y : UInt64} {a b : Int} (hx : Is x a) (hy : Is y b) (h : (a + b).natAbs < 2 ^ 53) (h1 : a.natAbs < 2 ^ 53) (h2 : b.natAbs < 2 ^ 53) : Is (dlSum x y).1 (a + b) ∧ Is (dlSum x y).2 0 := by
  have a1 := is_add hx hy h
  have a2 := is_sub a1 hx (by omega)
  have a3 := is_sub a1 a2 (by omega)
  have a4 := is_sub hx a3 (by omega)
  have a5 := is_sub hy a2 (by omega)
  have a6 := is_add a4 a5 (by omega)
  rw [show a - (a + b - (a + b - a)) + (b - (a + b - a)) = 0 by omega] at a6
  unfold dlSum
  exact ⟨a1, a6⟩
open PySem.Builtin.Math in
theorem t3_step {x y : UInt64} {a b S : Int} {t : UInt64 × UInt64 × UInt64} (T : T3 t S) (hx : Is x a) (hy : Is y b) (h : (S + a * b).natAbs < 2 ^ 53) (h1 : S.natAbs < 2 ^ 53) (h2 : (a * b).natAbs < 2 ^ 53) :
    T3 (tlFma x y t) (S + a * b) := by
  obtain ⟨t1, t2, t3⟩ := T
  have m1 := is_mul hx hy h2
  have m2 := is_fma0 hx hy (is_neg m1)
  obtain ⟨s1, s2⟩ := dl_sum t1 m1 h h1 h2
  obtain ⟨r1, r2⟩ := dl_sum t2 m2 (by decide) (by decide) (by decide)
  obtain ⟨q1, q2⟩ := dl_sum r1 s2 (by decide) (by decide) (by decide)
  have u := is_add (is_add t3 r2 (by decide)) q2 (by decide)
  unfold tlFma dlMul
  exact ⟨s1, q1, u⟩
open PySem.Builtin.Math in
theorem t3_end {S : Int} {t : UInt64 × UInt64 × UInt64} (T : T3 t S) (h : S.natAbs < 2 ^ 53) : Is (tlToFloat t) S := by
  obtain ⟨t1, t2, t3⟩ := T
  obtain ⟨s1, s2⟩ := dl_sum t2 t1 (by omega) (by decide) h
  have u := is_add (is_add t3 s2 (by decide)) s1 (by omega)
  rw [show (0 : Int) + 0 + (0 + S) = S by omega] at u
  unfold tlToFloat
  exact u

theorem sumBits_is : ∀ (bs : List UInt64) (ns : List Int) (t c : UInt64) (S : Int), bs.length = ns.length → (∀ (i : Nat) b n, bs[i]? = some b → ns[i]? = some n → Is b n) → Is t S → Is c 0 → S.natAbs < 2 ^ 53 →
    (∀ i, i ≤ ns.length → (S + (ns.take i).sum).natAbs < 2 ^ 53) → (∀ n ∈ ns, n.natAbs < 2 ^ 53) → Is (Flt.sumBits bs t c) (S + ns.sum)
  | [], [], t, c, S, _, _, ht, hc, _, _, _ => by
    unfold Flt.sumBits Num.settled
    rw [List.sum_nil, Int.add_zero]
    split
    · have := is_add ht hc (by omega)
      rwa [Int.add_zero] at this
    · exact ht
  | b :: bs, n :: ns, t, c, S, hl, hb, ht, hc, hS, hp, hn => by
    unfold Flt.sumBits
    have h0 := hb 0 b n rfl rfl
    have hSn : (S + n).natAbs < 2 ^ 53 := by simpa using hp 1 (by simp)
    have hnn : n.natAbs < 2 ^ 53 := hn n (.head _)
    have a1 := is_add ht h0 hSn
    have key : Is (add c (if Float64.cmp (abs t) (abs b) == some .lt || Float64.isNaN t || Float64.isNaN b then add (Float64.sub b (add t b)) t else add (Float64.sub t (add t b)) b)) 0 := by
      split
      · have := is_add hc (is_add (is_sub h0 a1 (by omega)) ht (by omega)) (by omega)
        rwa [show 0 + (n - (S + n) + S) = 0 by omega] at this
      · have := is_add hc (is_add (is_sub ht a1 (by omega)) h0 (by omega)) (by omega)
        rwa [show 0 + (S - (S + n) + n) = 0 by omega] at this
    have := sumBits_is bs ns _ _ (S + n) (by simpa using hl) (fun i b' n' e1 e2 => hb (i + 1) b' n' (by simpa using e1) (by simpa using e2)) a1 key hSn
      (fun i hi => by have := hp (i + 1) (by simpa using hi); rw [List.take_succ_cons, List.sum_cons] at this; rwa [Int.add_assoc]) fun n' h' => hn n' (.tail _ h')
    rw [List.sum_cons, ← Int.add_assoc]
    exact this
  | [], _ :: _, _, _, _, h, _, _, _, _, _, _ => by simp at h
  | _ :: _, [], _, _, _, h, _, _, _, _, _, _ => by simp at h

theorem sumOf_is {bs : List UInt64} {ns : List Int} (hl : bs.length = ns.length) (hb : ∀ (i : Nat) b n, bs[i]? = some b → ns[i]? = some n → Is b n) (hp : ∀ i, i ≤ ns.length → ((ns.take i).sum).natAbs < 2 ^ 53)
    (hn : ∀ n ∈ ns, n.natAbs < 2 ^ 53) : Is (Flt.sumOf bs) ns.sum := by
  cases bs with
  | nil =>
    cases ns with
    | nil => exact is_zero0
    | cons => simp at hl
  | cons b bs =>
    cases ns with
    | nil => simp at hl
    | cons n ns =>
      unfold Flt.sumOf
      have h0 := hb 0 b n rfl rfl
      have hnn : n.natAbs < 2 ^ 53 := hn n (.head _)
      have a0 : Is (ofInt 0) 0 := is_ofInt (by decide)
      have a1 := is_add a0 h0 (by omega)
      have := sumBits_is bs ns _ 0 (0 + n) (by simpa using hl) (fun i b' n' e1 e2 => hb (i + 1) b' n' (by simpa using e1) (by simpa using e2)) a1 is_zero0 (by omega)
        (fun i hi => by have := hp (i + 1) (by simpa using hi); rw [List.take_succ_cons, List.sum_cons] at this; rwa [Int.zero_add]) fun n' h' => hn n' (.tail _ h')
      rw [List.sum_cons]
      rwa [Int.zero_add] at this
end Mine
end

section
open PySem PySem.W PyProof.Rows
namespace Mine
set_option maxRecDepth 100000 in
set_option maxHeartbeats 8000000 in
open_top hd for PySem.Challenge.rw_re0015_01
end Mine
end

section
open PySem PySem.W PyProof.Rows PySem.Calls
namespace Mine
/-- what stands at the top, as long as a call only adds to the heap (but for covariance's table of codes, at 60) -/
structure Ev (w : World) (mg mb : Str → Option Value) (h : Heap) : Prop where
  K : (hd.heap_39 w.params).In h
  T : TopRead hd.view_39 (looseW hd.view_39 []) mg mb h

theorem Ev.keeps {w : World} {mg mb : Str → Option Value} {h h' : Heap} (e : Ev w mg mb h) (k : ∀ b o, h.get? b = some o → h'.get? b = some o) : Ev w mg mb h' := ⟨e.K.keeps k, e.T.keeps k⟩

section
variable {prog : Program} {w : World} {A : Around} {E : Value → Shared → Prop} {s : Shared} {mg mb : Str → Option Value}

theorem enter {R : Result → Shared → Prop} {name qual : Str} {params : Arguments} {body : List Stmt} {scope : Scope} {dV kV doc pm cdv ct oc : Value} {an od : Option Addr} {osl : Array (Option Value)} {f : Addr} {args : Args} {binds : List (Str × Value)}
    (ev : Ev w mg mb s.heap) (ho : (hd.heap_39 w.params).lookup f = some ⟨oc, od, .func (fnOf name qual params body scope dV kV doc pm an cdv ct), osl⟩) (hcd : codeIn (hd.heap_39 w.params) cdv qual = true) (hroom : A.depth < recursionLimit)
    (hbind : BindsTo s (fnOf name qual params body scope dV kV doc pm an cdv ct) args binds) (hloc : ∀ y ∈ binds, scope.names.lookup y.1 = some .local)
    (h : ∀ h₁, Fr s.heap s.heap.objs.size h₁ (fun y => binds.reverse.lookup y) →
      wpAny (model prog w) (A.deeper (envOf qual scope s.heap.objs.size f cdv)) (execs body (envOf qual scope s.heap.objs.size f cdv))
        (fun fl s' => R (.ok (.ret (match fl with | .ret v => v | _ => .none))) s')
        (fun e s' => wpAny (model prog w) (A.deeper (envOf qual scope s.heap.objs.size f cdv)) (leaving (envOf qual scope s.heap.objs.size f cdv) e) (fun _ s'' => R (.error e) s'') (fun e' s'' => R (.error e') s'') s')
        { s with heap := h₁, toks := s.toks + binds.length })
    (hcell : ∀ x ∈ scope.names, x.2 ≠ .cell) (hco : scope.isCoroutine = false) (hgen : scope.isGenerator = false) (hk : scope.kind = .function) : codeAny (model prog w) A (.call (.ref f) args) R s :=
  codeAny_call_def (fd := fnOf name qual params body scope dV kV doc pm an cdv ct) (body := body) (binds := binds) hroom (ev.K _ _ ho) rfl ev.T.nolimit (codeRec_of ev.K hcd) rfl hbind hcell hloc
    (fun h₁ hns hk₁ => h h₁ ⟨hns, hk₁, Nat.le_refl _⟩) hco hgen hk
end


set_option maxHeartbeats 4000000 in
theorem call_add {prog : Program} {w : World} {A : Around} {E : Value → Shared → Prop} {s : Shared} {mg mb : Str → Option Value} {a b : Int} {t u : Tok} {Q : Value → Shared → Prop} (ev : Ev w mg mb s.heap) (hroom : A.depth < recursionLimit)
    (k : ∀ h' tk v, (∀ b o, s.heap.get? b = some o → h'.get? b = some o) → Q (.int (a + b) v) { s with heap := h', toks := tk }) : wpAny (model prog w) A (call (.ref 69) [.int a t, .int b u]) Q E s := by
  refine wpAny_call ?_
  refine enter (binds := [(Str.ofString "a", .int a t), (Str.ofString "b", .int b u)]) ev rfl rfl hroom (BindsTo.of_eq rfl) (locs rfl) ?_ (by decide) rfl rfl rfl
  intro h₁ F
  have KX := ev.K
  have TX := ev.T
  have NX : News s.heap s.heap.objs.size h₁ [] := News.nil
  k_steps
  exact k _ _ _ F.keep

set_option maxHeartbeats 4000000 in
theorem call_and_ {prog : Program} {w : World} {A : Around} {E : Value → Shared → Prop} {s : Shared} {mg mb : Str → Option Value} {a b : Int} {t u : Tok} {Q : Value → Shared → Prop} (ev : Ev w mg mb s.heap) (hroom : A.depth < recursionLimit)
    (k : ∀ h' tk v, (∀ b o, s.heap.get? b = some o → h'.get? b = some o) → Q (.int (Builtin.bitAnd a b) v) { s with heap := h', toks := tk }) : wpAny (model prog w) A (call (.ref 76) [.int a t, .int b u]) Q E s := by
  refine wpAny_call ?_
  refine enter (binds := [(Str.ofString "a", .int a t), (Str.ofString "b", .int b u)]) ev rfl rfl hroom (BindsTo.of_eq rfl) (locs rfl) ?_ (by decide) rfl rfl rfl
  intro h₁ F
  have KX := ev.K
  have TX := ev.T
  have NX : News s.heap s.heap.objs.size h₁ [] := News.nil
  k_steps
  exact k _ _ _ F.keep

set_option maxHeartbeats 4000000 in
theorem call_mul {prog : Program} {w : World} {A : Around} {E : Value → Shared → Prop} {s : Shared} {mg mb : Str → Option Value} {a b : Int} {t u : Tok} {Q : Value → Shared → Prop} (ev : Ev w mg mb s.heap) (hroom : A.depth < recursionLimit) (hm : IntMulOk a b)
    (k : ∀ h' tk v, (∀ b o, s.heap.get? b = some o → h'.get? b = some o) → Q (.int (a * b) v) { s with heap := h', toks := tk }) : wpAny (model prog w) A (call (.ref 83) [.int a t, .int b u]) Q E s := by
  refine wpAny_call ?_
  refine enter (binds := [(Str.ofString "a", .int a t), (Str.ofString "b", .int b u)]) ev rfl rfl hroom (BindsTo.of_eq rfl) (locs rfl) ?_ (by decide) rfl rfl rfl
  intro h₁ F
  have KX := ev.K
  have TX := ev.T
  have NX : News s.heap s.heap.objs.size h₁ [] := News.nil
  k_steps
  exact k _ _ _ F.keep

set_option maxHeartbeats 4000000 in
theorem call_or_ {prog : Program} {w : World} {A : Around} {E : Value → Shared → Prop} {s : Shared} {mg mb : Str → Option Value} {a b : Int} {t u : Tok} {Q : Value → Shared → Prop} (ev : Ev w mg mb s.heap) (hroom : A.depth < recursionLimit)
    (k : ∀ h' tk v, (∀ b o, s.heap.get? b = some o → h'.get? b = some o) → Q (.int (Builtin.bitOr a b) v) { s with heap := h', toks := tk }) : wpAny (model prog w) A (call (.ref 90) [.int a t, .int b u]) Q E s := by
  refine wpAny_call ?_
  refine enter (binds := [(Str.ofString "a", .int a t), (Str.ofString "b", .int b u)]) ev rfl rfl hroom (BindsTo.of_eq rfl) (locs rfl) ?_ (by decide) rfl rfl rfl
  intro h₁ F
  have KX := ev.K
  have TX := ev.T
  have NX : News s.heap s.heap.objs.size h₁ [] := News.nil
  k_steps
  exact k _ _ _ F.keep

set_option maxHeartbeats 4000000 in
theorem call_rshift {prog : Program} {w : World} {A : Around} {E : Value → Shared → Prop} {s : Shared} {mg mb : Str → Option Value} {a b : Int} {t u : Tok} {Q : Value → Shared → Prop} (ev : Ev w mg mb s.heap) (hroom : A.depth < recursionLimit) (hb : 0 ≤ b)
    (k : ∀ h' tk v, (∀ b o, s.heap.get? b = some o → h'.get? b = some o) → Q (.int (a.fdiv (2 ^ b.toNat)) v) { s with heap := h', toks := tk }) : wpAny (model prog w) A (call (.ref 97) [.int a t, .int b u]) Q E s := by
  refine wpAny_call ?_
  refine enter (binds := [(Str.ofString "a", .int a t), (Str.ofString "b", .int b u)]) ev rfl rfl hroom (BindsTo.of_eq rfl) (locs rfl) ?_ (by decide) rfl rfl rfl
  intro h₁ F
  have KX := ev.K
  have TX := ev.T
  have NX : News s.heap s.heap.objs.size h₁ [] := News.nil
  k_steps
  exact k _ _ _ F.keep

set_option maxHeartbeats 4000000 in
theorem call_sub {prog : Program} {w : World} {A : Around} {E : Value → Shared → Prop} {s : Shared} {mg mb : Str → Option Value} {a b : Int} {t u : Tok} {Q : Value → Shared → Prop} (ev : Ev w mg mb s.heap) (hroom : A.depth < recursionLimit)
    (k : ∀ h' tk v, (∀ b o, s.heap.get? b = some o → h'.get? b = some o) → Q (.int (a - b) v) { s with heap := h', toks := tk }) : wpAny (model prog w) A (call (.ref 104) [.int a t, .int b u]) Q E s := by
  refine wpAny_call ?_
  refine enter (binds := [(Str.ofString "a", .int a t), (Str.ofString "b", .int b u)]) ev rfl rfl hroom (BindsTo.of_eq rfl) (locs rfl) ?_ (by decide) rfl rfl rfl
  intro h₁ F
  have KX := ev.K
  have TX := ev.T
  have NX : News s.heap s.heap.objs.size h₁ [] := News.nil
  k_steps
  exact k _ _ _ F.keep

set_option maxHeartbeats 4000000 in
theorem call_xor {prog : Program} {w : World} {A : Around} {E : Value → Shared → Prop} {s : Shared} {mg mb : Str → Option Value} {a b : Int} {t u : Tok} {Q : Value → Shared → Prop} (ev : Ev w mg mb s.heap) (hroom : A.depth < recursionLimit)
    (k : ∀ h' tk v, (∀ b o, s.heap.get? b = some o → h'.get? b = some o) → Q (.int (Builtin.bitXor a b) v) { s with heap := h', toks := tk }) : wpAny (model prog w) A (call (.ref 111) [.int a t, .int b u]) Q E s := by
  refine wpAny_call ?_
  refine enter (binds := [(Str.ofString "a", .int a t), (Str.ofString "b", .int b u)]) ev rfl rfl hroom (BindsTo.of_eq rfl) (locs rfl) ?_ (by decide) rfl rfl rfl
  intro h₁ F
  have KX := ev.K
  have TX := ev.T
  have NX : News s.heap s.heap.objs.size h₁ [] := News.nil
  k_steps
  exact k _ _ _ F.keep
end Mine
end

section
open PySem PySem.W PyProof.Rows PySem.Calls
namespace Mine
theorem kind_hasattr : builtinKind "hasattr" = none := by decide +kernel
theorem plain_hasattr : plainId "hasattr" = true := by decide +kernel
theorem entry_hasattr : entryFor table "hasattr" = some Builtin.«hasattr» := entryFor_of_tree (by kernel_rfl)
theorem args_hasattr (a b : Value) : argsOk "hasattr" ⟨[a, b], []⟩ := by unfold argsOk; kernel_rfl
theorem lk_list_getitem : typeLookup (.type "list") "__getitem__" = pure (some (.builtin "list.__getitem__")) := by rw [typeLookup_type, builtinLookup_eq_fast]; kernel_rfl
theorem sub_list_module : isSubtype (.type "list") (.type "module") = pure false := by rw [isSubtype_type]; kernel_rfl
theorem typeOf_list_getitem : typeOf (.builtin "list.__getitem__") = pure (.type "method_descriptor") := by kernel_rfl
theorem slot_md_get : Slot "method_descriptor" "__get__" "method_descriptor.__get__" :=
  .of (owner := "method_descriptor") (n := "__get__") (by rw [typeLookup_type, builtinLookup_eq_fast]; kernel_rfl) (by decide +kernel) (by decide +kernel) (by decide +kernel)
    (by first | exact .inl (by decide +kernel) | exact .inr (by decide +kernel)) (by rw [isSubtype_type]; kernel_rfl)
theorem lk_md_set : typeLookup (.type "method_descriptor") "__set__" = pure none := by rw [typeLookup_type, builtinLookup_eq_fast]; kernel_rfl
theorem lk_md_delete : typeLookup (.type "method_descriptor") "__delete__" = pure none := by rw [typeLookup_type, builtinLookup_eq_fast]; kernel_rfl
theorem entry_md_get : entryFor table "method_descriptor.__get__" = some Builtin.«method_descriptor.__get__» := entryFor_of_tree (by kernel_rfl)
theorem args_md_get (a b c : Value) : argsOk "method_descriptor.__get__" ⟨[a, b, c], []⟩ := by unfold argsOk; kernel_rfl
theorem owner_getitem : (".".intercalate ("list.__getitem__".cutAt '.').dropLast) = "list" := by
  have e0 : "list.__getitem__".cutAt '.' = ["list", "__getitem__"] := by first | rfl | decide +kernel
  rw [e0]; decide +kernel
theorem sub_owner_getitem : isSubtype (.type "list") (.type (".".intercalate ("list.__getitem__".cutAt '.').dropLast)) = pure true := by
  rw [owner_getitem, isSubtype_type]; kernel_rfl

section
variable {prog : Program} {w : World} {A : Around} {E : Value → Shared → Prop} {h : Heap} {g : Array GenState} {d : Drawn} {t : Nat} {os : OsState} {a : Addr} {its : Array Value} {n : Nat}

set_option maxHeartbeats 4000000 in
theorem md_get_list {R : Result → Shared → Prop} (hx : h.get? a = some (listOf its n))
    (hq : ∀ h' v, (∀ b o, h.get? b = some o → h'.get? b = some o) → R (.ok (.ret (.ref v))) ⟨h', g, d, t, os⟩) :
    codeAny (model prog w) A (.call (.builtin "method_descriptor.__get__") ⟨[.builtin "list.__getitem__", .ref a, .type "list"], []⟩) R ⟨h, g, d, t, os⟩ := by
  have hT : (⟨h, g, d, t, os⟩ : Shared).TypeIs (.ref a) "list" := ⟨_, hx, rfl⟩
  have hT5 : (⟨h, g, d, t, os⟩ : Shared).TypeIs (.builtin "list.__getitem__") "method_descriptor" := typeOf_list_getitem
  refine codeAny_call_builtin slot_md_get.plain entry_md_get (slot_md_get.check _ _ _ _ _ _ _ _ hT5 (args_md_get _ _ _) ?_)
  clear hT5
  obtain ⟨bf, f9, hbf⟩ : ∃ bf, Manifest.toldItsClass.contains "list.__getitem__" = bf ∧ bf = false := ⟨_, rfl, by decide +kernel⟩
  have f10 := sub_owner_getitem
  repeat wp_step
  exact hq _ _ fun b o e => Heap.get?_push_of_some _ e

set_option maxHeartbeats 4000000 in
theorem getattribute_list {tk : Tok} {Q : Fin → Shared → Prop} (hx : h.get? a = some (listOf its n))
    (hq : ∀ h' v, (∀ b o, h.get? b = some o → h'.get? b = some o) → Q (.done (.ret (.ref v))) ⟨h', g, d, t, os⟩) :
    wpAny (model prog w) A (Builtin.«object.__getattribute__» ⟨[.ref a, .str "__getitem__" tk], []⟩) Q E ⟨h, g, d, t, os⟩ := by
  have hT : (⟨h, g, d, t, os⟩ : Shared).TypeIs (.ref a) "list" := ⟨_, hx, rfl⟩
  have f4 := lk_list_getitem
  have f5 := typeOf_list_getitem
  have f6 := slot_md_get.lookup
  have f7 := lk_md_set
  have f8 := lk_md_delete
  repeat wp_step
  refine md_get_list hx ?_
  intro h' v hk
  exact wpAny_pure (hq h' v hk)

set_option maxHeartbeats 4000000 in
theorem getitem_by_list {tk : Tok} {Q : Value → Shared → Prop} (hx : h.get? a = some (listOf its n))
   (hq : ∀ h' v, (∀ b o, h.get? b = some o → h'.get? b = some o) → Q (.ref v) ⟨h', g, d, t, os⟩) : wpAny (model prog w) A (getAttrBy (.ref a) (.str "__getitem__" tk) false) Q E ⟨h, g, d, t, os⟩ := by
  have hT : (⟨h, g, d, t, os⟩ : Shared).TypeIs (.ref a) "list" := ⟨_, hx, rfl⟩
  have f2 := F.slot_list_getattribute.lookup
  have f3 := F.slot_list_getattribute.bind (.ref a)
  repeat wp_step
  refine codeAny_call_builtin F.slot_list_getattribute.plain F.entry_list_ga (F.slot_list_getattribute.check _ _ _ _ _ _ _ _ (show (⟨h, g, d, t, os⟩ : Shared).TypeIs (.ref a) "list" from ⟨_, hx, rfl⟩) (F.args_list_getattribute_2 _ _) ?_)
  refine getattribute_list hx ?_
  intro h' v hk
  exact wpAny_pure (hq h' v hk)

set_option maxHeartbeats 4000000 in
theorem call_hasattr_list {tk : Tok} {Q : Value → Shared → Prop} (hx : h.get? a = some (listOf its n))
   (hq : ∀ h', (∀ b o, h.get? b = some o → h'.get? b = some o) → Q (.bool true) ⟨h', g, d, t, os⟩) : wpAny (model prog w) A (call (.builtin "hasattr") [.ref a, .str "__getitem__" tk]) Q E ⟨h, g, d, t, os⟩ := by
  refine call_function_tree kind_hasattr plain_hasattr entry_hasattr (args_hasattr _ _) ?_
  have hT : (⟨h, g, d, t, os⟩ : Shared).TypeIs (.ref a) "list" := ⟨_, hx, rfl⟩
  have f1 := lk_list_getitem
  have f2 := F.slot_list_getattribute.lookup
  have f3 := sub_list_module
  unfold Builtin.«hasattr»
  repeat (first | (with_reducible refine getitem_by_list hx ?_) | wp_step)
  intro h' v hk
  refine wpAny_pure (wpAny_ite_false rfl ?_)
  exact wpAny_pure (hq h' hk)
end
end Mine
end

section
open PySem PySem.W PyProof.Rows PySem.Calls
namespace Mine
theorem fillit : (hd.heap_39 = hd.heap_39) ∧ (PySem.Challenge.rw_re0015_01 = PySem.Challenge.rw_re0015_01) := by
  k_fill
  exact ⟨rfl, rfl⟩

/-- a plain list of ints -/
def IL (h : Heap) (l : Addr) (ns : List Int) : Prop := ∃ vs : List Value, h.PlainList l vs.toArray ∧ IntsAre vs ns
theorem IL.keeps {h h' : Heap} {l : Addr} {ns : List Int} (x : IL h l ns) (k : ∀ b o, h.get? b = some o → h'.get? b = some o) : IL h' l ns :=
  let ⟨vs, p, i⟩ := x; ⟨vs, p.at fun o e => k _ o e, i⟩

set_option maxHeartbeats 4000000 in
theorem call_contains {prog : Program} {w : World} {A : Around} {E : Value → Shared → Prop} {s : Shared} {mg mb : Str → Option Value} {Q : Value → Shared → Prop} (ev : Ev w mg mb s.heap) (hroom : A.depth < recursionLimit) (hh : A.handled = none)
    {l : Addr} {ns : List Int} {b : Int} {u : Tok} (hl : IL s.heap l ns)
    (k : ∀ h' tk, (∀ b o, s.heap.get? b = some o → h'.get? b = some o) → Q (.bool (ns.any fun x => x == b)) { s with heap := h', toks := tk }) : wpAny (model prog w) A (call (.ref 125) [.ref l, .int b u]) Q E s := by
  obtain ⟨vs, hp, hi⟩ := hl
  have hl := hp.isList
  refine wpAny_call ?_
  refine enter (binds := [(Str.ofString "a", .ref l), (Str.ofString "b", .int b u)]) ev rfl rfl hroom (BindsTo.of_eq rfl) (locs rfl) ?_ (by decide) rfl rfl rfl
  intro h₁ F
  have KX := ev.K
  have TX := ev.T
  have NX : News s.heap s.heap.objs.size h₁ [] := News.nil
  k_steps
  exact k _ _ F.keep

set_option maxHeartbeats 4000000 in
theorem call_getitem {prog : Program} {w : World} {A : Around} {E : Value → Shared → Prop} {s : Shared} {mg mb : Str → Option Value} {Q : Value → Shared → Prop} (ev : Ev w mg mb s.heap) (hroom : A.depth < recursionLimit) (hh : A.handled = none)
    {l : Addr} {ns : List Int} {b : Int} {u : Tok} (hl : IL s.heap l ns) (hb0 : 0 ≤ b) (hb1 : b < 8) (hlen : ns.length = 8)
    (k : ∀ h' tk v, (∀ b o, s.heap.get? b = some o → h'.get? b = some o) → Q (.int (ns.getD b.toNat 0) v) { s with heap := h', toks := tk }) : wpAny (model prog w) A (call (.ref 139) [.ref l, .int b u]) Q E s := by
  obtain ⟨vs, hp, hi⟩ := hl
  have hl := hp.isList
  refine wpAny_call ?_
  refine enter (binds := [(Str.ofString "a", .ref l), (Str.ofString "b", .int b u)]) ev rfl rfl hroom (BindsTo.of_eq rfl) (locs rfl) ?_ (by decide) rfl rfl rfl
  intro h₁ F
  have KX := ev.K
  have TX := ev.T
  have NX : News s.heap s.heap.objs.size h₁ [] := News.nil
  k_steps
  exact k _ _ _ F.keep

theorem hasattr_K {prog : Program} {w : World} {A : Around} {E : Value → Shared → Prop} {s : Shared} {h₀ : Heap} {L : Addr} {m : Str → Option Value} {news : List (Addr × Obj)} {Q : Value → Shared → Prop} {a : Addr} {its : Array Value} {tk : Tok}
    (F : Fr h₀ L s.heap m) (N : News h₀ L s.heap news) (hp : h₀.PlainList a its)
    (k : ∀ h', Fr h₀ L h' m → News h₀ L h' news → Q (.bool true) { s with heap := h' }) : wpAny (model prog w) A (call (.builtin "hasattr") [.ref a, .str "__getitem__" tk]) Q E s := by
  obtain ⟨n, e⟩ := hp
  obtain ⟨h, g, d, t, os⟩ := s
  exact call_hasattr_list (F.keep _ _ e) fun h' hk => k h' (F.keeps hk) (fun p hp => ⟨hk _ _ (N p hp).1, (N p hp).2⟩)

local macro_rules | `(tactic| walk_at "call builtin:hasattr") => `(tactic| (k_here; refine' hasattr_K ?k1 ?k2 ?k3 ?_; (case k1 => k_asm); (case k2 => k_asm); (case k3 => k_asm); intro h' F' N'; (try k_sweep)))

set_option maxHeartbeats 4000000 in
theorem call_concat {prog : Program} {w : World} {A : Around} {E : Value → Shared → Prop} {s : Shared} {mg mb : Str → Option Value} {Q : Value → Shared → Prop} (ev : Ev w mg mb s.heap) (hroom : A.depth < recursionLimit) (hh : A.handled = none)
    {l l2 : Addr} {ns ns2 : List Int} (hl : IL s.heap l ns) (hl2 : IL s.heap l2 ns2) (hn : ns.length ≤ 8) (hn2 : ns2.length ≤ 8)
    (k : ∀ h' tk D, (∀ b o, s.heap.get? b = some o → h'.get? b = some o) → s.heap.get? D = none → IL h' D (ns ++ ns2) → Q (.ref D) { s with heap := h', toks := tk }) : wpAny (model prog w) A (call (.ref 118) [.ref l, .ref l2]) Q E s := by
  obtain ⟨vs, hp, hi⟩ := hl
  have hl := hp.isList
  obtain ⟨vs2, hp2, hi2⟩ := hl2
  have hl2 := hp2.isList
  refine wpAny_call ?_
  refine enter (binds := [(Str.ofString "a", .ref l), (Str.ofString "b", .ref l2)]) ev rfl rfl hroom (BindsTo.of_eq rfl) (locs rfl) ?_ (by decide) rfl rfl rfl
  intro h₁ F
  have KX := ev.K
  have TX := ev.T
  have NX : News s.heap s.heap.objs.size h₁ [] := News.nil
  k_steps
  rename Fr _ _ _ _ => F'
  rename News _ _ _ _ => N'
  rename IntsAre _ (_ ++ _) => hI'
  exact k _ _ _ F'.keep (N'.fresh (.head _)) ⟨_, ⟨_, N'.get (.head _)⟩, hI'⟩

theorem room1 {A : Around} {env : Env} (h : A.depth + 9 < recursionLimit) : (A.deeper env).depth < recursionLimit := by
  show A.depth + 1 < recursionLimit
  omega
theorem news_keeps {h₀ h h' : Heap} {L : Addr} {news : List (Addr × Obj)} (N : News h₀ L h news) (hk : ∀ b o, h.get? b = some o → h'.get? b = some o) : News h₀ L h' news := fun p hp => ⟨hk _ _ (N p hp).1, (N p hp).2⟩

theorem k_add {prog : Program} {w : World} {A : Around} {E : Value → Shared → Prop} {s : Shared} {mg mb : Str → Option Value} {a b : Int} {t u : Tok} {Q : Value → Shared → Prop} {h₀ : Heap} {L : Addr} {m : Str → Option Value} {news : List (Addr × Obj)}
    (F : Fr h₀ L s.heap m) (N : News h₀ L s.heap news) (ev : Ev w mg mb h₀) (hroom : A.depth < recursionLimit)
    (k : ∀ h' tk v, Fr h₀ L h' m → News h₀ L h' news → Q (.int (a + b) v) { s with heap := h', toks := tk }) : wpAny (model prog w) A (call (.ref 69) [.int a t, .int b u]) Q E s :=
  call_add (ev.keeps F.keep) hroom fun h' tk v hk => k h' tk v (F.keeps hk) (news_keeps N hk)

theorem k_and_ {prog : Program} {w : World} {A : Around} {E : Value → Shared → Prop} {s : Shared} {mg mb : Str → Option Value} {a b : Int} {t u : Tok} {Q : Value → Shared → Prop} {h₀ : Heap} {L : Addr} {m : Str → Option Value} {news : List (Addr × Obj)}
    (F : Fr h₀ L s.heap m) (N : News h₀ L s.heap news) (ev : Ev w mg mb h₀) (hroom : A.depth < recursionLimit)
    (k : ∀ h' tk v, Fr h₀ L h' m → News h₀ L h' news → Q (.int (Builtin.bitAnd a b) v) { s with heap := h', toks := tk }) : wpAny (model prog w) A (call (.ref 76) [.int a t, .int b u]) Q E s :=
  call_and_ (ev.keeps F.keep) hroom fun h' tk v hk => k h' tk v (F.keeps hk) (news_keeps N hk)

theorem k_mul {prog : Program} {w : World} {A : Around} {E : Value → Shared → Prop} {s : Shared} {mg mb : Str → Option Value} {a b : Int} {t u : Tok} {Q : Value → Shared → Prop} {h₀ : Heap} {L : Addr} {m : Str → Option Value} {news : List (Addr × Obj)}
    (F : Fr h₀ L s.heap m) (N : News h₀ L s.heap news) (ev : Ev w mg mb h₀) (hroom : A.depth < recursionLimit) (hm : IntMulOk a b)
    (k : ∀ h' tk v, Fr h₀ L h' m → News h₀ L h' news → Q (.int (a * b) v) { s with heap := h', toks := tk }) : wpAny (model prog w) A (call (.ref 83) [.int a t, .int b u]) Q E s :=
  call_mul (ev.keeps F.keep) hroom hm fun h' tk v hk => k h' tk v (F.keeps hk) (news_keeps N hk)

theorem k_or_ {prog : Program} {w : World} {A : Around} {E : Value → Shared → Prop} {s : Shared} {mg mb : Str → Option Value} {a b : Int} {t u : Tok} {Q : Value → Shared → Prop} {h₀ : Heap} {L : Addr} {m : Str → Option Value} {news : List (Addr × Obj)}
    (F : Fr h₀ L s.heap m) (N : News h₀ L s.heap news) (ev : Ev w mg mb h₀) (hroom : A.depth < recursionLimit)
    (k : ∀ h' tk v, Fr h₀ L h' m → News h₀ L h' news → Q (.int (Builtin.bitOr a b) v) { s with heap := h', toks := tk }) : wpAny (model prog w) A (call (.ref 90) [.int a t, .int b u]) Q E s :=
  call_or_ (ev.keeps F.keep) hroom fun h' tk v hk => k h' tk v (F.keeps hk) (news_keeps N hk)

theorem k_rshift {prog : Program} {w : World} {A : Around} {E : Value → Shared → Prop} {s : Shared} {mg mb : Str → Option Value} {a b : Int} {t u : Tok} {Q : Value → Shared → Prop} {h₀ : Heap} {L : Addr} {m : Str → Option Value} {news : List (Addr × Obj)}
    (F : Fr h₀ L s.heap m) (N : News h₀ L s.heap news) (ev : Ev w mg mb h₀) (hroom : A.depth < recursionLimit) (hb : 0 ≤ b)
    (k : ∀ h' tk v, Fr h₀ L h' m → News h₀ L h' news → Q (.int (a.fdiv (2 ^ b.toNat)) v) { s with heap := h', toks := tk }) : wpAny (model prog w) A (call (.ref 97) [.int a t, .int b u]) Q E s :=
  call_rshift (ev.keeps F.keep) hroom hb fun h' tk v hk => k h' tk v (F.keeps hk) (news_keeps N hk)

theorem k_sub {prog : Program} {w : World} {A : Around} {E : Value → Shared → Prop} {s : Shared} {mg mb : Str → Option Value} {a b : Int} {t u : Tok} {Q : Value → Shared → Prop} {h₀ : Heap} {L : Addr} {m : Str → Option Value} {news : List (Addr × Obj)}
    (F : Fr h₀ L s.heap m) (N : News h₀ L s.heap news) (ev : Ev w mg mb h₀) (hroom : A.depth < recursionLimit)
    (k : ∀ h' tk v, Fr h₀ L h' m → News h₀ L h' news → Q (.int (a - b) v) { s with heap := h', toks := tk }) : wpAny (model prog w) A (call (.ref 104) [.int a t, .int b u]) Q E s :=
  call_sub (ev.keeps F.keep) hroom fun h' tk v hk => k h' tk v (F.keeps hk) (news_keeps N hk)

theorem k_xor {prog : Program} {w : World} {A : Around} {E : Value → Shared → Prop} {s : Shared} {mg mb : Str → Option Value} {a b : Int} {t u : Tok} {Q : Value → Shared → Prop} {h₀ : Heap} {L : Addr} {m : Str → Option Value} {news : List (Addr × Obj)}
    (F : Fr h₀ L s.heap m) (N : News h₀ L s.heap news) (ev : Ev w mg mb h₀) (hroom : A.depth < recursionLimit)
    (k : ∀ h' tk v, Fr h₀ L h' m → News h₀ L h' news → Q (.int (Builtin.bitXor a b) v) { s with heap := h', toks := tk }) : wpAny (model prog w) A (call (.ref 111) [.int a t, .int b u]) Q E s :=
  call_xor (ev.keeps F.keep) hroom fun h' tk v hk => k h' tk v (F.keeps hk) (news_keeps N hk)
end Mine
end

section
open PySem PySem.W PyProof.Rows PySem.Calls
namespace Mine
section
variable {prog : Program} {w : World} {A : Around} {E : Value → Shared → Prop} {s : Shared} {env : Env} {h₀ : Heap} {L : Addr} {Q : Flow → Shared → Prop}

/-- behind the source of a for: its iterator, then the loop -/
def ForK (prog : Program) (w : World) (A : Around) (env : Env) (target : PySem.Expr) (body : List Stmt) (Q : Flow → Shared → Prop) (E : Value → Shared → Prop) (xv : Value) (s₁ : Shared) : Prop :=
  wpAny (model prog w) A (pyIter xv) (fun it s₂ => codeAny (model prog w) A (.forLoop target it body [] env) (fun r s' => match r with | .ok f => Q f s' | .error e => cameBackBy (model prog w) A env E e s') s₂) E s₁

theorem for_start {target iter : PySem.Expr} {body : List Stmt} {pos : Pos} (h : wpAny (model prog w) A (eval iter env) (ForK prog w A env target body Q E) E s) (hs : ∀ x, foldedSetIterable iter env x = pure x := by intro _; rfl) :
    wpAny (model prog w) A (exec (.For target iter body [] pos) env) Q E s := wpAny_For h hs

/-- a turn's end: the frame, the ledger with the iterator as it was, the word for the next turn -/
def TurnEnd (s : Shared) (h₀ : Heap) (L I : Addr) (o : Obj) (J : (Str → Option Value) → List (Addr × Obj) → Array GenState → Prop) (Q : Flow → Shared → Prop) (f : Flow) (s₄ : Shared) : Prop :=
  match f with
  | .brk => Q .next s₄
  | .ret v => Q (.ret v) s₄
  | _ => ∃ h' tk' g' m' news', s₄ = { s with heap := h', toks := tk', gens := g' } ∧ Fr h₀ L h' m' ∧ News h₀ L h' news' ∧ (I, o) ∈ news' ∧ ∃ nx, (∀ p ∈ nx, p ∈ news') ∧ (∀ p ∈ nx, p.1 ≠ I) ∧ J m' nx g'

theorem turn_next {I : Addr} {o : Obj} {J : (Str → Option Value) → List (Addr × Obj) → Array GenState → Prop} {h' : Heap} {tk' : Nat} {g' : Array GenState} {m' : Str → Option Value} {nx : List (Addr × Obj)} (F : Fr h₀ L h' m') (N : News h₀ L h' ((I, o) :: nx)) (hn : ∀ p ∈ nx, p.1 ≠ I) (hJ : J m' nx g') :
    TurnEnd s h₀ L I o J Q .next { s with heap := h', toks := tk', gens := g' } := ⟨h', tk', g', m', _, rfl, F, N, .head _, nx, fun _ hp => .tail _ hp, hn, hJ⟩
theorem turn_nextS {I : Addr} {o : Obj} {J : (Str → Option Value) → List (Addr × Obj) → Array GenState → Prop} {h' : Heap} {tk' : Nat} {g' : Array GenState} {m' : Str → Option Value} {news' nx : List (Addr × Obj)} (F : Fr h₀ L h' m') (N : News h₀ L h' news') (hI : (I, o) ∈ news') (hx : ∀ p ∈ nx, p ∈ news') (hn : ∀ p ∈ nx, p.1 ≠ I) (hJ : J m' nx g') :
    TurnEnd s h₀ L I o J Q .next { s with heap := h', toks := tk', gens := g' } := ⟨h', tk', g', m', _, rfl, F, N, hI, nx, hx, hn, hJ⟩

theorem codeFor {target : PySem.Expr} {body : List Stmt} {I : Addr} {fp : List Addr} {n : Nat} {P : Nat → Value → Prop} {St : Nat → Heap → Prop} {m : Str → Option Value} {news : List (Addr × Obj)} {R : Result → Shared → Prop}
    (J : Nat → (Str → Option Value) → List (Addr × Obj) → Array GenState → Prop)
    (W : Walks prog w A I (I :: fp) [I] n P St) (hletgo : ∀ v, letOwnedTupleGo target (.ref I) v = pure ())
    (hI : ∀ i h, St i h → ∃ o, h.get? I = some o) (hIL : I ≠ L) (hI0 : h₀.get? I = none)
    (hst : St 0 s.heap) (F : Fr h₀ L s.heap m) (N : News h₀ L s.heap news) (hnI : ∀ p ∈ news, p.1 ≠ I) (hj : J 0 m news s.gens)
    (hfp : ∀ b ∈ fp, ∃ ob, ∀ i m₁ news₁ g h, J i m₁ news₁ g → Fr h₀ L h m₁ → News h₀ L h news₁ → h.get? b = some ob)
    (turn : ∀ i v m₁ news₁ h tk g o E', i < n → P i v → J i m₁ news₁ g → (∀ p ∈ news₁, p.1 ≠ I) → Fr h₀ L h m₁ → News h₀ L h ((I, o) :: news₁) →
      wpAny (model prog w) A (assign target env v) (fun _ s₃ => wpAny (model prog w) A (execs body env) (TurnEnd s h₀ L I o (J (i + 1)) (fun f s' => R (.ok f) s')) E' s₃) E' { s with heap := h, toks := tk, gens := g })
    (done : ∀ m₁ news₁ h tk g, J n m₁ news₁ g → Fr h₀ L h m₁ → News h₀ L h news₁ → R (.ok .next) { s with heap := h, toks := tk, gens := g }) :
    codeAny (model prog w) A (.forLoop target (.ref I) body [] env) R s := by
  refine codeAny_forLoop_any
    (fun k s' => ∃ h tk g m₁ news₁ i, s' = { s with heap := h, toks := tk, gens := g } ∧ St i h ∧ Fr h₀ L h m₁ ∧ News h₀ L h news₁ ∧ (∀ p ∈ news₁, p.1 ≠ I) ∧ J i m₁ news₁ g ∧ i ≤ n ∧ k = n + 1 - i) ?_ (n + 1)
    ⟨s.heap, s.toks, s.gens, m, news, 0, rfl, hst, F, N, hnI, hj, Nat.zero_le _, rfl⟩
  rintro k s' ⟨h, tk, g, m₁, news₁, i, rfl, hst', F', N', hnI', hJ, hi, rfl⟩
  have next : ∀ h₁ : Heap, (∀ b o, b ∉ [I] → h.get? b = some o → h₁.get? b = some o) → Fr h₀ L h₁ m₁ ∧ News h₀ L h₁ news₁ := fun h₁ hk₁ =>
    ⟨⟨F'.ns.at' fun o e => hk₁ _ o (by simpa using hIL.symm) e, fun b o e => hk₁ b o (fun hb => by rw [List.mem_singleton.mp hb, hI0] at e; cases e) (F'.keep b o e), F'.above⟩,
      fun p hp => ⟨hk₁ _ _ (by simpa using hnI' p hp) (N' p hp).1, (N' p hp).2⟩⟩
  by_cases hlt : i < n
  · refine W.item i _ _ _ hlt hst' fun v h₁ tk₁ hP hst₁ hk₁ => ?_
    obtain ⟨F₁, N₁⟩ := next h₁ hk₁
    obtain ⟨o, ho⟩ := hI _ _ hst₁
    refine wpAny_of_eq (hletgo v) ?_
    have NI : News h₀ L h₁ ((I, o) :: news₁) := fun p hp => by
      rcases List.mem_cons.mp hp with rfl | hp
      · exact ⟨ho, hIL, hI0⟩
      · exact N₁ p hp
    refine wpAny_mono (turn i v m₁ news₁ h₁ tk₁ g o _ hlt hP hJ hnI' F₁ NI) (fun _ s₃ h₃ => wpAny_mono h₃ (fun f s₄ h₄ => ?_) fun _ _ e => e) fun _ _ e => e
    have fin : (∃ h' tk' g' m' news', s₄ = { s with heap := h', toks := tk', gens := g' } ∧ Fr h₀ L h' m' ∧ News h₀ L h' news' ∧ (I, o) ∈ news' ∧ ∃ nx, (∀ p ∈ nx, p ∈ news') ∧ (∀ p ∈ nx, p.1 ≠ I) ∧ J (i + 1) m' nx g') →
        ∃ m, m < n + 1 - i ∧ ∃ h tk g m₁ news₁ i, s₄ = { s with heap := h, toks := tk, gens := g } ∧ St i h ∧ Fr h₀ L h m₁ ∧ News h₀ L h news₁ ∧ (∀ p ∈ news₁, p.1 ≠ I) ∧ J i m₁ news₁ g ∧ i ≤ n ∧ m = n + 1 - i := by
      rintro ⟨h', tk', g', m', news', rfl, F₄, N₄, hmem, nx, hnx, hnxI, hJ₄⟩
      have Nx : News h₀ L h' nx := fun p hp => N₄ p (hnx p hp)
      refine ⟨n + 1 - (i + 1), by omega, h', tk', g', m', nx, i + 1, rfl, ?_, F₄, Nx, hnxI, hJ₄, hlt, rfl⟩
      refine W.frame _ _ _ hst₁ fun b hb ob e => ?_
      rcases List.mem_cons.mp hb with rfl | hb
      · rw [ho] at e; cases e; exact (N₄ _ hmem).1
      · obtain ⟨ob', hob⟩ := hfp b hb
        have e1 := hob i m₁ news₁ g h₁ hJ F₁ N₁
        rw [e1] at e; cases e
        exact hob (i + 1) m' nx g' h' hJ₄ F₄ Nx
    cases f with
    | next => exact fin h₄
    | cont => exact fin h₄
    | brk => exact h₄
    | ret v => exact h₄
  · have hin : i = n := by omega
    subst hin
    refine W.done _ _ _ hst' fun h₁ tk₁ hk₁ => wpAny_execs_nil ?_
    obtain ⟨F₁, N₁⟩ := next h₁ hk₁
    exact done m₁ news₁ h₁ tk₁ g hJ F₁ N₁

theorem letgo_name {x : Str} {px : Pos} {it : Value} (v : Value) : letOwnedTupleGo (.Name x px) it v = pure () := rfl

/-- over a list -/
theorem forK_list {x : Str} {px : Pos} {body : List Stmt} {l : Addr} {vs : List Value} {m : Str → Option Value} {news : List (Addr × Obj)}
    (J : Nat → (Str → Option Value) → List (Addr × Obj) → Array GenState → Prop) (hh : A.handled = none) (hl : s.heap.IsList l vs.toArray) (F : Fr h₀ L s.heap m) (N : News h₀ L s.heap news) (hj : J 0 m news s.gens)
    (hfp : ∃ ob, ∀ i m₁ news₁ g h, J i m₁ news₁ g → Fr h₀ L h m₁ → News h₀ L h news₁ → h.get? l = some ob)
    (turn : ∀ I i v m₁ news₁ h tk g o E', vs[i]? = some v → J i m₁ news₁ g → (∀ p ∈ news, p.1 < I) → (∀ p ∈ news₁, p.1 ≠ I) → Fr h₀ L h m₁ → News h₀ L h ((I, o) :: news₁) →
      wpAny (model prog w) A (storeName env x v) (fun _ s₃ => wpAny (model prog w) A (execs body env) (TurnEnd s h₀ L I o (J (i + 1)) Q) E' s₃) E' { s with heap := h, toks := tk, gens := g })
    (done : ∀ m₁ news₁ h tk g, J vs.length m₁ news₁ g → Fr h₀ L h m₁ → News h₀ L h news₁ → Q .next { s with heap := h, toks := tk, gens := g }) :
    ForK prog w A env (.Name x px) body Q E (.ref l) s := by
  unfold ForK
  refine wpAny_pyIter_list hl ?_
  have hlt : l < s.heap.objs.size := by obtain ⟨_, e, _⟩ := hl; exact Heap.lt_size e
  have W := Walks.list (prog := prog) (w := w) hh s.heap.objs.size l (Nat.ne_of_lt hlt) vs.toArray
  refine codeFor (s := { s with heap := s.heap.push { cls := .type "list_iterator", data := .fields #[.ref l, .int 0 0] } }) (h₀ := h₀) (L := L) (m := m) (news := news) J W (fun v => letgo_name v) ?_ ?_ ?_ ⟨⟨_, Heap.get?_push_size _ rfl, rfl, rfl⟩, hl.push _⟩ (F.push _) (news_keeps N fun _ _ e => Heap.get?_push_of_some _ e)
    (fun p hp => Nat.ne_of_lt (Heap.lt_size (N p hp).1)) hj ?_ ?_ ?_
  · rintro i h ⟨⟨o, ho, _⟩, _⟩; exact ⟨o, ho⟩
  · exact Nat.ne_of_gt F.ns.lt
  · exact next_is_new F
  · intro b hb
    rw [List.mem_singleton.mp hb]
    exact hfp
  · intro i v m₁ news₁ h tk g o E' _ hP hJ hn F₁ N₁
    exact wpAny_assign_Name (turn _ i v m₁ news₁ h tk g o E' (by simpa using hP) hJ (fun p hp => Heap.lt_size (N p hp).1) hn F₁ N₁)
  · intro m₁ news₁ h tk g hJ F₁ N₁
    exact done m₁ news₁ h tk g (by simpa using hJ) F₁ N₁

/-- over a range that starts at a and goes by ones -/
theorem forK_range {x : Str} {px : Pos} {body : List Stmt} {r : Addr} {a b : Int} {t₁ t₂ t₃ : Tok} {m : Str → Option Value} {news : List (Addr × Obj)}
    (J : Nat → (Str → Option Value) → List (Addr × Obj) → Array GenState → Prop) (hh : A.handled = none) (hr : IsRange s.heap r a b 1 t₁ t₂ t₃) (ha : -(2 ^ 62) ≤ a) (hab : a ≤ b) (hb : b < 2 ^ 62) (F : Fr h₀ L s.heap m) (N : News h₀ L s.heap news) (hj : J 0 m news s.gens)
    (turn : ∀ I (i : Nat) t m₁ news₁ h tk g o E', a + i < b → J i m₁ news₁ g → (∀ p ∈ news, p.1 < I) → (∀ p ∈ news₁, p.1 ≠ I) → Fr h₀ L h m₁ → News h₀ L h ((I, o) :: news₁) →
      wpAny (model prog w) A (storeName env x (.int (a + i) t)) (fun _ s₃ => wpAny (model prog w) A (execs body env) (TurnEnd s h₀ L I o (J (i + 1)) Q) E' s₃) E' { s with heap := h, toks := tk, gens := g })
    (done : ∀ m₁ news₁ h tk g, J (b - a).toNat m₁ news₁ g → Fr h₀ L h m₁ → News h₀ L h news₁ → Q .next { s with heap := h, toks := tk, gens := g }) :
    ForK prog w A env (.Name x px) body Q E (.ref r) s := by
  unfold ForK
  refine wpAny_pyIter_range hr (small_one (by omega) (by omega) (by omega) hb) ?_
  have hsz : Builtin.Range.rangeSize a b 1 = ((b - a).toNat : Int) := by rw [rangeSize_one]; split <;> omega
  have W := Walks.range (prog := prog) (w := w) hh s.heap.objs.size a 1 (b - a).toNat
  refine codeFor (s := { s with heap := s.heap.push { cls := .type "range_iterator", data := .fields #[rawInt a, rawInt (Builtin.Range.rangeSize a b 1), rawInt 1] } }) (h₀ := h₀) (L := L) (m := m) (news := news) J W (fun v => letgo_name v) ?_ ?_ ?_ ?_ (F.push _) (news_keeps N fun _ _ e => Heap.get?_push_of_some _ e)
    (fun p hp => Nat.ne_of_lt (Heap.lt_size (N p hp).1)) hj ?_ ?_ ?_
  · intro i h e; exact ⟨_, e⟩
  · exact Nat.ne_of_gt F.ns.lt
  · exact next_is_new F
  · have e1 : (a + ((0 : Nat) : Int) * 1) = a := by simp
    have e2 : (((b - a).toNat : Int) - ((0 : Nat) : Int)) = Builtin.Range.rangeSize a b 1 := by rw [hsz]; simp
    rw [e1, e2]
    exact Heap.get?_push_size _ rfl
  · intro b hb; cases hb
  · intro i v m₁ news₁ h tk g o E' hi hP hJ hn F₁ N₁
    obtain ⟨t, rfl⟩ := hP
    rw [Int.mul_one]
    exact wpAny_assign_Name (turn _ i t m₁ news₁ h tk g o E' (by omega) hJ (fun p hp => Heap.lt_size (N p hp).1) hn F₁ N₁)
  · exact done

theorem for_range1 {x : Str} {px : Pos} {body : List Stmt} {b : Int} {t₁ : Tok} {m : Str → Option Value} {news : List (Addr × Obj)}
    (J : Nat → (Str → Option Value) → List (Addr × Obj) → Array GenState → Prop) (hh : A.handled = none) (hab : 0 ≤ b) (hb : b < 2 ^ 62) (F : Fr h₀ L s.heap m) (N : News h₀ L s.heap news) (hj : J 0 m news s.gens)
    (turn : ∀ I (i : Nat) t m₁ news₁ h tk g o E', (i : Int) < b → J i m₁ news₁ g → (∀ p ∈ news, p.1 < I) → (∀ p ∈ news₁, p.1 ≠ I) → Fr h₀ L h m₁ → News h₀ L h ((I, o) :: news₁) →
      wpAny (model prog w) A (storeName env x (.int i t)) (fun _ s₃ => wpAny (model prog w) A (execs body env) (TurnEnd s h₀ L I o (J (i + 1)) Q) E' s₃) E' { s with heap := h, toks := tk, gens := g })
    (done : ∀ m₁ news₁ h tk g, J b.toNat m₁ news₁ g → Fr h₀ L h m₁ → News h₀ L h news₁ → Q .next { s with heap := h, toks := tk, gens := g }) :
    wpAny (model prog w) A (call (.type "range") [.int b t₁]) (ForK prog w A env (.Name x px) body Q E) E s := by
  refine call_range_1 ?_
  refine forK_range (a := 0) J hh (IsRange.new ..) (by decide) hab hb (F.push _) (news_keeps N fun _ _ e => Heap.get?_push_of_some _ e) hj ?_ ?_
  · intro I i t m₁ news₁ h tk g o E' hi hJ hlt hn F₁ N₁
    have := turn I i t m₁ news₁ h tk g o E' (by omega) hJ hlt hn F₁ N₁
    rw [Int.zero_add]
    exact this
  · intro m₁ news₁ h tk g hJ F₁ N₁
    rw [Int.sub_zero] at hJ
    exact done m₁ news₁ h tk g hJ F₁ N₁

theorem for_range2 {x : Str} {px : Pos} {body : List Stmt} {a b : Int} {t₁ t₂ : Tok} {m : Str → Option Value} {news : List (Addr × Obj)}
    (J : Nat → (Str → Option Value) → List (Addr × Obj) → Array GenState → Prop) (hh : A.handled = none) (ha : -(2 ^ 62) ≤ a) (hab : a ≤ b) (hb : b < 2 ^ 62) (F : Fr h₀ L s.heap m) (N : News h₀ L s.heap news) (hj : J 0 m news s.gens)
    (turn : ∀ I (i : Nat) t m₁ news₁ h tk g o E', a + i < b → J i m₁ news₁ g → (∀ p ∈ news, p.1 < I) → (∀ p ∈ news₁, p.1 ≠ I) → Fr h₀ L h m₁ → News h₀ L h ((I, o) :: news₁) →
      wpAny (model prog w) A (storeName env x (.int (a + i) t)) (fun _ s₃ => wpAny (model prog w) A (execs body env) (TurnEnd s h₀ L I o (J (i + 1)) Q) E' s₃) E' { s with heap := h, toks := tk, gens := g })
    (done : ∀ m₁ news₁ h tk g, J (b - a).toNat m₁ news₁ g → Fr h₀ L h m₁ → News h₀ L h news₁ → Q .next { s with heap := h, toks := tk, gens := g }) :
    wpAny (model prog w) A (call (.type "range") [.int a t₁, .int b t₂]) (ForK prog w A env (.Name x px) body Q E) E s := by
  refine call_range_2 ?_
  refine forK_range (a := a) J hh (IsRange.new ..) ha hab hb (F.push _) (news_keeps N fun _ _ e => Heap.get?_push_of_some _ e) hj ?_ ?_
  · intro I i t m₁ news₁ h tk g o E' hi hJ hlt hn F₁ N₁
    exact turn I i t m₁ news₁ h tk g o E' hi hJ hlt hn F₁ N₁
  · intro m₁ news₁ h tk g hJ F₁ N₁
    exact done m₁ news₁ h tk g hJ F₁ N₁
end
end Mine
end

section
open PySem PySem.W PyProof.Rows PySem.Calls
namespace Mine
theorem lt_sz {h : Heap} {b : Addr} {o : Obj} (e : h.get? b = some o) : @LT.lt Nat _ b h.objs.size := Heap.lt_size e
section names
variable {M : Model} {A : Around} {E : Value → Shared → Prop} {s : Shared} {h₀ : Heap} {m mg mb : Str → Option Value} {e : Env} {x : Str} {pos : Pos} {v : Value} {c : Addr} {Q : Value → Shared → Prop} {K : Frag} {p : Program} {loose : List Str}

theorem nm_L (F : Fr h₀ e.locals s.heap m) (hv : m x = some v) (h : Q v s) (hk : e.scope.kind = .function) (hx : e.kindOf x = some .local) (hd : (x == ("__debug__" : Str)) = false) : wpAny M A (eval (.Name x pos) e) Q E s :=
  wpAny_Name (wpAny_loadName_local hk hx F.ns hv h) hd
theorem nm_C {C : Addr} (F : Fr h₀ C s.heap m) (hc : e.cells.lookup x = some c) (hb : h₀.IsCell c (some v)) (h : Q v s) (hk : e.scope.kind = .function) (hx : e.kindOf x = some .cell) (hd : (x == ("__debug__" : Str)) = false) : wpAny M A (eval (.Name x pos) e) Q E s :=
  wpAny_Name (wpAny_loadName_cell hk hx hc (hb.keeps F.keep) h) hd
theorem nm_K {C : Addr} (F : Fr h₀ C s.heap m) (X : K.In h₀) (T : TopRead p loose mg mb h₀) (e1 : nsIn K mainGlobals x = some (some v)) (h : Q v s) (hg : e.globals = mainGlobals) (hk : e.scope.kind = .function) (hx : e.kindOf x = some .globalImplicit) (hd : (x == ("__debug__" : Str)) = false) :
    wpAny M A (eval (.Name x pos) e) Q E s := Name_function_global hk hx (loadGlobal_global (env := e) (hg ▸ T.g.keeps F.keep) (mg_of X T.g e1) h) hd
theorem nm_B {C : Addr} (F : Fr h₀ C s.heap m) (X : K.In h₀) (T : TopRead p loose mg mb h₀) (e1 : nsIn K mainGlobals x = some none) (hv : bootBuiltins x = some v) (hn : x ≠ "__name__") (h : Q v s) (hg : e.globals = mainGlobals) (hb : e.builtins = builtinsNs) (hk : e.scope.kind = .function) (hx : e.kindOf x = some .globalImplicit) (hd : (x == ("__debug__" : Str)) = false) :
    wpAny M A (eval (.Name x pos) e) Q E s :=
  Name_function_global hk hx (loadGlobal_builtin (env := e) (hg ▸ T.g.keeps F.keep) (mg_none_of X T.g e1) (hb ▸ T.b.keeps F.keep) ((T.builtins x hn).trans hv) h) hd
end names

section
variable {prog : Program} {w : World} {A : Around} {E : Value → Shared → Prop} {s : Shared} {env : Env} {h₀ : Heap} {L : Addr}

/-- a comprehension's turn has ended in an element -/
def EltEnd (s : Shared) (C I D : Addr) (o : Obj) (m : Str → Option Value) (ys : List Value) (n : Nat) (J : List Value → List (Addr × Obj) → Nat → Prop) (y : Value) (s₄ : Shared) : Prop :=
  ∃ h' tk' news', s₄ = { s with heap := h', toks := tk' } ∧ Fr s.heap C h' m ∧ News s.heap C h' news' ∧ (I, o) ∈ news' ∧ (D, listOf ys.toArray n) ∈ news' ∧ ∃ nx, (∀ p ∈ nx, p ∈ news') ∧ (∀ p ∈ nx, p.1 ≠ I ∧ p.1 ≠ D) ∧ J (ys ++ [y]) nx tk'

theorem codeComp {elt iter : PySem.Expr} {x : Str} {px pos : Pos} {scope : Scope} {cenv : Env} {C D I : Addr} {fp : List Addr} {n : Nat} {P : Nat → Value → Prop} {St : Nat → Heap → Prop} {m : Str → Option Value} {R : Result → Shared → Prop} {h₁ : Heap}
    (J : Nat → List Value → List (Addr × Obj) → Nat → Prop) (hC : cenv.locals = C) (hx : cenv.kindOf x = some .local) (hp : (cenv.scope.kind == .class || (cenv.scope.kind == .module && cenv.locals != cenv.globals)) = false)
    (W : Walks prog w A I (I :: fp) [I] n P St) (hI : ∀ i h, St i h → ∃ o, h.get? I = some o) (hIC : I ≠ C) (hID : D ≠ I) (hDC : D ≠ C) (hI0 : s.heap.get? I = none) (hD0 : s.heap.get? D = none) (hnsz : n ≤ sizeLine)
    (hfp : ∀ b ∈ fp, ∃ ob, s.heap.get? b = some ob) (hst : St 0 h₁) (F : Fr s.heap C h₁ m) (hD : h₁.get? D = some (listOf ([] : List Value).toArray 0)) (hj : J 0 [] [] s.toks) (hJl : ∀ i ys nx tk, J i ys nx tk → ys.length = i) {tk₁ : Nat} (htk : tk₁ = s.toks)
    (turn : ∀ i v (m₁ : Str → Option Value) ys k news h tk o E', i < n → P i v → J i ys news tk → (∀ p ∈ news, p.1 ≠ I ∧ p.1 ≠ D) → Fr s.heap C h (fun y => if y = x then some v else m₁ y) → News s.heap C h ((I, o) :: (D, listOf ys.toArray k) :: news) →
      ∀ tk₂, tk ≤ tk₂ → wpAny (model prog w) A (eval elt cenv) (EltEnd s C I D o (fun y => if y = x then some v else m₁ y) ys k (J (i + 1))) E' { s with heap := h, toks := tk₂ })
    (hJt : ∀ i ys nx tk tk', J i ys nx tk → tk ≤ tk' → J i ys nx tk')
    (done : ∀ ys k news h tk m₁, J n ys news tk → (∀ p ∈ news, p.1 ≠ I ∧ p.1 ≠ D) → Fr s.heap C h m₁ → News s.heap C h ((D, listOf ys.toArray k) :: news) → R (.ok .next) { s with heap := h, toks := tk }) :
    codeAny (model prog w) A (.compLoop (.ListComp elt [⟨.Name x px, iter, [], 0⟩] scope pos) 0 (.ref I) (.ref D) cenv) R { s with heap := h₁, toks := tk₁ } := by
  subst htk
  have hN0 : News s.heap C h₁ [(D, listOf ([] : List Value).toArray 0)] := fun p hp => by
    rw [List.mem_singleton.mp hp]
    exact ⟨hD, hDC, hD0⟩
  refine codeAny_compLoop_list
    (fun k s' => ∃ h tk m₁ ys kk news i, s' = { s with heap := h, toks := tk } ∧ St i h ∧ Fr s.heap C h m₁ ∧ News s.heap C h ((D, listOf ys.toArray kk) :: news) ∧ (∀ p ∈ news, p.1 ≠ I ∧ p.1 ≠ D) ∧ J i ys news tk ∧ i ≤ n ∧ k = n + 1 - i) ?_ (n + 1)
    ⟨h₁, s.toks, m, [], 0, [], 0, rfl, hst, F, hN0, (fun _ h => nomatch h), hj, Nat.zero_le _, rfl⟩ (fun v => letgo_name v)
  rintro k s' ⟨h, tk, m₁, ys, kk, news, i, rfl, hst', F', N', hnI', hJ, hi, rfl⟩
  have next : ∀ h₁ : Heap, (∀ b o, b ∉ [I] → h.get? b = some o → h₁.get? b = some o) → Fr s.heap C h₁ m₁ ∧ News s.heap C h₁ ((D, listOf ys.toArray kk) :: news) := fun h₁ hk₁ =>
    ⟨⟨F'.ns.at' fun o e => hk₁ _ o (by simpa using hIC.symm) e, fun b o e => hk₁ b o (fun hb => by rw [List.mem_singleton.mp hb, hI0] at e; cases e) (F'.keep b o e), F'.above⟩,
      fun p hp => ⟨hk₁ _ _ (by
        rcases List.mem_cons.mp hp with rfl | hp
        · simpa using hID
        · simpa using (hnI' p hp).1) (N' p hp).1, (N' p hp).2⟩⟩
  by_cases hlt : i < n
  · refine wpAny_with_toks (Nat.le_refl tk) ?_
    refine W.item i _ _ _ hlt hst' fun v h₂ tk₂ hP hst₂ hk₂ htk₂ => ?_
    obtain ⟨F₂, N₂⟩ := next h₂ hk₂
    obtain ⟨o, ho⟩ := hI _ _ hst₂
    refine wpAny_assign_Name ?_
    refine wpAny_storeName_local hx (hC ▸ F₂.ns) (fun h₃ hn₃ hs₃ => ?_) hp
    rw [hC] at hn₃ hs₃
    have F₃ : Fr s.heap C h₃ (fun y => if y = x then some v else m₁ y) := F₂.set hn₃ hs₃
    have NI : News s.heap C h₂ ((I, o) :: (D, listOf ys.toArray kk) :: news) := fun p hp => by
      rcases List.mem_cons.mp hp with rfl | hp
      · exact ⟨ho, hIC, hI0⟩
      · exact N₂ p hp
    have N₃ := NI.set hs₃
    refine wpAny_mono (turn i v m₁ ys kk news h₃ tk o _ hlt hP hJ hnI' F₃ N₃ (tk₂ + 1) (by have : tk ≤ tk₂ := htk₂; omega)) (fun y s₄ h₄ => ?_) fun _ _ e => e
    obtain ⟨h', tk', news', rfl, F₄, N₄, hmI, hmD, nx, hnx, hnx2, hJ₄⟩ := h₄
    have z := N₄ _ hmD
    refine append_at (hsz := by rw [List.size_toArray, hJl _ _ _ _ hJ]; omega) z.1 fun h'' hs ho' => ?_
    have F₅ : Fr s.heap C h'' _ := F₄.change hs z.2.1 z.2.2
    refine ⟨n + 1 - (i + 1), by omega, h'', tk', _, ys ++ [y], kk + 1, nx, i + 1, rfl, ?_, F₅, ?_, hnx2, hJ₄, hlt, rfl⟩
    · refine W.frame _ _ _ hst₂ fun b hb ob e => ?_
      rcases List.mem_cons.mp hb with rfl | hb
      · rw [ho] at e; cases e
        exact (hs.2 _ hID.symm).trans (N₄ _ hmI).1
      · obtain ⟨ob', hob⟩ := hfp b hb
        have e1 := F₂.keep _ _ hob
        rw [e1] at e; cases e
        exact F₅.keep _ _ hob
    · intro p hp
      rcases List.mem_cons.mp hp with rfl | hp
      · refine ⟨?_, z.2.1, z.2.2⟩
        rw [ho', List.push_toArray]
      · have q := N₄ p (hnx p hp)
        exact ⟨(hs.2 _ (hnx2 p hp).2).trans q.1, q.2⟩
  · have hin : i = n := by omega
    subst hin
    refine wpAny_with_toks (Nat.le_refl tk) ?_
    refine W.done _ _ _ hst' fun h₂ tk₂ hk₂ htk₂ => ?_
    obtain ⟨F₂, N₂⟩ := next h₂ hk₂
    exact done ys kk news h₂ tk₂ m₁ (hJt _ _ _ _ _ hJ htk₂) hnI' F₂ N₂

theorem comp_block {elt iter : PySem.Expr} {x : Str} {px pos : Pos} {scope : Scope} {cl : List (Str × Addr)} {fp : List Addr} {n : Nat} {P : Nat → Value → Prop} {St : Nat → Heap → Prop} {RR : Value → Addr → Result → Shared → Prop} {o₀ : Obj}
    (J : Nat → List Value → List (Addr × Obj) → Nat → Prop) (W : Walks prog w A s.heap.objs.size (s.heap.objs.size :: fp) [s.heap.objs.size] n P St) (hI : ∀ i h, St i h → ∃ o, h.get? s.heap.objs.size = some o)
    (hcell : ∀ y ∈ scope.names, y.2 ≠ .cell) (hkind : scope.kind = .function) (hx : scope.names.lookup x = some .local) (hst : St 0 (s.heap.push o₀)) (hfp : ∀ b ∈ fp, ∃ ob, s.heap.get? b = some ob) (hnsz : n ≤ sizeLine)
    (hj : J 0 [] [] s.toks) (hJl : ∀ i ys nx tk, J i ys nx tk → ys.length = i) (hJt : ∀ i ys nx tk tk', J i ys nx tk → tk ≤ tk' → J i ys nx tk')
    (turn : ∀ C D i v (m₁ : Str → Option Value) ys k news h tk o E', s.heap.objs.size < D → D < C → i < n → P i v → J i ys news tk → (∀ p ∈ news, p.1 ≠ s.heap.objs.size ∧ p.1 ≠ D) → Fr s.heap C h (fun y => if y = x then some v else m₁ y) → News s.heap C h ((s.heap.objs.size, o) :: (D, listOf ys.toArray k) :: news) →
      ∀ tk₂, tk ≤ tk₂ → wpAny (model prog w) A (eval elt (compEnvC scope cl C env)) (EltEnd s C s.heap.objs.size D o (fun y => if y = x then some v else m₁ y) ys k (J (i + 1))) E' { s with heap := h, toks := tk₂ })
    (done : ∀ D C ys k news h tk m₁, s.heap.objs.size < D → D < C → J n ys news tk → (∀ p ∈ news, p.1 ≠ D) → Fr s.heap C h m₁ → News s.heap C h ((D, listOf ys.toArray k) :: news) → RR (.ref D) C (.ok .next) { s with heap := h, toks := tk }) :
    wpAny (model prog w) A (newList []) (fun acc s₃ => wpAny (model prog w) A (newFunctionEnv scope env.globals cl [] env.qual none .none (some env)) (fun cenv s₄ =>
      codeAny (model prog w) A (.compStart (.ListComp elt [⟨.Name x px, iter, [], 0⟩] scope pos) 0 (.ref s.heap.objs.size) acc { cenv with scope := relabel scope env }) (RR acc cenv.locals) s₄) E s₃) E { s with heap := s.heap.push o₀ } := by
  refine wpAny_newObj_type (wpAny_newFunctionEnv hcell (by intro y hy; simp at hy) (fun h₁ hns₁ hsb₁ => ?_) hkind)
  dsimp only at hns₁ hsb₁ ⊢
  generalize hH2 : (s.heap.push o₀).push { cls := .type "list", dict := none, data := .seq ([] : List Value).toArray } = H2 at hns₁ hsb₁ ⊢
  have hD : (s.heap.push o₀).objs.size = s.heap.objs.size + 1 := Heap.size_push ..
  have hC : H2.objs.size = s.heap.objs.size + 2 := by rw [← hH2, Heap.size_push, hD]
  have old : ∀ b o, s.heap.get? b = some o → h₁.get? b = some o := fun b o e => hsb₁.extBut b o (by rw [hC]; have := lt_sz e; exact Nat.ne_of_lt (by omega)) (Heap.get?_push_of_some _ (hH2 ▸ Heap.get?_push_of_some _ (Heap.get?_push_of_some _ e)))
  have fresh : ∀ a, s.heap.objs.size ≤ a → s.heap.get? a = none := fun a ha => by
    cases e : s.heap.get? a with
    | none => rfl
    | some o' => exact absurd (Heap.lt_size e) (Nat.not_lt.mpr ha)
  have old2 : ∀ b o, (s.heap.push o₀).get? b = some o → h₁.get? b = some o := fun b o e => hsb₁.extBut b o (by rw [hC]; have := lt_sz e; rw [hD] at this; exact Nat.ne_of_lt (by omega)) (Heap.get?_push_of_some _ (hH2 ▸ Heap.get?_push_of_some _ e))
  have hacc : h₁.get? (s.heap.push o₀).objs.size = some (listOf ([] : List Value).toArray 0) :=
    hsb₁.extBut _ _ (by rw [hC, hD]; exact Nat.ne_of_lt (by omega)) (Heap.get?_push_of_some _ (hH2 ▸ Heap.get?_push_size _ rfl))
  have hst₁ : St 0 h₁ := W.frame _ _ _ hst fun b _ o e => old2 b o e
  have loop : ∀ s₃ : Shared, s₃ = { s with heap := h₁, toks := s.toks + ([] : List (Str × Value)).length } →
      codeAny (model prog w) A (.compLoop (.ListComp elt [⟨.Name x px, iter, [], 0⟩] scope pos) 0 (.ref s.heap.objs.size) (.ref (s.heap.push o₀).objs.size) (compEnvC scope cl H2.objs.size env))
        (RR (.ref (s.heap.push o₀).objs.size) H2.objs.size) s₃ := by
    rintro s₃ rfl
    refine codeComp (s := s) (cenv := compEnvC scope cl H2.objs.size env) (C := H2.objs.size) (m := fun x => ([] : List (Str × Value)).reverse.lookup x) J rfl (lookup_relabel_local hx) (by simp [compEnvC, relabel, hkind]) W hI ?_ ?_ ?_ (fresh _ (Nat.le_refl _)) (fresh _ ?_) hnsz hfp hst₁ ⟨hns₁, old, ?_⟩ hacc hj hJl rfl ?_ hJt ?_
    · rw [hC]; exact Nat.ne_of_lt (by omega)
    · rw [hD]; exact Nat.ne_of_gt (by omega)
    · rw [hC, hD]; exact Nat.ne_of_lt (by omega)
    · rw [hD]; omega
    · rw [hC]; omega
    · intro i v m₁ ys k news h tk o E' hi hP hJ hn F N tk₂ htk
      exact turn _ _ i v m₁ ys k news h tk o E' (by rw [hD]; omega) (by rw [hC, hD]; omega) hi hP hJ hn F N tk₂ htk
    · intro ys k news h tk m₁ hJ hn F N
      exact done _ _ ys k news h tk m₁ (by rw [hD]; omega) (by rw [hC, hD]; omega) hJ (fun p hp => (hn p hp).2) F N
  exact codeAny_compStart_list (loop _ rfl) (W.self 0 _ _ _ hst₁ (loop _ rfl))

/-- behind the source of a comprehension -/
def CompK (prog : Program) (w : World) (A : Around) (env : Env) (elt iter : PySem.Expr) (x : Str) (px : Pos) (scope : Scope) (cl : List (Str × Addr)) (pos : Pos) (Q : Value → Shared → Prop) (E : Value → Shared → Prop) (xv : Value) (s₁ : Shared) : Prop :=
  wpAny (model prog w) A (pyIter xv) (fun it s₂ => wpAny (model prog w) A (newList []) (fun acc s₃ =>
      wpAny (model prog w) A (newFunctionEnv scope env.globals cl [] env.qual none .none (some env)) (fun cenv s₄ =>
        codeAny (model prog w) A (.compStart (.ListComp elt [⟨.Name x px, iter, [], 0⟩] scope pos) 0 it acc { cenv with scope := relabel scope env }) (compPost (model prog w) A E none Q acc cenv.locals) s₄) E s₃) E s₂) E s₁

theorem comp_start {elt iter : PySem.Expr} {x : Str} {px pos : Pos} {scope : Scope} {cl : List (Str × Addr)} {Q : Value → Shared → Prop} (hclos : closureFor scope env = pure cl) (hkind : scope.kind = .function) (hnames : ∀ y ∈ scope.names, y.2 = .local → scope.names.lookup y.1 = some .local)
    (h : wpAny (model prog w) A (eval iter env) (CompK prog w A env elt iter x px scope cl pos Q E) E s) (hs : ∀ x, foldedSetIterable iter env x = pure x) :
    wpAny (model prog w) A (eval (.ListComp elt [⟨.Name x px, iter, [], 0⟩] scope pos) env) Q E s := by
  rw [eval_ListComp]
  exact wpAny_comprehension_free (use := none) rfl hs hclos hkind hnames h

/-- the same, stored at once in a local name -/
def CompKA (prog : Program) (w : World) (A : Around) (env : Env) (elt iter : PySem.Expr) (x : Str) (px : Pos) (scope : Scope) (cl : List (Str × Addr)) (pos : Pos) (y : Str) (py : Pos) (Q : Flow → Shared → Prop) (E : Value → Shared → Prop) (xv : Value) (s₁ : Shared) : Prop :=
  wpAny (model prog w) A (pyIter xv) (fun it s₂ => wpAny (model prog w) A (newList []) (fun acc s₃ =>
      wpAny (model prog w) A (newFunctionEnv scope env.globals cl [] env.qual none .none (some env)) (fun cenv s₄ =>
        codeAny (model prog w) A (.compStart (.ListComp elt [⟨.Name x px, iter, [], 0⟩] scope pos) 0 it acc { cenv with scope := relabel scope env }) (compPost (model prog w) A E (some (assign (.Name y py) env)) (fun _ s' => Q .next s') acc cenv.locals) s₄) E s₃) E s₂) E s₁

theorem comp_assign {elt iter : PySem.Expr} {x y : Str} {px py pos spos : Pos} {scope : Scope} {cl : List (Str × Addr)} {Q : Flow → Shared → Prop}
    (hsw : swapsWith (.ListComp elt [⟨.Name x px, iter, [], 0⟩] scope pos) (some (.Name y py)) spos.line env = pure true) (hclos : closureFor scope env = pure cl) (hkind : scope.kind = .function) (hnames : ∀ y ∈ scope.names, y.2 = .local → scope.names.lookup y.1 = some .local)
    (h : wpAny (model prog w) A (eval iter env) (CompKA prog w A env elt iter x px scope cl pos y py Q E) E s) (hs : ∀ x, foldedSetIterable iter env x = pure x) :
    wpAny (model prog w) A (exec (.Assign [.Name y py] (.ListComp elt [⟨.Name x px, iter, [], 0⟩] scope pos) spos) env) Q E s := by
  rw [exec_Assign_Name_used _ _ _ _ hsw]
  refine wpAny_bind (wpAny_standAt (wpAny_bind ?_))
  show wpAny _ A (do let _ ← comprehension (.ListComp elt [⟨.Name x px, iter, [], 0⟩] scope pos) scope env _ (newList []) false (eval iter env) (some (assign (.Name y py) env))) _ _ s
  exact wpAny_bind (wpAny_mono (wpAny_comprehension_free (use := some (assign (.Name y py) env)) (Q := fun _ s' => Q .next s') rfl hs hclos hkind hnames h) (fun _ s' hq => wpAny_pure (wpAny_pure hq)) fun _ _ e => e)

theorem fr_out {h h' : Heap} {C : Addr} {m m' : Str → Option Value} (F : Fr h₀ L h m) (G : Fr h C h' m') : Fr h₀ L h' m := F.keeps G.keep
theorem fr_same {h h' : Heap} {C : Addr} {m : Str → Option Value} (F : Fr h₀ L h m) (hs : Heap.SameBut C h h') (hCL : C ≠ L) (hC0 : h₀.get? C = none) : Fr h₀ L h' m := F.change hs hCL hC0
theorem news_same {h h' : Heap} {C : Addr} {news : List (Addr × Obj)} (N : News h₀ L h news) (hs : Heap.SameBut C h h') (hC : ∀ p ∈ news, p.1 ≠ C) : News h₀ L h' news := fun p hp => ⟨(hs.2 _ (hC p hp)).trans (N p hp).1, (N p hp).2⟩
theorem fresh_of {h : Heap} {m : Str → Option Value} (F : Fr h₀ L h m) {a : Addr} (ha : h.objs.size ≤ a) : h₀.get? a = none := by
  cases e : h₀.get? a with
  | none => rfl
  | some o => exact absurd (Heap.lt_size (F.keep _ _ e)) (Nat.not_lt.mpr ha)

/-- the end of a comprehension, for the frame around it -/
theorem comp_end {h h' : Heap} {C D : Addr} {m m' : Str → Option Value} {news new : List (Addr × Obj)} {ys : List Value} {k : Nat} (F : Fr h₀ L s.heap m) (N : News h₀ L s.heap news) (hD : s.heap.objs.size < D) (hC : D < C)
    (hn : ∀ p ∈ new, p.1 ≠ D) (G : Fr s.heap C h m') (NN : News s.heap C h ((D, listOf ys.toArray k) :: new)) (hs : Heap.SameBut C h h') :
    Fr h₀ L h' m ∧ News h₀ L h' ((D, listOf ys.toArray k) :: new ++ news) ∧ ∀ p ∈ news, p.1 < D := by
  have hL : L < s.heap.objs.size := F.ns.lt
  have up : ∀ b o, s.heap.get? b = some o → h'.get? b = some o := fun b o e => (hs.2 b (by have := lt_sz e; exact Nat.ne_of_lt (Nat.lt_trans (Nat.lt_trans this hD) hC))).trans (G.keep b o e)
  refine ⟨F.keeps up, fun p hp => ?_, fun p hp => Nat.lt_trans (Heap.lt_size (N p hp).1) hD⟩
  rcases List.mem_append.mp hp with hp | hp
  · have q := NN p hp
    refine ⟨(hs.2 _ q.2.1).trans q.1, ?_, ?_⟩
    · rintro rfl
      obtain ⟨oL, _, _, hL', _⟩ := F.ns
      rw [q.2.2] at hL'; cases hL'
    · cases e : h₀.get? p.1 with
      | none => rfl
      | some o => have := F.keep _ _ e; rw [q.2.2] at this; cases this
  · exact ⟨up _ _ (N p hp).1, (N p hp).2⟩
end
end Mine
end

section
open PySem PySem.W PyProof.Rows PySem.Calls
namespace Mine
section
variable {prog : Program} {w : World} {A : Around} {E : Value → Shared → Prop} {s : Shared} {env : Env} {h₀ : Heap} {L : Addr} {m : Str → Option Value} {news : List (Addr × Obj)}
  {elt iter : PySem.Expr} {x y : Str} {px py pos : Pos} {scope : Scope} {cl : List (Str × Addr)} {fp : List Addr} {n : Nat} {P : Nat → Value → Prop} {St : Nat → Heap → Prop} {o₀ : Obj}

/-- what a turn of a comprehension is to show -/
def CTurn (prog : Program) (w : World) (A : Around) (s : Shared) (env : Env) (elt : PySem.Expr) (x : Str) (scope : Scope) (cl : List (Str × Addr)) (n : Nat) (P : Nat → Value → Prop) (J : Nat → List Value → List (Addr × Obj) → Nat → Prop) : Prop :=
  ∀ I C D i v (m₁ : Str → Option Value) ys k nw h tk o E', s.heap.objs.size ≤ I → I < D → D < C → i < n → P i v → J i ys nw tk → (∀ p ∈ nw, p.1 ≠ I ∧ p.1 ≠ D) → Fr s.heap C h (fun y => if y = x then some v else m₁ y) → News s.heap C h ((I, o) :: (D, listOf ys.toArray k) :: nw) →
      ∀ tk₂, tk ≤ tk₂ → wpAny (model prog w) A (eval elt (compEnvC scope cl C env)) (EltEnd s C I D o (fun y => if y = x then some v else m₁ y) ys k (J (i + 1))) E' { s with heap := h, toks := tk₂ }

structure CJ (J : Nat → List Value → List (Addr × Obj) → Nat → Prop) (tk₀ : Nat) : Prop where
  zero : J 0 [] [] tk₀
  len : ∀ i ys nx tk, J i ys nx tk → ys.length = i
  tk : ∀ i ys nx tk tk', J i ys nx tk → tk ≤ tk' → J i ys nx tk'
structure CScope (scope : Scope) (x : Str) : Prop where
  cell : ∀ y ∈ scope.names, y.2 ≠ .cell
  kind : scope.kind = .function
  name : scope.names.lookup x = some .local

theorem compE_walk {Q : Value → Shared → Prop} (J : Nat → List Value → List (Addr × Obj) → Nat → Prop) (cj : CJ J s.toks) (cs : CScope scope x) (F : Fr h₀ L s.heap m) (N : News h₀ L s.heap news)
    (W : Walks prog w A s.heap.objs.size (s.heap.objs.size :: fp) [s.heap.objs.size] n P St) (hI : ∀ i h, St i h → ∃ o, h.get? s.heap.objs.size = some o) (hst : St 0 (s.heap.push o₀)) (hfp : ∀ b ∈ fp, ∃ ob, s.heap.get? b = some ob) (hnsz : n ≤ sizeLine)
    (turn : CTurn prog w A s env elt x scope cl n P J)
    (done : ∀ D ys k nw h' tk, J n ys nw tk → Fr h₀ L h' m → News h₀ L h' ((D, listOf ys.toArray k) :: nw ++ news) → (∀ p ∈ news, p.1 < D) → Q (.ref D) { s with heap := h', toks := tk }) :
    wpAny (model prog w) A (newList []) (fun acc s₃ =>
      wpAny (model prog w) A (newFunctionEnv scope env.globals cl [] env.qual none .none (some env)) (fun cenv s₄ =>
        codeAny (model prog w) A (.compStart (.ListComp elt [⟨.Name x px, iter, [], 0⟩] scope pos) 0 (.ref s.heap.objs.size) acc { cenv with scope := relabel scope env }) (compPost (model prog w) A E none Q acc cenv.locals) s₄) E s₃) E { s with heap := s.heap.push o₀ } := by
  refine comp_block (RR := fun acc C => compPost (model prog w) A E none Q acc C) J W hI cs.cell cs.kind cs.name hst hfp hnsz cj.zero cj.len cj.tk (fun C D i v m₁ ys k nw h tk o E' hD hC hi hP hJ hn G NN => turn _ C D i v m₁ ys k nw h tk o E' (Nat.le_refl _) hD hC hi hP hJ hn G NN) ?_
  intro D C ys k nw h tk m₁ hD hC hJ hn G NN
  refine ⟨m₁, G.ns, fun h' hs => ?_⟩
  obtain ⟨F', N', hlt⟩ := comp_end F N hD hC hn G NN hs
  exact done D ys k nw h' tk hJ F' N' hlt

theorem compA_walk {Q : Flow → Shared → Prop} (J : Nat → List Value → List (Addr × Obj) → Nat → Prop) (cj : CJ J s.toks) (cs : CScope scope x) (hL : env.locals = L) (hy : env.kindOf y = some .local) (hp : (env.scope.kind == .class || (env.scope.kind == .module && env.locals != env.globals)) = false)
    (F : Fr h₀ L s.heap m) (N : News h₀ L s.heap news)
    (W : Walks prog w A s.heap.objs.size (s.heap.objs.size :: fp) [s.heap.objs.size] n P St) (hI : ∀ i h, St i h → ∃ o, h.get? s.heap.objs.size = some o) (hst : St 0 (s.heap.push o₀)) (hfp : ∀ b ∈ fp, ∃ ob, s.heap.get? b = some ob) (hnsz : n ≤ sizeLine)
    (turn : CTurn prog w A s env elt x scope cl n P J)
    (done : ∀ D ys k nw h' tk, J n ys nw tk → Fr h₀ L h' (fun z => if z = y then some (.ref D) else m z) → News h₀ L h' ((D, listOf ys.toArray k) :: nw ++ news) → (∀ p ∈ news, p.1 < D) → Q .next { s with heap := h', toks := tk }) :
    wpAny (model prog w) A (newList []) (fun acc s₃ =>
      wpAny (model prog w) A (newFunctionEnv scope env.globals cl [] env.qual none .none (some env)) (fun cenv s₄ =>
        codeAny (model prog w) A (.compStart (.ListComp elt [⟨.Name x px, iter, [], 0⟩] scope pos) 0 (.ref s.heap.objs.size) acc { cenv with scope := relabel scope env }) (compPost (model prog w) A E (some (assign (.Name y py) env)) (fun _ s' => Q .next s') acc cenv.locals) s₄) E s₃) E { s with heap := s.heap.push o₀ } := by
  refine comp_block (RR := fun acc C => compPost (model prog w) A E (some (assign (.Name y py) env)) (fun _ s' => Q .next s') acc C) J W hI cs.cell cs.kind cs.name hst hfp hnsz cj.zero cj.len cj.tk (fun C D i v m₁ ys k nw h tk o E' hD hC hi hP hJ hn G NN => turn _ C D i v m₁ ys k nw h tk o E' (Nat.le_refl _) hD hC hi hP hJ hn G NN) ?_
  intro D C ys k nw h tk m₁ hD hC hJ hn G NN
  obtain ⟨F', N', hlt⟩ := comp_end F N hD hC hn G NN ⟨rfl, fun _ _ => rfl⟩
  have hLs : L < s.heap.objs.size := F.ns.lt
  have hCL : C ≠ L := Nat.ne_of_gt (Nat.lt_trans hLs (Nat.lt_trans hD hC))
  have hC0 : h₀.get? C = none := fresh_of F (Nat.le_of_lt (Nat.lt_trans hD hC))
  have hCn : ∀ p ∈ (D, listOf ys.toArray k) :: nw ++ news, p.1 ≠ C := by
    intro p hp
    rcases List.mem_append.mp hp with hp | hp
    · exact (NN p hp).2.1
    · exact Nat.ne_of_lt (Nat.lt_trans (hlt p hp) hC)
  show wpAny _ A (assign (.Name y py) env (.ref D)) _ _ _
  refine wpAny_assign_Name (wpAny_storeName_local hy (hL ▸ F'.ns) (fun h₂ hn₂ hs₂ => ?_) hp)
  rw [hL] at hn₂ hs₂
  refine ⟨m₁, G.ns.sameBut hs₂ hCL, fun h₃ hs₃ => ?_⟩
  exact done D ys k nw h₃ _ (cj.tk _ _ _ _ _ hJ (Nat.le_succ _)) (fr_same (F'.set hn₂ hs₂) hs₃ hCL hC0) (news_same (N'.set hs₂) hs₃ hCn) hlt

theorem list_it {l : Addr} {vs : List Value} (hl : s.heap.IsList l vs.toArray) : (∀ i h, (Heap.IsListIter h s.heap.objs.size l i ∧ h.IsList l vs.toArray) → ∃ o, h.get? s.heap.objs.size = some o) ∧ (∀ b ∈ [l], ∃ ob, s.heap.get? b = some ob) :=
  ⟨fun i h q => let ⟨⟨o, ho, _⟩, _⟩ := q; ⟨o, ho⟩, fun b hb => by rw [List.mem_singleton.mp hb]; obtain ⟨o, ho, _⟩ := hl; exact ⟨o, ho⟩⟩

/-- a comprehension over a list -/
theorem compE_list {Q : Value → Shared → Prop} {l : Addr} {vs : List Value} (J : Nat → List Value → List (Addr × Obj) → Nat → Prop) (cj : CJ J s.toks) (cs : CScope scope x) (hh : A.handled = none) (hl : s.heap.IsList l vs.toArray) (F : Fr h₀ L s.heap m) (N : News h₀ L s.heap news) (hnsz : vs.length ≤ sizeLine)
    (turn : CTurn prog w A s env elt x scope cl vs.length (fun i v => vs[i]? = some v) J)
    (done : ∀ D ys k nw h' tk, J vs.length ys nw tk → Fr h₀ L h' m → News h₀ L h' ((D, listOf ys.toArray k) :: nw ++ news) → (∀ p ∈ news, p.1 < D) → Q (.ref D) { s with heap := h', toks := tk }) :
    CompK prog w A env elt iter x px scope cl pos Q E (.ref l) s := by
  unfold CompK
  refine wpAny_pyIter_list hl ?_
  have hlt : l < s.heap.objs.size := by obtain ⟨_, e, _⟩ := hl; exact Heap.lt_size e
  have W := Walks.list (prog := prog) (w := w) hh s.heap.objs.size l (Nat.ne_of_lt hlt) vs.toArray
  rw [List.size_toArray] at W
  simp only [List.getElem?_toArray] at W
  exact compE_walk J cj cs F N W (list_it hl).1 ⟨⟨_, Heap.get?_push_size _ rfl, rfl, rfl⟩, hl.push _⟩ (list_it hl).2 hnsz turn done

theorem compA_list {Q : Flow → Shared → Prop} {l : Addr} {vs : List Value} (J : Nat → List Value → List (Addr × Obj) → Nat → Prop) (cj : CJ J s.toks) (cs : CScope scope x) (hL : env.locals = L) (hy : env.kindOf y = some .local) (hp : (env.scope.kind == .class || (env.scope.kind == .module && env.locals != env.globals)) = false)
    (hh : A.handled = none) (hl : s.heap.IsList l vs.toArray) (F : Fr h₀ L s.heap m) (N : News h₀ L s.heap news) (hnsz : vs.length ≤ sizeLine)
    (turn : CTurn prog w A s env elt x scope cl vs.length (fun i v => vs[i]? = some v) J)
    (done : ∀ D ys k nw h' tk, J vs.length ys nw tk → Fr h₀ L h' (fun z => if z = y then some (.ref D) else m z) → News h₀ L h' ((D, listOf ys.toArray k) :: nw ++ news) → (∀ p ∈ news, p.1 < D) → Q .next { s with heap := h', toks := tk }) :
    CompKA prog w A env elt iter x px scope cl pos y py Q E (.ref l) s := by
  unfold CompKA
  refine wpAny_pyIter_list hl ?_
  have hlt : l < s.heap.objs.size := by obtain ⟨_, e, _⟩ := hl; exact Heap.lt_size e
  have W := Walks.list (prog := prog) (w := w) hh s.heap.objs.size l (Nat.ne_of_lt hlt) vs.toArray
  rw [List.size_toArray] at W
  simp only [List.getElem?_toArray] at W
  exact compA_walk J cj cs hL hy hp F N W (list_it hl).1 ⟨⟨_, Heap.get?_push_size _ rfl, rfl, rfl⟩, hl.push _⟩ (list_it hl).2 hnsz turn done

theorem range_it {a b : Int} (hab : a ≤ b) : IsRangeIter (s.heap.push { cls := .type "range_iterator", data := .fields #[rawInt a, rawInt (Builtin.Range.rangeSize a b 1), rawInt 1] }) s.heap.objs.size (a + ((0 : Nat) : Int) * 1) (((b - a).toNat : Int) - ((0 : Nat) : Int)) 1 := by
  have hsz : Builtin.Range.rangeSize a b 1 = ((b - a).toNat : Int) := by rw [rangeSize_one]; split <;> omega
  have e1 : (a + ((0 : Nat) : Int) * 1) = a := by simp
  have e2 : (((b - a).toNat : Int) - ((0 : Nat) : Int)) = Builtin.Range.rangeSize a b 1 := by rw [hsz]; simp
  rw [e1, e2]
  exact Heap.get?_push_size _ rfl

/-- a comprehension over a range by ones -/
theorem compE_range {Q : Value → Shared → Prop} {r : Addr} {a b : Int} {t₁ t₂ t₃ : Tok} (J : Nat → List Value → List (Addr × Obj) → Nat → Prop) (cj : CJ J s.toks) (cs : CScope scope x) (hh : A.handled = none) (hr : IsRange s.heap r a b 1 t₁ t₂ t₃) (ha : -(2 ^ 62) ≤ a) (hab : a ≤ b) (hb : b < 2 ^ 62) (F : Fr h₀ L s.heap m) (N : News h₀ L s.heap news) (hnsz : (b - a).toNat ≤ sizeLine)
    (turn : CTurn prog w A s env elt x scope cl (b - a).toNat (fun i v => ∃ t, v = .int (a + i * 1) t) J)
    (done : ∀ D ys k nw h' tk, J (b - a).toNat ys nw tk → Fr h₀ L h' m → News h₀ L h' ((D, listOf ys.toArray k) :: nw ++ news) → (∀ p ∈ news, p.1 < D) → Q (.ref D) { s with heap := h', toks := tk }) :
    CompK prog w A env elt iter x px scope cl pos Q E (.ref r) s := by
  unfold CompK
  refine wpAny_pyIter_range hr (small_one (by omega) (by omega) (by omega) hb) ?_
  have W := Walks.range (prog := prog) (w := w) hh s.heap.objs.size a 1 (b - a).toNat
  exact compE_walk J cj cs F N W (fun i h e => ⟨_, e⟩) (range_it hab) (fun b hb => by cases hb) hnsz turn done

theorem compA_range {Q : Flow → Shared → Prop} {r : Addr} {a b : Int} {t₁ t₂ t₃ : Tok} (J : Nat → List Value → List (Addr × Obj) → Nat → Prop) (cj : CJ J s.toks) (cs : CScope scope x) (hL : env.locals = L) (hy : env.kindOf y = some .local) (hp : (env.scope.kind == .class || (env.scope.kind == .module && env.locals != env.globals)) = false)
    (hh : A.handled = none) (hr : IsRange s.heap r a b 1 t₁ t₂ t₃) (ha : -(2 ^ 62) ≤ a) (hab : a ≤ b) (hb : b < 2 ^ 62) (F : Fr h₀ L s.heap m) (N : News h₀ L s.heap news) (hnsz : (b - a).toNat ≤ sizeLine)
    (turn : CTurn prog w A s env elt x scope cl (b - a).toNat (fun i v => ∃ t, v = .int (a + i * 1) t) J)
    (done : ∀ D ys k nw h' tk, J (b - a).toNat ys nw tk → Fr h₀ L h' (fun z => if z = y then some (.ref D) else m z) → News h₀ L h' ((D, listOf ys.toArray k) :: nw ++ news) → (∀ p ∈ news, p.1 < D) → Q .next { s with heap := h', toks := tk }) :
    CompKA prog w A env elt iter x px scope cl pos y py Q E (.ref r) s := by
  unfold CompKA
  refine wpAny_pyIter_range hr (small_one (by omega) (by omega) (by omega) hb) ?_
  have W := Walks.range (prog := prog) (w := w) hh s.heap.objs.size a 1 (b - a).toNat
  exact compA_walk J cj cs hL hy hp F N W (fun i h e => ⟨_, e⟩) (range_it hab) (fun b hb => by cases hb) hnsz turn done
end
end Mine
end

section
open PySem PySem.W PyProof.Rows PySem.Calls
namespace Mine
def Held (P : Prop) : Prop := P
theorem held_i {P : Prop} (h : Held P) : P := h
local macro_rules | `(tactic| walk_at "my_room") => `(tactic| first | assumption | exact room1 (by assumption) | k_room)
local macro_rules | `(tactic| walk_at "exec For Name Name cons nil") => `(tactic| (k_here; k_dflt (refine' for_start ?_ ?hs; (case hs => intro _; rfl))))
local macro_rules | `(tactic| walk_at "exec For Name Call cons nil") => `(tactic| (k_here; k_dflt (refine' for_start ?_ ?hs; (case hs => intro _; rfl))))
local macro_rules | `(tactic| walk_at "exec For Name List cons nil") => `(tactic| (k_here; k_dflt (refine' for_start ?_ ?hs; (case hs => intro _; rfl))))
local macro_rules | `(tactic| walk_at "call type:range cons nil") => `(tactic| (k_here; (with_reducible show wpAny _ _ (call (Value.type "range") _) (ForK _ _ _ _ _ _ _ _) _ _); with_reducible refine held_i ?_))

theorem fr_know {h₀ h : Heap} {L : Addr} {m : Str → Option Value} (F : Fr h₀ L h m) {x : Str} {v : Option Value} (e : m x = v) : Fr h₀ L h (fun y => if y = x then v else m y) := by
  have : m = fun y => if y = x then v else m y := funext fun y => by
    by_cases q : y = x
    · subst q; simp [e]
    · simp [q]
  rw [this] at F
  exact F
theorem cnt_take {b n : Int} {ns : List Int} {i : Nat} (hn : ns[i]? = some n) : (ns.take (i + 1)).foldl (fun c n => c + if n = b then 1 else 0) (0 : Int) = (ns.take i).foldl (fun c n => c + if n = b then 1 else 0) 0 + if n = b then 1 else 0 := by
  rw [List.take_add_one, hn]; simp

def cnt (b : Int) (ns : List Int) : Int := ns.foldl (fun c n => c + if n = b then 1 else 0) 0

/-- a plain list of small ints whose tokens are not nought and not u -/
def ILT (h : Heap) (l : Addr) (ns : List Int) (u : Tok) : Prop := ∃ vs : List Value, h.PlainList l vs.toArray ∧ IntsAre vs ns ∧ ∀ v ∈ vs, ∀ n t, v = .int n t → smallInt n = true ∧ t ≠ 0 ∧ t ≠ u

theorem is_int_tok {M : Model} {A : Around} {E : Value → Shared → Prop} {s : Shared} {Q : Value → Shared → Prop} {n b : Int} {t u : Tok} (hs : smallInt n = true) (ht : t ≠ 0) (hu : u ≠ 0) (htu : t ≠ u) (h : Q (.bool (n == b)) s) : wpAny M A (compareOp .Is (.int n t) (.int b u)) Q E s := by
  show wpAny M A (do return .bool (← isSame (.int n t) (.int b u))) Q E s
  refine wpAny_bind ?_
  have e0 : (t == 0 || u == 0) = false := by simp [ht, hu]
  show wpAny M A (if (n == b && smallInt n) = true then isSame.cachedInt t u else isSame.created (n == b) t u) _ _ s
  by_cases hnb : (n == b) = true
  · rw [hnb] at h
    rw [hnb, hs, if_pos (show (true && true) = true from rfl)]
    show wpAny M A (if (t == 0 || u == 0) = true then _ else _) _ _ s
    rw [e0, if_neg Bool.false_ne_true]
    exact wpAny_bind (wpAny_rule (wpAny_pure (wpAny_pure h)))
  · have hnb' : (n == b) = false := by simpa using hnb
    rw [hnb'] at h
    rw [hnb', Bool.false_and, if_neg Bool.false_ne_true]
    unfold isSame.created
    rw [e0]
    simp only [Bool.false_eq_true, if_false]
    have e1 : (t == u) = false := by simp [htu]
    rw [e1]
    simp only [Bool.false_eq_true, if_false, Bool.not_false, if_true]
    exact wpAny_pure (wpAny_pure h)

local macro_rules | `(tactic| walk_at "compareOp Is int int") => `(tactic| (k_here; refine' is_int_tok ?k1 ?k2 ?k3 ?k4 ?_; (case k1 => assumption); (case k2 => assumption); (case k3 => assumption); (case k4 => assumption)))

set_option maxHeartbeats 4000000 in
theorem call_countOf {prog : Program} {w : World} {A : Around} {E : Value → Shared → Prop} {s : Shared} {mg mb : Str → Option Value} {Q : Value → Shared → Prop} (ev : Ev w mg mb s.heap) (hroom : A.depth < recursionLimit) (hh : A.handled = none)
    {l : Addr} {ns : List Int} {b : Int} {u : Tok} (hl : ILT s.heap l ns u) (hu : u ≠ 0)
    (k : ∀ h' tk v, (∀ b o, s.heap.get? b = some o → h'.get? b = some o) → Q (.int (cnt b ns) v) { s with heap := h', toks := tk }) : wpAny (model prog w) A (call (.ref 132) [.ref l, .int b u]) Q E s := by
  obtain ⟨vs, hp, hi, htok⟩ := hl
  have hl := hp.isList
  refine wpAny_call ?_
  refine enter (binds := [(Str.ofString "a", .ref l), (Str.ofString "b", .int b u)]) ev rfl rfl hroom (BindsTo.of_eq rfl) (locs rfl) ?_ (by decide) rfl rfl rfl
  intro h₁ F
  have KX := ev.K
  have TX := ev.T
  have NX : News s.heap s.heap.objs.size h₁ [] := News.nil
  k_steps
  rename Fr _ _ _ _ => F'
  rename News _ _ _ _ => N'
  refine forK_list (fun i m₁ news₁ g => (∃ t, m₁ (Str.ofString "count") = some (.int (cnt b (ns.take i)) t)) ∧ m₁ (Str.ofString "b") = some (.int b u) ∧ news₁ = [] ∧ g = s.gens) hh (hl.at fun o e => F'.keep _ o e) F' N' ⟨⟨_, rfl⟩, rfl, rfl, rfl⟩ ?_ ?_ ?_
  · obtain ⟨ol, hol, _⟩ := hl
    exact ⟨ol, fun i m₁ news₁ g h _ F _ => F.keep _ _ hol⟩
  · rintro I i v m₁ news₁ h tk g o E' hv ⟨⟨t, h1⟩, h2, rfl, rfl⟩ hlt hn F₁ N₁
    have hlt : i < ns.length := by rw [← hi.length]; exact (List.getElem?_eq_some_iff.mp hv).1
    obtain ⟨tn, hx⟩ := hi.get i ns[i] (by simp [hlt])
    rw [hv] at hx
    cases hx
    obtain ⟨q1, q2, q3⟩ := htok _ (List.mem_of_getElem? hv) _ _ rfl
    have hstep := cnt_take (b := b) (ns := ns) (i := i) (n := ns[i]) (by simp [hlt])
    generalize hnn : ns[i] = n at *
    have F₂ := fr_know (fr_know F₁ h1) (x := Str.ofString "b") h2
    clear F₁ F'
    k_steps
    all_goals (rename Fr _ _ _ _ => F'; rename News _ _ _ _ => N')
    · have e : cnt b (ns.take (i + 1)) = cnt b (ns.take i) + 1 := by unfold cnt; rw [hstep, if_pos (by assumption)]
      refine turn_next F' N' (fun _ h => nomatch h) ⟨?_, rfl, rfl, rfl⟩
      rw [e]; exact ⟨_, rfl⟩
    · have e : cnt b (ns.take (i + 1)) = cnt b (ns.take i) + 1 := by unfold cnt; rw [hstep, if_pos (by assumption)]
      refine turn_next F' N' (fun _ h => nomatch h) ⟨?_, rfl, rfl, rfl⟩
      rw [e]; exact ⟨_, rfl⟩
    · have e : cnt b (ns.take (i + 1)) = cnt b (ns.take i) := by unfold cnt; rw [hstep, if_neg (by assumption), Int.add_zero]
      refine turn_next F' N' (fun _ h => nomatch h) ⟨?_, rfl, rfl, rfl⟩
      rw [e]; exact ⟨_, rfl⟩
  · rintro m₁ news₁ h tk g ⟨⟨t, h1⟩, h2, rfl, rfl⟩ F₁ N₁
    have F₂ := fr_know (fr_know F₁ h1) (x := Str.ofString "b") h2
    clear F₁ F'
    k_steps
    rw [hi.length, List.take_length]
    exact k _ _ _ F₂.keep
end Mine
end

section
open PySem PySem.W PyProof.Rows PySem.Calls
namespace Mine
local macro_rules | `(tactic| walk_at "my_room") => `(tactic| first | assumption | exact room1 (by assumption) | k_room)
local macro_rules | `(tactic| walk_at "exec For Name Name cons nil") => `(tactic| (k_here; k_dflt (refine' for_start ?_ ?hs; (case hs => intro _; rfl))))
local macro_rules | `(tactic| walk_at "exec For Name Call cons nil") => `(tactic| (k_here; k_dflt (refine' for_start ?_ ?hs; (case hs => intro _; rfl))))
local macro_rules | `(tactic| walk_at "exec For Name List cons nil") => `(tactic| (k_here; k_dflt (refine' for_start ?_ ?hs; (case hs => intro _; rfl))))
local macro_rules | `(tactic| walk_at "call type:range cons nil") => `(tactic| (k_here; (with_reducible show wpAny _ _ (call (Value.type "range") _) (ForK _ _ _ _ _ _ _ _) _ _); with_reducible refine held_i ?_))
local macro_rules | `(tactic| walk_at "call ref") => `(tactic| (k_here; (with_reducible show wpAny _ _ (call (Value.ref 69) [Value.int _ _, Value.int _ _]) _ _ _); refine' k_add ?k1 ?k2 ?k3 ?k4 ?_; (case k1 => k_asm); (case k2 => k_asm); (case k3 => k_asm); (case k4 => walk_at "my_room"); intro h' tk' v' F' N'; (try k_sweep)))
local macro_rules | `(tactic| walk_at "call ref") => `(tactic| (k_here; (with_reducible show wpAny _ _ (call (Value.ref 76) [Value.int _ _, Value.int _ _]) _ _ _); refine' k_and_ ?k1 ?k2 ?k3 ?k4 ?_; (case k1 => k_asm); (case k2 => k_asm); (case k3 => k_asm); (case k4 => walk_at "my_room"); intro h' tk' v' F' N'; (try k_sweep)))
local macro_rules | `(tactic| walk_at "call ref") => `(tactic| (k_here; (with_reducible show wpAny _ _ (call (Value.ref 83) [Value.int _ _, Value.int _ _]) _ _ _); refine' k_mul ?k1 ?k2 ?k3 ?k4 ?k5 ?_; (case k1 => k_asm); (case k2 => k_asm); (case k3 => k_asm); (case k4 => walk_at "my_room"); (case k5 => first | assumption | walk_at "my_mul"); intro h' tk' v' F' N'; (try k_sweep)))
local macro_rules | `(tactic| walk_at "call ref") => `(tactic| (k_here; (with_reducible show wpAny _ _ (call (Value.ref 90) [Value.int _ _, Value.int _ _]) _ _ _); refine' k_or_ ?k1 ?k2 ?k3 ?k4 ?_; (case k1 => k_asm); (case k2 => k_asm); (case k3 => k_asm); (case k4 => walk_at "my_room"); intro h' tk' v' F' N'; (try k_sweep)))
local macro_rules | `(tactic| walk_at "call ref") => `(tactic| (k_here; (with_reducible show wpAny _ _ (call (Value.ref 97) [Value.int _ _, Value.int _ _]) _ _ _); refine' k_rshift ?k1 ?k2 ?k3 ?k4 ?k5 ?_; (case k1 => k_asm); (case k2 => k_asm); (case k3 => k_asm); (case k4 => walk_at "my_room"); (case k5 => first | assumption | decide); intro h' tk' v' F' N'; (try k_sweep)))
local macro_rules | `(tactic| walk_at "call ref") => `(tactic| (k_here; (with_reducible show wpAny _ _ (call (Value.ref 104) [Value.int _ _, Value.int _ _]) _ _ _); refine' k_sub ?k1 ?k2 ?k3 ?k4 ?_; (case k1 => k_asm); (case k2 => k_asm); (case k3 => k_asm); (case k4 => walk_at "my_room"); intro h' tk' v' F' N'; (try k_sweep)))
local macro_rules | `(tactic| walk_at "call ref") => `(tactic| (k_here; (with_reducible show wpAny _ _ (call (Value.ref 111) [Value.int _ _, Value.int _ _]) _ _ _); refine' k_xor ?k1 ?k2 ?k3 ?k4 ?_; (case k1 => k_asm); (case k2 => k_asm); (case k3 => k_asm); (case k4 => walk_at "my_room"); intro h' tk' v' F' N'; (try k_sweep)))

section
def cstep (st p : Int) (xs : List Int) : List Int :=
  if Builtin.bitAnd p st = 0 then (xs.set p.toNat (xs.getD p.toNat 0 + xs.getD (Builtin.bitOr p st).toNat 0)).set (Builtin.bitOr p st).toNat (xs.getD p.toNat 0 - xs.getD (Builtin.bitOr p st).toNat 0) else xs
def cinner (st : Int) (xs : List Int) (i : Nat) : List Int := (List.range i).foldl (fun xs p => cstep st (p : Nat) xs) xs
def couter (xs : List Int) (l : List Int) : List Int := l.foldl (fun xs st => cinner st xs 8) xs

theorem cstep_len (st p : Int) (xs : List Int) : (cstep st p xs).length = xs.length := by unfold cstep; split <;> simp
theorem cinner_len (st : Int) (xs : List Int) (i : Nat) : (cinner st xs i).length = xs.length := by
  unfold cinner
  induction i with
  | zero => rfl
  | succ i ih => rw [List.range_succ, List.foldl_append, List.foldl_cons, List.foldl_nil, cstep_len, ih]
theorem couter_len (xs : List Int) : ∀ l : List Int, (couter xs l).length = xs.length := by
  intro l
  unfold couter
  induction l generalizing xs with
  | nil => rfl
  | cons a l ih => rw [List.foldl_cons, ih, cinner_len]
theorem cinner_succ (st : Int) (xs : List Int) (i : Nat) : cinner st xs (i + 1) = cstep st (i : Nat) (cinner st xs i) := by
  unfold cinner; rw [List.range_succ, List.foldl_append, List.foldl_cons, List.foldl_nil]
theorem couter_take {ns l : List Int} {i : Nat} {st : Int} (h : l[i]? = some st) : couter ns (l.take (i + 1)) = cinner st (couter ns (l.take i)) 8 := by
  unfold couter; rw [List.take_add_one, h]; simp
theorem or_bound {st p : Int} (h : st = 1 ∨ st = 2 ∨ st = 4) (h0 : 0 ≤ p) (h1 : p < 8) : 0 ≤ Builtin.bitOr p st ∧ Builtin.bitOr p st < 8 := by
  have hp : p = 0 ∨ p = 1 ∨ p = 2 ∨ p = 3 ∨ p = 4 ∨ p = 5 ∨ p = 6 ∨ p = 7 := by omega
  rcases h with rfl | rfl | rfl <;> rcases hp with rfl | rfl | rfl | rfl | rfl | rfl | rfl | rfl <;> decide

set_option maxHeartbeats 8000000 in
theorem call_contrasts {prog : Program} {w : World} {A : Around} {E : Value → Shared → Prop} {s : Shared} {mg mb : Str → Option Value} {Q : Value → Shared → Prop} (ev : Ev w mg mb s.heap) (hroom : A.depth + 9 < recursionLimit) (hh : A.handled = none)
    {l : Addr} {ns : List Int} (hl : IL s.heap l ns) (hlen : ns.length = 8)
    (k : ∀ h' tk D, (∀ b o, s.heap.get? b = some o → h'.get? b = some o) → s.heap.get? D = none → IL h' D (couter ns [1, 2, 4]) → Q (.ref D) { s with heap := h', toks := tk }) : wpAny (model prog w) A (call (.ref 153) [.ref l]) Q E s := by
  obtain ⟨vs, hp, hi⟩ := hl
  have hl := hp.isList
  refine wpAny_call ?_
  refine enter (binds := [(Str.ofString "table", .ref l)]) ev rfl rfl (by omega) (BindsTo.of_eq rfl) (locs rfl) ?_ (by decide) rfl rfl rfl
  intro h₁ F
  have KX := ev.K
  have TX := ev.T
  have NX : News s.heap s.heap.objs.size h₁ [] := News.nil
  k_steps
  rename Fr _ _ _ _ => F'
  rename News _ _ _ _ => N'
  rename_i D c hA q1 hB lst hC q2
  obtain ⟨vl, hvl⟩ : ∃ vl, vl = [Value.int 1 tk, .int 2 (tk + 1), .int 4 (tk + 1 + 1)] := ⟨_, rfl⟩
  obtain ⟨lo, hlo⟩ : ∃ lo, lo = listOf #[Value.int 1 tk, .int 2 (tk + 1), .int 4 (tk + 1 + 1)] 0 := ⟨_, rfl⟩
  have hlo' : lo = listOf vl.toArray 0 := by rw [hlo, hvl]
  rw [← hlo] at N'
  refine forK_list (vs := vl) (fun i m₁ news₁ g => g = s.gens ∧ m₁ (Str.ofString "row") = some (.ref D) ∧ ∃ ws k, news₁ = [(lst, lo), (D, listOf ws.toArray k)] ∧ IntsAre ws (couter ns ([1, 2, 4].take i)))
    hh ⟨_, N'.get (.head _), by rw [hlo'], 0, by rw [hlo']⟩ F' N' ⟨rfl, rfl, vs, c, rfl, hi⟩ ?_ ?_ ?_
  · refine ⟨lo, ?_⟩
    rintro i m₁ news₁ g h ⟨_, _, ws, k, rfl, _⟩ _ N
    exact N.get (.head _)
  · rintro I i v m₁ news₁ h tk' g o E' hv ⟨rfl, h1, ws, kk, rfl, hw⟩ hlt hn F₁ N₁
    have hst : ∃ st t, v = .int st t ∧ ([1, 2, 4] : List Int)[i]? = some st ∧ (st = 1 ∨ st = 2 ∨ st = 4) := by
      rw [hvl] at hv
      rcases i with _ | _ | _ | i
      · cases hv; exact ⟨_, _, rfl, rfl, .inl rfl⟩
      · cases hv; exact ⟨_, _, rfl, rfl, .inr (.inl rfl)⟩
      · cases hv; exact ⟨_, _, rfl, rfl, .inr (.inr rfl)⟩
      · simp at hv
    obtain ⟨st, tst, rfl, hsti, hst⟩ := hst
    clear hlo hlo' hvl
    k_lt hlt
    have F₂ := fr_know F₁ h1
    clear F₁ F' N' hi
    generalize hxs : couter ns ([1, 2, 4].take i) = xs at hw
    have hxl : xs.length = 8 := by rw [← hxs, couter_len]; exact hlen
    k_steps
    rename Fr _ _ _ _ => F'
    rename News _ _ _ _ => N'
    refine for_range1 (fun j m₂ news₂ g => g = s.gens ∧ m₂ (Str.ofString "row") = some (.ref D) ∧ m₂ (Str.ofString "step") = some (.int st tst) ∧
      ∃ ws k, news₂ = [(I, o), (lst, lo), (D, listOf ws.toArray k)] ∧ IntsAre ws (cinner st xs j)) hh (by decide) (by decide) F' N' ⟨rfl, rfl, rfl, ws, kk, rfl, hw⟩ ?_ ?_
    · rintro I₂ j t m₂ news₂ h tk₂ g o₂ E₂ hj ⟨rfl, g1, g2, ws, kk, rfl, hw⟩ hlt₂ hn₂ F₁ N₁
      k_lt hlt₂
      have F₂ := fr_know (fr_know F₁ g1) (x := Str.ofString "step") g2
      clear F₁ F' N' 
      generalize hys : cinner st xs j = ys at hw
      have hyl : ys.length = 8 := by rw [← hys, cinner_len]; exact hxl
      have hpl0 : (0 : Int) ≤ (j : Int) := Int.natCast_nonneg j
      obtain ⟨hb0, hb1⟩ := or_bound hst hpl0 hj
      generalize hp : (j : Int) = p at *
      k_steps
      all_goals (rename Fr _ _ _ _ => F'; rename News _ _ _ _ => N')
      · rename IntsAre _ _ => hi'
        rename Builtin.bitAnd p st = 0 => hand
        have e : cinner st xs (j + 1) = (ys.set p.toNat (ys.getD p.toNat 0 + ys.getD (Builtin.bitOr p st).toNat 0)).set (Builtin.bitOr p st).toNat (ys.getD p.toNat 0 - ys.getD (Builtin.bitOr p st).toNat 0) := by
          rw [cinner_succ, hys, hp]; unfold cstep; rw [if_pos hand]
        refine turn_next F' N' (by k_all) ⟨rfl, rfl, rfl, _, _, rfl, ?_⟩
        rw [e]; exact hi'
      · rename Builtin.bitAnd p st ≠ 0 => hand
        have e : cinner st xs (j + 1) = ys := by
          rw [cinner_succ, hys, hp]; unfold cstep; rw [if_neg hand]
        refine turn_next F' N' (by k_all) ⟨rfl, rfl, rfl, _, _, rfl, ?_⟩
        rw [e]; exact hw
    · rintro m₂ news₂ h tk₂ g ⟨rfl, g1, g2, ws, kk, rfl, hw⟩ F₁ N₁
      have F₂ := fr_know F₁ g1
      clear F₁ F'
      k_steps
      refine turn_next F₂ N₁ (by k_all) ⟨rfl, rfl, _, _, rfl, ?_⟩
      rw [couter_take hsti, hxs]; exact hw
  · rintro m₁ news₁ h tk' g ⟨rfl, h1, ws, kk, rfl, hw⟩ F₁ N₁
    have F₂ := fr_know F₁ h1
    clear F₁ F' N'
    have e : vl.length = 3 := by rw [hvl]; rfl
    rw [e] at hw
    clear hlo hlo' hvl
    k_steps
    exact k _ _ _ F₂.keep (N₁.fresh (.tail _ (.head _))) ⟨_, ⟨_, N₁.get (.tail _ (.head _))⟩, hw⟩
end

end Mine
end

section
open PySem PySem.W PyProof.Rows PySem.Calls
namespace Mine
section
variable {prog : Program} {w : World} {A : Around} {E : Value → Shared → Prop} {s : Shared} {mg mb : Str → Option Value}

theorem enterC {R : Result → Shared → Prop} {name qual : Str} {params : Arguments} {body : List Stmt} {scope : Scope} {dV kV doc pm cdv ct oc : Value} {an od : Option Addr} {osl : Array (Option Value)} {f : Addr} {args : Args} {binds : List (Str × Value)}
    (ev : Ev w mg mb s.heap) (ho : (hd.heap_39 w.params).lookup f = some ⟨oc, od, .func (fnOf name qual params body scope dV kV doc pm an cdv ct), osl⟩) (hcd : codeIn (hd.heap_39 w.params) cdv qual = true) (hroom : A.depth < recursionLimit)
    (hbind : BindsTo s (fnOf name qual params body scope dV kV doc pm an cdv ct) args binds) (hkind : (binds.all fun y => scope.names.lookup y.1 == some .local || scope.names.lookup y.1 == some .cell) = true)
    (hnd : ((cellsFrom 0 scope.names []).map (·.1)).Nodup)
    (h : ∀ L h₁ tk cells, L = s.heap.objs.size → Fr s.heap L h₁ (bindL (envOfC qual scope L f cdv).kindOf binds fun _ => none) → News s.heap L h₁ cells →
      CellsAre (bindC (envOfC qual scope L f cdv).kindOf binds fun _ => none) (cellsFrom (L + 1) scope.names []) cells →
      wpAny (model prog w) (A.deeper (envOfC qual scope L f cdv)) (execs body (envOfC qual scope L f cdv))
        (fun fl s' => R (.ok (.ret (match fl with | .ret v => v | _ => .none))) s')
        (fun e s' => wpAny (model prog w) (A.deeper (envOfC qual scope L f cdv)) (leaving (envOfC qual scope L f cdv) e) (fun _ s'' => R (.error e) s'') (fun e' s'' => R (.error e') s'') s')
        { s with heap := h₁, toks := tk })
    (hco : scope.isCoroutine = false) (hgen : scope.isGenerator = false) (hk : scope.kind = .function) : codeAny (model prog w) A (.call (.ref f) args) R s := by
  refine codeAny_call_function hroom (ev.K _ _ ho) rfl hco hgen rfl (codeRec_of ev.K hcd) (hbind _ _ _ _ ?_)
  refine wpAny_newFunctionEnv_cells hk (kindsX hkind _) fun env' he s' x => ?_
  subst he
  refine ⟨ev.T.nolimit.keeps x.toInCall.keep, codeAny_func ?_⟩
  obtain ⟨h₁, tk, rfl, _⟩ := x.done
  have hk₁ := x.toInCall.keep
  obtain ⟨cells, NC, Y⟩ := Cl.news (h₀ := s.heap) (Nat.le_refl _) fun n c hm => ⟨x.cell n c (lookup_of_mem_nodup (cellsFrom_names scope.names 0 (s.heap.objs.size + 1) [] [] rfl ▸ hnd) hm), x.above n c hm⟩
  exact h s.heap.objs.size h₁ tk cells rfl ⟨x.toInCall.ns, hk₁, Nat.le_refl _⟩ NC Y

theorem k_contains {Q : Value → Shared → Prop} {h₀ : Heap} {L : Addr} {m : Str → Option Value} {news : List (Addr × Obj)} {l : Addr} {ns : List Int} {b : Int} {u : Tok}
    (F : Fr h₀ L s.heap m) (N : News h₀ L s.heap news) (ev : Ev w mg mb h₀) (hroom : A.depth < recursionLimit) (hh : A.handled = none) (hl : IL s.heap l ns)
    (k : ∀ h' tk, Fr h₀ L h' m → News h₀ L h' news → Q (.bool (ns.any fun x => x == b)) { s with heap := h', toks := tk }) : wpAny (model prog w) A (call (.ref 125) [.ref l, .int b u]) Q E s :=
  call_contains (ev.keeps F.keep) hroom hh hl fun h' tk hk => k h' tk (F.keeps hk) (news_keeps N hk)
theorem k_getitem {Q : Value → Shared → Prop} {h₀ : Heap} {L : Addr} {m : Str → Option Value} {news : List (Addr × Obj)} {l : Addr} {ns : List Int} {b : Int} {u : Tok}
    (F : Fr h₀ L s.heap m) (N : News h₀ L s.heap news) (ev : Ev w mg mb h₀) (hroom : A.depth < recursionLimit) (hh : A.handled = none) (hl : IL s.heap l ns) (hb0 : 0 ≤ b) (hb1 : b < 8) (hlen : ns.length = 8)
    (k : ∀ h' tk v, Fr h₀ L h' m → News h₀ L h' news → Q (.int (ns.getD b.toNat 0) v) { s with heap := h', toks := tk }) : wpAny (model prog w) A (call (.ref 139) [.ref l, .int b u]) Q E s :=
  call_getitem (ev.keeps F.keep) hroom hh hl hb0 hb1 hlen fun h' tk v hk => k h' tk v (F.keeps hk) (news_keeps N hk)
theorem k_concat {Q : Value → Shared → Prop} {h₀ : Heap} {L : Addr} {m : Str → Option Value} {news : List (Addr × Obj)} {l l2 : Addr} {ns ns2 : List Int}
    (F : Fr h₀ L s.heap m) (N : News h₀ L s.heap news) (ev : Ev w mg mb h₀) (hroom : A.depth < recursionLimit) (hh : A.handled = none) (hl : IL s.heap l ns) (hl2 : IL s.heap l2 ns2) (hn : ns.length ≤ 8) (hn2 : ns2.length ≤ 8)
    (k : ∀ h' tk D ws c, Fr h₀ L h' m → News h₀ L h' ((D, listOf ws.toArray c) :: news) → IntsAre ws (ns ++ ns2) → (∀ p ∈ news, p.1 ≠ D) → Q (.ref D) { s with heap := h', toks := tk }) : wpAny (model prog w) A (call (.ref 118) [.ref l, .ref l2]) Q E s := by
  refine call_concat (ev.keeps F.keep) hroom hh hl hl2 hn hn2 fun h' tk D hk hD hI => ?_
  obtain ⟨ws, ⟨c, hg⟩, hi⟩ := hI
  refine k h' tk D ws c (F.keeps hk) (fun p hp => ?_) hi ?_
  · rcases List.mem_cons.mp hp with rfl | hp
    · refine ⟨hg, ?_, ?_⟩
      · rintro rfl
        obtain ⟨oL, _, _, hL', _⟩ := F.ns
        rw [hD] at hL'; cases hL'
      · cases e : h₀.get? D with
        | none => rfl
        | some o => have := F.keep _ _ e; rw [hD] at this; cases this
    · exact ⟨hk _ _ (N p hp).1, (N p hp).2⟩
  · rintro p hp rfl
    have := (N p hp).1
    rw [hD] at this; cases this

theorem elt_end {C I D : Addr} {o : Obj} {m : Str → Option Value} {ys : List Value} {n : Nat} {J : List Value → List (Addr × Obj) → Nat → Prop} {y : Value} {h' : Heap} {tk' : Nat} {nx : List (Addr × Obj)} (F : Fr s.heap C h' m) (N : News s.heap C h' ((I, o) :: (D, listOf ys.toArray n) :: nx)) (hn : ∀ p ∈ nx, p.1 ≠ I ∧ p.1 ≠ D) (hJ : J (ys ++ [y]) nx tk') :
    EltEnd s C I D o m ys n J y { s with heap := h', toks := tk' } := ⟨h', tk', _, rfl, F, N, .head _, .tail _ (.head _), nx, fun _ hp => .tail _ (.tail _ hp), hn, hJ⟩
theorem intsAre_snoc : ∀ {vs : List Value} {ns : List Int} {n : Int} {t : Tok}, IntsAre vs ns → IntsAre (vs ++ [.int n t]) (ns ++ [n])
  | _, _, _, _, .nil => .cons _ _ .nil
  | _, _, _, _, .cons a u h => .cons a u (intsAre_snoc h)
theorem take_map_snoc {ns : List Int} {f : Int → Int} {i : Nat} {n : Int} (h : ns[i]? = some n) : (ns.take (i + 1)).map f = (ns.take i).map f ++ [f n] := by rw [List.take_add_one, h]; simp
/-- the word of a comprehension of ints over ints -/
def JI (ns : List Int) (f : Int → Int) : Nat → List Value → List (Addr × Obj) → Nat → Prop := fun i ys nw _ => i ≤ ns.length ∧ nw = [] ∧ IntsAre ys ((ns.take i).map f)
theorem cj_JI (ns : List Int) (f : Int → Int) (tk : Nat) : CJ (JI ns f) tk where
  zero := ⟨Nat.zero_le _, rfl, .nil⟩
  len := fun i ys nx tk h => by rw [h.2.2.length, List.length_map, List.length_take]; have := h.1; omega
  tk := fun _ _ _ _ _ h _ => h
theorem JI.end {ns : List Int} {f : Int → Int} {ys : List Value} {nw : List (Addr × Obj)} {tk : Nat} (h : JI ns f ns.length ys nw tk) : nw = [] ∧ IntsAre ys (ns.map f) := ⟨h.2.1, by have := h.2.2; rwa [List.take_length] at this⟩
theorem JI.snoc {ns : List Int} {f : Int → Int} {i : Nat} {ys : List Value} {nw : List (Addr × Obj)} {tk tk' : Nat} {n : Int} {t : Tok} (h : JI ns f i ys nw tk) (hn : ns[i]? = some n) : JI ns f (i + 1) (ys ++ [.int (f n) t]) [] tk' :=
  ⟨(List.getElem?_eq_some_iff.mp hn).1, rfl, by rw [take_map_snoc hn]; exact intsAre_snoc h.2.2⟩
end
end Mine
end

section
open PySem PySem.W PyProof.Rows PySem.Calls
namespace Mine
local macro_rules | `(tactic| walk_at "my_room") => `(tactic| first | assumption | exact room1 (by assumption) | k_room)
local macro_rules | `(tactic| walk_at "exec For Name Name cons nil") => `(tactic| (k_here; k_dflt (refine' for_start ?_ ?hs; (case hs => intro _; rfl))))
local macro_rules | `(tactic| walk_at "exec For Name Call cons nil") => `(tactic| (k_here; k_dflt (refine' for_start ?_ ?hs; (case hs => intro _; rfl))))
local macro_rules | `(tactic| walk_at "exec For Name List cons nil") => `(tactic| (k_here; k_dflt (refine' for_start ?_ ?hs; (case hs => intro _; rfl))))
local macro_rules | `(tactic| walk_at "call type:range cons nil") => `(tactic| (k_here; (with_reducible show wpAny _ _ (call (Value.type "range") _) (ForK _ _ _ _ _ _ _ _) _ _); with_reducible refine held_i ?_))
local macro_rules | `(tactic| walk_at "eval ListComp Call cons") => `(tactic| (k_here; with_reducible refine held_i ?_))
local macro_rules | `(tactic| walk_at "eval ListComp BinOp cons") => `(tactic| (k_here; with_reducible refine held_i ?_))
local macro_rules | `(tactic| walk_at "eval ListComp Subscript cons") => `(tactic| (k_here; with_reducible refine held_i ?_))
local macro_rules | `(tactic| walk_at "eval ListComp Name cons") => `(tactic| (k_here; with_reducible refine held_i ?_))
local macro_rules | `(tactic| walk_at "eval ListComp List cons") => `(tactic| (k_here; with_reducible refine held_i ?_))
local macro_rules | `(tactic| walk_at "exec Assign cons ListComp") => `(tactic| (k_here; with_reducible refine held_i ?_))
local macro_rules | `(tactic| walk_at "eval Name") => `(tactic| (k_here; (with_reducible show wpAny _ _ (PySem.eval _ (compEnvC _ _ _ _)) _ _ _); k_dflt (first
  | (refine' nm_L ?F ?v ?_ ?a ?b ?c; (case F => k_asm); (case a => rfl); (case b => rfl); (case c => rfl); (case v => rfl); k_whole)
  | (refine' nm_C ?F ?q ?v ?_ ?a ?b ?c; (case F => k_asm); (case a => rfl); (case b => rfl); (case c => rfl); (case q => rfl); (case v => k_asm); k_whole)
  | (refine' nm_K ?F ?X ?T ?q ?_ ?g ?a ?b ?c; (case F => k_asm); (case X => k_asm); (case T => k_asm); (case g => rfl); (case a => rfl); (case b => rfl); (case c => rfl); (case q => k_is); k_whole)
  | (refine' nm_B ?F ?X ?T ?q ?v ?n ?_ ?g ?g2 ?a ?b ?c; (case F => k_asm); (case X => k_asm); (case T => k_asm); (case g => rfl); (case g2 => rfl); (case a => rfl); (case b => rfl); (case c => rfl); (case q => k_is); (case v => boot_fast); (case n => decide); k_whole))))
local macro_rules | `(tactic| walk_at "my_il") => `(tactic| first | assumption | exact IL.keeps (by assumption) (Fr.keep (by assumption)) | exact ⟨_, ⟨_, News.get (by assumption) (by k_mem)⟩, by assumption⟩)
local macro_rules | `(tactic| walk_at "call ref") => `(tactic| (k_here; (with_reducible show wpAny _ _ (call (Value.ref 125) [Value.ref _, Value.int _ _]) _ _ _); refine' k_contains ?k1 ?k2 ?k3 ?k4 ?k5 ?k6 ?_; (case k1 => k_asm); (case k2 => k_asm); (case k3 => k_asm); (case k4 => walk_at "my_room"); (case k5 => assumption); (case k6 => walk_at "my_il"); intro h' tk' F' N'; (try k_sweep)))
local macro_rules | `(tactic| walk_at "call ref") => `(tactic| (k_here; (with_reducible show wpAny _ _ (call (Value.ref 139) [Value.ref _, Value.int _ _]) _ _ _); refine' k_getitem ?k1 ?k2 ?k3 ?k4 ?k5 ?k6 ?k7 ?k8 ?k9 ?_; (case k1 => k_asm); (case k2 => k_asm); (case k3 => k_asm); (case k4 => walk_at "my_room"); (case k5 => assumption); (case k6 => walk_at "my_il"); (case k7 => first | assumption | omega); (case k8 => first | assumption | omega); (case k9 => first | assumption | omega); intro h' tk' v' F' N'; (try k_sweep)))
local macro_rules | `(tactic| walk_at "call ref") => `(tactic| (k_here; (with_reducible show wpAny _ _ (call (Value.ref 118) [Value.ref _, Value.ref _]) _ _ _); refine' k_concat ?k1 ?k2 ?k3 ?k4 ?k5 ?k6 ?k7 ?k8 ?k9 ?_; (case k1 => k_asm); (case k2 => k_asm); (case k3 => k_asm); (case k4 => walk_at "my_room"); (case k5 => assumption); (case k6 => walk_at "my_il"); (case k7 => walk_at "my_il"); (case k8 => first | assumption | omega | (simp only [List.length_map]; omega)); (case k9 => first | assumption | omega | (simp only [List.length_map]; omega)); intro h' tk' D' ws' c' F' N' hI' hne'; (try k_sweep)))
local macro_rules | `(tactic| walk_at "call ref") => `(tactic| (k_here; (with_reducible show wpAny _ _ (call (Value.ref 69) [Value.int _ _, Value.int _ _]) _ _ _); refine' k_add ?k1 ?k2 ?k3 ?k4 ?_; (case k1 => k_asm); (case k2 => k_asm); (case k3 => k_asm); (case k4 => walk_at "my_room"); intro h' tk' v' F' N'; (try k_sweep)))
local macro_rules | `(tactic| walk_at "call ref") => `(tactic| (k_here; (with_reducible show wpAny _ _ (call (Value.ref 76) [Value.int _ _, Value.int _ _]) _ _ _); refine' k_and_ ?k1 ?k2 ?k3 ?k4 ?_; (case k1 => k_asm); (case k2 => k_asm); (case k3 => k_asm); (case k4 => walk_at "my_room"); intro h' tk' v' F' N'; (try k_sweep)))
local macro_rules | `(tactic| walk_at "call ref") => `(tactic| (k_here; (with_reducible show wpAny _ _ (call (Value.ref 83) [Value.int _ _, Value.int _ _]) _ _ _); refine' k_mul ?k1 ?k2 ?k3 ?k4 ?k5 ?_; (case k1 => k_asm); (case k2 => k_asm); (case k3 => k_asm); (case k4 => walk_at "my_room"); (case k5 => first | assumption | walk_at "my_mul"); intro h' tk' v' F' N'; (try k_sweep)))
local macro_rules | `(tactic| walk_at "call ref") => `(tactic| (k_here; (with_reducible show wpAny _ _ (call (Value.ref 90) [Value.int _ _, Value.int _ _]) _ _ _); refine' k_or_ ?k1 ?k2 ?k3 ?k4 ?_; (case k1 => k_asm); (case k2 => k_asm); (case k3 => k_asm); (case k4 => walk_at "my_room"); intro h' tk' v' F' N'; (try k_sweep)))
local macro_rules | `(tactic| walk_at "call ref") => `(tactic| (k_here; (with_reducible show wpAny _ _ (call (Value.ref 97) [Value.int _ _, Value.int _ _]) _ _ _); refine' k_rshift ?k1 ?k2 ?k3 ?k4 ?k5 ?_; (case k1 => k_asm); (case k2 => k_asm); (case k3 => k_asm); (case k4 => walk_at "my_room"); (case k5 => first | assumption | decide); intro h' tk' v' F' N'; (try k_sweep)))
local macro_rules | `(tactic| walk_at "call ref") => `(tactic| (k_here; (with_reducible show wpAny _ _ (call (Value.ref 104) [Value.int _ _, Value.int _ _]) _ _ _); refine' k_sub ?k1 ?k2 ?k3 ?k4 ?_; (case k1 => k_asm); (case k2 => k_asm); (case k3 => k_asm); (case k4 => walk_at "my_room"); intro h' tk' v' F' N'; (try k_sweep)))
local macro_rules | `(tactic| walk_at "call ref") => `(tactic| (k_here; (with_reducible show wpAny _ _ (call (Value.ref 111) [Value.int _ _, Value.int _ _]) _ _ _); refine' k_xor ?k1 ?k2 ?k3 ?k4 ?_; (case k1 => k_asm); (case k2 => k_asm); (case k3 => k_asm); (case k4 => walk_at "my_room"); intro h' tk' v' F' N'; (try k_sweep)))

section
def famStep (fam : List Int) (st : Int) : List Int := if (fam.any fun x => x == st) = true then fam else fam ++ fam.map fun m => Builtin.bitXor m st
def famOf (steps : List Int) : List Int := steps.foldl famStep [0]
theorem famStep_len (fam : List Int) (st : Int) : (famStep fam st).length ≤ 2 * fam.length := by
  unfold famStep; split
  · omega
  · rw [List.length_append, List.length_map]; omega
theorem famOf_take {steps : List Int} {i : Nat} {st : Int} (h : steps[i]? = some st) : famOf (steps.take (i + 1)) = famStep (famOf (steps.take i)) st := by
  unfold famOf; rw [List.take_add_one, h]; simp
theorem famOf_len (steps : List Int) : ∀ i, i ≤ steps.length → (famOf (steps.take i)).length ≤ 2 ^ i
  | 0, _ => by simp [famOf]
  | i + 1, h => by
    rw [famOf_take (List.getElem?_eq_getElem h), Nat.pow_succ]
    have h1 := famStep_len (famOf (steps.take i)) steps[i]
    have h2 := famOf_len steps i (by omega)
    omega

theorem pick5 {h₀ h : Heap} {L : Addr} {a b c d e : Addr × Obj} (N : News h₀ L h [a, b, c, d, e]) : News h₀ L h [c, a, e] := fun p hp => N p (by
  rcases List.mem_cons.mp hp with rfl | hp
  · exact .tail _ (.tail _ (.head _))
  · rcases List.mem_cons.mp hp with rfl | hp
    · exact .head _
    · rcases List.mem_cons.mp hp with rfl | hp
      · exact .tail _ (.tail _ (.tail _ (.tail _ (.head _))))
      · cases hp)

set_option maxHeartbeats 8000000 in
theorem call_family {prog : Program} {w : World} {A : Around} {E : Value → Shared → Prop} {s : Shared} {mg mb : Str → Option Value} {Q : Value → Shared → Prop} (ev : Ev w mg mb s.heap) (hroom : A.depth + 9 < recursionLimit) (hh : A.handled = none)
    {l : Addr} {ns : List Int} (hl : IL s.heap l ns) (hlen : ns.length ≤ 3)
    (k : ∀ h' tk D, (∀ b o, s.heap.get? b = some o → h'.get? b = some o) → s.heap.get? D = none → IL h' D (famOf ns) → Q (.ref D) { s with heap := h', toks := tk }) : wpAny (model prog w) A (call (.ref 158) [.ref l]) Q E s := by
  obtain ⟨vs, hp, hi⟩ := hl
  have hl := hp.isList
  refine wpAny_call ?_
  refine enterC (binds := [(Str.ofString "steps", .ref l)]) ev rfl rfl (by omega) (BindsTo.of_eq rfl) rfl (by decide +kernel) ?_ rfl rfl rfl
  intro L h₁ tk₀ cells hL F N Y
  obtain ⟨oc, rfl, hoc⟩ := Y.one
  have KX := ev.K
  have TX := ev.T
  k_steps
  rename Fr _ _ _ _ => F'
  rename News _ _ _ _ => N'
  rename_i D₀ hA q1 hB
  have q1 : D₀ ≠ L + 1 := Nat.ne_of_gt q1
  refine forK_list (fun i m₁ news₁ g => g = s.gens ∧ ∃ D ws c oc v₀, m₁ (Str.ofString "family") = some (.ref D) ∧ D ≠ L + 1 ∧ news₁ = [(D, listOf ws.toArray c), (L + 1, oc)] ∧ oc.data = .cell v₀ ∧ IntsAre ws (famOf (ns.take i)))
    hh (hl.at fun o e => F'.keep _ o e) F' N' ⟨rfl, D₀, [.int 0 tk₀], 0, oc, _, rfl, q1, rfl, hoc, .cons 0 tk₀ .nil⟩ ?_ ?_ ?_
  · obtain ⟨ol, hol, _⟩ := hl
    exact ⟨ol, fun i m₁ news₁ g h _ F _ => F.keep _ _ hol⟩
  · clear hoc
    rintro I i v m₁ news₁ h tk' g o E' hv ⟨rfl, D, ws, c, oc', v₀, h1, hDL, rfl, hoc, hw⟩ hlt hn F₁ N₁
    obtain ⟨st, tst, rfl, hsi⟩ := hi.at i v hv
    have hni := List.forall_mem_cons.mp hn
    have hni2 := (List.forall_mem_cons.mp hni.2).1
    have hni1 := hni.1
    clear hni hn
    replace hni1 := neN hni1
    replace hni2 := neN hni2
    replace hDL := neN hDL
    dsimp only at hni1 hni2
    have F₂ := fr_know F₁ h1
    clear F₁ F' N' hlt
    have hlt : i < ns.length := (List.getElem?_eq_some_iff.mp hsi).1
    have hfl := famOf_len ns i (by omega)
    have hfl4 : (famOf (ns.take i)).length ≤ 4 := Nat.le_trans hfl (Nat.pow_le_pow_right (by decide) (show i ≤ 2 by omega))
    generalize hfam : famOf (ns.take i) = fam at *
    k_steps
    · rename Fr _ _ _ _ => F'
      rename News _ _ _ _ => N'
      have e : famOf (ns.take (i + 1)) = fam := by
        rw [famOf_take hsi, hfam]; unfold famStep; rw [if_pos (by assumption)]
      refine turn_next F' N' (by k_all) ⟨rfl, D, ws, c, _, _, rfl, hDL, rfl, by assumption, ?_⟩
      rw [e]; exact hw
    · rename Fr _ _ _ _ => F'
      rename News _ _ _ _ => N'
      rename (Obj.data _ = Data.cell (some (Value.int st tst))) => hcd
      rename ((fam.any fun x => x == st) = false) => hany
      refine comp_start (cl := [(Str.ofString "step", L + 1)]) rfl rfl (by decide) ?_ (by intro _; rfl)
      k_steps
      have evS := ev.keeps F'.keep
      have hcell := (⟨_, N'.get (.tail _ (.tail _ (.head _))), hcd⟩ : Heap.IsCell _ (L + 1) (some (.int st tst)))
      refine compE_list (JI fam fun m => Builtin.bitXor m st) (cj_JI _ _ _) ⟨by decide, rfl, rfl⟩ hh ⟨_, N'.get (.tail _ (.head _)), rfl, c, rfl⟩ F' N' (by rw [hw.length]; exact Nat.le_trans hfl4 (by decide)) ?_ ?_
      · intro I₂ C D₂ j v₂ m₂ ys kk nw h₂ tk₂ o₂ E₂ hI₂ hD₂ hC₂ hj hP hJ hn₂ G NN tk₃ htk
        obtain ⟨x, tx, rfl, hx⟩ := hw.at j v₂ hP
        obtain rfl := hJ.2.1
        have KX := evS.K
        have TX := evS.T
        clear F' N' KX TX
        have KX := evS.K
        have TX := evS.T
        k_steps
        rename Fr _ _ _ _ => F'
        rename News _ _ _ _ => N'
        exact elt_end F' N' (fun _ h => nomatch h) (hJ.snoc hx)
      · intro D₂ ys kk nw h₂ tk₂ hJ F₂ N₂ hlt₂
        rw [hw.length] at hJ
        obtain ⟨rfl, hys⟩ := hJ.end
        k_lt hlt₂
        simp only [List.cons_append, List.nil_append] at N₂
        clear F' N'
        k_steps
        rename Fr _ _ _ _ => F'
        rename News _ _ _ _ => N'
        rename IntsAre _ (_ ++ _) => hI'
        rename ∀ p ∈ _, Prod.fst p ≠ _ => hne'
        have h1 := List.forall_mem_cons.mp hne'
        have h2 := List.forall_mem_cons.mp h1.2
        have h3 := List.forall_mem_cons.mp h2.2
        have h4 := List.forall_mem_cons.mp h3.2
        have e : famOf (ns.take (i + 1)) = fam ++ fam.map fun m => Builtin.bitXor m st := by
          rw [famOf_take hsi, hfam]; unfold famStep; rw [hany]; rfl
        have n1 := neN h2.1
        have n4 := neN h4.1
        dsimp only at n1 n4
        refine turn_next F' (pick5 N') ?hne ⟨rfl, _, _, _, _, _, rfl, n4.symm, rfl, hcd, ?hf⟩
        · k_all
        · rw [e]; exact hI'
  · rintro m₁ news₁ h tk' g ⟨rfl, D, ws, c, oc', v₀, h1, hDL, rfl, hoc', hw⟩ F₁ N₁
    have F₂ := fr_know F₁ h1
    clear F₁ F' N'
    rw [hi.length, List.take_length] at hw
    k_steps
    exact k _ _ _ F₂.keep (N₁.fresh (.head _)) ⟨_, ⟨_, N₁.get (.head _)⟩, hw⟩
end

section
def pStep (table fam : List Int) (st : List Int × List Int) (p : Int) : List Int × List Int :=
  if (st.1.any fun x => x == p) = true then st else (st.1 ++ fam.map (fun m => Builtin.bitXor p m), st.2 ++ [(fam.map fun m => table.getD (Builtin.bitXor p m).toNat 0).sum])
def pFold (table fam : List Int) (i : Nat) : List Int × List Int := (List.range i).foldl (fun st p => pStep table fam st (p : Nat)) ([], [])
def partsOf (table fam : List Int) : List Int := (pFold table fam 8).2
theorem pFold_succ (table fam : List Int) (i : Nat) : pFold table fam (i + 1) = pStep table fam (pFold table fam i) (i : Nat) := by
  unfold pFold; rw [List.range_succ, List.foldl_append, List.foldl_cons, List.foldl_nil]
theorem pFold_len (table fam : List Int) (hf : fam.length ≤ 8) : ∀ i, (pFold table fam i).1.length ≤ 8 * i ∧ (pFold table fam i).2.length ≤ i
  | 0 => by simp [pFold]
  | i + 1 => by
    obtain ⟨h1, h2⟩ := pFold_len table fam hf i
    rw [pFold_succ]
    unfold pStep
    split
    · omega
    · simp only [List.length_append, List.length_map, List.length_cons, List.length_nil]; omega
theorem xor_bound {p m : Int} (h0 : 0 ≤ p) (h1 : p < 8) (h2 : 0 ≤ m) (h3 : m < 8) : 0 ≤ Builtin.bitXor p m ∧ Builtin.bitXor p m < 8 := by
  have hp : p = 0 ∨ p = 1 ∨ p = 2 ∨ p = 3 ∨ p = 4 ∨ p = 5 ∨ p = 6 ∨ p = 7 := by omega
  have hm : m = 0 ∨ m = 1 ∨ m = 2 ∨ m = 3 ∨ m = 4 ∨ m = 5 ∨ m = 6 ∨ m = 7 := by omega
  rcases hp with rfl | rfl | rfl | rfl | rfl | rfl | rfl | rfl <;> rcases hm with rfl | rfl | rfl | rfl | rfl | rfl | rfl | rfl <;> decide

set_option maxHeartbeats 8000000 in
theorem call_parts {prog : Program} {w : World} {A : Around} {E : Value → Shared → Prop} {s : Shared} {mg mb : Str → Option Value} {Q : Value → Shared → Prop} (ev : Ev w mg mb s.heap) (hroom : A.depth + 9 < recursionLimit) (hh : A.handled = none)
    {lt lf : Addr} {table fam : List Int} (ht : IL s.heap lt table) (hf : IL s.heap lf fam) (htl : table.length = 8) (hfl : fam.length ≤ 8) (hfb : ∀ m ∈ fam, 0 ≤ m ∧ m < 8)
    (k : ∀ h' tk D, (∀ b o, s.heap.get? b = some o → h'.get? b = some o) → s.heap.get? D = none → IL h' D (partsOf table fam) → Q (.ref D) { s with heap := h', toks := tk }) : wpAny (model prog w) A (call (.ref 165) [.ref lt, .ref lf]) Q E s := by
  obtain ⟨vt, hpt, hit⟩ := ht
  have hlt := hpt.isList
  obtain ⟨vf, hpf, hif⟩ := hf
  have hlf := hpf.isList
  refine wpAny_call ?_
  refine enter (binds := [(Str.ofString "table", .ref lt), (Str.ofString "family", .ref lf)]) ev rfl rfl (by omega) (BindsTo.of_eq rfl) (locs rfl) ?_ (by decide) rfl rfl rfl
  intro h₁ F
  have KX := ev.K
  have TX := ev.T
  have NX : News s.heap s.heap.objs.size h₁ [] := News.nil
  k_steps
  rename Fr _ _ _ _ => F'
  rename News _ _ _ _ => N'
  rename_i Dn hA q1 hB Du hC q2 hD
  replace q2 := neN (Nat.ne_of_lt q2)
  refine for_range1 (fun i m₁ news₁ g => g = s.gens ∧ m₁ (Str.ofString "seen") = some (.ref Dn) ∧ m₁ (Str.ofString "sums") = some (.ref Du) ∧ m₁ (Str.ofString "table") = some (.ref lt) ∧ m₁ (Str.ofString "family") = some (.ref lf) ∧
      ∃ ws us c d, news₁ = [(Du, listOf us.toArray d), (Dn, listOf ws.toArray c)] ∧ IntsAre ws (pFold table fam i).1 ∧ IntsAre us (pFold table fam i).2)
    hh (by decide) (by decide) F' N' ⟨rfl, rfl, rfl, rfl, rfl, [], [], 0, 0, rfl, .nil, .nil⟩ ?_ ?_
  · rintro I i t m₁ news₁ h tk₁ g o E' hi ⟨rfl, h1, h2, h3, h4, ws, us, c, d, rfl, hw, hu⟩ hlt₁ hn F₁ N₁
    k_lt hlt₁
    have F₂ := fr_know (fr_know (fr_know (fr_know F₁ h1) (x := Str.ofString "sums") h2) (x := Str.ofString "table") h3) (x := Str.ofString "family") h4
    clear F₁ F' N'
    obtain ⟨hl1, hl2⟩ := pFold_len table fam hfl i
    generalize hst : pFold table fam i = st at *
    obtain ⟨seen, sums⟩ := st
    dsimp only at hw hu hl1 hl2
    have hp0 : (0 : Int) ≤ (i : Int) := Int.natCast_nonneg i
    have hwl : ws.length ≤ 64 := by rw [hw.length]; omega
    have hul : us.length ≤ 8 := by rw [hu.length]; omega
    generalize hp : (i : Int) = p at *
    k_steps
    all_goals (rename Fr _ _ _ _ => F'; rename News _ _ _ _ => N')
    · have e : pFold table fam (i + 1) = (seen, sums) := by
        rw [pFold_succ, hst, hp]; unfold pStep; rw [if_pos (by assumption)]
      refine turn_next F' N' (by k_all) ⟨rfl, rfl, rfl, rfl, rfl, _, _, _, _, rfl, ?_, ?_⟩
      · rw [e]; exact hw
      · rw [e]; exact hu
    · rename (seen.any fun x => x == p) = false => hany
      refine forK_list (fun j m₂ news₂ g => g = s.gens ∧ m₂ (Str.ofString "seen") = some (.ref Dn) ∧ m₂ (Str.ofString "sums") = some (.ref Du) ∧ m₂ (Str.ofString "table") = some (.ref lt) ∧ m₂ (Str.ofString "family") = some (.ref lf) ∧ m₂ (Str.ofString "place") = some (.int p t) ∧
          (∃ t', m₂ (Str.ofString "part") = some (.int ((fam.take j).map fun m => table.getD (Builtin.bitXor p m).toNat 0).sum t')) ∧
          ∃ ws c, news₂ = [(I, o), (Du, listOf us.toArray d), (Dn, listOf ws.toArray c)] ∧ IntsAre ws (seen ++ (fam.take j).map fun m => Builtin.bitXor p m))
        hh (hlf.at fun o e => F'.keep _ o e) F' N' ⟨rfl, rfl, rfl, rfl, rfl, rfl, ⟨_, rfl⟩, ws, c, rfl, by simpa using hw⟩ ?_ ?_ ?_
      · obtain ⟨ol, hol, _⟩ := hlf
        exact ⟨ol, fun i m₁ news₁ g h _ F _ => F.keep _ _ hol⟩
      · rintro I₂ j v m₂ news₂ h tk₂ g o₂ E₂ hv ⟨rfl, g1, g2, g3, g4, g5, ⟨t', g6⟩, ws, c, rfl, hw⟩ hlt₂ hn₂ F₁ N₁
        obtain ⟨x, tx, rfl, hx⟩ := hif.at j v hv
        obtain ⟨hx0, hx1⟩ := hfb x (List.mem_of_getElem? hx)
        obtain ⟨hb0, hb1⟩ := xor_bound hp0 hi hx0 hx1
        have hjl : j < fam.length := (List.getElem?_eq_some_iff.mp hx).1
        k_lt hlt₂
        have F₂ := fr_know (fr_know (fr_know (fr_know F₁ g1) (x := Str.ofString "table") g3) (x := Str.ofString "place") g5) (x := Str.ofString "part") g6
        clear F₁ F' N'
        have hwl' : ws.length ≤ 72 := by rw [hw.length, List.length_append, List.length_map, List.length_take]; omega
        generalize hpart : ((fam.take j).map fun m => table.getD (Builtin.bitXor p m).toNat 0).sum = part at *
        generalize hsn : (seen ++ (fam.take j).map fun m => Builtin.bitXor p m) = sn at *
        k_steps
        rename Fr _ _ _ _ => F'
        rename News _ _ _ _ => N'
        have e1 : ((fam.take (j + 1)).map fun m => table.getD (Builtin.bitXor p m).toNat 0).sum = part + table.getD (Builtin.bitXor p x).toNat 0 := by
          rw [take_map_snoc hx, List.sum_append, hpart, List.sum_cons, List.sum_nil, Int.add_zero]
        have e2 : (seen ++ (fam.take (j + 1)).map fun m => Builtin.bitXor p m) = sn ++ [Builtin.bitXor p x] := by
          rw [take_map_snoc hx, ← List.append_assoc, hsn]
        refine turn_next F' N' (by k_all) ⟨rfl, rfl, g2, rfl, g4, rfl, ?_, _, _, rfl, ?_⟩
        · rw [e1]; exact ⟨_, rfl⟩
        · rw [e2]; exact intsAre_snoc hw
      · rintro m₂ news₂ h tk₂ g ⟨rfl, g1, g2, g3, g4, g5, ⟨t', g6⟩, ws, c, rfl, hw⟩ F₁ N₁
        have F₂ := fr_know (fr_know (fr_know (fr_know (fr_know F₁ g1) (x := Str.ofString "sums") g2) (x := Str.ofString "table") g3) (x := Str.ofString "family") g4) (x := Str.ofString "part") g6
        clear F₁ F' N'
        rw [hif.length, List.take_length] at hw
        have epart : ((fam.take vf.length).map fun m => table.getD (Builtin.bitXor p m).toNat 0).sum = (fam.map fun m => table.getD (Builtin.bitXor p m).toNat 0).sum := by rw [hif.length, List.take_length]
        rw [epart] at F₂
        k_steps
        rename Fr _ _ _ _ => F'
        rename News _ _ _ _ => N'
        simp only [List.push_toArray] at N'
        have e : pFold table fam (i + 1) = (seen ++ fam.map (fun m => Builtin.bitXor p m), sums ++ [(fam.map fun m => table.getD (Builtin.bitXor p m).toNat 0).sum]) := by
          rw [pFold_succ, hst, hp]; unfold pStep; rw [if_neg (by rw [hany]; exact Bool.false_ne_true)]
        refine turn_next F' N' (by k_all) ⟨rfl, rfl, rfl, rfl, rfl, _, _, _, _, rfl, ?_, ?_⟩
        · rw [e]; exact hw
        · rw [e]; exact intsAre_snoc hu
  · rintro m₁ news₁ h tk₁ g ⟨rfl, h1, h2, h3, h4, ws, us, c, d, rfl, hw, hu⟩ F₁ N₁
    have F₂ := fr_know F₁ h2
    clear F₁ F' N'
    k_steps
    exact k _ _ _ F₂.keep (N₁.fresh (.head _)) ⟨_, ⟨_, N₁.get (.head _)⟩, hu⟩
end

end Mine
end

section
open PySem PySem.W PyProof.Rows PySem.Calls
namespace Mine
section
variable {prog : Program} {w : World} {A : Around} {E : Value → Shared → Prop} {s : Shared} {env : Env} {h₀ : Heap} {L : Addr} {Q : Flow → Shared → Prop}

/-- a turn's end of a loop over enumerate -/
def TurnEndE (s : Shared) (h₀ : Heap) (L I e : Addr) (oI oe : Obj) (J : (Str → Option Value) → List (Addr × Obj) → Prop) (f : Flow) (s₄ : Shared) : Prop :=
  f = .next ∧ ∃ h' tk' m' news', s₄ = { s with heap := h', toks := tk' } ∧ Fr h₀ L h' m' ∧ News h₀ L h' news' ∧ (I, oI) ∈ news' ∧ (e, oe) ∈ news' ∧ ∃ nx, (∀ p ∈ nx, p ∈ news') ∧ (∀ p ∈ nx, p.1 ≠ I ∧ p.1 ≠ e) ∧ J m' nx

theorem turn_nextE {I e : Addr} {oI oe : Obj} {J : (Str → Option Value) → List (Addr × Obj) → Prop} {h' : Heap} {tk' : Nat} {m' : Str → Option Value} {nx : List (Addr × Obj)} (F : Fr h₀ L h' m') (N : News h₀ L h' ((I, oI) :: (e, oe) :: nx)) (hn : ∀ p ∈ nx, p.1 ≠ I ∧ p.1 ≠ e) (hJ : J m' nx) :
    TurnEndE s h₀ L I e oI oe J .next { s with heap := h', toks := tk' } := ⟨rfl, h', tk', m', _, rfl, F, N, .head _, .tail _ (.head _), nx, fun _ hp => .tail _ (.tail _ hp), hn, hJ⟩

theorem for_enum {xi xv : Str} {pi pv pt : Pos} {x1} {body : List Stmt} {l : Addr} {vs : List Value} {m : Str → Option Value} {news : List (Addr × Obj)}
    (J : Nat → (Str → Option Value) → List (Addr × Obj) → Prop) (hh : A.handled = none) (hxi : env.kindOf xi = some .local) (hxv : env.kindOf xv = some .local)
    (hp : (env.scope.kind == .class || (env.scope.kind == .module && env.locals != env.globals)) = false) (hLe : env.locals = L)
    (hl : s.heap.IsList l vs.toArray) (F : Fr h₀ L s.heap m) (N : News h₀ L s.heap news) (hj : J 0 m news) (_hlL : l ≠ L)
    (hfp : ∃ ob, ∀ i m₁ news₁ h, J i m₁ news₁ → Fr h₀ L h m₁ → News h₀ L h news₁ → h.get? l = some ob)
    (turn : ∀ I e i v m₁ news₁ h tk tk' oI oe E', vs[i]? = some v → J i m₁ news₁ → (∀ p ∈ news, p.1 < I) → I < e → (∀ p ∈ news₁, p.1 ≠ I ∧ p.1 ≠ e) →
      Fr h₀ L h (fun y => if y = xv then some v else if y = xi then some (.int i tk) else m₁ y) → News h₀ L h ((I, oI) :: (e, oe) :: news₁) →
      wpAny (model prog w) A (execs body env) (TurnEndE s h₀ L I e oI oe (J (i + 1))) E' { s with heap := h, toks := tk' })
    (done : ∀ m₁ news₁ h tk, J vs.length m₁ news₁ → Fr h₀ L h m₁ → News h₀ L h news₁ → Q .next { s with heap := h, toks := tk }) :
    wpAny (model prog w) A (call (.type "enumerate") [.ref l]) (ForK prog w A env (.Tuple [.Name xi pi, .Name xv pv] x1 pt) body Q E) E s := by
  have hlt : @LT.lt Nat _ l s.heap.objs.size := by obtain ⟨_, e, _⟩ := hl; exact Heap.lt_size e
  have hLlt : @LT.lt Nat _ L s.heap.objs.size := F.ns.lt
  refine call_enumerate_list hl fun h₁ he hit hsz hk => ?_
  generalize hI : s.heap.objs.size = I at *
  have hI0 : h₀.get? I = none := fresh_of F (by rw [hI]; exact Nat.le_refl _)
  have he0 : h₀.get? (I + 1) = none := fresh_of F (by rw [hI]; exact Nat.le_succ _)
  have heI : (I + 1 : Addr) ≠ I := Nat.ne_of_gt (Nat.lt_succ_self I)
  have heL : (I + 1 : Addr) ≠ L := Nat.ne_of_gt (Nat.lt_succ_of_lt hLlt)
  have hIL : I ≠ L := Nat.ne_of_gt hLlt
  have hlI : l ≠ I := Nat.ne_of_lt hlt
  have hle : l ≠ (I + 1 : Addr) := Nat.ne_of_lt (Nat.lt_succ_of_lt hlt)
  have hlow : ∀ p ∈ news, @LT.lt Nat _ p.1 I := fun p hp => hI ▸ Heap.lt_size (N p hp).1
  have hlow2 : ∀ p ∈ news, p.1 ≠ I ∧ p.1 ≠ (I + 1 : Addr) := fun p hp => ⟨Nat.ne_of_lt (hlow p hp), Nat.ne_of_lt (Nat.lt_succ_of_lt (hlow p hp))⟩
  generalize hE : (I + 1 : Addr) = e at *
  unfold ForK
  refine wpAny_pyIter_enum he ?_
  refine codeAny_forLoop_any
    (fun k s' => ∃ h tk m₁ news₁ i old, s' = { s with heap := h, toks := tk } ∧ IsEnum h e I ((i : Nat) : Int) old ∧ h.IsListIter I l i ∧ h.IsList l vs.toArray ∧ Fr h₀ L h m₁ ∧ News h₀ L h news₁ ∧ (∀ p ∈ news₁, p.1 ≠ I ∧ p.1 ≠ e) ∧ J i m₁ news₁ ∧ i ≤ vs.length ∧ k = vs.length + 1 - i) ?_ (vs.length + 1)
    ⟨h₁, s.toks, m, news, 0, .none, rfl, he, hit, hl.at fun o q => hk _ o q, F.keeps hk, news_keeps N hk, hlow2, hj, Nat.zero_le _, rfl⟩
  rintro k s' ⟨h, tk, m₁, news₁, i, old, rfl, he', hit', hl', F', N', hn', hJ, hi, rfl⟩
  have frame : ∀ h₂ : Heap, (∀ b o, b ≠ e → b ≠ I → h.get? b = some o → h₂.get? b = some o) → Fr h₀ L h₂ m₁ ∧ News h₀ L h₂ news₁ := fun h₂ hk₂ =>
    ⟨⟨F'.ns.at' fun o q => hk₂ _ o heL.symm hIL.symm q, fun b o q => hk₂ b o (by rintro rfl; rw [he0] at q; cases q) (by rintro rfl; rw [hI0] at q; cases q) (F'.keep b o q), F'.above⟩,
      fun p hp => ⟨hk₂ _ _ (hn' p hp).2 (hn' p hp).1 (N' p hp).1, (N' p hp).2⟩⟩
  cases hv : vs[i]? with
  | none =>
    have hsz' : i = vs.length := Nat.le_antisymm hi (by simpa using hv)
    refine wpAny_pyNext_enum_end hh he' hit' hl' (by simpa using hv) fun h₂ he₂ => wpAny_execs_nil ?_
    obtain ⟨F₂, N₂⟩ := frame h₂ fun b o hbe hbi q => he₂ b o hbi q
    exact done m₁ news₁ h₂ tk (hsz' ▸ hJ) F₂ N₂
  | some v =>
    have hlt' : i < vs.length := (List.getElem?_eq_some_iff.mp hv).1
    have heH : @LT.lt Nat _ e h.objs.size := Heap.lt_size he'
    have hLH : @LT.lt Nat _ L h.objs.size := F'.ns.lt
    obtain ⟨oi, hoi, _⟩ := id hit'
    have hiH : @LT.lt Nat _ I h.objs.size := Heap.lt_size hoi
    have hlH : @LT.lt Nat _ l h.objs.size := by obtain ⟨_, q, _⟩ := hl'; exact Heap.lt_size q
    refine wpAny_pyNext_enum_item he' hit' hl' (by simpa using hv) heI fun h₂ heo hit₂ ht₂ hz₂ hk₂ => ?_
    refine wpAny_letOwnedTupleGo_enum heo fun h₃ he₃ hs₃ => ?_
    replace hs₃ : Heap.SameBut e h₂ h₃ := hs₃
    have ht₃ : h₃.IsTuple h.objs.size #[.int i tk, v] := ⟨_, (hs₃.2 _ (Nat.ne_of_gt heH)).trans ht₂, rfl, _, rfl⟩
    have hz₃ : h₃.objs.size = h.objs.size + 1 := hs₃.1.trans hz₂
    refine wpAny_assign_Tuple hh ht₃ rfl rfl fun h₄ hx₄ => ?_
    replace hx₄ : Heap.ExtBut h₃.objs.size h₃ h₄ := hx₄
    have old₄ : ∀ b o, @LT.lt Nat _ b h.objs.size → h₃.get? b = some o → h₄.get? b = some o := fun b o hb x => hx₄ b o (by rw [hz₃]; exact Nat.ne_of_lt (Nat.lt_succ_of_lt hb)) x
    have up₃ : ∀ b o, b ≠ e → b ≠ I → h.get? b = some o → h₄.get? b = some o := fun b o hbe hbi q => old₄ b o (Heap.lt_size q) ((hs₃.2 _ hbe).trans (hk₂ b o hbe hbi q))
    obtain ⟨F₄, N₄⟩ := frame h₄ up₃
    have he₄ : IsEnum h₄ e I (((i + 1 : Nat)) : Int) v := by
      have : ((i + 1 : Nat) : Int) = (i : Int) + 1 := by push_cast; rfl
      rw [this]; exact old₄ e _ heH he₃
    have hit₄ : h₄.IsListIter I l (i + 1) := (hit₂.extBut hs₃.extBut (Ne.symm heI)).at fun o x => old₄ I o hiH x
    have hl₄ : h₄.IsList l vs.toArray := hl'.at fun o q => up₃ _ o hle hlI q
    show wpAny _ A (do holding [v] (assign (.Name xi pi) env (.int i tk)); do holding [] (assign (.Name xv pv) env v); pure ()) _ _ _
    have N₄' : News h₀ L h₄ ((e, { cls := .type "enumerate", dict := none, data := .fields #[.none, .bool false, .ref I, rawInt (((i + 1 : Nat)) : Int), .none, v], slots := #[] }) :: news₁) := fun p hp => by
      rcases List.mem_cons.mp hp with rfl | hp
      · exact ⟨he₄, heL, he0⟩
      · exact N₄ p hp
    obtain ⟨oI, hoI, hoI1, hoI2⟩ := id hit₄
    have NI : News h₀ L h₄ ((I, oI) :: (e, { cls := .type "enumerate", dict := none, data := .fields #[.none, .bool false, .ref I, rawInt (((i + 1 : Nat)) : Int), .none, v], slots := #[] }) :: news₁) := fun p hp => by
      rcases List.mem_cons.mp hp with rfl | hp
      · exact ⟨hoI, hIL, hI0⟩
      · exact N₄' p hp
    refine wpAny_bind (wpAny_holding (wpAny_assign_Name (wpAny_storeName_local hxi (hLe ▸ F₄.ns) (fun h₅ hn₅ hs₅ => ?_) hp)))
    rw [hLe] at hn₅ hs₅
    have F₅ := F₄.set hn₅ hs₅
    refine wpAny_bind (wpAny_holding (wpAny_assign_Name (wpAny_storeName_local hxv (hLe ▸ F₅.ns) (fun h₆ hn₆ hs₆ => wpAny_pure ?_) hp)))
    rw [hLe] at hn₆ hs₆
    have F₆ := F₅.set hn₆ hs₆
    have N₆ := (NI.set hs₅).set hs₆
    refine wpAny_mono (turn I e i v m₁ news₁ h₆ tk _ oI _ _ hv hJ hlow (by rw [← hE]; exact Nat.lt_succ_self _) hn' F₆ N₆) (fun f s₄ h₄' => ?_) fun _ _ x => x
    obtain ⟨rfl, h', tk', m', news', rfl, F₇, N₇, hmI, hme, nx, hnx, hnx2, hJ₇⟩ := h₄'
    have Nx : News h₀ L h' nx := fun p hp => N₇ p (hnx p hp)
    obtain ⟨obl, hobl⟩ := hfp
    have hlo := hobl (i + 1) m' nx h' hJ₇ F₇ Nx
    have hlo0 := hobl i m₁ news₁ h hJ F' N'
    refine ⟨vs.length + 1 - (i + 1), by omega, h', tk', m', nx, i + 1, v, rfl, (N₇ _ hme).1, ⟨oI, (N₇ _ hmI).1, hoI1, hoI2⟩, hl'.at fun o q => ?_, F₇, Nx, hnx2, hJ₇, hlt', rfl⟩
    rw [hlo0] at q; rw [← q]; exact hlo
end
end Mine
end

section
open PySem PySem.W PyProof.Rows PySem.Calls
namespace Mine
section
variable {M : Model} {A : Around} {E : Value → Shared → Prop} {s : Shared}
theorem newEnv_cell {scope : Scope} {globals : Addr} {qual : Str} {outer : Env} {x : Str} {Q : Env → Shared → Prop}
    (hcells : ∀ n, cellsFrom n scope.names [] = [(x, n)])
    (hQ : ∀ h', h'.Ns s.heap.objs.size (fun _ => none) → h'.IsCell (s.heap.objs.size + 1) none → (∀ b o, s.heap.get? b = some o → h'.get? b = some o) → Q (newEnv scope s.heap.objs.size globals [(x, s.heap.objs.size + 1)] qual none .none (some outer) builtinsNs) { s with heap := h' }) :
    wpAny M A (newFunctionEnv scope globals [] [] qual none .none (some outer)) Q E s := by
  simp only [newFunctionEnv, Option.isSome_some, if_true]
  refine wpAny_bind (wpAny_alloc ?_)
  refine wpAny_bind (wpAny_layCells _ (fun name kind cells => by cases hkc : kind == NameKind.cell <;> simp [hkc]) _ _ _ _ ?_)
  have ok := cellsFrom_ok scope.names (s.heap.push { cls := .type "dict", data := .dict #[] }) (s.heap.objs.size + 1) [] ⟨fun _ _ hm => (nomatch hm), List.Pairwise.nil⟩ (by rw [Heap.size_push]; exact Nat.le_refl _)
  rw [Heap.size_push] at ok
  rw [show ({ s with heap := s.heap.push { cls := .type "dict", data := .dict #[] } } : Shared).heap.objs.size = s.heap.objs.size + 1 from Heap.size_push ..]
  rw [hcells] at ok ⊢
  refine wpAny_bind ?_
  rw [List.forIn_nil]
  refine wpAny_pure (wpAny_pure ?_)
  exact hQ _ ((Heap.Ns.new s.heap (.type "dict")).keeps (pushCells_keeps _ _)) (ok.empty x _ (.head _)).1 fun b o e => pushCells_keeps _ _ b o (Heap.get?_push_of_some _ e)
end

section
variable {prog : Program} {w : World} {A : Around} {E : Value → Shared → Prop} {s : Shared} {env : Env} {h₀ : Heap} {L : Addr}

def EltEndC (s : Shared) (C I D : Addr) (o : Obj) (m : Str → Option Value) (ys : List Value) (n : Nat) (J : List Value → Nat → Prop) (y : Value) (s₄ : Shared) : Prop :=
  ∃ h' tk' oM v, s₄ = { s with heap := h', toks := tk' } ∧ Fr s.heap C h' m ∧ News s.heap C h' [(I, o), (D, listOf ys.toArray n), (C + 1, oM)] ∧ oM.data = .cell v ∧ J (ys ++ [y]) tk'

theorem compE_rangeC {elt iter : PySem.Expr} {x : Str} {px pos : Pos} {scope : Scope} {m : Str → Option Value} {news : List (Addr × Obj)} {Q : Value → Shared → Prop} {r : Addr} {b : Int} {t₁ t₂ t₃ : Tok}
    (J : Nat → List Value → Nat → Prop) (hcells : ∀ n, cellsFrom n scope.names [] = [(x, n)]) (hkind : scope.kind = .function) (hx : ∀ C, (compEnvC scope [(x, C + 1)] C env).kindOf x = some .cell)
    (hh : A.handled = none) (hr : IsRange s.heap r 0 b 1 t₁ t₂ t₃) (hb0 : 0 ≤ b) (hb : b < 2 ^ 62) (F : Fr h₀ L s.heap m) (N : News h₀ L s.heap news) (hnsz : b.toNat ≤ sizeLine)
    (hj : J 0 [] s.toks) (hJl : ∀ i ys tk, J i ys tk → ys.length = i) (hJt : ∀ i ys tk tk', J i ys tk → tk ≤ tk' → J i ys tk')
    (turn : ∀ I C D (i : Nat) t (m₁ : Str → Option Value) ys k h tk o oM E', s.heap.objs.size ≤ I → I < D → D < C → i < b.toNat → J i ys tk → oM.data = .cell (some (.int i t)) → Fr s.heap C h m₁ → News s.heap C h [(I, o), (D, listOf ys.toArray k), (C + 1, oM)] →
      ∀ tk₂, tk ≤ tk₂ → wpAny (model prog w) A (eval elt (compEnvC scope [(x, C + 1)] C env)) (EltEndC s C I D o m₁ ys k (J (i + 1))) E' { s with heap := h, toks := tk₂ })
    (done : ∀ D ys k h' tk, J b.toNat ys tk → Fr h₀ L h' m → News h₀ L h' ((D, listOf ys.toArray k) :: news) → (∀ p ∈ news, p.1 < D) → Q (.ref D) { s with heap := h', toks := tk }) :
    CompK prog w A env elt iter x px scope [] pos Q E (.ref r) s := by
  unfold CompK
  refine wpAny_pyIter_range hr (small_one (by omega) (by omega) (by omega) hb) ?_
  have W := Walks.range (prog := prog) (w := w) hh s.heap.objs.size 0 1 b.toNat
  have hst0 := range_it (s := s) (a := 0) (b := b) hb0
  rw [show (b - 0).toNat = b.toNat by rw [Int.sub_zero]] at hst0
  generalize hI : s.heap.objs.size = I at *
  generalize ho₀ : ({ cls := .type "range_iterator", data := .fields #[rawInt 0, rawInt (Builtin.Range.rangeSize 0 b 1), rawInt 1] } : Obj) = o₀ at *
  refine wpAny_newObj_type (newEnv_cell hcells fun h₁ hns₁ hcell₁ hkp₁ => ?_)
  generalize hH2 : (s.heap.push o₀).push { cls := .type "list", dict := none, data := .seq ([] : List Value).toArray } = H2 at *
  dsimp only at hns₁ hcell₁ hkp₁ ⊢
  have hDs : (s.heap.push o₀).objs.size = I + 1 := by rw [Heap.size_push, hI]
  have hCs : H2.objs.size = I + 2 := by rw [← hH2, Heap.size_push, hDs]
  rw [hCs] at hns₁ hcell₁ ⊢
  rw [hDs]
  have old : ∀ b o, s.heap.get? b = some o → h₁.get? b = some o := fun b o e => hkp₁ _ _ (hH2 ▸ Heap.get?_push_of_some _ (Heap.get?_push_of_some _ e))
  have old2 : ∀ b o, (s.heap.push o₀).get? b = some o → h₁.get? b = some o := fun b o e => hkp₁ _ _ (hH2 ▸ Heap.get?_push_of_some _ e)
  have hacc : h₁.get? (I + 1) = some (listOf ([] : List Value).toArray 0) := by
    refine hkp₁ _ _ ?_
    rw [← hH2, ← hDs]; exact Heap.get?_push_size _ rfl
  have fresh : ∀ a, @LE.le Nat _ I a → s.heap.get? a = none := fun a ha => by
    cases e : s.heap.get? a with
    | none => rfl
    | some o' => exact absurd (Heap.lt_size e) (Nat.not_lt.mpr (hI ▸ ha))
  obtain ⟨oM₁, hM₁, hMd₁⟩ := hcell₁
  have hst₁ : IsRangeIter h₁ I (0 + ((0 : Nat) : Int) * 1) ((b.toNat : Int) - ((0 : Nat) : Int)) 1 := W.frame _ _ _ hst0 fun b _ o e => old2 b o e
  have hneI : (I : Nat) ≠ I + 2 := by omega
  have hneD : (I + 1 : Nat) ≠ I + 2 := by omega
  have hneM : (I + 2 + 1 : Nat) ≠ I + 2 := by omega
  have hDI : (I + 1 : Nat) ≠ I := by omega
  have hMI : (I + 2 + 1 : Nat) ≠ I := by omega
  have hMD : (I + 2 + 1 : Nat) ≠ I + 1 := by omega
  have hN1 : News s.heap (I + 2) h₁ [(I + 1, listOf ([] : List Value).toArray 0), (I + 2 + 1, oM₁)] := fun p hp => by
    rcases List.mem_cons.mp hp with rfl | hp
    · exact ⟨hacc, hneD, fresh _ (by omega)⟩
    · rw [List.mem_singleton.mp hp]; exact ⟨hM₁, hneM, fresh _ (by show I ≤ I + 2 + 1; omega)⟩
  have F1 : Fr s.heap (I + 2) h₁ (fun _ => none) := ⟨hns₁, old, by rw [hI]; exact Nat.le_add_right _ _⟩
  have loop : ∀ s₃ : Shared, s₃ = { s with heap := h₁ } →
      codeAny (model prog w) A (.compLoop (.ListComp elt [⟨.Name x px, iter, [], 0⟩] scope pos) 0 (.ref I) (.ref (I + 1)) (compEnvC scope [(x, I + 2 + 1)] (I + 2) env))
        (compPost (model prog w) A E none Q (.ref (I + 1)) (I + 2)) s₃ := by
    rintro s₃ rfl
    refine codeAny_compLoop_list
      (fun k s' => ∃ h tk m₁ ys kk oM v₀ i, s' = { s with heap := h, toks := tk } ∧ IsRangeIter h I (0 + ((i : Nat) : Int) * 1) ((b.toNat : Int) - ((i : Nat) : Int)) 1 ∧ Fr s.heap (I + 2) h m₁ ∧ News s.heap (I + 2) h [(I + 1, listOf ys.toArray kk), (I + 2 + 1, oM)] ∧ oM.data = .cell v₀ ∧ J i ys tk ∧ i ≤ b.toNat ∧ k = b.toNat + 1 - i) ?_ (b.toNat + 1)
      ⟨h₁, s.toks, _, [], 0, oM₁, none, 0, rfl, hst₁, F1, hN1, hMd₁, hj, Nat.zero_le _, rfl⟩ (fun v => letgo_name v)
    rintro k s' ⟨h, tk, m₁, ys, kk, oM, v₀, i, rfl, hst', F', N', hMd, hJ, hi, rfl⟩
    have next : ∀ h₁ : Heap, (∀ b o, b ∉ [I] → h.get? b = some o → h₁.get? b = some o) → Fr s.heap (I + 2) h₁ m₁ ∧ News s.heap (I + 2) h₁ [(I + 1, listOf ys.toArray kk), (I + 2 + 1, oM)] := fun h₁ hk₁ =>
      ⟨⟨F'.ns.at' fun o e => hk₁ _ o (by simp) e, fun b o e => hk₁ b o (fun hb => by rw [List.mem_singleton.mp hb, fresh I (Nat.le_refl _)] at e; cases e) (F'.keep b o e), F'.above⟩,
        fun p hp => ⟨hk₁ _ _ (by
          rcases List.mem_cons.mp hp with rfl | hp
          · simpa using hDI
          · rw [List.mem_singleton.mp hp]; simpa using hMI) (N' p hp).1, (N' p hp).2⟩⟩
    by_cases hlt : i < b.toNat
    · refine wpAny_with_toks (Nat.le_refl tk) ?_
      refine W.item i _ _ _ hlt hst' fun v h₂ tk₂ hP hst₂ hk₂ htk₂ => ?_
      obtain ⟨t, rfl⟩ := hP
      obtain ⟨F₂, N₂⟩ := next h₂ hk₂
      refine wpAny_assign_Name ?_
      have hmM := N₂ _ (.tail _ (.head _))
      refine wpAny_storeName_cell (c := I + 2 + 1) (by simp [compEnvC, relabel, hkind]) (hx _) (by simp [compEnvC]) ⟨oM, hmM.1, hMd⟩ fun h₃ hv₃ hs₃ => ?_
      obtain ⟨oM₃, hM₃, hMd₃⟩ := hv₃
      replace hs₃ : Heap.SameBut (I + 2 + 1) h₂ h₃ := hs₃
      have F₃ : Fr s.heap (I + 2) h₃ m₁ := F₂.change hs₃ hmM.2.1 hmM.2.2
      have hI3 : h₃.get? I = h₂.get? I := hs₃.2 _ (Ne.symm hMI)
      have hst₃ : IsRangeIter h₃ I (0 + ((i + 1 : Nat) : Int) * 1) ((b.toNat : Int) - ((i + 1 : Nat) : Int)) 1 := W.frame _ _ _ hst₂ fun b hb o e => by
        rw [List.mem_singleton.mp hb] at e ⊢; rw [hI3]; exact e
      obtain ⟨oI, hoI⟩ : ∃ o, h₃.get? I = some o := ⟨_, hst₃⟩
      have NI : News s.heap (I + 2) h₃ [(I, oI), (I + 1, listOf ys.toArray kk), (I + 2 + 1, oM₃)] := fun p hp => by
        rcases List.mem_cons.mp hp with rfl | hp
        · exact ⟨hoI, hneI, fresh _ (Nat.le_refl _)⟩
        · rcases List.mem_cons.mp hp with rfl | hp
          · exact ⟨(hs₃.2 _ (Ne.symm hMD)).trans (N₂ _ (.head _)).1, (N₂ _ (.head _)).2⟩
          · rw [List.mem_singleton.mp hp]; exact ⟨hM₃, hmM.2⟩
      have hMd₃' : oM₃.data = .cell (some (.int (i : Int) t)) := by rw [hMd₃]; simp
      refine wpAny_mono (turn I (I + 2) (I + 1) i t m₁ ys kk h₃ tk oI oM₃ _ (Nat.le_refl _) (Nat.lt_succ_self _) (Nat.lt_succ_self _) hlt hJ hMd₃' F₃ NI tk₂ htk₂) (fun y s₄ h₄ => ?_) fun _ _ e => e
      obtain ⟨h', tk', oM', v', rfl, F₄, N₄, hMd₄, hJ₄⟩ := h₄
      have z := N₄ _ (.tail _ (.head _))
      refine append_at (hsz := by rw [List.size_toArray, hJl _ _ _ hJ]; omega) z.1 fun h'' hs ho' => ?_
      replace hs : Heap.SameBut (I + 1) h' h'' := hs
      have F₅ : Fr s.heap (I + 2) h'' _ := F₄.change hs z.2.1 z.2.2
      refine ⟨b.toNat + 1 - (i + 1), by omega, h'', tk', _, ys ++ [y], kk + 1, oM', v', i + 1, rfl, ?_, F₅, ?_, hMd₄, hJ₄, hlt, rfl⟩
      · refine W.frame _ _ _ hst₃ fun b hb o e => ?_
        rw [List.mem_singleton.mp hb] at e ⊢
        rw [hoI] at e; cases e
        exact (hs.2 _ (Ne.symm hDI)).trans (N₄ _ (.head _)).1
      · intro p hp
        rcases List.mem_cons.mp hp with rfl | hp
        · refine ⟨?_, z.2.1, z.2.2⟩
          rw [ho', List.push_toArray]
        · rw [List.mem_singleton.mp hp]
          have q := N₄ _ (.tail _ (.tail _ (.head _)))
          exact ⟨(hs.2 _ hMD).trans q.1, q.2⟩
    · have hin : i = b.toNat := by omega
      subst hin
      refine wpAny_with_toks (Nat.le_refl tk) ?_
      refine W.done _ _ _ hst' fun h₂ tk₂ hk₂ htk₂ => ?_
      obtain ⟨F₂, N₂⟩ := next h₂ hk₂
      refine ⟨m₁, F₂.ns, fun h₃ hs₃ => ?_⟩
      obtain ⟨F₄, N₄, hlt₄⟩ := comp_end F N (D := I + 1) (C := I + 2) (new := [(I + 2 + 1, oM)]) (by rw [hI]; exact Nat.lt_succ_self _) (Nat.lt_succ_self _) (fun p hp => by rw [List.mem_singleton.mp hp]; exact hMD) F₂ N₂ hs₃
      exact done (I + 1) ys kk h₃ tk₂ (hJt _ _ _ _ hJ htk₂) F₄ (fun p hp => N₄ p (by
        rcases List.mem_cons.mp hp with rfl | hp
        · exact .head _
        · exact .tail _ (.tail _ hp))) hlt₄
  exact codeAny_compStart_list (loop _ rfl) (W.self 0 _ _ _ hst₁ (loop _ rfl))
end
end Mine
end

section
open PySem PySem.W PyProof.Rows PySem.Calls
namespace Mine
section
variable {prog : Program} {w : World} {A : Around} {E : Value → Shared → Prop} {s : Shared} {env : Env} {h₀ : Heap} {L : Addr}

def EltEndT (s : Shared) (C I D : Addr) (o : Obj) (m : Str → Option Value) (ys : List Value) (n : Nat) (J : List Value → Prop) (y : Value) (s₄ : Shared) : Prop :=
  ∃ h' tk', s₄ = { s with heap := h', toks := tk' } ∧ Fr s.heap C h' m ∧ News s.heap C h' [(I, o), (D, listOf ys.toArray n)] ∧ J (ys ++ [y])
def SkipEndT (s : Shared) (C I D : Addr) (o : Obj) (m : Str → Option Value) (ys : List Value) (n : Nat) (J : List Value → Prop) (s₄ : Shared) : Prop :=
  ∃ h' tk', s₄ = { s with heap := h', toks := tk' } ∧ Fr s.heap C h' m ∧ News s.heap C h' [(I, o), (D, listOf ys.toArray n)] ∧ J ys
/-- behind the source of a comprehension with one test -/
def CompKT (prog : Program) (w : World) (A : Around) (env : Env) (elt ct iter : PySem.Expr) (x : Str) (px : Pos) (scope : Scope) (cl : List (Str × Addr)) (pos : Pos) (Q : Value → Shared → Prop) (E : Value → Shared → Prop) (xv : Value) (s₁ : Shared) : Prop :=
  wpAny (model prog w) A (pyIter xv) (fun it s₂ => wpAny (model prog w) A (newList []) (fun acc s₃ =>
      wpAny (model prog w) A (newFunctionEnv scope env.globals cl [] env.qual none .none (some env)) (fun cenv s₄ =>
        codeAny (model prog w) A (.compStart (.ListComp elt [⟨.Name x px, iter, [ct], 0⟩] scope pos) 0 it acc { cenv with scope := relabel scope env }) (compPost (model prog w) A E none Q acc cenv.locals) s₄) E s₃) E s₂) E s₁
theorem comp_startT {elt ct iter : PySem.Expr} {x : Str} {px pos : Pos} {scope : Scope} {cl : List (Str × Addr)} {Q : Value → Shared → Prop} (hclos : closureFor scope env = pure cl) (hkind : scope.kind = .function) (hnames : ∀ y ∈ scope.names, y.2 = .local → scope.names.lookup y.1 = some .local)
    (h : wpAny (model prog w) A (eval iter env) (CompKT prog w A env elt ct iter x px scope cl pos Q E) E s) (hs : ∀ x, foldedSetIterable iter env x = pure x) :
    wpAny (model prog w) A (eval (.ListComp elt [⟨.Name x px, iter, [ct], 0⟩] scope pos) env) Q E s := by
  rw [eval_ListComp]
  exact wpAny_comprehension_free (use := none) rfl hs hclos hkind hnames h

theorem compE_listT {elt ct iter : PySem.Expr} {x : Str} {px pos : Pos} {scope : Scope} {cl : List (Str × Addr)} {m : Str → Option Value} {news : List (Addr × Obj)} {Q : Value → Shared → Prop} {l : Addr} {vs : List Value}
    (J : Nat → List Value → Prop) (hj : J 0 []) (hJl : ∀ i ys, J i ys → ys.length ≤ i) (cs : CScope scope x) (hh : A.handled = none) (hl : s.heap.IsList l vs.toArray) (F : Fr h₀ L s.heap m) (N : News h₀ L s.heap news) (hnsz : vs.length ≤ sizeLine)
    (turn : ∀ I C D i v (m₁ : Str → Option Value) ys k h tk o E', s.heap.objs.size ≤ I → I < D → D < C → vs[i]? = some v → J i ys → Fr s.heap C h (fun y => if y = x then some v else m₁ y) → News s.heap C h [(I, o), (D, listOf ys.toArray k)] →
      wpAny (model prog w) A (isTrue ct (compEnvC scope cl C env) (eval ct (compEnvC scope cl C env))) (fun ok s' => if ok = true then
        wpAny (model prog w) A (eval elt (compEnvC scope cl C env)) (EltEndT s C I D o (fun y => if y = x then some v else m₁ y) ys k (J (i + 1))) E' s'
        else SkipEndT s C I D o (fun y => if y = x then some v else m₁ y) ys k (J (i + 1)) s') E' { s with heap := h, toks := tk })
    (done : ∀ D ys k h' tk, J vs.length ys → Fr h₀ L h' m → News h₀ L h' ((D, listOf ys.toArray k) :: news) → (∀ p ∈ news, p.1 < D) → Q (.ref D) { s with heap := h', toks := tk }) :
    CompKT prog w A env elt ct iter x px scope cl pos Q E (.ref l) s := by
  unfold CompKT
  refine wpAny_pyIter_list hl ?_
  have hlt : @LT.lt Nat _ l s.heap.objs.size := by obtain ⟨_, e, _⟩ := hl; exact Heap.lt_size e
  have W := Walks.list (prog := prog) (w := w) hh s.heap.objs.size l (Nat.ne_of_lt hlt) vs.toArray
  have hvsz : vs.toArray.size = vs.length := by simp
  have hvg : ∀ i : Nat, vs.toArray[i]? = vs[i]? := fun i => by simp
  rw [hvsz] at W
  simp only [hvg] at W
  have hst0 : Heap.IsListIter (s.heap.push { cls := .type "list_iterator", data := .fields #[.ref l, .int 0 0] }) s.heap.objs.size l 0 ∧ (s.heap.push { cls := .type "list_iterator", data := .fields #[.ref l, .int 0 0] }).IsList l vs.toArray := ⟨⟨_, Heap.get?_push_size _ rfl, rfl, rfl⟩, hl.push _⟩
  obtain ⟨ol, hol, _⟩ := id hl
  generalize hI : s.heap.objs.size = I at *
  generalize ho₀ : ({ cls := .type "list_iterator", data := .fields #[.ref l, .int 0 0] } : Obj) = o₀ at *
  refine wpAny_newObj_type (wpAny_newFunctionEnv cs.cell (by intro y hy; simp at hy) (fun h₁ hns₁ hsb₁ => ?_) cs.kind)
  dsimp only at hns₁ hsb₁ ⊢
  generalize hH2 : (s.heap.push o₀).push { cls := .type "list", dict := none, data := .seq ([] : List Value).toArray } = H2 at *
  have hDs : (s.heap.push o₀).objs.size = I + 1 := by rw [Heap.size_push, hI]
  have hCs : H2.objs.size = I + 2 := by rw [← hH2, Heap.size_push, hDs]
  rw [hCs] at hns₁ hsb₁ ⊢
  rw [hDs]
  replace hsb₁ : Heap.SameBut (I + 2) _ h₁ := hsb₁
  have old : ∀ b o, s.heap.get? b = some o → h₁.get? b = some o := fun b o e => hsb₁.extBut b o (by have := lt_sz e; rw [hI] at this; exact Nat.ne_of_lt (by omega)) (Heap.get?_push_of_some _ (hH2 ▸ Heap.get?_push_of_some _ (Heap.get?_push_of_some _ e)))
  have old2 : ∀ b o, (s.heap.push o₀).get? b = some o → h₁.get? b = some o := fun b o e => hsb₁.extBut b o (by have := lt_sz e; rw [hDs] at this; exact Nat.ne_of_lt (by omega)) (Heap.get?_push_of_some _ (hH2 ▸ Heap.get?_push_of_some _ e))
  have hacc : h₁.get? (I + 1) = some (listOf ([] : List Value).toArray 0) := by
    refine hsb₁.extBut _ _ (Nat.ne_of_lt (by omega)) (Heap.get?_push_of_some _ ?_)
    rw [← hH2, ← hDs]; exact Heap.get?_push_size _ rfl
  have fresh : ∀ a, @LE.le Nat _ I a → s.heap.get? a = none := fun a ha => by
    cases e : s.heap.get? a with
    | none => rfl
    | some o' => exact absurd (Heap.lt_size e) (Nat.not_lt.mpr (hI ▸ ha))
  have hst₁ : Heap.IsListIter h₁ I l 0 ∧ h₁.IsList l vs.toArray := W.frame _ _ _ hst0 fun b _ o e => old2 b o e
  have hneI : (I : Nat) ≠ I + 2 := by omega
  have hneD : (I + 1 : Nat) ≠ I + 2 := by omega
  have hDI : (I + 1 : Nat) ≠ I := by omega
  have hN1 : News s.heap (I + 2) h₁ [(I + 1, listOf ([] : List Value).toArray 0)] := fun p hp => by
    rw [List.mem_singleton.mp hp]
    exact ⟨hacc, hneD, fresh _ (by show I ≤ I + 1; omega)⟩
  have F1 : Fr s.heap (I + 2) h₁ _ := ⟨hns₁, old, by rw [hI]; exact Nat.le_add_right _ _⟩
  have loop : ∀ s₃ : Shared, s₃ = { s with heap := h₁, toks := s.toks + ([] : List (Str × Value)).length } →
      codeAny (model prog w) A (.compLoop (.ListComp elt [⟨.Name x px, iter, [ct], 0⟩] scope pos) 0 (.ref I) (.ref (I + 1)) (compEnvC scope cl (I + 2) env))
        (compPost (model prog w) A E none Q (.ref (I + 1)) (I + 2)) s₃ := by
    rintro s₃ rfl
    refine codeAny_compLoop_tests
      (fun k s' => ∃ h tk m₁ ys kk i, s' = { s with heap := h, toks := tk } ∧ (Heap.IsListIter h I l i ∧ h.IsList l vs.toArray) ∧ Fr s.heap (I + 2) h m₁ ∧ News s.heap (I + 2) h [(I + 1, listOf ys.toArray kk)] ∧ J i ys ∧ i ≤ vs.length ∧ k = vs.length + 1 - i) ?_ (vs.length + 1)
      ⟨h₁, _, _, [], 0, 0, rfl, hst₁, F1, hN1, hj, Nat.zero_le _, rfl⟩ (fun v => letgo_name v)
    rintro k s' ⟨h, tk, m₁, ys, kk, i, rfl, hst', F', N', hJ, hi, rfl⟩
    have next : ∀ h₁ : Heap, (∀ b o, b ∉ [I] → h.get? b = some o → h₁.get? b = some o) → Fr s.heap (I + 2) h₁ m₁ ∧ News s.heap (I + 2) h₁ [(I + 1, listOf ys.toArray kk)] := fun h₁ hk₁ =>
      ⟨⟨F'.ns.at' fun o e => hk₁ _ o (by simp) e, fun b o e => hk₁ b o (fun hb => by rw [List.mem_singleton.mp hb, fresh I (Nat.le_refl _)] at e; cases e) (F'.keep b o e), F'.above⟩,
        fun p hp => ⟨hk₁ _ _ (by rw [List.mem_singleton.mp hp]; simp) (N' p hp).1, (N' p hp).2⟩⟩
    by_cases hlt' : i < vs.length
    · refine W.item i _ _ _ hlt' hst' fun v h₂ tk₂ hP hst₂ hk₂ => ?_
      obtain ⟨F₂, N₂⟩ := next h₂ hk₂
      refine wpAny_assign_Name (wpAny_storeName_local (lookup_relabel_local cs.name) F₂.ns (fun h₃ hn₃ hs₃ => ?_) (by simp [compEnvC, relabel, cs.kind]))
      replace hs₃ : Heap.SameBut (I + 2) h₂ h₃ := hs₃
      have F₃ : Fr s.heap (I + 2) h₃ (fun y => if y = x then some v else m₁ y) := F₂.set hn₃ hs₃
      obtain ⟨oI, hoI, hoI2⟩ := id hst₂.1
      have NI : News s.heap (I + 2) h₂ [(I, oI), (I + 1, listOf ys.toArray kk)] := fun p hp => by
        rcases List.mem_cons.mp hp with rfl | hp
        · exact ⟨hoI, hneI, fresh _ (Nat.le_refl _)⟩
        · exact N₂ p hp
      have N₃ := NI.set hs₃
      refine wpAny_tests_one (wpAny_mono (turn I (I + 2) (I + 1) i v m₁ ys kk h₃ _ oI _ (Nat.le_refl _) (Nat.lt_succ_self _) (Nat.lt_succ_self _) hP hJ F₃ N₃) (fun ok s₄ h₄ => ?_) fun _ _ e => e)
      have fin : ∀ (h' : Heap) (tk' : Nat) (ys' : List Value) (k' : Nat), Fr s.heap (I + 2) h' (fun y => if y = x then some v else m₁ y) → h'.get? I = some oI → News s.heap (I + 2) h' [(I + 1, listOf ys'.toArray k')] → J (i + 1) ys' →
          ∃ m, m < vs.length + 1 - i ∧ ∃ h tk m₁ ys kk i, ({ s with heap := h', toks := tk' } : Shared) = { s with heap := h, toks := tk } ∧ (Heap.IsListIter h I l i ∧ h.IsList l vs.toArray) ∧ Fr s.heap (I + 2) h m₁ ∧ News s.heap (I + 2) h [(I + 1, listOf ys.toArray kk)] ∧ J i ys ∧ i ≤ vs.length ∧ m = vs.length + 1 - i := by
        intro h' tk' ys' k' F₅ e₅ N₅ hJ₅
        exact ⟨vs.length + 1 - (i + 1), by omega, h', tk', _, ys', k', i + 1, rfl, ⟨⟨oI, e₅, hoI2⟩, hl.at fun o e => F₅.keep _ o e⟩, F₅, N₅, hJ₅, hlt', rfl⟩
      cases ok with
      | true =>
        simp only [if_true] at h₄ ⊢
        refine wpAny_mono h₄ (fun y s₅ h₅ => ?_) fun _ _ e => e
        obtain ⟨h', tk', rfl, F₄, N₄, hJ₄⟩ := h₅
        have z := N₄ _ (.tail _ (.head _))
        refine append_at (hsz := by rw [List.size_toArray]; have := hJl _ _ hJ; omega) z.1 fun h'' hs ho' => ?_
        replace hs : Heap.SameBut (I + 1) h' h'' := hs
        refine fin h'' tk' (ys ++ [y]) (kk + 1) (F₄.change hs z.2.1 z.2.2) ((hs.2 _ (Ne.symm hDI)).trans (N₄ _ (.head _)).1) (fun p hp => ?_) hJ₄
        rw [List.mem_singleton.mp hp]
        refine ⟨?_, z.2.1, z.2.2⟩
        rw [ho', List.push_toArray]
      | false =>
        simp only [Bool.false_eq_true, if_false] at h₄ ⊢
        obtain ⟨h', tk', rfl, F₄, N₄, hJ₄⟩ := h₄
        exact fin h' tk' ys kk F₄ (N₄ _ (.head _)).1 (fun p hp => N₄ p (.tail _ hp)) hJ₄
    · have hin : i = vs.length := by omega
      subst hin
      refine W.done _ _ _ hst' fun h₂ tk₂ hk₂ => ?_
      obtain ⟨F₂, N₂⟩ := next h₂ hk₂
      refine ⟨m₁, F₂.ns, fun h₃ hs₃ => ?_⟩
      obtain ⟨F₄, N₄, hlt₄⟩ := comp_end F N (D := I + 1) (C := I + 2) (new := []) (by rw [hI]; exact Nat.lt_succ_self _) (Nat.lt_succ_self _) (fun p hp => nomatch hp) F₂ N₂ hs₃
      exact done (I + 1) ys kk h₃ _ hJ F₄ N₄ hlt₄
  exact codeAny_compStart_list (loop _ rfl) (W.self 0 _ _ _ hst₁ (loop _ rfl))
end
end Mine
end

section
open PySem PySem.W PyProof.Rows PySem.Calls
namespace Mine
theorem kind_fsum : builtinKind "math.fsum" = none := by decide +kernel
theorem plain_fsum : plainId "math.fsum" = true := by decide +kernel
theorem entry_fsum : entryFor table "math.fsum" = some Builtin.«math.fsum» := entryFor_of_tree (by kernel_rfl)
theorem args_fsum (a : Value) : argsOk "math.fsum" ⟨[a], []⟩ := by unfold argsOk; kernel_rfl
theorem plain_fsum_loop : plainId "math.fsum.loop" = true := by decide +kernel
theorem entry_fsum_loop : entryFor table "math.fsum.loop" = some Builtin.«math.fsum.loop» := entryFor_of_tree (by kernel_rfl)

/-- a tuple of bits -/
def Bits (h : Heap) (p : Addr) (ps : List UInt64) : Prop := ∃ o n, h.get? p = some o ∧ o.data = .seq (ps.map fun x => rawInt x.toNat).toArray n
theorem Bits.keep {h h' : Heap} {p : Addr} {ps : List UInt64} (x : Bits h p ps) (k : ∀ o, h.get? p = some o → h'.get? p = some o) : Bits h' p ps := let ⟨o, n, e, d⟩ := x; ⟨o, n, k _ e, d⟩

theorem notOver {n : Int} (h : n.natAbs < 2 ^ 53) : ¬ Flt.Over n := by
  intro o
  have h2 : (2 : Nat) ^ 53 ≤ 2 ^ 1024 - 2 ^ 970 := by decide +kernel
  simp only [Flt.Over] at o
  generalize (2 : Nat) ^ 1024 - 2 ^ 970 = K at *
  omega

section
variable {prog : Program} {w : World} {A : Around} {E : Value → Shared → Prop}

set_option maxHeartbeats 2000000 in
theorem fsum_loop (hh : A.handled = none) {I l sp : Addr} {vs : List Value} {ns : List Int} {R : Result → Shared → Prop} (hne : l ≠ I) (hsp : sp ≠ I) (hi : IntsAre vs ns) (hb : ∀ i, i ≤ ns.length → ((ns.take i).sum).natAbs < 2 ^ 53) (hn : ∀ n ∈ ns, n.natAbs < 2 ^ 53) :
    ∀ (k i : Nat) (s : Shared) (p : Addr) (ps : List UInt64), ns.length - i = k → i ≤ ns.length → s.heap.IsListIter I l i → s.heap.IsList l vs.toArray → Bits s.heap p ps → Bits s.heap sp [Float64.zero false, Float64.zero false] → FS ps (ns.take i).sum →
      (∀ h' tk r t, Is r ns.sum → (∀ b o, b ≠ I → s.heap.get? b = some o → h'.get? b = some o) → R (.ok (.ret (.float r t))) { s with heap := h', toks := tk }) →
      codeAny (model prog w) A (.builtin "math.fsum.loop" ⟨[.ref I, .ref p, .ref sp], []⟩) R s := by
  intro k
  have hz : Float64.isZero (Float64.zero false) = true := by rw [is_isZero (is_zero false)]; rfl
  have W := Walks.list (prog := prog) (w := w) (A := A.in1) hh I l hne vs.toArray
  have hlen : vs.toArray.size = ns.length := by simp [hi.length]
  rw [hlen] at W
  induction k with
  | zero =>
    intro i s p ps hk hil hit hl hp hs hf hR
    have hin : i = ns.length := by omega
    subst hin
    refine codeAny_builtin entry_fsum_loop ?_
    rw [Around.under_plainId plain_fsum_loop _]
    obtain ⟨op, np, hpo, hpd⟩ := hp
    obtain ⟨os, n2, hso, hsd⟩ := hs
    unfold Builtin.«math.fsum.loop»
    show wpAny _ A.in1 ((seqItems? (.ref p) >>= _) >>= _) _ _ s
    refine wpAny_bind (wpAny_bind (wpAny_seqItems hpo hpd (wpAny_pure ?_)))
    simp only [Option.getD_some, rawInt, List.map_map, Function.comp_def, Int.toNat_natCast, Nat.toUInt64_eq, UInt64.ofNat_toNat, List.map_id']
    show wpAny _ A.in1 ((seqItems? (.ref sp) >>= _) >>= _) _ _ s
    refine wpAny_bind (wpAny_bind (wpAny_seqItems hso hsd (wpAny_pure ?_)))
    simp only [Option.getD_some, rawInt, List.map_map, Function.comp_def, Int.toNat_natCast, Nat.toUInt64_eq, UInt64.ofNat_toNat, List.map_id']
    refine wpAny_bind (W.done s _ _ ⟨hit, hl⟩ fun h' tk hk' => ?_)
    simp only [hz, Bool.not_true, Bool.false_eq_true, if_false]
    refine wpAny_bind (Flt.wp_mkFloat (wpAny_pure ?_))
    rw [List.take_length] at hf
    exact hR h' _ _ _ (fs_end hf) fun b o hb e => hk' b o (by simpa using hb) e
  | succ k ih =>
    intro i s p ps hk hil hit hl hp hs hf hR
    have hlt : i < ns.length := by omega
    refine codeAny_builtin entry_fsum_loop ?_
    rw [Around.under_plainId plain_fsum_loop _]
    obtain ⟨op, np, hpo, hpd⟩ := hp
    obtain ⟨os, n2, hso, hsd⟩ := id hs
    unfold Builtin.«math.fsum.loop»
    show wpAny _ A.in1 ((seqItems? (.ref p) >>= _) >>= _) _ _ s
    refine wpAny_bind (wpAny_bind (wpAny_seqItems hpo hpd (wpAny_pure ?_)))
    simp only [Option.getD_some, rawInt, List.map_map, Function.comp_def, Int.toNat_natCast, Nat.toUInt64_eq, UInt64.ofNat_toNat, List.map_id']
    show wpAny _ A.in1 ((seqItems? (.ref sp) >>= _) >>= _) _ _ s
    refine wpAny_bind (wpAny_bind (wpAny_seqItems hso hsd (wpAny_pure ?_)))
    simp only [Option.getD_some, rawInt, List.map_map, Function.comp_def, Int.toNat_natCast, Nat.toUInt64_eq, UInt64.ofNat_toNat, List.map_id']
    refine wpAny_bind (W.item i s _ _ hlt ⟨hit, hl⟩ fun v h' tk hP hst hk' => ?_)
    obtain ⟨n, t, rfl, hni⟩ := hi.at i v (by simpa using hP)
    have hnb := hn n (List.mem_of_getElem? hni)
    have e1 : (ns.take (i + 1)).sum = (ns.take i).sum + n := by rw [List.take_add_one, hni]; simp
    obtain ⟨q1, q2⟩ := fs_step hf (is_ofInt hnb) (e1 ▸ hb (i + 1) hlt) hnb (hb i (by omega))
    refine wpAny_bind (wpAny_holding (Flt.realArg_int hh (fun o => absurd o (notOver hnb)) fun _ => ?_))
    simp only [q1, if_true]
    refine wpAny_bind ?_
    show wpAny _ A.in1 (newTuple _) _ _ _
    refine wpAny_newTuple (wpAny_pure ⟨plainId_quiet plain_fsum_loop _, ?_⟩) (hsz := ?_)
    · refine ih (i + 1) _ _ _ (by omega) hlt ?_ ?_ ⟨_, 0, Heap.get?_push_size _ rfl, rfl⟩ ?_ (e1 ▸ q2) ?_
      · exact hst.1.at fun o e => Heap.get?_push_of_some _ e
      · exact hst.2.at fun o e => Heap.get?_push_of_some _ e
      · exact hs.keep fun o e => Heap.get?_push_of_some _ (hk' _ _ (by simpa using hsp) e)
      · intro h'' tk'' r t' hr hk''
        exact hR h'' tk'' r t' hr fun b o hb e => hk'' b o hb (Heap.get?_push_of_some _ (hk' b o (by simpa using hb) e))
    · rcases q2 with ⟨e, _⟩ | ⟨x, e, _⟩ <;> rw [e] <;> simp only [List.map_cons, List.map_nil, List.length_cons, List.length_nil] <;> decide

set_option maxHeartbeats 2000000 in
theorem call_fsum {s : Shared} {l : Addr} {vs : List Value} {ns : List Int} {Q : Value → Shared → Prop} (hh : A.handled = none) (hl : s.heap.IsList l vs.toArray) (hi : IntsAre vs ns) (hb : ∀ i, i ≤ ns.length → ((ns.take i).sum).natAbs < 2 ^ 53) (hn : ∀ n ∈ ns, n.natAbs < 2 ^ 53)
    (k : ∀ h' tk r t, Is r ns.sum → (∀ b o, s.heap.get? b = some o → h'.get? b = some o) → Q (.float r t) { s with heap := h', toks := tk }) : wpAny (model prog w) A (call (.builtin "math.fsum") [.ref l]) Q E s := by
  refine call_function_tree kind_fsum plain_fsum entry_fsum (args_fsum _) ?_
  unfold Builtin.«math.fsum»
  refine wpAny_bind (wpAny_of_eq (show Builtin.Math.mathOne "fsum" ⟨[.ref l], []⟩ = pure (.ref l) from rfl) ?_)
  refine wpAny_bind (wpAny_pyIter_list hl ?_)
  refine wpAny_bind ?_
  show wpAny _ A.in1 (newTuple _) _ _ _
  refine wpAny_newTuple (hsz := by decide) ?_
  refine wpAny_bind ?_
  show wpAny _ A.in1 (newTuple _) _ _ _
  refine wpAny_newTuple (hsz := by decide) (wpAny_pure ⟨plainId_quiet plain_fsum_loop _, ?_⟩)
  have hlt : l < s.heap.objs.size := by obtain ⟨_, e, _⟩ := hl; exact Heap.lt_size e
  refine fsum_loop hh (Nat.ne_of_lt hlt) ?_ hi hb hn ns.length 0 _ _ [] (by omega) (Nat.zero_le _) ?_ ?_ ⟨_, 0, Heap.get?_push_of_some _ (Heap.get?_push_size _ rfl), rfl⟩ ⟨_, 0, Heap.get?_push_size _ rfl, rfl⟩ (.inl ⟨rfl, rfl⟩) ?_
  · simp only [Heap.size_push]; exact Nat.ne_of_gt (by omega)
  · exact ⟨_, Heap.get?_push_of_some _ (Heap.get?_push_of_some _ (Heap.get?_push_size _ rfl)), rfl, rfl⟩
  · exact ((hl.push _).push _).push _
  · intro h' tk r t hr hk
    exact k h' tk r t hr fun b o e => hk b o (Nat.ne_of_lt (Heap.lt_size e)) (Heap.get?_push_of_some _ (Heap.get?_push_of_some _ (Heap.get?_push_of_some _ e)))
end
end Mine
end

section
open PySem PySem.W PyProof.Rows PySem.Calls
namespace Mine
theorem kind_sumprod : builtinKind "math.sumprod" = none := by decide +kernel
theorem plain_sumprod : plainId "math.sumprod" = true := by decide +kernel
theorem entry_sumprod : entryFor table "math.sumprod" = some Builtin.«math.sumprod» := entryFor_of_tree (by kernel_rfl)
theorem args_sumprod (a b : Value) : argsOk "math.sumprod" ⟨[a, b], []⟩ := by unfold argsOk; kernel_rfl
theorem plain_sumprod_loop : plainId "math.sumprod.loop" = true := by decide +kernel
theorem entry_sumprod_loop : entryFor table "math.sumprod.loop" = some Builtin.«math.sumprod.loop» := entryFor_of_tree (by kernel_rfl)

theorem notInf_ofInt {n : Int} (h : n.natAbs < 2 ^ 53) : ¬ Float64.isInf (Float64.ofInt n) = true := by rw [is_notInf (is_ofInt h)]; exact Bool.false_ne_true

section
variable {prog : Program} {w : World} {A : Around} {E : Value → Shared → Prop} {s : Shared} {Q : Value → Shared → Prop} {a : UInt64} {b : Int} {t u : Tok}
theorem op_sub_if (hb : b.natAbs < 2 ^ 53) (h : Q (.float (Float64.sub (Float64.ofInt b) a) s.toks) { s with toks := s.toks + 1 }) : wpAny (model prog w) A (binaryOp .Sub (.int b u) (.float a t)) Q E s :=
  AutoFloatOpsIf.sub_if (by rw [if_neg (notInf_ofInt hb)]; exact h)
theorem op_add_if (hb : b.natAbs < 2 ^ 53) (h : Q (.float (Float64.add (Float64.ofInt b) a) s.toks) { s with toks := s.toks + 1 }) : wpAny (model prog w) A (binaryOp .Add (.int b u) (.float a t)) Q E s :=
  AutoFloatOpsIf.add_if (by rw [if_neg (notInf_ofInt hb)]; exact h)
theorem op_div_fi (hb : b.natAbs < 2 ^ 53) (hb0 : b ≠ 0) (h : Q (.float (Float64.div a (Float64.ofInt b)) s.toks) { s with toks := s.toks + 1 }) : wpAny (model prog w) A (binaryOp .Div (.float a t) (.int b u)) Q E s :=
  AutoFloatOpsIf.truediv_fi (by rw [if_neg (notInf_ofInt hb), if_neg (by rw [is_isZero (is_ofInt hb)]; simpa using hb0)]; exact h)
end

/-- two iterators of floats that are read in turn -/
structure Two (prog : Program) (w : World) (A : Around) (a b : Addr) (n : Nat) (as bs : Nat → Int) (SA SB : Nat → Shared → Prop) (Mv : Shared → Shared → Prop) : Prop where
  push : ∀ i j (s : Shared) o tk, SA i s → SB j s → s.toks ≤ tk → SA i { s with heap := s.heap.push o, toks := tk } ∧ SB j { s with heap := s.heap.push o, toks := tk }
  toks : ∀ i j (s : Shared) tk, SA i s → SB j s → s.toks ≤ tk → SA i { s with toks := tk } ∧ SB j { s with toks := tk }
  mpush : ∀ (s : Shared) o tk, s.toks ≤ tk → Mv s { s with heap := s.heap.push o, toks := tk }
  mtoks : ∀ (s : Shared) tk, s.toks ≤ tk → Mv s { s with toks := tk }
  trans : ∀ s₁ s₂ s₃, Mv s₁ s₂ → Mv s₂ s₃ → Mv s₁ s₃
  itemA : ∀ i (s : Shared) (Q : Option Value → Shared → Prop) (E : Value → Shared → Prop), i < n → SA i s → SB i s → (∀ r t s', Is r (as i) → SA (i + 1) s' → SB i s' → Mv s s' → Q (some (.float r t)) s') → wpAny (model prog w) A.in1 (pyNext (.ref a)) Q E s
  itemB : ∀ i (s : Shared) (Q : Option Value → Shared → Prop) (E : Value → Shared → Prop), i < n → SA (i + 1) s → SB i s → (∀ r t s', Is r (bs i) → SA (i + 1) s' → SB (i + 1) s' → Mv s s' → Q (some (.float r t)) s') → wpAny (model prog w) A.in1 (pyNext (.ref b)) Q E s
  doneA : ∀ (s : Shared) (Q : Option Value → Shared → Prop) (E : Value → Shared → Prop), SA n s → SB n s → (∀ s', SB n s' → Mv s s' → Q none s') → wpAny (model prog w) A.in1 (pyNext (.ref a)) Q E s
  doneB : ∀ (s : Shared) (Q : Option Value → Shared → Prop) (E : Value → Shared → Prop), SB n s → (∀ s', Mv s s' → Q none s') → wpAny (model prog w) A.in1 (pyNext (.ref b)) Q E s

/-- the sum of the first i products -/
def dot (as bs : Nat → Int) : Nat → Int
  | 0 => 0
  | i + 1 => dot as bs i + as i * bs i

section
variable {prog : Program} {w : World} {A : Around} {E : Value → Shared → Prop}

set_option maxHeartbeats 4000000 in
theorem sumprod_loop {a b : Addr} {n : Nat} {as bs : Nat → Int} {SA SB : Nat → Shared → Prop} {Mv : Shared → Shared → Prop} (W : Two prog w A a b n as bs SA SB Mv) {R : Result → Shared → Prop} (h1 : ∀ i, i ≤ n → (dot as bs i).natAbs < 2 ^ 53) (h2 : ∀ i, i < n → (as i * bs i).natAbs < 2 ^ 53) (hn0 : 0 < n) :
    ∀ (k i : Nat) (s : Shared) (f : Addr) (x y z : UInt64) (t t₂ : Tok) (io fu : Bool), n - i = k → i ≤ n → SA i s → SB i s → Bits s.heap f [x, y, z] → T3 (x, y, z) (dot as bs i) → (fu = decide (i ≠ 0)) → (io = decide (i = 0)) →
      (∀ s' r t', Is r (dot as bs n) → Mv s s' → R (.ok (.ret (.float r t'))) s') →
      codeAny (model prog w) A (.builtin "math.sumprod.loop" ⟨[.ref a, .ref b, .int 0 t, .bool io, .int 0 t₂, .bool false, .bool true, .ref f, .bool fu], []⟩) R s := by
  intro k
  induction k with
  | zero =>
    intro i s f x y z t t₂ io fu hk hil hA hB hf hT hfu hio hR
    have hin : i = n := by omega
    subst hin
    have hfu : fu = true := by rw [hfu]; simp; omega
    subst hfu
    have hio : io = false := by rw [hio]; simp; omega
    subst hio
    refine codeAny_builtin entry_sumprod_loop ?_
    rw [Around.under_plainId plain_sumprod_loop _]
    obtain ⟨of, nf, hfo, hfd⟩ := hf
    unfold Builtin.«math.sumprod.loop»
    refine wpAny_bind (wpAny_seqItems hfo hfd ?_)
    simp only [Option.getD_some, rawInt, List.map_cons, List.map_nil, Int.toNat_natCast, Nat.toUInt64_eq, UInt64.ofNat_toNat]
    refine wpAny_bind (W.doneA s _ _ hA hB fun s₁ hB₁ hm₁ => ?_)
    refine wpAny_bind (wpAny_holding (W.doneB s₁ _ _ hB₁ fun s₂ hm₂ => ?_))
    simp only [Option.isSome_none, bne_self_eq_false, Bool.false_eq_true, if_false, if_true]
    refine wpAny_bind (wpAny_rule ?_)
    refine wpAny_bind (Flt.wp_mkFloat ?_)
    refine wpAny_bind (wpAny_holding (op_add_if (by decide) ?_))
    refine wpAny_pure (hR _ _ _ ?_ (W.trans _ _ _ (W.trans _ _ _ hm₁ hm₂) (W.mtoks _ _ ?_)))
    · have h0 : Is (Float64.ofInt 0) 0 := is_ofInt (by decide)
      have := is_add h0 (t3_end hT (h1 i (Nat.le_refl _))) (by rw [Int.zero_add]; exact h1 i (Nat.le_refl _))
      rwa [Int.zero_add] at this
    · show s₂.toks ≤ s₂.toks + 1 + 1
      omega
  | succ k ih =>
    intro i s f x y z t t₂ io fu hk hil hA hB hf hT hfu hio hR
    have hlt : i < n := by omega
    refine codeAny_builtin entry_sumprod_loop ?_
    rw [Around.under_plainId plain_sumprod_loop _]
    obtain ⟨of, nf, hfo, hfd⟩ := hf
    unfold Builtin.«math.sumprod.loop»
    refine wpAny_bind (wpAny_seqItems hfo hfd ?_)
    simp only [Option.getD_some, rawInt, List.map_cons, List.map_nil, Int.toNat_natCast, Nat.toUInt64_eq, UInt64.ofNat_toNat]
    refine wpAny_bind (W.itemA i s _ _ hlt hA hB fun p tp s₁ hp hA₁ hB₁ hm₁ => ?_)
    refine wpAny_bind (wpAny_holding (W.itemB i s₁ _ _ hlt hA₁ hB₁ fun q tq s₂ hq hA₂ hB₂ hm₂ => ?_))
    have T := t3_step hT hp hq (h1 (i + 1) hlt) (h1 i hil) (h2 i hlt)
    have hfin : Float64.isFinite (Builtin.Math.tlFma p q (x, y, z)).1 = true := is_finite T.1
    have last : wpAny (model prog w) A.in1 (newTuple [Value.int ↑(Builtin.Math.tlFma p q (x, y, z)).1.toNat 0, Value.int ↑(Builtin.Math.tlFma p q (x, y, z)).2.1.toNat 0, Value.int ↑(Builtin.Math.tlFma p q (x, y, z)).2.2.toNat 0] >>= fun t' =>
        again (.builtin "math.sumprod.loop" ⟨[.ref a, .ref b, .int 0 t, .bool false, .int 0 0, .bool false, .bool true, t', .bool true], []⟩))
        (fun fin s' => match fin with | .done f => R (.ok f) s' | .again c' => c'.quiet = true ∧ codeAny (model prog w) A c' R s') (fun e s' => R (.error e) s') s₂ := by
      refine wpAny_bind (wpAny_newTuple (wpAny_pure ⟨plainId_quiet plain_sumprod_loop _, ?_⟩) (hsz := by simp only [List.length_cons, List.length_nil]; decide))
      obtain ⟨hA₃, hB₃⟩ := W.push (i + 1) (i + 1) s₂ { cls := .type "tuple", data := .seq [Value.int ↑(Builtin.Math.tlFma p q (x, y, z)).1.toNat 0, Value.int ↑(Builtin.Math.tlFma p q (x, y, z)).2.1.toNat 0, Value.int ↑(Builtin.Math.tlFma p q (x, y, z)).2.2.toNat 0].toArray } s₂.toks hA₂ hB₂ (Nat.le_refl _)
      refine ih (i + 1) _ _ _ _ _ t 0 false true (by omega) hlt hA₃ hB₃ ⟨_, 0, Heap.get?_push_size _ rfl, rfl⟩ T (by simp) (by simp) fun s' r t' hr hm => hR s' r t' hr ?_
      exact W.trans _ _ _ (W.trans _ _ _ hm₁ hm₂) (W.trans _ _ _ (W.mpush s₂ _ s₂.toks (Nat.le_refl _)) hm)
    cases io with
    | false =>
      simp only [Option.isSome_some, bne_self_eq_false, Bool.false_eq_true, if_false, if_true, Bool.or_self, hfin]
      exact last
    | true =>
      simp only [Option.isSome_some, bne_self_eq_false, Bool.false_eq_true, if_false, if_true, Bool.or_self, hfin]
      exact wpAny_bind (wpAny_rule last)

set_option maxHeartbeats 4000000 in
theorem call_sumprod {s : Shared} {a b : Addr} {n : Nat} {as bs : Nat → Int} {SA SB : Nat → Shared → Prop} {Mv : Shared → Shared → Prop} {Q : Value → Shared → Prop} (W : Two prog w A a b n as bs SA SB Mv) (h1 : ∀ i, i ≤ n → (dot as bs i).natAbs < 2 ^ 53) (h2 : ∀ i, i < n → (as i * bs i).natAbs < 2 ^ 53) (hn0 : 0 < n)
    {ga gb : Nat} (ha : s.heap.IsGen a ga) (hb : s.heap.IsGen b gb) (hA : SA 0 s) (hB : SB 0 s)
    (k : ∀ s' r t, Is r (dot as bs n) → Mv s s' → Q (.float r t) s') : wpAny (model prog w) A (call (.builtin "math.sumprod") [.ref a, .ref b]) Q E s := by
  refine call_function_tree kind_sumprod plain_sumprod entry_sumprod (args_sumprod _ _) ?_
  unfold Builtin.«math.sumprod»
  refine wpAny_bind (wpAny_of_eq (show Builtin.Math.mathSome "sumprod" 2 2 ⟨[.ref a, .ref b], []⟩ = pure [.ref a, .ref b] from rfl) ?_)
  refine wpAny_bind (wpAny_pyIter_gen ha ?_)
  refine wpAny_bind (wpAny_holding (wpAny_pyIter_gen hb ?_))
  refine wpAny_bind (wpAny_mkInt ?_)
  refine wpAny_bind (wpAny_newTuple (hsz := by simp only [List.length_cons, List.length_nil]; decide) (wpAny_pure ⟨plainId_quiet plain_sumprod_loop _, ?_⟩))
  obtain ⟨hA₁, hB₁⟩ := W.push 0 0 s { cls := .type "tuple", data := .seq [rawInt (Float64.zero false).toNat, rawInt (Float64.zero false).toNat, rawInt (Float64.zero false).toNat].toArray } (s.toks + 1) hA hB (Nat.le_succ _)
  exact sumprod_loop W h1 h2 hn0 n 0 _ _ (Float64.zero false) (Float64.zero false) (Float64.zero false) _ _ true false (by omega) (Nat.zero_le _) hA₁ hB₁ ⟨_, 0, Heap.get?_push_size _ rfl, rfl⟩ ⟨is_zero _, is_zero _, is_zero _⟩ (by simp) (by simp)
    fun s' r t hr hm => k s' r t hr (W.trans _ _ _ (W.mpush s _ (s.toks + 1) (Nat.le_succ _)) hm)
end
end Mine
end

section
open PySem PySem.W PyProof.Rows PySem.Calls
namespace Mine
def tt : Nat → Bool := fun _ => true
theorem passing_tt (n : Nat) : passing tt n 0 = List.range n := by unfold passing tt; simp
/-- the i-th item is the float of the whole number as i -/
def FF (as : Nat → Int) : Nat → Value → Prop := fun i y => ∃ r t, y = .float r t ∧ Is r (as i)

/-- two generators have run on: nothing else has changed -/
structure Mv4 (cs : List Addr) (s s' : Shared) : Prop where
  heap : ∀ x o, x ∉ cs → s.heap.get? x = some o → s'.heap.get? x = some o
  drawn : s'.drawn = s.drawn
  os : s'.os = s.os
  toks : s.toks ≤ s'.toks
  bare : AllBare s.gens → AllBare s'.gens

section
variable {prog : Program} {w : World} {A : Around}

theorem genAt_moved {a : Addr} {g : Nat} {C : Addr} {fp wr : List Addr} {n : Nat} {F : Nat → Value → Prop} {j : Nat} {s s' : Shared} (x : GenAt prog w A a g C fp wr tt n F j s) (hcs : cStatics ∈ fp)
    (hk : ∀ b ∈ a :: C :: fp, ∀ o, s.heap.get? b = some o → s'.heap.get? b = some o) (hg : s'.gens[g]? = s.gens[g]?) : GenAt prog w A a g C fp wr tt n F j s' := by
  obtain ⟨h1, h2, gs, h3, h4⟩ := x
  refine ⟨?_, ?_, gs, hg.trans h3, fun s'' hal => h4 s'' fun b hb o e => hal b hb o (hk b (List.mem_cons_of_mem _ hb) o e)⟩
  · obtain ⟨o, nm, qn, ho, r⟩ := h1
    exact ⟨o, nm, qn, hk a (.head _) o ho, r⟩
  · obtain ⟨mc, hns, hnn⟩ := h2
    exact ⟨mc, hns.at' fun o e => hk cStatics (.tail _ (.tail _ hcs)) o e, hnn⟩

theorem gens_other {g k : Nat} {x y : Array GenState} (h : GenOnlyQ g x y) (hk : k ≠ g) : y[k]? = x[k]? := by
  rcases h with rfl | ⟨⟨_, h⟩, _⟩
  · rfl
  · exact h k hk

theorem two_gens {a b : Addr} {gA gB : Nat} {CA CB IA IB : Addr} {fpA fpB : List Addr} {n : Nat} {as bs : Nat → Int} (hh : A.handled = none) (hroom : A.depth < recursionLimit) (hg : gA ≠ gB)
    (hAB : ∀ x ∈ [CA, IA], x ∉ b :: CB :: fpB) (hBA : ∀ x ∈ [CB, IB], x ∉ a :: CA :: fpA)
    (ha1 : a ≠ CA) (ha2 : a ∉ fpA) (ha3 : IA ∈ fpA) (ha4 : cStatics ∈ fpA) (ha5 : cStatics ≠ CA) (ha6 : cStatics ≠ IA)
    (hb1 : b ≠ CB) (hb2 : b ∉ fpB) (hb3 : IB ∈ fpB) (hb4 : cStatics ∈ fpB) (hb5 : cStatics ≠ CB) (hb6 : cStatics ≠ IB) :
    Two prog w A a b n as bs (fun i s => GenAt prog w A.in1 a gA CA fpA [IA] tt n (FF as) i s) (fun i s => GenAt prog w A.in1 b gB CB fpB [IB] tt n (FF bs) i s) (Mv4 [CA, IA, CB, IB]) := by
  have WA := WalksS.genexpQ (prog := prog) (w := w) (A := A.in1) hh a gA CA fpA [IA] tt n (FF as) ha1 ha2 (fun x hx => by rw [List.mem_singleton.mp hx]; exact ha3) hroom ha4 ha5 (by simpa using ha6)
  have WB := WalksS.genexpQ (prog := prog) (w := w) (A := A.in1) hh b gB CB fpB [IB] tt n (FF bs) hb1 hb2 (fun x hx => by rw [List.mem_singleton.mp hx]; exact hb3) hroom hb4 hb5 (by simpa using hb6)
  simp only [passing_tt, List.length_range] at WA WB
  have mvA : ∀ s s', Moved (CA :: [IA]) (GenOnlyQ gA) s s' → Mv4 [CA, IA, CB, IB] s s' := fun s s' m =>
    ⟨fun x o hx e => m.heap x o (fun h => hx (by simp only [List.mem_cons, List.not_mem_nil, or_false] at h ⊢; rcases h with h | h <;> simp [h])) e, m.drawn, m.os, m.toks, fun hb => m.gens.bare hb⟩
  have mvB : ∀ s s', Moved (CB :: [IB]) (GenOnlyQ gB) s s' → Mv4 [CA, IA, CB, IB] s s' := fun s s' m =>
    ⟨fun x o hx e => m.heap x o (fun h => hx (by simp only [List.mem_cons, List.not_mem_nil, or_false] at h ⊢; rcases h with h | h <;> simp [h])) e, m.drawn, m.os, m.toks, fun hb => m.gens.bare hb⟩
  have upB : ∀ s s' j, Moved (CA :: [IA]) (GenOnlyQ gA) s s' → GenAt prog w A.in1 b gB CB fpB [IB] tt n (FF bs) j s → GenAt prog w A.in1 b gB CB fpB [IB] tt n (FF bs) j s' := fun s s' j m x =>
    genAt_moved x hb4 (fun y hy o e => m.heap y o (fun h => hAB y h hy) e) (gens_other m.gens (Ne.symm hg))
  have upA : ∀ s s' j, Moved (CB :: [IB]) (GenOnlyQ gB) s s' → GenAt prog w A.in1 a gA CA fpA [IA] tt n (FF as) j s → GenAt prog w A.in1 a gA CA fpA [IA] tt n (FF as) j s' := fun s s' j m x =>
    genAt_moved x ha4 (fun y hy o e => m.heap y o (fun h => hBA y h hy) e) (gens_other m.gens hg)
  refine ⟨?_, ?_, ?_, ?_, ?_, ?_, ?_, ?_, ?_⟩
  · intro i j s o tk xA xB _
    exact ⟨genAt_moved xA ha4 (fun _ _ _ e => Heap.get?_push_of_some _ e) rfl, genAt_moved xB hb4 (fun _ _ _ e => Heap.get?_push_of_some _ e) rfl⟩
  · intro i j s tk xA xB _
    exact ⟨genAt_moved xA ha4 (fun _ _ _ e => e) rfl, genAt_moved xB hb4 (fun _ _ _ e => e) rfl⟩
  · intro s o tk h; exact ⟨fun _ _ _ e => Heap.get?_push_of_some _ e, rfl, rfl, h, id⟩
  · intro s tk h; exact ⟨fun _ _ _ e => e, rfl, rfl, h, id⟩
  · intro s₁ s₂ s₃ x y; exact ⟨fun b o hb e => y.heap b o hb (x.heap b o hb e), y.drawn.trans x.drawn, y.os.trans x.os, Nat.le_trans x.toks y.toks, fun h => y.bare (x.bare h)⟩
  · intro i s Q E hi xA xB k
    refine WA.item i s Q E hi xA fun v s' hP xA' m => ?_
    obtain ⟨i', hi', r, t, rfl, hr⟩ := hP
    have : i' = i := by rw [List.getElem?_range hi] at hi'; exact (Option.some.inj hi').symm
    subst this
    exact k r t s' hr xA' (upB _ _ _ m xB) (mvA _ _ m)
  · intro i s Q E hi xA xB k
    refine WB.item i s Q E hi xB fun v s' hP xB' m => ?_
    obtain ⟨i', hi', r, t, rfl, hr⟩ := hP
    have : i' = i := by rw [List.getElem?_range hi] at hi'; exact (Option.some.inj hi').symm
    subst this
    exact k r t s' hr (upA _ _ _ m xA) xB' (mvB _ _ m)
  · intro s Q E xA xB k
    exact WA.done s Q E xA fun s' m => k s' (upB _ _ _ m xB) (mvA _ _ m)
  · intro s Q E xB k
    exact WB.done s Q E xB fun s' m => k s' (mvB _ _ m)
end
end Mine
end

section
open PySem PySem.W PyProof.Rows PySem.Calls
namespace Mine
section
variable {prog : Program} {w : World} {A : Around} {E : Value → Shared → Prop} {s : Shared}

theorem genCode {M : Model} {env : Env} {ps : Array Value} {pos : Pos} {q : Str} {scope : Scope} {c P : Addr} {Q : Value → Shared → Prop} (hc : env.code = .ref c) (hok : s.heap.IsCode c P ps) (ht : s.heap.TableAt c P ps)
    (hQ : ∀ code h' tk more, Heap.ExtBut P s.heap h' → s.heap.objs.size ≤ h'.objs.size → h'.IsCode c P (ps ++ more) → h'.TableAt c P (ps ++ more) → Q code { s with heap := h', toks := tk }) : wpAny M A (genexprCode env pos q scope) Q E s := by
  cases hf : codeAmong pos ps.toList with
  | some c' => exact wpAny_genexprCode_hit hc hok hf (hQ c' s.heap s.toks #[] (Heap.ExtBut.refl _ _) (Nat.le_refl _) (by simpa using hok) (by simpa using ht))
  | none => exact wpAny_genexprCodeX hc hok ht hf fun c' h' tk hx h1 h2 hok' _ ht' _ => hQ _ h' tk _ hx (Nat.le_trans h1 (Nat.le_of_lt h2)) hok' ht'

theorem quiet_sub {cenv : Env} {x xb : Str} {pl pr pe : Pos} {I l c : Addr} {vs : List Value} {ns : List Int} {xv : UInt64} {X : Int} {t : Tok} {href : Heap} (hi : IntsAre vs ns) (hb : ∀ n ∈ ns, n.natAbs < 2 ^ 53) (hX : Is xv X) (hs : ∀ n ∈ ns, (n - X).natAbs < 2 ^ 53)
    (hk : cenv.scope.kind = .function) (hx : cenv.kindOf x = some .local) (hxb : cenv.kindOf xb = some .free) (hcl : cenv.cells.lookup xb = some c) (hd1 : (x == ("__debug__" : Str)) = false) (hd2 : (xb == ("__debug__" : Str)) = false) (hd3 : (xb == ("__classdict__" : Str)) = false)
    (hcell : href.IsCell c (some (.float xv t))) (hcI : c ≠ I) :
    QuietGen prog w cenv x [] (.BinOp (.Name x pl) .Sub (.Name xb pr) pe) [I, l, c, cStatics] [I] (fun i v => vs[i]? = some v) tt (FF fun i => ns.getD i 0 - X) href where
  tests := fun A' E' i v s₂ m₂ _ _ _ _ _ => wpAny_tests_nil ⟨rfl, s₂.heap, s₂.toks, rfl, fun _ _ e => e⟩
  elt := fun A' E' i v s₂ m₂ _ hP _ hn hm hkp => by
    obtain ⟨n, tn, rfl, hni⟩ := hi.at i v hP
    have hmem := List.mem_of_getElem? hni
    refine wpAny_BinOp (wpAny_Name (wpAny_loadName_local hk hx hn hm ?_) hd1)
    obtain ⟨oc, hoc, hod⟩ := hcell
    refine wpAny_Name (wpAny_loadName_free hk hxb hcl ⟨oc, hkp c (by simp) (by simpa using hcI) oc hoc, hod⟩ ?_ hd3) hd2
    refine op_sub_if (hb n hmem) ⟨⟨_, _, rfl, ?_⟩, s₂.heap, _, rfl, fun _ _ e => e⟩
    have e : ns.getD i 0 = n := by simp [List.getD, hni]
    show Is _ (ns.getD i 0 - X)
    rw [e]
    exact is_sub (is_ofInt (hb n hmem)) hX (hs n hmem)

set_option maxHeartbeats 2000000 in
theorem gen_make {env : Env} {iter : PySem.Expr} {x xb : Str} {px pos pl pr pe : Pos} {scope : Scope} {c l : Addr} {vs : List Value} {ns : List Int} {xv : UInt64} {X : Int} {t : Tok} {ps : Array Value} {Q : Value → Shared → Prop} {mg : Str → Option Value} {bm : Addr} {ob : Obj}
    (hiter : ∀ (Q : Value → Shared → Prop) (E : Value → Shared → Prop), Q (.ref l) s → wpAny (model prog w) A (eval iter env) Q E s) (hl : s.heap.IsList l vs.toArray) (hi : IntsAre vs ns) (hb : ∀ n ∈ ns, n.natAbs < 2 ^ 53)
    (hcell : s.heap.IsCell c (some (.float xv t))) (hX : Is xv X) (hs : ∀ n ∈ ns, (n - X).natAbs < 2 ^ 53) (hcode : env.code = .ref 61) (hok : s.heap.IsCode 61 57 ps) (ht : s.heap.TableAt 61 57 ps) (hM : BMod s.heap env.globals mg bm ob) (hlim : s.heap.NoLimit)
    (hco : scope.isCoroutine = false) (hclos : closureFor scope env = pure [(xb, c)]) (hcs : ∀ y ∈ scope.names, y.2 ≠ .cell) (h0 : scope.names.lookup (".0" : Str) = some NameKind.local) (hx : scope.names.lookup x = some .local) (hxb : scope.names.lookup xb = some .free) (hkind : scope.kind = .function)
    (hroom : A.depth < recursionLimit) (hd1 : (x == ("__debug__" : Str)) = false) (hd2 : (xb == ("__debug__" : Str)) = false) (hd3 : (xb == ("__classdict__" : Str)) = false) (hfold : ∀ x, genFold iter env x = pure x)
    (k : ∀ a I C h₅ tk gs more, s.heap.objs.size ≤ I → I < C → C < a → h₅.objs.size = a + 1 → gs.bare = true → (∀ b o, b ≠ 57 → s.heap.get? b = some o → h₅.get? b = some o) → h₅.IsCode 61 57 (ps ++ more) → h₅.TableAt 61 57 (ps ++ more) → h₅.IsGen a s.gens.size →
      (∀ A' : Around, A'.handled = none → GenAt prog w A' a s.gens.size C [I, l, c, cStatics] [I] tt vs.length (FF fun i => ns.getD i 0 - X) 0 { s with gens := s.gens.push gs, toks := tk, heap := h₅ }) → Q (.ref a) { s with gens := s.gens.push gs, toks := tk, heap := h₅ }) :
    wpAny (model prog w) A (eval (.GeneratorExp (.BinOp (.Name x pl) .Sub (.Name xb pr) pe) [⟨.Name x px, iter, [], 0⟩] scope pos) env) Q E s := by
  have hlt : l < s.heap.objs.size := by obtain ⟨_, e, _⟩ := hl; exact Heap.lt_size e
  have hl60 : l ≠ 57 := by
    rintro rfl
    obtain ⟨o, ho, hc, _⟩ := hl
    rw [ht.2] at ho; cases ho; cases hc
  have hc60 : c ≠ 57 := by
    rintro rfl
    obtain ⟨o, ho, hd⟩ := hcell
    rw [ht.2] at ho; cases ho; cases hd
  have hs60 : cStatics ≠ 57 := by decide
  have hclt := hcell.lt
  refine wpAny_GeneratorExp_make hco hclos hcs h0 hkind hroom (hiter _ _ ?_) hfold
  refine wpAny_pyIter_list hl ⟨hlim.push _, ?_⟩
  have h60 : ∀ b, b ≠ 57 → True := fun _ _ => trivial
  refine genCode hcode (hok.push _) (ht.push _) fun code h₃ tk₃ more hx₃ hsz₃ hok₃ ht₃ => ?_
  have hM₃ : BMod h₃ env.globals mg bm ob := (hM.keeps fun _ _ e => Heap.get?_push_of_some _ e).extBut (ht.push _) hx₃
  refine wpAny_builtinsFor hM₃.ns hM₃.name hM₃.ne hM₃.obj hM₃.cls hM₃.dict hM₃.data ?_
  intro h₄ hn₄ hs₄
  have hsz0 : (s.heap.push { cls := .type "list_iterator", data := .fields #[.ref l, .int 0 0] }).objs.size = s.heap.objs.size + 1 := Heap.size_push ..
  have hszA : s.heap.objs.size + 1 ≤ h₃.objs.size := hsz0 ▸ hsz₃
  have hsz4 : h₄.objs.size = h₃.objs.size + 1 := by rw [hs₄.1, Heap.size_push]
  have keep3 : ∀ b o, b ≠ 57 → (s.heap.push { cls := .type "list_iterator", data := .fields #[.ref l, .int 0 0] }).get? b = some o → h₃.get? b = some o := fun b o hb e => hx₃ b o hb e
  have keep4 : ∀ b o, h₃.get? b = some o → h₄.get? b = some o := fun b o e => hs₄.extBut b o (Nat.ne_of_lt (Heap.lt_size e)) (Heap.get?_push_of_some _ e)
  generalize hgo : ({ cls := .type "generator", data := .fields #[.int s.gens.size 0, .str "<genexpr>" (tk₃ + 1), .str (env.qual ++ "<genexpr>") (tk₃ + 1 + 1)] } : Obj) = go
  have keep5 : ∀ b o, h₃.get? b = some o → (h₄.push go).get? b = some o := fun b o e => Heap.get?_push_of_some _ (keep4 b o e)
  have keepS : ∀ b o, b ≠ 57 → s.heap.get? b = some o → (h₄.push go).get? b = some o := fun b o hb e => keep5 b o (keep3 b o hb (Heap.get?_push_of_some _ e))
  have hne : l ≠ s.heap.objs.size := Nat.ne_of_lt hlt
  have hcI : c ≠ s.heap.objs.size := Nat.ne_of_lt hclt
  have hI60 : s.heap.objs.size ≠ 57 := fun e => by
    have := lt_sz ht.2
    omega
  refine k h₄.objs.size s.heap.objs.size h₃.objs.size (h₄.push go) _ _ more (Nat.le_refl _) (by omega) (by omega) (by rw [Heap.size_push]) rfl keepS (hok₃.keeps keep5) (ht₃.keeps keep5) ⟨go, _, _, Heap.get?_push_size _ (by rw [← hgo]; rfl), by rw [← hgo], by rw [← hgo], by rw [← hgo]⟩ ?_
  intro A' hA'
  have W : ∀ A'' : Around, A''.handled = none → Walks prog w A'' s.heap.objs.size [s.heap.objs.size, l, c, cStatics] [s.heap.objs.size] vs.length (fun i v => vs[i]? = some v) (fun i h => h.IsListIter s.heap.objs.size l i ∧ h.IsList l vs.toArray) := fun A'' hA'' => by
    have W := (Walks.list (prog := prog) (w := w) hA'' s.heap.objs.size l hne vs.toArray).mono_fp (fp' := [s.heap.objs.size, l, c, cStatics]) (fun b hb => by simp at hb ⊢; rcases hb with hb | hb <;> simp [hb])
    rw [List.size_toArray] at W
    simp only [List.getElem?_toArray] at W
    exact W
  refine GenAt.fresh (A := A') (cenv := genEnv scope [(xb, c)] h₃.objs.size code builtinsNs env) (m := fun y => if y = ".0" then some (.ref s.heap.objs.size) else none) hA' W tt _ hx (by simp [genEnv, hkind]) hco ?_ ?_ ⟨go, _, _, Heap.get?_push_size _ (by rw [← hgo]; rfl), by rw [← hgo], by rw [← hgo], by rw [← hgo]⟩ (Array.getElem?_push_size ..) ?_ (hn₄.push _) ?_
  · show h₃.objs.size ∉ [s.heap.objs.size, l, c, cStatics]
    have h1 : @LT.lt Nat _ l s.heap.objs.size := hlt
    have h2 : @LT.lt Nat _ c s.heap.objs.size := hclt
    have h3 : @LT.lt Nat _ cStatics s.heap.objs.size := by obtain ⟨_, hn, _⟩ := hlim; exact hn.lt
    intro hm
    simp only [List.mem_cons, List.not_mem_nil, or_false] at hm
    rcases hm with hm | hm | hm | hm
    · exact absurd hm (Nat.ne_of_gt (by omega))
    · exact absurd hm (Nat.ne_of_gt (by omega))
    · exact absurd hm (Nat.ne_of_gt (by omega))
    · exact absurd hm (Nat.ne_of_gt (by omega))
  · refine quiet_sub (t := t) hi hb hX hs hkind hx hxb (by simp [genEnv]) hd1 hd2 hd3 ?_ hcI
    obtain ⟨oc, hoc, hod⟩ := hcell
    exact ⟨oc, keepS _ _ hc60 hoc, hod⟩
  · refine ⟨⟨_, keep5 _ _ (keep3 _ _ hI60 (Heap.get?_push_size _ rfl)), rfl, rfl⟩, ?_⟩
    exact hl.at fun o e => keepS _ _ hl60 e
  · obtain ⟨mc, hns, hnn⟩ := hlim
    exact ⟨mc, hns.at' fun o e => keepS _ _ hs60 e, hnn⟩
end
end Mine
end

section
open PySem PySem.W PyProof.Rows PySem.Calls
namespace Mine
/-- the heap without covariance's table of codes -/
def hb (h : Heap) : Heap := hideAll h [57]
theorem hb_get {h : Heap} {b : Addr} {o : Obj} (hb' : b ≠ 57) (e : h.get? b = some o) : (hb h).get? b = some o := hideAll_get [57] e (by simpa using hb')
theorem of_hb {h : Heap} {b : Addr} {o : Obj} (e : (hb h).get? b = some o) : h.get? b = some o := of_hideAll [57] e
theorem hb_60 (h : Heap) : (hb h).get? 57 = none := hideAll_none [57] (.head _)
theorem hb_size (h : Heap) : (hb h).objs.size = h.objs.size := hideAll_size _ _
theorem ne60_of_hb {h : Heap} {b : Addr} {o : Obj} (e : (hb h).get? b = some o) : b ≠ 57 := by rintro rfl; rw [hb_60] at e; cases e

theorem keys60 (w : World) : (hd.heap_39 w.params).lookup 57 = none := rfl
theorem ev_hb {w : World} {mg mb : Str → Option Value} {h : Heap} (ev : Ev w mg mb h) : Ev w mg mb (hb h) where
  K := fun a o e => hb_get (fun q => by rw [q, keys60] at e; cases e) (ev.K a o e)
  T := ⟨ev.T.g.at' fun _ e => hb_get (by decide) e, ev.T.b.at' fun _ e => hb_get (by decide) e, let ⟨mc, h1, h2⟩ := ev.T.nolimit; ⟨mc, h1.at' fun _ e => hb_get (by decide) e, h2⟩, ev.T.builtins, ev.T.free⟩

section
variable {h₀ h h' : Heap} {L : Addr} {m : Str → Option Value} {news : List (Addr × Obj)}
theorem fr60 (F : Fr h₀ L h m) (hk : ∀ b o, b ≠ 57 → h.get? b = some o → h'.get? b = some o) (hL : L ≠ 57) (h60 : h₀.get? 57 = none) : Fr h₀ L h' m :=
  ⟨F.ns.at' fun o e => hk _ o hL e, fun b o e => hk b o (by rintro rfl; rw [h60] at e; cases e) (F.keep b o e), F.above⟩
theorem news60 (N : News h₀ L h news) (hk : ∀ b o, b ≠ 57 → h.get? b = some o → h'.get? b = some o) (hn : ∀ p ∈ news, p.1 ≠ 57) : News h₀ L h' news := fun p hp => ⟨hk _ _ (hn p hp) (N p hp).1, (N p hp).2⟩
theorem fr_hb (F : Fr h L h' m) : Fr (hb h) L h' m := ⟨F.ns, fun b o e => F.keep b o (of_hb e), by rw [hb_size]; exact F.above⟩
theorem news_hb (N : News h L h' news) : News (hb h) L h' news := fun p hp => ⟨(N p hp).1, (N p hp).2.1, by
  cases e : (hb h).get? p.1 with
  | none => rfl
  | some o => have := of_hb e; rw [(N p hp).2.2] at this; cases this⟩
end
theorem IL.hb {h : Heap} {l : Addr} {ns : List Int} (x : IL h l ns) (hl : l ≠ 57) : IL (hb h) l ns := let ⟨vs, p, i⟩ := x; ⟨vs, p.at fun _ e => hb_get hl e, i⟩

section
variable {prog : Program} {w : World} {A : Around} {E : Value → Shared → Prop} {s : Shared} {h₀ : Heap} {L : Addr} {m : Str → Option Value} {news : List (Addr × Obj)} {Q : Value → Shared → Prop}
theorem k_fsum {l : Addr} {vs : List Value} {ns : List Int} (F : Fr h₀ L s.heap m) (N : News h₀ L s.heap news) (hh : A.handled = none) (hl : h₀.IsList l vs.toArray) (hi : IntsAre vs ns) (hb : ∀ i, i ≤ ns.length → ((ns.take i).sum).natAbs < 2 ^ 53) (hn : ∀ n ∈ ns, n.natAbs < 2 ^ 53)
    (k : ∀ h' tk r t, Is r ns.sum → Fr h₀ L h' m → News h₀ L h' news → Q (.float r t) { s with heap := h', toks := tk }) : wpAny (model prog w) A (call (.builtin "math.fsum") [.ref l]) Q E s :=
  call_fsum hh (hl.at fun o e => F.keep _ o e) hi hb hn fun h' tk r t hr hk => k h' tk r t hr (F.keeps hk) (news_keeps N hk)
end
end Mine
end

section
open PySem PySem.W PyProof.Rows PySem.Calls
namespace Mine
open Builtin Builtin.Str Builtin.BaseException Builtin.Exceptions

theorem find_str_own (ps : Params) : findIn (hd.heap_39 ps) (.ref 52) "__str__" = some (some (.builtin "BaseException.__str__")) := by kernel_rfl

section
variable {prog : Program} {w : World} {A : Around} {E : Value → Shared → Prop} {s : Shared} {e t0 : Addr} {o : Obj} {vs : Array Value} {ps : Params}

theorem bexcArgs_own {M : Model} {items : List Value} {Q : Value × List Value → Shared → Prop} (ho : s.heap.get? e = some o) (hd' : o.data = .fields vs) (h0 : vs[0]? = some (.ref t0)) (ht : s.heap.TupAt t0 items) (hq : Q (.ref t0, items) s) :
    wpAny M A (bexcArgs (.ref e)) Q E s := by
  obtain ⟨ot, k, hto, _, htd⟩ := ht
  unfold bexcArgs
  refine wpAny_bind (wpAny_field ho hd' h0 (wpAny_bind (wpAny_seqItems hto htd ?_)))
  have : items.toArray.toList = items := by simp
  show wpAny M A (pure (Value.ref t0, items.toArray.toList)) Q E s
  rw [this]; exact wpAny_pure hq

theorem bexcStr_own {m : Str} {tk : Tok} {Q : Fin → Shared → Prop} (ho : s.heap.get? e = some o) (hd' : o.data = .fields vs) (h0 : vs[0]? = some (.ref t0)) (ht : s.heap.TupAt t0 [.str m tk]) (hq : Q (.done (.ret (.str m tk))) s) :
    wpAny (model prog w) A (Builtin.«BaseException.__str__» ⟨[.ref e], []⟩) Q E s := by
  unfold Builtin.«BaseException.__str__»
  repeat (first | with_reducible refine bexcArgs_own ho hd' h0 ht ?_ | wp_step)
  exact hq

theorem check_str_own {M : Model} {Q : Unit → Shared → Prop} (X : (hd.heap_39 ps).In s.heap) (ho : s.heap.get? e = some o) (hc : o.cls = .ref 52) (hq : Q () s) : wpAny M A (checkBuiltinCall "BaseException.__str__" ⟨[.ref e], []⟩) Q E s := by
  have hk : builtinKind "BaseException.__str__" = some .slot := by decide +kernel
  have hsplit : splitId "BaseException.__str__" = some ("BaseException", "__str__") := by decide +kernel
  have ha := F.args_bexc_str (.ref e)
  obtain ⟨nm, q', N, bs, bm, hdct, sn, sub, ab, col, dd, k0, k1, k2, k3, k5, newId, hC, hbase, hbT⟩ := kts_cls (T := "BaseException") X (show ktsIn (hd.heap_39 ps) 52 "BaseException" = true by kernel_rfl)
  have hcB : (Value.ref 52 :: bm).contains (.type "BaseException") = true := by rw [List.contains_cons, hbase]; rfl
  obtain ⟨h, g, d, t, os⟩ := s
  simp only [checkBuiltinCall, hk, hsplit]
  refine wpAny_bind ?_
  unfold isInstance
  repeat (first | (with_reducible refine wpAny_loadPart_at ho ?_; rw [hc]) | (with_reducible refine wpAny_isSubtype_exc hC ?_; rw [hcB]) | wp_step)
  exact hq

theorem call_bexcStr_own {m : Str} {tk : Tok} {Q : Value → Shared → Prop} (X : (hd.heap_39 ps).In s.heap) (ho : s.heap.get? e = some o) (hc : o.cls = .ref 52) (hd' : o.data = .fields vs) (h0 : vs[0]? = some (.ref t0)) (ht : s.heap.TupAt t0 [.str m tk]) (hq : Q (.str m tk) s) :
    wpAny (model prog w) A (call (.builtin "BaseException.__str__") [.ref e]) Q E s :=
  wpAny_call (codeAny_call_builtin F.excStr_ValueError.str.plain F.entry_bexc_str (check_str_own X ho hc (wpAny_mono (bexcStr_own ho hd' h0 ht (Q := fun fin s' => fin = .done (.ret (.str m tk)) ∧ s' = s) ⟨rfl, rfl⟩) (fun fin s' h' => by obtain ⟨rfl, rfl⟩ := h'; exact hq) fun _ _ h' => h')))

theorem strOf_own {m : Str} {tk : Tok} {Q : Value → Shared → Prop} (hu : A.units < cLine) (X : (hd.heap_39 ps).In s.heap) (ho : s.heap.get? e = some o) (hc : o.cls = .ref 52) (hd' : o.data = .fields vs) (h0 : vs[0]? = some (.ref t0)) (ht : s.heap.TupAt t0 [.str m tk]) (hq : Q (.str m tk) s) :
    wpAny (model prog w) A (PySem.Builtin.Str.strOf (.ref e)) Q E s := by
  unfold PySem.Builtin.Str.strOf
  rw [show isExactStr (.ref e) = false from rfl]
  refine wpAny_bind (m := cRoomFor _ _) (wpAny_cRoomFor hu ?_)
  refine wpAny_bind (m := callSpecial? (.ref e) (Str.ofString "__str__")) ?_
  unfold callSpecial?
  have L := looks_findIn (M := model prog w) X (find_str_own ps)
  have tp : wpAny (model prog w) A (typeOf (.ref e)) (fun v s' => v = .ref 52 ∧ s' = s) E s := by
    obtain ⟨h, g, d, t, os⟩ := s
    repeat (first | (with_reducible refine wpAny_loadPart_at ho ?_; rw [hc]) | wp_step)
    exact ⟨rfl, rfl⟩
  refine wpAny_bind ?_
  unfold specialOf
  refine wpAny_bind (wpAny_mono tp (fun v s' h' => ?_) fun _ _ h' => h')
  obtain ⟨rfl, rfl⟩ := h'
  refine L.here ?_
  dsimp only
  refine wpAny_holding ?_
  simp only [F.excStr_ValueError.str.bind]
  refine wpAny_bind (wpAny_pure (wpAny_bind (call_bexcStr_own X ho hc hd' h0 ht (wpAny_pure ?_))))
  exact wpAny_pure hq

theorem str_own {m : Str} {tk : Tok} {Q : Value → Shared → Prop} (hu : A.units + 2 < cLine) (X : (hd.heap_39 ps).In s.heap) (ho : s.heap.get? e = some o) (hc : o.cls = .ref 52) (hd' : o.data = .fields vs) (h0 : vs[0]? = some (.ref t0)) (ht : s.heap.TupAt t0 [.str m tk]) (hq : Q (.str m tk) s) :
    wpAny (model prog w) A (call (.type "str") [.ref e]) Q E s :=
  callType_new F.called_str (by decide) (F.typeCall_str_1 _) (F.newCall_str_1 _) (fun obj => F.args_object_init_2 obj _) F.entry_str_new
    (meets_str_new (S := fun A' R s' => A'.units + 1 < cLine ∧ (hd.heap_39 ps).In s'.heap ∧ s'.heap.get? e = some o ∧ s'.heap.TupAt t0 [.str m tk] ∧ R (.ok (.ret (.str m tk))) s')
      fun _ w' A' _ _ hq => strOf_own (A := A'.in1) hq.1 hq.2.1 hq.2.2.1 hc hd' h0 hq.2.2.2.1 hq.2.2.2.2)
    ⟨(show A.units + 1 + 1 < cLine from hu), X, ho, ht, typeIs_str _ _ _, hq⟩
end
end Mine
end

section
open PySem PySem.W PyProof.Rows PySem.Calls
namespace Mine
/-- how the call of law ends -/
def LawEnd (s : Shared) (r : Result) (s' : Shared) : Prop :=
  r = .ok (.ret (.bool true)) ∧ (∀ b o, b ≠ 57 → s.heap.get? b = some o → s'.heap.get? b = some o) ∧ (∃ ps, s'.heap.get? 57 = some { cls := .none, data := .fields ps }) ∧ s'.os = s.os ∧ AllBare s'.gens
/-- what is known at the top -/
structure Start (w : World) (mean : ExcName → Option Value) (mg mb : Str → Option Value) (s : Shared) : Prop where
  ev : Ev w mg mb s.heap
  top : Top hd.view_39 (looseW hd.view_39 []) mean mg mb s.heap
  bmod : ∃ bm ob, BMod s.heap mainGlobals mg bm ob
  code : s.heap.IsCode 61 57 #[]
  tab : s.heap.TableAt 61 57 #[]
  gens : s.gens = #[]
  low : ∀ b o, s.heap.get? b = some o → True
def LawRuns : Prop := ∀ (prog : Program) (w : World) (mean : ExcName → Option Value) (mg mb : Str → Option Value) (s : Shared) (l : Addr) (vs : List Value) (ns : List Int), Start w mean mg mb s → s.heap.IsList l vs.toArray → IntsAre vs ns → ns.length ≤ 63 →
  codeAny (model prog w) callerA (.call (.ref 170) { pos := [.ref l] }) (LawEnd s) s

theorem post_ok (as bs : List WData) : PySem.Challenge.rw_re0015_01.row.claim.post as (.bool true) bs = true := by
  have h1 : PySem.Challenge.rw_re0015_01.row.claim.post as (.bool true) bs = (WShape.has [] (.bool true) .bool && (WTm.eq .res (.lit (.bool true))).holds [] { args := as, res := some (.bool true), after := bs }) := rfl
  rw [h1]
  have h2 : WShape.has [] (.bool true) .bool = true := by decide +kernel
  rw [h2, Bool.true_and]
  simp only [WTm.holds, WTm.value]
  decide +kernel
set_option maxHeartbeats 8000000 in
theorem top_from (H : LawRuns) : PySem.Challenge.rw_re0015_01.Holds := by
  refine hd ?_
  k_fill
  intro w s₀ s₁ mg mb G Y fa o pm cd doc dV kV ho hd' hcd hD hmg hg args vals as hpre hlay hrd hwl hlo
  have KX := kIn_of Y
  have X := (Ground.X G).1
  refine Ground.open G ?_
  intro T B D TE TW
  try (refine guard_noD D (by decide +kernel) ?_; clear D)
  obtain ⟨bm, ob, M⟩ := bmod_of_top T
  have hT : TopRead hd.view_39 (looseW hd.view_39 []) mg mb s₁.heap := topRead_of T
  have hfa : fa = 170 := by
    have h1 : mg (Str.ofString "law") = some (.ref 170) := mg_of KX hT.g (by kernel_rfl)
    have h2 : mg (Str.ofString "law") = some (.ref fa) := hmg
    rw [h1] at h2
    injection h2 with h3
    injection h3 with h4
    exact h4.symm
  have hcov : ∃ P, Based s₁.heap s₁.heap 61 P #[] := by
    have h1 : mg (Str.ofString "covariance") = some (.ref 62) := mg_of KX hT.g (by kernel_rfl)
    obtain ⟨c, P, hc, hb⟩ := based_of_top T (name := Str.ofString "covariance") rfl h1 (KX 62 _ rfl) rfl
    have hc' : c = 61 := by
      injection hc with h4
      exact h4.symm
    subst hc'
    exact ⟨P, hb⟩
  obtain ⟨P, BC⟩ := hcov
  have hP : P = 57 := by
    obtain ⟨⟨oc, vc, h1, h2, h3, h4⟩, _⟩ := BC.tab
    have h5 := KX 61 _ rfl
    rw [h1] at h5
    cases h5
    cases h3
    injection h4 with h6
    injection h6 with h7
    exact h7.symm
  subst hP
  clear hmg
  wrow_args hpre hlay hrd hwl hlo
  all_goals (
    first | refine callC_kw (enter_call ?_) | refine enter_call ?_ | refine callC_kw (enter_callW ?_) | refine enter_callW ?_ | w_how)
  rename s₁.heap.IsList _ _ => hL
  rename IntsAre _ _ => hI
  rename ¬ _ < _ => hlen
  subst hfa
  refine codeAny_mono (H _ w _ mg mb s₁ _ _ _ ⟨⟨KX, hT⟩, T, ⟨bm, ob, M⟩, BC.code, BC.tab, hg, fun _ _ _ => trivial⟩ hL hI (by omega)) ?_
  rintro r s' ⟨rfl, hk, ⟨ps, h60⟩, hos, hbare⟩
  refine ⟨.inl ⟨.bool true, .bool true, [], rfl, ?_, .bool true, ?_, ?_⟩, ⟨?_, ?_⟩, hos, hbare⟩
  · intro cls; rfl
  · exact post_ok _ _
  · intro _; exact ⟨List.nodup_nil, fun _ h => nomatch h⟩
  · intro b o e
    by_cases hb : b = 57
    · subst hb
      have e2 := BC.tab.2
      rw [e] at e2
      cases e2
      exact .inr (.inl ⟨BC.tab.isCodeTable, rfl, #[], ps, rfl, by simpa using h60⟩)
    · exact .inl (hk b o hb e)
  · intro b o e
    by_cases hb : b = 57
    · exact ⟨_, hb ▸ h60⟩
    · exact ⟨o, hk b o hb e⟩
end Mine
end

section
open PySem PySem.W PyProof.Rows PySem.Calls
namespace Mine
local macro_rules | `(tactic| walk_at "my_room") => `(tactic| first | assumption | exact room1 (by assumption) | k_room)
local macro_rules | `(tactic| walk_at "exec For Name Name cons nil") => `(tactic| (k_here; k_dflt (refine' for_start ?_ ?hs; (case hs => intro _; rfl))))
local macro_rules | `(tactic| walk_at "exec For Name Call cons nil") => `(tactic| (k_here; k_dflt (refine' for_start ?_ ?hs; (case hs => intro _; rfl))))
local macro_rules | `(tactic| walk_at "exec For Name List cons nil") => `(tactic| (k_here; k_dflt (refine' for_start ?_ ?hs; (case hs => intro _; rfl))))
local macro_rules | `(tactic| walk_at "call type:range cons nil") => `(tactic| (k_here; (with_reducible show wpAny _ _ (call (Value.type "range") _) (ForK _ _ _ _ _ _ _ _) _ _); with_reducible refine held_i ?_))
local macro_rules | `(tactic| walk_at "eval ListComp Call cons") => `(tactic| (k_here; with_reducible refine held_i ?_))
local macro_rules | `(tactic| walk_at "eval ListComp BinOp cons") => `(tactic| (k_here; with_reducible refine held_i ?_))
local macro_rules | `(tactic| walk_at "eval ListComp Subscript cons") => `(tactic| (k_here; with_reducible refine held_i ?_))
local macro_rules | `(tactic| walk_at "eval ListComp Name cons") => `(tactic| (k_here; with_reducible refine held_i ?_))
local macro_rules | `(tactic| walk_at "eval ListComp List cons") => `(tactic| (k_here; with_reducible refine held_i ?_))
local macro_rules | `(tactic| walk_at "exec Assign cons ListComp") => `(tactic| (k_here; with_reducible refine held_i ?_))
local macro_rules | `(tactic| walk_at "eval Name") => `(tactic| (k_here; (with_reducible show wpAny _ _ (PySem.eval _ (compEnvC _ _ _ _)) _ _ _); k_dflt (first
  | (refine' nm_L ?F ?v ?_ ?a ?b ?c; (case F => k_asm); (case a => rfl); (case b => rfl); (case c => rfl); (case v => rfl); k_whole)
  | (refine' nm_C ?F ?q ?v ?_ ?a ?b ?c; (case F => k_asm); (case a => rfl); (case b => rfl); (case c => rfl); (case q => rfl); (case v => k_asm); k_whole)
  | (refine' nm_K ?F ?X ?T ?q ?_ ?g ?a ?b ?c; (case F => k_asm); (case X => k_asm); (case T => k_asm); (case g => rfl); (case a => rfl); (case b => rfl); (case c => rfl); (case q => k_is); k_whole)
  | (refine' nm_B ?F ?X ?T ?q ?v ?n ?_ ?g ?g2 ?a ?b ?c; (case F => k_asm); (case X => k_asm); (case T => k_asm); (case g => rfl); (case g2 => rfl); (case a => rfl); (case b => rfl); (case c => rfl); (case q => k_is); (case v => boot_fast); (case n => decide); k_whole))))
local macro_rules | `(tactic| walk_at "eval GeneratorExp BinOp cons") => `(tactic| (k_here; with_reducible refine held_i ?_))
local macro_rules | `(tactic| walk_at "my_il") => `(tactic| first | assumption | exact IL.keeps (by assumption) (Fr.keep (by assumption)) | exact ⟨_, ⟨_, News.get (by assumption) (by k_mem)⟩, by assumption⟩)
local macro_rules | `(tactic| walk_at "call ref") => `(tactic| (k_here; (with_reducible show wpAny _ _ (call (Value.ref 125) [Value.ref _, Value.int _ _]) _ _ _); refine' k_contains ?k1 ?k2 ?k3 ?k4 ?k5 ?k6 ?_; (case k1 => k_asm); (case k2 => k_asm); (case k3 => k_asm); (case k4 => walk_at "my_room"); (case k5 => assumption); (case k6 => walk_at "my_il"); intro h' tk' F' N'; (try k_sweep)))
local macro_rules | `(tactic| walk_at "call ref") => `(tactic| (k_here; (with_reducible show wpAny _ _ (call (Value.ref 139) [Value.ref _, Value.int _ _]) _ _ _); refine' k_getitem ?k1 ?k2 ?k3 ?k4 ?k5 ?k6 ?k7 ?k8 ?k9 ?_; (case k1 => k_asm); (case k2 => k_asm); (case k3 => k_asm); (case k4 => walk_at "my_room"); (case k5 => assumption); (case k6 => walk_at "my_il"); (case k7 => first | assumption | omega); (case k8 => first | assumption | omega); (case k9 => first | assumption | omega); intro h' tk' v' F' N'; (try k_sweep)))
local macro_rules | `(tactic| walk_at "call ref") => `(tactic| (k_here; (with_reducible show wpAny _ _ (call (Value.ref 118) [Value.ref _, Value.ref _]) _ _ _); refine' k_concat ?k1 ?k2 ?k3 ?k4 ?k5 ?k6 ?k7 ?k8 ?k9 ?_; (case k1 => k_asm); (case k2 => k_asm); (case k3 => k_asm); (case k4 => walk_at "my_room"); (case k5 => assumption); (case k6 => walk_at "my_il"); (case k7 => walk_at "my_il"); (case k8 => first | assumption | omega | (simp only [List.length_map]; omega)); (case k9 => first | assumption | omega | (simp only [List.length_map]; omega)); intro h' tk' D' ws' c' F' N' hI' hne'; (try k_sweep)))
local macro_rules | `(tactic| walk_at "call ref") => `(tactic| (k_here; (with_reducible show wpAny _ _ (call (Value.ref 69) [Value.int _ _, Value.int _ _]) _ _ _); refine' k_add ?k1 ?k2 ?k3 ?k4 ?_; (case k1 => k_asm); (case k2 => k_asm); (case k3 => k_asm); (case k4 => walk_at "my_room"); intro h' tk' v' F' N'; (try k_sweep)))
local macro_rules | `(tactic| walk_at "call ref") => `(tactic| (k_here; (with_reducible show wpAny _ _ (call (Value.ref 76) [Value.int _ _, Value.int _ _]) _ _ _); refine' k_and_ ?k1 ?k2 ?k3 ?k4 ?_; (case k1 => k_asm); (case k2 => k_asm); (case k3 => k_asm); (case k4 => walk_at "my_room"); intro h' tk' v' F' N'; (try k_sweep)))
local macro_rules | `(tactic| walk_at "call ref") => `(tactic| (k_here; (with_reducible show wpAny _ _ (call (Value.ref 83) [Value.int _ _, Value.int _ _]) _ _ _); refine' k_mul ?k1 ?k2 ?k3 ?k4 ?k5 ?_; (case k1 => k_asm); (case k2 => k_asm); (case k3 => k_asm); (case k4 => walk_at "my_room"); (case k5 => first | assumption | walk_at "my_mul"); intro h' tk' v' F' N'; (try k_sweep)))
local macro_rules | `(tactic| walk_at "call ref") => `(tactic| (k_here; (with_reducible show wpAny _ _ (call (Value.ref 90) [Value.int _ _, Value.int _ _]) _ _ _); refine' k_or_ ?k1 ?k2 ?k3 ?k4 ?_; (case k1 => k_asm); (case k2 => k_asm); (case k3 => k_asm); (case k4 => walk_at "my_room"); intro h' tk' v' F' N'; (try k_sweep)))
local macro_rules | `(tactic| walk_at "call ref") => `(tactic| (k_here; (with_reducible show wpAny _ _ (call (Value.ref 97) [Value.int _ _, Value.int _ _]) _ _ _); refine' k_rshift ?k1 ?k2 ?k3 ?k4 ?k5 ?_; (case k1 => k_asm); (case k2 => k_asm); (case k3 => k_asm); (case k4 => walk_at "my_room"); (case k5 => first | assumption | decide); intro h' tk' v' F' N'; (try k_sweep)))
local macro_rules | `(tactic| walk_at "call ref") => `(tactic| (k_here; (with_reducible show wpAny _ _ (call (Value.ref 104) [Value.int _ _, Value.int _ _]) _ _ _); refine' k_sub ?k1 ?k2 ?k3 ?k4 ?_; (case k1 => k_asm); (case k2 => k_asm); (case k3 => k_asm); (case k4 => walk_at "my_room"); intro h' tk' v' F' N'; (try k_sweep)))
local macro_rules | `(tactic| walk_at "call ref") => `(tactic| (k_here; (with_reducible show wpAny _ _ (call (Value.ref 111) [Value.int _ _, Value.int _ _]) _ _ _); refine' k_xor ?k1 ?k2 ?k3 ?k4 ?_; (case k1 => k_asm); (case k2 => k_asm); (case k3 => k_asm); (case k4 => walk_at "my_room"); intro h' tk' v' F' N'; (try k_sweep)))

section
theorem code_at {h h' : Heap} {ps : Array Value} (hok : h.IsCode 61 57 ps) (ht : h.TableAt 61 57 ps) (h61 : ∀ o, h.get? 61 = some o → h'.get? 61 = some o) (h60 : h'.get? 57 = some { cls := .none, data := .fields ps }) : h'.IsCode 61 57 ps ∧ h'.TableAt 61 57 ps := by
  refine ⟨?_, ?_⟩
  · obtain ⟨o, vs, file, tf, flags, tg, inF, text, tt, op, ho, r1, r2, r3, r4, r5, r6, hop, hpd, r9, r10⟩ := hok
    exact ⟨o, vs, file, tf, flags, tg, inF, text, tt, _, h61 _ ho, r1, r2, r3, r4, r5, r6, h60, rfl, r9, r10⟩
  · obtain ⟨⟨o, vs, a, r⟩, _⟩ := ht
    exact ⟨⟨o, vs, h61 _ a, r⟩, h60⟩

theorem bmod_up {h h' : Heap} {g bm : Addr} {mg : Str → Option Value} {ob : Obj} {ps : Array Value} (M : BMod h g mg bm ob) (ht : h.TableAt 61 57 ps) (k : ∀ b o, b ≠ 57 → h.get? b = some o → h'.get? b = some o) : BMod h' g mg bm ob :=
  ⟨M.ns.at' fun o e => k _ o (M.apart ht).1 e, M.name, M.ne, k _ _ (M.apart ht).2 M.obj, M.cls, M.dict, M.data⟩

theorem news3 {h₀ h h' : Heap} {L p q : Addr} {x y z z' : Obj} (N : News h₀ L h [(p, x), (q, y), (57, z)]) (hk : ∀ b o, b ≠ 57 → h.get? b = some o → h'.get? b = some o) (hp : p ≠ 57) (hq : q ≠ 57) (h60 : h'.get? 57 = some z') : News h₀ L h' [(p, x), (q, y), (57, z')] := fun r hr => by
  rcases List.mem_cons.mp hr with rfl | hr
  · exact ⟨hk _ _ hp (N _ (.head _)).1, (N _ (.head _)).2⟩
  · rcases List.mem_cons.mp hr with rfl | hr
    · exact ⟨hk _ _ hq (N _ (.tail _ (.head _))).1, (N _ (.tail _ (.head _))).2⟩
    · rw [List.mem_singleton.mp hr]
      exact ⟨h60, (N _ (.tail _ (.tail _ (.head _)))).2⟩
theorem cell60 {h h' : Heap} {c : Addr} {v : Option Value} (x : h.IsCell c v) (hk : ∀ b o, b ≠ 57 → h.get? b = some o → h'.get? b = some o) (hc : c ≠ 57) : h'.IsCell c v := let ⟨o, e, d⟩ := x; ⟨o, hk _ _ hc e, d⟩

theorem apart_lists {a b C1 I1 C2 I2 lx ly c1 c2 cs P : Nat} (h1 : lx < P) (h2 : ly < P) (h3 : c1 < P) (h4 : c2 < P) (h5 : cs < P) (h6 : P ≤ I1) (h7 : I1 < C1) (h8 : C1 < a) (h9 : a < I2) (h10 : I2 < C2) (h11 : C2 < b) :
    (∀ x ∈ [C1, I1], x ∉ b :: C2 :: [I2, ly, c2, cs]) ∧ (∀ x ∈ [C2, I2], x ∉ a :: C1 :: [I1, lx, c1, cs]) ∧ a ≠ C1 ∧ a ∉ [I1, lx, c1, cs] ∧ cs ≠ C1 ∧ cs ≠ I1 ∧ b ≠ C2 ∧ b ∉ [I2, ly, c2, cs] ∧ cs ≠ C2 ∧ cs ≠ I2 := by
  simp only [List.mem_cons, List.not_mem_nil, or_false]
  refine ⟨fun x hx hx' => ?_, fun x hx hx' => ?_, ?_, ?_, ?_, ?_, ?_, ?_, ?_, ?_⟩ <;> omega

theorem list_lt {h : Heap} {l : Addr} {vs : Array Value} (x : h.IsList l vs) : @LT.lt Nat _ l h.objs.size := let ⟨_, e, _⟩ := x; Heap.lt_size e
theorem stat_lt {h : Heap} (x : h.NoLimit) : @LT.lt Nat _ cStatics h.objs.size := let ⟨_, hn, _⟩ := x; hn.lt
theorem out_of {b P I C a I2 C2 : Nat} (hb : b < P) (h6 : P ≤ I) (h7 : I < C) (h8 : C < a) (h9 : a < I2) (h10 : I2 < C2) : b ∉ [C, I, C2, I2] := by
  simp only [List.mem_cons, List.not_mem_nil, or_false]
  omega
theorem fr_but4 {h₀ h h' : Heap} {L : Addr} {m : Str → Option Value} {cs : List Addr} (F : Fr h₀ L h m) (hk : ∀ b o, b ∉ cs → h.get? b = some o → h'.get? b = some o) (hL : L ∉ cs) (hb : ∀ b o, h₀.get? b = some o → b ∉ cs) : Fr h₀ L h' m :=
  ⟨F.ns.at' fun o e => hk _ o hL e, fun b o e => hk b o (hb b o e) (F.keep b o e), F.above⟩
theorem news3out {h₀ h h' : Heap} {L p q r : Addr} {x y z : Obj} {cs : List Addr} (N : News h₀ L h [(p, x), (q, y), (r, z)]) (hk : ∀ b o, b ∉ cs → h.get? b = some o → h'.get? b = some o) (hp : p ∉ cs) (hq : q ∉ cs) (hr : r ∉ cs) : News h₀ L h' [(p, x), (q, y), (r, z)] := fun t ht => by
  refine ⟨hk _ _ ?_ (N t ht).1, (N t ht).2⟩
  rcases List.mem_cons.mp ht with rfl | ht
  · exact hp
  · rcases List.mem_cons.mp ht with rfl | ht
    · exact hq
    · rw [List.mem_singleton.mp ht]; exact hr
/-- what is asked of two rows, so that all is reckoned in whole numbers -/
structure Rows2 (xs ys : List Int) (X Y c : Int) : Prop where
  len : ys.length = xs.length
  two : 2 ≤ xs.length
  eight : xs.length ≤ 8
  bx : ∀ n ∈ xs, n.natAbs < 2 ^ 53
  by' : ∀ n ∈ ys, n.natAbs < 2 ^ 53
  sx : ∀ i, i ≤ xs.length → ((xs.take i).sum).natAbs < 2 ^ 53
  sy : ∀ i, i ≤ ys.length → ((ys.take i).sum).natAbs < 2 ^ 53
  mx : xs.sum = X * xs.length
  my : ys.sum = Y * xs.length
  bX : X.natAbs < 2 ^ 53
  bY : Y.natAbs < 2 ^ 53
  dx : ∀ n ∈ xs, (n - X).natAbs < 2 ^ 53
  dy : ∀ n ∈ ys, (n - Y).natAbs < 2 ^ 53
  dd : ∀ i, i ≤ xs.length → (dot (fun i => xs.getD i 0 - X) (fun i => ys.getD i 0 - Y) i).natAbs < 2 ^ 53
  pp : ∀ i, i < xs.length → ((xs.getD i 0 - X) * (ys.getD i 0 - Y)).natAbs < 2 ^ 53
  val : dot (fun i => xs.getD i 0 - X) (fun i => ys.getD i 0 - Y) xs.length = c * ((xs.length : Int) - 1)
  bc : c.natAbs < 2 ^ 53

local macro_rules | `(tactic| walk_at "call builtin:math.fsum") => `(tactic| (k_here; refine' k_fsum ?k1 ?k2 ?k3 ?k4 ?k5 ?k6 ?k7 ?_; (case k1 => k_asm); (case k2 => k_asm); (case k3 => assumption); (case k4 => assumption); (case k5 => assumption); (case k6 => first | exact Rows2.sx (by assumption) | exact Rows2.sy (by assumption)); (case k7 => first | exact Rows2.bx (by assumption) | exact Rows2.by' (by assumption)); intro h' tk' r' t' hr' F' N'; (try k_sweep)))
local macro_rules | `(tactic| walk_at "binaryOp Div float int") => `(tactic| (k_here; refine' op_div_fi ?k1 ?k2 ?_; (case k1 => first | assumption | omega); (case k2 => first | assumption | omega)))

local macro_rules | `(tactic| walk_at "ite") => `(tactic| (k_here; first | refine W.ite_pos (by simp only [bne_iff_ne, ne_eq, decide_eq_true_eq]; omega) ?_ | refine W.ite_neg (by simp only [bne_iff_ne, ne_eq, decide_eq_true_eq]; omega) ?_))
set_option maxHeartbeats 8000000 in
theorem call_cov {prog : Program} {w : World} {A : Around} {E : Value → Shared → Prop} {s : Shared} {mg mb : Str → Option Value} {Q : Value → Shared → Prop} (ev : Ev w mg mb s.heap) (hroom : A.depth + 9 < recursionLimit) (hh : A.handled = none)
    {bm : Addr} {ob : Obj} (hM : BMod s.heap mainGlobals mg bm ob) {ps : Array Value} (hok : s.heap.IsCode 61 57 ps) (ht : s.heap.TableAt 61 57 ps)
    {lx ly : Addr} {xs ys : List Int} {X Y c : Int} (hlx : IL s.heap lx xs) (hly : IL s.heap ly ys) (R : Rows2 xs ys X Y c)
    (k : ∀ h' tk g' r t more, Is r c → (∀ b o, b ≠ 57 → s.heap.get? b = some o → h'.get? b = some o) → h'.IsCode 61 57 (ps ++ more) → h'.TableAt 61 57 (ps ++ more) → (AllBare s.gens → AllBare g') → Q (.float r t) { s with heap := h', toks := tk, gens := g' }) :
    wpAny (model prog w) A (call (.ref 62) [.ref lx, .ref ly]) Q E s := by
  have hnot60 : ∀ {l : Addr} {ns : List Int}, IL s.heap l ns → l ≠ 57 := by
    rintro l ns ⟨vs, ⟨n, e⟩, _⟩ rfl
    rw [ht.2] at e; cases e
  obtain ⟨vx, hpx, hix⟩ := hlx.hb (hnot60 hlx)
  have hx := hpx.isList
  obtain ⟨vy, hpy, hiy⟩ := hly.hb (hnot60 hly)
  have hy := hpy.isList
  refine wpAny_call ?_
  refine enterC (binds := [(Str.ofString "x", .ref lx), (Str.ofString "y", .ref ly)]) ev rfl rfl (by omega) (BindsTo.of_eq rfl) rfl (by decide +kernel) ?_ rfl rfl rfl
  intro L h₁ tk₀ cells hL F N Y'
  obtain ⟨o1, o2, rfl, ho1, ho2⟩ := Y'.two
  have hL60 : 57 < L := by rw [hL]; exact lt_sz ht.2
  have hL60' : (57 : Addr) ≠ L := Nat.ne_of_lt hL60
  have hL61 : 61 < L := by
    rw [hL]
    obtain ⟨⟨_, _, e, _⟩, _⟩ := ht
    exact lt_sz e
  have N : News (hb s.heap) L h₁ [(L + 1 + 1, o1), (L + 1, o2), (57, { cls := .none, data := .fields ps })] := fun p hp => by
    rcases List.mem_cons.mp hp with rfl | hp
    · exact news_hb N _ (.head _)
    · rcases List.mem_cons.mp hp with rfl | hp
      · exact news_hb N _ (.tail _ (.head _))
      · rw [List.mem_singleton.mp hp]
        exact ⟨F.keep _ _ ht.2, hL60', hb_60 _⟩
  have F := fr_hb F
  have evh := ev_hb ev
  have KX := evh.K
  have TX := evh.T
  have e1 := R.len
  have e2 := R.two
  have e3 := R.eight
  have hB60 := hb_60 s.heap
  have hBup : ∀ b o, b ≠ 57 → s.heap.get? b = some o → (hb s.heap).get? b = some o := fun b o hb' e => hb_get hb' e
  have hBsz := hb_size s.heap
  clear ev
  generalize hb s.heap = B at *
  clear hpx hpy hlx hly hnot60
  have hvx := hix.length
  have hvy := hiy.length
  k_steps
  rename Fr _ _ _ _ => F'
  rename News _ _ _ _ => N'
  rename Is _ ys.sum => hry
  rename Is _ xs.sum => hrx
  have hlen : (xs.length : Int).natAbs < 2 ^ 53 := by omega
  have hlen0 : (xs.length : Int) ≠ 0 := by omega
  have hX := is_div hrx (is_ofInt hlen) hlen0 R.mx R.bX
  have hY := is_div hry (is_ofInt hlen) hlen0 R.my R.bY
  have hcx := (⟨_, N'.get (.tail _ (.head _)), by assumption⟩ : Heap.IsCell _ (L + 1) (some (.float _ _)))
  have hcy := (⟨_, N'.get (.head _), by assumption⟩ : Heap.IsCell _ (L + 1 + 1) (some (.float _ _)))
  have up : ∀ b o, b ≠ 57 → s.heap.get? b = some o → _ := fun b o hb' e => F'.keep b o (hBup b o hb' e)
  obtain ⟨hok', ht'⟩ := code_at hok ht (fun o e => up _ o (by decide) e) (N'.get (.tail _ (.tail _ (.head _))))
  have hM' := bmod_up hM ht up
  have hlx : lx ≠ 57 := by rintro rfl; obtain ⟨o, ho, _⟩ := hx; rw [hB60] at ho; cases ho
  have hly : ly ≠ 57 := by rintro rfl; obtain ⟨o, ho, _⟩ := hy; rw [hB60] at ho; cases ho
  refine gen_make (fun Q E h => nm_L F' rfl h rfl rfl rfl) (hx.at fun o e => F'.keep _ o e) hix R.bx hcx hX R.dx rfl hok' ht' hM' (TX.nolimit.keeps F'.keep) rfl rfl (by decide) rfl rfl rfl rfl (room1 hroom) rfl rfl rfl (by intro _; rfl) ?_
  intro a I C h₅ tk₅ gs more hI hC ha hsz hgs hk5 hok5 ht5 hg5 gen5
  dsimp only at hI hk5 hg5 gen5
  have F5 := fr60 F' hk5 hL60'.symm hB60
  have hp1 : L + 1 ≠ 57 := Nat.ne_of_gt (by omega)
  have hp2 : L + 1 + 1 ≠ 57 := Nat.ne_of_gt (by omega)
  have N5 := news3 N' hk5 hp2 hp1 ht5.2
  have hcx5 := cell60 hcx hk5 hp1
  have hcy5 := cell60 hcy hk5 hp2
  have up5 : ∀ b o, b ≠ 57 → s.heap.get? b = some o → h₅.get? b = some o := fun b o hb' e => hk5 b o hb' (up b o hb' e)
  have hLs : @LT.lt Nat _ (L + 1) _ := Heap.IsCell.lt hcx
  have hLs2 : @LT.lt Nat _ (L + 1 + 1) _ := Heap.IsCell.lt hcy
  have hlxs := list_lt (hx.at fun o e => F'.keep _ o e)
  have hlys := list_lt (hy.at fun o e => F'.keep _ o e)
  have hcst := stat_lt (TX.nolimit.keeps F'.keep)
  clear F' N' hcx hcy up hok' ht' hM'
  k_steps
  rename Fr _ _ _ _ => F'
  rename News _ _ _ _ => N'
  have hM5 := bmod_up hM ht up5
  refine gen_make (fun Q E h => nm_L F' rfl h rfl rfl rfl) (hy.at fun o e => F'.keep _ o e) hiy R.by' hcy5 hY R.dy rfl hok5 ht5 hM5 (TX.nolimit.keeps F'.keep) rfl rfl (by decide) rfl rfl rfl rfl (room1 hroom) rfl rfl rfl (by intro _; rfl) ?_
  intro a₂ I₂ C₂ h₆ tk₆ gs₂ more₂ hI₂ hC₂ ha₂ hsz₂ hgs₂ hk6 hok6 ht6 hg6 gen6
  dsimp only at hI₂ hk6 hg6 gen6
  have F6 := fr60 F' hk6 hL60'.symm hB60
  have N6 := news3 N' hk6 hp2 hp1 ht6.2
  clear F' N'
  k_steps
  rw [hvx] at gen5
  rw [hvy, e1] at gen6
  obtain ⟨q1, q2, q3, q4, q5, q6, q7, q8, q9, q10⟩ := apart_lists (b := a₂) hlxs hlys hLs hLs2 hcst hI hC ha (show a < I₂ by omega) hC₂ ha₂
  have hgne : s.gens.size ≠ (s.gens.push gs).size := by simp
  have genA : ∀ A' : Around, A'.handled = none → GenAt prog w A' a s.gens.size C [I, lx, L + 1, cStatics] [I] tt xs.length (FF fun i => xs.getD i 0 - X) 0 { s with heap := h₆, gens := (s.gens.push gs).push gs₂, toks := tk₆ } := by
    intro A' hA'
    refine genAt_moved (gen5 A' hA') (by simp) (fun b hb' o e => hk6 b o ?_ e) ?_
    · rintro rfl
      have z1 : @LT.lt Nat _ 57 (L + 1) := Nat.lt_succ_of_lt hL60
      simp only [List.mem_cons, List.not_mem_nil, or_false] at hb'
      rcases hb' with e | e | e | e | e | e
      · exact absurd e (Nat.ne_of_lt (by omega))
      · exact absurd e (Nat.ne_of_lt (by omega))
      · exact absurd e (Nat.ne_of_lt (by omega))
      · exact hlx e.symm
      · exact hp1 e.symm
      · exact absurd e (by decide)
    · show ((s.gens.push gs).push gs₂)[s.gens.size]? = (s.gens.push gs)[s.gens.size]?
      simp [Array.getElem?_push]
  have ha60 : a ≠ 57 := Nat.ne_of_gt (by have z1 : @LT.lt Nat _ 57 (L + 1) := Nat.lt_succ_of_lt hL60; omega)
  have hgA : h₆.IsGen a s.gens.size := by
    obtain ⟨o, nm, qn, ho, r⟩ := hg5
    exact ⟨o, nm, qn, hk6 a o ha60 ho, r⟩
  refine call_sumprod (two_gens hh (room1 hroom) hgne q1 q2 q3 q4 (by simp) (by simp) q5 q6 q7 q8 (by simp) (by simp) q9 q10) R.dd R.pp (by omega) hgA hg6 (genA _ hh) (gen6 _ hh) ?_
  intro s7 r t hr hm
  obtain ⟨h7, g7, d7, k7, o7⟩ := s7
  obtain ⟨m1, m2, m3, m4, m5⟩ := hm
  dsimp only at m1 m2 m3 m4 m5
  subst m2 m3
  have outs : ∀ b : Nat, b ≤ L + 1 + 1 → b ∉ [C, I, C₂, I₂] := fun b hb' => out_of (Nat.lt_of_le_of_lt hb' hLs2) hI hC ha (show a < I₂ by omega) hC₂
  have F7 := fr_but4 F6 m1 (outs _ (by omega)) (fun b o e => outs b (by have z := lt_sz e; rw [hBsz, ← hL] at z; omega))
  have N7 := news3out N6 m1 (outs _ (by omega)) (outs _ (by omega)) (outs 57 (by omega))
  have up7 : ∀ b o, b ≠ 57 → s.heap.get? b = some o → h7.get? b = some o := fun b o hb' e => m1 b o (outs b (by have z := lt_sz e; rw [← hL] at z; omega)) (hk6 b o hb' (up5 b o hb' e))
  have h61 : ∀ o, h₆.get? 61 = some o → h7.get? 61 = some o := fun o e => m1 61 o (outs 61 (by omega)) e
  obtain ⟨hok7, ht7⟩ := code_at hok6 ht6 h61 (m1 57 _ (outs 57 (by omega)) ht6.2)
  have hn1 : ((xs.length : Int) - 1).natAbs < 2 ^ 53 := by omega
  have hn10 : (xs.length : Int) - 1 ≠ 0 := by omega
  clear F6 N6 F N
  k_steps
  rename Fr _ _ _ _ => F8
  rename News _ _ _ _ => N8
  have up8 := fun b o (hb' : b ≠ 57) (e : s.heap.get? b = some o) => F8.keep b o (hBup b o hb' e)
  obtain ⟨o61, ho61⟩ : ∃ o, s.heap.get? 61 = some o := by
    obtain ⟨⟨o, vs, e, r⟩, _⟩ := ht
    exact ⟨o, e⟩
  obtain ⟨hok8, ht8⟩ := code_at hok6 ht6 (fun o e => by
    have z := hk6 61 _ (by decide) (up5 61 _ (by decide) ho61)
    rw [z] at e; cases e
    exact up8 61 _ (by decide) ho61) (N8.get (.tail _ (.tail _ (.head _))))
  rw [Array.append_assoc] at hok8 ht8
  exact k _ _ _ _ _ (more ++ more₂) (is_div hr (is_ofInt hn1) hn10 R.val R.bc) up8 hok8 ht8 (fun hb' => m5 ((hb'.push hgs).push hgs₂))
end

end Mine
end

section
open PySem PySem.W PyProof.Rows PySem.Calls
namespace Mine
section
variable {prog : Program} {w : World} {A : Around} {E : Value → Shared → Prop} {s : Shared} {env : Env} {L : Addr} {h₀ : Heap} {m mg : Str → Option Value}
  {x : Str} {C : Addr} {B newId initId : String} {bm : List Value} {np cpos pos : Pos} {Q : Flow → Shared → Prop}

/-- raise of an own class in a function of any kind of names -/
theorem raise_own {e₀ : PySem.Expr} {rest : List PySem.Expr} (F : Fr h₀ L s.heap m) (hg : h₀.Ns mainGlobals mg) (O : OwnCls x C bm newId mg h₀) (FB : ExcBaseFacts B newId initId bm) (hh : A.handled = none)
    (h : wpAny (model prog w) A (spliced (backTo cpos (starEach (e₀ :: rest) env))) (fun vs s₂ => vs.length ≤ sizeLine ∧ (∀ b o, h₀.get? b = some o → s₂.heap.get? b = some o) ∧
      ∀ h' e, Heap.MadeExcOf s₂.heap h' e (.ref C) vs → E (.ref e) { s₂ with heap := h' }) E s)
    (hgl : env.globals = mainGlobals)
    (he : starEach (e₀ :: rest) env = (false, eval e₀ env) :: starEach rest env)
    (hplain : (backTo cpos (starEach rest env)).any (·.1) = false)
    (hk : env.scope.kind = .function) (hx : env.kindOf x = some .globalImplicit) (hd : (x == ("__debug__" : Str)) = false) :
    wpAny (model prog w) A (exec (.Raise (some (.Call (.Name x np) (e₀ :: rest) [] cpos)) none pos) env) Q E s := by
  obtain ⟨tl, N, nm, q, bs, hdct, sn, sub, ab, col, dd, k0, k1, k2, k3, k5, mN, hC, hN, hni, T⟩ := O.obj
  refine wpAny_Raise_call_subT (C := C) (nm := nm) (q := q) (N := N) (bs := bs) (bm := tl) (hdct := hdct) (sn := sn) (sub := sub) (ab := ab) (col := col) (dd := dd) (k0 := k0) (k1 := k1) (k2 := k2) (k3 := k3) (k5 := k5)
    FB (mN := mN) (T.hasType FB.hasBase) hh (by rw [he]; show (false || (backTo cpos (starEach rest env)).any (·.1)) = false; rw [hplain]; rfl) hni
    (Calls.Name_function_global hk hx (Calls.loadGlobal_global (env := env) (hgl ▸ hg.keeps F.keep) O.bound ⟨rfl, ?_⟩) hd)
  rw [he] at h ⊢
  exact Calls.evalArgs_plain (wpAny_mono h (fun vs s₂ h₂ => ⟨rfl, h₂.1, h₂.2.1 _ _ hC, hN.keeps h₂.2.1, T.keeps h₂.2.1, h₂.2.2⟩) fun _ _ y => y)
end

section
variable {M : Model} {A : Around} {E : Value → Shared → Prop} {s' : Shared} {base g h : Heap} {outer : List Env} {env : Env} {L e t : Addr} {m : Str → Option Value} {Q : Unit → Shared → Prop} {news : List (Addr × Obj)}

theorem below_push (K : Below A base outer g) (F : Fr g L h m) (hf : env.frame = some L) (hk : env.scope.kind = .function) : Below (A.deeper env) base (env :: outer) h := by
  have hnew : base.get? L = none := by
    cases hq : base.get? L with
    | none => rfl
    | some o => exact absurd (Nat.lt_of_lt_of_le (Heap.lt_size (K.stays L o hq)) F.above) (Nat.lt_irrefl _)
  refine ⟨Around.frames_deeper K.stack, fun b o e => F.keep b o (K.stays b o e), ?_⟩
  exact .cons (by rw [hk]; decide) hf F.ns hnew (K.frames.of_keeps fun b o e _ => ⟨o, F.keep b o e, rfl⟩)

/-- an exception made here leaves a function of any kind of names -/
theorem leave_made {cls : Value} {vs : List Value} (K : Below A base outer g) (hx : Heap.MadeExcOf h s'.heap e cls vs) (F : Fr g L h m) (N : News g L h news) (hf : env.frame = some L) (hk : env.scope.kind = .function)
    (hQ : ∀ h' t, RaisedS base g outer e cls t vs news h' → g.UpToSlots h' → Q () { s' with heap := h' }) :
    wpAny M (A.deeper env) (leaving env (.ref e)) Q E s' := by
  have K' := below_push K F hf hk
  have hin : ∀ env' ∈ (env :: outer), ∀ b, env'.frame = some b → b ∈ (env :: outer).filterMap (·.frame) := fun env' he b hb => List.mem_filterMap.mpr ⟨env', he, hb⟩
  have hmem : ∀ b, b ∈ (env :: outer).filterMap (·.frame) → b = L ∨ b ∈ outer.filterMap (·.frame) := fun b hm => by
    obtain ⟨env', he, hf'⟩ := List.mem_filterMap.mp hm
    rcases List.mem_cons.mp he with rfl | he
    · rw [hf] at hf'; exact .inl (Option.some.inj hf').symm
    · exact .inr (List.mem_filterMap.mpr ⟨env', he, hf'⟩)
  have hLn : g.get? L = none := by
    cases q : g.get? L with
    | none => rfl
    | some o => exact absurd (Nat.lt_of_lt_of_le (Heap.lt_size q) F.above) (Nat.lt_irrefl _)
  refine wpAny_leaves_madeW K'.stack hf (base := hideAll h ((env :: outer).filterMap (·.frame))) (fun b o q => of_hideAll _ q) (funFrames_hide K'.frames hin) hx fun h' t x1 x2 x3 x4 => ?_
  refine hQ h' t ⟨⟨_, fun b o q => hideAll_get _ (K'.stays b o q) fun hm => ?_, fun b o q nm => hideAll_get _ (F.keep b o q) fun hm => ?_, fun q hq => ⟨hideAll_get _ (N q hq).1 fun hm => ?_, (N q hq).2.2, fresh_of_stays K.stays (N q hq).2.2⟩, x1, x3⟩, x2⟩ (((Heap.UpToSlots.of_keeps F.keep).trans (Heap.UpToSlots.of_keeps hx.keeps)).trans x4)
  · rw [(K'.frames.mem hm).1] at q; cases q
  · rcases hmem b hm with z | z
    · rw [z, hLn] at q; cases q
    · exact nm z
  · rcases hmem _ hm with z | z
    · exact (N q hq).2.1 z
    · obtain ⟨o, ho, _⟩ := (K.frames.mem z).2
      rw [(N q hq).2.2] at ho; cases ho
end
end Mine
end

section
open PySem PySem.W PyProof.Rows PySem.Calls
namespace Mine
theorem xor_nat : ∀ i : Nat, i < 8 → ∀ m : Nat, m < 8 → (Builtin.bitXor (i : Int) (m : Int)).toNat = i ^^^ m := by decide
theorem sum_bound (B : Nat) : ∀ l : List Int, (∀ x ∈ l, x.natAbs ≤ B) → l.sum.natAbs ≤ l.length * B
  | [], _ => by simp
  | a :: l, h => by
    have h1 := sum_bound B l fun x hx => h x (.tail _ hx)
    have h2 := h a (.head _)
    rw [List.sum_cons, List.length_cons, Nat.succ_mul]
    omega
theorem dot_bound {as bs : Nat → Int} {A B : Nat} (ha : ∀ i, (as i).natAbs ≤ A) (hb : ∀ i, (bs i).natAbs ≤ B) : ∀ n, (dot as bs n).natAbs ≤ n * (A * B)
  | 0 => by simp [dot]
  | n + 1 => by
    have h1 := dot_bound ha hb n
    have h2 : (as n * bs n).natAbs ≤ A * B := by rw [Int.natAbs_mul]; exact Nat.mul_le_mul (ha n) (hb n)
    show (dot as bs n + as n * bs n).natAbs ≤ _
    rw [Nat.succ_mul]
    omega
theorem getD_bound {l : List Int} {B : Nat} (h : ∀ x ∈ l, x.natAbs ≤ B) (i : Nat) : (l.getD i 0).natAbs ≤ B := by
  rw [List.getD_eq_getElem?_getD]
  cases e : l[i]? with
  | none => simp
  | some v => exact h v (List.mem_of_getElem? e)

/-- two rows of bounded ints whose means are whole -/
theorem rows_of {xs ys : List Int} {X Y c : Int} {A B : Nat} (len : ys.length = xs.length) (two : 2 ≤ xs.length) (eight : xs.length ≤ 8) (hA : ∀ n ∈ xs, n.natAbs ≤ A) (hB : ∀ n ∈ ys, n.natAbs ≤ B) (hX : X.natAbs ≤ A) (hY : Y.natAbs ≤ B)
    (hA8 : A ≤ 2 ^ 25) (hB8 : B ≤ 2 ^ 22) (mx : xs.sum = X * xs.length) (my : ys.sum = Y * xs.length)
    (val : dot (fun i => xs.getD i 0 - X) (fun i => ys.getD i 0 - Y) xs.length = c * ((xs.length : Int) - 1)) (bc : c.natAbs < 2 ^ 53) : Rows2 xs ys X Y c := by
  have ta : ∀ i, (xs.getD i 0 - X).natAbs ≤ 2 ^ 26 := fun i => by have := getD_bound hA i; omega
  have tb : ∀ i, (ys.getD i 0 - Y).natAbs ≤ 2 ^ 23 := fun i => by have := getD_bound hB i; omega
  have st : ∀ (l : List Int) (C : Nat), (∀ n ∈ l, n.natAbs ≤ C) → l.length ≤ 8 → C ≤ 2 ^ 26 → ∀ i, ((l.take i).sum).natAbs < 2 ^ 53 := fun l C h hl hC i => by
    have h1 := sum_bound C (l.take i) fun x hx => h x (List.mem_of_mem_take hx)
    have h2 : (l.take i).length ≤ 8 := Nat.le_trans (List.length_take_le' i l) hl
    have h3 : (l.take i).length * C ≤ 8 * 2 ^ 26 := Nat.mul_le_mul h2 hC
    omega
  have dd := dot_bound ta tb
  refine ⟨len, two, eight, fun n hn => by have := hA n hn; omega, fun n hn => by have := hB n hn; omega, fun i _ => st xs A hA eight (by omega) i, fun i _ => st ys B hB (by omega) (by omega) i, mx, my, by omega, by omega, fun n hn => by have := hA n hn; omega, fun n hn => by have := hB n hn; omega, fun i hi => ?_, fun i hi => ?_, val, bc⟩
  · have h1 := dd i
    have h2 : i * (2 ^ 26 * 2 ^ 23) ≤ 8 * (2 ^ 26 * 2 ^ 23) := Nat.mul_le_mul_right _ (Nat.le_trans hi eight)
    have h3 : 8 * (2 ^ 26 * 2 ^ 23) < 2 ^ 53 := by decide
    omega
  · rw [Int.natAbs_mul]
    have := Nat.mul_le_mul (ta i) (tb i)
    omega

def dotI (as bs : Nat → Int) : Int := as 0 * bs 0 + as 1 * bs 1 + as 2 * bs 2 + as 3 * bs 3 + as 4 * bs 4 + as 5 * bs 5 + as 6 * bs 6 + as 7 * bs 7
theorem dotI_eq (as bs : Nat → Int) : dotI as bs = dot as bs 8 := by simp [dotI, dot]
def covOf (tb : List Int) (m : Nat) : Int := 64 * dotI (fun i => tb.getD i 0) (fun i => tb.getD (i ^^^ m) 0) - 8 * (tb.sum * tb.sum)
def movedOf (tb : List Int) (m : Nat) : List Int := (List.range 8).map fun i : Nat => 8 * tb.getD (Builtin.bitXor (i : Int) (m : Int)).toNat 0
theorem eight_of {tb : List Int} (h : tb.length = 8) : ∃ a b c d e f g i, tb = [a, b, c, d, e, f, g, i] := by
  match tb, h with
  | [a, b, c, d, e, f, g, i], _ => exact ⟨a, b, c, d, e, f, g, i, rfl⟩
theorem movedOf_eq (tb : List Int) {m : Nat} (hm : m < 8) : movedOf tb m = (List.range 8).map fun i => 8 * tb.getD (i ^^^ m) 0 := by
  unfold movedOf
  refine List.map_congr_left fun i hi => ?_
  rw [xor_nat i (List.mem_range.mp hi) m hm]

theorem rows_wide {tb : List Int} (hl : tb.length = 8) (hb : ∀ t ∈ tb, -262144 ≤ t ∧ t < 262144) {m : Nat} (hm : m < 8) : Rows2 (tb.map fun v => 56 * v) (movedOf tb m) (7 * tb.sum) tb.sum (covOf tb m) := by
  have hB : ∀ t ∈ tb, t.natAbs ≤ 262144 := fun t ht => by have := hb t ht; omega
  have hS := sum_bound 262144 tb hB
  rw [hl] at hS
  have hG := getD_bound hB
  refine rows_of (A := 14680064) (B := 2097152) ?_ ?_ ?_ ?_ ?_ ?_ ?_ (by decide) (by decide) ?_ ?_ ?_ ?_
  · rw [List.length_map, hl]; rfl
  · rw [List.length_map, hl]; decide
  · rw [List.length_map, hl]; decide
  · intro n hn
    obtain ⟨t, ht, rfl⟩ := List.mem_map.mp hn
    have := hB t ht
    omega
  · intro n hn
    obtain ⟨i, _, rfl⟩ := List.mem_map.mp hn
    have := hG (Builtin.bitXor (i : Int) (m : Int)).toNat
    omega
  · omega
  · omega
  · obtain ⟨a, b, c, d, e, f, g, i, rfl⟩ := eight_of hl
    simp only [List.map_cons, List.map_nil, List.sum_cons, List.sum_nil, List.length_cons, List.length_nil]
    omega
  · rw [movedOf_eq tb hm, List.length_map]
    obtain ⟨a, b, c, d, e, f, g, i, rfl⟩ := eight_of hl
    clear hB hS hG hb hl
    have : m = 0 ∨ m = 1 ∨ m = 2 ∨ m = 3 ∨ m = 4 ∨ m = 5 ∨ m = 6 ∨ m = 7 := by omega
    rcases this with rfl | rfl | rfl | rfl | rfl | rfl | rfl | rfl <;>
      (simp only [show List.range 8 = [0, 1, 2, 3, 4, 5, 6, 7] from rfl, List.map_cons, List.map_nil, List.sum_cons, List.sum_nil, List.length_cons, List.length_nil, Nat.reduceXor, List.getD_cons_zero, List.getD_cons_succ]; omega)
  · rw [movedOf_eq tb hm, List.length_map]
    obtain ⟨a, b, c, d, e, f, g, i, rfl⟩ := eight_of hl
    clear hB hS hG hb hl
    have : m = 0 ∨ m = 1 ∨ m = 2 ∨ m = 3 ∨ m = 4 ∨ m = 5 ∨ m = 6 ∨ m = 7 := by omega
    rcases this with rfl | rfl | rfl | rfl | rfl | rfl | rfl | rfl <;>
      (simp only [covOf, dotI, dot, show List.range 8 = [0, 1, 2, 3, 4, 5, 6, 7] from rfl, List.map_cons, List.map_nil, List.sum_cons, List.sum_nil, List.length_cons, List.length_nil, Nat.reduceXor, List.getD_cons_zero, List.getD_cons_succ]
       grind)
  · have h1 : (dotI (fun i => tb.getD i 0) (fun i => tb.getD (i ^^^ m) 0)).natAbs ≤ 8 * (262144 * 262144) := by
      rw [dotI_eq]; exact dot_bound hG (fun i => hG _) 8
    have h2 : (tb.sum * tb.sum).natAbs ≤ 2097152 * 2097152 := by rw [Int.natAbs_mul]; exact Nat.mul_le_mul hS hS
    unfold covOf
    generalize dotI (fun i => tb.getD i 0) (fun i => tb.getD (i ^^^ m) 0) = x at h1 ⊢
    generalize tb.sum * tb.sum = y at h2 ⊢
    omega
end Mine
end

section
open PySem PySem.W PyProof.Rows PySem.Calls
namespace Mine
local macro_rules | `(tactic| walk_at "my_room") => `(tactic| first | assumption | exact room1 (by assumption) | k_room)
local macro_rules | `(tactic| walk_at "exec For Name Name cons nil") => `(tactic| (k_here; k_dflt (refine' for_start ?_ ?hs; (case hs => intro _; rfl))))
local macro_rules | `(tactic| walk_at "exec For Name Call cons nil") => `(tactic| (k_here; k_dflt (refine' for_start ?_ ?hs; (case hs => intro _; rfl))))
local macro_rules | `(tactic| walk_at "exec For Name List cons nil") => `(tactic| (k_here; k_dflt (refine' for_start ?_ ?hs; (case hs => intro _; rfl))))
local macro_rules | `(tactic| walk_at "call type:range cons nil") => `(tactic| (k_here; (with_reducible show wpAny _ _ (call (Value.type "range") _) (ForK _ _ _ _ _ _ _ _) _ _); with_reducible refine held_i ?_))
local macro_rules | `(tactic| walk_at "eval ListComp Call cons") => `(tactic| (k_here; with_reducible refine held_i ?_))
local macro_rules | `(tactic| walk_at "eval ListComp BinOp cons") => `(tactic| (k_here; with_reducible refine held_i ?_))
local macro_rules | `(tactic| walk_at "eval ListComp Subscript cons") => `(tactic| (k_here; with_reducible refine held_i ?_))
local macro_rules | `(tactic| walk_at "eval ListComp Name cons") => `(tactic| (k_here; with_reducible refine held_i ?_))
local macro_rules | `(tactic| walk_at "eval ListComp List cons") => `(tactic| (k_here; with_reducible refine held_i ?_))
local macro_rules | `(tactic| walk_at "exec Assign cons ListComp") => `(tactic| (k_here; with_reducible refine held_i ?_))
local macro_rules | `(tactic| walk_at "eval Name") => `(tactic| (k_here; (with_reducible show wpAny _ _ (PySem.eval _ (compEnvC _ _ _ _)) _ _ _); k_dflt (first
  | (refine' nm_L ?F ?v ?_ ?a ?b ?c; (case F => k_asm); (case a => rfl); (case b => rfl); (case c => rfl); (case v => rfl); k_whole)
  | (refine' nm_C ?F ?q ?v ?_ ?a ?b ?c; (case F => k_asm); (case a => rfl); (case b => rfl); (case c => rfl); (case q => rfl); (case v => k_asm); k_whole)
  | (refine' nm_K ?F ?X ?T ?q ?_ ?g ?a ?b ?c; (case F => k_asm); (case X => k_asm); (case T => k_asm); (case g => rfl); (case a => rfl); (case b => rfl); (case c => rfl); (case q => k_is); k_whole)
  | (refine' nm_B ?F ?X ?T ?q ?v ?n ?_ ?g ?g2 ?a ?b ?c; (case F => k_asm); (case X => k_asm); (case T => k_asm); (case g => rfl); (case g2 => rfl); (case a => rfl); (case b => rfl); (case c => rfl); (case q => k_is); (case v => boot_fast); (case n => decide); k_whole))))
local macro_rules | `(tactic| walk_at "eval GeneratorExp BinOp cons") => `(tactic| (k_here; with_reducible refine held_i ?_))
local macro_rules | `(tactic| walk_at "my_il") => `(tactic| first | assumption | exact IL.keeps (by assumption) (Fr.keep (by assumption)) | exact ⟨_, ⟨_, News.get (by assumption) (by k_mem)⟩, by assumption⟩)

section
local macro_rules | `(tactic| walk_at "call ref") => `(tactic| (k_here; (with_reducible show wpAny _ _ (call (Value.ref 125) [Value.ref _, Value.int _ _]) _ _ _); refine' k_contains ?k1 ?k2 ?k3 ?k4 ?k5 ?k6 ?_; (case k1 => k_asm); (case k2 => k_asm); (case k3 => k_asm); (case k4 => walk_at "my_room"); (case k5 => assumption); (case k6 => walk_at "my_il"); intro h' tk' F' N'; (try k_sweep)))
local macro_rules | `(tactic| walk_at "call ref") => `(tactic| (k_here; (with_reducible show wpAny _ _ (call (Value.ref 139) [Value.ref _, Value.int _ _]) _ _ _); refine' k_getitem ?k1 ?k2 ?k3 ?k4 ?k5 ?k6 ?k7 ?k8 ?k9 ?_; (case k1 => k_asm); (case k2 => k_asm); (case k3 => k_asm); (case k4 => walk_at "my_room"); (case k5 => assumption); (case k6 => walk_at "my_il"); (case k7 => first | assumption | omega); (case k8 => first | assumption | omega); (case k9 => first | assumption | omega); intro h' tk' v' F' N'; (try k_sweep)))
local macro_rules | `(tactic| walk_at "call ref") => `(tactic| (k_here; (with_reducible show wpAny _ _ (call (Value.ref 118) [Value.ref _, Value.ref _]) _ _ _); refine' k_concat ?k1 ?k2 ?k3 ?k4 ?k5 ?k6 ?k7 ?k8 ?k9 ?_; (case k1 => k_asm); (case k2 => k_asm); (case k3 => k_asm); (case k4 => walk_at "my_room"); (case k5 => assumption); (case k6 => walk_at "my_il"); (case k7 => walk_at "my_il"); (case k8 => first | assumption | omega | (simp only [List.length_map]; omega)); (case k9 => first | assumption | omega | (simp only [List.length_map]; omega)); intro h' tk' D' ws' c' F' N' hI' hne'; (try k_sweep)))
local macro_rules | `(tactic| walk_at "call ref") => `(tactic| (k_here; (with_reducible show wpAny _ _ (call (Value.ref 69) [Value.int _ _, Value.int _ _]) _ _ _); refine' k_add ?k1 ?k2 ?k3 ?k4 ?_; (case k1 => k_asm); (case k2 => k_asm); (case k3 => k_asm); (case k4 => walk_at "my_room"); intro h' tk' v' F' N'; (try k_sweep)))
local macro_rules | `(tactic| walk_at "call ref") => `(tactic| (k_here; (with_reducible show wpAny _ _ (call (Value.ref 76) [Value.int _ _, Value.int _ _]) _ _ _); refine' k_and_ ?k1 ?k2 ?k3 ?k4 ?_; (case k1 => k_asm); (case k2 => k_asm); (case k3 => k_asm); (case k4 => walk_at "my_room"); intro h' tk' v' F' N'; (try k_sweep)))
local macro_rules | `(tactic| walk_at "call ref") => `(tactic| (k_here; (with_reducible show wpAny _ _ (call (Value.ref 83) [Value.int _ _, Value.int _ _]) _ _ _); refine' k_mul ?k1 ?k2 ?k3 ?k4 ?k5 ?_; (case k1 => k_asm); (case k2 => k_asm); (case k3 => k_asm); (case k4 => walk_at "my_room"); (case k5 => first | assumption | walk_at "my_mul"); intro h' tk' v' F' N'; (try k_sweep)))
local macro_rules | `(tactic| walk_at "call ref") => `(tactic| (k_here; (with_reducible show wpAny _ _ (call (Value.ref 90) [Value.int _ _, Value.int _ _]) _ _ _); refine' k_or_ ?k1 ?k2 ?k3 ?k4 ?_; (case k1 => k_asm); (case k2 => k_asm); (case k3 => k_asm); (case k4 => walk_at "my_room"); intro h' tk' v' F' N'; (try k_sweep)))
local macro_rules | `(tactic| walk_at "call ref") => `(tactic| (k_here; (with_reducible show wpAny _ _ (call (Value.ref 97) [Value.int _ _, Value.int _ _]) _ _ _); refine' k_rshift ?k1 ?k2 ?k3 ?k4 ?k5 ?_; (case k1 => k_asm); (case k2 => k_asm); (case k3 => k_asm); (case k4 => walk_at "my_room"); (case k5 => first | assumption | decide); intro h' tk' v' F' N'; (try k_sweep)))
local macro_rules | `(tactic| walk_at "call ref") => `(tactic| (k_here; (with_reducible show wpAny _ _ (call (Value.ref 104) [Value.int _ _, Value.int _ _]) _ _ _); refine' k_sub ?k1 ?k2 ?k3 ?k4 ?_; (case k1 => k_asm); (case k2 => k_asm); (case k3 => k_asm); (case k4 => walk_at "my_room"); intro h' tk' v' F' N'; (try k_sweep)))
local macro_rules | `(tactic| walk_at "call ref") => `(tactic| (k_here; (with_reducible show wpAny _ _ (call (Value.ref 111) [Value.int _ _, Value.int _ _]) _ _ _); refine' k_xor ?k1 ?k2 ?k3 ?k4 ?_; (case k1 => k_asm); (case k2 => k_asm); (case k3 => k_asm); (case k4 => walk_at "my_room"); intro h' tk' v' F' N'; (try k_sweep)))

section
local macro_rules | `(tactic| walk_at "exec Raise some none") => `(tactic| (k_here; k_dflt (refine' raise_own ?F ?g ?O PySem.F.excBase_ValueError ?h ?_ ?gl ?a ?b ?c ?d ?e; (case F => k_asm); (case g => exact TopRead.g (by k_asm)); (case O => exact own_of_in (by k_asm) (by k_asm) (by k_is) (by k_exc)); (case h => first | rfl | assumption); (case gl => rfl); (case a => rfl); (case b => rfl); (case c => rfl); (case d => rfl); (case e => decide); k_whole)))
local macro_rules | `(tactic| walk_at "leaving ref") => `(tactic| (k_here; with_reducible refine held_i ?_))
local macro_rules | `(tactic| walk_at "ite") => `(tactic| (k_here; first | refine W.ite_pos (by simp only [bne_iff_ne, ne_eq, decide_eq_true_eq]; omega) ?_ | refine W.ite_neg (by simp only [bne_iff_ne, ne_eq, decide_eq_true_eq]; omega) ?_))

section
set_option maxHeartbeats 8000000 in
theorem call_cov_mis {prog : Program} {w : World} {A : Around} {E : Value → Shared → Prop} {s : Shared} {mg mb : Str → Option Value} {Q : Value → Shared → Prop} (ev : Ev w mg mb s.heap) (hroom : A.depth + 9 < recursionLimit) (hh : A.handled = none)
    {lx ly : Addr} {xs ys : List Int} (hlx : IL s.heap lx xs) (hly : IL s.heap ly ys) (hne : ys.length ≠ xs.length) (hx8 : xs.length ≤ 8) (hy8 : ys.length ≤ 8) {base : Heap} {outer : List Env} (K : Below A base outer s.heap)
    (k : ∀ h' tk e t tk' news, RaisedS base s.heap outer e (.ref 52) t [.str (Str.ofString "covariance requires that both inputs have same number of data points") tk'] news h' → s.heap.UpToSlots h' → E (.ref e) { s with heap := h', toks := tk }) :
    wpAny (model prog w) A (call (.ref 62) [.ref lx, .ref ly]) Q E s := by
  obtain ⟨vx, hpx, hix⟩ := hlx
  have hx := hpx.isList
  obtain ⟨vy, hpy, hiy⟩ := hly
  have hy := hpy.isList
  have hvx := hix.length
  have hvy := hiy.length
  refine wpAny_call ?_
  refine enterC (binds := [(Str.ofString "x", .ref lx), (Str.ofString "y", .ref ly)]) ev rfl rfl (by omega) (BindsTo.of_eq rfl) rfl (by decide +kernel) ?_ rfl rfl rfl
  intro L h₁ tk₀ cells hL F N Y'
  obtain ⟨o1, o2, rfl, ho1, ho2⟩ := Y'.two
  have KX := ev.K
  have TX := ev.T
  clear hpx hpy ev
  k_steps
  refine leave_made K (by assumption) (by assumption) (by assumption) rfl rfl ?_
  intro h' t R U
  exact k _ _ _ _ _ _ R U

set_option maxHeartbeats 8000000 in
theorem call_cov_one {prog : Program} {w : World} {A : Around} {E : Value → Shared → Prop} {s : Shared} {mg mb : Str → Option Value} {Q : Value → Shared → Prop} (ev : Ev w mg mb s.heap) (hroom : A.depth + 9 < recursionLimit) (hh : A.handled = none)
    {lx ly : Addr} {xs ys : List Int} (hlx : IL s.heap lx xs) (hly : IL s.heap ly ys) (hne : ys.length = xs.length) (hx8 : xs.length < 2) {base : Heap} {outer : List Env} (K : Below A base outer s.heap)
    (k : ∀ h' tk e t tk' news, RaisedS base s.heap outer e (.ref 52) t [.str (Str.ofString "covariance requires at least two data points") tk'] news h' → s.heap.UpToSlots h' → E (.ref e) { s with heap := h', toks := tk }) :
    wpAny (model prog w) A (call (.ref 62) [.ref lx, .ref ly]) Q E s := by
  obtain ⟨vx, hpx, hix⟩ := hlx
  have hx := hpx.isList
  obtain ⟨vy, hpy, hiy⟩ := hly
  have hy := hpy.isList
  have hvx := hix.length
  have hvy := hiy.length
  refine wpAny_call ?_
  refine enterC (binds := [(Str.ofString "x", .ref lx), (Str.ofString "y", .ref ly)]) ev rfl rfl (by omega) (BindsTo.of_eq rfl) rfl (by decide +kernel) ?_ rfl rfl rfl
  intro L h₁ tk₀ cells hL F N Y'
  obtain ⟨o1, o2, rfl, ho1, ho2⟩ := Y'.two
  have KX := ev.K
  have TX := ev.T
  clear hpx hpy ev
  k_steps
  refine leave_made K (by assumption) (by assumption) (by assumption) rfl rfl ?_
  intro h' t R U
  exact k _ _ _ _ _ _ R U
end

end

section
/-- the statements of law -/
def lawStmts : List Stmt := match PySem.Challenge.pw_re0015_01.main.body.drop 21 with | .FunctionDef _ _ body _ _ _ _ _ _ _ :: _ => body | _ => []
def lawScope : Scope := match PySem.Challenge.pw_re0015_01.main.body.drop 21 with | .FunctionDef _ _ _ _ _ _ sc _ _ _ :: _ => sc | _ => { kind := .function, names := [], isGenerator := false, isCoroutine := false, more := [] }
def lawEnv (L : Addr) : Env := envOfC (Str.ofString "law") lawScope L 170 (.ref 169)
def tabObj (ps : Array Value) : Obj := { cls := .none, data := .fields ps }

/-- a program with one line: all that is asked of a top for a try -/
def pMin : Program := { PySem.Challenge.pw_re0015_01 with main := { PySem.Challenge.pw_re0015_01.main with body := [.Import [{ name := "sys", asname := none, pos := ⟨1, 0, 1, 0⟩ }] ⟨1, 0, 1, 0⟩] } }

def CT (h0 : Heap) (ps : Array Value) : Prop := ∀ h : Heap, (∀ b o, h0.get? b = some o → h.get? b = some o) → h.get? 57 = some (tabObj ps) → h.IsCode 61 57 ps ∧ h.TableAt 61 57 ps

/-- what law stands on -/
structure LC (w : World) (mean : ExcName → Option Value) (mg mb : Str → Option Value) (h0 : Heap) : Prop where
  ev : Ev w mg mb h0
  top : ∃ loose, Top pMin loose mean mg mb h0
  bmod : ∃ bm ob, BMod h0 mainGlobals mg bm ob
  n57 : h0.get? 57 = none
  ct61 : ∃ o, h0.get? 61 = some o

theorem ct_of {h0 : Heap} {ps : Array Value} {h : Heap} (h61 : ∃ o, h0.get? 61 = some o) (k : ∀ b o, h0.get? b = some o → h.get? b = some o) (hok : h.IsCode 61 57 ps) (ht : h.TableAt 61 57 ps) : CT h0 ps := by
  intro h' k' h57
  obtain ⟨o61, e61⟩ := h61
  exact code_at hok ht (fun o e => by rw [k _ _ e61] at e; cases e; exact k' _ _ e61) h57

theorem top_min {mean : ExcName → Option Value} {mg mb : Str → Option Value} {h : Heap} (T : Top hd.view_39 (looseW hd.view_39 []) mean mg mb h) {ps : Array Value} (ht : h.TableAt 61 57 ps) : ∃ loose, Top pMin loose mean mg mb (hb h) := ⟨looseW hd.view_39 [] ++ (recsOf hd.view_39).map (·.name) ++ (litsOf hd.view_39).map (·.1) ++ (clssOf hd.view_39 (looseW hd.view_39 [])).map (·.name), {
  g := T.g.at' fun _ e => hb_get (by decide) e
  b := T.b.at' fun _ e => hb_get (by decide) e
  nolimit := let ⟨mc, h1, h2⟩ := T.nolimit; ⟨mc, h1.at' fun _ e => hb_get (by decide) e, h2⟩
  nodigits := let ⟨mc, h1, h2⟩ := T.nodigits; ⟨mc, h1.at' fun _ e => hb_get (by decide) e, h2⟩
  fn := fun d hd => by rw [show recsOf pMin = [] from rfl] at hd; cases hd
  own := fun o ho => by rw [show ownsOf pMin = [] from rfl] at ho; cases ho
  const := fun x d e => by rw [show valOf pMin x = none from rfl] at e; cases e
  free := fun x h1 h2 _ _ _ => by
    simp only [List.mem_append, not_or] at h2
    exact T.free x h1 h2.1.1.1 h2.1.1.2 h2.1.2 h2.2
  builtins := T.builtins
  tab := fun d hd => by rw [show recsOf pMin = [] from rfl] at hd; cases hd
  bmain := by
    obtain ⟨bm, ob, h1, h2, h3, h4, h5, h6⟩ := T.bmain
    refine ⟨bm, ob, h1, h2, hb_get ?_ h3, h4, h5, h6⟩
    rintro rfl
    rw [ht.2] at h3; cases h3; cases h6
  seer := fun h => by have : importsNone pMin = false := by decide +kernel
                      rw [this] at h; cases h }⟩

theorem lc_start {w : World} {mean : ExcName → Option Value} {mg mb : Str → Option Value} {s : Shared} (St : Start w mean mg mb s) : LC w mean mg mb (hb s.heap) ∧ CT (hb s.heap) #[] := by
  have h61 : ∃ o, (hb s.heap).get? 61 = some o := by
    obtain ⟨⟨o, vs, a, r⟩, _⟩ := St.tab
    exact ⟨o, hb_get (by decide) a⟩
  refine ⟨⟨ev_hb St.ev, top_min St.top St.tab, ?_, hb_60 _, h61⟩, ct_of (h := s.heap) h61 (fun b o e => of_hb e) St.code St.tab⟩
  obtain ⟨bm, ob, M⟩ := St.bmod
  exact ⟨bm, ob, ⟨M.ns.at' fun _ e => hb_get (M.apart St.tab).1 e, M.name, M.ne, hb_get (M.apart St.tab).2 M.obj, M.cls, M.dict, M.data⟩⟩

/-- the end of law, seen from within -/
def Fin (s : Shared) (h0 : Heap) (Q : Flow → Shared → Prop) : Prop := ∀ h' tk' g', (∀ b o, h0.get? b = some o → h'.get? b = some o) → (∃ ps, h'.get? 57 = some (tabObj ps)) → AllBare g' → Q (.ret (.bool true)) { s with heap := h', toks := tk', gens := g' }

/-- law from its statement n on -/
def LawGoal (prog : Program) (w : World) (L : Addr) (n : Nat) (Q : Flow → Shared → Prop) (E : Value → Shared → Prop) (s : Shared) : Prop := wpAny (model prog w) (callerA.deeper (lawEnv L)) (execs (lawStmts.drop n) (lawEnv L)) Q E s
end

section
local macro_rules | `(tactic| walk_at "my_sub") => `(tactic| first | exact List.forall_mem_nil _ | (refine' List.forall_mem_cons.mpr ⟨?a, ?b⟩; (case a => k_mem); (case b => walk_at "my_sub")))
local macro_rules | `(tactic| walk_at "my_two") => `(tactic| first | exact List.forall_mem_nil _ | (refine' List.forall_mem_cons.mpr ⟨⟨?a, ?b⟩, ?c⟩; (case a => k_ne); (case b => k_ne); (case c => walk_at "my_two")))

section
structure B0 (w : World) (mean : ExcName → Option Value) (mg mb : Str → Option Value) (s : Shared) (h0 : Heap) (L : Addr) (Q : Flow → Shared → Prop) : Prop where
  lc : LC w mean mg mb h0
  fin : Fin s h0 Q
  l57 : @LT.lt Nat _ 57 L

def SegB : Prop := ∀ (prog : Program) (w : World) (mean : ExcName → Option Value) (mg mb : Str → Option Value) (s : Shared) (h0 : Heap) (L : Addr) (h : Heap) (m : Str → Option Value) (tk : Nat) (Q : Flow → Shared → Prop) (E : Value → Shared → Prop)
  (lc : Addr) (wc : List Value) (kc : Nat) (cs : List Int) (o1 o2 o3 o4 o5 o6 : Obj), B0 w mean mg mb s h0 L Q → CT h0 #[] → AllBare s.gens → Fr h0 L h m → m (Str.ofString "cells") = some (.ref lc) →
  News h0 L h [(lc, listOf wc.toArray kc), (L+1, o1), (L+1+1, o2), (L+1+1+1, o3), (L+1+1+1+1, o4), (L+1+1+1+1+1, o5), (L+1+1+1+1+1+1, o6), (57, tabObj #[])] →
  @LT.lt Nat _ (L + 6) lc → o1.data = .cell none → o2.data = .cell none → o3.data = .cell none → o4.data = .cell none → o5.data = .cell none → o6.data = .cell none →
  IntsAre wc cs → cs.length = 11 → LawGoal prog w L 2 Q E { s with heap := h, toks := tk }

local macro_rules | `(tactic| walk_at "exec For Tuple Call cons nil") => `(tactic| (k_here; k_dflt (refine' for_start ?_ ?hs; (case hs => intro _; rfl))))
local macro_rules | `(tactic| walk_at "call type:enumerate") => `(tactic| (k_here; with_reducible refine held_i ?_))
set_option maxHeartbeats 8000000 in
theorem segA (H : SegB) : LawRuns := by
  intro prog w mean mg mb s l vs ns St hl hi hlen
  obtain ⟨lc, ct⟩ := lc_start St
  refine enterC (binds := [(Str.ofString "script", .ref l)]) St.ev rfl rfl (by decide) (BindsTo.of_eq rfl) rfl (by decide +kernel) ?_ rfl rfl rfl
  intro L h₁ tk₀ cells hL F N Y
  obtain ⟨o6, o5, o4, o3, o2, o1, rfl, d6, d5, d4, d3, d2, d1⟩ := kc_six Y
  replace d1 : o1.data = .cell none := d1
  replace d2 : o2.data = .cell none := d2
  replace d3 : o3.data = .cell none := d3
  replace d4 : o4.data = .cell none := d4
  replace d5 : o5.data = .cell none := d5
  replace d6 : o6.data = .cell none := d6
  have hl57 : l ≠ 57 := by
    rintro rfl
    obtain ⟨o, e, h1, h2⟩ := hl
    rw [St.tab.2] at e; cases e; cases h1
  have l57 : @LT.lt Nat _ 57 L := by rw [hL]; exact lt_sz St.tab.2
  have hl0 : (hb s.heap).IsList l vs.toArray := hl.at fun o e => hb_get hl57 e
  have N : News (hb s.heap) L h₁ [(L+1, o1), (L+1+1, o2), (L+1+1+1, o3), (L+1+1+1+1, o4), (L+1+1+1+1+1, o5), (L+1+1+1+1+1+1, o6), (57, tabObj #[])] := fun p hp => by
    rcases List.mem_append.mp (show p ∈ [(L+1, o1), (L+1+1, o2), (L+1+1+1, o3), (L+1+1+1+1, o4), (L+1+1+1+1+1, o5), (L+1+1+1+1+1+1, o6)] ++ [(57, tabObj #[])] from hp) with hp | hp
    · exact news_hb N p ((show ∀ p ∈ [(L+1, o1), (L+1+1, o2), (L+1+1+1, o3), (L+1+1+1+1, o4), (L+1+1+1+1+1, o5), (L+1+1+1+1+1+1, o6)], p ∈ [(L+1+1+1+1+1+1, o6), (L+1+1+1+1+1, o5), (L+1+1+1+1, o4), (L+1+1+1, o3), (L+1+1, o2), (L+1, o1)] from by walk_at "my_sub") p hp)
    · rw [List.mem_singleton.mp hp]
      exact ⟨F.keep _ _ St.tab.2, Nat.ne_of_lt l57, hb_60 _⟩
  have F := fr_hb F
  have hgens := St.gens
  generalize hB : hb s.heap = B at *
  have hfin : Fin s B (fun fl s' => LawEnd s (.ok (.ret (match fl with | .ret v => v | _ => .none))) s') := fun h' tk' g' k1 k2 k3 =>
    ⟨rfl, fun b o hne e => k1 b o (by rw [← hB]; exact hb_get hne e), k2, rfl, k3⟩
  have KX := lc.ev.K
  have TX := lc.ev.T
  clear St Y hL hB hl
  have hl := hl0
  clear hl0 hl57
  k_steps
  rename Fr _ _ _ _ => F'
  rename News _ _ _ _ => N'
  rename IntsAre _ (List.take 60 ns) => hS
  rename_i lc0 _ q1 _ D ws _ _ _ q2
  obtain ⟨q2, q3⟩ := q2
  replace q2 := ltN q2
  have q4 : @LT.lt Nat _ (L + 6) lc0 := q1.2.2.2.2.2.1
  generalize hlo : listOf ws.toArray 0 = lo at N'
  generalize hwl : (listOf _ 0 : Obj) = ol at N'
  refine for_enum (L := L) (vs := ws) (fun i m₁ news₁ => m₁ (Str.ofString "cells") = some (.ref lc0) ∧ ∃ wc kc cs, news₁ = [(D, lo), (lc0, listOf wc.toArray kc), (L+1, o1), (L+1+1, o2), (L+1+1+1, o3), (L+1+1+1+1, o4), (L+1+1+1+1+1, o5), (L+1+1+1+1+1+1, o6), (57, tabObj #[])] ∧ IntsAre wc cs ∧ cs.length = 11)
    rfl rfl rfl rfl rfl ⟨_, N'.get (.head _), by rw [← hlo], 0, by rw [← hlo]⟩ F' N' ⟨rfl, ?_⟩ (N' _ (.head _)).2.1 ?_ ?_ ?_
  · subst hwl
    exact ⟨_, 0, [3, -1, 4, 1, -5, 9, 2, -6, 5, 3, 4], rfl, .cons _ _ (.cons _ _ (.cons _ _ (.cons _ _ (.cons _ _ (.cons _ _ (.cons _ _ (.cons _ _ (.cons _ _ (.cons _ _ (.cons _ _ .nil)))))))))), rfl⟩
  · refine ⟨lo, ?_⟩
    rintro i m₁ news₁ h ⟨_, wc, kc, cs, rfl, _⟩ _ N
    exact N.get (.head _)
  · rintro I e i v m₁ news₁ h tk1 tk2 oI oe E' hv ⟨h1, wc, kc, cs, rfl, hw, hcl⟩ hlow hIe hn F₁ N₁
    obtain ⟨n, tn, rfl, hx⟩ := hS.at i v hv
    k_lt hlow
    replace hIe := ltN hIe
    have F₂ := fr_know F₁ (x := Str.ofString "cells") (v := some (.ref lc0)) (by
      show (if _ then _ else if _ then _ else m₁ _) = _
      rw [if_neg (by decide), if_neg (by decide)]; exact h1)
    clear F₁ F' N' hwl
    have hi0 : (0 : Int) ≤ (i : Int) := Int.natCast_nonneg i
    have hi60 : (i : Int) < 60 := by
      have := (List.getElem?_eq_some_iff.mp hx).1
      rw [List.length_take] at this
      omega
    generalize hp : (i : Int) = p at *
    clear hn
    k_steps
    rename Fr _ _ _ _ => F'
    rename News _ _ _ _ => N'
    rename IntsAre (List.set _ _ _) _ => hi'
    exact turn_nextE F' N' (by walk_at "my_two") ⟨rfl, _, _, _, rfl, hi', by simp [hcl]⟩
  · rintro m₁ news₁ h tk1 ⟨h1, wc, kc, cs, rfl, hw, hcl⟩ F₁ N₁
    exact H prog w mean mg mb s B L h m₁ tk1 _ _ lc0 wc kc cs o1 o2 o3 o4 o5 o6 ⟨lc, hfin, l57⟩ ct (AllBare.of_eq hgens) F₁ h1 (fun p hp => N₁ p (.tail _ hp)) q4 d1 d2 d3 d4 d5 d6 hw hcl
end

end

section
local macro_rules | `(tactic| walk_at "my_law") => `(tactic| (unfold LawGoal; dsimp only [lawStmts, lawEnv, lawScope, PySem.Challenge.pw_re0015_01, List.drop, List.drop_succ_cons, List.drop_zero]))

section
def TB (tb : List Int) : Prop := tb.length = 8 ∧ ∀ t ∈ tb, -262144 ≤ t ∧ t < 262144
def ST (st : List Int) : Prop := st.length = 3 ∧ ∀ t ∈ st, 0 ≤ t ∧ t < 8

def SegO : Prop := ∀ (prog : Program) (w : World) (mean : ExcName → Option Value) (mg mb : Str → Option Value) (s : Shared) (h0 : Heap) (L : Addr) (h : Heap) (m : Str → Option Value) (tk : Nat) (Q : Flow → Shared → Prop) (E : Value → Shared → Prop)
  (T S : Addr) (wt ws : List Value) (kt ks : Nat) (tb st : List Int) (o1 o2 o3 o4 o5 o6 : Obj), B0 w mean mg mb s h0 L Q → CT h0 #[] → AllBare s.gens → Fr h0 L h m → m (Str.ofString "steps") = some (.ref S) →
  News h0 L h [(S, listOf ws.toArray ks), (T, listOf wt.toArray kt), (L+1, o1), (L+1+1, o2), (L+1+1+1, o3), (L+1+1+1+1, o4), (L+1+1+1+1+1, o5), (L+1+1+1+1+1+1, o6), (57, tabObj #[])] →
  @LT.lt Nat _ (L + 6) T → @LT.lt Nat _ T S → o1.data = .cell (some (.ref T)) → o2.data = .cell none → o3.data = .cell none → o4.data = .cell none → o5.data = .cell none → o6.data = .cell none →
  IntsAre wt tb → TB tb → IntsAre ws st → ST st → LawGoal prog w L 4 Q E { s with heap := h, toks := tk }

theorem fmod_pos (a : Int) {b : Int} (h : 0 < b) : a.fmod b = a % b := Int.fmod_eq_emod_of_nonneg a (Int.le_of_lt h)
theorem assign_cell {prog : Program} {w : World} {A : Around} {E : Value → Shared → Prop} {s : Shared} {env : Env} {x : Str} {pos' : Pos} {value : PySem.Expr} {pos : Pos} {Q : Flow → Shared → Prop}
    (h : wpAny (model prog w) A (eval value env) (fun v s₁ => wpAny (model prog w) A (storeName env x v) (fun _ => Q .next) E s₁) E s)
    (hs : swapsWith value (some (.Name x pos')) pos.line env = pure false) : wpAny (model prog w) A (exec (.Assign [.Name x pos'] value pos) env) Q E s := wpAny_Assign_Name h hs

set_option maxHeartbeats 8000000 in
theorem segB (H : SegO) : SegB := by
  intro prog w mean mg mb s h0 L h m tk Q E lc wc kc cs o1 o2 o3 o4 o5 o6 b ct hg F hm N hlc d1 d2 d3 d4 d5 d6 hw hcl
  have l57 := b.l57
  have KX := b.lc.ev.K
  have TX := b.lc.ev.T
  have F := fr_know F hm
  walk_at "my_law"
  k_steps
  refine assign_cell ?_ (by rfl)
  k_steps
  refine comp_start (cl := []) rfl rfl (by decide) ?_ (by intro _; rfl)
  k_steps
  rename Fr _ _ _ _ => F'
  rename News _ _ _ _ => N'
  rename IntsAre _ (List.take 8 cs) => hS
  rename_i D ws _ _ _ q2
  have evS := b.lc.ev.keeps F'.keep
  have hSl := hS.length
  refine compE_list (JI (cs.take 8) fun c => (c + 262144).fmod 524288 - 262144) (cj_JI _ _ _) ⟨by decide, rfl, rfl⟩ rfl ⟨_, N'.get (.head _), rfl, 0, rfl⟩ F' N' (by rw [hS.length, List.length_take, hcl]; decide) ?_ ?_
  · intro I₂ C D₂ j v₂ m₂ ys kk nw h₂ tk₂ o₂ E₂ hI₂ hD₂ hC₂ hj hP hJ hn₂ G NN tk₃ htk
    obtain ⟨x, tx, rfl, hx⟩ := hS.at j v₂ hP
    obtain rfl := hJ.2.1
    clear F' N' KX TX
    have KX := evS.K
    have TX := evS.T
    k_steps
    rename Fr _ _ _ _ => F'
    rename News _ _ _ _ => N'
    exact elt_end F' N' (fun _ h => nomatch h) (hJ.snoc hx)
  · intro T ys kk nw h₂ tk₂ hJ F₂ N₂ hlt₂
    rw [hS.length] at hJ
    obtain ⟨rfl, hys⟩ := hJ.end
    have hTD := hlt₂ (D, _) (.head _)
    have hTl := hlt₂ (lc, _) (.tail _ (.head _))
    have hlt₃ : ∀ p ∈ [(lc, listOf wc.toArray kc), (L+1, o1), (L+1+1, o2), (L+1+1+1, o3), (L+1+1+1+1, o4), (L+1+1+1+1+1, o5), (L+1+1+1+1+1+1, o6), (57, tabObj #[])], p.1 < T := fun p hp => hlt₂ p (.tail _ hp)
    k_lt hlt₃
    replace hTD := ltN hTD
    replace hTl := ltN hTl
    have N₂ : News h0 L h₂ [(T, listOf ys.toArray kk), (lc, listOf wc.toArray kc), (L+1, o1), (L+1+1, o2), (L+1+1+1, o3), (L+1+1+1+1, o4), (L+1+1+1+1+1, o5), (L+1+1+1+1+1+1, o6), (57, tabObj #[])] := fun p hp => N₂ p (by
      rcases List.mem_cons.mp hp with rfl | hp
      · exact .head _
      · exact .tail _ (.tail _ hp))
    clear F' N' hlt₂ evS q2
    k_steps
    rename Fr _ _ _ _ => F'
    rename News _ _ _ _ => N'
    rename (Obj.data _ = Data.cell (some (Value.ref T))) => d1'
    clear d1 hS hSl
    refine comp_assign (cl := []) rfl rfl rfl (by decide) ?_ (by intro _; rfl)
    k_steps
    rename Fr _ _ _ _ => F'
    rename News _ _ _ _ => N'
    rename IntsAre _ (List.drop 8 cs) => hS
    rename_i D5 ws5 _ _ _ q5
    have evS := b.lc.ev.keeps F'.keep
    have hSl := hS.length
    refine compA_list (L := L) (JI (cs.drop 8) fun c => c.fmod 8) (cj_JI _ _ _) ⟨by decide, rfl, rfl⟩ rfl rfl rfl rfl ⟨_, N'.get (.head _), rfl, 0, rfl⟩ F' N' (by rw [hS.length, List.length_drop, hcl]; decide) ?_ ?_
    · intro I₂ C D₂ j v₂ m₂ ys' kk' nw h₂ tk₂ o₂ E₂ hI₂ hD₂ hC₂ hj hP hJ hn₂ G NN tk₃ htk
      obtain ⟨x, tx, rfl, hx⟩ := hS.at j v₂ hP
      obtain rfl := hJ.2.1
      clear F' N' KX TX
      have KX := evS.K
      have TX := evS.T
      k_steps
      rename Fr _ _ _ _ => F'
      rename News _ _ _ _ => N'
      exact elt_end F' N' (fun _ h => nomatch h) (hJ.snoc hx)
    · intro S ys' kk' nw h₃ tk₃ hJ F₃ N₃ hlt₄
      rw [hS.length] at hJ
      obtain ⟨rfl, hys'⟩ := hJ.end
      have hTS := hlt₄ _ (.tail _ (.head _))
      exact H prog w mean mg mb s h0 L h₃ _ tk₃ Q E T S ys ys' kk kk' _ _ _ o2 o3 o4 o5 o6 b ct hg F₃ rfl (fun p hp => N₃ p (by
        rcases List.mem_cons.mp hp with rfl | hp
        · exact .head _
        · rcases List.mem_cons.mp hp with rfl | hp
          · exact .tail _ (.tail _ (.head _))
          · exact .tail _ (.tail _ (.tail _ (.tail _ hp))))) hlt₃.2.2.2.2.2.2.1 hTS d1' d2 d3 d4 d5 d6 hys
        ⟨by rw [List.length_map, List.length_take, hcl]; rfl, fun t ht => by
          obtain ⟨c, _, rfl⟩ := List.mem_map.mp ht
          rw [fmod_pos (c + 262144) (by decide)]
          omega⟩ hys'
        ⟨by rw [List.length_map, List.length_drop, hcl], fun t ht => by
          obtain ⟨c, _, rfl⟩ := List.mem_map.mp ht
          rw [fmod_pos c (by decide)]
          omega⟩
end

section
def StopMark : Prop := True
local macro_rules | `(tactic| walk_at "execs cons") => `(tactic| (k_here; (have hst' : StopMark := by with_reducible assumption); clear hst'; with_reducible refine held_i ?_))
local macro_rules | `(tactic| walk_at "call type:range cons nil") => `(tactic| (k_here; (with_reducible show wpAny _ _ (call (Value.type "range") _) (CompK _ _ _ _ _ _ _ _ _ _ _ _ _) _ _); with_reducible refine held_i ?_))

set_option maxHeartbeats 4000000 in
theorem call_and_T {prog : Program} {w : World} {A : Around} {E : Value → Shared → Prop} {s : Shared} {mg mb : Str → Option Value} {a b : Int} {t u : Tok} {Q : Value → Shared → Prop} (ev : Ev w mg mb s.heap) (hroom : A.depth < recursionLimit)
    (k : ∀ h' tk v, (∀ b o, s.heap.get? b = some o → h'.get? b = some o) → s.toks < v → v < tk → Q (.int (Builtin.bitAnd a b) v) { s with heap := h', toks := tk }) : wpAny (model prog w) A (call (.ref 76) [.int a t, .int b u]) Q E s := by
  refine wpAny_call ?_
  refine enter (binds := [(Str.ofString "a", .int a t), (Str.ofString "b", .int b u)]) ev rfl rfl hroom (BindsTo.of_eq rfl) (locs rfl) ?_ (by decide) rfl rfl rfl
  intro h₁ F
  have KX := ev.K
  have TX := ev.T
  have NX : News s.heap s.heap.objs.size h₁ [] := News.nil
  k_steps
  exact k _ _ _ F.keep (by simp) (by simp)

set_option maxHeartbeats 4000000 in
theorem call_rshift_T {prog : Program} {w : World} {A : Around} {E : Value → Shared → Prop} {s : Shared} {mg mb : Str → Option Value} {a b : Int} {t u : Tok} {Q : Value → Shared → Prop} (ev : Ev w mg mb s.heap) (hroom : A.depth < recursionLimit) (hb : 0 ≤ b)
    (k : ∀ h' tk v, (∀ b o, s.heap.get? b = some o → h'.get? b = some o) → s.toks ≤ tk → Q (.int (a.fdiv (2 ^ b.toNat)) v) { s with heap := h', toks := tk }) : wpAny (model prog w) A (call (.ref 97) [.int a t, .int b u]) Q E s := by
  refine wpAny_call ?_
  refine enter (binds := [(Str.ofString "a", .int a t), (Str.ofString "b", .int b u)]) ev rfl rfl hroom (BindsTo.of_eq rfl) (locs rfl) ?_ (by decide) rfl rfl rfl
  intro h₁ F
  have KX := ev.K
  have TX := ev.T
  have NX : News s.heap s.heap.objs.size h₁ [] := News.nil
  k_steps
  exact k _ _ _ F.keep (by simp; omega)

section
variable {prog : Program} {w : World} {A : Around} {E : Value → Shared → Prop} {s : Shared} {mg mb : Str → Option Value} {h₀ : Heap} {L : Addr} {m : Str → Option Value} {news : List (Addr × Obj)} {Q : Value → Shared → Prop}
theorem k_and_T {a b : Int} {t u : Tok} (F : Fr h₀ L s.heap m) (N : News h₀ L s.heap news) (ev : Ev w mg mb h₀) (hroom : A.depth < recursionLimit)
    (k : ∀ h' tk v, Fr h₀ L h' m → News h₀ L h' news → s.toks < v → v < tk → Q (.int (Builtin.bitAnd a b) v) { s with heap := h', toks := tk }) : wpAny (model prog w) A (call (.ref 76) [.int a t, .int b u]) Q E s :=
  call_and_T (ev.keeps F.keep) hroom fun h' tk v hk h1 h2 => k h' tk v (F.keeps hk) (news_keeps N hk) h1 h2
theorem k_rshift_T {a b : Int} {t u : Tok} (F : Fr h₀ L s.heap m) (N : News h₀ L s.heap news) (ev : Ev w mg mb h₀) (hroom : A.depth < recursionLimit) (hb : 0 ≤ b)
    (k : ∀ h' tk v, Fr h₀ L h' m → News h₀ L h' news → s.toks ≤ tk → Q (.int (a.fdiv (2 ^ b.toNat)) v) { s with heap := h', toks := tk }) : wpAny (model prog w) A (call (.ref 97) [.int a t, .int b u]) Q E s :=
  call_rshift_T (ev.keeps F.keep) hroom hb fun h' tk v hk h1 => k h' tk v (F.keeps hk) (news_keeps N hk) h1
theorem k_countOf {l : Addr} {ns : List Int} {b : Int} {u : Tok} (F : Fr h₀ L s.heap m) (N : News h₀ L s.heap news) (ev : Ev w mg mb h₀) (hroom : A.depth < recursionLimit) (hh : A.handled = none) (hl : ILT s.heap l ns u) (hu : u ≠ 0)
    (k : ∀ h' tk v, Fr h₀ L h' m → News h₀ L h' news → Q (.int (cnt b ns) v) { s with heap := h', toks := tk }) : wpAny (model prog w) A (call (.ref 132) [.ref l, .int b u]) Q E s :=
  call_countOf (ev.keeps F.keep) hroom hh hl hu fun h' tk v hk => k h' tk v (F.keeps hk) (news_keeps N hk)

variable {env : Env} {elt iter : PySem.Expr} {x : Str} {px pos : Pos} {scope : Scope} {cl : List (Str × Addr)}
theorem comp_range1 {b : Int} {t₁ : Tok} (J : Nat → List Value → List (Addr × Obj) → Nat → Prop) (cj : CJ J s.toks) (cs : CScope scope x) (hh : A.handled = none) (hb0 : 0 ≤ b) (hb : b < 2 ^ 62) (F : Fr h₀ L s.heap m) (N : News h₀ L s.heap news) (hnsz : b.toNat ≤ sizeLine)
    (turn : ∀ s₁ : Shared, (∀ b o, s.heap.get? b = some o → s₁.heap.get? b = some o) → s₁.gens = s.gens → CTurn prog w A s₁ env elt x scope cl b.toNat (fun i v => ∃ t, v = .int (i : Nat) t) J)
    (done : ∀ D ys k nw h' tk, J b.toNat ys nw tk → Fr h₀ L h' m → News h₀ L h' ((D, listOf ys.toArray k) :: nw ++ news) → (∀ p ∈ news, p.1 < D) → Q (.ref D) { s with heap := h', toks := tk }) :
    wpAny (model prog w) A (call (.type "range") [.int b t₁]) (CompK prog w A env elt iter x px scope cl pos Q E) E s := by
  refine call_range_1 ?_
  refine compE_range J ⟨cj.tk _ _ _ _ _ cj.zero (by show s.toks ≤ s.toks + 1 + 1; omega), cj.len, cj.tk⟩ cs hh (IsRange.new ..) (by decide) hb0 hb (F.push _) (news_keeps N fun _ _ e => Heap.get?_push_of_some _ e) (by rw [Int.sub_zero]; exact hnsz) ?_ ?_
  · rw [Int.sub_zero]
    simp only [Int.zero_add, Int.mul_one]
    exact turn _ (fun _ _ e => Heap.get?_push_of_some _ e) rfl
  · intro D ys k nw h' tk hJ
    rw [Int.sub_zero] at hJ
    exact done D ys k nw h' tk hJ
theorem comp_range1C {b : Int} {t₁ : Tok} (J : Nat → List Value → Nat → Prop) (hcells : ∀ n, cellsFrom n scope.names [] = [(x, n)]) (hkind : scope.kind = .function) (hx : ∀ C, (compEnvC scope [(x, C + 1)] C env).kindOf x = some .cell)
    (hh : A.handled = none) (hb0 : 0 ≤ b) (hb : b < 2 ^ 62) (F : Fr h₀ L s.heap m) (N : News h₀ L s.heap news) (hnsz : b.toNat ≤ sizeLine)
    (hj : J 0 [] s.toks) (hJl : ∀ i ys tk, J i ys tk → ys.length = i) (hJt : ∀ i ys tk tk', J i ys tk → tk ≤ tk' → J i ys tk')
    (turn : ∀ s₁ : Shared, (∀ b o, s.heap.get? b = some o → s₁.heap.get? b = some o) → s₁.gens = s.gens → ∀ I C D (i : Nat) t (m₁ : Str → Option Value) ys k h tk o oM E', s₁.heap.objs.size ≤ I → I < D → D < C → i < b.toNat → J i ys tk → oM.data = .cell (some (.int i t)) → Fr s₁.heap C h m₁ → News s₁.heap C h [(I, o), (D, listOf ys.toArray k), (C + 1, oM)] →
      ∀ tk₂, tk ≤ tk₂ → wpAny (model prog w) A (eval elt (compEnvC scope [(x, C + 1)] C env)) (EltEndC s₁ C I D o m₁ ys k (J (i + 1))) E' { s₁ with heap := h, toks := tk₂ })
    (done : ∀ D ys k h' tk, J b.toNat ys tk → Fr h₀ L h' m → News h₀ L h' ((D, listOf ys.toArray k) :: news) → (∀ p ∈ news, p.1 < D) → Q (.ref D) { s with heap := h', toks := tk }) :
    wpAny (model prog w) A (call (.type "range") [.int b t₁]) (CompK prog w A env elt iter x px scope [] pos Q E) E s := by
  refine call_range_1 ?_
  exact compE_rangeC J hcells hkind hx hh (IsRange.new ..) hb0 hb (F.push _) (news_keeps N fun _ _ e => Heap.get?_push_of_some _ e) hnsz (hJt _ _ _ _ hj (by show s.toks ≤ s.toks + 1 + 1; omega)) hJl hJt
    (turn _ (fun _ _ e => Heap.get?_push_of_some _ e) rfl) done
end

local macro_rules | `(tactic| walk_at "call ref") => `(tactic| (k_here; (with_reducible show wpAny _ _ (call (Value.ref 76) [Value.int _ _, Value.int _ _]) _ _ _); refine' k_and_T ?k1 ?k2 ?k3 ?k4 ?_; (case k1 => k_asm); (case k2 => k_asm); (case k3 => k_asm); (case k4 => walk_at "my_room"); intro h' tk' v' F' N' ht1' ht2'; (try dsimp only at ht1'); (try k_sweep)))
local macro_rules | `(tactic| walk_at "call ref") => `(tactic| (k_here; (with_reducible show wpAny _ _ (call (Value.ref 97) [Value.int _ _, Value.int _ _]) _ _ _); refine' k_rshift_T ?k1 ?k2 ?k3 ?k4 ?k5 ?_; (case k1 => k_asm); (case k2 => k_asm); (case k3 => k_asm); (case k4 => walk_at "my_room"); (case k5 => first | assumption | decide); intro h' tk' v' F' N' ht1'; (try dsimp only at ht1'); (try k_sweep)))

def bitAt (mask : Int) (k : Nat) : Int := Builtin.bitAnd (mask.fdiv (2 ^ (k : Int).toNat)) 1
def bitsOf (mask : Int) : List Int := (List.range 3).map (bitAt mask)
def oddOf (mask : Int) : Int := (cnt 1 (bitsOf mask)).fmod 2
theorem bits_small : ∀ m : Nat, m < 8 → ∀ k : Nat, k < 3 → smallInt (bitAt m k) = true := by decide

def JB (mask : Int) : Nat → List Value → List (Addr × Obj) → Nat → Prop := fun i ys nw tk => nw = [] ∧ IntsAre ys ((List.range i).map (bitAt mask)) ∧ ∀ v ∈ ys, ∀ n t, v = .int n t → smallInt n = true ∧ t ≠ 0 ∧ t < tk
theorem cj_JB (mask : Int) (tk : Nat) : CJ (JB mask) tk where
  zero := ⟨rfl, .nil, fun _ h => nomatch h⟩
  len := fun i ys nx tk h => by rw [h.2.1.length, List.length_map, List.length_range]
  tk := fun _ _ _ _ _ h hle => ⟨h.1, h.2.1, fun v hv n t e => ⟨(h.2.2 v hv n t e).1, (h.2.2 v hv n t e).2.1, Nat.lt_of_lt_of_le (h.2.2 v hv n t e).2.2 hle⟩⟩
theorem JB.snoc {mask : Int} {i : Nat} {ys : List Value} {nw : List (Addr × Obj)} {tk tk' : Nat} {t : Tok} (h : JB mask i ys nw tk) (hs : smallInt (bitAt mask i) = true) (hle : tk ≤ tk') (ht : tk < t) (ht' : t < tk') : JB mask (i + 1) (ys ++ [.int (bitAt mask i) t]) [] tk' := by
  refine ⟨rfl, ?_, fun v hv n t' e => ?_⟩
  · rw [List.range_succ, List.map_append]
    exact intsAre_snoc h.2.1
  · rcases List.mem_append.mp hv with hv | hv
    · have := h.2.2 v hv n t' e
      exact ⟨this.1, this.2.1, Nat.lt_of_lt_of_le this.2.2 hle⟩
    · rw [List.mem_singleton.mp hv] at e
      cases e
      exact ⟨hs, by rintro rfl; exact absurd ht (Nat.not_lt_zero _), ht'⟩

def SegS : Prop := ∀ (prog : Program) (w : World) (mean : ExcName → Option Value) (mg mb : Str → Option Value) (s : Shared) (h0 : Heap) (L : Addr) (h : Heap) (m : Str → Option Value) (tk : Nat) (Q : Flow → Shared → Prop) (E : Value → Shared → Prop)
  (T S O : Addr) (wt ws wo : List Value) (kt ks ko : Nat) (tb st : List Int) (o1 o2 o3 o4 o5 o6 : Obj), B0 w mean mg mb s h0 L Q → CT h0 #[] → AllBare s.gens → Fr h0 L h m → m (Str.ofString "steps") = some (.ref S) →
  News h0 L h [(O, listOf wo.toArray ko), (S, listOf ws.toArray ks), (T, listOf wt.toArray kt), (L+1, o1), (L+1+1, o2), (L+1+1+1, o3), (L+1+1+1+1, o4), (L+1+1+1+1+1, o5), (L+1+1+1+1+1+1, o6), (57, tabObj #[])] →
  @LT.lt Nat _ (L + 6) T → @LT.lt Nat _ T S → @LT.lt Nat _ S O → o1.data = .cell (some (.ref T)) → o2.data = .cell (some (.ref O)) → o3.data = .cell none → o4.data = .cell none → o5.data = .cell none → o6.data = .cell none →
  IntsAre wt tb → TB tb → IntsAre ws st → ST st → IntsAre wo ((List.range 8).map fun i => oddOf (i : Nat)) → LawGoal prog w L 5 Q E { s with heap := h, toks := tk }

set_option maxHeartbeats 8000000 in
theorem segO (H : SegS) : SegO := by
  intro prog w mean mg mb s h0 L h m tk Q E T S wt ws kt ks tb st o1 o2 o3 o4 o5 o6 b ct hg F hm N hT hS d1 d2 d3 d4 d5 d6 hwt htb hws hst
  have l57 := b.l57
  have KX := b.lc.ev.K
  have TX := b.lc.ev.T
  have F := fr_know F hm
  walk_at "my_law"
  k_steps
  refine assign_cell ?_ (by rfl)
  k_steps
  refine comp_start (cl := []) rfl rfl (by decide) ?_ (by intro _; rfl)
  k_steps
  refine comp_range1C (fun i ys _ => IntsAre ys ((List.range i).map fun j => oddOf (j : Nat))) (fun n => rfl) rfl (fun C => rfl) rfl (by decide) (by decide) F N (by decide) .nil (fun i ys tk hj => by rw [hj.length, List.length_map, List.length_range]) (fun _ _ _ _ h _ => h) ?_ ?_
  · intro s₁ hk₁ hg₁ I C D i t m₁ ys k h₁ tk₁ o oM E' hI hD hC hi hj hoM G NN tk₂ htk
    replace hI := ltN (Nat.lt_succ_of_le hI)
    replace hD := ltN hD
    replace hC := ltN hC
    have evS := (b.lc.ev.keeps F.keep).keeps hk₁
    clear F N KX TX
    have KX := evS.K
    have TX := evS.T
    k_steps
    refine comp_start (cl := [(Str.ofString "mask", C + 1)]) rfl rfl (by decide) ?_ (by intro _; rfl)
    k_steps
    have hcl : ∀ h' : Heap, (∀ b o, h₁.get? b = some o → h'.get? b = some o) → Heap.IsCell h' (C+1) (some (.int i t)) := fun h' k => ⟨oM, k _ _ (NN _ (.tail _ (.tail _ (.head _)))).1, hoM⟩
    have evI := evS.keeps G.keep
    refine comp_range1 (JB i) (cj_JB _ _) ⟨by decide, rfl, rfl⟩ rfl (by decide) (by decide) G NN (by decide) ?_ ?_
    · intro s₂ hk₂ hg₂ I₂ C₂ D₂ j v m₂ ys₂ k₂ nw h₂ tk₃ o₂ E₂ hI₂ hD₂ hC₂ hjj hP hJ hn₂ G₂ NN₂ tk₄ htk₄
      obtain ⟨tt, rfl⟩ := hP
      have evE := evI.keeps hk₂
      have hcell := hcl s₂.heap hk₂
      obtain rfl := hJ.1
      clear G NN KX TX hoM
      have KX := evE.K
      have TX := evE.T
      have hj0 : (0 : Int) ≤ (j : Int) := Int.natCast_nonneg j
      have hsm := bits_small i hi j hjj
      k_steps
      rename Fr _ _ _ _ => F'
      rename News _ _ _ _ => N'
      exact elt_end F' N' (fun _ h => nomatch h) (hJ.snoc (t := _) hsm (by omega) (by omega) (by assumption))
    · intro D₂ ys₂ k₂ nw h' tk₃ hJ F' N' hlt
      obtain ⟨rfl, hys, htoks⟩ := hJ
      simp only [List.cons_append, List.nil_append] at N'
      clear G NN
      k_lt hlt
      k_steps
      have hu : tk₃ ≠ 0 := by
        obtain ⟨v, hv⟩ : ∃ v, v ∈ ys₂ := by
          cases ys₂ with
          | nil => cases hys
          | cons v r => exact ⟨v, .head _⟩
        obtain ⟨j, hjv⟩ := List.getElem?_of_mem hv
        obtain ⟨n, tn, rfl, _⟩ := hys.at j v hjv
        exact Nat.ne_of_gt (Nat.lt_of_le_of_lt (Nat.zero_le _) (htoks _ hv n tn rfl).2.2)
      refine k_countOf F' N' evS (by k_room) rfl ⟨ys₂, ⟨k₂, N'.get (.head _)⟩, hys, fun v hv n t e => ⟨(htoks v hv n t e).1, (htoks v hv n t e).2.1, Nat.ne_of_lt (htoks v hv n t e).2.2⟩⟩ hu ?_
      intro h'' tk₄ v₄ F₄ N₄
      clear F' N'
      k_steps
      rename Fr _ _ _ _ => F'
      rename News _ _ _ _ => N'
      refine ⟨_, _, oM, _, rfl, F', fun p hp => N' p ?_, hoM, ?_⟩
      · rcases List.mem_cons.mp hp with rfl | hp
        · k_mem
        · rcases List.mem_cons.mp hp with rfl | hp
          · k_mem
          · rw [List.mem_singleton.mp hp]; k_mem
      · rw [List.range_succ, List.map_append]
        exact intsAre_snoc hj
  · intro O ys k h' tk' hj F' N' hlt
    clear F N
    have hlO := hlt _ (.head _)
    k_lt hlt
    have hstop : StopMark := trivial
    k_steps
    rename Fr _ _ _ _ => F'
    rename News _ _ _ _ => N'
    rename (Obj.data _ = Data.cell (some (Value.ref O))) => d2'
    exact H prog w mean mg mb s h0 L _ _ _ Q E T S O wt ws ys kt ks k tb st o1 _ o3 o4 o5 o6 b ct hg F' rfl N' hT hS hlO d1 d2' d3 d4 d5 d6 hwt htb hws hst hj
end

end

section
local macro_rules | `(tactic| walk_at "my_sub") => `(tactic| first | exact List.forall_mem_nil _ | (refine' List.forall_mem_cons.mpr ⟨?a, ?b⟩; (case a => k_mem); (case b => walk_at "my_sub")))
local macro_rules | `(tactic| walk_at "my_law") => `(tactic| (unfold LawGoal; dsimp only [lawStmts, lawEnv, lawScope, PySem.Challenge.pw_re0015_01, List.drop, List.drop_succ_cons, List.drop_zero]))

section
def StopFor : Prop := True
local macro_rules | `(tactic| walk_at "execs cons") => `(tactic| (k_here; (have hst' : StopMark := by with_reducible assumption); clear hst'; with_reducible refine held_i ?_))
local macro_rules | `(tactic| walk_at "execs cons") => `(tactic| (k_here; (have hst' : StopFor := by with_reducible assumption); (with_reducible show wpAny _ _ (execs (PySem.Stmt.For _ _ _ _ _ :: _) _) _ _ _); clear hst'; with_reducible refine held_i ?_))

/-- a list of ints that stands in the ledger's tail -/
def RL (rest : List (Addr × Obj)) (a : Addr) (ns : List Int) : Prop := ∃ ws k, (a, listOf ws.toArray k) ∈ rest ∧ IntsAre ws ns
def RC (rest : List (Addr × Obj)) (c : Addr) (v : Value) : Prop := ∃ o, (c, o) ∈ rest ∧ o.data = .cell (some v)
def oddL : List Int := (List.range 8).map fun i => oddOf (i : Nat)
def sqOf (tb : List Int) : List Int := (couter tb [1, 2, 4]).map fun c => c * c
/-- what no longer turns -/
structure Z (L : Addr) (rest : List (Addr × Obj)) (T WD SQ O S : Addr) (tb st : List Int) : Prop where
  htb : TB tb
  hst : ST st
  t : RL rest T tb
  w : RL rest WD (tb.map fun v => 56 * v)
  q : RL rest SQ (sqOf tb)
  o : RL rest O oddL
  s : RL rest S st
  c1 : RC rest (L+1) (.ref T)
  c2 : RC rest (L+1+1) (.ref O)
  n57 : ∀ p ∈ rest, p.1 ≠ 57
  n5 : ∀ p ∈ rest, p.1 ≠ L+1+1+1+1+1
  n6 : ∀ p ∈ rest, p.1 ≠ L+1+1+1+1+1+1
structure MZ (m : Str → Option Value) (WD SQ S : Addr) : Prop where
  w : m (Str.ofString "wide") = some (.ref WD)
  q : m (Str.ofString "squares") = some (.ref SQ)
  s : m (Str.ofString "steps") = some (.ref S)

def SegC : Prop := ∀ (prog : Program) (w : World) (mean : ExcName → Option Value) (mg mb : Str → Option Value) (s : Shared) (h0 : Heap) (L : Addr) (h : Heap) (m : Str → Option Value) (tk : Nat) (Q : Flow → Shared → Prop) (E : Value → Shared → Prop)
  (T WD SQ O S TD : Addr) (kd : Nat) (tb st : List Int) (o4 o5 o6 : Obj) (v5 v6 : Option Value) (rest : List (Addr × Obj)), B0 w mean mg mb s h0 L Q → CT h0 #[] → AllBare s.gens → Fr h0 L h m → MZ m WD SQ S →
  News h0 L h ((TD, listOf ([] : List Value).toArray kd) :: (L+1+1+1+1, o4) :: (57, tabObj #[]) :: (L+1+1+1+1+1, o5) :: (L+1+1+1+1+1+1, o6) :: rest) →
  Z L rest T WD SQ O S tb st → RC rest (L+1+1+1) (.ref TD) → (∀ p ∈ rest, p.1 ≠ TD) → (∀ p ∈ rest, p.1 ≠ L+1+1+1+1) → @LT.lt Nat _ (L + 6) TD → o4.data = .cell none → o5.data = .cell v5 → o6.data = .cell v6 →
  LawGoal prog w L 8 Q E { s with heap := h, toks := tk }

section
variable {prog : Program} {w : World} {A : Around} {E : Value → Shared → Prop} {s : Shared} {mg mb : Str → Option Value} {h₀ : Heap} {L : Addr} {m : Str → Option Value} {news : List (Addr × Obj)} {Q : Value → Shared → Prop}
theorem news_new {h' : Heap} {D : Addr} {o : Obj} (F : Fr h₀ L s.heap m) (N : News h₀ L s.heap news) (hk : ∀ b o, s.heap.get? b = some o → h'.get? b = some o) (hD : s.heap.get? D = none) (hg : h'.get? D = some o) : News h₀ L h' ((D, o) :: news) ∧ ∀ p ∈ news, p.1 ≠ D := by
  refine ⟨fun p hp => ?_, ?_⟩
  · rcases List.mem_cons.mp hp with rfl | hp
    · refine ⟨hg, ?_, ?_⟩
      · rintro rfl
        obtain ⟨oL, _, _, hL', _⟩ := F.ns
        rw [hD] at hL'; cases hL'
      · cases e : h₀.get? D with
        | none => rfl
        | some o => have := F.keep _ _ e; rw [hD] at this; cases this
    · exact ⟨hk _ _ (N p hp).1, (N p hp).2⟩
  · rintro p hp rfl
    have := (N p hp).1
    rw [hD] at this; cases this
theorem k_contrasts {l : Addr} {ns : List Int} (F : Fr h₀ L s.heap m) (N : News h₀ L s.heap news) (ev : Ev w mg mb h₀) (hroom : A.depth + 9 < recursionLimit) (hh : A.handled = none) (hl : IL s.heap l ns) (hlen : ns.length = 8)
    (k : ∀ h' tk D ws c, Fr h₀ L h' m → News h₀ L h' ((D, listOf ws.toArray c) :: news) → IntsAre ws (couter ns [1, 2, 4]) → (∀ p ∈ news, p.1 ≠ D) → Q (.ref D) { s with heap := h', toks := tk }) : wpAny (model prog w) A (call (.ref 153) [.ref l]) Q E s := by
  refine call_contrasts (ev.keeps F.keep) hroom hh hl hlen fun h' tk D hk hD hI => ?_
  obtain ⟨ws, ⟨c, hg⟩, hi⟩ := hI
  obtain ⟨N', hn⟩ := news_new F N hk hD hg
  exact k h' tk D ws c (F.keeps hk) N' hi hn
end

theorem cstep_bound (st p : Int) (xs : List Int) (B : Nat) (h : ∀ x ∈ xs, x.natAbs ≤ B) : ∀ x ∈ cstep st p xs, x.natAbs ≤ 2 * B := by
  have hd : ∀ i : Nat, (xs.getD i 0).natAbs ≤ B := fun i => by
    rw [List.getD_eq_getElem?_getD]
    cases e : xs[i]? with
    | none => simp
    | some v => exact h v (List.mem_of_getElem? e)
  intro x hx
  unfold cstep at hx
  split at hx
  · rcases List.mem_or_eq_of_mem_set hx with hx | rfl
    · rcases List.mem_or_eq_of_mem_set hx with hx | rfl
      · have := h x hx; omega
      · have h1 := hd p.toNat
        have h2 := hd (Builtin.bitOr p st).toNat
        omega
    · have h1 := hd p.toNat
      have h2 := hd (Builtin.bitOr p st).toNat
      omega
  · have := h x hx; omega
theorem cinner_bound (st : Int) (xs : List Int) (B : Nat) (h : ∀ x ∈ xs, x.natAbs ≤ B) : ∀ i, ∀ x ∈ cinner st xs i, x.natAbs ≤ 2 ^ i * B
  | 0 => by intro x hx; simpa using h x hx
  | i + 1 => by
    intro x hx
    rw [cinner_succ] at hx
    have := cstep_bound st _ _ _ (cinner_bound st xs B h i) x hx
    rw [Nat.pow_succ, Nat.mul_comm (2 ^ i) 2, Nat.mul_assoc]
    exact this
theorem couter_eq (tb : List Int) : couter tb [1, 2, 4] = cinner 4 (cinner 2 (cinner 1 tb 8) 8) 8 := by
  unfold couter; rw [List.foldl_cons, List.foldl_cons, List.foldl_cons, List.foldl_nil]
theorem couter_bound {tb : List Int} (h : TB tb) : ∀ x ∈ couter tb [1, 2, 4], x.natAbs < 2 ^ 60 := by
  intro x hx
  rw [couter_eq] at hx
  have h0 : ∀ x ∈ tb, x.natAbs ≤ 262144 := fun x hx => by
    have := h.2 x hx
    omega
  have h1 : ∀ x ∈ cinner 1 tb 8, x.natAbs ≤ 67108864 := fun x hx => Nat.le_trans (cinner_bound 1 tb _ h0 8 x hx) (by decide)
  have h2 : ∀ x ∈ cinner 2 (cinner 1 tb 8) 8, x.natAbs ≤ 17179869184 := fun x hx => Nat.le_trans (cinner_bound 2 _ _ h1 8 x hx) (by decide)
  have h3 := cinner_bound 4 _ _ h2 8 x hx
  omega
theorem couter_len8 {tb : List Int} (h : TB tb) : (couter tb [1, 2, 4]).length = 8 := by rw [couter_len]; exact h.1
theorem mulOk_small {a b : Int} (h : a.natAbs < 2 ^ 60) : IntMulOk a b := .of_left (intBits_le_64 (by omega) (by omega))

set_option maxHeartbeats 8000000 in
theorem segS (H : SegC) : SegS := by
  intro prog w mean mg mb s h0 L h m tk Q E T S O wt ws wo kt ks ko tb st o1 o2 o3 o4 o5 o6 b ct hg F hm N hT hS hO d1 d2 d3 d4 d5 d6 hwt htb hws hst hwo
  have l57 := b.l57
  have ev := b.lc.ev
  have KX := ev.K
  have TX := ev.T
  have F := fr_know F hm
  walk_at "my_law"
  k_steps
  refine comp_assign (cl := []) rfl rfl rfl (by decide) ?_ (by intro _; rfl)
  k_steps
  refine k_contrasts F N ev (by k_room) rfl ⟨wt, ⟨kt, N.get (by k_mem)⟩, hwt⟩ htb.1 ?_
  intro h1 tk1 D wd kd F1 N1 hwd hnD
  have evS := ev.keeps F1.keep
  have hSl := hwd.length
  refine compA_list (L := L) (JI (couter tb [1, 2, 4]) fun c => c * c) (cj_JI _ _ _) ⟨by decide, rfl, rfl⟩ rfl rfl rfl rfl ⟨_, N1.get (.head _), rfl, _, rfl⟩ F1 N1 (by rw [hwd.length, couter_len8 htb]; decide) ?_ ?_
  · intro I₂ C D₂ j v₂ m₂ ys' kk' nw h₂ tk₂ o₂ E₂ hI₂ hD₂ hC₂ hj hP hJ hn₂ G NN tk₃ htk
    obtain ⟨x, tx, rfl, hx⟩ := hwd.at j v₂ hP
    have hmul : IntMulOk x x := mulOk_small (couter_bound htb x (List.mem_of_getElem? hx))
    obtain rfl := hJ.2.1
    clear F N F1 N1 KX TX
    have KX := evS.K
    have TX := evS.T
    k_steps
    rename Fr _ _ _ _ => F'
    rename News _ _ _ _ => N'
    exact elt_end F' N' (fun _ h => nomatch h) (hJ.snoc hx)
  · intro SQ ys kk nw h₂ tk₂ hJ F₂ N₂ hlt₂
    rw [hwd.length] at hJ
    obtain ⟨rfl, hys⟩ := hJ.end
    have N₂ : News h0 L h₂ ((SQ, listOf ys.toArray kk) :: [(O, listOf wo.toArray ko), (S, listOf ws.toArray ks), (T, listOf wt.toArray kt), (L+1, o1), (L+1+1, o2), (L+1+1+1, o3), (L+1+1+1+1, o4), (L+1+1+1+1+1, o5), (L+1+1+1+1+1+1, o6), (57, tabObj #[])]) := fun p hp => N₂ p (by
      rcases List.mem_cons.mp hp with rfl | hp
      · exact .head _
      · exact .tail _ (.tail _ hp))
    have hlt₂ : ∀ p ∈ [(O, listOf wo.toArray ko), (S, listOf ws.toArray ks), (T, listOf wt.toArray kt), (L+1, o1), (L+1+1, o2), (L+1+1+1, o3), (L+1+1+1+1, o4), (L+1+1+1+1+1, o5), (L+1+1+1+1+1+1, o6), (57, tabObj #[])], p.1 < SQ := fun p hp => hlt₂ p (.tail _ hp)
    clear F N F1 N1 hnD evS hSl hwd
    k_lt hlt₂
    k_steps
    refine comp_assign (cl := []) rfl rfl rfl (by decide) ?_ (by intro _; rfl)
    k_steps
    have evS := ev.keeps F₂.keep
    refine compA_list (L := L) (JI tb fun v => 56 * v) (cj_JI _ _ _) ⟨by decide, rfl, rfl⟩ rfl rfl rfl rfl ⟨_, N₂.get (.tail _ (.tail _ (.tail _ (.head _)))), rfl, _, rfl⟩ F₂ N₂ (by rw [hwt.length, htb.1]; decide) ?_ ?_
    · intro I₂ C D₂ j v₂ m₂ ys' kk' nw h₃ tk₃ o₂ E₂ hI₂ hD₂ hC₂ hj hP hJ hn₂ G NN tk₄ htk
      obtain ⟨x, tx, rfl, hx⟩ := hwt.at j v₂ hP
      have hmul : IntMulOk 56 x := mulOk_small (by decide)
      obtain rfl := hJ.2.1
      clear F₂ N₂ KX TX
      have KX := evS.K
      have TX := evS.T
      k_steps
      rename Fr _ _ _ _ => F'
      rename News _ _ _ _ => N'
      exact elt_end F' N' (fun _ h => nomatch h) (hJ.snoc hx)
    · intro WD yw kw nw h₃ tk₃ hJ F₃ N₃ hlt₃
      rw [hwt.length] at hJ
      obtain ⟨rfl, hyw⟩ := hJ.end
      simp only [List.cons_append, List.nil_append] at N₃
      clear F₂ N₂ evS
      k_lt hlt₃
      have hstop : StopFor := trivial
      k_steps
      rename Fr _ _ _ _ => F'
      rename News _ _ _ _ => N'
      rename_i TD h4 q h5 o3' d3'
      have hLT : @LT.lt Nat _ (L + 6) TD := q.2.2.2.2.2.2.2.2.2.2.1
      refine H prog w mean mg mb s h0 L _ _ _ Q E T WD SQ O S TD _ tb st o4 o5 o6 none none [(WD, listOf yw.toArray kw), (SQ, listOf ys.toArray kk), (O, listOf wo.toArray ko), (S, listOf ws.toArray ks), (T, listOf wt.toArray kt), (L+1, o1), (L+1+1, o2), (L+1+1+1, o3')] b ct hg F' ⟨rfl, rfl, rfl⟩ (fun p hp => N' p ((show ∀ p ∈ (TD, listOf ([] : List Value).toArray 0) :: (L+1+1+1+1, o4) :: (57, tabObj #[]) :: (L+1+1+1+1+1, o5) :: (L+1+1+1+1+1+1, o6) :: [(WD, listOf yw.toArray kw), (SQ, listOf ys.toArray kk), (O, listOf wo.toArray ko), (S, listOf ws.toArray ks), (T, listOf wt.toArray kt), (L+1, o1), (L+1+1, o2), (L+1+1+1, o3')], p ∈ [(TD, listOf ([] : List Value).toArray 0), (WD, listOf yw.toArray kw), (SQ, listOf ys.toArray kk), (O, listOf wo.toArray ko), (S, listOf ws.toArray ks), (T, listOf wt.toArray kt), (L+1, o1), (L+1+1, o2), (L+1+1+1, o3'), (L+1+1+1+1, o4), (L+1+1+1+1+1, o5), (L+1+1+1+1+1+1, o6), (57, tabObj #[])] from by walk_at "my_sub") p hp)) ?_ ⟨_, by k_mem, d3'⟩ (by k_all) (by k_all) hLT d4 d5 d6
      exact ⟨htb, hst, ⟨_, _, by k_mem, hwt⟩, ⟨_, _, by k_mem, hyw⟩, ⟨_, _, by k_mem, hys⟩, ⟨_, _, by k_mem, hwo⟩, ⟨_, _, by k_mem, hws⟩, ⟨_, by k_mem, d1⟩, ⟨_, by k_mem, d2⟩, by k_all, by k_all, by k_all⟩
end

end

end

section
local macro_rules | `(tactic| walk_at "call ref") => `(tactic| (k_here; (with_reducible show wpAny _ _ (call (Value.ref 125) [Value.ref _, Value.int _ _]) _ _ _); refine' k_contains ?k1 ?k2 ?k3 ?k4 ?k5 ?k6 ?_; (case k1 => k_asm); (case k2 => k_asm); (case k3 => k_asm); (case k4 => walk_at "my_room"); (case k5 => first | assumption | rfl); (case k6 => walk_at "my_il"); intro h' tk' F' N'; (try k_sweep)))
local macro_rules | `(tactic| walk_at "call ref") => `(tactic| (k_here; (with_reducible show wpAny _ _ (call (Value.ref 139) [Value.ref _, Value.int _ _]) _ _ _); refine' k_getitem ?k1 ?k2 ?k3 ?k4 ?k5 ?k6 ?k7 ?k8 ?k9 ?_; (case k1 => k_asm); (case k2 => k_asm); (case k3 => k_asm); (case k4 => walk_at "my_room"); (case k5 => first | assumption | rfl); (case k6 => walk_at "my_il"); (case k7 => first | assumption | omega); (case k8 => first | assumption | omega); (case k9 => first | assumption | omega); intro h' tk' v' F' N'; (try k_sweep)))
local macro_rules | `(tactic| walk_at "call ref") => `(tactic| (k_here; (with_reducible show wpAny _ _ (call (Value.ref 118) [Value.ref _, Value.ref _]) _ _ _); refine' k_concat ?k1 ?k2 ?k3 ?k4 ?k5 ?k6 ?k7 ?k8 ?k9 ?_; (case k1 => k_asm); (case k2 => k_asm); (case k3 => k_asm); (case k4 => walk_at "my_room"); (case k5 => first | assumption | rfl); (case k6 => walk_at "my_il"); (case k7 => walk_at "my_il"); (case k8 => first | assumption | omega | (simp only [List.length_map]; omega)); (case k9 => first | assumption | omega | (simp only [List.length_map]; omega)); intro h' tk' D' ws' c' F' N' hI' hne'; (try k_sweep)))
local macro_rules | `(tactic| walk_at "call ref") => `(tactic| (k_here; (with_reducible show wpAny _ _ (call (Value.ref 69) [Value.int _ _, Value.int _ _]) _ _ _); refine' k_add ?k1 ?k2 ?k3 ?k4 ?_; (case k1 => k_asm); (case k2 => k_asm); (case k3 => k_asm); (case k4 => walk_at "my_room"); intro h' tk' v' F' N'; (try k_sweep)))
local macro_rules | `(tactic| walk_at "call ref") => `(tactic| (k_here; (with_reducible show wpAny _ _ (call (Value.ref 76) [Value.int _ _, Value.int _ _]) _ _ _); refine' k_and_ ?k1 ?k2 ?k3 ?k4 ?_; (case k1 => k_asm); (case k2 => k_asm); (case k3 => k_asm); (case k4 => walk_at "my_room"); intro h' tk' v' F' N'; (try k_sweep)))
local macro_rules | `(tactic| walk_at "call ref") => `(tactic| (k_here; (with_reducible show wpAny _ _ (call (Value.ref 83) [Value.int _ _, Value.int _ _]) _ _ _); refine' k_mul ?k1 ?k2 ?k3 ?k4 ?k5 ?_; (case k1 => k_asm); (case k2 => k_asm); (case k3 => k_asm); (case k4 => walk_at "my_room"); (case k5 => first | assumption | walk_at "my_mul"); intro h' tk' v' F' N'; (try k_sweep)))
local macro_rules | `(tactic| walk_at "call ref") => `(tactic| (k_here; (with_reducible show wpAny _ _ (call (Value.ref 90) [Value.int _ _, Value.int _ _]) _ _ _); refine' k_or_ ?k1 ?k2 ?k3 ?k4 ?_; (case k1 => k_asm); (case k2 => k_asm); (case k3 => k_asm); (case k4 => walk_at "my_room"); intro h' tk' v' F' N'; (try k_sweep)))
local macro_rules | `(tactic| walk_at "call ref") => `(tactic| (k_here; (with_reducible show wpAny _ _ (call (Value.ref 97) [Value.int _ _, Value.int _ _]) _ _ _); refine' k_rshift ?k1 ?k2 ?k3 ?k4 ?k5 ?_; (case k1 => k_asm); (case k2 => k_asm); (case k3 => k_asm); (case k4 => walk_at "my_room"); (case k5 => first | assumption | decide); intro h' tk' v' F' N'; (try k_sweep)))
local macro_rules | `(tactic| walk_at "call ref") => `(tactic| (k_here; (with_reducible show wpAny _ _ (call (Value.ref 104) [Value.int _ _, Value.int _ _]) _ _ _); refine' k_sub ?k1 ?k2 ?k3 ?k4 ?_; (case k1 => k_asm); (case k2 => k_asm); (case k3 => k_asm); (case k4 => walk_at "my_room"); intro h' tk' v' F' N'; (try k_sweep)))
local macro_rules | `(tactic| walk_at "call ref") => `(tactic| (k_here; (with_reducible show wpAny _ _ (call (Value.ref 111) [Value.int _ _, Value.int _ _]) _ _ _); refine' k_xor ?k1 ?k2 ?k3 ?k4 ?_; (case k1 => k_asm); (case k2 => k_asm); (case k3 => k_asm); (case k4 => walk_at "my_room"); intro h' tk' v' F' N'; (try k_sweep)))

section
local macro_rules | `(tactic| walk_at "call type:str") => `(tactic| (k_here; with_reducible refine held_i ?_))
local macro_rules | `(tactic| walk_at "call ref") => `(tactic| (k_here; (with_reducible show wpAny _ _ (call (Value.ref 62) [_, _]) _ _ _); with_reducible refine held_i ?_))
local macro_rules | `(tactic| walk_at "noteFrame ref") => `(tactic| (k_here; with_reducible refine held_i ?_))

section
set_option maxHeartbeats 8000000 in
theorem call_told_mis {prog : Program} {w : World} {A : Around} {E : Value → Shared → Prop} {s : Shared} {mean : ExcName → Option Value} {mg mb : Str → Option Value} {Q : Value → Shared → Prop} (ev : Ev w mg mb s.heap) (hroom : A.depth + 20 < recursionLimit) (hh : A.handled = none) (hu : A.units + 20 < cLine)
    {lx ly : Addr} {xs ys : List Int} (hlx : IL s.heap lx xs) (hly : IL s.heap ly ys) (hne : ys.length ≠ xs.length) (hx8 : xs.length ≤ 8) (hy8 : ys.length ≤ 8) {base : Heap} {outer : List Env} {p : Program} {loose : List Str} (K : Below A base outer s.heap) (XB : (hd.heap_39 w.params).In base) (TB : Top p loose mean mg mb base) (D : KtsDicts (outer.filterMap (·.frame)) s.heap)
    (k : ∀ h' tk D' t1 t2 g', KtsTurn (outer.filterMap (·.frame)) s.heap g' → (∀ b o, g'.get? b = some o → h'.get? b = some o) → g'.get? D' = none → h'.get? D' = some (listOf #[.int 1 t1, .str (Str.ofString "covariance requires that both inputs have same number of data points") t2] 0) → Q (.ref D') { s with heap := h', toks := tk }) :
    wpAny (model prog w) A (call (.ref 146) [.ref lx, .ref ly]) Q E s := by
  refine wpAny_call ?_
  refine enter (binds := [(Str.ofString "x", .ref lx), (Str.ofString "y", .ref ly)]) ev rfl rfl (by omega) (BindsTo.of_eq rfl) (locs rfl) ?_ (by decide) rfl rfl rfl
  intro h₁ F
  have KX := ev.K
  have TX := ev.T
  have NX : News s.heap s.heap.objs.size h₁ [] := News.nil
  k_steps
  unfold Held
  refine' call_cov_mis ?ev ?room ?hh ?lx ?ly hne hx8 hy8 ?K ?_
  case ev => exact ev.keeps F.keep
  case room => show A.depth + 1 + 9 < recursionLimit; omega
  case hh => exact hh
  case lx => exact hlx.keeps F.keep
  case ly => exact hly.keeps F.keep
  case K => exact K.push F
  intro h₂ tk₂ e t tk' news R U
  refine caught_SOB (C := 52) R F K U XB TB D KtsTurn.refl (by kernel_rfl) (by kernel_rfl) ?_
  intro h₃ g₃ news₃ tk₃ T₃ F₃ N₃ got Nl K₃ X₃ P₃ D₃
  clear KX TX NX
  have KX := X₃
  have TX := topRead_of P₃
  k_steps
  obtain ⟨oe, ot, wse, nt, me, mt, hoec, hoed, hoe0, hotc, hotd⟩ := got
  unfold Held
  refine' str_own ?hu ?X ?ho hoec hoed hoe0 ?ht ?_
  case hu => rw [Around.mark_units, units_deeper]; omega
  case X => exact KX.keeps F₃.keep
  case ho => exact N₃.get me
  case ht => exact ⟨ot, nt, N₃.get mt, hotc, hotd⟩
  k_steps
  rename Fr _ _ _ _ => F₉
  rename News _ _ _ _ => N₉
  exact k _ _ _ _ _ g₃ T₃ F₉.keep (N₉ _ (.head _)).2.2 (N₉ _ (.head _)).1

set_option maxHeartbeats 8000000 in
theorem call_told_one {prog : Program} {w : World} {A : Around} {E : Value → Shared → Prop} {s : Shared} {mean : ExcName → Option Value} {mg mb : Str → Option Value} {Q : Value → Shared → Prop} (ev : Ev w mg mb s.heap) (hroom : A.depth + 20 < recursionLimit) (hh : A.handled = none) (hu : A.units + 20 < cLine)
    {lx ly : Addr} {xs ys : List Int} (hlx : IL s.heap lx xs) (hly : IL s.heap ly ys) (hne : ys.length = xs.length) (hx8 : xs.length < 2) {base : Heap} {outer : List Env} {p : Program} {loose : List Str} (K : Below A base outer s.heap) (XB : (hd.heap_39 w.params).In base) (TB : Top p loose mean mg mb base) (D : KtsDicts (outer.filterMap (·.frame)) s.heap)
    (k : ∀ h' tk D' t1 t2 g', KtsTurn (outer.filterMap (·.frame)) s.heap g' → (∀ b o, g'.get? b = some o → h'.get? b = some o) → g'.get? D' = none → h'.get? D' = some (listOf #[.int 1 t1, .str (Str.ofString "covariance requires at least two data points") t2] 0) → Q (.ref D') { s with heap := h', toks := tk }) :
    wpAny (model prog w) A (call (.ref 146) [.ref lx, .ref ly]) Q E s := by
  refine wpAny_call ?_
  refine enter (binds := [(Str.ofString "x", .ref lx), (Str.ofString "y", .ref ly)]) ev rfl rfl (by omega) (BindsTo.of_eq rfl) (locs rfl) ?_ (by decide) rfl rfl rfl
  intro h₁ F
  have KX := ev.K
  have TX := ev.T
  have NX : News s.heap s.heap.objs.size h₁ [] := News.nil
  k_steps
  unfold Held
  refine' call_cov_one ?ev ?room ?hh ?lx ?ly hne hx8 ?K ?_
  case ev => exact ev.keeps F.keep
  case room => show A.depth + 1 + 9 < recursionLimit; omega
  case hh => exact hh
  case lx => exact hlx.keeps F.keep
  case ly => exact hly.keeps F.keep
  case K => exact K.push F
  intro h₂ tk₂ e t tk' news R U
  refine caught_SOB (C := 52) R F K U XB TB D KtsTurn.refl (by kernel_rfl) (by kernel_rfl) ?_
  intro h₃ g₃ news₃ tk₃ T₃ F₃ N₃ got Nl K₃ X₃ P₃ D₃
  clear KX TX NX
  have KX := X₃
  have TX := topRead_of P₃
  k_steps
  obtain ⟨oe, ot, wse, nt, me, mt, hoec, hoed, hoe0, hotc, hotd⟩ := got
  unfold Held
  refine' str_own ?hu ?X ?ho hoec hoed hoe0 ?ht ?_
  case hu => rw [Around.mark_units, units_deeper]; omega
  case X => exact KX.keeps F₃.keep
  case ho => exact N₃.get me
  case ht => exact ⟨ot, nt, N₃.get mt, hotc, hotd⟩
  k_steps
  rename Fr _ _ _ _ => F₉
  rename News _ _ _ _ => N₉
  exact k _ _ _ _ _ g₃ T₃ F₉.keep (N₉ _ (.head _)).2.2 (N₉ _ (.head _)).1

set_option maxHeartbeats 8000000 in
theorem call_told_ok {prog : Program} {w : World} {A : Around} {E : Value → Shared → Prop} {s : Shared} {mg mb : Str → Option Value} {Q : Value → Shared → Prop} (ev : Ev w mg mb s.heap) (hroom : A.depth + 20 < recursionLimit) (hh : A.handled = none)
    {bm : Addr} {ob : Obj} (hM : BMod s.heap mainGlobals mg bm ob) {ps : Array Value} (hok : s.heap.IsCode 61 57 ps) (ht : s.heap.TableAt 61 57 ps)
    {lx ly : Addr} {xs ys : List Int} {X Y c : Int} (hlx : IL s.heap lx xs) (hly : IL s.heap ly ys) (R : Rows2 xs ys X Y c)
    (k : ∀ h' tk g' r t1 t2 D' more, Is r c → (∀ b o, b ≠ 57 → s.heap.get? b = some o → h'.get? b = some o) → h'.IsCode 61 57 (ps ++ more) → h'.TableAt 61 57 (ps ++ more) → (AllBare s.gens → AllBare g') → s.heap.get? D' = none → h'.get? D' = some (listOf #[.int 0 t1, .float r t2] 0) → Q (.ref D') { s with heap := h', toks := tk, gens := g' }) :
    wpAny (model prog w) A (call (.ref 146) [.ref lx, .ref ly]) Q E s := by
  refine wpAny_call ?_
  refine enter (binds := [(Str.ofString "x", .ref lx), (Str.ofString "y", .ref ly)]) ev rfl rfl (by omega) (BindsTo.of_eq rfl) (locs rfl) ?_ (by decide) rfl rfl rfl
  intro h₁ F
  have KX := ev.K
  have TX := ev.T
  have NX : News s.heap s.heap.objs.size h₁ [] := News.nil
  k_steps
  unfold Held
  have ht₁ : h₁.TableAt 61 57 ps := by
    obtain ⟨⟨o, vs, a, r⟩, h57⟩ := ht
    exact ⟨⟨o, vs, F.keep _ _ a, r⟩, F.keep _ _ h57⟩
  have hok₁ : h₁.IsCode 61 57 ps := (code_at hok ht (fun o e => F.keep _ _ e) (F.keep _ _ ht.2)).1
  refine' call_cov (ps := ps) ?ev ?room ?hh ?hM ?hok ?ht ?lx ?ly R ?_
  case ev => exact ev.keeps F.keep
  case room => show A.depth + 1 + 9 < recursionLimit; omega
  case hh => exact hh
  case hM => exact hM.keeps F.keep
  case hok => exact hok₁
  case ht => exact ht₁
  case lx => exact hlx.keeps F.keep
  case ly => exact hly.keeps F.keep
  intro h₂ tk₂ g₂ r t₂ more hr hk hok₂ ht₂ hg₂
  have hL57 : s.heap.objs.size ≠ 57 := Nat.ne_of_gt (lt_sz ht.2)
  have evh := ev_hb ev
  have F₂ := fr60 (fr_hb F) hk hL57 (hb_60 s.heap)
  have N₂ : News (hb s.heap) s.heap.objs.size h₂ [(57, { cls := .none, data := .fields (ps ++ more) })] := fun p hp => by
    rw [List.mem_singleton.mp hp]
    exact ⟨ht₂.2, Ne.symm hL57, hb_60 _⟩
  have h61 : ∃ o, (hb s.heap).get? 61 = some o := by
    obtain ⟨⟨o, vs, a, r⟩, _⟩ := ht
    exact ⟨o, hb_get (by decide) a⟩
  have hkeep := F₂.keep
  clear KX TX NX F
  have KX := evh.K
  have TX := evh.T
  k_steps
  rename Fr _ _ _ _ => F₉
  rename News _ _ _ _ => N₉
  rename_i D' _ q
  have q57 : D' ≠ 57 := Nat.ne_of_gt (ltN (by first | exact q.1 | exact q))
  have h57 := (N₉ _ (.tail _ (.head _))).1
  have hc := ct_of (h0 := hb s.heap) h61 hkeep hok₂ ht₂ _ F₉.keep h57
  refine k _ _ g₂ r tk t₂ D' more hr (fun b o hb' e => F₉.keep b o (hb_get hb' e)) hc.1 hc.2 hg₂ ?_ (N₉ _ (.head _)).1
  cases e : s.heap.get? D' with
  | none => rfl
  | some o =>
    have := (N₉ _ (.head _)).2.2
    rw [hb_get q57 e] at this; cases this
end

end

section
local macro_rules | `(tactic| walk_at "eval Call Attribute") => `(tactic| (k_here; refine MethodCall_ ?_))
local macro_rules | `(tactic| walk_at "call ref") => `(tactic| (k_here; (with_reducible show wpAny _ _ (call (Value.ref 62) [_, _]) _ _ _); with_reducible refine held_i ?_))
local macro_rules | `(tactic| k_mem) => `(tactic| with_reducible_and_instances assumption)
local macro_rules | `(tactic| k_all) => `(tactic| with_reducible assumption)
local macro_rules | `(tactic| walk_at "my_sub") => `(tactic| first | exact List.forall_mem_nil _ | (refine' List.forall_mem_cons.mpr ⟨?a, ?b⟩; (case a => k_mem); (case b => walk_at "my_sub")))
local macro_rules | `(tactic| walk_at "my_law") => `(tactic| (unfold LawGoal; dsimp only [lawStmts, lawEnv, lawScope, PySem.Challenge.pw_re0015_01, List.drop, List.drop_succ_cons, List.drop_zero]))
local macro_rules | `(tactic| walk_at "execs cons") => `(tactic| (k_here; (have hst' : StopMark := by with_reducible assumption); clear hst'; with_reducible refine held_i ?_))
local macro_rules | `(tactic| walk_at "execs cons") => `(tactic| (k_here; (have hst' : StopFor := by with_reducible assumption); (with_reducible show wpAny _ _ (execs (PySem.Stmt.For _ _ _ _ _ :: _) _) _ _ _); clear hst'; with_reducible refine held_i ?_))
local macro_rules | `(tactic| walk_at "call type:range cons nil") => `(tactic| (k_here; (with_reducible show wpAny _ _ (call (Value.type "range") _) (CompK _ _ _ _ _ _ _ _ _ _ _ _ _) _ _); with_reducible refine held_i ?_))
local macro_rules | `(tactic| walk_at "call type:range cons nil") => `(tactic| (k_here; (with_reducible show wpAny _ _ (call (Value.type "range") _) (CompKA _ _ _ _ _ _ _ _ _ _ _ _ _ _ _) _ _); with_reducible refine held_i ?_))

section
def FloatsAre (ws : List Value) (cs : List Int) : Prop := ws.length = cs.length ∧ ∀ (i : Nat) (c : Int), cs[i]? = some c → ∃ (r : UInt64) (t : Tok), ws[i]? = some (Value.float r t) ∧ Is r c
def RF (rest : List (Addr × Obj)) (a : Addr) (cs : List Int) : Prop := ∃ ws k, (a, listOf ws.toArray k) ∈ rest ∧ FloatsAre ws cs
theorem FloatsAre.snoc {ws : List Value} {cs : List Int} {r : UInt64} {t : Tok} {c : Int} (h : FloatsAre ws cs) (hr : Is r c) : FloatsAre (ws ++ [Value.float r t]) (cs ++ [c]) := by
  refine ⟨by simp [h.1], fun i d hd => ?_⟩
  by_cases hi : i < cs.length
  · rw [List.getElem?_append_left hi] at hd
    obtain ⟨r', t', h1, h2⟩ := h.2 i d hd
    exact ⟨r', t', by rw [List.getElem?_append_left (by rw [h.1]; exact hi)]; exact h1, h2⟩
  · have hlt := (List.getElem?_eq_some_iff.mp hd).1
    rw [List.length_append, List.length_singleton] at hlt
    have : i = cs.length := by omega
    subst this
    rw [List.getElem?_append_right (Nat.le_refl _), Nat.sub_self] at hd
    cases hd
    exact ⟨r, t, by rw [← h.1, List.getElem?_append_right (Nat.le_refl _), Nat.sub_self]; rfl, hr⟩

/-- the covariances as law tells them -/
def covsOf (tb : List Int) (n : Nat) : List Int := (List.range n).map fun m => covOf tb m

def SegD : Prop := ∀ (prog : Program) (w : World) (mean : ExcName → Option Value) (mg mb : Str → Option Value) (s : Shared) (h0 : Heap) (L : Addr) (h : Heap) (m : Str → Option Value) (tk : Nat) (g : Array GenState) (Q : Flow → Shared → Prop) (E : Value → Shared → Prop)
  (T WD SQ O S TD : Addr) (tb st : List Int) (ps : Array Value) (o5 o6 : Obj) (v5 v6 : Option Value) (rest : List (Addr × Obj)), B0 w mean mg mb s h0 L Q → CT h0 ps → AllBare g → Fr h0 L h m → MZ m WD SQ S →
  News h0 L h ((57, tabObj ps) :: (L+1+1+1+1+1, o5) :: (L+1+1+1+1+1+1, o6) :: rest) →
  Z L rest T WD SQ O S tb st → RC rest (L+1+1+1) (.ref TD) → RF rest TD (covsOf tb 8) → o5.data = .cell v5 → o6.data = .cell v6 →
  LawGoal prog w L 9 Q E { s with heap := h, toks := tk, gens := g }

section
variable {prog : Program} {w : World} {A : Around} {E : Value → Shared → Prop} {s : Shared} {mean : ExcName → Option Value} {mg mb : Str → Option Value} {h₀ : Heap} {L : Addr} {m : Str → Option Value} {news : List (Addr × Obj)} {Q : Value → Shared → Prop}

theorem k_cov {ps : Array Value} {gg : Obj → List (Addr × Obj)} {lx ly : Addr} {xs ys : List Int} {X Y c : Int} (F : Fr h₀ L s.heap m) (N : News h₀ L s.heap news) (U : UpdF 57 (tabObj ps) news gg) (lc : LC w mean mg mb h₀) (ct : CT h₀ ps) (hg : AllBare s.gens)
    (hroom : A.depth + 9 < recursionLimit) (hh : A.handled = none) (hlx : IL s.heap lx xs) (hly : IL s.heap ly ys) (R : Rows2 xs ys X Y c)
    (k : ∀ h' tk g' r t ps', Is r c → CT h₀ ps' → AllBare g' → Fr h₀ L h' m → News h₀ L h' (gg (tabObj ps')) → Q (.float r t) { s with heap := h', toks := tk, gens := g' }) : wpAny (model prog w) A (call (.ref 62) [.ref lx, .ref ly]) Q E s := by
  obtain ⟨pre, post, rfl, hgg, h1, h2⟩ := U.split
  have h57 := N (57, tabObj ps) (List.mem_append_right _ (.head _))
  obtain ⟨hok, ht⟩ := ct s.heap F.keep h57.1
  obtain ⟨bm, ob, M⟩ := lc.bmod
  refine call_cov (lc.ev.keeps F.keep) hroom hh (M.keeps F.keep) hok ht hlx hly R fun h' tk g' r t more hr hk hok' ht' hg' => ?_
  have F' : Fr h₀ L h' m := fr60 F hk (Ne.symm h57.2.1) lc.n57
  refine k h' tk g' r t (ps ++ more) hr (ct_of lc.ct61 F'.keep hok' ht') (hg' hg) F' (fun p hp => ?_)
  rw [hgg] at hp
  rcases List.mem_append.mp hp with hp | hp
  · exact ⟨hk _ _ (h1 p hp) (N p (List.mem_append_left _ hp)).1, (N p (List.mem_append_left _ hp)).2⟩
  · rcases List.mem_cons.mp hp with rfl | hp
    · exact ⟨ht'.2, h57.2⟩
    · have := N p (List.mem_append_right _ (.tail _ hp))
      exact ⟨hk _ _ (h2 p hp) this.1, this.2⟩

variable {env : Env} {elt iter : PySem.Expr} {x y : Str} {px py pos : Pos} {scope : Scope} {cl : List (Str × Addr)}
theorem comp_range1A {Q : Flow → Shared → Prop} {b : Int} {t₁ : Tok} (J : Nat → List Value → List (Addr × Obj) → Nat → Prop) (cj : CJ J s.toks) (cs : CScope scope x) (hL : env.locals = L) (hy : env.kindOf y = some .local) (hp : (env.scope.kind == .class || (env.scope.kind == .module && env.locals != env.globals)) = false)
    (hh : A.handled = none) (hb0 : 0 ≤ b) (hb : b < 2 ^ 62) (F : Fr h₀ L s.heap m) (N : News h₀ L s.heap news) (hnsz : b.toNat ≤ sizeLine)
    (turn : ∀ s₁ : Shared, (∀ b o, s.heap.get? b = some o → s₁.heap.get? b = some o) → s₁.gens = s.gens → CTurn prog w A s₁ env elt x scope cl b.toNat (fun i v => ∃ t, v = .int (i : Nat) t) J)
    (done : ∀ D ys k nw h' tk, J b.toNat ys nw tk → Fr h₀ L h' (fun z => if z = y then some (.ref D) else m z) → News h₀ L h' ((D, listOf ys.toArray k) :: nw ++ news) → (∀ p ∈ news, p.1 < D) → Q .next { s with heap := h', toks := tk }) :
    wpAny (model prog w) A (call (.type "range") [.int b t₁]) (CompKA prog w A env elt iter x px scope cl pos y py Q E) E s := by
  refine call_range_1 ?_
  refine compA_range J ⟨cj.tk _ _ _ _ _ cj.zero (by show s.toks ≤ s.toks + 1 + 1; omega), cj.len, cj.tk⟩ cs hL hy hp hh (IsRange.new ..) (by decide) hb0 hb (F.push _) (news_keeps N fun _ _ e => Heap.get?_push_of_some _ e) (by rw [Int.sub_zero]; exact hnsz) ?_ ?_
  · rw [Int.sub_zero]
    simp only [Int.zero_add, Int.mul_one]
    exact turn _ (fun _ _ e => Heap.get?_push_of_some _ e) rfl
  · intro D ys k nw h' tk hJ
    rw [Int.sub_zero] at hJ
    exact done D ys k nw h' tk hJ
end
/-- the word of a comprehension of ints over a range -/
def JR (f : Nat → Int) : Nat → List Value → List (Addr × Obj) → Nat → Prop := fun i ys nw _ => nw = [] ∧ IntsAre ys ((List.range i).map f)
theorem cj_JR (f : Nat → Int) (tk : Nat) : CJ (JR f) tk where
  zero := ⟨rfl, .nil⟩
  len := fun i ys nx tk h => by rw [h.2.length, List.length_map, List.length_range]
  tk := fun _ _ _ _ _ h _ => h
theorem JR.snoc {f : Nat → Int} {i : Nat} {ys : List Value} {nw : List (Addr × Obj)} {tk tk' : Nat} {t : Tok} (h : JR f i ys nw tk) : JR f (i + 1) (ys ++ [.int (f i) t]) [] tk' :=
  ⟨rfl, by rw [List.range_succ, List.map_append]; exact intsAre_snoc h.2⟩

theorem RL.cons {rest : List (Addr × Obj)} {a : Addr} {ns : List Int} (p : Addr × Obj) (x : RL rest a ns) : RL (p :: rest) a ns := let ⟨ws, k, h, i⟩ := x; ⟨ws, k, .tail _ h, i⟩
theorem RC.cons {rest : List (Addr × Obj)} {c : Addr} {v : Value} (p : Addr × Obj) (x : RC rest c v) : RC (p :: rest) c v := let ⟨o, h, i⟩ := x; ⟨o, .tail _ h, i⟩
theorem RF.cons {rest : List (Addr × Obj)} {a : Addr} {cs : List Int} (p : Addr × Obj) (x : RF rest a cs) : RF (p :: rest) a cs := let ⟨ws, k, h, i⟩ := x; ⟨ws, k, .tail _ h, i⟩
theorem Z.cons {L : Addr} {rest : List (Addr × Obj)} {T WD SQ O S : Addr} {tb st : List Int} (z : Z L rest T WD SQ O S tb st) {p : Addr × Obj} (h1 : p.1 ≠ 57) (h2 : p.1 ≠ L+1+1+1+1+1) (h3 : p.1 ≠ L+1+1+1+1+1+1) : Z L (p :: rest) T WD SQ O S tb st :=
  ⟨z.htb, z.hst, z.t.cons p, z.w.cons p, z.q.cons p, z.o.cons p, z.s.cons p, z.c1.cons p, z.c2.cons p, List.forall_mem_cons.mpr ⟨h1, z.n57⟩, List.forall_mem_cons.mpr ⟨h2, z.n5⟩, List.forall_mem_cons.mpr ⟨h3, z.n6⟩⟩
theorem above_six {L TD : Nat} (l57 : 57 < L) (h : L + 6 < TD) : TD ≠ 57 ∧ TD ≠ L+1+1+1+1+1 ∧ TD ≠ L+1+1+1+1+1+1 := by omega

set_option maxHeartbeats 8000000 in
theorem segC (H : SegD) : SegC := by
  intro prog w mean mg mb s h0 L h m tk Q E T WD SQ O S TD kd tb st o4 o5 o6 v5 v6 rest b ct hg F hm N hZ hc3 hTD hn4 hLT d4 d5 d6
  have l57 := b.l57
  have ev := b.lc.ev
  have KX := ev.K
  have TX := ev.T
  have hn57 := hZ.n57
  have hn5 := hZ.n5
  have hn6 := hZ.n6
  obtain ⟨wT, kT, hT, hwT⟩ := hZ.t
  obtain ⟨wW, kW, hW, hwW⟩ := hZ.w
  obtain ⟨oc1, hc1, dc1⟩ := hZ.c1
  obtain ⟨oc3, hc3, dc3⟩ := hc3
  walk_at "my_law"
  k_steps
  refine for_range1 (fun i m₁ news₁ g => AllBare g ∧ MZ m₁ WD SQ S ∧ ∃ wd k o4 v4 ps, news₁ = (TD, listOf wd.toArray k) :: (L+1+1+1+1, o4) :: (57, tabObj ps) :: (L+1+1+1+1+1, o5) :: (L+1+1+1+1+1+1, o6) :: rest ∧ o4.data = .cell v4 ∧ CT h0 ps ∧ FloatsAre wd (covsOf tb i))
    rfl (by decide) (by decide) F N ⟨hg, hm, _, _, o4, _, _, rfl, d4, ct, ⟨rfl, fun i c hc => nomatch hc⟩⟩ ?_ ?_
  · rintro I i t m₁ news₁ h tk₁ g o E' hi ⟨hg, hm, wd, k, o4, v4, ps, rfl, d4, ct, hwd⟩ hlow hn F₁ N₁
    k_lt hlow
    have F₂ := fr_know F₁ hm.w
    clear F₁ F N
    k_steps
    rename Fr _ _ _ _ => F'
    rename News _ _ _ _ => N'
    rename (Obj.data _ = Data.cell (some (Value.int _ t))) => d4'
    rename_i hM oM4
    refine comp_assign (cl := [(Str.ofString "table", L+1), (Str.ofString "move", L+1+1+1+1)]) rfl rfl rfl (by decide) ?_ (by intro _; rfl)
    k_steps
    have hi8 : i < 8 := by omega
    have hcm : ∀ h₂ : Heap, (∀ b o, hM.get? b = some o → h₂.get? b = some o) → Heap.IsCell h₂ (L+1+1+1+1) (some (.int i t)) := fun h₂ k => ⟨_, k _ _ (N' _ (.tail _ (.tail _ (.head _)))).1, d4'⟩
    have hct : ∀ h₂ : Heap, (∀ b o, hM.get? b = some o → h₂.get? b = some o) → Heap.IsCell h₂ (L+1) (some (.ref T)) := fun h₂ k => ⟨_, k _ _ (N' _ (.tail _ (.tail _ (.tail _ (.tail _ (.tail _ (.tail _ hc1))))))).1, dc1⟩
    have hil : ∀ h₂ : Heap, (∀ b o, hM.get? b = some o → h₂.get? b = some o) → IL h₂ T tb := fun h₂ k => ⟨_, ⟨_, k _ _ (N' _ (.tail _ (.tail _ (.tail _ (.tail _ (.tail _ (.tail _ hT))))))).1⟩, hwT⟩
    refine comp_range1A (L := L) (JR fun j => 8 * tb.getD (Builtin.bitXor (j : Int) (i : Int)).toNat 0) (cj_JR _ _) ⟨by decide, rfl, rfl⟩ rfl rfl rfl rfl (by decide) (by decide) F' N' (by decide) ?_ ?_
    · intro s₂ hk₂ hg₂ I₂ C₂ D₂ j v m₂ ys₂ k₂ nw h₂ tk₃ o₂ E₂ hI₂ hD₂ hC₂ hjj hP hJ hn₂ G₂ NN₂ tk₄ htk₄
      obtain ⟨tt, rfl⟩ := hP
      have evE := (ev.keeps F'.keep).keeps hk₂
      have hcellm := hcm s₂.heap hk₂
      have hcellt := hct s₂.heap hk₂
      have hilt := hil s₂.heap hk₂
      obtain rfl := hJ.1
      clear hcm hct hil F' N' KX TX
      have KX := evE.K
      have TX := evE.T
      have hj8 : (j : Int) < 8 := by omega
      have hb := xor_bound (Int.natCast_nonneg j) hj8 (Int.natCast_nonneg i) hi
      obtain ⟨hb0, hb1⟩ := hb
      have htl := hZ.htb.1
      have hmul : IntMulOk 8 (tb.getD (Builtin.bitXor (j : Int) (i : Int)).toNat 0) := mulOk_small (by decide)
      k_steps
      rename Fr _ _ _ _ => F'
      rename News _ _ _ _ => N'
      exact elt_end F' N' (fun _ h => nomatch h) hJ.snoc
    · intro MV yv kv nw h₃ tk₃ hJ F₃ N₃ hlt₃
      obtain ⟨rfl, hyv⟩ := hJ
      simp only [List.cons_append, List.nil_append] at N₃
      clear hcm hct hil F' N'
      k_lt hlt₃
      k_steps
      refine' k_cov F₃ N₃ ?U b.lc ct hg ?room rfl ?lx ?ly (rows_wide hZ.htb.1 hZ.htb.2 hi8) ?_
      case U => k_updF
      case room => k_room
      case lx => exact ⟨_, ⟨_, N₃.get (.tail _ (.tail _ (.tail _ (.tail _ (.tail _ (.tail _ (.tail _ hW)))))))⟩, hwW⟩
      case ly => exact ⟨_, ⟨_, N₃.get (.head _)⟩, hyv⟩
      intro h₄ tk₄ g₄ r t₄ ps₄ hr ct₄ hg₄ F₄ N₄
      try dsimp only at N₄
      clear F₃ N₃ ct hg
      have hwl := hwd.1
      have hwl8 : wd.length < 8 := by rw [hwl, covsOf, List.length_map, List.length_range]; exact hi8
      k_steps
      rename Fr _ _ _ _ => F₅
      rename News _ _ _ _ => N₅
      have hgi : (wd ++ [Value.float r t₄])[(i : Int).toNat]? = some (Value.float r t₄) := by
        have e : (i : Int).toNat = wd.length := by rw [hwl, covsOf, List.length_map, List.length_range]; rfl
        rw [e, List.getElem?_append_right (Nat.le_refl _), Nat.sub_self]; rfl
      refine item_litK (⟨_, N₅.get (.tail _ (.tail _ (.head _))), rfl, _, rfl⟩) (Int.natCast_nonneg i) (by omega) hgi ?_ (by with_unfolding_all rfl)
      k_steps
      rename Fr _ _ _ _ => F₆
      rename News _ _ _ _ => N₆
      have hnr : ∀ p ∈ rest, p.1 ≠ I := fun p hp => hn p (.tail _ (.tail _ (.tail _ (.tail _ (.tail _ hp)))))
      refine turn_nextS (nx := (TD, listOf (wd ++ [Value.float r t₄]).toArray (k + 1)) :: (L+1+1+1+1, oM4) :: (57, tabObj ps₄) :: (L+1+1+1+1+1, o5) :: (L+1+1+1+1+1+1, o6) :: rest) F₆ N₆ (.tail _ (.head _)) (fun p hp => .tail _ (.tail _ hp)) (by k_all) ⟨hg₄, ⟨rfl, hm.q, hm.s⟩, _, _, oM4, _, ps₄, rfl, d4', ct₄, ?_⟩
      have e : covsOf tb (i + 1) = covsOf tb i ++ [covOf tb i] := by unfold covsOf; rw [List.range_succ, List.map_append]; rfl
      rw [e]
      exact hwd.snoc hr
  · rintro m₁ news₁ h tk₁ g ⟨hg, hm, wd, k, o4, v4, ps, rfl, d4, ct, hwd⟩ F₁ N₁
    obtain ⟨q1, q2, q3⟩ := above_six l57 hLT
    exact H prog w mean mg mb s h0 L h m₁ tk₁ g Q E T WD SQ O S TD tb st ps o5 o6 v5 v6 ((TD, listOf wd.toArray k) :: rest) b ct hg F₁ hm (fun p hp => N₁ p (by
      rcases List.mem_cons.mp hp with rfl | hp
      · exact .tail _ (.tail _ (.head _))
      · rcases List.mem_cons.mp hp with rfl | hp
        · exact .tail _ (.tail _ (.tail _ (.head _)))
        · rcases List.mem_cons.mp hp with rfl | hp
          · exact .tail _ (.tail _ (.tail _ (.tail _ (.head _))))
          · rcases List.mem_cons.mp hp with rfl | hp
            · exact .head _
            · exact .tail _ (.tail _ (.tail _ (.tail _ (.tail _ hp)))))) (hZ.cons q1 q2 q3) ⟨oc3, .tail _ hc3, dc3⟩ ⟨wd, k, .head _, hwd⟩ d5 d6
end

end

section
local macro_rules | `(tactic| walk_at "call ref") => `(tactic| (k_here; (with_reducible show wpAny _ _ (call (Value.ref 62) [_, _]) _ _ _); with_reducible refine held_i ?_))
local macro_rules | `(tactic| walk_at "call ref") => `(tactic| (k_here; (with_reducible show wpAny _ _ (call (Value.ref 146) [_, _]) _ _ _); with_reducible refine held_i ?_))
local macro_rules | `(tactic| walk_at "call ref") => `(tactic| (k_here; (with_reducible show wpAny _ _ (call (Value.ref 158) [_]) _ _ _); with_reducible refine held_i ?_))
local macro_rules | `(tactic| walk_at "call ref") => `(tactic| (k_here; (with_reducible show wpAny _ _ (call (Value.ref 165) [_, _]) _ _ _); with_reducible refine held_i ?_))
local macro_rules | `(tactic| walk_at "eval Call Attribute") => `(tactic| (k_here; refine MethodCall_ ?_))
local macro_rules | `(tactic| k_mem) => `(tactic| with_reducible_and_instances assumption)
local macro_rules | `(tactic| k_all) => `(tactic| with_reducible assumption)
local macro_rules | `(tactic| walk_at "my_sub") => `(tactic| first | exact List.forall_mem_nil _ | (refine' List.forall_mem_cons.mpr ⟨?a, ?b⟩; (case a => k_mem); (case b => walk_at "my_sub")))
local macro_rules | `(tactic| walk_at "my_law") => `(tactic| (unfold LawGoal; dsimp only [lawStmts, lawEnv, lawScope, PySem.Challenge.pw_re0015_01, List.drop, List.drop_succ_cons, List.drop_zero]))
local macro_rules | `(tactic| walk_at "execs cons") => `(tactic| (k_here; (have hst' : StopMark := by with_reducible assumption); clear hst'; with_reducible refine held_i ?_))
local macro_rules | `(tactic| walk_at "execs cons") => `(tactic| (k_here; (have hst' : StopFor := by with_reducible assumption); (with_reducible show wpAny _ _ (execs (PySem.Stmt.For _ _ _ _ _ :: _) _) _ _ _); clear hst'; with_reducible refine held_i ?_))
local macro_rules | `(tactic| walk_at "call type:range cons nil") => `(tactic| (k_here; (with_reducible show wpAny _ _ (call (Value.type "range") _) (CompK _ _ _ _ _ _ _ _ _ _ _ _ _) _ _); with_reducible refine held_i ?_))
local macro_rules | `(tactic| walk_at "call type:range cons nil") => `(tactic| (k_here; (with_reducible show wpAny _ _ (call (Value.type "range") _) (CompKA _ _ _ _ _ _ _ _ _ _ _ _ _ _ _) _ _); with_reducible refine held_i ?_))
local macro_rules | `(tactic| walk_at "compareOp NotEq ref ref") => `(tactic| (k_here; with_reducible refine held_i ?_))
local macro_rules | `(tactic| walk_at "compareOp Eq ref ref") => `(tactic| (k_here; with_reducible refine held_i ?_))
local macro_rules | `(tactic| walk_at "compareOp NotIn int ref") => `(tactic| (k_here; with_reducible refine held_i ?_))
local macro_rules | `(tactic| walk_at "binaryOp Add ref ref") => `(tactic| (k_here; with_reducible refine held_i ?_))

section
def FamsAre (ws : List Value) (fams : List (List Int)) (rest : List (Addr × Obj)) : Prop := ws.length = fams.length ∧ ∀ (i : Nat) (fam : List Int), fams[i]? = some fam → ∃ a, ws[i]? = some (Value.ref a) ∧ RL rest a fam
def famsOf (st : List Int) : List (List Int) := [[0]] ++ (List.range 7).map (fun j : Nat => [0, 1 + (j : Int)]) ++ [famOf (st.take 2), famOf st]
def SegFor (n : Nat) : Prop := ∀ (prog : Program) (w : World) (mean : ExcName → Option Value) (mg mb : Str → Option Value) (s : Shared) (h0 : Heap) (L : Addr) (h : Heap) (m : Str → Option Value) (tk : Nat) (g : Array GenState) (Q : Flow → Shared → Prop) (E : Value → Shared → Prop)
  (T WD SQ O S TD LF : Addr) (wf : List Value) (kf : Nat) (tb st : List Int) (ps : Array Value) (o5 o6 : Obj) (v5 v6 : Option Value) (rest : List (Addr × Obj)), B0 w mean mg mb s h0 L Q → CT h0 ps → AllBare g → Fr h0 L h m → MZ m WD SQ S → m (Str.ofString "families") = some (.ref LF) →
  News h0 L h ((57, tabObj ps) :: (L+1+1+1+1+1, o5) :: (L+1+1+1+1+1+1, o6) :: rest) →
  Z L rest T WD SQ O S tb st → RC rest (L+1+1+1) (.ref TD) → RF rest TD (covsOf tb 8) → (LF, listOf wf.toArray kf) ∈ rest → FamsAre wf (famsOf st) rest → o5.data = .cell v5 → o6.data = .cell v6 →
  LawGoal prog w L n Q E { s with heap := h, toks := tk, gens := g }

theorem FamsAre.mono {ws : List Value} {fams : List (List Int)} {rest rest' : List (Addr × Obj)} (h : FamsAre ws fams rest) (hs : ∀ p ∈ rest, p ∈ rest') : FamsAre ws fams rest' :=
  ⟨h.1, fun i fam e => let ⟨a, h1, w, k, h2, h3⟩ := h.2 i fam e; ⟨a, h1, w, k, hs _ h2, h3⟩⟩
theorem FamsAre.append {ws us : List Value} {fams gams : List (List Int)} {rest : List (Addr × Obj)} (h : FamsAre ws fams rest) (g : FamsAre us gams rest) : FamsAre (ws ++ us) (fams ++ gams) rest := by
  refine ⟨by rw [List.length_append, List.length_append, h.1, g.1], fun i fam e => ?_⟩
  by_cases hi : i < fams.length
  · rw [List.getElem?_append_left hi] at e
    obtain ⟨a, h1, h2⟩ := h.2 i fam e
    exact ⟨a, by rw [List.getElem?_append_left (by rw [h.1]; exact hi)]; exact h1, h2⟩
  · rw [List.getElem?_append_right (by omega)] at e
    obtain ⟨a, h1, h2⟩ := g.2 _ fam e
    exact ⟨a, by rw [List.getElem?_append_right (by rw [h.1]; omega), h.1]; exact h1, h2⟩
theorem FamsAre.one {a : Addr} {fam : List Int} {rest : List (Addr × Obj)} (h : RL rest a fam) : FamsAre [Value.ref a] [fam] rest := by
  refine ⟨rfl, fun i f e => ?_⟩
  match i, e with
  | 0, e => cases e; exact ⟨a, rfl, h⟩
theorem FamsAre.two {a b : Addr} {f g : List Int} {rest : List (Addr × Obj)} (h : RL rest a f) (h' : RL rest b g) : FamsAre [Value.ref a, Value.ref b] [f, g] rest := FamsAre.append (FamsAre.one h) (FamsAre.one h')

def JF (B : Addr) (fs : Nat → List Int) : Nat → List Value → List (Addr × Obj) → Nat → Prop := fun i ys nw _ => FamsAre ys ((List.range i).map fs) nw ∧ ∀ p ∈ nw, @LT.lt Nat _ B p.1
theorem cj_JF (B : Addr) (fs : Nat → List Int) (tk : Nat) : CJ (JF B fs) tk where
  zero := ⟨⟨rfl, fun i f e => by simp at e⟩, fun _ h => nomatch h⟩
  len := fun i ys nx tk h => by rw [h.1.1, List.length_map, List.length_range]
  tk := fun _ _ _ _ _ h _ => h
theorem JF.snoc {B : Addr} {fs : Nat → List Int} {i : Nat} {ys : List Value} {nw : List (Addr × Obj)} {tk tk' : Nat} {a : Addr} {ws : List Value} {k : Nat} (h : JF B fs i ys nw tk) (hi : IntsAre ws (fs i)) (hB : @LT.lt Nat _ B a) : JF B fs (i + 1) (ys ++ [Value.ref a]) ((a, listOf ws.toArray k) :: nw) tk' := by
  refine ⟨?_, List.forall_mem_cons.mpr ⟨hB, h.2⟩⟩
  rw [List.range_succ, List.map_append]
  exact (h.1.mono fun _ hp => .tail _ hp).append (FamsAre.one ⟨ws, k, .head _, hi⟩)
theorem k_family {prog : Program} {w : World} {A : Around} {E : Value → Shared → Prop} {s : Shared} {mg mb : Str → Option Value} {h₀ : Heap} {L : Addr} {m : Str → Option Value} {news : List (Addr × Obj)} {Q : Value → Shared → Prop} {l : Addr} {ns : List Int} (F : Fr h₀ L s.heap m) (N : News h₀ L s.heap news) (ev : Ev w mg mb h₀) (hroom : A.depth + 9 < recursionLimit) (hh : A.handled = none) (hl : IL s.heap l ns) (hlen : ns.length ≤ 3)
    (k : ∀ h' tk D ws c, Fr h₀ L h' m → News h₀ L h' ((D, listOf ws.toArray c) :: news) → IntsAre ws (famOf ns) → (∀ p ∈ news, p.1 ≠ D) → Q (.ref D) { s with heap := h', toks := tk }) : wpAny (model prog w) A (call (.ref 158) [.ref l]) Q E s := by
  refine call_family (ev.keeps F.keep) hroom hh hl hlen fun h' tk D hk hD hI => ?_
  obtain ⟨ws, ⟨c, hg⟩, hi⟩ := hI
  obtain ⟨N', hn⟩ := news_new F N hk hD hg
  exact k h' tk D ws c (F.keeps hk) N' hi hn

section
variable {prog : Program} {w : World} {A : Around} {E : Value → Shared → Prop} {s : Shared} {h₀ : Heap} {L : Addr} {m : Str → Option Value} {news : List (Addr × Obj)} {Q : Value → Shared → Prop} {env : Env} {elt iter : PySem.Expr} {x : Str} {px pos : Pos} {scope : Scope} {cl : List (Str × Addr)}
theorem comp_range2 {a b : Int} {t₁ t₂ : Tok} (J : Nat → List Value → List (Addr × Obj) → Nat → Prop) (cj : CJ J s.toks) (cs : CScope scope x) (hh : A.handled = none) (ha : -(2 ^ 62) ≤ a) (hab : a ≤ b) (hb : b < 2 ^ 62) (F : Fr h₀ L s.heap m) (N : News h₀ L s.heap news) (hnsz : (b - a).toNat ≤ sizeLine)
    (turn : ∀ s₁ : Shared, (∀ b o, s.heap.get? b = some o → s₁.heap.get? b = some o) → s₁.gens = s.gens → CTurn prog w A s₁ env elt x scope cl (b - a).toNat (fun i v => ∃ t, v = .int (a + (i : Nat)) t) J)
    (done : ∀ D ys k nw h' tk, J (b - a).toNat ys nw tk → Fr h₀ L h' m → News h₀ L h' ((D, listOf ys.toArray k) :: nw ++ news) → (∀ p ∈ news, p.1 < D) → Q (.ref D) { s with heap := h', toks := tk }) :
    wpAny (model prog w) A (call (.type "range") [.int a t₁, .int b t₂]) (CompK prog w A env elt iter x px scope cl pos Q E) E s := by
  refine call_range_2 ?_
  refine compE_range J ⟨cj.tk _ _ _ _ _ cj.zero (by first | exact Nat.le_refl _ | exact Nat.le_succ _ | (show s.toks ≤ s.toks + 1 + 1; omega)), cj.len, cj.tk⟩ cs hh (IsRange.new ..) ha hab hb (F.push _) (news_keeps N fun _ _ e => Heap.get?_push_of_some _ e) hnsz ?_ ?_
  · simp only [Int.mul_one]
    exact turn _ (fun _ _ e => Heap.get?_push_of_some _ e) rfl
  · intro D ys k nw h' tk hJ
    exact done D ys k nw h' tk hJ
end

theorem Z.app {L : Addr} {rest nw : List (Addr × Obj)} {T WD SQ O S : Addr} {tb st : List Int} (z : Z L rest T WD SQ O S tb st) (h : ∀ p ∈ nw, p.1 ≠ 57 ∧ p.1 ≠ L+1+1+1+1+1 ∧ p.1 ≠ L+1+1+1+1+1+1) : Z L (nw ++ rest) T WD SQ O S tb st := by
  induction nw with
  | nil => exact z
  | cons p nw ih => exact (ih fun q hq => h q (.tail _ hq)).cons (h p (.head _)).1 (h p (.head _)).2.1 (h p (.head _)).2.2

set_option maxHeartbeats 8000000 in
theorem segD (H : SegFor 12) : SegD := by
  intro prog w mean mg mb s h0 L h m tk g Q E T WD SQ O S TD tb st ps o5 o6 v5 v6 rest b ct hg F hm N hZ hc3 hTD d5 d6
  have l57 := b.l57
  have ev := b.lc.ev
  have KX := ev.K
  have TX := ev.T
  have hn57 := hZ.n57
  have hn5 := hZ.n5
  have hn6 := hZ.n6
  have htb := hZ.htb
  obtain ⟨wT, kT, hT, hwT⟩ := hZ.t
  obtain ⟨wW, kW, hW, hwW⟩ := hZ.w
  obtain ⟨wS, kS, hS, hwS⟩ := hZ.s
  obtain ⟨oc1, hc1, dc1⟩ := hZ.c1
  have F := fr_know (fr_know F hm.w) (x := Str.ofString "steps") hm.s
  walk_at "my_law"
  k_steps
  refine comp_start (cl := []) rfl rfl (by decide) ?_ (by intro _; rfl)
  k_steps
  have evS := ev.keeps F.keep
  refine compE_list (JI tb fun v => 56 * v) (cj_JI _ _ _) ⟨by decide, rfl, rfl⟩ rfl ⟨_, N.get (.tail _ (.tail _ (.tail _ hT))), rfl, _, rfl⟩ F N (by rw [hwT.length, htb.1]; decide) ?_ ?_
  · intro I₂ C D₂ j v₂ m₂ ys' kk' nw h₃ tk₃ o₂ E₂ hI₂ hD₂ hC₂ hj hP hJ hn₂ G NN tk₄ htk
    obtain ⟨x, tx, rfl, hx⟩ := hwT.at j v₂ hP
    have hmul : IntMulOk 56 x := mulOk_small (by decide)
    obtain rfl := hJ.2.1
    clear F N KX TX
    have KX := evS.K
    have TX := evS.T
    k_steps
    rename Fr _ _ _ _ => F'
    rename News _ _ _ _ => N'
    exact elt_end F' N' (fun _ h => nomatch h) (hJ.snoc hx)
  · intro D ys kk nw h₂ tk₂ hJ F₂ N₂ hlt₂
    rw [hwT.length] at hJ
    obtain ⟨rfl, hys⟩ := hJ.end
    simp only [List.cons_append, List.nil_append] at N₂
    clear F N evS
    k_lt hlt₂
    k_steps
    refine ne_intsK ⟨_, N₂.get (.tail _ (.tail _ (.tail _ (.tail _ hW)))), rfl, _, rfl⟩ hwW ⟨_, N₂.get (.head _), rfl, _, rfl⟩ hys (by units_room) ?_
    rw [decide_eq_true rfl, Bool.not_true]
    have N₃ : News h0 L h₂ ((57, tabObj ps) :: (L+1+1+1+1+1, o5) :: (L+1+1+1+1+1+1, o6) :: rest) := fun p hp => N₂ p (.tail _ hp)
    clear N₂
    k_steps
    rename Fr _ _ _ _ => F₄
    rename News _ _ _ _ => N₄
    rename_i f0 _ q0 fz _ qz
    refine comp_start (cl := []) rfl rfl (by decide) ?_ (by intro _; rfl)
    k_steps
    refine comp_range2 (JF (L + 6) fun j => [0, 1 + (j : Int)]) (cj_JF _ _ _) ⟨by decide, rfl, rfl⟩ rfl (by decide) (by decide) (by decide) F₄ N₄ (by decide) ?_ ?_
    · intro s₂ hk₂ hg₂ I₂ C₂ D₂ j v m₂ ys₂ k₂ nw h₂ tk₃ o₂ E₂ hI₂ hD₂ hC₂ hjj hP hJ hn₂ G₂ NN₂ tk₄ htk₄
      obtain ⟨tt, rfl⟩ := hP
      have evE := (ev.keeps F₄.keep).keeps hk₂
      have hL6 : @LT.lt Nat _ (L + 6) s₂.heap.objs.size := Heap.lt_size (hk₂ _ _ (N₄ _ (.tail _ (.tail _ (.tail _ (.tail _ (.head _)))))).1)
      clear F₄ N₄ KX TX
      have KX := evE.K
      have TX := evE.T
      k_steps
      rename Fr _ _ _ _ => F'
      rename News _ _ _ _ => N'
      rename_i a _ qa
      have hIa := ltN qa.1
      have hDa := ltN qa.2.1
      replace hI₂ : @LE.le Nat _ s₂.heap.objs.size I₂ := hI₂
      exact ⟨_, _, _, rfl, F', N', .tail _ (.head _), .tail _ (.tail _ (.head _)), (a, _) :: nw, fun p hp => by
        rcases List.mem_cons.mp hp with rfl | hp
        · exact .head _
        · exact .tail _ (.tail _ (.tail _ hp)), List.forall_mem_cons.mpr ⟨⟨Nat.ne_of_gt hIa, Nat.ne_of_gt hDa⟩, hn₂⟩, hJ.snoc (ws := [.int 0 tk₄, .int (1 + (j : Int)) tt]) (k := 0) (.cons 0 _ (.cons _ _ .nil)) (Nat.lt_of_lt_of_le hL6 (Nat.le_trans hI₂ (Nat.le_of_lt hIa)))⟩
    · intro D ys₂ k₂ nw h₂ tk₃ hJ F₅ N₅ hlt₅
      obtain ⟨hJ, hnw⟩ := hJ
      have hyl : ys₂.length = 7 := hJ.1
      refine add_lists (hsz := by rw [hyl, List.length_singleton]; decide) (vs := [.ref f0]) (ws := ys₂) F₅ N₅ ⟨_, N₅.get (.tail _ (List.mem_append_right _ (.head _))), rfl, _, rfl⟩ ⟨_, N₅.get (.head _), rfl, _, rfl⟩ ?_
      intro h₆ F₆ N₆
      dsimp only at N₆ ⊢
      have hLF : @LT.lt Nat _ (L + 6) h₂.objs.size := Heap.lt_size (N₅ (L+1+1+1+1+1+1, o6) (.tail _ (List.mem_append_right _ (.tail _ (.tail _ (.tail _ (.tail _ (.head _)))))))).1
      generalize h₂.objs.size = LF0 at N₆ hLF ⊢
      have hq : ∀ p ∈ nw, p.1 ≠ 57 ∧ p.1 ≠ L+1+1+1+1+1 ∧ p.1 ≠ L+1+1+1+1+1+1 := fun p hp => above_six l57 (hnw p hp)
      have hf0 : f0 ≠ 57 ∧ f0 ≠ L+1+1+1+1+1 ∧ f0 ≠ L+1+1+1+1+1+1 := above_six l57 q0.2.2.1
      have hLF2 := above_six l57 hLF
      have hZ₇ : Z L (nw ++ (f0, listOf ([Value.int 0 tk₂] : List Value).toArray 0) :: rest) T WD SQ O S tb st := Z.app (hZ.cons hf0.1 hf0.2.1 hf0.2.2) hq
      have hfam : FamsAre ([Value.ref f0] ++ ys₂) ([[0]] ++ (List.range 7).map fun j : Nat => [0, 1 + (j : Int)]) (nw ++ (f0, listOf ([Value.int 0 tk₂] : List Value).toArray 0) :: rest) :=
        (FamsAre.one ⟨_, 0, List.mem_append_right _ (.head _), .cons 0 tk₂ .nil⟩).append (hJ.mono fun p hp => List.mem_append_left _ hp)
      have hsub : ∀ p ∈ rest, p ∈ nw ++ (f0, listOf ([Value.int 0 tk₂] : List Value).toArray 0) :: rest := fun p hp => List.mem_append_right _ (.tail _ hp)
      have N₇ : News h0 L h₆ ((LF0, listOf ([Value.ref f0] ++ ys₂).toArray 0) :: (S, listOf wS.toArray kS) :: (57, tabObj ps) :: (L+1+1+1+1+1, o5) :: (L+1+1+1+1+1+1, o6) :: (nw ++ (f0, listOf ([Value.int 0 tk₂] : List Value).toArray 0) :: rest)) := fun p hp => N₆ p (by
        rcases List.mem_cons.mp hp with rfl | hp
        · exact .head _
        · rcases List.mem_cons.mp hp with rfl | hp
          · exact .tail _ (List.mem_append_right _ (.tail _ (.tail _ (.tail _ (.tail _ (.tail _ hS))))))
          · rcases List.mem_cons.mp hp with rfl | hp
            · exact .tail _ (List.mem_append_right _ (.tail _ (.tail _ (.head _))))
            · rcases List.mem_cons.mp hp with rfl | hp
              · exact .tail _ (List.mem_append_right _ (.tail _ (.tail _ (.tail _ (.head _)))))
              · rcases List.mem_cons.mp hp with rfl | hp
                · exact .tail _ (List.mem_append_right _ (.tail _ (.tail _ (.tail _ (.tail _ (.head _))))))
                · rcases List.mem_append.mp hp with hp | hp
                  · exact .tail _ (List.mem_append_left _ (.tail _ hp))
                  · rcases List.mem_cons.mp hp with rfl | hp
                    · exact .tail _ (List.mem_append_right _ (.tail _ (.head _)))
                    · exact .tail _ (List.mem_append_right _ (.tail _ (.tail _ (.tail _ (.tail _ (.tail _ hp)))))))
      obtain ⟨oc3, hc3, dc3⟩ := hc3
      generalize hrest : nw ++ (f0, listOf ([Value.int 0 tk₂] : List Value).toArray 0) :: rest = rest7 at *
      have hn57 := hZ₇.n57
      have hn5 := hZ₇.n5
      have hn6 := hZ₇.n6
      generalize hwf : [Value.ref f0] ++ ys₂ = wf0 at *
      have hwfl : wf0.length = 8 := by rw [hfam.1]; rfl
      clear F₄ N₄ N₆ F₅ N₅ hq hrest hwf hJ hnw hlt₅
      have hstl := hZ.hst.1
      k_steps
      rename Fr _ _ _ _ => F'
      rename News _ _ _ _ => N'
      rename IntsAre _ (List.take 2 st) => hI2
      refine k_family F' N' ev (by k_room) rfl ⟨_, ⟨_, N'.get (.head _)⟩, hI2⟩ (by rw [List.length_take]; omega) ?_
      intro h₇ tk₇ A1 wa ka F₇ N₈ hwa hnA
      have N₈ : News h0 L h₇ ((A1, listOf wa.toArray ka) :: (LF0, listOf wf0.toArray 0) :: (S, listOf wS.toArray kS) :: (57, tabObj ps) :: (L+1+1+1+1+1, o5) :: (L+1+1+1+1+1+1, o6) :: rest7) := fun p hp => N₈ p (by
        rcases List.mem_cons.mp hp with rfl | hp
        · exact .head _
        · exact .tail _ (.tail _ hp))
      have hA57 : A1 ≠ 57 := Ne.symm (hnA _ (.tail _ (.tail _ (.tail _ (.head _)))))
      have hA5 : A1 ≠ L+1+1+1+1+1 := Ne.symm (hnA _ (.tail _ (.tail _ (.tail _ (.tail _ (.head _))))))
      have hA6 : A1 ≠ L+1+1+1+1+1+1 := Ne.symm (hnA _ (.tail _ (.tail _ (.tail _ (.tail _ (.tail _ (.head _)))))))
      clear F' N' hI2 hnA
      k_steps
      refine k_family F₇ N₈ ev (by k_room) rfl ⟨_, ⟨_, N₈.get (.tail _ (.tail _ (.head _)))⟩, hwS⟩ (by omega) ?_
      intro h₈ tk₈ A2 wb kb F₈ N₉ hwb hnB
      have hB57 : A2 ≠ 57 := Ne.symm (hnB _ (.tail _ (.tail _ (.tail _ (.head _)))))
      have hB5 : A2 ≠ L+1+1+1+1+1 := Ne.symm (hnB _ (.tail _ (.tail _ (.tail _ (.tail _ (.head _))))))
      have hB6 : A2 ≠ L+1+1+1+1+1+1 := Ne.symm (hnB _ (.tail _ (.tail _ (.tail _ (.tail _ (.tail _ (.head _)))))))
      clear F₇ N₈ hnB
      k_steps
      rename Fr _ _ _ _ => F'
      rename News _ _ _ _ => N'
      rename_i la hX qla
      refine add_lists (hsz := by rw [hwfl, List.length_cons, List.length_singleton]; decide) (vs := wf0) (ws := [Value.ref A1, Value.ref A2]) F' N' ⟨_, N'.get (.tail _ (.tail _ (.tail _ (.head _)))), rfl, _, rfl⟩ ⟨_, N'.get (.head _), rfl, _, rfl⟩ ?_
      intro h₉ F₉ N₁₀
      have hLn : @LT.lt Nat _ (L + 6) hX.objs.size := Heap.lt_size (N' (L+1+1+1+1+1+1, o6) (.tail _ (.tail _ (.tail _ (.tail _ (.tail _ (.tail _ (.tail _ (.head _))))))))).1
      dsimp only at N₁₀ ⊢
      generalize hX.objs.size = LF at N₁₀ hLn ⊢
      have q := above_six l57 hLn
      have hZ₈ := ((hZ₇.cons hA57 hA5 hA6 (p := (A1, listOf wa.toArray ka))).cons hB57 hB5 hB6 (p := (A2, listOf wb.toArray kb))).cons q.1 q.2.1 q.2.2 (p := (LF, listOf (wf0 ++ [Value.ref A1, Value.ref A2]).toArray 0))
      have N₁₁ : News h0 L h₉ ((LF, listOf (wf0 ++ [Value.ref A1, Value.ref A2]).toArray 0) :: (A2, listOf wb.toArray kb) :: (A1, listOf wa.toArray ka) :: (57, tabObj ps) :: (L+1+1+1+1+1, o5) :: (L+1+1+1+1+1+1, o6) :: rest7) := fun p hp => N₁₀ p (by
        rcases List.mem_cons.mp hp with rfl | hp
        · exact .head _
        · rcases List.mem_cons.mp hp with rfl | hp
          · exact .tail _ (.tail _ (.head _))
          · rcases List.mem_cons.mp hp with rfl | hp
            · exact .tail _ (.tail _ (.tail _ (.head _)))
            · exact .tail _ (.tail _ (.tail _ (.tail _ (.tail _ (.tail _ hp))))))
      clear F' N' N₁₀
      have hstop : StopFor := trivial
      k_steps
      rename Fr _ _ _ _ => F'
      rename News _ _ _ _ => N'
      refine H prog w mean mg mb s h0 L _ _ _ g Q E T WD SQ O S TD LF (wf0 ++ [Value.ref A1, Value.ref A2]) 0 tb st ps o5 o6 v5 v6 ((LF, listOf (wf0 ++ [Value.ref A1, Value.ref A2]).toArray 0) :: (A2, listOf wb.toArray kb) :: (A1, listOf wa.toArray ka) :: rest7) b ct hg F' ⟨rfl, hm.q, rfl⟩ rfl (fun p hp => N' p ?_) hZ₈ ?_ ?_ (.head _) ?_ d5 d6
      · rcases List.mem_cons.mp hp with rfl | hp
        · exact .tail _ (.tail _ (.tail _ (.head _)))
        · rcases List.mem_cons.mp hp with rfl | hp
          · exact .tail _ (.tail _ (.tail _ (.tail _ (.head _))))
          · rcases List.mem_cons.mp hp with rfl | hp
            · exact .tail _ (.tail _ (.tail _ (.tail _ (.tail _ (.head _)))))
            · rcases List.mem_cons.mp hp with rfl | hp
              · exact .head _
              · rcases List.mem_cons.mp hp with rfl | hp
                · exact .tail _ (.head _)
                · rcases List.mem_cons.mp hp with rfl | hp
                  · exact .tail _ (.tail _ (.head _))
                  · exact .tail _ (.tail _ (.tail _ (.tail _ (.tail _ (.tail _ hp)))))
      · exact ⟨oc3, .tail _ (.tail _ (.tail _ (hsub _ hc3))), dc3⟩
      · obtain ⟨wt, kt, h1, h2⟩ := hTD
        exact ⟨wt, kt, .tail _ (.tail _ (.tail _ (hsub _ h1))), h2⟩
      · exact (hfam.mono fun p hp => .tail _ (.tail _ (.tail _ hp))).append (FamsAre.two ⟨wa, ka, .tail _ (.tail _ (.head _)), hwa⟩ ⟨wb, kb, .tail _ (.head _), hwb⟩)
end

section
theorem fam_has_all : ((List.range 8).all fun a => (List.range 8).all fun b => (List.range 8).all fun c => [a, b, c].all fun x => (famOf [(a : Int), b, c]).any (· == (x : Int))) = true := by decide +kernel
theorem st3_of {st : List Int} (h : ST st) : ∃ a b c : Nat, a < 8 ∧ b < 8 ∧ c < 8 ∧ st = [(a : Int), b, c] := by
  obtain ⟨h1, h2⟩ := h
  match st, h1 with
  | [x, y, z], _ =>
    have hx := h2 x (.head _)
    have hy := h2 y (.tail _ (.head _))
    have hz := h2 z (.tail _ (.tail _ (.head _)))
    exact ⟨x.toNat, y.toNat, z.toNat, by omega, by omega, by omega, by rw [Int.toNat_of_nonneg hx.1, Int.toNat_of_nonneg hy.1, Int.toNat_of_nonneg hz.1]⟩
theorem fam_has {st : List Int} (h : ST st) : ∀ x ∈ st, (famOf st).any (· == x) = true := by
  obtain ⟨a, b, c, ha, hb, hc, rfl⟩ := st3_of h
  have h1 := List.all_eq_true.mp (List.all_eq_true.mp (List.all_eq_true.mp fam_has_all a (List.mem_range.mpr ha)) b (List.mem_range.mpr hb)) c (List.mem_range.mpr hc)
  have h2 := List.all_eq_true.mp h1
  intro x hx
  rcases List.mem_cons.mp hx with rfl | hx
  · exact h2 a (.head _)
  · rcases List.mem_cons.mp hx with rfl | hx
    · exact h2 b (.tail _ (.head _))
    · rw [List.mem_singleton.mp hx]; exact h2 c (.tail _ (.tail _ (.head _)))

set_option maxHeartbeats 8000000 in
theorem segE (H : SegFor 13) : SegFor 12 := by
  intro prog w mean mg mb s h0 L h m tk g Q E T WD SQ O S TD LF wf kf tb st ps o5 o6 v5 v6 rest b ct hg F hm hmf N hZ hc3 hTD hLF hwf d5 d6
  have l57 := b.l57
  have ev := b.lc.ev
  have KX := ev.K
  have TX := ev.T
  have hn57 := hZ.n57
  have hn5 := hZ.n5
  have hn6 := hZ.n6
  obtain ⟨wS, kS, hS, hwS⟩ := hZ.s
  have F := fr_know F hm.s
  walk_at "my_law"
  k_steps
  refine forK_list (vs := wS) (fun i m₁ news₁ g₁ => g₁ = g ∧ MZ m₁ WD SQ S ∧ m₁ (Str.ofString "families") = some (.ref LF) ∧ news₁ = (57, tabObj ps) :: (L+1+1+1+1+1, o5) :: (L+1+1+1+1+1+1, o6) :: rest)
    rfl ⟨_, N.get (.tail _ (.tail _ (.tail _ hS))), rfl, _, rfl⟩ F N ⟨rfl, ⟨hm.w, hm.q, rfl⟩, hmf, rfl⟩ ?_ ?_ ?_
  · refine ⟨listOf wS.toArray kS, ?_⟩
    rintro i m₁ news₁ g₁ h ⟨_, _, _, rfl⟩ _ N
    exact N.get (.tail _ (.tail _ (.tail _ hS)))
  · rintro I i v m₁ news₁ h tk₁ g₁ o E' hv ⟨rfl, hm, hmf, rfl⟩ hlow hn F₁ N₁
    obtain ⟨x, tx, rfl, hx⟩ := hwS.at i v hv
    have hmem := fam_has hZ.hst x (List.mem_of_getElem? hx)
    have F₂ := fr_know F₁ hmf
    clear F₁ F N
    k_lt hlow
    k_steps
    rename Fr _ _ _ _ => F'
    rename News _ _ _ _ => N'
    obtain ⟨fa, hfa, wfa, kfa, hfm, hfi⟩ := hwf.2 9 (famOf st) rfl
    refine item_litK (vs := wf) ⟨_, N'.get (.tail _ (.tail _ (.tail _ (.tail _ hLF)))), rfl, _, rfl⟩ (by decide) (by decide) hfa ?_ (by with_unfolding_all rfl)
    refine notin_list_ints ⟨_, N'.get (.tail _ (.tail _ (.tail _ (.tail _ hfm)))), rfl, _, rfl⟩ hfi ?_
    rw [hmem, Bool.not_true]
    k_steps
    exact turn_next F' N' hn ⟨rfl, ⟨hm.w, hm.q, hm.s⟩, rfl, rfl⟩
  · rintro m₁ news₁ h tk₁ g₁ ⟨rfl, hm, hmf, rfl⟩ F₁ N₁
    exact H prog w mean mg mb s h0 L h m₁ tk₁ _ Q E T WD SQ O S TD LF wf kf tb st ps o5 o6 v5 v6 rest b ct hg F₁ hm hmf N₁ hZ hc3 hTD hLF hwf d5 d6
end

section
local macro_rules | `(tactic| walk_at "call builtin:sum") => `(tactic| (k_here; with_reducible refine held_i ?_))

section
def famStmts : List Stmt := match lawStmts.drop 13 with | .For _ _ body _ _ :: _ => body | _ => []
def BodyGoal (prog : Program) (w : World) (L : Addr) (n : Nat) (Q : Flow → Shared → Prop) (E : Value → Shared → Prop) (s : Shared) : Prop := wpAny (model prog w) (callerA.deeper (lawEnv L)) (execs (famStmts.drop n) (lawEnv L)) Q E s
local macro_rules | `(tactic| walk_at "my_body") => `(tactic| (unfold BodyGoal; dsimp only [famStmts, lawStmts, lawEnv, lawScope, PySem.Challenge.pw_re0015_01, List.drop, List.drop_succ_cons, List.drop_zero]))

def oddAt (m : Int) : Int := oddL.getD m.toNat 0
def acrossOf (tb fam : List Int) (n : Nat) : Int := (List.range n).foldl (fun acc (i : Nat) => if (fam.filter fun m => oddAt (Builtin.bitAnd (1 + (i : Int)) m) == 1) = [] then acc + (sqOf tb).getD (1 + (i : Int)).toNat 0 else acc) 0
def apartIn (sums : List Int) (k : Nat) (acc : Int) (n : Nat) : Int := (List.range n).foldl (fun acc j => acc + (sums.getD k 0 - sums.getD j 0) ^ 2) acc
def apartOf (sums : List Int) (n : Nat) : Int := (List.range n).foldl (fun acc k => apartIn sums k acc k) 0
def covAt (tb : List Int) (m : Int) : Int := (covsOf tb 8).getD m.toNat 0
def fewOf (sums : List Int) : List Int := sums.map fun p => (sums.length : Int) * p
def lessOf (sums : List Int) : List Int := (fewOf sums).map fun v => ((sums.length : Int) - 1) * v

/-- what the plain law says of a family -/
structure FamOK (tb fam : List Int) : Prop where
  len : fam.length ≤ 8
  pos : 0 < fam.length
  bd : ∀ m ∈ fam, 0 ≤ m ∧ m < 8
  ov : ∀ i, i ≤ fam.length → (((fam.map (covAt tb)).take i).sum).natAbs < 2 ^ 53
  ov1 : ∀ c ∈ fam.map (covAt tb), c.natAbs < 2 ^ 53
  eq1 : (fam.map (covAt tb)).sum = 8 * (fam.length : Int) * apartOf (partsOf tb fam) (partsOf tb fam).length
  eq2 : acrossOf tb fam 7 = apartOf (partsOf tb fam) (partsOf tb fam).length
  ap : (apartOf (partsOf tb fam) (partsOf tb fam).length).natAbs < 2 ^ 50
  sz : (partsOf tb fam).length = 1 ∨ (2 ≤ (partsOf tb fam).length ∧ (partsOf tb fam).length < 8) ∨ (partsOf tb fam).length = 8
  pb : ∀ p ∈ partsOf tb fam, p.natAbs < 2 ^ 22
  rows : 2 ≤ (partsOf tb fam).length → (partsOf tb fam).length < 8 → ∃ X Y, Rows2 (lessOf (partsOf tb fam)) (fewOf (partsOf tb fam)) X Y ((partsOf tb fam).length * apartOf (partsOf tb fam) (partsOf tb fam).length)

structure MF (m : Str → Option Value) (WD SQ S LF FA : Addr) : Prop where
  z : MZ m WD SQ S
  lf : m (Str.ofString "families") = some (.ref LF)
  fa : m (Str.ofString "family") = some (.ref FA)
/-- where a turn of the last loop stands -/
structure BC (w : World) (mean : ExcName → Option Value) (mg mb : Str → Option Value) (h0 : Heap) (L : Addr) (rest : List (Addr × Obj)) (T WD SQ O S TD FA : Addr) (tb st fam : List Int) : Prop where
  lc : LC w mean mg mb h0
  l57 : @LT.lt Nat _ 57 L
  z : Z L rest T WD SQ O S tb st
  c3 : RC rest (L+1+1+1) (.ref TD)
  td : RF rest TD (covsOf tb 8)
  fa : RL rest FA fam
  ok : FamOK tb fam
def FinB (s : Shared) (h0 : Heap) (L : Addr) (WD SQ S LF : Addr) (rest : List (Addr × Obj)) (QB : Flow → Shared → Prop) : Prop := ∀ h' tk' g' m' ps' o5 o6 v5 v6, CT h0 ps' → AllBare g' → Fr h0 L h' m' → MZ m' WD SQ S → m' (Str.ofString "families") = some (.ref LF) →
  News h0 L h' ((57, tabObj ps') :: (L+1+1+1+1+1, o5) :: (L+1+1+1+1+1+1, o6) :: rest) → o5.data = .cell v5 → o6.data = .cell v6 → QB .next { s with heap := h', toks := tk', gens := g' }

/-- a turn of the last loop from its statement n on -/
def SegBd (n : Nat) (MS : (tb fam : List Int) → (Str → Option Value) → Prop) : Prop := ∀ (prog : Program) (w : World) (mean : ExcName → Option Value) (mg mb : Str → Option Value) (s : Shared) (h0 : Heap) (L : Addr) (h : Heap) (m : Str → Option Value) (tk : Nat) (g : Array GenState) (QB : Flow → Shared → Prop) (E : Value → Shared → Prop)
  (T WD SQ O S TD LF FA : Addr) (tb st fam : List Int) (ps : Array Value) (o5 o6 : Obj) (v5 v6 : Option Value) (rest : List (Addr × Obj)), BC w mean mg mb h0 L rest T WD SQ O S TD FA tb st fam → FinB s h0 L WD SQ S LF rest QB → CT h0 ps → AllBare g → Fr h0 L h m → MF m WD SQ S LF FA → MS tb fam m →
  News h0 L h ((57, tabObj ps) :: (L+1+1+1+1+1, o5) :: (L+1+1+1+1+1+1, o6) :: rest) → o5.data = .cell v5 → o6.data = .cell v6 → BodyGoal prog w L n QB E { s with heap := h, toks := tk, gens := g }

def OverIs (tb fam : List Int) (m : Str → Option Value) : Prop := ∃ r t, m (Str.ofString "over") = some (Value.float r t) ∧ Is r (fam.map (covAt tb)).sum
def IntIs (x : Str) (n : Int) (m : Str → Option Value) : Prop := ∃ t, m x = some (Value.int n t)

section
variable {prog : Program} {w : World} {A : Around} {E : Value → Shared → Prop} {s : Shared} {Q : Value → Shared → Prop}
theorem flts_snoc {b : UInt64} {t : Tok} : ∀ {vs : List Value} {bs : List UInt64}, PySem.Flt.FloatsAre vs bs → PySem.Flt.FloatsAre (vs ++ [Value.float b t]) (bs ++ [b])
  | _, _, .nil => .cons b t .nil
  | _, _, .cons a u h => .cons a u (flts_snoc h)
theorem sum_here {l : Addr} {vs : List Value} {bs : List UInt64} (hh : A.handled = none) (hl : s.heap.IsList l vs.toArray) (hf : PySem.Flt.FloatsAre vs bs) (h0 : bs.length ≠ 0)
    (k : ∀ h' tk t, (∀ b o, s.heap.get? b = some o → h'.get? b = some o) → Q (.float (PySem.Flt.sumOf bs) t) { s with heap := h', toks := tk }) :
    wpAny (model prog w) A (call (.builtin "sum") [.ref l]) Q E s := by
  refine PySem.Flt.call_sum_walkF (PySem.Flt.sumInts_map h0) (PySem.Flt.iter_list_ hl fun s₂ e st hfp hlI => ?_)
  subst e
  have W := (Walks.list (prog := prog) (w := w) (A := A.in1) hh _ l hlI vs.toArray).toS
  have hlen : vs.toArray.size = (bs.map WData.float).length := by simpa using hf.length
  rw [hlen] at W
  refine ⟨_, _, _, _, _, _, rfl, W, st, hfp, fun i v hP => ?_, fun s' v hv hm => ?_⟩
  · obtain ⟨b, t, rfl, e⟩ := hf.at i v (by simpa using hP)
    exact ⟨.float b, by simp [e], .float b t⟩
  · obtain ⟨hp, g, d, tk, os⟩ := s'
    have kp := PySem.Flt.kept_iter hm.heap
    cases hv
    have := fun t => k hp tk t kp
    have e1 : g = s.gens := hm.gens
    have e2 : d = s.drawn := hm.drawn
    have e3 : os = s.os := hm.os
    subst e1 e2 e3
    exact this _
end
def JO (tb fam : List Int) : Nat → List Value → List (Addr × Obj) → Nat → Prop := fun i ys nw _ => nw = [] ∧ i ≤ fam.length ∧ ∃ bs, PySem.Flt.FloatsAre ys bs ∧ bs.length = i ∧ ∀ (j : Nat) b n, bs[j]? = some b → (fam.map (covAt tb))[j]? = some n → Is b n
theorem cj_JO (tb fam : List Int) (tk : Nat) : CJ (JO tb fam) tk where
  zero := ⟨rfl, Nat.zero_le _, [], .nil, rfl, fun j b n h => by simp at h⟩
  len := fun i ys nx tk h => by obtain ⟨_, _, bs, h1, h2, _⟩ := h; rw [h1.length, h2]
  tk := fun _ _ _ _ _ h _ => h
theorem JO.snoc {tb fam : List Int} {i : Nat} {ys : List Value} {nw : List (Addr × Obj)} {tk tk' : Nat} {b : UInt64} {t : Tok} {x : Int} (h : JO tb fam i ys nw tk) (hx : fam[i]? = some x) (hb : Is b (covAt tb x)) : JO tb fam (i + 1) (ys ++ [Value.float b t]) [] tk' := by
  obtain ⟨_, _, bs, h1, h2, h3⟩ := h
  refine ⟨rfl, (List.getElem?_eq_some_iff.mp hx).1, bs ++ [b], flts_snoc h1, by simp [h2], fun j c n hc hn => ?_⟩
  by_cases hj : j < i
  · rw [List.getElem?_append_left (by omega)] at hc
    exact h3 j c n hc hn
  · have hlt := (List.getElem?_eq_some_iff.mp hc).1
    rw [List.length_append, List.length_singleton] at hlt
    have : j = i := by omega
    subst this
    rw [List.getElem?_append_right (by omega), h2, Nat.sub_self] at hc
    cases hc
    rw [List.getElem?_map, hx] at hn
    cases hn
    exact hb

set_option maxHeartbeats 8000000 in
theorem bodyOver (H : SegBd 2 fun tb fam m => OverIs tb fam m ∧ IntIs (Str.ofString "across") 0 m) : SegBd 0 fun _ _ _ => True := by
  intro prog w mean mg mb s h0 L h m tk g QB E T WD SQ O S TD LF FA tb st fam ps o5 o6 v5 v6 rest b fin ct hg F hm _ N d5 d6
  have l57 := b.l57
  have ev := b.lc.ev
  have KX := ev.K
  have TX := ev.T
  have hn57 := b.z.n57
  have hn5 := b.z.n5
  have hn6 := b.z.n6
  obtain ⟨wF, kF, hF, hwF⟩ := b.fa
  obtain ⟨oc3, hc3, dc3⟩ := b.c3
  obtain ⟨wd, kd, hTD, hwd⟩ := b.td
  have F := fr_know F hm.fa
  walk_at "my_body"
  k_steps
  refine comp_start (cl := [(Str.ofString "told", L+1+1+1)]) rfl rfl (by decide) ?_ (by intro _; rfl)
  k_steps
  have evS := ev.keeps F.keep
  have hcell : Heap.IsCell h (L+1+1+1) (some (.ref TD)) := ⟨_, (N _ (.tail _ (.tail _ (.tail _ hc3)))).1, dc3⟩
  have hlist : h.IsList TD wd.toArray := ⟨_, (N _ (.tail _ (.tail _ (.tail _ hTD)))).1, rfl, _, rfl⟩
  refine compE_list (JO tb fam) (cj_JO _ _ _) ⟨by decide, rfl, rfl⟩ rfl ⟨_, N.get (.tail _ (.tail _ (.tail _ hF))), rfl, _, rfl⟩ F N (by rw [hwF.length]; exact Nat.le_trans b.ok.len (by decide)) ?_ ?_
  · intro I₂ C D₂ j v₂ m₂ ys' kk' nw h₃ tk₃ o₂ E₂ hI₂ hD₂ hC₂ hj hP hJ hn₂ G NN tk₄ htk
    obtain ⟨x, tx, rfl, hx⟩ := hwF.at j v₂ hP
    obtain ⟨hx0, hx8⟩ := b.ok.bd x (List.mem_of_getElem? hx)
    obtain rfl := hJ.1
    obtain ⟨r, t, hget, hr⟩ := hwd.2 x.toNat (covAt tb x) (by
      unfold covAt
      have hl : x.toNat < (covsOf tb 8).length := by rw [covsOf, List.length_map, List.length_range]; omega
      rw [List.getD_eq_getElem?_getD, List.getElem?_eq_getElem hl]; rfl)
    clear F N KX TX
    have KX := evS.K
    have TX := evS.T
    k_steps
    rename Fr _ _ _ _ => F'
    rename News _ _ _ _ => N'
    refine item_litK (vs := wd) (hlist.at fun o e => F'.keep _ o e) hx0 (by omega) hget ?_ (by with_unfolding_all rfl)
    exact elt_end F' N' (fun _ h => nomatch h) (hJ.snoc hx hr)
  · intro D ys kk nw h₂ tk₂ hJ F₂ N₂ hlt₂
    rw [hwF.length] at hJ
    obtain ⟨rfl, _, bs, hfl, hbl, hbi⟩ := hJ
    simp only [List.cons_append, List.nil_append] at N₂
    clear F N evS
    k_steps
    refine sum_here rfl ⟨_, N₂.get (.head _), rfl, _, rfl⟩ hfl (by rw [hbl]; exact Nat.ne_of_gt b.ok.pos) ?_
    intro h₃ tk₃ t₃ hk₃
    have F₃ := F₂.keeps hk₃
    have N₃ : News h0 L h₃ ((57, tabObj ps) :: (L+1+1+1+1+1, o5) :: (L+1+1+1+1+1+1, o6) :: rest) := fun p hp => news_keeps N₂ hk₃ p (.tail _ hp)
    have hsum := sumOf_is (ns := fam.map (covAt tb)) (by rw [hbl, List.length_map]) hbi (fun i hi => b.ok.ov i (by rw [List.length_map] at hi; exact hi)) b.ok.ov1
    clear F₂ N₂
    have hstop : StopFor := trivial
    k_steps
    rename Fr _ _ _ _ => F'
    rename News _ _ _ _ => N'
    exact H prog w mean mg mb s h0 L _ _ _ g QB E T WD SQ O S TD LF FA tb st fam ps o5 o6 v5 v6 rest b fin ct hg F' ⟨⟨hm.z.w, hm.z.q, hm.z.s⟩, hm.lf, rfl⟩ ⟨⟨_, _, rfl, hsum⟩, ⟨_, rfl⟩⟩ N' d5 d6
end

section
local macro_rules | `(tactic| walk_at "my_body") => `(tactic| (unfold BodyGoal; dsimp only [famStmts, lawStmts, lawEnv, lawScope, PySem.Challenge.pw_re0015_01, List.drop, List.drop_succ_cons, List.drop_zero]))

section
theorem and_bound {p m : Int} (h0 : 0 ≤ p) (h1 : p < 8) (h2 : 0 ≤ m) (h3 : m < 8) : 0 ≤ Builtin.bitAnd p m ∧ Builtin.bitAnd p m < 8 := by
  have hp : p = 0 ∨ p = 1 ∨ p = 2 ∨ p = 3 ∨ p = 4 ∨ p = 5 ∨ p = 6 ∨ p = 7 := by omega
  have hm : m = 0 ∨ m = 1 ∨ m = 2 ∨ m = 3 ∨ m = 4 ∨ m = 5 ∨ m = 6 ∨ m = 7 := by omega
  rcases hp with rfl | rfl | rfl | rfl | rfl | rfl | rfl | rfl <;> rcases hm with rfl | rfl | rfl | rfl | rfl | rfl | rfl | rfl <;> decide
theorem filter_take_snoc {p : Int → Bool} {ns : List Int} {i : Nat} {x : Int} (hx : ns[i]? = some x) : (ns.take (i + 1)).filter p = (ns.take i).filter p ++ if p x = true then [x] else [] := by
  rw [List.take_add_one, hx, List.filter_append]
  simp only [Option.toList_some, List.filter_cons, List.filter_nil]
def acrossP (s : Int) (m : Int) : Bool := oddAt (Builtin.bitAnd s m) == 1
def acrossStep (tb fam : List Int) (acc : Int) (i : Nat) : Int := if (fam.filter (acrossP (1 + (i : Int)))) = [] then acc + (sqOf tb).getD (1 + (i : Int)).toNat 0 else acc
theorem acrossOf_succ (tb fam : List Int) (n : Nat) : acrossOf tb fam (n + 1) = acrossStep tb fam (acrossOf tb fam n) n := by
  unfold acrossOf; rw [List.range_succ, List.foldl_append, List.foldl_cons, List.foldl_nil]; rfl

set_option maxHeartbeats 8000000 in
theorem bodyAcross (H : SegBd 3 fun tb fam m => OverIs tb fam m ∧ IntIs (Str.ofString "across") (acrossOf tb fam 7) m) : SegBd 2 fun tb fam m => OverIs tb fam m ∧ IntIs (Str.ofString "across") 0 m := by
  intro prog w mean mg mb s h0 L h m tk g QB E T WD SQ O S TD LF FA tb st fam ps o5 o6 v5 v6 rest b fin ct hg F hm hms N d5 d6
  have l57 := b.l57
  have ev := b.lc.ev
  have KX := ev.K
  have TX := ev.T
  have hn57 := b.z.n57
  have hn5 := b.z.n5
  have hn6 := b.z.n6
  obtain ⟨wF, kF, hF, hwF⟩ := b.fa
  obtain ⟨wO, kO, hO, hwO⟩ := b.z.o
  obtain ⟨wQ, kQ, hQ, hwQ⟩ := b.z.q
  obtain ⟨oc2, hc2, dc2⟩ := b.z.c2
  have hol : oddL.length = 8 := rfl
  have hql : (sqOf tb).length = 8 := by rw [sqOf, List.length_map, couter_len8 b.z.htb]
  walk_at "my_body"
  k_steps
  refine for_range2 (fun i m₁ news₁ g₁ => g₁ = g ∧ MF m₁ WD SQ S LF FA ∧ OverIs tb fam m₁ ∧ IntIs (Str.ofString "across") (acrossOf tb fam i) m₁ ∧ ∃ o5 v5, news₁ = (57, tabObj ps) :: (L+1+1+1+1+1, o5) :: (L+1+1+1+1+1+1, o6) :: rest ∧ o5.data = .cell v5)
    rfl (by decide) (by decide) (by decide) F N ⟨rfl, hm, hms.1, hms.2, o5, v5, rfl, d5⟩ ?_ ?_
  · rintro I i t m₁ news₁ h tk₁ g₁ o E' hi ⟨rfl, hm, hov, ⟨ta, hac⟩, o5, v5, rfl, d5⟩ hlow hn F₁ N₁
    k_lt hlow
    have F₂ := fr_know (fr_know (fr_know F₁ hm.fa) (x := Str.ofString "squares") hm.z.q) (x := Str.ofString "across") hac
    have hi0 : (0 : Int) ≤ 1 + (i : Int) := by omega
    clear F₁ F N
    k_steps
    rename Fr _ _ _ _ => F'
    rename News _ _ _ _ => N'
    rename (Obj.data _ = Data.cell (some (Value.int _ t))) => d5'
    rename_i hM oM
    refine comp_startT (cl := [(Str.ofString "s", L+1+1+1+1+1), (Str.ofString "odd", L+1+1)]) rfl rfl (by decide) ?_ (by intro _; rfl)
    k_steps
    have evS := ev.keeps F'.keep
    have hcs : Heap.IsCell hM (L+1+1+1+1+1) (some (.int (1 + (i : Int)) t)) := ⟨_, (N' _ (.tail _ (.tail _ (.head _)))).1, d5'⟩
    have hco : Heap.IsCell hM (L+1+1) (some (.ref O)) := ⟨_, (N' _ (.tail _ (.tail _ (.tail _ (.tail _ hc2))))).1, dc2⟩
    have hlO : hM.IsList O wO.toArray := ⟨_, (N' _ (.tail _ (.tail _ (.tail _ (.tail _ hO))))).1, rfl, _, rfl⟩
    refine compE_listT (fun j ys => IntsAre ys ((fam.take j).filter (acrossP (1 + (i : Int))))) .nil (fun j ys hj => by rw [hj.length]; exact Nat.le_trans (List.length_filter_le _ _) (by rw [List.length_take]; omega)) ⟨by decide, rfl, rfl⟩ rfl ⟨_, N'.get (.tail _ (.tail _ (.tail _ (.tail _ hF)))), rfl, _, rfl⟩ F' N' (by rw [hwF.length]; exact Nat.le_trans b.ok.len (by decide)) ?_ ?_
    · intro I₂ C D₂ j v₂ m₂ ys k₂ h₃ tk₃ o₂ E₂ hI₂ hD₂ hC₂ hP hJ G NN
      obtain ⟨x, tx, rfl, hx⟩ := hwF.at j v₂ hP
      obtain ⟨hx0, hx8⟩ := b.ok.bd x (List.mem_of_getElem? hx)
      obtain ⟨hb0, hb1⟩ := and_bound hi0 (by omega) hx0 hx8
      have hsn := filter_take_snoc (p := acrossP (1 + (i : Int))) hx
      clear F' N' KX TX
      have KX := evS.K
      have TX := evS.T
      generalize hp : (1 + (i : Int)) = p at *
      k_steps
      · rename Fr _ _ _ _ => F'
        rename News _ _ _ _ => N'
        rename oddL.getD _ 0 = 1 => ha
        refine ⟨_, _, rfl, F', N', ?_⟩
        have hx1 : acrossP p x = true := by unfold acrossP oddAt; rw [ha]; rfl
        show IntsAre (ys ++ [.int x tx]) _
        rw [hsn, if_pos hx1]
        exact intsAre_snoc hJ
      · rename Fr _ _ _ _ => F'
        rename News _ _ _ _ => N'
        rename oddL.getD _ 0 ≠ 1 => ha
        refine ⟨_, _, rfl, F', N', ?_⟩
        have hx1 : ¬ acrossP p x = true := by unfold acrossP oddAt; rw [beq_iff_eq]; exact ha
        show IntsAre ys _
        rw [hsn, if_neg hx1, List.append_nil]
        exact hJ
    · intro D ys kk h₂ tk₂ hJ F₂ N₂ hlt₂
      k_lt hlt₂
      rw [hwF.length, List.take_length] at hJ
      clear F' N'
      k_steps
      rename Fr _ _ _ _ => F'
      rename News _ _ _ _ => N'
      refine eq_intsK ⟨_, N'.get (.tail _ (.head _)), rfl, _, rfl⟩ hJ ⟨_, N'.get (.head _), rfl, _, rfl⟩ (us := []) .nil (by units_room) ?_
      have N₃ : News h0 L _ ((SQ, listOf wQ.toArray kQ) :: (I, o) :: (57, tabObj ps) :: (L+1+1+1+1+1, oM) :: (L+1+1+1+1+1+1, o6) :: rest) := fun p hp => N' p (by
        rcases List.mem_cons.mp hp with rfl | hp
        · exact .tail _ (.tail _ (.tail _ (.tail _ (.tail _ (.tail _ hQ)))))
        · exact .tail _ (.tail _ hp))
      have hs := acrossOf_succ tb fam i
      have hi8 : 1 + (i : Int) < 8 := hi
      have hnr : ∀ p ∈ (57, tabObj ps) :: (L+1+1+1+1+1, oM) :: (L+1+1+1+1+1+1, o6) :: rest, p.1 ≠ I := by
        have hr : ∀ p ∈ rest, p.1 ≠ I := fun p hp => hn p (.tail _ (.tail _ (.tail _ hp)))
        k_all
      clear N'
      by_cases hc : fam.filter (acrossP (1 + (i : Int))) = []
      · rw [decide_eq_true hc]
        have hs' : acrossOf tb fam (i + 1) = acrossOf tb fam i + (sqOf tb).getD (1 + (i : Int)).toNat 0 := by rw [hs, acrossStep, if_pos hc]
        k_steps
        rename Fr _ _ _ _ => F₇
        rename News _ _ _ _ => N₇
        refine turn_nextS (nx := (57, tabObj ps) :: (L+1+1+1+1+1, oM) :: (L+1+1+1+1+1+1, o6) :: rest) F₇ N₇ (.tail _ (.head _)) (fun p hp => .tail _ (.tail _ hp)) hnr ⟨rfl, ⟨⟨hm.z.w, rfl, hm.z.s⟩, hm.lf, rfl⟩, hov, ?_, oM, _, rfl, d5'⟩
        rw [hs']
        exact ⟨_, rfl⟩
      · rw [decide_eq_false hc]
        have hs' : acrossOf tb fam (i + 1) = acrossOf tb fam i := by rw [hs, acrossStep, if_neg hc]
        k_steps
        rename Fr _ _ _ _ => F₇
        rename News _ _ _ _ => N₇
        refine turn_nextS (nx := (57, tabObj ps) :: (L+1+1+1+1+1, oM) :: (L+1+1+1+1+1+1, o6) :: rest) F₇ N₇ (.tail _ (.head _)) (fun p hp => .tail _ (.tail _ hp)) hnr ⟨rfl, ⟨⟨hm.z.w, rfl, hm.z.s⟩, hm.lf, rfl⟩, hov, ?_, oM, _, rfl, d5'⟩
        rw [hs']
        exact ⟨_, rfl⟩
  · rintro m₁ news₁ h tk₁ g₁ ⟨rfl, hm, hov, hac, o5, v5, rfl, d5⟩ F₁ N₁
    exact H prog w mean mg mb s h0 L h m₁ tk₁ _ QB E T WD SQ O S TD LF FA tb st fam ps o5 o6 v5 v6 rest b fin ct hg F₁ hm ⟨hov, hac⟩ N₁ d5 d6
end

section
local macro_rules | `(tactic| walk_at "binaryOp Pow int int") => `(tactic| (k_here; refine pow_int_small (by decide) (by decide) (by assumption) ?_))

section
theorem k_parts {prog : Program} {w : World} {A : Around} {E : Value → Shared → Prop} {s : Shared} {mg mb : Str → Option Value} {h₀ : Heap} {L : Addr} {m : Str → Option Value} {news : List (Addr × Obj)} {Q : Value → Shared → Prop} {lt lf : Addr} {table fam : List Int} (F : Fr h₀ L s.heap m) (N : News h₀ L s.heap news) (ev : Ev w mg mb h₀) (hroom : A.depth + 9 < recursionLimit) (hh : A.handled = none)
    (ht : IL s.heap lt table) (hf : IL s.heap lf fam) (htl : table.length = 8) (hfl : fam.length ≤ 8) (hfb : ∀ m ∈ fam, 0 ≤ m ∧ m < 8)
    (k : ∀ h' tk D ws c, Fr h₀ L h' m → News h₀ L h' ((D, listOf ws.toArray c) :: news) → IntsAre ws (partsOf table fam) → (∀ p ∈ news, p.1 ≠ D) → Q (.ref D) { s with heap := h', toks := tk }) : wpAny (model prog w) A (call (.ref 165) [.ref lt, .ref lf]) Q E s := by
  refine call_parts (ev.keeps F.keep) hroom hh ht hf htl hfl hfb fun h' tk D hk hD hI => ?_
  obtain ⟨ws, ⟨c, hg⟩, hi⟩ := hI
  obtain ⟨N', hn⟩ := news_new F N hk hD hg
  exact k h' tk D ws c (F.keeps hk) N' hi hn

theorem BC.cons {w : World} {mean : ExcName → Option Value} {mg mb : Str → Option Value} {h0 : Heap} {L : Addr} {rest : List (Addr × Obj)} {T WD SQ O S TD FA : Addr} {tb st fam : List Int} (b : BC w mean mg mb h0 L rest T WD SQ O S TD FA tb st fam) {p : Addr × Obj} (h1 : p.1 ≠ 57) (h2 : p.1 ≠ L+1+1+1+1+1) (h3 : p.1 ≠ L+1+1+1+1+1+1) : BC w mean mg mb h0 L (p :: rest) T WD SQ O S TD FA tb st fam :=
  ⟨b.lc, b.l57, b.z.cons h1 h2 h3, b.c3.cons p, b.td.cons p, b.fa.cons p, b.ok⟩
theorem FinB.cons {s : Shared} {h0 : Heap} {L : Addr} {WD SQ S LF : Addr} {rest : List (Addr × Obj)} {QB : Flow → Shared → Prop} (f : FinB s h0 L WD SQ S LF rest QB) (p : Addr × Obj) : FinB s h0 L WD SQ S LF (p :: rest) QB :=
  fun h' tk' g' m' ps' o5 o6 v5 v6 a b c d e N x y => f h' tk' g' m' ps' o5 o6 v5 v6 a b c d e (fun q hq => N q (by
    rcases List.mem_cons.mp hq with rfl | hq
    · exact .head _
    · rcases List.mem_cons.mp hq with rfl | hq
      · exact .tail _ (.head _)
      · rcases List.mem_cons.mp hq with rfl | hq
        · exact .tail _ (.tail _ (.head _))
        · exact .tail _ (.tail _ (.tail _ (.tail _ hq))))) x y

/-- the same, with the sums of the parts -/
def SegBs (n : Nat) (MS : (tb fam : List Int) → (Str → Option Value) → Prop) : Prop := ∀ (prog : Program) (w : World) (mean : ExcName → Option Value) (mg mb : Str → Option Value) (s : Shared) (h0 : Heap) (L : Addr) (h : Heap) (m : Str → Option Value) (tk : Nat) (g : Array GenState) (QB : Flow → Shared → Prop) (E : Value → Shared → Prop)
  (T WD SQ O S TD LF FA SU : Addr) (tb st fam : List Int) (ps : Array Value) (o5 o6 : Obj) (v5 v6 : Option Value) (rest : List (Addr × Obj)), BC w mean mg mb h0 L rest T WD SQ O S TD FA tb st fam → FinB s h0 L WD SQ S LF rest QB → CT h0 ps → AllBare g → Fr h0 L h m → MF m WD SQ S LF FA → m (Str.ofString "sums") = some (.ref SU) → RL rest SU (partsOf tb fam) → MS tb fam m →
  News h0 L h ((57, tabObj ps) :: (L+1+1+1+1+1, o5) :: (L+1+1+1+1+1+1, o6) :: rest) → o5.data = .cell v5 → o6.data = .cell v6 → BodyGoal prog w L n QB E { s with heap := h, toks := tk, gens := g }

theorem apartIn_succ (us : List Int) (k : Nat) (acc : Int) (n : Nat) : apartIn us k acc (n + 1) = apartIn us k acc n + (us.getD k 0 - us.getD n 0) ^ 2 := by
  unfold apartIn; rw [List.range_succ, List.foldl_append, List.foldl_cons, List.foldl_nil]
theorem apartOf_succ (us : List Int) (n : Nat) : apartOf us (n + 1) = apartIn us n (apartOf us n) n := by
  unfold apartOf; rw [List.range_succ, List.foldl_append, List.foldl_cons, List.foldl_nil]

set_option maxHeartbeats 8000000 in
theorem bodyParts (H : SegBs 6 fun tb fam m => OverIs tb fam m ∧ IntIs (Str.ofString "across") (acrossOf tb fam 7) m ∧ IntIs (Str.ofString "apart") (apartOf (partsOf tb fam) (partsOf tb fam).length) m) : SegBd 3 fun tb fam m => OverIs tb fam m ∧ IntIs (Str.ofString "across") (acrossOf tb fam 7) m := by
  intro prog w mean mg mb s h0 L h m tk g QB E T WD SQ O S TD LF FA tb st fam ps o5 o6 v5 v6 rest b fin ct hg F hm hms N d5 d6
  have l57 := b.l57
  have ev := b.lc.ev
  have KX := ev.K
  have TX := ev.T
  have hn57 := b.z.n57
  have hn5 := b.z.n5
  have hn6 := b.z.n6
  obtain ⟨wF, kF, hF, hwF⟩ := b.fa
  obtain ⟨wT, kT, hT, hwT⟩ := b.z.t
  obtain ⟨oc1, hc1, dc1⟩ := b.z.c1
  have F := fr_know F hm.fa
  walk_at "my_body"
  k_steps
  refine k_parts F N ev (by k_room) rfl ⟨_, ⟨_, N.get (.tail _ (.tail _ (.tail _ hT)))⟩, hwT⟩ ⟨_, ⟨_, N.get (.tail _ (.tail _ (.tail _ hF)))⟩, hwF⟩ b.z.htb.1 b.ok.len b.ok.bd ?_
  intro h₁ tk₁ SU ws kS F₁ N₁ hws hne
  have hS57 : SU ≠ 57 := Ne.symm (hne _ (.head _))
  have hS5 : SU ≠ L+1+1+1+1+1 := Ne.symm (hne _ (.tail _ (.head _)))
  have hS6 : SU ≠ L+1+1+1+1+1+1 := Ne.symm (hne _ (.tail _ (.tail _ (.head _))))
  have hnS : ∀ p ∈ rest, p.1 ≠ SU := fun p hp => hne p (.tail _ (.tail _ (.tail _ hp)))
  have hpb := b.ok.pb
  have hus8 : (partsOf tb fam).length ≤ 8 := by rcases b.ok.sz with h | h | h <;> omega
  generalize hus : partsOf tb fam = us at *
  clear F N hne
  k_steps
  rename Fr _ _ _ _ => F'
  rename News _ _ _ _ => N'
  have hul := hws.length
  obtain ⟨so, hso⟩ : ∃ so, so = listOf ws.toArray kS := ⟨_, rfl⟩
  refine for_range1 (fun i m₁ news₁ g₁ => g₁ = g ∧ MF m₁ WD SQ S LF FA ∧ m₁ (Str.ofString "sums") = some (.ref SU) ∧ OverIs tb fam m₁ ∧ IntIs (Str.ofString "across") (acrossOf tb fam 7) m₁ ∧ IntIs (Str.ofString "apart") (apartOf us i) m₁ ∧ news₁ = (SU, listOf ws.toArray kS) :: (57, tabObj ps) :: (L+1+1+1+1+1, o5) :: (L+1+1+1+1+1+1, o6) :: rest)
    rfl (by omega) (by omega) F' N' ⟨rfl, ⟨⟨hm.z.w, hm.z.q, hm.z.s⟩, hm.lf, rfl⟩, rfl, hms.1, hms.2, ⟨_, rfl⟩, rfl⟩ ?_ ?_
  · rintro I i t m₁ news₁ h tk₂ g₁ o E' hi ⟨rfl, hm, hsu, hov, hac, ⟨ta, hap⟩, rfl⟩ hlow hn F₁ N₁
    k_lt hlow
    have F₂ := fr_know (fr_know F₁ hsu) (x := Str.ofString "apart") hap
    have hi0 : (0 : Int) ≤ (i : Int) := Int.natCast_nonneg i
    clear F₁ F' N'
    k_steps
    rename Fr _ _ _ _ => F'
    rename News _ _ _ _ => N'
    have hn2 := hn
    refine for_range1 (fun j m₂ news₂ g₂ => g₂ = g₁ ∧ MF m₂ WD SQ S LF FA ∧ m₂ (Str.ofString "sums") = some (.ref SU) ∧ OverIs tb fam m₂ ∧ IntIs (Str.ofString "across") (acrossOf tb fam 7) m₂ ∧ IntIs (Str.ofString "apart") (apartIn us i (apartOf us i) j) m₂ ∧ m₂ (Str.ofString "k") = some (.int i t) ∧ news₂ = (I, o) :: (SU, listOf ws.toArray kS) :: (57, tabObj ps) :: (L+1+1+1+1+1, o5) :: (L+1+1+1+1+1+1, o6) :: rest)
      rfl (by omega) (by omega) F' N' ⟨rfl, ⟨⟨hm.z.w, hm.z.q, hm.z.s⟩, hm.lf, hm.fa⟩, rfl, hov, hac, ⟨_, rfl⟩, rfl, rfl⟩ ?_ ?_
    · rintro I₂ j t₂ m₂ news₂ h tk₃ g₂ o₂ E₂ hj ⟨rfl, hm, hsu, hov, hac, ⟨ta, hap⟩, hk, rfl⟩ hlow₂ hn₂ F₁ N₁
      k_lt hlow₂
      have F₂ := fr_know (fr_know (fr_know F₁ hsu) (x := Str.ofString "apart") hap) (x := Str.ofString "k") hk
      have hj0 : (0 : Int) ≤ (j : Int) := Int.natCast_nonneg j
      have hs := apartIn_succ us i (apartOf us i) j
      have hil : (i : Int) < us.length := hi
      have hjl : (j : Int) < us.length := by omega
      have hpw : (us.getD (i : Int).toNat 0 - us.getD (j : Int).toNat 0).natAbs < 2 ^ 64 := by
        have hB : ∀ x ∈ us, x.natAbs ≤ 4194304 := fun x hx => by have := hpb x hx; omega
        have h1 := getD_bound hB (i : Int).toNat
        have h2 := getD_bound hB (j : Int).toNat
        omega
      clear F₁ F' N'
      k_steps
      rename Fr _ _ _ _ => F₇
      rename News _ _ _ _ => N₇
      refine turn_next F₇ N₇ hn₂ ⟨rfl, ⟨⟨hm.z.w, hm.z.q, hm.z.s⟩, hm.lf, hm.fa⟩, rfl, hov, hac, ?_, rfl, rfl⟩
      rw [hs]
      exact ⟨_, rfl⟩
    · rintro m₂ news₂ h tk₃ g₂ ⟨rfl, hm, hsu, hov, hac, hap, hk, rfl⟩ F₁ N₁
      k_steps
      refine turn_next F₁ N₁ (fun p hp => hn p hp) ⟨rfl, hm, hsu, hov, hac, ?_, rfl⟩
      rw [apartOf_succ]
      rw [Int.toNat_natCast] at hap
      exact hap
  · rintro m₁ news₁ h tk₂ g₁ ⟨rfl, hm, hsu, hov, hac, hap, rfl⟩ F₁ N₁
    rw [Int.toNat_natCast] at hap
    refine H prog w mean mg mb s h0 L h m₁ tk₂ _ QB E T WD SQ O S TD LF FA SU tb st fam ps o5 o6 v5 v6 ((SU, listOf ws.toArray kS) :: rest) (b.cons hS57 hS5 hS6) (fin.cons _) ct hg F₁ hm hsu ⟨ws, kS, .head _, by rw [hus]; exact hws⟩ ⟨hov, hac, by rw [hus]; exact hap⟩ (fun p hp => N₁ p ?_) d5 d6
    rcases List.mem_cons.mp hp with rfl | hp
    · exact .tail _ (.head _)
    · rcases List.mem_cons.mp hp with rfl | hp
      · exact .tail _ (.tail _ (.head _))
      · rcases List.mem_cons.mp hp with rfl | hp
        · exact .tail _ (.tail _ (.tail _ (.head _)))
        · rcases List.mem_cons.mp hp with rfl | hp
          · exact .head _
          · exact .tail _ (.tail _ (.tail _ (.tail _ hp)))
end

end

end

end

end

section
theorem ne_int_same {prog : Program} {w : World} {A : Around} {E : Value → Shared → Prop} {s : Shared} {a : Int} {t u : Tok} {Q : Value → Shared → Prop} (h : Q (.bool false) s) : wpAny (model prog w) A (compareOp .NotEq (.int a t) (.int a u)) Q E s :=
  ne_int (by rw [show (a != a) = false by simp]; exact h)
local macro_rules | `(tactic| walk_at "call ref") => `(tactic| (k_here; (with_reducible show wpAny _ _ (call (Value.ref 62) [_, _]) _ _ _); with_reducible refine held_i ?_))
local macro_rules | `(tactic| walk_at "call ref") => `(tactic| (k_here; (with_reducible show wpAny _ _ (call (Value.ref 146) [_, _]) _ _ _); with_reducible refine held_i ?_))
local macro_rules | `(tactic| walk_at "call ref") => `(tactic| (k_here; (with_reducible show wpAny _ _ (call (Value.ref 158) [_]) _ _ _); with_reducible refine held_i ?_))
local macro_rules | `(tactic| walk_at "call ref") => `(tactic| (k_here; (with_reducible show wpAny _ _ (call (Value.ref 165) [_, _]) _ _ _); with_reducible refine held_i ?_))
local macro_rules | `(tactic| walk_at "eval Call Attribute") => `(tactic| (k_here; refine MethodCall_ ?_))
local macro_rules | `(tactic| k_mem) => `(tactic| with_reducible_and_instances assumption)
local macro_rules | `(tactic| k_all) => `(tactic| with_reducible assumption)
local macro_rules | `(tactic| walk_at "my_sub") => `(tactic| first | exact List.forall_mem_nil _ | (refine' List.forall_mem_cons.mpr ⟨?a, ?b⟩; (case a => k_mem); (case b => walk_at "my_sub")))
local macro_rules | `(tactic| walk_at "my_law") => `(tactic| (unfold LawGoal; dsimp only [lawStmts, lawEnv, lawScope, PySem.Challenge.pw_re0015_01, List.drop, List.drop_succ_cons, List.drop_zero]))
local macro_rules | `(tactic| walk_at "execs cons") => `(tactic| (k_here; (have hst' : StopMark := by with_reducible assumption); clear hst'; with_reducible refine held_i ?_))
local macro_rules | `(tactic| walk_at "execs cons") => `(tactic| (k_here; (have hst' : StopFor := by with_reducible assumption); (with_reducible show wpAny _ _ (execs (PySem.Stmt.For _ _ _ _ _ :: _) _) _ _ _); clear hst'; with_reducible refine held_i ?_))
local macro_rules | `(tactic| walk_at "call type:range cons nil") => `(tactic| (k_here; (with_reducible show wpAny _ _ (call (Value.type "range") _) (CompK _ _ _ _ _ _ _ _ _ _ _ _ _) _ _); with_reducible refine held_i ?_))
local macro_rules | `(tactic| walk_at "call type:range cons nil") => `(tactic| (k_here; (with_reducible show wpAny _ _ (call (Value.type "range") _) (CompKA _ _ _ _ _ _ _ _ _ _ _ _ _ _ _) _ _); with_reducible refine held_i ?_))
local macro_rules | `(tactic| walk_at "compareOp NotEq ref ref") => `(tactic| (k_here; with_reducible refine held_i ?_))
local macro_rules | `(tactic| walk_at "compareOp Eq ref ref") => `(tactic| (k_here; with_reducible refine held_i ?_))
local macro_rules | `(tactic| walk_at "compareOp NotIn int ref") => `(tactic| (k_here; with_reducible refine held_i ?_))
local macro_rules | `(tactic| walk_at "binaryOp Add ref ref") => `(tactic| (k_here; with_reducible refine held_i ?_))
local macro_rules | `(tactic| walk_at "call builtin:sum") => `(tactic| (k_here; with_reducible refine held_i ?_))
local macro_rules | `(tactic| walk_at "my_body") => `(tactic| (unfold BodyGoal; dsimp only [famStmts, lawStmts, lawEnv, lawScope, PySem.Challenge.pw_re0015_01, List.drop, List.drop_succ_cons, List.drop_zero]))
local macro_rules | `(tactic| walk_at "compareOp NotEq float int") => `(tactic| (k_here; with_reducible refine held_i ?_))
local macro_rules | `(tactic| walk_at "compareOp NotEq int int") => `(tactic| (k_here; refine ne_int_same ?_))
def StopIf : Prop := True
local macro_rules | `(tactic| walk_at "execs cons") => `(tactic| (k_here; (have hst' : StopIf := by with_reducible assumption); (with_reducible show wpAny _ _ (execs (PySem.Stmt.If _ _ _ _ :: _) _) _ _ _); clear hst'; with_reducible refine held_i ?_))
theorem cmp_self (a : Int) : compare a a = Ordering.eq := by show compareOfLessAndEq a a = _; unfold compareOfLessAndEq; simp
/-- a turn of the last loop, behind few and due -/
def SegBt (n : Nat) : Prop := ∀ (prog : Program) (w : World) (mean : ExcName → Option Value) (mg mb : Str → Option Value) (s : Shared) (h0 : Heap) (L : Addr) (h : Heap) (m : Str → Option Value) (tk : Nat) (g : Array GenState) (QB : Flow → Shared → Prop) (E : Value → Shared → Prop)
  (T WD SQ O S TD LF FA FW DU : Addr) (tb st fam : List Int) (ps : Array Value) (o5 o6 : Obj) (v5 : Option Value) (tn t1 t2 : Tok) (rest : List (Addr × Obj)), BC w mean mg mb h0 L rest T WD SQ O S TD FA tb st fam → FinB s h0 L WD SQ S LF rest QB → CT h0 ps → AllBare g → Fr h0 L h m → MF m WD SQ S LF FA →
  m (Str.ofString "few") = some (.ref FW) → RL rest FW (fewOf (partsOf tb fam)) → m (Str.ofString "due") = some (.ref DU) → (DU, listOf #[.int 0 t1, .int ((partsOf tb fam).length * apartOf (partsOf tb fam) (partsOf tb fam).length) t2] 0) ∈ rest →
  News h0 L h ((57, tabObj ps) :: (L+1+1+1+1+1, o5) :: (L+1+1+1+1+1+1, o6) :: rest) → o5.data = .cell v5 → o6.data = .cell (some (.int (partsOf tb fam).length tn)) → BodyGoal prog w L n QB E { s with heap := h, toks := tk, gens := g }

set_option maxHeartbeats 8000000 in
theorem bodyDue (H : SegBt 10) : SegBs 6 fun tb fam m => OverIs tb fam m ∧ IntIs (Str.ofString "across") (acrossOf tb fam 7) m ∧ IntIs (Str.ofString "apart") (apartOf (partsOf tb fam) (partsOf tb fam).length) m := by
  intro prog w mean mg mb s h0 L h m tk g QB E T WD SQ O S TD LF FA SU tb st fam ps o5 o6 v5 v6 rest b fin ct hg F hm hsu hSU hms N d5 d6
  have l57 := b.l57
  have ev := b.lc.ev
  have KX := ev.K
  have TX := ev.T
  have hn57 := b.z.n57
  have hn5 := b.z.n5
  have hn6 := b.z.n6
  obtain ⟨wF, kF, hF, hwF⟩ := b.fa
  obtain ⟨wS, kS, hS, hwS⟩ := hSU
  obtain ⟨⟨r, tr, hov, hr⟩, ⟨ta, hac⟩, ⟨tp, hap⟩⟩ := hms
  have eq1 := b.ok.eq1
  have eq2 := b.ok.eq2
  have hapb := b.ok.ap
  have hpb := b.ok.pb
  have hus8 : (partsOf tb fam).length ≤ 8 := by rcases b.ok.sz with h | h | h <;> omega
  have hfl := b.ok.len
  rw [eq2] at hac
  generalize hus : partsOf tb fam = us at *
  generalize hapx : apartOf us us.length = ap at *
  have F := fr_know (fr_know (fr_know (fr_know (fr_know F hm.fa) (x := Str.ofString "over") hov) (x := Str.ofString "across") hac) (x := Str.ofString "apart") hap) (x := Str.ofString "sums") hsu
  have hmA : IntMulOk 8 (fam.length : Int) := mulOk_small (by decide)
  have hmB : IntMulOk (8 * (fam.length : Int)) ap := mulOk_small (by omega)
  have hmC : IntMulOk (us.length : Int) ap := mulOk_small (by omega)
  have N : News h0 L h ((SU, listOf wS.toArray kS) :: (FA, listOf wF.toArray kF) :: (57, tabObj ps) :: (L+1+1+1+1+1, o5) :: (L+1+1+1+1+1+1, o6) :: rest) := fun p hp => by
    rcases List.mem_cons.mp hp with rfl | hp
    · exact N _ (.tail _ (.tail _ (.tail _ hS)))
    · rcases List.mem_cons.mp hp with rfl | hp
      · exact N _ (.tail _ (.tail _ (.tail _ hF)))
      · exact N _ hp
  have hSU6 : SU ≠ L+1+1+1+1+1+1 := hn6 _ hS
  have hFA6 : FA ≠ L+1+1+1+1+1+1 := hn6 _ hF
  walk_at "my_body"
  k_steps
  refine ne_fi ?_
  rw [eq1] at hr
  rw [show (Float64.cmpInt r (8 * (fam.length : Int) * ap) != some Ordering.eq) = false by rw [is_cmpInt hr, cmp_self]; rfl]
  k_steps
  rename Fr _ _ _ _ => F'
  rename News _ _ _ _ => N'
  rename (Obj.data _ = Data.cell (some (Value.int _ _))) => d6'
  rename_i hM oM
  refine comp_assign (cl := [(Str.ofString "size", L+1+1+1+1+1+1)]) rfl rfl rfl (by decide) ?_ (by intro _; rfl)
  k_steps
  have evS := ev.keeps F'.keep
  have hcz : Heap.IsCell hM (L+1+1+1+1+1+1) (some (.int us.length _)) := ⟨_, (N' _ (.tail _ (.tail _ (.tail _ (.tail _ (.head _)))))).1, d6'⟩
  refine compA_list (L := L) (JI us fun p => (us.length : Int) * p) (cj_JI _ _ _) ⟨by decide, rfl, rfl⟩ rfl rfl rfl rfl ⟨_, N'.get (.head _), rfl, _, rfl⟩ F' N' (by rw [hwS.length]; exact Nat.le_trans hus8 (by decide)) ?_ ?_
  · intro I₂ C D₂ j v₂ m₂ ys' kk' nw h₃ tk₃ o₂ E₂ hI₂ hD₂ hC₂ hj hP hJ hn₂ G NN tk₄ htk
    obtain ⟨x, tx, rfl, hx⟩ := hwS.at j v₂ hP
    have hmul : IntMulOk (us.length : Int) x := mulOk_small (by omega)
    obtain rfl := hJ.2.1
    clear F' N' KX TX
    have KX := evS.K
    have TX := evS.T
    k_steps
    rename Fr _ _ _ _ => F'
    rename News _ _ _ _ => N'
    exact elt_end F' N' (fun _ h => nomatch h) (hJ.snoc hx)
  · intro FW yf kf nw h₃ tk₃ hJ F₃ N₃ hlt₃
    rw [hwS.length] at hJ
    obtain ⟨rfl, hyf⟩ := hJ.end
    simp only [List.cons_append, List.nil_append] at N₃
    clear F' N' evS hcz
    k_lt hlt₃
    have hstop : StopIf := trivial
    k_steps
    rename Fr _ _ _ _ => F'
    rename News _ _ _ _ => N'
    rename_i DU _ qD _
    have q1 := above_six (L := L) l57 (TD := FW) hlt₃.2.2.2.2.1
    have q2 := above_six (L := L) l57 (TD := DU) qD.2.2.2.2.2.1
    refine H prog w mean mg mb s h0 L _ _ _ g QB E T WD SQ O S TD LF FA FW DU tb st fam ps o5 oM v5 _ _ _ ((DU, listOf #[.int 0 tk₃, .int ((us.length : Int) * ap) (tk₃ + 1)] 0) :: (FW, listOf yf.toArray kf) :: rest) ((b.cons q1.1 q1.2.1 q1.2.2).cons q2.1 q2.2.1 q2.2.2) ((fin.cons _).cons _) ct hg F' ⟨⟨hm.z.w, hm.z.q, hm.z.s⟩, hm.lf, rfl⟩ rfl ⟨yf, kf, .tail _ (.head _), by rw [hus]; exact hyf⟩ rfl (by rw [hus, hapx]; exact .head _) (fun p hp => N' p ?_) d5 (by rw [hus]; exact d6')
    rcases List.mem_cons.mp hp with rfl | hp
    · exact .tail _ (.tail _ (.tail _ (.tail _ (.head _))))
    · rcases List.mem_cons.mp hp with rfl | hp
      · exact .tail _ (.tail _ (.tail _ (.tail _ (.tail _ (.head _)))))
      · rcases List.mem_cons.mp hp with rfl | hp
        · exact .tail _ (.tail _ (.tail _ (.tail _ (.tail _ (.tail _ (.head _))))))
        · rcases List.mem_cons.mp hp with rfl | hp
          · exact .head _
          · rcases List.mem_cons.mp hp with rfl | hp
            · exact .tail _ (.head _)
            · exact .tail _ (.tail _ (.tail _ (.tail _ (.tail _ (.tail _ (.tail _ hp))))))
end

section
section
open PySem.SeqAt
variable {prog : Program} {w : World} {A : Around} {E : Value → Shared → Prop} {s : Shared} {Q : Value → Shared → Prop}
theorem eqAt_float_int {r : UInt64} {t u : Tok} {n : Int} (hr : Is r n) : EqAt A s (.float r t) (.int n u) true := fun prog w E Q hq => by
  unfold eqBool
  refine wpAny_holding ?_
  refine wpAny_ite_split (fun hab => absurd (eq_of_beq hab) (by intro h; cases h)) (fun _ => ?_)
  refine wpAny_bind ?_
  show wpAny _ A (compareOp .Eq (.float r t) (.int n u)) _ _ _
  refine eq_fi ?_
  rw [is_cmpInt hr, cmp_self]
  exact wpAny_truthy_bool hq
theorem ne_two {a b : Addr} {x y x' y' : Value} (hl : s.heap.IsList a #[x, y]) (hb : s.heap.IsList b #[x', y']) (hu : A.units < cLine) (h1 : EqAt A.in1 s x x' true) (h2 : EqAt A.in1 s y y' true) (h : Q (.bool false) s) :
    wpAny (model prog w) A (compareOp .NotEq (.ref a) (.ref b)) Q E s := by
  refine RcNeAt.lists (e := fun _ => true) hl hb rfl hu ?_ prog w E Q ?_
  · intro j hj _
    match j, hj with
    | 0, _ => exact h1
    | 1, _ => exact h2
  · exact h
end
local macro_rules | `(tactic| walk_at "call ref") => `(tactic| (k_here; (with_reducible show wpAny _ _ (call (Value.ref 62) [_, _]) _ _ _); with_reducible refine held_i ?_))
local macro_rules | `(tactic| walk_at "call ref") => `(tactic| (k_here; (with_reducible show wpAny _ _ (call (Value.ref 146) [_, _]) _ _ _); with_reducible refine held_i ?_))
local macro_rules | `(tactic| walk_at "call ref") => `(tactic| (k_here; (with_reducible show wpAny _ _ (call (Value.ref 158) [_]) _ _ _); with_reducible refine held_i ?_))
local macro_rules | `(tactic| walk_at "call ref") => `(tactic| (k_here; (with_reducible show wpAny _ _ (call (Value.ref 165) [_, _]) _ _ _); with_reducible refine held_i ?_))
local macro_rules | `(tactic| walk_at "eval Call Attribute") => `(tactic| (k_here; refine MethodCall_ ?_))
local macro_rules | `(tactic| k_mem) => `(tactic| with_reducible_and_instances assumption)
local macro_rules | `(tactic| k_all) => `(tactic| with_reducible assumption)
local macro_rules | `(tactic| walk_at "my_sub") => `(tactic| first | exact List.forall_mem_nil _ | (refine' List.forall_mem_cons.mpr ⟨?a, ?b⟩; (case a => k_mem); (case b => walk_at "my_sub")))
local macro_rules | `(tactic| walk_at "my_law") => `(tactic| (unfold LawGoal; dsimp only [lawStmts, lawEnv, lawScope, PySem.Challenge.pw_re0015_01, List.drop, List.drop_succ_cons, List.drop_zero]))
local macro_rules | `(tactic| walk_at "execs cons") => `(tactic| (k_here; (have hst' : StopMark := by with_reducible assumption); clear hst'; with_reducible refine held_i ?_))
local macro_rules | `(tactic| walk_at "execs cons") => `(tactic| (k_here; (have hst' : StopFor := by with_reducible assumption); (with_reducible show wpAny _ _ (execs (PySem.Stmt.For _ _ _ _ _ :: _) _) _ _ _); clear hst'; with_reducible refine held_i ?_))
local macro_rules | `(tactic| walk_at "call type:range cons nil") => `(tactic| (k_here; (with_reducible show wpAny _ _ (call (Value.type "range") _) (CompK _ _ _ _ _ _ _ _ _ _ _ _ _) _ _); with_reducible refine held_i ?_))
local macro_rules | `(tactic| walk_at "call type:range cons nil") => `(tactic| (k_here; (with_reducible show wpAny _ _ (call (Value.type "range") _) (CompKA _ _ _ _ _ _ _ _ _ _ _ _ _ _ _) _ _); with_reducible refine held_i ?_))
local macro_rules | `(tactic| walk_at "compareOp NotEq ref ref") => `(tactic| (k_here; with_reducible refine held_i ?_))
local macro_rules | `(tactic| walk_at "compareOp Eq ref ref") => `(tactic| (k_here; with_reducible refine held_i ?_))
local macro_rules | `(tactic| walk_at "compareOp NotIn int ref") => `(tactic| (k_here; with_reducible refine held_i ?_))
local macro_rules | `(tactic| walk_at "binaryOp Add ref ref") => `(tactic| (k_here; with_reducible refine held_i ?_))
local macro_rules | `(tactic| walk_at "call builtin:sum") => `(tactic| (k_here; with_reducible refine held_i ?_))
local macro_rules | `(tactic| walk_at "my_body") => `(tactic| (unfold BodyGoal; dsimp only [famStmts, lawStmts, lawEnv, lawScope, PySem.Challenge.pw_re0015_01, List.drop, List.drop_succ_cons, List.drop_zero]))
local macro_rules | `(tactic| walk_at "compareOp NotEq float int") => `(tactic| (k_here; with_reducible refine held_i ?_))
local macro_rules | `(tactic| walk_at "compareOp NotEq int int") => `(tactic| (k_here; refine ne_int_same ?_))
local macro_rules | `(tactic| walk_at "execs cons") => `(tactic| (k_here; (have hst' : StopIf := by with_reducible assumption); (with_reducible show wpAny _ _ (execs (PySem.Stmt.If _ _ _ _ :: _) _) _ _ _); clear hst'; with_reducible refine held_i ?_))
def msgMis : Str := Str.ofString "covariance requires that both inputs have same number of data points"
def msgTwo : Str := Str.ofString "covariance requires at least two data points"
theorem turn_frame {h₀ h g' h' : Heap} {L : Addr} {m : Str → Option Value} {news : List (Addr × Obj)} (F : Fr h₀ L h m) (N : News h₀ L h news) (T : KtsTurn [L] h g') (k : ∀ b o, g'.get? b = some o → h'.get? b = some o) : Fr h₀ L h' m ∧ News h₀ L h' news := by
  have hL0 := kts_self F
  refine ⟨⟨?_, fun b o e => k b o (T.other b o (F.keep b o e) fun hm => ?_), F.above⟩, fun p hp => ⟨k _ _ (T.other _ _ (N p hp).1 fun hm => (N p hp).2.1 (List.mem_singleton.mp hm)), (N p hp).2⟩⟩
  · obtain ⟨oL, es, ep, hL, hLd, hLk, hLf⟩ := F.ns
    obtain ⟨sl, hs⟩ := T.up hL
    exact ⟨_, es, ep, k _ _ hs, hLd, hLk, hLf⟩
  · rw [List.mem_singleton.mp hm, hL0] at e; cases e
theorem told_ground {h₀ h : Heap} {L : Addr} {m : Str → Option Value} {env : Env} (F : Fr h₀ L h m) (hf : env.frame = some L) : KtsDicts ([env].filterMap (·.frame)) h ∧ [env].filterMap (·.frame) = [L] := by
  have e : [env].filterMap (·.frame) = [L] := by simp [hf]
  refine ⟨?_, e⟩
  rw [e]
  obtain ⟨oL, es, ep, hL, hLd, _⟩ := F.ns
  intro b hb
  rw [List.mem_singleton.mp hb]
  exact ⟨oL, es, ep, hL, hLd⟩
section
variable {prog : Program} {w : World} {E : Value → Shared → Prop} {s : Shared} {mean : ExcName → Option Value} {mg mb : Str → Option Value} {h₀ : Heap} {L : Addr} {m : Str → Option Value} {news : List (Addr × Obj)} {Q : Value → Shared → Prop} {env : Env} {lx ly : Addr} {xs ys : List Int}
theorem k_told_mis (F : Fr h₀ L s.heap m) (N : News h₀ L s.heap news) (lc : LC w mean mg mb h₀) (hlx : IL s.heap lx xs) (hly : IL s.heap ly ys) (hne : ys.length ≠ xs.length) (hx8 : xs.length ≤ 8) (hy8 : ys.length ≤ 8)
    (k : ∀ h' tk D t1 t2, Fr h₀ L h' m → News h₀ L h' ((D, listOf #[.int 1 t1, .str msgMis t2] 0) :: news) → (∀ p ∈ news, p.1 ≠ D) → Q (.ref D) { s with heap := h', toks := tk })
    (hf : env.frame = some L) (hk : env.scope.kind = .function) : wpAny (model prog w) (callerA.deeper env) (call (.ref 146) [.ref lx, .ref ly]) Q E s := by
  obtain ⟨loose, TB⟩ := lc.top
  obtain ⟨D, e⟩ := told_ground F hf
  refine call_told_mis (lc.ev.keeps F.keep) (by k_room) rfl (by units_room) hlx hly hne hx8 hy8 (below_push (below_caller h₀) F hf hk) lc.ev.K TB D fun h' tk D' t1 t2 g' T hk' hn hg => ?_
  rw [e] at T
  obtain ⟨F', N'⟩ := turn_frame F N T hk'
  refine k h' tk D' t1 t2 F' (fun p hp => ?_) fun p hp he => ?_
  · rcases List.mem_cons.mp hp with rfl | hp
    · refine ⟨hg, ?_, ?_⟩
      · rintro rfl
        obtain ⟨oL, es, ep, hL, _⟩ := F.ns
        obtain ⟨sl, hs⟩ := T.up hL
        rw [hn] at hs; cases hs
      · cases q : h₀.get? D' with
        | none => rfl
        | some o =>
          obtain ⟨sl, hs⟩ := T.up (F.keep _ _ q)
          rw [hn] at hs; cases hs
    · exact N' p hp
  · obtain ⟨sl, hs⟩ := T.up (N p hp).1
    rw [he, hn] at hs; cases hs
theorem k_told_one (F : Fr h₀ L s.heap m) (N : News h₀ L s.heap news) (lc : LC w mean mg mb h₀) (hlx : IL s.heap lx xs) (hly : IL s.heap ly ys) (hne : ys.length = xs.length) (hx8 : xs.length < 2)
    (k : ∀ h' tk D t1 t2, Fr h₀ L h' m → News h₀ L h' ((D, listOf #[.int 1 t1, .str msgTwo t2] 0) :: news) → (∀ p ∈ news, p.1 ≠ D) → Q (.ref D) { s with heap := h', toks := tk })
    (hf : env.frame = some L) (hk : env.scope.kind = .function) : wpAny (model prog w) (callerA.deeper env) (call (.ref 146) [.ref lx, .ref ly]) Q E s := by
  obtain ⟨loose, TB⟩ := lc.top
  obtain ⟨D, e⟩ := told_ground F hf
  refine call_told_one (lc.ev.keeps F.keep) (by k_room) rfl (by units_room) hlx hly hne hx8 (below_push (below_caller h₀) F hf hk) lc.ev.K TB D fun h' tk D' t1 t2 g' T hk' hn hg => ?_
  rw [e] at T
  obtain ⟨F', N'⟩ := turn_frame F N T hk'
  refine k h' tk D' t1 t2 F' (fun p hp => ?_) fun p hp he => ?_
  · rcases List.mem_cons.mp hp with rfl | hp
    · refine ⟨hg, ?_, ?_⟩
      · rintro rfl
        obtain ⟨oL, es, ep, hL, _⟩ := F.ns
        obtain ⟨sl, hs⟩ := T.up hL
        rw [hn] at hs; cases hs
      · cases q : h₀.get? D' with
        | none => rfl
        | some o =>
          obtain ⟨sl, hs⟩ := T.up (F.keep _ _ q)
          rw [hn] at hs; cases hs
    · exact N' p hp
  · obtain ⟨sl, hs⟩ := T.up (N p hp).1
    rw [he, hn] at hs; cases hs
theorem k_told_ok {ps : Array Value} {rest : List (Addr × Obj)} {X Y c : Int} (F : Fr h₀ L s.heap m) (N : News h₀ L s.heap ((57, tabObj ps) :: rest)) (h57 : ∀ p ∈ rest, p.1 ≠ 57) (lc : LC w mean mg mb h₀) (ct : CT h₀ ps) (hg : AllBare s.gens)
    (hlx : IL s.heap lx xs) (hly : IL s.heap ly ys) (R : Rows2 xs ys X Y c)
    (k : ∀ h' tk g' r t1 t2 D ps', Is r c → CT h₀ ps' → AllBare g' → Fr h₀ L h' m → News h₀ L h' ((57, tabObj ps') :: (D, listOf #[.int 0 t1, .float r t2] 0) :: rest) → D ≠ 57 → (∀ p ∈ rest, p.1 ≠ D) → Q (.ref D) { s with heap := h', toks := tk, gens := g' }) :
    wpAny (model prog w) (callerA.deeper env) (call (.ref 146) [.ref lx, .ref ly]) Q E s := by
  have h57' := N _ (.head _)
  obtain ⟨hok, ht⟩ := ct s.heap F.keep h57'.1
  obtain ⟨bm, ob, M⟩ := lc.bmod
  refine call_told_ok (lc.ev.keeps F.keep) (by k_room) rfl (M.keeps F.keep) hok ht hlx hly R fun h' tk g' r t1 t2 D' more hr hk hok' ht' hg' hD hDg => ?_
  have F' : Fr h₀ L h' m := fr60 F hk (Ne.symm h57'.2.1) lc.n57
  refine k h' tk g' r t1 t2 D' (ps ++ more) hr (ct_of lc.ct61 F'.keep hok' ht') (hg' hg) F' (fun p hp => ?_) ?_ fun p hp he => ?_
  · rcases List.mem_cons.mp hp with rfl | hp
    · exact ⟨ht'.2, h57'.2⟩
    · rcases List.mem_cons.mp hp with rfl | hp
      · refine ⟨hDg, ?_, ?_⟩
        · rintro rfl
          obtain ⟨oL, _, _, hL', _⟩ := F.ns
          rw [hD] at hL'; cases hL'
        · cases e : h₀.get? D' with
          | none => rfl
          | some o => have := F.keep _ _ e; rw [hD] at this; cases this
      · exact ⟨hk _ _ (h57 p hp) (N p (.tail _ hp)).1, (N p (.tail _ hp)).2⟩
  · rintro rfl
    rw [hD] at h57'; cases h57'.1
  · have := (N p (.tail _ hp)).1
    rw [he, hD] at this; cases this
end
end

section
local macro_rules | `(tactic| walk_at "call ref") => `(tactic| (k_here; (with_reducible show wpAny _ _ (call (Value.ref 62) [_, _]) _ _ _); with_reducible refine held_i ?_))
local macro_rules | `(tactic| walk_at "call ref") => `(tactic| (k_here; (with_reducible show wpAny _ _ (call (Value.ref 146) [_, _]) _ _ _); with_reducible refine held_i ?_))
local macro_rules | `(tactic| walk_at "call ref") => `(tactic| (k_here; (with_reducible show wpAny _ _ (call (Value.ref 158) [_]) _ _ _); with_reducible refine held_i ?_))
local macro_rules | `(tactic| walk_at "call ref") => `(tactic| (k_here; (with_reducible show wpAny _ _ (call (Value.ref 165) [_, _]) _ _ _); with_reducible refine held_i ?_))
local macro_rules | `(tactic| walk_at "eval Call Attribute") => `(tactic| (k_here; refine MethodCall_ ?_))
local macro_rules | `(tactic| k_mem) => `(tactic| with_reducible_and_instances assumption)
local macro_rules | `(tactic| k_all) => `(tactic| with_reducible assumption)
local macro_rules | `(tactic| walk_at "my_sub") => `(tactic| first | exact List.forall_mem_nil _ | (refine' List.forall_mem_cons.mpr ⟨?a, ?b⟩; (case a => k_mem); (case b => walk_at "my_sub")))
local macro_rules | `(tactic| walk_at "my_law") => `(tactic| (unfold LawGoal; dsimp only [lawStmts, lawEnv, lawScope, PySem.Challenge.pw_re0015_01, List.drop, List.drop_succ_cons, List.drop_zero]))
local macro_rules | `(tactic| walk_at "execs cons") => `(tactic| (k_here; (have hst' : StopMark := by with_reducible assumption); clear hst'; with_reducible refine held_i ?_))
local macro_rules | `(tactic| walk_at "execs cons") => `(tactic| (k_here; (have hst' : StopFor := by with_reducible assumption); (with_reducible show wpAny _ _ (execs (PySem.Stmt.For _ _ _ _ _ :: _) _) _ _ _); clear hst'; with_reducible refine held_i ?_))
local macro_rules | `(tactic| walk_at "call type:range cons nil") => `(tactic| (k_here; (with_reducible show wpAny _ _ (call (Value.type "range") _) (CompK _ _ _ _ _ _ _ _ _ _ _ _ _) _ _); with_reducible refine held_i ?_))
local macro_rules | `(tactic| walk_at "call type:range cons nil") => `(tactic| (k_here; (with_reducible show wpAny _ _ (call (Value.type "range") _) (CompKA _ _ _ _ _ _ _ _ _ _ _ _ _ _ _) _ _); with_reducible refine held_i ?_))
local macro_rules | `(tactic| walk_at "compareOp NotEq ref ref") => `(tactic| (k_here; with_reducible refine held_i ?_))
local macro_rules | `(tactic| walk_at "compareOp Eq ref ref") => `(tactic| (k_here; with_reducible refine held_i ?_))
local macro_rules | `(tactic| walk_at "compareOp NotIn int ref") => `(tactic| (k_here; with_reducible refine held_i ?_))
local macro_rules | `(tactic| walk_at "binaryOp Add ref ref") => `(tactic| (k_here; with_reducible refine held_i ?_))
local macro_rules | `(tactic| walk_at "call builtin:sum") => `(tactic| (k_here; with_reducible refine held_i ?_))
local macro_rules | `(tactic| walk_at "my_body") => `(tactic| (unfold BodyGoal; dsimp only [famStmts, lawStmts, lawEnv, lawScope, PySem.Challenge.pw_re0015_01, List.drop, List.drop_succ_cons, List.drop_zero]))
local macro_rules | `(tactic| walk_at "compareOp NotEq float int") => `(tactic| (k_here; with_reducible refine held_i ?_))
local macro_rules | `(tactic| walk_at "compareOp NotEq int int") => `(tactic| (k_here; refine ne_int_same ?_))

section
local macro_rules | `(tactic| walk_at "execs cons") => `(tactic| (k_here; (have hst' : StopIf := by with_reducible assumption); (with_reducible show wpAny _ _ (execs (PySem.Stmt.If _ _ _ _ :: _) _) _ _ _); clear hst'; with_reducible refine held_i ?_))

section
theorem eqAt_int {A : Around} {s : Shared} {a : Int} {t u : Tok} : PySem.SeqAt.EqAt A s (.int a t) (.int a u) true := by
  have := (PySem.MeetsSeq.EqGives.int a a t u).at A s
  rwa [beq_self_eq_true] at this
theorem eqAt_str {A : Around} {s : Shared} {a : Str} {t u : Tok} : PySem.SeqAt.EqAt A s (.str a t) (.str a u) true := by
  have := (eqGives_str a a t u).at A s
  rwa [beq_self_eq_true] at this
set_option maxHeartbeats 8000000 in
theorem bodyEight {prog : Program} {w : World} {mean : ExcName → Option Value} {mg mb : Str → Option Value} {s : Shared} {h0 : Heap} {L : Addr} {h : Heap} {m : Str → Option Value} {tk : Nat} {g : Array GenState} {QB : Flow → Shared → Prop} {E : Value → Shared → Prop}
  {T WD SQ O S TD LF FA : Addr} {tb st fam : List Int} {ps : Array Value} {o5 o6 : Obj} {v5 : Option Value} {tn : Tok} {rest : List (Addr × Obj)} (b : BC w mean mg mb h0 L rest T WD SQ O S TD FA tb st fam) (fin : FinB s h0 L WD SQ S LF rest QB) (ct : CT h0 ps) (hg : AllBare g) (F : Fr h0 L h m) (hm : MF m WD SQ S LF FA)
  (N : News h0 L h ((57, tabObj ps) :: (L+1+1+1+1+1, o5) :: (L+1+1+1+1+1+1, o6) :: rest)) (d5 : o5.data = .cell v5) (d6 : o6.data = .cell (some (.int 8 tn))) : BodyGoal prog w L 10 QB E { s with heap := h, toks := tk, gens := g } := by
  have ev := b.lc.ev
  have KX := ev.K
  have TX := ev.T
  walk_at "my_body"
  k_steps
  exact fin _ _ _ _ _ _ _ _ _ ct hg F hm.z hm.lf N d5 d6

set_option maxHeartbeats 8000000 in
theorem bodyOne {prog : Program} {w : World} {mean : ExcName → Option Value} {mg mb : Str → Option Value} {s : Shared} {h0 : Heap} {L : Addr} {h : Heap} {m : Str → Option Value} {tk : Nat} {g : Array GenState} {QB : Flow → Shared → Prop} {E : Value → Shared → Prop}
  {T WD SQ O S TD LF FA FW : Addr} {tb st fam us : List Int} {ps : Array Value} {o5 o6 : Obj} {v5 : Option Value} {tn : Tok} {rest : List (Addr × Obj)} (b : BC w mean mg mb h0 L rest T WD SQ O S TD FA tb st fam) (fin : FinB s h0 L WD SQ S LF rest QB) (ct : CT h0 ps) (hg : AllBare g) (F : Fr h0 L h m) (hm : MF m WD SQ S LF FA)
  (hfw : m (Str.ofString "few") = some (.ref FW)) (hFW : RL rest FW us) (hu1 : us.length = 1)
  (N : News h0 L h ((57, tabObj ps) :: (L+1+1+1+1+1, o5) :: (L+1+1+1+1+1+1, o6) :: rest)) (d5 : o5.data = .cell v5) (d6 : o6.data = .cell (some (.int 1 tn))) : BodyGoal prog w L 10 QB E { s with heap := h, toks := tk, gens := g } := by
  have l57 := b.l57
  have ev := b.lc.ev
  have KX := ev.K
  have TX := ev.T
  have hn57 := b.z.n57
  have hn5 := b.z.n5
  have hn6 := b.z.n6
  obtain ⟨wf, kf, hF, hwf⟩ := hFW
  obtain ⟨wW, kW, hW, hwW⟩ := b.z.w
  have F := fr_know (fr_know F hfw) (x := Str.ofString "wide") hm.z.w
  walk_at "my_body"
  k_steps
  rename Fr _ _ _ _ => F'
  rename News _ _ _ _ => N'
  rename_i DU hX qD hM _
  refine comp_start (cl := [(Str.ofString "size", L+1+1+1+1+1+1)]) rfl rfl (by decide) ?_ (by intro _; rfl)
  k_steps
  have evS := ev.keeps F'.keep
  have hcz : Heap.IsCell hM (L+1+1+1+1+1+1) (some (.int 1 tn)) := ⟨_, (N' _ (.tail _ (.tail _ (.tail _ (.head _))))).1, d6⟩
  have hd57 : DU ≠ 57 := Nat.ne_of_gt (ltN qD.1)
  refine compE_list (JI us fun v => (1 - 1) * v) (cj_JI _ _ _) ⟨by decide, rfl, rfl⟩ rfl ⟨_, N'.get (.tail _ (.tail _ (.tail _ (.tail _ hF)))), rfl, _, rfl⟩ F' N' (by rw [hwf.length, hu1]; decide) ?_ ?_
  · intro I₂ C D₂ j v₂ m₂ ys' kk' nw h₃ tk₃ o₂ E₂ hI₂ hD₂ hC₂ hj hP hJ hn₂ G NN tk₄ htk
    obtain ⟨x, tx, rfl, hx⟩ := hwf.at j v₂ hP
    have hmul : IntMulOk (1 - 1) x := mulOk_small (by decide)
    obtain rfl := hJ.2.1
    clear F' N' KX TX
    have KX := evS.K
    have TX := evS.T
    k_steps
    rename Fr _ _ _ _ => F'
    rename News _ _ _ _ => N'
    exact elt_end F' N' (fun _ h => nomatch h) (hJ.snoc hx)
  · intro LS yl kl nw h₃ tk₃ hJ F₃ N₃ hlt₃
    rw [hwf.length] at hJ
    obtain ⟨rfl, hyl⟩ := hJ.end
    simp only [List.cons_append, List.nil_append] at N₃
    clear F' N' evS hcz
    k_lt hlt₃
    k_steps
    refine k_told_one F₃ N₃ b.lc ⟨_, ⟨_, N₃.get (.head _)⟩, hyl⟩ ⟨_, ⟨_, N₃.get (.tail _ (.tail _ (.tail _ (.tail _ (.tail _ hF)))))⟩, hwf⟩ (by rw [List.length_map]) (by rw [List.length_map, hu1]; decide) ?_ rfl rfl
    intro h₄ tk₄ R1 t1 t2 F₄ N₄ hn₄
    clear F₃ N₃
    k_steps
    refine ne_two ⟨_, N₄.get (.head _), rfl, _, rfl⟩ ⟨_, N₄.get (.tail _ (.tail _ (.head _))), rfl, _, rfl⟩ (by units_room) eqAt_int eqAt_str ?_
    have N₅ : News h0 L h₄ ((57, tabObj ps) :: (L+1+1+1+1+1, o5) :: (L+1+1+1+1+1+1, o6) :: rest) := fun p hp => N₄ p (.tail _ (.tail _ (.tail _ hp)))
    clear N₄ hn₄
    k_steps
    refine k_told_mis F₄ N₅ b.lc ⟨_, ⟨_, N₅.get (.tail _ (.tail _ (.tail _ hF)))⟩, hwf⟩ ⟨_, ⟨_, N₅.get (.tail _ (.tail _ (.tail _ hW)))⟩, hwW⟩ (by rw [List.length_map, hu1, b.z.htb.1]; decide) (by rw [hu1]; decide) (by rw [List.length_map, b.z.htb.1]; decide) ?_ rfl rfl
    intro h₅ tk₅ R2 t3 t4 F₅ N₆ hn₅
    clear F₄ N₅
    k_steps
    rename Fr _ _ _ _ => F₆
    rename News _ _ _ _ => N₇
    refine ne_two ⟨_, N₇.get (.tail _ (.head _)), rfl, _, rfl⟩ ⟨_, N₇.get (.head _), rfl, _, rfl⟩ (by units_room) eqAt_int eqAt_str ?_
    have N₈ : News h0 L _ ((57, tabObj ps) :: (L+1+1+1+1+1, o5) :: (L+1+1+1+1+1+1, o6) :: rest) := fun p hp => N₇ p (.tail _ (.tail _ hp))
    clear N₇ hn₅
    k_steps
    exact fin _ _ _ _ _ _ _ _ _ ct hg F₆ ⟨rfl, hm.z.q, hm.z.s⟩ hm.lf N₈ d5 d6
end

end

section
set_option maxHeartbeats 8000000 in
theorem bodyMid {prog : Program} {w : World} {mean : ExcName → Option Value} {mg mb : Str → Option Value} {s : Shared} {h0 : Heap} {L : Addr} {h : Heap} {m : Str → Option Value} {tk : Nat} {g : Array GenState} {QB : Flow → Shared → Prop} {E : Value → Shared → Prop}
  {T WD SQ O S TD LF FA FW DU : Addr} {tb st fam us : List Int} {X Y c : Int} {ps : Array Value} {o5 o6 : Obj} {v5 : Option Value} {tn t1 t2 : Tok} {rest : List (Addr × Obj)} (b : BC w mean mg mb h0 L rest T WD SQ O S TD FA tb st fam) (fin : FinB s h0 L WD SQ S LF rest QB) (ct : CT h0 ps) (hg : AllBare g) (F : Fr h0 L h m) (hm : MF m WD SQ S LF FA)
  (hfw : m (Str.ofString "few") = some (.ref FW)) (hFW : RL rest FW (fewOf us)) (hdu : m (Str.ofString "due") = some (.ref DU)) (hDU : (DU, listOf #[.int 0 t1, .int c t2] 0) ∈ rest) (hu1 : 2 ≤ us.length) (hu2 : us.length < 8) (R : Rows2 (lessOf us) (fewOf us) X Y c)
  (N : News h0 L h ((57, tabObj ps) :: (L+1+1+1+1+1, o5) :: (L+1+1+1+1+1+1, o6) :: rest)) (d5 : o5.data = .cell v5) (d6 : o6.data = .cell (some (.int us.length tn))) : BodyGoal prog w L 10 QB E { s with heap := h, toks := tk, gens := g } := by
  have l57 := b.l57
  have ev := b.lc.ev
  have KX := ev.K
  have TX := ev.T
  have hn57 := b.z.n57
  have hn5 := b.z.n5
  have hn6 := b.z.n6
  obtain ⟨wf, kf, hF, hwf⟩ := hFW
  obtain ⟨wW, kW, hW, hwW⟩ := b.z.w
  have hfl : (fewOf us).length = us.length := by rw [fewOf, List.length_map]
  have F := fr_know (fr_know (fr_know F hfw) (x := Str.ofString "wide") hm.z.w) (x := Str.ofString "due") hdu
  walk_at "my_body"
  k_steps
  any_goals (exfalso; omega)
  rename Fr _ _ _ _ => F'
  rename News _ _ _ _ => N'
  refine comp_start (cl := [(Str.ofString "size", L+1+1+1+1+1+1)]) rfl rfl (by decide) ?_ (by intro _; rfl)
  k_steps
  have evS := ev.keeps F'.keep
  have hcz : Heap.IsCell h (L+1+1+1+1+1+1) (some (.int us.length tn)) := ⟨_, (N' _ (.tail _ (.tail _ (.head _)))).1, d6⟩
  refine compE_list (JI (fewOf us) fun v => ((us.length : Int) - 1) * v) (cj_JI _ _ _) ⟨by decide, rfl, rfl⟩ rfl ⟨_, N'.get (.tail _ (.tail _ (.tail _ hF))), rfl, _, rfl⟩ F' N' (by rw [hwf.length, hfl]; exact Nat.le_trans (Nat.le_of_lt hu2) (by decide)) ?_ ?_
  · intro I₂ C D₂ j v₂ m₂ ys' kk' nw h₃ tk₃ o₂ E₂ hI₂ hD₂ hC₂ hj hP hJ hn₂ G NN tk₄ htk
    obtain ⟨x, tx, rfl, hx⟩ := hwf.at j v₂ hP
    have hmul : IntMulOk ((us.length : Int) - 1) x := mulOk_small (by omega)
    obtain rfl := hJ.2.1
    clear F' N' KX TX
    have KX := evS.K
    have TX := evS.T
    k_steps
    rename Fr _ _ _ _ => F'
    rename News _ _ _ _ => N'
    exact elt_end F' N' (fun _ h => nomatch h) (hJ.snoc hx)
  · intro LS yl kl nw h₃ tk₃ hJ F₃ N₃ hlt₃
    rw [hwf.length] at hJ
    obtain ⟨rfl, hyl⟩ := hJ.end
    simp only [List.cons_append, List.nil_append] at N₃
    clear F' N' evS hcz
    k_lt hlt₃
    k_steps
    have hLS : IL h₃ LS (lessOf us) := ⟨_, ⟨_, N₃.get (.head _)⟩, hyl⟩
    have N₄ : News h0 L h₃ ((57, tabObj ps) :: (L+1+1+1+1+1, o5) :: (L+1+1+1+1+1+1, o6) :: rest) := fun p hp => N₃ p (.tail _ hp)
    refine k_told_ok F₃ N₄ (by k_all) b.lc ct hg hLS ⟨_, ⟨_, N₄.get (.tail _ (.tail _ (.tail _ hF)))⟩, hwf⟩ R ?_ 
    intro h₄ tk₄ g₄ r t3 t4 R1 ps₄ hr ct₄ hg₄ F₄ N₅ hR57 hn₄
    clear F₃ N₃ N₄ ct hg hLS
    k_steps
    refine ne_two ⟨_, N₅.get (.tail _ (.head _)), rfl, _, rfl⟩ ⟨_, N₅.get (.tail _ (.tail _ (.tail _ (.tail _ hDU)))), rfl, _, rfl⟩ (by units_room) eqAt_int (eqAt_float_int hr) ?_
    have N₆ : News h0 L h₄ ((57, tabObj ps₄) :: (L+1+1+1+1+1, o5) :: (L+1+1+1+1+1+1, o6) :: rest) := fun p hp => N₅ p (by
      rcases List.mem_cons.mp hp with rfl | hp
      · exact .head _
      · exact .tail _ (.tail _ hp))
    clear N₅ hn₄
    k_steps
    refine k_told_mis F₄ N₆ b.lc ⟨_, ⟨_, N₆.get (.tail _ (.tail _ (.tail _ hF)))⟩, hwf⟩ ⟨_, ⟨_, N₆.get (.tail _ (.tail _ (.tail _ hW)))⟩, hwW⟩ (by rw [List.length_map, hfl, b.z.htb.1]; omega) (by rw [hfl]; omega) (by rw [List.length_map, b.z.htb.1]; decide) ?_ rfl rfl
    intro h₅ tk₅ R2 t5 t6 F₅ N₇ hn₅
    clear F₄ N₆
    k_steps
    rename Fr _ _ _ _ => F₆
    rename News _ _ _ _ => N₈
    refine ne_two ⟨_, N₈.get (.tail _ (.head _)), rfl, _, rfl⟩ ⟨_, N₈.get (.head _), rfl, _, rfl⟩ (by units_room) eqAt_int eqAt_str ?_
    have N₉ : News h0 L _ ((57, tabObj ps₄) :: (L+1+1+1+1+1, o5) :: (L+1+1+1+1+1+1, o6) :: rest) := fun p hp => N₈ p (.tail _ (.tail _ hp))
    clear N₈ hn₅
    k_steps
    exact fin _ _ _ _ _ _ _ _ _ ct₄ hg₄ F₆ ⟨rfl, hm.z.q, hm.z.s⟩ hm.lf N₉ d5 d6

theorem bodyEnd : SegBt 10 := by
  intro prog w mean mg mb s h0 L h m tk g QB E T WD SQ O S TD LF FA FW DU tb st fam ps o5 o6 v5 tn t1 t2 rest b fin ct hg F hm hfw hFW hdu hDU N d5 d6
  rcases b.ok.sz with h1 | ⟨h2, h3⟩ | h8
  · have hl : (fewOf (partsOf tb fam)).length = 1 := by rw [fewOf, List.length_map]; exact h1
    exact bodyOne b fin ct hg F hm hfw hFW hl N d5 (by rw [h1] at d6; exact d6)
  · obtain ⟨X, Y, R⟩ := b.ok.rows h2 h3
    exact bodyMid b fin ct hg F hm hfw hFW hdu hDU h2 h3 R N d5 d6
  · exact bodyEight b fin ct hg F hm N d5 (by rw [h8] at d6; exact d6)
theorem bodyAll : SegBd 0 fun _ _ _ => True := bodyOver (bodyAcross (bodyParts (bodyDue bodyEnd)))
end

section
def PlainLaw : Prop := ∀ tb st : List Int, TB tb → ST st → ∀ fam ∈ famsOf st, FamOK tb fam

set_option maxHeartbeats 8000000 in
theorem segF (P : PlainLaw) : SegFor 13 := by
  intro prog w mean mg mb s h0 L h m tk g Q E T WD SQ O S TD LF wf kf tb st ps o5 o6 v5 v6 rest b ct hg F hm hmf N hZ hc3 hTD hLF hwf d5 d6
  have l57 := b.l57
  have ev := b.lc.ev
  have KX := ev.K
  have TX := ev.T
  have hn57 := hZ.n57
  have hn5 := hZ.n5
  have hn6 := hZ.n6
  have F := fr_know F hmf
  walk_at "my_law"
  k_steps
  refine forK_list (vs := wf) (fun i m₁ news₁ g₁ => AllBare g₁ ∧ MZ m₁ WD SQ S ∧ m₁ (Str.ofString "families") = some (.ref LF) ∧ ∃ ps o5 o6 v5 v6, news₁ = (57, tabObj ps) :: (L+1+1+1+1+1, o5) :: (L+1+1+1+1+1+1, o6) :: rest ∧ CT h0 ps ∧ o5.data = .cell v5 ∧ o6.data = .cell v6)
    rfl ⟨_, N.get (.tail _ (.tail _ (.tail _ hLF))), rfl, _, rfl⟩ F N ⟨hg, ⟨hm.w, hm.q, hm.s⟩, rfl, ps, o5, o6, v5, v6, rfl, ct, d5, d6⟩ ?_ ?_ ?_
  · refine ⟨listOf wf.toArray kf, ?_⟩
    rintro i m₁ news₁ g₁ h ⟨_, _, _, ps, o5, o6, v5, v6, rfl, _⟩ _ N
    exact N.get (.tail _ (.tail _ (.tail _ hLF)))
  · rintro I i v m₁ news₁ h tk₁ g₁ o E' hv ⟨hg, hm, hmf, ps, o5, o6, v5, v6, rfl, ct, d5, d6⟩ hlow hn F₁ N₁
    have hil : i < (famsOf st).length := by rw [← hwf.1]; exact (List.getElem?_eq_some_iff.mp hv).1
    have hfam : (famsOf st)[i]? = some (famsOf st)[i] := List.getElem?_eq_getElem hil
    obtain ⟨FA, hFA, hRL⟩ := hwf.2 i _ hfam
    rw [hv] at hFA
    cases hFA
    have ok := P tb st hZ.htb hZ.hst _ (List.getElem_mem hil)
    generalize (famsOf st)[i] = fam at hfam hRL ok
    have hI57 : I ≠ 57 := Ne.symm (hn _ (.head _))
    have hI5 : I ≠ L+1+1+1+1+1 := Ne.symm (hn _ (.tail _ (.head _)))
    have hI6 : I ≠ L+1+1+1+1+1+1 := Ne.symm (hn _ (.tail _ (.tail _ (.head _))))
    clear F N KX TX
    have KX := ev.K
    have TX := ev.T
    have hstop : StopMark := trivial
    k_steps
    rename Fr _ _ _ _ => F'
    rename News _ _ _ _ => N'
    have bc : BC w mean mg mb h0 L ((I, o) :: rest) T WD SQ O S TD FA tb st fam := ⟨b.lc, l57, hZ.cons hI57 hI5 hI6, hc3.cons _, hTD.cons _, hRL.cons _, ok⟩
    refine bodyAll prog w mean mg mb s h0 L _ _ _ g₁ _ _ T WD SQ O S TD LF FA tb st fam ps o5 o6 v5 v6 ((I, o) :: rest) bc ?_ ct hg F' ⟨⟨hm.w, hm.q, hm.s⟩, hmf, rfl⟩ trivial (fun p hp => N' p ?_) d5 d6
    · intro h' tk' g' m' ps' o5' o6' v5' v6' ct' hg' F₅ hm' hmf' N₅ d5' d6'
      refine turn_nextS (nx := (57, tabObj ps') :: (L+1+1+1+1+1, o5') :: (L+1+1+1+1+1+1, o6') :: rest) F₅ N₅ (.tail _ (.tail _ (.tail _ (.head _)))) (fun p hp => ?_) (fun p hp => ?_) ⟨hg', hm', hmf', ps', o5', o6', v5', v6', rfl, ct', d5', d6'⟩
      · rcases List.mem_cons.mp hp with rfl | hp
        · exact .head _
        · rcases List.mem_cons.mp hp with rfl | hp
          · exact .tail _ (.head _)
          · rcases List.mem_cons.mp hp with rfl | hp
            · exact .tail _ (.tail _ (.head _))
            · exact .tail _ (.tail _ (.tail _ (.tail _ hp)))
      · rcases List.mem_cons.mp hp with rfl | hp
        · exact Ne.symm hI57
        · rcases List.mem_cons.mp hp with rfl | hp
          · exact Ne.symm hI5
          · rcases List.mem_cons.mp hp with rfl | hp
            · exact Ne.symm hI6
            · exact hn p (.tail _ (.tail _ (.tail _ hp)))
    · rcases List.mem_cons.mp hp with rfl | hp
      · exact .tail _ (.head _)
      · rcases List.mem_cons.mp hp with rfl | hp
        · exact .tail _ (.tail _ (.head _))
        · rcases List.mem_cons.mp hp with rfl | hp
          · exact .tail _ (.tail _ (.tail _ (.head _)))
          · rcases List.mem_cons.mp hp with rfl | hp
            · exact .head _
            · exact .tail _ (.tail _ (.tail _ (.tail _ hp)))
  · rintro m₁ news₁ h tk₁ g₁ ⟨hg, hm, hmf, ps, o5, o6, v5, v6, rfl, ct, d5, d6⟩ F₁ N₁
    clear F N
    k_steps
    exact b.fin _ _ _ F₁.keep ⟨ps, (N₁ _ (.head _)).1⟩ hg

theorem law_runs (P : PlainLaw) : LawRuns := segA (segB (segO (segS (segC (segD (segE (segF P)))))))
end

end

end

end Mine
end

section
open PySem PySem.W PyProof.Rows PySem.Calls
namespace Mine
theorem can_0 (a b c d e f g i : Int) : (([0] : List Int).map (covAt [a, b, c, d, e, f, g, i])).sum = 8 * (([0] : List Int).length : Int) * apartOf (partsOf [a, b, c, d, e, f, g, i] [0]) (partsOf [a, b, c, d, e, f, g, i] [0]).length ∧ acrossOf [a, b, c, d, e, f, g, i] [0] 7 = apartOf (partsOf [a, b, c, d, e, f, g, i] [0]) (partsOf [a, b, c, d, e, f, g, i] [0]).length ∧ (partsOf [a, b, c, d, e, f, g, i] [0]).length = 8 := by
  have e2 : acrossOf [a, b, c, d, e, f, g, i] [0] 7 = (((((((0 + (((a - b) + (c - d)) + ((e - f) + (g - i))) * (((a - b) + (c - d)) + ((e - f) + (g - i)))) + (((a + b) - (c + d)) + ((e + f) - (g + i))) * (((a + b) - (c + d)) + ((e + f) - (g + i)))) + (((a - b) - (c - d)) + ((e - f) - (g - i))) * (((a - b) - (c - d)) + ((e - f) - (g - i)))) + (((a + b) + (c + d)) - ((e + f) + (g + i))) * (((a + b) + (c + d)) - ((e + f) + (g + i)))) + (((a - b) + (c - d)) - ((e - f) + (g - i))) * (((a - b) + (c - d)) - ((e - f) + (g - i)))) + (((a + b) - (c + d)) - ((e + f) - (g + i))) * (((a + b) - (c + d)) - ((e + f) - (g + i)))) + (((a - b) - (c - d)) - ((e - f) - (g - i))) * (((a - b) - (c - d)) - ((e - f) - (g - i)))) := by kernel_rfl
  have e3 : (([0] : List Int).map (covAt [a, b, c, d, e, f, g, i])).sum = ((64 * (a * a + b * b + c * c + d * d + e * e + f * f + g * g + i * i) - 8 * ((a + (b + (c + (d + (e + (f + (g + (i + 0)))))))) * (a + (b + (c + (d + (e + (f + (g + (i + 0)))))))))) + 0) := by kernel_rfl
  have e4 : apartOf (partsOf [a, b, c, d, e, f, g, i] [0]) (partsOf [a, b, c, d, e, f, g, i] [0]).length = ((((((((((((((((((((((((((((0 + ((b + 0) - (a + 0)) ^ 2) + ((c + 0) - (a + 0)) ^ 2) + ((c + 0) - (b + 0)) ^ 2) + ((d + 0) - (a + 0)) ^ 2) + ((d + 0) - (b + 0)) ^ 2) + ((d + 0) - (c + 0)) ^ 2) + ((e + 0) - (a + 0)) ^ 2) + ((e + 0) - (b + 0)) ^ 2) + ((e + 0) - (c + 0)) ^ 2) + ((e + 0) - (d + 0)) ^ 2) + ((f + 0) - (a + 0)) ^ 2) + ((f + 0) - (b + 0)) ^ 2) + ((f + 0) - (c + 0)) ^ 2) + ((f + 0) - (d + 0)) ^ 2) + ((f + 0) - (e + 0)) ^ 2) + ((g + 0) - (a + 0)) ^ 2) + ((g + 0) - (b + 0)) ^ 2) + ((g + 0) - (c + 0)) ^ 2) + ((g + 0) - (d + 0)) ^ 2) + ((g + 0) - (e + 0)) ^ 2) + ((g + 0) - (f + 0)) ^ 2) + ((i + 0) - (a + 0)) ^ 2) + ((i + 0) - (b + 0)) ^ 2) + ((i + 0) - (c + 0)) ^ 2) + ((i + 0) - (d + 0)) ^ 2) + ((i + 0) - (e + 0)) ^ 2) + ((i + 0) - (f + 0)) ^ 2) + ((i + 0) - (g + 0)) ^ 2) := by kernel_rfl
  have e5 : (([0] : List Int).length : Int) = 1 := rfl
  have e6 : (partsOf [a, b, c, d, e, f, g, i] [0]).length = 8 := by kernel_rfl
  rw [e2, e3, e4, e5]
  refine ⟨?_, ?_, e6⟩ <;> grind


theorem can_1 (a b c d e f g i : Int) : (([0, 1] : List Int).map (covAt [a, b, c, d, e, f, g, i])).sum = 8 * (([0, 1] : List Int).length : Int) * apartOf (partsOf [a, b, c, d, e, f, g, i] [0, 1]) (partsOf [a, b, c, d, e, f, g, i] [0, 1]).length ∧ acrossOf [a, b, c, d, e, f, g, i] [0, 1] 7 = apartOf (partsOf [a, b, c, d, e, f, g, i] [0, 1]) (partsOf [a, b, c, d, e, f, g, i] [0, 1]).length ∧ (partsOf [a, b, c, d, e, f, g, i] [0, 1]).length = 4 := by
  have e2 : acrossOf [a, b, c, d, e, f, g, i] [0, 1] 7 = (((0 + (((a + b) - (c + d)) + ((e + f) - (g + i))) * (((a + b) - (c + d)) + ((e + f) - (g + i)))) + (((a + b) + (c + d)) - ((e + f) + (g + i))) * (((a + b) + (c + d)) - ((e + f) + (g + i)))) + (((a + b) - (c + d)) - ((e + f) - (g + i))) * (((a + b) - (c + d)) - ((e + f) - (g + i)))) := by kernel_rfl
  have e3 : (([0, 1] : List Int).map (covAt [a, b, c, d, e, f, g, i])).sum = ((64 * (a * a + b * b + c * c + d * d + e * e + f * f + g * g + i * i) - 8 * ((a + (b + (c + (d + (e + (f + (g + (i + 0)))))))) * (a + (b + (c + (d + (e + (f + (g + (i + 0)))))))))) + ((64 * (a * b + b * a + c * d + d * c + e * f + f * e + g * i + i * g) - 8 * ((a + (b + (c + (d + (e + (f + (g + (i + 0)))))))) * (a + (b + (c + (d + (e + (f + (g + (i + 0)))))))))) + 0)) := by kernel_rfl
  have e4 : apartOf (partsOf [a, b, c, d, e, f, g, i] [0, 1]) (partsOf [a, b, c, d, e, f, g, i] [0, 1]).length = ((((((0 + ((c + (d + 0)) - (a + (b + 0))) ^ 2) + ((e + (f + 0)) - (a + (b + 0))) ^ 2) + ((e + (f + 0)) - (c + (d + 0))) ^ 2) + ((g + (i + 0)) - (a + (b + 0))) ^ 2) + ((g + (i + 0)) - (c + (d + 0))) ^ 2) + ((g + (i + 0)) - (e + (f + 0))) ^ 2) := by kernel_rfl
  have e5 : (([0, 1] : List Int).length : Int) = 2 := rfl
  have e6 : (partsOf [a, b, c, d, e, f, g, i] [0, 1]).length = 4 := by kernel_rfl
  rw [e2, e3, e4, e5]
  refine ⟨?_, ?_, e6⟩ <;> grind


theorem can_2 (a b c d e f g i : Int) : (([0, 2] : List Int).map (covAt [a, b, c, d, e, f, g, i])).sum = 8 * (([0, 2] : List Int).length : Int) * apartOf (partsOf [a, b, c, d, e, f, g, i] [0, 2]) (partsOf [a, b, c, d, e, f, g, i] [0, 2]).length ∧ acrossOf [a, b, c, d, e, f, g, i] [0, 2] 7 = apartOf (partsOf [a, b, c, d, e, f, g, i] [0, 2]) (partsOf [a, b, c, d, e, f, g, i] [0, 2]).length ∧ (partsOf [a, b, c, d, e, f, g, i] [0, 2]).length = 4 := by
  have e2 : acrossOf [a, b, c, d, e, f, g, i] [0, 2] 7 = (((0 + (((a - b) + (c - d)) + ((e - f) + (g - i))) * (((a - b) + (c - d)) + ((e - f) + (g - i)))) + (((a + b) + (c + d)) - ((e + f) + (g + i))) * (((a + b) + (c + d)) - ((e + f) + (g + i)))) + (((a - b) + (c - d)) - ((e - f) + (g - i))) * (((a - b) + (c - d)) - ((e - f) + (g - i)))) := by kernel_rfl
  have e3 : (([0, 2] : List Int).map (covAt [a, b, c, d, e, f, g, i])).sum = ((64 * (a * a + b * b + c * c + d * d + e * e + f * f + g * g + i * i) - 8 * ((a + (b + (c + (d + (e + (f + (g + (i + 0)))))))) * (a + (b + (c + (d + (e + (f + (g + (i + 0)))))))))) + ((64 * (a * c + b * d + c * a + d * b + e * g + f * i + g * e + i * f) - 8 * ((a + (b + (c + (d + (e + (f + (g + (i + 0)))))))) * (a + (b + (c + (d + (e + (f + (g + (i + 0)))))))))) + 0)) := by kernel_rfl
  have e4 : apartOf (partsOf [a, b, c, d, e, f, g, i] [0, 2]) (partsOf [a, b, c, d, e, f, g, i] [0, 2]).length = ((((((0 + ((b + (d + 0)) - (a + (c + 0))) ^ 2) + ((e + (g + 0)) - (a + (c + 0))) ^ 2) + ((e + (g + 0)) - (b + (d + 0))) ^ 2) + ((f + (i + 0)) - (a + (c + 0))) ^ 2) + ((f + (i + 0)) - (b + (d + 0))) ^ 2) + ((f + (i + 0)) - (e + (g + 0))) ^ 2) := by kernel_rfl
  have e5 : (([0, 2] : List Int).length : Int) = 2 := rfl
  have e6 : (partsOf [a, b, c, d, e, f, g, i] [0, 2]).length = 4 := by kernel_rfl
  rw [e2, e3, e4, e5]
  refine ⟨?_, ?_, e6⟩ <;> grind


theorem can_3 (a b c d e f g i : Int) : (([0, 3] : List Int).map (covAt [a, b, c, d, e, f, g, i])).sum = 8 * (([0, 3] : List Int).length : Int) * apartOf (partsOf [a, b, c, d, e, f, g, i] [0, 3]) (partsOf [a, b, c, d, e, f, g, i] [0, 3]).length ∧ acrossOf [a, b, c, d, e, f, g, i] [0, 3] 7 = apartOf (partsOf [a, b, c, d, e, f, g, i] [0, 3]) (partsOf [a, b, c, d, e, f, g, i] [0, 3]).length ∧ (partsOf [a, b, c, d, e, f, g, i] [0, 3]).length = 4 := by
  have e2 : acrossOf [a, b, c, d, e, f, g, i] [0, 3] 7 = (((0 + (((a - b) - (c - d)) + ((e - f) - (g - i))) * (((a - b) - (c - d)) + ((e - f) - (g - i)))) + (((a + b) + (c + d)) - ((e + f) + (g + i))) * (((a + b) + (c + d)) - ((e + f) + (g + i)))) + (((a - b) - (c - d)) - ((e - f) - (g - i))) * (((a - b) - (c - d)) - ((e - f) - (g - i)))) := by kernel_rfl
  have e3 : (([0, 3] : List Int).map (covAt [a, b, c, d, e, f, g, i])).sum = ((64 * (a * a + b * b + c * c + d * d + e * e + f * f + g * g + i * i) - 8 * ((a + (b + (c + (d + (e + (f + (g + (i + 0)))))))) * (a + (b + (c + (d + (e + (f + (g + (i + 0)))))))))) + ((64 * (a * d + b * c + c * b + d * a + e * i + f * g + g * f + i * e) - 8 * ((a + (b + (c + (d + (e + (f + (g + (i + 0)))))))) * (a + (b + (c + (d + (e + (f + (g + (i + 0)))))))))) + 0)) := by kernel_rfl
  have e4 : apartOf (partsOf [a, b, c, d, e, f, g, i] [0, 3]) (partsOf [a, b, c, d, e, f, g, i] [0, 3]).length = ((((((0 + ((b + (c + 0)) - (a + (d + 0))) ^ 2) + ((e + (i + 0)) - (a + (d + 0))) ^ 2) + ((e + (i + 0)) - (b + (c + 0))) ^ 2) + ((f + (g + 0)) - (a + (d + 0))) ^ 2) + ((f + (g + 0)) - (b + (c + 0))) ^ 2) + ((f + (g + 0)) - (e + (i + 0))) ^ 2) := by kernel_rfl
  have e5 : (([0, 3] : List Int).length : Int) = 2 := rfl
  have e6 : (partsOf [a, b, c, d, e, f, g, i] [0, 3]).length = 4 := by kernel_rfl
  rw [e2, e3, e4, e5]
  refine ⟨?_, ?_, e6⟩ <;> grind


theorem can_4 (a b c d e f g i : Int) : (([0, 4] : List Int).map (covAt [a, b, c, d, e, f, g, i])).sum = 8 * (([0, 4] : List Int).length : Int) * apartOf (partsOf [a, b, c, d, e, f, g, i] [0, 4]) (partsOf [a, b, c, d, e, f, g, i] [0, 4]).length ∧ acrossOf [a, b, c, d, e, f, g, i] [0, 4] 7 = apartOf (partsOf [a, b, c, d, e, f, g, i] [0, 4]) (partsOf [a, b, c, d, e, f, g, i] [0, 4]).length ∧ (partsOf [a, b, c, d, e, f, g, i] [0, 4]).length = 4 := by
  have e2 : acrossOf [a, b, c, d, e, f, g, i] [0, 4] 7 = (((0 + (((a - b) + (c - d)) + ((e - f) + (g - i))) * (((a - b) + (c - d)) + ((e - f) + (g - i)))) + (((a + b) - (c + d)) + ((e + f) - (g + i))) * (((a + b) - (c + d)) + ((e + f) - (g + i)))) + (((a - b) - (c - d)) + ((e - f) - (g - i))) * (((a - b) - (c - d)) + ((e - f) - (g - i)))) := by kernel_rfl
  have e3 : (([0, 4] : List Int).map (covAt [a, b, c, d, e, f, g, i])).sum = ((64 * (a * a + b * b + c * c + d * d + e * e + f * f + g * g + i * i) - 8 * ((a + (b + (c + (d + (e + (f + (g + (i + 0)))))))) * (a + (b + (c + (d + (e + (f + (g + (i + 0)))))))))) + ((64 * (a * e + b * f + c * g + d * i + e * a + f * b + g * c + i * d) - 8 * ((a + (b + (c + (d + (e + (f + (g + (i + 0)))))))) * (a + (b + (c + (d + (e + (f + (g + (i + 0)))))))))) + 0)) := by kernel_rfl
  have e4 : apartOf (partsOf [a, b, c, d, e, f, g, i] [0, 4]) (partsOf [a, b, c, d, e, f, g, i] [0, 4]).length = ((((((0 + ((b + (f + 0)) - (a + (e + 0))) ^ 2) + ((c + (g + 0)) - (a + (e + 0))) ^ 2) + ((c + (g + 0)) - (b + (f + 0))) ^ 2) + ((d + (i + 0)) - (a + (e + 0))) ^ 2) + ((d + (i + 0)) - (b + (f + 0))) ^ 2) + ((d + (i + 0)) - (c + (g + 0))) ^ 2) := by kernel_rfl
  have e5 : (([0, 4] : List Int).length : Int) = 2 := rfl
  have e6 : (partsOf [a, b, c, d, e, f, g, i] [0, 4]).length = 4 := by kernel_rfl
  rw [e2, e3, e4, e5]
  refine ⟨?_, ?_, e6⟩ <;> grind


theorem can_5 (a b c d e f g i : Int) : (([0, 5] : List Int).map (covAt [a, b, c, d, e, f, g, i])).sum = 8 * (([0, 5] : List Int).length : Int) * apartOf (partsOf [a, b, c, d, e, f, g, i] [0, 5]) (partsOf [a, b, c, d, e, f, g, i] [0, 5]).length ∧ acrossOf [a, b, c, d, e, f, g, i] [0, 5] 7 = apartOf (partsOf [a, b, c, d, e, f, g, i] [0, 5]) (partsOf [a, b, c, d, e, f, g, i] [0, 5]).length ∧ (partsOf [a, b, c, d, e, f, g, i] [0, 5]).length = 4 := by
  have e2 : acrossOf [a, b, c, d, e, f, g, i] [0, 5] 7 = (((0 + (((a + b) - (c + d)) + ((e + f) - (g + i))) * (((a + b) - (c + d)) + ((e + f) - (g + i)))) + (((a - b) + (c - d)) - ((e - f) + (g - i))) * (((a - b) + (c - d)) - ((e - f) + (g - i)))) + (((a - b) - (c - d)) - ((e - f) - (g - i))) * (((a - b) - (c - d)) - ((e - f) - (g - i)))) := by kernel_rfl
  have e3 : (([0, 5] : List Int).map (covAt [a, b, c, d, e, f, g, i])).sum = ((64 * (a * a + b * b + c * c + d * d + e * e + f * f + g * g + i * i) - 8 * ((a + (b + (c + (d + (e + (f + (g + (i + 0)))))))) * (a + (b + (c + (d + (e + (f + (g + (i + 0)))))))))) + ((64 * (a * f + b * e + c * i + d * g + e * b + f * a + g * d + i * c) - 8 * ((a + (b + (c + (d + (e + (f + (g + (i + 0)))))))) * (a + (b + (c + (d + (e + (f + (g + (i + 0)))))))))) + 0)) := by kernel_rfl
  have e4 : apartOf (partsOf [a, b, c, d, e, f, g, i] [0, 5]) (partsOf [a, b, c, d, e, f, g, i] [0, 5]).length = ((((((0 + ((b + (e + 0)) - (a + (f + 0))) ^ 2) + ((c + (i + 0)) - (a + (f + 0))) ^ 2) + ((c + (i + 0)) - (b + (e + 0))) ^ 2) + ((d + (g + 0)) - (a + (f + 0))) ^ 2) + ((d + (g + 0)) - (b + (e + 0))) ^ 2) + ((d + (g + 0)) - (c + (i + 0))) ^ 2) := by kernel_rfl
  have e5 : (([0, 5] : List Int).length : Int) = 2 := rfl
  have e6 : (partsOf [a, b, c, d, e, f, g, i] [0, 5]).length = 4 := by kernel_rfl
  rw [e2, e3, e4, e5]
  refine ⟨?_, ?_, e6⟩ <;> grind


theorem can_6 (a b c d e f g i : Int) : (([0, 6] : List Int).map (covAt [a, b, c, d, e, f, g, i])).sum = 8 * (([0, 6] : List Int).length : Int) * apartOf (partsOf [a, b, c, d, e, f, g, i] [0, 6]) (partsOf [a, b, c, d, e, f, g, i] [0, 6]).length ∧ acrossOf [a, b, c, d, e, f, g, i] [0, 6] 7 = apartOf (partsOf [a, b, c, d, e, f, g, i] [0, 6]) (partsOf [a, b, c, d, e, f, g, i] [0, 6]).length ∧ (partsOf [a, b, c, d, e, f, g, i] [0, 6]).length = 4 := by
  have e2 : acrossOf [a, b, c, d, e, f, g, i] [0, 6] 7 = (((0 + (((a - b) + (c - d)) + ((e - f) + (g - i))) * (((a - b) + (c - d)) + ((e - f) + (g - i)))) + (((a + b) - (c + d)) - ((e + f) - (g + i))) * (((a + b) - (c + d)) - ((e + f) - (g + i)))) + (((a - b) - (c - d)) - ((e - f) - (g - i))) * (((a - b) - (c - d)) - ((e - f) - (g - i)))) := by kernel_rfl
  have e3 : (([0, 6] : List Int).map (covAt [a, b, c, d, e, f, g, i])).sum = ((64 * (a * a + b * b + c * c + d * d + e * e + f * f + g * g + i * i) - 8 * ((a + (b + (c + (d + (e + (f + (g + (i + 0)))))))) * (a + (b + (c + (d + (e + (f + (g + (i + 0)))))))))) + ((64 * (a * g + b * i + c * e + d * f + e * c + f * d + g * a + i * b) - 8 * ((a + (b + (c + (d + (e + (f + (g + (i + 0)))))))) * (a + (b + (c + (d + (e + (f + (g + (i + 0)))))))))) + 0)) := by kernel_rfl
  have e4 : apartOf (partsOf [a, b, c, d, e, f, g, i] [0, 6]) (partsOf [a, b, c, d, e, f, g, i] [0, 6]).length = ((((((0 + ((b + (i + 0)) - (a + (g + 0))) ^ 2) + ((c + (e + 0)) - (a + (g + 0))) ^ 2) + ((c + (e + 0)) - (b + (i + 0))) ^ 2) + ((d + (f + 0)) - (a + (g + 0))) ^ 2) + ((d + (f + 0)) - (b + (i + 0))) ^ 2) + ((d + (f + 0)) - (c + (e + 0))) ^ 2) := by kernel_rfl
  have e5 : (([0, 6] : List Int).length : Int) = 2 := rfl
  have e6 : (partsOf [a, b, c, d, e, f, g, i] [0, 6]).length = 4 := by kernel_rfl
  rw [e2, e3, e4, e5]
  refine ⟨?_, ?_, e6⟩ <;> grind


theorem can_7 (a b c d e f g i : Int) : (([0, 7] : List Int).map (covAt [a, b, c, d, e, f, g, i])).sum = 8 * (([0, 7] : List Int).length : Int) * apartOf (partsOf [a, b, c, d, e, f, g, i] [0, 7]) (partsOf [a, b, c, d, e, f, g, i] [0, 7]).length ∧ acrossOf [a, b, c, d, e, f, g, i] [0, 7] 7 = apartOf (partsOf [a, b, c, d, e, f, g, i] [0, 7]) (partsOf [a, b, c, d, e, f, g, i] [0, 7]).length ∧ (partsOf [a, b, c, d, e, f, g, i] [0, 7]).length = 4 := by
  have e2 : acrossOf [a, b, c, d, e, f, g, i] [0, 7] 7 = (((0 + (((a - b) - (c - d)) + ((e - f) - (g - i))) * (((a - b) - (c - d)) + ((e - f) - (g - i)))) + (((a - b) + (c - d)) - ((e - f) + (g - i))) * (((a - b) + (c - d)) - ((e - f) + (g - i)))) + (((a + b) - (c + d)) - ((e + f) - (g + i))) * (((a + b) - (c + d)) - ((e + f) - (g + i)))) := by kernel_rfl
  have e3 : (([0, 7] : List Int).map (covAt [a, b, c, d, e, f, g, i])).sum = ((64 * (a * a + b * b + c * c + d * d + e * e + f * f + g * g + i * i) - 8 * ((a + (b + (c + (d + (e + (f + (g + (i + 0)))))))) * (a + (b + (c + (d + (e + (f + (g + (i + 0)))))))))) + ((64 * (a * i + b * g + c * f + d * e + e * d + f * c + g * b + i * a) - 8 * ((a + (b + (c + (d + (e + (f + (g + (i + 0)))))))) * (a + (b + (c + (d + (e + (f + (g + (i + 0)))))))))) + 0)) := by kernel_rfl
  have e4 : apartOf (partsOf [a, b, c, d, e, f, g, i] [0, 7]) (partsOf [a, b, c, d, e, f, g, i] [0, 7]).length = ((((((0 + ((b + (g + 0)) - (a + (i + 0))) ^ 2) + ((c + (f + 0)) - (a + (i + 0))) ^ 2) + ((c + (f + 0)) - (b + (g + 0))) ^ 2) + ((d + (e + 0)) - (a + (i + 0))) ^ 2) + ((d + (e + 0)) - (b + (g + 0))) ^ 2) + ((d + (e + 0)) - (c + (f + 0))) ^ 2) := by kernel_rfl
  have e5 : (([0, 7] : List Int).length : Int) = 2 := rfl
  have e6 : (partsOf [a, b, c, d, e, f, g, i] [0, 7]).length = 4 := by kernel_rfl
  rw [e2, e3, e4, e5]
  refine ⟨?_, ?_, e6⟩ <;> grind


theorem can_8 (a b c d e f g i : Int) : (([0, 1, 2, 3] : List Int).map (covAt [a, b, c, d, e, f, g, i])).sum = 8 * (([0, 1, 2, 3] : List Int).length : Int) * apartOf (partsOf [a, b, c, d, e, f, g, i] [0, 1, 2, 3]) (partsOf [a, b, c, d, e, f, g, i] [0, 1, 2, 3]).length ∧ acrossOf [a, b, c, d, e, f, g, i] [0, 1, 2, 3] 7 = apartOf (partsOf [a, b, c, d, e, f, g, i] [0, 1, 2, 3]) (partsOf [a, b, c, d, e, f, g, i] [0, 1, 2, 3]).length ∧ (partsOf [a, b, c, d, e, f, g, i] [0, 1, 2, 3]).length = 2 := by
  have e2 : acrossOf [a, b, c, d, e, f, g, i] [0, 1, 2, 3] 7 = (0 + (((a + b) + (c + d)) - ((e + f) + (g + i))) * (((a + b) + (c + d)) - ((e + f) + (g + i)))) := by kernel_rfl
  have e3 : (([0, 1, 2, 3] : List Int).map (covAt [a, b, c, d, e, f, g, i])).sum = ((64 * (a * a + b * b + c * c + d * d + e * e + f * f + g * g + i * i) - 8 * ((a + (b + (c + (d + (e + (f + (g + (i + 0)))))))) * (a + (b + (c + (d + (e + (f + (g + (i + 0)))))))))) + ((64 * (a * b + b * a + c * d + d * c + e * f + f * e + g * i + i * g) - 8 * ((a + (b + (c + (d + (e + (f + (g + (i + 0)))))))) * (a + (b + (c + (d + (e + (f + (g + (i + 0)))))))))) + ((64 * (a * c + b * d + c * a + d * b + e * g + f * i + g * e + i * f) - 8 * ((a + (b + (c + (d + (e + (f + (g + (i + 0)))))))) * (a + (b + (c + (d + (e + (f + (g + (i + 0)))))))))) + ((64 * (a * d + b * c + c * b + d * a + e * i + f * g + g * f + i * e) - 8 * ((a + (b + (c + (d + (e + (f + (g + (i + 0)))))))) * (a + (b + (c + (d + (e + (f + (g + (i + 0)))))))))) + 0)))) := by kernel_rfl
  have e4 : apartOf (partsOf [a, b, c, d, e, f, g, i] [0, 1, 2, 3]) (partsOf [a, b, c, d, e, f, g, i] [0, 1, 2, 3]).length = (0 + ((e + (f + (g + (i + 0)))) - (a + (b + (c + (d + 0))))) ^ 2) := by kernel_rfl
  have e5 : (([0, 1, 2, 3] : List Int).length : Int) = 4 := rfl
  have e6 : (partsOf [a, b, c, d, e, f, g, i] [0, 1, 2, 3]).length = 2 := by kernel_rfl
  rw [e2, e3, e4, e5]
  refine ⟨?_, ?_, e6⟩ <;> grind


theorem can_9 (a b c d e f g i : Int) : (([0, 1, 4, 5] : List Int).map (covAt [a, b, c, d, e, f, g, i])).sum = 8 * (([0, 1, 4, 5] : List Int).length : Int) * apartOf (partsOf [a, b, c, d, e, f, g, i] [0, 1, 4, 5]) (partsOf [a, b, c, d, e, f, g, i] [0, 1, 4, 5]).length ∧ acrossOf [a, b, c, d, e, f, g, i] [0, 1, 4, 5] 7 = apartOf (partsOf [a, b, c, d, e, f, g, i] [0, 1, 4, 5]) (partsOf [a, b, c, d, e, f, g, i] [0, 1, 4, 5]).length ∧ (partsOf [a, b, c, d, e, f, g, i] [0, 1, 4, 5]).length = 2 := by
  have e2 : acrossOf [a, b, c, d, e, f, g, i] [0, 1, 4, 5] 7 = (0 + (((a + b) - (c + d)) + ((e + f) - (g + i))) * (((a + b) - (c + d)) + ((e + f) - (g + i)))) := by kernel_rfl
  have e3 : (([0, 1, 4, 5] : List Int).map (covAt [a, b, c, d, e, f, g, i])).sum = ((64 * (a * a + b * b + c * c + d * d + e * e + f * f + g * g + i * i) - 8 * ((a + (b + (c + (d + (e + (f + (g + (i + 0)))))))) * (a + (b + (c + (d + (e + (f + (g + (i + 0)))))))))) + ((64 * (a * b + b * a + c * d + d * c + e * f + f * e + g * i + i * g) - 8 * ((a + (b + (c + (d + (e + (f + (g + (i + 0)))))))) * (a + (b + (c + (d + (e + (f + (g + (i + 0)))))))))) + ((64 * (a * e + b * f + c * g + d * i + e * a + f * b + g * c + i * d) - 8 * ((a + (b + (c + (d + (e + (f + (g + (i + 0)))))))) * (a + (b + (c + (d + (e + (f + (g + (i + 0)))))))))) + ((64 * (a * f + b * e + c * i + d * g + e * b + f * a + g * d + i * c) - 8 * ((a + (b + (c + (d + (e + (f + (g + (i + 0)))))))) * (a + (b + (c + (d + (e + (f + (g + (i + 0)))))))))) + 0)))) := by kernel_rfl
  have e4 : apartOf (partsOf [a, b, c, d, e, f, g, i] [0, 1, 4, 5]) (partsOf [a, b, c, d, e, f, g, i] [0, 1, 4, 5]).length = (0 + ((c + (d + (g + (i + 0)))) - (a + (b + (e + (f + 0))))) ^ 2) := by kernel_rfl
  have e5 : (([0, 1, 4, 5] : List Int).length : Int) = 4 := rfl
  have e6 : (partsOf [a, b, c, d, e, f, g, i] [0, 1, 4, 5]).length = 2 := by kernel_rfl
  rw [e2, e3, e4, e5]
  refine ⟨?_, ?_, e6⟩ <;> grind


theorem can_10 (a b c d e f g i : Int) : (([0, 1, 6, 7] : List Int).map (covAt [a, b, c, d, e, f, g, i])).sum = 8 * (([0, 1, 6, 7] : List Int).length : Int) * apartOf (partsOf [a, b, c, d, e, f, g, i] [0, 1, 6, 7]) (partsOf [a, b, c, d, e, f, g, i] [0, 1, 6, 7]).length ∧ acrossOf [a, b, c, d, e, f, g, i] [0, 1, 6, 7] 7 = apartOf (partsOf [a, b, c, d, e, f, g, i] [0, 1, 6, 7]) (partsOf [a, b, c, d, e, f, g, i] [0, 1, 6, 7]).length ∧ (partsOf [a, b, c, d, e, f, g, i] [0, 1, 6, 7]).length = 2 := by
  have e2 : acrossOf [a, b, c, d, e, f, g, i] [0, 1, 6, 7] 7 = (0 + (((a + b) - (c + d)) - ((e + f) - (g + i))) * (((a + b) - (c + d)) - ((e + f) - (g + i)))) := by kernel_rfl
  have e3 : (([0, 1, 6, 7] : List Int).map (covAt [a, b, c, d, e, f, g, i])).sum = ((64 * (a * a + b * b + c * c + d * d + e * e + f * f + g * g + i * i) - 8 * ((a + (b + (c + (d + (e + (f + (g + (i + 0)))))))) * (a + (b + (c + (d + (e + (f + (g + (i + 0)))))))))) + ((64 * (a * b + b * a + c * d + d * c + e * f + f * e + g * i + i * g) - 8 * ((a + (b + (c + (d + (e + (f + (g + (i + 0)))))))) * (a + (b + (c + (d + (e + (f + (g + (i + 0)))))))))) + ((64 * (a * g + b * i + c * e + d * f + e * c + f * d + g * a + i * b) - 8 * ((a + (b + (c + (d + (e + (f + (g + (i + 0)))))))) * (a + (b + (c + (d + (e + (f + (g + (i + 0)))))))))) + ((64 * (a * i + b * g + c * f + d * e + e * d + f * c + g * b + i * a) - 8 * ((a + (b + (c + (d + (e + (f + (g + (i + 0)))))))) * (a + (b + (c + (d + (e + (f + (g + (i + 0)))))))))) + 0)))) := by kernel_rfl
  have e4 : apartOf (partsOf [a, b, c, d, e, f, g, i] [0, 1, 6, 7]) (partsOf [a, b, c, d, e, f, g, i] [0, 1, 6, 7]).length = (0 + ((c + (d + (e + (f + 0)))) - (a + (b + (g + (i + 0))))) ^ 2) := by kernel_rfl
  have e5 : (([0, 1, 6, 7] : List Int).length : Int) = 4 := rfl
  have e6 : (partsOf [a, b, c, d, e, f, g, i] [0, 1, 6, 7]).length = 2 := by kernel_rfl
  rw [e2, e3, e4, e5]
  refine ⟨?_, ?_, e6⟩ <;> grind


theorem can_11 (a b c d e f g i : Int) : (([0, 2, 4, 6] : List Int).map (covAt [a, b, c, d, e, f, g, i])).sum = 8 * (([0, 2, 4, 6] : List Int).length : Int) * apartOf (partsOf [a, b, c, d, e, f, g, i] [0, 2, 4, 6]) (partsOf [a, b, c, d, e, f, g, i] [0, 2, 4, 6]).length ∧ acrossOf [a, b, c, d, e, f, g, i] [0, 2, 4, 6] 7 = apartOf (partsOf [a, b, c, d, e, f, g, i] [0, 2, 4, 6]) (partsOf [a, b, c, d, e, f, g, i] [0, 2, 4, 6]).length ∧ (partsOf [a, b, c, d, e, f, g, i] [0, 2, 4, 6]).length = 2 := by
  have e2 : acrossOf [a, b, c, d, e, f, g, i] [0, 2, 4, 6] 7 = (0 + (((a - b) + (c - d)) + ((e - f) + (g - i))) * (((a - b) + (c - d)) + ((e - f) + (g - i)))) := by kernel_rfl
  have e3 : (([0, 2, 4, 6] : List Int).map (covAt [a, b, c, d, e, f, g, i])).sum = ((64 * (a * a + b * b + c * c + d * d + e * e + f * f + g * g + i * i) - 8 * ((a + (b + (c + (d + (e + (f + (g + (i + 0)))))))) * (a + (b + (c + (d + (e + (f + (g + (i + 0)))))))))) + ((64 * (a * c + b * d + c * a + d * b + e * g + f * i + g * e + i * f) - 8 * ((a + (b + (c + (d + (e + (f + (g + (i + 0)))))))) * (a + (b + (c + (d + (e + (f + (g + (i + 0)))))))))) + ((64 * (a * e + b * f + c * g + d * i + e * a + f * b + g * c + i * d) - 8 * ((a + (b + (c + (d + (e + (f + (g + (i + 0)))))))) * (a + (b + (c + (d + (e + (f + (g + (i + 0)))))))))) + ((64 * (a * g + b * i + c * e + d * f + e * c + f * d + g * a + i * b) - 8 * ((a + (b + (c + (d + (e + (f + (g + (i + 0)))))))) * (a + (b + (c + (d + (e + (f + (g + (i + 0)))))))))) + 0)))) := by kernel_rfl
  have e4 : apartOf (partsOf [a, b, c, d, e, f, g, i] [0, 2, 4, 6]) (partsOf [a, b, c, d, e, f, g, i] [0, 2, 4, 6]).length = (0 + ((b + (d + (f + (i + 0)))) - (a + (c + (e + (g + 0))))) ^ 2) := by kernel_rfl
  have e5 : (([0, 2, 4, 6] : List Int).length : Int) = 4 := rfl
  have e6 : (partsOf [a, b, c, d, e, f, g, i] [0, 2, 4, 6]).length = 2 := by kernel_rfl
  rw [e2, e3, e4, e5]
  refine ⟨?_, ?_, e6⟩ <;> grind


theorem can_12 (a b c d e f g i : Int) : (([0, 2, 5, 7] : List Int).map (covAt [a, b, c, d, e, f, g, i])).sum = 8 * (([0, 2, 5, 7] : List Int).length : Int) * apartOf (partsOf [a, b, c, d, e, f, g, i] [0, 2, 5, 7]) (partsOf [a, b, c, d, e, f, g, i] [0, 2, 5, 7]).length ∧ acrossOf [a, b, c, d, e, f, g, i] [0, 2, 5, 7] 7 = apartOf (partsOf [a, b, c, d, e, f, g, i] [0, 2, 5, 7]) (partsOf [a, b, c, d, e, f, g, i] [0, 2, 5, 7]).length ∧ (partsOf [a, b, c, d, e, f, g, i] [0, 2, 5, 7]).length = 2 := by
  have e2 : acrossOf [a, b, c, d, e, f, g, i] [0, 2, 5, 7] 7 = (0 + (((a - b) + (c - d)) - ((e - f) + (g - i))) * (((a - b) + (c - d)) - ((e - f) + (g - i)))) := by kernel_rfl
  have e3 : (([0, 2, 5, 7] : List Int).map (covAt [a, b, c, d, e, f, g, i])).sum = ((64 * (a * a + b * b + c * c + d * d + e * e + f * f + g * g + i * i) - 8 * ((a + (b + (c + (d + (e + (f + (g + (i + 0)))))))) * (a + (b + (c + (d + (e + (f + (g + (i + 0)))))))))) + ((64 * (a * c + b * d + c * a + d * b + e * g + f * i + g * e + i * f) - 8 * ((a + (b + (c + (d + (e + (f + (g + (i + 0)))))))) * (a + (b + (c + (d + (e + (f + (g + (i + 0)))))))))) + ((64 * (a * f + b * e + c * i + d * g + e * b + f * a + g * d + i * c) - 8 * ((a + (b + (c + (d + (e + (f + (g + (i + 0)))))))) * (a + (b + (c + (d + (e + (f + (g + (i + 0)))))))))) + ((64 * (a * i + b * g + c * f + d * e + e * d + f * c + g * b + i * a) - 8 * ((a + (b + (c + (d + (e + (f + (g + (i + 0)))))))) * (a + (b + (c + (d + (e + (f + (g + (i + 0)))))))))) + 0)))) := by kernel_rfl
  have e4 : apartOf (partsOf [a, b, c, d, e, f, g, i] [0, 2, 5, 7]) (partsOf [a, b, c, d, e, f, g, i] [0, 2, 5, 7]).length = (0 + ((b + (d + (e + (g + 0)))) - (a + (c + (f + (i + 0))))) ^ 2) := by kernel_rfl
  have e5 : (([0, 2, 5, 7] : List Int).length : Int) = 4 := rfl
  have e6 : (partsOf [a, b, c, d, e, f, g, i] [0, 2, 5, 7]).length = 2 := by kernel_rfl
  rw [e2, e3, e4, e5]
  refine ⟨?_, ?_, e6⟩ <;> grind


theorem can_13 (a b c d e f g i : Int) : (([0, 3, 4, 7] : List Int).map (covAt [a, b, c, d, e, f, g, i])).sum = 8 * (([0, 3, 4, 7] : List Int).length : Int) * apartOf (partsOf [a, b, c, d, e, f, g, i] [0, 3, 4, 7]) (partsOf [a, b, c, d, e, f, g, i] [0, 3, 4, 7]).length ∧ acrossOf [a, b, c, d, e, f, g, i] [0, 3, 4, 7] 7 = apartOf (partsOf [a, b, c, d, e, f, g, i] [0, 3, 4, 7]) (partsOf [a, b, c, d, e, f, g, i] [0, 3, 4, 7]).length ∧ (partsOf [a, b, c, d, e, f, g, i] [0, 3, 4, 7]).length = 2 := by
  have e2 : acrossOf [a, b, c, d, e, f, g, i] [0, 3, 4, 7] 7 = (0 + (((a - b) - (c - d)) + ((e - f) - (g - i))) * (((a - b) - (c - d)) + ((e - f) - (g - i)))) := by kernel_rfl
  have e3 : (([0, 3, 4, 7] : List Int).map (covAt [a, b, c, d, e, f, g, i])).sum = ((64 * (a * a + b * b + c * c + d * d + e * e + f * f + g * g + i * i) - 8 * ((a + (b + (c + (d + (e + (f + (g + (i + 0)))))))) * (a + (b + (c + (d + (e + (f + (g + (i + 0)))))))))) + ((64 * (a * d + b * c + c * b + d * a + e * i + f * g + g * f + i * e) - 8 * ((a + (b + (c + (d + (e + (f + (g + (i + 0)))))))) * (a + (b + (c + (d + (e + (f + (g + (i + 0)))))))))) + ((64 * (a * e + b * f + c * g + d * i + e * a + f * b + g * c + i * d) - 8 * ((a + (b + (c + (d + (e + (f + (g + (i + 0)))))))) * (a + (b + (c + (d + (e + (f + (g + (i + 0)))))))))) + ((64 * (a * i + b * g + c * f + d * e + e * d + f * c + g * b + i * a) - 8 * ((a + (b + (c + (d + (e + (f + (g + (i + 0)))))))) * (a + (b + (c + (d + (e + (f + (g + (i + 0)))))))))) + 0)))) := by kernel_rfl
  have e4 : apartOf (partsOf [a, b, c, d, e, f, g, i] [0, 3, 4, 7]) (partsOf [a, b, c, d, e, f, g, i] [0, 3, 4, 7]).length = (0 + ((b + (c + (f + (g + 0)))) - (a + (d + (e + (i + 0))))) ^ 2) := by kernel_rfl
  have e5 : (([0, 3, 4, 7] : List Int).length : Int) = 4 := rfl
  have e6 : (partsOf [a, b, c, d, e, f, g, i] [0, 3, 4, 7]).length = 2 := by kernel_rfl
  rw [e2, e3, e4, e5]
  refine ⟨?_, ?_, e6⟩ <;> grind


theorem can_14 (a b c d e f g i : Int) : (([0, 3, 5, 6] : List Int).map (covAt [a, b, c, d, e, f, g, i])).sum = 8 * (([0, 3, 5, 6] : List Int).length : Int) * apartOf (partsOf [a, b, c, d, e, f, g, i] [0, 3, 5, 6]) (partsOf [a, b, c, d, e, f, g, i] [0, 3, 5, 6]).length ∧ acrossOf [a, b, c, d, e, f, g, i] [0, 3, 5, 6] 7 = apartOf (partsOf [a, b, c, d, e, f, g, i] [0, 3, 5, 6]) (partsOf [a, b, c, d, e, f, g, i] [0, 3, 5, 6]).length ∧ (partsOf [a, b, c, d, e, f, g, i] [0, 3, 5, 6]).length = 2 := by
  have e2 : acrossOf [a, b, c, d, e, f, g, i] [0, 3, 5, 6] 7 = (0 + (((a - b) - (c - d)) - ((e - f) - (g - i))) * (((a - b) - (c - d)) - ((e - f) - (g - i)))) := by kernel_rfl
  have e3 : (([0, 3, 5, 6] : List Int).map (covAt [a, b, c, d, e, f, g, i])).sum = ((64 * (a * a + b * b + c * c + d * d + e * e + f * f + g * g + i * i) - 8 * ((a + (b + (c + (d + (e + (f + (g + (i + 0)))))))) * (a + (b + (c + (d + (e + (f + (g + (i + 0)))))))))) + ((64 * (a * d + b * c + c * b + d * a + e * i + f * g + g * f + i * e) - 8 * ((a + (b + (c + (d + (e + (f + (g + (i + 0)))))))) * (a + (b + (c + (d + (e + (f + (g + (i + 0)))))))))) + ((64 * (a * f + b * e + c * i + d * g + e * b + f * a + g * d + i * c) - 8 * ((a + (b + (c + (d + (e + (f + (g + (i + 0)))))))) * (a + (b + (c + (d + (e + (f + (g + (i + 0)))))))))) + ((64 * (a * g + b * i + c * e + d * f + e * c + f * d + g * a + i * b) - 8 * ((a + (b + (c + (d + (e + (f + (g + (i + 0)))))))) * (a + (b + (c + (d + (e + (f + (g + (i + 0)))))))))) + 0)))) := by kernel_rfl
  have e4 : apartOf (partsOf [a, b, c, d, e, f, g, i] [0, 3, 5, 6]) (partsOf [a, b, c, d, e, f, g, i] [0, 3, 5, 6]).length = (0 + ((b + (c + (e + (i + 0)))) - (a + (d + (f + (g + 0))))) ^ 2) := by kernel_rfl
  have e5 : (([0, 3, 5, 6] : List Int).length : Int) = 4 := rfl
  have e6 : (partsOf [a, b, c, d, e, f, g, i] [0, 3, 5, 6]).length = 2 := by kernel_rfl
  rw [e2, e3, e4, e5]
  refine ⟨?_, ?_, e6⟩ <;> grind


theorem can_15 (a b c d e f g i : Int) : (([0, 1, 2, 3, 4, 5, 6, 7] : List Int).map (covAt [a, b, c, d, e, f, g, i])).sum = 8 * (([0, 1, 2, 3, 4, 5, 6, 7] : List Int).length : Int) * apartOf (partsOf [a, b, c, d, e, f, g, i] [0, 1, 2, 3, 4, 5, 6, 7]) (partsOf [a, b, c, d, e, f, g, i] [0, 1, 2, 3, 4, 5, 6, 7]).length ∧ acrossOf [a, b, c, d, e, f, g, i] [0, 1, 2, 3, 4, 5, 6, 7] 7 = apartOf (partsOf [a, b, c, d, e, f, g, i] [0, 1, 2, 3, 4, 5, 6, 7]) (partsOf [a, b, c, d, e, f, g, i] [0, 1, 2, 3, 4, 5, 6, 7]).length ∧ (partsOf [a, b, c, d, e, f, g, i] [0, 1, 2, 3, 4, 5, 6, 7]).length = 1 := by
  have e2 : acrossOf [a, b, c, d, e, f, g, i] [0, 1, 2, 3, 4, 5, 6, 7] 7 = 0 := by kernel_rfl
  have e3 : (([0, 1, 2, 3, 4, 5, 6, 7] : List Int).map (covAt [a, b, c, d, e, f, g, i])).sum = ((64 * (a * a + b * b + c * c + d * d + e * e + f * f + g * g + i * i) - 8 * ((a + (b + (c + (d + (e + (f + (g + (i + 0)))))))) * (a + (b + (c + (d + (e + (f + (g + (i + 0)))))))))) + ((64 * (a * b + b * a + c * d + d * c + e * f + f * e + g * i + i * g) - 8 * ((a + (b + (c + (d + (e + (f + (g + (i + 0)))))))) * (a + (b + (c + (d + (e + (f + (g + (i + 0)))))))))) + ((64 * (a * c + b * d + c * a + d * b + e * g + f * i + g * e + i * f) - 8 * ((a + (b + (c + (d + (e + (f + (g + (i + 0)))))))) * (a + (b + (c + (d + (e + (f + (g + (i + 0)))))))))) + ((64 * (a * d + b * c + c * b + d * a + e * i + f * g + g * f + i * e) - 8 * ((a + (b + (c + (d + (e + (f + (g + (i + 0)))))))) * (a + (b + (c + (d + (e + (f + (g + (i + 0)))))))))) + ((64 * (a * e + b * f + c * g + d * i + e * a + f * b + g * c + i * d) - 8 * ((a + (b + (c + (d + (e + (f + (g + (i + 0)))))))) * (a + (b + (c + (d + (e + (f + (g + (i + 0)))))))))) + ((64 * (a * f + b * e + c * i + d * g + e * b + f * a + g * d + i * c) - 8 * ((a + (b + (c + (d + (e + (f + (g + (i + 0)))))))) * (a + (b + (c + (d + (e + (f + (g + (i + 0)))))))))) + ((64 * (a * g + b * i + c * e + d * f + e * c + f * d + g * a + i * b) - 8 * ((a + (b + (c + (d + (e + (f + (g + (i + 0)))))))) * (a + (b + (c + (d + (e + (f + (g + (i + 0)))))))))) + ((64 * (a * i + b * g + c * f + d * e + e * d + f * c + g * b + i * a) - 8 * ((a + (b + (c + (d + (e + (f + (g + (i + 0)))))))) * (a + (b + (c + (d + (e + (f + (g + (i + 0)))))))))) + 0)))))))) := by kernel_rfl
  have e4 : apartOf (partsOf [a, b, c, d, e, f, g, i] [0, 1, 2, 3, 4, 5, 6, 7]) (partsOf [a, b, c, d, e, f, g, i] [0, 1, 2, 3, 4, 5, 6, 7]).length = 0 := by kernel_rfl
  have e5 : (([0, 1, 2, 3, 4, 5, 6, 7] : List Int).length : Int) = 8 := rfl
  have e6 : (partsOf [a, b, c, d, e, f, g, i] [0, 1, 2, 3, 4, 5, 6, 7]).length = 1 := by kernel_rfl
  rw [e2, e3, e4, e5]
  refine ⟨?_, ?_, e6⟩ <;> grind

def sumAt (tb l : List Int) : Int := (l.map fun x => tb.getD x.toNat 0).sum
def pStepI (fam : List Int) (st : List Int × List (List Int)) (p : Int) : List Int × List (List Int) :=
  if (st.1.any fun x => x == p) = true then st else (st.1 ++ fam.map (fun m => Builtin.bitXor p m), st.2 ++ [fam.map fun m => Builtin.bitXor p m])
def pFoldI (fam : List Int) (i : Nat) : List Int × List (List Int) := (List.range i).foldl (fun st p => pStepI fam st (p : Nat)) ([], [])
def partsIdx (fam : List Int) : List (List Int) := (pFoldI fam 8).2
theorem pFoldI_succ (fam : List Int) (i : Nat) : pFoldI fam (i + 1) = pStepI fam (pFoldI fam i) (i : Nat) := by
  unfold pFoldI; rw [List.range_succ, List.foldl_append, List.foldl_cons, List.foldl_nil]
theorem pFold_idx (tb fam : List Int) : ∀ i, (pFold tb fam i).1 = (pFoldI fam i).1 ∧ (pFold tb fam i).2 = (pFoldI fam i).2.map (sumAt tb)
  | 0 => ⟨rfl, rfl⟩
  | i + 1 => by
    obtain ⟨h1, h2⟩ := pFold_idx tb fam i
    rw [pFold_succ, pFoldI_succ]
    unfold pStep pStepI
    rw [h1]
    by_cases hc : (((pFoldI fam i).1.any fun x => x == ((i : Nat) : Int)) = true)
    · rw [if_pos hc, if_pos hc]; exact ⟨h1, h2⟩
    · rw [if_neg hc, if_neg hc]
      refine ⟨rfl, ?_⟩
      show (pFold tb fam i).2 ++ _ = _
      rw [h2, List.map_append]
      simp only [List.map_cons, List.map_nil, sumAt, List.map_map]
      rfl
theorem partsOf_idx (tb fam : List Int) : partsOf tb fam = (partsIdx fam).map (sumAt tb) := (pFold_idx tb fam 8).2
theorem idx_len (fam : List Int) : ∀ i, ∀ l ∈ (pFoldI fam i).2, l.length = fam.length
  | 0 => by intro l hl; cases hl
  | i + 1 => by
    intro l hl
    rw [pFoldI_succ] at hl
    unfold pStepI at hl
    split at hl
    · exact idx_len fam i l hl
    · rcases List.mem_append.mp hl with hl | hl
      · exact idx_len fam i l hl
      · rw [List.mem_singleton.mp hl, List.length_map]
theorem perm_sum {l l' : List Int} (h : l.Perm l') : l.sum = l'.sum := by
  induction h with
  | nil => rfl
  | cons a _ ih => rw [List.sum_cons, List.sum_cons, ih]
  | swap a b l => simp only [List.sum_cons]; omega
  | trans _ _ h1 h2 => rw [h1, h2]
theorem sumAt_perm (tb : List Int) {l l' : List Int} (h : l.Perm l') : sumAt tb l = sumAt tb l' := perm_sum (h.map _)

def canons : List (List Int) := [[0], [0, 1], [0, 2], [0, 3], [0, 4], [0, 5], [0, 6], [0, 7], [0, 1, 2, 3], [0, 1, 4, 5], [0, 1, 6, 7], [0, 2, 4, 6], [0, 2, 5, 7], [0, 3, 4, 7], [0, 3, 5, 6], [0, 1, 2, 3, 4, 5, 6, 7]]
def check (fam c : List Int) : Bool := fam.isPerm c && ((partsIdx fam).length == (partsIdx c).length) && ((partsIdx fam).zip (partsIdx c)).all fun p => p.1.isPerm p.2
theorem check_two : ((List.range 8).all fun a => (List.range 8).all fun b => canons.any (check (famOf [(a : Int), b]))) = true := by decide +kernel
theorem check_three : ((List.range 8).all fun a => (List.range 8).all fun b => (List.range 8).all fun c => canons.any (check (famOf [(a : Int), b, c]))) = true := by decide +kernel
theorem check_one : ([[0]] ++ (List.range 7).map fun j : Nat => [0, 1 + (j : Int)]).all (fun fam => canons.any (check fam)) = true := by decide +kernel
theorem zip_sum (tb : List Int) : ∀ xs ys : List (List Int), xs.length = ys.length → (xs.zip ys).all (fun p => p.1.isPerm p.2) = true → xs.map (sumAt tb) = ys.map (sumAt tb)
  | [], [], _, _ => rfl
  | x :: xs, y :: ys, hl, h => by
    rw [List.zip_cons_cons, List.all_cons, Bool.and_eq_true] at h
    rw [List.map_cons, List.map_cons, sumAt_perm tb (List.isPerm_iff.mp h.1), zip_sum tb xs ys (by simpa using hl) h.2]
theorem parts_eq (tb : List Int) {fam c : List Int} (h : check fam c = true) : fam.Perm c ∧ partsOf tb fam = partsOf tb c := by
  unfold check at h
  rw [Bool.and_eq_true, Bool.and_eq_true, beq_iff_eq] at h
  exact ⟨List.isPerm_iff.mp h.1.1, by rw [partsOf_idx, partsOf_idx, zip_sum tb _ _ h.1.2 h.2]⟩
theorem across_eq (tb : List Int) {fam c : List Int} (h : fam.Perm c) : ∀ n, acrossOf tb fam n = acrossOf tb c n
  | 0 => rfl
  | n + 1 => by
    rw [acrossOf_succ, acrossOf_succ, across_eq tb h n]
    unfold acrossStep
    have hp := h.filter (acrossP (1 + (n : Int)))
    by_cases hc : c.filter (acrossP (1 + (n : Int))) = []
    · rw [if_pos hc, if_pos (by rw [hc] at hp; exact hp.eq_nil)]
    · rw [if_neg hc, if_neg (fun e => hc (by rw [e] at hp; exact hp.symm.eq_nil))]
theorem fam_check {st : List Int} (h : ST st) : ∀ fam ∈ famsOf st, ∃ c ∈ canons, check fam c = true := by
  obtain ⟨a, b, c, ha, hb, hc, rfl⟩ := st3_of h
  have h3 := List.all_eq_true.mp (List.all_eq_true.mp (List.all_eq_true.mp check_three a (List.mem_range.mpr ha)) b (List.mem_range.mpr hb)) c (List.mem_range.mpr hc)
  have h2 := List.all_eq_true.mp (List.all_eq_true.mp check_two a (List.mem_range.mpr ha)) b (List.mem_range.mpr hb)
  have h1 := List.all_eq_true.mp check_one
  intro fam hf
  unfold famsOf at hf
  have key : canons.any (check fam) = true := by
    rcases List.mem_append.mp hf with hf | hf
    · exact h1 fam hf
    · rcases List.mem_cons.mp hf with rfl | hf
      · exact h2
      · rw [List.mem_singleton.mp hf]; exact h3
  exact List.any_eq_true.mp key

def Core (tb c : List Int) : Prop := (c.map (covAt tb)).sum = 8 * (c.length : Int) * apartOf (partsOf tb c) (partsOf tb c).length ∧ acrossOf tb c 7 = apartOf (partsOf tb c) (partsOf tb c).length ∧ ((partsOf tb c).length = 1 ∨ (partsOf tb c).length = 2 ∨ (partsOf tb c).length = 4 ∨ (partsOf tb c).length = 8)
theorem core_all (a b c d e f g i : Int) : ∀ k ∈ canons, Core [a, b, c, d, e, f, g, i] k := by
  intro k hk
  unfold canons at hk
  simp only [List.mem_cons, List.not_mem_nil, or_false] at hk
  rcases hk with rfl | rfl | rfl | rfl | rfl | rfl | rfl | rfl | rfl | rfl | rfl | rfl | rfl | rfl | rfl | rfl
  · obtain ⟨h1, h2, h3⟩ := can_0 a b c d e f g i; exact ⟨h1, h2, by rw [h3]; decide⟩
  · obtain ⟨h1, h2, h3⟩ := can_1 a b c d e f g i; exact ⟨h1, h2, by rw [h3]; decide⟩
  · obtain ⟨h1, h2, h3⟩ := can_2 a b c d e f g i; exact ⟨h1, h2, by rw [h3]; decide⟩
  · obtain ⟨h1, h2, h3⟩ := can_3 a b c d e f g i; exact ⟨h1, h2, by rw [h3]; decide⟩
  · obtain ⟨h1, h2, h3⟩ := can_4 a b c d e f g i; exact ⟨h1, h2, by rw [h3]; decide⟩
  · obtain ⟨h1, h2, h3⟩ := can_5 a b c d e f g i; exact ⟨h1, h2, by rw [h3]; decide⟩
  · obtain ⟨h1, h2, h3⟩ := can_6 a b c d e f g i; exact ⟨h1, h2, by rw [h3]; decide⟩
  · obtain ⟨h1, h2, h3⟩ := can_7 a b c d e f g i; exact ⟨h1, h2, by rw [h3]; decide⟩
  · obtain ⟨h1, h2, h3⟩ := can_8 a b c d e f g i; exact ⟨h1, h2, by rw [h3]; decide⟩
  · obtain ⟨h1, h2, h3⟩ := can_9 a b c d e f g i; exact ⟨h1, h2, by rw [h3]; decide⟩
  · obtain ⟨h1, h2, h3⟩ := can_10 a b c d e f g i; exact ⟨h1, h2, by rw [h3]; decide⟩
  · obtain ⟨h1, h2, h3⟩ := can_11 a b c d e f g i; exact ⟨h1, h2, by rw [h3]; decide⟩
  · obtain ⟨h1, h2, h3⟩ := can_12 a b c d e f g i; exact ⟨h1, h2, by rw [h3]; decide⟩
  · obtain ⟨h1, h2, h3⟩ := can_13 a b c d e f g i; exact ⟨h1, h2, by rw [h3]; decide⟩
  · obtain ⟨h1, h2, h3⟩ := can_14 a b c d e f g i; exact ⟨h1, h2, by rw [h3]; decide⟩
  · obtain ⟨h1, h2, h3⟩ := can_15 a b c d e f g i; exact ⟨h1, h2, by rw [h3]; decide⟩
theorem idx_eight_all : canons.all (fun c => (partsIdx c).length * c.length == 8) = true := by decide +kernel
theorem idx_eight : ∀ c ∈ canons, (partsIdx c).length * c.length = 8 := fun c hc => by have := List.all_eq_true.mp idx_eight_all c hc; simpa using this
theorem canon_facts : canons.all (fun c => decide (c.length ≤ 8) && decide (0 < c.length) && c.all (fun m => decide (0 ≤ m) && decide (m < 8))) = true := by decide +kernel

theorem apartIn_bound (us : List Int) (k : Nat) (B : Nat) (hB : ∀ i, (us.getD i 0).natAbs ≤ B) (acc : Int) : ∀ n, (apartIn us k acc n).natAbs ≤ acc.natAbs + n * ((2 * B) * (2 * B))
  | 0 => by simp [apartIn]
  | n + 1 => by
    have h1 := apartIn_bound us k B hB acc n
    have h2 : (us.getD k 0 - us.getD n 0).natAbs ≤ 2 * B := by have := hB k; have := hB n; omega
    have h3 : ((us.getD k 0 - us.getD n 0) ^ 2).natAbs ≤ (2 * B) * (2 * B) := by
      rw [show (us.getD k 0 - us.getD n 0) ^ 2 = (us.getD k 0 - us.getD n 0) * (us.getD k 0 - us.getD n 0) by rw [Int.pow_succ, Int.pow_succ, Int.pow_zero, Int.one_mul], Int.natAbs_mul]
      exact Nat.mul_le_mul h2 h2
    rw [apartIn_succ, Nat.succ_mul]
    omega
theorem apartOf_bound (us : List Int) (B : Nat) (hB : ∀ i, (us.getD i 0).natAbs ≤ B) : ∀ n, n ≤ 8 → (apartOf us n).natAbs ≤ n * (7 * ((2 * B) * (2 * B)))
  | 0, _ => by simp [apartOf]
  | n + 1, h => by
    have h1 := apartOf_bound us B hB n (by omega)
    have h2 := apartIn_bound us n B hB (apartOf us n) n
    have h3 : n * ((2 * B) * (2 * B)) ≤ 7 * ((2 * B) * (2 * B)) := Nat.mul_le_mul_right _ (by omega)
    rw [apartOf_succ, Nat.succ_mul]
    omega

theorem rows_two (u v : Int) (hu : u.natAbs ≤ 1048576) (hv : v.natAbs ≤ 1048576) : Rows2 (lessOf [u, v]) (fewOf [u, v]) (u + v) (u + v) (2 * apartOf [u, v] 2) := by
  have e1 : fewOf [u, v] = [2 * u, 2 * v] := rfl
  have e2 : lessOf [u, v] = [(2 - 1) * (2 * u), (2 - 1) * (2 * v)] := rfl
  have e3 : apartOf [u, v] 2 = 0 + (v - u) ^ 2 := by kernel_rfl
  have e4 : (v - u) ^ 2 = (v - u) * (v - u) := by grind
  rw [e1, e2, e3]
  refine rows_of (A := 4194304) (B := 4194304) rfl (by simp) (by simp) ?_ ?_ (by omega) (by omega) (by decide) (by decide) ?_ ?_ ?_ ?_
  · intro n hn
    simp only [List.mem_cons, List.not_mem_nil, or_false] at hn
    rcases hn with rfl | rfl <;> omega
  · intro n hn
    simp only [List.mem_cons, List.not_mem_nil, or_false] at hn
    rcases hn with rfl | rfl <;> omega
  · simp only [List.sum_cons, List.sum_nil, List.length_cons, List.length_nil]; omega
  · simp only [List.sum_cons, List.sum_nil, List.length_cons, List.length_nil]; omega
  · simp only [dot, List.length_cons, List.length_nil, List.getD_cons_zero, List.getD_cons_succ]; grind
  · rw [e4]
    have h2 : (v - u).natAbs ≤ 2097152 := by omega
    have h3 : ((v - u) * (v - u)).natAbs ≤ 2097152 * 2097152 := by rw [Int.natAbs_mul]; exact Nat.mul_le_mul h2 h2
    omega
theorem rows_four (u v x y : Int) (hu : u.natAbs ≤ 524288) (hv : v.natAbs ≤ 524288) (hx : x.natAbs ≤ 524288) (hy : y.natAbs ≤ 524288) (hap : (apartOf [u, v, x, y] 4).natAbs < 2 ^ 50) : Rows2 (lessOf [u, v, x, y]) (fewOf [u, v, x, y]) (3 * (u + v + x + y)) (u + v + x + y) (4 * apartOf [u, v, x, y] 4) := by
  have e1 : fewOf [u, v, x, y] = [4 * u, 4 * v, 4 * x, 4 * y] := rfl
  have e2 : lessOf [u, v, x, y] = [(4 - 1) * (4 * u), (4 - 1) * (4 * v), (4 - 1) * (4 * x), (4 - 1) * (4 * y)] := rfl
  have e3 : apartOf [u, v, x, y] 4 = ((((((0 + (v - u) ^ 2) + (x - u) ^ 2) + (x - v) ^ 2) + (y - u) ^ 2) + (y - v) ^ 2) + (y - x) ^ 2) := by kernel_rfl
  refine rows_of (A := 8388608) (B := 2097152) (by rw [e1, e2]; rfl) (by rw [e2]; simp) (by rw [e2]; simp) ?_ ?_ (by omega) (by omega) (by decide) (by decide) ?_ ?_ ?_ (by omega)
  · rw [e2]
    intro n hn
    simp only [List.mem_cons, List.not_mem_nil, or_false] at hn
    rcases hn with rfl | rfl | rfl | rfl <;> omega
  · rw [e1]
    intro n hn
    simp only [List.mem_cons, List.not_mem_nil, or_false] at hn
    rcases hn with rfl | rfl | rfl | rfl <;> omega
  · rw [e2]; simp only [List.sum_cons, List.sum_nil, List.length_cons, List.length_nil]; omega
  · rw [e1, e2]; simp only [List.sum_cons, List.sum_nil, List.length_cons, List.length_nil]; omega
  · rw [e1, e2, e3]; simp only [dot, List.length_cons, List.length_nil, List.getD_cons_zero, List.getD_cons_succ]; grind

theorem cov_bound {tb : List Int} (htb : TB tb) (m : Int) : (covAt tb m).natAbs ≤ 70368744177664 := by
  have hB : ∀ t ∈ tb, t.natAbs ≤ 262144 := fun t ht => by have := htb.2 t ht; omega
  have hS := sum_bound 262144 tb hB
  rw [htb.1] at hS
  have hG := getD_bound hB
  have hc : ∀ c ∈ covsOf tb 8, c.natAbs ≤ 70368744177664 := by
    intro c hc
    obtain ⟨k, _, rfl⟩ := List.mem_map.mp hc
    have h1 : (dotI (fun i => tb.getD i 0) (fun i => tb.getD (i ^^^ k) 0)).natAbs ≤ 8 * (262144 * 262144) := by
      rw [dotI_eq]; exact dot_bound hG (fun i => hG _) 8
    have h2 : (tb.sum * tb.sum).natAbs ≤ 2097152 * 2097152 := by rw [Int.natAbs_mul]; exact Nat.mul_le_mul hS hS
    unfold covOf
    generalize dotI (fun i => tb.getD i 0) (fun i => tb.getD (i ^^^ k) 0) = x at h1 ⊢
    generalize tb.sum * tb.sum = y at h2 ⊢
    omega
  exact getD_bound hc m.toNat

theorem plain_law : PlainLaw := by
  intro tb st htb hst fam hf
  obtain ⟨c, hc, hck⟩ := fam_check hst fam hf
  obtain ⟨hp, hpe⟩ := parts_eq tb hck
  have hcf := List.all_eq_true.mp canon_facts c hc
  simp only [Bool.and_eq_true, decide_eq_true_eq, List.all_eq_true] at hcf
  obtain ⟨⟨hl8, hl0⟩, hbd⟩ := hcf
  have hcore : Core tb c := by
    obtain ⟨a, b, c', d, e, f, g, i, rfl⟩ := eight_of htb.1
    exact core_all a b c' d e f g i c hc
  obtain ⟨q1, q2, q3⟩ := hcore
  have hlen := hp.length_eq
  have hB : ∀ t ∈ tb, t.natAbs ≤ 262144 := fun t ht => by have := htb.2 t ht; omega
  have hG := getD_bound hB
  have hpl : ∀ p ∈ partsOf tb fam, p.natAbs ≤ fam.length * 262144 := by
    intro p hpm
    rw [partsOf_idx] at hpm
    obtain ⟨l, hl, rfl⟩ := List.mem_map.mp hpm
    have h1 := idx_len fam 8 l hl
    have h2 := sum_bound 262144 (l.map fun x => tb.getD x.toNat 0) (fun x hx => by
      obtain ⟨y, _, rfl⟩ := List.mem_map.mp hx
      exact hG _)
    rw [List.length_map, h1] at h2
    exact h2
  have hpl8 : ∀ p ∈ partsOf tb fam, p.natAbs ≤ 2097152 := fun p hpm => by have := hpl p hpm; omega
  have hn8 : (partsOf tb fam).length ≤ 8 := by rw [hpe]; omega
  have hap : (apartOf (partsOf tb fam) (partsOf tb fam).length).natAbs < 2 ^ 50 := by
    have h1 := apartOf_bound (partsOf tb fam) 2097152 (getD_bound hpl8) _ hn8
    have h2 := Nat.mul_le_mul_right (7 * ((2 * 2097152) * (2 * 2097152))) hn8
    omega
  have hmul : (partsOf tb fam).length * fam.length = 8 := by
    rw [hpe, hlen, partsOf_idx, List.length_map]
    exact idx_eight c hc
  refine ⟨by omega, by omega, fun m hm => ?_, fun i _ => ?_, fun x hx => ?_, ?_, ?_, hap, by rw [hpe]; omega, fun p hpm => by have := hpl8 p hpm; omega, fun h2 h8 => ?_⟩
  · exact hbd m (hp.mem_iff.mp hm)
  · have h1 := sum_bound 70368744177664 ((fam.map (covAt tb)).take i) fun x hx => by
      obtain ⟨y, _, rfl⟩ := List.mem_map.mp (List.mem_of_mem_take hx)
      exact cov_bound htb y
    have h2 : ((fam.map (covAt tb)).take i).length ≤ 8 := Nat.le_trans (List.length_take_le' _ _) (by rw [List.length_map]; omega)
    have h3 := Nat.mul_le_mul_right 70368744177664 h2
    omega
  · obtain ⟨y, _, rfl⟩ := List.mem_map.mp hx
    have := cov_bound htb y
    omega
  · rw [perm_sum (hp.map _), hpe, hlen]; exact q1
  · rw [across_eq tb hp, hpe]; exact q2
  · generalize hus : partsOf tb fam = us at *
    rw [← hpe] at q3
    rcases q3 with h | h | h | h
    · omega
    · match us, h with
      | [u, v], _ =>
        have hf4 : fam.length = 4 := by have : 2 * fam.length = 8 := hmul; omega
        rw [hf4] at hpl
        exact ⟨_, _, rows_two u v (hpl u (.head _)) (hpl v (.tail _ (.head _)))⟩
    · match us, h with
      | [u, v, x, y], _ =>
        have hf2 : fam.length = 2 := by have : 4 * fam.length = 8 := hmul; omega
        rw [hf2] at hpl
        exact ⟨_, _, rows_four u v x y (hpl u (.head _)) (hpl v (.tail _ (.head _))) (hpl x (.tail _ (.tail _ (.head _)))) (hpl y (.tail _ (.tail _ (.tail _ (.head _))))) hap⟩
    · omega

end Mine
end

set_option maxRecDepth 100000 in
set_option maxHeartbeats 8000000 in
theorem PySem.Challenge.cw_re0015_01_holds : PySem.Challenge.rw_re0015_01.Holds := by
  exact Mine.top_from (Mine.law_runs Mine.plain_law)
