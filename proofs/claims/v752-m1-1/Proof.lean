import JvmDerived
import JvmDerived.Pilot.@@N@@Statement
import JvmDerived.Pilot.@@N@@Code
set_option linter.unusedVariables false
set_option linter.unusedSimpArgs false
namespace Jvm.RoadKit
open Sem ClassFile Op Lib Jvm.Stand Jvm.Free Jvm.LawKit
section New
variable {p : Program} {l : Launch} {e : Env} {R : Room} {s : State} {m : MethodId} {args : Array Value} {below : List Frame} {meth : Method} {c : Code} {T : State} {locs : List Loc} {cells slots : Nat}
theorem retI (X : Stand p l e R s m args below meth c T locs cells slots) (hx : p.tables.exec = Jvm.exec) {pc : Nat} {Ls : Array Slot} {z : Int32} {rest : List Value} (hret : meth.sig.returnType = some .int) (hd : decode c.code pc = .ok (.ireturn, 1)) {fs : List Frame}
    (hl : ∀ (f : JFrame) (acts : List Action), f.method = m → f.locked = none → f.entered = [] → (doReturn e (T.setTop f) acts (some (.int z))).1 = T.setFrames fs) : Steps p.tables e below (T.setTop (mkF m pc Ls (.int z :: rest))) (T.setFrames fs) :=
  retOut X hx hret rfl (Or.inl ⟨rfl, Or.inl rfl, z, rfl⟩) hd hl
theorem own_hide {n0 : Nat} (X : Stand p l e R s m args below meth c T locs cells slots) (N : Fr n0 locs) : ∃ L, Stand p l e R s m args below meth c T L cells slots ∧ Fr n0 L := ⟨_, X, N⟩
theorem own_catR {v : Value} (h : v.isRef = true) : v.category = 1 := by rcases ref_cases h with rfl | ⟨a, rfl⟩ <;> rfl
theorem own_iteR (P : Prop) [Decidable P] {a b : Value} (ha : a.isRef = true) (hb : b.isRef = true) : (if P then a else b).isRef = true := by
  by_cases h : P
  · rw [if_pos h]; exact ha
  · rw [if_neg h]; exact hb
end New
end Jvm.RoadKit
namespace OwnF
open Jvm.FP.Core Jvm.Free.Fl

theorem own_units {A B : Nat} (hA : 0 < A) (hB : 0 < B) (h1 : 2 ^ 53 * B ≤ A) (h2 : A < 2 ^ 2000 * B) :
    ∃ k : Nat, quantum b64 A B (-1074) = (k : Int) - 1074 ∧ 0 < k ∧ k < 1948 ∧ 2 ^ 52 * (B * 2 ^ k) ≤ A ∧ A < 2 ^ 53 * (B * 2 ^ k) ∧
      unitsNum A (-1074) (quantum b64 A B (-1074)) = A ∧ unitsDen B (-1074) (quantum b64 A B (-1074)) = B * 2 ^ k := by
  have g := quantum_ge b64 A B (-1074)
  have hb := (units_below A B (-1074) (quantum b64 A B (-1074)) b64.p).mpr (quantum_below hA hB (-1074))
  have hn := quantum_not_below (f := b64) hA hB (-1074)
  rw [qmin_b64] at g hn
  rw [show ((b64.p : Int) - 1) = ((52 : Nat) : Int) from by decide, ← units_below] at hn
  generalize quantum b64 A B (-1074) = q at g hb hn ⊢
  have hk : q = ((q + 1074).toNat : Int) - 1074 := by omega
  have e1 : unitsNum A (-1074) q = A := by
    unfold unitsNum; rw [show (-1074 - q).toNat = 0 by omega]; simp
  have e2 : unitsDen B (-1074) q = B * 2 ^ (q + 1074).toNat := by
    unfold unitsDen; rw [show (q - -1074).toNat = (q + 1074).toNat by omega]
  rw [e1, e2] at hb hn
  rw [e1, e2]
  have hb' : A < 2 ^ 53 * (B * 2 ^ (q + 1074).toNat) := hb
  clear hb
  generalize hkk : (q + 1074).toNat = k at hb' hn hk e2 ⊢
  have k0 : 0 < k := by
    rcases Nat.eq_zero_or_pos k with h0 | h0
    · subst h0; rw [Nat.pow_zero, Nat.mul_one] at hb'; omega
    · exact h0
  have lo : 2 ^ 52 * (B * 2 ^ k) ≤ A := by
    rcases hn with h | h
    · omega
    · exact Nat.le_of_not_lt h
  have hi : k < 1948 := by
    have : 2 ^ (52 + k) * B < 2 ^ 2000 * B := by
      rw [Nat.pow_add]
      calc 2 ^ 52 * 2 ^ k * B = 2 ^ 52 * (B * 2 ^ k) := by ac_rfl
        _ ≤ A := lo
        _ < _ := h2
    have := Nat.lt_of_mul_lt_mul_right this
    have := (Nat.pow_lt_pow_iff_right (by decide : 1 < 2)).mp this
    omega
  exact ⟨k, hk, k0, hi, lo, hb', rfl, rfl⟩

theorem own_rr {A B : Nat} (hB : 0 < B) (h1 : A = 0 ∨ 2 ^ 53 * B ≤ A) (h2 : A < 2 ^ 2000 * B) (s : Bool) :
    ∃ c q, roundRatio b64 s A B (-1074) = .fin s c q ∧ 2 ^ 53 * (zmag b64 (.fin s c q) * B) ≤ (2 ^ 53 + 1) * A ∧
      (2 ^ 53 - 1) * A ≤ 2 ^ 53 * (zmag b64 (.fin s c q) * B) := by
  by_cases hA : A = 0
  · refine ⟨0, b64.qmin, ?_, ?_, ?_⟩
    · unfold roundRatio; rw [if_pos hA]
    · simp [zmag, inUnits]
    · rw [hA]; simp
  · have h1' : 2 ^ 53 * B ≤ A := by omega
    obtain ⟨k, hq, k0, k1, lo, hi, e1, e2⟩ := own_units (by omega) hB h1' h2
    have hsp := nearest_spec A (B * 2 ^ k) (Nat.mul_pos hB (Nat.two_pow_pos _))
    have hle := nearest_units_le (f := b64) (A := A) (B := B) (by omega) hB (-1074)
    rw [e1, e2] at hle
    unfold roundRatio roundAt
    rw [if_neg hA, e1, e2, hq]
    generalize nearest A (B * 2 ^ k) = n at hsp hle ⊢
    have hle' : n ≤ 2 ^ 53 := hle
    have bounds : 2 ^ 53 * (n * 2 ^ k * B) ≤ (2 ^ 53 + 1) * A ∧ (2 ^ 53 - 1) * A ≤ 2 ^ 53 * (n * 2 ^ k * B) := by
      obtain ⟨s1, s2, _⟩ := hsp
      rw [show n * 2 ^ k * B = n * (B * 2 ^ k) by ac_rfl]
      rw [Nat.add_mul, Nat.mul_assoc 2 n, Nat.one_mul] at s1
      rw [Nat.mul_assoc 2 n] at s2
      generalize B * 2 ^ k = E at *
      generalize n * E = m at *
      omega
    unfold settle bound
    have hqm : b64.qmax = 971 := by decide
    by_cases hn : n < 2 ^ b64.p
    · refine ⟨n, (k : Int) - 1074, ?_, ?_⟩
      · rw [if_pos hn, if_pos (by omega)]
      · have : zmag b64 (.fin s n ((k : Int) - 1074)) = n * 2 ^ k := by
          show n * 2 ^ ((k : Int) - 1074 - b64.qmin).toNat = _
          rw [qmin_b64, show ((k : Int) - 1074 - -1074).toNat = k by omega]
        rw [this]; exact bounds
    · have hn' : ¬ n < 2 ^ 53 := hn
      have hnn : n = 2 ^ 53 := by omega
      refine ⟨b64.tails, (k : Int) - 1074 + 1, ?_, ?_⟩
      · rw [if_neg hn, if_pos (by omega)]
      · have : zmag b64 (.fin s b64.tails ((k : Int) - 1074 + 1)) = n * 2 ^ k := by
          show b64.tails * 2 ^ ((k : Int) - 1074 + 1 - b64.qmin).toNat = _
          rw [qmin_b64, tails_b64, show ((k : Int) - 1074 + 1 - -1074).toNat = k + 1 by omega, hnn, ← Nat.pow_add, ← Nat.pow_add]
          congr 1; omega
        rw [this]; exact bounds

theorem own_rr_scale {A B : Nat} (hB : 0 < B) (h1 : A = 0 ∨ 2 ^ 53 * B ≤ A) (h2 : A < 2 ^ 2000 * B) (s : Bool) :
    (A = 0 ∧ roundRatio b64 s A B (-1074) = .fin s 0 b64.qmin ∧ roundRatio b64 s (4 * A) B (-1074) = .fin s 0 b64.qmin) ∨
    ∃ c q, roundRatio b64 s A B (-1074) = .fin s c q ∧ roundRatio b64 s (4 * A) B (-1074) = .fin s c (q + 2) := by
  by_cases hA : A = 0
  · refine .inl ⟨hA, ?_, ?_⟩ <;> (unfold roundRatio; rw [if_pos (by omega)])
  refine .inr ?_
  have h1' : 2 ^ 53 * B ≤ A := by omega
  obtain ⟨k, hq, k0, k1, lo, hi, e1, e2⟩ := own_units (by omega) hB h1' h2
  have hc : roundRatio b64 s (4 * A) B (-1074) = roundRatio b64 s A B (-1072) := by
    refine roundRatio_congr hB hB ?_
    rw [show ((-1074 : Int) - -1072).toNat = 0 from rfl, show ((-1072 : Int) - -1074).toNat = 2 from rfl]
    rw [Nat.pow_zero, Nat.mul_one, show (2 : Nat) ^ 2 = 4 from rfl]
    ac_rfl
  have hq2 : quantum b64 A B (-1072) = quantum b64 A B (-1074) + 2 := by
    have hm : quantum b64 A B (-1074) ≠ b64.qmin := by rw [hq, qmin_b64]; omega
    unfold quantum at hm ⊢
    omega
  have hle := nearest_units_le (f := b64) (A := A) (B := B) (by omega) hB (-1074)
  rw [e1, e2] at hle
  rw [hc]
  unfold roundRatio roundAt
  rw [if_neg hA, if_neg hA, hq2]
  have u1 : unitsNum A (-1072) (quantum b64 A B (-1074) + 2) = A := by
    unfold unitsNum; rw [hq, show (-1072 - ((k : Int) - 1074 + 2)).toNat = 0 by omega]; simp
  have u2 : unitsDen B (-1072) (quantum b64 A B (-1074) + 2) = B * 2 ^ k := by
    unfold unitsDen; rw [hq, show ((k : Int) - 1074 + 2 - -1072).toNat = k by omega]
  rw [u1, u2, e1, e2, hq]
  generalize nearest A (B * 2 ^ k) = n at hle ⊢
  unfold settle bound
  have hqm : b64.qmax = 971 := by decide
  by_cases hn : n < 2 ^ b64.p
  · exact ⟨n, (k : Int) - 1074, by rw [if_pos hn, if_pos (by omega)], by rw [if_pos hn, if_pos (by omega)]⟩
  · exact ⟨b64.tails, (k : Int) - 1074 + 1, by rw [if_neg hn, if_pos (by omega)], by rw [if_neg hn, if_pos (by omega)]; congr 1; omega⟩

def own_O : Nat := 2 ^ 1074
theorem own_O_eq : ∃ n : Nat, n = 1074 ∧ own_O = 2 ^ n := ⟨1074, rfl, rfl⟩
theorem own_O_pos : 0 < own_O := Nat.two_pow_pos _
theorem own_O_lo : 2 ^ 200 * 2 ^ 53 ≤ own_O := by
  obtain ⟨n, hn, hO⟩ := own_O_eq
  rw [hO, ← Nat.pow_add]; exact Nat.pow_le_pow_right (by decide) (by omega)
theorem own_O_hi : 2 ^ 200 * own_O < 2 ^ 2000 := by
  obtain ⟨n, hn, hO⟩ := own_O_eq
  rw [hO, ← Nat.pow_add]; exact Nat.pow_lt_pow_right (by decide) (by omega)

def own_F (a : UInt64) : Prop := ∃ c q, val64 a = .fin false c q
def own_z (a : UInt64) : Nat := zmag b64 (val64 a)

theorem own_z_eq {a : UInt64} {c : Nat} {q : Int} (h : val64 a = .fin false c q) : -1074 ≤ q ∧ own_z a = c * 2 ^ (q + 1074).toNat := by
  have := val64_fits a
  rw [h] at this
  have h2 := this.2.1
  rw [qmin_b64] at h2
  refine ⟨h2, ?_⟩
  unfold own_z; rw [h]
  show c * 2 ^ (q - b64.qmin).toNat = _
  rw [qmin_b64, show q - -1074 = q + 1074 by omega]

theorem own_val_mul {a b : UInt64} (ha : own_F a) (hb : own_F b) :
    val64 (dmul a b) = roundRatio b64 false (own_z a * own_z b) own_O (-1074) := by
  obtain ⟨c, q, h1⟩ := ha
  obtain ⟨d, r, h2⟩ := hb
  obtain ⟨hq, e1⟩ := own_z_eq h1
  obtain ⟨hr, e2⟩ := own_z_eq h2
  rw [val64_dmul, h1, h2, e1, e2]
  show roundRatio b64 false (c * d) 1 (q + r) = _
  refine roundRatio_congr (by decide) own_O_pos ?_
  obtain ⟨n, hn, hO⟩ := own_O_eq
  rw [hO]
  have : n + (q + r - -1074).toNat = (q + 1074).toNat + (r + 1074).toNat + (-1074 - (q + r)).toNat := by omega
  calc c * d * 2 ^ n * 2 ^ (q + r - -1074).toNat = c * d * 2 ^ (n + (q + r - -1074).toNat) := by rw [Nat.pow_add]; ac_rfl
    _ = c * 2 ^ (q + 1074).toNat * (d * 2 ^ (r + 1074).toNat) * 1 * 2 ^ (-1074 - (q + r)).toNat := by
      rw [this, Nat.pow_add, Nat.pow_add]; ac_rfl

theorem own_val_div {a b : UInt64} (ha : own_F a) (hb : own_F b) (hz : 0 < own_z b) :
    val64 (ddiv a b) = roundRatio b64 false (own_z a * own_O) (own_z b) (-1074) := by
  obtain ⟨c, q, h1⟩ := ha
  obtain ⟨d, r, h2⟩ := hb
  obtain ⟨hq, e1⟩ := own_z_eq h1
  obtain ⟨hr, e2⟩ := own_z_eq h2
  have hd : d ≠ 0 := by rintro rfl; rw [e2] at hz; simp at hz
  rw [val64_ddiv, h1, h2, e1, e2]
  show (if d = 0 then _ else roundRatio b64 false c d (q - r)) = _
  rw [if_neg hd]
  refine roundRatio_congr (by omega) (Nat.mul_pos (by omega) (Nat.two_pow_pos _)) ?_
  obtain ⟨n, hn, hO⟩ := own_O_eq
  rw [hO]
  have : (r + 1074).toNat + (q - r - -1074).toNat = (q + 1074).toNat + n + (-1074 - (q - r)).toNat := by omega
  calc c * (d * 2 ^ (r + 1074).toNat) * 2 ^ (q - r - -1074).toNat = c * d * 2 ^ ((r + 1074).toNat + (q - r - -1074).toNat) := by
        rw [Nat.pow_add]; ac_rfl
    _ = c * 2 ^ (q + 1074).toNat * 2 ^ n * d * 2 ^ (-1074 - (q - r)).toNat := by
      rw [this, Nat.pow_add, Nat.pow_add]; ac_rfl

theorem own_val_add {a b : UInt64} (ha : own_F a) (hb : own_F b) :
    val64 (dadd a b) = roundRatio b64 false (own_z a + own_z b) 1 (-1074) := by
  obtain ⟨c, q, h1⟩ := ha
  obtain ⟨d, r, h2⟩ := hb
  obtain ⟨hq, e1⟩ := own_z_eq h1
  obtain ⟨hr, e2⟩ := own_z_eq h2
  rw [val64_dadd, h1, h2, e1, e2]
  have hs : sumUnits false c q false d r (min q r) = ((inUnits c q (min q r) + inUnits d r (min q r) : Nat) : Int) := by
    unfold sumUnits signed; simp
  show roundRatio b64 (sumSign false false (sumUnits false c q false d r (min q r))) (sumUnits false c q false d r (min q r)).natAbs 1 (min q r) = _
  rw [hs]
  have hsg : sumSign false false ((inUnits c q (min q r) + inUnits d r (min q r) : Nat) : Int) = false := by
    unfold sumSign; split
    · rfl
    · exact decide_eq_false (by omega)
  rw [hsg, Int.natAbs_natCast]
  refine roundRatio_congr (by decide) (by decide) ?_
  unfold inUnits
  rw [show (-1074 - min q r).toNat = 0 by omega]
  have x1 : (q + 1074).toNat = (q - min q r).toNat + (min q r - -1074).toNat := by omega
  have x2 : (r + 1074).toNat = (r - min q r).toNat + (min q r - -1074).toNat := by omega
  rw [x1, x2, Nat.pow_add, Nat.pow_add, Nat.mul_one, Nat.pow_zero, Nat.mul_one, Nat.mul_one, Nat.add_mul]
  ac_rfl

theorem own_i2d {n : Int32} (h : 0 ≤ n.toInt) : own_F (i2d n) ∧ own_z (i2d n) = n.toInt.toNat * own_O := by
  have hf : own_F (i2d n) := by
    rw [i2d_l2d]
    obtain ⟨c, q, hc⟩ := l2d_shape n.toInt64
    refine ⟨c, q, ?_⟩
    rw [hc, decide_eq_false]
    simp only [Int32.toInt_toInt64]; omega
  refine ⟨hf, ?_⟩
  obtain ⟨c, q, hc⟩ := hf
  have hz := DInt_zval (i2d_int n)
  unfold zval at hz
  unfold own_z
  rw [hc] at hz ⊢
  have h1 : ((zmag b64 (.fin false c q) : Nat) : Int) = n.toInt * (one64 : Int) := hz
  have h2 : one64 = own_O := rfl
  rw [h2] at h1
  have : ((zmag b64 (.fin false c q) : Nat) : Int) = ((n.toInt.toNat * own_O : Nat) : Int) := by
    rw [h1, Int.natCast_mul, Int.toNat_of_nonneg h]
  exact Int.ofNat.inj this

def own_V (a : UInt64) : Rat := (own_z a : Rat) / (own_O : Rat)

theorem own_Or : (0 : Rat) < (own_O : Rat) := by exact_mod_cast own_O_pos

theorem own_V_nonneg (a : UInt64) : 0 ≤ own_V a := by
  have h1 := own_Or
  have h2 : (0 : Rat) ≤ (own_z a : Rat) := by exact_mod_cast Nat.zero_le _
  unfold own_V
  rw [Rat.div_def]
  exact Rat.mul_nonneg h2 (Rat.le_of_lt (Rat.inv_pos.mpr h1))

theorem own_V_mul (a : UInt64) : own_V a * (own_O : Rat) = (own_z a : Rat) := by
  have h1 := own_Or
  unfold own_V
  exact Rat.div_mul_cancel (by grind)

theorem own_cond {A B : Nat} (hB : 0 < B) {X : Rat} (hX : X * ((B : Rat) * (own_O : Rat)) = (A : Rat))
    (h : X = 0 ∨ 1 ≤ 2 ^ 200 * X) (h' : X ≤ 2 ^ 200) : (A = 0 ∨ 2 ^ 53 * B ≤ A) ∧ A < 2 ^ 2000 * B := by
  have hO := own_Or
  have hBr : (0 : Rat) < (B : Rat) := by exact_mod_cast hB
  have o1 : (2 : Rat) ^ 200 * 2 ^ 53 ≤ (own_O : Rat) := by exact_mod_cast own_O_lo
  have hp : (0 : Rat) < 2 ^ 200 := by decide
  have c1 : A = 0 ∨ 2 ^ 53 * B ≤ A := by
    rcases h with h | h
    · left
      rw [h, Rat.zero_mul] at hX
      exact_mod_cast hX.symm
    · right
      have e1 : (2 : Rat) ^ 53 ≤ X * (own_O : Rat) := by
        have hx0 : 0 ≤ X := by grind
        have a1 : X * (2 ^ 200 * 2 ^ 53) ≤ X * (own_O : Rat) := Rat.mul_le_mul_of_nonneg_left o1 hx0
        grind
      have e2 : (2 : Rat) ^ 53 * (B : Rat) ≤ X * (own_O : Rat) * (B : Rat) := Rat.mul_le_mul_of_nonneg_right e1 (Rat.le_of_lt hBr)
      have e3 : (2 : Rat) ^ 53 * (B : Rat) ≤ (A : Rat) := by rw [← hX]; grind
      exact_mod_cast e3
  have c2 : A < 2 ^ 2000 * B := by
    have o2 := own_O_hi
    have b1 : A ≤ 2 ^ 200 * (B * own_O) := by
      have : X * ((B : Rat) * (own_O : Rat)) ≤ 2 ^ 200 * ((B : Rat) * (own_O : Rat)) :=
        Rat.mul_le_mul_of_nonneg_right h' (Rat.le_of_lt (Rat.mul_pos hBr hO))
      rw [hX] at this
      exact_mod_cast this
    have b2 : 2 ^ 200 * (B * own_O) = (2 ^ 200 * own_O) * B := by rw [Nat.mul_comm B, Nat.mul_assoc]
    rw [b2] at b1
    exact Nat.lt_of_le_of_lt b1 (Nat.mul_lt_mul_of_pos_right o2 hB)
  exact ⟨c1, c2⟩

theorem own_bounds {A B : Nat} {r : UInt64} (hB : 0 < B) {X : Rat} (hX : X * ((B : Rat) * (own_O : Rat)) = (A : Rat))
    (h : X = 0 ∨ 1 ≤ 2 ^ 200 * X) (h' : X ≤ 2 ^ 200) (hv : val64 r = roundRatio b64 false A B (-1074)) :
    own_F r ∧ (2 ^ 53 - 1) * X ≤ 2 ^ 53 * own_V r ∧ 2 ^ 53 * own_V r ≤ (2 ^ 53 + 1) * X := by
  have hO := own_Or
  have hBr : (0 : Rat) < (B : Rat) := by exact_mod_cast hB
  have o1 : (2 : Rat) ^ 200 * 2 ^ 53 ≤ (own_O : Rat) := by exact_mod_cast own_O_lo
  obtain ⟨c1, c2⟩ := own_cond hB hX h h'
  obtain ⟨c, q, g1, g2, g3⟩ := own_rr hB c1 c2 false
  rw [← hv] at g1
  have hz : zmag b64 (.fin false c q) = own_z r := by unfold own_z; rw [g1]
  rw [hz] at g2 g3
  have g2' : (2 : Rat) ^ 53 * ((own_z r : Rat) * (B : Rat)) ≤ (2 ^ 53 + 1) * (A : Rat) := by exact_mod_cast g2
  have g3' : (2 ^ 53 - 1) * (A : Rat) ≤ (2 : Rat) ^ 53 * ((own_z r : Rat) * (B : Rat)) := by
    have : ((2 ^ 53 - 1 : Nat) : Rat) * (A : Rat) ≤ (2 : Rat) ^ 53 * ((own_z r : Rat) * (B : Rat)) := by exact_mod_cast g3
    have e : ((2 ^ 53 - 1 : Nat) : Rat) = 2 ^ 53 - 1 := by grind
    rw [e] at this
    exact this
  have hV := own_V_mul r
  have hBO : (0 : Rat) < (B : Rat) * (own_O : Rat) := Rat.mul_pos hBr hO
  refine ⟨⟨c, q, g1⟩, ?_, ?_⟩
  · refine Rat.le_of_mul_le_mul_right ?_ hBO
    rw [← hX, ← hV] at g3'
    grind
  · refine Rat.le_of_mul_le_mul_right ?_ hBO
    rw [← hX, ← hV] at g2'
    grind

theorem own_cancel {x y k : Rat} (hk : 0 < k) (h : x * k = y * k) : x = y :=
  Rat.le_antisymm (Rat.le_of_mul_le_mul_right (by rw [h]; exact Rat.le_refl) hk) (Rat.le_of_mul_le_mul_right (by rw [h]; exact Rat.le_refl) hk)

theorem own_mul {a b : UInt64} (ha : own_F a) (hb : own_F b) (h : own_V a * own_V b = 0 ∨ 1 ≤ 2 ^ 200 * (own_V a * own_V b))
    (h' : own_V a * own_V b ≤ 2 ^ 200) : own_F (dmul a b) ∧ (2 ^ 53 - 1) * (own_V a * own_V b) ≤ 2 ^ 53 * own_V (dmul a b) ∧
      2 ^ 53 * own_V (dmul a b) ≤ (2 ^ 53 + 1) * (own_V a * own_V b) := by
  refine own_bounds own_O_pos ?_ h h' (own_val_mul ha hb)
  rw [Rat.natCast_mul, ← own_V_mul a, ← own_V_mul b]
  grind

theorem own_add {a b : UInt64} (ha : own_F a) (hb : own_F b) (h : own_V a + own_V b = 0 ∨ 1 ≤ 2 ^ 200 * (own_V a + own_V b))
    (h' : own_V a + own_V b ≤ 2 ^ 200) : own_F (dadd a b) ∧ (2 ^ 53 - 1) * (own_V a + own_V b) ≤ 2 ^ 53 * own_V (dadd a b) ∧
      2 ^ 53 * own_V (dadd a b) ≤ (2 ^ 53 + 1) * (own_V a + own_V b) := by
  refine own_bounds (B := 1) (by decide) ?_ h h' (own_val_add ha hb)
  rw [Rat.natCast_add, ← own_V_mul a, ← own_V_mul b]
  grind

theorem own_zpos {b : UInt64} (hb : 0 < own_V b) : 0 < own_z b := by
  have h1 := own_V_mul b
  have h2 : (0 : Rat) < (own_z b : Rat) := by rw [← h1]; exact Rat.mul_pos hb own_Or
  exact_mod_cast h2

theorem own_div {a b : UInt64} (ha : own_F a) (hb : own_F b) (hp : 0 < own_V b) (h : own_V a = 0 ∨ own_V b ≤ 2 ^ 200 * own_V a)
    (h' : own_V a ≤ 2 ^ 200 * own_V b) : own_F (ddiv a b) ∧ (2 ^ 53 - 1) * own_V a ≤ 2 ^ 53 * (own_V (ddiv a b) * own_V b) ∧
      2 ^ 53 * (own_V (ddiv a b) * own_V b) ≤ (2 ^ 53 + 1) * own_V a := by
  have e : own_V a / own_V b * own_V b = own_V a := Rat.div_mul_cancel (by grind)
  have := own_bounds (X := own_V a / own_V b) (own_zpos hp) (by
    rw [Rat.natCast_mul, ← own_V_mul a, ← own_V_mul b]
    grind) (by
    rcases h with h | h
    · left; rw [h]; grind
    · right
      refine Rat.le_of_mul_le_mul_right ?_ hp
      grind) (Rat.le_of_mul_le_mul_right (by rw [e]; exact h') hp) (own_val_div ha hb (own_zpos hp))
  obtain ⟨h1, h2, h3⟩ := this
  refine ⟨h1, ?_, ?_⟩
  · have := Rat.mul_le_mul_of_nonneg_right h2 (Rat.le_of_lt hp)
    grind
  · have := Rat.mul_le_mul_of_nonneg_right h3 (Rat.le_of_lt hp)
    grind

theorem own_z_of {r : UInt64} {n j : Nat} (hj : j ≤ 200) {c : Nat} {q : Int} (h : val64 r = .fin false c q)
    (hi : inUnits c q b64.qmin = inUnits n (-(j : Int)) b64.qmin) : own_F r ∧ own_V r * 2 ^ j = (n : Rat) := by
  refine ⟨⟨c, q, h⟩, ?_⟩
  obtain ⟨m, hm, hO⟩ := own_O_eq
  have hz : own_z r = n * 2 ^ (m - j) := by
    unfold own_z; rw [h]
    show inUnits c q b64.qmin = _
    rw [hi]; unfold inUnits
    rw [qmin_b64, show (-(j : Int) - -1074).toNat = m - j by omega]
  have e : own_z r * 2 ^ j = n * own_O := by
    rw [hz, hO, Nat.mul_assoc, ← Nat.pow_add, show m - j + j = m by omega]
  have e' : (own_z r : Rat) * 2 ^ j = (n : Rat) * (own_O : Rat) := by exact_mod_cast e
  rw [← own_V_mul r] at e'
  have hO' := own_Or
  have : (own_V r * 2 ^ j) * (own_O : Rat) = (n : Rat) * (own_O : Rat) := by rw [← e']; grind
  exact own_cancel own_Or this

theorem own_const {a : UInt64} {n j : Nat} (hj : j ≤ 200) (h : val64 a = .fin false n (-(j : Int))) :
    own_F a ∧ own_V a * 2 ^ j = (n : Rat) := own_z_of hj h rfl

theorem own_exact {A B : Nat} {r : UInt64} (hB : 0 < B) {n j : Nat} (hn : n < 2 ^ 53) (hj : j ≤ 200)
    (hX : A * 2 ^ j = n * (B * own_O)) (hv : val64 r = roundRatio b64 false A B (-1074)) :
    own_F r ∧ own_V r * 2 ^ j = (n : Rat) := by
  obtain ⟨m, hm, hO⟩ := own_O_eq
  have hA : A = n * B * 2 ^ (m - j) := by
    refine Nat.eq_of_mul_eq_mul_right (Nat.two_pow_pos j) ?_
    rw [hX, hO, Nat.mul_assoc (n * B), ← Nat.pow_add, show m - j + j = m by omega, Nat.mul_assoc]
  have e : roundRatio b64 false A B (-1074) = roundRatio b64 false n 1 (-(j : Int)) := by
    refine roundRatio_congr hB (by decide) ?_
    rw [show (-1074 - -(j : Int)).toNat = 0 by omega, show (-(j : Int) - -1074).toNat = m - j by omega, hA]
    simp
  have hq1 : b64.qmin ≤ -(j : Int) := by rw [qmin_b64]; omega
  have hq2 : -(j : Int) ≤ b64.qmax := by rw [show b64.qmax = 971 by decide]; omega
  obtain ⟨c', q', h1, h2⟩ := round_exact good_b64 false (c := n) (q := -(j : Int)) hn hq1 hq2
  have h3 : val64 r = .fin false c' q' := by rw [hv, e]; exact h1
  exact own_z_of hj h3 h2

theorem own_nat_of {x : Rat} {A n : Nat} (h : x = (A : Rat)) (h2 : x = (n : Rat)) : A = n := by
  have : (A : Rat) = (n : Rat) := by rw [← h, h2]
  exact_mod_cast this

theorem own_mul_exact {a b : UInt64} (ha : own_F a) (hb : own_F b) {n j : Nat} (hn : n < 2 ^ 53) (hj : j ≤ 200)
    (h : own_V a * own_V b * 2 ^ j = (n : Rat)) : own_F (dmul a b) ∧ own_V (dmul a b) = own_V a * own_V b := by
  have hO := own_Or
  have := own_exact own_O_pos (n := n) hn hj (by
    have : ((own_z a * own_z b * 2 ^ j : Nat) : Rat) = ((n * (own_O * own_O) : Nat) : Rat) := by
      rw [Rat.natCast_mul, Rat.natCast_mul, Rat.natCast_mul, Rat.natCast_mul, ← own_V_mul a, ← own_V_mul b, ← h]
      simp only [Rat.natCast_pow]
      grind
    exact_mod_cast this) (own_val_mul ha hb)
  refine ⟨this.1, ?_⟩
  have h2 := this.2
  rw [← h] at h2
  exact own_cancel (Rat.pow_pos (show (0 : Rat) < 2 by grind)) h2

theorem own_add_exact {a b : UInt64} (ha : own_F a) (hb : own_F b) {n j : Nat} (hn : n < 2 ^ 53) (hj : j ≤ 200)
    (h : (own_V a + own_V b) * 2 ^ j = (n : Rat)) : own_F (dadd a b) ∧ own_V (dadd a b) = own_V a + own_V b := by
  have hO := own_Or
  have := own_exact (B := 1) (by decide) (n := n) hn hj (by
    have : (((own_z a + own_z b) * 2 ^ j : Nat) : Rat) = ((n * (1 * own_O) : Nat) : Rat) := by
      rw [Rat.natCast_mul, Rat.natCast_mul, Rat.natCast_mul, Rat.natCast_add, ← own_V_mul a, ← own_V_mul b, ← h]
      simp only [Rat.natCast_pow]
      grind
    exact_mod_cast this) (own_val_add ha hb)
  refine ⟨this.1, ?_⟩
  have h2 := this.2
  rw [← h] at h2
  exact own_cancel (Rat.pow_pos (show (0 : Rat) < 2 by grind)) h2

theorem own_div_exact {a b : UInt64} (ha : own_F a) (hb : own_F b) (hp : 0 < own_V b) {n j : Nat} (hn : n < 2 ^ 53) (hj : j ≤ 200)
    (h : own_V a * 2 ^ j = (n : Rat) * own_V b) : own_F (ddiv a b) ∧ own_V (ddiv a b) * 2 ^ j = (n : Rat) := by
  have hO := own_Or
  exact own_exact (own_zpos hp) (n := n) hn hj (by
    have : ((own_z a * own_O * 2 ^ j : Nat) : Rat) = ((n * (own_z b * own_O) : Nat) : Rat) := by
      rw [Rat.natCast_mul, Rat.natCast_mul, Rat.natCast_mul, Rat.natCast_mul, ← own_V_mul a, ← own_V_mul b]
      simp only [Rat.natCast_pow]
      grind
    exact_mod_cast this) (own_val_div ha hb (own_zpos hp))

theorem own_int {n : Int32} (h : 0 ≤ n.toInt) : own_F (i2d n) ∧ own_V (i2d n) = ((n.toInt.toNat : Nat) : Rat) := by
  obtain ⟨h1, h2⟩ := own_i2d h
  refine ⟨h1, ?_⟩
  have hO := own_Or
  have := own_V_mul (i2d n)
  rw [h2, Rat.natCast_mul] at this
  exact own_cancel own_Or this

theorem own_inj {a b : UInt64} (ha : own_F a) (hb : own_F b) (h : own_V a = own_V b) : dcmp a b = some .eq := by
  have hz : own_z a = own_z b := by
    have h1 := own_V_mul a
    have h2 := own_V_mul b
    rw [h, h2] at h1
    have : (own_z b : Rat) = (own_z a : Rat) := h1
    exact (by exact_mod_cast this.symm)
  obtain ⟨c, q, h1⟩ := ha
  obtain ⟨d, r, h2⟩ := hb
  refine dcmp_eq.mpr ⟨by rw [h1]; simp, by rw [h2]; simp, ?_⟩
  unfold zval
  unfold own_z at hz
  rw [hz, h1, h2]; rfl

theorem own_lt {a b : UInt64} (ha : own_F a) (hb : own_F b) (h : own_V a < own_V b) : dcmp a b = some .lt := by
  have hz : own_z a < own_z b := by
    have h1 := own_V_mul a
    have h2 := own_V_mul b
    have h3 := Rat.mul_lt_mul_of_pos_right h own_Or
    rw [h1, h2] at h3
    exact_mod_cast h3
  obtain ⟨c, q, h1⟩ := ha
  obtain ⟨d, r, h2⟩ := hb
  refine dcmp_lt.mpr ⟨by rw [h1]; simp, by rw [h2]; simp, ?_⟩
  unfold own_z at hz
  unfold zval
  rw [h1, h2] at hz ⊢
  show ((zmag b64 (.fin false c q) : Nat) : Int) < ((zmag b64 (.fin false d r) : Nat) : Int)
  omega

theorem own_gt {a b : UInt64} (ha : own_F a) (hb : own_F b) (h : own_V b < own_V a) : dcmp a b = some .gt := by
  have := own_lt hb ha h
  rw [dcmp_lt] at this
  exact dcmp_gt.mpr ⟨this.2.1, this.1, this.2.2⟩

theorem own_c14 : own_F 4608983858650965606 ∧ own_V 4608983858650965606 = 6305039478318694 / 2 ^ 52 := by
  obtain ⟨h1, h2⟩ := own_const (a := 4608983858650965606) (n := 6305039478318694) (j := 52) (by decide) (by decide +kernel)
  exact ⟨h1, by grind⟩
theorem own_c25 : own_F 4598175219545276416 ∧ own_V 4598175219545276416 = 1 / 4 := by
  obtain ⟨h1, h2⟩ := own_const (a := 4598175219545276416) (n := 2 ^ 52) (j := 54) (by decide) (by decide +kernel)
  exact ⟨h1, by grind⟩
theorem own_c75 : own_F 4604930618986332160 ∧ own_V 4604930618986332160 = 3 / 4 := by
  obtain ⟨h1, h2⟩ := own_const (a := 4604930618986332160) (n := 3 * 2 ^ 51) (j := 53) (by decide) (by decide +kernel)
  exact ⟨h1, by grind⟩
theorem own_c24 : own_F 4612586738352862003 ∧ own_V 4612586738352862003 = 5404319552844595 / 2 ^ 51 := by
  obtain ⟨h1, h2⟩ := own_const (a := 4612586738352862003) (n := 5404319552844595) (j := 51) (by decide) (by decide +kernel)
  exact ⟨h1, by grind⟩
theorem own_c1 : own_F Jvm.FP.dconst1 ∧ own_V Jvm.FP.dconst1 = 1 := by
  obtain ⟨h1, h2⟩ := own_const (a := Jvm.FP.dconst1) (n := 2 ^ 52) (j := 52) (by decide) (by decide +kernel)
  exact ⟨h1, by grind⟩
theorem own_c0 : own_F Jvm.FP.dconst0 ∧ own_V Jvm.FP.dconst0 = 0 := by
  have h : own_F Jvm.FP.dconst0 := ⟨0, b64.qmin, by decide +kernel⟩
  refine ⟨h, ?_⟩
  have := own_V_mul Jvm.FP.dconst0
  have hz : own_z Jvm.FP.dconst0 = 0 := by unfold own_z; rw [show val64 Jvm.FP.dconst0 = .fin false 0 b64.qmin by decide +kernel]; simp [zmag, inUnits]
  rw [hz] at this
  exact own_cancel own_Or (by rw [this, Rat.zero_mul]; rfl)

def own_norm (avg : UInt64) (len : Int32) : UInt64 :=
  dmul 4608983858650965606 (dadd 4598175219545276416 (ddiv (dmul 4604930618986332160 (i2d len)) avg))
def own_gain (t avg : UInt64) (f len : Int32) : UInt64 :=
  ddiv (dmul (dmul t 4612586738352862003) (i2d f)) (dadd (own_norm avg len) (i2d f))

theorem own_ll {len : Int32} : ((len.toInt.toNat : Nat) : Rat) ≤ 2 ^ 31 := by
  have := len.toInt_lt
  have h : len.toInt.toNat ≤ 2 ^ 31 := by omega
  exact_mod_cast h
theorem own_l0 {n : Nat} : (0 : Rat) ≤ (n : Rat) := by exact_mod_cast Nat.zero_le n
theorem own_l1 {n : Nat} : (n : Rat) = 0 ∨ 1 ≤ (n : Rat) := by
  rcases Nat.eq_zero_or_pos n with h | h
  · left; rw [h]; rfl
  · right; exact_mod_cast h

theorem own_75 {len : Int32} (hl : 0 ≤ len.toInt) : own_F (dmul 4604930618986332160 (i2d len)) ∧
    own_V (dmul 4604930618986332160 (i2d len)) = 3 / 4 * ((len.toInt.toNat : Nat) : Rat) := by
  obtain ⟨a1, a2⟩ := own_c75
  obtain ⟨b1, b2⟩ := own_int hl
  have := own_mul_exact a1 b1 (n := 3 * len.toInt.toNat) (j := 2) (by have := len.toInt_lt; omega) (by decide) (by
    rw [a2, b2, Rat.natCast_mul]; grind)
  rw [a2, b2] at this
  exact this

theorem own_xb {avg : UInt64} {len : Int32} (ha : own_F avg) (h1 : 1 ≤ own_V avg) (h2 : own_V avg ≤ 2 ^ 31) (hl : 0 ≤ len.toInt) :
    own_F (ddiv (dmul 4604930618986332160 (i2d len)) avg) ∧
    (2 ^ 53 - 1) * (3 / 4 * ((len.toInt.toNat : Nat) : Rat)) ≤ 2 ^ 53 * (own_V (ddiv (dmul 4604930618986332160 (i2d len)) avg) * own_V avg) ∧
    2 ^ 53 * (own_V (ddiv (dmul 4604930618986332160 (i2d len)) avg) * own_V avg) ≤ (2 ^ 53 + 1) * (3 / 4 * ((len.toInt.toNat : Nat) : Rat)) ∧
    own_V (ddiv (dmul 4604930618986332160 (i2d len)) avg) ≤ 2 ^ 32 := by
  obtain ⟨a1, a2⟩ := own_75 hl
  have l0 := own_l1 (n := len.toInt.toNat)
  have l1 := own_ll (len := len)
  generalize dmul 4604930618986332160 (i2d len) = m at *
  have := own_div a1 ha (by grind) (by rw [a2]; grind) (by rw [a2]; grind)
  rw [a2] at this
  refine ⟨this.1, this.2.1, this.2.2, ?_⟩
  have h3 := this.2.2
  have h4 := own_V_nonneg (ddiv m avg)
  have h5 := Rat.mul_le_mul_of_nonneg_left h1 h4
  grind

theorem own_nb {avg : UInt64} {len : Int32} (ha : own_F avg) (h1 : 1 ≤ own_V avg) (h2 : own_V avg ≤ 2 ^ 31) (hl : 0 ≤ len.toInt) :
    own_F (own_norm avg len) ∧ ∃ x : Rat, 0 ≤ x ∧ x ≤ 2 ^ 32 ∧
    (2 ^ 53 - 1) * (3 / 4 * ((len.toInt.toNat : Nat) : Rat)) ≤ 2 ^ 53 * (x * own_V avg) ∧
    2 ^ 53 * (x * own_V avg) ≤ (2 ^ 53 + 1) * (3 / 4 * ((len.toInt.toNat : Nat) : Rat)) ∧
    6305039478318694 / 2 ^ 52 * (2 ^ 53 - 1) ^ 2 * (1 / 4 + x) ≤ 2 ^ 106 * own_V (own_norm avg len) ∧
    2 ^ 106 * own_V (own_norm avg len) ≤ 6305039478318694 / 2 ^ 52 * (2 ^ 53 + 1) ^ 2 * (1 / 4 + x) ∧
    1 / 4 ≤ own_V (own_norm avg len) ∧ own_V (own_norm avg len) ≤ 2 ^ 35 := by
  obtain ⟨f1, x1, x2, x3⟩ := own_xb ha h1 h2 hl
  have x0 := own_V_nonneg (ddiv (dmul 4604930618986332160 (i2d len)) avg)
  obtain ⟨a1, a2⟩ := own_c25
  obtain ⟨b1, b2⟩ := own_c14
  unfold own_norm
  generalize ddiv (dmul 4604930618986332160 (i2d len)) avg = X at *
  obtain ⟨g1, g2, g3⟩ := own_add a1 f1 (by rw [a2]; grind) (by rw [a2]; grind)
  rw [a2] at g2 g3
  generalize dadd 4598175219545276416 X = Y at *
  obtain ⟨n1, n2, n3⟩ := own_mul b1 g1 (by rw [b2]; grind) (by rw [b2]; grind)
  rw [b2] at n2 n3
  generalize dmul 4608983858650965606 Y = N at *
  refine ⟨n1, own_V X, x0, x3, x1, x2, ?_, ?_, ?_, ?_⟩
  · grind
  · grind
  · grind
  · grind

theorem own_mle {x y X Y : Rat} (hx : 0 ≤ x) (hy : 0 ≤ y) (h1 : x ≤ X) (h2 : y ≤ Y) : x * y ≤ X * Y := by
  have a := Rat.mul_le_mul_of_nonneg_right h1 hy
  have b := Rat.mul_le_mul_of_nonneg_left h2 (Rat.le_trans hx h1)
  exact Rat.le_trans a b
theorem own_mge {x y X Y : Rat} (hx : 0 ≤ X) (hy : 0 ≤ Y) (h1 : X ≤ x) (h2 : Y ≤ y) : X * Y ≤ x * y :=
  own_mle hx hy h1 h2

theorem own_pb {t : UInt64} (ht : own_F t) (h1 : 1 ≤ own_V t) (h2 : own_V t ≤ 2 ^ 20) : own_F (dmul t 4612586738352862003) ∧
    1 ≤ own_V (dmul t 4612586738352862003) ∧ own_V (dmul t 4612586738352862003) ≤ 2 ^ 22 := by
  obtain ⟨a1, a2⟩ := own_c24
  obtain ⟨g1, g2, g3⟩ := own_mul ht a1 (by rw [a2]; grind) (by rw [a2]; grind)
  rw [a2] at g2 g3
  generalize dmul t 4612586738352862003 = P at *
  exact ⟨g1, by grind, by grind⟩

theorem own_gb {t avg : UInt64} {f len : Int32} (ht : own_F t) (t1 : 1 ≤ own_V t) (t2 : own_V t ≤ 2 ^ 20)
    (ha : own_F avg) (h1 : 1 ≤ own_V avg) (h2 : own_V avg ≤ 2 ^ 31) (hl : 0 ≤ len.toInt) (hf : 0 ≤ f.toInt) :
    own_F (own_gain t avg f len) ∧ ∃ Q D : Rat, 0 ≤ Q ∧ 1 / 8 ≤ D ∧
      (2 ^ 53 - 1) * (own_V (dmul t 4612586738352862003) * ((f.toInt.toNat : Nat) : Rat)) ≤ 2 ^ 53 * Q ∧
      2 ^ 53 * Q ≤ (2 ^ 53 + 1) * (own_V (dmul t 4612586738352862003) * ((f.toInt.toNat : Nat) : Rat)) ∧
      (2 ^ 53 - 1) * (own_V (own_norm avg len) + ((f.toInt.toNat : Nat) : Rat)) ≤ 2 ^ 53 * D ∧
      2 ^ 53 * D ≤ (2 ^ 53 + 1) * (own_V (own_norm avg len) + ((f.toInt.toNat : Nat) : Rat)) ∧
      (2 ^ 53 - 1) * Q ≤ 2 ^ 53 * (own_V (own_gain t avg f len) * D) ∧
      2 ^ 53 * (own_V (own_gain t avg f len) * D) ≤ (2 ^ 53 + 1) * Q := by
  obtain ⟨p1, p2, p3⟩ := own_pb ht t1 t2
  obtain ⟨n1, x, -, -, -, -, -, -, n2, n3⟩ := own_nb ha h1 h2 hl
  obtain ⟨i1, i2⟩ := own_int hf
  have l0 := own_l1 (n := f.toInt.toNat)
  have l1 := own_ll (len := f)
  unfold own_gain
  generalize dmul t 4612586738352862003 = P at *
  generalize own_norm avg len = N at *
  generalize i2d f = I at *
  generalize ((f.toInt.toNat : Nat) : Rat) = F at *
  have pf : own_V P * F = 0 ∨ 1 ≤ own_V P * F := by
    rcases l0 with h | h
    · left; rw [h, Rat.mul_zero]
    · right
      have := own_mge (x := own_V P) (y := F) (X := 1) (Y := 1) (by grind) (by grind) p2 h
      grind
  have pf2 : own_V P * F ≤ 2 ^ 22 * 2 ^ 31 := own_mle (by grind) (by grind) p3 l1
  obtain ⟨q1, q2, q3⟩ := own_mul p1 i1 (by rw [i2]; grind) (by rw [i2]; grind)
  rw [i2] at q2 q3
  generalize dmul P I = Q at *
  obtain ⟨d1, d2, d3⟩ := own_add n1 i1 (by rw [i2]; grind) (by rw [i2]; grind)
  rw [i2] at d2 d3
  generalize dadd N I = D at *
  have q0 := own_V_nonneg Q
  have d0 : 1 / 8 ≤ own_V D := by grind
  obtain ⟨g1, g2, g3⟩ := own_div q1 d1 (by grind) (by
    rcases pf with h | h
    · left; grind
    · right; grind) (by grind)
  exact ⟨g1, own_V Q, own_V D, q0, d0, q2, q3, d2, d3, g2, g3⟩

/-- f = 0 -/
theorem own_law0 {t avg : UInt64} {f len : Int32} (ht : own_F t) (t1 : 1 ≤ own_V t) (t2 : own_V t ≤ 2 ^ 20)
    (ha : own_F avg) (h1 : 1 ≤ own_V avg) (h2 : own_V avg ≤ 2 ^ 31) (hl : 0 ≤ len.toInt) (hf : f.toInt = 0) :
    own_F (own_gain t avg f len) ∧ own_V (own_gain t avg f len) = 0 := by
  obtain ⟨g0, Q, D, q0, d0, q1, q2, d1, d2, g1, g2⟩ := own_gb (f := f) ht t1 t2 ha h1 h2 hl (by omega)
  refine ⟨g0, ?_⟩
  rw [hf] at q1 q2
  have gn := own_V_nonneg (own_gain t avg f len)
  generalize own_V (own_gain t avg f len) = g at *
  have z : ((((0 : Int).toNat : Nat)) : Rat) = 0 := rfl
  rw [z, Rat.mul_zero, Rat.mul_zero] at q2
  have : g * D ≤ 0 := by grind
  have : g * (1 / 8) ≤ g * D := Rat.mul_le_mul_of_nonneg_left d0 gn
  grind

theorem own_law1 {t avg : UInt64} {f len : Int32} (ht : own_F t) (t1 : 1 ≤ own_V t) (t2 : own_V t ≤ 2 ^ 20)
    (ha : own_F avg) (h1 : 1 ≤ own_V avg) (h2 : own_V avg ≤ 2 ^ 31) (hl : 0 ≤ len.toInt) (hf : 0 < f.toInt) :
    own_F (own_gain t avg f len) ∧ 0 < own_V (own_gain t avg f len) ∧ own_V (own_gain t avg f len) < own_V (dmul t 4612586738352862003) := by
  obtain ⟨g0, Q, D, q0, d0, q1, q2, d1, d2, g1, g2⟩ := own_gb (f := f) ht t1 t2 ha h1 h2 hl (by omega)
  refine ⟨g0, ?_⟩
  obtain ⟨p1, p2, p3⟩ := own_pb ht t1 t2
  obtain ⟨n1, x, -, -, -, -, -, -, n2, n3⟩ := own_nb ha h1 h2 hl
  have gn := own_V_nonneg (own_gain t avg f len)
  have l1 := own_ll (len := f)
  have l0 : (1 : Rat) ≤ ((f.toInt.toNat : Nat) : Rat) := by
    have : 1 ≤ f.toInt.toNat := by omega
    exact_mod_cast this
  generalize own_V (own_gain t avg f len) = g at *
  generalize own_V (dmul t 4612586738352862003) = P at *
  generalize own_V (own_norm avg len) = N at *
  generalize ((f.toInt.toNat : Nat) : Rat) = F at *
  have pf : 1 ≤ P * F := by
    have := own_mge (x := P) (y := F) (X := 1) (Y := 1) (by grind) (by grind) p2 l0
    grind
  constructor
  · have hne : g ≠ 0 := by
      rintro rfl
      rw [Rat.zero_mul] at g1
      grind
    grind
  · refine Rat.not_le.mp fun hc => ?_
    have a1 : P * D ≤ g * D := Rat.mul_le_mul_of_nonneg_right hc (by grind)
    have a2 : 2 ^ 53 * 2 ^ 53 * (P * D) ≤ (2 ^ 53 + 1) ^ 2 * (P * F) := by grind
    have a3 : P * ((2 ^ 53 - 1) * (N + F)) ≤ P * (2 ^ 53 * D) := Rat.mul_le_mul_of_nonneg_left d1 (by grind)
    have a4 : (2 ^ 53 * (2 ^ 53 - 1) * (N + F)) * P ≤ ((2 ^ 53 + 1) ^ 2 * F) * P := by grind
    have a5 := Rat.le_of_mul_le_mul_right a4 (by grind)
    grind

theorem own_succ {f f' : Int32} (h : f'.toInt = f.toInt + 1) (hf : 0 ≤ f.toInt) :
    ((f'.toInt.toNat : Nat) : Rat) = ((f.toInt.toNat : Nat) : Rat) + 1 := by
  have : f'.toInt.toNat = f.toInt.toNat + 1 := by omega
  rw [this]; grind
theorem own_l16 {f : Int32} (h : f.toInt ≤ 65535) : ((f.toInt.toNat : Nat) : Rat) ≤ 65535 := by
  have : f.toInt.toNat ≤ 65535 := by omega
  exact_mod_cast this

theorem own_law2 {t avg : UInt64} {f f' len : Int32} (ht : own_F t) (t1 : 1 ≤ own_V t) (t2 : own_V t ≤ 2 ^ 20)
    (ha : own_F avg) (h1 : 1 ≤ own_V avg) (h2 : own_V avg ≤ 2 ^ 31) (hl : 0 ≤ len.toInt) (hf : 0 ≤ f.toInt) (hf2 : f.toInt ≤ 65535)
    (hs : f'.toInt = f.toInt + 1) : own_V (own_gain t avg f len) < own_V (own_gain t avg f' len) := by
  obtain ⟨g0, Q, D, q0, d0, q1, q2, d1, d2, g1, g2⟩ := own_gb (f := f) ht t1 t2 ha h1 h2 hl hf
  obtain ⟨g0', Q', D', q0', d0', q1', q2', d1', d2', g1', g2'⟩ := own_gb (f := f') ht t1 t2 ha h1 h2 hl (by omega)
  obtain ⟨p1, p2, p3⟩ := own_pb ht t1 t2
  obtain ⟨n1, x, -, -, -, -, -, -, n2, n3⟩ := own_nb ha h1 h2 hl
  have gn := own_V_nonneg (own_gain t avg f len)
  have l1 := own_l16 hf2
  have l0 := own_l0 (n := f.toInt.toNat)
  rw [own_succ hs hf] at q1' q2' d1' d2'
  generalize own_V (own_gain t avg f len) = g at *
  generalize own_V (own_gain t avg f' len) = g' at *
  generalize own_V (dmul t 4612586738352862003) = P at *
  generalize own_V (own_norm avg len) = N at *
  generalize ((f.toInt.toNat : Nat) : Rat) = F at *
  refine Rat.not_le.mp fun hc => ?_
  -- Q'(W-1) ≤ W g' D' ≤ W g D'
  have a1 : g' * D' ≤ g * D' := Rat.mul_le_mul_of_nonneg_right hc (by grind)
  have a2 : (2 ^ 53 - 1) * Q' ≤ 2 ^ 53 * (g * D') := by grind
  have a3 : ((2 ^ 53 - 1) * Q') * D ≤ (2 ^ 53 * (g * D')) * D := Rat.mul_le_mul_of_nonneg_right a2 (by grind)
  have a4 : (2 ^ 53 * (g * D)) * D' ≤ ((2 ^ 53 + 1) * Q) * D' := Rat.mul_le_mul_of_nonneg_right g2 (by grind)
  have a5 : (2 ^ 53 - 1) * (Q' * D) ≤ (2 ^ 53 + 1) * (Q * D') := by grind
  have a6 : ((2 ^ 53 - 1) * (P * (F + 1))) * D ≤ (2 ^ 53 * Q') * D := Rat.mul_le_mul_of_nonneg_right q1' (by grind)
  have a7 : (2 ^ 53 * Q) * D' ≤ ((2 ^ 53 + 1) * (P * F)) * D' := Rat.mul_le_mul_of_nonneg_right q2 (by grind)
  have a8 : ((2 ^ 53 - 1) ^ 2 * ((F + 1) * D)) * P ≤ ((2 ^ 53 + 1) ^ 2 * (F * D')) * P := by grind
  have a9 := Rat.le_of_mul_le_mul_right a8 (by grind)
  have b1 : (F + 1) * ((2 ^ 53 - 1) * (N + F)) ≤ (F + 1) * (2 ^ 53 * D) := Rat.mul_le_mul_of_nonneg_left d1 (by grind)
  have b2 : F * (2 ^ 53 * D') ≤ F * ((2 ^ 53 + 1) * (N + (F + 1))) := Rat.mul_le_mul_of_nonneg_left d2' l0
  have b3 : (2 ^ 53 - 1) ^ 3 * ((F + 1) * (N + F)) ≤ (2 ^ 53 + 1) ^ 3 * (F * (N + (F + 1))) := by grind
  have b4 : F * N ≤ 65535 * N := Rat.mul_le_mul_of_nonneg_right l1 (by grind)
  have b5 : F * F ≤ 65535 * F := Rat.mul_le_mul_of_nonneg_right l1 l0
  have b6 : 0 ≤ F * N := Rat.mul_nonneg l0 (by grind)
  have b7 : 0 ≤ F * F := Rat.mul_nonneg l0 l0
  grind

theorem own_law3 {t avg : UInt64} {f len len' : Int32} (ht : own_F t) (t1 : 1 ≤ own_V t) (t2 : own_V t ≤ 2 ^ 20)
    (ha : own_F avg) (h1 : 1 ≤ own_V avg) (h2 : own_V avg ≤ 65536) (hl : 0 ≤ len.toInt) (hl2 : len.toInt ≤ 65535) (hf : 0 < f.toInt) (hf2 : f.toInt ≤ 65536)
    (hs : len'.toInt = len.toInt + 1) : own_V (own_gain t avg f len') < own_V (own_gain t avg f len) := by
  obtain ⟨g0, Q, D, q0, d0, q1, q2, d1, d2, g1, g2⟩ := own_gb (f := f) ht t1 t2 ha h1 (by grind) hl (by omega)
  obtain ⟨g0', Q', D', q0', d0', q1', q2', d1', d2', g1', g2'⟩ := own_gb (f := f) (len := len') ht t1 t2 ha h1 (by grind) (by omega) (by omega)
  obtain ⟨p1, p2, p3⟩ := own_pb ht t1 t2
  obtain ⟨n1, x, x0, x1, x2, x3, x4, x5, n2, n3⟩ := own_nb ha h1 (by grind) hl
  obtain ⟨n1', x', x0', x1', x2', x3', x4', x5', n2', n3'⟩ := own_nb (len := len') ha h1 (by grind) (by omega)
  have gn := own_V_nonneg (own_gain t avg f len)
  have gn' := own_V_nonneg (own_gain t avg f len')
  have l1 := own_l16 hl2
  have l0 := own_l0 (n := len.toInt.toNat)
  have f0 : (1 : Rat) ≤ ((f.toInt.toNat : Nat) : Rat) := by
    have : 1 ≤ f.toInt.toNat := by omega
    exact_mod_cast this
  have f1 : ((f.toInt.toNat : Nat) : Rat) ≤ 65536 := by
    have : f.toInt.toNat ≤ 65536 := by omega
    exact_mod_cast this
  rw [own_succ hs hl] at x2' x3'
  generalize own_V (own_gain t avg f len) = g at *
  generalize own_V (own_gain t avg f len') = g' at *
  generalize own_V (dmul t 4612586738352862003) = P at *
  generalize own_V (own_norm avg len) = N at *
  generalize own_V (own_norm avg len') = N' at *
  generalize ((f.toInt.toNat : Nat) : Rat) = F at *
  generalize ((len.toInt.toNat : Nat) : Rat) = L at *
  generalize own_V avg = a at *
  refine Rat.not_le.mp fun hc => ?_
  -- g ≤ g'
  have a1 : g * D ≤ g' * D := Rat.mul_le_mul_of_nonneg_right hc (by grind)
  have a2 : (2 ^ 53 - 1) * Q ≤ 2 ^ 53 * (g' * D) := by grind
  have a3 : ((2 ^ 53 - 1) * Q) * D' ≤ (2 ^ 53 * (g' * D)) * D' := Rat.mul_le_mul_of_nonneg_right a2 (by grind)
  have a4 : (2 ^ 53 * (g' * D')) * D ≤ ((2 ^ 53 + 1) * Q') * D := Rat.mul_le_mul_of_nonneg_right g2' (by grind)
  have a5 : (2 ^ 53 - 1) * (Q * D') ≤ (2 ^ 53 + 1) * (Q' * D) := by grind
  have a6 : ((2 ^ 53 - 1) * (P * F)) * D' ≤ (2 ^ 53 * Q) * D' := Rat.mul_le_mul_of_nonneg_right q1 (by grind)
  have a7 : (2 ^ 53 * Q') * D ≤ ((2 ^ 53 + 1) * (P * F)) * D := Rat.mul_le_mul_of_nonneg_right q2' (by grind)
  have pf : 0 < P * F := Rat.mul_pos (by grind) (by grind)
  have a8 : ((2 ^ 53 - 1) ^ 2 * D') * (P * F) ≤ ((2 ^ 53 + 1) ^ 2 * D) * (P * F) := by grind
  have a9 := Rat.le_of_mul_le_mul_right a8 pf
  have b1 : (2 ^ 53 - 1) ^ 3 * (N' + F) ≤ (2 ^ 53 + 1) ^ 3 * (N + F) := by grind
  have b2 : ((2 ^ 53 - 1) ^ 3 * (N' + F)) * a ≤ ((2 ^ 53 + 1) ^ 3 * (N + F)) * a := Rat.mul_le_mul_of_nonneg_right b1 (by grind)
  have b3 : (6305039478318694 / 2 ^ 52 * (2 ^ 53 - 1) ^ 2 * (1 / 4 + x')) * a ≤ (2 ^ 106 * N') * a := Rat.mul_le_mul_of_nonneg_right x4' (by grind)
  have b4 : (2 ^ 106 * N) * a ≤ (6305039478318694 / 2 ^ 52 * (2 ^ 53 + 1) ^ 2 * (1 / 4 + x)) * a := Rat.mul_le_mul_of_nonneg_right x5 (by grind)
  have b5 : F * a ≤ 65536 * 65536 := own_mle (by grind) (by grind) f1 h2
  have b6 : 0 ≤ F * a := Rat.mul_nonneg (by grind) (by grind)
  generalize hx : x * a = xa at *
  generalize hx' : x' * a = xa' at *
  generalize hna : N * a = na at *
  generalize hna' : N' * a = na' at *
  generalize hfa : F * a = fa at *
  have c2 : (2 ^ 53 - 1) ^ 3 * (na' + fa) ≤ (2 ^ 53 + 1) ^ 3 * (na + fa) := by grind
  have c3 : 6305039478318694 / 2 ^ 52 * (2 ^ 53 - 1) ^ 2 * (a / 4 + xa') ≤ 2 ^ 106 * na' := by grind
  have c4 : 2 ^ 106 * na ≤ 6305039478318694 / 2 ^ 52 * (2 ^ 53 + 1) ^ 2 * (a / 4 + xa) := by grind
  clear b2 b3 b4 a1 a2 a3 a4 a5 a6 a7 a8 a9 b1 hx hx' hna hna' hfa g1 g2 g1' g2' q1 q2 q1' q2' d1 d2 d1' d2' x4 x5 x4' x5'
  grind

theorem own_normK {ai : Int32} (h : 0 < ai.toInt) : own_F (own_norm (i2d ai) ai) ∧ own_V (own_norm (i2d ai) ai) = 6305039478318694 / 2 ^ 52 := by
  obtain ⟨i1, i2⟩ := own_int (n := ai) (by omega)
  obtain ⟨m1, m2⟩ := own_75 (len := ai) (by omega)
  have l0 : (1 : Rat) ≤ ((ai.toInt.toNat : Nat) : Rat) := by
    have : 1 ≤ ai.toInt.toNat := by omega
    exact_mod_cast this
  obtain ⟨x1, x2⟩ := own_div_exact m1 i1 (by rw [i2]; grind) (n := 3) (j := 2) (by decide) (by decide) (by rw [m2, i2]; grind)
  have x3 : own_V (ddiv (dmul 4604930618986332160 (i2d ai)) (i2d ai)) = 3 / 4 := by grind
  obtain ⟨a1, a2⟩ := own_c25
  obtain ⟨y1, y2⟩ := own_add_exact a1 x1 (n := 1) (j := 0) (by decide) (by decide) (by rw [a2, x3]; grind)
  rw [a2, x3] at y2
  obtain ⟨b1, b2⟩ := own_c14
  obtain ⟨z1, z2⟩ := own_mul_exact b1 y1 (n := 6305039478318694) (j := 52) (by decide) (by decide) (by rw [b2, y2]; grind)
  rw [b2, y2] at z2
  exact ⟨z1, by unfold own_norm; rw [z2]; grind⟩

theorem own_norm0 {avg : UInt64} (ha : own_F avg) (h1 : 1 ≤ own_V avg) :
    own_F (own_norm avg 0) ∧ own_V (own_norm avg 0) = 6305039478318694 / 2 ^ 54 := by
  obtain ⟨m1, m2⟩ := own_75 (len := 0) (by decide)
  have z : ((((0 : Int32).toInt.toNat : Nat)) : Rat) = 0 := rfl
  rw [z, Rat.mul_zero] at m2
  obtain ⟨x1, x2⟩ := own_div_exact m1 ha (by grind) (n := 0) (j := 0) (by decide) (by decide) (by rw [m2]; grind)
  have x3 : own_V (ddiv (dmul 4604930618986332160 (i2d 0)) avg) = 0 := by grind
  obtain ⟨a1, a2⟩ := own_c25
  obtain ⟨y1, y2⟩ := own_add_exact a1 x1 (n := 1) (j := 2) (by decide) (by decide) (by rw [a2, x3]; grind)
  rw [a2, x3] at y2
  obtain ⟨b1, b2⟩ := own_c14
  obtain ⟨z1, z2⟩ := own_mul_exact b1 y1 (n := 6305039478318694) (j := 54) (by decide) (by decide) (by rw [b2, y2]; grind)
  rw [b2, y2] at z2
  exact ⟨z1, by unfold own_norm; rw [z2]; grind⟩

theorem own_law4 {ai : Int32} (h : 0 < ai.toInt) : own_F (own_gain Jvm.FP.dconst1 (i2d ai) 1 ai) ∧ own_V (own_gain Jvm.FP.dconst1 (i2d ai) 1 ai) = 1 := by
  obtain ⟨n1, n2⟩ := own_normK h
  obtain ⟨o1, o2⟩ := own_c1
  obtain ⟨m1, m2⟩ := own_c24
  obtain ⟨i1, i2⟩ := own_int (n := 1) (by decide)
  have z : ((((1 : Int32).toInt.toNat : Nat)) : Rat) = 1 := rfl
  rw [z] at i2
  obtain ⟨p1, p2⟩ := own_mul_exact o1 m1 (n := 5404319552844595) (j := 51) (by decide) (by decide) (by rw [o2, m2]; grind)
  rw [o2, m2] at p2
  obtain ⟨q1, q2⟩ := own_mul_exact p1 i1 (n := 5404319552844595) (j := 51) (by decide) (by decide) (by rw [p2, i2]; grind)
  rw [p2, i2] at q2
  obtain ⟨d1, d2⟩ := own_add_exact n1 i1 (n := 5404319552844595) (j := 51) (by decide) (by decide) (by rw [n2, i2]; grind)
  rw [n2, i2] at d2
  obtain ⟨g1, g2⟩ := own_div_exact q1 d1 (by rw [d2]; grind) (n := 1) (j := 0) (by decide) (by decide) (by rw [q2, d2]; grind)
  exact ⟨g1, by unfold own_gain; grind⟩

theorem own_z_of_V {a b : UInt64} (h : own_V b = 4 * own_V a) : own_z b = 4 * own_z a := by
  have h1 := own_V_mul a
  have h2 := own_V_mul b
  have : (own_z b : Rat) = 4 * (own_z a : Rat) := by rw [← h1, ← h2, h]; grind
  exact_mod_cast this

theorem own_law5 {t : UInt64} {ai f f4 : Int32} (ht : own_F t) (t1 : 1 ≤ own_V t) (t2 : own_V t ≤ 2 ^ 20) (h : 0 < ai.toInt)
    (hf : 0 ≤ f.toInt) (h4 : f4.toInt = 4 * f.toInt) :
    dcmp (own_gain t (i2d ai) f 0) (own_gain t (i2d ai) f4 ai) = some .eq := by
  obtain ⟨a1, a2⟩ := own_int (n := ai) (by omega)
  have al : (1 : Rat) ≤ own_V (i2d ai) := by
    rw [a2]
    have : 1 ≤ ai.toInt.toNat := by omega
    exact_mod_cast this
  have al2 : own_V (i2d ai) ≤ 2 ^ 31 := by rw [a2]; exact own_ll
  by_cases hz : f.toInt = 0
  · obtain ⟨x1, x2⟩ := own_law0 (f := f) (len := 0) ht t1 t2 a1 al al2 (by decide) hz
    obtain ⟨y1, y2⟩ := own_law0 (f := f4) (len := ai) ht t1 t2 a1 al al2 (by omega) (by omega)
    exact own_inj x1 y1 (by rw [x2, y2])
  · obtain ⟨g0, _⟩ := own_gb (f := f) (len := 0) ht t1 t2 a1 al al2 (by decide) hf
    obtain ⟨g4, _⟩ := own_gb (f := f4) (len := ai) ht t1 t2 a1 al al2 (by omega) (by omega)
    refine own_inj g0 g4 ?_
    have hv : val64 (own_gain t (i2d ai) f 0) = val64 (own_gain t (i2d ai) f4 ai) := by
      obtain ⟨n1, n2⟩ := own_norm0 a1 al
      obtain ⟨k1, k2⟩ := own_normK h
      obtain ⟨p1, p2, p3⟩ := own_pb ht t1 t2
      obtain ⟨i1, i2⟩ := own_int hf
      obtain ⟨j1, j2⟩ := own_int (n := f4) (by omega)
      have e4 : own_V (i2d f4) = 4 * own_V (i2d f) := by
        rw [i2, j2]
        have : f4.toInt.toNat = 4 * f.toInt.toNat := by omega
        rw [this]; grind
      have l0 : (1 : Rat) ≤ own_V (i2d f) := by
        rw [i2]
        have : 1 ≤ f.toInt.toNat := by omega
        exact_mod_cast this
      have l1 : own_V (i2d f) ≤ 2 ^ 31 := by rw [i2]; exact own_ll
      have z4 := own_z_of_V e4
      have zk := own_z_of_V (a := own_norm (i2d ai) 0) (b := own_norm (i2d ai) ai) (by rw [n2, k2]; grind)
      unfold own_gain
      rw [val64_ddiv, val64_ddiv, own_val_mul p1 i1, own_val_mul p1 j1, own_val_add n1 i1, own_val_add k1 j1, z4, zk]
      generalize own_norm (i2d ai) 0 = N at *
      generalize dmul t 4612586738352862003 = P at *
      generalize i2d f = I at *
      have pf : 1 ≤ own_V P * own_V I := by
        have := own_mge (x := own_V P) (y := own_V I) (X := 1) (Y := 1) (by grind) (by grind) p2 l0
        grind
      have pf2 : own_V P * own_V I ≤ 2 ^ 22 * 2 ^ 31 := own_mle (by grind) (by grind) p3 l1
      obtain ⟨c1, c2⟩ := own_cond (A := own_z P * own_z I) (X := own_V P * own_V I) own_O_pos (by
        rw [Rat.natCast_mul, ← own_V_mul P, ← own_V_mul I]; grind) (by grind) (by grind)
      obtain ⟨c3, c4⟩ := own_cond (A := own_z N + own_z I) (B := 1) (X := own_V N + own_V I) (by decide) (by
        rw [Rat.natCast_add, ← own_V_mul N, ← own_V_mul I]; grind) (by right; rw [n2]; grind) (by rw [n2]; grind)
      have np := own_zpos (b := P) (by grind)
      have ni := own_zpos (b := I) (by grind)
      have npi := Nat.mul_pos np ni
      rw [show own_z P * (4 * own_z I) = 4 * (own_z P * own_z I) by ac_rfl, show 4 * own_z N + 4 * own_z I = 4 * (own_z N + own_z I) by omega]
      rcases own_rr_scale own_O_pos c1 c2 false with ⟨h0, _, _⟩ | ⟨c, q, s1, s2⟩
      · omega
      rcases own_rr_scale (by decide) c3 c4 false with ⟨h0, _, _⟩ | ⟨d, r, s3, s4⟩
      · omega
      rw [s1, s2, s3, s4]
      simp only [quotient]
      rw [show q + 2 - (r + 2) = q - r by omega]
    unfold own_V own_z
    rw [hv]

theorem own_nn {a : UInt64} (h : own_F a) : NoNaN64 a := val64_no.mpr (by obtain ⟨c, q, h⟩ := h; rw [h]; simp)

def own_ok (t avg : UInt64) (f len : Int32) : Prop :=
  NoNaN64 (dmul 4604930618986332160 (i2d len)) ∧ NoNaN64 (ddiv (dmul 4604930618986332160 (i2d len)) avg) ∧
  NoNaN64 (dadd 4598175219545276416 (ddiv (dmul 4604930618986332160 (i2d len)) avg)) ∧ NoNaN64 (own_norm avg len) ∧
  NoNaN64 (dmul t 4612586738352862003) ∧ NoNaN64 (dmul (dmul t 4612586738352862003) (i2d f)) ∧
  NoNaN64 (dadd (own_norm avg len) (i2d f)) ∧ NoNaN64 (own_gain t avg f len)

theorem own_okay {t avg : UInt64} {f len : Int32} (ht : own_F t) (t1 : 1 ≤ own_V t) (t2 : own_V t ≤ 2 ^ 20)
    (ha : own_F avg) (h1 : 1 ≤ own_V avg) (h2 : own_V avg ≤ 2 ^ 31) (hl : 0 ≤ len.toInt) (hf : 0 ≤ f.toInt) : own_ok t avg f len := by
  obtain ⟨p1, p2, p3⟩ := own_pb ht t1 t2
  obtain ⟨n1, x, -, -, -, -, -, -, n2, n3⟩ := own_nb ha h1 h2 hl
  obtain ⟨f1, x1, x2, x3⟩ := own_xb ha h1 h2 hl
  have x0 := own_V_nonneg (ddiv (dmul 4604930618986332160 (i2d len)) avg)
  obtain ⟨a1, a2⟩ := own_c25
  obtain ⟨y1, -, -⟩ := own_add a1 f1 (by rw [a2]; grind) (by rw [a2]; grind)
  obtain ⟨i1, i2⟩ := own_int hf
  have l0 := own_l1 (n := f.toInt.toNat)
  have l1 := own_ll (len := f)
  have pf : own_V (dmul t 4612586738352862003) * own_V (i2d f) = 0 ∨ 1 ≤ own_V (dmul t 4612586738352862003) * own_V (i2d f) := by
    rw [i2]
    rcases l0 with h | h
    · left; rw [h, Rat.mul_zero]
    · right
      have := own_mge (x := own_V (dmul t 4612586738352862003)) (y := ((f.toInt.toNat : Nat) : Rat)) (X := 1) (Y := 1) (by grind) (by grind) p2 h
      grind
  have pf2 : own_V (dmul t 4612586738352862003) * own_V (i2d f) ≤ 2 ^ 22 * 2 ^ 31 := own_mle (by grind) (own_V_nonneg _) p3 (by rw [i2]; exact l1)
  obtain ⟨q1, -, -⟩ := own_mul p1 i1 (by grind) (by grind)
  obtain ⟨d1, -, -⟩ := own_add n1 i1 (by rw [i2]; grind) (by rw [i2]; grind)
  obtain ⟨g1, -⟩ := own_gb (f := f) ht t1 t2 ha h1 h2 hl hf
  exact ⟨own_nn (own_75 hl).1, own_nn f1, own_nn y1, own_nn n1, own_nn p1, own_nn q1, own_nn d1, own_nn g1⟩

theorem own_addmask (x m : Int32) (k : Nat) (hk : k ≤ 30) (hm : m.toBitVec.toNat = 2 ^ k - 1) :
    1 ≤ ((1 : Int32) + (x &&& m)).toInt ∧ ((1 : Int32) + (x &&& m)).toInt ≤ (2 ^ k : Nat) := by
  have h1 := Jvm.RoadKit.c_iadd 1 (x &&& m)
  have h2 := Jvm.RoadKit.c_mask x m k (by omega) hm
  have h3 := Int.emod_nonneg x.toInt (b := ((2 ^ k : Nat) : Int)) (by have := Nat.two_pow_pos k; omega)
  have h4 := Int.emod_lt_of_pos x.toInt (b := ((2 ^ k : Nat) : Int)) (by have := Nat.two_pow_pos k; omega)
  have h5 : 2 ^ k ≤ 2 ^ 30 := Nat.pow_le_pow_right (by decide) hk
  have h6 := ((1 : Int32) + (x &&& m)).toInt_lt
  have h7 := ((1 : Int32) + (x &&& m)).le_toInt
  have h8 : (1 : Int32).toInt = 1 := rfl
  rw [h8, h2] at h1
  generalize 2 ^ k = K at *
  generalize x.toInt % (K : Int) = r at *
  generalize ((1 : Int32) + (x &&& m)).toInt = z at *
  omega

theorem own_dpos {n : Int32} {K : Nat} (h : 1 ≤ n.toInt) (h2 : n.toInt ≤ (K : Int)) : own_F (i2d n) ∧ 1 ≤ own_V (i2d n) ∧ own_V (i2d n) ≤ (K : Rat) := by
  obtain ⟨a1, a2⟩ := own_int (n := n) (by omega)
  refine ⟨a1, ?_, ?_⟩
  · rw [a2]
    have : 1 ≤ n.toInt.toNat := by omega
    exact_mod_cast this
  · rw [a2]
    have : n.toInt.toNat ≤ K := by omega
    exact_mod_cast this

theorem own_inc {f : Int32} (h0 : 0 ≤ f.toInt) (h : f.toInt ≤ 65535) : (f + (1 : Int32)).toInt = f.toInt + 1 := by
  have h1 := Jvm.RoadKit.c_iadd f 1
  have h6 := (f + (1 : Int32)).toInt_lt
  have h7 := (f + (1 : Int32)).le_toInt
  have h8 : (1 : Int32).toInt = 1 := rfl
  omega

theorem own_times4 {f : Int32} (h0 : 0 ≤ f.toInt) (h : f.toInt < 2 ^ 29) : ((4 : Int32) * f).toInt = 4 * f.toInt := by
  have h1 := Jvm.RoadKit.c_imul 4 f
  have h6 := ((4 : Int32) * f).toInt_lt
  have h7 := ((4 : Int32) * f).le_toInt
  have h8 : (4 : Int32).toInt = 4 := rfl
  rw [h8] at h1
  omega

theorem own_msk (x m : Int32) (k : Nat) (hk : k ≤ 31) (hm : m.toBitVec.toNat = 2 ^ k - 1) : 0 ≤ (x &&& m).toInt ∧ (x &&& m).toInt < (2 ^ k : Nat) := by
  rw [Jvm.RoadKit.c_mask x m k hk hm]
  have := Nat.two_pow_pos k
  exact ⟨Int.emod_nonneg _ (by omega), Int.emod_lt_of_pos _ (by omega)⟩

theorem own_all {a w fr l avgI ai twI f fs f0 len ls : Int32} (e1 : avgI = (1 : Int32) + (a &&& (65535 : Int32))) (e2 : ai = (1 : Int32) + (a &&& (1073741823 : Int32)))
    (e3 : twI = (1 : Int32) + (w &&& (1048575 : Int32))) (e4 : f = fr &&& (2147483647 : Int32)) (e5 : fs = fr &&& (65535 : Int32)) (e6 : f0 = fr &&& (536870911 : Int32))
    (e7 : len = l &&& (2147483647 : Int32)) (e8 : ls = l &&& (65535 : Int32)) :
    own_ok (i2d twI) (i2d avgI) f len ∧ own_ok (i2d twI) (i2d avgI) fs ls ∧ own_ok (i2d twI) (i2d avgI) (fs + (1 : Int32)) ls ∧
    own_ok (i2d twI) (i2d avgI) (fs + (1 : Int32)) (ls + (1 : Int32)) ∧ own_ok Jvm.FP.dconst1 (i2d ai) 1 ai ∧ own_ok (i2d twI) (i2d ai) f0 0 ∧
    own_ok (i2d twI) (i2d ai) ((4 : Int32) * f0) ai ∧ NoNaN64 (dmul (i2d twI) 4612586738352862003) ∧
    (f = 0 → dcmp (own_gain (i2d twI) (i2d avgI) f len) Jvm.FP.dconst0 = some .eq) ∧
    (¬ f = 0 → dcmp (own_gain (i2d twI) (i2d avgI) f len) Jvm.FP.dconst0 = some .gt) ∧
    (¬ f = 0 → dcmp (own_gain (i2d twI) (i2d avgI) f len) (dmul (i2d twI) 4612586738352862003) = some .lt) ∧
    dcmp (own_gain (i2d twI) (i2d avgI) (fs + (1 : Int32)) ls) (own_gain (i2d twI) (i2d avgI) fs ls) = some .gt ∧
    dcmp (own_gain (i2d twI) (i2d avgI) (fs + (1 : Int32)) (ls + (1 : Int32))) (own_gain (i2d twI) (i2d avgI) (fs + (1 : Int32)) ls) = some .lt ∧
    dcmp (own_gain Jvm.FP.dconst1 (i2d ai) 1 ai) Jvm.FP.dconst1 = some .eq ∧
    dcmp (own_gain (i2d twI) (i2d ai) f0 0) (own_gain (i2d twI) (i2d ai) ((4 : Int32) * f0) ai) = some .eq := by
  obtain ⟨a1, a2⟩ := own_addmask a 65535 16 (by decide) (by decide +kernel)
  obtain ⟨b1, b2⟩ := own_addmask a 1073741823 30 (by decide) (by decide +kernel)
  obtain ⟨c1, c2⟩ := own_addmask w 1048575 20 (by decide) (by decide +kernel)
  rw [← e1] at a1 a2
  rw [← e2] at b1 b2
  rw [← e3] at c1 c2
  obtain ⟨f1, f2⟩ := own_msk fr 2147483647 31 (by decide) (by decide +kernel)
  rw [← e4] at f1 f2
  obtain ⟨g1, g2⟩ := own_msk fr 65535 16 (by decide) (by decide +kernel)
  rw [← e5] at g1 g2
  obtain ⟨h1, h2⟩ := own_msk fr 536870911 29 (by decide) (by decide +kernel)
  rw [← e6] at h1 h2
  obtain ⟨i1, i2⟩ := own_msk l 2147483647 31 (by decide) (by decide +kernel)
  rw [← e7] at i1 i2
  obtain ⟨j1, j2⟩ := own_msk l 65535 16 (by decide) (by decide +kernel)
  rw [← e8] at j1 j2
  clear e1 e2 e3 e4 e5 e6 e7 e8
  have fsi := own_inc g1 (by omega)
  have lsi := own_inc j1 (by omega)
  have f4 := own_times4 h1 (by omega)
  obtain ⟨A0, A1, A2⟩ := own_dpos a1 a2
  obtain ⟨B0, B1, B2⟩ := own_dpos b1 b2
  obtain ⟨T0, T1, T2⟩ := own_dpos c1 c2
  have A2' : own_V (i2d avgI) ≤ 65536 := by grind
  have A2'' : own_V (i2d avgI) ≤ 2 ^ 31 := by grind
  have B2' : own_V (i2d ai) ≤ 2 ^ 31 := by grind
  have T2' : own_V (i2d twI) ≤ 2 ^ 20 := by grind
  obtain ⟨O0, O1⟩ := own_c1
  obtain ⟨Z0, Z1⟩ := own_c0
  have P0 := (own_pb T0 T1 T2').1
  have one0 : 0 ≤ (1 : Int32).toInt := by decide
  have zer0 : 0 ≤ (0 : Int32).toInt := by decide
  have G1 := own_gb (f := f) (len := len) T0 T1 T2' A0 A1 A2'' i1 f1
  have G2 := own_gb (f := fs) (len := ls) T0 T1 T2' A0 A1 A2'' j1 g1
  have G3 := own_gb (f := fs + 1) (len := ls) T0 T1 T2' A0 A1 A2'' j1 (by omega)
  have G4 := own_gb (f := fs + 1) (len := ls + 1) T0 T1 T2' A0 A1 A2'' (by omega) (by omega)
  refine ⟨own_okay T0 T1 T2' A0 A1 A2'' i1 f1, own_okay T0 T1 T2' A0 A1 A2'' j1 g1, own_okay T0 T1 T2' A0 A1 A2'' j1 (by omega),
    own_okay T0 T1 T2' A0 A1 A2'' (by omega) (by omega), own_okay O0 (by rw [O1]; exact Rat.le_refl) (by rw [O1]; grind) B0 B1 B2' (by omega) one0,
    own_okay T0 T1 T2' B0 B1 B2' zer0 h1, own_okay T0 T1 T2' B0 B1 B2' (by omega) (by omega), own_nn P0, ?_, ?_, ?_, ?_, ?_, ?_, ?_⟩
  · intro hf
    obtain ⟨x1, x2⟩ := own_law0 (f := f) (len := len) T0 T1 T2' A0 A1 A2'' i1 (by rw [hf]; rfl)
    exact own_inj x1 Z0 (by rw [x2, Z1])
  · intro hf
    have hf' : f.toInt ≠ 0 := fun h => hf (Int32.toInt.inj (by rw [h]; rfl))
    obtain ⟨x1, x2, x3⟩ := own_law1 (f := f) (len := len) T0 T1 T2' A0 A1 A2'' i1 (by omega)
    exact own_gt x1 Z0 (by rw [Z1]; exact x2)
  · intro hf
    have hf' : f.toInt ≠ 0 := fun h => hf (Int32.toInt.inj (by rw [h]; rfl))
    obtain ⟨x1, x2, x3⟩ := own_law1 (f := f) (len := len) T0 T1 T2' A0 A1 A2'' i1 (by omega)
    exact own_lt x1 P0 x3
  · exact own_gt G3.1 G2.1 (own_law2 T0 T1 T2' A0 A1 A2'' j1 g1 (by omega) fsi)
  · exact own_lt G4.1 G3.1 (own_law3 T0 T1 T2' A0 A1 A2' j1 (by omega) (by omega) (by omega) lsi)
  · obtain ⟨x1, x2⟩ := own_law4 (ai := ai) (by omega)
    exact own_inj x1 O0 (by rw [O1]; exact x2)
  · exact own_law5 T0 T1 T2' (by omega) h1 f4

theorem own_cvE {x y : UInt64} (h : dcmp x y = some .eq) (o : Jvm.ClassFile.CmpOp) : Jvm.Op.cmpValue (dcmp x y) o = 0 := by rw [h]; rfl
theorem own_cvL {x y : UInt64} (h : dcmp x y = some .lt) (o : Jvm.ClassFile.CmpOp) : Jvm.Op.cmpValue (dcmp x y) o < 0 := by rw [h]; cases o <;> decide
theorem own_cvG {x y : UInt64} (h : dcmp x y = some .gt) (o : Jvm.ClassFile.CmpOp) : 0 < Jvm.Op.cmpValue (dcmp x y) o := by rw [h]; cases o <;> decide
end OwnF
namespace Jvm.Pilot.@@N@@
open Jvm Jvm.ClassFile Sem Op Lib Jvm.Free Jvm.Stand Jvm.LawKit Jvm.RoadKit Bundle Jvm.Pilot.@@N@@.Jvm.D
theorem d1_0 : decode prog_52_method_1_code 0 = .ok (.aload_n 0, 1) := by decide +kernel
theorem d1_1 : decode prog_52_method_1_code 1 = .ok (.invokespecial 1, 3) := by decide +kernel
theorem d1_4 : decode prog_52_method_1_code 4 = .ok (.aload_n 0, 1) := by decide +kernel
theorem d1_5 : decode prog_52_method_1_code 5 = .ok (.iload_n 1, 1) := by decide +kernel
theorem d1_6 : decode prog_52_method_1_code 6 = .ok (.putfield 7, 3) := by decide +kernel
theorem d1_9 : decode prog_52_method_1_code 9 = .ok (.aload_n 0, 1) := by decide +kernel
theorem d1_10 : decode prog_52_method_1_code 10 = .ok (.dload_n 2, 1) := by decide +kernel
theorem d1_11 : decode prog_52_method_1_code 11 = .ok (.putfield 13, 3) := by decide +kernel
theorem d1_14 : decode prog_52_method_1_code 14 = .ok (.return_, 1) := by decide +kernel
theorem pn_0 : plainName "com/example/wegweiser/wegweiser/search/Bm25" = true := by first | (simp [plainName, overriddenIn]; done) | decide +kernel
theorem ef_1 (m : MethodId) (x0 : Addr) (x1 : Int32) (x2 : UInt64) : entryFrame m #[(.ref x0), (.int x1), (.double x2)] 4 = mkF m 0 #[.val (.ref x0), .val (.int x1), .val (.double x2), .second] [] := by first | (simp [entryFrame, mkF, argsToLocals, Value.category]; done) | rfl
def Q1 (Z : State) (a : Addr) (p1 : Int32) (d : UInt64) (h0 : Heap) (n0 : Nat) (v : Option Value) (h : Heap) (L : List Loc) : Prop := v = none ∧ Fr n0 L ∧ Keep h0 h [a] ∧ Fld Z h a "com/example/wegweiser/wegweiser/search/Bm25" "averageLength" "D" (.double d)
set_option maxRecDepth 65536 in
set_option maxHeartbeats 40000000 in
theorem rm1 (l : Launch) (Z : State) (a0 : Array Value) (hw : ∀ d ∈ tables_1, d.before a0 Z = true) (ws : List Jvm.Cond) (a : Addr) (p1 : Int32) (d : UInt64) (h0 : Heap) (n0 : Nat) (Z0 : n0 ≤ h0.size) (F1 : Fld Z h0 a "com/example/wegweiser/wegweiser/search/Bm25" "paragraphs" "I" (.int (0 : Int32))) (F2 : Fld Z h0 a "com/example/wegweiser/wegweiser/search/Bm25" "averageLength" "D" (.double (0 : UInt64))) (Ea : Exa Z h0 a "com/example/wegweiser/wegweiser/search/Bm25") (g_a : n0 ≤ a) :
    MetFree l (⟨"com/example/wegweiser/wegweiser/search/Bm25", "<init>", "(ID)V"⟩ : MethodName) (head1 (Jvm.Cond.code (⟨"com/example/wegweiser/wegweiser/search/Bm25", "<init>", "(ID)V"⟩ : MethodName) prog_52_method_1_code 4 none :: ws) ({ frames := 1, cells := 0, slots := 0, locals := 12 } : Room)) (fun aa U => aa = #[(.ref a), (.int p1), (.double d)] ∧ Z.Warmed39 U.vm ∧ U.heap = h0) (fun _ _ _ _ _ => True) (fun _ U o U' => ∃ v L, o = .returned v ∧ Q1 Z a p1 d h0 n0 v U'.heap L ∧ FrameEnd U o U' L ({ frames := 1, cells := 0, slots := 0, locals := 12 } : Room).cells ({ frames := 1, cells := 0, slots := 0, locals := 12 } : Room).slots) := by
  refine MetFree.of_bodySF (plainFor_of_name pn_0) hisR ?_
  intro p e s m args below meth c s₁ Bd hml0 hP hK
  obtain ⟨rfl, hZ, hh⟩ := hP
  have hx := Bd.exec
  have hby := Bd.bytes
  have hml : c.maxLocals = 4 := hml0
  have hown : s.vm.findClass "com/example/wegweiser/wegweiser/search/Bm25" = some m.cls := findClass_of_methodNamed Bd.named
  have hnm := (name_of_methodNamed Bd.named Bd.method).1
  have X0 : Stand p l e ({ frames := 1, cells := 0, slots := 0, locals := 12 } : Room) s m #[(.ref a), (.int p1), (.double d)] below meth c s₁ [] 0 0 := Stand.of_body Bd
  have e0 : s₁.heap = h0 := by rw [← hh, Bd.state]; rfl
  have N0 := Fr.nil n0
  have pre0 : ∀ t, Steps p.tables e below (s₁.setTop (mkF m 0 #[.val (.ref a), .val (.int p1), .val (.double d), .second] [])) t → Steps p.tables e below (s₁.setTop (entryFrame m #[(.ref a), (.int p1), (.double d)] 4)) t := fun t k => castTop (ef_1 m a p1 d) k
  have KR : Keep h0 h0 [a] := Keep.refl _ _
  have k1 : ∀ t, Steps p.tables e below (s₁.setTop (mkF m 1 #[.val (.ref a), .val (.int p1), .val (.double d), .second] [(.ref a)])) t → Steps p.tables e below (s₁.setTop (entryFrame m #[(.ref a), (.int p1), (.double d)] 4)) t := fun t k => pre0 t (by
    show Steps p.tables e below (s₁.setTop (mkF m 0 #[.val (.ref a), .val (.int p1), .val (.double d), .second] [])) _
    refine XS.aloadN X0.here hx rfl (hb hby d1_0) rfl rfl ?_
    exact k)
  obtain ⟨T2, X2, e2, st2⟩ := initO X0 hx hZ hown (hw _ (List.mem_of_getElem? (i := 11) rfl)) (hw _ (List.mem_of_getElem? (i := 12) rfl)) (hw _ (List.mem_of_getElem? (i := 13) rfl)) e0 (g := (mkF m 1 #[.val (.ref a), .val (.int p1), .val (.double d), .second] [(.ref a)])) rfl (by rw [hml]; rfl) rfl (hb hby d1_1) (by decide) (W := 0) (by show 2 * 0 + _ ≤ _; exact Nat.le_of_eq rfl) (by decide)
  have k3 : ∀ t, Steps p.tables e below (T2.setTop (mkF m 4 #[.val (.ref a), .val (.int p1), .val (.double d), .second] [])) t → Steps p.tables e below (s₁.setTop (entryFrame m #[(.ref a), (.int p1), (.double d)] 4)) t := fun t k => k1 t (st2 t k)
  have k4 : ∀ t, Steps p.tables e below (T2.setTop (mkF m 6 #[.val (.ref a), .val (.int p1), .val (.double d), .second] [(.int p1), (.ref a)])) t → Steps p.tables e below (s₁.setTop (entryFrame m #[(.ref a), (.int p1), (.double d)] 4)) t := fun t k => k3 t (by
    show Steps p.tables e below (T2.setTop (mkF m 4 #[.val (.ref a), .val (.int p1), .val (.double d), .second] [])) _
    refine XS.aloadN X2.here hx rfl (hb hby d1_4) rfl rfl ?_
    show Steps p.tables e below (T2.setTop (mkF m 5 #[.val (.ref a), .val (.int p1), .val (.double d), .second] [(.ref a)])) _
    refine XS.iloadN X2.here hx rfl (hb hby d1_5) rfl ?_
    exact k)
  obtain ⟨T5, h5, X5, e5, W5, st5⟩ := putF X2 hx hZ hown (host := "") (Or.inl (hw _ (List.mem_of_getElem? (i := 14) rfl))) Via.refl e2 F1 Ea (Or.inr ⟨(hw _ (List.mem_of_getElem? (i := 15) rfl)), rfl, hnm⟩) (hw _ (List.mem_of_getElem? (i := 6) rfl)) (ty := .int) (by decide) rfl rfl (g := (mkF m 6 #[.val (.ref a), .val (.int p1), .val (.double d), .second] [(.int p1), (.ref a)])) rfl rfl (hb hby d1_6)
  have N5 := Fr.snoc X5 N0 g_a
  obtain ⟨LH5, XH5, NH5⟩ := own_hide X5 N5
  clear X5 N5
  have Z6 : n0 ≤ h5.size := Nat.le_trans Z0 (Nat.le_of_eq W5.size.symm)
  have K7 : Keep h0 h5 [a] := KR.wr W5 (Or.inl (List.mem_of_getElem? (i := 0) rfl))
  have F8 : Fld Z h5 a "com/example/wegweiser/wegweiser/search/Bm25" "averageLength" "D" (.double (0 : UInt64)) := Fld.other W5 F2 (Or.inr (slot_ne (Or.inr (hw _ (List.mem_of_getElem? (i := 17) rfl))) (Or.inr (hw _ (List.mem_of_getElem? (i := 15) rfl))) (by decide) (t := .double) (t' := .int) (by decide) (by decide)))
  have F9 : Exa Z h5 a "com/example/wegweiser/wegweiser/search/Bm25" := Exa.wr W5 Ea
  have F10 : Fld Z h5 a "com/example/wegweiser/wegweiser/search/Bm25" "paragraphs" "I" (.int p1) := Fld.same W5 F1
  have k11 : ∀ t, Steps p.tables e below (T5.setTop (mkF m 9 #[.val (.ref a), .val (.int p1), .val (.double d), .second] [])) t → Steps p.tables e below (s₁.setTop (entryFrame m #[(.ref a), (.int p1), (.double d)] 4)) t := fun t k => k4 t (st5 t k)
  have k12 : ∀ t, Steps p.tables e below (T5.setTop (mkF m 11 #[.val (.ref a), .val (.int p1), .val (.double d), .second] [(.double d), (.ref a)])) t → Steps p.tables e below (s₁.setTop (entryFrame m #[(.ref a), (.int p1), (.double d)] 4)) t := fun t k => k11 t (by
    show Steps p.tables e below (T5.setTop (mkF m 9 #[.val (.ref a), .val (.int p1), .val (.double d), .second] [])) _
    refine XS.aloadN XH5.here hx rfl (hb hby d1_9) rfl rfl ?_
    show Steps p.tables e below (T5.setTop (mkF m 10 #[.val (.ref a), .val (.int p1), .val (.double d), .second] [(.ref a)])) _
    refine XS.dloadN XH5.here hx rfl (hb hby d1_10) rfl ?_
    exact k)
  obtain ⟨T13, h13, X13, e13, W13, st13⟩ := putF XH5 hx hZ hown (host := "") (Or.inl (hw _ (List.mem_of_getElem? (i := 16) rfl))) Via.refl e5 F8 F9 (Or.inr ⟨(hw _ (List.mem_of_getElem? (i := 17) rfl)), rfl, hnm⟩) (hw _ (List.mem_of_getElem? (i := 6) rfl)) (ty := .double) (by decide) rfl rfl (g := (mkF m 11 #[.val (.ref a), .val (.int p1), .val (.double d), .second] [(.double d), (.ref a)])) rfl rfl (hb hby d1_11)
  have N13 := Fr.snoc X13 NH5 g_a
  obtain ⟨LH13, XH13, NH13⟩ := own_hide X13 N13
  clear X13 N13
  have Z14 : n0 ≤ h13.size := Nat.le_trans Z6 (Nat.le_of_eq W13.size.symm)
  have K15 : Keep h0 h13 [a] := K7.wr W13 (Or.inl (List.mem_of_getElem? (i := 0) rfl))
  have F16 : Exa Z h13 a "com/example/wegweiser/wegweiser/search/Bm25" := Exa.wr W13 F9
  have F17 : Fld Z h13 a "com/example/wegweiser/wegweiser/search/Bm25" "paragraphs" "I" (.int p1) := Fld.other W13 F10 (Or.inr (slot_ne (Or.inr (hw _ (List.mem_of_getElem? (i := 15) rfl))) (Or.inr (hw _ (List.mem_of_getElem? (i := 17) rfl))) (by decide) (t := .int) (t' := .double) (by decide) (by decide)))
  have F18 : Fld Z h13 a "com/example/wegweiser/wegweiser/search/Bm25" "averageLength" "D" (.double d) := Fld.same W13 F8
  have k19 : ∀ t, Steps p.tables e below (T13.setTop (mkF m 14 #[.val (.ref a), .val (.int p1), .val (.double d), .second] [])) t → Steps p.tables e below (s₁.setTop (entryFrame m #[(.ref a), (.int p1), (.double d)] 4)) t := fun t k => k12 t (st13 t k)
  obtain ⟨fs, hr, hrun, hended, hW, hsame⟩ := XH13.leave (v := none) (fun _ => rfl)
  refine ⟨_, _, k19 _ ?_, hrun, hended, _, _, rfl, ?_, ⟨_, rfl⟩, hW, hsame.mono (by decide) (by decide)⟩
  · show Steps p.tables e below (T13.setTop (mkF m 14 #[.val (.ref a), .val (.int p1), .val (.double d), .second] [])) _
    exact XH13.returnOut hx Bd.returns (hb hby d1_14) hr
  · show Q1 Z a p1 d h0 n0 _ T13.heap _
    rw [e13]
    exact ⟨rfl, NH13, K15, F18⟩
theorem d3_0 : decode prog_52_method_3_code 0 = .ok (.ldc2_w 29, 3) := by decide +kernel
theorem d3_3 : decode prog_52_method_3_code 3 = .ok (.ldc2_w 31, 3) := by decide +kernel
theorem d3_6 : decode prog_52_method_3_code 6 = .ok (.ldc2_w 33, 3) := by decide +kernel
theorem d3_9 : decode prog_52_method_3_code 9 = .ok (.iload 4, 2) := by decide +kernel
theorem d3_11 : decode prog_52_method_3_code 11 = .ok (.i2d, 1) := by decide +kernel
theorem d3_12 : decode prog_52_method_3_code 12 = .ok (.dmul, 1) := by decide +kernel
theorem d3_13 : decode prog_52_method_3_code 13 = .ok (.aload_n 0, 1) := by decide +kernel
theorem d3_14 : decode prog_52_method_3_code 14 = .ok (.getfield 13, 3) := by decide +kernel
theorem d3_17 : decode prog_52_method_3_code 17 = .ok (.ddiv, 1) := by decide +kernel
theorem d3_18 : decode prog_52_method_3_code 18 = .ok (.dadd, 1) := by decide +kernel
theorem d3_19 : decode prog_52_method_3_code 19 = .ok (.dmul, 1) := by decide +kernel
theorem d3_20 : decode prog_52_method_3_code 20 = .ok (.dstore 5, 2) := by decide +kernel
theorem d3_22 : decode prog_52_method_3_code 22 = .ok (.dload_n 1, 1) := by decide +kernel
theorem d3_23 : decode prog_52_method_3_code 23 = .ok (.ldc2_w 35, 3) := by decide +kernel
theorem d3_26 : decode prog_52_method_3_code 26 = .ok (.dmul, 1) := by decide +kernel
theorem d3_27 : decode prog_52_method_3_code 27 = .ok (.iload_n 3, 1) := by decide +kernel
theorem d3_28 : decode prog_52_method_3_code 28 = .ok (.i2d, 1) := by decide +kernel
theorem d3_29 : decode prog_52_method_3_code 29 = .ok (.dmul, 1) := by decide +kernel
theorem d3_30 : decode prog_52_method_3_code 30 = .ok (.dload 5, 2) := by decide +kernel
theorem d3_32 : decode prog_52_method_3_code 32 = .ok (.iload_n 3, 1) := by decide +kernel
theorem d3_33 : decode prog_52_method_3_code 33 = .ok (.i2d, 1) := by decide +kernel
theorem d3_34 : decode prog_52_method_3_code 34 = .ok (.dadd, 1) := by decide +kernel
theorem d3_35 : decode prog_52_method_3_code 35 = .ok (.ddiv, 1) := by decide +kernel
theorem d3_36 : decode prog_52_method_3_code 36 = .ok (.dreturn, 1) := by decide +kernel
theorem ef_3 (m : MethodId) (x0 : Addr) (x1 : UInt64) (x2 : Int32) (x3 : Int32) : entryFrame m #[(.ref x0), (.double x1), (.int x2), (.int x3)] 7 = mkF m 0 #[.val (.ref x0), .val (.double x1), .second, .val (.int x2), .val (.int x3), .unset, .unset] [] := by first | (simp [entryFrame, mkF, argsToLocals, Value.category]; done) | rfl
def Q3 (Z : State) (a : Addr) (tq : UInt64) (f : Int32) (len : Int32) (d : UInt64) (h0 : Heap) (n0 : Nat) (v : Option Value) (h : Heap) (L : List Loc) : Prop := v = some (.double (OwnF.own_gain tq d f len)) ∧ Fr n0 L ∧ h = h0
set_option maxRecDepth 65536 in
set_option maxHeartbeats 40000000 in
theorem rm3 (l : Launch) (Z : State) (a0 : Array Value) (hw : ∀ d ∈ tables_1, d.before a0 Z = true) (ws : List Jvm.Cond) (a : Addr) (tq : UInt64) (f : Int32) (len : Int32) (d : UInt64) (h0 : Heap) (n0 : Nat) (Z0 : n0 ≤ h0.size) (F1 : Fld Z h0 a "com/example/wegweiser/wegweiser/search/Bm25" "averageLength" "D" (.double d)) (ok : OwnF.own_ok tq d f len) :
    MetFree l (⟨"com/example/wegweiser/wegweiser/search/Bm25", "gain", "(DII)D"⟩ : MethodName) (head1 (Jvm.Cond.code (⟨"com/example/wegweiser/wegweiser/search/Bm25", "gain", "(DII)D"⟩ : MethodName) prog_52_method_3_code 7 (some .double) :: ws) ({ frames := 0, cells := 0, slots := 0, locals := 0 } : Room)) (fun aa U => aa = #[(.ref a), (.double tq), (.int f), (.int len)] ∧ Z.Warmed39 U.vm ∧ U.heap = h0) (fun _ _ _ _ _ => True) (fun _ U o U' => ∃ v L, o = .returned v ∧ Q3 Z a tq f len d h0 n0 v U'.heap L ∧ FrameEnd U o U' L ({ frames := 0, cells := 0, slots := 0, locals := 0 } : Room).cells ({ frames := 0, cells := 0, slots := 0, locals := 0 } : Room).slots) := by
  refine MetFree.of_bodySF (plainFor_of_name pn_0) hisR ?_
  intro p e s m args below meth c s₁ Bd hml0 hP hK
  obtain ⟨rfl, hZ, hh⟩ := hP
  have hx := Bd.exec
  have hby := Bd.bytes
  have hml : c.maxLocals = 7 := hml0
  have hown : s.vm.findClass "com/example/wegweiser/wegweiser/search/Bm25" = some m.cls := findClass_of_methodNamed Bd.named
  have hnm := (name_of_methodNamed Bd.named Bd.method).1
  have X0 : Stand p l e ({ frames := 0, cells := 0, slots := 0, locals := 0 } : Room) s m #[(.ref a), (.double tq), (.int f), (.int len)] below meth c s₁ [] 0 0 := Stand.of_body Bd
  have e0 : s₁.heap = h0 := by rw [← hh, Bd.state]; rfl
  have N0 := Fr.nil n0
  have pre0 : ∀ t, Steps p.tables e below (s₁.setTop (mkF m 0 #[.val (.ref a), .val (.double tq), .second, .val (.int f), .val (.int len), .unset, .unset] [])) t → Steps p.tables e below (s₁.setTop (entryFrame m #[(.ref a), (.double tq), (.int f), (.int len)] 7)) t := fun t k => castTop (ef_3 m a tq f len) k
  have k21 : ∀ t, Steps p.tables e below (s₁.setTop (mkF m 14 #[.val (.ref a), .val (.double tq), .second, .val (.int f), .val (.int len), .unset, .unset] [(.ref a), (.double (Jvm.FP.Core.dmul (4604930618986332160 : UInt64) (Jvm.FP.Core.i2d len))), (.double (4598175219545276416 : UInt64)), (.double (4608983858650965606 : UInt64))])) t → Steps p.tables e below (s₁.setTop (entryFrame m #[(.ref a), (.double tq), (.int f), (.int len)] 7)) t := fun t k => pre0 t (by
    show Steps p.tables e below (s₁.setTop (mkF m 0 #[.val (.ref a), .val (.double tq), .second, .val (.int f), .val (.int len), .unset, .unset] [])) _
    refine X0.ldc2DoubleC hx hown (mvT hZ (hw _ (List.mem_of_getElem? (i := 23) rfl))) (g := (mkF m 0 #[.val (.ref a), .val (.double tq), .second, .val (.int f), .val (.int len), .unset, .unset] [])) rfl (hb hby d3_0) _ ?_
    show Steps p.tables e below (s₁.setTop (mkF m 3 #[.val (.ref a), .val (.double tq), .second, .val (.int f), .val (.int len), .unset, .unset] [(.double (4608983858650965606 : UInt64))])) _
    refine X0.ldc2DoubleC hx hown (mvT hZ (hw _ (List.mem_of_getElem? (i := 24) rfl))) (g := (mkF m 3 #[.val (.ref a), .val (.double tq), .second, .val (.int f), .val (.int len), .unset, .unset] [(.double (4608983858650965606 : UInt64))])) rfl (hb hby d3_3) _ ?_
    show Steps p.tables e below (s₁.setTop (mkF m 6 #[.val (.ref a), .val (.double tq), .second, .val (.int f), .val (.int len), .unset, .unset] [(.double (4598175219545276416 : UInt64)), (.double (4608983858650965606 : UInt64))])) _
    refine X0.ldc2DoubleC hx hown (mvT hZ (hw _ (List.mem_of_getElem? (i := 25) rfl))) (g := (mkF m 6 #[.val (.ref a), .val (.double tq), .second, .val (.int f), .val (.int len), .unset, .unset] [(.double (4598175219545276416 : UInt64)), (.double (4608983858650965606 : UInt64))])) rfl (hb hby d3_6) _ ?_
    show Steps p.tables e below (s₁.setTop (mkF m 9 #[.val (.ref a), .val (.double tq), .second, .val (.int f), .val (.int len), .unset, .unset] [(.double (4604930618986332160 : UInt64)), (.double (4598175219545276416 : UInt64)), (.double (4608983858650965606 : UInt64))])) _
    refine XS.iload X0.here hx rfl (hb hby d3_9) rfl ?_
    show Steps p.tables e below (s₁.setTop (mkF m 11 #[.val (.ref a), .val (.double tq), .second, .val (.int f), .val (.int len), .unset, .unset] [(.int len), (.double (4604930618986332160 : UInt64)), (.double (4598175219545276416 : UInt64)), (.double (4608983858650965606 : UInt64))])) _
    refine XS.i2dS X0.here hx rfl (hb hby d3_11) rfl rfl ?_
    show Steps p.tables e below (s₁.setTop (mkF m 12 #[.val (.ref a), .val (.double tq), .second, .val (.int f), .val (.int len), .unset, .unset] [(.double (Jvm.FP.Core.i2d len)), (.double (4604930618986332160 : UInt64)), (.double (4598175219545276416 : UInt64)), (.double (4608983858650965606 : UInt64))])) _
    refine XS.dmulS X0.here hx rfl (hb hby d3_12) rfl ok.1 rfl ?_
    show Steps p.tables e below (s₁.setTop (mkF m 13 #[.val (.ref a), .val (.double tq), .second, .val (.int f), .val (.int len), .unset, .unset] [(.double (Jvm.FP.Core.dmul (4604930618986332160 : UInt64) (Jvm.FP.Core.i2d len))), (.double (4598175219545276416 : UInt64)), (.double (4608983858650965606 : UInt64))])) _
    refine XS.aloadN X0.here hx rfl (hb hby d3_13) rfl rfl ?_
    exact k)
  obtain ⟨T22, X22, e22, st22⟩ := getF X0 hx hZ hown (host := "") (Or.inl (hw _ (List.mem_of_getElem? (i := 16) rfl))) Via.refl e0 F1 (g := (mkF m 14 #[.val (.ref a), .val (.double tq), .second, .val (.int f), .val (.int len), .unset, .unset] [(.ref a), (.double (Jvm.FP.Core.dmul (4604930618986332160 : UInt64) (Jvm.FP.Core.i2d len))), (.double (4598175219545276416 : UInt64)), (.double (4608983858650965606 : UInt64))])) rfl rfl (hb hby d3_14)
  have k23 : ∀ t, Steps p.tables e below (T22.setTop (mkF m 17 #[.val (.ref a), .val (.double tq), .second, .val (.int f), .val (.int len), .unset, .unset] [(.double d), (.double (Jvm.FP.Core.dmul (4604930618986332160 : UInt64) (Jvm.FP.Core.i2d len))), (.double (4598175219545276416 : UInt64)), (.double (4608983858650965606 : UInt64))])) t → Steps p.tables e below (s₁.setTop (entryFrame m #[(.ref a), (.double tq), (.int f), (.int len)] 7)) t := fun t k => k21 t (st22 t k)
  have k24 : ∀ t, Steps p.tables e below (T22.setTop (mkF m 36 #[.val (.ref a), .val (.double tq), .second, .val (.int f), .val (.int len), .val (.double (Jvm.FP.Core.dmul (4608983858650965606 : UInt64) (Jvm.FP.Core.dadd (4598175219545276416 : UInt64) (Jvm.FP.Core.ddiv (Jvm.FP.Core.dmul (4604930618986332160 : UInt64) (Jvm.FP.Core.i2d len)) d)))), .second] [(.double (Jvm.FP.Core.ddiv (Jvm.FP.Core.dmul (Jvm.FP.Core.dmul tq (4612586738352862003 : UInt64)) (Jvm.FP.Core.i2d f)) (Jvm.FP.Core.dadd (Jvm.FP.Core.dmul (4608983858650965606 : UInt64) (Jvm.FP.Core.dadd (4598175219545276416 : UInt64) (Jvm.FP.Core.ddiv (Jvm.FP.Core.dmul (4604930618986332160 : UInt64) (Jvm.FP.Core.i2d len)) d))) (Jvm.FP.Core.i2d f))))])) t → Steps p.tables e below (s₁.setTop (entryFrame m #[(.ref a), (.double tq), (.int f), (.int len)] 7)) t := fun t k => k23 t (by
    show Steps p.tables e below (T22.setTop (mkF m 17 #[.val (.ref a), .val (.double tq), .second, .val (.int f), .val (.int len), .unset, .unset] [(.double d), (.double (Jvm.FP.Core.dmul (4604930618986332160 : UInt64) (Jvm.FP.Core.i2d len))), (.double (4598175219545276416 : UInt64)), (.double (4608983858650965606 : UInt64))])) _
    refine XS.ddivS X22.here hx rfl (hb hby d3_17) rfl ok.2.1 rfl ?_
    show Steps p.tables e below (T22.setTop (mkF m 18 #[.val (.ref a), .val (.double tq), .second, .val (.int f), .val (.int len), .unset, .unset] [(.double (Jvm.FP.Core.ddiv (Jvm.FP.Core.dmul (4604930618986332160 : UInt64) (Jvm.FP.Core.i2d len)) d)), (.double (4598175219545276416 : UInt64)), (.double (4608983858650965606 : UInt64))])) _
    refine XS.daddS X22.here hx rfl (hb hby d3_18) rfl ok.2.2.1 rfl ?_
    show Steps p.tables e below (T22.setTop (mkF m 19 #[.val (.ref a), .val (.double tq), .second, .val (.int f), .val (.int len), .unset, .unset] [(.double (Jvm.FP.Core.dadd (4598175219545276416 : UInt64) (Jvm.FP.Core.ddiv (Jvm.FP.Core.dmul (4604930618986332160 : UInt64) (Jvm.FP.Core.i2d len)) d))), (.double (4608983858650965606 : UInt64))])) _
    refine XS.dmulS X22.here hx rfl (hb hby d3_19) rfl ok.2.2.2.1 rfl ?_
    show Steps p.tables e below (T22.setTop (mkF m 20 #[.val (.ref a), .val (.double tq), .second, .val (.int f), .val (.int len), .unset, .unset] [(.double (Jvm.FP.Core.dmul (4608983858650965606 : UInt64) (Jvm.FP.Core.dadd (4598175219545276416 : UInt64) (Jvm.FP.Core.ddiv (Jvm.FP.Core.dmul (4604930618986332160 : UInt64) (Jvm.FP.Core.i2d len)) d))))])) _
    refine XS.dstore X22.here hx rfl (hb hby d3_20) rfl (l' := #[.val (.ref a), .val (.double tq), .second, .val (.int f), .val (.int len), .val (.double (Jvm.FP.Core.dmul (4608983858650965606 : UInt64) (Jvm.FP.Core.dadd (4598175219545276416 : UInt64) (Jvm.FP.Core.ddiv (Jvm.FP.Core.dmul (4604930618986332160 : UInt64) (Jvm.FP.Core.i2d len)) d)))), .second]) rfl ?_
    show Steps p.tables e below (T22.setTop (mkF m 22 #[.val (.ref a), .val (.double tq), .second, .val (.int f), .val (.int len), .val (.double (Jvm.FP.Core.dmul (4608983858650965606 : UInt64) (Jvm.FP.Core.dadd (4598175219545276416 : UInt64) (Jvm.FP.Core.ddiv (Jvm.FP.Core.dmul (4604930618986332160 : UInt64) (Jvm.FP.Core.i2d len)) d)))), .second] [])) _
    refine XS.dloadN X22.here hx rfl (hb hby d3_22) rfl ?_
    show Steps p.tables e below (T22.setTop (mkF m 23 #[.val (.ref a), .val (.double tq), .second, .val (.int f), .val (.int len), .val (.double (Jvm.FP.Core.dmul (4608983858650965606 : UInt64) (Jvm.FP.Core.dadd (4598175219545276416 : UInt64) (Jvm.FP.Core.ddiv (Jvm.FP.Core.dmul (4604930618986332160 : UInt64) (Jvm.FP.Core.i2d len)) d)))), .second] [(.double tq)])) _
    refine X22.ldc2DoubleC hx hown (mvT hZ (hw _ (List.mem_of_getElem? (i := 26) rfl))) (g := (mkF m 23 #[.val (.ref a), .val (.double tq), .second, .val (.int f), .val (.int len), .val (.double (Jvm.FP.Core.dmul (4608983858650965606 : UInt64) (Jvm.FP.Core.dadd (4598175219545276416 : UInt64) (Jvm.FP.Core.ddiv (Jvm.FP.Core.dmul (4604930618986332160 : UInt64) (Jvm.FP.Core.i2d len)) d)))), .second] [(.double tq)])) rfl (hb hby d3_23) _ ?_
    show Steps p.tables e below (T22.setTop (mkF m 26 #[.val (.ref a), .val (.double tq), .second, .val (.int f), .val (.int len), .val (.double (Jvm.FP.Core.dmul (4608983858650965606 : UInt64) (Jvm.FP.Core.dadd (4598175219545276416 : UInt64) (Jvm.FP.Core.ddiv (Jvm.FP.Core.dmul (4604930618986332160 : UInt64) (Jvm.FP.Core.i2d len)) d)))), .second] [(.double (4612586738352862003 : UInt64)), (.double tq)])) _
    refine XS.dmulS X22.here hx rfl (hb hby d3_26) rfl ok.2.2.2.2.1 rfl ?_
    show Steps p.tables e below (T22.setTop (mkF m 27 #[.val (.ref a), .val (.double tq), .second, .val (.int f), .val (.int len), .val (.double (Jvm.FP.Core.dmul (4608983858650965606 : UInt64) (Jvm.FP.Core.dadd (4598175219545276416 : UInt64) (Jvm.FP.Core.ddiv (Jvm.FP.Core.dmul (4604930618986332160 : UInt64) (Jvm.FP.Core.i2d len)) d)))), .second] [(.double (Jvm.FP.Core.dmul tq (4612586738352862003 : UInt64)))])) _
    refine XS.iloadN X22.here hx rfl (hb hby d3_27) rfl ?_
    show Steps p.tables e below (T22.setTop (mkF m 28 #[.val (.ref a), .val (.double tq), .second, .val (.int f), .val (.int len), .val (.double (Jvm.FP.Core.dmul (4608983858650965606 : UInt64) (Jvm.FP.Core.dadd (4598175219545276416 : UInt64) (Jvm.FP.Core.ddiv (Jvm.FP.Core.dmul (4604930618986332160 : UInt64) (Jvm.FP.Core.i2d len)) d)))), .second] [(.int f), (.double (Jvm.FP.Core.dmul tq (4612586738352862003 : UInt64)))])) _
    refine XS.i2dS X22.here hx rfl (hb hby d3_28) rfl rfl ?_
    show Steps p.tables e below (T22.setTop (mkF m 29 #[.val (.ref a), .val (.double tq), .second, .val (.int f), .val (.int len), .val (.double (Jvm.FP.Core.dmul (4608983858650965606 : UInt64) (Jvm.FP.Core.dadd (4598175219545276416 : UInt64) (Jvm.FP.Core.ddiv (Jvm.FP.Core.dmul (4604930618986332160 : UInt64) (Jvm.FP.Core.i2d len)) d)))), .second] [(.double (Jvm.FP.Core.i2d f)), (.double (Jvm.FP.Core.dmul tq (4612586738352862003 : UInt64)))])) _
    refine XS.dmulS X22.here hx rfl (hb hby d3_29) rfl ok.2.2.2.2.2.1 rfl ?_
    show Steps p.tables e below (T22.setTop (mkF m 30 #[.val (.ref a), .val (.double tq), .second, .val (.int f), .val (.int len), .val (.double (Jvm.FP.Core.dmul (4608983858650965606 : UInt64) (Jvm.FP.Core.dadd (4598175219545276416 : UInt64) (Jvm.FP.Core.ddiv (Jvm.FP.Core.dmul (4604930618986332160 : UInt64) (Jvm.FP.Core.i2d len)) d)))), .second] [(.double (Jvm.FP.Core.dmul (Jvm.FP.Core.dmul tq (4612586738352862003 : UInt64)) (Jvm.FP.Core.i2d f)))])) _
    refine XS.dload X22.here hx rfl (hb hby d3_30) rfl ?_
    show Steps p.tables e below (T22.setTop (mkF m 32 #[.val (.ref a), .val (.double tq), .second, .val (.int f), .val (.int len), .val (.double (Jvm.FP.Core.dmul (4608983858650965606 : UInt64) (Jvm.FP.Core.dadd (4598175219545276416 : UInt64) (Jvm.FP.Core.ddiv (Jvm.FP.Core.dmul (4604930618986332160 : UInt64) (Jvm.FP.Core.i2d len)) d)))), .second] [(.double (Jvm.FP.Core.dmul (4608983858650965606 : UInt64) (Jvm.FP.Core.dadd (4598175219545276416 : UInt64) (Jvm.FP.Core.ddiv (Jvm.FP.Core.dmul (4604930618986332160 : UInt64) (Jvm.FP.Core.i2d len)) d)))), (.double (Jvm.FP.Core.dmul (Jvm.FP.Core.dmul tq (4612586738352862003 : UInt64)) (Jvm.FP.Core.i2d f)))])) _
    refine XS.iloadN X22.here hx rfl (hb hby d3_32) rfl ?_
    show Steps p.tables e below (T22.setTop (mkF m 33 #[.val (.ref a), .val (.double tq), .second, .val (.int f), .val (.int len), .val (.double (Jvm.FP.Core.dmul (4608983858650965606 : UInt64) (Jvm.FP.Core.dadd (4598175219545276416 : UInt64) (Jvm.FP.Core.ddiv (Jvm.FP.Core.dmul (4604930618986332160 : UInt64) (Jvm.FP.Core.i2d len)) d)))), .second] [(.int f), (.double (Jvm.FP.Core.dmul (4608983858650965606 : UInt64) (Jvm.FP.Core.dadd (4598175219545276416 : UInt64) (Jvm.FP.Core.ddiv (Jvm.FP.Core.dmul (4604930618986332160 : UInt64) (Jvm.FP.Core.i2d len)) d)))), (.double (Jvm.FP.Core.dmul (Jvm.FP.Core.dmul tq (4612586738352862003 : UInt64)) (Jvm.FP.Core.i2d f)))])) _
    refine XS.i2dS X22.here hx rfl (hb hby d3_33) rfl rfl ?_
    show Steps p.tables e below (T22.setTop (mkF m 34 #[.val (.ref a), .val (.double tq), .second, .val (.int f), .val (.int len), .val (.double (Jvm.FP.Core.dmul (4608983858650965606 : UInt64) (Jvm.FP.Core.dadd (4598175219545276416 : UInt64) (Jvm.FP.Core.ddiv (Jvm.FP.Core.dmul (4604930618986332160 : UInt64) (Jvm.FP.Core.i2d len)) d)))), .second] [(.double (Jvm.FP.Core.i2d f)), (.double (Jvm.FP.Core.dmul (4608983858650965606 : UInt64) (Jvm.FP.Core.dadd (4598175219545276416 : UInt64) (Jvm.FP.Core.ddiv (Jvm.FP.Core.dmul (4604930618986332160 : UInt64) (Jvm.FP.Core.i2d len)) d)))), (.double (Jvm.FP.Core.dmul (Jvm.FP.Core.dmul tq (4612586738352862003 : UInt64)) (Jvm.FP.Core.i2d f)))])) _
    refine XS.daddS X22.here hx rfl (hb hby d3_34) rfl ok.2.2.2.2.2.2.1 rfl ?_
    show Steps p.tables e below (T22.setTop (mkF m 35 #[.val (.ref a), .val (.double tq), .second, .val (.int f), .val (.int len), .val (.double (Jvm.FP.Core.dmul (4608983858650965606 : UInt64) (Jvm.FP.Core.dadd (4598175219545276416 : UInt64) (Jvm.FP.Core.ddiv (Jvm.FP.Core.dmul (4604930618986332160 : UInt64) (Jvm.FP.Core.i2d len)) d)))), .second] [(.double (Jvm.FP.Core.dadd (Jvm.FP.Core.dmul (4608983858650965606 : UInt64) (Jvm.FP.Core.dadd (4598175219545276416 : UInt64) (Jvm.FP.Core.ddiv (Jvm.FP.Core.dmul (4604930618986332160 : UInt64) (Jvm.FP.Core.i2d len)) d))) (Jvm.FP.Core.i2d f))), (.double (Jvm.FP.Core.dmul (Jvm.FP.Core.dmul tq (4612586738352862003 : UInt64)) (Jvm.FP.Core.i2d f)))])) _
    refine XS.ddivS X22.here hx rfl (hb hby d3_35) rfl ok.2.2.2.2.2.2.2 rfl ?_
    exact k)
  obtain ⟨fs, hr, hrun, hended, hW, hsame⟩ := X22.leave (v := some (.double (Jvm.FP.Core.ddiv (Jvm.FP.Core.dmul (Jvm.FP.Core.dmul tq (4612586738352862003 : UInt64)) (Jvm.FP.Core.i2d f)) (Jvm.FP.Core.dadd (Jvm.FP.Core.dmul (4608983858650965606 : UInt64) (Jvm.FP.Core.dadd (4598175219545276416 : UInt64) (Jvm.FP.Core.ddiv (Jvm.FP.Core.dmul (4604930618986332160 : UInt64) (Jvm.FP.Core.i2d len)) d))) (Jvm.FP.Core.i2d f))))) (fun h => by rw [Bd.returns] at h; cases h)
  refine ⟨_, _, k24 _ ?_, hrun, hended, _, _, rfl, ?_, ⟨_, rfl⟩, hW, hsame.mono (by decide) (by decide)⟩
  · show Steps p.tables e below (T22.setTop (mkF m 36 #[.val (.ref a), .val (.double tq), .second, .val (.int f), .val (.int len), .val (.double (Jvm.FP.Core.dmul (4608983858650965606 : UInt64) (Jvm.FP.Core.dadd (4598175219545276416 : UInt64) (Jvm.FP.Core.ddiv (Jvm.FP.Core.dmul (4604930618986332160 : UInt64) (Jvm.FP.Core.i2d len)) d)))), .second] [(.double (Jvm.FP.Core.ddiv (Jvm.FP.Core.dmul (Jvm.FP.Core.dmul tq (4612586738352862003 : UInt64)) (Jvm.FP.Core.i2d f)) (Jvm.FP.Core.dadd (Jvm.FP.Core.dmul (4608983858650965606 : UInt64) (Jvm.FP.Core.dadd (4598175219545276416 : UInt64) (Jvm.FP.Core.ddiv (Jvm.FP.Core.dmul (4604930618986332160 : UInt64) (Jvm.FP.Core.i2d len)) d))) (Jvm.FP.Core.i2d f))))])) _
    exact retOut X22 hx Bd.returns rfl (Or.inr (Or.inr (Or.inl ⟨rfl, rfl, _, rfl⟩))) (hb hby d3_36) hr
  · show Q3 Z a tq f len d h0 n0 _ T22.heap _
    rw [e22]
    exact ⟨rfl, N0, rfl⟩
theorem pn_1 : plainName "com/example/wegweiser/wegweiser/search/Bm25GainPinLaw" = true := by first | (simp [plainName, overriddenIn]; done) | decide +kernel
theorem pd_0 : parseMethodDescriptor "(ID)V" = some ⟨[.int, .double], none⟩ := by decide +kernel
theorem pd_1 : parseMethodDescriptor "(DII)D" = some ⟨[.double, .int, .int], some .double⟩ := by decide +kernel
theorem ef_0 (m : MethodId) (x0 : Int32) (x1 : Int32) (x2 : Int32) (x3 : Int32) (x4 : Int32) : entryFrame m #[(.int x0), (.int x1), (.int x2), (.int x3), (.int x4)] maxLocals = mkF m 0 #[.val (.int x0), .val (.int x1), .val (.int x2), .val (.int x3), .val (.int x4), .unset, .unset, .unset, .unset, .unset, .unset, .unset, .unset, .unset, .unset, .unset, .unset, .unset, .unset, .unset, .unset, .unset, .unset, .unset, .unset, .unset, .unset, .unset, .unset, .unset, .unset, .unset, .unset, .unset, .unset] [] := by first | (simp [entryFrame, mkF, argsToLocals, Value.category, maxLocals]; done) | rfl
def Q0 (Z : State) (p0 : Int32) (p1 : Int32) (p2 : Int32) (p3 : Int32) (p4 : Int32) (h0 : Heap) (n0 : Nat) (v : Option Value) (h : Heap) (L : List Loc) : Prop := v = some (.int 1) ∧ Fr n0 L
set_option maxRecDepth 65536 in
set_option maxHeartbeats 40000000 in
theorem rm0 (l : Launch) (Z : State) (a0 : Array Value) (hw : ∀ d ∈ tables_1, d.before a0 Z = true) (ws : List Jvm.Cond) (p0 : Int32) (p1 : Int32) (p2 : Int32) (p3 : Int32) (p4 : Int32) (h0 : Heap) (n0 : Nat) (Z0 : n0 ≤ h0.size) :
    MetFree l x (head1 (Jvm.Cond.code x code maxLocals ret :: ws) room_1) (fun aa U => aa = #[(.int p0), (.int p1), (.int p2), (.int p3), (.int p4)] ∧ Z.Warmed39 U.vm ∧ U.heap = h0) (fun _ _ _ _ _ => True) (fun _ U o U' => ∃ v L, o = .returned v ∧ Q0 Z p0 p1 p2 p3 p4 h0 n0 v U'.heap L ∧ FrameEnd U o U' L room_1.cells room_1.slots) := by
  refine MetFree.of_bodySF (plainFor_of_name pn_1) hisR ?_
  intro p e s m args below meth c s₁ Bd hml0 hP hK
  obtain ⟨rfl, hZ, hh⟩ := hP
  have hx := Bd.exec
  have hby := Bd.bytes
  have hml : c.maxLocals = 35 := hml0
  have hown : s.vm.findClass "com/example/wegweiser/wegweiser/search/Bm25GainPinLaw" = some m.cls := findClass_of_methodNamed Bd.named
  have hnm := (name_of_methodNamed Bd.named Bd.method).1
  have X0 : Stand p l e room_1 s m #[(.int p0), (.int p1), (.int p2), (.int p3), (.int p4)] below meth c s₁ [] 0 0 := Stand.of_body Bd
  have e0 : s₁.heap = h0 := by rw [← hh, Bd.state]; rfl
  have N0 := Fr.nil n0
  have pre0 : ∀ t, Steps p.tables e below (s₁.setTop (mkF m 0 #[.val (.int p0), .val (.int p1), .val (.int p2), .val (.int p3), .val (.int p4), .unset, .unset, .unset, .unset, .unset, .unset, .unset, .unset, .unset, .unset, .unset, .unset, .unset, .unset, .unset, .unset, .unset, .unset, .unset, .unset, .unset, .unset, .unset, .unset, .unset, .unset, .unset, .unset, .unset, .unset] [])) t → Steps p.tables e below (s₁.setTop (entryFrame m #[(.int p0), (.int p1), (.int p2), (.int p3), (.int p4)] maxLocals)) t := fun t k => castTop (ef_0 m p0 p1 p2 p3 p4) k
  have k26 : ∀ t, Steps p.tables e below (s₁.setTop (mkF m 16 #[.val (.int p0), .val (.int p1), .val (.int p2), .val (.int p3), .val (.int p4), .val (.int ((1 : Int32) + (p1 &&& (65535 : Int32)))), .val (.int ((1 : Int32) + (p1 &&& (1073741823 : Int32)))), .unset, .unset, .unset, .unset, .unset, .unset, .unset, .unset, .unset, .unset, .unset, .unset, .unset, .unset, .unset, .unset, .unset, .unset, .unset, .unset, .unset, .unset, .unset, .unset, .unset, .unset, .unset, .unset] [])) t → Steps p.tables e below (s₁.setTop (entryFrame m #[(.int p0), (.int p1), (.int p2), (.int p3), (.int p4)] maxLocals)) t := fun t k => pre0 t (by
    show Steps p.tables e below (s₁.setTop (mkF m 0 #[.val (.int p0), .val (.int p1), .val (.int p2), .val (.int p3), .val (.int p4), .unset, .unset, .unset, .unset, .unset, .unset, .unset, .unset, .unset, .unset, .unset, .unset, .unset, .unset, .unset, .unset, .unset, .unset, .unset, .unset, .unset, .unset, .unset, .unset, .unset, .unset, .unset, .unset, .unset, .unset] [])) _
    refine XS.iconst X0.here hx rfl (hb hby at_0) ?_
    show Steps p.tables e below (s₁.setTop (mkF m 1 #[.val (.int p0), .val (.int p1), .val (.int p2), .val (.int p3), .val (.int p4), .unset, .unset, .unset, .unset, .unset, .unset, .unset, .unset, .unset, .unset, .unset, .unset, .unset, .unset, .unset, .unset, .unset, .unset, .unset, .unset, .unset, .unset, .unset, .unset, .unset, .unset, .unset, .unset, .unset, .unset] [(.int (1 : Int32))])) _
    refine XS.iloadN X0.here hx rfl (hb hby at_1) rfl ?_
    show Steps p.tables e below (s₁.setTop (mkF m 2 #[.val (.int p0), .val (.int p1), .val (.int p2), .val (.int p3), .val (.int p4), .unset, .unset, .unset, .unset, .unset, .unset, .unset, .unset, .unset, .unset, .unset, .unset, .unset, .unset, .unset, .unset, .unset, .unset, .unset, .unset, .unset, .unset, .unset, .unset, .unset, .unset, .unset, .unset, .unset, .unset] [(.int p1), (.int (1 : Int32))])) _
    refine X0.ldcInt hx hown (mvT hZ (hw _ (List.mem_of_getElem? (i := 0) rfl))) (g := (mkF m 2 #[.val (.int p0), .val (.int p1), .val (.int p2), .val (.int p3), .val (.int p4), .unset, .unset, .unset, .unset, .unset, .unset, .unset, .unset, .unset, .unset, .unset, .unset, .unset, .unset, .unset, .unset, .unset, .unset, .unset, .unset, .unset, .unset, .unset, .unset, .unset, .unset, .unset, .unset, .unset, .unset] [(.int p1), (.int (1 : Int32))])) rfl (hb hby at_2) _ ?_
    show Steps p.tables e below (s₁.setTop (mkF m 4 #[.val (.int p0), .val (.int p1), .val (.int p2), .val (.int p3), .val (.int p4), .unset, .unset, .unset, .unset, .unset, .unset, .unset, .unset, .unset, .unset, .unset, .unset, .unset, .unset, .unset, .unset, .unset, .unset, .unset, .unset, .unset, .unset, .unset, .unset, .unset, .unset, .unset, .unset, .unset, .unset] [(.int (65535 : Int32)), (.int p1), (.int (1 : Int32))])) _
    refine XS.iand X0.here hx rfl (hb hby at_4) rfl ?_
    show Steps p.tables e below (s₁.setTop (mkF m 5 #[.val (.int p0), .val (.int p1), .val (.int p2), .val (.int p3), .val (.int p4), .unset, .unset, .unset, .unset, .unset, .unset, .unset, .unset, .unset, .unset, .unset, .unset, .unset, .unset, .unset, .unset, .unset, .unset, .unset, .unset, .unset, .unset, .unset, .unset, .unset, .unset, .unset, .unset, .unset, .unset] [(.int (p1 &&& (65535 : Int32))), (.int (1 : Int32))])) _
    refine XS.iadd X0.here hx rfl (hb hby at_5) rfl ?_
    show Steps p.tables e below (s₁.setTop (mkF m 6 #[.val (.int p0), .val (.int p1), .val (.int p2), .val (.int p3), .val (.int p4), .unset, .unset, .unset, .unset, .unset, .unset, .unset, .unset, .unset, .unset, .unset, .unset, .unset, .unset, .unset, .unset, .unset, .unset, .unset, .unset, .unset, .unset, .unset, .unset, .unset, .unset, .unset, .unset, .unset, .unset] [(.int ((1 : Int32) + (p1 &&& (65535 : Int32))))])) _
    refine XS.istore X0.here hx rfl (hb hby at_6) rfl (l' := #[.val (.int p0), .val (.int p1), .val (.int p2), .val (.int p3), .val (.int p4), .val (.int ((1 : Int32) + (p1 &&& (65535 : Int32)))), .unset, .unset, .unset, .unset, .unset, .unset, .unset, .unset, .unset, .unset, .unset, .unset, .unset, .unset, .unset, .unset, .unset, .unset, .unset, .unset, .unset, .unset, .unset, .unset, .unset, .unset, .unset, .unset, .unset]) rfl ?_
    show Steps p.tables e below (s₁.setTop (mkF m 8 #[.val (.int p0), .val (.int p1), .val (.int p2), .val (.int p3), .val (.int p4), .val (.int ((1 : Int32) + (p1 &&& (65535 : Int32)))), .unset, .unset, .unset, .unset, .unset, .unset, .unset, .unset, .unset, .unset, .unset, .unset, .unset, .unset, .unset, .unset, .unset, .unset, .unset, .unset, .unset, .unset, .unset, .unset, .unset, .unset, .unset, .unset, .unset] [])) _
    refine XS.iconst X0.here hx rfl (hb hby at_8) ?_
    show Steps p.tables e below (s₁.setTop (mkF m 9 #[.val (.int p0), .val (.int p1), .val (.int p2), .val (.int p3), .val (.int p4), .val (.int ((1 : Int32) + (p1 &&& (65535 : Int32)))), .unset, .unset, .unset, .unset, .unset, .unset, .unset, .unset, .unset, .unset, .unset, .unset, .unset, .unset, .unset, .unset, .unset, .unset, .unset, .unset, .unset, .unset, .unset, .unset, .unset, .unset, .unset, .unset, .unset] [(.int (1 : Int32))])) _
    refine XS.iloadN X0.here hx rfl (hb hby at_9) rfl ?_
    show Steps p.tables e below (s₁.setTop (mkF m 10 #[.val (.int p0), .val (.int p1), .val (.int p2), .val (.int p3), .val (.int p4), .val (.int ((1 : Int32) + (p1 &&& (65535 : Int32)))), .unset, .unset, .unset, .unset, .unset, .unset, .unset, .unset, .unset, .unset, .unset, .unset, .unset, .unset, .unset, .unset, .unset, .unset, .unset, .unset, .unset, .unset, .unset, .unset, .unset, .unset, .unset, .unset, .unset] [(.int p1), (.int (1 : Int32))])) _
    refine X0.ldcInt hx hown (mvT hZ (hw _ (List.mem_of_getElem? (i := 1) rfl))) (g := (mkF m 10 #[.val (.int p0), .val (.int p1), .val (.int p2), .val (.int p3), .val (.int p4), .val (.int ((1 : Int32) + (p1 &&& (65535 : Int32)))), .unset, .unset, .unset, .unset, .unset, .unset, .unset, .unset, .unset, .unset, .unset, .unset, .unset, .unset, .unset, .unset, .unset, .unset, .unset, .unset, .unset, .unset, .unset, .unset, .unset, .unset, .unset, .unset, .unset] [(.int p1), (.int (1 : Int32))])) rfl (hb hby at_10) _ ?_
    show Steps p.tables e below (s₁.setTop (mkF m 12 #[.val (.int p0), .val (.int p1), .val (.int p2), .val (.int p3), .val (.int p4), .val (.int ((1 : Int32) + (p1 &&& (65535 : Int32)))), .unset, .unset, .unset, .unset, .unset, .unset, .unset, .unset, .unset, .unset, .unset, .unset, .unset, .unset, .unset, .unset, .unset, .unset, .unset, .unset, .unset, .unset, .unset, .unset, .unset, .unset, .unset, .unset, .unset] [(.int (1073741823 : Int32)), (.int p1), (.int (1 : Int32))])) _
    refine XS.iand X0.here hx rfl (hb hby at_12) rfl ?_
    show Steps p.tables e below (s₁.setTop (mkF m 13 #[.val (.int p0), .val (.int p1), .val (.int p2), .val (.int p3), .val (.int p4), .val (.int ((1 : Int32) + (p1 &&& (65535 : Int32)))), .unset, .unset, .unset, .unset, .unset, .unset, .unset, .unset, .unset, .unset, .unset, .unset, .unset, .unset, .unset, .unset, .unset, .unset, .unset, .unset, .unset, .unset, .unset, .unset, .unset, .unset, .unset, .unset, .unset] [(.int (p1 &&& (1073741823 : Int32))), (.int (1 : Int32))])) _
    refine XS.iadd X0.here hx rfl (hb hby at_13) rfl ?_
    show Steps p.tables e below (s₁.setTop (mkF m 14 #[.val (.int p0), .val (.int p1), .val (.int p2), .val (.int p3), .val (.int p4), .val (.int ((1 : Int32) + (p1 &&& (65535 : Int32)))), .unset, .unset, .unset, .unset, .unset, .unset, .unset, .unset, .unset, .unset, .unset, .unset, .unset, .unset, .unset, .unset, .unset, .unset, .unset, .unset, .unset, .unset, .unset, .unset, .unset, .unset, .unset, .unset, .unset] [(.int ((1 : Int32) + (p1 &&& (1073741823 : Int32))))])) _
    refine XS.istore X0.here hx rfl (hb hby at_14) rfl (l' := #[.val (.int p0), .val (.int p1), .val (.int p2), .val (.int p3), .val (.int p4), .val (.int ((1 : Int32) + (p1 &&& (65535 : Int32)))), .val (.int ((1 : Int32) + (p1 &&& (1073741823 : Int32)))), .unset, .unset, .unset, .unset, .unset, .unset, .unset, .unset, .unset, .unset, .unset, .unset, .unset, .unset, .unset, .unset, .unset, .unset, .unset, .unset, .unset, .unset, .unset, .unset, .unset, .unset, .unset, .unset]) rfl ?_
    exact k)
  obtain ⟨avgI, e1⟩ : ∃ zz_ : Int32, zz_ = ((1 : Int32) + (p1 &&& (65535 : Int32))) := ⟨_, rfl⟩
  rw [← e1] at k26
  obtain ⟨ai, e2⟩ : ∃ zz_ : Int32, zz_ = ((1 : Int32) + (p1 &&& (1073741823 : Int32))) := ⟨_, rfl⟩
  rw [← e2] at k26
  have k27 : ∀ t, Steps p.tables e below (s₁.setTop (mkF m 27 #[.val (.int p0), .val (.int p1), .val (.int p2), .val (.int p3), .val (.int p4), .val (.int avgI), .val (.int ai), .val (.double (Jvm.FP.Core.i2d avgI)), .second, .unset, .unset, .unset, .unset, .unset, .unset, .unset, .unset, .unset, .unset, .unset, .unset, .unset, .unset, .unset, .unset, .unset, .unset, .unset, .unset, .unset, .unset, .unset, .unset, .unset, .unset] [(.int ((1 : Int32) + (p2 &&& (1048575 : Int32))))])) t → Steps p.tables e below (s₁.setTop (entryFrame m #[(.int p0), (.int p1), (.int p2), (.int p3), (.int p4)] maxLocals)) t := fun t k => k26 t (by
    show Steps p.tables e below (s₁.setTop (mkF m 16 #[.val (.int p0), .val (.int p1), .val (.int p2), .val (.int p3), .val (.int p4), .val (.int avgI), .val (.int ai), .unset, .unset, .unset, .unset, .unset, .unset, .unset, .unset, .unset, .unset, .unset, .unset, .unset, .unset, .unset, .unset, .unset, .unset, .unset, .unset, .unset, .unset, .unset, .unset, .unset, .unset, .unset, .unset] [])) _
    refine XS.iload X0.here hx rfl (hb hby at_16) rfl ?_
    show Steps p.tables e below (s₁.setTop (mkF m 18 #[.val (.int p0), .val (.int p1), .val (.int p2), .val (.int p3), .val (.int p4), .val (.int avgI), .val (.int ai), .unset, .unset, .unset, .unset, .unset, .unset, .unset, .unset, .unset, .unset, .unset, .unset, .unset, .unset, .unset, .unset, .unset, .unset, .unset, .unset, .unset, .unset, .unset, .unset, .unset, .unset, .unset, .unset] [(.int avgI)])) _
    refine XS.i2dS X0.here hx rfl (hb hby at_18) rfl rfl ?_
    show Steps p.tables e below (s₁.setTop (mkF m 19 #[.val (.int p0), .val (.int p1), .val (.int p2), .val (.int p3), .val (.int p4), .val (.int avgI), .val (.int ai), .unset, .unset, .unset, .unset, .unset, .unset, .unset, .unset, .unset, .unset, .unset, .unset, .unset, .unset, .unset, .unset, .unset, .unset, .unset, .unset, .unset, .unset, .unset, .unset, .unset, .unset, .unset, .unset] [(.double (Jvm.FP.Core.i2d avgI))])) _
    refine XS.dstore X0.here hx rfl (hb hby at_19) rfl (l' := #[.val (.int p0), .val (.int p1), .val (.int p2), .val (.int p3), .val (.int p4), .val (.int avgI), .val (.int ai), .val (.double (Jvm.FP.Core.i2d avgI)), .second, .unset, .unset, .unset, .unset, .unset, .unset, .unset, .unset, .unset, .unset, .unset, .unset, .unset, .unset, .unset, .unset, .unset, .unset, .unset, .unset, .unset, .unset, .unset, .unset, .unset, .unset]) rfl ?_
    show Steps p.tables e below (s₁.setTop (mkF m 21 #[.val (.int p0), .val (.int p1), .val (.int p2), .val (.int p3), .val (.int p4), .val (.int avgI), .val (.int ai), .val (.double (Jvm.FP.Core.i2d avgI)), .second, .unset, .unset, .unset, .unset, .unset, .unset, .unset, .unset, .unset, .unset, .unset, .unset, .unset, .unset, .unset, .unset, .unset, .unset, .unset, .unset, .unset, .unset, .unset, .unset, .unset, .unset] [])) _
    refine XS.iconst X0.here hx rfl (hb hby at_21) ?_
    show Steps p.tables e below (s₁.setTop (mkF m 22 #[.val (.int p0), .val (.int p1), .val (.int p2), .val (.int p3), .val (.int p4), .val (.int avgI), .val (.int ai), .val (.double (Jvm.FP.Core.i2d avgI)), .second, .unset, .unset, .unset, .unset, .unset, .unset, .unset, .unset, .unset, .unset, .unset, .unset, .unset, .unset, .unset, .unset, .unset, .unset, .unset, .unset, .unset, .unset, .unset, .unset, .unset, .unset] [(.int (1 : Int32))])) _
    refine XS.iloadN X0.here hx rfl (hb hby at_22) rfl ?_
    show Steps p.tables e below (s₁.setTop (mkF m 23 #[.val (.int p0), .val (.int p1), .val (.int p2), .val (.int p3), .val (.int p4), .val (.int avgI), .val (.int ai), .val (.double (Jvm.FP.Core.i2d avgI)), .second, .unset, .unset, .unset, .unset, .unset, .unset, .unset, .unset, .unset, .unset, .unset, .unset, .unset, .unset, .unset, .unset, .unset, .unset, .unset, .unset, .unset, .unset, .unset, .unset, .unset, .unset] [(.int p2), (.int (1 : Int32))])) _
    refine X0.ldcInt hx hown (mvT hZ (hw _ (List.mem_of_getElem? (i := 2) rfl))) (g := (mkF m 23 #[.val (.int p0), .val (.int p1), .val (.int p2), .val (.int p3), .val (.int p4), .val (.int avgI), .val (.int ai), .val (.double (Jvm.FP.Core.i2d avgI)), .second, .unset, .unset, .unset, .unset, .unset, .unset, .unset, .unset, .unset, .unset, .unset, .unset, .unset, .unset, .unset, .unset, .unset, .unset, .unset, .unset, .unset, .unset, .unset, .unset, .unset, .unset] [(.int p2), (.int (1 : Int32))])) rfl (hb hby at_23) _ ?_
    show Steps p.tables e below (s₁.setTop (mkF m 25 #[.val (.int p0), .val (.int p1), .val (.int p2), .val (.int p3), .val (.int p4), .val (.int avgI), .val (.int ai), .val (.double (Jvm.FP.Core.i2d avgI)), .second, .unset, .unset, .unset, .unset, .unset, .unset, .unset, .unset, .unset, .unset, .unset, .unset, .unset, .unset, .unset, .unset, .unset, .unset, .unset, .unset, .unset, .unset, .unset, .unset, .unset, .unset] [(.int (1048575 : Int32)), (.int p2), (.int (1 : Int32))])) _
    refine XS.iand X0.here hx rfl (hb hby at_25) rfl ?_
    show Steps p.tables e below (s₁.setTop (mkF m 26 #[.val (.int p0), .val (.int p1), .val (.int p2), .val (.int p3), .val (.int p4), .val (.int avgI), .val (.int ai), .val (.double (Jvm.FP.Core.i2d avgI)), .second, .unset, .unset, .unset, .unset, .unset, .unset, .unset, .unset, .unset, .unset, .unset, .unset, .unset, .unset, .unset, .unset, .unset, .unset, .unset, .unset, .unset, .unset, .unset, .unset, .unset, .unset] [(.int (p2 &&& (1048575 : Int32))), (.int (1 : Int32))])) _
    refine XS.iadd X0.here hx rfl (hb hby at_26) rfl ?_
    exact k)
  obtain ⟨twI, e3⟩ : ∃ zz_ : Int32, zz_ = ((1 : Int32) + (p2 &&& (1048575 : Int32))) := ⟨_, rfl⟩
  rw [← e3] at k27
  have k28 : ∀ t, Steps p.tables e below (s₁.setTop (mkF m 62 #[.val (.int p0), .val (.int p1), .val (.int p2), .val (.int p3), .val (.int p4), .val (.int avgI), .val (.int ai), .val (.double (Jvm.FP.Core.i2d avgI)), .second, .val (.double (Jvm.FP.Core.i2d twI)), .second, .val (.int (p3 &&& (2147483647 : Int32))), .val (.int (p3 &&& (65535 : Int32))), .val (.int (p3 &&& (536870911 : Int32))), .val (.int (p4 &&& (2147483647 : Int32))), .val (.int (p4 &&& (65535 : Int32))), .unset, .unset, .unset, .unset, .unset, .unset, .unset, .unset, .unset, .unset, .unset, .unset, .unset, .unset, .unset, .unset, .unset, .unset, .unset] [])) t → Steps p.tables e below (s₁.setTop (entryFrame m #[(.int p0), (.int p1), (.int p2), (.int p3), (.int p4)] maxLocals)) t := fun t k => k27 t (by
    show Steps p.tables e below (s₁.setTop (mkF m 27 #[.val (.int p0), .val (.int p1), .val (.int p2), .val (.int p3), .val (.int p4), .val (.int avgI), .val (.int ai), .val (.double (Jvm.FP.Core.i2d avgI)), .second, .unset, .unset, .unset, .unset, .unset, .unset, .unset, .unset, .unset, .unset, .unset, .unset, .unset, .unset, .unset, .unset, .unset, .unset, .unset, .unset, .unset, .unset, .unset, .unset, .unset, .unset] [(.int twI)])) _
    refine XS.i2dS X0.here hx rfl (hb hby at_27) rfl rfl ?_
    show Steps p.tables e below (s₁.setTop (mkF m 28 #[.val (.int p0), .val (.int p1), .val (.int p2), .val (.int p3), .val (.int p4), .val (.int avgI), .val (.int ai), .val (.double (Jvm.FP.Core.i2d avgI)), .second, .unset, .unset, .unset, .unset, .unset, .unset, .unset, .unset, .unset, .unset, .unset, .unset, .unset, .unset, .unset, .unset, .unset, .unset, .unset, .unset, .unset, .unset, .unset, .unset, .unset, .unset] [(.double (Jvm.FP.Core.i2d twI))])) _
    refine XS.dstore X0.here hx rfl (hb hby at_28) rfl (l' := #[.val (.int p0), .val (.int p1), .val (.int p2), .val (.int p3), .val (.int p4), .val (.int avgI), .val (.int ai), .val (.double (Jvm.FP.Core.i2d avgI)), .second, .val (.double (Jvm.FP.Core.i2d twI)), .second, .unset, .unset, .unset, .unset, .unset, .unset, .unset, .unset, .unset, .unset, .unset, .unset, .unset, .unset, .unset, .unset, .unset, .unset, .unset, .unset, .unset, .unset, .unset, .unset]) rfl ?_
    show Steps p.tables e below (s₁.setTop (mkF m 30 #[.val (.int p0), .val (.int p1), .val (.int p2), .val (.int p3), .val (.int p4), .val (.int avgI), .val (.int ai), .val (.double (Jvm.FP.Core.i2d avgI)), .second, .val (.double (Jvm.FP.Core.i2d twI)), .second, .unset, .unset, .unset, .unset, .unset, .unset, .unset, .unset, .unset, .unset, .unset, .unset, .unset, .unset, .unset, .unset, .unset, .unset, .unset, .unset, .unset, .unset, .unset, .unset] [])) _
    refine XS.iloadN X0.here hx rfl (hb hby at_30) rfl ?_
    show Steps p.tables e below (s₁.setTop (mkF m 31 #[.val (.int p0), .val (.int p1), .val (.int p2), .val (.int p3), .val (.int p4), .val (.int avgI), .val (.int ai), .val (.double (Jvm.FP.Core.i2d avgI)), .second, .val (.double (Jvm.FP.Core.i2d twI)), .second, .unset, .unset, .unset, .unset, .unset, .unset, .unset, .unset, .unset, .unset, .unset, .unset, .unset, .unset, .unset, .unset, .unset, .unset, .unset, .unset, .unset, .unset, .unset, .unset] [(.int p3)])) _
    refine X0.ldcInt hx hown (mvT hZ (hw _ (List.mem_of_getElem? (i := 3) rfl))) (g := (mkF m 31 #[.val (.int p0), .val (.int p1), .val (.int p2), .val (.int p3), .val (.int p4), .val (.int avgI), .val (.int ai), .val (.double (Jvm.FP.Core.i2d avgI)), .second, .val (.double (Jvm.FP.Core.i2d twI)), .second, .unset, .unset, .unset, .unset, .unset, .unset, .unset, .unset, .unset, .unset, .unset, .unset, .unset, .unset, .unset, .unset, .unset, .unset, .unset, .unset, .unset, .unset, .unset, .unset] [(.int p3)])) rfl (hb hby at_31) _ ?_
    show Steps p.tables e below (s₁.setTop (mkF m 33 #[.val (.int p0), .val (.int p1), .val (.int p2), .val (.int p3), .val (.int p4), .val (.int avgI), .val (.int ai), .val (.double (Jvm.FP.Core.i2d avgI)), .second, .val (.double (Jvm.FP.Core.i2d twI)), .second, .unset, .unset, .unset, .unset, .unset, .unset, .unset, .unset, .unset, .unset, .unset, .unset, .unset, .unset, .unset, .unset, .unset, .unset, .unset, .unset, .unset, .unset, .unset, .unset] [(.int (2147483647 : Int32)), (.int p3)])) _
    refine XS.iand X0.here hx rfl (hb hby at_33) rfl ?_
    show Steps p.tables e below (s₁.setTop (mkF m 34 #[.val (.int p0), .val (.int p1), .val (.int p2), .val (.int p3), .val (.int p4), .val (.int avgI), .val (.int ai), .val (.double (Jvm.FP.Core.i2d avgI)), .second, .val (.double (Jvm.FP.Core.i2d twI)), .second, .unset, .unset, .unset, .unset, .unset, .unset, .unset, .unset, .unset, .unset, .unset, .unset, .unset, .unset, .unset, .unset, .unset, .unset, .unset, .unset, .unset, .unset, .unset, .unset] [(.int (p3 &&& (2147483647 : Int32)))])) _
    refine XS.istore X0.here hx rfl (hb hby at_34) rfl (l' := #[.val (.int p0), .val (.int p1), .val (.int p2), .val (.int p3), .val (.int p4), .val (.int avgI), .val (.int ai), .val (.double (Jvm.FP.Core.i2d avgI)), .second, .val (.double (Jvm.FP.Core.i2d twI)), .second, .val (.int (p3 &&& (2147483647 : Int32))), .unset, .unset, .unset, .unset, .unset, .unset, .unset, .unset, .unset, .unset, .unset, .unset, .unset, .unset, .unset, .unset, .unset, .unset, .unset, .unset, .unset, .unset, .unset]) rfl ?_
    show Steps p.tables e below (s₁.setTop (mkF m 36 #[.val (.int p0), .val (.int p1), .val (.int p2), .val (.int p3), .val (.int p4), .val (.int avgI), .val (.int ai), .val (.double (Jvm.FP.Core.i2d avgI)), .second, .val (.double (Jvm.FP.Core.i2d twI)), .second, .val (.int (p3 &&& (2147483647 : Int32))), .unset, .unset, .unset, .unset, .unset, .unset, .unset, .unset, .unset, .unset, .unset, .unset, .unset, .unset, .unset, .unset, .unset, .unset, .unset, .unset, .unset, .unset, .unset] [])) _
    refine XS.iloadN X0.here hx rfl (hb hby at_36) rfl ?_
    show Steps p.tables e below (s₁.setTop (mkF m 37 #[.val (.int p0), .val (.int p1), .val (.int p2), .val (.int p3), .val (.int p4), .val (.int avgI), .val (.int ai), .val (.double (Jvm.FP.Core.i2d avgI)), .second, .val (.double (Jvm.FP.Core.i2d twI)), .second, .val (.int (p3 &&& (2147483647 : Int32))), .unset, .unset, .unset, .unset, .unset, .unset, .unset, .unset, .unset, .unset, .unset, .unset, .unset, .unset, .unset, .unset, .unset, .unset, .unset, .unset, .unset, .unset, .unset] [(.int p3)])) _
    refine X0.ldcInt hx hown (mvT hZ (hw _ (List.mem_of_getElem? (i := 0) rfl))) (g := (mkF m 37 #[.val (.int p0), .val (.int p1), .val (.int p2), .val (.int p3), .val (.int p4), .val (.int avgI), .val (.int ai), .val (.double (Jvm.FP.Core.i2d avgI)), .second, .val (.double (Jvm.FP.Core.i2d twI)), .second, .val (.int (p3 &&& (2147483647 : Int32))), .unset, .unset, .unset, .unset, .unset, .unset, .unset, .unset, .unset, .unset, .unset, .unset, .unset, .unset, .unset, .unset, .unset, .unset, .unset, .unset, .unset, .unset, .unset] [(.int p3)])) rfl (hb hby at_37) _ ?_
    show Steps p.tables e below (s₁.setTop (mkF m 39 #[.val (.int p0), .val (.int p1), .val (.int p2), .val (.int p3), .val (.int p4), .val (.int avgI), .val (.int ai), .val (.double (Jvm.FP.Core.i2d avgI)), .second, .val (.double (Jvm.FP.Core.i2d twI)), .second, .val (.int (p3 &&& (2147483647 : Int32))), .unset, .unset, .unset, .unset, .unset, .unset, .unset, .unset, .unset, .unset, .unset, .unset, .unset, .unset, .unset, .unset, .unset, .unset, .unset, .unset, .unset, .unset, .unset] [(.int (65535 : Int32)), (.int p3)])) _
    refine XS.iand X0.here hx rfl (hb hby at_39) rfl ?_
    show Steps p.tables e below (s₁.setTop (mkF m 40 #[.val (.int p0), .val (.int p1), .val (.int p2), .val (.int p3), .val (.int p4), .val (.int avgI), .val (.int ai), .val (.double (Jvm.FP.Core.i2d avgI)), .second, .val (.double (Jvm.FP.Core.i2d twI)), .second, .val (.int (p3 &&& (2147483647 : Int32))), .unset, .unset, .unset, .unset, .unset, .unset, .unset, .unset, .unset, .unset, .unset, .unset, .unset, .unset, .unset, .unset, .unset, .unset, .unset, .unset, .unset, .unset, .unset] [(.int (p3 &&& (65535 : Int32)))])) _
    refine XS.istore X0.here hx rfl (hb hby at_40) rfl (l' := #[.val (.int p0), .val (.int p1), .val (.int p2), .val (.int p3), .val (.int p4), .val (.int avgI), .val (.int ai), .val (.double (Jvm.FP.Core.i2d avgI)), .second, .val (.double (Jvm.FP.Core.i2d twI)), .second, .val (.int (p3 &&& (2147483647 : Int32))), .val (.int (p3 &&& (65535 : Int32))), .unset, .unset, .unset, .unset, .unset, .unset, .unset, .unset, .unset, .unset, .unset, .unset, .unset, .unset, .unset, .unset, .unset, .unset, .unset, .unset, .unset, .unset]) rfl ?_
    show Steps p.tables e below (s₁.setTop (mkF m 42 #[.val (.int p0), .val (.int p1), .val (.int p2), .val (.int p3), .val (.int p4), .val (.int avgI), .val (.int ai), .val (.double (Jvm.FP.Core.i2d avgI)), .second, .val (.double (Jvm.FP.Core.i2d twI)), .second, .val (.int (p3 &&& (2147483647 : Int32))), .val (.int (p3 &&& (65535 : Int32))), .unset, .unset, .unset, .unset, .unset, .unset, .unset, .unset, .unset, .unset, .unset, .unset, .unset, .unset, .unset, .unset, .unset, .unset, .unset, .unset, .unset, .unset] [])) _
    refine XS.iloadN X0.here hx rfl (hb hby at_42) rfl ?_
    show Steps p.tables e below (s₁.setTop (mkF m 43 #[.val (.int p0), .val (.int p1), .val (.int p2), .val (.int p3), .val (.int p4), .val (.int avgI), .val (.int ai), .val (.double (Jvm.FP.Core.i2d avgI)), .second, .val (.double (Jvm.FP.Core.i2d twI)), .second, .val (.int (p3 &&& (2147483647 : Int32))), .val (.int (p3 &&& (65535 : Int32))), .unset, .unset, .unset, .unset, .unset, .unset, .unset, .unset, .unset, .unset, .unset, .unset, .unset, .unset, .unset, .unset, .unset, .unset, .unset, .unset, .unset, .unset] [(.int p3)])) _
    refine X0.ldcInt hx hown (mvT hZ (hw _ (List.mem_of_getElem? (i := 4) rfl))) (g := (mkF m 43 #[.val (.int p0), .val (.int p1), .val (.int p2), .val (.int p3), .val (.int p4), .val (.int avgI), .val (.int ai), .val (.double (Jvm.FP.Core.i2d avgI)), .second, .val (.double (Jvm.FP.Core.i2d twI)), .second, .val (.int (p3 &&& (2147483647 : Int32))), .val (.int (p3 &&& (65535 : Int32))), .unset, .unset, .unset, .unset, .unset, .unset, .unset, .unset, .unset, .unset, .unset, .unset, .unset, .unset, .unset, .unset, .unset, .unset, .unset, .unset, .unset, .unset] [(.int p3)])) rfl (hb hby at_43) _ ?_
    show Steps p.tables e below (s₁.setTop (mkF m 45 #[.val (.int p0), .val (.int p1), .val (.int p2), .val (.int p3), .val (.int p4), .val (.int avgI), .val (.int ai), .val (.double (Jvm.FP.Core.i2d avgI)), .second, .val (.double (Jvm.FP.Core.i2d twI)), .second, .val (.int (p3 &&& (2147483647 : Int32))), .val (.int (p3 &&& (65535 : Int32))), .unset, .unset, .unset, .unset, .unset, .unset, .unset, .unset, .unset, .unset, .unset, .unset, .unset, .unset, .unset, .unset, .unset, .unset, .unset, .unset, .unset, .unset] [(.int (536870911 : Int32)), (.int p3)])) _
    refine XS.iand X0.here hx rfl (hb hby at_45) rfl ?_
    show Steps p.tables e below (s₁.setTop (mkF m 46 #[.val (.int p0), .val (.int p1), .val (.int p2), .val (.int p3), .val (.int p4), .val (.int avgI), .val (.int ai), .val (.double (Jvm.FP.Core.i2d avgI)), .second, .val (.double (Jvm.FP.Core.i2d twI)), .second, .val (.int (p3 &&& (2147483647 : Int32))), .val (.int (p3 &&& (65535 : Int32))), .unset, .unset, .unset, .unset, .unset, .unset, .unset, .unset, .unset, .unset, .unset, .unset, .unset, .unset, .unset, .unset, .unset, .unset, .unset, .unset, .unset, .unset] [(.int (p3 &&& (536870911 : Int32)))])) _
    refine XS.istore X0.here hx rfl (hb hby at_46) rfl (l' := #[.val (.int p0), .val (.int p1), .val (.int p2), .val (.int p3), .val (.int p4), .val (.int avgI), .val (.int ai), .val (.double (Jvm.FP.Core.i2d avgI)), .second, .val (.double (Jvm.FP.Core.i2d twI)), .second, .val (.int (p3 &&& (2147483647 : Int32))), .val (.int (p3 &&& (65535 : Int32))), .val (.int (p3 &&& (536870911 : Int32))), .unset, .unset, .unset, .unset, .unset, .unset, .unset, .unset, .unset, .unset, .unset, .unset, .unset, .unset, .unset, .unset, .unset, .unset, .unset, .unset, .unset]) rfl ?_
    show Steps p.tables e below (s₁.setTop (mkF m 48 #[.val (.int p0), .val (.int p1), .val (.int p2), .val (.int p3), .val (.int p4), .val (.int avgI), .val (.int ai), .val (.double (Jvm.FP.Core.i2d avgI)), .second, .val (.double (Jvm.FP.Core.i2d twI)), .second, .val (.int (p3 &&& (2147483647 : Int32))), .val (.int (p3 &&& (65535 : Int32))), .val (.int (p3 &&& (536870911 : Int32))), .unset, .unset, .unset, .unset, .unset, .unset, .unset, .unset, .unset, .unset, .unset, .unset, .unset, .unset, .unset, .unset, .unset, .unset, .unset, .unset, .unset] [])) _
    refine XS.iload X0.here hx rfl (hb hby at_48) rfl ?_
    show Steps p.tables e below (s₁.setTop (mkF m 50 #[.val (.int p0), .val (.int p1), .val (.int p2), .val (.int p3), .val (.int p4), .val (.int avgI), .val (.int ai), .val (.double (Jvm.FP.Core.i2d avgI)), .second, .val (.double (Jvm.FP.Core.i2d twI)), .second, .val (.int (p3 &&& (2147483647 : Int32))), .val (.int (p3 &&& (65535 : Int32))), .val (.int (p3 &&& (536870911 : Int32))), .unset, .unset, .unset, .unset, .unset, .unset, .unset, .unset, .unset, .unset, .unset, .unset, .unset, .unset, .unset, .unset, .unset, .unset, .unset, .unset, .unset] [(.int p4)])) _
    refine X0.ldcInt hx hown (mvT hZ (hw _ (List.mem_of_getElem? (i := 3) rfl))) (g := (mkF m 50 #[.val (.int p0), .val (.int p1), .val (.int p2), .val (.int p3), .val (.int p4), .val (.int avgI), .val (.int ai), .val (.double (Jvm.FP.Core.i2d avgI)), .second, .val (.double (Jvm.FP.Core.i2d twI)), .second, .val (.int (p3 &&& (2147483647 : Int32))), .val (.int (p3 &&& (65535 : Int32))), .val (.int (p3 &&& (536870911 : Int32))), .unset, .unset, .unset, .unset, .unset, .unset, .unset, .unset, .unset, .unset, .unset, .unset, .unset, .unset, .unset, .unset, .unset, .unset, .unset, .unset, .unset] [(.int p4)])) rfl (hb hby at_50) _ ?_
    show Steps p.tables e below (s₁.setTop (mkF m 52 #[.val (.int p0), .val (.int p1), .val (.int p2), .val (.int p3), .val (.int p4), .val (.int avgI), .val (.int ai), .val (.double (Jvm.FP.Core.i2d avgI)), .second, .val (.double (Jvm.FP.Core.i2d twI)), .second, .val (.int (p3 &&& (2147483647 : Int32))), .val (.int (p3 &&& (65535 : Int32))), .val (.int (p3 &&& (536870911 : Int32))), .unset, .unset, .unset, .unset, .unset, .unset, .unset, .unset, .unset, .unset, .unset, .unset, .unset, .unset, .unset, .unset, .unset, .unset, .unset, .unset, .unset] [(.int (2147483647 : Int32)), (.int p4)])) _
    refine XS.iand X0.here hx rfl (hb hby at_52) rfl ?_
    show Steps p.tables e below (s₁.setTop (mkF m 53 #[.val (.int p0), .val (.int p1), .val (.int p2), .val (.int p3), .val (.int p4), .val (.int avgI), .val (.int ai), .val (.double (Jvm.FP.Core.i2d avgI)), .second, .val (.double (Jvm.FP.Core.i2d twI)), .second, .val (.int (p3 &&& (2147483647 : Int32))), .val (.int (p3 &&& (65535 : Int32))), .val (.int (p3 &&& (536870911 : Int32))), .unset, .unset, .unset, .unset, .unset, .unset, .unset, .unset, .unset, .unset, .unset, .unset, .unset, .unset, .unset, .unset, .unset, .unset, .unset, .unset, .unset] [(.int (p4 &&& (2147483647 : Int32)))])) _
    refine XS.istore X0.here hx rfl (hb hby at_53) rfl (l' := #[.val (.int p0), .val (.int p1), .val (.int p2), .val (.int p3), .val (.int p4), .val (.int avgI), .val (.int ai), .val (.double (Jvm.FP.Core.i2d avgI)), .second, .val (.double (Jvm.FP.Core.i2d twI)), .second, .val (.int (p3 &&& (2147483647 : Int32))), .val (.int (p3 &&& (65535 : Int32))), .val (.int (p3 &&& (536870911 : Int32))), .val (.int (p4 &&& (2147483647 : Int32))), .unset, .unset, .unset, .unset, .unset, .unset, .unset, .unset, .unset, .unset, .unset, .unset, .unset, .unset, .unset, .unset, .unset, .unset, .unset, .unset]) rfl ?_
    show Steps p.tables e below (s₁.setTop (mkF m 55 #[.val (.int p0), .val (.int p1), .val (.int p2), .val (.int p3), .val (.int p4), .val (.int avgI), .val (.int ai), .val (.double (Jvm.FP.Core.i2d avgI)), .second, .val (.double (Jvm.FP.Core.i2d twI)), .second, .val (.int (p3 &&& (2147483647 : Int32))), .val (.int (p3 &&& (65535 : Int32))), .val (.int (p3 &&& (536870911 : Int32))), .val (.int (p4 &&& (2147483647 : Int32))), .unset, .unset, .unset, .unset, .unset, .unset, .unset, .unset, .unset, .unset, .unset, .unset, .unset, .unset, .unset, .unset, .unset, .unset, .unset, .unset] [])) _
    refine XS.iload X0.here hx rfl (hb hby at_55) rfl ?_
    show Steps p.tables e below (s₁.setTop (mkF m 57 #[.val (.int p0), .val (.int p1), .val (.int p2), .val (.int p3), .val (.int p4), .val (.int avgI), .val (.int ai), .val (.double (Jvm.FP.Core.i2d avgI)), .second, .val (.double (Jvm.FP.Core.i2d twI)), .second, .val (.int (p3 &&& (2147483647 : Int32))), .val (.int (p3 &&& (65535 : Int32))), .val (.int (p3 &&& (536870911 : Int32))), .val (.int (p4 &&& (2147483647 : Int32))), .unset, .unset, .unset, .unset, .unset, .unset, .unset, .unset, .unset, .unset, .unset, .unset, .unset, .unset, .unset, .unset, .unset, .unset, .unset, .unset] [(.int p4)])) _
    refine X0.ldcInt hx hown (mvT hZ (hw _ (List.mem_of_getElem? (i := 0) rfl))) (g := (mkF m 57 #[.val (.int p0), .val (.int p1), .val (.int p2), .val (.int p3), .val (.int p4), .val (.int avgI), .val (.int ai), .val (.double (Jvm.FP.Core.i2d avgI)), .second, .val (.double (Jvm.FP.Core.i2d twI)), .second, .val (.int (p3 &&& (2147483647 : Int32))), .val (.int (p3 &&& (65535 : Int32))), .val (.int (p3 &&& (536870911 : Int32))), .val (.int (p4 &&& (2147483647 : Int32))), .unset, .unset, .unset, .unset, .unset, .unset, .unset, .unset, .unset, .unset, .unset, .unset, .unset, .unset, .unset, .unset, .unset, .unset, .unset, .unset] [(.int p4)])) rfl (hb hby at_57) _ ?_
    show Steps p.tables e below (s₁.setTop (mkF m 59 #[.val (.int p0), .val (.int p1), .val (.int p2), .val (.int p3), .val (.int p4), .val (.int avgI), .val (.int ai), .val (.double (Jvm.FP.Core.i2d avgI)), .second, .val (.double (Jvm.FP.Core.i2d twI)), .second, .val (.int (p3 &&& (2147483647 : Int32))), .val (.int (p3 &&& (65535 : Int32))), .val (.int (p3 &&& (536870911 : Int32))), .val (.int (p4 &&& (2147483647 : Int32))), .unset, .unset, .unset, .unset, .unset, .unset, .unset, .unset, .unset, .unset, .unset, .unset, .unset, .unset, .unset, .unset, .unset, .unset, .unset, .unset] [(.int (65535 : Int32)), (.int p4)])) _
    refine XS.iand X0.here hx rfl (hb hby at_59) rfl ?_
    show Steps p.tables e below (s₁.setTop (mkF m 60 #[.val (.int p0), .val (.int p1), .val (.int p2), .val (.int p3), .val (.int p4), .val (.int avgI), .val (.int ai), .val (.double (Jvm.FP.Core.i2d avgI)), .second, .val (.double (Jvm.FP.Core.i2d twI)), .second, .val (.int (p3 &&& (2147483647 : Int32))), .val (.int (p3 &&& (65535 : Int32))), .val (.int (p3 &&& (536870911 : Int32))), .val (.int (p4 &&& (2147483647 : Int32))), .unset, .unset, .unset, .unset, .unset, .unset, .unset, .unset, .unset, .unset, .unset, .unset, .unset, .unset, .unset, .unset, .unset, .unset, .unset, .unset] [(.int (p4 &&& (65535 : Int32)))])) _
    refine XS.istore X0.here hx rfl (hb hby at_60) rfl (l' := #[.val (.int p0), .val (.int p1), .val (.int p2), .val (.int p3), .val (.int p4), .val (.int avgI), .val (.int ai), .val (.double (Jvm.FP.Core.i2d avgI)), .second, .val (.double (Jvm.FP.Core.i2d twI)), .second, .val (.int (p3 &&& (2147483647 : Int32))), .val (.int (p3 &&& (65535 : Int32))), .val (.int (p3 &&& (536870911 : Int32))), .val (.int (p4 &&& (2147483647 : Int32))), .val (.int (p4 &&& (65535 : Int32))), .unset, .unset, .unset, .unset, .unset, .unset, .unset, .unset, .unset, .unset, .unset, .unset, .unset, .unset, .unset, .unset, .unset, .unset, .unset]) rfl ?_
    exact k)
  obtain ⟨f, e4⟩ : ∃ zz_ : Int32, zz_ = (p3 &&& (2147483647 : Int32)) := ⟨_, rfl⟩
  rw [← e4] at k28
  obtain ⟨fS, e5⟩ : ∃ zz_ : Int32, zz_ = (p3 &&& (65535 : Int32)) := ⟨_, rfl⟩
  rw [← e5] at k28
  obtain ⟨f0, e6⟩ : ∃ zz_ : Int32, zz_ = (p3 &&& (536870911 : Int32)) := ⟨_, rfl⟩
  rw [← e6] at k28
  obtain ⟨len, e7⟩ : ∃ zz_ : Int32, zz_ = (p4 &&& (2147483647 : Int32)) := ⟨_, rfl⟩
  rw [← e7] at k28
  obtain ⟨ls, e8⟩ : ∃ zz_ : Int32, zz_ = (p4 &&& (65535 : Int32)) := ⟨_, rfl⟩
  rw [← e8] at k28
  obtain ⟨ok1, ok2, ok3, ok4, ok5, ok6, ok7, nnc, H0, H1, H1', H2, H3, H4, H5⟩ := OwnF.own_all e1 e2 e3 e4 e5 e6 e7 e8
  obtain ⟨T29, h29, X29, e29, E29, A29, D29, -, st29⟩ := newO X0 hx hZ hown (hw _ (List.mem_of_getElem? (i := 5) rfl)) (hw _ (List.mem_of_getElem? (i := 6) rfl)) (hw _ (List.mem_of_getElem? (i := 7) rfl)) e0 (g := (mkF m 62 #[.val (.int p0), .val (.int p1), .val (.int p2), .val (.int p3), .val (.int p4), .val (.int avgI), .val (.int ai), .val (.double (Jvm.FP.Core.i2d avgI)), .second, .val (.double (Jvm.FP.Core.i2d twI)), .second, .val (.int f), .val (.int fS), .val (.int f0), .val (.int len), .val (.int ls), .unset, .unset, .unset, .unset, .unset, .unset, .unset, .unset, .unset, .unset, .unset, .unset, .unset, .unset, .unset, .unset, .unset, .unset, .unset] [])) rfl (hb hby at_62) (by decide) (by decide)
  obtain ⟨b29, g29⟩ : ∃ z, z = h0.size := ⟨_, rfl⟩
  rw [← g29] at A29 D29 st29
  have g_b29 : n0 ≤ b29 := Nat.le_trans Z0 (Nat.le_of_eq g29.symm)
  have Z30 : n0 ≤ h29.size := Nat.le_trans Z0 E29.1
  have F31 : Fld Z h29 b29 "com/example/wegweiser/wegweiser/search/Bm25" "paragraphs" "I" (.int (0 : Int32)) := D29 (Or.inr (hw _ (List.mem_of_getElem? (i := 15) rfl))) (ty := .int) (by decide)
  have F32 : Fld Z h29 b29 "com/example/wegweiser/wegweiser/search/Bm25" "averageLength" "D" (.double (0 : UInt64)) := D29 (Or.inr (hw _ (List.mem_of_getElem? (i := 17) rfl))) (ty := .double) (by decide)
  have k33 : ∀ t, Steps p.tables e below (T29.setTop (mkF m 65 #[.val (.int p0), .val (.int p1), .val (.int p2), .val (.int p3), .val (.int p4), .val (.int avgI), .val (.int ai), .val (.double (Jvm.FP.Core.i2d avgI)), .second, .val (.double (Jvm.FP.Core.i2d twI)), .second, .val (.int f), .val (.int fS), .val (.int f0), .val (.int len), .val (.int ls), .unset, .unset, .unset, .unset, .unset, .unset, .unset, .unset, .unset, .unset, .unset, .unset, .unset, .unset, .unset, .unset, .unset, .unset, .unset] [(.ref b29)])) t → Steps p.tables e below (s₁.setTop (entryFrame m #[(.int p0), (.int p1), (.int p2), (.int p3), (.int p4)] maxLocals)) t := fun t k => k28 t (st29 t k)
  have k34 : ∀ t, Steps p.tables e below (T29.setTop (mkF m 69 #[.val (.int p0), .val (.int p1), .val (.int p2), .val (.int p3), .val (.int p4), .val (.int avgI), .val (.int ai), .val (.double (Jvm.FP.Core.i2d avgI)), .second, .val (.double (Jvm.FP.Core.i2d twI)), .second, .val (.int f), .val (.int fS), .val (.int f0), .val (.int len), .val (.int ls), .unset, .unset, .unset, .unset, .unset, .unset, .unset, .unset, .unset, .unset, .unset, .unset, .unset, .unset, .unset, .unset, .unset, .unset, .unset] [(.double (Jvm.FP.Core.i2d avgI)), (.int p0), (.ref b29), (.ref b29)])) t → Steps p.tables e below (s₁.setTop (entryFrame m #[(.int p0), (.int p1), (.int p2), (.int p3), (.int p4)] maxLocals)) t := fun t k => k33 t (by
    show Steps p.tables e below (T29.setTop (mkF m 65 #[.val (.int p0), .val (.int p1), .val (.int p2), .val (.int p3), .val (.int p4), .val (.int avgI), .val (.int ai), .val (.double (Jvm.FP.Core.i2d avgI)), .second, .val (.double (Jvm.FP.Core.i2d twI)), .second, .val (.int f), .val (.int fS), .val (.int f0), .val (.int len), .val (.int ls), .unset, .unset, .unset, .unset, .unset, .unset, .unset, .unset, .unset, .unset, .unset, .unset, .unset, .unset, .unset, .unset, .unset, .unset, .unset] [(.ref b29)])) _
    refine XS.dup X29.here hx rfl (hb hby at_65) rfl rfl ?_
    show Steps p.tables e below (T29.setTop (mkF m 66 #[.val (.int p0), .val (.int p1), .val (.int p2), .val (.int p3), .val (.int p4), .val (.int avgI), .val (.int ai), .val (.double (Jvm.FP.Core.i2d avgI)), .second, .val (.double (Jvm.FP.Core.i2d twI)), .second, .val (.int f), .val (.int fS), .val (.int f0), .val (.int len), .val (.int ls), .unset, .unset, .unset, .unset, .unset, .unset, .unset, .unset, .unset, .unset, .unset, .unset, .unset, .unset, .unset, .unset, .unset, .unset, .unset] [(.ref b29), (.ref b29)])) _
    refine XS.iloadN X29.here hx rfl (hb hby at_66) rfl ?_
    show Steps p.tables e below (T29.setTop (mkF m 67 #[.val (.int p0), .val (.int p1), .val (.int p2), .val (.int p3), .val (.int p4), .val (.int avgI), .val (.int ai), .val (.double (Jvm.FP.Core.i2d avgI)), .second, .val (.double (Jvm.FP.Core.i2d twI)), .second, .val (.int f), .val (.int fS), .val (.int f0), .val (.int len), .val (.int ls), .unset, .unset, .unset, .unset, .unset, .unset, .unset, .unset, .unset, .unset, .unset, .unset, .unset, .unset, .unset, .unset, .unset, .unset, .unset] [(.int p0), (.ref b29), (.ref b29)])) _
    refine XS.dload X29.here hx rfl (hb hby at_67) rfl ?_
    exact k)
  obtain ⟨_, _, ⟨T35, L35, kc35, ks35⟩, -, X35, ⟨Lc35, hQ35, l35, y35, z35⟩, st35⟩ := X29.specialBack hx (y := (⟨"com/example/wegweiser/wegweiser/search/Bm25", "<init>", "(ID)V"⟩ : MethodName)) rfl hown (mvT hZ (hw _ (List.mem_of_getElem? (i := 8) rfl))) (mvT hZ (hw _ (List.mem_of_getElem? (i := 9) rfl))) (mvT hZ (hw _ (List.mem_of_getElem? (i := 10) rfl))) (by decide) (backOf (W := 1) (rm1 l Z a0 hw [] b29 p0 (Jvm.FP.Core.i2d avgI) h29 n0 Z30 F31 F32 A29 g_b29) hZ (hw _ (List.mem_of_getElem? (i := 10) rfl)) (hw _ (List.mem_of_getElem? (i := 7) rfl)) (by decide) (by decide)) (g := (mkF m 69 #[.val (.int p0), .val (.int p1), .val (.int p2), .val (.int p3), .val (.int p4), .val (.int avgI), .val (.int ai), .val (.double (Jvm.FP.Core.i2d avgI)), .second, .val (.double (Jvm.FP.Core.i2d twI)), .second, .val (.int f), .val (.int fS), .val (.int f0), .val (.int len), .val (.int ls), .unset, .unset, .unset, .unset, .unset, .unset, .unset, .unset, .unset, .unset, .unset, .unset, .unset, .unset, .unset, .unset, .unset, .unset, .unset] [(.double (Jvm.FP.Core.i2d avgI)), (.int p0), (.ref b29), (.ref b29)])) rfl (by rw [hml]; rfl) (Steps.refl _) (a := b29) (argsL := [(.int p0), (.double (Jvm.FP.Core.i2d avgI))]) (rest := [(.ref b29)]) (lenOf pd_0 rfl) rfl (by show 2 * 0 + _ ≤ _; exact Nat.le_of_eq rfl) (hb hby at_69) (fun _ _ => ⟨rfl, e29, (by decide : 1 + 0 ≤ _), (by decide : 2 + 0 ≤ _)⟩)
  dsimp only [Pt.U, Pt.locs, Pt.cells, Pt.slots] at X35 l35 y35 z35 st35 hQ35
  subst l35 y35 z35
  obtain ⟨rfl, Nq35, K35, Fa35⟩ := hQ35
  have N35 := Fr.app N0 Nq35
  obtain ⟨LH35, XH35, NH35⟩ := own_hide X35 N35
  clear X35 N35
  have Z36 : n0 ≤ T35.heap.size := Nat.le_trans Z30 K35.1
  have F37 : Exa Z T35.heap b29 "com/example/wegweiser/wegweiser/search/Bm25" := (A29).keep K35
  have k38 : ∀ t, Steps p.tables e below (T35.setTop (mkF m 72 #[.val (.int p0), .val (.int p1), .val (.int p2), .val (.int p3), .val (.int p4), .val (.int avgI), .val (.int ai), .val (.double (Jvm.FP.Core.i2d avgI)), .second, .val (.double (Jvm.FP.Core.i2d twI)), .second, .val (.int f), .val (.int fS), .val (.int f0), .val (.int len), .val (.int ls), .unset, .unset, .unset, .unset, .unset, .unset, .unset, .unset, .unset, .unset, .unset, .unset, .unset, .unset, .unset, .unset, .unset, .unset, .unset] [(.ref b29)])) t → Steps p.tables e below (s₁.setTop (entryFrame m #[(.int p0), (.int p1), (.int p2), (.int p3), (.int p4)] maxLocals)) t := fun t k => k34 t (st35.trans k)
  have k39 : ∀ t, Steps p.tables e below (T35.setTop (mkF m 74 #[.val (.int p0), .val (.int p1), .val (.int p2), .val (.int p3), .val (.int p4), .val (.int avgI), .val (.int ai), .val (.double (Jvm.FP.Core.i2d avgI)), .second, .val (.double (Jvm.FP.Core.i2d twI)), .second, .val (.int f), .val (.int fS), .val (.int f0), .val (.int len), .val (.int ls), .val (.ref b29), .unset, .unset, .unset, .unset, .unset, .unset, .unset, .unset, .unset, .unset, .unset, .unset, .unset, .unset, .unset, .unset, .unset, .unset] [])) t → Steps p.tables e below (s₁.setTop (entryFrame m #[(.int p0), (.int p1), (.int p2), (.int p3), (.int p4)] maxLocals)) t := fun t k => k38 t (by
    show Steps p.tables e below (T35.setTop (mkF m 72 #[.val (.int p0), .val (.int p1), .val (.int p2), .val (.int p3), .val (.int p4), .val (.int avgI), .val (.int ai), .val (.double (Jvm.FP.Core.i2d avgI)), .second, .val (.double (Jvm.FP.Core.i2d twI)), .second, .val (.int f), .val (.int fS), .val (.int f0), .val (.int len), .val (.int ls), .unset, .unset, .unset, .unset, .unset, .unset, .unset, .unset, .unset, .unset, .unset, .unset, .unset, .unset, .unset, .unset, .unset, .unset, .unset] [(.ref b29)])) _
    refine XS.astore XH35.here hx rfl (hb hby at_72) rfl rfl (l' := #[.val (.int p0), .val (.int p1), .val (.int p2), .val (.int p3), .val (.int p4), .val (.int avgI), .val (.int ai), .val (.double (Jvm.FP.Core.i2d avgI)), .second, .val (.double (Jvm.FP.Core.i2d twI)), .second, .val (.int f), .val (.int fS), .val (.int f0), .val (.int len), .val (.int ls), .val (.ref b29), .unset, .unset, .unset, .unset, .unset, .unset, .unset, .unset, .unset, .unset, .unset, .unset, .unset, .unset, .unset, .unset, .unset, .unset]) rfl ?_
    exact k)
  obtain ⟨T40, h40, X40, e40, E40, A40, D40, -, st40⟩ := newO XH35 hx hZ hown (hw _ (List.mem_of_getElem? (i := 5) rfl)) (hw _ (List.mem_of_getElem? (i := 6) rfl)) (hw _ (List.mem_of_getElem? (i := 7) rfl)) rfl (g := (mkF m 74 #[.val (.int p0), .val (.int p1), .val (.int p2), .val (.int p3), .val (.int p4), .val (.int avgI), .val (.int ai), .val (.double (Jvm.FP.Core.i2d avgI)), .second, .val (.double (Jvm.FP.Core.i2d twI)), .second, .val (.int f), .val (.int fS), .val (.int f0), .val (.int len), .val (.int ls), .val (.ref b29), .unset, .unset, .unset, .unset, .unset, .unset, .unset, .unset, .unset, .unset, .unset, .unset, .unset, .unset, .unset, .unset, .unset, .unset] [])) rfl (hb hby at_74) (by decide) (by decide)
  obtain ⟨b40, g40⟩ : ∃ z, z = T35.heap.size := ⟨_, rfl⟩
  rw [← g40] at A40 D40 st40
  have ne41 : b29 ≠ b40 := Nat.ne_of_lt (Nat.lt_of_lt_of_le (F37).lt (Nat.le_of_eq g40.symm))
  have g_b40 : n0 ≤ b40 := Nat.le_trans Z36 (Nat.le_of_eq g40.symm)
  have Z42 : n0 ≤ h40.size := Nat.le_trans Z36 E40.1
  have F43 : Exa Z h40 b29 "com/example/wegweiser/wegweiser/search/Bm25" := (F37).ext E40
  have F44 : Fld Z h40 b29 "com/example/wegweiser/wegweiser/search/Bm25" "averageLength" "D" (.double (Jvm.FP.Core.i2d avgI)) := (Fa35).ext E40
  have F45 : Fld Z h40 b40 "com/example/wegweiser/wegweiser/search/Bm25" "paragraphs" "I" (.int (0 : Int32)) := D40 (Or.inr (hw _ (List.mem_of_getElem? (i := 15) rfl))) (ty := .int) (by decide)
  have F46 : Fld Z h40 b40 "com/example/wegweiser/wegweiser/search/Bm25" "averageLength" "D" (.double (0 : UInt64)) := D40 (Or.inr (hw _ (List.mem_of_getElem? (i := 17) rfl))) (ty := .double) (by decide)
  have k47 : ∀ t, Steps p.tables e below (T40.setTop (mkF m 77 #[.val (.int p0), .val (.int p1), .val (.int p2), .val (.int p3), .val (.int p4), .val (.int avgI), .val (.int ai), .val (.double (Jvm.FP.Core.i2d avgI)), .second, .val (.double (Jvm.FP.Core.i2d twI)), .second, .val (.int f), .val (.int fS), .val (.int f0), .val (.int len), .val (.int ls), .val (.ref b29), .unset, .unset, .unset, .unset, .unset, .unset, .unset, .unset, .unset, .unset, .unset, .unset, .unset, .unset, .unset, .unset, .unset, .unset] [(.ref b40)])) t → Steps p.tables e below (s₁.setTop (entryFrame m #[(.int p0), (.int p1), (.int p2), (.int p3), (.int p4)] maxLocals)) t := fun t k => k39 t (st40 t k)
  have k48 : ∀ t, Steps p.tables e below (T40.setTop (mkF m 82 #[.val (.int p0), .val (.int p1), .val (.int p2), .val (.int p3), .val (.int p4), .val (.int avgI), .val (.int ai), .val (.double (Jvm.FP.Core.i2d avgI)), .second, .val (.double (Jvm.FP.Core.i2d twI)), .second, .val (.int f), .val (.int fS), .val (.int f0), .val (.int len), .val (.int ls), .val (.ref b29), .unset, .unset, .unset, .unset, .unset, .unset, .unset, .unset, .unset, .unset, .unset, .unset, .unset, .unset, .unset, .unset, .unset, .unset] [(.double (Jvm.FP.Core.i2d ai)), (.int p0), (.ref b40), (.ref b40)])) t → Steps p.tables e below (s₁.setTop (entryFrame m #[(.int p0), (.int p1), (.int p2), (.int p3), (.int p4)] maxLocals)) t := fun t k => k47 t (by
    show Steps p.tables e below (T40.setTop (mkF m 77 #[.val (.int p0), .val (.int p1), .val (.int p2), .val (.int p3), .val (.int p4), .val (.int avgI), .val (.int ai), .val (.double (Jvm.FP.Core.i2d avgI)), .second, .val (.double (Jvm.FP.Core.i2d twI)), .second, .val (.int f), .val (.int fS), .val (.int f0), .val (.int len), .val (.int ls), .val (.ref b29), .unset, .unset, .unset, .unset, .unset, .unset, .unset, .unset, .unset, .unset, .unset, .unset, .unset, .unset, .unset, .unset, .unset, .unset] [(.ref b40)])) _
    refine XS.dup X40.here hx rfl (hb hby at_77) rfl rfl ?_
    show Steps p.tables e below (T40.setTop (mkF m 78 #[.val (.int p0), .val (.int p1), .val (.int p2), .val (.int p3), .val (.int p4), .val (.int avgI), .val (.int ai), .val (.double (Jvm.FP.Core.i2d avgI)), .second, .val (.double (Jvm.FP.Core.i2d twI)), .second, .val (.int f), .val (.int fS), .val (.int f0), .val (.int len), .val (.int ls), .val (.ref b29), .unset, .unset, .unset, .unset, .unset, .unset, .unset, .unset, .unset, .unset, .unset, .unset, .unset, .unset, .unset, .unset, .unset, .unset] [(.ref b40), (.ref b40)])) _
    refine XS.iloadN X40.here hx rfl (hb hby at_78) rfl ?_
    show Steps p.tables e below (T40.setTop (mkF m 79 #[.val (.int p0), .val (.int p1), .val (.int p2), .val (.int p3), .val (.int p4), .val (.int avgI), .val (.int ai), .val (.double (Jvm.FP.Core.i2d avgI)), .second, .val (.double (Jvm.FP.Core.i2d twI)), .second, .val (.int f), .val (.int fS), .val (.int f0), .val (.int len), .val (.int ls), .val (.ref b29), .unset, .unset, .unset, .unset, .unset, .unset, .unset, .unset, .unset, .unset, .unset, .unset, .unset, .unset, .unset, .unset, .unset, .unset] [(.int p0), (.ref b40), (.ref b40)])) _
    refine XS.iload X40.here hx rfl (hb hby at_79) rfl ?_
    show Steps p.tables e below (T40.setTop (mkF m 81 #[.val (.int p0), .val (.int p1), .val (.int p2), .val (.int p3), .val (.int p4), .val (.int avgI), .val (.int ai), .val (.double (Jvm.FP.Core.i2d avgI)), .second, .val (.double (Jvm.FP.Core.i2d twI)), .second, .val (.int f), .val (.int fS), .val (.int f0), .val (.int len), .val (.int ls), .val (.ref b29), .unset, .unset, .unset, .unset, .unset, .unset, .unset, .unset, .unset, .unset, .unset, .unset, .unset, .unset, .unset, .unset, .unset, .unset] [(.int ai), (.int p0), (.ref b40), (.ref b40)])) _
    refine XS.i2dS X40.here hx rfl (hb hby at_81) rfl rfl ?_
    exact k)
  obtain ⟨_, _, ⟨T49, L49, kc49, ks49⟩, -, X49, ⟨Lc49, hQ49, l49, y49, z49⟩, st49⟩ := X40.specialBack hx (y := (⟨"com/example/wegweiser/wegweiser/search/Bm25", "<init>", "(ID)V"⟩ : MethodName)) rfl hown (mvT hZ (hw _ (List.mem_of_getElem? (i := 8) rfl))) (mvT hZ (hw _ (List.mem_of_getElem? (i := 9) rfl))) (mvT hZ (hw _ (List.mem_of_getElem? (i := 10) rfl))) (by decide) (backOf (W := 1) (rm1 l Z a0 hw [] b40 p0 (Jvm.FP.Core.i2d ai) h40 n0 Z42 F45 F46 A40 g_b40) hZ (hw _ (List.mem_of_getElem? (i := 10) rfl)) (hw _ (List.mem_of_getElem? (i := 7) rfl)) (by decide) (by decide)) (g := (mkF m 82 #[.val (.int p0), .val (.int p1), .val (.int p2), .val (.int p3), .val (.int p4), .val (.int avgI), .val (.int ai), .val (.double (Jvm.FP.Core.i2d avgI)), .second, .val (.double (Jvm.FP.Core.i2d twI)), .second, .val (.int f), .val (.int fS), .val (.int f0), .val (.int len), .val (.int ls), .val (.ref b29), .unset, .unset, .unset, .unset, .unset, .unset, .unset, .unset, .unset, .unset, .unset, .unset, .unset, .unset, .unset, .unset, .unset, .unset] [(.double (Jvm.FP.Core.i2d ai)), (.int p0), (.ref b40), (.ref b40)])) rfl (by rw [hml]; rfl) (Steps.refl _) (a := b40) (argsL := [(.int p0), (.double (Jvm.FP.Core.i2d ai))]) (rest := [(.ref b40)]) (lenOf pd_0 rfl) rfl (by show 2 * 0 + _ ≤ _; exact Nat.le_of_eq rfl) (hb hby at_82) (fun _ _ => ⟨rfl, e40, (by decide : 2 + 0 ≤ _), (by decide : 4 + 0 ≤ _)⟩)
  dsimp only [Pt.U, Pt.locs, Pt.cells, Pt.slots] at X49 l49 y49 z49 st49 hQ49
  subst l49 y49 z49
  obtain ⟨rfl, Nq49, K49, Fa49⟩ := hQ49
  have N49 := Fr.app NH35 Nq49
  obtain ⟨LH49, XH49, NH49⟩ := own_hide X49 N49
  clear X49 N49
  have Z50 : n0 ≤ T49.heap.size := Nat.le_trans Z42 K49.1
  have F51 : Exa Z T49.heap b29 "com/example/wegweiser/wegweiser/search/Bm25" := (F43).keep K49
  have F52 : Fld Z T49.heap b29 "com/example/wegweiser/wegweiser/search/Bm25" "averageLength" "D" (.double (Jvm.FP.Core.i2d avgI)) := (F44).keep K49 (ninS ne41 nin0)
  have F53 : Exa Z T49.heap b40 "com/example/wegweiser/wegweiser/search/Bm25" := (A40).keep K49
  have k54 : ∀ t, Steps p.tables e below (T49.setTop (mkF m 85 #[.val (.int p0), .val (.int p1), .val (.int p2), .val (.int p3), .val (.int p4), .val (.int avgI), .val (.int ai), .val (.double (Jvm.FP.Core.i2d avgI)), .second, .val (.double (Jvm.FP.Core.i2d twI)), .second, .val (.int f), .val (.int fS), .val (.int f0), .val (.int len), .val (.int ls), .val (.ref b29), .unset, .unset, .unset, .unset, .unset, .unset, .unset, .unset, .unset, .unset, .unset, .unset, .unset, .unset, .unset, .unset, .unset, .unset] [(.ref b40)])) t → Steps p.tables e below (s₁.setTop (entryFrame m #[(.int p0), (.int p1), (.int p2), (.int p3), (.int p4)] maxLocals)) t := fun t k => k48 t (st49.trans k)
  have k55 : ∀ t, Steps p.tables e below (T49.setTop (mkF m 95 #[.val (.int p0), .val (.int p1), .val (.int p2), .val (.int p3), .val (.int p4), .val (.int avgI), .val (.int ai), .val (.double (Jvm.FP.Core.i2d avgI)), .second, .val (.double (Jvm.FP.Core.i2d twI)), .second, .val (.int f), .val (.int fS), .val (.int f0), .val (.int len), .val (.int ls), .val (.ref b29), .val (.ref b40), .unset, .unset, .unset, .unset, .unset, .unset, .unset, .unset, .unset, .unset, .unset, .unset, .unset, .unset, .unset, .unset, .unset] [(.int len), (.int f), (.double (Jvm.FP.Core.i2d twI)), (.ref b29)])) t → Steps p.tables e below (s₁.setTop (entryFrame m #[(.int p0), (.int p1), (.int p2), (.int p3), (.int p4)] maxLocals)) t := fun t k => k54 t (by
    show Steps p.tables e below (T49.setTop (mkF m 85 #[.val (.int p0), .val (.int p1), .val (.int p2), .val (.int p3), .val (.int p4), .val (.int avgI), .val (.int ai), .val (.double (Jvm.FP.Core.i2d avgI)), .second, .val (.double (Jvm.FP.Core.i2d twI)), .second, .val (.int f), .val (.int fS), .val (.int f0), .val (.int len), .val (.int ls), .val (.ref b29), .unset, .unset, .unset, .unset, .unset, .unset, .unset, .unset, .unset, .unset, .unset, .unset, .unset, .unset, .unset, .unset, .unset, .unset] [(.ref b40)])) _
    refine XS.astore XH49.here hx rfl (hb hby at_85) rfl rfl (l' := #[.val (.int p0), .val (.int p1), .val (.int p2), .val (.int p3), .val (.int p4), .val (.int avgI), .val (.int ai), .val (.double (Jvm.FP.Core.i2d avgI)), .second, .val (.double (Jvm.FP.Core.i2d twI)), .second, .val (.int f), .val (.int fS), .val (.int f0), .val (.int len), .val (.int ls), .val (.ref b29), .val (.ref b40), .unset, .unset, .unset, .unset, .unset, .unset, .unset, .unset, .unset, .unset, .unset, .unset, .unset, .unset, .unset, .unset, .unset]) rfl ?_
    show Steps p.tables e below (T49.setTop (mkF m 87 #[.val (.int p0), .val (.int p1), .val (.int p2), .val (.int p3), .val (.int p4), .val (.int avgI), .val (.int ai), .val (.double (Jvm.FP.Core.i2d avgI)), .second, .val (.double (Jvm.FP.Core.i2d twI)), .second, .val (.int f), .val (.int fS), .val (.int f0), .val (.int len), .val (.int ls), .val (.ref b29), .val (.ref b40), .unset, .unset, .unset, .unset, .unset, .unset, .unset, .unset, .unset, .unset, .unset, .unset, .unset, .unset, .unset, .unset, .unset] [])) _
    refine XS.aload XH49.here hx rfl (hb hby at_87) rfl rfl ?_
    show Steps p.tables e below (T49.setTop (mkF m 89 #[.val (.int p0), .val (.int p1), .val (.int p2), .val (.int p3), .val (.int p4), .val (.int avgI), .val (.int ai), .val (.double (Jvm.FP.Core.i2d avgI)), .second, .val (.double (Jvm.FP.Core.i2d twI)), .second, .val (.int f), .val (.int fS), .val (.int f0), .val (.int len), .val (.int ls), .val (.ref b29), .val (.ref b40), .unset, .unset, .unset, .unset, .unset, .unset, .unset, .unset, .unset, .unset, .unset, .unset, .unset, .unset, .unset, .unset, .unset] [(.ref b29)])) _
    refine XS.dload XH49.here hx rfl (hb hby at_89) rfl ?_
    show Steps p.tables e below (T49.setTop (mkF m 91 #[.val (.int p0), .val (.int p1), .val (.int p2), .val (.int p3), .val (.int p4), .val (.int avgI), .val (.int ai), .val (.double (Jvm.FP.Core.i2d avgI)), .second, .val (.double (Jvm.FP.Core.i2d twI)), .second, .val (.int f), .val (.int fS), .val (.int f0), .val (.int len), .val (.int ls), .val (.ref b29), .val (.ref b40), .unset, .unset, .unset, .unset, .unset, .unset, .unset, .unset, .unset, .unset, .unset, .unset, .unset, .unset, .unset, .unset, .unset] [(.double (Jvm.FP.Core.i2d twI)), (.ref b29)])) _
    refine XS.iload XH49.here hx rfl (hb hby at_91) rfl ?_
    show Steps p.tables e below (T49.setTop (mkF m 93 #[.val (.int p0), .val (.int p1), .val (.int p2), .val (.int p3), .val (.int p4), .val (.int avgI), .val (.int ai), .val (.double (Jvm.FP.Core.i2d avgI)), .second, .val (.double (Jvm.FP.Core.i2d twI)), .second, .val (.int f), .val (.int fS), .val (.int f0), .val (.int len), .val (.int ls), .val (.ref b29), .val (.ref b40), .unset, .unset, .unset, .unset, .unset, .unset, .unset, .unset, .unset, .unset, .unset, .unset, .unset, .unset, .unset, .unset, .unset] [(.int f), (.double (Jvm.FP.Core.i2d twI)), (.ref b29)])) _
    refine XS.iload XH49.here hx rfl (hb hby at_93) rfl ?_
    exact k)
  obtain ⟨cq56, kq56, q56a, q56b, q56c⟩ := isOf hZ rfl F51
  obtain ⟨_, _, ⟨T56, L56, kc56, ks56⟩, -, X56, ⟨Lc56, hQ56, l56, y56, z56⟩, st56⟩ := XH49.virtualBack hx (y := (⟨"com/example/wegweiser/wegweiser/search/Bm25", "gain", "(DII)D"⟩ : MethodName)) (z := (⟨"com/example/wegweiser/wegweiser/search/Bm25", "gain", "(DII)D"⟩ : MethodName)) hown (mvT hZ (hw _ (List.mem_of_getElem? (i := 18) rfl))) (mvT hZ (hw _ (List.mem_of_getElem? (i := 19) rfl))) (notFace_of_selects (args := #[]) (mvT hZ (hw _ (List.mem_of_getElem? (i := 21) rfl)))) (mvT hZ (hw _ (List.mem_of_getElem? (i := 21) rfl))) (mvT hZ (hw _ (List.mem_of_getElem? (i := 20) rfl))) (by decide) (backOf (W := 0) (rm3 l Z a0 hw [] b29 (Jvm.FP.Core.i2d twI) f len (Jvm.FP.Core.i2d avgI) T49.heap n0 Z50 F52 ok1) hZ (hw _ (List.mem_of_getElem? (i := 22) rfl)) (hw _ (List.mem_of_getElem? (i := 7) rfl)) (by decide) (by decide)) q56a q56c (g := (mkF m 95 #[.val (.int p0), .val (.int p1), .val (.int p2), .val (.int p3), .val (.int p4), .val (.int avgI), .val (.int ai), .val (.double (Jvm.FP.Core.i2d avgI)), .second, .val (.double (Jvm.FP.Core.i2d twI)), .second, .val (.int f), .val (.int fS), .val (.int f0), .val (.int len), .val (.int ls), .val (.ref b29), .val (.ref b40), .unset, .unset, .unset, .unset, .unset, .unset, .unset, .unset, .unset, .unset, .unset, .unset, .unset, .unset, .unset, .unset, .unset] [(.int len), (.int f), (.double (Jvm.FP.Core.i2d twI)), (.ref b29)])) rfl (by rw [hml]; rfl) (Steps.refl _) (argsL := [(.double (Jvm.FP.Core.i2d twI)), (.int f), (.int len)]) (rest := []) (lenOf pd_1 rfl) rfl (by show 2 * 0 + _ ≤ _; exact Nat.le_of_eq rfl) (hb hby at_95) (fun _ _ => ⟨rfl, rfl, (by decide : 2 + 0 ≤ _), (by decide : 4 + 0 ≤ _)⟩)
  dsimp only [Pt.U, Pt.locs, Pt.cells, Pt.slots] at X56 l56 y56 z56 st56 hQ56
  subst l56 y56 z56
  obtain ⟨rfl, Nq56, eq56⟩ := hQ56
  have N56 := Fr.app NH49 Nq56
  obtain ⟨LH56, XH56, NH56⟩ := own_hide X56 N56
  clear X56 N56
  have k57 : ∀ t, Steps p.tables e below (T56.setTop (mkF m 98 #[.val (.int p0), .val (.int p1), .val (.int p2), .val (.int p3), .val (.int p4), .val (.int avgI), .val (.int ai), .val (.double (Jvm.FP.Core.i2d avgI)), .second, .val (.double (Jvm.FP.Core.i2d twI)), .second, .val (.int f), .val (.int fS), .val (.int f0), .val (.int len), .val (.int ls), .val (.ref b29), .val (.ref b40), .unset, .unset, .unset, .unset, .unset, .unset, .unset, .unset, .unset, .unset, .unset, .unset, .unset, .unset, .unset, .unset, .unset] [(.double (OwnF.own_gain (Jvm.FP.Core.i2d twI) (Jvm.FP.Core.i2d avgI) f len))])) t → Steps p.tables e below (s₁.setTop (entryFrame m #[(.int p0), (.int p1), (.int p2), (.int p3), (.int p4)] maxLocals)) t := fun t k => k55 t (st56.trans k)
  have k58 : ∀ t, Steps p.tables e below (T56.setTop (mkF m 108 #[.val (.int p0), .val (.int p1), .val (.int p2), .val (.int p3), .val (.int p4), .val (.int avgI), .val (.int ai), .val (.double (Jvm.FP.Core.i2d avgI)), .second, .val (.double (Jvm.FP.Core.i2d twI)), .second, .val (.int f), .val (.int fS), .val (.int f0), .val (.int len), .val (.int ls), .val (.ref b29), .val (.ref b40), .val (.double (OwnF.own_gain (Jvm.FP.Core.i2d twI) (Jvm.FP.Core.i2d avgI) f len)), .second, .unset, .unset, .unset, .unset, .unset, .unset, .unset, .unset, .unset, .unset, .unset, .unset, .unset, .unset, .unset] [(.int ls), (.int fS), (.double (Jvm.FP.Core.i2d twI)), (.ref b29)])) t → Steps p.tables e below (s₁.setTop (entryFrame m #[(.int p0), (.int p1), (.int p2), (.int p3), (.int p4)] maxLocals)) t := fun t k => k57 t (by
    show Steps p.tables e below (T56.setTop (mkF m 98 #[.val (.int p0), .val (.int p1), .val (.int p2), .val (.int p3), .val (.int p4), .val (.int avgI), .val (.int ai), .val (.double (Jvm.FP.Core.i2d avgI)), .second, .val (.double (Jvm.FP.Core.i2d twI)), .second, .val (.int f), .val (.int fS), .val (.int f0), .val (.int len), .val (.int ls), .val (.ref b29), .val (.ref b40), .unset, .unset, .unset, .unset, .unset, .unset, .unset, .unset, .unset, .unset, .unset, .unset, .unset, .unset, .unset, .unset, .unset] [(.double (OwnF.own_gain (Jvm.FP.Core.i2d twI) (Jvm.FP.Core.i2d avgI) f len))])) _
    refine XS.dstore XH56.here hx rfl (hb hby at_98) rfl (l' := #[.val (.int p0), .val (.int p1), .val (.int p2), .val (.int p3), .val (.int p4), .val (.int avgI), .val (.int ai), .val (.double (Jvm.FP.Core.i2d avgI)), .second, .val (.double (Jvm.FP.Core.i2d twI)), .second, .val (.int f), .val (.int fS), .val (.int f0), .val (.int len), .val (.int ls), .val (.ref b29), .val (.ref b40), .val (.double (OwnF.own_gain (Jvm.FP.Core.i2d twI) (Jvm.FP.Core.i2d avgI) f len)), .second, .unset, .unset, .unset, .unset, .unset, .unset, .unset, .unset, .unset, .unset, .unset, .unset, .unset, .unset, .unset]) rfl ?_
    show Steps p.tables e below (T56.setTop (mkF m 100 #[.val (.int p0), .val (.int p1), .val (.int p2), .val (.int p3), .val (.int p4), .val (.int avgI), .val (.int ai), .val (.double (Jvm.FP.Core.i2d avgI)), .second, .val (.double (Jvm.FP.Core.i2d twI)), .second, .val (.int f), .val (.int fS), .val (.int f0), .val (.int len), .val (.int ls), .val (.ref b29), .val (.ref b40), .val (.double (OwnF.own_gain (Jvm.FP.Core.i2d twI) (Jvm.FP.Core.i2d avgI) f len)), .second, .unset, .unset, .unset, .unset, .unset, .unset, .unset, .unset, .unset, .unset, .unset, .unset, .unset, .unset, .unset] [])) _
    refine XS.aload XH56.here hx rfl (hb hby at_100) rfl rfl ?_
    show Steps p.tables e below (T56.setTop (mkF m 102 #[.val (.int p0), .val (.int p1), .val (.int p2), .val (.int p3), .val (.int p4), .val (.int avgI), .val (.int ai), .val (.double (Jvm.FP.Core.i2d avgI)), .second, .val (.double (Jvm.FP.Core.i2d twI)), .second, .val (.int f), .val (.int fS), .val (.int f0), .val (.int len), .val (.int ls), .val (.ref b29), .val (.ref b40), .val (.double (OwnF.own_gain (Jvm.FP.Core.i2d twI) (Jvm.FP.Core.i2d avgI) f len)), .second, .unset, .unset, .unset, .unset, .unset, .unset, .unset, .unset, .unset, .unset, .unset, .unset, .unset, .unset, .unset] [(.ref b29)])) _
    refine XS.dload XH56.here hx rfl (hb hby at_102) rfl ?_
    show Steps p.tables e below (T56.setTop (mkF m 104 #[.val (.int p0), .val (.int p1), .val (.int p2), .val (.int p3), .val (.int p4), .val (.int avgI), .val (.int ai), .val (.double (Jvm.FP.Core.i2d avgI)), .second, .val (.double (Jvm.FP.Core.i2d twI)), .second, .val (.int f), .val (.int fS), .val (.int f0), .val (.int len), .val (.int ls), .val (.ref b29), .val (.ref b40), .val (.double (OwnF.own_gain (Jvm.FP.Core.i2d twI) (Jvm.FP.Core.i2d avgI) f len)), .second, .unset, .unset, .unset, .unset, .unset, .unset, .unset, .unset, .unset, .unset, .unset, .unset, .unset, .unset, .unset] [(.double (Jvm.FP.Core.i2d twI)), (.ref b29)])) _
    refine XS.iload XH56.here hx rfl (hb hby at_104) rfl ?_
    show Steps p.tables e below (T56.setTop (mkF m 106 #[.val (.int p0), .val (.int p1), .val (.int p2), .val (.int p3), .val (.int p4), .val (.int avgI), .val (.int ai), .val (.double (Jvm.FP.Core.i2d avgI)), .second, .val (.double (Jvm.FP.Core.i2d twI)), .second, .val (.int f), .val (.int fS), .val (.int f0), .val (.int len), .val (.int ls), .val (.ref b29), .val (.ref b40), .val (.double (OwnF.own_gain (Jvm.FP.Core.i2d twI) (Jvm.FP.Core.i2d avgI) f len)), .second, .unset, .unset, .unset, .unset, .unset, .unset, .unset, .unset, .unset, .unset, .unset, .unset, .unset, .unset, .unset] [(.int fS), (.double (Jvm.FP.Core.i2d twI)), (.ref b29)])) _
    refine XS.iload XH56.here hx rfl (hb hby at_106) rfl ?_
    exact k)
  obtain ⟨cq59, kq59, q59a, q59b, q59c⟩ := isOf hZ eq56 F51
  obtain ⟨_, _, ⟨T59, L59, kc59, ks59⟩, -, X59, ⟨Lc59, hQ59, l59, y59, z59⟩, st59⟩ := XH56.virtualBack hx (y := (⟨"com/example/wegweiser/wegweiser/search/Bm25", "gain", "(DII)D"⟩ : MethodName)) (z := (⟨"com/example/wegweiser/wegweiser/search/Bm25", "gain", "(DII)D"⟩ : MethodName)) hown (mvT hZ (hw _ (List.mem_of_getElem? (i := 18) rfl))) (mvT hZ (hw _ (List.mem_of_getElem? (i := 19) rfl))) (notFace_of_selects (args := #[]) (mvT hZ (hw _ (List.mem_of_getElem? (i := 21) rfl)))) (mvT hZ (hw _ (List.mem_of_getElem? (i := 21) rfl))) (mvT hZ (hw _ (List.mem_of_getElem? (i := 20) rfl))) (by decide) (backOf (W := 0) (rm3 l Z a0 hw [] b29 (Jvm.FP.Core.i2d twI) fS ls (Jvm.FP.Core.i2d avgI) T49.heap n0 Z50 F52 ok2) hZ (hw _ (List.mem_of_getElem? (i := 22) rfl)) (hw _ (List.mem_of_getElem? (i := 7) rfl)) (by decide) (by decide)) q59a q59c (g := (mkF m 108 #[.val (.int p0), .val (.int p1), .val (.int p2), .val (.int p3), .val (.int p4), .val (.int avgI), .val (.int ai), .val (.double (Jvm.FP.Core.i2d avgI)), .second, .val (.double (Jvm.FP.Core.i2d twI)), .second, .val (.int f), .val (.int fS), .val (.int f0), .val (.int len), .val (.int ls), .val (.ref b29), .val (.ref b40), .val (.double (OwnF.own_gain (Jvm.FP.Core.i2d twI) (Jvm.FP.Core.i2d avgI) f len)), .second, .unset, .unset, .unset, .unset, .unset, .unset, .unset, .unset, .unset, .unset, .unset, .unset, .unset, .unset, .unset] [(.int ls), (.int fS), (.double (Jvm.FP.Core.i2d twI)), (.ref b29)])) rfl (by rw [hml]; rfl) (Steps.refl _) (argsL := [(.double (Jvm.FP.Core.i2d twI)), (.int fS), (.int ls)]) (rest := []) (lenOf pd_1 rfl) rfl (by show 2 * 0 + _ ≤ _; exact Nat.le_of_eq rfl) (hb hby at_108) (fun _ _ => ⟨rfl, eq56, (by decide : 2 + 0 ≤ _), (by decide : 4 + 0 ≤ _)⟩)
  dsimp only [Pt.U, Pt.locs, Pt.cells, Pt.slots] at X59 l59 y59 z59 st59 hQ59
  subst l59 y59 z59
  obtain ⟨rfl, Nq59, eq59⟩ := hQ59
  have N59 := Fr.app NH56 Nq59
  obtain ⟨LH59, XH59, NH59⟩ := own_hide X59 N59
  clear X59 N59
  have k60 : ∀ t, Steps p.tables e below (T59.setTop (mkF m 111 #[.val (.int p0), .val (.int p1), .val (.int p2), .val (.int p3), .val (.int p4), .val (.int avgI), .val (.int ai), .val (.double (Jvm.FP.Core.i2d avgI)), .second, .val (.double (Jvm.FP.Core.i2d twI)), .second, .val (.int f), .val (.int fS), .val (.int f0), .val (.int len), .val (.int ls), .val (.ref b29), .val (.ref b40), .val (.double (OwnF.own_gain (Jvm.FP.Core.i2d twI) (Jvm.FP.Core.i2d avgI) f len)), .second, .unset, .unset, .unset, .unset, .unset, .unset, .unset, .unset, .unset, .unset, .unset, .unset, .unset, .unset, .unset] [(.double (OwnF.own_gain (Jvm.FP.Core.i2d twI) (Jvm.FP.Core.i2d avgI) fS ls))])) t → Steps p.tables e below (s₁.setTop (entryFrame m #[(.int p0), (.int p1), (.int p2), (.int p3), (.int p4)] maxLocals)) t := fun t k => k58 t (st59.trans k)
  have k61 : ∀ t, Steps p.tables e below (T59.setTop (mkF m 123 #[.val (.int p0), .val (.int p1), .val (.int p2), .val (.int p3), .val (.int p4), .val (.int avgI), .val (.int ai), .val (.double (Jvm.FP.Core.i2d avgI)), .second, .val (.double (Jvm.FP.Core.i2d twI)), .second, .val (.int f), .val (.int fS), .val (.int f0), .val (.int len), .val (.int ls), .val (.ref b29), .val (.ref b40), .val (.double (OwnF.own_gain (Jvm.FP.Core.i2d twI) (Jvm.FP.Core.i2d avgI) f len)), .second, .val (.double (OwnF.own_gain (Jvm.FP.Core.i2d twI) (Jvm.FP.Core.i2d avgI) fS ls)), .second, .unset, .unset, .unset, .unset, .unset, .unset, .unset, .unset, .unset, .unset, .unset, .unset, .unset] [(.int ls), (.int (fS + (1 : Int32))), (.double (Jvm.FP.Core.i2d twI)), (.ref b29)])) t → Steps p.tables e below (s₁.setTop (entryFrame m #[(.int p0), (.int p1), (.int p2), (.int p3), (.int p4)] maxLocals)) t := fun t k => k60 t (by
    show Steps p.tables e below (T59.setTop (mkF m 111 #[.val (.int p0), .val (.int p1), .val (.int p2), .val (.int p3), .val (.int p4), .val (.int avgI), .val (.int ai), .val (.double (Jvm.FP.Core.i2d avgI)), .second, .val (.double (Jvm.FP.Core.i2d twI)), .second, .val (.int f), .val (.int fS), .val (.int f0), .val (.int len), .val (.int ls), .val (.ref b29), .val (.ref b40), .val (.double (OwnF.own_gain (Jvm.FP.Core.i2d twI) (Jvm.FP.Core.i2d avgI) f len)), .second, .unset, .unset, .unset, .unset, .unset, .unset, .unset, .unset, .unset, .unset, .unset, .unset, .unset, .unset, .unset] [(.double (OwnF.own_gain (Jvm.FP.Core.i2d twI) (Jvm.FP.Core.i2d avgI) fS ls))])) _
    refine XS.dstore XH59.here hx rfl (hb hby at_111) rfl (l' := #[.val (.int p0), .val (.int p1), .val (.int p2), .val (.int p3), .val (.int p4), .val (.int avgI), .val (.int ai), .val (.double (Jvm.FP.Core.i2d avgI)), .second, .val (.double (Jvm.FP.Core.i2d twI)), .second, .val (.int f), .val (.int fS), .val (.int f0), .val (.int len), .val (.int ls), .val (.ref b29), .val (.ref b40), .val (.double (OwnF.own_gain (Jvm.FP.Core.i2d twI) (Jvm.FP.Core.i2d avgI) f len)), .second, .val (.double (OwnF.own_gain (Jvm.FP.Core.i2d twI) (Jvm.FP.Core.i2d avgI) fS ls)), .second, .unset, .unset, .unset, .unset, .unset, .unset, .unset, .unset, .unset, .unset, .unset, .unset, .unset]) rfl ?_
    show Steps p.tables e below (T59.setTop (mkF m 113 #[.val (.int p0), .val (.int p1), .val (.int p2), .val (.int p3), .val (.int p4), .val (.int avgI), .val (.int ai), .val (.double (Jvm.FP.Core.i2d avgI)), .second, .val (.double (Jvm.FP.Core.i2d twI)), .second, .val (.int f), .val (.int fS), .val (.int f0), .val (.int len), .val (.int ls), .val (.ref b29), .val (.ref b40), .val (.double (OwnF.own_gain (Jvm.FP.Core.i2d twI) (Jvm.FP.Core.i2d avgI) f len)), .second, .val (.double (OwnF.own_gain (Jvm.FP.Core.i2d twI) (Jvm.FP.Core.i2d avgI) fS ls)), .second, .unset, .unset, .unset, .unset, .unset, .unset, .unset, .unset, .unset, .unset, .unset, .unset, .unset] [])) _
    refine XS.aload XH59.here hx rfl (hb hby at_113) rfl rfl ?_
    show Steps p.tables e below (T59.setTop (mkF m 115 #[.val (.int p0), .val (.int p1), .val (.int p2), .val (.int p3), .val (.int p4), .val (.int avgI), .val (.int ai), .val (.double (Jvm.FP.Core.i2d avgI)), .second, .val (.double (Jvm.FP.Core.i2d twI)), .second, .val (.int f), .val (.int fS), .val (.int f0), .val (.int len), .val (.int ls), .val (.ref b29), .val (.ref b40), .val (.double (OwnF.own_gain (Jvm.FP.Core.i2d twI) (Jvm.FP.Core.i2d avgI) f len)), .second, .val (.double (OwnF.own_gain (Jvm.FP.Core.i2d twI) (Jvm.FP.Core.i2d avgI) fS ls)), .second, .unset, .unset, .unset, .unset, .unset, .unset, .unset, .unset, .unset, .unset, .unset, .unset, .unset] [(.ref b29)])) _
    refine XS.dload XH59.here hx rfl (hb hby at_115) rfl ?_
    show Steps p.tables e below (T59.setTop (mkF m 117 #[.val (.int p0), .val (.int p1), .val (.int p2), .val (.int p3), .val (.int p4), .val (.int avgI), .val (.int ai), .val (.double (Jvm.FP.Core.i2d avgI)), .second, .val (.double (Jvm.FP.Core.i2d twI)), .second, .val (.int f), .val (.int fS), .val (.int f0), .val (.int len), .val (.int ls), .val (.ref b29), .val (.ref b40), .val (.double (OwnF.own_gain (Jvm.FP.Core.i2d twI) (Jvm.FP.Core.i2d avgI) f len)), .second, .val (.double (OwnF.own_gain (Jvm.FP.Core.i2d twI) (Jvm.FP.Core.i2d avgI) fS ls)), .second, .unset, .unset, .unset, .unset, .unset, .unset, .unset, .unset, .unset, .unset, .unset, .unset, .unset] [(.double (Jvm.FP.Core.i2d twI)), (.ref b29)])) _
    refine XS.iload XH59.here hx rfl (hb hby at_117) rfl ?_
    show Steps p.tables e below (T59.setTop (mkF m 119 #[.val (.int p0), .val (.int p1), .val (.int p2), .val (.int p3), .val (.int p4), .val (.int avgI), .val (.int ai), .val (.double (Jvm.FP.Core.i2d avgI)), .second, .val (.double (Jvm.FP.Core.i2d twI)), .second, .val (.int f), .val (.int fS), .val (.int f0), .val (.int len), .val (.int ls), .val (.ref b29), .val (.ref b40), .val (.double (OwnF.own_gain (Jvm.FP.Core.i2d twI) (Jvm.FP.Core.i2d avgI) f len)), .second, .val (.double (OwnF.own_gain (Jvm.FP.Core.i2d twI) (Jvm.FP.Core.i2d avgI) fS ls)), .second, .unset, .unset, .unset, .unset, .unset, .unset, .unset, .unset, .unset, .unset, .unset, .unset, .unset] [(.int fS), (.double (Jvm.FP.Core.i2d twI)), (.ref b29)])) _
    refine XS.iconst XH59.here hx rfl (hb hby at_119) ?_
    show Steps p.tables e below (T59.setTop (mkF m 120 #[.val (.int p0), .val (.int p1), .val (.int p2), .val (.int p3), .val (.int p4), .val (.int avgI), .val (.int ai), .val (.double (Jvm.FP.Core.i2d avgI)), .second, .val (.double (Jvm.FP.Core.i2d twI)), .second, .val (.int f), .val (.int fS), .val (.int f0), .val (.int len), .val (.int ls), .val (.ref b29), .val (.ref b40), .val (.double (OwnF.own_gain (Jvm.FP.Core.i2d twI) (Jvm.FP.Core.i2d avgI) f len)), .second, .val (.double (OwnF.own_gain (Jvm.FP.Core.i2d twI) (Jvm.FP.Core.i2d avgI) fS ls)), .second, .unset, .unset, .unset, .unset, .unset, .unset, .unset, .unset, .unset, .unset, .unset, .unset, .unset] [(.int (1 : Int32)), (.int fS), (.double (Jvm.FP.Core.i2d twI)), (.ref b29)])) _
    refine XS.iadd XH59.here hx rfl (hb hby at_120) rfl ?_
    show Steps p.tables e below (T59.setTop (mkF m 121 #[.val (.int p0), .val (.int p1), .val (.int p2), .val (.int p3), .val (.int p4), .val (.int avgI), .val (.int ai), .val (.double (Jvm.FP.Core.i2d avgI)), .second, .val (.double (Jvm.FP.Core.i2d twI)), .second, .val (.int f), .val (.int fS), .val (.int f0), .val (.int len), .val (.int ls), .val (.ref b29), .val (.ref b40), .val (.double (OwnF.own_gain (Jvm.FP.Core.i2d twI) (Jvm.FP.Core.i2d avgI) f len)), .second, .val (.double (OwnF.own_gain (Jvm.FP.Core.i2d twI) (Jvm.FP.Core.i2d avgI) fS ls)), .second, .unset, .unset, .unset, .unset, .unset, .unset, .unset, .unset, .unset, .unset, .unset, .unset, .unset] [(.int (fS + (1 : Int32))), (.double (Jvm.FP.Core.i2d twI)), (.ref b29)])) _
    refine XS.iload XH59.here hx rfl (hb hby at_121) rfl ?_
    exact k)
  obtain ⟨cq62, kq62, q62a, q62b, q62c⟩ := isOf hZ eq59 F51
  obtain ⟨_, _, ⟨T62, L62, kc62, ks62⟩, -, X62, ⟨Lc62, hQ62, l62, y62, z62⟩, st62⟩ := XH59.virtualBack hx (y := (⟨"com/example/wegweiser/wegweiser/search/Bm25", "gain", "(DII)D"⟩ : MethodName)) (z := (⟨"com/example/wegweiser/wegweiser/search/Bm25", "gain", "(DII)D"⟩ : MethodName)) hown (mvT hZ (hw _ (List.mem_of_getElem? (i := 18) rfl))) (mvT hZ (hw _ (List.mem_of_getElem? (i := 19) rfl))) (notFace_of_selects (args := #[]) (mvT hZ (hw _ (List.mem_of_getElem? (i := 21) rfl)))) (mvT hZ (hw _ (List.mem_of_getElem? (i := 21) rfl))) (mvT hZ (hw _ (List.mem_of_getElem? (i := 20) rfl))) (by decide) (backOf (W := 0) (rm3 l Z a0 hw [] b29 (Jvm.FP.Core.i2d twI) (fS + (1 : Int32)) ls (Jvm.FP.Core.i2d avgI) T49.heap n0 Z50 F52 ok3) hZ (hw _ (List.mem_of_getElem? (i := 22) rfl)) (hw _ (List.mem_of_getElem? (i := 7) rfl)) (by decide) (by decide)) q62a q62c (g := (mkF m 123 #[.val (.int p0), .val (.int p1), .val (.int p2), .val (.int p3), .val (.int p4), .val (.int avgI), .val (.int ai), .val (.double (Jvm.FP.Core.i2d avgI)), .second, .val (.double (Jvm.FP.Core.i2d twI)), .second, .val (.int f), .val (.int fS), .val (.int f0), .val (.int len), .val (.int ls), .val (.ref b29), .val (.ref b40), .val (.double (OwnF.own_gain (Jvm.FP.Core.i2d twI) (Jvm.FP.Core.i2d avgI) f len)), .second, .val (.double (OwnF.own_gain (Jvm.FP.Core.i2d twI) (Jvm.FP.Core.i2d avgI) fS ls)), .second, .unset, .unset, .unset, .unset, .unset, .unset, .unset, .unset, .unset, .unset, .unset, .unset, .unset] [(.int ls), (.int (fS + (1 : Int32))), (.double (Jvm.FP.Core.i2d twI)), (.ref b29)])) rfl (by rw [hml]; rfl) (Steps.refl _) (argsL := [(.double (Jvm.FP.Core.i2d twI)), (.int (fS + (1 : Int32))), (.int ls)]) (rest := []) (lenOf pd_1 rfl) rfl (by show 2 * 0 + _ ≤ _; exact Nat.le_of_eq rfl) (hb hby at_123) (fun _ _ => ⟨rfl, eq59, (by decide : 2 + 0 ≤ _), (by decide : 4 + 0 ≤ _)⟩)
  dsimp only [Pt.U, Pt.locs, Pt.cells, Pt.slots] at X62 l62 y62 z62 st62 hQ62
  subst l62 y62 z62
  obtain ⟨rfl, Nq62, eq62⟩ := hQ62
  have N62 := Fr.app NH59 Nq62
  obtain ⟨LH62, XH62, NH62⟩ := own_hide X62 N62
  clear X62 N62
  have k63 : ∀ t, Steps p.tables e below (T62.setTop (mkF m 126 #[.val (.int p0), .val (.int p1), .val (.int p2), .val (.int p3), .val (.int p4), .val (.int avgI), .val (.int ai), .val (.double (Jvm.FP.Core.i2d avgI)), .second, .val (.double (Jvm.FP.Core.i2d twI)), .second, .val (.int f), .val (.int fS), .val (.int f0), .val (.int len), .val (.int ls), .val (.ref b29), .val (.ref b40), .val (.double (OwnF.own_gain (Jvm.FP.Core.i2d twI) (Jvm.FP.Core.i2d avgI) f len)), .second, .val (.double (OwnF.own_gain (Jvm.FP.Core.i2d twI) (Jvm.FP.Core.i2d avgI) fS ls)), .second, .unset, .unset, .unset, .unset, .unset, .unset, .unset, .unset, .unset, .unset, .unset, .unset, .unset] [(.double (OwnF.own_gain (Jvm.FP.Core.i2d twI) (Jvm.FP.Core.i2d avgI) (fS + (1 : Int32)) ls))])) t → Steps p.tables e below (s₁.setTop (entryFrame m #[(.int p0), (.int p1), (.int p2), (.int p3), (.int p4)] maxLocals)) t := fun t k => k61 t (st62.trans k)
  have k64 : ∀ t, Steps p.tables e below (T62.setTop (mkF m 140 #[.val (.int p0), .val (.int p1), .val (.int p2), .val (.int p3), .val (.int p4), .val (.int avgI), .val (.int ai), .val (.double (Jvm.FP.Core.i2d avgI)), .second, .val (.double (Jvm.FP.Core.i2d twI)), .second, .val (.int f), .val (.int fS), .val (.int f0), .val (.int len), .val (.int ls), .val (.ref b29), .val (.ref b40), .val (.double (OwnF.own_gain (Jvm.FP.Core.i2d twI) (Jvm.FP.Core.i2d avgI) f len)), .second, .val (.double (OwnF.own_gain (Jvm.FP.Core.i2d twI) (Jvm.FP.Core.i2d avgI) fS ls)), .second, .val (.double (OwnF.own_gain (Jvm.FP.Core.i2d twI) (Jvm.FP.Core.i2d avgI) (fS + (1 : Int32)) ls)), .second, .unset, .unset, .unset, .unset, .unset, .unset, .unset, .unset, .unset, .unset, .unset] [(.int (ls + (1 : Int32))), (.int (fS + (1 : Int32))), (.double (Jvm.FP.Core.i2d twI)), (.ref b29)])) t → Steps p.tables e below (s₁.setTop (entryFrame m #[(.int p0), (.int p1), (.int p2), (.int p3), (.int p4)] maxLocals)) t := fun t k => k63 t (by
    show Steps p.tables e below (T62.setTop (mkF m 126 #[.val (.int p0), .val (.int p1), .val (.int p2), .val (.int p3), .val (.int p4), .val (.int avgI), .val (.int ai), .val (.double (Jvm.FP.Core.i2d avgI)), .second, .val (.double (Jvm.FP.Core.i2d twI)), .second, .val (.int f), .val (.int fS), .val (.int f0), .val (.int len), .val (.int ls), .val (.ref b29), .val (.ref b40), .val (.double (OwnF.own_gain (Jvm.FP.Core.i2d twI) (Jvm.FP.Core.i2d avgI) f len)), .second, .val (.double (OwnF.own_gain (Jvm.FP.Core.i2d twI) (Jvm.FP.Core.i2d avgI) fS ls)), .second, .unset, .unset, .unset, .unset, .unset, .unset, .unset, .unset, .unset, .unset, .unset, .unset, .unset] [(.double (OwnF.own_gain (Jvm.FP.Core.i2d twI) (Jvm.FP.Core.i2d avgI) (fS + (1 : Int32)) ls))])) _
    refine XS.dstore XH62.here hx rfl (hb hby at_126) rfl (l' := #[.val (.int p0), .val (.int p1), .val (.int p2), .val (.int p3), .val (.int p4), .val (.int avgI), .val (.int ai), .val (.double (Jvm.FP.Core.i2d avgI)), .second, .val (.double (Jvm.FP.Core.i2d twI)), .second, .val (.int f), .val (.int fS), .val (.int f0), .val (.int len), .val (.int ls), .val (.ref b29), .val (.ref b40), .val (.double (OwnF.own_gain (Jvm.FP.Core.i2d twI) (Jvm.FP.Core.i2d avgI) f len)), .second, .val (.double (OwnF.own_gain (Jvm.FP.Core.i2d twI) (Jvm.FP.Core.i2d avgI) fS ls)), .second, .val (.double (OwnF.own_gain (Jvm.FP.Core.i2d twI) (Jvm.FP.Core.i2d avgI) (fS + (1 : Int32)) ls)), .second, .unset, .unset, .unset, .unset, .unset, .unset, .unset, .unset, .unset, .unset, .unset]) rfl ?_
    show Steps p.tables e below (T62.setTop (mkF m 128 #[.val (.int p0), .val (.int p1), .val (.int p2), .val (.int p3), .val (.int p4), .val (.int avgI), .val (.int ai), .val (.double (Jvm.FP.Core.i2d avgI)), .second, .val (.double (Jvm.FP.Core.i2d twI)), .second, .val (.int f), .val (.int fS), .val (.int f0), .val (.int len), .val (.int ls), .val (.ref b29), .val (.ref b40), .val (.double (OwnF.own_gain (Jvm.FP.Core.i2d twI) (Jvm.FP.Core.i2d avgI) f len)), .second, .val (.double (OwnF.own_gain (Jvm.FP.Core.i2d twI) (Jvm.FP.Core.i2d avgI) fS ls)), .second, .val (.double (OwnF.own_gain (Jvm.FP.Core.i2d twI) (Jvm.FP.Core.i2d avgI) (fS + (1 : Int32)) ls)), .second, .unset, .unset, .unset, .unset, .unset, .unset, .unset, .unset, .unset, .unset, .unset] [])) _
    refine XS.aload XH62.here hx rfl (hb hby at_128) rfl rfl ?_
    show Steps p.tables e below (T62.setTop (mkF m 130 #[.val (.int p0), .val (.int p1), .val (.int p2), .val (.int p3), .val (.int p4), .val (.int avgI), .val (.int ai), .val (.double (Jvm.FP.Core.i2d avgI)), .second, .val (.double (Jvm.FP.Core.i2d twI)), .second, .val (.int f), .val (.int fS), .val (.int f0), .val (.int len), .val (.int ls), .val (.ref b29), .val (.ref b40), .val (.double (OwnF.own_gain (Jvm.FP.Core.i2d twI) (Jvm.FP.Core.i2d avgI) f len)), .second, .val (.double (OwnF.own_gain (Jvm.FP.Core.i2d twI) (Jvm.FP.Core.i2d avgI) fS ls)), .second, .val (.double (OwnF.own_gain (Jvm.FP.Core.i2d twI) (Jvm.FP.Core.i2d avgI) (fS + (1 : Int32)) ls)), .second, .unset, .unset, .unset, .unset, .unset, .unset, .unset, .unset, .unset, .unset, .unset] [(.ref b29)])) _
    refine XS.dload XH62.here hx rfl (hb hby at_130) rfl ?_
    show Steps p.tables e below (T62.setTop (mkF m 132 #[.val (.int p0), .val (.int p1), .val (.int p2), .val (.int p3), .val (.int p4), .val (.int avgI), .val (.int ai), .val (.double (Jvm.FP.Core.i2d avgI)), .second, .val (.double (Jvm.FP.Core.i2d twI)), .second, .val (.int f), .val (.int fS), .val (.int f0), .val (.int len), .val (.int ls), .val (.ref b29), .val (.ref b40), .val (.double (OwnF.own_gain (Jvm.FP.Core.i2d twI) (Jvm.FP.Core.i2d avgI) f len)), .second, .val (.double (OwnF.own_gain (Jvm.FP.Core.i2d twI) (Jvm.FP.Core.i2d avgI) fS ls)), .second, .val (.double (OwnF.own_gain (Jvm.FP.Core.i2d twI) (Jvm.FP.Core.i2d avgI) (fS + (1 : Int32)) ls)), .second, .unset, .unset, .unset, .unset, .unset, .unset, .unset, .unset, .unset, .unset, .unset] [(.double (Jvm.FP.Core.i2d twI)), (.ref b29)])) _
    refine XS.iload XH62.here hx rfl (hb hby at_132) rfl ?_
    show Steps p.tables e below (T62.setTop (mkF m 134 #[.val (.int p0), .val (.int p1), .val (.int p2), .val (.int p3), .val (.int p4), .val (.int avgI), .val (.int ai), .val (.double (Jvm.FP.Core.i2d avgI)), .second, .val (.double (Jvm.FP.Core.i2d twI)), .second, .val (.int f), .val (.int fS), .val (.int f0), .val (.int len), .val (.int ls), .val (.ref b29), .val (.ref b40), .val (.double (OwnF.own_gain (Jvm.FP.Core.i2d twI) (Jvm.FP.Core.i2d avgI) f len)), .second, .val (.double (OwnF.own_gain (Jvm.FP.Core.i2d twI) (Jvm.FP.Core.i2d avgI) fS ls)), .second, .val (.double (OwnF.own_gain (Jvm.FP.Core.i2d twI) (Jvm.FP.Core.i2d avgI) (fS + (1 : Int32)) ls)), .second, .unset, .unset, .unset, .unset, .unset, .unset, .unset, .unset, .unset, .unset, .unset] [(.int fS), (.double (Jvm.FP.Core.i2d twI)), (.ref b29)])) _
    refine XS.iconst XH62.here hx rfl (hb hby at_134) ?_
    show Steps p.tables e below (T62.setTop (mkF m 135 #[.val (.int p0), .val (.int p1), .val (.int p2), .val (.int p3), .val (.int p4), .val (.int avgI), .val (.int ai), .val (.double (Jvm.FP.Core.i2d avgI)), .second, .val (.double (Jvm.FP.Core.i2d twI)), .second, .val (.int f), .val (.int fS), .val (.int f0), .val (.int len), .val (.int ls), .val (.ref b29), .val (.ref b40), .val (.double (OwnF.own_gain (Jvm.FP.Core.i2d twI) (Jvm.FP.Core.i2d avgI) f len)), .second, .val (.double (OwnF.own_gain (Jvm.FP.Core.i2d twI) (Jvm.FP.Core.i2d avgI) fS ls)), .second, .val (.double (OwnF.own_gain (Jvm.FP.Core.i2d twI) (Jvm.FP.Core.i2d avgI) (fS + (1 : Int32)) ls)), .second, .unset, .unset, .unset, .unset, .unset, .unset, .unset, .unset, .unset, .unset, .unset] [(.int (1 : Int32)), (.int fS), (.double (Jvm.FP.Core.i2d twI)), (.ref b29)])) _
    refine XS.iadd XH62.here hx rfl (hb hby at_135) rfl ?_
    show Steps p.tables e below (T62.setTop (mkF m 136 #[.val (.int p0), .val (.int p1), .val (.int p2), .val (.int p3), .val (.int p4), .val (.int avgI), .val (.int ai), .val (.double (Jvm.FP.Core.i2d avgI)), .second, .val (.double (Jvm.FP.Core.i2d twI)), .second, .val (.int f), .val (.int fS), .val (.int f0), .val (.int len), .val (.int ls), .val (.ref b29), .val (.ref b40), .val (.double (OwnF.own_gain (Jvm.FP.Core.i2d twI) (Jvm.FP.Core.i2d avgI) f len)), .second, .val (.double (OwnF.own_gain (Jvm.FP.Core.i2d twI) (Jvm.FP.Core.i2d avgI) fS ls)), .second, .val (.double (OwnF.own_gain (Jvm.FP.Core.i2d twI) (Jvm.FP.Core.i2d avgI) (fS + (1 : Int32)) ls)), .second, .unset, .unset, .unset, .unset, .unset, .unset, .unset, .unset, .unset, .unset, .unset] [(.int (fS + (1 : Int32))), (.double (Jvm.FP.Core.i2d twI)), (.ref b29)])) _
    refine XS.iload XH62.here hx rfl (hb hby at_136) rfl ?_
    show Steps p.tables e below (T62.setTop (mkF m 138 #[.val (.int p0), .val (.int p1), .val (.int p2), .val (.int p3), .val (.int p4), .val (.int avgI), .val (.int ai), .val (.double (Jvm.FP.Core.i2d avgI)), .second, .val (.double (Jvm.FP.Core.i2d twI)), .second, .val (.int f), .val (.int fS), .val (.int f0), .val (.int len), .val (.int ls), .val (.ref b29), .val (.ref b40), .val (.double (OwnF.own_gain (Jvm.FP.Core.i2d twI) (Jvm.FP.Core.i2d avgI) f len)), .second, .val (.double (OwnF.own_gain (Jvm.FP.Core.i2d twI) (Jvm.FP.Core.i2d avgI) fS ls)), .second, .val (.double (OwnF.own_gain (Jvm.FP.Core.i2d twI) (Jvm.FP.Core.i2d avgI) (fS + (1 : Int32)) ls)), .second, .unset, .unset, .unset, .unset, .unset, .unset, .unset, .unset, .unset, .unset, .unset] [(.int ls), (.int (fS + (1 : Int32))), (.double (Jvm.FP.Core.i2d twI)), (.ref b29)])) _
    refine XS.iconst XH62.here hx rfl (hb hby at_138) ?_
    show Steps p.tables e below (T62.setTop (mkF m 139 #[.val (.int p0), .val (.int p1), .val (.int p2), .val (.int p3), .val (.int p4), .val (.int avgI), .val (.int ai), .val (.double (Jvm.FP.Core.i2d avgI)), .second, .val (.double (Jvm.FP.Core.i2d twI)), .second, .val (.int f), .val (.int fS), .val (.int f0), .val (.int len), .val (.int ls), .val (.ref b29), .val (.ref b40), .val (.double (OwnF.own_gain (Jvm.FP.Core.i2d twI) (Jvm.FP.Core.i2d avgI) f len)), .second, .val (.double (OwnF.own_gain (Jvm.FP.Core.i2d twI) (Jvm.FP.Core.i2d avgI) fS ls)), .second, .val (.double (OwnF.own_gain (Jvm.FP.Core.i2d twI) (Jvm.FP.Core.i2d avgI) (fS + (1 : Int32)) ls)), .second, .unset, .unset, .unset, .unset, .unset, .unset, .unset, .unset, .unset, .unset, .unset] [(.int (1 : Int32)), (.int ls), (.int (fS + (1 : Int32))), (.double (Jvm.FP.Core.i2d twI)), (.ref b29)])) _
    refine XS.iadd XH62.here hx rfl (hb hby at_139) rfl ?_
    exact k)
  obtain ⟨cq65, kq65, q65a, q65b, q65c⟩ := isOf hZ eq62 F51
  obtain ⟨_, _, ⟨T65, L65, kc65, ks65⟩, -, X65, ⟨Lc65, hQ65, l65, y65, z65⟩, st65⟩ := XH62.virtualBack hx (y := (⟨"com/example/wegweiser/wegweiser/search/Bm25", "gain", "(DII)D"⟩ : MethodName)) (z := (⟨"com/example/wegweiser/wegweiser/search/Bm25", "gain", "(DII)D"⟩ : MethodName)) hown (mvT hZ (hw _ (List.mem_of_getElem? (i := 18) rfl))) (mvT hZ (hw _ (List.mem_of_getElem? (i := 19) rfl))) (notFace_of_selects (args := #[]) (mvT hZ (hw _ (List.mem_of_getElem? (i := 21) rfl)))) (mvT hZ (hw _ (List.mem_of_getElem? (i := 21) rfl))) (mvT hZ (hw _ (List.mem_of_getElem? (i := 20) rfl))) (by decide) (backOf (W := 0) (rm3 l Z a0 hw [] b29 (Jvm.FP.Core.i2d twI) (fS + (1 : Int32)) (ls + (1 : Int32)) (Jvm.FP.Core.i2d avgI) T49.heap n0 Z50 F52 ok4) hZ (hw _ (List.mem_of_getElem? (i := 22) rfl)) (hw _ (List.mem_of_getElem? (i := 7) rfl)) (by decide) (by decide)) q65a q65c (g := (mkF m 140 #[.val (.int p0), .val (.int p1), .val (.int p2), .val (.int p3), .val (.int p4), .val (.int avgI), .val (.int ai), .val (.double (Jvm.FP.Core.i2d avgI)), .second, .val (.double (Jvm.FP.Core.i2d twI)), .second, .val (.int f), .val (.int fS), .val (.int f0), .val (.int len), .val (.int ls), .val (.ref b29), .val (.ref b40), .val (.double (OwnF.own_gain (Jvm.FP.Core.i2d twI) (Jvm.FP.Core.i2d avgI) f len)), .second, .val (.double (OwnF.own_gain (Jvm.FP.Core.i2d twI) (Jvm.FP.Core.i2d avgI) fS ls)), .second, .val (.double (OwnF.own_gain (Jvm.FP.Core.i2d twI) (Jvm.FP.Core.i2d avgI) (fS + (1 : Int32)) ls)), .second, .unset, .unset, .unset, .unset, .unset, .unset, .unset, .unset, .unset, .unset, .unset] [(.int (ls + (1 : Int32))), (.int (fS + (1 : Int32))), (.double (Jvm.FP.Core.i2d twI)), (.ref b29)])) rfl (by rw [hml]; rfl) (Steps.refl _) (argsL := [(.double (Jvm.FP.Core.i2d twI)), (.int (fS + (1 : Int32))), (.int (ls + (1 : Int32)))]) (rest := []) (lenOf pd_1 rfl) rfl (by show 2 * 0 + _ ≤ _; exact Nat.le_of_eq rfl) (hb hby at_140) (fun _ _ => ⟨rfl, eq62, (by decide : 2 + 0 ≤ _), (by decide : 4 + 0 ≤ _)⟩)
  dsimp only [Pt.U, Pt.locs, Pt.cells, Pt.slots] at X65 l65 y65 z65 st65 hQ65
  subst l65 y65 z65
  obtain ⟨rfl, Nq65, eq65⟩ := hQ65
  have N65 := Fr.app NH62 Nq65
  obtain ⟨LH65, XH65, NH65⟩ := own_hide X65 N65
  clear X65 N65
  have k66 : ∀ t, Steps p.tables e below (T65.setTop (mkF m 143 #[.val (.int p0), .val (.int p1), .val (.int p2), .val (.int p3), .val (.int p4), .val (.int avgI), .val (.int ai), .val (.double (Jvm.FP.Core.i2d avgI)), .second, .val (.double (Jvm.FP.Core.i2d twI)), .second, .val (.int f), .val (.int fS), .val (.int f0), .val (.int len), .val (.int ls), .val (.ref b29), .val (.ref b40), .val (.double (OwnF.own_gain (Jvm.FP.Core.i2d twI) (Jvm.FP.Core.i2d avgI) f len)), .second, .val (.double (OwnF.own_gain (Jvm.FP.Core.i2d twI) (Jvm.FP.Core.i2d avgI) fS ls)), .second, .val (.double (OwnF.own_gain (Jvm.FP.Core.i2d twI) (Jvm.FP.Core.i2d avgI) (fS + (1 : Int32)) ls)), .second, .unset, .unset, .unset, .unset, .unset, .unset, .unset, .unset, .unset, .unset, .unset] [(.double (OwnF.own_gain (Jvm.FP.Core.i2d twI) (Jvm.FP.Core.i2d avgI) (fS + (1 : Int32)) (ls + (1 : Int32))))])) t → Steps p.tables e below (s₁.setTop (entryFrame m #[(.int p0), (.int p1), (.int p2), (.int p3), (.int p4)] maxLocals)) t := fun t k => k64 t (st65.trans k)
  have k67 : ∀ t, Steps p.tables e below (T65.setTop (mkF m 151 #[.val (.int p0), .val (.int p1), .val (.int p2), .val (.int p3), .val (.int p4), .val (.int avgI), .val (.int ai), .val (.double (Jvm.FP.Core.i2d avgI)), .second, .val (.double (Jvm.FP.Core.i2d twI)), .second, .val (.int f), .val (.int fS), .val (.int f0), .val (.int len), .val (.int ls), .val (.ref b29), .val (.ref b40), .val (.double (OwnF.own_gain (Jvm.FP.Core.i2d twI) (Jvm.FP.Core.i2d avgI) f len)), .second, .val (.double (OwnF.own_gain (Jvm.FP.Core.i2d twI) (Jvm.FP.Core.i2d avgI) fS ls)), .second, .val (.double (OwnF.own_gain (Jvm.FP.Core.i2d twI) (Jvm.FP.Core.i2d avgI) (fS + (1 : Int32)) ls)), .second, .val (.double (OwnF.own_gain (Jvm.FP.Core.i2d twI) (Jvm.FP.Core.i2d avgI) (fS + (1 : Int32)) (ls + (1 : Int32)))), .second, .unset, .unset, .unset, .unset, .unset, .unset, .unset, .unset, .unset] [(.int ai), (.int (1 : Int32)), (.double Jvm.FP.dconst1), (.ref b40)])) t → Steps p.tables e below (s₁.setTop (entryFrame m #[(.int p0), (.int p1), (.int p2), (.int p3), (.int p4)] maxLocals)) t := fun t k => k66 t (by
    show Steps p.tables e below (T65.setTop (mkF m 143 #[.val (.int p0), .val (.int p1), .val (.int p2), .val (.int p3), .val (.int p4), .val (.int avgI), .val (.int ai), .val (.double (Jvm.FP.Core.i2d avgI)), .second, .val (.double (Jvm.FP.Core.i2d twI)), .second, .val (.int f), .val (.int fS), .val (.int f0), .val (.int len), .val (.int ls), .val (.ref b29), .val (.ref b40), .val (.double (OwnF.own_gain (Jvm.FP.Core.i2d twI) (Jvm.FP.Core.i2d avgI) f len)), .second, .val (.double (OwnF.own_gain (Jvm.FP.Core.i2d twI) (Jvm.FP.Core.i2d avgI) fS ls)), .second, .val (.double (OwnF.own_gain (Jvm.FP.Core.i2d twI) (Jvm.FP.Core.i2d avgI) (fS + (1 : Int32)) ls)), .second, .unset, .unset, .unset, .unset, .unset, .unset, .unset, .unset, .unset, .unset, .unset] [(.double (OwnF.own_gain (Jvm.FP.Core.i2d twI) (Jvm.FP.Core.i2d avgI) (fS + (1 : Int32)) (ls + (1 : Int32))))])) _
    refine XS.dstore XH65.here hx rfl (hb hby at_143) rfl (l' := #[.val (.int p0), .val (.int p1), .val (.int p2), .val (.int p3), .val (.int p4), .val (.int avgI), .val (.int ai), .val (.double (Jvm.FP.Core.i2d avgI)), .second, .val (.double (Jvm.FP.Core.i2d twI)), .second, .val (.int f), .val (.int fS), .val (.int f0), .val (.int len), .val (.int ls), .val (.ref b29), .val (.ref b40), .val (.double (OwnF.own_gain (Jvm.FP.Core.i2d twI) (Jvm.FP.Core.i2d avgI) f len)), .second, .val (.double (OwnF.own_gain (Jvm.FP.Core.i2d twI) (Jvm.FP.Core.i2d avgI) fS ls)), .second, .val (.double (OwnF.own_gain (Jvm.FP.Core.i2d twI) (Jvm.FP.Core.i2d avgI) (fS + (1 : Int32)) ls)), .second, .val (.double (OwnF.own_gain (Jvm.FP.Core.i2d twI) (Jvm.FP.Core.i2d avgI) (fS + (1 : Int32)) (ls + (1 : Int32)))), .second, .unset, .unset, .unset, .unset, .unset, .unset, .unset, .unset, .unset]) rfl ?_
    show Steps p.tables e below (T65.setTop (mkF m 145 #[.val (.int p0), .val (.int p1), .val (.int p2), .val (.int p3), .val (.int p4), .val (.int avgI), .val (.int ai), .val (.double (Jvm.FP.Core.i2d avgI)), .second, .val (.double (Jvm.FP.Core.i2d twI)), .second, .val (.int f), .val (.int fS), .val (.int f0), .val (.int len), .val (.int ls), .val (.ref b29), .val (.ref b40), .val (.double (OwnF.own_gain (Jvm.FP.Core.i2d twI) (Jvm.FP.Core.i2d avgI) f len)), .second, .val (.double (OwnF.own_gain (Jvm.FP.Core.i2d twI) (Jvm.FP.Core.i2d avgI) fS ls)), .second, .val (.double (OwnF.own_gain (Jvm.FP.Core.i2d twI) (Jvm.FP.Core.i2d avgI) (fS + (1 : Int32)) ls)), .second, .val (.double (OwnF.own_gain (Jvm.FP.Core.i2d twI) (Jvm.FP.Core.i2d avgI) (fS + (1 : Int32)) (ls + (1 : Int32)))), .second, .unset, .unset, .unset, .unset, .unset, .unset, .unset, .unset, .unset] [])) _
    refine XS.aload XH65.here hx rfl (hb hby at_145) rfl rfl ?_
    show Steps p.tables e below (T65.setTop (mkF m 147 #[.val (.int p0), .val (.int p1), .val (.int p2), .val (.int p3), .val (.int p4), .val (.int avgI), .val (.int ai), .val (.double (Jvm.FP.Core.i2d avgI)), .second, .val (.double (Jvm.FP.Core.i2d twI)), .second, .val (.int f), .val (.int fS), .val (.int f0), .val (.int len), .val (.int ls), .val (.ref b29), .val (.ref b40), .val (.double (OwnF.own_gain (Jvm.FP.Core.i2d twI) (Jvm.FP.Core.i2d avgI) f len)), .second, .val (.double (OwnF.own_gain (Jvm.FP.Core.i2d twI) (Jvm.FP.Core.i2d avgI) fS ls)), .second, .val (.double (OwnF.own_gain (Jvm.FP.Core.i2d twI) (Jvm.FP.Core.i2d avgI) (fS + (1 : Int32)) ls)), .second, .val (.double (OwnF.own_gain (Jvm.FP.Core.i2d twI) (Jvm.FP.Core.i2d avgI) (fS + (1 : Int32)) (ls + (1 : Int32)))), .second, .unset, .unset, .unset, .unset, .unset, .unset, .unset, .unset, .unset] [(.ref b40)])) _
    refine XS.dconst1 XH65.here hx rfl (hb hby at_147) rfl ?_
    show Steps p.tables e below (T65.setTop (mkF m 148 #[.val (.int p0), .val (.int p1), .val (.int p2), .val (.int p3), .val (.int p4), .val (.int avgI), .val (.int ai), .val (.double (Jvm.FP.Core.i2d avgI)), .second, .val (.double (Jvm.FP.Core.i2d twI)), .second, .val (.int f), .val (.int fS), .val (.int f0), .val (.int len), .val (.int ls), .val (.ref b29), .val (.ref b40), .val (.double (OwnF.own_gain (Jvm.FP.Core.i2d twI) (Jvm.FP.Core.i2d avgI) f len)), .second, .val (.double (OwnF.own_gain (Jvm.FP.Core.i2d twI) (Jvm.FP.Core.i2d avgI) fS ls)), .second, .val (.double (OwnF.own_gain (Jvm.FP.Core.i2d twI) (Jvm.FP.Core.i2d avgI) (fS + (1 : Int32)) ls)), .second, .val (.double (OwnF.own_gain (Jvm.FP.Core.i2d twI) (Jvm.FP.Core.i2d avgI) (fS + (1 : Int32)) (ls + (1 : Int32)))), .second, .unset, .unset, .unset, .unset, .unset, .unset, .unset, .unset, .unset] [(.double Jvm.FP.dconst1), (.ref b40)])) _
    refine XS.iconst XH65.here hx rfl (hb hby at_148) ?_
    show Steps p.tables e below (T65.setTop (mkF m 149 #[.val (.int p0), .val (.int p1), .val (.int p2), .val (.int p3), .val (.int p4), .val (.int avgI), .val (.int ai), .val (.double (Jvm.FP.Core.i2d avgI)), .second, .val (.double (Jvm.FP.Core.i2d twI)), .second, .val (.int f), .val (.int fS), .val (.int f0), .val (.int len), .val (.int ls), .val (.ref b29), .val (.ref b40), .val (.double (OwnF.own_gain (Jvm.FP.Core.i2d twI) (Jvm.FP.Core.i2d avgI) f len)), .second, .val (.double (OwnF.own_gain (Jvm.FP.Core.i2d twI) (Jvm.FP.Core.i2d avgI) fS ls)), .second, .val (.double (OwnF.own_gain (Jvm.FP.Core.i2d twI) (Jvm.FP.Core.i2d avgI) (fS + (1 : Int32)) ls)), .second, .val (.double (OwnF.own_gain (Jvm.FP.Core.i2d twI) (Jvm.FP.Core.i2d avgI) (fS + (1 : Int32)) (ls + (1 : Int32)))), .second, .unset, .unset, .unset, .unset, .unset, .unset, .unset, .unset, .unset] [(.int (1 : Int32)), (.double Jvm.FP.dconst1), (.ref b40)])) _
    refine XS.iload XH65.here hx rfl (hb hby at_149) rfl ?_
    exact k)
  obtain ⟨cq68, kq68, q68a, q68b, q68c⟩ := isOf hZ eq65 F53
  obtain ⟨_, _, ⟨T68, L68, kc68, ks68⟩, -, X68, ⟨Lc68, hQ68, l68, y68, z68⟩, st68⟩ := XH65.virtualBack hx (y := (⟨"com/example/wegweiser/wegweiser/search/Bm25", "gain", "(DII)D"⟩ : MethodName)) (z := (⟨"com/example/wegweiser/wegweiser/search/Bm25", "gain", "(DII)D"⟩ : MethodName)) hown (mvT hZ (hw _ (List.mem_of_getElem? (i := 18) rfl))) (mvT hZ (hw _ (List.mem_of_getElem? (i := 19) rfl))) (notFace_of_selects (args := #[]) (mvT hZ (hw _ (List.mem_of_getElem? (i := 21) rfl)))) (mvT hZ (hw _ (List.mem_of_getElem? (i := 21) rfl))) (mvT hZ (hw _ (List.mem_of_getElem? (i := 20) rfl))) (by decide) (backOf (W := 0) (rm3 l Z a0 hw [] b40 Jvm.FP.dconst1 (1 : Int32) ai (Jvm.FP.Core.i2d ai) T49.heap n0 Z50 Fa49 ok5) hZ (hw _ (List.mem_of_getElem? (i := 22) rfl)) (hw _ (List.mem_of_getElem? (i := 7) rfl)) (by decide) (by decide)) q68a q68c (g := (mkF m 151 #[.val (.int p0), .val (.int p1), .val (.int p2), .val (.int p3), .val (.int p4), .val (.int avgI), .val (.int ai), .val (.double (Jvm.FP.Core.i2d avgI)), .second, .val (.double (Jvm.FP.Core.i2d twI)), .second, .val (.int f), .val (.int fS), .val (.int f0), .val (.int len), .val (.int ls), .val (.ref b29), .val (.ref b40), .val (.double (OwnF.own_gain (Jvm.FP.Core.i2d twI) (Jvm.FP.Core.i2d avgI) f len)), .second, .val (.double (OwnF.own_gain (Jvm.FP.Core.i2d twI) (Jvm.FP.Core.i2d avgI) fS ls)), .second, .val (.double (OwnF.own_gain (Jvm.FP.Core.i2d twI) (Jvm.FP.Core.i2d avgI) (fS + (1 : Int32)) ls)), .second, .val (.double (OwnF.own_gain (Jvm.FP.Core.i2d twI) (Jvm.FP.Core.i2d avgI) (fS + (1 : Int32)) (ls + (1 : Int32)))), .second, .unset, .unset, .unset, .unset, .unset, .unset, .unset, .unset, .unset] [(.int ai), (.int (1 : Int32)), (.double Jvm.FP.dconst1), (.ref b40)])) rfl (by rw [hml]; rfl) (Steps.refl _) (argsL := [(.double Jvm.FP.dconst1), (.int (1 : Int32)), (.int ai)]) (rest := []) (lenOf pd_1 rfl) rfl (by show 2 * 0 + _ ≤ _; exact Nat.le_of_eq rfl) (hb hby at_151) (fun _ _ => ⟨rfl, eq65, (by decide : 2 + 0 ≤ _), (by decide : 4 + 0 ≤ _)⟩)
  dsimp only [Pt.U, Pt.locs, Pt.cells, Pt.slots] at X68 l68 y68 z68 st68 hQ68
  subst l68 y68 z68
  obtain ⟨rfl, Nq68, eq68⟩ := hQ68
  have N68 := Fr.app NH65 Nq68
  obtain ⟨LH68, XH68, NH68⟩ := own_hide X68 N68
  clear X68 N68
  have k69 : ∀ t, Steps p.tables e below (T68.setTop (mkF m 154 #[.val (.int p0), .val (.int p1), .val (.int p2), .val (.int p3), .val (.int p4), .val (.int avgI), .val (.int ai), .val (.double (Jvm.FP.Core.i2d avgI)), .second, .val (.double (Jvm.FP.Core.i2d twI)), .second, .val (.int f), .val (.int fS), .val (.int f0), .val (.int len), .val (.int ls), .val (.ref b29), .val (.ref b40), .val (.double (OwnF.own_gain (Jvm.FP.Core.i2d twI) (Jvm.FP.Core.i2d avgI) f len)), .second, .val (.double (OwnF.own_gain (Jvm.FP.Core.i2d twI) (Jvm.FP.Core.i2d avgI) fS ls)), .second, .val (.double (OwnF.own_gain (Jvm.FP.Core.i2d twI) (Jvm.FP.Core.i2d avgI) (fS + (1 : Int32)) ls)), .second, .val (.double (OwnF.own_gain (Jvm.FP.Core.i2d twI) (Jvm.FP.Core.i2d avgI) (fS + (1 : Int32)) (ls + (1 : Int32)))), .second, .unset, .unset, .unset, .unset, .unset, .unset, .unset, .unset, .unset] [(.double (OwnF.own_gain Jvm.FP.dconst1 (Jvm.FP.Core.i2d ai) (1 : Int32) ai))])) t → Steps p.tables e below (s₁.setTop (entryFrame m #[(.int p0), (.int p1), (.int p2), (.int p3), (.int p4)] maxLocals)) t := fun t k => k67 t (st68.trans k)
  have k70 : ∀ t, Steps p.tables e below (T68.setTop (mkF m 163 #[.val (.int p0), .val (.int p1), .val (.int p2), .val (.int p3), .val (.int p4), .val (.int avgI), .val (.int ai), .val (.double (Jvm.FP.Core.i2d avgI)), .second, .val (.double (Jvm.FP.Core.i2d twI)), .second, .val (.int f), .val (.int fS), .val (.int f0), .val (.int len), .val (.int ls), .val (.ref b29), .val (.ref b40), .val (.double (OwnF.own_gain (Jvm.FP.Core.i2d twI) (Jvm.FP.Core.i2d avgI) f len)), .second, .val (.double (OwnF.own_gain (Jvm.FP.Core.i2d twI) (Jvm.FP.Core.i2d avgI) fS ls)), .second, .val (.double (OwnF.own_gain (Jvm.FP.Core.i2d twI) (Jvm.FP.Core.i2d avgI) (fS + (1 : Int32)) ls)), .second, .val (.double (OwnF.own_gain (Jvm.FP.Core.i2d twI) (Jvm.FP.Core.i2d avgI) (fS + (1 : Int32)) (ls + (1 : Int32)))), .second, .val (.double (OwnF.own_gain Jvm.FP.dconst1 (Jvm.FP.Core.i2d ai) (1 : Int32) ai)), .second, .unset, .unset, .unset, .unset, .unset, .unset, .unset] [(.int (0 : Int32)), (.int f0), (.double (Jvm.FP.Core.i2d twI)), (.ref b40)])) t → Steps p.tables e below (s₁.setTop (entryFrame m #[(.int p0), (.int p1), (.int p2), (.int p3), (.int p4)] maxLocals)) t := fun t k => k69 t (by
    show Steps p.tables e below (T68.setTop (mkF m 154 #[.val (.int p0), .val (.int p1), .val (.int p2), .val (.int p3), .val (.int p4), .val (.int avgI), .val (.int ai), .val (.double (Jvm.FP.Core.i2d avgI)), .second, .val (.double (Jvm.FP.Core.i2d twI)), .second, .val (.int f), .val (.int fS), .val (.int f0), .val (.int len), .val (.int ls), .val (.ref b29), .val (.ref b40), .val (.double (OwnF.own_gain (Jvm.FP.Core.i2d twI) (Jvm.FP.Core.i2d avgI) f len)), .second, .val (.double (OwnF.own_gain (Jvm.FP.Core.i2d twI) (Jvm.FP.Core.i2d avgI) fS ls)), .second, .val (.double (OwnF.own_gain (Jvm.FP.Core.i2d twI) (Jvm.FP.Core.i2d avgI) (fS + (1 : Int32)) ls)), .second, .val (.double (OwnF.own_gain (Jvm.FP.Core.i2d twI) (Jvm.FP.Core.i2d avgI) (fS + (1 : Int32)) (ls + (1 : Int32)))), .second, .unset, .unset, .unset, .unset, .unset, .unset, .unset, .unset, .unset] [(.double (OwnF.own_gain Jvm.FP.dconst1 (Jvm.FP.Core.i2d ai) (1 : Int32) ai))])) _
    refine XS.dstore XH68.here hx rfl (hb hby at_154) rfl (l' := #[.val (.int p0), .val (.int p1), .val (.int p2), .val (.int p3), .val (.int p4), .val (.int avgI), .val (.int ai), .val (.double (Jvm.FP.Core.i2d avgI)), .second, .val (.double (Jvm.FP.Core.i2d twI)), .second, .val (.int f), .val (.int fS), .val (.int f0), .val (.int len), .val (.int ls), .val (.ref b29), .val (.ref b40), .val (.double (OwnF.own_gain (Jvm.FP.Core.i2d twI) (Jvm.FP.Core.i2d avgI) f len)), .second, .val (.double (OwnF.own_gain (Jvm.FP.Core.i2d twI) (Jvm.FP.Core.i2d avgI) fS ls)), .second, .val (.double (OwnF.own_gain (Jvm.FP.Core.i2d twI) (Jvm.FP.Core.i2d avgI) (fS + (1 : Int32)) ls)), .second, .val (.double (OwnF.own_gain (Jvm.FP.Core.i2d twI) (Jvm.FP.Core.i2d avgI) (fS + (1 : Int32)) (ls + (1 : Int32)))), .second, .val (.double (OwnF.own_gain Jvm.FP.dconst1 (Jvm.FP.Core.i2d ai) (1 : Int32) ai)), .second, .unset, .unset, .unset, .unset, .unset, .unset, .unset]) rfl ?_
    show Steps p.tables e below (T68.setTop (mkF m 156 #[.val (.int p0), .val (.int p1), .val (.int p2), .val (.int p3), .val (.int p4), .val (.int avgI), .val (.int ai), .val (.double (Jvm.FP.Core.i2d avgI)), .second, .val (.double (Jvm.FP.Core.i2d twI)), .second, .val (.int f), .val (.int fS), .val (.int f0), .val (.int len), .val (.int ls), .val (.ref b29), .val (.ref b40), .val (.double (OwnF.own_gain (Jvm.FP.Core.i2d twI) (Jvm.FP.Core.i2d avgI) f len)), .second, .val (.double (OwnF.own_gain (Jvm.FP.Core.i2d twI) (Jvm.FP.Core.i2d avgI) fS ls)), .second, .val (.double (OwnF.own_gain (Jvm.FP.Core.i2d twI) (Jvm.FP.Core.i2d avgI) (fS + (1 : Int32)) ls)), .second, .val (.double (OwnF.own_gain (Jvm.FP.Core.i2d twI) (Jvm.FP.Core.i2d avgI) (fS + (1 : Int32)) (ls + (1 : Int32)))), .second, .val (.double (OwnF.own_gain Jvm.FP.dconst1 (Jvm.FP.Core.i2d ai) (1 : Int32) ai)), .second, .unset, .unset, .unset, .unset, .unset, .unset, .unset] [])) _
    refine XS.aload XH68.here hx rfl (hb hby at_156) rfl rfl ?_
    show Steps p.tables e below (T68.setTop (mkF m 158 #[.val (.int p0), .val (.int p1), .val (.int p2), .val (.int p3), .val (.int p4), .val (.int avgI), .val (.int ai), .val (.double (Jvm.FP.Core.i2d avgI)), .second, .val (.double (Jvm.FP.Core.i2d twI)), .second, .val (.int f), .val (.int fS), .val (.int f0), .val (.int len), .val (.int ls), .val (.ref b29), .val (.ref b40), .val (.double (OwnF.own_gain (Jvm.FP.Core.i2d twI) (Jvm.FP.Core.i2d avgI) f len)), .second, .val (.double (OwnF.own_gain (Jvm.FP.Core.i2d twI) (Jvm.FP.Core.i2d avgI) fS ls)), .second, .val (.double (OwnF.own_gain (Jvm.FP.Core.i2d twI) (Jvm.FP.Core.i2d avgI) (fS + (1 : Int32)) ls)), .second, .val (.double (OwnF.own_gain (Jvm.FP.Core.i2d twI) (Jvm.FP.Core.i2d avgI) (fS + (1 : Int32)) (ls + (1 : Int32)))), .second, .val (.double (OwnF.own_gain Jvm.FP.dconst1 (Jvm.FP.Core.i2d ai) (1 : Int32) ai)), .second, .unset, .unset, .unset, .unset, .unset, .unset, .unset] [(.ref b40)])) _
    refine XS.dload XH68.here hx rfl (hb hby at_158) rfl ?_
    show Steps p.tables e below (T68.setTop (mkF m 160 #[.val (.int p0), .val (.int p1), .val (.int p2), .val (.int p3), .val (.int p4), .val (.int avgI), .val (.int ai), .val (.double (Jvm.FP.Core.i2d avgI)), .second, .val (.double (Jvm.FP.Core.i2d twI)), .second, .val (.int f), .val (.int fS), .val (.int f0), .val (.int len), .val (.int ls), .val (.ref b29), .val (.ref b40), .val (.double (OwnF.own_gain (Jvm.FP.Core.i2d twI) (Jvm.FP.Core.i2d avgI) f len)), .second, .val (.double (OwnF.own_gain (Jvm.FP.Core.i2d twI) (Jvm.FP.Core.i2d avgI) fS ls)), .second, .val (.double (OwnF.own_gain (Jvm.FP.Core.i2d twI) (Jvm.FP.Core.i2d avgI) (fS + (1 : Int32)) ls)), .second, .val (.double (OwnF.own_gain (Jvm.FP.Core.i2d twI) (Jvm.FP.Core.i2d avgI) (fS + (1 : Int32)) (ls + (1 : Int32)))), .second, .val (.double (OwnF.own_gain Jvm.FP.dconst1 (Jvm.FP.Core.i2d ai) (1 : Int32) ai)), .second, .unset, .unset, .unset, .unset, .unset, .unset, .unset] [(.double (Jvm.FP.Core.i2d twI)), (.ref b40)])) _
    refine XS.iload XH68.here hx rfl (hb hby at_160) rfl ?_
    show Steps p.tables e below (T68.setTop (mkF m 162 #[.val (.int p0), .val (.int p1), .val (.int p2), .val (.int p3), .val (.int p4), .val (.int avgI), .val (.int ai), .val (.double (Jvm.FP.Core.i2d avgI)), .second, .val (.double (Jvm.FP.Core.i2d twI)), .second, .val (.int f), .val (.int fS), .val (.int f0), .val (.int len), .val (.int ls), .val (.ref b29), .val (.ref b40), .val (.double (OwnF.own_gain (Jvm.FP.Core.i2d twI) (Jvm.FP.Core.i2d avgI) f len)), .second, .val (.double (OwnF.own_gain (Jvm.FP.Core.i2d twI) (Jvm.FP.Core.i2d avgI) fS ls)), .second, .val (.double (OwnF.own_gain (Jvm.FP.Core.i2d twI) (Jvm.FP.Core.i2d avgI) (fS + (1 : Int32)) ls)), .second, .val (.double (OwnF.own_gain (Jvm.FP.Core.i2d twI) (Jvm.FP.Core.i2d avgI) (fS + (1 : Int32)) (ls + (1 : Int32)))), .second, .val (.double (OwnF.own_gain Jvm.FP.dconst1 (Jvm.FP.Core.i2d ai) (1 : Int32) ai)), .second, .unset, .unset, .unset, .unset, .unset, .unset, .unset] [(.int f0), (.double (Jvm.FP.Core.i2d twI)), (.ref b40)])) _
    refine XS.iconst XH68.here hx rfl (hb hby at_162) ?_
    exact k)
  obtain ⟨cq71, kq71, q71a, q71b, q71c⟩ := isOf hZ eq68 F53
  obtain ⟨_, _, ⟨T71, L71, kc71, ks71⟩, -, X71, ⟨Lc71, hQ71, l71, y71, z71⟩, st71⟩ := XH68.virtualBack hx (y := (⟨"com/example/wegweiser/wegweiser/search/Bm25", "gain", "(DII)D"⟩ : MethodName)) (z := (⟨"com/example/wegweiser/wegweiser/search/Bm25", "gain", "(DII)D"⟩ : MethodName)) hown (mvT hZ (hw _ (List.mem_of_getElem? (i := 18) rfl))) (mvT hZ (hw _ (List.mem_of_getElem? (i := 19) rfl))) (notFace_of_selects (args := #[]) (mvT hZ (hw _ (List.mem_of_getElem? (i := 21) rfl)))) (mvT hZ (hw _ (List.mem_of_getElem? (i := 21) rfl))) (mvT hZ (hw _ (List.mem_of_getElem? (i := 20) rfl))) (by decide) (backOf (W := 0) (rm3 l Z a0 hw [] b40 (Jvm.FP.Core.i2d twI) f0 (0 : Int32) (Jvm.FP.Core.i2d ai) T49.heap n0 Z50 Fa49 ok6) hZ (hw _ (List.mem_of_getElem? (i := 22) rfl)) (hw _ (List.mem_of_getElem? (i := 7) rfl)) (by decide) (by decide)) q71a q71c (g := (mkF m 163 #[.val (.int p0), .val (.int p1), .val (.int p2), .val (.int p3), .val (.int p4), .val (.int avgI), .val (.int ai), .val (.double (Jvm.FP.Core.i2d avgI)), .second, .val (.double (Jvm.FP.Core.i2d twI)), .second, .val (.int f), .val (.int fS), .val (.int f0), .val (.int len), .val (.int ls), .val (.ref b29), .val (.ref b40), .val (.double (OwnF.own_gain (Jvm.FP.Core.i2d twI) (Jvm.FP.Core.i2d avgI) f len)), .second, .val (.double (OwnF.own_gain (Jvm.FP.Core.i2d twI) (Jvm.FP.Core.i2d avgI) fS ls)), .second, .val (.double (OwnF.own_gain (Jvm.FP.Core.i2d twI) (Jvm.FP.Core.i2d avgI) (fS + (1 : Int32)) ls)), .second, .val (.double (OwnF.own_gain (Jvm.FP.Core.i2d twI) (Jvm.FP.Core.i2d avgI) (fS + (1 : Int32)) (ls + (1 : Int32)))), .second, .val (.double (OwnF.own_gain Jvm.FP.dconst1 (Jvm.FP.Core.i2d ai) (1 : Int32) ai)), .second, .unset, .unset, .unset, .unset, .unset, .unset, .unset] [(.int (0 : Int32)), (.int f0), (.double (Jvm.FP.Core.i2d twI)), (.ref b40)])) rfl (by rw [hml]; rfl) (Steps.refl _) (argsL := [(.double (Jvm.FP.Core.i2d twI)), (.int f0), (.int (0 : Int32))]) (rest := []) (lenOf pd_1 rfl) rfl (by show 2 * 0 + _ ≤ _; exact Nat.le_of_eq rfl) (hb hby at_163) (fun _ _ => ⟨rfl, eq68, (by decide : 2 + 0 ≤ _), (by decide : 4 + 0 ≤ _)⟩)
  dsimp only [Pt.U, Pt.locs, Pt.cells, Pt.slots] at X71 l71 y71 z71 st71 hQ71
  subst l71 y71 z71
  obtain ⟨rfl, Nq71, eq71⟩ := hQ71
  have N71 := Fr.app NH68 Nq71
  obtain ⟨LH71, XH71, NH71⟩ := own_hide X71 N71
  clear X71 N71
  have k72 : ∀ t, Steps p.tables e below (T71.setTop (mkF m 166 #[.val (.int p0), .val (.int p1), .val (.int p2), .val (.int p3), .val (.int p4), .val (.int avgI), .val (.int ai), .val (.double (Jvm.FP.Core.i2d avgI)), .second, .val (.double (Jvm.FP.Core.i2d twI)), .second, .val (.int f), .val (.int fS), .val (.int f0), .val (.int len), .val (.int ls), .val (.ref b29), .val (.ref b40), .val (.double (OwnF.own_gain (Jvm.FP.Core.i2d twI) (Jvm.FP.Core.i2d avgI) f len)), .second, .val (.double (OwnF.own_gain (Jvm.FP.Core.i2d twI) (Jvm.FP.Core.i2d avgI) fS ls)), .second, .val (.double (OwnF.own_gain (Jvm.FP.Core.i2d twI) (Jvm.FP.Core.i2d avgI) (fS + (1 : Int32)) ls)), .second, .val (.double (OwnF.own_gain (Jvm.FP.Core.i2d twI) (Jvm.FP.Core.i2d avgI) (fS + (1 : Int32)) (ls + (1 : Int32)))), .second, .val (.double (OwnF.own_gain Jvm.FP.dconst1 (Jvm.FP.Core.i2d ai) (1 : Int32) ai)), .second, .unset, .unset, .unset, .unset, .unset, .unset, .unset] [(.double (OwnF.own_gain (Jvm.FP.Core.i2d twI) (Jvm.FP.Core.i2d ai) f0 (0 : Int32)))])) t → Steps p.tables e below (s₁.setTop (entryFrame m #[(.int p0), (.int p1), (.int p2), (.int p3), (.int p4)] maxLocals)) t := fun t k => k70 t (st71.trans k)
  have k73 : ∀ t, Steps p.tables e below (T71.setTop (mkF m 178 #[.val (.int p0), .val (.int p1), .val (.int p2), .val (.int p3), .val (.int p4), .val (.int avgI), .val (.int ai), .val (.double (Jvm.FP.Core.i2d avgI)), .second, .val (.double (Jvm.FP.Core.i2d twI)), .second, .val (.int f), .val (.int fS), .val (.int f0), .val (.int len), .val (.int ls), .val (.ref b29), .val (.ref b40), .val (.double (OwnF.own_gain (Jvm.FP.Core.i2d twI) (Jvm.FP.Core.i2d avgI) f len)), .second, .val (.double (OwnF.own_gain (Jvm.FP.Core.i2d twI) (Jvm.FP.Core.i2d avgI) fS ls)), .second, .val (.double (OwnF.own_gain (Jvm.FP.Core.i2d twI) (Jvm.FP.Core.i2d avgI) (fS + (1 : Int32)) ls)), .second, .val (.double (OwnF.own_gain (Jvm.FP.Core.i2d twI) (Jvm.FP.Core.i2d avgI) (fS + (1 : Int32)) (ls + (1 : Int32)))), .second, .val (.double (OwnF.own_gain Jvm.FP.dconst1 (Jvm.FP.Core.i2d ai) (1 : Int32) ai)), .second, .val (.double (OwnF.own_gain (Jvm.FP.Core.i2d twI) (Jvm.FP.Core.i2d ai) f0 (0 : Int32))), .second, .unset, .unset, .unset, .unset, .unset] [(.int ai), (.int ((4 : Int32) * f0)), (.double (Jvm.FP.Core.i2d twI)), (.ref b40)])) t → Steps p.tables e below (s₁.setTop (entryFrame m #[(.int p0), (.int p1), (.int p2), (.int p3), (.int p4)] maxLocals)) t := fun t k => k72 t (by
    show Steps p.tables e below (T71.setTop (mkF m 166 #[.val (.int p0), .val (.int p1), .val (.int p2), .val (.int p3), .val (.int p4), .val (.int avgI), .val (.int ai), .val (.double (Jvm.FP.Core.i2d avgI)), .second, .val (.double (Jvm.FP.Core.i2d twI)), .second, .val (.int f), .val (.int fS), .val (.int f0), .val (.int len), .val (.int ls), .val (.ref b29), .val (.ref b40), .val (.double (OwnF.own_gain (Jvm.FP.Core.i2d twI) (Jvm.FP.Core.i2d avgI) f len)), .second, .val (.double (OwnF.own_gain (Jvm.FP.Core.i2d twI) (Jvm.FP.Core.i2d avgI) fS ls)), .second, .val (.double (OwnF.own_gain (Jvm.FP.Core.i2d twI) (Jvm.FP.Core.i2d avgI) (fS + (1 : Int32)) ls)), .second, .val (.double (OwnF.own_gain (Jvm.FP.Core.i2d twI) (Jvm.FP.Core.i2d avgI) (fS + (1 : Int32)) (ls + (1 : Int32)))), .second, .val (.double (OwnF.own_gain Jvm.FP.dconst1 (Jvm.FP.Core.i2d ai) (1 : Int32) ai)), .second, .unset, .unset, .unset, .unset, .unset, .unset, .unset] [(.double (OwnF.own_gain (Jvm.FP.Core.i2d twI) (Jvm.FP.Core.i2d ai) f0 (0 : Int32)))])) _
    refine XS.dstore XH71.here hx rfl (hb hby at_166) rfl (l' := #[.val (.int p0), .val (.int p1), .val (.int p2), .val (.int p3), .val (.int p4), .val (.int avgI), .val (.int ai), .val (.double (Jvm.FP.Core.i2d avgI)), .second, .val (.double (Jvm.FP.Core.i2d twI)), .second, .val (.int f), .val (.int fS), .val (.int f0), .val (.int len), .val (.int ls), .val (.ref b29), .val (.ref b40), .val (.double (OwnF.own_gain (Jvm.FP.Core.i2d twI) (Jvm.FP.Core.i2d avgI) f len)), .second, .val (.double (OwnF.own_gain (Jvm.FP.Core.i2d twI) (Jvm.FP.Core.i2d avgI) fS ls)), .second, .val (.double (OwnF.own_gain (Jvm.FP.Core.i2d twI) (Jvm.FP.Core.i2d avgI) (fS + (1 : Int32)) ls)), .second, .val (.double (OwnF.own_gain (Jvm.FP.Core.i2d twI) (Jvm.FP.Core.i2d avgI) (fS + (1 : Int32)) (ls + (1 : Int32)))), .second, .val (.double (OwnF.own_gain Jvm.FP.dconst1 (Jvm.FP.Core.i2d ai) (1 : Int32) ai)), .second, .val (.double (OwnF.own_gain (Jvm.FP.Core.i2d twI) (Jvm.FP.Core.i2d ai) f0 (0 : Int32))), .second, .unset, .unset, .unset, .unset, .unset]) rfl ?_
    show Steps p.tables e below (T71.setTop (mkF m 168 #[.val (.int p0), .val (.int p1), .val (.int p2), .val (.int p3), .val (.int p4), .val (.int avgI), .val (.int ai), .val (.double (Jvm.FP.Core.i2d avgI)), .second, .val (.double (Jvm.FP.Core.i2d twI)), .second, .val (.int f), .val (.int fS), .val (.int f0), .val (.int len), .val (.int ls), .val (.ref b29), .val (.ref b40), .val (.double (OwnF.own_gain (Jvm.FP.Core.i2d twI) (Jvm.FP.Core.i2d avgI) f len)), .second, .val (.double (OwnF.own_gain (Jvm.FP.Core.i2d twI) (Jvm.FP.Core.i2d avgI) fS ls)), .second, .val (.double (OwnF.own_gain (Jvm.FP.Core.i2d twI) (Jvm.FP.Core.i2d avgI) (fS + (1 : Int32)) ls)), .second, .val (.double (OwnF.own_gain (Jvm.FP.Core.i2d twI) (Jvm.FP.Core.i2d avgI) (fS + (1 : Int32)) (ls + (1 : Int32)))), .second, .val (.double (OwnF.own_gain Jvm.FP.dconst1 (Jvm.FP.Core.i2d ai) (1 : Int32) ai)), .second, .val (.double (OwnF.own_gain (Jvm.FP.Core.i2d twI) (Jvm.FP.Core.i2d ai) f0 (0 : Int32))), .second, .unset, .unset, .unset, .unset, .unset] [])) _
    refine XS.aload XH71.here hx rfl (hb hby at_168) rfl rfl ?_
    show Steps p.tables e below (T71.setTop (mkF m 170 #[.val (.int p0), .val (.int p1), .val (.int p2), .val (.int p3), .val (.int p4), .val (.int avgI), .val (.int ai), .val (.double (Jvm.FP.Core.i2d avgI)), .second, .val (.double (Jvm.FP.Core.i2d twI)), .second, .val (.int f), .val (.int fS), .val (.int f0), .val (.int len), .val (.int ls), .val (.ref b29), .val (.ref b40), .val (.double (OwnF.own_gain (Jvm.FP.Core.i2d twI) (Jvm.FP.Core.i2d avgI) f len)), .second, .val (.double (OwnF.own_gain (Jvm.FP.Core.i2d twI) (Jvm.FP.Core.i2d avgI) fS ls)), .second, .val (.double (OwnF.own_gain (Jvm.FP.Core.i2d twI) (Jvm.FP.Core.i2d avgI) (fS + (1 : Int32)) ls)), .second, .val (.double (OwnF.own_gain (Jvm.FP.Core.i2d twI) (Jvm.FP.Core.i2d avgI) (fS + (1 : Int32)) (ls + (1 : Int32)))), .second, .val (.double (OwnF.own_gain Jvm.FP.dconst1 (Jvm.FP.Core.i2d ai) (1 : Int32) ai)), .second, .val (.double (OwnF.own_gain (Jvm.FP.Core.i2d twI) (Jvm.FP.Core.i2d ai) f0 (0 : Int32))), .second, .unset, .unset, .unset, .unset, .unset] [(.ref b40)])) _
    refine XS.dload XH71.here hx rfl (hb hby at_170) rfl ?_
    show Steps p.tables e below (T71.setTop (mkF m 172 #[.val (.int p0), .val (.int p1), .val (.int p2), .val (.int p3), .val (.int p4), .val (.int avgI), .val (.int ai), .val (.double (Jvm.FP.Core.i2d avgI)), .second, .val (.double (Jvm.FP.Core.i2d twI)), .second, .val (.int f), .val (.int fS), .val (.int f0), .val (.int len), .val (.int ls), .val (.ref b29), .val (.ref b40), .val (.double (OwnF.own_gain (Jvm.FP.Core.i2d twI) (Jvm.FP.Core.i2d avgI) f len)), .second, .val (.double (OwnF.own_gain (Jvm.FP.Core.i2d twI) (Jvm.FP.Core.i2d avgI) fS ls)), .second, .val (.double (OwnF.own_gain (Jvm.FP.Core.i2d twI) (Jvm.FP.Core.i2d avgI) (fS + (1 : Int32)) ls)), .second, .val (.double (OwnF.own_gain (Jvm.FP.Core.i2d twI) (Jvm.FP.Core.i2d avgI) (fS + (1 : Int32)) (ls + (1 : Int32)))), .second, .val (.double (OwnF.own_gain Jvm.FP.dconst1 (Jvm.FP.Core.i2d ai) (1 : Int32) ai)), .second, .val (.double (OwnF.own_gain (Jvm.FP.Core.i2d twI) (Jvm.FP.Core.i2d ai) f0 (0 : Int32))), .second, .unset, .unset, .unset, .unset, .unset] [(.double (Jvm.FP.Core.i2d twI)), (.ref b40)])) _
    refine XS.iconst XH71.here hx rfl (hb hby at_172) ?_
    show Steps p.tables e below (T71.setTop (mkF m 173 #[.val (.int p0), .val (.int p1), .val (.int p2), .val (.int p3), .val (.int p4), .val (.int avgI), .val (.int ai), .val (.double (Jvm.FP.Core.i2d avgI)), .second, .val (.double (Jvm.FP.Core.i2d twI)), .second, .val (.int f), .val (.int fS), .val (.int f0), .val (.int len), .val (.int ls), .val (.ref b29), .val (.ref b40), .val (.double (OwnF.own_gain (Jvm.FP.Core.i2d twI) (Jvm.FP.Core.i2d avgI) f len)), .second, .val (.double (OwnF.own_gain (Jvm.FP.Core.i2d twI) (Jvm.FP.Core.i2d avgI) fS ls)), .second, .val (.double (OwnF.own_gain (Jvm.FP.Core.i2d twI) (Jvm.FP.Core.i2d avgI) (fS + (1 : Int32)) ls)), .second, .val (.double (OwnF.own_gain (Jvm.FP.Core.i2d twI) (Jvm.FP.Core.i2d avgI) (fS + (1 : Int32)) (ls + (1 : Int32)))), .second, .val (.double (OwnF.own_gain Jvm.FP.dconst1 (Jvm.FP.Core.i2d ai) (1 : Int32) ai)), .second, .val (.double (OwnF.own_gain (Jvm.FP.Core.i2d twI) (Jvm.FP.Core.i2d ai) f0 (0 : Int32))), .second, .unset, .unset, .unset, .unset, .unset] [(.int (4 : Int32)), (.double (Jvm.FP.Core.i2d twI)), (.ref b40)])) _
    refine XS.iload XH71.here hx rfl (hb hby at_173) rfl ?_
    show Steps p.tables e below (T71.setTop (mkF m 175 #[.val (.int p0), .val (.int p1), .val (.int p2), .val (.int p3), .val (.int p4), .val (.int avgI), .val (.int ai), .val (.double (Jvm.FP.Core.i2d avgI)), .second, .val (.double (Jvm.FP.Core.i2d twI)), .second, .val (.int f), .val (.int fS), .val (.int f0), .val (.int len), .val (.int ls), .val (.ref b29), .val (.ref b40), .val (.double (OwnF.own_gain (Jvm.FP.Core.i2d twI) (Jvm.FP.Core.i2d avgI) f len)), .second, .val (.double (OwnF.own_gain (Jvm.FP.Core.i2d twI) (Jvm.FP.Core.i2d avgI) fS ls)), .second, .val (.double (OwnF.own_gain (Jvm.FP.Core.i2d twI) (Jvm.FP.Core.i2d avgI) (fS + (1 : Int32)) ls)), .second, .val (.double (OwnF.own_gain (Jvm.FP.Core.i2d twI) (Jvm.FP.Core.i2d avgI) (fS + (1 : Int32)) (ls + (1 : Int32)))), .second, .val (.double (OwnF.own_gain Jvm.FP.dconst1 (Jvm.FP.Core.i2d ai) (1 : Int32) ai)), .second, .val (.double (OwnF.own_gain (Jvm.FP.Core.i2d twI) (Jvm.FP.Core.i2d ai) f0 (0 : Int32))), .second, .unset, .unset, .unset, .unset, .unset] [(.int f0), (.int (4 : Int32)), (.double (Jvm.FP.Core.i2d twI)), (.ref b40)])) _
    refine XS.imul XH71.here hx rfl (hb hby at_175) rfl ?_
    show Steps p.tables e below (T71.setTop (mkF m 176 #[.val (.int p0), .val (.int p1), .val (.int p2), .val (.int p3), .val (.int p4), .val (.int avgI), .val (.int ai), .val (.double (Jvm.FP.Core.i2d avgI)), .second, .val (.double (Jvm.FP.Core.i2d twI)), .second, .val (.int f), .val (.int fS), .val (.int f0), .val (.int len), .val (.int ls), .val (.ref b29), .val (.ref b40), .val (.double (OwnF.own_gain (Jvm.FP.Core.i2d twI) (Jvm.FP.Core.i2d avgI) f len)), .second, .val (.double (OwnF.own_gain (Jvm.FP.Core.i2d twI) (Jvm.FP.Core.i2d avgI) fS ls)), .second, .val (.double (OwnF.own_gain (Jvm.FP.Core.i2d twI) (Jvm.FP.Core.i2d avgI) (fS + (1 : Int32)) ls)), .second, .val (.double (OwnF.own_gain (Jvm.FP.Core.i2d twI) (Jvm.FP.Core.i2d avgI) (fS + (1 : Int32)) (ls + (1 : Int32)))), .second, .val (.double (OwnF.own_gain Jvm.FP.dconst1 (Jvm.FP.Core.i2d ai) (1 : Int32) ai)), .second, .val (.double (OwnF.own_gain (Jvm.FP.Core.i2d twI) (Jvm.FP.Core.i2d ai) f0 (0 : Int32))), .second, .unset, .unset, .unset, .unset, .unset] [(.int ((4 : Int32) * f0)), (.double (Jvm.FP.Core.i2d twI)), (.ref b40)])) _
    refine XS.iload XH71.here hx rfl (hb hby at_176) rfl ?_
    exact k)
  obtain ⟨cq74, kq74, q74a, q74b, q74c⟩ := isOf hZ eq71 F53
  obtain ⟨_, _, ⟨T74, L74, kc74, ks74⟩, -, X74, ⟨Lc74, hQ74, l74, y74, z74⟩, st74⟩ := XH71.virtualBack hx (y := (⟨"com/example/wegweiser/wegweiser/search/Bm25", "gain", "(DII)D"⟩ : MethodName)) (z := (⟨"com/example/wegweiser/wegweiser/search/Bm25", "gain", "(DII)D"⟩ : MethodName)) hown (mvT hZ (hw _ (List.mem_of_getElem? (i := 18) rfl))) (mvT hZ (hw _ (List.mem_of_getElem? (i := 19) rfl))) (notFace_of_selects (args := #[]) (mvT hZ (hw _ (List.mem_of_getElem? (i := 21) rfl)))) (mvT hZ (hw _ (List.mem_of_getElem? (i := 21) rfl))) (mvT hZ (hw _ (List.mem_of_getElem? (i := 20) rfl))) (by decide) (backOf (W := 0) (rm3 l Z a0 hw [] b40 (Jvm.FP.Core.i2d twI) ((4 : Int32) * f0) ai (Jvm.FP.Core.i2d ai) T49.heap n0 Z50 Fa49 ok7) hZ (hw _ (List.mem_of_getElem? (i := 22) rfl)) (hw _ (List.mem_of_getElem? (i := 7) rfl)) (by decide) (by decide)) q74a q74c (g := (mkF m 178 #[.val (.int p0), .val (.int p1), .val (.int p2), .val (.int p3), .val (.int p4), .val (.int avgI), .val (.int ai), .val (.double (Jvm.FP.Core.i2d avgI)), .second, .val (.double (Jvm.FP.Core.i2d twI)), .second, .val (.int f), .val (.int fS), .val (.int f0), .val (.int len), .val (.int ls), .val (.ref b29), .val (.ref b40), .val (.double (OwnF.own_gain (Jvm.FP.Core.i2d twI) (Jvm.FP.Core.i2d avgI) f len)), .second, .val (.double (OwnF.own_gain (Jvm.FP.Core.i2d twI) (Jvm.FP.Core.i2d avgI) fS ls)), .second, .val (.double (OwnF.own_gain (Jvm.FP.Core.i2d twI) (Jvm.FP.Core.i2d avgI) (fS + (1 : Int32)) ls)), .second, .val (.double (OwnF.own_gain (Jvm.FP.Core.i2d twI) (Jvm.FP.Core.i2d avgI) (fS + (1 : Int32)) (ls + (1 : Int32)))), .second, .val (.double (OwnF.own_gain Jvm.FP.dconst1 (Jvm.FP.Core.i2d ai) (1 : Int32) ai)), .second, .val (.double (OwnF.own_gain (Jvm.FP.Core.i2d twI) (Jvm.FP.Core.i2d ai) f0 (0 : Int32))), .second, .unset, .unset, .unset, .unset, .unset] [(.int ai), (.int ((4 : Int32) * f0)), (.double (Jvm.FP.Core.i2d twI)), (.ref b40)])) rfl (by rw [hml]; rfl) (Steps.refl _) (argsL := [(.double (Jvm.FP.Core.i2d twI)), (.int ((4 : Int32) * f0)), (.int ai)]) (rest := []) (lenOf pd_1 rfl) rfl (by show 2 * 0 + _ ≤ _; exact Nat.le_of_eq rfl) (hb hby at_178) (fun _ _ => ⟨rfl, eq71, (by decide : 2 + 0 ≤ _), (by decide : 4 + 0 ≤ _)⟩)
  dsimp only [Pt.U, Pt.locs, Pt.cells, Pt.slots] at X74 l74 y74 z74 st74 hQ74
  subst l74 y74 z74
  obtain ⟨rfl, Nq74, eq74⟩ := hQ74
  have N74 := Fr.app NH71 Nq74
  obtain ⟨LH74, XH74, NH74⟩ := own_hide X74 N74
  clear X74 N74
  have k75 : ∀ t, Steps p.tables e below (T74.setTop (mkF m 181 #[.val (.int p0), .val (.int p1), .val (.int p2), .val (.int p3), .val (.int p4), .val (.int avgI), .val (.int ai), .val (.double (Jvm.FP.Core.i2d avgI)), .second, .val (.double (Jvm.FP.Core.i2d twI)), .second, .val (.int f), .val (.int fS), .val (.int f0), .val (.int len), .val (.int ls), .val (.ref b29), .val (.ref b40), .val (.double (OwnF.own_gain (Jvm.FP.Core.i2d twI) (Jvm.FP.Core.i2d avgI) f len)), .second, .val (.double (OwnF.own_gain (Jvm.FP.Core.i2d twI) (Jvm.FP.Core.i2d avgI) fS ls)), .second, .val (.double (OwnF.own_gain (Jvm.FP.Core.i2d twI) (Jvm.FP.Core.i2d avgI) (fS + (1 : Int32)) ls)), .second, .val (.double (OwnF.own_gain (Jvm.FP.Core.i2d twI) (Jvm.FP.Core.i2d avgI) (fS + (1 : Int32)) (ls + (1 : Int32)))), .second, .val (.double (OwnF.own_gain Jvm.FP.dconst1 (Jvm.FP.Core.i2d ai) (1 : Int32) ai)), .second, .val (.double (OwnF.own_gain (Jvm.FP.Core.i2d twI) (Jvm.FP.Core.i2d ai) f0 (0 : Int32))), .second, .unset, .unset, .unset, .unset, .unset] [(.double (OwnF.own_gain (Jvm.FP.Core.i2d twI) (Jvm.FP.Core.i2d ai) ((4 : Int32) * f0) ai))])) t → Steps p.tables e below (s₁.setTop (entryFrame m #[(.int p0), (.int p1), (.int p2), (.int p3), (.int p4)] maxLocals)) t := fun t k => k73 t (st74.trans k)
  have k76 : ∀ t, Steps p.tables e below (T74.setTop (mkF m 193 #[.val (.int p0), .val (.int p1), .val (.int p2), .val (.int p3), .val (.int p4), .val (.int avgI), .val (.int ai), .val (.double (Jvm.FP.Core.i2d avgI)), .second, .val (.double (Jvm.FP.Core.i2d twI)), .second, .val (.int f), .val (.int fS), .val (.int f0), .val (.int len), .val (.int ls), .val (.ref b29), .val (.ref b40), .val (.double (OwnF.own_gain (Jvm.FP.Core.i2d twI) (Jvm.FP.Core.i2d avgI) f len)), .second, .val (.double (OwnF.own_gain (Jvm.FP.Core.i2d twI) (Jvm.FP.Core.i2d avgI) fS ls)), .second, .val (.double (OwnF.own_gain (Jvm.FP.Core.i2d twI) (Jvm.FP.Core.i2d avgI) (fS + (1 : Int32)) ls)), .second, .val (.double (OwnF.own_gain (Jvm.FP.Core.i2d twI) (Jvm.FP.Core.i2d avgI) (fS + (1 : Int32)) (ls + (1 : Int32)))), .second, .val (.double (OwnF.own_gain Jvm.FP.dconst1 (Jvm.FP.Core.i2d ai) (1 : Int32) ai)), .second, .val (.double (OwnF.own_gain (Jvm.FP.Core.i2d twI) (Jvm.FP.Core.i2d ai) f0 (0 : Int32))), .second, .val (.double (OwnF.own_gain (Jvm.FP.Core.i2d twI) (Jvm.FP.Core.i2d ai) ((4 : Int32) * f0) ai)), .second, .val (.double (Jvm.FP.Core.dmul (Jvm.FP.Core.i2d twI) (4612586738352862003 : UInt64))), .second, .unset] [(.int f)])) t → Steps p.tables e below (s₁.setTop (entryFrame m #[(.int p0), (.int p1), (.int p2), (.int p3), (.int p4)] maxLocals)) t := fun t k => k75 t (by
    show Steps p.tables e below (T74.setTop (mkF m 181 #[.val (.int p0), .val (.int p1), .val (.int p2), .val (.int p3), .val (.int p4), .val (.int avgI), .val (.int ai), .val (.double (Jvm.FP.Core.i2d avgI)), .second, .val (.double (Jvm.FP.Core.i2d twI)), .second, .val (.int f), .val (.int fS), .val (.int f0), .val (.int len), .val (.int ls), .val (.ref b29), .val (.ref b40), .val (.double (OwnF.own_gain (Jvm.FP.Core.i2d twI) (Jvm.FP.Core.i2d avgI) f len)), .second, .val (.double (OwnF.own_gain (Jvm.FP.Core.i2d twI) (Jvm.FP.Core.i2d avgI) fS ls)), .second, .val (.double (OwnF.own_gain (Jvm.FP.Core.i2d twI) (Jvm.FP.Core.i2d avgI) (fS + (1 : Int32)) ls)), .second, .val (.double (OwnF.own_gain (Jvm.FP.Core.i2d twI) (Jvm.FP.Core.i2d avgI) (fS + (1 : Int32)) (ls + (1 : Int32)))), .second, .val (.double (OwnF.own_gain Jvm.FP.dconst1 (Jvm.FP.Core.i2d ai) (1 : Int32) ai)), .second, .val (.double (OwnF.own_gain (Jvm.FP.Core.i2d twI) (Jvm.FP.Core.i2d ai) f0 (0 : Int32))), .second, .unset, .unset, .unset, .unset, .unset] [(.double (OwnF.own_gain (Jvm.FP.Core.i2d twI) (Jvm.FP.Core.i2d ai) ((4 : Int32) * f0) ai))])) _
    refine XS.dstore XH74.here hx rfl (hb hby at_181) rfl (l' := #[.val (.int p0), .val (.int p1), .val (.int p2), .val (.int p3), .val (.int p4), .val (.int avgI), .val (.int ai), .val (.double (Jvm.FP.Core.i2d avgI)), .second, .val (.double (Jvm.FP.Core.i2d twI)), .second, .val (.int f), .val (.int fS), .val (.int f0), .val (.int len), .val (.int ls), .val (.ref b29), .val (.ref b40), .val (.double (OwnF.own_gain (Jvm.FP.Core.i2d twI) (Jvm.FP.Core.i2d avgI) f len)), .second, .val (.double (OwnF.own_gain (Jvm.FP.Core.i2d twI) (Jvm.FP.Core.i2d avgI) fS ls)), .second, .val (.double (OwnF.own_gain (Jvm.FP.Core.i2d twI) (Jvm.FP.Core.i2d avgI) (fS + (1 : Int32)) ls)), .second, .val (.double (OwnF.own_gain (Jvm.FP.Core.i2d twI) (Jvm.FP.Core.i2d avgI) (fS + (1 : Int32)) (ls + (1 : Int32)))), .second, .val (.double (OwnF.own_gain Jvm.FP.dconst1 (Jvm.FP.Core.i2d ai) (1 : Int32) ai)), .second, .val (.double (OwnF.own_gain (Jvm.FP.Core.i2d twI) (Jvm.FP.Core.i2d ai) f0 (0 : Int32))), .second, .val (.double (OwnF.own_gain (Jvm.FP.Core.i2d twI) (Jvm.FP.Core.i2d ai) ((4 : Int32) * f0) ai)), .second, .unset, .unset, .unset]) rfl ?_
    show Steps p.tables e below (T74.setTop (mkF m 183 #[.val (.int p0), .val (.int p1), .val (.int p2), .val (.int p3), .val (.int p4), .val (.int avgI), .val (.int ai), .val (.double (Jvm.FP.Core.i2d avgI)), .second, .val (.double (Jvm.FP.Core.i2d twI)), .second, .val (.int f), .val (.int fS), .val (.int f0), .val (.int len), .val (.int ls), .val (.ref b29), .val (.ref b40), .val (.double (OwnF.own_gain (Jvm.FP.Core.i2d twI) (Jvm.FP.Core.i2d avgI) f len)), .second, .val (.double (OwnF.own_gain (Jvm.FP.Core.i2d twI) (Jvm.FP.Core.i2d avgI) fS ls)), .second, .val (.double (OwnF.own_gain (Jvm.FP.Core.i2d twI) (Jvm.FP.Core.i2d avgI) (fS + (1 : Int32)) ls)), .second, .val (.double (OwnF.own_gain (Jvm.FP.Core.i2d twI) (Jvm.FP.Core.i2d avgI) (fS + (1 : Int32)) (ls + (1 : Int32)))), .second, .val (.double (OwnF.own_gain Jvm.FP.dconst1 (Jvm.FP.Core.i2d ai) (1 : Int32) ai)), .second, .val (.double (OwnF.own_gain (Jvm.FP.Core.i2d twI) (Jvm.FP.Core.i2d ai) f0 (0 : Int32))), .second, .val (.double (OwnF.own_gain (Jvm.FP.Core.i2d twI) (Jvm.FP.Core.i2d ai) ((4 : Int32) * f0) ai)), .second, .unset, .unset, .unset] [])) _
    refine XS.dload XH74.here hx rfl (hb hby at_183) rfl ?_
    show Steps p.tables e below (T74.setTop (mkF m 185 #[.val (.int p0), .val (.int p1), .val (.int p2), .val (.int p3), .val (.int p4), .val (.int avgI), .val (.int ai), .val (.double (Jvm.FP.Core.i2d avgI)), .second, .val (.double (Jvm.FP.Core.i2d twI)), .second, .val (.int f), .val (.int fS), .val (.int f0), .val (.int len), .val (.int ls), .val (.ref b29), .val (.ref b40), .val (.double (OwnF.own_gain (Jvm.FP.Core.i2d twI) (Jvm.FP.Core.i2d avgI) f len)), .second, .val (.double (OwnF.own_gain (Jvm.FP.Core.i2d twI) (Jvm.FP.Core.i2d avgI) fS ls)), .second, .val (.double (OwnF.own_gain (Jvm.FP.Core.i2d twI) (Jvm.FP.Core.i2d avgI) (fS + (1 : Int32)) ls)), .second, .val (.double (OwnF.own_gain (Jvm.FP.Core.i2d twI) (Jvm.FP.Core.i2d avgI) (fS + (1 : Int32)) (ls + (1 : Int32)))), .second, .val (.double (OwnF.own_gain Jvm.FP.dconst1 (Jvm.FP.Core.i2d ai) (1 : Int32) ai)), .second, .val (.double (OwnF.own_gain (Jvm.FP.Core.i2d twI) (Jvm.FP.Core.i2d ai) f0 (0 : Int32))), .second, .val (.double (OwnF.own_gain (Jvm.FP.Core.i2d twI) (Jvm.FP.Core.i2d ai) ((4 : Int32) * f0) ai)), .second, .unset, .unset, .unset] [(.double (Jvm.FP.Core.i2d twI))])) _
    refine XH74.ldc2DoubleC hx hown (mvT hZ (hw _ (List.mem_of_getElem? (i := 27) rfl))) (g := (mkF m 185 #[.val (.int p0), .val (.int p1), .val (.int p2), .val (.int p3), .val (.int p4), .val (.int avgI), .val (.int ai), .val (.double (Jvm.FP.Core.i2d avgI)), .second, .val (.double (Jvm.FP.Core.i2d twI)), .second, .val (.int f), .val (.int fS), .val (.int f0), .val (.int len), .val (.int ls), .val (.ref b29), .val (.ref b40), .val (.double (OwnF.own_gain (Jvm.FP.Core.i2d twI) (Jvm.FP.Core.i2d avgI) f len)), .second, .val (.double (OwnF.own_gain (Jvm.FP.Core.i2d twI) (Jvm.FP.Core.i2d avgI) fS ls)), .second, .val (.double (OwnF.own_gain (Jvm.FP.Core.i2d twI) (Jvm.FP.Core.i2d avgI) (fS + (1 : Int32)) ls)), .second, .val (.double (OwnF.own_gain (Jvm.FP.Core.i2d twI) (Jvm.FP.Core.i2d avgI) (fS + (1 : Int32)) (ls + (1 : Int32)))), .second, .val (.double (OwnF.own_gain Jvm.FP.dconst1 (Jvm.FP.Core.i2d ai) (1 : Int32) ai)), .second, .val (.double (OwnF.own_gain (Jvm.FP.Core.i2d twI) (Jvm.FP.Core.i2d ai) f0 (0 : Int32))), .second, .val (.double (OwnF.own_gain (Jvm.FP.Core.i2d twI) (Jvm.FP.Core.i2d ai) ((4 : Int32) * f0) ai)), .second, .unset, .unset, .unset] [(.double (Jvm.FP.Core.i2d twI))])) rfl (hb hby at_185) _ ?_
    show Steps p.tables e below (T74.setTop (mkF m 188 #[.val (.int p0), .val (.int p1), .val (.int p2), .val (.int p3), .val (.int p4), .val (.int avgI), .val (.int ai), .val (.double (Jvm.FP.Core.i2d avgI)), .second, .val (.double (Jvm.FP.Core.i2d twI)), .second, .val (.int f), .val (.int fS), .val (.int f0), .val (.int len), .val (.int ls), .val (.ref b29), .val (.ref b40), .val (.double (OwnF.own_gain (Jvm.FP.Core.i2d twI) (Jvm.FP.Core.i2d avgI) f len)), .second, .val (.double (OwnF.own_gain (Jvm.FP.Core.i2d twI) (Jvm.FP.Core.i2d avgI) fS ls)), .second, .val (.double (OwnF.own_gain (Jvm.FP.Core.i2d twI) (Jvm.FP.Core.i2d avgI) (fS + (1 : Int32)) ls)), .second, .val (.double (OwnF.own_gain (Jvm.FP.Core.i2d twI) (Jvm.FP.Core.i2d avgI) (fS + (1 : Int32)) (ls + (1 : Int32)))), .second, .val (.double (OwnF.own_gain Jvm.FP.dconst1 (Jvm.FP.Core.i2d ai) (1 : Int32) ai)), .second, .val (.double (OwnF.own_gain (Jvm.FP.Core.i2d twI) (Jvm.FP.Core.i2d ai) f0 (0 : Int32))), .second, .val (.double (OwnF.own_gain (Jvm.FP.Core.i2d twI) (Jvm.FP.Core.i2d ai) ((4 : Int32) * f0) ai)), .second, .unset, .unset, .unset] [(.double (4612586738352862003 : UInt64)), (.double (Jvm.FP.Core.i2d twI))])) _
    refine XS.dmulS XH74.here hx rfl (hb hby at_188) rfl nnc rfl ?_
    show Steps p.tables e below (T74.setTop (mkF m 189 #[.val (.int p0), .val (.int p1), .val (.int p2), .val (.int p3), .val (.int p4), .val (.int avgI), .val (.int ai), .val (.double (Jvm.FP.Core.i2d avgI)), .second, .val (.double (Jvm.FP.Core.i2d twI)), .second, .val (.int f), .val (.int fS), .val (.int f0), .val (.int len), .val (.int ls), .val (.ref b29), .val (.ref b40), .val (.double (OwnF.own_gain (Jvm.FP.Core.i2d twI) (Jvm.FP.Core.i2d avgI) f len)), .second, .val (.double (OwnF.own_gain (Jvm.FP.Core.i2d twI) (Jvm.FP.Core.i2d avgI) fS ls)), .second, .val (.double (OwnF.own_gain (Jvm.FP.Core.i2d twI) (Jvm.FP.Core.i2d avgI) (fS + (1 : Int32)) ls)), .second, .val (.double (OwnF.own_gain (Jvm.FP.Core.i2d twI) (Jvm.FP.Core.i2d avgI) (fS + (1 : Int32)) (ls + (1 : Int32)))), .second, .val (.double (OwnF.own_gain Jvm.FP.dconst1 (Jvm.FP.Core.i2d ai) (1 : Int32) ai)), .second, .val (.double (OwnF.own_gain (Jvm.FP.Core.i2d twI) (Jvm.FP.Core.i2d ai) f0 (0 : Int32))), .second, .val (.double (OwnF.own_gain (Jvm.FP.Core.i2d twI) (Jvm.FP.Core.i2d ai) ((4 : Int32) * f0) ai)), .second, .unset, .unset, .unset] [(.double (Jvm.FP.Core.dmul (Jvm.FP.Core.i2d twI) (4612586738352862003 : UInt64)))])) _
    refine XS.dstore XH74.here hx rfl (hb hby at_189) rfl (l' := #[.val (.int p0), .val (.int p1), .val (.int p2), .val (.int p3), .val (.int p4), .val (.int avgI), .val (.int ai), .val (.double (Jvm.FP.Core.i2d avgI)), .second, .val (.double (Jvm.FP.Core.i2d twI)), .second, .val (.int f), .val (.int fS), .val (.int f0), .val (.int len), .val (.int ls), .val (.ref b29), .val (.ref b40), .val (.double (OwnF.own_gain (Jvm.FP.Core.i2d twI) (Jvm.FP.Core.i2d avgI) f len)), .second, .val (.double (OwnF.own_gain (Jvm.FP.Core.i2d twI) (Jvm.FP.Core.i2d avgI) fS ls)), .second, .val (.double (OwnF.own_gain (Jvm.FP.Core.i2d twI) (Jvm.FP.Core.i2d avgI) (fS + (1 : Int32)) ls)), .second, .val (.double (OwnF.own_gain (Jvm.FP.Core.i2d twI) (Jvm.FP.Core.i2d avgI) (fS + (1 : Int32)) (ls + (1 : Int32)))), .second, .val (.double (OwnF.own_gain Jvm.FP.dconst1 (Jvm.FP.Core.i2d ai) (1 : Int32) ai)), .second, .val (.double (OwnF.own_gain (Jvm.FP.Core.i2d twI) (Jvm.FP.Core.i2d ai) f0 (0 : Int32))), .second, .val (.double (OwnF.own_gain (Jvm.FP.Core.i2d twI) (Jvm.FP.Core.i2d ai) ((4 : Int32) * f0) ai)), .second, .val (.double (Jvm.FP.Core.dmul (Jvm.FP.Core.i2d twI) (4612586738352862003 : UInt64))), .second, .unset]) rfl ?_
    show Steps p.tables e below (T74.setTop (mkF m 191 #[.val (.int p0), .val (.int p1), .val (.int p2), .val (.int p3), .val (.int p4), .val (.int avgI), .val (.int ai), .val (.double (Jvm.FP.Core.i2d avgI)), .second, .val (.double (Jvm.FP.Core.i2d twI)), .second, .val (.int f), .val (.int fS), .val (.int f0), .val (.int len), .val (.int ls), .val (.ref b29), .val (.ref b40), .val (.double (OwnF.own_gain (Jvm.FP.Core.i2d twI) (Jvm.FP.Core.i2d avgI) f len)), .second, .val (.double (OwnF.own_gain (Jvm.FP.Core.i2d twI) (Jvm.FP.Core.i2d avgI) fS ls)), .second, .val (.double (OwnF.own_gain (Jvm.FP.Core.i2d twI) (Jvm.FP.Core.i2d avgI) (fS + (1 : Int32)) ls)), .second, .val (.double (OwnF.own_gain (Jvm.FP.Core.i2d twI) (Jvm.FP.Core.i2d avgI) (fS + (1 : Int32)) (ls + (1 : Int32)))), .second, .val (.double (OwnF.own_gain Jvm.FP.dconst1 (Jvm.FP.Core.i2d ai) (1 : Int32) ai)), .second, .val (.double (OwnF.own_gain (Jvm.FP.Core.i2d twI) (Jvm.FP.Core.i2d ai) f0 (0 : Int32))), .second, .val (.double (OwnF.own_gain (Jvm.FP.Core.i2d twI) (Jvm.FP.Core.i2d ai) ((4 : Int32) * f0) ai)), .second, .val (.double (Jvm.FP.Core.dmul (Jvm.FP.Core.i2d twI) (4612586738352862003 : UInt64))), .second, .unset] [])) _
    refine XS.iload XH74.here hx rfl (hb hby at_191) rfl ?_
    exact k)
  by_cases hc77 : f = (0 : Int32)
  · have k78 : ∀ t, Steps p.tables e below (T74.setTop (mkF m 274 #[.val (.int p0), .val (.int p1), .val (.int p2), .val (.int p3), .val (.int p4), .val (.int avgI), .val (.int ai), .val (.double (Jvm.FP.Core.i2d avgI)), .second, .val (.double (Jvm.FP.Core.i2d twI)), .second, .val (.int f), .val (.int fS), .val (.int f0), .val (.int len), .val (.int ls), .val (.ref b29), .val (.ref b40), .val (.double (OwnF.own_gain (Jvm.FP.Core.i2d twI) (Jvm.FP.Core.i2d avgI) f len)), .second, .val (.double (OwnF.own_gain (Jvm.FP.Core.i2d twI) (Jvm.FP.Core.i2d avgI) fS ls)), .second, .val (.double (OwnF.own_gain (Jvm.FP.Core.i2d twI) (Jvm.FP.Core.i2d avgI) (fS + (1 : Int32)) ls)), .second, .val (.double (OwnF.own_gain (Jvm.FP.Core.i2d twI) (Jvm.FP.Core.i2d avgI) (fS + (1 : Int32)) (ls + (1 : Int32)))), .second, .val (.double (OwnF.own_gain Jvm.FP.dconst1 (Jvm.FP.Core.i2d ai) (1 : Int32) ai)), .second, .val (.double (OwnF.own_gain (Jvm.FP.Core.i2d twI) (Jvm.FP.Core.i2d ai) f0 (0 : Int32))), .second, .val (.double (OwnF.own_gain (Jvm.FP.Core.i2d twI) (Jvm.FP.Core.i2d ai) ((4 : Int32) * f0) ai)), .second, .val (.double (Jvm.FP.Core.dmul (Jvm.FP.Core.i2d twI) (4612586738352862003 : UInt64))), .second, .val (.int (1 : Int32))] [(.int (1 : Int32))])) t → Steps p.tables e below (s₁.setTop (entryFrame m #[(.int p0), (.int p1), (.int p2), (.int p3), (.int p4)] maxLocals)) t := fun t k => k76 t (by
      show Steps p.tables e below (T74.setTop (mkF m 193 #[.val (.int p0), .val (.int p1), .val (.int p2), .val (.int p3), .val (.int p4), .val (.int avgI), .val (.int ai), .val (.double (Jvm.FP.Core.i2d avgI)), .second, .val (.double (Jvm.FP.Core.i2d twI)), .second, .val (.int f), .val (.int fS), .val (.int f0), .val (.int len), .val (.int ls), .val (.ref b29), .val (.ref b40), .val (.double (OwnF.own_gain (Jvm.FP.Core.i2d twI) (Jvm.FP.Core.i2d avgI) f len)), .second, .val (.double (OwnF.own_gain (Jvm.FP.Core.i2d twI) (Jvm.FP.Core.i2d avgI) fS ls)), .second, .val (.double (OwnF.own_gain (Jvm.FP.Core.i2d twI) (Jvm.FP.Core.i2d avgI) (fS + (1 : Int32)) ls)), .second, .val (.double (OwnF.own_gain (Jvm.FP.Core.i2d twI) (Jvm.FP.Core.i2d avgI) (fS + (1 : Int32)) (ls + (1 : Int32)))), .second, .val (.double (OwnF.own_gain Jvm.FP.dconst1 (Jvm.FP.Core.i2d ai) (1 : Int32) ai)), .second, .val (.double (OwnF.own_gain (Jvm.FP.Core.i2d twI) (Jvm.FP.Core.i2d ai) f0 (0 : Int32))), .second, .val (.double (OwnF.own_gain (Jvm.FP.Core.i2d twI) (Jvm.FP.Core.i2d ai) ((4 : Int32) * f0) ai)), .second, .val (.double (Jvm.FP.Core.dmul (Jvm.FP.Core.i2d twI) (4612586738352862003 : UInt64))), .second, .unset] [(.int f)])) _
      refine XS.ifNo XH74.here hx rfl (hb hby at_193) rfl ((if0 _ _).trans (teq hc77).2) ?_
      show Steps p.tables e below (T74.setTop (mkF m 196 #[.val (.int p0), .val (.int p1), .val (.int p2), .val (.int p3), .val (.int p4), .val (.int avgI), .val (.int ai), .val (.double (Jvm.FP.Core.i2d avgI)), .second, .val (.double (Jvm.FP.Core.i2d twI)), .second, .val (.int f), .val (.int fS), .val (.int f0), .val (.int len), .val (.int ls), .val (.ref b29), .val (.ref b40), .val (.double (OwnF.own_gain (Jvm.FP.Core.i2d twI) (Jvm.FP.Core.i2d avgI) f len)), .second, .val (.double (OwnF.own_gain (Jvm.FP.Core.i2d twI) (Jvm.FP.Core.i2d avgI) fS ls)), .second, .val (.double (OwnF.own_gain (Jvm.FP.Core.i2d twI) (Jvm.FP.Core.i2d avgI) (fS + (1 : Int32)) ls)), .second, .val (.double (OwnF.own_gain (Jvm.FP.Core.i2d twI) (Jvm.FP.Core.i2d avgI) (fS + (1 : Int32)) (ls + (1 : Int32)))), .second, .val (.double (OwnF.own_gain Jvm.FP.dconst1 (Jvm.FP.Core.i2d ai) (1 : Int32) ai)), .second, .val (.double (OwnF.own_gain (Jvm.FP.Core.i2d twI) (Jvm.FP.Core.i2d ai) f0 (0 : Int32))), .second, .val (.double (OwnF.own_gain (Jvm.FP.Core.i2d twI) (Jvm.FP.Core.i2d ai) ((4 : Int32) * f0) ai)), .second, .val (.double (Jvm.FP.Core.dmul (Jvm.FP.Core.i2d twI) (4612586738352862003 : UInt64))), .second, .unset] [])) _
      refine XS.dload XH74.here hx rfl (hb hby at_196) rfl ?_
      show Steps p.tables e below (T74.setTop (mkF m 198 #[.val (.int p0), .val (.int p1), .val (.int p2), .val (.int p3), .val (.int p4), .val (.int avgI), .val (.int ai), .val (.double (Jvm.FP.Core.i2d avgI)), .second, .val (.double (Jvm.FP.Core.i2d twI)), .second, .val (.int f), .val (.int fS), .val (.int f0), .val (.int len), .val (.int ls), .val (.ref b29), .val (.ref b40), .val (.double (OwnF.own_gain (Jvm.FP.Core.i2d twI) (Jvm.FP.Core.i2d avgI) f len)), .second, .val (.double (OwnF.own_gain (Jvm.FP.Core.i2d twI) (Jvm.FP.Core.i2d avgI) fS ls)), .second, .val (.double (OwnF.own_gain (Jvm.FP.Core.i2d twI) (Jvm.FP.Core.i2d avgI) (fS + (1 : Int32)) ls)), .second, .val (.double (OwnF.own_gain (Jvm.FP.Core.i2d twI) (Jvm.FP.Core.i2d avgI) (fS + (1 : Int32)) (ls + (1 : Int32)))), .second, .val (.double (OwnF.own_gain Jvm.FP.dconst1 (Jvm.FP.Core.i2d ai) (1 : Int32) ai)), .second, .val (.double (OwnF.own_gain (Jvm.FP.Core.i2d twI) (Jvm.FP.Core.i2d ai) f0 (0 : Int32))), .second, .val (.double (OwnF.own_gain (Jvm.FP.Core.i2d twI) (Jvm.FP.Core.i2d ai) ((4 : Int32) * f0) ai)), .second, .val (.double (Jvm.FP.Core.dmul (Jvm.FP.Core.i2d twI) (4612586738352862003 : UInt64))), .second, .unset] [(.double (OwnF.own_gain (Jvm.FP.Core.i2d twI) (Jvm.FP.Core.i2d avgI) f len))])) _
      refine XS.dconst0 XH74.here hx rfl (hb hby at_198) rfl ?_
      show Steps p.tables e below (T74.setTop (mkF m 199 #[.val (.int p0), .val (.int p1), .val (.int p2), .val (.int p3), .val (.int p4), .val (.int avgI), .val (.int ai), .val (.double (Jvm.FP.Core.i2d avgI)), .second, .val (.double (Jvm.FP.Core.i2d twI)), .second, .val (.int f), .val (.int fS), .val (.int f0), .val (.int len), .val (.int ls), .val (.ref b29), .val (.ref b40), .val (.double (OwnF.own_gain (Jvm.FP.Core.i2d twI) (Jvm.FP.Core.i2d avgI) f len)), .second, .val (.double (OwnF.own_gain (Jvm.FP.Core.i2d twI) (Jvm.FP.Core.i2d avgI) fS ls)), .second, .val (.double (OwnF.own_gain (Jvm.FP.Core.i2d twI) (Jvm.FP.Core.i2d avgI) (fS + (1 : Int32)) ls)), .second, .val (.double (OwnF.own_gain (Jvm.FP.Core.i2d twI) (Jvm.FP.Core.i2d avgI) (fS + (1 : Int32)) (ls + (1 : Int32)))), .second, .val (.double (OwnF.own_gain Jvm.FP.dconst1 (Jvm.FP.Core.i2d ai) (1 : Int32) ai)), .second, .val (.double (OwnF.own_gain (Jvm.FP.Core.i2d twI) (Jvm.FP.Core.i2d ai) f0 (0 : Int32))), .second, .val (.double (OwnF.own_gain (Jvm.FP.Core.i2d twI) (Jvm.FP.Core.i2d ai) ((4 : Int32) * f0) ai)), .second, .val (.double (Jvm.FP.Core.dmul (Jvm.FP.Core.i2d twI) (4612586738352862003 : UInt64))), .second, .unset] [(.double Jvm.FP.dconst0), (.double (OwnF.own_gain (Jvm.FP.Core.i2d twI) (Jvm.FP.Core.i2d avgI) f len))])) _
      refine XS.dcmpS XH74.here hx rfl (hb hby at_199) rfl rfl ?_
      show Steps p.tables e below (T74.setTop (mkF m 200 #[.val (.int p0), .val (.int p1), .val (.int p2), .val (.int p3), .val (.int p4), .val (.int avgI), .val (.int ai), .val (.double (Jvm.FP.Core.i2d avgI)), .second, .val (.double (Jvm.FP.Core.i2d twI)), .second, .val (.int f), .val (.int fS), .val (.int f0), .val (.int len), .val (.int ls), .val (.ref b29), .val (.ref b40), .val (.double (OwnF.own_gain (Jvm.FP.Core.i2d twI) (Jvm.FP.Core.i2d avgI) f len)), .second, .val (.double (OwnF.own_gain (Jvm.FP.Core.i2d twI) (Jvm.FP.Core.i2d avgI) fS ls)), .second, .val (.double (OwnF.own_gain (Jvm.FP.Core.i2d twI) (Jvm.FP.Core.i2d avgI) (fS + (1 : Int32)) ls)), .second, .val (.double (OwnF.own_gain (Jvm.FP.Core.i2d twI) (Jvm.FP.Core.i2d avgI) (fS + (1 : Int32)) (ls + (1 : Int32)))), .second, .val (.double (OwnF.own_gain Jvm.FP.dconst1 (Jvm.FP.Core.i2d ai) (1 : Int32) ai)), .second, .val (.double (OwnF.own_gain (Jvm.FP.Core.i2d twI) (Jvm.FP.Core.i2d ai) f0 (0 : Int32))), .second, .val (.double (OwnF.own_gain (Jvm.FP.Core.i2d twI) (Jvm.FP.Core.i2d ai) ((4 : Int32) * f0) ai)), .second, .val (.double (Jvm.FP.Core.dmul (Jvm.FP.Core.i2d twI) (4612586738352862003 : UInt64))), .second, .unset] [(.int (cmpValue (Jvm.FP.Core.dcmp (OwnF.own_gain (Jvm.FP.Core.i2d twI) (Jvm.FP.Core.i2d avgI) f len) Jvm.FP.dconst0) .l))])) _
      refine XS.ifNo XH74.here hx rfl (hb hby at_200) rfl ((if0 _ _).trans (teq (OwnF.own_cvE (H0 hc77) _)).2) ?_
      show Steps p.tables e below (T74.setTop (mkF m 203 #[.val (.int p0), .val (.int p1), .val (.int p2), .val (.int p3), .val (.int p4), .val (.int avgI), .val (.int ai), .val (.double (Jvm.FP.Core.i2d avgI)), .second, .val (.double (Jvm.FP.Core.i2d twI)), .second, .val (.int f), .val (.int fS), .val (.int f0), .val (.int len), .val (.int ls), .val (.ref b29), .val (.ref b40), .val (.double (OwnF.own_gain (Jvm.FP.Core.i2d twI) (Jvm.FP.Core.i2d avgI) f len)), .second, .val (.double (OwnF.own_gain (Jvm.FP.Core.i2d twI) (Jvm.FP.Core.i2d avgI) fS ls)), .second, .val (.double (OwnF.own_gain (Jvm.FP.Core.i2d twI) (Jvm.FP.Core.i2d avgI) (fS + (1 : Int32)) ls)), .second, .val (.double (OwnF.own_gain (Jvm.FP.Core.i2d twI) (Jvm.FP.Core.i2d avgI) (fS + (1 : Int32)) (ls + (1 : Int32)))), .second, .val (.double (OwnF.own_gain Jvm.FP.dconst1 (Jvm.FP.Core.i2d ai) (1 : Int32) ai)), .second, .val (.double (OwnF.own_gain (Jvm.FP.Core.i2d twI) (Jvm.FP.Core.i2d ai) f0 (0 : Int32))), .second, .val (.double (OwnF.own_gain (Jvm.FP.Core.i2d twI) (Jvm.FP.Core.i2d ai) ((4 : Int32) * f0) ai)), .second, .val (.double (Jvm.FP.Core.dmul (Jvm.FP.Core.i2d twI) (4612586738352862003 : UInt64))), .second, .unset] [])) _
      refine XS.iconst XH74.here hx rfl (hb hby at_203) ?_
      show Steps p.tables e below (T74.setTop (mkF m 204 #[.val (.int p0), .val (.int p1), .val (.int p2), .val (.int p3), .val (.int p4), .val (.int avgI), .val (.int ai), .val (.double (Jvm.FP.Core.i2d avgI)), .second, .val (.double (Jvm.FP.Core.i2d twI)), .second, .val (.int f), .val (.int fS), .val (.int f0), .val (.int len), .val (.int ls), .val (.ref b29), .val (.ref b40), .val (.double (OwnF.own_gain (Jvm.FP.Core.i2d twI) (Jvm.FP.Core.i2d avgI) f len)), .second, .val (.double (OwnF.own_gain (Jvm.FP.Core.i2d twI) (Jvm.FP.Core.i2d avgI) fS ls)), .second, .val (.double (OwnF.own_gain (Jvm.FP.Core.i2d twI) (Jvm.FP.Core.i2d avgI) (fS + (1 : Int32)) ls)), .second, .val (.double (OwnF.own_gain (Jvm.FP.Core.i2d twI) (Jvm.FP.Core.i2d avgI) (fS + (1 : Int32)) (ls + (1 : Int32)))), .second, .val (.double (OwnF.own_gain Jvm.FP.dconst1 (Jvm.FP.Core.i2d ai) (1 : Int32) ai)), .second, .val (.double (OwnF.own_gain (Jvm.FP.Core.i2d twI) (Jvm.FP.Core.i2d ai) f0 (0 : Int32))), .second, .val (.double (OwnF.own_gain (Jvm.FP.Core.i2d twI) (Jvm.FP.Core.i2d ai) ((4 : Int32) * f0) ai)), .second, .val (.double (Jvm.FP.Core.dmul (Jvm.FP.Core.i2d twI) (4612586738352862003 : UInt64))), .second, .unset] [(.int (1 : Int32))])) _
      refine XS.goto XH74.here hx rfl (pc0 := 204) (pc' := 231) rfl (hb hby at_204) (by decide) (by decide) ?_
      show Steps p.tables e below (T74.setTop (mkF m 231 #[.val (.int p0), .val (.int p1), .val (.int p2), .val (.int p3), .val (.int p4), .val (.int avgI), .val (.int ai), .val (.double (Jvm.FP.Core.i2d avgI)), .second, .val (.double (Jvm.FP.Core.i2d twI)), .second, .val (.int f), .val (.int fS), .val (.int f0), .val (.int len), .val (.int ls), .val (.ref b29), .val (.ref b40), .val (.double (OwnF.own_gain (Jvm.FP.Core.i2d twI) (Jvm.FP.Core.i2d avgI) f len)), .second, .val (.double (OwnF.own_gain (Jvm.FP.Core.i2d twI) (Jvm.FP.Core.i2d avgI) fS ls)), .second, .val (.double (OwnF.own_gain (Jvm.FP.Core.i2d twI) (Jvm.FP.Core.i2d avgI) (fS + (1 : Int32)) ls)), .second, .val (.double (OwnF.own_gain (Jvm.FP.Core.i2d twI) (Jvm.FP.Core.i2d avgI) (fS + (1 : Int32)) (ls + (1 : Int32)))), .second, .val (.double (OwnF.own_gain Jvm.FP.dconst1 (Jvm.FP.Core.i2d ai) (1 : Int32) ai)), .second, .val (.double (OwnF.own_gain (Jvm.FP.Core.i2d twI) (Jvm.FP.Core.i2d ai) f0 (0 : Int32))), .second, .val (.double (OwnF.own_gain (Jvm.FP.Core.i2d twI) (Jvm.FP.Core.i2d ai) ((4 : Int32) * f0) ai)), .second, .val (.double (Jvm.FP.Core.dmul (Jvm.FP.Core.i2d twI) (4612586738352862003 : UInt64))), .second, .unset] [(.int (1 : Int32))])) _
      refine XS.istore XH74.here hx rfl (hb hby at_231) rfl (l' := #[.val (.int p0), .val (.int p1), .val (.int p2), .val (.int p3), .val (.int p4), .val (.int avgI), .val (.int ai), .val (.double (Jvm.FP.Core.i2d avgI)), .second, .val (.double (Jvm.FP.Core.i2d twI)), .second, .val (.int f), .val (.int fS), .val (.int f0), .val (.int len), .val (.int ls), .val (.ref b29), .val (.ref b40), .val (.double (OwnF.own_gain (Jvm.FP.Core.i2d twI) (Jvm.FP.Core.i2d avgI) f len)), .second, .val (.double (OwnF.own_gain (Jvm.FP.Core.i2d twI) (Jvm.FP.Core.i2d avgI) fS ls)), .second, .val (.double (OwnF.own_gain (Jvm.FP.Core.i2d twI) (Jvm.FP.Core.i2d avgI) (fS + (1 : Int32)) ls)), .second, .val (.double (OwnF.own_gain (Jvm.FP.Core.i2d twI) (Jvm.FP.Core.i2d avgI) (fS + (1 : Int32)) (ls + (1 : Int32)))), .second, .val (.double (OwnF.own_gain Jvm.FP.dconst1 (Jvm.FP.Core.i2d ai) (1 : Int32) ai)), .second, .val (.double (OwnF.own_gain (Jvm.FP.Core.i2d twI) (Jvm.FP.Core.i2d ai) f0 (0 : Int32))), .second, .val (.double (OwnF.own_gain (Jvm.FP.Core.i2d twI) (Jvm.FP.Core.i2d ai) ((4 : Int32) * f0) ai)), .second, .val (.double (Jvm.FP.Core.dmul (Jvm.FP.Core.i2d twI) (4612586738352862003 : UInt64))), .second, .val (.int (1 : Int32))]) rfl ?_
      show Steps p.tables e below (T74.setTop (mkF m 233 #[.val (.int p0), .val (.int p1), .val (.int p2), .val (.int p3), .val (.int p4), .val (.int avgI), .val (.int ai), .val (.double (Jvm.FP.Core.i2d avgI)), .second, .val (.double (Jvm.FP.Core.i2d twI)), .second, .val (.int f), .val (.int fS), .val (.int f0), .val (.int len), .val (.int ls), .val (.ref b29), .val (.ref b40), .val (.double (OwnF.own_gain (Jvm.FP.Core.i2d twI) (Jvm.FP.Core.i2d avgI) f len)), .second, .val (.double (OwnF.own_gain (Jvm.FP.Core.i2d twI) (Jvm.FP.Core.i2d avgI) fS ls)), .second, .val (.double (OwnF.own_gain (Jvm.FP.Core.i2d twI) (Jvm.FP.Core.i2d avgI) (fS + (1 : Int32)) ls)), .second, .val (.double (OwnF.own_gain (Jvm.FP.Core.i2d twI) (Jvm.FP.Core.i2d avgI) (fS + (1 : Int32)) (ls + (1 : Int32)))), .second, .val (.double (OwnF.own_gain Jvm.FP.dconst1 (Jvm.FP.Core.i2d ai) (1 : Int32) ai)), .second, .val (.double (OwnF.own_gain (Jvm.FP.Core.i2d twI) (Jvm.FP.Core.i2d ai) f0 (0 : Int32))), .second, .val (.double (OwnF.own_gain (Jvm.FP.Core.i2d twI) (Jvm.FP.Core.i2d ai) ((4 : Int32) * f0) ai)), .second, .val (.double (Jvm.FP.Core.dmul (Jvm.FP.Core.i2d twI) (4612586738352862003 : UInt64))), .second, .val (.int (1 : Int32))] [])) _
      refine XS.iload XH74.here hx rfl (hb hby at_233) rfl ?_
      show Steps p.tables e below (T74.setTop (mkF m 235 #[.val (.int p0), .val (.int p1), .val (.int p2), .val (.int p3), .val (.int p4), .val (.int avgI), .val (.int ai), .val (.double (Jvm.FP.Core.i2d avgI)), .second, .val (.double (Jvm.FP.Core.i2d twI)), .second, .val (.int f), .val (.int fS), .val (.int f0), .val (.int len), .val (.int ls), .val (.ref b29), .val (.ref b40), .val (.double (OwnF.own_gain (Jvm.FP.Core.i2d twI) (Jvm.FP.Core.i2d avgI) f len)), .second, .val (.double (OwnF.own_gain (Jvm.FP.Core.i2d twI) (Jvm.FP.Core.i2d avgI) fS ls)), .second, .val (.double (OwnF.own_gain (Jvm.FP.Core.i2d twI) (Jvm.FP.Core.i2d avgI) (fS + (1 : Int32)) ls)), .second, .val (.double (OwnF.own_gain (Jvm.FP.Core.i2d twI) (Jvm.FP.Core.i2d avgI) (fS + (1 : Int32)) (ls + (1 : Int32)))), .second, .val (.double (OwnF.own_gain Jvm.FP.dconst1 (Jvm.FP.Core.i2d ai) (1 : Int32) ai)), .second, .val (.double (OwnF.own_gain (Jvm.FP.Core.i2d twI) (Jvm.FP.Core.i2d ai) f0 (0 : Int32))), .second, .val (.double (OwnF.own_gain (Jvm.FP.Core.i2d twI) (Jvm.FP.Core.i2d ai) ((4 : Int32) * f0) ai)), .second, .val (.double (Jvm.FP.Core.dmul (Jvm.FP.Core.i2d twI) (4612586738352862003 : UInt64))), .second, .val (.int (1 : Int32))] [(.int (1 : Int32))])) _
      refine XS.ifNo XH74.here hx rfl (hb hby at_235) rfl ((if0 _ _).trans (feq (by decide : ¬ ((1 : Int32) = (0 : Int32)))).1) ?_
      show Steps p.tables e below (T74.setTop (mkF m 238 #[.val (.int p0), .val (.int p1), .val (.int p2), .val (.int p3), .val (.int p4), .val (.int avgI), .val (.int ai), .val (.double (Jvm.FP.Core.i2d avgI)), .second, .val (.double (Jvm.FP.Core.i2d twI)), .second, .val (.int f), .val (.int fS), .val (.int f0), .val (.int len), .val (.int ls), .val (.ref b29), .val (.ref b40), .val (.double (OwnF.own_gain (Jvm.FP.Core.i2d twI) (Jvm.FP.Core.i2d avgI) f len)), .second, .val (.double (OwnF.own_gain (Jvm.FP.Core.i2d twI) (Jvm.FP.Core.i2d avgI) fS ls)), .second, .val (.double (OwnF.own_gain (Jvm.FP.Core.i2d twI) (Jvm.FP.Core.i2d avgI) (fS + (1 : Int32)) ls)), .second, .val (.double (OwnF.own_gain (Jvm.FP.Core.i2d twI) (Jvm.FP.Core.i2d avgI) (fS + (1 : Int32)) (ls + (1 : Int32)))), .second, .val (.double (OwnF.own_gain Jvm.FP.dconst1 (Jvm.FP.Core.i2d ai) (1 : Int32) ai)), .second, .val (.double (OwnF.own_gain (Jvm.FP.Core.i2d twI) (Jvm.FP.Core.i2d ai) f0 (0 : Int32))), .second, .val (.double (OwnF.own_gain (Jvm.FP.Core.i2d twI) (Jvm.FP.Core.i2d ai) ((4 : Int32) * f0) ai)), .second, .val (.double (Jvm.FP.Core.dmul (Jvm.FP.Core.i2d twI) (4612586738352862003 : UInt64))), .second, .val (.int (1 : Int32))] [])) _
      refine XS.dload XH74.here hx rfl (hb hby at_238) rfl ?_
      show Steps p.tables e below (T74.setTop (mkF m 240 #[.val (.int p0), .val (.int p1), .val (.int p2), .val (.int p3), .val (.int p4), .val (.int avgI), .val (.int ai), .val (.double (Jvm.FP.Core.i2d avgI)), .second, .val (.double (Jvm.FP.Core.i2d twI)), .second, .val (.int f), .val (.int fS), .val (.int f0), .val (.int len), .val (.int ls), .val (.ref b29), .val (.ref b40), .val (.double (OwnF.own_gain (Jvm.FP.Core.i2d twI) (Jvm.FP.Core.i2d avgI) f len)), .second, .val (.double (OwnF.own_gain (Jvm.FP.Core.i2d twI) (Jvm.FP.Core.i2d avgI) fS ls)), .second, .val (.double (OwnF.own_gain (Jvm.FP.Core.i2d twI) (Jvm.FP.Core.i2d avgI) (fS + (1 : Int32)) ls)), .second, .val (.double (OwnF.own_gain (Jvm.FP.Core.i2d twI) (Jvm.FP.Core.i2d avgI) (fS + (1 : Int32)) (ls + (1 : Int32)))), .second, .val (.double (OwnF.own_gain Jvm.FP.dconst1 (Jvm.FP.Core.i2d ai) (1 : Int32) ai)), .second, .val (.double (OwnF.own_gain (Jvm.FP.Core.i2d twI) (Jvm.FP.Core.i2d ai) f0 (0 : Int32))), .second, .val (.double (OwnF.own_gain (Jvm.FP.Core.i2d twI) (Jvm.FP.Core.i2d ai) ((4 : Int32) * f0) ai)), .second, .val (.double (Jvm.FP.Core.dmul (Jvm.FP.Core.i2d twI) (4612586738352862003 : UInt64))), .second, .val (.int (1 : Int32))] [(.double (OwnF.own_gain (Jvm.FP.Core.i2d twI) (Jvm.FP.Core.i2d avgI) (fS + (1 : Int32)) ls))])) _
      refine XS.dload XH74.here hx rfl (hb hby at_240) rfl ?_
      show Steps p.tables e below (T74.setTop (mkF m 242 #[.val (.int p0), .val (.int p1), .val (.int p2), .val (.int p3), .val (.int p4), .val (.int avgI), .val (.int ai), .val (.double (Jvm.FP.Core.i2d avgI)), .second, .val (.double (Jvm.FP.Core.i2d twI)), .second, .val (.int f), .val (.int fS), .val (.int f0), .val (.int len), .val (.int ls), .val (.ref b29), .val (.ref b40), .val (.double (OwnF.own_gain (Jvm.FP.Core.i2d twI) (Jvm.FP.Core.i2d avgI) f len)), .second, .val (.double (OwnF.own_gain (Jvm.FP.Core.i2d twI) (Jvm.FP.Core.i2d avgI) fS ls)), .second, .val (.double (OwnF.own_gain (Jvm.FP.Core.i2d twI) (Jvm.FP.Core.i2d avgI) (fS + (1 : Int32)) ls)), .second, .val (.double (OwnF.own_gain (Jvm.FP.Core.i2d twI) (Jvm.FP.Core.i2d avgI) (fS + (1 : Int32)) (ls + (1 : Int32)))), .second, .val (.double (OwnF.own_gain Jvm.FP.dconst1 (Jvm.FP.Core.i2d ai) (1 : Int32) ai)), .second, .val (.double (OwnF.own_gain (Jvm.FP.Core.i2d twI) (Jvm.FP.Core.i2d ai) f0 (0 : Int32))), .second, .val (.double (OwnF.own_gain (Jvm.FP.Core.i2d twI) (Jvm.FP.Core.i2d ai) ((4 : Int32) * f0) ai)), .second, .val (.double (Jvm.FP.Core.dmul (Jvm.FP.Core.i2d twI) (4612586738352862003 : UInt64))), .second, .val (.int (1 : Int32))] [(.double (OwnF.own_gain (Jvm.FP.Core.i2d twI) (Jvm.FP.Core.i2d avgI) fS ls)), (.double (OwnF.own_gain (Jvm.FP.Core.i2d twI) (Jvm.FP.Core.i2d avgI) (fS + (1 : Int32)) ls))])) _
      refine XS.dcmpS XH74.here hx rfl (hb hby at_242) rfl rfl ?_
      show Steps p.tables e below (T74.setTop (mkF m 243 #[.val (.int p0), .val (.int p1), .val (.int p2), .val (.int p3), .val (.int p4), .val (.int avgI), .val (.int ai), .val (.double (Jvm.FP.Core.i2d avgI)), .second, .val (.double (Jvm.FP.Core.i2d twI)), .second, .val (.int f), .val (.int fS), .val (.int f0), .val (.int len), .val (.int ls), .val (.ref b29), .val (.ref b40), .val (.double (OwnF.own_gain (Jvm.FP.Core.i2d twI) (Jvm.FP.Core.i2d avgI) f len)), .second, .val (.double (OwnF.own_gain (Jvm.FP.Core.i2d twI) (Jvm.FP.Core.i2d avgI) fS ls)), .second, .val (.double (OwnF.own_gain (Jvm.FP.Core.i2d twI) (Jvm.FP.Core.i2d avgI) (fS + (1 : Int32)) ls)), .second, .val (.double (OwnF.own_gain (Jvm.FP.Core.i2d twI) (Jvm.FP.Core.i2d avgI) (fS + (1 : Int32)) (ls + (1 : Int32)))), .second, .val (.double (OwnF.own_gain Jvm.FP.dconst1 (Jvm.FP.Core.i2d ai) (1 : Int32) ai)), .second, .val (.double (OwnF.own_gain (Jvm.FP.Core.i2d twI) (Jvm.FP.Core.i2d ai) f0 (0 : Int32))), .second, .val (.double (OwnF.own_gain (Jvm.FP.Core.i2d twI) (Jvm.FP.Core.i2d ai) ((4 : Int32) * f0) ai)), .second, .val (.double (Jvm.FP.Core.dmul (Jvm.FP.Core.i2d twI) (4612586738352862003 : UInt64))), .second, .val (.int (1 : Int32))] [(.int (cmpValue (Jvm.FP.Core.dcmp (OwnF.own_gain (Jvm.FP.Core.i2d twI) (Jvm.FP.Core.i2d avgI) (fS + (1 : Int32)) ls) (OwnF.own_gain (Jvm.FP.Core.i2d twI) (Jvm.FP.Core.i2d avgI) fS ls)) .l))])) _
      refine XS.ifNo XH74.here hx rfl (hb hby at_243) rfl ((if0 _ _).trans (tlt (OwnF.own_cvG H2 _)).2.2.2) ?_
      show Steps p.tables e below (T74.setTop (mkF m 246 #[.val (.int p0), .val (.int p1), .val (.int p2), .val (.int p3), .val (.int p4), .val (.int avgI), .val (.int ai), .val (.double (Jvm.FP.Core.i2d avgI)), .second, .val (.double (Jvm.FP.Core.i2d twI)), .second, .val (.int f), .val (.int fS), .val (.int f0), .val (.int len), .val (.int ls), .val (.ref b29), .val (.ref b40), .val (.double (OwnF.own_gain (Jvm.FP.Core.i2d twI) (Jvm.FP.Core.i2d avgI) f len)), .second, .val (.double (OwnF.own_gain (Jvm.FP.Core.i2d twI) (Jvm.FP.Core.i2d avgI) fS ls)), .second, .val (.double (OwnF.own_gain (Jvm.FP.Core.i2d twI) (Jvm.FP.Core.i2d avgI) (fS + (1 : Int32)) ls)), .second, .val (.double (OwnF.own_gain (Jvm.FP.Core.i2d twI) (Jvm.FP.Core.i2d avgI) (fS + (1 : Int32)) (ls + (1 : Int32)))), .second, .val (.double (OwnF.own_gain Jvm.FP.dconst1 (Jvm.FP.Core.i2d ai) (1 : Int32) ai)), .second, .val (.double (OwnF.own_gain (Jvm.FP.Core.i2d twI) (Jvm.FP.Core.i2d ai) f0 (0 : Int32))), .second, .val (.double (OwnF.own_gain (Jvm.FP.Core.i2d twI) (Jvm.FP.Core.i2d ai) ((4 : Int32) * f0) ai)), .second, .val (.double (Jvm.FP.Core.dmul (Jvm.FP.Core.i2d twI) (4612586738352862003 : UInt64))), .second, .val (.int (1 : Int32))] [])) _
      refine XS.dload XH74.here hx rfl (hb hby at_246) rfl ?_
      show Steps p.tables e below (T74.setTop (mkF m 248 #[.val (.int p0), .val (.int p1), .val (.int p2), .val (.int p3), .val (.int p4), .val (.int avgI), .val (.int ai), .val (.double (Jvm.FP.Core.i2d avgI)), .second, .val (.double (Jvm.FP.Core.i2d twI)), .second, .val (.int f), .val (.int fS), .val (.int f0), .val (.int len), .val (.int ls), .val (.ref b29), .val (.ref b40), .val (.double (OwnF.own_gain (Jvm.FP.Core.i2d twI) (Jvm.FP.Core.i2d avgI) f len)), .second, .val (.double (OwnF.own_gain (Jvm.FP.Core.i2d twI) (Jvm.FP.Core.i2d avgI) fS ls)), .second, .val (.double (OwnF.own_gain (Jvm.FP.Core.i2d twI) (Jvm.FP.Core.i2d avgI) (fS + (1 : Int32)) ls)), .second, .val (.double (OwnF.own_gain (Jvm.FP.Core.i2d twI) (Jvm.FP.Core.i2d avgI) (fS + (1 : Int32)) (ls + (1 : Int32)))), .second, .val (.double (OwnF.own_gain Jvm.FP.dconst1 (Jvm.FP.Core.i2d ai) (1 : Int32) ai)), .second, .val (.double (OwnF.own_gain (Jvm.FP.Core.i2d twI) (Jvm.FP.Core.i2d ai) f0 (0 : Int32))), .second, .val (.double (OwnF.own_gain (Jvm.FP.Core.i2d twI) (Jvm.FP.Core.i2d ai) ((4 : Int32) * f0) ai)), .second, .val (.double (Jvm.FP.Core.dmul (Jvm.FP.Core.i2d twI) (4612586738352862003 : UInt64))), .second, .val (.int (1 : Int32))] [(.double (OwnF.own_gain (Jvm.FP.Core.i2d twI) (Jvm.FP.Core.i2d avgI) (fS + (1 : Int32)) (ls + (1 : Int32))))])) _
      refine XS.dload XH74.here hx rfl (hb hby at_248) rfl ?_
      show Steps p.tables e below (T74.setTop (mkF m 250 #[.val (.int p0), .val (.int p1), .val (.int p2), .val (.int p3), .val (.int p4), .val (.int avgI), .val (.int ai), .val (.double (Jvm.FP.Core.i2d avgI)), .second, .val (.double (Jvm.FP.Core.i2d twI)), .second, .val (.int f), .val (.int fS), .val (.int f0), .val (.int len), .val (.int ls), .val (.ref b29), .val (.ref b40), .val (.double (OwnF.own_gain (Jvm.FP.Core.i2d twI) (Jvm.FP.Core.i2d avgI) f len)), .second, .val (.double (OwnF.own_gain (Jvm.FP.Core.i2d twI) (Jvm.FP.Core.i2d avgI) fS ls)), .second, .val (.double (OwnF.own_gain (Jvm.FP.Core.i2d twI) (Jvm.FP.Core.i2d avgI) (fS + (1 : Int32)) ls)), .second, .val (.double (OwnF.own_gain (Jvm.FP.Core.i2d twI) (Jvm.FP.Core.i2d avgI) (fS + (1 : Int32)) (ls + (1 : Int32)))), .second, .val (.double (OwnF.own_gain Jvm.FP.dconst1 (Jvm.FP.Core.i2d ai) (1 : Int32) ai)), .second, .val (.double (OwnF.own_gain (Jvm.FP.Core.i2d twI) (Jvm.FP.Core.i2d ai) f0 (0 : Int32))), .second, .val (.double (OwnF.own_gain (Jvm.FP.Core.i2d twI) (Jvm.FP.Core.i2d ai) ((4 : Int32) * f0) ai)), .second, .val (.double (Jvm.FP.Core.dmul (Jvm.FP.Core.i2d twI) (4612586738352862003 : UInt64))), .second, .val (.int (1 : Int32))] [(.double (OwnF.own_gain (Jvm.FP.Core.i2d twI) (Jvm.FP.Core.i2d avgI) (fS + (1 : Int32)) ls)), (.double (OwnF.own_gain (Jvm.FP.Core.i2d twI) (Jvm.FP.Core.i2d avgI) (fS + (1 : Int32)) (ls + (1 : Int32))))])) _
      refine XS.dcmpS XH74.here hx rfl (hb hby at_250) rfl rfl ?_
      show Steps p.tables e below (T74.setTop (mkF m 251 #[.val (.int p0), .val (.int p1), .val (.int p2), .val (.int p3), .val (.int p4), .val (.int avgI), .val (.int ai), .val (.double (Jvm.FP.Core.i2d avgI)), .second, .val (.double (Jvm.FP.Core.i2d twI)), .second, .val (.int f), .val (.int fS), .val (.int f0), .val (.int len), .val (.int ls), .val (.ref b29), .val (.ref b40), .val (.double (OwnF.own_gain (Jvm.FP.Core.i2d twI) (Jvm.FP.Core.i2d avgI) f len)), .second, .val (.double (OwnF.own_gain (Jvm.FP.Core.i2d twI) (Jvm.FP.Core.i2d avgI) fS ls)), .second, .val (.double (OwnF.own_gain (Jvm.FP.Core.i2d twI) (Jvm.FP.Core.i2d avgI) (fS + (1 : Int32)) ls)), .second, .val (.double (OwnF.own_gain (Jvm.FP.Core.i2d twI) (Jvm.FP.Core.i2d avgI) (fS + (1 : Int32)) (ls + (1 : Int32)))), .second, .val (.double (OwnF.own_gain Jvm.FP.dconst1 (Jvm.FP.Core.i2d ai) (1 : Int32) ai)), .second, .val (.double (OwnF.own_gain (Jvm.FP.Core.i2d twI) (Jvm.FP.Core.i2d ai) f0 (0 : Int32))), .second, .val (.double (OwnF.own_gain (Jvm.FP.Core.i2d twI) (Jvm.FP.Core.i2d ai) ((4 : Int32) * f0) ai)), .second, .val (.double (Jvm.FP.Core.dmul (Jvm.FP.Core.i2d twI) (4612586738352862003 : UInt64))), .second, .val (.int (1 : Int32))] [(.int (cmpValue (Jvm.FP.Core.dcmp (OwnF.own_gain (Jvm.FP.Core.i2d twI) (Jvm.FP.Core.i2d avgI) (fS + (1 : Int32)) (ls + (1 : Int32))) (OwnF.own_gain (Jvm.FP.Core.i2d twI) (Jvm.FP.Core.i2d avgI) (fS + (1 : Int32)) ls)) .g))])) _
      refine XS.ifNo XH74.here hx rfl (hb hby at_251) rfl ((if0 _ _).trans (tlt (OwnF.own_cvL H3 _)).2.1) ?_
      show Steps p.tables e below (T74.setTop (mkF m 254 #[.val (.int p0), .val (.int p1), .val (.int p2), .val (.int p3), .val (.int p4), .val (.int avgI), .val (.int ai), .val (.double (Jvm.FP.Core.i2d avgI)), .second, .val (.double (Jvm.FP.Core.i2d twI)), .second, .val (.int f), .val (.int fS), .val (.int f0), .val (.int len), .val (.int ls), .val (.ref b29), .val (.ref b40), .val (.double (OwnF.own_gain (Jvm.FP.Core.i2d twI) (Jvm.FP.Core.i2d avgI) f len)), .second, .val (.double (OwnF.own_gain (Jvm.FP.Core.i2d twI) (Jvm.FP.Core.i2d avgI) fS ls)), .second, .val (.double (OwnF.own_gain (Jvm.FP.Core.i2d twI) (Jvm.FP.Core.i2d avgI) (fS + (1 : Int32)) ls)), .second, .val (.double (OwnF.own_gain (Jvm.FP.Core.i2d twI) (Jvm.FP.Core.i2d avgI) (fS + (1 : Int32)) (ls + (1 : Int32)))), .second, .val (.double (OwnF.own_gain Jvm.FP.dconst1 (Jvm.FP.Core.i2d ai) (1 : Int32) ai)), .second, .val (.double (OwnF.own_gain (Jvm.FP.Core.i2d twI) (Jvm.FP.Core.i2d ai) f0 (0 : Int32))), .second, .val (.double (OwnF.own_gain (Jvm.FP.Core.i2d twI) (Jvm.FP.Core.i2d ai) ((4 : Int32) * f0) ai)), .second, .val (.double (Jvm.FP.Core.dmul (Jvm.FP.Core.i2d twI) (4612586738352862003 : UInt64))), .second, .val (.int (1 : Int32))] [])) _
      refine XS.dload XH74.here hx rfl (hb hby at_254) rfl ?_
      show Steps p.tables e below (T74.setTop (mkF m 256 #[.val (.int p0), .val (.int p1), .val (.int p2), .val (.int p3), .val (.int p4), .val (.int avgI), .val (.int ai), .val (.double (Jvm.FP.Core.i2d avgI)), .second, .val (.double (Jvm.FP.Core.i2d twI)), .second, .val (.int f), .val (.int fS), .val (.int f0), .val (.int len), .val (.int ls), .val (.ref b29), .val (.ref b40), .val (.double (OwnF.own_gain (Jvm.FP.Core.i2d twI) (Jvm.FP.Core.i2d avgI) f len)), .second, .val (.double (OwnF.own_gain (Jvm.FP.Core.i2d twI) (Jvm.FP.Core.i2d avgI) fS ls)), .second, .val (.double (OwnF.own_gain (Jvm.FP.Core.i2d twI) (Jvm.FP.Core.i2d avgI) (fS + (1 : Int32)) ls)), .second, .val (.double (OwnF.own_gain (Jvm.FP.Core.i2d twI) (Jvm.FP.Core.i2d avgI) (fS + (1 : Int32)) (ls + (1 : Int32)))), .second, .val (.double (OwnF.own_gain Jvm.FP.dconst1 (Jvm.FP.Core.i2d ai) (1 : Int32) ai)), .second, .val (.double (OwnF.own_gain (Jvm.FP.Core.i2d twI) (Jvm.FP.Core.i2d ai) f0 (0 : Int32))), .second, .val (.double (OwnF.own_gain (Jvm.FP.Core.i2d twI) (Jvm.FP.Core.i2d ai) ((4 : Int32) * f0) ai)), .second, .val (.double (Jvm.FP.Core.dmul (Jvm.FP.Core.i2d twI) (4612586738352862003 : UInt64))), .second, .val (.int (1 : Int32))] [(.double (OwnF.own_gain Jvm.FP.dconst1 (Jvm.FP.Core.i2d ai) (1 : Int32) ai))])) _
      refine XS.dconst1 XH74.here hx rfl (hb hby at_256) rfl ?_
      show Steps p.tables e below (T74.setTop (mkF m 257 #[.val (.int p0), .val (.int p1), .val (.int p2), .val (.int p3), .val (.int p4), .val (.int avgI), .val (.int ai), .val (.double (Jvm.FP.Core.i2d avgI)), .second, .val (.double (Jvm.FP.Core.i2d twI)), .second, .val (.int f), .val (.int fS), .val (.int f0), .val (.int len), .val (.int ls), .val (.ref b29), .val (.ref b40), .val (.double (OwnF.own_gain (Jvm.FP.Core.i2d twI) (Jvm.FP.Core.i2d avgI) f len)), .second, .val (.double (OwnF.own_gain (Jvm.FP.Core.i2d twI) (Jvm.FP.Core.i2d avgI) fS ls)), .second, .val (.double (OwnF.own_gain (Jvm.FP.Core.i2d twI) (Jvm.FP.Core.i2d avgI) (fS + (1 : Int32)) ls)), .second, .val (.double (OwnF.own_gain (Jvm.FP.Core.i2d twI) (Jvm.FP.Core.i2d avgI) (fS + (1 : Int32)) (ls + (1 : Int32)))), .second, .val (.double (OwnF.own_gain Jvm.FP.dconst1 (Jvm.FP.Core.i2d ai) (1 : Int32) ai)), .second, .val (.double (OwnF.own_gain (Jvm.FP.Core.i2d twI) (Jvm.FP.Core.i2d ai) f0 (0 : Int32))), .second, .val (.double (OwnF.own_gain (Jvm.FP.Core.i2d twI) (Jvm.FP.Core.i2d ai) ((4 : Int32) * f0) ai)), .second, .val (.double (Jvm.FP.Core.dmul (Jvm.FP.Core.i2d twI) (4612586738352862003 : UInt64))), .second, .val (.int (1 : Int32))] [(.double Jvm.FP.dconst1), (.double (OwnF.own_gain Jvm.FP.dconst1 (Jvm.FP.Core.i2d ai) (1 : Int32) ai))])) _
      refine XS.dcmpS XH74.here hx rfl (hb hby at_257) rfl rfl ?_
      show Steps p.tables e below (T74.setTop (mkF m 258 #[.val (.int p0), .val (.int p1), .val (.int p2), .val (.int p3), .val (.int p4), .val (.int avgI), .val (.int ai), .val (.double (Jvm.FP.Core.i2d avgI)), .second, .val (.double (Jvm.FP.Core.i2d twI)), .second, .val (.int f), .val (.int fS), .val (.int f0), .val (.int len), .val (.int ls), .val (.ref b29), .val (.ref b40), .val (.double (OwnF.own_gain (Jvm.FP.Core.i2d twI) (Jvm.FP.Core.i2d avgI) f len)), .second, .val (.double (OwnF.own_gain (Jvm.FP.Core.i2d twI) (Jvm.FP.Core.i2d avgI) fS ls)), .second, .val (.double (OwnF.own_gain (Jvm.FP.Core.i2d twI) (Jvm.FP.Core.i2d avgI) (fS + (1 : Int32)) ls)), .second, .val (.double (OwnF.own_gain (Jvm.FP.Core.i2d twI) (Jvm.FP.Core.i2d avgI) (fS + (1 : Int32)) (ls + (1 : Int32)))), .second, .val (.double (OwnF.own_gain Jvm.FP.dconst1 (Jvm.FP.Core.i2d ai) (1 : Int32) ai)), .second, .val (.double (OwnF.own_gain (Jvm.FP.Core.i2d twI) (Jvm.FP.Core.i2d ai) f0 (0 : Int32))), .second, .val (.double (OwnF.own_gain (Jvm.FP.Core.i2d twI) (Jvm.FP.Core.i2d ai) ((4 : Int32) * f0) ai)), .second, .val (.double (Jvm.FP.Core.dmul (Jvm.FP.Core.i2d twI) (4612586738352862003 : UInt64))), .second, .val (.int (1 : Int32))] [(.int (cmpValue (Jvm.FP.Core.dcmp (OwnF.own_gain Jvm.FP.dconst1 (Jvm.FP.Core.i2d ai) (1 : Int32) ai) Jvm.FP.dconst1) .l))])) _
      refine XS.ifNo XH74.here hx rfl (hb hby at_258) rfl ((if0 _ _).trans (teq (OwnF.own_cvE H4 _)).2) ?_
      show Steps p.tables e below (T74.setTop (mkF m 261 #[.val (.int p0), .val (.int p1), .val (.int p2), .val (.int p3), .val (.int p4), .val (.int avgI), .val (.int ai), .val (.double (Jvm.FP.Core.i2d avgI)), .second, .val (.double (Jvm.FP.Core.i2d twI)), .second, .val (.int f), .val (.int fS), .val (.int f0), .val (.int len), .val (.int ls), .val (.ref b29), .val (.ref b40), .val (.double (OwnF.own_gain (Jvm.FP.Core.i2d twI) (Jvm.FP.Core.i2d avgI) f len)), .second, .val (.double (OwnF.own_gain (Jvm.FP.Core.i2d twI) (Jvm.FP.Core.i2d avgI) fS ls)), .second, .val (.double (OwnF.own_gain (Jvm.FP.Core.i2d twI) (Jvm.FP.Core.i2d avgI) (fS + (1 : Int32)) ls)), .second, .val (.double (OwnF.own_gain (Jvm.FP.Core.i2d twI) (Jvm.FP.Core.i2d avgI) (fS + (1 : Int32)) (ls + (1 : Int32)))), .second, .val (.double (OwnF.own_gain Jvm.FP.dconst1 (Jvm.FP.Core.i2d ai) (1 : Int32) ai)), .second, .val (.double (OwnF.own_gain (Jvm.FP.Core.i2d twI) (Jvm.FP.Core.i2d ai) f0 (0 : Int32))), .second, .val (.double (OwnF.own_gain (Jvm.FP.Core.i2d twI) (Jvm.FP.Core.i2d ai) ((4 : Int32) * f0) ai)), .second, .val (.double (Jvm.FP.Core.dmul (Jvm.FP.Core.i2d twI) (4612586738352862003 : UInt64))), .second, .val (.int (1 : Int32))] [])) _
      refine XS.dload XH74.here hx rfl (hb hby at_261) rfl ?_
      show Steps p.tables e below (T74.setTop (mkF m 263 #[.val (.int p0), .val (.int p1), .val (.int p2), .val (.int p3), .val (.int p4), .val (.int avgI), .val (.int ai), .val (.double (Jvm.FP.Core.i2d avgI)), .second, .val (.double (Jvm.FP.Core.i2d twI)), .second, .val (.int f), .val (.int fS), .val (.int f0), .val (.int len), .val (.int ls), .val (.ref b29), .val (.ref b40), .val (.double (OwnF.own_gain (Jvm.FP.Core.i2d twI) (Jvm.FP.Core.i2d avgI) f len)), .second, .val (.double (OwnF.own_gain (Jvm.FP.Core.i2d twI) (Jvm.FP.Core.i2d avgI) fS ls)), .second, .val (.double (OwnF.own_gain (Jvm.FP.Core.i2d twI) (Jvm.FP.Core.i2d avgI) (fS + (1 : Int32)) ls)), .second, .val (.double (OwnF.own_gain (Jvm.FP.Core.i2d twI) (Jvm.FP.Core.i2d avgI) (fS + (1 : Int32)) (ls + (1 : Int32)))), .second, .val (.double (OwnF.own_gain Jvm.FP.dconst1 (Jvm.FP.Core.i2d ai) (1 : Int32) ai)), .second, .val (.double (OwnF.own_gain (Jvm.FP.Core.i2d twI) (Jvm.FP.Core.i2d ai) f0 (0 : Int32))), .second, .val (.double (OwnF.own_gain (Jvm.FP.Core.i2d twI) (Jvm.FP.Core.i2d ai) ((4 : Int32) * f0) ai)), .second, .val (.double (Jvm.FP.Core.dmul (Jvm.FP.Core.i2d twI) (4612586738352862003 : UInt64))), .second, .val (.int (1 : Int32))] [(.double (OwnF.own_gain (Jvm.FP.Core.i2d twI) (Jvm.FP.Core.i2d ai) f0 (0 : Int32)))])) _
      refine XS.dload XH74.here hx rfl (hb hby at_263) rfl ?_
      show Steps p.tables e below (T74.setTop (mkF m 265 #[.val (.int p0), .val (.int p1), .val (.int p2), .val (.int p3), .val (.int p4), .val (.int avgI), .val (.int ai), .val (.double (Jvm.FP.Core.i2d avgI)), .second, .val (.double (Jvm.FP.Core.i2d twI)), .second, .val (.int f), .val (.int fS), .val (.int f0), .val (.int len), .val (.int ls), .val (.ref b29), .val (.ref b40), .val (.double (OwnF.own_gain (Jvm.FP.Core.i2d twI) (Jvm.FP.Core.i2d avgI) f len)), .second, .val (.double (OwnF.own_gain (Jvm.FP.Core.i2d twI) (Jvm.FP.Core.i2d avgI) fS ls)), .second, .val (.double (OwnF.own_gain (Jvm.FP.Core.i2d twI) (Jvm.FP.Core.i2d avgI) (fS + (1 : Int32)) ls)), .second, .val (.double (OwnF.own_gain (Jvm.FP.Core.i2d twI) (Jvm.FP.Core.i2d avgI) (fS + (1 : Int32)) (ls + (1 : Int32)))), .second, .val (.double (OwnF.own_gain Jvm.FP.dconst1 (Jvm.FP.Core.i2d ai) (1 : Int32) ai)), .second, .val (.double (OwnF.own_gain (Jvm.FP.Core.i2d twI) (Jvm.FP.Core.i2d ai) f0 (0 : Int32))), .second, .val (.double (OwnF.own_gain (Jvm.FP.Core.i2d twI) (Jvm.FP.Core.i2d ai) ((4 : Int32) * f0) ai)), .second, .val (.double (Jvm.FP.Core.dmul (Jvm.FP.Core.i2d twI) (4612586738352862003 : UInt64))), .second, .val (.int (1 : Int32))] [(.double (OwnF.own_gain (Jvm.FP.Core.i2d twI) (Jvm.FP.Core.i2d ai) ((4 : Int32) * f0) ai)), (.double (OwnF.own_gain (Jvm.FP.Core.i2d twI) (Jvm.FP.Core.i2d ai) f0 (0 : Int32)))])) _
      refine XS.dcmpS XH74.here hx rfl (hb hby at_265) rfl rfl ?_
      show Steps p.tables e below (T74.setTop (mkF m 266 #[.val (.int p0), .val (.int p1), .val (.int p2), .val (.int p3), .val (.int p4), .val (.int avgI), .val (.int ai), .val (.double (Jvm.FP.Core.i2d avgI)), .second, .val (.double (Jvm.FP.Core.i2d twI)), .second, .val (.int f), .val (.int fS), .val (.int f0), .val (.int len), .val (.int ls), .val (.ref b29), .val (.ref b40), .val (.double (OwnF.own_gain (Jvm.FP.Core.i2d twI) (Jvm.FP.Core.i2d avgI) f len)), .second, .val (.double (OwnF.own_gain (Jvm.FP.Core.i2d twI) (Jvm.FP.Core.i2d avgI) fS ls)), .second, .val (.double (OwnF.own_gain (Jvm.FP.Core.i2d twI) (Jvm.FP.Core.i2d avgI) (fS + (1 : Int32)) ls)), .second, .val (.double (OwnF.own_gain (Jvm.FP.Core.i2d twI) (Jvm.FP.Core.i2d avgI) (fS + (1 : Int32)) (ls + (1 : Int32)))), .second, .val (.double (OwnF.own_gain Jvm.FP.dconst1 (Jvm.FP.Core.i2d ai) (1 : Int32) ai)), .second, .val (.double (OwnF.own_gain (Jvm.FP.Core.i2d twI) (Jvm.FP.Core.i2d ai) f0 (0 : Int32))), .second, .val (.double (OwnF.own_gain (Jvm.FP.Core.i2d twI) (Jvm.FP.Core.i2d ai) ((4 : Int32) * f0) ai)), .second, .val (.double (Jvm.FP.Core.dmul (Jvm.FP.Core.i2d twI) (4612586738352862003 : UInt64))), .second, .val (.int (1 : Int32))] [(.int (cmpValue (Jvm.FP.Core.dcmp (OwnF.own_gain (Jvm.FP.Core.i2d twI) (Jvm.FP.Core.i2d ai) f0 (0 : Int32)) (OwnF.own_gain (Jvm.FP.Core.i2d twI) (Jvm.FP.Core.i2d ai) ((4 : Int32) * f0) ai)) .l))])) _
      refine XS.ifNo XH74.here hx rfl (hb hby at_266) rfl ((if0 _ _).trans (teq (OwnF.own_cvE H5 _)).2) ?_
      show Steps p.tables e below (T74.setTop (mkF m 269 #[.val (.int p0), .val (.int p1), .val (.int p2), .val (.int p3), .val (.int p4), .val (.int avgI), .val (.int ai), .val (.double (Jvm.FP.Core.i2d avgI)), .second, .val (.double (Jvm.FP.Core.i2d twI)), .second, .val (.int f), .val (.int fS), .val (.int f0), .val (.int len), .val (.int ls), .val (.ref b29), .val (.ref b40), .val (.double (OwnF.own_gain (Jvm.FP.Core.i2d twI) (Jvm.FP.Core.i2d avgI) f len)), .second, .val (.double (OwnF.own_gain (Jvm.FP.Core.i2d twI) (Jvm.FP.Core.i2d avgI) fS ls)), .second, .val (.double (OwnF.own_gain (Jvm.FP.Core.i2d twI) (Jvm.FP.Core.i2d avgI) (fS + (1 : Int32)) ls)), .second, .val (.double (OwnF.own_gain (Jvm.FP.Core.i2d twI) (Jvm.FP.Core.i2d avgI) (fS + (1 : Int32)) (ls + (1 : Int32)))), .second, .val (.double (OwnF.own_gain Jvm.FP.dconst1 (Jvm.FP.Core.i2d ai) (1 : Int32) ai)), .second, .val (.double (OwnF.own_gain (Jvm.FP.Core.i2d twI) (Jvm.FP.Core.i2d ai) f0 (0 : Int32))), .second, .val (.double (OwnF.own_gain (Jvm.FP.Core.i2d twI) (Jvm.FP.Core.i2d ai) ((4 : Int32) * f0) ai)), .second, .val (.double (Jvm.FP.Core.dmul (Jvm.FP.Core.i2d twI) (4612586738352862003 : UInt64))), .second, .val (.int (1 : Int32))] [])) _
      refine XS.iconst XH74.here hx rfl (hb hby at_269) ?_
      show Steps p.tables e below (T74.setTop (mkF m 270 #[.val (.int p0), .val (.int p1), .val (.int p2), .val (.int p3), .val (.int p4), .val (.int avgI), .val (.int ai), .val (.double (Jvm.FP.Core.i2d avgI)), .second, .val (.double (Jvm.FP.Core.i2d twI)), .second, .val (.int f), .val (.int fS), .val (.int f0), .val (.int len), .val (.int ls), .val (.ref b29), .val (.ref b40), .val (.double (OwnF.own_gain (Jvm.FP.Core.i2d twI) (Jvm.FP.Core.i2d avgI) f len)), .second, .val (.double (OwnF.own_gain (Jvm.FP.Core.i2d twI) (Jvm.FP.Core.i2d avgI) fS ls)), .second, .val (.double (OwnF.own_gain (Jvm.FP.Core.i2d twI) (Jvm.FP.Core.i2d avgI) (fS + (1 : Int32)) ls)), .second, .val (.double (OwnF.own_gain (Jvm.FP.Core.i2d twI) (Jvm.FP.Core.i2d avgI) (fS + (1 : Int32)) (ls + (1 : Int32)))), .second, .val (.double (OwnF.own_gain Jvm.FP.dconst1 (Jvm.FP.Core.i2d ai) (1 : Int32) ai)), .second, .val (.double (OwnF.own_gain (Jvm.FP.Core.i2d twI) (Jvm.FP.Core.i2d ai) f0 (0 : Int32))), .second, .val (.double (OwnF.own_gain (Jvm.FP.Core.i2d twI) (Jvm.FP.Core.i2d ai) ((4 : Int32) * f0) ai)), .second, .val (.double (Jvm.FP.Core.dmul (Jvm.FP.Core.i2d twI) (4612586738352862003 : UInt64))), .second, .val (.int (1 : Int32))] [(.int (1 : Int32))])) _
      refine XS.goto XH74.here hx rfl (pc0 := 270) (pc' := 274) rfl (hb hby at_270) (by decide) (by decide) ?_
      exact k)
    obtain ⟨fs, hr, hrun, hended, hW, hsame⟩ := XH74.leave (v := some (.int (1 : Int32))) (fun h => by rw [Bd.returns] at h; cases h)
    refine ⟨_, _, k78 _ ?_, hrun, hended, _, _, rfl, ?_, ⟨_, rfl⟩, hW, hsame.mono (by decide) (by decide)⟩
    · show Steps p.tables e below (T74.setTop (mkF m 274 #[.val (.int p0), .val (.int p1), .val (.int p2), .val (.int p3), .val (.int p4), .val (.int avgI), .val (.int ai), .val (.double (Jvm.FP.Core.i2d avgI)), .second, .val (.double (Jvm.FP.Core.i2d twI)), .second, .val (.int f), .val (.int fS), .val (.int f0), .val (.int len), .val (.int ls), .val (.ref b29), .val (.ref b40), .val (.double (OwnF.own_gain (Jvm.FP.Core.i2d twI) (Jvm.FP.Core.i2d avgI) f len)), .second, .val (.double (OwnF.own_gain (Jvm.FP.Core.i2d twI) (Jvm.FP.Core.i2d avgI) fS ls)), .second, .val (.double (OwnF.own_gain (Jvm.FP.Core.i2d twI) (Jvm.FP.Core.i2d avgI) (fS + (1 : Int32)) ls)), .second, .val (.double (OwnF.own_gain (Jvm.FP.Core.i2d twI) (Jvm.FP.Core.i2d avgI) (fS + (1 : Int32)) (ls + (1 : Int32)))), .second, .val (.double (OwnF.own_gain Jvm.FP.dconst1 (Jvm.FP.Core.i2d ai) (1 : Int32) ai)), .second, .val (.double (OwnF.own_gain (Jvm.FP.Core.i2d twI) (Jvm.FP.Core.i2d ai) f0 (0 : Int32))), .second, .val (.double (OwnF.own_gain (Jvm.FP.Core.i2d twI) (Jvm.FP.Core.i2d ai) ((4 : Int32) * f0) ai)), .second, .val (.double (Jvm.FP.Core.dmul (Jvm.FP.Core.i2d twI) (4612586738352862003 : UInt64))), .second, .val (.int (1 : Int32))] [(.int (1 : Int32))])) _
      exact retN XH74 hx (t := .boolean) Bd.returns (by simp) (hb hby at_274) hr
    · show Q0 Z p0 p1 p2 p3 p4 h0 n0 _ T74.heap _
      rw [eq74]
      exact ⟨rfl, NH74⟩
  · have k80 : ∀ t, Steps p.tables e below (T74.setTop (mkF m 274 #[.val (.int p0), .val (.int p1), .val (.int p2), .val (.int p3), .val (.int p4), .val (.int avgI), .val (.int ai), .val (.double (Jvm.FP.Core.i2d avgI)), .second, .val (.double (Jvm.FP.Core.i2d twI)), .second, .val (.int f), .val (.int fS), .val (.int f0), .val (.int len), .val (.int ls), .val (.ref b29), .val (.ref b40), .val (.double (OwnF.own_gain (Jvm.FP.Core.i2d twI) (Jvm.FP.Core.i2d avgI) f len)), .second, .val (.double (OwnF.own_gain (Jvm.FP.Core.i2d twI) (Jvm.FP.Core.i2d avgI) fS ls)), .second, .val (.double (OwnF.own_gain (Jvm.FP.Core.i2d twI) (Jvm.FP.Core.i2d avgI) (fS + (1 : Int32)) ls)), .second, .val (.double (OwnF.own_gain (Jvm.FP.Core.i2d twI) (Jvm.FP.Core.i2d avgI) (fS + (1 : Int32)) (ls + (1 : Int32)))), .second, .val (.double (OwnF.own_gain Jvm.FP.dconst1 (Jvm.FP.Core.i2d ai) (1 : Int32) ai)), .second, .val (.double (OwnF.own_gain (Jvm.FP.Core.i2d twI) (Jvm.FP.Core.i2d ai) f0 (0 : Int32))), .second, .val (.double (OwnF.own_gain (Jvm.FP.Core.i2d twI) (Jvm.FP.Core.i2d ai) ((4 : Int32) * f0) ai)), .second, .val (.double (Jvm.FP.Core.dmul (Jvm.FP.Core.i2d twI) (4612586738352862003 : UInt64))), .second, .val (.int (1 : Int32))] [(.int (1 : Int32))])) t → Steps p.tables e below (s₁.setTop (entryFrame m #[(.int p0), (.int p1), (.int p2), (.int p3), (.int p4)] maxLocals)) t := fun t k => k76 t (by
      show Steps p.tables e below (T74.setTop (mkF m 193 #[.val (.int p0), .val (.int p1), .val (.int p2), .val (.int p3), .val (.int p4), .val (.int avgI), .val (.int ai), .val (.double (Jvm.FP.Core.i2d avgI)), .second, .val (.double (Jvm.FP.Core.i2d twI)), .second, .val (.int f), .val (.int fS), .val (.int f0), .val (.int len), .val (.int ls), .val (.ref b29), .val (.ref b40), .val (.double (OwnF.own_gain (Jvm.FP.Core.i2d twI) (Jvm.FP.Core.i2d avgI) f len)), .second, .val (.double (OwnF.own_gain (Jvm.FP.Core.i2d twI) (Jvm.FP.Core.i2d avgI) fS ls)), .second, .val (.double (OwnF.own_gain (Jvm.FP.Core.i2d twI) (Jvm.FP.Core.i2d avgI) (fS + (1 : Int32)) ls)), .second, .val (.double (OwnF.own_gain (Jvm.FP.Core.i2d twI) (Jvm.FP.Core.i2d avgI) (fS + (1 : Int32)) (ls + (1 : Int32)))), .second, .val (.double (OwnF.own_gain Jvm.FP.dconst1 (Jvm.FP.Core.i2d ai) (1 : Int32) ai)), .second, .val (.double (OwnF.own_gain (Jvm.FP.Core.i2d twI) (Jvm.FP.Core.i2d ai) f0 (0 : Int32))), .second, .val (.double (OwnF.own_gain (Jvm.FP.Core.i2d twI) (Jvm.FP.Core.i2d ai) ((4 : Int32) * f0) ai)), .second, .val (.double (Jvm.FP.Core.dmul (Jvm.FP.Core.i2d twI) (4612586738352862003 : UInt64))), .second, .unset] [(.int f)])) _
      refine XS.ifYes XH74.here hx rfl (pc0 := 193) (pc' := 211) rfl (hb hby at_193) rfl ((if0 _ _).trans (feq hc77).2) (by decide) (by decide) ?_
      show Steps p.tables e below (T74.setTop (mkF m 211 #[.val (.int p0), .val (.int p1), .val (.int p2), .val (.int p3), .val (.int p4), .val (.int avgI), .val (.int ai), .val (.double (Jvm.FP.Core.i2d avgI)), .second, .val (.double (Jvm.FP.Core.i2d twI)), .second, .val (.int f), .val (.int fS), .val (.int f0), .val (.int len), .val (.int ls), .val (.ref b29), .val (.ref b40), .val (.double (OwnF.own_gain (Jvm.FP.Core.i2d twI) (Jvm.FP.Core.i2d avgI) f len)), .second, .val (.double (OwnF.own_gain (Jvm.FP.Core.i2d twI) (Jvm.FP.Core.i2d avgI) fS ls)), .second, .val (.double (OwnF.own_gain (Jvm.FP.Core.i2d twI) (Jvm.FP.Core.i2d avgI) (fS + (1 : Int32)) ls)), .second, .val (.double (OwnF.own_gain (Jvm.FP.Core.i2d twI) (Jvm.FP.Core.i2d avgI) (fS + (1 : Int32)) (ls + (1 : Int32)))), .second, .val (.double (OwnF.own_gain Jvm.FP.dconst1 (Jvm.FP.Core.i2d ai) (1 : Int32) ai)), .second, .val (.double (OwnF.own_gain (Jvm.FP.Core.i2d twI) (Jvm.FP.Core.i2d ai) f0 (0 : Int32))), .second, .val (.double (OwnF.own_gain (Jvm.FP.Core.i2d twI) (Jvm.FP.Core.i2d ai) ((4 : Int32) * f0) ai)), .second, .val (.double (Jvm.FP.Core.dmul (Jvm.FP.Core.i2d twI) (4612586738352862003 : UInt64))), .second, .unset] [])) _
      refine XS.dload XH74.here hx rfl (hb hby at_211) rfl ?_
      show Steps p.tables e below (T74.setTop (mkF m 213 #[.val (.int p0), .val (.int p1), .val (.int p2), .val (.int p3), .val (.int p4), .val (.int avgI), .val (.int ai), .val (.double (Jvm.FP.Core.i2d avgI)), .second, .val (.double (Jvm.FP.Core.i2d twI)), .second, .val (.int f), .val (.int fS), .val (.int f0), .val (.int len), .val (.int ls), .val (.ref b29), .val (.ref b40), .val (.double (OwnF.own_gain (Jvm.FP.Core.i2d twI) (Jvm.FP.Core.i2d avgI) f len)), .second, .val (.double (OwnF.own_gain (Jvm.FP.Core.i2d twI) (Jvm.FP.Core.i2d avgI) fS ls)), .second, .val (.double (OwnF.own_gain (Jvm.FP.Core.i2d twI) (Jvm.FP.Core.i2d avgI) (fS + (1 : Int32)) ls)), .second, .val (.double (OwnF.own_gain (Jvm.FP.Core.i2d twI) (Jvm.FP.Core.i2d avgI) (fS + (1 : Int32)) (ls + (1 : Int32)))), .second, .val (.double (OwnF.own_gain Jvm.FP.dconst1 (Jvm.FP.Core.i2d ai) (1 : Int32) ai)), .second, .val (.double (OwnF.own_gain (Jvm.FP.Core.i2d twI) (Jvm.FP.Core.i2d ai) f0 (0 : Int32))), .second, .val (.double (OwnF.own_gain (Jvm.FP.Core.i2d twI) (Jvm.FP.Core.i2d ai) ((4 : Int32) * f0) ai)), .second, .val (.double (Jvm.FP.Core.dmul (Jvm.FP.Core.i2d twI) (4612586738352862003 : UInt64))), .second, .unset] [(.double (OwnF.own_gain (Jvm.FP.Core.i2d twI) (Jvm.FP.Core.i2d avgI) f len))])) _
      refine XS.dconst0 XH74.here hx rfl (hb hby at_213) rfl ?_
      show Steps p.tables e below (T74.setTop (mkF m 214 #[.val (.int p0), .val (.int p1), .val (.int p2), .val (.int p3), .val (.int p4), .val (.int avgI), .val (.int ai), .val (.double (Jvm.FP.Core.i2d avgI)), .second, .val (.double (Jvm.FP.Core.i2d twI)), .second, .val (.int f), .val (.int fS), .val (.int f0), .val (.int len), .val (.int ls), .val (.ref b29), .val (.ref b40), .val (.double (OwnF.own_gain (Jvm.FP.Core.i2d twI) (Jvm.FP.Core.i2d avgI) f len)), .second, .val (.double (OwnF.own_gain (Jvm.FP.Core.i2d twI) (Jvm.FP.Core.i2d avgI) fS ls)), .second, .val (.double (OwnF.own_gain (Jvm.FP.Core.i2d twI) (Jvm.FP.Core.i2d avgI) (fS + (1 : Int32)) ls)), .second, .val (.double (OwnF.own_gain (Jvm.FP.Core.i2d twI) (Jvm.FP.Core.i2d avgI) (fS + (1 : Int32)) (ls + (1 : Int32)))), .second, .val (.double (OwnF.own_gain Jvm.FP.dconst1 (Jvm.FP.Core.i2d ai) (1 : Int32) ai)), .second, .val (.double (OwnF.own_gain (Jvm.FP.Core.i2d twI) (Jvm.FP.Core.i2d ai) f0 (0 : Int32))), .second, .val (.double (OwnF.own_gain (Jvm.FP.Core.i2d twI) (Jvm.FP.Core.i2d ai) ((4 : Int32) * f0) ai)), .second, .val (.double (Jvm.FP.Core.dmul (Jvm.FP.Core.i2d twI) (4612586738352862003 : UInt64))), .second, .unset] [(.double Jvm.FP.dconst0), (.double (OwnF.own_gain (Jvm.FP.Core.i2d twI) (Jvm.FP.Core.i2d avgI) f len))])) _
      refine XS.dcmpS XH74.here hx rfl (hb hby at_214) rfl rfl ?_
      show Steps p.tables e below (T74.setTop (mkF m 215 #[.val (.int p0), .val (.int p1), .val (.int p2), .val (.int p3), .val (.int p4), .val (.int avgI), .val (.int ai), .val (.double (Jvm.FP.Core.i2d avgI)), .second, .val (.double (Jvm.FP.Core.i2d twI)), .second, .val (.int f), .val (.int fS), .val (.int f0), .val (.int len), .val (.int ls), .val (.ref b29), .val (.ref b40), .val (.double (OwnF.own_gain (Jvm.FP.Core.i2d twI) (Jvm.FP.Core.i2d avgI) f len)), .second, .val (.double (OwnF.own_gain (Jvm.FP.Core.i2d twI) (Jvm.FP.Core.i2d avgI) fS ls)), .second, .val (.double (OwnF.own_gain (Jvm.FP.Core.i2d twI) (Jvm.FP.Core.i2d avgI) (fS + (1 : Int32)) ls)), .second, .val (.double (OwnF.own_gain (Jvm.FP.Core.i2d twI) (Jvm.FP.Core.i2d avgI) (fS + (1 : Int32)) (ls + (1 : Int32)))), .second, .val (.double (OwnF.own_gain Jvm.FP.dconst1 (Jvm.FP.Core.i2d ai) (1 : Int32) ai)), .second, .val (.double (OwnF.own_gain (Jvm.FP.Core.i2d twI) (Jvm.FP.Core.i2d ai) f0 (0 : Int32))), .second, .val (.double (OwnF.own_gain (Jvm.FP.Core.i2d twI) (Jvm.FP.Core.i2d ai) ((4 : Int32) * f0) ai)), .second, .val (.double (Jvm.FP.Core.dmul (Jvm.FP.Core.i2d twI) (4612586738352862003 : UInt64))), .second, .unset] [(.int (cmpValue (Jvm.FP.Core.dcmp (OwnF.own_gain (Jvm.FP.Core.i2d twI) (Jvm.FP.Core.i2d avgI) f len) Jvm.FP.dconst0) .l))])) _
      refine XS.ifNo XH74.here hx rfl (hb hby at_215) rfl ((if0 _ _).trans (tlt (OwnF.own_cvG (H1 hc77) _)).2.2.2) ?_
      show Steps p.tables e below (T74.setTop (mkF m 218 #[.val (.int p0), .val (.int p1), .val (.int p2), .val (.int p3), .val (.int p4), .val (.int avgI), .val (.int ai), .val (.double (Jvm.FP.Core.i2d avgI)), .second, .val (.double (Jvm.FP.Core.i2d twI)), .second, .val (.int f), .val (.int fS), .val (.int f0), .val (.int len), .val (.int ls), .val (.ref b29), .val (.ref b40), .val (.double (OwnF.own_gain (Jvm.FP.Core.i2d twI) (Jvm.FP.Core.i2d avgI) f len)), .second, .val (.double (OwnF.own_gain (Jvm.FP.Core.i2d twI) (Jvm.FP.Core.i2d avgI) fS ls)), .second, .val (.double (OwnF.own_gain (Jvm.FP.Core.i2d twI) (Jvm.FP.Core.i2d avgI) (fS + (1 : Int32)) ls)), .second, .val (.double (OwnF.own_gain (Jvm.FP.Core.i2d twI) (Jvm.FP.Core.i2d avgI) (fS + (1 : Int32)) (ls + (1 : Int32)))), .second, .val (.double (OwnF.own_gain Jvm.FP.dconst1 (Jvm.FP.Core.i2d ai) (1 : Int32) ai)), .second, .val (.double (OwnF.own_gain (Jvm.FP.Core.i2d twI) (Jvm.FP.Core.i2d ai) f0 (0 : Int32))), .second, .val (.double (OwnF.own_gain (Jvm.FP.Core.i2d twI) (Jvm.FP.Core.i2d ai) ((4 : Int32) * f0) ai)), .second, .val (.double (Jvm.FP.Core.dmul (Jvm.FP.Core.i2d twI) (4612586738352862003 : UInt64))), .second, .unset] [])) _
      refine XS.dload XH74.here hx rfl (hb hby at_218) rfl ?_
      show Steps p.tables e below (T74.setTop (mkF m 220 #[.val (.int p0), .val (.int p1), .val (.int p2), .val (.int p3), .val (.int p4), .val (.int avgI), .val (.int ai), .val (.double (Jvm.FP.Core.i2d avgI)), .second, .val (.double (Jvm.FP.Core.i2d twI)), .second, .val (.int f), .val (.int fS), .val (.int f0), .val (.int len), .val (.int ls), .val (.ref b29), .val (.ref b40), .val (.double (OwnF.own_gain (Jvm.FP.Core.i2d twI) (Jvm.FP.Core.i2d avgI) f len)), .second, .val (.double (OwnF.own_gain (Jvm.FP.Core.i2d twI) (Jvm.FP.Core.i2d avgI) fS ls)), .second, .val (.double (OwnF.own_gain (Jvm.FP.Core.i2d twI) (Jvm.FP.Core.i2d avgI) (fS + (1 : Int32)) ls)), .second, .val (.double (OwnF.own_gain (Jvm.FP.Core.i2d twI) (Jvm.FP.Core.i2d avgI) (fS + (1 : Int32)) (ls + (1 : Int32)))), .second, .val (.double (OwnF.own_gain Jvm.FP.dconst1 (Jvm.FP.Core.i2d ai) (1 : Int32) ai)), .second, .val (.double (OwnF.own_gain (Jvm.FP.Core.i2d twI) (Jvm.FP.Core.i2d ai) f0 (0 : Int32))), .second, .val (.double (OwnF.own_gain (Jvm.FP.Core.i2d twI) (Jvm.FP.Core.i2d ai) ((4 : Int32) * f0) ai)), .second, .val (.double (Jvm.FP.Core.dmul (Jvm.FP.Core.i2d twI) (4612586738352862003 : UInt64))), .second, .unset] [(.double (OwnF.own_gain (Jvm.FP.Core.i2d twI) (Jvm.FP.Core.i2d avgI) f len))])) _
      refine XS.dload XH74.here hx rfl (hb hby at_220) rfl ?_
      show Steps p.tables e below (T74.setTop (mkF m 222 #[.val (.int p0), .val (.int p1), .val (.int p2), .val (.int p3), .val (.int p4), .val (.int avgI), .val (.int ai), .val (.double (Jvm.FP.Core.i2d avgI)), .second, .val (.double (Jvm.FP.Core.i2d twI)), .second, .val (.int f), .val (.int fS), .val (.int f0), .val (.int len), .val (.int ls), .val (.ref b29), .val (.ref b40), .val (.double (OwnF.own_gain (Jvm.FP.Core.i2d twI) (Jvm.FP.Core.i2d avgI) f len)), .second, .val (.double (OwnF.own_gain (Jvm.FP.Core.i2d twI) (Jvm.FP.Core.i2d avgI) fS ls)), .second, .val (.double (OwnF.own_gain (Jvm.FP.Core.i2d twI) (Jvm.FP.Core.i2d avgI) (fS + (1 : Int32)) ls)), .second, .val (.double (OwnF.own_gain (Jvm.FP.Core.i2d twI) (Jvm.FP.Core.i2d avgI) (fS + (1 : Int32)) (ls + (1 : Int32)))), .second, .val (.double (OwnF.own_gain Jvm.FP.dconst1 (Jvm.FP.Core.i2d ai) (1 : Int32) ai)), .second, .val (.double (OwnF.own_gain (Jvm.FP.Core.i2d twI) (Jvm.FP.Core.i2d ai) f0 (0 : Int32))), .second, .val (.double (OwnF.own_gain (Jvm.FP.Core.i2d twI) (Jvm.FP.Core.i2d ai) ((4 : Int32) * f0) ai)), .second, .val (.double (Jvm.FP.Core.dmul (Jvm.FP.Core.i2d twI) (4612586738352862003 : UInt64))), .second, .unset] [(.double (Jvm.FP.Core.dmul (Jvm.FP.Core.i2d twI) (4612586738352862003 : UInt64))), (.double (OwnF.own_gain (Jvm.FP.Core.i2d twI) (Jvm.FP.Core.i2d avgI) f len))])) _
      refine XS.dcmpS XH74.here hx rfl (hb hby at_222) rfl rfl ?_
      show Steps p.tables e below (T74.setTop (mkF m 223 #[.val (.int p0), .val (.int p1), .val (.int p2), .val (.int p3), .val (.int p4), .val (.int avgI), .val (.int ai), .val (.double (Jvm.FP.Core.i2d avgI)), .second, .val (.double (Jvm.FP.Core.i2d twI)), .second, .val (.int f), .val (.int fS), .val (.int f0), .val (.int len), .val (.int ls), .val (.ref b29), .val (.ref b40), .val (.double (OwnF.own_gain (Jvm.FP.Core.i2d twI) (Jvm.FP.Core.i2d avgI) f len)), .second, .val (.double (OwnF.own_gain (Jvm.FP.Core.i2d twI) (Jvm.FP.Core.i2d avgI) fS ls)), .second, .val (.double (OwnF.own_gain (Jvm.FP.Core.i2d twI) (Jvm.FP.Core.i2d avgI) (fS + (1 : Int32)) ls)), .second, .val (.double (OwnF.own_gain (Jvm.FP.Core.i2d twI) (Jvm.FP.Core.i2d avgI) (fS + (1 : Int32)) (ls + (1 : Int32)))), .second, .val (.double (OwnF.own_gain Jvm.FP.dconst1 (Jvm.FP.Core.i2d ai) (1 : Int32) ai)), .second, .val (.double (OwnF.own_gain (Jvm.FP.Core.i2d twI) (Jvm.FP.Core.i2d ai) f0 (0 : Int32))), .second, .val (.double (OwnF.own_gain (Jvm.FP.Core.i2d twI) (Jvm.FP.Core.i2d ai) ((4 : Int32) * f0) ai)), .second, .val (.double (Jvm.FP.Core.dmul (Jvm.FP.Core.i2d twI) (4612586738352862003 : UInt64))), .second, .unset] [(.int (cmpValue (Jvm.FP.Core.dcmp (OwnF.own_gain (Jvm.FP.Core.i2d twI) (Jvm.FP.Core.i2d avgI) f len) (Jvm.FP.Core.dmul (Jvm.FP.Core.i2d twI) (4612586738352862003 : UInt64))) .g))])) _
      refine XS.ifNo XH74.here hx rfl (hb hby at_223) rfl ((if0 _ _).trans (tlt (OwnF.own_cvL (H1' hc77) _)).2.1) ?_
      show Steps p.tables e below (T74.setTop (mkF m 226 #[.val (.int p0), .val (.int p1), .val (.int p2), .val (.int p3), .val (.int p4), .val (.int avgI), .val (.int ai), .val (.double (Jvm.FP.Core.i2d avgI)), .second, .val (.double (Jvm.FP.Core.i2d twI)), .second, .val (.int f), .val (.int fS), .val (.int f0), .val (.int len), .val (.int ls), .val (.ref b29), .val (.ref b40), .val (.double (OwnF.own_gain (Jvm.FP.Core.i2d twI) (Jvm.FP.Core.i2d avgI) f len)), .second, .val (.double (OwnF.own_gain (Jvm.FP.Core.i2d twI) (Jvm.FP.Core.i2d avgI) fS ls)), .second, .val (.double (OwnF.own_gain (Jvm.FP.Core.i2d twI) (Jvm.FP.Core.i2d avgI) (fS + (1 : Int32)) ls)), .second, .val (.double (OwnF.own_gain (Jvm.FP.Core.i2d twI) (Jvm.FP.Core.i2d avgI) (fS + (1 : Int32)) (ls + (1 : Int32)))), .second, .val (.double (OwnF.own_gain Jvm.FP.dconst1 (Jvm.FP.Core.i2d ai) (1 : Int32) ai)), .second, .val (.double (OwnF.own_gain (Jvm.FP.Core.i2d twI) (Jvm.FP.Core.i2d ai) f0 (0 : Int32))), .second, .val (.double (OwnF.own_gain (Jvm.FP.Core.i2d twI) (Jvm.FP.Core.i2d ai) ((4 : Int32) * f0) ai)), .second, .val (.double (Jvm.FP.Core.dmul (Jvm.FP.Core.i2d twI) (4612586738352862003 : UInt64))), .second, .unset] [])) _
      refine XS.iconst XH74.here hx rfl (hb hby at_226) ?_
      show Steps p.tables e below (T74.setTop (mkF m 227 #[.val (.int p0), .val (.int p1), .val (.int p2), .val (.int p3), .val (.int p4), .val (.int avgI), .val (.int ai), .val (.double (Jvm.FP.Core.i2d avgI)), .second, .val (.double (Jvm.FP.Core.i2d twI)), .second, .val (.int f), .val (.int fS), .val (.int f0), .val (.int len), .val (.int ls), .val (.ref b29), .val (.ref b40), .val (.double (OwnF.own_gain (Jvm.FP.Core.i2d twI) (Jvm.FP.Core.i2d avgI) f len)), .second, .val (.double (OwnF.own_gain (Jvm.FP.Core.i2d twI) (Jvm.FP.Core.i2d avgI) fS ls)), .second, .val (.double (OwnF.own_gain (Jvm.FP.Core.i2d twI) (Jvm.FP.Core.i2d avgI) (fS + (1 : Int32)) ls)), .second, .val (.double (OwnF.own_gain (Jvm.FP.Core.i2d twI) (Jvm.FP.Core.i2d avgI) (fS + (1 : Int32)) (ls + (1 : Int32)))), .second, .val (.double (OwnF.own_gain Jvm.FP.dconst1 (Jvm.FP.Core.i2d ai) (1 : Int32) ai)), .second, .val (.double (OwnF.own_gain (Jvm.FP.Core.i2d twI) (Jvm.FP.Core.i2d ai) f0 (0 : Int32))), .second, .val (.double (OwnF.own_gain (Jvm.FP.Core.i2d twI) (Jvm.FP.Core.i2d ai) ((4 : Int32) * f0) ai)), .second, .val (.double (Jvm.FP.Core.dmul (Jvm.FP.Core.i2d twI) (4612586738352862003 : UInt64))), .second, .unset] [(.int (1 : Int32))])) _
      refine XS.goto XH74.here hx rfl (pc0 := 227) (pc' := 231) rfl (hb hby at_227) (by decide) (by decide) ?_
      show Steps p.tables e below (T74.setTop (mkF m 231 #[.val (.int p0), .val (.int p1), .val (.int p2), .val (.int p3), .val (.int p4), .val (.int avgI), .val (.int ai), .val (.double (Jvm.FP.Core.i2d avgI)), .second, .val (.double (Jvm.FP.Core.i2d twI)), .second, .val (.int f), .val (.int fS), .val (.int f0), .val (.int len), .val (.int ls), .val (.ref b29), .val (.ref b40), .val (.double (OwnF.own_gain (Jvm.FP.Core.i2d twI) (Jvm.FP.Core.i2d avgI) f len)), .second, .val (.double (OwnF.own_gain (Jvm.FP.Core.i2d twI) (Jvm.FP.Core.i2d avgI) fS ls)), .second, .val (.double (OwnF.own_gain (Jvm.FP.Core.i2d twI) (Jvm.FP.Core.i2d avgI) (fS + (1 : Int32)) ls)), .second, .val (.double (OwnF.own_gain (Jvm.FP.Core.i2d twI) (Jvm.FP.Core.i2d avgI) (fS + (1 : Int32)) (ls + (1 : Int32)))), .second, .val (.double (OwnF.own_gain Jvm.FP.dconst1 (Jvm.FP.Core.i2d ai) (1 : Int32) ai)), .second, .val (.double (OwnF.own_gain (Jvm.FP.Core.i2d twI) (Jvm.FP.Core.i2d ai) f0 (0 : Int32))), .second, .val (.double (OwnF.own_gain (Jvm.FP.Core.i2d twI) (Jvm.FP.Core.i2d ai) ((4 : Int32) * f0) ai)), .second, .val (.double (Jvm.FP.Core.dmul (Jvm.FP.Core.i2d twI) (4612586738352862003 : UInt64))), .second, .unset] [(.int (1 : Int32))])) _
      refine XS.istore XH74.here hx rfl (hb hby at_231) rfl (l' := #[.val (.int p0), .val (.int p1), .val (.int p2), .val (.int p3), .val (.int p4), .val (.int avgI), .val (.int ai), .val (.double (Jvm.FP.Core.i2d avgI)), .second, .val (.double (Jvm.FP.Core.i2d twI)), .second, .val (.int f), .val (.int fS), .val (.int f0), .val (.int len), .val (.int ls), .val (.ref b29), .val (.ref b40), .val (.double (OwnF.own_gain (Jvm.FP.Core.i2d twI) (Jvm.FP.Core.i2d avgI) f len)), .second, .val (.double (OwnF.own_gain (Jvm.FP.Core.i2d twI) (Jvm.FP.Core.i2d avgI) fS ls)), .second, .val (.double (OwnF.own_gain (Jvm.FP.Core.i2d twI) (Jvm.FP.Core.i2d avgI) (fS + (1 : Int32)) ls)), .second, .val (.double (OwnF.own_gain (Jvm.FP.Core.i2d twI) (Jvm.FP.Core.i2d avgI) (fS + (1 : Int32)) (ls + (1 : Int32)))), .second, .val (.double (OwnF.own_gain Jvm.FP.dconst1 (Jvm.FP.Core.i2d ai) (1 : Int32) ai)), .second, .val (.double (OwnF.own_gain (Jvm.FP.Core.i2d twI) (Jvm.FP.Core.i2d ai) f0 (0 : Int32))), .second, .val (.double (OwnF.own_gain (Jvm.FP.Core.i2d twI) (Jvm.FP.Core.i2d ai) ((4 : Int32) * f0) ai)), .second, .val (.double (Jvm.FP.Core.dmul (Jvm.FP.Core.i2d twI) (4612586738352862003 : UInt64))), .second, .val (.int (1 : Int32))]) rfl ?_
      show Steps p.tables e below (T74.setTop (mkF m 233 #[.val (.int p0), .val (.int p1), .val (.int p2), .val (.int p3), .val (.int p4), .val (.int avgI), .val (.int ai), .val (.double (Jvm.FP.Core.i2d avgI)), .second, .val (.double (Jvm.FP.Core.i2d twI)), .second, .val (.int f), .val (.int fS), .val (.int f0), .val (.int len), .val (.int ls), .val (.ref b29), .val (.ref b40), .val (.double (OwnF.own_gain (Jvm.FP.Core.i2d twI) (Jvm.FP.Core.i2d avgI) f len)), .second, .val (.double (OwnF.own_gain (Jvm.FP.Core.i2d twI) (Jvm.FP.Core.i2d avgI) fS ls)), .second, .val (.double (OwnF.own_gain (Jvm.FP.Core.i2d twI) (Jvm.FP.Core.i2d avgI) (fS + (1 : Int32)) ls)), .second, .val (.double (OwnF.own_gain (Jvm.FP.Core.i2d twI) (Jvm.FP.Core.i2d avgI) (fS + (1 : Int32)) (ls + (1 : Int32)))), .second, .val (.double (OwnF.own_gain Jvm.FP.dconst1 (Jvm.FP.Core.i2d ai) (1 : Int32) ai)), .second, .val (.double (OwnF.own_gain (Jvm.FP.Core.i2d twI) (Jvm.FP.Core.i2d ai) f0 (0 : Int32))), .second, .val (.double (OwnF.own_gain (Jvm.FP.Core.i2d twI) (Jvm.FP.Core.i2d ai) ((4 : Int32) * f0) ai)), .second, .val (.double (Jvm.FP.Core.dmul (Jvm.FP.Core.i2d twI) (4612586738352862003 : UInt64))), .second, .val (.int (1 : Int32))] [])) _
      refine XS.iload XH74.here hx rfl (hb hby at_233) rfl ?_
      show Steps p.tables e below (T74.setTop (mkF m 235 #[.val (.int p0), .val (.int p1), .val (.int p2), .val (.int p3), .val (.int p4), .val (.int avgI), .val (.int ai), .val (.double (Jvm.FP.Core.i2d avgI)), .second, .val (.double (Jvm.FP.Core.i2d twI)), .second, .val (.int f), .val (.int fS), .val (.int f0), .val (.int len), .val (.int ls), .val (.ref b29), .val (.ref b40), .val (.double (OwnF.own_gain (Jvm.FP.Core.i2d twI) (Jvm.FP.Core.i2d avgI) f len)), .second, .val (.double (OwnF.own_gain (Jvm.FP.Core.i2d twI) (Jvm.FP.Core.i2d avgI) fS ls)), .second, .val (.double (OwnF.own_gain (Jvm.FP.Core.i2d twI) (Jvm.FP.Core.i2d avgI) (fS + (1 : Int32)) ls)), .second, .val (.double (OwnF.own_gain (Jvm.FP.Core.i2d twI) (Jvm.FP.Core.i2d avgI) (fS + (1 : Int32)) (ls + (1 : Int32)))), .second, .val (.double (OwnF.own_gain Jvm.FP.dconst1 (Jvm.FP.Core.i2d ai) (1 : Int32) ai)), .second, .val (.double (OwnF.own_gain (Jvm.FP.Core.i2d twI) (Jvm.FP.Core.i2d ai) f0 (0 : Int32))), .second, .val (.double (OwnF.own_gain (Jvm.FP.Core.i2d twI) (Jvm.FP.Core.i2d ai) ((4 : Int32) * f0) ai)), .second, .val (.double (Jvm.FP.Core.dmul (Jvm.FP.Core.i2d twI) (4612586738352862003 : UInt64))), .second, .val (.int (1 : Int32))] [(.int (1 : Int32))])) _
      refine XS.ifNo XH74.here hx rfl (hb hby at_235) rfl ((if0 _ _).trans (feq (by decide : ¬ ((1 : Int32) = (0 : Int32)))).1) ?_
      show Steps p.tables e below (T74.setTop (mkF m 238 #[.val (.int p0), .val (.int p1), .val (.int p2), .val (.int p3), .val (.int p4), .val (.int avgI), .val (.int ai), .val (.double (Jvm.FP.Core.i2d avgI)), .second, .val (.double (Jvm.FP.Core.i2d twI)), .second, .val (.int f), .val (.int fS), .val (.int f0), .val (.int len), .val (.int ls), .val (.ref b29), .val (.ref b40), .val (.double (OwnF.own_gain (Jvm.FP.Core.i2d twI) (Jvm.FP.Core.i2d avgI) f len)), .second, .val (.double (OwnF.own_gain (Jvm.FP.Core.i2d twI) (Jvm.FP.Core.i2d avgI) fS ls)), .second, .val (.double (OwnF.own_gain (Jvm.FP.Core.i2d twI) (Jvm.FP.Core.i2d avgI) (fS + (1 : Int32)) ls)), .second, .val (.double (OwnF.own_gain (Jvm.FP.Core.i2d twI) (Jvm.FP.Core.i2d avgI) (fS + (1 : Int32)) (ls + (1 : Int32)))), .second, .val (.double (OwnF.own_gain Jvm.FP.dconst1 (Jvm.FP.Core.i2d ai) (1 : Int32) ai)), .second, .val (.double (OwnF.own_gain (Jvm.FP.Core.i2d twI) (Jvm.FP.Core.i2d ai) f0 (0 : Int32))), .second, .val (.double (OwnF.own_gain (Jvm.FP.Core.i2d twI) (Jvm.FP.Core.i2d ai) ((4 : Int32) * f0) ai)), .second, .val (.double (Jvm.FP.Core.dmul (Jvm.FP.Core.i2d twI) (4612586738352862003 : UInt64))), .second, .val (.int (1 : Int32))] [])) _
      refine XS.dload XH74.here hx rfl (hb hby at_238) rfl ?_
      show Steps p.tables e below (T74.setTop (mkF m 240 #[.val (.int p0), .val (.int p1), .val (.int p2), .val (.int p3), .val (.int p4), .val (.int avgI), .val (.int ai), .val (.double (Jvm.FP.Core.i2d avgI)), .second, .val (.double (Jvm.FP.Core.i2d twI)), .second, .val (.int f), .val (.int fS), .val (.int f0), .val (.int len), .val (.int ls), .val (.ref b29), .val (.ref b40), .val (.double (OwnF.own_gain (Jvm.FP.Core.i2d twI) (Jvm.FP.Core.i2d avgI) f len)), .second, .val (.double (OwnF.own_gain (Jvm.FP.Core.i2d twI) (Jvm.FP.Core.i2d avgI) fS ls)), .second, .val (.double (OwnF.own_gain (Jvm.FP.Core.i2d twI) (Jvm.FP.Core.i2d avgI) (fS + (1 : Int32)) ls)), .second, .val (.double (OwnF.own_gain (Jvm.FP.Core.i2d twI) (Jvm.FP.Core.i2d avgI) (fS + (1 : Int32)) (ls + (1 : Int32)))), .second, .val (.double (OwnF.own_gain Jvm.FP.dconst1 (Jvm.FP.Core.i2d ai) (1 : Int32) ai)), .second, .val (.double (OwnF.own_gain (Jvm.FP.Core.i2d twI) (Jvm.FP.Core.i2d ai) f0 (0 : Int32))), .second, .val (.double (OwnF.own_gain (Jvm.FP.Core.i2d twI) (Jvm.FP.Core.i2d ai) ((4 : Int32) * f0) ai)), .second, .val (.double (Jvm.FP.Core.dmul (Jvm.FP.Core.i2d twI) (4612586738352862003 : UInt64))), .second, .val (.int (1 : Int32))] [(.double (OwnF.own_gain (Jvm.FP.Core.i2d twI) (Jvm.FP.Core.i2d avgI) (fS + (1 : Int32)) ls))])) _
      refine XS.dload XH74.here hx rfl (hb hby at_240) rfl ?_
      show Steps p.tables e below (T74.setTop (mkF m 242 #[.val (.int p0), .val (.int p1), .val (.int p2), .val (.int p3), .val (.int p4), .val (.int avgI), .val (.int ai), .val (.double (Jvm.FP.Core.i2d avgI)), .second, .val (.double (Jvm.FP.Core.i2d twI)), .second, .val (.int f), .val (.int fS), .val (.int f0), .val (.int len), .val (.int ls), .val (.ref b29), .val (.ref b40), .val (.double (OwnF.own_gain (Jvm.FP.Core.i2d twI) (Jvm.FP.Core.i2d avgI) f len)), .second, .val (.double (OwnF.own_gain (Jvm.FP.Core.i2d twI) (Jvm.FP.Core.i2d avgI) fS ls)), .second, .val (.double (OwnF.own_gain (Jvm.FP.Core.i2d twI) (Jvm.FP.Core.i2d avgI) (fS + (1 : Int32)) ls)), .second, .val (.double (OwnF.own_gain (Jvm.FP.Core.i2d twI) (Jvm.FP.Core.i2d avgI) (fS + (1 : Int32)) (ls + (1 : Int32)))), .second, .val (.double (OwnF.own_gain Jvm.FP.dconst1 (Jvm.FP.Core.i2d ai) (1 : Int32) ai)), .second, .val (.double (OwnF.own_gain (Jvm.FP.Core.i2d twI) (Jvm.FP.Core.i2d ai) f0 (0 : Int32))), .second, .val (.double (OwnF.own_gain (Jvm.FP.Core.i2d twI) (Jvm.FP.Core.i2d ai) ((4 : Int32) * f0) ai)), .second, .val (.double (Jvm.FP.Core.dmul (Jvm.FP.Core.i2d twI) (4612586738352862003 : UInt64))), .second, .val (.int (1 : Int32))] [(.double (OwnF.own_gain (Jvm.FP.Core.i2d twI) (Jvm.FP.Core.i2d avgI) fS ls)), (.double (OwnF.own_gain (Jvm.FP.Core.i2d twI) (Jvm.FP.Core.i2d avgI) (fS + (1 : Int32)) ls))])) _
      refine XS.dcmpS XH74.here hx rfl (hb hby at_242) rfl rfl ?_
      show Steps p.tables e below (T74.setTop (mkF m 243 #[.val (.int p0), .val (.int p1), .val (.int p2), .val (.int p3), .val (.int p4), .val (.int avgI), .val (.int ai), .val (.double (Jvm.FP.Core.i2d avgI)), .second, .val (.double (Jvm.FP.Core.i2d twI)), .second, .val (.int f), .val (.int fS), .val (.int f0), .val (.int len), .val (.int ls), .val (.ref b29), .val (.ref b40), .val (.double (OwnF.own_gain (Jvm.FP.Core.i2d twI) (Jvm.FP.Core.i2d avgI) f len)), .second, .val (.double (OwnF.own_gain (Jvm.FP.Core.i2d twI) (Jvm.FP.Core.i2d avgI) fS ls)), .second, .val (.double (OwnF.own_gain (Jvm.FP.Core.i2d twI) (Jvm.FP.Core.i2d avgI) (fS + (1 : Int32)) ls)), .second, .val (.double (OwnF.own_gain (Jvm.FP.Core.i2d twI) (Jvm.FP.Core.i2d avgI) (fS + (1 : Int32)) (ls + (1 : Int32)))), .second, .val (.double (OwnF.own_gain Jvm.FP.dconst1 (Jvm.FP.Core.i2d ai) (1 : Int32) ai)), .second, .val (.double (OwnF.own_gain (Jvm.FP.Core.i2d twI) (Jvm.FP.Core.i2d ai) f0 (0 : Int32))), .second, .val (.double (OwnF.own_gain (Jvm.FP.Core.i2d twI) (Jvm.FP.Core.i2d ai) ((4 : Int32) * f0) ai)), .second, .val (.double (Jvm.FP.Core.dmul (Jvm.FP.Core.i2d twI) (4612586738352862003 : UInt64))), .second, .val (.int (1 : Int32))] [(.int (cmpValue (Jvm.FP.Core.dcmp (OwnF.own_gain (Jvm.FP.Core.i2d twI) (Jvm.FP.Core.i2d avgI) (fS + (1 : Int32)) ls) (OwnF.own_gain (Jvm.FP.Core.i2d twI) (Jvm.FP.Core.i2d avgI) fS ls)) .l))])) _
      refine XS.ifNo XH74.here hx rfl (hb hby at_243) rfl ((if0 _ _).trans (tlt (OwnF.own_cvG H2 _)).2.2.2) ?_
      show Steps p.tables e below (T74.setTop (mkF m 246 #[.val (.int p0), .val (.int p1), .val (.int p2), .val (.int p3), .val (.int p4), .val (.int avgI), .val (.int ai), .val (.double (Jvm.FP.Core.i2d avgI)), .second, .val (.double (Jvm.FP.Core.i2d twI)), .second, .val (.int f), .val (.int fS), .val (.int f0), .val (.int len), .val (.int ls), .val (.ref b29), .val (.ref b40), .val (.double (OwnF.own_gain (Jvm.FP.Core.i2d twI) (Jvm.FP.Core.i2d avgI) f len)), .second, .val (.double (OwnF.own_gain (Jvm.FP.Core.i2d twI) (Jvm.FP.Core.i2d avgI) fS ls)), .second, .val (.double (OwnF.own_gain (Jvm.FP.Core.i2d twI) (Jvm.FP.Core.i2d avgI) (fS + (1 : Int32)) ls)), .second, .val (.double (OwnF.own_gain (Jvm.FP.Core.i2d twI) (Jvm.FP.Core.i2d avgI) (fS + (1 : Int32)) (ls + (1 : Int32)))), .second, .val (.double (OwnF.own_gain Jvm.FP.dconst1 (Jvm.FP.Core.i2d ai) (1 : Int32) ai)), .second, .val (.double (OwnF.own_gain (Jvm.FP.Core.i2d twI) (Jvm.FP.Core.i2d ai) f0 (0 : Int32))), .second, .val (.double (OwnF.own_gain (Jvm.FP.Core.i2d twI) (Jvm.FP.Core.i2d ai) ((4 : Int32) * f0) ai)), .second, .val (.double (Jvm.FP.Core.dmul (Jvm.FP.Core.i2d twI) (4612586738352862003 : UInt64))), .second, .val (.int (1 : Int32))] [])) _
      refine XS.dload XH74.here hx rfl (hb hby at_246) rfl ?_
      show Steps p.tables e below (T74.setTop (mkF m 248 #[.val (.int p0), .val (.int p1), .val (.int p2), .val (.int p3), .val (.int p4), .val (.int avgI), .val (.int ai), .val (.double (Jvm.FP.Core.i2d avgI)), .second, .val (.double (Jvm.FP.Core.i2d twI)), .second, .val (.int f), .val (.int fS), .val (.int f0), .val (.int len), .val (.int ls), .val (.ref b29), .val (.ref b40), .val (.double (OwnF.own_gain (Jvm.FP.Core.i2d twI) (Jvm.FP.Core.i2d avgI) f len)), .second, .val (.double (OwnF.own_gain (Jvm.FP.Core.i2d twI) (Jvm.FP.Core.i2d avgI) fS ls)), .second, .val (.double (OwnF.own_gain (Jvm.FP.Core.i2d twI) (Jvm.FP.Core.i2d avgI) (fS + (1 : Int32)) ls)), .second, .val (.double (OwnF.own_gain (Jvm.FP.Core.i2d twI) (Jvm.FP.Core.i2d avgI) (fS + (1 : Int32)) (ls + (1 : Int32)))), .second, .val (.double (OwnF.own_gain Jvm.FP.dconst1 (Jvm.FP.Core.i2d ai) (1 : Int32) ai)), .second, .val (.double (OwnF.own_gain (Jvm.FP.Core.i2d twI) (Jvm.FP.Core.i2d ai) f0 (0 : Int32))), .second, .val (.double (OwnF.own_gain (Jvm.FP.Core.i2d twI) (Jvm.FP.Core.i2d ai) ((4 : Int32) * f0) ai)), .second, .val (.double (Jvm.FP.Core.dmul (Jvm.FP.Core.i2d twI) (4612586738352862003 : UInt64))), .second, .val (.int (1 : Int32))] [(.double (OwnF.own_gain (Jvm.FP.Core.i2d twI) (Jvm.FP.Core.i2d avgI) (fS + (1 : Int32)) (ls + (1 : Int32))))])) _
      refine XS.dload XH74.here hx rfl (hb hby at_248) rfl ?_
      show Steps p.tables e below (T74.setTop (mkF m 250 #[.val (.int p0), .val (.int p1), .val (.int p2), .val (.int p3), .val (.int p4), .val (.int avgI), .val (.int ai), .val (.double (Jvm.FP.Core.i2d avgI)), .second, .val (.double (Jvm.FP.Core.i2d twI)), .second, .val (.int f), .val (.int fS), .val (.int f0), .val (.int len), .val (.int ls), .val (.ref b29), .val (.ref b40), .val (.double (OwnF.own_gain (Jvm.FP.Core.i2d twI) (Jvm.FP.Core.i2d avgI) f len)), .second, .val (.double (OwnF.own_gain (Jvm.FP.Core.i2d twI) (Jvm.FP.Core.i2d avgI) fS ls)), .second, .val (.double (OwnF.own_gain (Jvm.FP.Core.i2d twI) (Jvm.FP.Core.i2d avgI) (fS + (1 : Int32)) ls)), .second, .val (.double (OwnF.own_gain (Jvm.FP.Core.i2d twI) (Jvm.FP.Core.i2d avgI) (fS + (1 : Int32)) (ls + (1 : Int32)))), .second, .val (.double (OwnF.own_gain Jvm.FP.dconst1 (Jvm.FP.Core.i2d ai) (1 : Int32) ai)), .second, .val (.double (OwnF.own_gain (Jvm.FP.Core.i2d twI) (Jvm.FP.Core.i2d ai) f0 (0 : Int32))), .second, .val (.double (OwnF.own_gain (Jvm.FP.Core.i2d twI) (Jvm.FP.Core.i2d ai) ((4 : Int32) * f0) ai)), .second, .val (.double (Jvm.FP.Core.dmul (Jvm.FP.Core.i2d twI) (4612586738352862003 : UInt64))), .second, .val (.int (1 : Int32))] [(.double (OwnF.own_gain (Jvm.FP.Core.i2d twI) (Jvm.FP.Core.i2d avgI) (fS + (1 : Int32)) ls)), (.double (OwnF.own_gain (Jvm.FP.Core.i2d twI) (Jvm.FP.Core.i2d avgI) (fS + (1 : Int32)) (ls + (1 : Int32))))])) _
      refine XS.dcmpS XH74.here hx rfl (hb hby at_250) rfl rfl ?_
      show Steps p.tables e below (T74.setTop (mkF m 251 #[.val (.int p0), .val (.int p1), .val (.int p2), .val (.int p3), .val (.int p4), .val (.int avgI), .val (.int ai), .val (.double (Jvm.FP.Core.i2d avgI)), .second, .val (.double (Jvm.FP.Core.i2d twI)), .second, .val (.int f), .val (.int fS), .val (.int f0), .val (.int len), .val (.int ls), .val (.ref b29), .val (.ref b40), .val (.double (OwnF.own_gain (Jvm.FP.Core.i2d twI) (Jvm.FP.Core.i2d avgI) f len)), .second, .val (.double (OwnF.own_gain (Jvm.FP.Core.i2d twI) (Jvm.FP.Core.i2d avgI) fS ls)), .second, .val (.double (OwnF.own_gain (Jvm.FP.Core.i2d twI) (Jvm.FP.Core.i2d avgI) (fS + (1 : Int32)) ls)), .second, .val (.double (OwnF.own_gain (Jvm.FP.Core.i2d twI) (Jvm.FP.Core.i2d avgI) (fS + (1 : Int32)) (ls + (1 : Int32)))), .second, .val (.double (OwnF.own_gain Jvm.FP.dconst1 (Jvm.FP.Core.i2d ai) (1 : Int32) ai)), .second, .val (.double (OwnF.own_gain (Jvm.FP.Core.i2d twI) (Jvm.FP.Core.i2d ai) f0 (0 : Int32))), .second, .val (.double (OwnF.own_gain (Jvm.FP.Core.i2d twI) (Jvm.FP.Core.i2d ai) ((4 : Int32) * f0) ai)), .second, .val (.double (Jvm.FP.Core.dmul (Jvm.FP.Core.i2d twI) (4612586738352862003 : UInt64))), .second, .val (.int (1 : Int32))] [(.int (cmpValue (Jvm.FP.Core.dcmp (OwnF.own_gain (Jvm.FP.Core.i2d twI) (Jvm.FP.Core.i2d avgI) (fS + (1 : Int32)) (ls + (1 : Int32))) (OwnF.own_gain (Jvm.FP.Core.i2d twI) (Jvm.FP.Core.i2d avgI) (fS + (1 : Int32)) ls)) .g))])) _
      refine XS.ifNo XH74.here hx rfl (hb hby at_251) rfl ((if0 _ _).trans (tlt (OwnF.own_cvL H3 _)).2.1) ?_
      show Steps p.tables e below (T74.setTop (mkF m 254 #[.val (.int p0), .val (.int p1), .val (.int p2), .val (.int p3), .val (.int p4), .val (.int avgI), .val (.int ai), .val (.double (Jvm.FP.Core.i2d avgI)), .second, .val (.double (Jvm.FP.Core.i2d twI)), .second, .val (.int f), .val (.int fS), .val (.int f0), .val (.int len), .val (.int ls), .val (.ref b29), .val (.ref b40), .val (.double (OwnF.own_gain (Jvm.FP.Core.i2d twI) (Jvm.FP.Core.i2d avgI) f len)), .second, .val (.double (OwnF.own_gain (Jvm.FP.Core.i2d twI) (Jvm.FP.Core.i2d avgI) fS ls)), .second, .val (.double (OwnF.own_gain (Jvm.FP.Core.i2d twI) (Jvm.FP.Core.i2d avgI) (fS + (1 : Int32)) ls)), .second, .val (.double (OwnF.own_gain (Jvm.FP.Core.i2d twI) (Jvm.FP.Core.i2d avgI) (fS + (1 : Int32)) (ls + (1 : Int32)))), .second, .val (.double (OwnF.own_gain Jvm.FP.dconst1 (Jvm.FP.Core.i2d ai) (1 : Int32) ai)), .second, .val (.double (OwnF.own_gain (Jvm.FP.Core.i2d twI) (Jvm.FP.Core.i2d ai) f0 (0 : Int32))), .second, .val (.double (OwnF.own_gain (Jvm.FP.Core.i2d twI) (Jvm.FP.Core.i2d ai) ((4 : Int32) * f0) ai)), .second, .val (.double (Jvm.FP.Core.dmul (Jvm.FP.Core.i2d twI) (4612586738352862003 : UInt64))), .second, .val (.int (1 : Int32))] [])) _
      refine XS.dload XH74.here hx rfl (hb hby at_254) rfl ?_
      show Steps p.tables e below (T74.setTop (mkF m 256 #[.val (.int p0), .val (.int p1), .val (.int p2), .val (.int p3), .val (.int p4), .val (.int avgI), .val (.int ai), .val (.double (Jvm.FP.Core.i2d avgI)), .second, .val (.double (Jvm.FP.Core.i2d twI)), .second, .val (.int f), .val (.int fS), .val (.int f0), .val (.int len), .val (.int ls), .val (.ref b29), .val (.ref b40), .val (.double (OwnF.own_gain (Jvm.FP.Core.i2d twI) (Jvm.FP.Core.i2d avgI) f len)), .second, .val (.double (OwnF.own_gain (Jvm.FP.Core.i2d twI) (Jvm.FP.Core.i2d avgI) fS ls)), .second, .val (.double (OwnF.own_gain (Jvm.FP.Core.i2d twI) (Jvm.FP.Core.i2d avgI) (fS + (1 : Int32)) ls)), .second, .val (.double (OwnF.own_gain (Jvm.FP.Core.i2d twI) (Jvm.FP.Core.i2d avgI) (fS + (1 : Int32)) (ls + (1 : Int32)))), .second, .val (.double (OwnF.own_gain Jvm.FP.dconst1 (Jvm.FP.Core.i2d ai) (1 : Int32) ai)), .second, .val (.double (OwnF.own_gain (Jvm.FP.Core.i2d twI) (Jvm.FP.Core.i2d ai) f0 (0 : Int32))), .second, .val (.double (OwnF.own_gain (Jvm.FP.Core.i2d twI) (Jvm.FP.Core.i2d ai) ((4 : Int32) * f0) ai)), .second, .val (.double (Jvm.FP.Core.dmul (Jvm.FP.Core.i2d twI) (4612586738352862003 : UInt64))), .second, .val (.int (1 : Int32))] [(.double (OwnF.own_gain Jvm.FP.dconst1 (Jvm.FP.Core.i2d ai) (1 : Int32) ai))])) _
      refine XS.dconst1 XH74.here hx rfl (hb hby at_256) rfl ?_
      show Steps p.tables e below (T74.setTop (mkF m 257 #[.val (.int p0), .val (.int p1), .val (.int p2), .val (.int p3), .val (.int p4), .val (.int avgI), .val (.int ai), .val (.double (Jvm.FP.Core.i2d avgI)), .second, .val (.double (Jvm.FP.Core.i2d twI)), .second, .val (.int f), .val (.int fS), .val (.int f0), .val (.int len), .val (.int ls), .val (.ref b29), .val (.ref b40), .val (.double (OwnF.own_gain (Jvm.FP.Core.i2d twI) (Jvm.FP.Core.i2d avgI) f len)), .second, .val (.double (OwnF.own_gain (Jvm.FP.Core.i2d twI) (Jvm.FP.Core.i2d avgI) fS ls)), .second, .val (.double (OwnF.own_gain (Jvm.FP.Core.i2d twI) (Jvm.FP.Core.i2d avgI) (fS + (1 : Int32)) ls)), .second, .val (.double (OwnF.own_gain (Jvm.FP.Core.i2d twI) (Jvm.FP.Core.i2d avgI) (fS + (1 : Int32)) (ls + (1 : Int32)))), .second, .val (.double (OwnF.own_gain Jvm.FP.dconst1 (Jvm.FP.Core.i2d ai) (1 : Int32) ai)), .second, .val (.double (OwnF.own_gain (Jvm.FP.Core.i2d twI) (Jvm.FP.Core.i2d ai) f0 (0 : Int32))), .second, .val (.double (OwnF.own_gain (Jvm.FP.Core.i2d twI) (Jvm.FP.Core.i2d ai) ((4 : Int32) * f0) ai)), .second, .val (.double (Jvm.FP.Core.dmul (Jvm.FP.Core.i2d twI) (4612586738352862003 : UInt64))), .second, .val (.int (1 : Int32))] [(.double Jvm.FP.dconst1), (.double (OwnF.own_gain Jvm.FP.dconst1 (Jvm.FP.Core.i2d ai) (1 : Int32) ai))])) _
      refine XS.dcmpS XH74.here hx rfl (hb hby at_257) rfl rfl ?_
      show Steps p.tables e below (T74.setTop (mkF m 258 #[.val (.int p0), .val (.int p1), .val (.int p2), .val (.int p3), .val (.int p4), .val (.int avgI), .val (.int ai), .val (.double (Jvm.FP.Core.i2d avgI)), .second, .val (.double (Jvm.FP.Core.i2d twI)), .second, .val (.int f), .val (.int fS), .val (.int f0), .val (.int len), .val (.int ls), .val (.ref b29), .val (.ref b40), .val (.double (OwnF.own_gain (Jvm.FP.Core.i2d twI) (Jvm.FP.Core.i2d avgI) f len)), .second, .val (.double (OwnF.own_gain (Jvm.FP.Core.i2d twI) (Jvm.FP.Core.i2d avgI) fS ls)), .second, .val (.double (OwnF.own_gain (Jvm.FP.Core.i2d twI) (Jvm.FP.Core.i2d avgI) (fS + (1 : Int32)) ls)), .second, .val (.double (OwnF.own_gain (Jvm.FP.Core.i2d twI) (Jvm.FP.Core.i2d avgI) (fS + (1 : Int32)) (ls + (1 : Int32)))), .second, .val (.double (OwnF.own_gain Jvm.FP.dconst1 (Jvm.FP.Core.i2d ai) (1 : Int32) ai)), .second, .val (.double (OwnF.own_gain (Jvm.FP.Core.i2d twI) (Jvm.FP.Core.i2d ai) f0 (0 : Int32))), .second, .val (.double (OwnF.own_gain (Jvm.FP.Core.i2d twI) (Jvm.FP.Core.i2d ai) ((4 : Int32) * f0) ai)), .second, .val (.double (Jvm.FP.Core.dmul (Jvm.FP.Core.i2d twI) (4612586738352862003 : UInt64))), .second, .val (.int (1 : Int32))] [(.int (cmpValue (Jvm.FP.Core.dcmp (OwnF.own_gain Jvm.FP.dconst1 (Jvm.FP.Core.i2d ai) (1 : Int32) ai) Jvm.FP.dconst1) .l))])) _
      refine XS.ifNo XH74.here hx rfl (hb hby at_258) rfl ((if0 _ _).trans (teq (OwnF.own_cvE H4 _)).2) ?_
      show Steps p.tables e below (T74.setTop (mkF m 261 #[.val (.int p0), .val (.int p1), .val (.int p2), .val (.int p3), .val (.int p4), .val (.int avgI), .val (.int ai), .val (.double (Jvm.FP.Core.i2d avgI)), .second, .val (.double (Jvm.FP.Core.i2d twI)), .second, .val (.int f), .val (.int fS), .val (.int f0), .val (.int len), .val (.int ls), .val (.ref b29), .val (.ref b40), .val (.double (OwnF.own_gain (Jvm.FP.Core.i2d twI) (Jvm.FP.Core.i2d avgI) f len)), .second, .val (.double (OwnF.own_gain (Jvm.FP.Core.i2d twI) (Jvm.FP.Core.i2d avgI) fS ls)), .second, .val (.double (OwnF.own_gain (Jvm.FP.Core.i2d twI) (Jvm.FP.Core.i2d avgI) (fS + (1 : Int32)) ls)), .second, .val (.double (OwnF.own_gain (Jvm.FP.Core.i2d twI) (Jvm.FP.Core.i2d avgI) (fS + (1 : Int32)) (ls + (1 : Int32)))), .second, .val (.double (OwnF.own_gain Jvm.FP.dconst1 (Jvm.FP.Core.i2d ai) (1 : Int32) ai)), .second, .val (.double (OwnF.own_gain (Jvm.FP.Core.i2d twI) (Jvm.FP.Core.i2d ai) f0 (0 : Int32))), .second, .val (.double (OwnF.own_gain (Jvm.FP.Core.i2d twI) (Jvm.FP.Core.i2d ai) ((4 : Int32) * f0) ai)), .second, .val (.double (Jvm.FP.Core.dmul (Jvm.FP.Core.i2d twI) (4612586738352862003 : UInt64))), .second, .val (.int (1 : Int32))] [])) _
      refine XS.dload XH74.here hx rfl (hb hby at_261) rfl ?_
      show Steps p.tables e below (T74.setTop (mkF m 263 #[.val (.int p0), .val (.int p1), .val (.int p2), .val (.int p3), .val (.int p4), .val (.int avgI), .val (.int ai), .val (.double (Jvm.FP.Core.i2d avgI)), .second, .val (.double (Jvm.FP.Core.i2d twI)), .second, .val (.int f), .val (.int fS), .val (.int f0), .val (.int len), .val (.int ls), .val (.ref b29), .val (.ref b40), .val (.double (OwnF.own_gain (Jvm.FP.Core.i2d twI) (Jvm.FP.Core.i2d avgI) f len)), .second, .val (.double (OwnF.own_gain (Jvm.FP.Core.i2d twI) (Jvm.FP.Core.i2d avgI) fS ls)), .second, .val (.double (OwnF.own_gain (Jvm.FP.Core.i2d twI) (Jvm.FP.Core.i2d avgI) (fS + (1 : Int32)) ls)), .second, .val (.double (OwnF.own_gain (Jvm.FP.Core.i2d twI) (Jvm.FP.Core.i2d avgI) (fS + (1 : Int32)) (ls + (1 : Int32)))), .second, .val (.double (OwnF.own_gain Jvm.FP.dconst1 (Jvm.FP.Core.i2d ai) (1 : Int32) ai)), .second, .val (.double (OwnF.own_gain (Jvm.FP.Core.i2d twI) (Jvm.FP.Core.i2d ai) f0 (0 : Int32))), .second, .val (.double (OwnF.own_gain (Jvm.FP.Core.i2d twI) (Jvm.FP.Core.i2d ai) ((4 : Int32) * f0) ai)), .second, .val (.double (Jvm.FP.Core.dmul (Jvm.FP.Core.i2d twI) (4612586738352862003 : UInt64))), .second, .val (.int (1 : Int32))] [(.double (OwnF.own_gain (Jvm.FP.Core.i2d twI) (Jvm.FP.Core.i2d ai) f0 (0 : Int32)))])) _
      refine XS.dload XH74.here hx rfl (hb hby at_263) rfl ?_
      show Steps p.tables e below (T74.setTop (mkF m 265 #[.val (.int p0), .val (.int p1), .val (.int p2), .val (.int p3), .val (.int p4), .val (.int avgI), .val (.int ai), .val (.double (Jvm.FP.Core.i2d avgI)), .second, .val (.double (Jvm.FP.Core.i2d twI)), .second, .val (.int f), .val (.int fS), .val (.int f0), .val (.int len), .val (.int ls), .val (.ref b29), .val (.ref b40), .val (.double (OwnF.own_gain (Jvm.FP.Core.i2d twI) (Jvm.FP.Core.i2d avgI) f len)), .second, .val (.double (OwnF.own_gain (Jvm.FP.Core.i2d twI) (Jvm.FP.Core.i2d avgI) fS ls)), .second, .val (.double (OwnF.own_gain (Jvm.FP.Core.i2d twI) (Jvm.FP.Core.i2d avgI) (fS + (1 : Int32)) ls)), .second, .val (.double (OwnF.own_gain (Jvm.FP.Core.i2d twI) (Jvm.FP.Core.i2d avgI) (fS + (1 : Int32)) (ls + (1 : Int32)))), .second, .val (.double (OwnF.own_gain Jvm.FP.dconst1 (Jvm.FP.Core.i2d ai) (1 : Int32) ai)), .second, .val (.double (OwnF.own_gain (Jvm.FP.Core.i2d twI) (Jvm.FP.Core.i2d ai) f0 (0 : Int32))), .second, .val (.double (OwnF.own_gain (Jvm.FP.Core.i2d twI) (Jvm.FP.Core.i2d ai) ((4 : Int32) * f0) ai)), .second, .val (.double (Jvm.FP.Core.dmul (Jvm.FP.Core.i2d twI) (4612586738352862003 : UInt64))), .second, .val (.int (1 : Int32))] [(.double (OwnF.own_gain (Jvm.FP.Core.i2d twI) (Jvm.FP.Core.i2d ai) ((4 : Int32) * f0) ai)), (.double (OwnF.own_gain (Jvm.FP.Core.i2d twI) (Jvm.FP.Core.i2d ai) f0 (0 : Int32)))])) _
      refine XS.dcmpS XH74.here hx rfl (hb hby at_265) rfl rfl ?_
      show Steps p.tables e below (T74.setTop (mkF m 266 #[.val (.int p0), .val (.int p1), .val (.int p2), .val (.int p3), .val (.int p4), .val (.int avgI), .val (.int ai), .val (.double (Jvm.FP.Core.i2d avgI)), .second, .val (.double (Jvm.FP.Core.i2d twI)), .second, .val (.int f), .val (.int fS), .val (.int f0), .val (.int len), .val (.int ls), .val (.ref b29), .val (.ref b40), .val (.double (OwnF.own_gain (Jvm.FP.Core.i2d twI) (Jvm.FP.Core.i2d avgI) f len)), .second, .val (.double (OwnF.own_gain (Jvm.FP.Core.i2d twI) (Jvm.FP.Core.i2d avgI) fS ls)), .second, .val (.double (OwnF.own_gain (Jvm.FP.Core.i2d twI) (Jvm.FP.Core.i2d avgI) (fS + (1 : Int32)) ls)), .second, .val (.double (OwnF.own_gain (Jvm.FP.Core.i2d twI) (Jvm.FP.Core.i2d avgI) (fS + (1 : Int32)) (ls + (1 : Int32)))), .second, .val (.double (OwnF.own_gain Jvm.FP.dconst1 (Jvm.FP.Core.i2d ai) (1 : Int32) ai)), .second, .val (.double (OwnF.own_gain (Jvm.FP.Core.i2d twI) (Jvm.FP.Core.i2d ai) f0 (0 : Int32))), .second, .val (.double (OwnF.own_gain (Jvm.FP.Core.i2d twI) (Jvm.FP.Core.i2d ai) ((4 : Int32) * f0) ai)), .second, .val (.double (Jvm.FP.Core.dmul (Jvm.FP.Core.i2d twI) (4612586738352862003 : UInt64))), .second, .val (.int (1 : Int32))] [(.int (cmpValue (Jvm.FP.Core.dcmp (OwnF.own_gain (Jvm.FP.Core.i2d twI) (Jvm.FP.Core.i2d ai) f0 (0 : Int32)) (OwnF.own_gain (Jvm.FP.Core.i2d twI) (Jvm.FP.Core.i2d ai) ((4 : Int32) * f0) ai)) .l))])) _
      refine XS.ifNo XH74.here hx rfl (hb hby at_266) rfl ((if0 _ _).trans (teq (OwnF.own_cvE H5 _)).2) ?_
      show Steps p.tables e below (T74.setTop (mkF m 269 #[.val (.int p0), .val (.int p1), .val (.int p2), .val (.int p3), .val (.int p4), .val (.int avgI), .val (.int ai), .val (.double (Jvm.FP.Core.i2d avgI)), .second, .val (.double (Jvm.FP.Core.i2d twI)), .second, .val (.int f), .val (.int fS), .val (.int f0), .val (.int len), .val (.int ls), .val (.ref b29), .val (.ref b40), .val (.double (OwnF.own_gain (Jvm.FP.Core.i2d twI) (Jvm.FP.Core.i2d avgI) f len)), .second, .val (.double (OwnF.own_gain (Jvm.FP.Core.i2d twI) (Jvm.FP.Core.i2d avgI) fS ls)), .second, .val (.double (OwnF.own_gain (Jvm.FP.Core.i2d twI) (Jvm.FP.Core.i2d avgI) (fS + (1 : Int32)) ls)), .second, .val (.double (OwnF.own_gain (Jvm.FP.Core.i2d twI) (Jvm.FP.Core.i2d avgI) (fS + (1 : Int32)) (ls + (1 : Int32)))), .second, .val (.double (OwnF.own_gain Jvm.FP.dconst1 (Jvm.FP.Core.i2d ai) (1 : Int32) ai)), .second, .val (.double (OwnF.own_gain (Jvm.FP.Core.i2d twI) (Jvm.FP.Core.i2d ai) f0 (0 : Int32))), .second, .val (.double (OwnF.own_gain (Jvm.FP.Core.i2d twI) (Jvm.FP.Core.i2d ai) ((4 : Int32) * f0) ai)), .second, .val (.double (Jvm.FP.Core.dmul (Jvm.FP.Core.i2d twI) (4612586738352862003 : UInt64))), .second, .val (.int (1 : Int32))] [])) _
      refine XS.iconst XH74.here hx rfl (hb hby at_269) ?_
      show Steps p.tables e below (T74.setTop (mkF m 270 #[.val (.int p0), .val (.int p1), .val (.int p2), .val (.int p3), .val (.int p4), .val (.int avgI), .val (.int ai), .val (.double (Jvm.FP.Core.i2d avgI)), .second, .val (.double (Jvm.FP.Core.i2d twI)), .second, .val (.int f), .val (.int fS), .val (.int f0), .val (.int len), .val (.int ls), .val (.ref b29), .val (.ref b40), .val (.double (OwnF.own_gain (Jvm.FP.Core.i2d twI) (Jvm.FP.Core.i2d avgI) f len)), .second, .val (.double (OwnF.own_gain (Jvm.FP.Core.i2d twI) (Jvm.FP.Core.i2d avgI) fS ls)), .second, .val (.double (OwnF.own_gain (Jvm.FP.Core.i2d twI) (Jvm.FP.Core.i2d avgI) (fS + (1 : Int32)) ls)), .second, .val (.double (OwnF.own_gain (Jvm.FP.Core.i2d twI) (Jvm.FP.Core.i2d avgI) (fS + (1 : Int32)) (ls + (1 : Int32)))), .second, .val (.double (OwnF.own_gain Jvm.FP.dconst1 (Jvm.FP.Core.i2d ai) (1 : Int32) ai)), .second, .val (.double (OwnF.own_gain (Jvm.FP.Core.i2d twI) (Jvm.FP.Core.i2d ai) f0 (0 : Int32))), .second, .val (.double (OwnF.own_gain (Jvm.FP.Core.i2d twI) (Jvm.FP.Core.i2d ai) ((4 : Int32) * f0) ai)), .second, .val (.double (Jvm.FP.Core.dmul (Jvm.FP.Core.i2d twI) (4612586738352862003 : UInt64))), .second, .val (.int (1 : Int32))] [(.int (1 : Int32))])) _
      refine XS.goto XH74.here hx rfl (pc0 := 270) (pc' := 274) rfl (hb hby at_270) (by decide) (by decide) ?_
      exact k)
    obtain ⟨fs, hr, hrun, hended, hW, hsame⟩ := XH74.leave (v := some (.int (1 : Int32))) (fun h => by rw [Bd.returns] at h; cases h)
    refine ⟨_, _, k80 _ ?_, hrun, hended, _, _, rfl, ?_, ⟨_, rfl⟩, hW, hsame.mono (by decide) (by decide)⟩
    · show Steps p.tables e below (T74.setTop (mkF m 274 #[.val (.int p0), .val (.int p1), .val (.int p2), .val (.int p3), .val (.int p4), .val (.int avgI), .val (.int ai), .val (.double (Jvm.FP.Core.i2d avgI)), .second, .val (.double (Jvm.FP.Core.i2d twI)), .second, .val (.int f), .val (.int fS), .val (.int f0), .val (.int len), .val (.int ls), .val (.ref b29), .val (.ref b40), .val (.double (OwnF.own_gain (Jvm.FP.Core.i2d twI) (Jvm.FP.Core.i2d avgI) f len)), .second, .val (.double (OwnF.own_gain (Jvm.FP.Core.i2d twI) (Jvm.FP.Core.i2d avgI) fS ls)), .second, .val (.double (OwnF.own_gain (Jvm.FP.Core.i2d twI) (Jvm.FP.Core.i2d avgI) (fS + (1 : Int32)) ls)), .second, .val (.double (OwnF.own_gain (Jvm.FP.Core.i2d twI) (Jvm.FP.Core.i2d avgI) (fS + (1 : Int32)) (ls + (1 : Int32)))), .second, .val (.double (OwnF.own_gain Jvm.FP.dconst1 (Jvm.FP.Core.i2d ai) (1 : Int32) ai)), .second, .val (.double (OwnF.own_gain (Jvm.FP.Core.i2d twI) (Jvm.FP.Core.i2d ai) f0 (0 : Int32))), .second, .val (.double (OwnF.own_gain (Jvm.FP.Core.i2d twI) (Jvm.FP.Core.i2d ai) ((4 : Int32) * f0) ai)), .second, .val (.double (Jvm.FP.Core.dmul (Jvm.FP.Core.i2d twI) (4612586738352862003 : UInt64))), .second, .val (.int (1 : Int32))] [(.int (1 : Int32))])) _
      exact retN XH74 hx (t := .boolean) Bd.returns (by simp) (hb hby at_274) hr
    · show Q0 Z p0 p1 p2 p3 p4 h0 n0 _ T74.heap _
      rw [eq74]
      exact ⟨rfl, NH74⟩
set_option maxRecDepth 65536 in
set_option maxHeartbeats 40000000 in
theorem comes_1 {Post : Tables → Env → Array Value → State → Outcome → State → Prop} (hpost : ∀ tb e args s v u, (limb_1_1.after args s (.returned v) u = true ∧ limb_1_2.after args s (.returned v) u = true ∧ True) → FrameEnd s (.returned v) u (Jvm.fieldLocs frame_1_writes args s ++ Jvm.arrayLocs frame_1_arrays args s ++ Jvm.staticLocs frame_1_statics s) 16 128 → Post tb e args s (.returned v) u) :
    ArmFor flags0 classFile x code maxLocals ret World_1 tables_1 room_1 Calls_1 rest_1 Pre_1 Post := by
  intro l hfl _ _ p e ha hc hk s m args below hf hA hF happ hP
  obtain ⟨hcalls, hrest, hpre⟩ := hP
  obtain ⟨-, -, -, hnamed, -, -, -, hat⟩ := (Spec.applies_iff hf).mp happ
  obtain ⟨hg, hn⟩ := and_e (Cond.before_iff.mp (show (Jvm.Cond.and given_1 narrow_1).before args s = true from hpre))
  obtain ⟨g1, g2⟩ := and_e hg
  obtain ⟨g3, g4⟩ := and_e g2
  obtain ⟨g5, g6⟩ := and_e g4
  obtain ⟨g7, g8⟩ := and_e g6
  obtain ⟨g9, g10⟩ := and_e g8
  obtain ⟨w0, w1, w2, w3, w4, rfl⟩ : ∃ w0 w1 w2 w3 w4 : Value, args = #[w0, w1, w2, w3, w4] := by
    have hs : args.size = 5 := by simpa [Cond.value, given_1] using g1
    obtain ⟨L⟩ := args
    match L, hs with
    | [w0, w1, w2, w3, w4], _ => exact ⟨w0, w1, w2, w3, w4, rfl⟩
  have hw := fun d (hd : d ∈ tables_1) => atoms_spec (ws := Jvm.Cond.code x code maxLocals ret :: tables_1) hat d (List.mem_cons_of_mem _ hd)
  have hfit : Fit s := fun {y c} hc i hi => by
    obtain ⟨ha, rfl⟩ := Array.getElem?_eq_some_iff.mp hc
    have q := List.all_eq_true.mp ((Array.all_eq_true_iff_forall_mem.mp hF) _ (Array.getElem_mem ha)) i (List.mem_range.mpr hi)
    simpa [Array.getElem?_eq_getElem hi] using q
  obtain ⟨i0, ei0⟩ := is_v g3
  obtain rfl : w0 = (.int i0) := Option.some.inj ei0
  obtain ⟨i1, ei1⟩ := is_v g5
  obtain rfl : w1 = (.int i1) := Option.some.inj ei1
  obtain ⟨i2, ei2⟩ := is_v g7
  obtain rfl : w2 = (.int i2) := Option.some.inj ei2
  obtain ⟨i3, ei3⟩ := is_v g9
  obtain rfl : w3 = (.int i3) := Option.some.inj ei3
  obtain ⟨i4, ei4⟩ := is_v g10
  obtain rfl : w4 = (.int i4) := Option.some.inj ei4
  obtain ⟨n, o, h1, h2, h3, _, L, rfl, ⟨rfl, N⟩, hq⟩ := rm0 l s _ hw tables_1 i0 i1 i2 i3 i4 s.heap s.heap.size (Nat.le_refl _)  p e ha hc hk s m _ below hf ((Spec.applies_iff_loose hf).mp happ).1 ⟨rfl, State.Warmed39.refl s, rfl⟩ trivial
  refine ⟨n, _, h1, h2, h3, hpost _ _ _ _ _ _ ⟨Cond.after_iff.mpr rfl, Cond.after_iff.mpr (eq_i res_at (Term.int_eval (1)) rfl), trivial⟩ ⟨hq.1, hq.2.1, (hq.2.2.sift fun y hy => Or.inr (N y hy)).mono (by decide) (by decide)⟩⟩
theorem main_1_1 : Claimed_1_1 := comes_1 fun _ _ _ _ _ _ h hF => ⟨h.1, hF⟩
theorem main_1_2 : Claimed_1_2 := comes_1 fun _ _ _ _ _ _ h hF => ⟨h.2.1, hF⟩
end Jvm.Pilot.@@N@@
namespace Jvm.Pilot.@@N@@
open Jvm Jvm.ClassFile Sem Op Lib Jvm.Free Jvm.Stand Jvm.Pilot.@@N@@.Jvm.D
/-! MADE BY PROGRAM (witnessworld.py) out of the Statement's table words and the real class files: 9 classes; the members and pool entries that the words name. The judged class is class 1, her method 1. -/
namespace start1
open Jvm.ClassFile
def u (s : String) : CpInfo := .utf8 (stringToUtf16 s)
/-- a pool by its gaps: so many unusable entries, then the entry; so many at the end -/
def gap : Nat → List CpInfo → List CpInfo
  | 0, r => r
  | n + 1, r => .unusable :: gap n r
def poolList (es : List (Nat × CpInfo)) (last : Nat) : List CpInfo := es.foldr (fun e r => gap e.1 (e.2 :: r)) (gap last [])
def pool (es : List (Nat × CpInfo)) (last : Nat) : Array CpInfo := ⟨poolList es last⟩
def fileOf (pool : Array CpInfo) (this : Nat) (attrs : Array Attribute := #[]) (ms : Array MethodInfo := #[]) (fl : Nat := 33) (sup : Nat := 0) (ifs : Array Nat := #[]) (fds : Array FieldInfo := #[]) : ClassFile where
  minorVersion := 0
  majorVersion := 65
  constantPool := pool
  accessFlags := fl
  thisClass := this
  superClass := sup
  interfaces := ifs
  fields := fds
  methods := ms
  attributes := attrs
def plain (name : String) (sup : Option ClassId) : Class where
  name := name
  kind := .ordinary
  loader := none
  accessFlags := 33
  super := sup
  interfaces := #[]
  cf := none
  fields := #[]
  methods := #[]
  instanceTypes := #[]
  staticTypes := #[]
  resolved := #[]
  callSites := []
  init := .initialized
  statics := none
  mirror := none

def pool0 : Array CpInfo := pool [(5, u "<init>"), (0, u "()V"), (1, .class_ 10), (1, u "java/lang/Object")] 113

def k0c0 : Code := { maxStack := 0, maxLocals := 1, code := object_method_1_code, exceptionTable := #[], attributes := #[] }
def k0m0 : Method := { name := "<init>", desc := "()V", sig := { parameters := [], returnType := none }, accessFlags := 1, code := some k0c0 }
/-- java/lang/Object -/
def k0 : Class := { plain "java/lang/Object" none with
  accessFlags := 33
  interfaces := #[]
  cf := some (fileOf pool0 8 #[] #[{ accessFlags := 1, nameIndex := 5, descriptorIndex := 6, attributes := #[] }] 33 0 #[] #[])
  fields := #[]
  methods := #[k0m0]
  instanceTypes := #[]
  staticTypes := #[]
  resolved := Array.replicate 124 none
  statics := none }

def pool1 : Array CpInfo := pool [(2, .class_ 4), (1, u "java/lang/Object"), (0, u "<init>"), (0, u "()V"), (0, .integer 65535), (0, .integer 1073741823), (0, .integer 1048575), (0, .integer 2147483647), (0, .integer 536870911), (0, .class_ 13), (0, u "com/example/wegweiser/wegweiser/search/Bm25"), (0, .methodref 12 15), (0, .nameAndType 5 16), (0, u "(ID)V"), (0, .methodref 12 18), (0, .nameAndType 19 20), (0, u "gain"), (0, u "(DII)D"), (0, .double 4612586738352862003), (1, .class_ 24), (0, u "com/example/wegweiser/wegweiser/search/Bm25GainPinLaw"), (2, u "law"), (0, u "(IIIII)Z")] 3

def k1m0 : Method := { name := "<init>", desc := "()V", sig := { parameters := [], returnType := none }, accessFlags := 1, code := none }
def k1c1 : Code := { maxStack := 6, maxLocals := 35, code := code, exceptionTable := #[], attributes := #[] }
def k1m1 : Method := { name := "law", desc := "(IIIII)Z", sig := { parameters := [.int, .int, .int, .int, .int], returnType := some .boolean }, accessFlags := 9, code := some k1c1 }
/-- com/example/wegweiser/wegweiser/search/Bm25GainPinLaw -/
def k1 : Class := { plain "com/example/wegweiser/wegweiser/search/Bm25GainPinLaw" (some 0) with
  accessFlags := 49
  interfaces := #[]
  cf := some (fileOf pool1 23 #[] #[{ accessFlags := 1, nameIndex := 5, descriptorIndex := 6, attributes := #[] }, { accessFlags := 9, nameIndex := 27, descriptorIndex := 28, attributes := #[] }] 49 2 #[] #[])
  fields := #[]
  methods := #[k1m0, k1m1]
  instanceTypes := #[]
  staticTypes := #[]
  resolved := Array.replicate 32 none
  statics := none }

def pool2 : Array CpInfo := pool [(1, .methodref 2 3), (0, .class_ 4), (0, .nameAndType 5 6), (0, u "java/lang/Object"), (0, u "<init>"), (0, u "()V"), (0, .fieldref 8 9), (0, .class_ 10), (0, .nameAndType 11 12), (0, u "com/example/wegweiser/wegweiser/search/Bm25"), (0, u "paragraphs"), (0, u "I"), (0, .fieldref 8 14), (0, .nameAndType 15 16), (0, u "averageLength"), (0, u "D"), (12, .double 4608983858650965606), (1, .double 4598175219545276416), (1, .double 4604930618986332160), (1, .double 4612586738352862003), (1, u "K1"), (1, u "B"), (0, u "K3"), (0, u "(ID)V"), (4, u "gain"), (0, u "(DII)D")] 2

def k2c0 : Code := { maxStack := 3, maxLocals := 4, code := prog_52_method_1_code, exceptionTable := #[], attributes := #[] }
def k2m0 : Method := { name := "<init>", desc := "(ID)V", sig := { parameters := [.int, .double], returnType := none }, accessFlags := 0, code := some k2c0 }
def k2c1 : Code := { maxStack := 8, maxLocals := 7, code := prog_52_method_3_code, exceptionTable := #[], attributes := #[] }
def k2m1 : Method := { name := "gain", desc := "(DII)D", sig := { parameters := [.double, .int, .int], returnType := some .double }, accessFlags := 0, code := some k2c1 }
/-- com/example/wegweiser/wegweiser/search/Bm25 -/
def k2 : Class := { plain "com/example/wegweiser/wegweiser/search/Bm25" (some 0) with
  accessFlags := 48
  interfaces := #[]
  cf := some (fileOf pool2 8 #[] #[{ accessFlags := 0, nameIndex := 5, descriptorIndex := 41, attributes := #[] }, { accessFlags := 0, nameIndex := 46, descriptorIndex := 47, attributes := #[] }] 48 2 #[] #[{ accessFlags := 24, nameIndex := 37, descriptorIndex := 16, attributes := #[] }, { accessFlags := 24, nameIndex := 39, descriptorIndex := 16, attributes := #[] }, { accessFlags := 24, nameIndex := 40, descriptorIndex := 16, attributes := #[] }, { accessFlags := 18, nameIndex := 11, descriptorIndex := 12, attributes := #[] }, { accessFlags := 18, nameIndex := 15, descriptorIndex := 16, attributes := #[] }])
  fields := #[{ name := "K1", type := .double, accessFlags := 24, slot := 0, constantValue := 0 }, { name := "B", type := .double, accessFlags := 24, slot := 1, constantValue := 0 }, { name := "K3", type := .double, accessFlags := 24, slot := 2, constantValue := 0 }, { name := "paragraphs", type := .int, accessFlags := 18, slot := 0, constantValue := 0 }, { name := "averageLength", type := .double, accessFlags := 18, slot := 1, constantValue := 0 }]
  methods := #[k2m0, k2m1]
  instanceTypes := #[.int, .double]
  staticTypes := #[.double, .double, .double]
  resolved := Array.replicate 50 none
  statics := none }

def pool3 : Array CpInfo := pool [(1, u "java/lang/Cloneable"), (0, .class_ 1), (0, u "java/lang/Object"), (0, .class_ 3)] 3

/-- java/lang/Cloneable -/
def k3 : Class := { plain "java/lang/Cloneable" (some 0) with
  accessFlags := 1537
  interfaces := #[]
  cf := some (fileOf pool3 2 #[] #[] 1537 4 #[] #[])
  fields := #[]
  methods := #[]
  instanceTypes := #[]
  staticTypes := #[]
  resolved := Array.replicate 8 none
  statics := none }

def pool4 : Array CpInfo := pool [(1, u "java/io/Serializable"), (0, .class_ 1), (0, u "java/lang/Object"), (0, .class_ 3)] 3

/-- java/io/Serializable -/
def k4 : Class := { plain "java/io/Serializable" (some 0) with
  accessFlags := 1537
  interfaces := #[]
  cf := some (fileOf pool4 2 #[] #[] 1537 4 #[] #[])
  fields := #[]
  methods := #[]
  instanceTypes := #[]
  staticTypes := #[]
  resolved := Array.replicate 8 none
  statics := none }

/-- the primitive byte -/
def k5 : Class := { plain "byte" none with kind := .primitive 'B', accessFlags := 0x411 }
/-- [B -/
def k6 : Class := { plain "[B" (some 0) with kind := .array 5 .byte, interfaces := #[3, 4], accessFlags := 1041 }

/-- the primitive int -/
def k7 : Class := { plain "int" none with kind := .primitive 'I', accessFlags := 0x411 }
/-- [I -/
def k8 : Class := { plain "[I" (some 0) with kind := .array 7 .int, interfaces := #[3, 4], accessFlags := 1041 }

def heap : Heap := #[]
def classes : Array Class := #[k0, k1, k2, k3, k4, k5, k6, k7, k8]
def interned : List (Array UInt16 × Addr) := []
def slotsUsed : Nat := 0
def theMethod : MethodId := ⟨1, 1⟩
def args0 : Array Value := #[.int 5, .int 5, .int 5, .int 5, .int 5]
def aboutOver (below : List Frame) : State where
  vm := { classes := classes, interned := interned.toArray }
  heap := heap
  slotsUsed := slotsUsed
  threads := #[{ frames := .invoking theMethod args0 :: below }]
def below0 : List Frame := [.native { method := ⟨0, 0⟩, args := #[] }]
def about1 : State := aboutOver below0
def p0 : Program := .bare "" "" ""
def e0 : Env := launch0.env 0 0 0
theorem w_frames : about1.frames = Frame.invoking theMethod args0 :: below0 := rfl
set_option maxRecDepth 65536 in
theorem w_args : argsFit about1.vm theMethod args0 = true := by decide +kernel
set_option maxRecDepth 65536 in
theorem w_heap : heapFits about1 = true := by decide +kernel
set_option maxRecDepth 65536 in
theorem w_runnable : about1.curStatus? = some .runnable := by decide +kernel
set_option maxRecDepth 65536 in
theorem w_alone : about1.alone = true := by decide +kernel
set_option maxRecDepth 65536 in
theorem w_named : about1.methodNamed? x = some theMethod := by decide +kernel
set_option maxRecDepth 65536 in
theorem w_hears : about1.hears theMethod below0 = true := by decide +kernel
set_option maxRecDepth 65536 in
theorem w_ripe : about1.ripe theMethod args0 below0 = true := by decide +kernel
theorem w_running : about1.status = .running := rfl
set_option maxRecDepth 65536 in
theorem w_room : about1.hasRoom e0.platform room_1 = true :=
  launch0.hasRoom_least _ room_1 (by decide +kernel) (by decide +kernel) (by decide +kernel) (by decide +kernel) (by decide +kernel) (by decide +kernel)
theorem allAtoms_all (ts : List Jvm.Cond) (a : Array Jvm.Value) (st : Jvm.State) : (allAtoms ts).before a st = ts.all (fun c => c.before a st) := by
  induction ts with
  | nil => rfl
  | cons c t ih =>
    show (Jvm.Cond.and c (allAtoms t)).before a st = _
    rw [Jvm.Cond.before_and, ih, List.all_cons]
def words1 : List Jvm.Cond := Jvm.Cond.code x code maxLocals ret :: tables_1
/-- a 'code' word, met by the world's own term for the bytes: nothing is compared byte by byte -/
theorem code_word {y : MethodName} {bytes : ByteArray} {mx : Nat} {rt : Option FieldType} {a : Array Value} {s : State} {m : MethodId} {meth : Method} {c : Code} (h1 : s.methodNamed? y = some m) (h2 : s.vm.method? m = some meth) (h3 : meth.code = some c) (h4 : c.code = bytes)
    (h5 : (c.maxLocals == mx && c.exceptionTable.isEmpty && decide (c.maxStack ≤ mostOperands) && decide (meth.sig.returnType = rt) && !meth.locks && decide (parseMethodDescriptor y.desc = some meth.sig)) = true) : (Jvm.Cond.code y bytes mx rt).before a s = true := by
  simp only [Bool.and_eq_true, beq_iff_eq, Bool.not_eq_true', decide_eq_true_eq] at h5
  obtain ⟨⟨⟨⟨⟨g1, g2⟩, g3⟩, g4⟩, g5⟩, g6⟩ := h5
  simp [Cond.before, Cond.holds, Cond.value, h1, h2, h3, h4, g1, g2, g3, g4, g5, g6]
def isCode : Jvm.Cond → Bool
  | .code _ _ _ _ => true
  | _ => false
theorem all_split {L : List Jvm.Cond} {P : Jvm.Cond → Bool} (h1 : L.all (fun c => isCode c || P c) = true) (h2 : ∀ c ∈ L.filter isCode, P c = true) : L.all P = true := by
  refine List.all_eq_true.mpr fun c hc => ?_
  have h := List.all_eq_true.mp h1 c hc
  rcases Bool.eq_false_or_eq_true (isCode c) with hi | hi
  · exact h2 c (List.mem_filter.mpr ⟨hc, hi⟩)
  · simpa [hi] using h
set_option maxRecDepth 65536 in
theorem w_c0 : (Jvm.Cond.code x code maxLocals ret).before args0 about1 = true := code_word (m := ⟨1, 1⟩) (meth := k1m1) (c := k1c1) (by decide +kernel) rfl rfl rfl (by decide +kernel)
set_option maxRecDepth 65536 in
theorem w_c1 : (Jvm.Cond.code ({ cls := "com/example/wegweiser/wegweiser/search/Bm25", name := "<init>", desc := "(ID)V" } : Jvm.MethodName) prog_52_method_1_code (4 : Nat) (Option.none : Option Jvm.ClassFile.FieldType)).before args0 about1 = true := code_word (m := ⟨2, 0⟩) (meth := k2m0) (c := k2c0) (by decide +kernel) rfl rfl rfl (by decide +kernel)
set_option maxRecDepth 65536 in
theorem w_c2 : (Jvm.Cond.code ({ cls := "java/lang/Object", name := "<init>", desc := "()V" } : Jvm.MethodName) object_method_1_code (1 : Nat) (Option.none : Option Jvm.ClassFile.FieldType)).before args0 about1 = true := code_word (m := ⟨0, 0⟩) (meth := k0m0) (c := k0c0) (by decide +kernel) rfl rfl rfl (by decide +kernel)
set_option maxRecDepth 65536 in
theorem w_c3 : (Jvm.Cond.code ({ cls := "com/example/wegweiser/wegweiser/search/Bm25", name := "gain", desc := "(DII)D" } : Jvm.MethodName) prog_52_method_3_code (7 : Nat) (Option.some Jvm.ClassFile.FieldType.double)).before args0 about1 = true := code_word (m := ⟨2, 1⟩) (meth := k2m1) (c := k2c1) (by decide +kernel) rfl rfl rfl (by decide +kernel)
def codes1 : List Jvm.Cond := [Jvm.Cond.code x code maxLocals ret, Jvm.Cond.code ({ cls := "com/example/wegweiser/wegweiser/search/Bm25", name := "<init>", desc := "(ID)V" } : Jvm.MethodName) prog_52_method_1_code (4 : Nat) (Option.none : Option Jvm.ClassFile.FieldType), Jvm.Cond.code ({ cls := "java/lang/Object", name := "<init>", desc := "()V" } : Jvm.MethodName) object_method_1_code (1 : Nat) (Option.none : Option Jvm.ClassFile.FieldType), Jvm.Cond.code ({ cls := "com/example/wegweiser/wegweiser/search/Bm25", name := "gain", desc := "(DII)D" } : Jvm.MethodName) prog_52_method_3_code (7 : Nat) (Option.some Jvm.ClassFile.FieldType.double)]
set_option maxRecDepth 65536 in
theorem codes_eq : words1.filter isCode = codes1 := rfl
theorem w_codes : ∀ c ∈ words1.filter isCode, c.before args0 about1 = true := by
  rw [codes_eq]
  intro c hc
  simp only [codes1, List.mem_cons, List.not_mem_nil, or_false] at hc
  rcases hc with rfl | rfl | rfl | rfl
  · exact w_c0
  · exact w_c1
  · exact w_c2
  · exact w_c3
set_option maxRecDepth 65536 in
theorem w_t1 : (words1.take 24).all (fun c => isCode c || c.before args0 about1) = true := by decide +kernel
set_option maxRecDepth 65536 in
theorem w_t2 : (words1.drop 24).all (fun c => isCode c || c.before args0 about1) = true := by decide +kernel
theorem w_tables : (allAtoms (Jvm.Cond.code x code maxLocals ret :: tables_1)).before args0 about1 = true := by
  rw [allAtoms_all]
  show words1.all (fun c => c.before args0 about1) = true
  refine all_split ?_ w_codes
  rw [← List.take_append_drop 24 words1, List.all_append, w_t1, w_t2]
  rfl
set_option maxRecDepth 65536 in
theorem w_case : (Jvm.Cond.and given_1 narrow_1).before args0 about1 = true := by decide +kernel
theorem w_applies : (headSpec (Jvm.Cond.code x code maxLocals ret :: tables_1) room_1).applies x e0.platform about1 = true :=
  (Spec.applies_iff w_frames).mpr ⟨w_running, w_runnable, w_alone, w_named, w_hears, w_ripe, w_room, w_tables⟩
theorem atStart : AtStart classFile x code maxLocals ret World_1 tables_1 room_1 Calls_1 rest_1 Pre_1 launch0 p0 e0 about1 theMethod args0 below0 :=
  ⟨lists_1, trivial, launch0.admits_env _ _ _, launch0.least_env, fairChoices_fair.cas, fairChoices_fair.clock, w_frames, w_args, w_heap, w_applies, trivial, trivial, w_case⟩
end start1
theorem witness_1 : WitnessClaimed_1 := ⟨start1.p0, start1.e0, start1.about1, start1.theMethod, start1.args0, start1.below0, start1.atStart⟩
end Jvm.Pilot.@@N@@
