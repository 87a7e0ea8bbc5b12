import JvmDerived
import JvmDerived.Pilot.@@N@@Statement
import JvmDerived.Pilot.@@N@@Code
set_option linter.unusedVariables false
set_option linter.unusedSimpArgs false
namespace Jvm.RoadKit
open Sem ClassFile Op Lib Jvm.Stand Jvm.Free Jvm.LawKit
section New
variable {p : Program} {l : Launch} {e : Env} {R : Room} {s : State} {m : MethodId} {args : Array Value} {below : List Frame} {meth : Method} {c : Code} {T : State} {locs : List Loc} {cells slots : Nat}
theorem retI (X : Stand p l e R s m args below meth c T locs cells slots) (hx : p.tables.exec = Jvm.exec) {pc : Nat} {Ls : Array Slot} {z : Int32} {rest : List Value} (hret : meth.sig.returnType = some .int) (hd : decode c.code pc = .ok (.ireturn, 1)) {fs : List Frame}
    (hl : ∀ (f : JFrame) (acts : List Action), f.method = m → f.locked = none → f.entered = [] → (doReturn e (T.setTop f) acts (some (.int z))).1 = T.setFrames fs) : Steps p.tables e below (T.setTop (mkF m pc Ls (.int z :: rest))) (T.setFrames fs) :=
  retOut X hx hret rfl (Or.inl ⟨rfl, Or.inl rfl, z, rfl⟩) hd hl
theorem own_catR {v : Value} (h : v.isRef = true) : v.category = 1 := by rcases ref_cases h with rfl | ⟨a, rfl⟩ <;> rfl
theorem own_iteR (P : Prop) [Decidable P] {a b : Value} (ha : a.isRef = true) (hb : b.isRef = true) : (if P then a else b).isRef = true := by
  by_cases h : P
  · rw [if_pos h]; exact ha
  · rw [if_neg h]; exact hb
end New
end Jvm.RoadKit
namespace Jvm.Pilot.@@N@@
open Jvm Jvm.ClassFile Sem Op Lib Jvm.Free Jvm.Stand Jvm.LawKit Jvm.RoadKit Bundle Jvm.Pilot.@@N@@.Jvm.D
theorem eq_ints_own {args : Array Value} {s : State} {a b : Term} {x y : Int32} (ha : a.eval args s none [] s = some (.int x)) (hb : b.eval args s none [] s = some (.int y)) : (Jvm.Cond.eq a b).value args s none s [] = some (decide (x = y)) := by simp [Cond.value, ha, hb]
theorem own_eqR {args : Array Value} {s : State} {a b : Term} {y : Addr} (h : (Jvm.Cond.eq a b).value args s none s [] = some true) (hb : b.eval args s none [] s = some (.ref y)) : a.eval args s none [] s = some (.ref y) := by
  obtain ⟨u, v, h1, h2, -, k2⟩ := cmp_v (Or.inl h)
  obtain rfl : v = .ref y := Option.some.inj (h2.symm.trans hb)
  have e := gotT (eq_R h1 h2 k2.2 rfl) h
  rw [h1, e]
theorem own_len {args : Array Value} {s : State} {t : Term} {k : Int32} {a : Addr} {cl : Cell} (ht : t.eval args s none [] s = some (.ref a)) (hc : s.heap[a]? = some cl) (h : (Jvm.Cond.eq (.length t) (.int k)).value args s none s [] = some true) : cl.slots.size < 2 ^ 31 ∧ cl.slots.size.toInt32 = k := by
  obtain ⟨u, v, h1, h2, -, k2⟩ := cmp_v (Or.inl h)
  have e2 : v = .int k := Option.some.inj (h2.symm.trans (Term.int_eval k))
  subst e2
  obtain ⟨z, rfl⟩ := k2
  have e := gotT (eq_ints_own h1 (Term.int_eval k)) h
  obtain ⟨a', cl', g1, g2, g3⟩ := Term.length_spec h1
  obtain rfl : a' = a := by rw [ht] at g1; cases g1; rfl
  have g4 : cl' = cl := by
    have q := (State.arrayAt?_spec g2).1
    rw [hc] at q; cases q; rfl
  subst g4
  refine ⟨?_, by cases g3; exact e⟩
  apply Classical.byContradiction
  intro hlt
  simp [Term.eval, ht, g2, hlt] at h1
def own_vs (f : Nat → Addr) : List Value := [(.ref (f 0)), (.ref (f 1)), (.ref (f 2)), (.ref (f 3)), .null, .null, .null, .null, (.ref (f 4)), (.ref (f 5)), (.ref (f 6)), (.ref (f 7)), (.ref (f 8)), (.ref (f 9)), (.ref (f 10)), (.ref (f 11)), (.ref (f 12)), .null, (.ref (f 13)), (.ref (f 14)), (.ref (f 15)), .null, (.ref (f 16)), .null, .null, .null, .null, .null, .null, .null, .null, .null, (.ref (f 17)), .null, .null, .null, .null, (.ref (f 18)), .null, .null, .null, .null, (.ref (f 19))]
def own_sel (x : Int32) (f : Nat → Addr) : Value := if x = (0 : Int32) then .ref (f 0) else if x = (1 : Int32) then .ref (f 1) else if x = (2 : Int32) then .ref (f 2) else if x = (3 : Int32) then .ref (f 3) else if x = (8 : Int32) then .ref (f 4) else if x = (9 : Int32) then .ref (f 5) else if x = (10 : Int32) then .ref (f 6) else if x = (11 : Int32) then .ref (f 7) else if x = (12 : Int32) then .ref (f 8) else if x = (13 : Int32) then .ref (f 9) else if x = (14 : Int32) then .ref (f 10) else if x = (15 : Int32) then .ref (f 11) else if x = (16 : Int32) then .ref (f 12) else if x = (18 : Int32) then .ref (f 13) else if x = (19 : Int32) then .ref (f 14) else if x = (20 : Int32) then .ref (f 15) else if x = (22 : Int32) then .ref (f 16) else if x = (32 : Int32) then .ref (f 17) else if x = (37 : Int32) then .ref (f 18) else if x = (42 : Int32) then .ref (f 19) else .null
def own_el (x : Int32) (f : Nat → Addr) : Value := (own_vs f).getD x.toNatClampNeg .null
def own_for (x : Int32) (f : Nat → Addr) : Value := if x < (0 : Int32) then .null else if x < (43 : Int32) then own_el x f else .null
theorem own_cases {k : Nat} (h : k < 43) : k = 0 ∨ k = 1 ∨ k = 2 ∨ k = 3 ∨ k = 4 ∨ k = 5 ∨ k = 6 ∨ k = 7 ∨ k = 8 ∨ k = 9 ∨ k = 10 ∨ k = 11 ∨ k = 12 ∨ k = 13 ∨ k = 14 ∨ k = 15 ∨ k = 16 ∨ k = 17 ∨ k = 18 ∨ k = 19 ∨ k = 20 ∨ k = 21 ∨ k = 22 ∨ k = 23 ∨ k = 24 ∨ k = 25 ∨ k = 26 ∨ k = 27 ∨ k = 28 ∨ k = 29 ∨ k = 30 ∨ k = 31 ∨ k = 32 ∨ k = 33 ∨ k = 34 ∨ k = 35 ∨ k = 36 ∨ k = 37 ∨ k = 38 ∨ k = 39 ∨ k = 40 ∨ k = 41 ∨ k = 42 := by omega
theorem own_nat {k : Nat} (h : k < 43) : (Int32.ofNat k).toNatClampNeg = k := by
  have q : (Int32.ofNat k).toInt = k := Int32.toInt_ofNat_of_lt (by omega)
  simp only [Int32.toNatClampNeg, q]; rfl
theorem own_of {x : Int32} (h0 : ¬ x < (0 : Int32)) (h1 : x < (43 : Int32)) : ∃ k, k < 43 ∧ x = Int32.ofNat k := by
  have z0 : (0 : Int32).toInt = 0 := rfl
  have z1 : (43 : Int32).toInt = 43 := rfl
  rw [Int32.lt_iff_toInt_lt] at h0 h1
  refine ⟨x.toInt.toNat, by omega, ?_⟩
  apply Int32.toInt_inj.mp
  rw [Int32.toInt_ofNat_of_lt (by omega)]; omega
theorem own_elS {k : Nat} (h : k < 43) (f : Nat → Addr) : own_el (Int32.ofNat k) f = own_sel (Int32.ofNat k) f := by
  unfold own_el
  rw [own_nat h]
  rcases own_cases h with rfl | rfl | rfl | rfl | rfl | rfl | rfl | rfl | rfl | rfl | rfl | rfl | rfl | rfl | rfl | rfl | rfl | rfl | rfl | rfl | rfl | rfl | rfl | rfl | rfl | rfl | rfl | rfl | rfl | rfl | rfl | rfl | rfl | rfl | rfl | rfl | rfl | rfl | rfl | rfl | rfl | rfl | rfl <;> rfl
theorem own_law (x : Int32) (f : Nat → Addr) : own_for x f = own_sel x f := by
  have z0 : (0 : Int32).toInt = 0 := rfl
  have z1 : (43 : Int32).toInt = 43 := rfl
  unfold own_for
  by_cases h0 : x < (0 : Int32)
  · rw [if_pos h0]
    have ne : ∀ k : Int32, 0 ≤ k.toInt → ¬ x = k := fun k hk e => by subst e; rw [Int32.lt_iff_toInt_lt] at h0; omega
    unfold own_sel
    rw [if_neg (ne 0 (by decide)), if_neg (ne 1 (by decide)), if_neg (ne 2 (by decide)), if_neg (ne 3 (by decide)), if_neg (ne 8 (by decide)), if_neg (ne 9 (by decide)), if_neg (ne 10 (by decide)), if_neg (ne 11 (by decide)), if_neg (ne 12 (by decide)), if_neg (ne 13 (by decide)), if_neg (ne 14 (by decide)), if_neg (ne 15 (by decide)), if_neg (ne 16 (by decide)), if_neg (ne 18 (by decide)), if_neg (ne 19 (by decide)), if_neg (ne 20 (by decide)), if_neg (ne 22 (by decide)), if_neg (ne 32 (by decide)), if_neg (ne 37 (by decide)), if_neg (ne 42 (by decide))]
  · rw [if_neg h0]
    by_cases h1 : x < (43 : Int32)
    · rw [if_pos h1]
      obtain ⟨k, hk, rfl⟩ := own_of h0 h1
      exact own_elS hk f
    · rw [if_neg h1]
      have ne : ∀ k : Int32, k.toInt < 43 → ¬ x = k := fun k hk e => by subst e; rw [Int32.lt_iff_toInt_lt] at h1; omega
      unfold own_sel
      rw [if_neg (ne 0 (by decide)), if_neg (ne 1 (by decide)), if_neg (ne 2 (by decide)), if_neg (ne 3 (by decide)), if_neg (ne 8 (by decide)), if_neg (ne 9 (by decide)), if_neg (ne 10 (by decide)), if_neg (ne 11 (by decide)), if_neg (ne 12 (by decide)), if_neg (ne 13 (by decide)), if_neg (ne 14 (by decide)), if_neg (ne 15 (by decide)), if_neg (ne 16 (by decide)), if_neg (ne 18 (by decide)), if_neg (ne 19 (by decide)), if_neg (ne 20 (by decide)), if_neg (ne 22 (by decide)), if_neg (ne 32 (by decide)), if_neg (ne 37 (by decide)), if_neg (ne 42 (by decide))]
theorem own_selR (x : Int32) (f : Nat → Addr) : (own_sel x f).isRef = true := by
  unfold own_sel
  repeat (first | exact rfl | refine own_iteR _ rfl ?_)
theorem own_forR (x : Int32) (f : Nat → Addr) : (own_for x f).isRef = true := by rw [own_law]; exact own_selR x f
theorem own_elR {x : Int32} (f : Nat → Addr) (h0 : ¬ x < (0 : Int32)) (h1 : x < (43 : Int32)) : (own_el x f).isRef = true := by
  obtain ⟨k, hk, rfl⟩ := own_of h0 h1
  rw [own_elS hk f]; exact own_selR _ f
theorem d2_0 : decode method_2_code 0 = .ok (.iload_n 0, 1) := by decide +kernel
theorem d2_1 : decode method_2_code 1 = .ok (.ifCond .ne 7, 3) := by decide +kernel
theorem d2_4 : decode method_2_code 4 = .ok (.getstatic 7, 3) := by decide +kernel
theorem d2_7 : decode method_2_code 7 = .ok (.areturn, 1) := by decide +kernel
theorem d2_8 : decode method_2_code 8 = .ok (.iload_n 0, 1) := by decide +kernel
theorem d2_9 : decode method_2_code 9 = .ok (.iconst 1, 1) := by decide +kernel
theorem d2_10 : decode method_2_code 10 = .ok (.if_icmp .ne 7, 3) := by decide +kernel
theorem d2_13 : decode method_2_code 13 = .ok (.getstatic 13, 3) := by decide +kernel
theorem d2_16 : decode method_2_code 16 = .ok (.areturn, 1) := by decide +kernel
theorem d2_17 : decode method_2_code 17 = .ok (.iload_n 0, 1) := by decide +kernel
theorem d2_18 : decode method_2_code 18 = .ok (.iconst 2, 1) := by decide +kernel
theorem d2_19 : decode method_2_code 19 = .ok (.if_icmp .ne 7, 3) := by decide +kernel
theorem d2_22 : decode method_2_code 22 = .ok (.getstatic 16, 3) := by decide +kernel
theorem d2_25 : decode method_2_code 25 = .ok (.areturn, 1) := by decide +kernel
theorem d2_26 : decode method_2_code 26 = .ok (.iload_n 0, 1) := by decide +kernel
theorem d2_27 : decode method_2_code 27 = .ok (.iconst 3, 1) := by decide +kernel
theorem d2_28 : decode method_2_code 28 = .ok (.if_icmp .ne 7, 3) := by decide +kernel
theorem d2_31 : decode method_2_code 31 = .ok (.getstatic 19, 3) := by decide +kernel
theorem d2_34 : decode method_2_code 34 = .ok (.areturn, 1) := by decide +kernel
theorem d2_35 : decode method_2_code 35 = .ok (.iload_n 0, 1) := by decide +kernel
theorem d2_36 : decode method_2_code 36 = .ok (.bipush 8, 2) := by decide +kernel
theorem d2_38 : decode method_2_code 38 = .ok (.if_icmp .ne 7, 3) := by decide +kernel
theorem d2_41 : decode method_2_code 41 = .ok (.getstatic 22, 3) := by decide +kernel
theorem d2_44 : decode method_2_code 44 = .ok (.areturn, 1) := by decide +kernel
theorem d2_45 : decode method_2_code 45 = .ok (.iload_n 0, 1) := by decide +kernel
theorem d2_46 : decode method_2_code 46 = .ok (.bipush 9, 2) := by decide +kernel
theorem d2_48 : decode method_2_code 48 = .ok (.if_icmp .ne 7, 3) := by decide +kernel
theorem d2_51 : decode method_2_code 51 = .ok (.getstatic 25, 3) := by decide +kernel
theorem d2_54 : decode method_2_code 54 = .ok (.areturn, 1) := by decide +kernel
theorem d2_55 : decode method_2_code 55 = .ok (.iload_n 0, 1) := by decide +kernel
theorem d2_56 : decode method_2_code 56 = .ok (.bipush 10, 2) := by decide +kernel
theorem d2_58 : decode method_2_code 58 = .ok (.if_icmp .ne 7, 3) := by decide +kernel
theorem d2_61 : decode method_2_code 61 = .ok (.getstatic 28, 3) := by decide +kernel
theorem d2_64 : decode method_2_code 64 = .ok (.areturn, 1) := by decide +kernel
theorem d2_65 : decode method_2_code 65 = .ok (.iload_n 0, 1) := by decide +kernel
theorem d2_66 : decode method_2_code 66 = .ok (.bipush 11, 2) := by decide +kernel
theorem d2_68 : decode method_2_code 68 = .ok (.if_icmp .ne 7, 3) := by decide +kernel
theorem d2_71 : decode method_2_code 71 = .ok (.getstatic 31, 3) := by decide +kernel
theorem d2_74 : decode method_2_code 74 = .ok (.areturn, 1) := by decide +kernel
theorem d2_75 : decode method_2_code 75 = .ok (.iload_n 0, 1) := by decide +kernel
theorem d2_76 : decode method_2_code 76 = .ok (.bipush 12, 2) := by decide +kernel
theorem d2_78 : decode method_2_code 78 = .ok (.if_icmp .ne 7, 3) := by decide +kernel
theorem d2_81 : decode method_2_code 81 = .ok (.getstatic 34, 3) := by decide +kernel
theorem d2_84 : decode method_2_code 84 = .ok (.areturn, 1) := by decide +kernel
theorem d2_85 : decode method_2_code 85 = .ok (.iload_n 0, 1) := by decide +kernel
theorem d2_86 : decode method_2_code 86 = .ok (.bipush 13, 2) := by decide +kernel
theorem d2_88 : decode method_2_code 88 = .ok (.if_icmp .ne 7, 3) := by decide +kernel
theorem d2_91 : decode method_2_code 91 = .ok (.getstatic 37, 3) := by decide +kernel
theorem d2_94 : decode method_2_code 94 = .ok (.areturn, 1) := by decide +kernel
theorem d2_95 : decode method_2_code 95 = .ok (.iload_n 0, 1) := by decide +kernel
theorem d2_96 : decode method_2_code 96 = .ok (.bipush 14, 2) := by decide +kernel
theorem d2_98 : decode method_2_code 98 = .ok (.if_icmp .ne 7, 3) := by decide +kernel
theorem d2_101 : decode method_2_code 101 = .ok (.getstatic 40, 3) := by decide +kernel
theorem d2_104 : decode method_2_code 104 = .ok (.areturn, 1) := by decide +kernel
theorem d2_105 : decode method_2_code 105 = .ok (.iload_n 0, 1) := by decide +kernel
theorem d2_106 : decode method_2_code 106 = .ok (.bipush 15, 2) := by decide +kernel
theorem d2_108 : decode method_2_code 108 = .ok (.if_icmp .ne 7, 3) := by decide +kernel
theorem d2_111 : decode method_2_code 111 = .ok (.getstatic 43, 3) := by decide +kernel
theorem d2_114 : decode method_2_code 114 = .ok (.areturn, 1) := by decide +kernel
theorem d2_115 : decode method_2_code 115 = .ok (.iload_n 0, 1) := by decide +kernel
theorem d2_116 : decode method_2_code 116 = .ok (.bipush 16, 2) := by decide +kernel
theorem d2_118 : decode method_2_code 118 = .ok (.if_icmp .ne 7, 3) := by decide +kernel
theorem d2_121 : decode method_2_code 121 = .ok (.getstatic 46, 3) := by decide +kernel
theorem d2_124 : decode method_2_code 124 = .ok (.areturn, 1) := by decide +kernel
theorem d2_125 : decode method_2_code 125 = .ok (.iload_n 0, 1) := by decide +kernel
theorem d2_126 : decode method_2_code 126 = .ok (.bipush 18, 2) := by decide +kernel
theorem d2_128 : decode method_2_code 128 = .ok (.if_icmp .ne 7, 3) := by decide +kernel
theorem d2_131 : decode method_2_code 131 = .ok (.getstatic 49, 3) := by decide +kernel
theorem d2_134 : decode method_2_code 134 = .ok (.areturn, 1) := by decide +kernel
theorem d2_135 : decode method_2_code 135 = .ok (.iload_n 0, 1) := by decide +kernel
theorem d2_136 : decode method_2_code 136 = .ok (.bipush 19, 2) := by decide +kernel
theorem d2_138 : decode method_2_code 138 = .ok (.if_icmp .ne 7, 3) := by decide +kernel
theorem d2_141 : decode method_2_code 141 = .ok (.getstatic 52, 3) := by decide +kernel
theorem d2_144 : decode method_2_code 144 = .ok (.areturn, 1) := by decide +kernel
theorem d2_145 : decode method_2_code 145 = .ok (.iload_n 0, 1) := by decide +kernel
theorem d2_146 : decode method_2_code 146 = .ok (.bipush 20, 2) := by decide +kernel
theorem d2_148 : decode method_2_code 148 = .ok (.if_icmp .ne 7, 3) := by decide +kernel
theorem d2_151 : decode method_2_code 151 = .ok (.getstatic 55, 3) := by decide +kernel
theorem d2_154 : decode method_2_code 154 = .ok (.areturn, 1) := by decide +kernel
theorem d2_155 : decode method_2_code 155 = .ok (.iload_n 0, 1) := by decide +kernel
theorem d2_156 : decode method_2_code 156 = .ok (.bipush 22, 2) := by decide +kernel
theorem d2_158 : decode method_2_code 158 = .ok (.if_icmp .ne 7, 3) := by decide +kernel
theorem d2_161 : decode method_2_code 161 = .ok (.getstatic 58, 3) := by decide +kernel
theorem d2_164 : decode method_2_code 164 = .ok (.areturn, 1) := by decide +kernel
theorem d2_165 : decode method_2_code 165 = .ok (.iload_n 0, 1) := by decide +kernel
theorem d2_166 : decode method_2_code 166 = .ok (.bipush 32, 2) := by decide +kernel
theorem d2_168 : decode method_2_code 168 = .ok (.if_icmp .ne 7, 3) := by decide +kernel
theorem d2_171 : decode method_2_code 171 = .ok (.getstatic 61, 3) := by decide +kernel
theorem d2_174 : decode method_2_code 174 = .ok (.areturn, 1) := by decide +kernel
theorem d2_175 : decode method_2_code 175 = .ok (.iload_n 0, 1) := by decide +kernel
theorem d2_176 : decode method_2_code 176 = .ok (.bipush 37, 2) := by decide +kernel
theorem d2_178 : decode method_2_code 178 = .ok (.if_icmp .ne 7, 3) := by decide +kernel
theorem d2_181 : decode method_2_code 181 = .ok (.getstatic 64, 3) := by decide +kernel
theorem d2_184 : decode method_2_code 184 = .ok (.areturn, 1) := by decide +kernel
theorem d2_185 : decode method_2_code 185 = .ok (.iload_n 0, 1) := by decide +kernel
theorem d2_186 : decode method_2_code 186 = .ok (.bipush 42, 2) := by decide +kernel
theorem d2_188 : decode method_2_code 188 = .ok (.if_icmp .ne 7, 3) := by decide +kernel
theorem d2_191 : decode method_2_code 191 = .ok (.getstatic 67, 3) := by decide +kernel
theorem d2_194 : decode method_2_code 194 = .ok (.areturn, 1) := by decide +kernel
theorem d2_195 : decode method_2_code 195 = .ok (.aconst_null, 1) := by decide +kernel
theorem d2_196 : decode method_2_code 196 = .ok (.areturn, 1) := by decide +kernel
theorem pn_0 : plainName "com/example/waxwing/waxwing/protocol/ApiKeyForIdPinLaw" = true := by first | (simp [plainName, overriddenIn]; done) | decide +kernel
theorem ef_2 (m : MethodId) (x0 : Int32) : entryFrame m #[(.int x0)] 1 = mkF m 0 #[.val (.int x0)] [] := by first | (simp [entryFrame, mkF, argsToLocals, Value.category]; done) | rfl
def Q2 (Z : State) (p0 : Int32) (f : Nat → Addr) (h0 : Heap) (n0 : Nat) (v : Option Value) (h : Heap) (L : List Loc) : Prop := v = some (own_sel p0 f) ∧ Fr n0 L ∧ h = h0
set_option maxRecDepth 65536 in
set_option maxHeartbeats 40000000 in
theorem rm2 (l : Launch) (Z : State) (a0 : Array Value) (hw : ∀ d ∈ tables_1, d.before a0 Z = true) (ws : List Jvm.Cond) (p0 : Int32) (f : Nat → Addr) (h0 : Heap) (n0 : Nat) (Z0 : n0 ≤ h0.size) (S_0 : Sta Z h0 "com/example/waxwing/waxwing/protocol/ApiKey" "PRODUCE" "Lcom/example/waxwing/waxwing/protocol/ApiKey;" (.ref (f 0))) (S_1 : Sta Z h0 "com/example/waxwing/waxwing/protocol/ApiKey" "FETCH" "Lcom/example/waxwing/waxwing/protocol/ApiKey;" (.ref (f 1))) (S_2 : Sta Z h0 "com/example/waxwing/waxwing/protocol/ApiKey" "LIST_OFFSETS" "Lcom/example/waxwing/waxwing/protocol/ApiKey;" (.ref (f 2))) (S_3 : Sta Z h0 "com/example/waxwing/waxwing/protocol/ApiKey" "METADATA" "Lcom/example/waxwing/waxwing/protocol/ApiKey;" (.ref (f 3))) (S_4 : Sta Z h0 "com/example/waxwing/waxwing/protocol/ApiKey" "OFFSET_COMMIT" "Lcom/example/waxwing/waxwing/protocol/ApiKey;" (.ref (f 4))) (S_5 : Sta Z h0 "com/example/waxwing/waxwing/protocol/ApiKey" "OFFSET_FETCH" "Lcom/example/waxwing/waxwing/protocol/ApiKey;" (.ref (f 5))) (S_6 : Sta Z h0 "com/example/waxwing/waxwing/protocol/ApiKey" "FIND_COORDINATOR" "Lcom/example/waxwing/waxwing/protocol/ApiKey;" (.ref (f 6))) (S_7 : Sta Z h0 "com/example/waxwing/waxwing/protocol/ApiKey" "JOIN_GROUP" "Lcom/example/waxwing/waxwing/protocol/ApiKey;" (.ref (f 7))) (S_8 : Sta Z h0 "com/example/waxwing/waxwing/protocol/ApiKey" "HEARTBEAT" "Lcom/example/waxwing/waxwing/protocol/ApiKey;" (.ref (f 8))) (S_9 : Sta Z h0 "com/example/waxwing/waxwing/protocol/ApiKey" "LEAVE_GROUP" "Lcom/example/waxwing/waxwing/protocol/ApiKey;" (.ref (f 9))) (S_10 : Sta Z h0 "com/example/waxwing/waxwing/protocol/ApiKey" "SYNC_GROUP" "Lcom/example/waxwing/waxwing/protocol/ApiKey;" (.ref (f 10))) (S_11 : Sta Z h0 "com/example/waxwing/waxwing/protocol/ApiKey" "DESCRIBE_GROUPS" "Lcom/example/waxwing/waxwing/protocol/ApiKey;" (.ref (f 11))) (S_12 : Sta Z h0 "com/example/waxwing/waxwing/protocol/ApiKey" "LIST_GROUPS" "Lcom/example/waxwing/waxwing/protocol/ApiKey;" (.ref (f 12))) (S_13 : Sta Z h0 "com/example/waxwing/waxwing/protocol/ApiKey" "API_VERSIONS" "Lcom/example/waxwing/waxwing/protocol/ApiKey;" (.ref (f 13))) (S_14 : Sta Z h0 "com/example/waxwing/waxwing/protocol/ApiKey" "CREATE_TOPICS" "Lcom/example/waxwing/waxwing/protocol/ApiKey;" (.ref (f 14))) (S_15 : Sta Z h0 "com/example/waxwing/waxwing/protocol/ApiKey" "DELETE_TOPICS" "Lcom/example/waxwing/waxwing/protocol/ApiKey;" (.ref (f 15))) (S_16 : Sta Z h0 "com/example/waxwing/waxwing/protocol/ApiKey" "INIT_PRODUCER_ID" "Lcom/example/waxwing/waxwing/protocol/ApiKey;" (.ref (f 16))) (S_17 : Sta Z h0 "com/example/waxwing/waxwing/protocol/ApiKey" "DESCRIBE_CONFIGS" "Lcom/example/waxwing/waxwing/protocol/ApiKey;" (.ref (f 17))) (S_18 : Sta Z h0 "com/example/waxwing/waxwing/protocol/ApiKey" "CREATE_PARTITIONS" "Lcom/example/waxwing/waxwing/protocol/ApiKey;" (.ref (f 18))) (S_19 : Sta Z h0 "com/example/waxwing/waxwing/protocol/ApiKey" "DELETE_GROUPS" "Lcom/example/waxwing/waxwing/protocol/ApiKey;" (.ref (f 19))) :
    MetFree l (⟨"com/example/waxwing/waxwing/protocol/ApiKeyForIdPinLaw", "expected", "(I)Lcom/example/waxwing/waxwing/protocol/ApiKey;"⟩ : MethodName) (head1 (Jvm.Cond.code (⟨"com/example/waxwing/waxwing/protocol/ApiKeyForIdPinLaw", "expected", "(I)Lcom/example/waxwing/waxwing/protocol/ApiKey;"⟩ : MethodName) method_2_code 1 (some (.object "com/example/waxwing/waxwing/protocol/ApiKey")) :: ws) ({ frames := 0, cells := 0, slots := 0, locals := 0 } : Room)) (fun aa U => aa = #[(.int p0)] ∧ Z.Warmed39 U.vm ∧ U.heap = h0) (fun _ _ _ _ _ => True) (fun _ U o U' => ∃ v L, o = .returned v ∧ Q2 Z p0 f h0 n0 v U'.heap L ∧ FrameEnd U o U' L ({ frames := 0, cells := 0, slots := 0, locals := 0 } : Room).cells ({ frames := 0, cells := 0, slots := 0, locals := 0 } : Room).slots) := by
  refine MetFree.of_bodySF (plainFor_of_name pn_0) hisR ?_
  intro p e s m args below meth c s₁ Bd hml0 hP hK
  obtain ⟨rfl, hZ, hh⟩ := hP
  have hx := Bd.exec
  have hby := Bd.bytes
  have hml : c.maxLocals = 1 := hml0
  have hown : s.vm.findClass "com/example/waxwing/waxwing/protocol/ApiKeyForIdPinLaw" = some m.cls := findClass_of_methodNamed Bd.named
  have hnm := (name_of_methodNamed Bd.named Bd.method).1
  have X0 : Stand p l e ({ frames := 0, cells := 0, slots := 0, locals := 0 } : Room) s m #[(.int p0)] below meth c s₁ [] 0 0 := Stand.of_body Bd
  have e0 : s₁.heap = h0 := by rw [← hh, Bd.state]; rfl
  have N0 := Fr.nil n0
  have pre0 : ∀ t, Steps p.tables e below (s₁.setTop (mkF m 0 #[.val (.int p0)] [])) t → Steps p.tables e below (s₁.setTop (entryFrame m #[(.int p0)] 1)) t := fun t k => castTop (ef_2 m p0) k
  have k1 : ∀ t, Steps p.tables e below (s₁.setTop (mkF m 1 #[.val (.int p0)] [(.int p0)])) t → Steps p.tables e below (s₁.setTop (entryFrame m #[(.int p0)] 1)) t := fun t k => pre0 t (by
    show Steps p.tables e below (s₁.setTop (mkF m 0 #[.val (.int p0)] [])) _
    refine XS.iloadN X0.here hx rfl (hb hby d2_0) rfl ?_
    exact k)
  by_cases hc2 : p0 = (0 : Int32)
  · have k3 : ∀ t, Steps p.tables e below (s₁.setTop (mkF m 4 #[.val (.int p0)] [])) t → Steps p.tables e below (s₁.setTop (entryFrame m #[(.int p0)] 1)) t := fun t k => k1 t (by
      show Steps p.tables e below (s₁.setTop (mkF m 1 #[.val (.int p0)] [(.int p0)])) _
      refine XS.ifNo X0.here hx rfl (hb hby d2_1) rfl ((if0 _ _).trans (teq hc2).2) ?_
      exact k)
    obtain ⟨T4, X4, e4, st4⟩ := getS (host := "") X0 hx hZ hown (hw _ (List.mem_of_getElem? (i := 11) rfl)) Via.refl e0 S_0 (g := (mkF m 4 #[.val (.int p0)] [])) rfl (hb hby d2_4)
    have k5 : ∀ t, Steps p.tables e below (T4.setTop (mkF m 7 #[.val (.int p0)] [(.ref (f 0))])) t → Steps p.tables e below (s₁.setTop (entryFrame m #[(.int p0)] 1)) t := fun t k => k3 t (st4 t k)
    obtain ⟨fs, hr, hrun, hended, hW, hsame⟩ := X4.leave (v := some (.ref (f 0))) (fun h => by rw [Bd.returns] at h; cases h)
    refine ⟨_, _, k5 _ ?_, hrun, hended, _, _, rfl, ?_, ⟨_, rfl⟩, hW, hsame.mono (by decide) (by decide)⟩
    · show Steps p.tables e below (T4.setTop (mkF m 7 #[.val (.int p0)] [(.ref (f 0))])) _
      exact retOut X4 hx Bd.returns rfl (Or.inr (Or.inr (Or.inr (Or.inr ⟨rfl, rfl, rfl⟩)))) (hb hby d2_7) hr
    · show Q2 Z p0 f h0 n0 _ T4.heap _
      rw [e4]
      exact ⟨congrArg some (show ((.ref (f 0)) : Value) = own_sel p0 f by unfold own_sel; simp only [if_pos hc2]), N0, rfl⟩
  · have k7 : ∀ t, Steps p.tables e below (s₁.setTop (mkF m 10 #[.val (.int p0)] [(.int (1 : Int32)), (.int p0)])) t → Steps p.tables e below (s₁.setTop (entryFrame m #[(.int p0)] 1)) t := fun t k => k1 t (by
      show Steps p.tables e below (s₁.setTop (mkF m 1 #[.val (.int p0)] [(.int p0)])) _
      refine XS.ifYes X0.here hx rfl (pc0 := 1) (pc' := 8) rfl (hb hby d2_1) rfl ((if0 _ _).trans (feq hc2).2) (by decide) (by decide) ?_
      show Steps p.tables e below (s₁.setTop (mkF m 8 #[.val (.int p0)] [])) _
      refine XS.iloadN X0.here hx rfl (hb hby d2_8) rfl ?_
      show Steps p.tables e below (s₁.setTop (mkF m 9 #[.val (.int p0)] [(.int p0)])) _
      refine XS.iconst X0.here hx rfl (hb hby d2_9) ?_
      exact k)
    by_cases hc8 : p0 = (1 : Int32)
    · have k9 : ∀ t, Steps p.tables e below (s₁.setTop (mkF m 13 #[.val (.int p0)] [])) t → Steps p.tables e below (s₁.setTop (entryFrame m #[(.int p0)] 1)) t := fun t k => k7 t (by
        show Steps p.tables e below (s₁.setTop (mkF m 10 #[.val (.int p0)] [(.int (1 : Int32)), (.int p0)])) _
        refine XS.icmpNo X0.here hx rfl (hb hby d2_10) rfl (teq hc8).2 ?_
        exact k)
      obtain ⟨T10, X10, e10, st10⟩ := getS (host := "") X0 hx hZ hown (hw _ (List.mem_of_getElem? (i := 21) rfl)) Via.refl e0 S_1 (g := (mkF m 13 #[.val (.int p0)] [])) rfl (hb hby d2_13)
      have k11 : ∀ t, Steps p.tables e below (T10.setTop (mkF m 16 #[.val (.int p0)] [(.ref (f 1))])) t → Steps p.tables e below (s₁.setTop (entryFrame m #[(.int p0)] 1)) t := fun t k => k9 t (st10 t k)
      obtain ⟨fs, hr, hrun, hended, hW, hsame⟩ := X10.leave (v := some (.ref (f 1))) (fun h => by rw [Bd.returns] at h; cases h)
      refine ⟨_, _, k11 _ ?_, hrun, hended, _, _, rfl, ?_, ⟨_, rfl⟩, hW, hsame.mono (by decide) (by decide)⟩
      · show Steps p.tables e below (T10.setTop (mkF m 16 #[.val (.int p0)] [(.ref (f 1))])) _
        exact retOut X10 hx Bd.returns rfl (Or.inr (Or.inr (Or.inr (Or.inr ⟨rfl, rfl, rfl⟩)))) (hb hby d2_16) hr
      · show Q2 Z p0 f h0 n0 _ T10.heap _
        rw [e10]
        exact ⟨congrArg some (show ((.ref (f 1)) : Value) = own_sel p0 f by unfold own_sel; simp only [if_neg hc2, if_pos hc8]), N0, rfl⟩
    · have k13 : ∀ t, Steps p.tables e below (s₁.setTop (mkF m 19 #[.val (.int p0)] [(.int (2 : Int32)), (.int p0)])) t → Steps p.tables e below (s₁.setTop (entryFrame m #[(.int p0)] 1)) t := fun t k => k7 t (by
        show Steps p.tables e below (s₁.setTop (mkF m 10 #[.val (.int p0)] [(.int (1 : Int32)), (.int p0)])) _
        refine XS.icmpYes X0.here hx rfl (pc0 := 10) (pc' := 17) rfl (hb hby d2_10) rfl (feq hc8).2 (by decide) (by decide) ?_
        show Steps p.tables e below (s₁.setTop (mkF m 17 #[.val (.int p0)] [])) _
        refine XS.iloadN X0.here hx rfl (hb hby d2_17) rfl ?_
        show Steps p.tables e below (s₁.setTop (mkF m 18 #[.val (.int p0)] [(.int p0)])) _
        refine XS.iconst X0.here hx rfl (hb hby d2_18) ?_
        exact k)
      by_cases hc14 : p0 = (2 : Int32)
      · have k15 : ∀ t, Steps p.tables e below (s₁.setTop (mkF m 22 #[.val (.int p0)] [])) t → Steps p.tables e below (s₁.setTop (entryFrame m #[(.int p0)] 1)) t := fun t k => k13 t (by
          show Steps p.tables e below (s₁.setTop (mkF m 19 #[.val (.int p0)] [(.int (2 : Int32)), (.int p0)])) _
          refine XS.icmpNo X0.here hx rfl (hb hby d2_19) rfl (teq hc14).2 ?_
          exact k)
        obtain ⟨T16, X16, e16, st16⟩ := getS (host := "") X0 hx hZ hown (hw _ (List.mem_of_getElem? (i := 23) rfl)) Via.refl e0 S_2 (g := (mkF m 22 #[.val (.int p0)] [])) rfl (hb hby d2_22)
        have k17 : ∀ t, Steps p.tables e below (T16.setTop (mkF m 25 #[.val (.int p0)] [(.ref (f 2))])) t → Steps p.tables e below (s₁.setTop (entryFrame m #[(.int p0)] 1)) t := fun t k => k15 t (st16 t k)
        obtain ⟨fs, hr, hrun, hended, hW, hsame⟩ := X16.leave (v := some (.ref (f 2))) (fun h => by rw [Bd.returns] at h; cases h)
        refine ⟨_, _, k17 _ ?_, hrun, hended, _, _, rfl, ?_, ⟨_, rfl⟩, hW, hsame.mono (by decide) (by decide)⟩
        · show Steps p.tables e below (T16.setTop (mkF m 25 #[.val (.int p0)] [(.ref (f 2))])) _
          exact retOut X16 hx Bd.returns rfl (Or.inr (Or.inr (Or.inr (Or.inr ⟨rfl, rfl, rfl⟩)))) (hb hby d2_25) hr
        · show Q2 Z p0 f h0 n0 _ T16.heap _
          rw [e16]
          exact ⟨congrArg some (show ((.ref (f 2)) : Value) = own_sel p0 f by unfold own_sel; simp only [if_neg hc2, if_neg hc8, if_pos hc14]), N0, rfl⟩
      · have k19 : ∀ t, Steps p.tables e below (s₁.setTop (mkF m 28 #[.val (.int p0)] [(.int (3 : Int32)), (.int p0)])) t → Steps p.tables e below (s₁.setTop (entryFrame m #[(.int p0)] 1)) t := fun t k => k13 t (by
          show Steps p.tables e below (s₁.setTop (mkF m 19 #[.val (.int p0)] [(.int (2 : Int32)), (.int p0)])) _
          refine XS.icmpYes X0.here hx rfl (pc0 := 19) (pc' := 26) rfl (hb hby d2_19) rfl (feq hc14).2 (by decide) (by decide) ?_
          show Steps p.tables e below (s₁.setTop (mkF m 26 #[.val (.int p0)] [])) _
          refine XS.iloadN X0.here hx rfl (hb hby d2_26) rfl ?_
          show Steps p.tables e below (s₁.setTop (mkF m 27 #[.val (.int p0)] [(.int p0)])) _
          refine XS.iconst X0.here hx rfl (hb hby d2_27) ?_
          exact k)
        by_cases hc20 : p0 = (3 : Int32)
        · have k21 : ∀ t, Steps p.tables e below (s₁.setTop (mkF m 31 #[.val (.int p0)] [])) t → Steps p.tables e below (s₁.setTop (entryFrame m #[(.int p0)] 1)) t := fun t k => k19 t (by
            show Steps p.tables e below (s₁.setTop (mkF m 28 #[.val (.int p0)] [(.int (3 : Int32)), (.int p0)])) _
            refine XS.icmpNo X0.here hx rfl (hb hby d2_28) rfl (teq hc20).2 ?_
            exact k)
          obtain ⟨T22, X22, e22, st22⟩ := getS (host := "") X0 hx hZ hown (hw _ (List.mem_of_getElem? (i := 19) rfl)) Via.refl e0 S_3 (g := (mkF m 31 #[.val (.int p0)] [])) rfl (hb hby d2_31)
          have k23 : ∀ t, Steps p.tables e below (T22.setTop (mkF m 34 #[.val (.int p0)] [(.ref (f 3))])) t → Steps p.tables e below (s₁.setTop (entryFrame m #[(.int p0)] 1)) t := fun t k => k21 t (st22 t k)
          obtain ⟨fs, hr, hrun, hended, hW, hsame⟩ := X22.leave (v := some (.ref (f 3))) (fun h => by rw [Bd.returns] at h; cases h)
          refine ⟨_, _, k23 _ ?_, hrun, hended, _, _, rfl, ?_, ⟨_, rfl⟩, hW, hsame.mono (by decide) (by decide)⟩
          · show Steps p.tables e below (T22.setTop (mkF m 34 #[.val (.int p0)] [(.ref (f 3))])) _
            exact retOut X22 hx Bd.returns rfl (Or.inr (Or.inr (Or.inr (Or.inr ⟨rfl, rfl, rfl⟩)))) (hb hby d2_34) hr
          · show Q2 Z p0 f h0 n0 _ T22.heap _
            rw [e22]
            exact ⟨congrArg some (show ((.ref (f 3)) : Value) = own_sel p0 f by unfold own_sel; simp only [if_neg hc2, if_neg hc8, if_neg hc14, if_pos hc20]), N0, rfl⟩
        · have k25 : ∀ t, Steps p.tables e below (s₁.setTop (mkF m 38 #[.val (.int p0)] [(.int (8 : Int32)), (.int p0)])) t → Steps p.tables e below (s₁.setTop (entryFrame m #[(.int p0)] 1)) t := fun t k => k19 t (by
            show Steps p.tables e below (s₁.setTop (mkF m 28 #[.val (.int p0)] [(.int (3 : Int32)), (.int p0)])) _
            refine XS.icmpYes X0.here hx rfl (pc0 := 28) (pc' := 35) rfl (hb hby d2_28) rfl (feq hc20).2 (by decide) (by decide) ?_
            show Steps p.tables e below (s₁.setTop (mkF m 35 #[.val (.int p0)] [])) _
            refine XS.iloadN X0.here hx rfl (hb hby d2_35) rfl ?_
            show Steps p.tables e below (s₁.setTop (mkF m 36 #[.val (.int p0)] [(.int p0)])) _
            refine XS.bipush X0.here hx rfl (hb hby d2_36) ?_
            exact k)
          by_cases hc26 : p0 = (8 : Int32)
          · have k27 : ∀ t, Steps p.tables e below (s₁.setTop (mkF m 41 #[.val (.int p0)] [])) t → Steps p.tables e below (s₁.setTop (entryFrame m #[(.int p0)] 1)) t := fun t k => k25 t (by
              show Steps p.tables e below (s₁.setTop (mkF m 38 #[.val (.int p0)] [(.int (8 : Int32)), (.int p0)])) _
              refine XS.icmpNo X0.here hx rfl (hb hby d2_38) rfl (teq hc26).2 ?_
              exact k)
            obtain ⟨T28, X28, e28, st28⟩ := getS (host := "") X0 hx hZ hown (hw _ (List.mem_of_getElem? (i := 15) rfl)) Via.refl e0 S_4 (g := (mkF m 41 #[.val (.int p0)] [])) rfl (hb hby d2_41)
            have k29 : ∀ t, Steps p.tables e below (T28.setTop (mkF m 44 #[.val (.int p0)] [(.ref (f 4))])) t → Steps p.tables e below (s₁.setTop (entryFrame m #[(.int p0)] 1)) t := fun t k => k27 t (st28 t k)
            obtain ⟨fs, hr, hrun, hended, hW, hsame⟩ := X28.leave (v := some (.ref (f 4))) (fun h => by rw [Bd.returns] at h; cases h)
            refine ⟨_, _, k29 _ ?_, hrun, hended, _, _, rfl, ?_, ⟨_, rfl⟩, hW, hsame.mono (by decide) (by decide)⟩
            · show Steps p.tables e below (T28.setTop (mkF m 44 #[.val (.int p0)] [(.ref (f 4))])) _
              exact retOut X28 hx Bd.returns rfl (Or.inr (Or.inr (Or.inr (Or.inr ⟨rfl, rfl, rfl⟩)))) (hb hby d2_44) hr
            · show Q2 Z p0 f h0 n0 _ T28.heap _
              rw [e28]
              exact ⟨congrArg some (show ((.ref (f 4)) : Value) = own_sel p0 f by unfold own_sel; simp only [if_neg hc2, if_neg hc8, if_neg hc14, if_neg hc20, if_pos hc26]), N0, rfl⟩
          · have k31 : ∀ t, Steps p.tables e below (s₁.setTop (mkF m 48 #[.val (.int p0)] [(.int (9 : Int32)), (.int p0)])) t → Steps p.tables e below (s₁.setTop (entryFrame m #[(.int p0)] 1)) t := fun t k => k25 t (by
              show Steps p.tables e below (s₁.setTop (mkF m 38 #[.val (.int p0)] [(.int (8 : Int32)), (.int p0)])) _
              refine XS.icmpYes X0.here hx rfl (pc0 := 38) (pc' := 45) rfl (hb hby d2_38) rfl (feq hc26).2 (by decide) (by decide) ?_
              show Steps p.tables e below (s₁.setTop (mkF m 45 #[.val (.int p0)] [])) _
              refine XS.iloadN X0.here hx rfl (hb hby d2_45) rfl ?_
              show Steps p.tables e below (s₁.setTop (mkF m 46 #[.val (.int p0)] [(.int p0)])) _
              refine XS.bipush X0.here hx rfl (hb hby d2_46) ?_
              exact k)
            by_cases hc32 : p0 = (9 : Int32)
            · have k33 : ∀ t, Steps p.tables e below (s₁.setTop (mkF m 51 #[.val (.int p0)] [])) t → Steps p.tables e below (s₁.setTop (entryFrame m #[(.int p0)] 1)) t := fun t k => k31 t (by
                show Steps p.tables e below (s₁.setTop (mkF m 48 #[.val (.int p0)] [(.int (9 : Int32)), (.int p0)])) _
                refine XS.icmpNo X0.here hx rfl (hb hby d2_48) rfl (teq hc32).2 ?_
                exact k)
              obtain ⟨T34, X34, e34, st34⟩ := getS (host := "") X0 hx hZ hown (hw _ (List.mem_of_getElem? (i := 29) rfl)) Via.refl e0 S_5 (g := (mkF m 51 #[.val (.int p0)] [])) rfl (hb hby d2_51)
              have k35 : ∀ t, Steps p.tables e below (T34.setTop (mkF m 54 #[.val (.int p0)] [(.ref (f 5))])) t → Steps p.tables e below (s₁.setTop (entryFrame m #[(.int p0)] 1)) t := fun t k => k33 t (st34 t k)
              obtain ⟨fs, hr, hrun, hended, hW, hsame⟩ := X34.leave (v := some (.ref (f 5))) (fun h => by rw [Bd.returns] at h; cases h)
              refine ⟨_, _, k35 _ ?_, hrun, hended, _, _, rfl, ?_, ⟨_, rfl⟩, hW, hsame.mono (by decide) (by decide)⟩
              · show Steps p.tables e below (T34.setTop (mkF m 54 #[.val (.int p0)] [(.ref (f 5))])) _
                exact retOut X34 hx Bd.returns rfl (Or.inr (Or.inr (Or.inr (Or.inr ⟨rfl, rfl, rfl⟩)))) (hb hby d2_54) hr
              · show Q2 Z p0 f h0 n0 _ T34.heap _
                rw [e34]
                exact ⟨congrArg some (show ((.ref (f 5)) : Value) = own_sel p0 f by unfold own_sel; simp only [if_neg hc2, if_neg hc8, if_neg hc14, if_neg hc20, if_neg hc26, if_pos hc32]), N0, rfl⟩
            · have k37 : ∀ t, Steps p.tables e below (s₁.setTop (mkF m 58 #[.val (.int p0)] [(.int (10 : Int32)), (.int p0)])) t → Steps p.tables e below (s₁.setTop (entryFrame m #[(.int p0)] 1)) t := fun t k => k31 t (by
                show Steps p.tables e below (s₁.setTop (mkF m 48 #[.val (.int p0)] [(.int (9 : Int32)), (.int p0)])) _
                refine XS.icmpYes X0.here hx rfl (pc0 := 48) (pc' := 55) rfl (hb hby d2_48) rfl (feq hc32).2 (by decide) (by decide) ?_
                show Steps p.tables e below (s₁.setTop (mkF m 55 #[.val (.int p0)] [])) _
                refine XS.iloadN X0.here hx rfl (hb hby d2_55) rfl ?_
                show Steps p.tables e below (s₁.setTop (mkF m 56 #[.val (.int p0)] [(.int p0)])) _
                refine XS.bipush X0.here hx rfl (hb hby d2_56) ?_
                exact k)
              by_cases hc38 : p0 = (10 : Int32)
              · have k39 : ∀ t, Steps p.tables e below (s₁.setTop (mkF m 61 #[.val (.int p0)] [])) t → Steps p.tables e below (s₁.setTop (entryFrame m #[(.int p0)] 1)) t := fun t k => k37 t (by
                  show Steps p.tables e below (s₁.setTop (mkF m 58 #[.val (.int p0)] [(.int (10 : Int32)), (.int p0)])) _
                  refine XS.icmpNo X0.here hx rfl (hb hby d2_58) rfl (teq hc38).2 ?_
                  exact k)
                obtain ⟨T40, X40, e40, st40⟩ := getS (host := "") X0 hx hZ hown (hw _ (List.mem_of_getElem? (i := 25) rfl)) Via.refl e0 S_6 (g := (mkF m 61 #[.val (.int p0)] [])) rfl (hb hby d2_61)
                have k41 : ∀ t, Steps p.tables e below (T40.setTop (mkF m 64 #[.val (.int p0)] [(.ref (f 6))])) t → Steps p.tables e below (s₁.setTop (entryFrame m #[(.int p0)] 1)) t := fun t k => k39 t (st40 t k)
                obtain ⟨fs, hr, hrun, hended, hW, hsame⟩ := X40.leave (v := some (.ref (f 6))) (fun h => by rw [Bd.returns] at h; cases h)
                refine ⟨_, _, k41 _ ?_, hrun, hended, _, _, rfl, ?_, ⟨_, rfl⟩, hW, hsame.mono (by decide) (by decide)⟩
                · show Steps p.tables e below (T40.setTop (mkF m 64 #[.val (.int p0)] [(.ref (f 6))])) _
                  exact retOut X40 hx Bd.returns rfl (Or.inr (Or.inr (Or.inr (Or.inr ⟨rfl, rfl, rfl⟩)))) (hb hby d2_64) hr
                · show Q2 Z p0 f h0 n0 _ T40.heap _
                  rw [e40]
                  exact ⟨congrArg some (show ((.ref (f 6)) : Value) = own_sel p0 f by unfold own_sel; simp only [if_neg hc2, if_neg hc8, if_neg hc14, if_neg hc20, if_neg hc26, if_neg hc32, if_pos hc38]), N0, rfl⟩
              · have k43 : ∀ t, Steps p.tables e below (s₁.setTop (mkF m 68 #[.val (.int p0)] [(.int (11 : Int32)), (.int p0)])) t → Steps p.tables e below (s₁.setTop (entryFrame m #[(.int p0)] 1)) t := fun t k => k37 t (by
                  show Steps p.tables e below (s₁.setTop (mkF m 58 #[.val (.int p0)] [(.int (10 : Int32)), (.int p0)])) _
                  refine XS.icmpYes X0.here hx rfl (pc0 := 58) (pc' := 65) rfl (hb hby d2_58) rfl (feq hc38).2 (by decide) (by decide) ?_
                  show Steps p.tables e below (s₁.setTop (mkF m 65 #[.val (.int p0)] [])) _
                  refine XS.iloadN X0.here hx rfl (hb hby d2_65) rfl ?_
                  show Steps p.tables e below (s₁.setTop (mkF m 66 #[.val (.int p0)] [(.int p0)])) _
                  refine XS.bipush X0.here hx rfl (hb hby d2_66) ?_
                  exact k)
                by_cases hc44 : p0 = (11 : Int32)
                · have k45 : ∀ t, Steps p.tables e below (s₁.setTop (mkF m 71 #[.val (.int p0)] [])) t → Steps p.tables e below (s₁.setTop (entryFrame m #[(.int p0)] 1)) t := fun t k => k43 t (by
                    show Steps p.tables e below (s₁.setTop (mkF m 68 #[.val (.int p0)] [(.int (11 : Int32)), (.int p0)])) _
                    refine XS.icmpNo X0.here hx rfl (hb hby d2_68) rfl (teq hc44).2 ?_
                    exact k)
                  obtain ⟨T46, X46, e46, st46⟩ := getS (host := "") X0 hx hZ hown (hw _ (List.mem_of_getElem? (i := 27) rfl)) Via.refl e0 S_7 (g := (mkF m 71 #[.val (.int p0)] [])) rfl (hb hby d2_71)
                  have k47 : ∀ t, Steps p.tables e below (T46.setTop (mkF m 74 #[.val (.int p0)] [(.ref (f 7))])) t → Steps p.tables e below (s₁.setTop (entryFrame m #[(.int p0)] 1)) t := fun t k => k45 t (st46 t k)
                  obtain ⟨fs, hr, hrun, hended, hW, hsame⟩ := X46.leave (v := some (.ref (f 7))) (fun h => by rw [Bd.returns] at h; cases h)
                  refine ⟨_, _, k47 _ ?_, hrun, hended, _, _, rfl, ?_, ⟨_, rfl⟩, hW, hsame.mono (by decide) (by decide)⟩
                  · show Steps p.tables e below (T46.setTop (mkF m 74 #[.val (.int p0)] [(.ref (f 7))])) _
                    exact retOut X46 hx Bd.returns rfl (Or.inr (Or.inr (Or.inr (Or.inr ⟨rfl, rfl, rfl⟩)))) (hb hby d2_74) hr
                  · show Q2 Z p0 f h0 n0 _ T46.heap _
                    rw [e46]
                    exact ⟨congrArg some (show ((.ref (f 7)) : Value) = own_sel p0 f by unfold own_sel; simp only [if_neg hc2, if_neg hc8, if_neg hc14, if_neg hc20, if_neg hc26, if_neg hc32, if_neg hc38, if_pos hc44]), N0, rfl⟩
                · have k49 : ∀ t, Steps p.tables e below (s₁.setTop (mkF m 78 #[.val (.int p0)] [(.int (12 : Int32)), (.int p0)])) t → Steps p.tables e below (s₁.setTop (entryFrame m #[(.int p0)] 1)) t := fun t k => k43 t (by
                    show Steps p.tables e below (s₁.setTop (mkF m 68 #[.val (.int p0)] [(.int (11 : Int32)), (.int p0)])) _
                    refine XS.icmpYes X0.here hx rfl (pc0 := 68) (pc' := 75) rfl (hb hby d2_68) rfl (feq hc44).2 (by decide) (by decide) ?_
                    show Steps p.tables e below (s₁.setTop (mkF m 75 #[.val (.int p0)] [])) _
                    refine XS.iloadN X0.here hx rfl (hb hby d2_75) rfl ?_
                    show Steps p.tables e below (s₁.setTop (mkF m 76 #[.val (.int p0)] [(.int p0)])) _
                    refine XS.bipush X0.here hx rfl (hb hby d2_76) ?_
                    exact k)
                  by_cases hc50 : p0 = (12 : Int32)
                  · have k51 : ∀ t, Steps p.tables e below (s₁.setTop (mkF m 81 #[.val (.int p0)] [])) t → Steps p.tables e below (s₁.setTop (entryFrame m #[(.int p0)] 1)) t := fun t k => k49 t (by
                      show Steps p.tables e below (s₁.setTop (mkF m 78 #[.val (.int p0)] [(.int (12 : Int32)), (.int p0)])) _
                      refine XS.icmpNo X0.here hx rfl (hb hby d2_78) rfl (teq hc50).2 ?_
                      exact k)
                    obtain ⟨T52, X52, e52, st52⟩ := getS (host := "") X0 hx hZ hown (hw _ (List.mem_of_getElem? (i := 17) rfl)) Via.refl e0 S_8 (g := (mkF m 81 #[.val (.int p0)] [])) rfl (hb hby d2_81)
                    have k53 : ∀ t, Steps p.tables e below (T52.setTop (mkF m 84 #[.val (.int p0)] [(.ref (f 8))])) t → Steps p.tables e below (s₁.setTop (entryFrame m #[(.int p0)] 1)) t := fun t k => k51 t (st52 t k)
                    obtain ⟨fs, hr, hrun, hended, hW, hsame⟩ := X52.leave (v := some (.ref (f 8))) (fun h => by rw [Bd.returns] at h; cases h)
                    refine ⟨_, _, k53 _ ?_, hrun, hended, _, _, rfl, ?_, ⟨_, rfl⟩, hW, hsame.mono (by decide) (by decide)⟩
                    · show Steps p.tables e below (T52.setTop (mkF m 84 #[.val (.int p0)] [(.ref (f 8))])) _
                      exact retOut X52 hx Bd.returns rfl (Or.inr (Or.inr (Or.inr (Or.inr ⟨rfl, rfl, rfl⟩)))) (hb hby d2_84) hr
                    · show Q2 Z p0 f h0 n0 _ T52.heap _
                      rw [e52]
                      exact ⟨congrArg some (show ((.ref (f 8)) : Value) = own_sel p0 f by unfold own_sel; simp only [if_neg hc2, if_neg hc8, if_neg hc14, if_neg hc20, if_neg hc26, if_neg hc32, if_neg hc38, if_neg hc44, if_pos hc50]), N0, rfl⟩
                  · have k55 : ∀ t, Steps p.tables e below (s₁.setTop (mkF m 88 #[.val (.int p0)] [(.int (13 : Int32)), (.int p0)])) t → Steps p.tables e below (s₁.setTop (entryFrame m #[(.int p0)] 1)) t := fun t k => k49 t (by
                      show Steps p.tables e below (s₁.setTop (mkF m 78 #[.val (.int p0)] [(.int (12 : Int32)), (.int p0)])) _
                      refine XS.icmpYes X0.here hx rfl (pc0 := 78) (pc' := 85) rfl (hb hby d2_78) rfl (feq hc50).2 (by decide) (by decide) ?_
                      show Steps p.tables e below (s₁.setTop (mkF m 85 #[.val (.int p0)] [])) _
                      refine XS.iloadN X0.here hx rfl (hb hby d2_85) rfl ?_
                      show Steps p.tables e below (s₁.setTop (mkF m 86 #[.val (.int p0)] [(.int p0)])) _
                      refine XS.bipush X0.here hx rfl (hb hby d2_86) ?_
                      exact k)
                    by_cases hc56 : p0 = (13 : Int32)
                    · have k57 : ∀ t, Steps p.tables e below (s₁.setTop (mkF m 91 #[.val (.int p0)] [])) t → Steps p.tables e below (s₁.setTop (entryFrame m #[(.int p0)] 1)) t := fun t k => k55 t (by
                        show Steps p.tables e below (s₁.setTop (mkF m 88 #[.val (.int p0)] [(.int (13 : Int32)), (.int p0)])) _
                        refine XS.icmpNo X0.here hx rfl (hb hby d2_88) rfl (teq hc56).2 ?_
                        exact k)
                      obtain ⟨T58, X58, e58, st58⟩ := getS (host := "") X0 hx hZ hown (hw _ (List.mem_of_getElem? (i := 33) rfl)) Via.refl e0 S_9 (g := (mkF m 91 #[.val (.int p0)] [])) rfl (hb hby d2_91)
                      have k59 : ∀ t, Steps p.tables e below (T58.setTop (mkF m 94 #[.val (.int p0)] [(.ref (f 9))])) t → Steps p.tables e below (s₁.setTop (entryFrame m #[(.int p0)] 1)) t := fun t k => k57 t (st58 t k)
                      obtain ⟨fs, hr, hrun, hended, hW, hsame⟩ := X58.leave (v := some (.ref (f 9))) (fun h => by rw [Bd.returns] at h; cases h)
                      refine ⟨_, _, k59 _ ?_, hrun, hended, _, _, rfl, ?_, ⟨_, rfl⟩, hW, hsame.mono (by decide) (by decide)⟩
                      · show Steps p.tables e below (T58.setTop (mkF m 94 #[.val (.int p0)] [(.ref (f 9))])) _
                        exact retOut X58 hx Bd.returns rfl (Or.inr (Or.inr (Or.inr (Or.inr ⟨rfl, rfl, rfl⟩)))) (hb hby d2_94) hr
                      · show Q2 Z p0 f h0 n0 _ T58.heap _
                        rw [e58]
                        exact ⟨congrArg some (show ((.ref (f 9)) : Value) = own_sel p0 f by unfold own_sel; simp only [if_neg hc2, if_neg hc8, if_neg hc14, if_neg hc20, if_neg hc26, if_neg hc32, if_neg hc38, if_neg hc44, if_neg hc50, if_pos hc56]), N0, rfl⟩
                    · have k61 : ∀ t, Steps p.tables e below (s₁.setTop (mkF m 98 #[.val (.int p0)] [(.int (14 : Int32)), (.int p0)])) t → Steps p.tables e below (s₁.setTop (entryFrame m #[(.int p0)] 1)) t := fun t k => k55 t (by
                        show Steps p.tables e below (s₁.setTop (mkF m 88 #[.val (.int p0)] [(.int (13 : Int32)), (.int p0)])) _
                        refine XS.icmpYes X0.here hx rfl (pc0 := 88) (pc' := 95) rfl (hb hby d2_88) rfl (feq hc56).2 (by decide) (by decide) ?_
                        show Steps p.tables e below (s₁.setTop (mkF m 95 #[.val (.int p0)] [])) _
                        refine XS.iloadN X0.here hx rfl (hb hby d2_95) rfl ?_
                        show Steps p.tables e below (s₁.setTop (mkF m 96 #[.val (.int p0)] [(.int p0)])) _
                        refine XS.bipush X0.here hx rfl (hb hby d2_96) ?_
                        exact k)
                      by_cases hc62 : p0 = (14 : Int32)
                      · have k63 : ∀ t, Steps p.tables e below (s₁.setTop (mkF m 101 #[.val (.int p0)] [])) t → Steps p.tables e below (s₁.setTop (entryFrame m #[(.int p0)] 1)) t := fun t k => k61 t (by
                          show Steps p.tables e below (s₁.setTop (mkF m 98 #[.val (.int p0)] [(.int (14 : Int32)), (.int p0)])) _
                          refine XS.icmpNo X0.here hx rfl (hb hby d2_98) rfl (teq hc62).2 ?_
                          exact k)
                        obtain ⟨T64, X64, e64, st64⟩ := getS (host := "") X0 hx hZ hown (hw _ (List.mem_of_getElem? (i := 13) rfl)) Via.refl e0 S_10 (g := (mkF m 101 #[.val (.int p0)] [])) rfl (hb hby d2_101)
                        have k65 : ∀ t, Steps p.tables e below (T64.setTop (mkF m 104 #[.val (.int p0)] [(.ref (f 10))])) t → Steps p.tables e below (s₁.setTop (entryFrame m #[(.int p0)] 1)) t := fun t k => k63 t (st64 t k)
                        obtain ⟨fs, hr, hrun, hended, hW, hsame⟩ := X64.leave (v := some (.ref (f 10))) (fun h => by rw [Bd.returns] at h; cases h)
                        refine ⟨_, _, k65 _ ?_, hrun, hended, _, _, rfl, ?_, ⟨_, rfl⟩, hW, hsame.mono (by decide) (by decide)⟩
                        · show Steps p.tables e below (T64.setTop (mkF m 104 #[.val (.int p0)] [(.ref (f 10))])) _
                          exact retOut X64 hx Bd.returns rfl (Or.inr (Or.inr (Or.inr (Or.inr ⟨rfl, rfl, rfl⟩)))) (hb hby d2_104) hr
                        · show Q2 Z p0 f h0 n0 _ T64.heap _
                          rw [e64]
                          exact ⟨congrArg some (show ((.ref (f 10)) : Value) = own_sel p0 f by unfold own_sel; simp only [if_neg hc2, if_neg hc8, if_neg hc14, if_neg hc20, if_neg hc26, if_neg hc32, if_neg hc38, if_neg hc44, if_neg hc50, if_neg hc56, if_pos hc62]), N0, rfl⟩
                      · have k67 : ∀ t, Steps p.tables e below (s₁.setTop (mkF m 108 #[.val (.int p0)] [(.int (15 : Int32)), (.int p0)])) t → Steps p.tables e below (s₁.setTop (entryFrame m #[(.int p0)] 1)) t := fun t k => k61 t (by
                          show Steps p.tables e below (s₁.setTop (mkF m 98 #[.val (.int p0)] [(.int (14 : Int32)), (.int p0)])) _
                          refine XS.icmpYes X0.here hx rfl (pc0 := 98) (pc' := 105) rfl (hb hby d2_98) rfl (feq hc62).2 (by decide) (by decide) ?_
                          show Steps p.tables e below (s₁.setTop (mkF m 105 #[.val (.int p0)] [])) _
                          refine XS.iloadN X0.here hx rfl (hb hby d2_105) rfl ?_
                          show Steps p.tables e below (s₁.setTop (mkF m 106 #[.val (.int p0)] [(.int p0)])) _
                          refine XS.bipush X0.here hx rfl (hb hby d2_106) ?_
                          exact k)
                        by_cases hc68 : p0 = (15 : Int32)
                        · have k69 : ∀ t, Steps p.tables e below (s₁.setTop (mkF m 111 #[.val (.int p0)] [])) t → Steps p.tables e below (s₁.setTop (entryFrame m #[(.int p0)] 1)) t := fun t k => k67 t (by
                            show Steps p.tables e below (s₁.setTop (mkF m 108 #[.val (.int p0)] [(.int (15 : Int32)), (.int p0)])) _
                            refine XS.icmpNo X0.here hx rfl (hb hby d2_108) rfl (teq hc68).2 ?_
                            exact k)
                          obtain ⟨T70, X70, e70, st70⟩ := getS (host := "") X0 hx hZ hown (hw _ (List.mem_of_getElem? (i := 37) rfl)) Via.refl e0 S_11 (g := (mkF m 111 #[.val (.int p0)] [])) rfl (hb hby d2_111)
                          have k71 : ∀ t, Steps p.tables e below (T70.setTop (mkF m 114 #[.val (.int p0)] [(.ref (f 11))])) t → Steps p.tables e below (s₁.setTop (entryFrame m #[(.int p0)] 1)) t := fun t k => k69 t (st70 t k)
                          obtain ⟨fs, hr, hrun, hended, hW, hsame⟩ := X70.leave (v := some (.ref (f 11))) (fun h => by rw [Bd.returns] at h; cases h)
                          refine ⟨_, _, k71 _ ?_, hrun, hended, _, _, rfl, ?_, ⟨_, rfl⟩, hW, hsame.mono (by decide) (by decide)⟩
                          · show Steps p.tables e below (T70.setTop (mkF m 114 #[.val (.int p0)] [(.ref (f 11))])) _
                            exact retOut X70 hx Bd.returns rfl (Or.inr (Or.inr (Or.inr (Or.inr ⟨rfl, rfl, rfl⟩)))) (hb hby d2_114) hr
                          · show Q2 Z p0 f h0 n0 _ T70.heap _
                            rw [e70]
                            exact ⟨congrArg some (show ((.ref (f 11)) : Value) = own_sel p0 f by unfold own_sel; simp only [if_neg hc2, if_neg hc8, if_neg hc14, if_neg hc20, if_neg hc26, if_neg hc32, if_neg hc38, if_neg hc44, if_neg hc50, if_neg hc56, if_neg hc62, if_pos hc68]), N0, rfl⟩
                        · have k73 : ∀ t, Steps p.tables e below (s₁.setTop (mkF m 118 #[.val (.int p0)] [(.int (16 : Int32)), (.int p0)])) t → Steps p.tables e below (s₁.setTop (entryFrame m #[(.int p0)] 1)) t := fun t k => k67 t (by
                            show Steps p.tables e below (s₁.setTop (mkF m 108 #[.val (.int p0)] [(.int (15 : Int32)), (.int p0)])) _
                            refine XS.icmpYes X0.here hx rfl (pc0 := 108) (pc' := 115) rfl (hb hby d2_108) rfl (feq hc68).2 (by decide) (by decide) ?_
                            show Steps p.tables e below (s₁.setTop (mkF m 115 #[.val (.int p0)] [])) _
                            refine XS.iloadN X0.here hx rfl (hb hby d2_115) rfl ?_
                            show Steps p.tables e below (s₁.setTop (mkF m 116 #[.val (.int p0)] [(.int p0)])) _
                            refine XS.bipush X0.here hx rfl (hb hby d2_116) ?_
                            exact k)
                          by_cases hc74 : p0 = (16 : Int32)
                          · have k75 : ∀ t, Steps p.tables e below (s₁.setTop (mkF m 121 #[.val (.int p0)] [])) t → Steps p.tables e below (s₁.setTop (entryFrame m #[(.int p0)] 1)) t := fun t k => k73 t (by
                              show Steps p.tables e below (s₁.setTop (mkF m 118 #[.val (.int p0)] [(.int (16 : Int32)), (.int p0)])) _
                              refine XS.icmpNo X0.here hx rfl (hb hby d2_118) rfl (teq hc74).2 ?_
                              exact k)
                            obtain ⟨T76, X76, e76, st76⟩ := getS (host := "") X0 hx hZ hown (hw _ (List.mem_of_getElem? (i := 41) rfl)) Via.refl e0 S_12 (g := (mkF m 121 #[.val (.int p0)] [])) rfl (hb hby d2_121)
                            have k77 : ∀ t, Steps p.tables e below (T76.setTop (mkF m 124 #[.val (.int p0)] [(.ref (f 12))])) t → Steps p.tables e below (s₁.setTop (entryFrame m #[(.int p0)] 1)) t := fun t k => k75 t (st76 t k)
                            obtain ⟨fs, hr, hrun, hended, hW, hsame⟩ := X76.leave (v := some (.ref (f 12))) (fun h => by rw [Bd.returns] at h; cases h)
                            refine ⟨_, _, k77 _ ?_, hrun, hended, _, _, rfl, ?_, ⟨_, rfl⟩, hW, hsame.mono (by decide) (by decide)⟩
                            · show Steps p.tables e below (T76.setTop (mkF m 124 #[.val (.int p0)] [(.ref (f 12))])) _
                              exact retOut X76 hx Bd.returns rfl (Or.inr (Or.inr (Or.inr (Or.inr ⟨rfl, rfl, rfl⟩)))) (hb hby d2_124) hr
                            · show Q2 Z p0 f h0 n0 _ T76.heap _
                              rw [e76]
                              exact ⟨congrArg some (show ((.ref (f 12)) : Value) = own_sel p0 f by unfold own_sel; simp only [if_neg hc2, if_neg hc8, if_neg hc14, if_neg hc20, if_neg hc26, if_neg hc32, if_neg hc38, if_neg hc44, if_neg hc50, if_neg hc56, if_neg hc62, if_neg hc68, if_pos hc74]), N0, rfl⟩
                          · have k79 : ∀ t, Steps p.tables e below (s₁.setTop (mkF m 128 #[.val (.int p0)] [(.int (18 : Int32)), (.int p0)])) t → Steps p.tables e below (s₁.setTop (entryFrame m #[(.int p0)] 1)) t := fun t k => k73 t (by
                              show Steps p.tables e below (s₁.setTop (mkF m 118 #[.val (.int p0)] [(.int (16 : Int32)), (.int p0)])) _
                              refine XS.icmpYes X0.here hx rfl (pc0 := 118) (pc' := 125) rfl (hb hby d2_118) rfl (feq hc74).2 (by decide) (by decide) ?_
                              show Steps p.tables e below (s₁.setTop (mkF m 125 #[.val (.int p0)] [])) _
                              refine XS.iloadN X0.here hx rfl (hb hby d2_125) rfl ?_
                              show Steps p.tables e below (s₁.setTop (mkF m 126 #[.val (.int p0)] [(.int p0)])) _
                              refine XS.bipush X0.here hx rfl (hb hby d2_126) ?_
                              exact k)
                            by_cases hc80 : p0 = (18 : Int32)
                            · have k81 : ∀ t, Steps p.tables e below (s₁.setTop (mkF m 131 #[.val (.int p0)] [])) t → Steps p.tables e below (s₁.setTop (entryFrame m #[(.int p0)] 1)) t := fun t k => k79 t (by
                                show Steps p.tables e below (s₁.setTop (mkF m 128 #[.val (.int p0)] [(.int (18 : Int32)), (.int p0)])) _
                                refine XS.icmpNo X0.here hx rfl (hb hby d2_128) rfl (teq hc80).2 ?_
                                exact k)
                              obtain ⟨T82, X82, e82, st82⟩ := getS (host := "") X0 hx hZ hown (hw _ (List.mem_of_getElem? (i := 31) rfl)) Via.refl e0 S_13 (g := (mkF m 131 #[.val (.int p0)] [])) rfl (hb hby d2_131)
                              have k83 : ∀ t, Steps p.tables e below (T82.setTop (mkF m 134 #[.val (.int p0)] [(.ref (f 13))])) t → Steps p.tables e below (s₁.setTop (entryFrame m #[(.int p0)] 1)) t := fun t k => k81 t (st82 t k)
                              obtain ⟨fs, hr, hrun, hended, hW, hsame⟩ := X82.leave (v := some (.ref (f 13))) (fun h => by rw [Bd.returns] at h; cases h)
                              refine ⟨_, _, k83 _ ?_, hrun, hended, _, _, rfl, ?_, ⟨_, rfl⟩, hW, hsame.mono (by decide) (by decide)⟩
                              · show Steps p.tables e below (T82.setTop (mkF m 134 #[.val (.int p0)] [(.ref (f 13))])) _
                                exact retOut X82 hx Bd.returns rfl (Or.inr (Or.inr (Or.inr (Or.inr ⟨rfl, rfl, rfl⟩)))) (hb hby d2_134) hr
                              · show Q2 Z p0 f h0 n0 _ T82.heap _
                                rw [e82]
                                exact ⟨congrArg some (show ((.ref (f 13)) : Value) = own_sel p0 f by unfold own_sel; simp only [if_neg hc2, if_neg hc8, if_neg hc14, if_neg hc20, if_neg hc26, if_neg hc32, if_neg hc38, if_neg hc44, if_neg hc50, if_neg hc56, if_neg hc62, if_neg hc68, if_neg hc74, if_pos hc80]), N0, rfl⟩
                            · have k85 : ∀ t, Steps p.tables e below (s₁.setTop (mkF m 138 #[.val (.int p0)] [(.int (19 : Int32)), (.int p0)])) t → Steps p.tables e below (s₁.setTop (entryFrame m #[(.int p0)] 1)) t := fun t k => k79 t (by
                                show Steps p.tables e below (s₁.setTop (mkF m 128 #[.val (.int p0)] [(.int (18 : Int32)), (.int p0)])) _
                                refine XS.icmpYes X0.here hx rfl (pc0 := 128) (pc' := 135) rfl (hb hby d2_128) rfl (feq hc80).2 (by decide) (by decide) ?_
                                show Steps p.tables e below (s₁.setTop (mkF m 135 #[.val (.int p0)] [])) _
                                refine XS.iloadN X0.here hx rfl (hb hby d2_135) rfl ?_
                                show Steps p.tables e below (s₁.setTop (mkF m 136 #[.val (.int p0)] [(.int p0)])) _
                                refine XS.bipush X0.here hx rfl (hb hby d2_136) ?_
                                exact k)
                              by_cases hc86 : p0 = (19 : Int32)
                              · have k87 : ∀ t, Steps p.tables e below (s₁.setTop (mkF m 141 #[.val (.int p0)] [])) t → Steps p.tables e below (s₁.setTop (entryFrame m #[(.int p0)] 1)) t := fun t k => k85 t (by
                                  show Steps p.tables e below (s₁.setTop (mkF m 138 #[.val (.int p0)] [(.int (19 : Int32)), (.int p0)])) _
                                  refine XS.icmpNo X0.here hx rfl (hb hby d2_138) rfl (teq hc86).2 ?_
                                  exact k)
                                obtain ⟨T88, X88, e88, st88⟩ := getS (host := "") X0 hx hZ hown (hw _ (List.mem_of_getElem? (i := 39) rfl)) Via.refl e0 S_14 (g := (mkF m 141 #[.val (.int p0)] [])) rfl (hb hby d2_141)
                                have k89 : ∀ t, Steps p.tables e below (T88.setTop (mkF m 144 #[.val (.int p0)] [(.ref (f 14))])) t → Steps p.tables e below (s₁.setTop (entryFrame m #[(.int p0)] 1)) t := fun t k => k87 t (st88 t k)
                                obtain ⟨fs, hr, hrun, hended, hW, hsame⟩ := X88.leave (v := some (.ref (f 14))) (fun h => by rw [Bd.returns] at h; cases h)
                                refine ⟨_, _, k89 _ ?_, hrun, hended, _, _, rfl, ?_, ⟨_, rfl⟩, hW, hsame.mono (by decide) (by decide)⟩
                                · show Steps p.tables e below (T88.setTop (mkF m 144 #[.val (.int p0)] [(.ref (f 14))])) _
                                  exact retOut X88 hx Bd.returns rfl (Or.inr (Or.inr (Or.inr (Or.inr ⟨rfl, rfl, rfl⟩)))) (hb hby d2_144) hr
                                · show Q2 Z p0 f h0 n0 _ T88.heap _
                                  rw [e88]
                                  exact ⟨congrArg some (show ((.ref (f 14)) : Value) = own_sel p0 f by unfold own_sel; simp only [if_neg hc2, if_neg hc8, if_neg hc14, if_neg hc20, if_neg hc26, if_neg hc32, if_neg hc38, if_neg hc44, if_neg hc50, if_neg hc56, if_neg hc62, if_neg hc68, if_neg hc74, if_neg hc80, if_pos hc86]), N0, rfl⟩
                              · have k91 : ∀ t, Steps p.tables e below (s₁.setTop (mkF m 148 #[.val (.int p0)] [(.int (20 : Int32)), (.int p0)])) t → Steps p.tables e below (s₁.setTop (entryFrame m #[(.int p0)] 1)) t := fun t k => k85 t (by
                                  show Steps p.tables e below (s₁.setTop (mkF m 138 #[.val (.int p0)] [(.int (19 : Int32)), (.int p0)])) _
                                  refine XS.icmpYes X0.here hx rfl (pc0 := 138) (pc' := 145) rfl (hb hby d2_138) rfl (feq hc86).2 (by decide) (by decide) ?_
                                  show Steps p.tables e below (s₁.setTop (mkF m 145 #[.val (.int p0)] [])) _
                                  refine XS.iloadN X0.here hx rfl (hb hby d2_145) rfl ?_
                                  show Steps p.tables e below (s₁.setTop (mkF m 146 #[.val (.int p0)] [(.int p0)])) _
                                  refine XS.bipush X0.here hx rfl (hb hby d2_146) ?_
                                  exact k)
                                by_cases hc92 : p0 = (20 : Int32)
                                · have k93 : ∀ t, Steps p.tables e below (s₁.setTop (mkF m 151 #[.val (.int p0)] [])) t → Steps p.tables e below (s₁.setTop (entryFrame m #[(.int p0)] 1)) t := fun t k => k91 t (by
                                    show Steps p.tables e below (s₁.setTop (mkF m 148 #[.val (.int p0)] [(.int (20 : Int32)), (.int p0)])) _
                                    refine XS.icmpNo X0.here hx rfl (hb hby d2_148) rfl (teq hc92).2 ?_
                                    exact k)
                                  obtain ⟨T94, X94, e94, st94⟩ := getS (host := "") X0 hx hZ hown (hw _ (List.mem_of_getElem? (i := 35) rfl)) Via.refl e0 S_15 (g := (mkF m 151 #[.val (.int p0)] [])) rfl (hb hby d2_151)
                                  have k95 : ∀ t, Steps p.tables e below (T94.setTop (mkF m 154 #[.val (.int p0)] [(.ref (f 15))])) t → Steps p.tables e below (s₁.setTop (entryFrame m #[(.int p0)] 1)) t := fun t k => k93 t (st94 t k)
                                  obtain ⟨fs, hr, hrun, hended, hW, hsame⟩ := X94.leave (v := some (.ref (f 15))) (fun h => by rw [Bd.returns] at h; cases h)
                                  refine ⟨_, _, k95 _ ?_, hrun, hended, _, _, rfl, ?_, ⟨_, rfl⟩, hW, hsame.mono (by decide) (by decide)⟩
                                  · show Steps p.tables e below (T94.setTop (mkF m 154 #[.val (.int p0)] [(.ref (f 15))])) _
                                    exact retOut X94 hx Bd.returns rfl (Or.inr (Or.inr (Or.inr (Or.inr ⟨rfl, rfl, rfl⟩)))) (hb hby d2_154) hr
                                  · show Q2 Z p0 f h0 n0 _ T94.heap _
                                    rw [e94]
                                    exact ⟨congrArg some (show ((.ref (f 15)) : Value) = own_sel p0 f by unfold own_sel; simp only [if_neg hc2, if_neg hc8, if_neg hc14, if_neg hc20, if_neg hc26, if_neg hc32, if_neg hc38, if_neg hc44, if_neg hc50, if_neg hc56, if_neg hc62, if_neg hc68, if_neg hc74, if_neg hc80, if_neg hc86, if_pos hc92]), N0, rfl⟩
                                · have k97 : ∀ t, Steps p.tables e below (s₁.setTop (mkF m 158 #[.val (.int p0)] [(.int (22 : Int32)), (.int p0)])) t → Steps p.tables e below (s₁.setTop (entryFrame m #[(.int p0)] 1)) t := fun t k => k91 t (by
                                    show Steps p.tables e below (s₁.setTop (mkF m 148 #[.val (.int p0)] [(.int (20 : Int32)), (.int p0)])) _
                                    refine XS.icmpYes X0.here hx rfl (pc0 := 148) (pc' := 155) rfl (hb hby d2_148) rfl (feq hc92).2 (by decide) (by decide) ?_
                                    show Steps p.tables e below (s₁.setTop (mkF m 155 #[.val (.int p0)] [])) _
                                    refine XS.iloadN X0.here hx rfl (hb hby d2_155) rfl ?_
                                    show Steps p.tables e below (s₁.setTop (mkF m 156 #[.val (.int p0)] [(.int p0)])) _
                                    refine XS.bipush X0.here hx rfl (hb hby d2_156) ?_
                                    exact k)
                                  by_cases hc98 : p0 = (22 : Int32)
                                  · have k99 : ∀ t, Steps p.tables e below (s₁.setTop (mkF m 161 #[.val (.int p0)] [])) t → Steps p.tables e below (s₁.setTop (entryFrame m #[(.int p0)] 1)) t := fun t k => k97 t (by
                                      show Steps p.tables e below (s₁.setTop (mkF m 158 #[.val (.int p0)] [(.int (22 : Int32)), (.int p0)])) _
                                      refine XS.icmpNo X0.here hx rfl (hb hby d2_158) rfl (teq hc98).2 ?_
                                      exact k)
                                    obtain ⟨T100, X100, e100, st100⟩ := getS (host := "") X0 hx hZ hown (hw _ (List.mem_of_getElem? (i := 45) rfl)) Via.refl e0 S_16 (g := (mkF m 161 #[.val (.int p0)] [])) rfl (hb hby d2_161)
                                    have k101 : ∀ t, Steps p.tables e below (T100.setTop (mkF m 164 #[.val (.int p0)] [(.ref (f 16))])) t → Steps p.tables e below (s₁.setTop (entryFrame m #[(.int p0)] 1)) t := fun t k => k99 t (st100 t k)
                                    obtain ⟨fs, hr, hrun, hended, hW, hsame⟩ := X100.leave (v := some (.ref (f 16))) (fun h => by rw [Bd.returns] at h; cases h)
                                    refine ⟨_, _, k101 _ ?_, hrun, hended, _, _, rfl, ?_, ⟨_, rfl⟩, hW, hsame.mono (by decide) (by decide)⟩
                                    · show Steps p.tables e below (T100.setTop (mkF m 164 #[.val (.int p0)] [(.ref (f 16))])) _
                                      exact retOut X100 hx Bd.returns rfl (Or.inr (Or.inr (Or.inr (Or.inr ⟨rfl, rfl, rfl⟩)))) (hb hby d2_164) hr
                                    · show Q2 Z p0 f h0 n0 _ T100.heap _
                                      rw [e100]
                                      exact ⟨congrArg some (show ((.ref (f 16)) : Value) = own_sel p0 f by unfold own_sel; simp only [if_neg hc2, if_neg hc8, if_neg hc14, if_neg hc20, if_neg hc26, if_neg hc32, if_neg hc38, if_neg hc44, if_neg hc50, if_neg hc56, if_neg hc62, if_neg hc68, if_neg hc74, if_neg hc80, if_neg hc86, if_neg hc92, if_pos hc98]), N0, rfl⟩
                                  · have k103 : ∀ t, Steps p.tables e below (s₁.setTop (mkF m 168 #[.val (.int p0)] [(.int (32 : Int32)), (.int p0)])) t → Steps p.tables e below (s₁.setTop (entryFrame m #[(.int p0)] 1)) t := fun t k => k97 t (by
                                      show Steps p.tables e below (s₁.setTop (mkF m 158 #[.val (.int p0)] [(.int (22 : Int32)), (.int p0)])) _
                                      refine XS.icmpYes X0.here hx rfl (pc0 := 158) (pc' := 165) rfl (hb hby d2_158) rfl (feq hc98).2 (by decide) (by decide) ?_
                                      show Steps p.tables e below (s₁.setTop (mkF m 165 #[.val (.int p0)] [])) _
                                      refine XS.iloadN X0.here hx rfl (hb hby d2_165) rfl ?_
                                      show Steps p.tables e below (s₁.setTop (mkF m 166 #[.val (.int p0)] [(.int p0)])) _
                                      refine XS.bipush X0.here hx rfl (hb hby d2_166) ?_
                                      exact k)
                                    by_cases hc104 : p0 = (32 : Int32)
                                    · have k105 : ∀ t, Steps p.tables e below (s₁.setTop (mkF m 171 #[.val (.int p0)] [])) t → Steps p.tables e below (s₁.setTop (entryFrame m #[(.int p0)] 1)) t := fun t k => k103 t (by
                                        show Steps p.tables e below (s₁.setTop (mkF m 168 #[.val (.int p0)] [(.int (32 : Int32)), (.int p0)])) _
                                        refine XS.icmpNo X0.here hx rfl (hb hby d2_168) rfl (teq hc104).2 ?_
                                        exact k)
                                      obtain ⟨T106, X106, e106, st106⟩ := getS (host := "") X0 hx hZ hown (hw _ (List.mem_of_getElem? (i := 47) rfl)) Via.refl e0 S_17 (g := (mkF m 171 #[.val (.int p0)] [])) rfl (hb hby d2_171)
                                      have k107 : ∀ t, Steps p.tables e below (T106.setTop (mkF m 174 #[.val (.int p0)] [(.ref (f 17))])) t → Steps p.tables e below (s₁.setTop (entryFrame m #[(.int p0)] 1)) t := fun t k => k105 t (st106 t k)
                                      obtain ⟨fs, hr, hrun, hended, hW, hsame⟩ := X106.leave (v := some (.ref (f 17))) (fun h => by rw [Bd.returns] at h; cases h)
                                      refine ⟨_, _, k107 _ ?_, hrun, hended, _, _, rfl, ?_, ⟨_, rfl⟩, hW, hsame.mono (by decide) (by decide)⟩
                                      · show Steps p.tables e below (T106.setTop (mkF m 174 #[.val (.int p0)] [(.ref (f 17))])) _
                                        exact retOut X106 hx Bd.returns rfl (Or.inr (Or.inr (Or.inr (Or.inr ⟨rfl, rfl, rfl⟩)))) (hb hby d2_174) hr
                                      · show Q2 Z p0 f h0 n0 _ T106.heap _
                                        rw [e106]
                                        exact ⟨congrArg some (show ((.ref (f 17)) : Value) = own_sel p0 f by unfold own_sel; simp only [if_neg hc2, if_neg hc8, if_neg hc14, if_neg hc20, if_neg hc26, if_neg hc32, if_neg hc38, if_neg hc44, if_neg hc50, if_neg hc56, if_neg hc62, if_neg hc68, if_neg hc74, if_neg hc80, if_neg hc86, if_neg hc92, if_neg hc98, if_pos hc104]), N0, rfl⟩
                                    · have k109 : ∀ t, Steps p.tables e below (s₁.setTop (mkF m 178 #[.val (.int p0)] [(.int (37 : Int32)), (.int p0)])) t → Steps p.tables e below (s₁.setTop (entryFrame m #[(.int p0)] 1)) t := fun t k => k103 t (by
                                        show Steps p.tables e below (s₁.setTop (mkF m 168 #[.val (.int p0)] [(.int (32 : Int32)), (.int p0)])) _
                                        refine XS.icmpYes X0.here hx rfl (pc0 := 168) (pc' := 175) rfl (hb hby d2_168) rfl (feq hc104).2 (by decide) (by decide) ?_
                                        show Steps p.tables e below (s₁.setTop (mkF m 175 #[.val (.int p0)] [])) _
                                        refine XS.iloadN X0.here hx rfl (hb hby d2_175) rfl ?_
                                        show Steps p.tables e below (s₁.setTop (mkF m 176 #[.val (.int p0)] [(.int p0)])) _
                                        refine XS.bipush X0.here hx rfl (hb hby d2_176) ?_
                                        exact k)
                                      by_cases hc110 : p0 = (37 : Int32)
                                      · have k111 : ∀ t, Steps p.tables e below (s₁.setTop (mkF m 181 #[.val (.int p0)] [])) t → Steps p.tables e below (s₁.setTop (entryFrame m #[(.int p0)] 1)) t := fun t k => k109 t (by
                                          show Steps p.tables e below (s₁.setTop (mkF m 178 #[.val (.int p0)] [(.int (37 : Int32)), (.int p0)])) _
                                          refine XS.icmpNo X0.here hx rfl (hb hby d2_178) rfl (teq hc110).2 ?_
                                          exact k)
                                        obtain ⟨T112, X112, e112, st112⟩ := getS (host := "") X0 hx hZ hown (hw _ (List.mem_of_getElem? (i := 43) rfl)) Via.refl e0 S_18 (g := (mkF m 181 #[.val (.int p0)] [])) rfl (hb hby d2_181)
                                        have k113 : ∀ t, Steps p.tables e below (T112.setTop (mkF m 184 #[.val (.int p0)] [(.ref (f 18))])) t → Steps p.tables e below (s₁.setTop (entryFrame m #[(.int p0)] 1)) t := fun t k => k111 t (st112 t k)
                                        obtain ⟨fs, hr, hrun, hended, hW, hsame⟩ := X112.leave (v := some (.ref (f 18))) (fun h => by rw [Bd.returns] at h; cases h)
                                        refine ⟨_, _, k113 _ ?_, hrun, hended, _, _, rfl, ?_, ⟨_, rfl⟩, hW, hsame.mono (by decide) (by decide)⟩
                                        · show Steps p.tables e below (T112.setTop (mkF m 184 #[.val (.int p0)] [(.ref (f 18))])) _
                                          exact retOut X112 hx Bd.returns rfl (Or.inr (Or.inr (Or.inr (Or.inr ⟨rfl, rfl, rfl⟩)))) (hb hby d2_184) hr
                                        · show Q2 Z p0 f h0 n0 _ T112.heap _
                                          rw [e112]
                                          exact ⟨congrArg some (show ((.ref (f 18)) : Value) = own_sel p0 f by unfold own_sel; simp only [if_neg hc2, if_neg hc8, if_neg hc14, if_neg hc20, if_neg hc26, if_neg hc32, if_neg hc38, if_neg hc44, if_neg hc50, if_neg hc56, if_neg hc62, if_neg hc68, if_neg hc74, if_neg hc80, if_neg hc86, if_neg hc92, if_neg hc98, if_neg hc104, if_pos hc110]), N0, rfl⟩
                                      · have k115 : ∀ t, Steps p.tables e below (s₁.setTop (mkF m 188 #[.val (.int p0)] [(.int (42 : Int32)), (.int p0)])) t → Steps p.tables e below (s₁.setTop (entryFrame m #[(.int p0)] 1)) t := fun t k => k109 t (by
                                          show Steps p.tables e below (s₁.setTop (mkF m 178 #[.val (.int p0)] [(.int (37 : Int32)), (.int p0)])) _
                                          refine XS.icmpYes X0.here hx rfl (pc0 := 178) (pc' := 185) rfl (hb hby d2_178) rfl (feq hc110).2 (by decide) (by decide) ?_
                                          show Steps p.tables e below (s₁.setTop (mkF m 185 #[.val (.int p0)] [])) _
                                          refine XS.iloadN X0.here hx rfl (hb hby d2_185) rfl ?_
                                          show Steps p.tables e below (s₁.setTop (mkF m 186 #[.val (.int p0)] [(.int p0)])) _
                                          refine XS.bipush X0.here hx rfl (hb hby d2_186) ?_
                                          exact k)
                                        by_cases hc116 : p0 = (42 : Int32)
                                        · have k117 : ∀ t, Steps p.tables e below (s₁.setTop (mkF m 191 #[.val (.int p0)] [])) t → Steps p.tables e below (s₁.setTop (entryFrame m #[(.int p0)] 1)) t := fun t k => k115 t (by
                                            show Steps p.tables e below (s₁.setTop (mkF m 188 #[.val (.int p0)] [(.int (42 : Int32)), (.int p0)])) _
                                            refine XS.icmpNo X0.here hx rfl (hb hby d2_188) rfl (teq hc116).2 ?_
                                            exact k)
                                          obtain ⟨T118, X118, e118, st118⟩ := getS (host := "") X0 hx hZ hown (hw _ (List.mem_of_getElem? (i := 49) rfl)) Via.refl e0 S_19 (g := (mkF m 191 #[.val (.int p0)] [])) rfl (hb hby d2_191)
                                          have k119 : ∀ t, Steps p.tables e below (T118.setTop (mkF m 194 #[.val (.int p0)] [(.ref (f 19))])) t → Steps p.tables e below (s₁.setTop (entryFrame m #[(.int p0)] 1)) t := fun t k => k117 t (st118 t k)
                                          obtain ⟨fs, hr, hrun, hended, hW, hsame⟩ := X118.leave (v := some (.ref (f 19))) (fun h => by rw [Bd.returns] at h; cases h)
                                          refine ⟨_, _, k119 _ ?_, hrun, hended, _, _, rfl, ?_, ⟨_, rfl⟩, hW, hsame.mono (by decide) (by decide)⟩
                                          · show Steps p.tables e below (T118.setTop (mkF m 194 #[.val (.int p0)] [(.ref (f 19))])) _
                                            exact retOut X118 hx Bd.returns rfl (Or.inr (Or.inr (Or.inr (Or.inr ⟨rfl, rfl, rfl⟩)))) (hb hby d2_194) hr
                                          · show Q2 Z p0 f h0 n0 _ T118.heap _
                                            rw [e118]
                                            exact ⟨congrArg some (show ((.ref (f 19)) : Value) = own_sel p0 f by unfold own_sel; simp only [if_neg hc2, if_neg hc8, if_neg hc14, if_neg hc20, if_neg hc26, if_neg hc32, if_neg hc38, if_neg hc44, if_neg hc50, if_neg hc56, if_neg hc62, if_neg hc68, if_neg hc74, if_neg hc80, if_neg hc86, if_neg hc92, if_neg hc98, if_neg hc104, if_neg hc110, if_pos hc116]), N0, rfl⟩
                                        · have k121 : ∀ t, Steps p.tables e below (s₁.setTop (mkF m 196 #[.val (.int p0)] [.null])) t → Steps p.tables e below (s₁.setTop (entryFrame m #[(.int p0)] 1)) t := fun t k => k115 t (by
                                            show Steps p.tables e below (s₁.setTop (mkF m 188 #[.val (.int p0)] [(.int (42 : Int32)), (.int p0)])) _
                                            refine XS.icmpYes X0.here hx rfl (pc0 := 188) (pc' := 195) rfl (hb hby d2_188) rfl (feq hc116).2 (by decide) (by decide) ?_
                                            show Steps p.tables e below (s₁.setTop (mkF m 195 #[.val (.int p0)] [])) _
                                            refine XS.aconstNull X0.here hx rfl (hb hby d2_195) ?_
                                            exact k)
                                          obtain ⟨fs, hr, hrun, hended, hW, hsame⟩ := X0.leave (v := some .null) (fun h => by rw [Bd.returns] at h; cases h)
                                          refine ⟨_, _, k121 _ ?_, hrun, hended, _, _, rfl, ?_, ⟨_, rfl⟩, hW, hsame.mono (by decide) (by decide)⟩
                                          · show Steps p.tables e below (s₁.setTop (mkF m 196 #[.val (.int p0)] [.null])) _
                                            exact retOut X0 hx Bd.returns rfl (Or.inr (Or.inr (Or.inr (Or.inr ⟨rfl, rfl, rfl⟩)))) (hb hby d2_196) hr
                                          · show Q2 Z p0 f h0 n0 _ s₁.heap _
                                            rw [e0]
                                            exact ⟨congrArg some (show (.null : Value) = own_sel p0 f by unfold own_sel; simp only [if_neg hc2, if_neg hc8, if_neg hc14, if_neg hc20, if_neg hc26, if_neg hc32, if_neg hc38, if_neg hc44, if_neg hc50, if_neg hc56, if_neg hc62, if_neg hc68, if_neg hc74, if_neg hc80, if_neg hc86, if_neg hc92, if_neg hc98, if_neg hc104, if_neg hc110, if_neg hc116]), N0, rfl⟩
theorem d1_0 : decode prog_22_method_5_code 0 = .ok (.iload_n 0, 1) := by decide +kernel
theorem d1_1 : decode prog_22_method_5_code 1 = .ok (.ifCond .lt 19, 3) := by decide +kernel
theorem d1_4 : decode prog_22_method_5_code 4 = .ok (.iload_n 0, 1) := by decide +kernel
theorem d1_5 : decode prog_22_method_5_code 5 = .ok (.getstatic 101, 3) := by decide +kernel
theorem d1_8 : decode prog_22_method_5_code 8 = .ok (.arraylength, 1) := by decide +kernel
theorem d1_9 : decode prog_22_method_5_code 9 = .ok (.if_icmp .ge 11, 3) := by decide +kernel
theorem d1_12 : decode prog_22_method_5_code 12 = .ok (.getstatic 101, 3) := by decide +kernel
theorem d1_15 : decode prog_22_method_5_code 15 = .ok (.iload_n 0, 1) := by decide +kernel
theorem d1_16 : decode prog_22_method_5_code 16 = .ok (.aaload, 1) := by decide +kernel
theorem d1_17 : decode prog_22_method_5_code 17 = .ok (.goto 4, 3) := by decide +kernel
theorem d1_20 : decode prog_22_method_5_code 20 = .ok (.aconst_null, 1) := by decide +kernel
theorem d1_21 : decode prog_22_method_5_code 21 = .ok (.areturn, 1) := by decide +kernel
theorem pn_1 : plainName "com/example/waxwing/waxwing/protocol/ApiKey" = true := by first | (simp [plainName, overriddenIn]; done) | decide +kernel
theorem ef_1 (m : MethodId) (x0 : Int32) : entryFrame m #[(.int x0)] 1 = mkF m 0 #[.val (.int x0)] [] := by first | (simp [entryFrame, mkF, argsToLocals, Value.category]; done) | rfl
def Q1 (Z : State) (p0 : Int32) (f : Nat → Addr) (ab : Addr) (kb : ClassId) (h0 : Heap) (n0 : Nat) (v : Option Value) (h : Heap) (L : List Loc) : Prop := v = some (own_for p0 f) ∧ Fr n0 L ∧ h = h0
set_option maxRecDepth 65536 in
set_option maxHeartbeats 40000000 in
theorem rm1 (l : Launch) (Z : State) (a0 : Array Value) (hw : ∀ d ∈ tables_1, d.before a0 Z = true) (ws : List Jvm.Cond) (p0 : Int32) (f : Nat → Addr) (ab : Addr) (kb : ClassId) (h0 : Heap) (n0 : Nat) (Z0 : n0 ≤ h0.size) (SB : Sta Z h0 "com/example/waxwing/waxwing/protocol/ApiKey" "BY_ID" "[Lcom/example/waxwing/waxwing/protocol/ApiKey;" (.ref ab)) (VB : Arv Z h0 ab kb (.object "com/example/waxwing/waxwing/protocol/ApiKey") (43 : Int32) (own_vs f) .null) :
    MetFree l (⟨"com/example/waxwing/waxwing/protocol/ApiKey", "forId", "(S)Lcom/example/waxwing/waxwing/protocol/ApiKey;"⟩ : MethodName) (head1 (Jvm.Cond.code (⟨"com/example/waxwing/waxwing/protocol/ApiKey", "forId", "(S)Lcom/example/waxwing/waxwing/protocol/ApiKey;"⟩ : MethodName) prog_22_method_5_code 1 (some (.object "com/example/waxwing/waxwing/protocol/ApiKey")) :: ws) ({ frames := 0, cells := 0, slots := 0, locals := 0 } : Room)) (fun aa U => aa = #[(.int p0)] ∧ Z.Warmed39 U.vm ∧ U.heap = h0) (fun _ _ _ _ _ => True) (fun _ U o U' => ∃ v L, o = .returned v ∧ Q1 Z p0 f ab kb h0 n0 v U'.heap L ∧ FrameEnd U o U' L ({ frames := 0, cells := 0, slots := 0, locals := 0 } : Room).cells ({ frames := 0, cells := 0, slots := 0, locals := 0 } : Room).slots) := by
  refine MetFree.of_bodySF (plainFor_of_name pn_1) hisR ?_
  intro p e s m args below meth c s₁ Bd hml0 hP hK
  obtain ⟨rfl, hZ, hh⟩ := hP
  have hx := Bd.exec
  have hby := Bd.bytes
  have hml : c.maxLocals = 1 := hml0
  have hown : s.vm.findClass "com/example/waxwing/waxwing/protocol/ApiKey" = some m.cls := findClass_of_methodNamed Bd.named
  have hnm := (name_of_methodNamed Bd.named Bd.method).1
  have X0 : Stand p l e ({ frames := 0, cells := 0, slots := 0, locals := 0 } : Room) s m #[(.int p0)] below meth c s₁ [] 0 0 := Stand.of_body Bd
  have e0 : s₁.heap = h0 := by rw [← hh, Bd.state]; rfl
  have N0 := Fr.nil n0
  have pre0 : ∀ t, Steps p.tables e below (s₁.setTop (mkF m 0 #[.val (.int p0)] [])) t → Steps p.tables e below (s₁.setTop (entryFrame m #[(.int p0)] 1)) t := fun t k => castTop (ef_1 m p0) k
  have k123 : ∀ t, Steps p.tables e below (s₁.setTop (mkF m 1 #[.val (.int p0)] [(.int p0)])) t → Steps p.tables e below (s₁.setTop (entryFrame m #[(.int p0)] 1)) t := fun t k => pre0 t (by
    show Steps p.tables e below (s₁.setTop (mkF m 0 #[.val (.int p0)] [])) _
    refine XS.iloadN X0.here hx rfl (hb hby d1_0) rfl ?_
    exact k)
  by_cases hc124 : p0 < (0 : Int32)
  · have k125 : ∀ t, Steps p.tables e below (s₁.setTop (mkF m 21 #[.val (.int p0)] [.null])) t → Steps p.tables e below (s₁.setTop (entryFrame m #[(.int p0)] 1)) t := fun t k => k123 t (by
      show Steps p.tables e below (s₁.setTop (mkF m 1 #[.val (.int p0)] [(.int p0)])) _
      refine XS.ifYes X0.here hx rfl (pc0 := 1) (pc' := 20) rfl (hb hby d1_1) rfl ((if0 _ _).trans (tlt hc124).1) (by decide) (by decide) ?_
      show Steps p.tables e below (s₁.setTop (mkF m 20 #[.val (.int p0)] [])) _
      refine XS.aconstNull X0.here hx rfl (hb hby d1_20) ?_
      exact k)
    obtain ⟨fs, hr, hrun, hended, hW, hsame⟩ := X0.leave (v := some .null) (fun h => by rw [Bd.returns] at h; cases h)
    refine ⟨_, _, k125 _ ?_, hrun, hended, _, _, rfl, ?_, ⟨_, rfl⟩, hW, hsame.mono (by decide) (by decide)⟩
    · show Steps p.tables e below (s₁.setTop (mkF m 21 #[.val (.int p0)] [.null])) _
      exact retOut X0 hx Bd.returns rfl (Or.inr (Or.inr (Or.inr (Or.inr ⟨rfl, rfl, rfl⟩)))) (hb hby d1_21) hr
    · show Q1 Z p0 f ab kb h0 n0 _ s₁.heap _
      rw [e0]
      exact ⟨congrArg some (show (.null : Value) = own_for p0 f by unfold own_for; simp only [if_pos hc124]), N0, rfl⟩
  · have k127 : ∀ t, Steps p.tables e below (s₁.setTop (mkF m 5 #[.val (.int p0)] [(.int p0)])) t → Steps p.tables e below (s₁.setTop (entryFrame m #[(.int p0)] 1)) t := fun t k => k123 t (by
      show Steps p.tables e below (s₁.setTop (mkF m 1 #[.val (.int p0)] [(.int p0)])) _
      refine XS.ifNo X0.here hx rfl (hb hby d1_1) rfl ((if0 _ _).trans (flt hc124).1) ?_
      show Steps p.tables e below (s₁.setTop (mkF m 4 #[.val (.int p0)] [])) _
      refine XS.iloadN X0.here hx rfl (hb hby d1_4) rfl ?_
      exact k)
    obtain ⟨T128, X128, e128, st128⟩ := getS (host := "") X0 hx hZ hown (hw _ (List.mem_of_getElem? (i := 4) rfl)) Via.refl e0 SB (g := (mkF m 5 #[.val (.int p0)] [(.int p0)])) rfl (hb hby d1_5)
    have k129 : ∀ t, Steps p.tables e below (T128.setTop (mkF m 8 #[.val (.int p0)] [(.ref ab), (.int p0)])) t → Steps p.tables e below (s₁.setTop (entryFrame m #[(.int p0)] 1)) t := fun t k => k127 t (st128 t k)
    have k131 : ∀ t, Steps p.tables e below (T128.setTop (mkF m 9 #[.val (.int p0)] [(.int (43 : Int32)), (.int p0)])) t → Steps p.tables e below (s₁.setTop (entryFrame m #[(.int p0)] 1)) t := fun t k => k129 t (by
      show Steps p.tables e below (T128.setTop (mkF m 8 #[.val (.int p0)] [(.ref ab), (.int p0)])) _
      obtain ⟨clq130, Arq130, -, Sq130, Nq130, -, -⟩ := id VB
      refine X128.arraylength hx (by rw [e128]; exact Arq130.1) (State.isArrayOf_alike hZ.alike Arq130.2.1) (g := (mkF m 8 #[.val (.int p0)] [(.ref ab), (.int p0)])) rfl rfl (hb hby d1_8) _ ?_
      rw [len_of Sq130 Nq130]
      exact k)
    by_cases hc132 : p0 < (43 : Int32)
    · have k133 : ∀ t, Steps p.tables e below (T128.setTop (mkF m 12 #[.val (.int p0)] [])) t → Steps p.tables e below (s₁.setTop (entryFrame m #[(.int p0)] 1)) t := fun t k => k131 t (by
        show Steps p.tables e below (T128.setTop (mkF m 9 #[.val (.int p0)] [(.int (43 : Int32)), (.int p0)])) _
        refine XS.icmpNo X128.here hx rfl (hb hby d1_9) rfl (tlt hc132).2.1 ?_
        exact k)
      obtain ⟨T134, X134, e134, st134⟩ := getS (host := "") X128 hx hZ hown (hw _ (List.mem_of_getElem? (i := 4) rfl)) Via.refl e128 SB (g := (mkF m 12 #[.val (.int p0)] [])) rfl (hb hby d1_12)
      have k135 : ∀ t, Steps p.tables e below (T134.setTop (mkF m 15 #[.val (.int p0)] [(.ref ab)])) t → Steps p.tables e below (s₁.setTop (entryFrame m #[(.int p0)] 1)) t := fun t k => k133 t (st134 t k)
      have k137 : ∀ t, Steps p.tables e below (T134.setTop (mkF m 21 #[.val (.int p0)] [(own_el p0 f)])) t → Steps p.tables e below (s₁.setTop (entryFrame m #[(.int p0)] 1)) t := fun t k => k135 t (by
        show Steps p.tables e below (T134.setTop (mkF m 15 #[.val (.int p0)] [(.ref ab)])) _
        refine XS.iloadN X134.here hx rfl (hb hby d1_15) rfl ?_
        show Steps p.tables e below (T134.setTop (mkF m 16 #[.val (.int p0)] [(.int p0), (.ref ab)])) _
        obtain ⟨clq136, Arq136, -, Sq136, Nq136, Hq136, Gq136⟩ := id VB
        have hinq136 := inb_of (j := p0) Sq136 ⟨hc124, hc132⟩
        refine X134.aaload hx (j := p0) (v := (own_el p0 f)) (by rw [e134]; exact Arq136.1) (State.isArrayOf_alike hZ.alike Arq136.2.1) rfl Arq136.2.2 hinq136 (Has.at Hq136 hinq136 rfl) (g := (mkF m 16 #[.val (.int p0)] [(.int p0), (.ref ab)])) rfl rfl (hb hby d1_16) _ ?_
        show Steps p.tables e below (T134.setTop (mkF m 17 #[.val (.int p0)] [(own_el p0 f)])) _
        refine XS.goto X134.here hx rfl (pc0 := 17) (pc' := 21) rfl (hb hby d1_17) (by decide) (by decide) ?_
        exact k)
      obtain ⟨fs, hr, hrun, hended, hW, hsame⟩ := X134.leave (v := some (own_el p0 f)) (fun h => by rw [Bd.returns] at h; cases h)
      refine ⟨_, _, k137 _ ?_, hrun, hended, _, _, rfl, ?_, ⟨_, rfl⟩, hW, hsame.mono (by decide) (by decide)⟩
      · show Steps p.tables e below (T134.setTop (mkF m 21 #[.val (.int p0)] [(own_el p0 f)])) _
        exact retOut X134 hx Bd.returns (by rcases ref_cases ((own_elR f hc124 hc132)) with q | ⟨b, q⟩ <;> rw [q] <;> rfl) (Or.inr (Or.inr (Or.inr (Or.inr ⟨rfl, rfl, (own_elR f hc124 hc132)⟩)))) (hb hby d1_21) hr
      · show Q1 Z p0 f ab kb h0 n0 _ T134.heap _
        rw [e134]
        exact ⟨congrArg some (show ((own_el p0 f) : Value) = own_for p0 f by unfold own_for; simp only [if_neg hc124, if_pos hc132]), N0, rfl⟩
    · have k139 : ∀ t, Steps p.tables e below (T128.setTop (mkF m 21 #[.val (.int p0)] [.null])) t → Steps p.tables e below (s₁.setTop (entryFrame m #[(.int p0)] 1)) t := fun t k => k131 t (by
        show Steps p.tables e below (T128.setTop (mkF m 9 #[.val (.int p0)] [(.int (43 : Int32)), (.int p0)])) _
        refine XS.icmpYes X128.here hx rfl (pc0 := 9) (pc' := 20) rfl (hb hby d1_9) rfl (flt hc132).2.1 (by decide) (by decide) ?_
        show Steps p.tables e below (T128.setTop (mkF m 20 #[.val (.int p0)] [])) _
        refine XS.aconstNull X128.here hx rfl (hb hby d1_20) ?_
        exact k)
      obtain ⟨fs, hr, hrun, hended, hW, hsame⟩ := X128.leave (v := some .null) (fun h => by rw [Bd.returns] at h; cases h)
      refine ⟨_, _, k139 _ ?_, hrun, hended, _, _, rfl, ?_, ⟨_, rfl⟩, hW, hsame.mono (by decide) (by decide)⟩
      · show Steps p.tables e below (T128.setTop (mkF m 21 #[.val (.int p0)] [.null])) _
        exact retOut X128 hx Bd.returns rfl (Or.inr (Or.inr (Or.inr (Or.inr ⟨rfl, rfl, rfl⟩)))) (hb hby d1_21) hr
      · show Q1 Z p0 f ab kb h0 n0 _ T128.heap _
        rw [e128]
        exact ⟨congrArg some (show (.null : Value) = own_for p0 f by unfold own_for; simp only [if_neg hc124, if_neg hc132]), N0, rfl⟩
theorem pd_0 : parseMethodDescriptor "(S)Lcom/example/waxwing/waxwing/protocol/ApiKey;" = some ⟨[.short], some (.object "com/example/waxwing/waxwing/protocol/ApiKey")⟩ := by decide +kernel
theorem pd_1 : parseMethodDescriptor "(I)Lcom/example/waxwing/waxwing/protocol/ApiKey;" = some ⟨[.int], some (.object "com/example/waxwing/waxwing/protocol/ApiKey")⟩ := by decide +kernel
theorem ef_0 (m : MethodId) (x0 : Int32) (x1 : Int32) : entryFrame m #[(.int x0), (.int x1)] maxLocals = mkF m 0 #[.val (.int x0), .val (.int x1), .unset, .unset] [] := by first | (simp [entryFrame, mkF, argsToLocals, Value.category, maxLocals]; done) | rfl
def Q0 (Z : State) (p0 : Int32) (p1 : Int32) (f : Nat → Addr) (ab : Addr) (kb : ClassId) (h0 : Heap) (n0 : Nat) (v : Option Value) (h : Heap) (L : List Loc) : Prop := v = some (.int 1) ∧ Fr n0 L
set_option maxRecDepth 65536 in
set_option maxHeartbeats 40000000 in
theorem rm0 (l : Launch) (Z : State) (a0 : Array Value) (hw : ∀ d ∈ tables_1, d.before a0 Z = true) (ws : List Jvm.Cond) (p0 : Int32) (p1 : Int32) (f : Nat → Addr) (ab : Addr) (kb : ClassId) (h0 : Heap) (n0 : Nat) (Z0 : n0 ≤ h0.size) (S_0 : Sta Z h0 "com/example/waxwing/waxwing/protocol/ApiKey" "PRODUCE" "Lcom/example/waxwing/waxwing/protocol/ApiKey;" (.ref (f 0))) (S_1 : Sta Z h0 "com/example/waxwing/waxwing/protocol/ApiKey" "FETCH" "Lcom/example/waxwing/waxwing/protocol/ApiKey;" (.ref (f 1))) (S_2 : Sta Z h0 "com/example/waxwing/waxwing/protocol/ApiKey" "LIST_OFFSETS" "Lcom/example/waxwing/waxwing/protocol/ApiKey;" (.ref (f 2))) (S_3 : Sta Z h0 "com/example/waxwing/waxwing/protocol/ApiKey" "METADATA" "Lcom/example/waxwing/waxwing/protocol/ApiKey;" (.ref (f 3))) (S_4 : Sta Z h0 "com/example/waxwing/waxwing/protocol/ApiKey" "OFFSET_COMMIT" "Lcom/example/waxwing/waxwing/protocol/ApiKey;" (.ref (f 4))) (S_5 : Sta Z h0 "com/example/waxwing/waxwing/protocol/ApiKey" "OFFSET_FETCH" "Lcom/example/waxwing/waxwing/protocol/ApiKey;" (.ref (f 5))) (S_6 : Sta Z h0 "com/example/waxwing/waxwing/protocol/ApiKey" "FIND_COORDINATOR" "Lcom/example/waxwing/waxwing/protocol/ApiKey;" (.ref (f 6))) (S_7 : Sta Z h0 "com/example/waxwing/waxwing/protocol/ApiKey" "JOIN_GROUP" "Lcom/example/waxwing/waxwing/protocol/ApiKey;" (.ref (f 7))) (S_8 : Sta Z h0 "com/example/waxwing/waxwing/protocol/ApiKey" "HEARTBEAT" "Lcom/example/waxwing/waxwing/protocol/ApiKey;" (.ref (f 8))) (S_9 : Sta Z h0 "com/example/waxwing/waxwing/protocol/ApiKey" "LEAVE_GROUP" "Lcom/example/waxwing/waxwing/protocol/ApiKey;" (.ref (f 9))) (S_10 : Sta Z h0 "com/example/waxwing/waxwing/protocol/ApiKey" "SYNC_GROUP" "Lcom/example/waxwing/waxwing/protocol/ApiKey;" (.ref (f 10))) (S_11 : Sta Z h0 "com/example/waxwing/waxwing/protocol/ApiKey" "DESCRIBE_GROUPS" "Lcom/example/waxwing/waxwing/protocol/ApiKey;" (.ref (f 11))) (S_12 : Sta Z h0 "com/example/waxwing/waxwing/protocol/ApiKey" "LIST_GROUPS" "Lcom/example/waxwing/waxwing/protocol/ApiKey;" (.ref (f 12))) (S_13 : Sta Z h0 "com/example/waxwing/waxwing/protocol/ApiKey" "API_VERSIONS" "Lcom/example/waxwing/waxwing/protocol/ApiKey;" (.ref (f 13))) (S_14 : Sta Z h0 "com/example/waxwing/waxwing/protocol/ApiKey" "CREATE_TOPICS" "Lcom/example/waxwing/waxwing/protocol/ApiKey;" (.ref (f 14))) (S_15 : Sta Z h0 "com/example/waxwing/waxwing/protocol/ApiKey" "DELETE_TOPICS" "Lcom/example/waxwing/waxwing/protocol/ApiKey;" (.ref (f 15))) (S_16 : Sta Z h0 "com/example/waxwing/waxwing/protocol/ApiKey" "INIT_PRODUCER_ID" "Lcom/example/waxwing/waxwing/protocol/ApiKey;" (.ref (f 16))) (S_17 : Sta Z h0 "com/example/waxwing/waxwing/protocol/ApiKey" "DESCRIBE_CONFIGS" "Lcom/example/waxwing/waxwing/protocol/ApiKey;" (.ref (f 17))) (S_18 : Sta Z h0 "com/example/waxwing/waxwing/protocol/ApiKey" "CREATE_PARTITIONS" "Lcom/example/waxwing/waxwing/protocol/ApiKey;" (.ref (f 18))) (S_19 : Sta Z h0 "com/example/waxwing/waxwing/protocol/ApiKey" "DELETE_GROUPS" "Lcom/example/waxwing/waxwing/protocol/ApiKey;" (.ref (f 19))) (SB : Sta Z h0 "com/example/waxwing/waxwing/protocol/ApiKey" "BY_ID" "[Lcom/example/waxwing/waxwing/protocol/ApiKey;" (.ref ab)) (VB : Arv Z h0 ab kb (.object "com/example/waxwing/waxwing/protocol/ApiKey") (43 : Int32) (own_vs f) .null) :
    MetFree l x (head1 (Jvm.Cond.code x code maxLocals ret :: ws) room_1) (fun aa U => aa = #[(.int p0), (.int p1)] ∧ Z.Warmed39 U.vm ∧ U.heap = h0) (fun _ _ _ _ _ => True) (fun _ U o U' => ∃ v L, o = .returned v ∧ Q0 Z p0 p1 f ab kb h0 n0 v U'.heap L ∧ FrameEnd U o U' L room_1.cells room_1.slots) := by
  refine MetFree.of_bodySF (plainFor_of_name pn_0) hisR ?_
  intro p e s m args below meth c s₁ Bd hml0 hP hK
  obtain ⟨rfl, hZ, hh⟩ := hP
  have hx := Bd.exec
  have hby := Bd.bytes
  have hml : c.maxLocals = 4 := hml0
  have hown : s.vm.findClass "com/example/waxwing/waxwing/protocol/ApiKeyForIdPinLaw" = some m.cls := findClass_of_methodNamed Bd.named
  have hnm := (name_of_methodNamed Bd.named Bd.method).1
  have X0 : Stand p l e room_1 s m #[(.int p0), (.int p1)] below meth c s₁ [] 0 0 := Stand.of_body Bd
  have e0 : s₁.heap = h0 := by rw [← hh, Bd.state]; rfl
  have N0 := Fr.nil n0
  have pre0 : ∀ t, Steps p.tables e below (s₁.setTop (mkF m 0 #[.val (.int p0), .val (.int p1), .unset, .unset] [])) t → Steps p.tables e below (s₁.setTop (entryFrame m #[(.int p0), (.int p1)] maxLocals)) t := fun t k => castTop (ef_0 m p0 p1) k
  have k141 : ∀ t, Steps p.tables e below (s₁.setTop (mkF m 3 #[.val (.int p0), .val (.int p1), .unset, .unset] [(.int (p1 &&& (1 : Int32)))])) t → Steps p.tables e below (s₁.setTop (entryFrame m #[(.int p0), (.int p1)] maxLocals)) t := fun t k => pre0 t (by
    show Steps p.tables e below (s₁.setTop (mkF m 0 #[.val (.int p0), .val (.int p1), .unset, .unset] [])) _
    refine XS.iloadN X0.here hx rfl (hb hby at_0) rfl ?_
    show Steps p.tables e below (s₁.setTop (mkF m 1 #[.val (.int p0), .val (.int p1), .unset, .unset] [(.int p1)])) _
    refine XS.iconst X0.here hx rfl (hb hby at_1) ?_
    show Steps p.tables e below (s₁.setTop (mkF m 2 #[.val (.int p0), .val (.int p1), .unset, .unset] [(.int (1 : Int32)), (.int p1)])) _
    refine XS.iand X0.here hx rfl (hb hby at_2) rfl ?_
    exact k)
  have k143 : ∀ t, Steps p.tables e below (s₁.setTop (mkF m 16 #[.val (.int p0), .val (.int p1), .unset, .unset] [(.int (if (p1 &&& (1 : Int32)) = (0 : Int32) then (p0.toInt16.toInt32) else ((p0 &&& (63 : Int32)).toInt16.toInt32)))])) t → Steps p.tables e below (s₁.setTop (entryFrame m #[(.int p0), (.int p1)] maxLocals)) t := fun t k => k141 t (by
    by_cases hq142 : (p1 &&& (1 : Int32)) = (0 : Int32)
    · simp only [if_pos hq142] at k
      show Steps p.tables e below (s₁.setTop (mkF m 3 #[.val (.int p0), .val (.int p1), .unset, .unset] [(.int (p1 &&& (1 : Int32)))])) _
      refine XS.ifYes X0.here hx rfl (pc0 := 3) (pc' := 14) rfl (hb hby at_3) rfl ((if0 _ _).trans (teq hq142).1) (by decide) (by decide) ?_
      show Steps p.tables e below (s₁.setTop (mkF m 14 #[.val (.int p0), .val (.int p1), .unset, .unset] [])) _
      refine XS.iloadN X0.here hx rfl (hb hby at_14) rfl ?_
      show Steps p.tables e below (s₁.setTop (mkF m 15 #[.val (.int p0), .val (.int p1), .unset, .unset] [(.int p0)])) _
      refine XS.i2s X0.here hx rfl (hb hby at_15) rfl ?_
      exact k
    · simp only [if_neg hq142] at k
      show Steps p.tables e below (s₁.setTop (mkF m 3 #[.val (.int p0), .val (.int p1), .unset, .unset] [(.int (p1 &&& (1 : Int32)))])) _
      refine XS.ifNo X0.here hx rfl (hb hby at_3) rfl ((if0 _ _).trans (feq hq142).1) ?_
      show Steps p.tables e below (s₁.setTop (mkF m 6 #[.val (.int p0), .val (.int p1), .unset, .unset] [])) _
      refine XS.iloadN X0.here hx rfl (hb hby at_6) rfl ?_
      show Steps p.tables e below (s₁.setTop (mkF m 7 #[.val (.int p0), .val (.int p1), .unset, .unset] [(.int p0)])) _
      refine XS.bipush X0.here hx rfl (hb hby at_7) ?_
      show Steps p.tables e below (s₁.setTop (mkF m 9 #[.val (.int p0), .val (.int p1), .unset, .unset] [(.int (63 : Int32)), (.int p0)])) _
      refine XS.iand X0.here hx rfl (hb hby at_9) rfl ?_
      show Steps p.tables e below (s₁.setTop (mkF m 10 #[.val (.int p0), .val (.int p1), .unset, .unset] [(.int (p0 &&& (63 : Int32)))])) _
      refine XS.i2s X0.here hx rfl (hb hby at_10) rfl ?_
      show Steps p.tables e below (s₁.setTop (mkF m 11 #[.val (.int p0), .val (.int p1), .unset, .unset] [(.int ((p0 &&& (63 : Int32)).toInt16.toInt32))])) _
      refine XS.goto X0.here hx rfl (pc0 := 11) (pc' := 16) rfl (hb hby at_11) (by decide) (by decide) ?_
      exact k)
  have k144 : ∀ t, Steps p.tables e below (s₁.setTop (mkF m 18 #[.val (.int p0), .val (.int p1), .val (.int (if (p1 &&& (1 : Int32)) = (0 : Int32) then (p0.toInt16.toInt32) else ((p0 &&& (63 : Int32)).toInt16.toInt32))), .unset] [(.int (if (p1 &&& (1 : Int32)) = (0 : Int32) then (p0.toInt16.toInt32) else ((p0 &&& (63 : Int32)).toInt16.toInt32)))])) t → Steps p.tables e below (s₁.setTop (entryFrame m #[(.int p0), (.int p1)] maxLocals)) t := fun t k => k143 t (by
    show Steps p.tables e below (s₁.setTop (mkF m 16 #[.val (.int p0), .val (.int p1), .unset, .unset] [(.int (if (p1 &&& (1 : Int32)) = (0 : Int32) then (p0.toInt16.toInt32) else ((p0 &&& (63 : Int32)).toInt16.toInt32)))])) _
    refine XS.istoreN X0.here hx rfl (hb hby at_16) rfl (l' := #[.val (.int p0), .val (.int p1), .val (.int (if (p1 &&& (1 : Int32)) = (0 : Int32) then (p0.toInt16.toInt32) else ((p0 &&& (63 : Int32)).toInt16.toInt32))), .unset]) rfl ?_
    show Steps p.tables e below (s₁.setTop (mkF m 17 #[.val (.int p0), .val (.int p1), .val (.int (if (p1 &&& (1 : Int32)) = (0 : Int32) then (p0.toInt16.toInt32) else ((p0 &&& (63 : Int32)).toInt16.toInt32))), .unset] [])) _
    refine XS.iloadN X0.here hx rfl (hb hby at_17) rfl ?_
    exact k)
  obtain ⟨_, _, ⟨T145, L145, kc145, ks145⟩, -, X145, ⟨Lc145, hQ145, l145, y145, z145⟩, st145⟩ := Jvm.LawKit.callS X0 hx (y := (⟨"com/example/waxwing/waxwing/protocol/ApiKey", "forId", "(S)Lcom/example/waxwing/waxwing/protocol/ApiKey;"⟩ : MethodName)) hown (mvT hZ (hw _ (List.mem_of_getElem? (i := 0) rfl))) (mvT hZ (hw _ (List.mem_of_getElem? (i := 1) rfl))) (mvT hZ (hw _ (List.mem_of_getElem? (i := 2) rfl))) (mvT hZ (hw _ (List.mem_of_getElem? (i := 3) rfl))) (by decide) (backOf (W := 0) (rm1 l Z a0 hw [] (if (p1 &&& (1 : Int32)) = (0 : Int32) then (p0.toInt16.toInt32) else ((p0 &&& (63 : Int32)).toInt16.toInt32)) f ab kb h0 n0 Z0 SB VB) hZ (hw _ (List.mem_of_getElem? (i := 3) rfl)) (hw _ (List.mem_of_getElem? (i := 2) rfl)) (by decide) (by decide)) (g := (mkF m 18 #[.val (.int p0), .val (.int p1), .val (.int (if (p1 &&& (1 : Int32)) = (0 : Int32) then (p0.toInt16.toInt32) else ((p0 &&& (63 : Int32)).toInt16.toInt32))), .unset] [(.int (if (p1 &&& (1 : Int32)) = (0 : Int32) then (p0.toInt16.toInt32) else ((p0 &&& (63 : Int32)).toInt16.toInt32)))])) rfl (by rw [hml]; rfl) (argsL := [(.int (if (p1 &&& (1 : Int32)) = (0 : Int32) then (p0.toInt16.toInt32) else ((p0 &&& (63 : Int32)).toInt16.toInt32)))]) (rest := []) (lenOf pd_0 rfl) rfl (by show 2 * 0 + _ ≤ _; exact Nat.le_of_eq rfl) (hb hby at_18) (fun _ _ => ⟨rfl, e0, (by decide : 0 + 0 ≤ _), (by decide : 0 + 0 ≤ _)⟩)
  dsimp only [Pt.U, Pt.locs, Pt.cells, Pt.slots] at X145 l145 y145 z145 st145 hQ145
  subst l145 y145 z145
  obtain ⟨rfl, Nq145, eq145⟩ := hQ145
  have N145 := Fr.app N0 Nq145
  have k146 : ∀ t, Steps p.tables e below (T145.setTop (mkF m 21 #[.val (.int p0), .val (.int p1), .val (.int (if (p1 &&& (1 : Int32)) = (0 : Int32) then (p0.toInt16.toInt32) else ((p0 &&& (63 : Int32)).toInt16.toInt32))), .unset] [(own_for (if (p1 &&& (1 : Int32)) = (0 : Int32) then (p0.toInt16.toInt32) else ((p0 &&& (63 : Int32)).toInt16.toInt32)) f)])) t → Steps p.tables e below (s₁.setTop (entryFrame m #[(.int p0), (.int p1)] maxLocals)) t := fun t k => k144 t (st145 t k)
  have k147 : ∀ t, Steps p.tables e below (T145.setTop (mkF m 24 #[.val (.int p0), .val (.int p1), .val (.int (if (p1 &&& (1 : Int32)) = (0 : Int32) then (p0.toInt16.toInt32) else ((p0 &&& (63 : Int32)).toInt16.toInt32))), .val (own_for (if (p1 &&& (1 : Int32)) = (0 : Int32) then (p0.toInt16.toInt32) else ((p0 &&& (63 : Int32)).toInt16.toInt32)) f)] [(.int (if (p1 &&& (1 : Int32)) = (0 : Int32) then (p0.toInt16.toInt32) else ((p0 &&& (63 : Int32)).toInt16.toInt32))), (own_for (if (p1 &&& (1 : Int32)) = (0 : Int32) then (p0.toInt16.toInt32) else ((p0 &&& (63 : Int32)).toInt16.toInt32)) f)])) t → Steps p.tables e below (s₁.setTop (entryFrame m #[(.int p0), (.int p1)] maxLocals)) t := fun t k => k146 t (by
    show Steps p.tables e below (T145.setTop (mkF m 21 #[.val (.int p0), .val (.int p1), .val (.int (if (p1 &&& (1 : Int32)) = (0 : Int32) then (p0.toInt16.toInt32) else ((p0 &&& (63 : Int32)).toInt16.toInt32))), .unset] [(own_for (if (p1 &&& (1 : Int32)) = (0 : Int32) then (p0.toInt16.toInt32) else ((p0 &&& (63 : Int32)).toInt16.toInt32)) f)])) _
    refine XS.astoreN X145.here hx rfl (hb hby at_21) rfl (own_forR (if (p1 &&& (1 : Int32)) = (0 : Int32) then (p0.toInt16.toInt32) else ((p0 &&& (63 : Int32)).toInt16.toInt32)) f) (l' := #[.val (.int p0), .val (.int p1), .val (.int (if (p1 &&& (1 : Int32)) = (0 : Int32) then (p0.toInt16.toInt32) else ((p0 &&& (63 : Int32)).toInt16.toInt32))), .val (own_for (if (p1 &&& (1 : Int32)) = (0 : Int32) then (p0.toInt16.toInt32) else ((p0 &&& (63 : Int32)).toInt16.toInt32)) f)]) (by rcases ref_cases ((own_forR (if (p1 &&& (1 : Int32)) = (0 : Int32) then (p0.toInt16.toInt32) else ((p0 &&& (63 : Int32)).toInt16.toInt32)) f)) with q | ⟨b, q⟩ <;> rw [q] <;> rfl) ?_
    show Steps p.tables e below (T145.setTop (mkF m 22 #[.val (.int p0), .val (.int p1), .val (.int (if (p1 &&& (1 : Int32)) = (0 : Int32) then (p0.toInt16.toInt32) else ((p0 &&& (63 : Int32)).toInt16.toInt32))), .val (own_for (if (p1 &&& (1 : Int32)) = (0 : Int32) then (p0.toInt16.toInt32) else ((p0 &&& (63 : Int32)).toInt16.toInt32)) f)] [])) _
    refine XS.aloadN X145.here hx rfl (hb hby at_22) rfl (own_forR (if (p1 &&& (1 : Int32)) = (0 : Int32) then (p0.toInt16.toInt32) else ((p0 &&& (63 : Int32)).toInt16.toInt32)) f) ?_
    show Steps p.tables e below (T145.setTop (mkF m 23 #[.val (.int p0), .val (.int p1), .val (.int (if (p1 &&& (1 : Int32)) = (0 : Int32) then (p0.toInt16.toInt32) else ((p0 &&& (63 : Int32)).toInt16.toInt32))), .val (own_for (if (p1 &&& (1 : Int32)) = (0 : Int32) then (p0.toInt16.toInt32) else ((p0 &&& (63 : Int32)).toInt16.toInt32)) f)] [(own_for (if (p1 &&& (1 : Int32)) = (0 : Int32) then (p0.toInt16.toInt32) else ((p0 &&& (63 : Int32)).toInt16.toInt32)) f)])) _
    refine XS.iloadN X145.here hx rfl (hb hby at_23) rfl ?_
    exact k)
  obtain ⟨_, _, ⟨T148, L148, kc148, ks148⟩, -, X148, ⟨Lc148, hQ148, l148, y148, z148⟩, st148⟩ := Jvm.LawKit.callS X145 hx (y := (⟨"com/example/waxwing/waxwing/protocol/ApiKeyForIdPinLaw", "expected", "(I)Lcom/example/waxwing/waxwing/protocol/ApiKey;"⟩ : MethodName)) hown (mvT hZ (hw _ (List.mem_of_getElem? (i := 7) rfl))) (mvT hZ (hw _ (List.mem_of_getElem? (i := 8) rfl))) (mvT hZ (hw _ (List.mem_of_getElem? (i := 9) rfl))) (mvT hZ (hw _ (List.mem_of_getElem? (i := 10) rfl))) (by decide) (backOf (W := 1) (rm2 l Z a0 hw [] (if (p1 &&& (1 : Int32)) = (0 : Int32) then (p0.toInt16.toInt32) else ((p0 &&& (63 : Int32)).toInt16.toInt32)) f h0 n0 Z0 S_0 S_1 S_2 S_3 S_4 S_5 S_6 S_7 S_8 S_9 S_10 S_11 S_12 S_13 S_14 S_15 S_16 S_17 S_18 S_19) hZ (hw _ (List.mem_of_getElem? (i := 10) rfl)) (hw _ (List.mem_of_getElem? (i := 9) rfl)) (by decide) (by decide)) (g := (mkF m 24 #[.val (.int p0), .val (.int p1), .val (.int (if (p1 &&& (1 : Int32)) = (0 : Int32) then (p0.toInt16.toInt32) else ((p0 &&& (63 : Int32)).toInt16.toInt32))), .val (own_for (if (p1 &&& (1 : Int32)) = (0 : Int32) then (p0.toInt16.toInt32) else ((p0 &&& (63 : Int32)).toInt16.toInt32)) f)] [(.int (if (p1 &&& (1 : Int32)) = (0 : Int32) then (p0.toInt16.toInt32) else ((p0 &&& (63 : Int32)).toInt16.toInt32))), (own_for (if (p1 &&& (1 : Int32)) = (0 : Int32) then (p0.toInt16.toInt32) else ((p0 &&& (63 : Int32)).toInt16.toInt32)) f)])) rfl (by rw [hml]; rfl) (argsL := [(.int (if (p1 &&& (1 : Int32)) = (0 : Int32) then (p0.toInt16.toInt32) else ((p0 &&& (63 : Int32)).toInt16.toInt32)))]) (rest := [(own_for (if (p1 &&& (1 : Int32)) = (0 : Int32) then (p0.toInt16.toInt32) else ((p0 &&& (63 : Int32)).toInt16.toInt32)) f)]) (lenOf pd_1 rfl) rfl (by show 2 * 0 + (List.map (fun v => v.category) [(own_for (if (p1 &&& (1 : Int32)) = (0 : Int32) then (p0.toInt16.toInt32) else ((p0 &&& (63 : Int32)).toInt16.toInt32)) f)]).sum ≤ 1; simp only [List.map_cons, List.map_nil, own_catR (own_forR (if (p1 &&& (1 : Int32)) = (0 : Int32) then (p0.toInt16.toInt32) else ((p0 &&& (63 : Int32)).toInt16.toInt32)) f)]; exact Nat.le_of_eq rfl) (hb hby at_24) (fun _ _ => ⟨rfl, eq145, (by decide : 0 + 0 ≤ _), (by decide : 0 + 0 ≤ _)⟩)
  dsimp only [Pt.U, Pt.locs, Pt.cells, Pt.slots] at X148 l148 y148 z148 st148 hQ148
  subst l148 y148 z148
  obtain ⟨rfl, Nq148, eq148⟩ := hQ148
  have N148 := Fr.app N145 Nq148
  have k149 : ∀ t, Steps p.tables e below (T148.setTop (mkF m 27 #[.val (.int p0), .val (.int p1), .val (.int (if (p1 &&& (1 : Int32)) = (0 : Int32) then (p0.toInt16.toInt32) else ((p0 &&& (63 : Int32)).toInt16.toInt32))), .val (own_for (if (p1 &&& (1 : Int32)) = (0 : Int32) then (p0.toInt16.toInt32) else ((p0 &&& (63 : Int32)).toInt16.toInt32)) f)] [(own_sel (if (p1 &&& (1 : Int32)) = (0 : Int32) then (p0.toInt16.toInt32) else ((p0 &&& (63 : Int32)).toInt16.toInt32)) f), (own_for (if (p1 &&& (1 : Int32)) = (0 : Int32) then (p0.toInt16.toInt32) else ((p0 &&& (63 : Int32)).toInt16.toInt32)) f)])) t → Steps p.tables e below (s₁.setTop (entryFrame m #[(.int p0), (.int p1)] maxLocals)) t := fun t k => k147 t (st148 t k)
  have k150 : ∀ t, Steps p.tables e below (T148.setTop (mkF m 35 #[.val (.int p0), .val (.int p1), .val (.int (if (p1 &&& (1 : Int32)) = (0 : Int32) then (p0.toInt16.toInt32) else ((p0 &&& (63 : Int32)).toInt16.toInt32))), .val (own_for (if (p1 &&& (1 : Int32)) = (0 : Int32) then (p0.toInt16.toInt32) else ((p0 &&& (63 : Int32)).toInt16.toInt32)) f)] [(.int (1 : Int32))])) t → Steps p.tables e below (s₁.setTop (entryFrame m #[(.int p0), (.int p1)] maxLocals)) t := fun t k => k149 t (by
    show Steps p.tables e below (T148.setTop (mkF m 27 #[.val (.int p0), .val (.int p1), .val (.int (if (p1 &&& (1 : Int32)) = (0 : Int32) then (p0.toInt16.toInt32) else ((p0 &&& (63 : Int32)).toInt16.toInt32))), .val (own_for (if (p1 &&& (1 : Int32)) = (0 : Int32) then (p0.toInt16.toInt32) else ((p0 &&& (63 : Int32)).toInt16.toInt32)) f)] [(own_sel (if (p1 &&& (1 : Int32)) = (0 : Int32) then (p0.toInt16.toInt32) else ((p0 &&& (63 : Int32)).toInt16.toInt32)) f), (own_for (if (p1 &&& (1 : Int32)) = (0 : Int32) then (p0.toInt16.toInt32) else ((p0 &&& (63 : Int32)).toInt16.toInt32)) f)])) _
    refine Jvm.RoadKit.acmp (g := (mkF m 27 #[.val (.int p0), .val (.int p1), .val (.int (if (p1 &&& (1 : Int32)) = (0 : Int32) then (p0.toInt16.toInt32) else ((p0 &&& (63 : Int32)).toInt16.toInt32))), .val (own_for (if (p1 &&& (1 : Int32)) = (0 : Int32) then (p0.toInt16.toInt32) else ((p0 &&& (63 : Int32)).toInt16.toInt32)) f)] [(own_sel (if (p1 &&& (1 : Int32)) = (0 : Int32) then (p0.toInt16.toInt32) else ((p0 &&& (63 : Int32)).toInt16.toInt32)) f), (own_for (if (p1 &&& (1 : Int32)) = (0 : Int32) then (p0.toInt16.toInt32) else ((p0 &&& (63 : Int32)).toInt16.toInt32)) f)])) X148 hx rfl (own_forR (if (p1 &&& (1 : Int32)) = (0 : Int32) then (p0.toInt16.toInt32) else ((p0 &&& (63 : Int32)).toInt16.toInt32)) f) (own_selR (if (p1 &&& (1 : Int32)) = (0 : Int32) then (p0.toInt16.toInt32) else ((p0 &&& (63 : Int32)).toInt16.toInt32)) f) (pc0 := 27) (pc' := 30) (same := true) rfl (hb hby at_27) rfl (decide_eq_true (own_law (if (p1 &&& (1 : Int32)) = (0 : Int32) then (p0.toInt16.toInt32) else ((p0 &&& (63 : Int32)).toInt16.toInt32)) f)) (by decide) (by decide) ?_
    show Steps p.tables e below (T148.setTop (mkF m 30 #[.val (.int p0), .val (.int p1), .val (.int (if (p1 &&& (1 : Int32)) = (0 : Int32) then (p0.toInt16.toInt32) else ((p0 &&& (63 : Int32)).toInt16.toInt32))), .val (own_for (if (p1 &&& (1 : Int32)) = (0 : Int32) then (p0.toInt16.toInt32) else ((p0 &&& (63 : Int32)).toInt16.toInt32)) f)] [])) _
    refine XS.iconst X148.here hx rfl (hb hby at_30) ?_
    show Steps p.tables e below (T148.setTop (mkF m 31 #[.val (.int p0), .val (.int p1), .val (.int (if (p1 &&& (1 : Int32)) = (0 : Int32) then (p0.toInt16.toInt32) else ((p0 &&& (63 : Int32)).toInt16.toInt32))), .val (own_for (if (p1 &&& (1 : Int32)) = (0 : Int32) then (p0.toInt16.toInt32) else ((p0 &&& (63 : Int32)).toInt16.toInt32)) f)] [(.int (1 : Int32))])) _
    refine XS.goto X148.here hx rfl (pc0 := 31) (pc' := 35) rfl (hb hby at_31) (by decide) (by decide) ?_
    exact k)
  obtain ⟨fs, hr, hrun, hended, hW, hsame⟩ := X148.leave (v := some (.int (1 : Int32))) (fun h => by rw [Bd.returns] at h; cases h)
  refine ⟨_, _, k150 _ ?_, hrun, hended, _, _, rfl, ?_, ⟨_, rfl⟩, hW, hsame.mono (by decide) (by decide)⟩
  · show Steps p.tables e below (T148.setTop (mkF m 35 #[.val (.int p0), .val (.int p1), .val (.int (if (p1 &&& (1 : Int32)) = (0 : Int32) then (p0.toInt16.toInt32) else ((p0 &&& (63 : Int32)).toInt16.toInt32))), .val (own_for (if (p1 &&& (1 : Int32)) = (0 : Int32) then (p0.toInt16.toInt32) else ((p0 &&& (63 : Int32)).toInt16.toInt32)) f)] [(.int (1 : Int32))])) _
    exact retN X148 hx (t := .boolean) Bd.returns (by simp) (hb hby at_35) hr
  · show Q0 Z p0 p1 f ab kb h0 n0 _ T148.heap _
    rw [eq148]
    exact ⟨rfl, N148⟩
set_option maxRecDepth 65536 in
set_option maxHeartbeats 40000000 in
theorem comes_1 {Post : Tables → Env → Array Value → State → Outcome → State → Prop} (hpost : ∀ tb e args s v u, (limb_1_1.after args s (.returned v) u = true ∧ limb_1_2.after args s (.returned v) u = true ∧ True) → FrameEnd s (.returned v) u (Jvm.fieldLocs frame_1_writes args s ++ Jvm.arrayLocs frame_1_arrays args s ++ Jvm.staticLocs frame_1_statics s) 0 0 → Post tb e args s (.returned v) u) :
    ArmFor flags0 classFile x code maxLocals ret World_1 tables_1 room_1 Calls_1 rest_1 Pre_1 Post := by
  intro l hfl _ _ p e ha hc hk s m args below hf hA hF happ hP
  obtain ⟨hcalls, hrest, hpre⟩ := hP
  obtain ⟨-, -, -, hnamed, -, -, -, hat⟩ := (Spec.applies_iff hf).mp happ
  obtain ⟨hg, hn⟩ := and_e (Cond.before_iff.mp (show (Jvm.Cond.and given_1 narrow_1).before args s = true from hpre))
  obtain ⟨g1, g2⟩ := and_e hg
  obtain ⟨g3, g4⟩ := and_e g2
  obtain ⟨w0, w1, rfl⟩ : ∃ w0 w1 : Value, args = #[w0, w1] := by
    have hs : args.size = 2 := by simpa [Cond.value, given_1] using g1
    obtain ⟨L⟩ := args
    match L, hs with
    | [w0, w1], _ => exact ⟨w0, w1, rfl⟩
  have hw := fun d (hd : d ∈ tables_1) => atoms_spec (ws := Jvm.Cond.code x code maxLocals ret :: tables_1) hat d (List.mem_cons_of_mem _ hd)
  have hfit : Fit s := fun {y c} hc i hi => by
    obtain ⟨ha, rfl⟩ := Array.getElem?_eq_some_iff.mp hc
    have q := List.all_eq_true.mp ((Array.all_eq_true_iff_forall_mem.mp hF) _ (Array.getElem_mem ha)) i (List.mem_range.mpr hi)
    simpa [Array.getElem?_eq_getElem hi] using q
  obtain ⟨i0, ei0⟩ := is_v g3
  obtain rfl : w0 = (.int i0) := Option.some.inj ei0
  obtain ⟨i1, ei1⟩ := is_v g4
  obtain rfl : w1 = (.int i1) := Option.some.inj ei1
  obtain ⟨c0, r0⟩ := and_e hn
  obtain ⟨c1, r1⟩ := and_e r0
  obtain ⟨c2, r2⟩ := and_e r1
  obtain ⟨c3, r3⟩ := and_e r2
  obtain ⟨c4, r4⟩ := and_e r3
  obtain ⟨c5, r5⟩ := and_e r4
  obtain ⟨c6, r6⟩ := and_e r5
  obtain ⟨c7, r7⟩ := and_e r6
  obtain ⟨c8, r8⟩ := and_e r7
  obtain ⟨c9, r9⟩ := and_e r8
  obtain ⟨c10, r10⟩ := and_e r9
  obtain ⟨c11, r11⟩ := and_e r10
  obtain ⟨c12, r12⟩ := and_e r11
  obtain ⟨c13, r13⟩ := and_e r12
  obtain ⟨c14, r14⟩ := and_e r13
  obtain ⟨c15, r15⟩ := and_e r14
  obtain ⟨c16, r16⟩ := and_e r15
  obtain ⟨c17, r17⟩ := and_e r16
  obtain ⟨c18, r18⟩ := and_e r17
  obtain ⟨c19, r19⟩ := and_e r18
  obtain ⟨c20, r20⟩ := and_e r19
  obtain ⟨c21, r21⟩ := and_e r20
  obtain ⟨c22, r22⟩ := and_e r21
  obtain ⟨c23, r23⟩ := and_e r22
  obtain ⟨c24, r24⟩ := and_e r23
  obtain ⟨c25, r25⟩ := and_e r24
  obtain ⟨c26, r26⟩ := and_e r25
  obtain ⟨c27, r27⟩ := and_e r26
  obtain ⟨c28, r28⟩ := and_e r27
  obtain ⟨c29, r29⟩ := and_e r28
  obtain ⟨c30, r30⟩ := and_e r29
  obtain ⟨c31, r31⟩ := and_e r30
  obtain ⟨c32, r32⟩ := and_e r31
  obtain ⟨c33, r33⟩ := and_e r32
  obtain ⟨c34, r34⟩ := and_e r33
  obtain ⟨c35, r35⟩ := and_e r34
  obtain ⟨c36, r36⟩ := and_e r35
  obtain ⟨c37, r37⟩ := and_e r36
  obtain ⟨c38, r38⟩ := and_e r37
  obtain ⟨c39, r39⟩ := and_e r38
  obtain ⟨c40, r40⟩ := and_e r39
  obtain ⟨c41, r41⟩ := and_e r40
  obtain ⟨c42, r42⟩ := and_e r41
  obtain ⟨c43, r43⟩ := and_e r42
  obtain ⟨c44, r44⟩ := and_e r43
  obtain ⟨c45, r45⟩ := and_e r44
  obtain ⟨c46, r46⟩ := and_e r45
  obtain ⟨c47, r47⟩ := and_e r46
  obtain ⟨c48, r48⟩ := and_e r47
  obtain ⟨c49, r49⟩ := and_e r48
  obtain ⟨c50, r50⟩ := and_e r49
  obtain ⟨c51, r51⟩ := and_e r50
  obtain ⟨c52, r52⟩ := and_e r51
  obtain ⟨c53, r53⟩ := and_e r52
  obtain ⟨c54, r54⟩ := and_e r53
  obtain ⟨c55, r55⟩ := and_e r54
  obtain ⟨c56, r56⟩ := and_e r55
  obtain ⟨c57, r57⟩ := and_e r56
  obtain ⟨c58, r58⟩ := and_e r57
  obtain ⟨c59, r59⟩ := and_e r58
  obtain ⟨c60, r60⟩ := and_e r59
  obtain ⟨c61, r61⟩ := and_e r60
  obtain ⟨c62, r62⟩ := and_e r61
  obtain ⟨c63, r63⟩ := and_e r62
  have c64 := r63
  obtain ⟨a_PRODUCE, ev_PRODUCE⟩ := exa_v c2
  have S_PRODUCE := Sta.start ev_PRODUCE (Or.inr ⟨(hw _ (List.mem_of_getElem? (i := 2) rfl)), (hw _ (List.mem_of_getElem? (i := 6) rfl))⟩)
  have E_PRODUCE := Exa.start ev_PRODUCE c2
  obtain ⟨a_SYNC_GROUP, ev_SYNC_GROUP⟩ := exa_v c4
  have S_SYNC_GROUP := Sta.start ev_SYNC_GROUP (Or.inr ⟨(hw _ (List.mem_of_getElem? (i := 2) rfl)), (hw _ (List.mem_of_getElem? (i := 12) rfl))⟩)
  have E_SYNC_GROUP := Exa.start ev_SYNC_GROUP c4
  obtain ⟨a_OFFSET_COMMIT, ev_OFFSET_COMMIT⟩ := exa_v c7
  have S_OFFSET_COMMIT := Sta.start ev_OFFSET_COMMIT (Or.inr ⟨(hw _ (List.mem_of_getElem? (i := 2) rfl)), (hw _ (List.mem_of_getElem? (i := 14) rfl))⟩)
  have E_OFFSET_COMMIT := Exa.start ev_OFFSET_COMMIT c7
  obtain ⟨a_HEARTBEAT, ev_HEARTBEAT⟩ := exa_v c9
  have S_HEARTBEAT := Sta.start ev_HEARTBEAT (Or.inr ⟨(hw _ (List.mem_of_getElem? (i := 2) rfl)), (hw _ (List.mem_of_getElem? (i := 16) rfl))⟩)
  have E_HEARTBEAT := Exa.start ev_HEARTBEAT c9
  obtain ⟨a_METADATA, ev_METADATA⟩ := exa_v c11
  have S_METADATA := Sta.start ev_METADATA (Or.inr ⟨(hw _ (List.mem_of_getElem? (i := 2) rfl)), (hw _ (List.mem_of_getElem? (i := 18) rfl))⟩)
  have E_METADATA := Exa.start ev_METADATA c11
  obtain ⟨a_FETCH, ev_FETCH⟩ := exa_v c14
  have S_FETCH := Sta.start ev_FETCH (Or.inr ⟨(hw _ (List.mem_of_getElem? (i := 2) rfl)), (hw _ (List.mem_of_getElem? (i := 20) rfl))⟩)
  have E_FETCH := Exa.start ev_FETCH c14
  obtain ⟨a_LIST_OFFSETS, ev_LIST_OFFSETS⟩ := exa_v c17
  have S_LIST_OFFSETS := Sta.start ev_LIST_OFFSETS (Or.inr ⟨(hw _ (List.mem_of_getElem? (i := 2) rfl)), (hw _ (List.mem_of_getElem? (i := 22) rfl))⟩)
  have E_LIST_OFFSETS := Exa.start ev_LIST_OFFSETS c17
  obtain ⟨a_FIND_COORDINATOR, ev_FIND_COORDINATOR⟩ := exa_v c19
  have S_FIND_COORDINATOR := Sta.start ev_FIND_COORDINATOR (Or.inr ⟨(hw _ (List.mem_of_getElem? (i := 2) rfl)), (hw _ (List.mem_of_getElem? (i := 24) rfl))⟩)
  have E_FIND_COORDINATOR := Exa.start ev_FIND_COORDINATOR c19
  obtain ⟨a_JOIN_GROUP, ev_JOIN_GROUP⟩ := exa_v c21
  have S_JOIN_GROUP := Sta.start ev_JOIN_GROUP (Or.inr ⟨(hw _ (List.mem_of_getElem? (i := 2) rfl)), (hw _ (List.mem_of_getElem? (i := 26) rfl))⟩)
  have E_JOIN_GROUP := Exa.start ev_JOIN_GROUP c21
  obtain ⟨a_OFFSET_FETCH, ev_OFFSET_FETCH⟩ := exa_v c26
  have S_OFFSET_FETCH := Sta.start ev_OFFSET_FETCH (Or.inr ⟨(hw _ (List.mem_of_getElem? (i := 2) rfl)), (hw _ (List.mem_of_getElem? (i := 28) rfl))⟩)
  have E_OFFSET_FETCH := Exa.start ev_OFFSET_FETCH c26
  obtain ⟨a_API_VERSIONS, ev_API_VERSIONS⟩ := exa_v c30
  have S_API_VERSIONS := Sta.start ev_API_VERSIONS (Or.inr ⟨(hw _ (List.mem_of_getElem? (i := 2) rfl)), (hw _ (List.mem_of_getElem? (i := 30) rfl))⟩)
  have E_API_VERSIONS := Exa.start ev_API_VERSIONS c30
  obtain ⟨a_LEAVE_GROUP, ev_LEAVE_GROUP⟩ := exa_v c34
  have S_LEAVE_GROUP := Sta.start ev_LEAVE_GROUP (Or.inr ⟨(hw _ (List.mem_of_getElem? (i := 2) rfl)), (hw _ (List.mem_of_getElem? (i := 32) rfl))⟩)
  have E_LEAVE_GROUP := Exa.start ev_LEAVE_GROUP c34
  obtain ⟨a_DELETE_TOPICS, ev_DELETE_TOPICS⟩ := exa_v c36
  have S_DELETE_TOPICS := Sta.start ev_DELETE_TOPICS (Or.inr ⟨(hw _ (List.mem_of_getElem? (i := 2) rfl)), (hw _ (List.mem_of_getElem? (i := 34) rfl))⟩)
  have E_DELETE_TOPICS := Exa.start ev_DELETE_TOPICS c36
  obtain ⟨a_DESCRIBE_GROUPS, ev_DESCRIBE_GROUPS⟩ := exa_v c38
  have S_DESCRIBE_GROUPS := Sta.start ev_DESCRIBE_GROUPS (Or.inr ⟨(hw _ (List.mem_of_getElem? (i := 2) rfl)), (hw _ (List.mem_of_getElem? (i := 36) rfl))⟩)
  have E_DESCRIBE_GROUPS := Exa.start ev_DESCRIBE_GROUPS c38
  obtain ⟨a_CREATE_TOPICS, ev_CREATE_TOPICS⟩ := exa_v c40
  have S_CREATE_TOPICS := Sta.start ev_CREATE_TOPICS (Or.inr ⟨(hw _ (List.mem_of_getElem? (i := 2) rfl)), (hw _ (List.mem_of_getElem? (i := 38) rfl))⟩)
  have E_CREATE_TOPICS := Exa.start ev_CREATE_TOPICS c40
  obtain ⟨a_LIST_GROUPS, ev_LIST_GROUPS⟩ := exa_v c43
  have S_LIST_GROUPS := Sta.start ev_LIST_GROUPS (Or.inr ⟨(hw _ (List.mem_of_getElem? (i := 2) rfl)), (hw _ (List.mem_of_getElem? (i := 40) rfl))⟩)
  have E_LIST_GROUPS := Exa.start ev_LIST_GROUPS c43
  obtain ⟨a_CREATE_PARTITIONS, ev_CREATE_PARTITIONS⟩ := exa_v c49
  have S_CREATE_PARTITIONS := Sta.start ev_CREATE_PARTITIONS (Or.inr ⟨(hw _ (List.mem_of_getElem? (i := 2) rfl)), (hw _ (List.mem_of_getElem? (i := 42) rfl))⟩)
  have E_CREATE_PARTITIONS := Exa.start ev_CREATE_PARTITIONS c49
  obtain ⟨a_INIT_PRODUCER_ID, ev_INIT_PRODUCER_ID⟩ := exa_v c55
  have S_INIT_PRODUCER_ID := Sta.start ev_INIT_PRODUCER_ID (Or.inr ⟨(hw _ (List.mem_of_getElem? (i := 2) rfl)), (hw _ (List.mem_of_getElem? (i := 44) rfl))⟩)
  have E_INIT_PRODUCER_ID := Exa.start ev_INIT_PRODUCER_ID c55
  obtain ⟨a_DESCRIBE_CONFIGS, ev_DESCRIBE_CONFIGS⟩ := exa_v c57
  have S_DESCRIBE_CONFIGS := Sta.start ev_DESCRIBE_CONFIGS (Or.inr ⟨(hw _ (List.mem_of_getElem? (i := 2) rfl)), (hw _ (List.mem_of_getElem? (i := 46) rfl))⟩)
  have E_DESCRIBE_CONFIGS := Exa.start ev_DESCRIBE_CONFIGS c57
  obtain ⟨a_DELETE_GROUPS, ev_DELETE_GROUPS⟩ := exa_v c59
  have S_DELETE_GROUPS := Sta.start ev_DELETE_GROUPS (Or.inr ⟨(hw _ (List.mem_of_getElem? (i := 2) rfl)), (hw _ (List.mem_of_getElem? (i := 48) rfl))⟩)
  have E_DELETE_GROUPS := Exa.start ev_DELETE_GROUPS c59
  obtain ⟨ab, ev_B⟩ := arr_v c0
  have SB := Sta.start ev_B (Or.inr ⟨(hw _ (List.mem_of_getElem? (i := 2) rfl)), (hw _ (List.mem_of_getElem? (i := 5) rfl))⟩)
  obtain ⟨cb, AB⟩ := Arr.start ev_B c0
  obtain ⟨lb1, lb2⟩ := own_len ev_B AB.1 c1
  obtain ⟨f, hf0⟩ : ∃ f : Nat → Addr, f = fun k => ([a_PRODUCE, a_FETCH, a_LIST_OFFSETS, a_METADATA, a_OFFSET_COMMIT, a_OFFSET_FETCH, a_FIND_COORDINATOR, a_JOIN_GROUP, a_HEARTBEAT, a_LEAVE_GROUP, a_SYNC_GROUP, a_DESCRIBE_GROUPS, a_LIST_GROUPS, a_API_VERSIONS, a_CREATE_TOPICS, a_DELETE_TOPICS, a_INIT_PRODUCER_ID, a_DESCRIBE_CONFIGS, a_CREATE_PARTITIONS, a_DELETE_GROUPS] : List Addr).getD k 0 := ⟨_, rfl⟩
  have q_0 : f 0 = a_PRODUCE := by rw [hf0]; rfl
  have q_1 : f 1 = a_FETCH := by rw [hf0]; rfl
  have q_2 : f 2 = a_LIST_OFFSETS := by rw [hf0]; rfl
  have q_3 : f 3 = a_METADATA := by rw [hf0]; rfl
  have q_4 : f 4 = a_OFFSET_COMMIT := by rw [hf0]; rfl
  have q_5 : f 5 = a_OFFSET_FETCH := by rw [hf0]; rfl
  have q_6 : f 6 = a_FIND_COORDINATOR := by rw [hf0]; rfl
  have q_7 : f 7 = a_JOIN_GROUP := by rw [hf0]; rfl
  have q_8 : f 8 = a_HEARTBEAT := by rw [hf0]; rfl
  have q_9 : f 9 = a_LEAVE_GROUP := by rw [hf0]; rfl
  have q_10 : f 10 = a_SYNC_GROUP := by rw [hf0]; rfl
  have q_11 : f 11 = a_DESCRIBE_GROUPS := by rw [hf0]; rfl
  have q_12 : f 12 = a_LIST_GROUPS := by rw [hf0]; rfl
  have q_13 : f 13 = a_API_VERSIONS := by rw [hf0]; rfl
  have q_14 : f 14 = a_CREATE_TOPICS := by rw [hf0]; rfl
  have q_15 : f 15 = a_DELETE_TOPICS := by rw [hf0]; rfl
  have q_16 : f 16 = a_INIT_PRODUCER_ID := by rw [hf0]; rfl
  have q_17 : f 17 = a_DESCRIBE_CONFIGS := by rw [hf0]; rfl
  have q_18 : f 18 = a_CREATE_PARTITIONS := by rw [hf0]; rfl
  have q_19 : f 19 = a_DELETE_GROUPS := by rw [hf0]; rfl
  have el_0 : cb.slots[0]? = some (.ref (f 0)) := by rw [q_0]; exact (elem_in (own_eqR c3 ev_PRODUCE) ev_B (Term.int_eval 0) AB.1).2
  have el_14 : cb.slots[14]? = some (.ref (f 10)) := by rw [q_10]; exact (elem_in (own_eqR c5 ev_SYNC_GROUP) ev_B (Term.int_eval 14) AB.1).2
  have el_6 : cb.slots[6]? = some .null := (elem_in (null_v c6) ev_B (Term.int_eval 6) AB.1).2
  have el_8 : cb.slots[8]? = some (.ref (f 4)) := by rw [q_4]; exact (elem_in (own_eqR c8 ev_OFFSET_COMMIT) ev_B (Term.int_eval 8) AB.1).2
  have el_12 : cb.slots[12]? = some (.ref (f 8)) := by rw [q_8]; exact (elem_in (own_eqR c10 ev_HEARTBEAT) ev_B (Term.int_eval 12) AB.1).2
  have el_3 : cb.slots[3]? = some (.ref (f 3)) := by rw [q_3]; exact (elem_in (own_eqR c12 ev_METADATA) ev_B (Term.int_eval 3) AB.1).2
  have el_31 : cb.slots[31]? = some .null := (elem_in (null_v c13) ev_B (Term.int_eval 31) AB.1).2
  have el_1 : cb.slots[1]? = some (.ref (f 1)) := by rw [q_1]; exact (elem_in (own_eqR c15 ev_FETCH) ev_B (Term.int_eval 1) AB.1).2
  have el_30 : cb.slots[30]? = some .null := (elem_in (null_v c16) ev_B (Term.int_eval 30) AB.1).2
  have el_2 : cb.slots[2]? = some (.ref (f 2)) := by rw [q_2]; exact (elem_in (own_eqR c18 ev_LIST_OFFSETS) ev_B (Term.int_eval 2) AB.1).2
  have el_10 : cb.slots[10]? = some (.ref (f 6)) := by rw [q_6]; exact (elem_in (own_eqR c20 ev_FIND_COORDINATOR) ev_B (Term.int_eval 10) AB.1).2
  have el_11 : cb.slots[11]? = some (.ref (f 7)) := by rw [q_7]; exact (elem_in (own_eqR c22 ev_JOIN_GROUP) ev_B (Term.int_eval 11) AB.1).2
  have el_5 : cb.slots[5]? = some .null := (elem_in (null_v c23) ev_B (Term.int_eval 5) AB.1).2
  have el_24 : cb.slots[24]? = some .null := (elem_in (null_v c24) ev_B (Term.int_eval 24) AB.1).2
  have el_29 : cb.slots[29]? = some .null := (elem_in (null_v c25) ev_B (Term.int_eval 29) AB.1).2
  have el_9 : cb.slots[9]? = some (.ref (f 5)) := by rw [q_5]; exact (elem_in (own_eqR c27 ev_OFFSET_FETCH) ev_B (Term.int_eval 9) AB.1).2
  have el_21 : cb.slots[21]? = some .null := (elem_in (null_v c28) ev_B (Term.int_eval 21) AB.1).2
  have el_40 : cb.slots[40]? = some .null := (elem_in (null_v c29) ev_B (Term.int_eval 40) AB.1).2
  have el_18 : cb.slots[18]? = some (.ref (f 13)) := by rw [q_13]; exact (elem_in (own_eqR c31 ev_API_VERSIONS) ev_B (Term.int_eval 18) AB.1).2
  have el_4 : cb.slots[4]? = some .null := (elem_in (null_v c32) ev_B (Term.int_eval 4) AB.1).2
  have el_7 : cb.slots[7]? = some .null := (elem_in (null_v c33) ev_B (Term.int_eval 7) AB.1).2
  have el_13 : cb.slots[13]? = some (.ref (f 9)) := by rw [q_9]; exact (elem_in (own_eqR c35 ev_LEAVE_GROUP) ev_B (Term.int_eval 13) AB.1).2
  have el_20 : cb.slots[20]? = some (.ref (f 15)) := by rw [q_15]; exact (elem_in (own_eqR c37 ev_DELETE_TOPICS) ev_B (Term.int_eval 20) AB.1).2
  have el_15 : cb.slots[15]? = some (.ref (f 11)) := by rw [q_11]; exact (elem_in (own_eqR c39 ev_DESCRIBE_GROUPS) ev_B (Term.int_eval 15) AB.1).2
  have el_19 : cb.slots[19]? = some (.ref (f 14)) := by rw [q_14]; exact (elem_in (own_eqR c41 ev_CREATE_TOPICS) ev_B (Term.int_eval 19) AB.1).2
  have el_28 : cb.slots[28]? = some .null := (elem_in (null_v c42) ev_B (Term.int_eval 28) AB.1).2
  have el_16 : cb.slots[16]? = some (.ref (f 12)) := by rw [q_12]; exact (elem_in (own_eqR c44 ev_LIST_GROUPS) ev_B (Term.int_eval 16) AB.1).2
  have el_38 : cb.slots[38]? = some .null := (elem_in (null_v c45) ev_B (Term.int_eval 38) AB.1).2
  have el_36 : cb.slots[36]? = some .null := (elem_in (null_v c46) ev_B (Term.int_eval 36) AB.1).2
  have el_23 : cb.slots[23]? = some .null := (elem_in (null_v c47) ev_B (Term.int_eval 23) AB.1).2
  have el_34 : cb.slots[34]? = some .null := (elem_in (null_v c48) ev_B (Term.int_eval 34) AB.1).2
  have el_37 : cb.slots[37]? = some (.ref (f 18)) := by rw [q_18]; exact (elem_in (own_eqR c50 ev_CREATE_PARTITIONS) ev_B (Term.int_eval 37) AB.1).2
  have el_25 : cb.slots[25]? = some .null := (elem_in (null_v c51) ev_B (Term.int_eval 25) AB.1).2
  have el_17 : cb.slots[17]? = some .null := (elem_in (null_v c52) ev_B (Term.int_eval 17) AB.1).2
  have el_27 : cb.slots[27]? = some .null := (elem_in (null_v c53) ev_B (Term.int_eval 27) AB.1).2
  have el_39 : cb.slots[39]? = some .null := (elem_in (null_v c54) ev_B (Term.int_eval 39) AB.1).2
  have el_22 : cb.slots[22]? = some (.ref (f 16)) := by rw [q_16]; exact (elem_in (own_eqR c56 ev_INIT_PRODUCER_ID) ev_B (Term.int_eval 22) AB.1).2
  have el_32 : cb.slots[32]? = some (.ref (f 17)) := by rw [q_17]; exact (elem_in (own_eqR c58 ev_DESCRIBE_CONFIGS) ev_B (Term.int_eval 32) AB.1).2
  have el_42 : cb.slots[42]? = some (.ref (f 19)) := by rw [q_19]; exact (elem_in (own_eqR c60 ev_DELETE_GROUPS) ev_B (Term.int_eval 42) AB.1).2
  have el_35 : cb.slots[35]? = some .null := (elem_in (null_v c61) ev_B (Term.int_eval 35) AB.1).2
  have el_41 : cb.slots[41]? = some .null := (elem_in (null_v c62) ev_B (Term.int_eval 41) AB.1).2
  have el_33 : cb.slots[33]? = some .null := (elem_in (null_v c63) ev_B (Term.int_eval 33) AB.1).2
  have el_26 : cb.slots[26]? = some .null := (elem_in (null_v c64) ev_B (Term.int_eval 26) AB.1).2
  have HL : HasL cb 0 (own_vs f) := ⟨el_0, el_1, el_2, el_3, el_4, el_5, el_6, el_7, el_8, el_9, el_10, el_11, el_12, el_13, el_14, el_15, el_16, el_17, el_18, el_19, el_20, el_21, el_22, el_23, el_24, el_25, el_26, el_27, el_28, el_29, el_30, el_31, el_32, el_33, el_34, el_35, el_36, el_37, el_38, el_39, el_40, el_41, el_42, trivial⟩
  have VB := Arv.start (dv := .null) hfit AB lb1 lb2 (by decide) rfl HL
  obtain ⟨n, o, h1, h2, h3, _, L, rfl, ⟨rfl, N⟩, hq⟩ := rm0 l s _ hw tables_1 i0 i1 f ab cb.cls s.heap s.heap.size (Nat.le_refl _) (q_0.symm ▸ S_PRODUCE) (q_1.symm ▸ S_FETCH) (q_2.symm ▸ S_LIST_OFFSETS) (q_3.symm ▸ S_METADATA) (q_4.symm ▸ S_OFFSET_COMMIT) (q_5.symm ▸ S_OFFSET_FETCH) (q_6.symm ▸ S_FIND_COORDINATOR) (q_7.symm ▸ S_JOIN_GROUP) (q_8.symm ▸ S_HEARTBEAT) (q_9.symm ▸ S_LEAVE_GROUP) (q_10.symm ▸ S_SYNC_GROUP) (q_11.symm ▸ S_DESCRIBE_GROUPS) (q_12.symm ▸ S_LIST_GROUPS) (q_13.symm ▸ S_API_VERSIONS) (q_14.symm ▸ S_CREATE_TOPICS) (q_15.symm ▸ S_DELETE_TOPICS) (q_16.symm ▸ S_INIT_PRODUCER_ID) (q_17.symm ▸ S_DESCRIBE_CONFIGS) (q_18.symm ▸ S_CREATE_PARTITIONS) (q_19.symm ▸ S_DELETE_GROUPS) SB VB p e ha hc hk s m _ below hf ((Spec.applies_iff_loose hf).mp happ).1 ⟨rfl, State.Warmed39.refl s, rfl⟩ trivial
  refine ⟨n, _, h1, h2, h3, hpost _ _ _ _ _ _ ⟨Cond.after_iff.mpr rfl, Cond.after_iff.mpr (eq_i res_at (Term.int_eval (1)) rfl), trivial⟩ ⟨hq.1, hq.2.1, (hq.2.2.sift fun y hy => Or.inr (N y hy)).mono (by decide) (by decide)⟩⟩
theorem main_1_1 : Claimed_1_1 := comes_1 fun _ _ _ _ _ _ h hF => ⟨h.1, hF⟩
theorem main_1_2 : Claimed_1_2 := comes_1 fun _ _ _ _ _ _ h hF => ⟨h.2.1, hF⟩
end Jvm.Pilot.@@N@@
namespace Jvm.Pilot.@@N@@
open Jvm Jvm.ClassFile Sem Op Lib Jvm.Free Jvm.Stand Jvm.Pilot.@@N@@.Jvm.D
/-! MADE BY PROGRAM (witnessworld.py) out of the Statement's table words and the real class files: 13 classes; the members and pool entries that the words name. The judged class is class 1, her method 2. -/
namespace start1
open Jvm.ClassFile
def u (s : String) : CpInfo := .utf8 (stringToUtf16 s)
/-- a pool by its gaps: so many unusable entries, then the entry; so many at the end -/
def gap : Nat → List CpInfo → List CpInfo
  | 0, r => r
  | n + 1, r => .unusable :: gap n r
def poolList (es : List (Nat × CpInfo)) (last : Nat) : List CpInfo := es.foldr (fun e r => gap e.1 (e.2 :: r)) (gap last [])
def pool (es : List (Nat × CpInfo)) (last : Nat) : Array CpInfo := ⟨poolList es last⟩
def fileOf (pool : Array CpInfo) (this : Nat) (attrs : Array Attribute := #[]) (ms : Array MethodInfo := #[]) (fl : Nat := 33) (sup : Nat := 0) (ifs : Array Nat := #[]) (fds : Array FieldInfo := #[]) : ClassFile where
  minorVersion := 0
  majorVersion := 65
  constantPool := pool
  accessFlags := fl
  thisClass := this
  superClass := sup
  interfaces := ifs
  fields := fds
  methods := ms
  attributes := attrs
def plain (name : String) (sup : Option ClassId) : Class where
  name := name
  kind := .ordinary
  loader := none
  accessFlags := 33
  super := sup
  interfaces := #[]
  cf := none
  fields := #[]
  methods := #[]
  instanceTypes := #[]
  staticTypes := #[]
  resolved := #[]
  callSites := []
  init := .initialized
  statics := none
  mirror := none

def pool0 : Array CpInfo := pool [(5, u "<init>"), (0, u "()V"), (1, .class_ 10), (1, u "java/lang/Object")] 113

def k0m0 : Method := { name := "<init>", desc := "()V", sig := { parameters := [], returnType := none }, accessFlags := 1, code := none }
/-- java/lang/Object -/
def k0 : Class := { plain "java/lang/Object" none with
  accessFlags := 33
  interfaces := #[]
  cf := some (fileOf pool0 8 #[] #[{ accessFlags := 1, nameIndex := 5, descriptorIndex := 6, attributes := #[] }] 33 0 #[] #[])
  fields := #[]
  methods := #[k0m0]
  instanceTypes := #[]
  staticTypes := #[]
  resolved := Array.replicate 124 none
  statics := none }

def pool1 : Array CpInfo := pool [(2, .class_ 4), (1, u "java/lang/Object"), (0, u "<init>"), (0, u "()V"), (0, .fieldref 8 9), (0, .class_ 10), (0, .nameAndType 11 12), (0, u "com/example/waxwing/waxwing/protocol/ApiKey"), (0, u "PRODUCE"), (0, u "Lcom/example/waxwing/waxwing/protocol/ApiKey;"), (0, .fieldref 8 14), (0, .nameAndType 15 12), (0, u "FETCH"), (0, .fieldref 8 17), (0, .nameAndType 18 12), (0, u "LIST_OFFSETS"), (0, .fieldref 8 20), (0, .nameAndType 21 12), (0, u "METADATA"), (0, .fieldref 8 23), (0, .nameAndType 24 12), (0, u "OFFSET_COMMIT"), (0, .fieldref 8 26), (0, .nameAndType 27 12), (0, u "OFFSET_FETCH"), (0, .fieldref 8 29), (0, .nameAndType 30 12), (0, u "FIND_COORDINATOR"), (0, .fieldref 8 32), (0, .nameAndType 33 12), (0, u "JOIN_GROUP"), (0, .fieldref 8 35), (0, .nameAndType 36 12), (0, u "HEARTBEAT"), (0, .fieldref 8 38), (0, .nameAndType 39 12), (0, u "LEAVE_GROUP"), (0, .fieldref 8 41), (0, .nameAndType 42 12), (0, u "SYNC_GROUP"), (0, .fieldref 8 44), (0, .nameAndType 45 12), (0, u "DESCRIBE_GROUPS"), (0, .fieldref 8 47), (0, .nameAndType 48 12), (0, u "LIST_GROUPS"), (0, .fieldref 8 50), (0, .nameAndType 51 12), (0, u "API_VERSIONS"), (0, .fieldref 8 53), (0, .nameAndType 54 12), (0, u "CREATE_TOPICS"), (0, .fieldref 8 56), (0, .nameAndType 57 12), (0, u "DELETE_TOPICS"), (0, .fieldref 8 59), (0, .nameAndType 60 12), (0, u "INIT_PRODUCER_ID"), (0, .fieldref 8 62), (0, .nameAndType 63 12), (0, u "DESCRIBE_CONFIGS"), (0, .fieldref 8 65), (0, .nameAndType 66 12), (0, u "CREATE_PARTITIONS"), (0, .fieldref 8 68), (0, .nameAndType 69 12), (0, u "DELETE_GROUPS"), (0, .methodref 8 71), (0, .nameAndType 72 73), (0, u "forId"), (0, u "(S)Lcom/example/waxwing/waxwing/protocol/ApiKey;"), (0, .methodref 75 76), (0, .class_ 77), (0, .nameAndType 78 79), (0, u "com/example/waxwing/waxwing/protocol/ApiKeyForIdPinLaw"), (0, u "expected"), (0, u "(I)Lcom/example/waxwing/waxwing/protocol/ApiKey;"), (3, u "law"), (0, u "(II)Z")] 2

def k1m0 : Method := { name := "<init>", desc := "()V", sig := { parameters := [], returnType := none }, accessFlags := 1, code := none }
def k1c1 : Code := { maxStack := 2, maxLocals := 1, code := method_2_code, exceptionTable := #[], attributes := #[] }
def k1m1 : Method := { name := "expected", desc := "(I)Lcom/example/waxwing/waxwing/protocol/ApiKey;", sig := { parameters := [.int], returnType := some (.object "com/example/waxwing/waxwing/protocol/ApiKey") }, accessFlags := 10, code := some k1c1 }
def k1c2 : Code := { maxStack := 2, maxLocals := 4, code := code, exceptionTable := #[], attributes := #[] }
def k1m2 : Method := { name := "law", desc := "(II)Z", sig := { parameters := [.int, .int], returnType := some .boolean }, accessFlags := 9, code := some k1c2 }
/-- com/example/waxwing/waxwing/protocol/ApiKeyForIdPinLaw -/
def k1 : Class := { plain "com/example/waxwing/waxwing/protocol/ApiKeyForIdPinLaw" (some 0) with
  accessFlags := 49
  interfaces := #[]
  cf := some (fileOf pool1 75 #[] #[{ accessFlags := 1, nameIndex := 5, descriptorIndex := 6, attributes := #[] }, { accessFlags := 10, nameIndex := 78, descriptorIndex := 79, attributes := #[] }, { accessFlags := 9, nameIndex := 83, descriptorIndex := 84, attributes := #[] }] 49 2 #[] #[])
  fields := #[]
  methods := #[k1m0, k1m1, k1m2]
  instanceTypes := #[]
  staticTypes := #[]
  resolved := Array.replicate 87 none
  statics := none }

def pool2 : Array CpInfo := pool [(1, .class_ 2), (0, u "java/lang/constant/Constable"), (0, .class_ 4), (0, u "java/lang/Object")] 6

/-- java/lang/constant/Constable -/
def k2 : Class := { plain "java/lang/constant/Constable" (some 0) with
  accessFlags := 1537
  interfaces := #[]
  cf := some (fileOf pool2 1 #[] #[] 1537 3 #[] #[])
  fields := #[]
  methods := #[]
  instanceTypes := #[]
  staticTypes := #[]
  resolved := Array.replicate 11 none
  statics := none }

def pool3 : Array CpInfo := pool [(1, .class_ 2), (0, u "java/lang/Comparable"), (0, .class_ 4), (0, u "java/lang/Object")] 7

/-- java/lang/Comparable -/
def k3 : Class := { plain "java/lang/Comparable" (some 0) with
  accessFlags := 1537
  interfaces := #[]
  cf := some (fileOf pool3 1 #[] #[] 1537 3 #[] #[])
  fields := #[]
  methods := #[]
  instanceTypes := #[]
  staticTypes := #[]
  resolved := Array.replicate 12 none
  statics := none }

def pool4 : Array CpInfo := pool [(1, .class_ 2), (0, u "java/io/Serializable"), (0, .class_ 4), (0, u "java/lang/Object")] 2

/-- java/io/Serializable -/
def k4 : Class := { plain "java/io/Serializable" (some 0) with
  accessFlags := 1537
  interfaces := #[]
  cf := some (fileOf pool4 1 #[] #[] 1537 3 #[] #[])
  fields := #[]
  methods := #[]
  instanceTypes := #[]
  staticTypes := #[]
  resolved := Array.replicate 7 none
  statics := none }

def pool5 : Array CpInfo := pool [(2, .class_ 4), (1, u "java/lang/Enum"), (0, u "name"), (0, u "Ljava/lang/String;"), (2, u "ordinal"), (0, u "I"), (1, .class_ 14), (1, u "java/lang/Object"), (4, u "hash"), (86, .class_ 108), (1, u "java/lang/Enum$EnumDesc"), (2, .class_ 112), (0, u "java/lang/constant/Constable"), (0, .class_ 114), (0, u "java/lang/Comparable"), (0, .class_ 116), (0, u "java/io/Serializable")] 87

/-- java/lang/Enum -/
def k5 : Class := { plain "java/lang/Enum" (some 0) with
  accessFlags := 1057
  interfaces := #[2, 3, 4]
  cf := some (fileOf pool5 2 #[.nestMembers #[106]] #[] 1057 12 #[111, 113, 115] #[{ accessFlags := 18, nameIndex := 5, descriptorIndex := 6, attributes := #[] }, { accessFlags := 18, nameIndex := 9, descriptorIndex := 10, attributes := #[] }, { accessFlags := 2, nameIndex := 19, descriptorIndex := 10, attributes := #[] }])
  fields := #[{ name := "name", type := (.object "java/lang/String"), accessFlags := 18, slot := 0, constantValue := 0 }, { name := "ordinal", type := .int, accessFlags := 18, slot := 1, constantValue := 0 }, { name := "hash", type := .int, accessFlags := 2, slot := 2, constantValue := 0 }]
  methods := #[]
  instanceTypes := #[(.object "java/lang/String"), .int, .int]
  staticTypes := #[]
  resolved := Array.replicate 204 none
  statics := none }

def pool6 : Array CpInfo := pool [(3, .class_ 4), (0, u "com/example/waxwing/waxwing/protocol/ApiKey"), (2, u "PRODUCE"), (0, u "Lcom/example/waxwing/waxwing/protocol/ApiKey;"), (2, u "FETCH"), (2, u "LIST_OFFSETS"), (2, u "METADATA"), (2, u "OFFSET_COMMIT"), (2, u "OFFSET_FETCH"), (2, u "FIND_COORDINATOR"), (2, u "JOIN_GROUP"), (2, u "HEARTBEAT"), (2, u "LEAVE_GROUP"), (2, u "SYNC_GROUP"), (2, u "DESCRIBE_GROUPS"), (2, u "LIST_GROUPS"), (2, u "API_VERSIONS"), (2, u "CREATE_TOPICS"), (2, u "DELETE_TOPICS"), (2, u "INIT_PRODUCER_ID"), (2, u "DESCRIBE_CONFIGS"), (2, u "CREATE_PARTITIONS"), (2, u "DELETE_GROUPS"), (2, u "$VALUES"), (0, u "[Lcom/example/waxwing/waxwing/protocol/ApiKey;"), (6, .class_ 78), (1, u "java/lang/Enum"), (11, u "id"), (0, u "S"), (2, u "oldestVersion"), (2, u "latestVersion"), (2, u "firstFlexibleVersion"), (0, .fieldref 3 102), (0, .nameAndType 103 69), (0, u "BY_ID"), (39, u "NONE_FLEXIBLE"), (9, u "forId"), (0, u "(S)Lcom/example/waxwing/waxwing/protocol/ApiKey;")] 10

def k6c0 : Code := { maxStack := 2, maxLocals := 1, code := prog_22_method_5_code, exceptionTable := #[], attributes := #[] }
def k6m0 : Method := { name := "forId", desc := "(S)Lcom/example/waxwing/waxwing/protocol/ApiKey;", sig := { parameters := [.short], returnType := some (.object "com/example/waxwing/waxwing/protocol/ApiKey") }, accessFlags := 9, code := some k6c0 }
/-- com/example/waxwing/waxwing/protocol/ApiKey -/
def k6 : Class := { plain "com/example/waxwing/waxwing/protocol/ApiKey" (some 5) with
  accessFlags := 16433
  interfaces := #[]
  cf := some (fileOf pool6 3 #[] #[{ accessFlags := 9, nameIndex := 153, descriptorIndex := 154, attributes := #[] }] 16433 76 #[] #[{ accessFlags := 16409, nameIndex := 7, descriptorIndex := 8, attributes := #[] }, { accessFlags := 16409, nameIndex := 11, descriptorIndex := 8, attributes := #[] }, { accessFlags := 16409, nameIndex := 14, descriptorIndex := 8, attributes := #[] }, { accessFlags := 16409, nameIndex := 17, descriptorIndex := 8, attributes := #[] }, { accessFlags := 16409, nameIndex := 20, descriptorIndex := 8, attributes := #[] }, { accessFlags := 16409, nameIndex := 23, descriptorIndex := 8, attributes := #[] }, { accessFlags := 16409, nameIndex := 26, descriptorIndex := 8, attributes := #[] }, { accessFlags := 16409, nameIndex := 29, descriptorIndex := 8, attributes := #[] }, { accessFlags := 16409, nameIndex := 32, descriptorIndex := 8, attributes := #[] }, { accessFlags := 16409, nameIndex := 35, descriptorIndex := 8, attributes := #[] }, { accessFlags := 16409, nameIndex := 38, descriptorIndex := 8, attributes := #[] }, { accessFlags := 16409, nameIndex := 41, descriptorIndex := 8, attributes := #[] }, { accessFlags := 16409, nameIndex := 44, descriptorIndex := 8, attributes := #[] }, { accessFlags := 16409, nameIndex := 47, descriptorIndex := 8, attributes := #[] }, { accessFlags := 16409, nameIndex := 50, descriptorIndex := 8, attributes := #[] }, { accessFlags := 16409, nameIndex := 53, descriptorIndex := 8, attributes := #[] }, { accessFlags := 16409, nameIndex := 56, descriptorIndex := 8, attributes := #[] }, { accessFlags := 16409, nameIndex := 59, descriptorIndex := 8, attributes := #[] }, { accessFlags := 16409, nameIndex := 62, descriptorIndex := 8, attributes := #[] }, { accessFlags := 16409, nameIndex := 65, descriptorIndex := 8, attributes := #[] }, { accessFlags := 26, nameIndex := 143, descriptorIndex := 91, attributes := #[] }, { accessFlags := 26, nameIndex := 103, descriptorIndex := 69, attributes := #[] }, { accessFlags := 18, nameIndex := 90, descriptorIndex := 91, attributes := #[] }, { accessFlags := 18, nameIndex := 94, descriptorIndex := 91, attributes := #[] }, { accessFlags := 18, nameIndex := 97, descriptorIndex := 91, attributes := #[] }, { accessFlags := 18, nameIndex := 100, descriptorIndex := 91, attributes := #[] }, { accessFlags := 4122, nameIndex := 68, descriptorIndex := 69, attributes := #[] }])
  fields := #[{ name := "PRODUCE", type := (.object "com/example/waxwing/waxwing/protocol/ApiKey"), accessFlags := 16409, slot := 0, constantValue := 0 }, { name := "FETCH", type := (.object "com/example/waxwing/waxwing/protocol/ApiKey"), accessFlags := 16409, slot := 1, constantValue := 0 }, { name := "LIST_OFFSETS", type := (.object "com/example/waxwing/waxwing/protocol/ApiKey"), accessFlags := 16409, slot := 2, constantValue := 0 }, { name := "METADATA", type := (.object "com/example/waxwing/waxwing/protocol/ApiKey"), accessFlags := 16409, slot := 3, constantValue := 0 }, { name := "OFFSET_COMMIT", type := (.object "com/example/waxwing/waxwing/protocol/ApiKey"), accessFlags := 16409, slot := 4, constantValue := 0 }, { name := "OFFSET_FETCH", type := (.object "com/example/waxwing/waxwing/protocol/ApiKey"), accessFlags := 16409, slot := 5, constantValue := 0 }, { name := "FIND_COORDINATOR", type := (.object "com/example/waxwing/waxwing/protocol/ApiKey"), accessFlags := 16409, slot := 6, constantValue := 0 }, { name := "JOIN_GROUP", type := (.object "com/example/waxwing/waxwing/protocol/ApiKey"), accessFlags := 16409, slot := 7, constantValue := 0 }, { name := "HEARTBEAT", type := (.object "com/example/waxwing/waxwing/protocol/ApiKey"), accessFlags := 16409, slot := 8, constantValue := 0 }, { name := "LEAVE_GROUP", type := (.object "com/example/waxwing/waxwing/protocol/ApiKey"), accessFlags := 16409, slot := 9, constantValue := 0 }, { name := "SYNC_GROUP", type := (.object "com/example/waxwing/waxwing/protocol/ApiKey"), accessFlags := 16409, slot := 10, constantValue := 0 }, { name := "DESCRIBE_GROUPS", type := (.object "com/example/waxwing/waxwing/protocol/ApiKey"), accessFlags := 16409, slot := 11, constantValue := 0 }, { name := "LIST_GROUPS", type := (.object "com/example/waxwing/waxwing/protocol/ApiKey"), accessFlags := 16409, slot := 12, constantValue := 0 }, { name := "API_VERSIONS", type := (.object "com/example/waxwing/waxwing/protocol/ApiKey"), accessFlags := 16409, slot := 13, constantValue := 0 }, { name := "CREATE_TOPICS", type := (.object "com/example/waxwing/waxwing/protocol/ApiKey"), accessFlags := 16409, slot := 14, constantValue := 0 }, { name := "DELETE_TOPICS", type := (.object "com/example/waxwing/waxwing/protocol/ApiKey"), accessFlags := 16409, slot := 15, constantValue := 0 }, { name := "INIT_PRODUCER_ID", type := (.object "com/example/waxwing/waxwing/protocol/ApiKey"), accessFlags := 16409, slot := 16, constantValue := 0 }, { name := "DESCRIBE_CONFIGS", type := (.object "com/example/waxwing/waxwing/protocol/ApiKey"), accessFlags := 16409, slot := 17, constantValue := 0 }, { name := "CREATE_PARTITIONS", type := (.object "com/example/waxwing/waxwing/protocol/ApiKey"), accessFlags := 16409, slot := 18, constantValue := 0 }, { name := "DELETE_GROUPS", type := (.object "com/example/waxwing/waxwing/protocol/ApiKey"), accessFlags := 16409, slot := 19, constantValue := 0 }, { name := "NONE_FLEXIBLE", type := .short, accessFlags := 26, slot := 20, constantValue := 0 }, { name := "BY_ID", type := (.array (.object "com/example/waxwing/waxwing/protocol/ApiKey")), accessFlags := 26, slot := 21, constantValue := 0 }, { name := "id", type := .short, accessFlags := 18, slot := 3, constantValue := 0 }, { name := "oldestVersion", type := .short, accessFlags := 18, slot := 4, constantValue := 0 }, { name := "latestVersion", type := .short, accessFlags := 18, slot := 5, constantValue := 0 }, { name := "firstFlexibleVersion", type := .short, accessFlags := 18, slot := 6, constantValue := 0 }, { name := "$VALUES", type := (.array (.object "com/example/waxwing/waxwing/protocol/ApiKey")), accessFlags := 4122, slot := 22, constantValue := 0 }]
  methods := #[k6m0]
  instanceTypes := #[(.object "java/lang/String"), .int, .int, .short, .short, .short, .short]
  staticTypes := #[(.object "com/example/waxwing/waxwing/protocol/ApiKey"), (.object "com/example/waxwing/waxwing/protocol/ApiKey"), (.object "com/example/waxwing/waxwing/protocol/ApiKey"), (.object "com/example/waxwing/waxwing/protocol/ApiKey"), (.object "com/example/waxwing/waxwing/protocol/ApiKey"), (.object "com/example/waxwing/waxwing/protocol/ApiKey"), (.object "com/example/waxwing/waxwing/protocol/ApiKey"), (.object "com/example/waxwing/waxwing/protocol/ApiKey"), (.object "com/example/waxwing/waxwing/protocol/ApiKey"), (.object "com/example/waxwing/waxwing/protocol/ApiKey"), (.object "com/example/waxwing/waxwing/protocol/ApiKey"), (.object "com/example/waxwing/waxwing/protocol/ApiKey"), (.object "com/example/waxwing/waxwing/protocol/ApiKey"), (.object "com/example/waxwing/waxwing/protocol/ApiKey"), (.object "com/example/waxwing/waxwing/protocol/ApiKey"), (.object "com/example/waxwing/waxwing/protocol/ApiKey"), (.object "com/example/waxwing/waxwing/protocol/ApiKey"), (.object "com/example/waxwing/waxwing/protocol/ApiKey"), (.object "com/example/waxwing/waxwing/protocol/ApiKey"), (.object "com/example/waxwing/waxwing/protocol/ApiKey"), .short, (.array (.object "com/example/waxwing/waxwing/protocol/ApiKey")), (.array (.object "com/example/waxwing/waxwing/protocol/ApiKey"))]
  resolved := Array.replicate 165 none
  statics := some 0 }

def pool7 : Array CpInfo := pool [(1, u "java/lang/Cloneable"), (0, .class_ 1), (0, u "java/lang/Object"), (0, .class_ 3)] 3

/-- java/lang/Cloneable -/
def k7 : Class := { plain "java/lang/Cloneable" (some 0) with
  accessFlags := 1537
  interfaces := #[]
  cf := some (fileOf pool7 2 #[] #[] 1537 4 #[] #[])
  fields := #[]
  methods := #[]
  instanceTypes := #[]
  staticTypes := #[]
  resolved := Array.replicate 8 none
  statics := none }

/-- the primitive byte -/
def k8 : Class := { plain "byte" none with kind := .primitive 'B', accessFlags := 0x411 }
/-- [B -/
def k9 : Class := { plain "[B" (some 0) with kind := .array 8 .byte, interfaces := #[7, 4], accessFlags := 1041 }

/-- the primitive int -/
def k10 : Class := { plain "int" none with kind := .primitive 'I', accessFlags := 0x411 }
/-- [I -/
def k11 : Class := { plain "[I" (some 0) with kind := .array 10 .int, interfaces := #[7, 4], accessFlags := 1041 }

/-- [Lcom/example/waxwing/waxwing/protocol/ApiKey; -/
def k12 : Class := { plain "[Lcom/example/waxwing/waxwing/protocol/ApiKey;" (some 0) with kind := .array 6 (.object "com/example/waxwing/waxwing/protocol/ApiKey"), interfaces := #[7, 4], accessFlags := 1041 }

def heap : Heap := #[{ cls := 6, slots := #[.ref 2, .ref 3, .ref 4, .ref 5, .ref 6, .ref 7, .ref 8, .ref 9, .ref 10, .ref 11, .ref 12, .ref 13, .ref 14, .ref 15, .ref 16, .ref 17, .ref 18, .ref 19, .ref 20, .ref 21, .int 0, .ref 1, .null], vm := .statics 6 },
  { cls := 12, slots := #[.ref 2, .ref 3, .ref 4, .ref 5, .null, .null, .null, .null, .ref 6, .ref 7, .ref 8, .ref 9, .ref 10, .ref 11, .ref 12, .ref 13, .ref 14, .null, .ref 15, .ref 16, .ref 17, .null, .ref 18, .null, .null, .null, .null, .null, .null, .null, .null, .null, .ref 19, .null, .null, .null, .null, .ref 20, .null, .null, .null, .null, .ref 21], vm := .none },
  { cls := 6, slots := #[.null, .int 0, .int 0, .int 0, .int 0, .int 7, .int 0], vm := .none },
  { cls := 6, slots := #[.null, .int 1, .int 0, .int 1, .int 4, .int 11, .int 0], vm := .none },
  { cls := 6, slots := #[.null, .int 2, .int 0, .int 2, .int 1, .int 2, .int 0], vm := .none },
  { cls := 6, slots := #[.null, .int 3, .int 0, .int 3, .int 0, .int 5, .int 0], vm := .none },
  { cls := 6, slots := #[.null, .int 4, .int 0, .int 8, .int 2, .int 7, .int 0], vm := .none },
  { cls := 6, slots := #[.null, .int 5, .int 0, .int 9, .int 1, .int 5, .int 0], vm := .none },
  { cls := 6, slots := #[.null, .int 6, .int 0, .int 10, .int 0, .int 2, .int 0], vm := .none },
  { cls := 6, slots := #[.null, .int 7, .int 0, .int 11, .int 2, .int 5, .int 0], vm := .none },
  { cls := 6, slots := #[.null, .int 8, .int 0, .int 12, .int 1, .int 3, .int 0], vm := .none },
  { cls := 6, slots := #[.null, .int 9, .int 0, .int 13, .int 0, .int 2, .int 0], vm := .none },
  { cls := 6, slots := #[.null, .int 10, .int 0, .int 14, .int 1, .int 3, .int 0], vm := .none },
  { cls := 6, slots := #[.null, .int 11, .int 0, .int 15, .int 0, .int 4, .int 0], vm := .none },
  { cls := 6, slots := #[.null, .int 12, .int 0, .int 16, .int 0, .int 2, .int 0], vm := .none },
  { cls := 6, slots := #[.null, .int 13, .int 0, .int 18, .int 0, .int 3, .int 0], vm := .none },
  { cls := 6, slots := #[.null, .int 14, .int 0, .int 19, .int 0, .int 4, .int 0], vm := .none },
  { cls := 6, slots := #[.null, .int 15, .int 0, .int 20, .int 0, .int 3, .int 0], vm := .none },
  { cls := 6, slots := #[.null, .int 16, .int 0, .int 22, .int 0, .int 1, .int 0], vm := .none },
  { cls := 6, slots := #[.null, .int 17, .int 0, .int 32, .int 0, .int 3, .int 0], vm := .none },
  { cls := 6, slots := #[.null, .int 18, .int 0, .int 37, .int 0, .int 1, .int 0], vm := .none },
  { cls := 6, slots := #[.null, .int 19, .int 0, .int 42, .int 0, .int 1, .int 0], vm := .none }]
def classes : Array Class := #[k0, k1, k2, k3, k4, k5, k6, k7, k8, k9, k10, k11, k12]
def interned : List (Array UInt16 × Addr) := []
def slotsUsed : Nat := 206
def theMethod : MethodId := ⟨1, 2⟩
def args0 : Array Value := #[.int 5, .int 5]
def aboutOver (below : List Frame) : State where
  vm := { classes := classes, interned := interned.toArray }
  heap := heap
  slotsUsed := slotsUsed
  threads := #[{ frames := .invoking theMethod args0 :: below }]
def below0 : List Frame := [.native { method := ⟨0, 0⟩, args := #[] }]
def about1 : State := aboutOver below0
def p0 : Program := .bare "" "" ""
def e0 : Env := launch0.env 0 0 0
theorem w_frames : about1.frames = Frame.invoking theMethod args0 :: below0 := rfl
set_option maxRecDepth 65536 in
theorem w_args : argsFit about1.vm theMethod args0 = true := by decide +kernel
set_option maxRecDepth 65536 in
theorem w_heap : heapFits about1 = true := by decide +kernel
set_option maxRecDepth 65536 in
theorem w_runnable : about1.curStatus? = some .runnable := by decide +kernel
set_option maxRecDepth 65536 in
theorem w_alone : about1.alone = true := by decide +kernel
set_option maxRecDepth 65536 in
theorem w_named : about1.methodNamed? x = some theMethod := by decide +kernel
set_option maxRecDepth 65536 in
theorem w_hears : about1.hears theMethod below0 = true := by decide +kernel
set_option maxRecDepth 65536 in
theorem w_ripe : about1.ripe theMethod args0 below0 = true := by decide +kernel
theorem w_running : about1.status = .running := rfl
set_option maxRecDepth 65536 in
theorem w_room : about1.hasRoom e0.platform room_1 = true :=
  launch0.hasRoom_least _ room_1 (by decide +kernel) (by decide +kernel) (by decide +kernel) (by decide +kernel) (by decide +kernel) (by decide +kernel)
theorem allAtoms_all (ts : List Jvm.Cond) (a : Array Jvm.Value) (st : Jvm.State) : (allAtoms ts).before a st = ts.all (fun c => c.before a st) := by
  induction ts with
  | nil => rfl
  | cons c t ih =>
    show (Jvm.Cond.and c (allAtoms t)).before a st = _
    rw [Jvm.Cond.before_and, ih, List.all_cons]
def words1 : List Jvm.Cond := Jvm.Cond.code x code maxLocals ret :: tables_1
/-- a 'code' word, met by the world's own term for the bytes: nothing is compared byte by byte -/
theorem code_word {y : MethodName} {bytes : ByteArray} {mx : Nat} {rt : Option FieldType} {a : Array Value} {s : State} {m : MethodId} {meth : Method} {c : Code} (h1 : s.methodNamed? y = some m) (h2 : s.vm.method? m = some meth) (h3 : meth.code = some c) (h4 : c.code = bytes)
    (h5 : (c.maxLocals == mx && c.exceptionTable.isEmpty && decide (c.maxStack ≤ mostOperands) && decide (meth.sig.returnType = rt) && !meth.locks && decide (parseMethodDescriptor y.desc = some meth.sig)) = true) : (Jvm.Cond.code y bytes mx rt).before a s = true := by
  simp only [Bool.and_eq_true, beq_iff_eq, Bool.not_eq_true', decide_eq_true_eq] at h5
  obtain ⟨⟨⟨⟨⟨g1, g2⟩, g3⟩, g4⟩, g5⟩, g6⟩ := h5
  simp [Cond.before, Cond.holds, Cond.value, h1, h2, h3, h4, g1, g2, g3, g4, g5, g6]
def isCode : Jvm.Cond → Bool
  | .code _ _ _ _ => true
  | _ => false
theorem all_split {L : List Jvm.Cond} {P : Jvm.Cond → Bool} (h1 : L.all (fun c => isCode c || P c) = true) (h2 : ∀ c ∈ L.filter isCode, P c = true) : L.all P = true := by
  refine List.all_eq_true.mpr fun c hc => ?_
  have h := List.all_eq_true.mp h1 c hc
  rcases Bool.eq_false_or_eq_true (isCode c) with hi | hi
  · exact h2 c (List.mem_filter.mpr ⟨hc, hi⟩)
  · simpa [hi] using h
set_option maxRecDepth 65536 in
theorem w_c0 : (Jvm.Cond.code x code maxLocals ret).before args0 about1 = true := code_word (m := ⟨1, 2⟩) (meth := k1m2) (c := k1c2) (by decide +kernel) rfl rfl rfl (by decide +kernel)
set_option maxRecDepth 65536 in
theorem w_c1 : (Jvm.Cond.code ({ cls := "com/example/waxwing/waxwing/protocol/ApiKey", name := "forId", desc := "(S)Lcom/example/waxwing/waxwing/protocol/ApiKey;" } : Jvm.MethodName) prog_22_method_5_code (1 : Nat) (Option.some (Jvm.ClassFile.FieldType.object "com/example/waxwing/waxwing/protocol/ApiKey"))).before args0 about1 = true := code_word (m := ⟨6, 0⟩) (meth := k6m0) (c := k6c0) (by decide +kernel) rfl rfl rfl (by decide +kernel)
set_option maxRecDepth 65536 in
theorem w_c2 : (Jvm.Cond.code ({ cls := "com/example/waxwing/waxwing/protocol/ApiKeyForIdPinLaw", name := "expected", desc := "(I)Lcom/example/waxwing/waxwing/protocol/ApiKey;" } : Jvm.MethodName) method_2_code (1 : Nat) (Option.some (Jvm.ClassFile.FieldType.object "com/example/waxwing/waxwing/protocol/ApiKey"))).before args0 about1 = true := code_word (m := ⟨1, 1⟩) (meth := k1m1) (c := k1c1) (by decide +kernel) rfl rfl rfl (by decide +kernel)
def codes1 : List Jvm.Cond := [Jvm.Cond.code x code maxLocals ret, Jvm.Cond.code ({ cls := "com/example/waxwing/waxwing/protocol/ApiKey", name := "forId", desc := "(S)Lcom/example/waxwing/waxwing/protocol/ApiKey;" } : Jvm.MethodName) prog_22_method_5_code (1 : Nat) (Option.some (Jvm.ClassFile.FieldType.object "com/example/waxwing/waxwing/protocol/ApiKey")), Jvm.Cond.code ({ cls := "com/example/waxwing/waxwing/protocol/ApiKeyForIdPinLaw", name := "expected", desc := "(I)Lcom/example/waxwing/waxwing/protocol/ApiKey;" } : Jvm.MethodName) method_2_code (1 : Nat) (Option.some (Jvm.ClassFile.FieldType.object "com/example/waxwing/waxwing/protocol/ApiKey"))]
set_option maxRecDepth 65536 in
theorem codes_eq : words1.filter isCode = codes1 := rfl
theorem w_codes : ∀ c ∈ words1.filter isCode, c.before args0 about1 = true := by
  rw [codes_eq]
  intro c hc
  simp only [codes1, List.mem_cons, List.not_mem_nil, or_false] at hc
  rcases hc with rfl | rfl | rfl
  · exact w_c0
  · exact w_c1
  · exact w_c2
set_option maxRecDepth 65536 in
theorem w_t1 : (words1.take 24).all (fun c => isCode c || c.before args0 about1) = true := by decide +kernel
set_option maxRecDepth 65536 in
theorem w_t2 : ((words1.drop 24).take 24).all (fun c => isCode c || c.before args0 about1) = true := by decide +kernel
set_option maxRecDepth 65536 in
theorem w_t3 : ((words1.drop 24).drop 24).all (fun c => isCode c || c.before args0 about1) = true := by decide +kernel
theorem w_tables : (allAtoms (Jvm.Cond.code x code maxLocals ret :: tables_1)).before args0 about1 = true := by
  rw [allAtoms_all]
  show words1.all (fun c => c.before args0 about1) = true
  refine all_split ?_ w_codes
  rw [← List.take_append_drop 24 words1, List.all_append, w_t1, ← List.take_append_drop 24 (words1.drop 24), List.all_append, w_t2, w_t3]
  rfl
set_option maxRecDepth 65536 in
theorem w_case : (Jvm.Cond.and given_1 narrow_1).before args0 about1 = true := by decide +kernel
theorem w_applies : (headSpec (Jvm.Cond.code x code maxLocals ret :: tables_1) room_1).applies x e0.platform about1 = true :=
  (Spec.applies_iff w_frames).mpr ⟨w_running, w_runnable, w_alone, w_named, w_hears, w_ripe, w_room, w_tables⟩
theorem atStart : AtStart classFile x code maxLocals ret World_1 tables_1 room_1 Calls_1 rest_1 Pre_1 launch0 p0 e0 about1 theMethod args0 below0 :=
  ⟨lists_1, trivial, launch0.admits_env _ _ _, launch0.least_env, fairChoices_fair.cas, fairChoices_fair.clock, w_frames, w_args, w_heap, w_applies, trivial, trivial, w_case⟩
end start1
theorem witness_1 : WitnessClaimed_1 := ⟨start1.p0, start1.e0, start1.about1, start1.theMethod, start1.args0, start1.below0, start1.atStart⟩
end Jvm.Pilot.@@N@@
