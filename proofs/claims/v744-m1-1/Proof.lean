import JvmDerived
import JvmDerived.Pilot.@@N@@Statement
import JvmDerived.Pilot.@@N@@Code
set_option linter.unusedVariables false
set_option linter.unusedSimpArgs false
namespace Jvm.RoadKit
open Sem ClassFile Op Lib Jvm.Stand Jvm.Free Jvm.LawKit
section New
variable {p : Program} {l : Launch} {e : Env} {R : Room} {s : State} {m : MethodId} {args : Array Value} {below : List Frame} {meth : Method} {c : Code} {T : State} {locs : List Loc} {cells slots : Nat}
theorem retI (X : Stand p l e R s m args below meth c T locs cells slots) (hx : p.tables.exec = Jvm.exec) {pc : Nat} {Ls : Array Slot} {z : Int32} {rest : List Value} (hret : meth.sig.returnType = some .int) (hd : decode c.code pc = .ok (.ireturn, 1)) {fs : List Frame}
    (hl : ∀ (f : JFrame) (acts : List Action), f.method = m → f.locked = none → f.entered = [] → (doReturn e (T.setTop f) acts (some (.int z))).1 = T.setFrames fs) : Steps p.tables e below (T.setTop (mkF m pc Ls (.int z :: rest))) (T.setFrames fs) :=
  retOut X hx hret rfl (Or.inl ⟨rfl, Or.inl rfl, z, rfl⟩) hd hl
theorem own_catR {v : Value} (h : v.isRef = true) : v.category = 1 := by rcases ref_cases h with rfl | ⟨a, rfl⟩ <;> rfl
theorem own_iteR (P : Prop) [Decidable P] {a b : Value} (ha : a.isRef = true) (hb : b.isRef = true) : (if P then a else b).isRef = true := by
  by_cases h : P
  · rw [if_pos h]; exact ha
  · rw [if_neg h]; exact hb
end New
end Jvm.RoadKit
namespace Jvm.Pilot.@@N@@
open Jvm Jvm.ClassFile Sem Op Lib Jvm.Free Jvm.Stand Jvm.LawKit Jvm.RoadKit Bundle Jvm.Pilot.@@N@@.Jvm.D
theorem own_nb {d : Int32} (h : d = 0 ∨ d = 1) : narrow .boolean (.int d) = .int d ∧ fits .boolean (.int d) = true := by rcases h with rfl | rfl <;> exact ⟨rfl, rfl⟩
def own_ks (e q : Int64) : Int32 := if (lcmpW e q) = (0 : Int32) then 1 else 0
theorem own_k1 (e : Int64) : own_ks e e = 1 := by unfold own_ks; rw [if_pos ((lw_eq e e).mpr rfl)]
theorem own_k0 {e q : Int64} (h : e ≠ q) : own_ks e q = 0 := by unfold own_ks; rw [if_neg fun z => h ((lw_eq e q).mp z)]
theorem own_sym (e q : Int64) : own_ks e q = (if (lcmpW q e) = (0 : Int32) then (1 : Int32) else (0 : Int32)) := by
  by_cases h : e = q
  · subst h; rw [own_k1, if_pos ((lw_eq e e).mpr rfl)]
  · rw [own_k0 h, if_neg fun z => h ((lw_eq q e).mp z).symm]
theorem own_suc (e : Int64) : e + (1 : Int64) ≠ e := fun h => by
  have q := c_ladd e 1
  have o : (1 : Int64).toInt = 1 := rfl
  rw [h, o] at q; omega
theorem own_wS {a0 : Array Value} {Z : State} (hw : ∀ d ∈ tables_1, d.before a0 Z = true) : ∀ a ∈ Bundle.stringAtoms, a.before a0 Z = true := by
  intro a ha
  simp only [Bundle.stringAtoms, List.mem_cons, List.not_mem_nil, or_false] at ha
  rcases ha with rfl | rfl | rfl | rfl | rfl | rfl | rfl
  · exact hw _ (List.mem_of_getElem? (i := 4) rfl)
  · exact hw _ (List.mem_of_getElem? (i := 5) rfl)
  · exact hw _ (List.mem_of_getElem? (i := 6) rfl)
  · exact hw _ (List.mem_of_getElem? (i := 7) rfl)
  · exact hw _ (List.mem_of_getElem? (i := 8) rfl)
  · exact hw _ (List.mem_of_getElem? (i := 9) rfl)
  · exact hw _ (List.mem_of_getElem? (i := 10) rfl)
theorem d2_0 : decode jdk_30_method_1_code 0 = .ok (.aload_n 0, 1) := by decide +kernel
theorem d2_1 : decode jdk_30_method_1_code 1 = .ok (.invokespecial 1, 3) := by decide +kernel
theorem d2_4 : decode jdk_30_method_1_code 4 = .ok (.return_, 1) := by decide +kernel
theorem pn_0 : plainName "java/lang/Record" = true := by first | (simp [plainName, overriddenIn]; done) | decide +kernel
theorem ef_2 (m : MethodId) (x0 : Addr) : entryFrame m #[(.ref x0)] 1 = mkF m 0 #[.val (.ref x0)] [] := by first | (simp [entryFrame, mkF, argsToLocals, Value.category]; done) | rfl
def Q2 (Z : State) (a : Addr) (h0 : Heap) (n0 : Nat) (v : Option Value) (h : Heap) (L : List Loc) : Prop := v = none ∧ Fr n0 L ∧ h = h0
set_option maxRecDepth 65536 in
set_option maxHeartbeats 40000000 in
theorem rm2 (l : Launch) (Z : State) (a0 : Array Value) (hw : ∀ d ∈ tables_1, d.before a0 Z = true) (ws : List Jvm.Cond) (a : Addr) (h0 : Heap) (n0 : Nat) (Z0 : n0 ≤ h0.size) :
    MetFree l (⟨"java/lang/Record", "<init>", "()V"⟩ : MethodName) (head1 (Jvm.Cond.code (⟨"java/lang/Record", "<init>", "()V"⟩ : MethodName) jdk_30_method_1_code 1 none :: ws) ({ frames := 1, cells := 0, slots := 0, locals := 12 } : Room)) (fun aa U => aa = #[(.ref a)] ∧ Z.Warmed39 U.vm ∧ U.heap = h0) (fun _ _ _ _ _ => True) (fun _ U o U' => ∃ v L, o = .returned v ∧ Q2 Z a h0 n0 v U'.heap L ∧ FrameEnd U o U' L ({ frames := 1, cells := 0, slots := 0, locals := 12 } : Room).cells ({ frames := 1, cells := 0, slots := 0, locals := 12 } : Room).slots) := by
  refine MetFree.of_bodySF (plainFor_of_name pn_0) hisR ?_
  intro p e s m args below meth c s₁ Bd hml0 hP hK
  obtain ⟨rfl, hZ, hh⟩ := hP
  have hx := Bd.exec
  have hby := Bd.bytes
  have hml : c.maxLocals = 1 := hml0
  have hown : s.vm.findClass "java/lang/Record" = some m.cls := findClass_of_methodNamed Bd.named
  have hnm := (name_of_methodNamed Bd.named Bd.method).1
  have X0 : Stand p l e ({ frames := 1, cells := 0, slots := 0, locals := 12 } : Room) s m #[(.ref a)] below meth c s₁ [] 0 0 := Stand.of_body Bd
  have e0 : s₁.heap = h0 := by rw [← hh, Bd.state]; rfl
  have N0 := Fr.nil n0
  have pre0 : ∀ t, Steps p.tables e below (s₁.setTop (mkF m 0 #[.val (.ref a)] [])) t → Steps p.tables e below (s₁.setTop (entryFrame m #[(.ref a)] 1)) t := fun t k => castTop (ef_2 m a) k
  have k1 : ∀ t, Steps p.tables e below (s₁.setTop (mkF m 1 #[.val (.ref a)] [(.ref a)])) t → Steps p.tables e below (s₁.setTop (entryFrame m #[(.ref a)] 1)) t := fun t k => pre0 t (by
    show Steps p.tables e below (s₁.setTop (mkF m 0 #[.val (.ref a)] [])) _
    refine XS.aloadN X0.here hx rfl (hb hby d2_0) rfl rfl ?_
    exact k)
  obtain ⟨T2, X2, e2, st2⟩ := initO X0 hx hZ hown (hw _ (List.mem_of_getElem? (i := 19) rfl)) (hw _ (List.mem_of_getElem? (i := 20) rfl)) (hw _ (List.mem_of_getElem? (i := 21) rfl)) e0 (g := (mkF m 1 #[.val (.ref a)] [(.ref a)])) rfl (by rw [hml]; rfl) rfl (hb hby d2_1) (by decide) (W := 0) (by show 2 * 0 + _ ≤ _; exact Nat.le_of_eq rfl) (by decide)
  have k3 : ∀ t, Steps p.tables e below (T2.setTop (mkF m 4 #[.val (.ref a)] [])) t → Steps p.tables e below (s₁.setTop (entryFrame m #[(.ref a)] 1)) t := fun t k => k1 t (st2 t k)
  obtain ⟨fs, hr, hrun, hended, hW, hsame⟩ := X2.leave (v := none) (fun _ => rfl)
  refine ⟨_, _, k3 _ ?_, hrun, hended, _, _, rfl, ?_, ⟨_, rfl⟩, hW, hsame.mono (by decide) (by decide)⟩
  · show Steps p.tables e below (T2.setTop (mkF m 4 #[.val (.ref a)] [])) _
    exact X2.returnOut hx Bd.returns (hb hby d2_4) hr
  · show Q2 Z a h0 n0 _ T2.heap _
    rw [e2]
    exact ⟨rfl, N0, rfl⟩
theorem d1_0 : decode prog_34_method_1_code 0 = .ok (.aload_n 0, 1) := by decide +kernel
theorem d1_1 : decode prog_34_method_1_code 1 = .ok (.invokespecial 1, 3) := by decide +kernel
theorem d1_4 : decode prog_34_method_1_code 4 = .ok (.aload_n 0, 1) := by decide +kernel
theorem d1_5 : decode prog_34_method_1_code 5 = .ok (.aload_n 1, 1) := by decide +kernel
theorem d1_6 : decode prog_34_method_1_code 6 = .ok (.putfield 7, 3) := by decide +kernel
theorem d1_9 : decode prog_34_method_1_code 9 = .ok (.aload_n 0, 1) := by decide +kernel
theorem d1_10 : decode prog_34_method_1_code 10 = .ok (.aload_n 2, 1) := by decide +kernel
theorem d1_11 : decode prog_34_method_1_code 11 = .ok (.putfield 13, 3) := by decide +kernel
theorem d1_14 : decode prog_34_method_1_code 14 = .ok (.aload_n 0, 1) := by decide +kernel
theorem d1_15 : decode prog_34_method_1_code 15 = .ok (.aload_n 3, 1) := by decide +kernel
theorem d1_16 : decode prog_34_method_1_code 16 = .ok (.putfield 17, 3) := by decide +kernel
theorem d1_19 : decode prog_34_method_1_code 19 = .ok (.aload_n 0, 1) := by decide +kernel
theorem d1_20 : decode prog_34_method_1_code 20 = .ok (.aload 4, 2) := by decide +kernel
theorem d1_22 : decode prog_34_method_1_code 22 = .ok (.putfield 21, 3) := by decide +kernel
theorem d1_25 : decode prog_34_method_1_code 25 = .ok (.aload_n 0, 1) := by decide +kernel
theorem d1_26 : decode prog_34_method_1_code 26 = .ok (.lload 5, 2) := by decide +kernel
theorem d1_28 : decode prog_34_method_1_code 28 = .ok (.putfield 25, 3) := by decide +kernel
theorem d1_31 : decode prog_34_method_1_code 31 = .ok (.aload_n 0, 1) := by decide +kernel
theorem d1_32 : decode prog_34_method_1_code 32 = .ok (.aload 7, 2) := by decide +kernel
theorem d1_34 : decode prog_34_method_1_code 34 = .ok (.putfield 29, 3) := by decide +kernel
theorem d1_37 : decode prog_34_method_1_code 37 = .ok (.aload_n 0, 1) := by decide +kernel
theorem d1_38 : decode prog_34_method_1_code 38 = .ok (.iload 8, 2) := by decide +kernel
theorem d1_40 : decode prog_34_method_1_code 40 = .ok (.putfield 33, 3) := by decide +kernel
theorem d1_43 : decode prog_34_method_1_code 43 = .ok (.aload_n 0, 1) := by decide +kernel
theorem d1_44 : decode prog_34_method_1_code 44 = .ok (.lload 9, 2) := by decide +kernel
theorem d1_46 : decode prog_34_method_1_code 46 = .ok (.putfield 37, 3) := by decide +kernel
theorem d1_49 : decode prog_34_method_1_code 49 = .ok (.return_, 1) := by decide +kernel
theorem pn_1 : plainName "com/example/pen_over_wire/penoverwire/model/User" = true := by first | (simp [plainName, overriddenIn]; done) | decide +kernel
theorem pd_0 : parseMethodDescriptor "()V" = some ⟨[], none⟩ := by decide +kernel
theorem ef_1 (m : MethodId) (x0 : Addr) (x1 : Value) (hx1 : x1.isRef = true) (x2 : Value) (hx2 : x2.isRef = true) (x3 : Value) (hx3 : x3.isRef = true) (x4 : Value) (hx4 : x4.isRef = true) (x5 : Int64) (x6 : Value) (hx6 : x6.isRef = true) (x7 : Int32) (x8 : Int64) : entryFrame m #[(.ref x0), x1, x2, x3, x4, (.long x5), x6, (.int x7), (.long x8)] 11 = mkF m 0 #[.val (.ref x0), .val x1, .val x2, .val x3, .val x4, .val (.long x5), .second, .val x6, .val (.int x7), .val (.long x8), .second] [] := by rcases ref_cases hx1 with rfl | ⟨y1, rfl⟩ <;> rcases ref_cases hx2 with rfl | ⟨y2, rfl⟩ <;> rcases ref_cases hx3 with rfl | ⟨y3, rfl⟩ <;> rcases ref_cases hx4 with rfl | ⟨y4, rfl⟩ <;> rcases ref_cases hx6 with rfl | ⟨y6, rfl⟩ <;> (first | (simp [entryFrame, mkF, argsToLocals, Value.category]; done) | rfl)
def Q1 (Z : State) (a : Addr) (v1 : Value) (v2 : Value) (v3 : Value) (v4 : Value) (q5 : Int64) (v6 : Value) (d7 : Int32) (q8 : Int64) (h0 : Heap) (n0 : Nat) (v : Option Value) (h : Heap) (L : List Loc) : Prop := v = none ∧ Fr n0 L ∧ Keep h0 h [a] ∧ Exa Z h a "com/example/pen_over_wire/penoverwire/model/User" ∧ Fld Z h a "com/example/pen_over_wire/penoverwire/model/User" "name" "Ljava/lang/String;" v1 ∧ Fld Z h a "com/example/pen_over_wire/penoverwire/model/User" "role" "Lcom/example/pen_over_wire/penoverwire/model/Role;" v2 ∧ Fld Z h a "com/example/pen_over_wire/penoverwire/model/User" "password" "Lcom/example/pen_over_wire/penoverwire/crypto/PasswordHash;" v3 ∧ Fld Z h a "com/example/pen_over_wire/penoverwire/model/User" "totpSecret" "[B" v4 ∧ Fld Z h a "com/example/pen_over_wire/penoverwire/model/User" "lastOtpStep" "J" (.long q5) ∧ Fld Z h a "com/example/pen_over_wire/penoverwire/model/User" "failedLogins" "Lcom/example/pen_over_wire/penoverwire/model/FailedAttempts;" v6 ∧ Fld Z h a "com/example/pen_over_wire/penoverwire/model/User" "disabled" "Z" (.int d7) ∧ Fld Z h a "com/example/pen_over_wire/penoverwire/model/User" "sessionEpoch" "J" (.long q8)
set_option maxRecDepth 65536 in
set_option maxHeartbeats 40000000 in
theorem rm1 (l : Launch) (Z : State) (a0 : Array Value) (hw : ∀ d ∈ tables_1, d.before a0 Z = true) (ws : List Jvm.Cond) (a : Addr) (v1 : Value) (v2 : Value) (v3 : Value) (v4 : Value) (q5 : Int64) (v6 : Value) (d7 : Int32) (q8 : Int64) (h0 : Heap) (n0 : Nat) (Z0 : n0 ≤ h0.size) (r1 : v1.isRef = true) (r2 : v2.isRef = true) (r3 : v3.isRef = true) (r4 : v4.isRef = true) (r6 : v6.isRef = true) (hd7 : d7 = 0 ∨ d7 = 1) (F1 : Fld Z h0 a "com/example/pen_over_wire/penoverwire/model/User" "name" "Ljava/lang/String;" .null) (F2 : Fld Z h0 a "com/example/pen_over_wire/penoverwire/model/User" "role" "Lcom/example/pen_over_wire/penoverwire/model/Role;" .null) (F3 : Fld Z h0 a "com/example/pen_over_wire/penoverwire/model/User" "password" "Lcom/example/pen_over_wire/penoverwire/crypto/PasswordHash;" .null) (F4 : Fld Z h0 a "com/example/pen_over_wire/penoverwire/model/User" "totpSecret" "[B" .null) (F5 : Fld Z h0 a "com/example/pen_over_wire/penoverwire/model/User" "lastOtpStep" "J" (.long (0 : Int64))) (F6 : Fld Z h0 a "com/example/pen_over_wire/penoverwire/model/User" "failedLogins" "Lcom/example/pen_over_wire/penoverwire/model/FailedAttempts;" .null) (F7 : Fld Z h0 a "com/example/pen_over_wire/penoverwire/model/User" "disabled" "Z" (.int (0 : Int32))) (F8 : Fld Z h0 a "com/example/pen_over_wire/penoverwire/model/User" "sessionEpoch" "J" (.long (0 : Int64))) (Ea : Exa Z h0 a "com/example/pen_over_wire/penoverwire/model/User") (g_a : n0 ≤ a) :
    MetFree l (⟨"com/example/pen_over_wire/penoverwire/model/User", "<init>", "(Ljava/lang/String;Lcom/example/pen_over_wire/penoverwire/model/Role;Lcom/example/pen_over_wire/penoverwire/crypto/PasswordHash;[BJLcom/example/pen_over_wire/penoverwire/model/FailedAttempts;ZJ)V"⟩ : MethodName) (head1 (Jvm.Cond.code (⟨"com/example/pen_over_wire/penoverwire/model/User", "<init>", "(Ljava/lang/String;Lcom/example/pen_over_wire/penoverwire/model/Role;Lcom/example/pen_over_wire/penoverwire/crypto/PasswordHash;[BJLcom/example/pen_over_wire/penoverwire/model/FailedAttempts;ZJ)V"⟩ : MethodName) prog_34_method_1_code 11 none :: ws) ({ frames := 2, cells := 0, slots := 0, locals := 24 } : Room)) (fun aa U => aa = #[(.ref a), v1, v2, v3, v4, (.long q5), v6, (.int d7), (.long q8)] ∧ Z.Warmed39 U.vm ∧ U.heap = h0) (fun _ _ _ _ _ => True) (fun _ U o U' => ∃ v L, o = .returned v ∧ Q1 Z a v1 v2 v3 v4 q5 v6 d7 q8 h0 n0 v U'.heap L ∧ FrameEnd U o U' L ({ frames := 2, cells := 0, slots := 0, locals := 24 } : Room).cells ({ frames := 2, cells := 0, slots := 0, locals := 24 } : Room).slots) := by
  refine MetFree.of_bodySF (plainFor_of_name pn_1) hisR ?_
  intro p e s m args below meth c s₁ Bd hml0 hP hK
  obtain ⟨rfl, hZ, hh⟩ := hP
  have hx := Bd.exec
  have hby := Bd.bytes
  have hml : c.maxLocals = 11 := hml0
  have hown : s.vm.findClass "com/example/pen_over_wire/penoverwire/model/User" = some m.cls := findClass_of_methodNamed Bd.named
  have hnm := (name_of_methodNamed Bd.named Bd.method).1
  have X0 : Stand p l e ({ frames := 2, cells := 0, slots := 0, locals := 24 } : Room) s m #[(.ref a), v1, v2, v3, v4, (.long q5), v6, (.int d7), (.long q8)] below meth c s₁ [] 0 0 := Stand.of_body Bd
  have e0 : s₁.heap = h0 := by rw [← hh, Bd.state]; rfl
  have N0 := Fr.nil n0
  have pre0 : ∀ t, Steps p.tables e below (s₁.setTop (mkF m 0 #[.val (.ref a), .val v1, .val v2, .val v3, .val v4, .val (.long q5), .second, .val v6, .val (.int d7), .val (.long q8), .second] [])) t → Steps p.tables e below (s₁.setTop (entryFrame m #[(.ref a), v1, v2, v3, v4, (.long q5), v6, (.int d7), (.long q8)] 11)) t := fun t k => castTop (ef_1 m a v1 (r1) v2 (r2) v3 (r3) v4 (r4) q5 v6 (r6) d7 q8) k
  have KR : Keep h0 h0 [a] := Keep.refl _ _
  have k5 : ∀ t, Steps p.tables e below (s₁.setTop (mkF m 1 #[.val (.ref a), .val v1, .val v2, .val v3, .val v4, .val (.long q5), .second, .val v6, .val (.int d7), .val (.long q8), .second] [(.ref a)])) t → Steps p.tables e below (s₁.setTop (entryFrame m #[(.ref a), v1, v2, v3, v4, (.long q5), v6, (.int d7), (.long q8)] 11)) t := fun t k => pre0 t (by
    show Steps p.tables e below (s₁.setTop (mkF m 0 #[.val (.ref a), .val v1, .val v2, .val v3, .val v4, .val (.long q5), .second, .val v6, .val (.int d7), .val (.long q8), .second] [])) _
    refine XS.aloadN X0.here hx rfl (hb hby d1_0) rfl rfl ?_
    exact k)
  obtain ⟨_, _, ⟨T6, L6, kc6, ks6⟩, -, X6, ⟨Lc6, hQ6, l6, y6, z6⟩, st6⟩ := X0.specialBack hx (y := (⟨"java/lang/Record", "<init>", "()V"⟩ : MethodName)) rfl hown (mvT hZ (hw _ (List.mem_of_getElem? (i := 14) rfl))) (mvT hZ (hw _ (List.mem_of_getElem? (i := 15) rfl))) (mvT hZ (hw _ (List.mem_of_getElem? (i := 18) rfl))) (by decide) (backOf (W := 0) (rm2 l Z a0 hw [] a h0 n0 Z0) hZ (hw _ (List.mem_of_getElem? (i := 18) rfl)) (hw _ (List.mem_of_getElem? (i := 17) rfl)) (by decide) (by decide)) (g := (mkF m 1 #[.val (.ref a), .val v1, .val v2, .val v3, .val v4, .val (.long q5), .second, .val v6, .val (.int d7), .val (.long q8), .second] [(.ref a)])) rfl (by rw [hml]; rfl) (Steps.refl _) (a := a) (argsL := []) (rest := []) (lenOf pd_0 rfl) rfl (by show 2 * 0 + _ ≤ _; exact Nat.le_of_eq rfl) (hb hby d1_1) (fun _ _ => ⟨rfl, e0, (by decide : 0 + 0 ≤ _), (by decide : 0 + 0 ≤ _)⟩)
  dsimp only [Pt.U, Pt.locs, Pt.cells, Pt.slots] at X6 l6 y6 z6 st6 hQ6
  subst l6 y6 z6
  obtain ⟨rfl, Nq6, eq6⟩ := hQ6
  have N6 := Fr.app N0 Nq6
  have k7 : ∀ t, Steps p.tables e below (T6.setTop (mkF m 4 #[.val (.ref a), .val v1, .val v2, .val v3, .val v4, .val (.long q5), .second, .val v6, .val (.int d7), .val (.long q8), .second] [])) t → Steps p.tables e below (s₁.setTop (entryFrame m #[(.ref a), v1, v2, v3, v4, (.long q5), v6, (.int d7), (.long q8)] 11)) t := fun t k => k5 t (st6.trans k)
  have k8 : ∀ t, Steps p.tables e below (T6.setTop (mkF m 6 #[.val (.ref a), .val v1, .val v2, .val v3, .val v4, .val (.long q5), .second, .val v6, .val (.int d7), .val (.long q8), .second] [v1, (.ref a)])) t → Steps p.tables e below (s₁.setTop (entryFrame m #[(.ref a), v1, v2, v3, v4, (.long q5), v6, (.int d7), (.long q8)] 11)) t := fun t k => k7 t (by
    show Steps p.tables e below (T6.setTop (mkF m 4 #[.val (.ref a), .val v1, .val v2, .val v3, .val v4, .val (.long q5), .second, .val v6, .val (.int d7), .val (.long q8), .second] [])) _
    refine XS.aloadN X6.here hx rfl (hb hby d1_4) rfl rfl ?_
    show Steps p.tables e below (T6.setTop (mkF m 5 #[.val (.ref a), .val v1, .val v2, .val v3, .val v4, .val (.long q5), .second, .val v6, .val (.int d7), .val (.long q8), .second] [(.ref a)])) _
    refine XS.aloadN X6.here hx rfl (hb hby d1_5) rfl r1 ?_
    exact k)
  obtain ⟨T9, h9, X9, e9, W9, st9⟩ := putF X6 hx hZ hown (host := "") (Or.inl (hw _ (List.mem_of_getElem? (i := 22) rfl))) Via.refl eq6 F1 Ea (Or.inr ⟨(hw _ (List.mem_of_getElem? (i := 23) rfl)), rfl, hnm⟩) (hw _ (List.mem_of_getElem? (i := 1) rfl)) (ty := (.object "java/lang/String")) (by decide) (by rcases ref_cases (r1) with q | ⟨b, q⟩ <;> rw [q] <;> rfl) (by rcases ref_cases (r1) with q | ⟨b, q⟩ <;> rw [q] <;> rfl) (g := (mkF m 6 #[.val (.ref a), .val v1, .val v2, .val v3, .val v4, .val (.long q5), .second, .val v6, .val (.int d7), .val (.long q8), .second] [v1, (.ref a)])) rfl rfl (hb hby d1_6)
  have N9 := Fr.snoc X9 N6 g_a
  have Z10 : n0 ≤ h9.size := Nat.le_trans Z0 (Nat.le_of_eq W9.size.symm)
  have K11 : Keep h0 h9 [a] := KR.wr W9 (Or.inl (List.mem_of_getElem? (i := 0) rfl))
  have F12 : Fld Z h9 a "com/example/pen_over_wire/penoverwire/model/User" "role" "Lcom/example/pen_over_wire/penoverwire/model/Role;" .null := Fld.other W9 F2 (Or.inr (slot_ne (Or.inr (hw _ (List.mem_of_getElem? (i := 25) rfl))) (Or.inr (hw _ (List.mem_of_getElem? (i := 23) rfl))) (by decide) (t := (.object "com/example/pen_over_wire/penoverwire/model/Role")) (t' := (.object "java/lang/String")) (by decide) (by decide)))
  have F13 : Fld Z h9 a "com/example/pen_over_wire/penoverwire/model/User" "password" "Lcom/example/pen_over_wire/penoverwire/crypto/PasswordHash;" .null := Fld.other W9 F3 (Or.inr (slot_ne (Or.inr (hw _ (List.mem_of_getElem? (i := 27) rfl))) (Or.inr (hw _ (List.mem_of_getElem? (i := 23) rfl))) (by decide) (t := (.object "com/example/pen_over_wire/penoverwire/crypto/PasswordHash")) (t' := (.object "java/lang/String")) (by decide) (by decide)))
  have F14 : Fld Z h9 a "com/example/pen_over_wire/penoverwire/model/User" "totpSecret" "[B" .null := Fld.other W9 F4 (Or.inr (slot_ne (Or.inr (hw _ (List.mem_of_getElem? (i := 29) rfl))) (Or.inr (hw _ (List.mem_of_getElem? (i := 23) rfl))) (by decide) (t := (.array .byte)) (t' := (.object "java/lang/String")) (by decide) (by decide)))
  have F15 : Fld Z h9 a "com/example/pen_over_wire/penoverwire/model/User" "lastOtpStep" "J" (.long (0 : Int64)) := Fld.other W9 F5 (Or.inr (slot_ne (Or.inr (hw _ (List.mem_of_getElem? (i := 31) rfl))) (Or.inr (hw _ (List.mem_of_getElem? (i := 23) rfl))) (by decide) (t := .long) (t' := (.object "java/lang/String")) (by decide) (by decide)))
  have F16 : Fld Z h9 a "com/example/pen_over_wire/penoverwire/model/User" "failedLogins" "Lcom/example/pen_over_wire/penoverwire/model/FailedAttempts;" .null := Fld.other W9 F6 (Or.inr (slot_ne (Or.inr (hw _ (List.mem_of_getElem? (i := 33) rfl))) (Or.inr (hw _ (List.mem_of_getElem? (i := 23) rfl))) (by decide) (t := (.object "com/example/pen_over_wire/penoverwire/model/FailedAttempts")) (t' := (.object "java/lang/String")) (by decide) (by decide)))
  have F17 : Fld Z h9 a "com/example/pen_over_wire/penoverwire/model/User" "disabled" "Z" (.int (0 : Int32)) := Fld.other W9 F7 (Or.inr (slot_ne (Or.inr (hw _ (List.mem_of_getElem? (i := 35) rfl))) (Or.inr (hw _ (List.mem_of_getElem? (i := 23) rfl))) (by decide) (t := .boolean) (t' := (.object "java/lang/String")) (by decide) (by decide)))
  have F18 : Fld Z h9 a "com/example/pen_over_wire/penoverwire/model/User" "sessionEpoch" "J" (.long (0 : Int64)) := Fld.other W9 F8 (Or.inr (slot_ne (Or.inr (hw _ (List.mem_of_getElem? (i := 37) rfl))) (Or.inr (hw _ (List.mem_of_getElem? (i := 23) rfl))) (by decide) (t := .long) (t' := (.object "java/lang/String")) (by decide) (by decide)))
  have F19 : Exa Z h9 a "com/example/pen_over_wire/penoverwire/model/User" := Exa.wr W9 Ea
  have F20 : Fld Z h9 a "com/example/pen_over_wire/penoverwire/model/User" "name" "Ljava/lang/String;" v1 := Fld.same W9 F1
  have k21 : ∀ t, Steps p.tables e below (T9.setTop (mkF m 9 #[.val (.ref a), .val v1, .val v2, .val v3, .val v4, .val (.long q5), .second, .val v6, .val (.int d7), .val (.long q8), .second] [])) t → Steps p.tables e below (s₁.setTop (entryFrame m #[(.ref a), v1, v2, v3, v4, (.long q5), v6, (.int d7), (.long q8)] 11)) t := fun t k => k8 t (st9 t k)
  have k22 : ∀ t, Steps p.tables e below (T9.setTop (mkF m 11 #[.val (.ref a), .val v1, .val v2, .val v3, .val v4, .val (.long q5), .second, .val v6, .val (.int d7), .val (.long q8), .second] [v2, (.ref a)])) t → Steps p.tables e below (s₁.setTop (entryFrame m #[(.ref a), v1, v2, v3, v4, (.long q5), v6, (.int d7), (.long q8)] 11)) t := fun t k => k21 t (by
    show Steps p.tables e below (T9.setTop (mkF m 9 #[.val (.ref a), .val v1, .val v2, .val v3, .val v4, .val (.long q5), .second, .val v6, .val (.int d7), .val (.long q8), .second] [])) _
    refine XS.aloadN X9.here hx rfl (hb hby d1_9) rfl rfl ?_
    show Steps p.tables e below (T9.setTop (mkF m 10 #[.val (.ref a), .val v1, .val v2, .val v3, .val v4, .val (.long q5), .second, .val v6, .val (.int d7), .val (.long q8), .second] [(.ref a)])) _
    refine XS.aloadN X9.here hx rfl (hb hby d1_10) rfl r2 ?_
    exact k)
  obtain ⟨T23, h23, X23, e23, W23, st23⟩ := putF X9 hx hZ hown (host := "") (Or.inl (hw _ (List.mem_of_getElem? (i := 24) rfl))) Via.refl e9 F12 F19 (Or.inr ⟨(hw _ (List.mem_of_getElem? (i := 25) rfl)), rfl, hnm⟩) (hw _ (List.mem_of_getElem? (i := 1) rfl)) (ty := (.object "com/example/pen_over_wire/penoverwire/model/Role")) (by decide) (by rcases ref_cases (r2) with q | ⟨b, q⟩ <;> rw [q] <;> rfl) (by rcases ref_cases (r2) with q | ⟨b, q⟩ <;> rw [q] <;> rfl) (g := (mkF m 11 #[.val (.ref a), .val v1, .val v2, .val v3, .val v4, .val (.long q5), .second, .val v6, .val (.int d7), .val (.long q8), .second] [v2, (.ref a)])) rfl rfl (hb hby d1_11)
  have N23 := Fr.snoc X23 N9 g_a
  have Z24 : n0 ≤ h23.size := Nat.le_trans Z10 (Nat.le_of_eq W23.size.symm)
  have K25 : Keep h0 h23 [a] := K11.wr W23 (Or.inl (List.mem_of_getElem? (i := 0) rfl))
  have F26 : Fld Z h23 a "com/example/pen_over_wire/penoverwire/model/User" "password" "Lcom/example/pen_over_wire/penoverwire/crypto/PasswordHash;" .null := Fld.other W23 F13 (Or.inr (slot_ne (Or.inr (hw _ (List.mem_of_getElem? (i := 27) rfl))) (Or.inr (hw _ (List.mem_of_getElem? (i := 25) rfl))) (by decide) (t := (.object "com/example/pen_over_wire/penoverwire/crypto/PasswordHash")) (t' := (.object "com/example/pen_over_wire/penoverwire/model/Role")) (by decide) (by decide)))
  have F27 : Fld Z h23 a "com/example/pen_over_wire/penoverwire/model/User" "totpSecret" "[B" .null := Fld.other W23 F14 (Or.inr (slot_ne (Or.inr (hw _ (List.mem_of_getElem? (i := 29) rfl))) (Or.inr (hw _ (List.mem_of_getElem? (i := 25) rfl))) (by decide) (t := (.array .byte)) (t' := (.object "com/example/pen_over_wire/penoverwire/model/Role")) (by decide) (by decide)))
  have F28 : Fld Z h23 a "com/example/pen_over_wire/penoverwire/model/User" "lastOtpStep" "J" (.long (0 : Int64)) := Fld.other W23 F15 (Or.inr (slot_ne (Or.inr (hw _ (List.mem_of_getElem? (i := 31) rfl))) (Or.inr (hw _ (List.mem_of_getElem? (i := 25) rfl))) (by decide) (t := .long) (t' := (.object "com/example/pen_over_wire/penoverwire/model/Role")) (by decide) (by decide)))
  have F29 : Fld Z h23 a "com/example/pen_over_wire/penoverwire/model/User" "failedLogins" "Lcom/example/pen_over_wire/penoverwire/model/FailedAttempts;" .null := Fld.other W23 F16 (Or.inr (slot_ne (Or.inr (hw _ (List.mem_of_getElem? (i := 33) rfl))) (Or.inr (hw _ (List.mem_of_getElem? (i := 25) rfl))) (by decide) (t := (.object "com/example/pen_over_wire/penoverwire/model/FailedAttempts")) (t' := (.object "com/example/pen_over_wire/penoverwire/model/Role")) (by decide) (by decide)))
  have F30 : Fld Z h23 a "com/example/pen_over_wire/penoverwire/model/User" "disabled" "Z" (.int (0 : Int32)) := Fld.other W23 F17 (Or.inr (slot_ne (Or.inr (hw _ (List.mem_of_getElem? (i := 35) rfl))) (Or.inr (hw _ (List.mem_of_getElem? (i := 25) rfl))) (by decide) (t := .boolean) (t' := (.object "com/example/pen_over_wire/penoverwire/model/Role")) (by decide) (by decide)))
  have F31 : Fld Z h23 a "com/example/pen_over_wire/penoverwire/model/User" "sessionEpoch" "J" (.long (0 : Int64)) := Fld.other W23 F18 (Or.inr (slot_ne (Or.inr (hw _ (List.mem_of_getElem? (i := 37) rfl))) (Or.inr (hw _ (List.mem_of_getElem? (i := 25) rfl))) (by decide) (t := .long) (t' := (.object "com/example/pen_over_wire/penoverwire/model/Role")) (by decide) (by decide)))
  have F32 : Exa Z h23 a "com/example/pen_over_wire/penoverwire/model/User" := Exa.wr W23 F19
  have F33 : Fld Z h23 a "com/example/pen_over_wire/penoverwire/model/User" "name" "Ljava/lang/String;" v1 := Fld.other W23 F20 (Or.inr (slot_ne (Or.inr (hw _ (List.mem_of_getElem? (i := 23) rfl))) (Or.inr (hw _ (List.mem_of_getElem? (i := 25) rfl))) (by decide) (t := (.object "java/lang/String")) (t' := (.object "com/example/pen_over_wire/penoverwire/model/Role")) (by decide) (by decide)))
  have F34 : Fld Z h23 a "com/example/pen_over_wire/penoverwire/model/User" "role" "Lcom/example/pen_over_wire/penoverwire/model/Role;" v2 := Fld.same W23 F12
  have k35 : ∀ t, Steps p.tables e below (T23.setTop (mkF m 14 #[.val (.ref a), .val v1, .val v2, .val v3, .val v4, .val (.long q5), .second, .val v6, .val (.int d7), .val (.long q8), .second] [])) t → Steps p.tables e below (s₁.setTop (entryFrame m #[(.ref a), v1, v2, v3, v4, (.long q5), v6, (.int d7), (.long q8)] 11)) t := fun t k => k22 t (st23 t k)
  have k36 : ∀ t, Steps p.tables e below (T23.setTop (mkF m 16 #[.val (.ref a), .val v1, .val v2, .val v3, .val v4, .val (.long q5), .second, .val v6, .val (.int d7), .val (.long q8), .second] [v3, (.ref a)])) t → Steps p.tables e below (s₁.setTop (entryFrame m #[(.ref a), v1, v2, v3, v4, (.long q5), v6, (.int d7), (.long q8)] 11)) t := fun t k => k35 t (by
    show Steps p.tables e below (T23.setTop (mkF m 14 #[.val (.ref a), .val v1, .val v2, .val v3, .val v4, .val (.long q5), .second, .val v6, .val (.int d7), .val (.long q8), .second] [])) _
    refine XS.aloadN X23.here hx rfl (hb hby d1_14) rfl rfl ?_
    show Steps p.tables e below (T23.setTop (mkF m 15 #[.val (.ref a), .val v1, .val v2, .val v3, .val v4, .val (.long q5), .second, .val v6, .val (.int d7), .val (.long q8), .second] [(.ref a)])) _
    refine XS.aloadN X23.here hx rfl (hb hby d1_15) rfl r3 ?_
    exact k)
  obtain ⟨T37, h37, X37, e37, W37, st37⟩ := putF X23 hx hZ hown (host := "") (Or.inl (hw _ (List.mem_of_getElem? (i := 26) rfl))) Via.refl e23 F26 F32 (Or.inr ⟨(hw _ (List.mem_of_getElem? (i := 27) rfl)), rfl, hnm⟩) (hw _ (List.mem_of_getElem? (i := 1) rfl)) (ty := (.object "com/example/pen_over_wire/penoverwire/crypto/PasswordHash")) (by decide) (by rcases ref_cases (r3) with q | ⟨b, q⟩ <;> rw [q] <;> rfl) (by rcases ref_cases (r3) with q | ⟨b, q⟩ <;> rw [q] <;> rfl) (g := (mkF m 16 #[.val (.ref a), .val v1, .val v2, .val v3, .val v4, .val (.long q5), .second, .val v6, .val (.int d7), .val (.long q8), .second] [v3, (.ref a)])) rfl rfl (hb hby d1_16)
  have N37 := Fr.snoc X37 N23 g_a
  have Z38 : n0 ≤ h37.size := Nat.le_trans Z24 (Nat.le_of_eq W37.size.symm)
  have K39 : Keep h0 h37 [a] := K25.wr W37 (Or.inl (List.mem_of_getElem? (i := 0) rfl))
  have F40 : Fld Z h37 a "com/example/pen_over_wire/penoverwire/model/User" "totpSecret" "[B" .null := Fld.other W37 F27 (Or.inr (slot_ne (Or.inr (hw _ (List.mem_of_getElem? (i := 29) rfl))) (Or.inr (hw _ (List.mem_of_getElem? (i := 27) rfl))) (by decide) (t := (.array .byte)) (t' := (.object "com/example/pen_over_wire/penoverwire/crypto/PasswordHash")) (by decide) (by decide)))
  have F41 : Fld Z h37 a "com/example/pen_over_wire/penoverwire/model/User" "lastOtpStep" "J" (.long (0 : Int64)) := Fld.other W37 F28 (Or.inr (slot_ne (Or.inr (hw _ (List.mem_of_getElem? (i := 31) rfl))) (Or.inr (hw _ (List.mem_of_getElem? (i := 27) rfl))) (by decide) (t := .long) (t' := (.object "com/example/pen_over_wire/penoverwire/crypto/PasswordHash")) (by decide) (by decide)))
  have F42 : Fld Z h37 a "com/example/pen_over_wire/penoverwire/model/User" "failedLogins" "Lcom/example/pen_over_wire/penoverwire/model/FailedAttempts;" .null := Fld.other W37 F29 (Or.inr (slot_ne (Or.inr (hw _ (List.mem_of_getElem? (i := 33) rfl))) (Or.inr (hw _ (List.mem_of_getElem? (i := 27) rfl))) (by decide) (t := (.object "com/example/pen_over_wire/penoverwire/model/FailedAttempts")) (t' := (.object "com/example/pen_over_wire/penoverwire/crypto/PasswordHash")) (by decide) (by decide)))
  have F43 : Fld Z h37 a "com/example/pen_over_wire/penoverwire/model/User" "disabled" "Z" (.int (0 : Int32)) := Fld.other W37 F30 (Or.inr (slot_ne (Or.inr (hw _ (List.mem_of_getElem? (i := 35) rfl))) (Or.inr (hw _ (List.mem_of_getElem? (i := 27) rfl))) (by decide) (t := .boolean) (t' := (.object "com/example/pen_over_wire/penoverwire/crypto/PasswordHash")) (by decide) (by decide)))
  have F44 : Fld Z h37 a "com/example/pen_over_wire/penoverwire/model/User" "sessionEpoch" "J" (.long (0 : Int64)) := Fld.other W37 F31 (Or.inr (slot_ne (Or.inr (hw _ (List.mem_of_getElem? (i := 37) rfl))) (Or.inr (hw _ (List.mem_of_getElem? (i := 27) rfl))) (by decide) (t := .long) (t' := (.object "com/example/pen_over_wire/penoverwire/crypto/PasswordHash")) (by decide) (by decide)))
  have F45 : Exa Z h37 a "com/example/pen_over_wire/penoverwire/model/User" := Exa.wr W37 F32
  have F46 : Fld Z h37 a "com/example/pen_over_wire/penoverwire/model/User" "name" "Ljava/lang/String;" v1 := Fld.other W37 F33 (Or.inr (slot_ne (Or.inr (hw _ (List.mem_of_getElem? (i := 23) rfl))) (Or.inr (hw _ (List.mem_of_getElem? (i := 27) rfl))) (by decide) (t := (.object "java/lang/String")) (t' := (.object "com/example/pen_over_wire/penoverwire/crypto/PasswordHash")) (by decide) (by decide)))
  have F47 : Fld Z h37 a "com/example/pen_over_wire/penoverwire/model/User" "role" "Lcom/example/pen_over_wire/penoverwire/model/Role;" v2 := Fld.other W37 F34 (Or.inr (slot_ne (Or.inr (hw _ (List.mem_of_getElem? (i := 25) rfl))) (Or.inr (hw _ (List.mem_of_getElem? (i := 27) rfl))) (by decide) (t := (.object "com/example/pen_over_wire/penoverwire/model/Role")) (t' := (.object "com/example/pen_over_wire/penoverwire/crypto/PasswordHash")) (by decide) (by decide)))
  have F48 : Fld Z h37 a "com/example/pen_over_wire/penoverwire/model/User" "password" "Lcom/example/pen_over_wire/penoverwire/crypto/PasswordHash;" v3 := Fld.same W37 F26
  have k49 : ∀ t, Steps p.tables e below (T37.setTop (mkF m 19 #[.val (.ref a), .val v1, .val v2, .val v3, .val v4, .val (.long q5), .second, .val v6, .val (.int d7), .val (.long q8), .second] [])) t → Steps p.tables e below (s₁.setTop (entryFrame m #[(.ref a), v1, v2, v3, v4, (.long q5), v6, (.int d7), (.long q8)] 11)) t := fun t k => k36 t (st37 t k)
  have k50 : ∀ t, Steps p.tables e below (T37.setTop (mkF m 22 #[.val (.ref a), .val v1, .val v2, .val v3, .val v4, .val (.long q5), .second, .val v6, .val (.int d7), .val (.long q8), .second] [v4, (.ref a)])) t → Steps p.tables e below (s₁.setTop (entryFrame m #[(.ref a), v1, v2, v3, v4, (.long q5), v6, (.int d7), (.long q8)] 11)) t := fun t k => k49 t (by
    show Steps p.tables e below (T37.setTop (mkF m 19 #[.val (.ref a), .val v1, .val v2, .val v3, .val v4, .val (.long q5), .second, .val v6, .val (.int d7), .val (.long q8), .second] [])) _
    refine XS.aloadN X37.here hx rfl (hb hby d1_19) rfl rfl ?_
    show Steps p.tables e below (T37.setTop (mkF m 20 #[.val (.ref a), .val v1, .val v2, .val v3, .val v4, .val (.long q5), .second, .val v6, .val (.int d7), .val (.long q8), .second] [(.ref a)])) _
    refine XS.aload X37.here hx rfl (hb hby d1_20) rfl r4 ?_
    exact k)
  obtain ⟨T51, h51, X51, e51, W51, st51⟩ := putF X37 hx hZ hown (host := "") (Or.inl (hw _ (List.mem_of_getElem? (i := 28) rfl))) Via.refl e37 F40 F45 (Or.inr ⟨(hw _ (List.mem_of_getElem? (i := 29) rfl)), rfl, hnm⟩) (hw _ (List.mem_of_getElem? (i := 1) rfl)) (ty := (.array .byte)) (by decide) (by rcases ref_cases (r4) with q | ⟨b, q⟩ <;> rw [q] <;> rfl) (by rcases ref_cases (r4) with q | ⟨b, q⟩ <;> rw [q] <;> rfl) (g := (mkF m 22 #[.val (.ref a), .val v1, .val v2, .val v3, .val v4, .val (.long q5), .second, .val v6, .val (.int d7), .val (.long q8), .second] [v4, (.ref a)])) rfl rfl (hb hby d1_22)
  have N51 := Fr.snoc X51 N37 g_a
  have Z52 : n0 ≤ h51.size := Nat.le_trans Z38 (Nat.le_of_eq W51.size.symm)
  have K53 : Keep h0 h51 [a] := K39.wr W51 (Or.inl (List.mem_of_getElem? (i := 0) rfl))
  have F54 : Fld Z h51 a "com/example/pen_over_wire/penoverwire/model/User" "lastOtpStep" "J" (.long (0 : Int64)) := Fld.other W51 F41 (Or.inr (slot_ne (Or.inr (hw _ (List.mem_of_getElem? (i := 31) rfl))) (Or.inr (hw _ (List.mem_of_getElem? (i := 29) rfl))) (by decide) (t := .long) (t' := (.array .byte)) (by decide) (by decide)))
  have F55 : Fld Z h51 a "com/example/pen_over_wire/penoverwire/model/User" "failedLogins" "Lcom/example/pen_over_wire/penoverwire/model/FailedAttempts;" .null := Fld.other W51 F42 (Or.inr (slot_ne (Or.inr (hw _ (List.mem_of_getElem? (i := 33) rfl))) (Or.inr (hw _ (List.mem_of_getElem? (i := 29) rfl))) (by decide) (t := (.object "com/example/pen_over_wire/penoverwire/model/FailedAttempts")) (t' := (.array .byte)) (by decide) (by decide)))
  have F56 : Fld Z h51 a "com/example/pen_over_wire/penoverwire/model/User" "disabled" "Z" (.int (0 : Int32)) := Fld.other W51 F43 (Or.inr (slot_ne (Or.inr (hw _ (List.mem_of_getElem? (i := 35) rfl))) (Or.inr (hw _ (List.mem_of_getElem? (i := 29) rfl))) (by decide) (t := .boolean) (t' := (.array .byte)) (by decide) (by decide)))
  have F57 : Fld Z h51 a "com/example/pen_over_wire/penoverwire/model/User" "sessionEpoch" "J" (.long (0 : Int64)) := Fld.other W51 F44 (Or.inr (slot_ne (Or.inr (hw _ (List.mem_of_getElem? (i := 37) rfl))) (Or.inr (hw _ (List.mem_of_getElem? (i := 29) rfl))) (by decide) (t := .long) (t' := (.array .byte)) (by decide) (by decide)))
  have F58 : Exa Z h51 a "com/example/pen_over_wire/penoverwire/model/User" := Exa.wr W51 F45
  have F59 : Fld Z h51 a "com/example/pen_over_wire/penoverwire/model/User" "name" "Ljava/lang/String;" v1 := Fld.other W51 F46 (Or.inr (slot_ne (Or.inr (hw _ (List.mem_of_getElem? (i := 23) rfl))) (Or.inr (hw _ (List.mem_of_getElem? (i := 29) rfl))) (by decide) (t := (.object "java/lang/String")) (t' := (.array .byte)) (by decide) (by decide)))
  have F60 : Fld Z h51 a "com/example/pen_over_wire/penoverwire/model/User" "role" "Lcom/example/pen_over_wire/penoverwire/model/Role;" v2 := Fld.other W51 F47 (Or.inr (slot_ne (Or.inr (hw _ (List.mem_of_getElem? (i := 25) rfl))) (Or.inr (hw _ (List.mem_of_getElem? (i := 29) rfl))) (by decide) (t := (.object "com/example/pen_over_wire/penoverwire/model/Role")) (t' := (.array .byte)) (by decide) (by decide)))
  have F61 : Fld Z h51 a "com/example/pen_over_wire/penoverwire/model/User" "password" "Lcom/example/pen_over_wire/penoverwire/crypto/PasswordHash;" v3 := Fld.other W51 F48 (Or.inr (slot_ne (Or.inr (hw _ (List.mem_of_getElem? (i := 27) rfl))) (Or.inr (hw _ (List.mem_of_getElem? (i := 29) rfl))) (by decide) (t := (.object "com/example/pen_over_wire/penoverwire/crypto/PasswordHash")) (t' := (.array .byte)) (by decide) (by decide)))
  have F62 : Fld Z h51 a "com/example/pen_over_wire/penoverwire/model/User" "totpSecret" "[B" v4 := Fld.same W51 F40
  have k63 : ∀ t, Steps p.tables e below (T51.setTop (mkF m 25 #[.val (.ref a), .val v1, .val v2, .val v3, .val v4, .val (.long q5), .second, .val v6, .val (.int d7), .val (.long q8), .second] [])) t → Steps p.tables e below (s₁.setTop (entryFrame m #[(.ref a), v1, v2, v3, v4, (.long q5), v6, (.int d7), (.long q8)] 11)) t := fun t k => k50 t (st51 t k)
  have k64 : ∀ t, Steps p.tables e below (T51.setTop (mkF m 28 #[.val (.ref a), .val v1, .val v2, .val v3, .val v4, .val (.long q5), .second, .val v6, .val (.int d7), .val (.long q8), .second] [(.long q5), (.ref a)])) t → Steps p.tables e below (s₁.setTop (entryFrame m #[(.ref a), v1, v2, v3, v4, (.long q5), v6, (.int d7), (.long q8)] 11)) t := fun t k => k63 t (by
    show Steps p.tables e below (T51.setTop (mkF m 25 #[.val (.ref a), .val v1, .val v2, .val v3, .val v4, .val (.long q5), .second, .val v6, .val (.int d7), .val (.long q8), .second] [])) _
    refine XS.aloadN X51.here hx rfl (hb hby d1_25) rfl rfl ?_
    show Steps p.tables e below (T51.setTop (mkF m 26 #[.val (.ref a), .val v1, .val v2, .val v3, .val v4, .val (.long q5), .second, .val v6, .val (.int d7), .val (.long q8), .second] [(.ref a)])) _
    refine XS.lload X51.here hx rfl (hb hby d1_26) rfl ?_
    exact k)
  obtain ⟨T65, h65, X65, e65, W65, st65⟩ := putF X51 hx hZ hown (host := "") (Or.inl (hw _ (List.mem_of_getElem? (i := 30) rfl))) Via.refl e51 F54 F58 (Or.inr ⟨(hw _ (List.mem_of_getElem? (i := 31) rfl)), rfl, hnm⟩) (hw _ (List.mem_of_getElem? (i := 1) rfl)) (ty := .long) (by decide) rfl rfl (g := (mkF m 28 #[.val (.ref a), .val v1, .val v2, .val v3, .val v4, .val (.long q5), .second, .val v6, .val (.int d7), .val (.long q8), .second] [(.long q5), (.ref a)])) rfl rfl (hb hby d1_28)
  have N65 := Fr.snoc X65 N51 g_a
  have Z66 : n0 ≤ h65.size := Nat.le_trans Z52 (Nat.le_of_eq W65.size.symm)
  have K67 : Keep h0 h65 [a] := K53.wr W65 (Or.inl (List.mem_of_getElem? (i := 0) rfl))
  have F68 : Fld Z h65 a "com/example/pen_over_wire/penoverwire/model/User" "failedLogins" "Lcom/example/pen_over_wire/penoverwire/model/FailedAttempts;" .null := Fld.other W65 F55 (Or.inr (slot_ne (Or.inr (hw _ (List.mem_of_getElem? (i := 33) rfl))) (Or.inr (hw _ (List.mem_of_getElem? (i := 31) rfl))) (by decide) (t := (.object "com/example/pen_over_wire/penoverwire/model/FailedAttempts")) (t' := .long) (by decide) (by decide)))
  have F69 : Fld Z h65 a "com/example/pen_over_wire/penoverwire/model/User" "disabled" "Z" (.int (0 : Int32)) := Fld.other W65 F56 (Or.inr (slot_ne (Or.inr (hw _ (List.mem_of_getElem? (i := 35) rfl))) (Or.inr (hw _ (List.mem_of_getElem? (i := 31) rfl))) (by decide) (t := .boolean) (t' := .long) (by decide) (by decide)))
  have F70 : Fld Z h65 a "com/example/pen_over_wire/penoverwire/model/User" "sessionEpoch" "J" (.long (0 : Int64)) := Fld.other W65 F57 (Or.inr (slot_ne (Or.inr (hw _ (List.mem_of_getElem? (i := 37) rfl))) (Or.inr (hw _ (List.mem_of_getElem? (i := 31) rfl))) (by decide) (t := .long) (t' := .long) (by decide) (by decide)))
  have F71 : Exa Z h65 a "com/example/pen_over_wire/penoverwire/model/User" := Exa.wr W65 F58
  have F72 : Fld Z h65 a "com/example/pen_over_wire/penoverwire/model/User" "name" "Ljava/lang/String;" v1 := Fld.other W65 F59 (Or.inr (slot_ne (Or.inr (hw _ (List.mem_of_getElem? (i := 23) rfl))) (Or.inr (hw _ (List.mem_of_getElem? (i := 31) rfl))) (by decide) (t := (.object "java/lang/String")) (t' := .long) (by decide) (by decide)))
  have F73 : Fld Z h65 a "com/example/pen_over_wire/penoverwire/model/User" "role" "Lcom/example/pen_over_wire/penoverwire/model/Role;" v2 := Fld.other W65 F60 (Or.inr (slot_ne (Or.inr (hw _ (List.mem_of_getElem? (i := 25) rfl))) (Or.inr (hw _ (List.mem_of_getElem? (i := 31) rfl))) (by decide) (t := (.object "com/example/pen_over_wire/penoverwire/model/Role")) (t' := .long) (by decide) (by decide)))
  have F74 : Fld Z h65 a "com/example/pen_over_wire/penoverwire/model/User" "password" "Lcom/example/pen_over_wire/penoverwire/crypto/PasswordHash;" v3 := Fld.other W65 F61 (Or.inr (slot_ne (Or.inr (hw _ (List.mem_of_getElem? (i := 27) rfl))) (Or.inr (hw _ (List.mem_of_getElem? (i := 31) rfl))) (by decide) (t := (.object "com/example/pen_over_wire/penoverwire/crypto/PasswordHash")) (t' := .long) (by decide) (by decide)))
  have F75 : Fld Z h65 a "com/example/pen_over_wire/penoverwire/model/User" "totpSecret" "[B" v4 := Fld.other W65 F62 (Or.inr (slot_ne (Or.inr (hw _ (List.mem_of_getElem? (i := 29) rfl))) (Or.inr (hw _ (List.mem_of_getElem? (i := 31) rfl))) (by decide) (t := (.array .byte)) (t' := .long) (by decide) (by decide)))
  have F76 : Fld Z h65 a "com/example/pen_over_wire/penoverwire/model/User" "lastOtpStep" "J" (.long q5) := Fld.same W65 F54
  have k77 : ∀ t, Steps p.tables e below (T65.setTop (mkF m 31 #[.val (.ref a), .val v1, .val v2, .val v3, .val v4, .val (.long q5), .second, .val v6, .val (.int d7), .val (.long q8), .second] [])) t → Steps p.tables e below (s₁.setTop (entryFrame m #[(.ref a), v1, v2, v3, v4, (.long q5), v6, (.int d7), (.long q8)] 11)) t := fun t k => k64 t (st65 t k)
  have k78 : ∀ t, Steps p.tables e below (T65.setTop (mkF m 34 #[.val (.ref a), .val v1, .val v2, .val v3, .val v4, .val (.long q5), .second, .val v6, .val (.int d7), .val (.long q8), .second] [v6, (.ref a)])) t → Steps p.tables e below (s₁.setTop (entryFrame m #[(.ref a), v1, v2, v3, v4, (.long q5), v6, (.int d7), (.long q8)] 11)) t := fun t k => k77 t (by
    show Steps p.tables e below (T65.setTop (mkF m 31 #[.val (.ref a), .val v1, .val v2, .val v3, .val v4, .val (.long q5), .second, .val v6, .val (.int d7), .val (.long q8), .second] [])) _
    refine XS.aloadN X65.here hx rfl (hb hby d1_31) rfl rfl ?_
    show Steps p.tables e below (T65.setTop (mkF m 32 #[.val (.ref a), .val v1, .val v2, .val v3, .val v4, .val (.long q5), .second, .val v6, .val (.int d7), .val (.long q8), .second] [(.ref a)])) _
    refine XS.aload X65.here hx rfl (hb hby d1_32) rfl r6 ?_
    exact k)
  obtain ⟨T79, h79, X79, e79, W79, st79⟩ := putF X65 hx hZ hown (host := "") (Or.inl (hw _ (List.mem_of_getElem? (i := 32) rfl))) Via.refl e65 F68 F71 (Or.inr ⟨(hw _ (List.mem_of_getElem? (i := 33) rfl)), rfl, hnm⟩) (hw _ (List.mem_of_getElem? (i := 1) rfl)) (ty := (.object "com/example/pen_over_wire/penoverwire/model/FailedAttempts")) (by decide) (by rcases ref_cases (r6) with q | ⟨b, q⟩ <;> rw [q] <;> rfl) (by rcases ref_cases (r6) with q | ⟨b, q⟩ <;> rw [q] <;> rfl) (g := (mkF m 34 #[.val (.ref a), .val v1, .val v2, .val v3, .val v4, .val (.long q5), .second, .val v6, .val (.int d7), .val (.long q8), .second] [v6, (.ref a)])) rfl rfl (hb hby d1_34)
  have N79 := Fr.snoc X79 N65 g_a
  have Z80 : n0 ≤ h79.size := Nat.le_trans Z66 (Nat.le_of_eq W79.size.symm)
  have K81 : Keep h0 h79 [a] := K67.wr W79 (Or.inl (List.mem_of_getElem? (i := 0) rfl))
  have F82 : Fld Z h79 a "com/example/pen_over_wire/penoverwire/model/User" "disabled" "Z" (.int (0 : Int32)) := Fld.other W79 F69 (Or.inr (slot_ne (Or.inr (hw _ (List.mem_of_getElem? (i := 35) rfl))) (Or.inr (hw _ (List.mem_of_getElem? (i := 33) rfl))) (by decide) (t := .boolean) (t' := (.object "com/example/pen_over_wire/penoverwire/model/FailedAttempts")) (by decide) (by decide)))
  have F83 : Fld Z h79 a "com/example/pen_over_wire/penoverwire/model/User" "sessionEpoch" "J" (.long (0 : Int64)) := Fld.other W79 F70 (Or.inr (slot_ne (Or.inr (hw _ (List.mem_of_getElem? (i := 37) rfl))) (Or.inr (hw _ (List.mem_of_getElem? (i := 33) rfl))) (by decide) (t := .long) (t' := (.object "com/example/pen_over_wire/penoverwire/model/FailedAttempts")) (by decide) (by decide)))
  have F84 : Exa Z h79 a "com/example/pen_over_wire/penoverwire/model/User" := Exa.wr W79 F71
  have F85 : Fld Z h79 a "com/example/pen_over_wire/penoverwire/model/User" "name" "Ljava/lang/String;" v1 := Fld.other W79 F72 (Or.inr (slot_ne (Or.inr (hw _ (List.mem_of_getElem? (i := 23) rfl))) (Or.inr (hw _ (List.mem_of_getElem? (i := 33) rfl))) (by decide) (t := (.object "java/lang/String")) (t' := (.object "com/example/pen_over_wire/penoverwire/model/FailedAttempts")) (by decide) (by decide)))
  have F86 : Fld Z h79 a "com/example/pen_over_wire/penoverwire/model/User" "role" "Lcom/example/pen_over_wire/penoverwire/model/Role;" v2 := Fld.other W79 F73 (Or.inr (slot_ne (Or.inr (hw _ (List.mem_of_getElem? (i := 25) rfl))) (Or.inr (hw _ (List.mem_of_getElem? (i := 33) rfl))) (by decide) (t := (.object "com/example/pen_over_wire/penoverwire/model/Role")) (t' := (.object "com/example/pen_over_wire/penoverwire/model/FailedAttempts")) (by decide) (by decide)))
  have F87 : Fld Z h79 a "com/example/pen_over_wire/penoverwire/model/User" "password" "Lcom/example/pen_over_wire/penoverwire/crypto/PasswordHash;" v3 := Fld.other W79 F74 (Or.inr (slot_ne (Or.inr (hw _ (List.mem_of_getElem? (i := 27) rfl))) (Or.inr (hw _ (List.mem_of_getElem? (i := 33) rfl))) (by decide) (t := (.object "com/example/pen_over_wire/penoverwire/crypto/PasswordHash")) (t' := (.object "com/example/pen_over_wire/penoverwire/model/FailedAttempts")) (by decide) (by decide)))
  have F88 : Fld Z h79 a "com/example/pen_over_wire/penoverwire/model/User" "totpSecret" "[B" v4 := Fld.other W79 F75 (Or.inr (slot_ne (Or.inr (hw _ (List.mem_of_getElem? (i := 29) rfl))) (Or.inr (hw _ (List.mem_of_getElem? (i := 33) rfl))) (by decide) (t := (.array .byte)) (t' := (.object "com/example/pen_over_wire/penoverwire/model/FailedAttempts")) (by decide) (by decide)))
  have F89 : Fld Z h79 a "com/example/pen_over_wire/penoverwire/model/User" "lastOtpStep" "J" (.long q5) := Fld.other W79 F76 (Or.inr (slot_ne (Or.inr (hw _ (List.mem_of_getElem? (i := 31) rfl))) (Or.inr (hw _ (List.mem_of_getElem? (i := 33) rfl))) (by decide) (t := .long) (t' := (.object "com/example/pen_over_wire/penoverwire/model/FailedAttempts")) (by decide) (by decide)))
  have F90 : Fld Z h79 a "com/example/pen_over_wire/penoverwire/model/User" "failedLogins" "Lcom/example/pen_over_wire/penoverwire/model/FailedAttempts;" v6 := Fld.same W79 F68
  have k91 : ∀ t, Steps p.tables e below (T79.setTop (mkF m 37 #[.val (.ref a), .val v1, .val v2, .val v3, .val v4, .val (.long q5), .second, .val v6, .val (.int d7), .val (.long q8), .second] [])) t → Steps p.tables e below (s₁.setTop (entryFrame m #[(.ref a), v1, v2, v3, v4, (.long q5), v6, (.int d7), (.long q8)] 11)) t := fun t k => k78 t (st79 t k)
  have k92 : ∀ t, Steps p.tables e below (T79.setTop (mkF m 40 #[.val (.ref a), .val v1, .val v2, .val v3, .val v4, .val (.long q5), .second, .val v6, .val (.int d7), .val (.long q8), .second] [(.int d7), (.ref a)])) t → Steps p.tables e below (s₁.setTop (entryFrame m #[(.ref a), v1, v2, v3, v4, (.long q5), v6, (.int d7), (.long q8)] 11)) t := fun t k => k91 t (by
    show Steps p.tables e below (T79.setTop (mkF m 37 #[.val (.ref a), .val v1, .val v2, .val v3, .val v4, .val (.long q5), .second, .val v6, .val (.int d7), .val (.long q8), .second] [])) _
    refine XS.aloadN X79.here hx rfl (hb hby d1_37) rfl rfl ?_
    show Steps p.tables e below (T79.setTop (mkF m 38 #[.val (.ref a), .val v1, .val v2, .val v3, .val v4, .val (.long q5), .second, .val v6, .val (.int d7), .val (.long q8), .second] [(.ref a)])) _
    refine XS.iload X79.here hx rfl (hb hby d1_38) rfl ?_
    exact k)
  obtain ⟨T93, h93, X93, e93, W93, st93⟩ := putFN X79 hx hZ hown (hw _ (List.mem_of_getElem? (i := 34) rfl)) Via.refl e79 F82 F84 (Or.inr ⟨(hw _ (List.mem_of_getElem? (i := 35) rfl)), rfl, hnm⟩) (hw _ (List.mem_of_getElem? (i := 1) rfl)) (ty := .boolean) (v' := (Value.int d7)) (by decide) (own_nb hd7).1 (own_nb hd7).2 (g := (mkF m 40 #[.val (.ref a), .val v1, .val v2, .val v3, .val v4, .val (.long q5), .second, .val v6, .val (.int d7), .val (.long q8), .second] [(.int d7), (.ref a)])) rfl rfl (hb hby d1_40)
  have N93 := Fr.snoc X93 N79 g_a
  have Z94 : n0 ≤ h93.size := Nat.le_trans Z80 (Nat.le_of_eq W93.size.symm)
  have K95 : Keep h0 h93 [a] := K81.wr W93 (Or.inl (List.mem_of_getElem? (i := 0) rfl))
  have F96 : Fld Z h93 a "com/example/pen_over_wire/penoverwire/model/User" "sessionEpoch" "J" (.long (0 : Int64)) := Fld.other W93 F83 (Or.inr (slot_ne (Or.inr (hw _ (List.mem_of_getElem? (i := 37) rfl))) (Or.inr (hw _ (List.mem_of_getElem? (i := 35) rfl))) (by decide) (t := .long) (t' := .boolean) (by decide) (by decide)))
  have F97 : Exa Z h93 a "com/example/pen_over_wire/penoverwire/model/User" := Exa.wr W93 F84
  have F98 : Fld Z h93 a "com/example/pen_over_wire/penoverwire/model/User" "name" "Ljava/lang/String;" v1 := Fld.other W93 F85 (Or.inr (slot_ne (Or.inr (hw _ (List.mem_of_getElem? (i := 23) rfl))) (Or.inr (hw _ (List.mem_of_getElem? (i := 35) rfl))) (by decide) (t := (.object "java/lang/String")) (t' := .boolean) (by decide) (by decide)))
  have F99 : Fld Z h93 a "com/example/pen_over_wire/penoverwire/model/User" "role" "Lcom/example/pen_over_wire/penoverwire/model/Role;" v2 := Fld.other W93 F86 (Or.inr (slot_ne (Or.inr (hw _ (List.mem_of_getElem? (i := 25) rfl))) (Or.inr (hw _ (List.mem_of_getElem? (i := 35) rfl))) (by decide) (t := (.object "com/example/pen_over_wire/penoverwire/model/Role")) (t' := .boolean) (by decide) (by decide)))
  have F100 : Fld Z h93 a "com/example/pen_over_wire/penoverwire/model/User" "password" "Lcom/example/pen_over_wire/penoverwire/crypto/PasswordHash;" v3 := Fld.other W93 F87 (Or.inr (slot_ne (Or.inr (hw _ (List.mem_of_getElem? (i := 27) rfl))) (Or.inr (hw _ (List.mem_of_getElem? (i := 35) rfl))) (by decide) (t := (.object "com/example/pen_over_wire/penoverwire/crypto/PasswordHash")) (t' := .boolean) (by decide) (by decide)))
  have F101 : Fld Z h93 a "com/example/pen_over_wire/penoverwire/model/User" "totpSecret" "[B" v4 := Fld.other W93 F88 (Or.inr (slot_ne (Or.inr (hw _ (List.mem_of_getElem? (i := 29) rfl))) (Or.inr (hw _ (List.mem_of_getElem? (i := 35) rfl))) (by decide) (t := (.array .byte)) (t' := .boolean) (by decide) (by decide)))
  have F102 : Fld Z h93 a "com/example/pen_over_wire/penoverwire/model/User" "lastOtpStep" "J" (.long q5) := Fld.other W93 F89 (Or.inr (slot_ne (Or.inr (hw _ (List.mem_of_getElem? (i := 31) rfl))) (Or.inr (hw _ (List.mem_of_getElem? (i := 35) rfl))) (by decide) (t := .long) (t' := .boolean) (by decide) (by decide)))
  have F103 : Fld Z h93 a "com/example/pen_over_wire/penoverwire/model/User" "failedLogins" "Lcom/example/pen_over_wire/penoverwire/model/FailedAttempts;" v6 := Fld.other W93 F90 (Or.inr (slot_ne (Or.inr (hw _ (List.mem_of_getElem? (i := 33) rfl))) (Or.inr (hw _ (List.mem_of_getElem? (i := 35) rfl))) (by decide) (t := (.object "com/example/pen_over_wire/penoverwire/model/FailedAttempts")) (t' := .boolean) (by decide) (by decide)))
  have F104 : Fld Z h93 a "com/example/pen_over_wire/penoverwire/model/User" "disabled" "Z" (.int d7) := Fld.same W93 F82
  have k105 : ∀ t, Steps p.tables e below (T93.setTop (mkF m 43 #[.val (.ref a), .val v1, .val v2, .val v3, .val v4, .val (.long q5), .second, .val v6, .val (.int d7), .val (.long q8), .second] [])) t → Steps p.tables e below (s₁.setTop (entryFrame m #[(.ref a), v1, v2, v3, v4, (.long q5), v6, (.int d7), (.long q8)] 11)) t := fun t k => k92 t (st93 t k)
  have k106 : ∀ t, Steps p.tables e below (T93.setTop (mkF m 46 #[.val (.ref a), .val v1, .val v2, .val v3, .val v4, .val (.long q5), .second, .val v6, .val (.int d7), .val (.long q8), .second] [(.long q8), (.ref a)])) t → Steps p.tables e below (s₁.setTop (entryFrame m #[(.ref a), v1, v2, v3, v4, (.long q5), v6, (.int d7), (.long q8)] 11)) t := fun t k => k105 t (by
    show Steps p.tables e below (T93.setTop (mkF m 43 #[.val (.ref a), .val v1, .val v2, .val v3, .val v4, .val (.long q5), .second, .val v6, .val (.int d7), .val (.long q8), .second] [])) _
    refine XS.aloadN X93.here hx rfl (hb hby d1_43) rfl rfl ?_
    show Steps p.tables e below (T93.setTop (mkF m 44 #[.val (.ref a), .val v1, .val v2, .val v3, .val v4, .val (.long q5), .second, .val v6, .val (.int d7), .val (.long q8), .second] [(.ref a)])) _
    refine XS.lload X93.here hx rfl (hb hby d1_44) rfl ?_
    exact k)
  obtain ⟨T107, h107, X107, e107, W107, st107⟩ := putF X93 hx hZ hown (host := "") (Or.inl (hw _ (List.mem_of_getElem? (i := 36) rfl))) Via.refl e93 F96 F97 (Or.inr ⟨(hw _ (List.mem_of_getElem? (i := 37) rfl)), rfl, hnm⟩) (hw _ (List.mem_of_getElem? (i := 1) rfl)) (ty := .long) (by decide) rfl rfl (g := (mkF m 46 #[.val (.ref a), .val v1, .val v2, .val v3, .val v4, .val (.long q5), .second, .val v6, .val (.int d7), .val (.long q8), .second] [(.long q8), (.ref a)])) rfl rfl (hb hby d1_46)
  have N107 := Fr.snoc X107 N93 g_a
  have Z108 : n0 ≤ h107.size := Nat.le_trans Z94 (Nat.le_of_eq W107.size.symm)
  have K109 : Keep h0 h107 [a] := K95.wr W107 (Or.inl (List.mem_of_getElem? (i := 0) rfl))
  have F110 : Exa Z h107 a "com/example/pen_over_wire/penoverwire/model/User" := Exa.wr W107 F97
  have F111 : Fld Z h107 a "com/example/pen_over_wire/penoverwire/model/User" "name" "Ljava/lang/String;" v1 := Fld.other W107 F98 (Or.inr (slot_ne (Or.inr (hw _ (List.mem_of_getElem? (i := 23) rfl))) (Or.inr (hw _ (List.mem_of_getElem? (i := 37) rfl))) (by decide) (t := (.object "java/lang/String")) (t' := .long) (by decide) (by decide)))
  have F112 : Fld Z h107 a "com/example/pen_over_wire/penoverwire/model/User" "role" "Lcom/example/pen_over_wire/penoverwire/model/Role;" v2 := Fld.other W107 F99 (Or.inr (slot_ne (Or.inr (hw _ (List.mem_of_getElem? (i := 25) rfl))) (Or.inr (hw _ (List.mem_of_getElem? (i := 37) rfl))) (by decide) (t := (.object "com/example/pen_over_wire/penoverwire/model/Role")) (t' := .long) (by decide) (by decide)))
  have F113 : Fld Z h107 a "com/example/pen_over_wire/penoverwire/model/User" "password" "Lcom/example/pen_over_wire/penoverwire/crypto/PasswordHash;" v3 := Fld.other W107 F100 (Or.inr (slot_ne (Or.inr (hw _ (List.mem_of_getElem? (i := 27) rfl))) (Or.inr (hw _ (List.mem_of_getElem? (i := 37) rfl))) (by decide) (t := (.object "com/example/pen_over_wire/penoverwire/crypto/PasswordHash")) (t' := .long) (by decide) (by decide)))
  have F114 : Fld Z h107 a "com/example/pen_over_wire/penoverwire/model/User" "totpSecret" "[B" v4 := Fld.other W107 F101 (Or.inr (slot_ne (Or.inr (hw _ (List.mem_of_getElem? (i := 29) rfl))) (Or.inr (hw _ (List.mem_of_getElem? (i := 37) rfl))) (by decide) (t := (.array .byte)) (t' := .long) (by decide) (by decide)))
  have F115 : Fld Z h107 a "com/example/pen_over_wire/penoverwire/model/User" "lastOtpStep" "J" (.long q5) := Fld.other W107 F102 (Or.inr (slot_ne (Or.inr (hw _ (List.mem_of_getElem? (i := 31) rfl))) (Or.inr (hw _ (List.mem_of_getElem? (i := 37) rfl))) (by decide) (t := .long) (t' := .long) (by decide) (by decide)))
  have F116 : Fld Z h107 a "com/example/pen_over_wire/penoverwire/model/User" "failedLogins" "Lcom/example/pen_over_wire/penoverwire/model/FailedAttempts;" v6 := Fld.other W107 F103 (Or.inr (slot_ne (Or.inr (hw _ (List.mem_of_getElem? (i := 33) rfl))) (Or.inr (hw _ (List.mem_of_getElem? (i := 37) rfl))) (by decide) (t := (.object "com/example/pen_over_wire/penoverwire/model/FailedAttempts")) (t' := .long) (by decide) (by decide)))
  have F117 : Fld Z h107 a "com/example/pen_over_wire/penoverwire/model/User" "disabled" "Z" (.int d7) := Fld.other W107 F104 (Or.inr (slot_ne (Or.inr (hw _ (List.mem_of_getElem? (i := 35) rfl))) (Or.inr (hw _ (List.mem_of_getElem? (i := 37) rfl))) (by decide) (t := .boolean) (t' := .long) (by decide) (by decide)))
  have F118 : Fld Z h107 a "com/example/pen_over_wire/penoverwire/model/User" "sessionEpoch" "J" (.long q8) := Fld.same W107 F96
  have k119 : ∀ t, Steps p.tables e below (T107.setTop (mkF m 49 #[.val (.ref a), .val v1, .val v2, .val v3, .val v4, .val (.long q5), .second, .val v6, .val (.int d7), .val (.long q8), .second] [])) t → Steps p.tables e below (s₁.setTop (entryFrame m #[(.ref a), v1, v2, v3, v4, (.long q5), v6, (.int d7), (.long q8)] 11)) t := fun t k => k106 t (st107 t k)
  obtain ⟨fs, hr, hrun, hended, hW, hsame⟩ := X107.leave (v := none) (fun _ => rfl)
  refine ⟨_, _, k119 _ ?_, hrun, hended, _, _, rfl, ?_, ⟨_, rfl⟩, hW, hsame.mono (by decide) (by decide)⟩
  · show Steps p.tables e below (T107.setTop (mkF m 49 #[.val (.ref a), .val v1, .val v2, .val v3, .val v4, .val (.long q5), .second, .val v6, .val (.int d7), .val (.long q8), .second] [])) _
    exact X107.returnOut hx Bd.returns (hb hby d1_49) hr
  · show Q1 Z a v1 v2 v3 v4 q5 v6 d7 q8 h0 n0 _ T107.heap _
    rw [e107]
    exact ⟨rfl, N107, K109, F110, F111, F112, F113, F114, F115, F116, F117, F118⟩
theorem d6_0 : decode prog_34_method_4_code 0 = .ok (.new 8, 3) := by decide +kernel
theorem d6_3 : decode prog_34_method_4_code 3 = .ok (.dup, 1) := by decide +kernel
theorem d6_4 : decode prog_34_method_4_code 4 = .ok (.aload_n 0, 1) := by decide +kernel
theorem d6_5 : decode prog_34_method_4_code 5 = .ok (.getfield 7, 3) := by decide +kernel
theorem d6_8 : decode prog_34_method_4_code 8 = .ok (.aload_n 0, 1) := by decide +kernel
theorem d6_9 : decode prog_34_method_4_code 9 = .ok (.getfield 13, 3) := by decide +kernel
theorem d6_12 : decode prog_34_method_4_code 12 = .ok (.aload_n 0, 1) := by decide +kernel
theorem d6_13 : decode prog_34_method_4_code 13 = .ok (.getfield 17, 3) := by decide +kernel
theorem d6_16 : decode prog_34_method_4_code 16 = .ok (.aload_n 0, 1) := by decide +kernel
theorem d6_17 : decode prog_34_method_4_code 17 = .ok (.getfield 21, 3) := by decide +kernel
theorem d6_20 : decode prog_34_method_4_code 20 = .ok (.aload_n 0, 1) := by decide +kernel
theorem d6_21 : decode prog_34_method_4_code 21 = .ok (.getfield 25, 3) := by decide +kernel
theorem d6_24 : decode prog_34_method_4_code 24 = .ok (.aload_n 0, 1) := by decide +kernel
theorem d6_25 : decode prog_34_method_4_code 25 = .ok (.getfield 29, 3) := by decide +kernel
theorem d6_28 : decode prog_34_method_4_code 28 = .ok (.iconst 1, 1) := by decide +kernel
theorem d6_29 : decode prog_34_method_4_code 29 = .ok (.aload_n 0, 1) := by decide +kernel
theorem d6_30 : decode prog_34_method_4_code 30 = .ok (.getfield 37, 3) := by decide +kernel
theorem d6_33 : decode prog_34_method_4_code 33 = .ok (.lconst 1, 1) := by decide +kernel
theorem d6_34 : decode prog_34_method_4_code 34 = .ok (.ladd, 1) := by decide +kernel
theorem d6_35 : decode prog_34_method_4_code 35 = .ok (.invokespecial 40, 3) := by decide +kernel
theorem d6_38 : decode prog_34_method_4_code 38 = .ok (.areturn, 1) := by decide +kernel
theorem pd_1 : parseMethodDescriptor "(Ljava/lang/String;Lcom/example/pen_over_wire/penoverwire/model/Role;Lcom/example/pen_over_wire/penoverwire/crypto/PasswordHash;[BJLcom/example/pen_over_wire/penoverwire/model/FailedAttempts;ZJ)V" = some ⟨[(.object "java/lang/String"), (.object "com/example/pen_over_wire/penoverwire/model/Role"), (.object "com/example/pen_over_wire/penoverwire/crypto/PasswordHash"), (.array .byte), .long, (.object "com/example/pen_over_wire/penoverwire/model/FailedAttempts"), .boolean, .long], none⟩ := by decide +kernel
theorem ef_6 (m : MethodId) (x0 : Addr) : entryFrame m #[(.ref x0)] 1 = mkF m 0 #[.val (.ref x0)] [] := by first | (simp [entryFrame, mkF, argsToLocals, Value.category]; done) | rfl
def Q6 (Z : State) (a : Addr) (b : Addr) (v1 : Value) (v2 : Value) (v3 : Value) (v4 : Value) (q5 : Int64) (v6 : Value) (d7 : Int32) (q8 : Int64) (h0 : Heap) (n0 : Nat) (v : Option Value) (h : Heap) (L : List Loc) : Prop := v = some (.ref b) ∧ Fr n0 L ∧ Keep h0 h [] ∧ Exa Z h b "com/example/pen_over_wire/penoverwire/model/User" ∧ Fld Z h b "com/example/pen_over_wire/penoverwire/model/User" "name" "Ljava/lang/String;" v1 ∧ Fld Z h b "com/example/pen_over_wire/penoverwire/model/User" "role" "Lcom/example/pen_over_wire/penoverwire/model/Role;" v2 ∧ Fld Z h b "com/example/pen_over_wire/penoverwire/model/User" "password" "Lcom/example/pen_over_wire/penoverwire/crypto/PasswordHash;" v3 ∧ Fld Z h b "com/example/pen_over_wire/penoverwire/model/User" "totpSecret" "[B" v4 ∧ Fld Z h b "com/example/pen_over_wire/penoverwire/model/User" "lastOtpStep" "J" (.long q5) ∧ Fld Z h b "com/example/pen_over_wire/penoverwire/model/User" "failedLogins" "Lcom/example/pen_over_wire/penoverwire/model/FailedAttempts;" v6 ∧ Fld Z h b "com/example/pen_over_wire/penoverwire/model/User" "disabled" "Z" (.int (1 : Int32)) ∧ Fld Z h b "com/example/pen_over_wire/penoverwire/model/User" "sessionEpoch" "J" (.long (q8 + (1 : Int64)))
set_option maxRecDepth 65536 in
set_option maxHeartbeats 40000000 in
theorem rm6 (l : Launch) (Z : State) (a0 : Array Value) (hw : ∀ d ∈ tables_1, d.before a0 Z = true) (ws : List Jvm.Cond) (a : Addr) (b : Addr) (v1 : Value) (v2 : Value) (v3 : Value) (v4 : Value) (q5 : Int64) (v6 : Value) (d7 : Int32) (q8 : Int64) (h0 : Heap) (n0 : Nat) (Z0 : n0 ≤ h0.size) (r1 : v1.isRef = true) (r2 : v2.isRef = true) (r3 : v3.isRef = true) (r4 : v4.isRef = true) (r6 : v6.isRef = true) (F1 : Fld Z h0 a "com/example/pen_over_wire/penoverwire/model/User" "name" "Ljava/lang/String;" v1) (F2 : Fld Z h0 a "com/example/pen_over_wire/penoverwire/model/User" "role" "Lcom/example/pen_over_wire/penoverwire/model/Role;" v2) (F3 : Fld Z h0 a "com/example/pen_over_wire/penoverwire/model/User" "password" "Lcom/example/pen_over_wire/penoverwire/crypto/PasswordHash;" v3) (F4 : Fld Z h0 a "com/example/pen_over_wire/penoverwire/model/User" "totpSecret" "[B" v4) (F5 : Fld Z h0 a "com/example/pen_over_wire/penoverwire/model/User" "lastOtpStep" "J" (.long q5)) (F6 : Fld Z h0 a "com/example/pen_over_wire/penoverwire/model/User" "failedLogins" "Lcom/example/pen_over_wire/penoverwire/model/FailedAttempts;" v6) (F7 : Fld Z h0 a "com/example/pen_over_wire/penoverwire/model/User" "disabled" "Z" (.int d7)) (F8 : Fld Z h0 a "com/example/pen_over_wire/penoverwire/model/User" "sessionEpoch" "J" (.long q8)) (Ea : Exa Z h0 a "com/example/pen_over_wire/penoverwire/model/User") (gb : b = h0.size) :
    MetFree l (⟨"com/example/pen_over_wire/penoverwire/model/User", "disable", "()Lcom/example/pen_over_wire/penoverwire/model/User;"⟩ : MethodName) (head1 (Jvm.Cond.code (⟨"com/example/pen_over_wire/penoverwire/model/User", "disable", "()Lcom/example/pen_over_wire/penoverwire/model/User;"⟩ : MethodName) prog_34_method_4_code 1 (some (.object "com/example/pen_over_wire/penoverwire/model/User")) :: ws) ({ frames := 3, cells := 1, slots := 8, locals := 47 } : Room)) (fun aa U => aa = #[(.ref a)] ∧ Z.Warmed39 U.vm ∧ U.heap = h0) (fun _ _ _ _ _ => True) (fun _ U o U' => ∃ v L, o = .returned v ∧ Q6 Z a b v1 v2 v3 v4 q5 v6 d7 q8 h0 n0 v U'.heap L ∧ FrameEnd U o U' L ({ frames := 3, cells := 1, slots := 8, locals := 47 } : Room).cells ({ frames := 3, cells := 1, slots := 8, locals := 47 } : Room).slots) := by
  refine MetFree.of_bodySF (plainFor_of_name pn_1) hisR ?_
  intro p e s m args below meth c s₁ Bd hml0 hP hK
  obtain ⟨rfl, hZ, hh⟩ := hP
  have hx := Bd.exec
  have hby := Bd.bytes
  have hml : c.maxLocals = 1 := hml0
  have hown : s.vm.findClass "com/example/pen_over_wire/penoverwire/model/User" = some m.cls := findClass_of_methodNamed Bd.named
  have hnm := (name_of_methodNamed Bd.named Bd.method).1
  have X0 : Stand p l e ({ frames := 3, cells := 1, slots := 8, locals := 47 } : Room) s m #[(.ref a)] below meth c s₁ [] 0 0 := Stand.of_body Bd
  have e0 : s₁.heap = h0 := by rw [← hh, Bd.state]; rfl
  have N0 := Fr.nil n0
  have pre0 : ∀ t, Steps p.tables e below (s₁.setTop (mkF m 0 #[.val (.ref a)] [])) t → Steps p.tables e below (s₁.setTop (entryFrame m #[(.ref a)] 1)) t := fun t k => castTop (ef_6 m a) k
  have KR : Keep h0 h0 [] := Keep.refl _ _
  obtain ⟨T121, h121, X121, e121, E121, A121, D121, -, st121⟩ := newO X0 hx hZ hown (hw _ (List.mem_of_getElem? (i := 53) rfl)) (hw _ (List.mem_of_getElem? (i := 1) rfl)) (hw _ (List.mem_of_getElem? (i := 2) rfl)) e0 (g := (mkF m 0 #[.val (.ref a)] [])) rfl (hb hby d6_0) (by decide) (by decide)
  rw [← gb] at A121 D121 st121
  have ne122 : a ≠ b := Nat.ne_of_lt (Nat.lt_of_lt_of_le (F1).lt (Nat.le_of_eq gb.symm))
  have g_b : n0 ≤ b := Nat.le_trans Z0 (Nat.le_of_eq gb.symm)
  have sz_b : h0.size ≤ b := Nat.le_trans KR.1 (Nat.le_of_eq gb.symm)
  have Z123 : n0 ≤ h121.size := Nat.le_trans Z0 E121.1
  have K124 : Keep h0 h121 [] := KR.ext E121
  have F125 : Fld Z h121 a "com/example/pen_over_wire/penoverwire/model/User" "name" "Ljava/lang/String;" v1 := (F1).ext E121
  have F126 : Fld Z h121 a "com/example/pen_over_wire/penoverwire/model/User" "role" "Lcom/example/pen_over_wire/penoverwire/model/Role;" v2 := (F2).ext E121
  have F127 : Fld Z h121 a "com/example/pen_over_wire/penoverwire/model/User" "password" "Lcom/example/pen_over_wire/penoverwire/crypto/PasswordHash;" v3 := (F3).ext E121
  have F128 : Fld Z h121 a "com/example/pen_over_wire/penoverwire/model/User" "totpSecret" "[B" v4 := (F4).ext E121
  have F129 : Fld Z h121 a "com/example/pen_over_wire/penoverwire/model/User" "lastOtpStep" "J" (.long q5) := (F5).ext E121
  have F130 : Fld Z h121 a "com/example/pen_over_wire/penoverwire/model/User" "failedLogins" "Lcom/example/pen_over_wire/penoverwire/model/FailedAttempts;" v6 := (F6).ext E121
  have F131 : Fld Z h121 a "com/example/pen_over_wire/penoverwire/model/User" "disabled" "Z" (.int d7) := (F7).ext E121
  have F132 : Fld Z h121 a "com/example/pen_over_wire/penoverwire/model/User" "sessionEpoch" "J" (.long q8) := (F8).ext E121
  have F133 : Exa Z h121 a "com/example/pen_over_wire/penoverwire/model/User" := (Ea).ext E121
  have F134 : Fld Z h121 b "com/example/pen_over_wire/penoverwire/model/User" "name" "Ljava/lang/String;" .null := D121 (Or.inr (hw _ (List.mem_of_getElem? (i := 23) rfl))) (ty := (.object "java/lang/String")) (by decide)
  have F135 : Fld Z h121 b "com/example/pen_over_wire/penoverwire/model/User" "role" "Lcom/example/pen_over_wire/penoverwire/model/Role;" .null := D121 (Or.inr (hw _ (List.mem_of_getElem? (i := 25) rfl))) (ty := (.object "com/example/pen_over_wire/penoverwire/model/Role")) (by decide)
  have F136 : Fld Z h121 b "com/example/pen_over_wire/penoverwire/model/User" "password" "Lcom/example/pen_over_wire/penoverwire/crypto/PasswordHash;" .null := D121 (Or.inr (hw _ (List.mem_of_getElem? (i := 27) rfl))) (ty := (.object "com/example/pen_over_wire/penoverwire/crypto/PasswordHash")) (by decide)
  have F137 : Fld Z h121 b "com/example/pen_over_wire/penoverwire/model/User" "totpSecret" "[B" .null := D121 (Or.inr (hw _ (List.mem_of_getElem? (i := 29) rfl))) (ty := (.array .byte)) (by decide)
  have F138 : Fld Z h121 b "com/example/pen_over_wire/penoverwire/model/User" "lastOtpStep" "J" (.long (0 : Int64)) := D121 (Or.inr (hw _ (List.mem_of_getElem? (i := 31) rfl))) (ty := .long) (by decide)
  have F139 : Fld Z h121 b "com/example/pen_over_wire/penoverwire/model/User" "failedLogins" "Lcom/example/pen_over_wire/penoverwire/model/FailedAttempts;" .null := D121 (Or.inr (hw _ (List.mem_of_getElem? (i := 33) rfl))) (ty := (.object "com/example/pen_over_wire/penoverwire/model/FailedAttempts")) (by decide)
  have F140 : Fld Z h121 b "com/example/pen_over_wire/penoverwire/model/User" "disabled" "Z" (.int (0 : Int32)) := D121 (Or.inr (hw _ (List.mem_of_getElem? (i := 35) rfl))) (ty := .boolean) (by decide)
  have F141 : Fld Z h121 b "com/example/pen_over_wire/penoverwire/model/User" "sessionEpoch" "J" (.long (0 : Int64)) := D121 (Or.inr (hw _ (List.mem_of_getElem? (i := 37) rfl))) (ty := .long) (by decide)
  have k142 : ∀ t, Steps p.tables e below (T121.setTop (mkF m 3 #[.val (.ref a)] [(.ref b)])) t → Steps p.tables e below (s₁.setTop (entryFrame m #[(.ref a)] 1)) t := fun t k => pre0 t (st121 t k)
  have k143 : ∀ t, Steps p.tables e below (T121.setTop (mkF m 5 #[.val (.ref a)] [(.ref a), (.ref b), (.ref b)])) t → Steps p.tables e below (s₁.setTop (entryFrame m #[(.ref a)] 1)) t := fun t k => k142 t (by
    show Steps p.tables e below (T121.setTop (mkF m 3 #[.val (.ref a)] [(.ref b)])) _
    refine XS.dup X121.here hx rfl (hb hby d6_3) rfl rfl ?_
    show Steps p.tables e below (T121.setTop (mkF m 4 #[.val (.ref a)] [(.ref b), (.ref b)])) _
    refine XS.aloadN X121.here hx rfl (hb hby d6_4) rfl rfl ?_
    exact k)
  obtain ⟨T144, X144, e144, st144⟩ := getF X121 hx hZ hown (host := "") (Or.inl (hw _ (List.mem_of_getElem? (i := 22) rfl))) Via.refl e121 F125 (g := (mkF m 5 #[.val (.ref a)] [(.ref a), (.ref b), (.ref b)])) rfl rfl (hb hby d6_5)
  have k145 : ∀ t, Steps p.tables e below (T144.setTop (mkF m 8 #[.val (.ref a)] [v1, (.ref b), (.ref b)])) t → Steps p.tables e below (s₁.setTop (entryFrame m #[(.ref a)] 1)) t := fun t k => k143 t (st144 t k)
  have k146 : ∀ t, Steps p.tables e below (T144.setTop (mkF m 9 #[.val (.ref a)] [(.ref a), v1, (.ref b), (.ref b)])) t → Steps p.tables e below (s₁.setTop (entryFrame m #[(.ref a)] 1)) t := fun t k => k145 t (by
    show Steps p.tables e below (T144.setTop (mkF m 8 #[.val (.ref a)] [v1, (.ref b), (.ref b)])) _
    refine XS.aloadN X144.here hx rfl (hb hby d6_8) rfl rfl ?_
    exact k)
  obtain ⟨T147, X147, e147, st147⟩ := getF X144 hx hZ hown (host := "") (Or.inl (hw _ (List.mem_of_getElem? (i := 24) rfl))) Via.refl e144 F126 (g := (mkF m 9 #[.val (.ref a)] [(.ref a), v1, (.ref b), (.ref b)])) rfl rfl (hb hby d6_9)
  have k148 : ∀ t, Steps p.tables e below (T147.setTop (mkF m 12 #[.val (.ref a)] [v2, v1, (.ref b), (.ref b)])) t → Steps p.tables e below (s₁.setTop (entryFrame m #[(.ref a)] 1)) t := fun t k => k146 t (st147 t k)
  have k149 : ∀ t, Steps p.tables e below (T147.setTop (mkF m 13 #[.val (.ref a)] [(.ref a), v2, v1, (.ref b), (.ref b)])) t → Steps p.tables e below (s₁.setTop (entryFrame m #[(.ref a)] 1)) t := fun t k => k148 t (by
    show Steps p.tables e below (T147.setTop (mkF m 12 #[.val (.ref a)] [v2, v1, (.ref b), (.ref b)])) _
    refine XS.aloadN X147.here hx rfl (hb hby d6_12) rfl rfl ?_
    exact k)
  obtain ⟨T150, X150, e150, st150⟩ := getF X147 hx hZ hown (host := "") (Or.inl (hw _ (List.mem_of_getElem? (i := 26) rfl))) Via.refl e147 F127 (g := (mkF m 13 #[.val (.ref a)] [(.ref a), v2, v1, (.ref b), (.ref b)])) rfl rfl (hb hby d6_13)
  have k151 : ∀ t, Steps p.tables e below (T150.setTop (mkF m 16 #[.val (.ref a)] [v3, v2, v1, (.ref b), (.ref b)])) t → Steps p.tables e below (s₁.setTop (entryFrame m #[(.ref a)] 1)) t := fun t k => k149 t (st150 t k)
  have k152 : ∀ t, Steps p.tables e below (T150.setTop (mkF m 17 #[.val (.ref a)] [(.ref a), v3, v2, v1, (.ref b), (.ref b)])) t → Steps p.tables e below (s₁.setTop (entryFrame m #[(.ref a)] 1)) t := fun t k => k151 t (by
    show Steps p.tables e below (T150.setTop (mkF m 16 #[.val (.ref a)] [v3, v2, v1, (.ref b), (.ref b)])) _
    refine XS.aloadN X150.here hx rfl (hb hby d6_16) rfl rfl ?_
    exact k)
  obtain ⟨T153, X153, e153, st153⟩ := getF X150 hx hZ hown (host := "") (Or.inl (hw _ (List.mem_of_getElem? (i := 28) rfl))) Via.refl e150 F128 (g := (mkF m 17 #[.val (.ref a)] [(.ref a), v3, v2, v1, (.ref b), (.ref b)])) rfl rfl (hb hby d6_17)
  have k154 : ∀ t, Steps p.tables e below (T153.setTop (mkF m 20 #[.val (.ref a)] [v4, v3, v2, v1, (.ref b), (.ref b)])) t → Steps p.tables e below (s₁.setTop (entryFrame m #[(.ref a)] 1)) t := fun t k => k152 t (st153 t k)
  have k155 : ∀ t, Steps p.tables e below (T153.setTop (mkF m 21 #[.val (.ref a)] [(.ref a), v4, v3, v2, v1, (.ref b), (.ref b)])) t → Steps p.tables e below (s₁.setTop (entryFrame m #[(.ref a)] 1)) t := fun t k => k154 t (by
    show Steps p.tables e below (T153.setTop (mkF m 20 #[.val (.ref a)] [v4, v3, v2, v1, (.ref b), (.ref b)])) _
    refine XS.aloadN X153.here hx rfl (hb hby d6_20) rfl rfl ?_
    exact k)
  obtain ⟨T156, X156, e156, st156⟩ := getF X153 hx hZ hown (host := "") (Or.inl (hw _ (List.mem_of_getElem? (i := 30) rfl))) Via.refl e153 F129 (g := (mkF m 21 #[.val (.ref a)] [(.ref a), v4, v3, v2, v1, (.ref b), (.ref b)])) rfl rfl (hb hby d6_21)
  have k157 : ∀ t, Steps p.tables e below (T156.setTop (mkF m 24 #[.val (.ref a)] [(.long q5), v4, v3, v2, v1, (.ref b), (.ref b)])) t → Steps p.tables e below (s₁.setTop (entryFrame m #[(.ref a)] 1)) t := fun t k => k155 t (st156 t k)
  have k158 : ∀ t, Steps p.tables e below (T156.setTop (mkF m 25 #[.val (.ref a)] [(.ref a), (.long q5), v4, v3, v2, v1, (.ref b), (.ref b)])) t → Steps p.tables e below (s₁.setTop (entryFrame m #[(.ref a)] 1)) t := fun t k => k157 t (by
    show Steps p.tables e below (T156.setTop (mkF m 24 #[.val (.ref a)] [(.long q5), v4, v3, v2, v1, (.ref b), (.ref b)])) _
    refine XS.aloadN X156.here hx rfl (hb hby d6_24) rfl rfl ?_
    exact k)
  obtain ⟨T159, X159, e159, st159⟩ := getF X156 hx hZ hown (host := "") (Or.inl (hw _ (List.mem_of_getElem? (i := 32) rfl))) Via.refl e156 F130 (g := (mkF m 25 #[.val (.ref a)] [(.ref a), (.long q5), v4, v3, v2, v1, (.ref b), (.ref b)])) rfl rfl (hb hby d6_25)
  have k160 : ∀ t, Steps p.tables e below (T159.setTop (mkF m 28 #[.val (.ref a)] [v6, (.long q5), v4, v3, v2, v1, (.ref b), (.ref b)])) t → Steps p.tables e below (s₁.setTop (entryFrame m #[(.ref a)] 1)) t := fun t k => k158 t (st159 t k)
  have k161 : ∀ t, Steps p.tables e below (T159.setTop (mkF m 30 #[.val (.ref a)] [(.ref a), (.int (1 : Int32)), v6, (.long q5), v4, v3, v2, v1, (.ref b), (.ref b)])) t → Steps p.tables e below (s₁.setTop (entryFrame m #[(.ref a)] 1)) t := fun t k => k160 t (by
    show Steps p.tables e below (T159.setTop (mkF m 28 #[.val (.ref a)] [v6, (.long q5), v4, v3, v2, v1, (.ref b), (.ref b)])) _
    refine XS.iconst X159.here hx rfl (hb hby d6_28) ?_
    show Steps p.tables e below (T159.setTop (mkF m 29 #[.val (.ref a)] [(.int (1 : Int32)), v6, (.long q5), v4, v3, v2, v1, (.ref b), (.ref b)])) _
    refine XS.aloadN X159.here hx rfl (hb hby d6_29) rfl rfl ?_
    exact k)
  obtain ⟨T162, X162, e162, st162⟩ := getF X159 hx hZ hown (host := "") (Or.inl (hw _ (List.mem_of_getElem? (i := 36) rfl))) Via.refl e159 F132 (g := (mkF m 30 #[.val (.ref a)] [(.ref a), (.int (1 : Int32)), v6, (.long q5), v4, v3, v2, v1, (.ref b), (.ref b)])) rfl rfl (hb hby d6_30)
  have k163 : ∀ t, Steps p.tables e below (T162.setTop (mkF m 33 #[.val (.ref a)] [(.long q8), (.int (1 : Int32)), v6, (.long q5), v4, v3, v2, v1, (.ref b), (.ref b)])) t → Steps p.tables e below (s₁.setTop (entryFrame m #[(.ref a)] 1)) t := fun t k => k161 t (st162 t k)
  have k164 : ∀ t, Steps p.tables e below (T162.setTop (mkF m 35 #[.val (.ref a)] [(.long (q8 + (1 : Int64))), (.int (1 : Int32)), v6, (.long q5), v4, v3, v2, v1, (.ref b), (.ref b)])) t → Steps p.tables e below (s₁.setTop (entryFrame m #[(.ref a)] 1)) t := fun t k => k163 t (by
    show Steps p.tables e below (T162.setTop (mkF m 33 #[.val (.ref a)] [(.long q8), (.int (1 : Int32)), v6, (.long q5), v4, v3, v2, v1, (.ref b), (.ref b)])) _
    refine XS.lconst X162.here hx rfl (hb hby d6_33) ?_
    show Steps p.tables e below (T162.setTop (mkF m 34 #[.val (.ref a)] [(.long (1 : Int64)), (.long q8), (.int (1 : Int32)), v6, (.long q5), v4, v3, v2, v1, (.ref b), (.ref b)])) _
    refine XS.ladd X162.here hx rfl (hb hby d6_34) rfl ?_
    exact k)
  obtain ⟨_, _, ⟨T165, L165, kc165, ks165⟩, -, X165, ⟨Lc165, hQ165, l165, y165, z165⟩, st165⟩ := X162.specialBack hx (y := (⟨"com/example/pen_over_wire/penoverwire/model/User", "<init>", "(Ljava/lang/String;Lcom/example/pen_over_wire/penoverwire/model/Role;Lcom/example/pen_over_wire/penoverwire/crypto/PasswordHash;[BJLcom/example/pen_over_wire/penoverwire/model/FailedAttempts;ZJ)V"⟩ : MethodName)) rfl hown (mvT hZ (hw _ (List.mem_of_getElem? (i := 54) rfl))) (mvT hZ (hw _ (List.mem_of_getElem? (i := 12) rfl))) (mvT hZ (hw _ (List.mem_of_getElem? (i := 13) rfl))) (by decide) (backOf (W := 1) (rm1 l Z a0 hw [] b v1 v2 v3 v4 q5 v6 (1 : Int32) (q8 + (1 : Int64)) h121 n0 Z123 r1 r2 r3 r4 r6 (Or.inr rfl) F134 F135 F136 F137 F138 F139 F140 F141 A121 g_b) hZ (hw _ (List.mem_of_getElem? (i := 13) rfl)) (hw _ (List.mem_of_getElem? (i := 2) rfl)) (by decide) (by decide)) (g := (mkF m 35 #[.val (.ref a)] [(.long (q8 + (1 : Int64))), (.int (1 : Int32)), v6, (.long q5), v4, v3, v2, v1, (.ref b), (.ref b)])) rfl (by rw [hml]; rfl) (Steps.refl _) (a := b) (argsL := [v1, v2, v3, v4, (.long q5), v6, (.int (1 : Int32)), (.long (q8 + (1 : Int64)))]) (rest := [(.ref b)]) (lenOf pd_1 rfl) rfl (by show 2 * 0 + _ ≤ _; exact Nat.le_of_eq rfl) (hb hby d6_35) (fun _ _ => ⟨rfl, e162, (by decide : 1 + 0 ≤ _), (by decide : 8 + 0 ≤ _)⟩)
  dsimp only [Pt.U, Pt.locs, Pt.cells, Pt.slots] at X165 l165 y165 z165 st165 hQ165
  subst l165 y165 z165
  obtain ⟨rfl, Nq165, K165, Ax165, Fx165_0, Fx165_1, Fx165_2, Fx165_3, Fx165_4, Fx165_5, Fx165_6, Fx165_7⟩ := hQ165
  have N165 := Fr.app N0 Nq165
  have Z166 : n0 ≤ T165.heap.size := Nat.le_trans Z123 K165.1
  have K167 : Keep h0 T165.heap [] := K124.trans K165 (allS (Or.inr sz_b) all0)
  have F168 : Fld Z T165.heap a "com/example/pen_over_wire/penoverwire/model/User" "name" "Ljava/lang/String;" v1 := (F125).keep K165 (ninS ne122 nin0)
  have F169 : Fld Z T165.heap a "com/example/pen_over_wire/penoverwire/model/User" "role" "Lcom/example/pen_over_wire/penoverwire/model/Role;" v2 := (F126).keep K165 (ninS ne122 nin0)
  have F170 : Fld Z T165.heap a "com/example/pen_over_wire/penoverwire/model/User" "password" "Lcom/example/pen_over_wire/penoverwire/crypto/PasswordHash;" v3 := (F127).keep K165 (ninS ne122 nin0)
  have F171 : Fld Z T165.heap a "com/example/pen_over_wire/penoverwire/model/User" "totpSecret" "[B" v4 := (F128).keep K165 (ninS ne122 nin0)
  have F172 : Fld Z T165.heap a "com/example/pen_over_wire/penoverwire/model/User" "lastOtpStep" "J" (.long q5) := (F129).keep K165 (ninS ne122 nin0)
  have F173 : Fld Z T165.heap a "com/example/pen_over_wire/penoverwire/model/User" "failedLogins" "Lcom/example/pen_over_wire/penoverwire/model/FailedAttempts;" v6 := (F130).keep K165 (ninS ne122 nin0)
  have F174 : Fld Z T165.heap a "com/example/pen_over_wire/penoverwire/model/User" "disabled" "Z" (.int d7) := (F131).keep K165 (ninS ne122 nin0)
  have F175 : Fld Z T165.heap a "com/example/pen_over_wire/penoverwire/model/User" "sessionEpoch" "J" (.long q8) := (F132).keep K165 (ninS ne122 nin0)
  have F176 : Exa Z T165.heap a "com/example/pen_over_wire/penoverwire/model/User" := (F133).keep K165
  have F177 : Exa Z T165.heap b "com/example/pen_over_wire/penoverwire/model/User" := (A121).keep K165
  have k178 : ∀ t, Steps p.tables e below (T165.setTop (mkF m 38 #[.val (.ref a)] [(.ref b)])) t → Steps p.tables e below (s₁.setTop (entryFrame m #[(.ref a)] 1)) t := fun t k => k164 t (st165.trans k)
  obtain ⟨fs, hr, hrun, hended, hW, hsame⟩ := X165.leave (v := some (.ref b)) (fun h => by rw [Bd.returns] at h; cases h)
  refine ⟨_, _, k178 _ ?_, hrun, hended, _, _, rfl, ?_, ⟨_, rfl⟩, hW, hsame.mono (by decide) (by decide)⟩
  · show Steps p.tables e below (T165.setTop (mkF m 38 #[.val (.ref a)] [(.ref b)])) _
    exact retOut X165 hx Bd.returns rfl (Or.inr (Or.inr (Or.inr (Or.inr ⟨rfl, rfl, rfl⟩)))) (hb hby d6_38) hr
  · show Q6 Z a b v1 v2 v3 v4 q5 v6 d7 q8 h0 n0 _ T165.heap _
    exact ⟨rfl, N165, K167, F177, Fx165_0, Fx165_1, Fx165_2, Fx165_3, Fx165_4, Fx165_5, Fx165_6, Fx165_7⟩
theorem d7_0 : decode prog_34_method_5_code 0 = .ok (.new 8, 3) := by decide +kernel
theorem d7_3 : decode prog_34_method_5_code 3 = .ok (.dup, 1) := by decide +kernel
theorem d7_4 : decode prog_34_method_5_code 4 = .ok (.aload_n 0, 1) := by decide +kernel
theorem d7_5 : decode prog_34_method_5_code 5 = .ok (.getfield 7, 3) := by decide +kernel
theorem d7_8 : decode prog_34_method_5_code 8 = .ok (.aload_n 0, 1) := by decide +kernel
theorem d7_9 : decode prog_34_method_5_code 9 = .ok (.getfield 13, 3) := by decide +kernel
theorem d7_12 : decode prog_34_method_5_code 12 = .ok (.aload_n 0, 1) := by decide +kernel
theorem d7_13 : decode prog_34_method_5_code 13 = .ok (.getfield 17, 3) := by decide +kernel
theorem d7_16 : decode prog_34_method_5_code 16 = .ok (.aload_n 0, 1) := by decide +kernel
theorem d7_17 : decode prog_34_method_5_code 17 = .ok (.getfield 21, 3) := by decide +kernel
theorem d7_20 : decode prog_34_method_5_code 20 = .ok (.aload_n 0, 1) := by decide +kernel
theorem d7_21 : decode prog_34_method_5_code 21 = .ok (.getfield 25, 3) := by decide +kernel
theorem d7_24 : decode prog_34_method_5_code 24 = .ok (.aload_n 0, 1) := by decide +kernel
theorem d7_25 : decode prog_34_method_5_code 25 = .ok (.getfield 29, 3) := by decide +kernel
theorem d7_28 : decode prog_34_method_5_code 28 = .ok (.iconst 0, 1) := by decide +kernel
theorem d7_29 : decode prog_34_method_5_code 29 = .ok (.aload_n 0, 1) := by decide +kernel
theorem d7_30 : decode prog_34_method_5_code 30 = .ok (.getfield 37, 3) := by decide +kernel
theorem d7_33 : decode prog_34_method_5_code 33 = .ok (.invokespecial 40, 3) := by decide +kernel
theorem d7_36 : decode prog_34_method_5_code 36 = .ok (.areturn, 1) := by decide +kernel
theorem ef_7 (m : MethodId) (x0 : Addr) : entryFrame m #[(.ref x0)] 1 = mkF m 0 #[.val (.ref x0)] [] := by first | (simp [entryFrame, mkF, argsToLocals, Value.category]; done) | rfl
def Q7 (Z : State) (a : Addr) (b : Addr) (v1 : Value) (v2 : Value) (v3 : Value) (v4 : Value) (q5 : Int64) (v6 : Value) (d7 : Int32) (q8 : Int64) (h0 : Heap) (n0 : Nat) (v : Option Value) (h : Heap) (L : List Loc) : Prop := v = some (.ref b) ∧ Fr n0 L ∧ Keep h0 h [] ∧ Exa Z h b "com/example/pen_over_wire/penoverwire/model/User" ∧ Fld Z h b "com/example/pen_over_wire/penoverwire/model/User" "name" "Ljava/lang/String;" v1 ∧ Fld Z h b "com/example/pen_over_wire/penoverwire/model/User" "role" "Lcom/example/pen_over_wire/penoverwire/model/Role;" v2 ∧ Fld Z h b "com/example/pen_over_wire/penoverwire/model/User" "password" "Lcom/example/pen_over_wire/penoverwire/crypto/PasswordHash;" v3 ∧ Fld Z h b "com/example/pen_over_wire/penoverwire/model/User" "totpSecret" "[B" v4 ∧ Fld Z h b "com/example/pen_over_wire/penoverwire/model/User" "lastOtpStep" "J" (.long q5) ∧ Fld Z h b "com/example/pen_over_wire/penoverwire/model/User" "failedLogins" "Lcom/example/pen_over_wire/penoverwire/model/FailedAttempts;" v6 ∧ Fld Z h b "com/example/pen_over_wire/penoverwire/model/User" "disabled" "Z" (.int (0 : Int32)) ∧ Fld Z h b "com/example/pen_over_wire/penoverwire/model/User" "sessionEpoch" "J" (.long q8)
set_option maxRecDepth 65536 in
set_option maxHeartbeats 40000000 in
theorem rm7 (l : Launch) (Z : State) (a0 : Array Value) (hw : ∀ d ∈ tables_1, d.before a0 Z = true) (ws : List Jvm.Cond) (a : Addr) (b : Addr) (v1 : Value) (v2 : Value) (v3 : Value) (v4 : Value) (q5 : Int64) (v6 : Value) (d7 : Int32) (q8 : Int64) (h0 : Heap) (n0 : Nat) (Z0 : n0 ≤ h0.size) (r1 : v1.isRef = true) (r2 : v2.isRef = true) (r3 : v3.isRef = true) (r4 : v4.isRef = true) (r6 : v6.isRef = true) (F1 : Fld Z h0 a "com/example/pen_over_wire/penoverwire/model/User" "name" "Ljava/lang/String;" v1) (F2 : Fld Z h0 a "com/example/pen_over_wire/penoverwire/model/User" "role" "Lcom/example/pen_over_wire/penoverwire/model/Role;" v2) (F3 : Fld Z h0 a "com/example/pen_over_wire/penoverwire/model/User" "password" "Lcom/example/pen_over_wire/penoverwire/crypto/PasswordHash;" v3) (F4 : Fld Z h0 a "com/example/pen_over_wire/penoverwire/model/User" "totpSecret" "[B" v4) (F5 : Fld Z h0 a "com/example/pen_over_wire/penoverwire/model/User" "lastOtpStep" "J" (.long q5)) (F6 : Fld Z h0 a "com/example/pen_over_wire/penoverwire/model/User" "failedLogins" "Lcom/example/pen_over_wire/penoverwire/model/FailedAttempts;" v6) (F7 : Fld Z h0 a "com/example/pen_over_wire/penoverwire/model/User" "disabled" "Z" (.int d7)) (F8 : Fld Z h0 a "com/example/pen_over_wire/penoverwire/model/User" "sessionEpoch" "J" (.long q8)) (Ea : Exa Z h0 a "com/example/pen_over_wire/penoverwire/model/User") (gb : b = h0.size) :
    MetFree l (⟨"com/example/pen_over_wire/penoverwire/model/User", "enable", "()Lcom/example/pen_over_wire/penoverwire/model/User;"⟩ : MethodName) (head1 (Jvm.Cond.code (⟨"com/example/pen_over_wire/penoverwire/model/User", "enable", "()Lcom/example/pen_over_wire/penoverwire/model/User;"⟩ : MethodName) prog_34_method_5_code 1 (some (.object "com/example/pen_over_wire/penoverwire/model/User")) :: ws) ({ frames := 3, cells := 1, slots := 8, locals := 47 } : Room)) (fun aa U => aa = #[(.ref a)] ∧ Z.Warmed39 U.vm ∧ U.heap = h0) (fun _ _ _ _ _ => True) (fun _ U o U' => ∃ v L, o = .returned v ∧ Q7 Z a b v1 v2 v3 v4 q5 v6 d7 q8 h0 n0 v U'.heap L ∧ FrameEnd U o U' L ({ frames := 3, cells := 1, slots := 8, locals := 47 } : Room).cells ({ frames := 3, cells := 1, slots := 8, locals := 47 } : Room).slots) := by
  refine MetFree.of_bodySF (plainFor_of_name pn_1) hisR ?_
  intro p e s m args below meth c s₁ Bd hml0 hP hK
  obtain ⟨rfl, hZ, hh⟩ := hP
  have hx := Bd.exec
  have hby := Bd.bytes
  have hml : c.maxLocals = 1 := hml0
  have hown : s.vm.findClass "com/example/pen_over_wire/penoverwire/model/User" = some m.cls := findClass_of_methodNamed Bd.named
  have hnm := (name_of_methodNamed Bd.named Bd.method).1
  have X0 : Stand p l e ({ frames := 3, cells := 1, slots := 8, locals := 47 } : Room) s m #[(.ref a)] below meth c s₁ [] 0 0 := Stand.of_body Bd
  have e0 : s₁.heap = h0 := by rw [← hh, Bd.state]; rfl
  have N0 := Fr.nil n0
  have pre0 : ∀ t, Steps p.tables e below (s₁.setTop (mkF m 0 #[.val (.ref a)] [])) t → Steps p.tables e below (s₁.setTop (entryFrame m #[(.ref a)] 1)) t := fun t k => castTop (ef_7 m a) k
  have KR : Keep h0 h0 [] := Keep.refl _ _
  obtain ⟨T180, h180, X180, e180, E180, A180, D180, -, st180⟩ := newO X0 hx hZ hown (hw _ (List.mem_of_getElem? (i := 53) rfl)) (hw _ (List.mem_of_getElem? (i := 1) rfl)) (hw _ (List.mem_of_getElem? (i := 2) rfl)) e0 (g := (mkF m 0 #[.val (.ref a)] [])) rfl (hb hby d7_0) (by decide) (by decide)
  rw [← gb] at A180 D180 st180
  have ne181 : a ≠ b := Nat.ne_of_lt (Nat.lt_of_lt_of_le (F1).lt (Nat.le_of_eq gb.symm))
  have g_b : n0 ≤ b := Nat.le_trans Z0 (Nat.le_of_eq gb.symm)
  have sz_b : h0.size ≤ b := Nat.le_trans KR.1 (Nat.le_of_eq gb.symm)
  have Z182 : n0 ≤ h180.size := Nat.le_trans Z0 E180.1
  have K183 : Keep h0 h180 [] := KR.ext E180
  have F184 : Fld Z h180 a "com/example/pen_over_wire/penoverwire/model/User" "name" "Ljava/lang/String;" v1 := (F1).ext E180
  have F185 : Fld Z h180 a "com/example/pen_over_wire/penoverwire/model/User" "role" "Lcom/example/pen_over_wire/penoverwire/model/Role;" v2 := (F2).ext E180
  have F186 : Fld Z h180 a "com/example/pen_over_wire/penoverwire/model/User" "password" "Lcom/example/pen_over_wire/penoverwire/crypto/PasswordHash;" v3 := (F3).ext E180
  have F187 : Fld Z h180 a "com/example/pen_over_wire/penoverwire/model/User" "totpSecret" "[B" v4 := (F4).ext E180
  have F188 : Fld Z h180 a "com/example/pen_over_wire/penoverwire/model/User" "lastOtpStep" "J" (.long q5) := (F5).ext E180
  have F189 : Fld Z h180 a "com/example/pen_over_wire/penoverwire/model/User" "failedLogins" "Lcom/example/pen_over_wire/penoverwire/model/FailedAttempts;" v6 := (F6).ext E180
  have F190 : Fld Z h180 a "com/example/pen_over_wire/penoverwire/model/User" "disabled" "Z" (.int d7) := (F7).ext E180
  have F191 : Fld Z h180 a "com/example/pen_over_wire/penoverwire/model/User" "sessionEpoch" "J" (.long q8) := (F8).ext E180
  have F192 : Exa Z h180 a "com/example/pen_over_wire/penoverwire/model/User" := (Ea).ext E180
  have F193 : Fld Z h180 b "com/example/pen_over_wire/penoverwire/model/User" "name" "Ljava/lang/String;" .null := D180 (Or.inr (hw _ (List.mem_of_getElem? (i := 23) rfl))) (ty := (.object "java/lang/String")) (by decide)
  have F194 : Fld Z h180 b "com/example/pen_over_wire/penoverwire/model/User" "role" "Lcom/example/pen_over_wire/penoverwire/model/Role;" .null := D180 (Or.inr (hw _ (List.mem_of_getElem? (i := 25) rfl))) (ty := (.object "com/example/pen_over_wire/penoverwire/model/Role")) (by decide)
  have F195 : Fld Z h180 b "com/example/pen_over_wire/penoverwire/model/User" "password" "Lcom/example/pen_over_wire/penoverwire/crypto/PasswordHash;" .null := D180 (Or.inr (hw _ (List.mem_of_getElem? (i := 27) rfl))) (ty := (.object "com/example/pen_over_wire/penoverwire/crypto/PasswordHash")) (by decide)
  have F196 : Fld Z h180 b "com/example/pen_over_wire/penoverwire/model/User" "totpSecret" "[B" .null := D180 (Or.inr (hw _ (List.mem_of_getElem? (i := 29) rfl))) (ty := (.array .byte)) (by decide)
  have F197 : Fld Z h180 b "com/example/pen_over_wire/penoverwire/model/User" "lastOtpStep" "J" (.long (0 : Int64)) := D180 (Or.inr (hw _ (List.mem_of_getElem? (i := 31) rfl))) (ty := .long) (by decide)
  have F198 : Fld Z h180 b "com/example/pen_over_wire/penoverwire/model/User" "failedLogins" "Lcom/example/pen_over_wire/penoverwire/model/FailedAttempts;" .null := D180 (Or.inr (hw _ (List.mem_of_getElem? (i := 33) rfl))) (ty := (.object "com/example/pen_over_wire/penoverwire/model/FailedAttempts")) (by decide)
  have F199 : Fld Z h180 b "com/example/pen_over_wire/penoverwire/model/User" "disabled" "Z" (.int (0 : Int32)) := D180 (Or.inr (hw _ (List.mem_of_getElem? (i := 35) rfl))) (ty := .boolean) (by decide)
  have F200 : Fld Z h180 b "com/example/pen_over_wire/penoverwire/model/User" "sessionEpoch" "J" (.long (0 : Int64)) := D180 (Or.inr (hw _ (List.mem_of_getElem? (i := 37) rfl))) (ty := .long) (by decide)
  have k201 : ∀ t, Steps p.tables e below (T180.setTop (mkF m 3 #[.val (.ref a)] [(.ref b)])) t → Steps p.tables e below (s₁.setTop (entryFrame m #[(.ref a)] 1)) t := fun t k => pre0 t (st180 t k)
  have k202 : ∀ t, Steps p.tables e below (T180.setTop (mkF m 5 #[.val (.ref a)] [(.ref a), (.ref b), (.ref b)])) t → Steps p.tables e below (s₁.setTop (entryFrame m #[(.ref a)] 1)) t := fun t k => k201 t (by
    show Steps p.tables e below (T180.setTop (mkF m 3 #[.val (.ref a)] [(.ref b)])) _
    refine XS.dup X180.here hx rfl (hb hby d7_3) rfl rfl ?_
    show Steps p.tables e below (T180.setTop (mkF m 4 #[.val (.ref a)] [(.ref b), (.ref b)])) _
    refine XS.aloadN X180.here hx rfl (hb hby d7_4) rfl rfl ?_
    exact k)
  obtain ⟨T203, X203, e203, st203⟩ := getF X180 hx hZ hown (host := "") (Or.inl (hw _ (List.mem_of_getElem? (i := 22) rfl))) Via.refl e180 F184 (g := (mkF m 5 #[.val (.ref a)] [(.ref a), (.ref b), (.ref b)])) rfl rfl (hb hby d7_5)
  have k204 : ∀ t, Steps p.tables e below (T203.setTop (mkF m 8 #[.val (.ref a)] [v1, (.ref b), (.ref b)])) t → Steps p.tables e below (s₁.setTop (entryFrame m #[(.ref a)] 1)) t := fun t k => k202 t (st203 t k)
  have k205 : ∀ t, Steps p.tables e below (T203.setTop (mkF m 9 #[.val (.ref a)] [(.ref a), v1, (.ref b), (.ref b)])) t → Steps p.tables e below (s₁.setTop (entryFrame m #[(.ref a)] 1)) t := fun t k => k204 t (by
    show Steps p.tables e below (T203.setTop (mkF m 8 #[.val (.ref a)] [v1, (.ref b), (.ref b)])) _
    refine XS.aloadN X203.here hx rfl (hb hby d7_8) rfl rfl ?_
    exact k)
  obtain ⟨T206, X206, e206, st206⟩ := getF X203 hx hZ hown (host := "") (Or.inl (hw _ (List.mem_of_getElem? (i := 24) rfl))) Via.refl e203 F185 (g := (mkF m 9 #[.val (.ref a)] [(.ref a), v1, (.ref b), (.ref b)])) rfl rfl (hb hby d7_9)
  have k207 : ∀ t, Steps p.tables e below (T206.setTop (mkF m 12 #[.val (.ref a)] [v2, v1, (.ref b), (.ref b)])) t → Steps p.tables e below (s₁.setTop (entryFrame m #[(.ref a)] 1)) t := fun t k => k205 t (st206 t k)
  have k208 : ∀ t, Steps p.tables e below (T206.setTop (mkF m 13 #[.val (.ref a)] [(.ref a), v2, v1, (.ref b), (.ref b)])) t → Steps p.tables e below (s₁.setTop (entryFrame m #[(.ref a)] 1)) t := fun t k => k207 t (by
    show Steps p.tables e below (T206.setTop (mkF m 12 #[.val (.ref a)] [v2, v1, (.ref b), (.ref b)])) _
    refine XS.aloadN X206.here hx rfl (hb hby d7_12) rfl rfl ?_
    exact k)
  obtain ⟨T209, X209, e209, st209⟩ := getF X206 hx hZ hown (host := "") (Or.inl (hw _ (List.mem_of_getElem? (i := 26) rfl))) Via.refl e206 F186 (g := (mkF m 13 #[.val (.ref a)] [(.ref a), v2, v1, (.ref b), (.ref b)])) rfl rfl (hb hby d7_13)
  have k210 : ∀ t, Steps p.tables e below (T209.setTop (mkF m 16 #[.val (.ref a)] [v3, v2, v1, (.ref b), (.ref b)])) t → Steps p.tables e below (s₁.setTop (entryFrame m #[(.ref a)] 1)) t := fun t k => k208 t (st209 t k)
  have k211 : ∀ t, Steps p.tables e below (T209.setTop (mkF m 17 #[.val (.ref a)] [(.ref a), v3, v2, v1, (.ref b), (.ref b)])) t → Steps p.tables e below (s₁.setTop (entryFrame m #[(.ref a)] 1)) t := fun t k => k210 t (by
    show Steps p.tables e below (T209.setTop (mkF m 16 #[.val (.ref a)] [v3, v2, v1, (.ref b), (.ref b)])) _
    refine XS.aloadN X209.here hx rfl (hb hby d7_16) rfl rfl ?_
    exact k)
  obtain ⟨T212, X212, e212, st212⟩ := getF X209 hx hZ hown (host := "") (Or.inl (hw _ (List.mem_of_getElem? (i := 28) rfl))) Via.refl e209 F187 (g := (mkF m 17 #[.val (.ref a)] [(.ref a), v3, v2, v1, (.ref b), (.ref b)])) rfl rfl (hb hby d7_17)
  have k213 : ∀ t, Steps p.tables e below (T212.setTop (mkF m 20 #[.val (.ref a)] [v4, v3, v2, v1, (.ref b), (.ref b)])) t → Steps p.tables e below (s₁.setTop (entryFrame m #[(.ref a)] 1)) t := fun t k => k211 t (st212 t k)
  have k214 : ∀ t, Steps p.tables e below (T212.setTop (mkF m 21 #[.val (.ref a)] [(.ref a), v4, v3, v2, v1, (.ref b), (.ref b)])) t → Steps p.tables e below (s₁.setTop (entryFrame m #[(.ref a)] 1)) t := fun t k => k213 t (by
    show Steps p.tables e below (T212.setTop (mkF m 20 #[.val (.ref a)] [v4, v3, v2, v1, (.ref b), (.ref b)])) _
    refine XS.aloadN X212.here hx rfl (hb hby d7_20) rfl rfl ?_
    exact k)
  obtain ⟨T215, X215, e215, st215⟩ := getF X212 hx hZ hown (host := "") (Or.inl (hw _ (List.mem_of_getElem? (i := 30) rfl))) Via.refl e212 F188 (g := (mkF m 21 #[.val (.ref a)] [(.ref a), v4, v3, v2, v1, (.ref b), (.ref b)])) rfl rfl (hb hby d7_21)
  have k216 : ∀ t, Steps p.tables e below (T215.setTop (mkF m 24 #[.val (.ref a)] [(.long q5), v4, v3, v2, v1, (.ref b), (.ref b)])) t → Steps p.tables e below (s₁.setTop (entryFrame m #[(.ref a)] 1)) t := fun t k => k214 t (st215 t k)
  have k217 : ∀ t, Steps p.tables e below (T215.setTop (mkF m 25 #[.val (.ref a)] [(.ref a), (.long q5), v4, v3, v2, v1, (.ref b), (.ref b)])) t → Steps p.tables e below (s₁.setTop (entryFrame m #[(.ref a)] 1)) t := fun t k => k216 t (by
    show Steps p.tables e below (T215.setTop (mkF m 24 #[.val (.ref a)] [(.long q5), v4, v3, v2, v1, (.ref b), (.ref b)])) _
    refine XS.aloadN X215.here hx rfl (hb hby d7_24) rfl rfl ?_
    exact k)
  obtain ⟨T218, X218, e218, st218⟩ := getF X215 hx hZ hown (host := "") (Or.inl (hw _ (List.mem_of_getElem? (i := 32) rfl))) Via.refl e215 F189 (g := (mkF m 25 #[.val (.ref a)] [(.ref a), (.long q5), v4, v3, v2, v1, (.ref b), (.ref b)])) rfl rfl (hb hby d7_25)
  have k219 : ∀ t, Steps p.tables e below (T218.setTop (mkF m 28 #[.val (.ref a)] [v6, (.long q5), v4, v3, v2, v1, (.ref b), (.ref b)])) t → Steps p.tables e below (s₁.setTop (entryFrame m #[(.ref a)] 1)) t := fun t k => k217 t (st218 t k)
  have k220 : ∀ t, Steps p.tables e below (T218.setTop (mkF m 30 #[.val (.ref a)] [(.ref a), (.int (0 : Int32)), v6, (.long q5), v4, v3, v2, v1, (.ref b), (.ref b)])) t → Steps p.tables e below (s₁.setTop (entryFrame m #[(.ref a)] 1)) t := fun t k => k219 t (by
    show Steps p.tables e below (T218.setTop (mkF m 28 #[.val (.ref a)] [v6, (.long q5), v4, v3, v2, v1, (.ref b), (.ref b)])) _
    refine XS.iconst X218.here hx rfl (hb hby d7_28) ?_
    show Steps p.tables e below (T218.setTop (mkF m 29 #[.val (.ref a)] [(.int (0 : Int32)), v6, (.long q5), v4, v3, v2, v1, (.ref b), (.ref b)])) _
    refine XS.aloadN X218.here hx rfl (hb hby d7_29) rfl rfl ?_
    exact k)
  obtain ⟨T221, X221, e221, st221⟩ := getF X218 hx hZ hown (host := "") (Or.inl (hw _ (List.mem_of_getElem? (i := 36) rfl))) Via.refl e218 F191 (g := (mkF m 30 #[.val (.ref a)] [(.ref a), (.int (0 : Int32)), v6, (.long q5), v4, v3, v2, v1, (.ref b), (.ref b)])) rfl rfl (hb hby d7_30)
  have k222 : ∀ t, Steps p.tables e below (T221.setTop (mkF m 33 #[.val (.ref a)] [(.long q8), (.int (0 : Int32)), v6, (.long q5), v4, v3, v2, v1, (.ref b), (.ref b)])) t → Steps p.tables e below (s₁.setTop (entryFrame m #[(.ref a)] 1)) t := fun t k => k220 t (st221 t k)
  obtain ⟨_, _, ⟨T223, L223, kc223, ks223⟩, -, X223, ⟨Lc223, hQ223, l223, y223, z223⟩, st223⟩ := X221.specialBack hx (y := (⟨"com/example/pen_over_wire/penoverwire/model/User", "<init>", "(Ljava/lang/String;Lcom/example/pen_over_wire/penoverwire/model/Role;Lcom/example/pen_over_wire/penoverwire/crypto/PasswordHash;[BJLcom/example/pen_over_wire/penoverwire/model/FailedAttempts;ZJ)V"⟩ : MethodName)) rfl hown (mvT hZ (hw _ (List.mem_of_getElem? (i := 54) rfl))) (mvT hZ (hw _ (List.mem_of_getElem? (i := 12) rfl))) (mvT hZ (hw _ (List.mem_of_getElem? (i := 13) rfl))) (by decide) (backOf (W := 1) (rm1 l Z a0 hw [] b v1 v2 v3 v4 q5 v6 (0 : Int32) q8 h180 n0 Z182 r1 r2 r3 r4 r6 (Or.inl rfl) F193 F194 F195 F196 F197 F198 F199 F200 A180 g_b) hZ (hw _ (List.mem_of_getElem? (i := 13) rfl)) (hw _ (List.mem_of_getElem? (i := 2) rfl)) (by decide) (by decide)) (g := (mkF m 33 #[.val (.ref a)] [(.long q8), (.int (0 : Int32)), v6, (.long q5), v4, v3, v2, v1, (.ref b), (.ref b)])) rfl (by rw [hml]; rfl) (Steps.refl _) (a := b) (argsL := [v1, v2, v3, v4, (.long q5), v6, (.int (0 : Int32)), (.long q8)]) (rest := [(.ref b)]) (lenOf pd_1 rfl) rfl (by show 2 * 0 + _ ≤ _; exact Nat.le_of_eq rfl) (hb hby d7_33) (fun _ _ => ⟨rfl, e221, (by decide : 1 + 0 ≤ _), (by decide : 8 + 0 ≤ _)⟩)
  dsimp only [Pt.U, Pt.locs, Pt.cells, Pt.slots] at X223 l223 y223 z223 st223 hQ223
  subst l223 y223 z223
  obtain ⟨rfl, Nq223, K223, Ax223, Fx223_0, Fx223_1, Fx223_2, Fx223_3, Fx223_4, Fx223_5, Fx223_6, Fx223_7⟩ := hQ223
  have N223 := Fr.app N0 Nq223
  have Z224 : n0 ≤ T223.heap.size := Nat.le_trans Z182 K223.1
  have K225 : Keep h0 T223.heap [] := K183.trans K223 (allS (Or.inr sz_b) all0)
  have F226 : Fld Z T223.heap a "com/example/pen_over_wire/penoverwire/model/User" "name" "Ljava/lang/String;" v1 := (F184).keep K223 (ninS ne181 nin0)
  have F227 : Fld Z T223.heap a "com/example/pen_over_wire/penoverwire/model/User" "role" "Lcom/example/pen_over_wire/penoverwire/model/Role;" v2 := (F185).keep K223 (ninS ne181 nin0)
  have F228 : Fld Z T223.heap a "com/example/pen_over_wire/penoverwire/model/User" "password" "Lcom/example/pen_over_wire/penoverwire/crypto/PasswordHash;" v3 := (F186).keep K223 (ninS ne181 nin0)
  have F229 : Fld Z T223.heap a "com/example/pen_over_wire/penoverwire/model/User" "totpSecret" "[B" v4 := (F187).keep K223 (ninS ne181 nin0)
  have F230 : Fld Z T223.heap a "com/example/pen_over_wire/penoverwire/model/User" "lastOtpStep" "J" (.long q5) := (F188).keep K223 (ninS ne181 nin0)
  have F231 : Fld Z T223.heap a "com/example/pen_over_wire/penoverwire/model/User" "failedLogins" "Lcom/example/pen_over_wire/penoverwire/model/FailedAttempts;" v6 := (F189).keep K223 (ninS ne181 nin0)
  have F232 : Fld Z T223.heap a "com/example/pen_over_wire/penoverwire/model/User" "disabled" "Z" (.int d7) := (F190).keep K223 (ninS ne181 nin0)
  have F233 : Fld Z T223.heap a "com/example/pen_over_wire/penoverwire/model/User" "sessionEpoch" "J" (.long q8) := (F191).keep K223 (ninS ne181 nin0)
  have F234 : Exa Z T223.heap a "com/example/pen_over_wire/penoverwire/model/User" := (F192).keep K223
  have F235 : Exa Z T223.heap b "com/example/pen_over_wire/penoverwire/model/User" := (A180).keep K223
  have k236 : ∀ t, Steps p.tables e below (T223.setTop (mkF m 36 #[.val (.ref a)] [(.ref b)])) t → Steps p.tables e below (s₁.setTop (entryFrame m #[(.ref a)] 1)) t := fun t k => k222 t (st223.trans k)
  obtain ⟨fs, hr, hrun, hended, hW, hsame⟩ := X223.leave (v := some (.ref b)) (fun h => by rw [Bd.returns] at h; cases h)
  refine ⟨_, _, k236 _ ?_, hrun, hended, _, _, rfl, ?_, ⟨_, rfl⟩, hW, hsame.mono (by decide) (by decide)⟩
  · show Steps p.tables e below (T223.setTop (mkF m 36 #[.val (.ref a)] [(.ref b)])) _
    exact retOut X223 hx Bd.returns rfl (Or.inr (Or.inr (Or.inr (Or.inr ⟨rfl, rfl, rfl⟩)))) (hb hby d7_36) hr
  · show Q7 Z a b v1 v2 v3 v4 q5 v6 d7 q8 h0 n0 _ T223.heap _
    exact ⟨rfl, N223, K225, F235, Fx223_0, Fx223_1, Fx223_2, Fx223_3, Fx223_4, Fx223_5, Fx223_6, Fx223_7⟩
theorem d5_0 : decode prog_34_method_18_code 0 = .ok (.aload_n 0, 1) := by decide +kernel
theorem d5_1 : decode prog_34_method_18_code 1 = .ok (.getfield 37, 3) := by decide +kernel
theorem d5_4 : decode prog_34_method_18_code 4 = .ok (.lreturn, 1) := by decide +kernel
theorem ef_5 (m : MethodId) (x0 : Addr) : entryFrame m #[(.ref x0)] 1 = mkF m 0 #[.val (.ref x0)] [] := by first | (simp [entryFrame, mkF, argsToLocals, Value.category]; done) | rfl
def Q5 (Z : State) (a : Addr) (q8 : Int64) (h0 : Heap) (n0 : Nat) (v : Option Value) (h : Heap) (L : List Loc) : Prop := v = some (.long q8) ∧ Fr n0 L ∧ h = h0
set_option maxRecDepth 65536 in
set_option maxHeartbeats 40000000 in
theorem rm5 (l : Launch) (Z : State) (a0 : Array Value) (hw : ∀ d ∈ tables_1, d.before a0 Z = true) (ws : List Jvm.Cond) (a : Addr) (q8 : Int64) (h0 : Heap) (n0 : Nat) (Z0 : n0 ≤ h0.size) (F1 : Fld Z h0 a "com/example/pen_over_wire/penoverwire/model/User" "sessionEpoch" "J" (.long q8)) :
    MetFree l (⟨"com/example/pen_over_wire/penoverwire/model/User", "sessionEpoch", "()J"⟩ : MethodName) (head1 (Jvm.Cond.code (⟨"com/example/pen_over_wire/penoverwire/model/User", "sessionEpoch", "()J"⟩ : MethodName) prog_34_method_18_code 1 (some .long) :: ws) ({ frames := 0, cells := 0, slots := 0, locals := 0 } : Room)) (fun aa U => aa = #[(.ref a)] ∧ Z.Warmed39 U.vm ∧ U.heap = h0) (fun _ _ _ _ _ => True) (fun _ U o U' => ∃ v L, o = .returned v ∧ Q5 Z a q8 h0 n0 v U'.heap L ∧ FrameEnd U o U' L ({ frames := 0, cells := 0, slots := 0, locals := 0 } : Room).cells ({ frames := 0, cells := 0, slots := 0, locals := 0 } : Room).slots) := by
  refine MetFree.of_bodySF (plainFor_of_name pn_1) hisR ?_
  intro p e s m args below meth c s₁ Bd hml0 hP hK
  obtain ⟨rfl, hZ, hh⟩ := hP
  have hx := Bd.exec
  have hby := Bd.bytes
  have hml : c.maxLocals = 1 := hml0
  have hown : s.vm.findClass "com/example/pen_over_wire/penoverwire/model/User" = some m.cls := findClass_of_methodNamed Bd.named
  have hnm := (name_of_methodNamed Bd.named Bd.method).1
  have X0 : Stand p l e ({ frames := 0, cells := 0, slots := 0, locals := 0 } : Room) s m #[(.ref a)] below meth c s₁ [] 0 0 := Stand.of_body Bd
  have e0 : s₁.heap = h0 := by rw [← hh, Bd.state]; rfl
  have N0 := Fr.nil n0
  have pre0 : ∀ t, Steps p.tables e below (s₁.setTop (mkF m 0 #[.val (.ref a)] [])) t → Steps p.tables e below (s₁.setTop (entryFrame m #[(.ref a)] 1)) t := fun t k => castTop (ef_5 m a) k
  have k238 : ∀ t, Steps p.tables e below (s₁.setTop (mkF m 1 #[.val (.ref a)] [(.ref a)])) t → Steps p.tables e below (s₁.setTop (entryFrame m #[(.ref a)] 1)) t := fun t k => pre0 t (by
    show Steps p.tables e below (s₁.setTop (mkF m 0 #[.val (.ref a)] [])) _
    refine XS.aloadN X0.here hx rfl (hb hby d5_0) rfl rfl ?_
    exact k)
  obtain ⟨T239, X239, e239, st239⟩ := getF X0 hx hZ hown (host := "") (Or.inl (hw _ (List.mem_of_getElem? (i := 36) rfl))) Via.refl e0 F1 (g := (mkF m 1 #[.val (.ref a)] [(.ref a)])) rfl rfl (hb hby d5_1)
  have k240 : ∀ t, Steps p.tables e below (T239.setTop (mkF m 4 #[.val (.ref a)] [(.long q8)])) t → Steps p.tables e below (s₁.setTop (entryFrame m #[(.ref a)] 1)) t := fun t k => k238 t (st239 t k)
  obtain ⟨fs, hr, hrun, hended, hW, hsame⟩ := X239.leave (v := some (.long q8)) (fun h => by rw [Bd.returns] at h; cases h)
  refine ⟨_, _, k240 _ ?_, hrun, hended, _, _, rfl, ?_, ⟨_, rfl⟩, hW, hsame.mono (by decide) (by decide)⟩
  · show Steps p.tables e below (T239.setTop (mkF m 4 #[.val (.ref a)] [(.long q8)])) _
    exact retOut X239 hx Bd.returns rfl (Or.inr (Or.inl ⟨rfl, rfl, _, rfl⟩)) (hb hby d5_4) hr
  · show Q5 Z a q8 h0 n0 _ T239.heap _
    rw [e239]
    exact ⟨rfl, N0, rfl⟩
theorem d4_0 : decode prog_34_method_6_code 0 = .ok (.aload_n 0, 1) := by decide +kernel
theorem d4_1 : decode prog_34_method_6_code 1 = .ok (.getfield 37, 3) := by decide +kernel
theorem d4_4 : decode prog_34_method_6_code 4 = .ok (.lload_n 1, 1) := by decide +kernel
theorem d4_5 : decode prog_34_method_6_code 5 = .ok (.lcmp, 1) := by decide +kernel
theorem d4_6 : decode prog_34_method_6_code 6 = .ok (.ifCond .ne 7, 3) := by decide +kernel
theorem d4_9 : decode prog_34_method_6_code 9 = .ok (.iconst 1, 1) := by decide +kernel
theorem d4_10 : decode prog_34_method_6_code 10 = .ok (.goto 4, 3) := by decide +kernel
theorem d4_13 : decode prog_34_method_6_code 13 = .ok (.iconst 0, 1) := by decide +kernel
theorem d4_14 : decode prog_34_method_6_code 14 = .ok (.ireturn, 1) := by decide +kernel
theorem ef_4 (m : MethodId) (x0 : Addr) (x1 : Int64) : entryFrame m #[(.ref x0), (.long x1)] 3 = mkF m 0 #[.val (.ref x0), .val (.long x1), .second] [] := by first | (simp [entryFrame, mkF, argsToLocals, Value.category]; done) | rfl
def Q4 (Z : State) (a : Addr) (p1 : Int64) (q8 : Int64) (h0 : Heap) (n0 : Nat) (v : Option Value) (h : Heap) (L : List Loc) : Prop := v = some (.int (own_ks q8 p1)) ∧ Fr n0 L ∧ h = h0
set_option maxRecDepth 65536 in
set_option maxHeartbeats 40000000 in
theorem rm4 (l : Launch) (Z : State) (a0 : Array Value) (hw : ∀ d ∈ tables_1, d.before a0 Z = true) (ws : List Jvm.Cond) (a : Addr) (p1 : Int64) (q8 : Int64) (h0 : Heap) (n0 : Nat) (Z0 : n0 ≤ h0.size) (F1 : Fld Z h0 a "com/example/pen_over_wire/penoverwire/model/User" "sessionEpoch" "J" (.long q8)) :
    MetFree l (⟨"com/example/pen_over_wire/penoverwire/model/User", "keepsSessionOf", "(J)Z"⟩ : MethodName) (head1 (Jvm.Cond.code (⟨"com/example/pen_over_wire/penoverwire/model/User", "keepsSessionOf", "(J)Z"⟩ : MethodName) prog_34_method_6_code 3 (some .boolean) :: ws) ({ frames := 0, cells := 0, slots := 0, locals := 0 } : Room)) (fun aa U => aa = #[(.ref a), (.long p1)] ∧ Z.Warmed39 U.vm ∧ U.heap = h0) (fun _ _ _ _ _ => True) (fun _ U o U' => ∃ v L, o = .returned v ∧ Q4 Z a p1 q8 h0 n0 v U'.heap L ∧ FrameEnd U o U' L ({ frames := 0, cells := 0, slots := 0, locals := 0 } : Room).cells ({ frames := 0, cells := 0, slots := 0, locals := 0 } : Room).slots) := by
  refine MetFree.of_bodySF (plainFor_of_name pn_1) hisR ?_
  intro p e s m args below meth c s₁ Bd hml0 hP hK
  obtain ⟨rfl, hZ, hh⟩ := hP
  have hx := Bd.exec
  have hby := Bd.bytes
  have hml : c.maxLocals = 3 := hml0
  have hown : s.vm.findClass "com/example/pen_over_wire/penoverwire/model/User" = some m.cls := findClass_of_methodNamed Bd.named
  have hnm := (name_of_methodNamed Bd.named Bd.method).1
  have X0 : Stand p l e ({ frames := 0, cells := 0, slots := 0, locals := 0 } : Room) s m #[(.ref a), (.long p1)] below meth c s₁ [] 0 0 := Stand.of_body Bd
  have e0 : s₁.heap = h0 := by rw [← hh, Bd.state]; rfl
  have N0 := Fr.nil n0
  have pre0 : ∀ t, Steps p.tables e below (s₁.setTop (mkF m 0 #[.val (.ref a), .val (.long p1), .second] [])) t → Steps p.tables e below (s₁.setTop (entryFrame m #[(.ref a), (.long p1)] 3)) t := fun t k => castTop (ef_4 m a p1) k
  have k242 : ∀ t, Steps p.tables e below (s₁.setTop (mkF m 1 #[.val (.ref a), .val (.long p1), .second] [(.ref a)])) t → Steps p.tables e below (s₁.setTop (entryFrame m #[(.ref a), (.long p1)] 3)) t := fun t k => pre0 t (by
    show Steps p.tables e below (s₁.setTop (mkF m 0 #[.val (.ref a), .val (.long p1), .second] [])) _
    refine XS.aloadN X0.here hx rfl (hb hby d4_0) rfl rfl ?_
    exact k)
  obtain ⟨T243, X243, e243, st243⟩ := getF X0 hx hZ hown (host := "") (Or.inl (hw _ (List.mem_of_getElem? (i := 36) rfl))) Via.refl e0 F1 (g := (mkF m 1 #[.val (.ref a), .val (.long p1), .second] [(.ref a)])) rfl rfl (hb hby d4_1)
  have k244 : ∀ t, Steps p.tables e below (T243.setTop (mkF m 4 #[.val (.ref a), .val (.long p1), .second] [(.long q8)])) t → Steps p.tables e below (s₁.setTop (entryFrame m #[(.ref a), (.long p1)] 3)) t := fun t k => k242 t (st243 t k)
  have k245 : ∀ t, Steps p.tables e below (T243.setTop (mkF m 6 #[.val (.ref a), .val (.long p1), .second] [(.int (lcmpW q8 p1))])) t → Steps p.tables e below (s₁.setTop (entryFrame m #[(.ref a), (.long p1)] 3)) t := fun t k => k244 t (by
    show Steps p.tables e below (T243.setTop (mkF m 4 #[.val (.ref a), .val (.long p1), .second] [(.long q8)])) _
    refine XS.lloadN X243.here hx rfl (hb hby d4_4) rfl ?_
    show Steps p.tables e below (T243.setTop (mkF m 5 #[.val (.ref a), .val (.long p1), .second] [(.long p1), (.long q8)])) _
    refine XS.lcmp X243.here hx rfl (hb hby d4_5) rfl ?_
    exact k)
  by_cases hc246 : (lcmpW q8 p1) = (0 : Int32)
  · have k247 : ∀ t, Steps p.tables e below (T243.setTop (mkF m 14 #[.val (.ref a), .val (.long p1), .second] [(.int (1 : Int32))])) t → Steps p.tables e below (s₁.setTop (entryFrame m #[(.ref a), (.long p1)] 3)) t := fun t k => k245 t (by
      show Steps p.tables e below (T243.setTop (mkF m 6 #[.val (.ref a), .val (.long p1), .second] [(.int (lcmpW q8 p1))])) _
      refine XS.ifNo X243.here hx rfl (hb hby d4_6) rfl ((if0 _ _).trans (teq hc246).2) ?_
      show Steps p.tables e below (T243.setTop (mkF m 9 #[.val (.ref a), .val (.long p1), .second] [])) _
      refine XS.iconst X243.here hx rfl (hb hby d4_9) ?_
      show Steps p.tables e below (T243.setTop (mkF m 10 #[.val (.ref a), .val (.long p1), .second] [(.int (1 : Int32))])) _
      refine XS.goto X243.here hx rfl (pc0 := 10) (pc' := 14) rfl (hb hby d4_10) (by decide) (by decide) ?_
      exact k)
    obtain ⟨fs, hr, hrun, hended, hW, hsame⟩ := X243.leave (v := some (.int (1 : Int32))) (fun h => by rw [Bd.returns] at h; cases h)
    refine ⟨_, _, k247 _ ?_, hrun, hended, _, _, rfl, ?_, ⟨_, rfl⟩, hW, hsame.mono (by decide) (by decide)⟩
    · show Steps p.tables e below (T243.setTop (mkF m 14 #[.val (.ref a), .val (.long p1), .second] [(.int (1 : Int32))])) _
      exact retN X243 hx (t := .boolean) Bd.returns (by simp) (hb hby d4_14) hr
    · show Q4 Z a p1 q8 h0 n0 _ T243.heap _
      rw [e243]
      exact ⟨congrArg (fun z => some (Value.int z)) (show ((1 : Int32) : Int32) = own_ks q8 p1 by unfold own_ks; simp only [if_pos hc246]), N0, rfl⟩
  · have k249 : ∀ t, Steps p.tables e below (T243.setTop (mkF m 14 #[.val (.ref a), .val (.long p1), .second] [(.int (0 : Int32))])) t → Steps p.tables e below (s₁.setTop (entryFrame m #[(.ref a), (.long p1)] 3)) t := fun t k => k245 t (by
      show Steps p.tables e below (T243.setTop (mkF m 6 #[.val (.ref a), .val (.long p1), .second] [(.int (lcmpW q8 p1))])) _
      refine XS.ifYes X243.here hx rfl (pc0 := 6) (pc' := 13) rfl (hb hby d4_6) rfl ((if0 _ _).trans (feq hc246).2) (by decide) (by decide) ?_
      show Steps p.tables e below (T243.setTop (mkF m 13 #[.val (.ref a), .val (.long p1), .second] [])) _
      refine XS.iconst X243.here hx rfl (hb hby d4_13) ?_
      exact k)
    obtain ⟨fs, hr, hrun, hended, hW, hsame⟩ := X243.leave (v := some (.int (0 : Int32))) (fun h => by rw [Bd.returns] at h; cases h)
    refine ⟨_, _, k249 _ ?_, hrun, hended, _, _, rfl, ?_, ⟨_, rfl⟩, hW, hsame.mono (by decide) (by decide)⟩
    · show Steps p.tables e below (T243.setTop (mkF m 14 #[.val (.ref a), .val (.long p1), .second] [(.int (0 : Int32))])) _
      exact retN X243 hx (t := .boolean) Bd.returns (by simp) (hb hby d4_14) hr
    · show Q4 Z a p1 q8 h0 n0 _ T243.heap _
      rw [e243]
      exact ⟨congrArg (fun z => some (Value.int z)) (show ((0 : Int32) : Int32) = own_ks q8 p1 by unfold own_ks; simp only [if_neg hc246]), N0, rfl⟩
theorem pn_2 : plainName "com/example/pen_over_wire/penoverwire/model/UserKeepsSessionOfPinLaw" = true := by first | (simp [plainName, overriddenIn]; done) | decide +kernel
theorem pd_2 : parseMethodDescriptor "(J)Z" = some ⟨[.long], some .boolean⟩ := by decide +kernel
theorem pd_3 : parseMethodDescriptor "()J" = some ⟨[], some .long⟩ := by decide +kernel
theorem pd_4 : parseMethodDescriptor "()Lcom/example/pen_over_wire/penoverwire/model/User;" = some ⟨[], some (.object "com/example/pen_over_wire/penoverwire/model/User")⟩ := by decide +kernel
theorem ef_0 (m : MethodId) (x0 : Int64) (x1 : Int64) (x2 : Int32) : entryFrame m #[(.long x0), (.long x1), (.int x2)] maxLocals = mkF m 0 #[.val (.long x0), .second, .val (.long x1), .second, .val (.int x2), .unset, .unset, .unset, .unset, .unset, .unset, .unset, .unset, .unset, .unset] [] := by first | (simp [entryFrame, mkF, argsToLocals, Value.category, maxLocals]; done) | rfl
def Q0 (Z : State) (p0 : Int64) (p1 : Int64) (p2 : Int32) (h0 : Heap) (n0 : Nat) (v : Option Value) (h : Heap) (L : List Loc) : Prop := v = some (.int 1) ∧ Fr n0 L
set_option maxRecDepth 65536 in
set_option maxHeartbeats 40000000 in
theorem rm0 (l : Launch) (Z : State) (a0 : Array Value) (hw : ∀ d ∈ tables_1, d.before a0 Z = true) (ws : List Jvm.Cond) (p0 : Int64) (p1 : Int64) (p2 : Int32) (h0 : Heap) (n0 : Nat) (Z0 : n0 ≤ h0.size) :
    MetFree l x (head1 (Jvm.Cond.code x code maxLocals ret :: ws) room_1) (fun aa U => aa = #[(.long p0), (.long p1), (.int p2)] ∧ Z.Warmed39 U.vm ∧ U.heap = h0) (fun _ _ _ _ _ => True) (fun _ U o U' => ∃ v L, o = .returned v ∧ Q0 Z p0 p1 p2 h0 n0 v U'.heap L ∧ ReturnedEndW U o U' L room_1.cells room_1.slots) := by
  refine MetFree.of_bodySF (plainFor_of_name pn_2) hisR ?_
  intro p e s m args below meth c s₁ Bd hml0 hP hK
  obtain ⟨rfl, hZ, hh⟩ := hP
  have hx := Bd.exec
  have hby := Bd.bytes
  have hml : c.maxLocals = 15 := hml0
  have hown : s.vm.findClass "com/example/pen_over_wire/penoverwire/model/UserKeepsSessionOfPinLaw" = some m.cls := findClass_of_methodNamed Bd.named
  have hnm := (name_of_methodNamed Bd.named Bd.method).1
  have X0 : Stand p l e room_1 s m #[(.long p0), (.long p1), (.int p2)] below meth c s₁ [] 0 0 := Stand.of_body Bd
  have e0 : s₁.heap = h0 := by rw [← hh, Bd.state]; rfl
  have N0 := Fr.nil n0
  have pre0 : ∀ t, Steps p.tables e below (s₁.setTop (mkF m 0 #[.val (.long p0), .second, .val (.long p1), .second, .val (.int p2), .unset, .unset, .unset, .unset, .unset, .unset, .unset, .unset, .unset, .unset] [])) t → Steps p.tables e below (s₁.setTop (entryFrame m #[(.long p0), (.long p1), (.int p2)] maxLocals)) t := fun t k => castTop (ef_0 m p0 p1 p2) k
  have k251 : ∀ t, Steps p.tables e below (s₁.setTop (mkF m 4 #[.val (.long p0), .second, .val (.long p1), .second, .val (.int p2), .unset, .unset, .unset, .unset, .unset, .unset, .unset, .unset, .unset, .unset] [(.int (p2 &&& (1 : Int32)))])) t → Steps p.tables e below (s₁.setTop (entryFrame m #[(.long p0), (.long p1), (.int p2)] maxLocals)) t := fun t k => pre0 t (by
    show Steps p.tables e below (s₁.setTop (mkF m 0 #[.val (.long p0), .second, .val (.long p1), .second, .val (.int p2), .unset, .unset, .unset, .unset, .unset, .unset, .unset, .unset, .unset, .unset] [])) _
    refine XS.iload X0.here hx rfl (hb hby at_0) rfl ?_
    show Steps p.tables e below (s₁.setTop (mkF m 2 #[.val (.long p0), .second, .val (.long p1), .second, .val (.int p2), .unset, .unset, .unset, .unset, .unset, .unset, .unset, .unset, .unset, .unset] [(.int p2)])) _
    refine XS.iconst X0.here hx rfl (hb hby at_2) ?_
    show Steps p.tables e below (s₁.setTop (mkF m 3 #[.val (.long p0), .second, .val (.long p1), .second, .val (.int p2), .unset, .unset, .unset, .unset, .unset, .unset, .unset, .unset, .unset, .unset] [(.int (1 : Int32)), (.int p2)])) _
    refine XS.iand X0.here hx rfl (hb hby at_3) rfl ?_
    exact k)
  have k253 : ∀ t, Steps p.tables e below (s₁.setTop (mkF m 12 #[.val (.long p0), .second, .val (.long p1), .second, .val (.int p2), .unset, .unset, .unset, .unset, .unset, .unset, .unset, .unset, .unset, .unset] [(.long (if (p2 &&& (1 : Int32)) = (0 : Int32) then p1 else p0))])) t → Steps p.tables e below (s₁.setTop (entryFrame m #[(.long p0), (.long p1), (.int p2)] maxLocals)) t := fun t k => k251 t (by
    by_cases hq252 : (p2 &&& (1 : Int32)) = (0 : Int32)
    · simp only [if_pos hq252] at k
      show Steps p.tables e below (s₁.setTop (mkF m 4 #[.val (.long p0), .second, .val (.long p1), .second, .val (.int p2), .unset, .unset, .unset, .unset, .unset, .unset, .unset, .unset, .unset, .unset] [(.int (p2 &&& (1 : Int32)))])) _
      refine XS.ifYes X0.here hx rfl (pc0 := 4) (pc' := 11) rfl (hb hby at_4) rfl ((if0 _ _).trans (teq hq252).1) (by decide) (by decide) ?_
      show Steps p.tables e below (s₁.setTop (mkF m 11 #[.val (.long p0), .second, .val (.long p1), .second, .val (.int p2), .unset, .unset, .unset, .unset, .unset, .unset, .unset, .unset, .unset, .unset] [])) _
      refine XS.lloadN X0.here hx rfl (hb hby at_11) rfl ?_
      exact k
    · simp only [if_neg hq252] at k
      show Steps p.tables e below (s₁.setTop (mkF m 4 #[.val (.long p0), .second, .val (.long p1), .second, .val (.int p2), .unset, .unset, .unset, .unset, .unset, .unset, .unset, .unset, .unset, .unset] [(.int (p2 &&& (1 : Int32)))])) _
      refine XS.ifNo X0.here hx rfl (hb hby at_4) rfl ((if0 _ _).trans (feq hq252).1) ?_
      show Steps p.tables e below (s₁.setTop (mkF m 7 #[.val (.long p0), .second, .val (.long p1), .second, .val (.int p2), .unset, .unset, .unset, .unset, .unset, .unset, .unset, .unset, .unset, .unset] [])) _
      refine XS.lloadN X0.here hx rfl (hb hby at_7) rfl ?_
      show Steps p.tables e below (s₁.setTop (mkF m 8 #[.val (.long p0), .second, .val (.long p1), .second, .val (.int p2), .unset, .unset, .unset, .unset, .unset, .unset, .unset, .unset, .unset, .unset] [(.long p0)])) _
      refine XS.goto X0.here hx rfl (pc0 := 8) (pc' := 12) rfl (hb hby at_8) (by decide) (by decide) ?_
      exact k)
  have k254 : ∀ t, Steps p.tables e below (s₁.setTop (mkF m 14 #[.val (.long p0), .second, .val (.long p1), .second, .val (.int p2), .val (.long (if (p2 &&& (1 : Int32)) = (0 : Int32) then p1 else p0)), .second, .unset, .unset, .unset, .unset, .unset, .unset, .unset, .unset] [])) t → Steps p.tables e below (s₁.setTop (entryFrame m #[(.long p0), (.long p1), (.int p2)] maxLocals)) t := fun t k => k253 t (by
    show Steps p.tables e below (s₁.setTop (mkF m 12 #[.val (.long p0), .second, .val (.long p1), .second, .val (.int p2), .unset, .unset, .unset, .unset, .unset, .unset, .unset, .unset, .unset, .unset] [(.long (if (p2 &&& (1 : Int32)) = (0 : Int32) then p1 else p0))])) _
    refine XS.lstore X0.here hx rfl (hb hby at_12) rfl (l' := #[.val (.long p0), .second, .val (.long p1), .second, .val (.int p2), .val (.long (if (p2 &&& (1 : Int32)) = (0 : Int32) then p1 else p0)), .second, .unset, .unset, .unset, .unset, .unset, .unset, .unset, .unset]) rfl ?_
    exact k)
  obtain ⟨T255, h255, X255, e255, E255, A255, D255, -, st255⟩ := newO X0 hx hZ hown (hw _ (List.mem_of_getElem? (i := 0) rfl)) (hw _ (List.mem_of_getElem? (i := 1) rfl)) (hw _ (List.mem_of_getElem? (i := 2) rfl)) e0 (g := (mkF m 14 #[.val (.long p0), .second, .val (.long p1), .second, .val (.int p2), .val (.long (if (p2 &&& (1 : Int32)) = (0 : Int32) then p1 else p0)), .second, .unset, .unset, .unset, .unset, .unset, .unset, .unset, .unset] [])) rfl (hb hby at_14) (by decide) (by decide)
  obtain ⟨b255, g255⟩ : ∃ z, z = h0.size := ⟨_, rfl⟩
  rw [← g255] at A255 D255 st255
  have g_b255 : n0 ≤ b255 := Nat.le_trans Z0 (Nat.le_of_eq g255.symm)
  have Z256 : n0 ≤ h255.size := Nat.le_trans Z0 E255.1
  have F257 : Fld Z h255 b255 "com/example/pen_over_wire/penoverwire/model/User" "name" "Ljava/lang/String;" .null := D255 (Or.inr (hw _ (List.mem_of_getElem? (i := 23) rfl))) (ty := (.object "java/lang/String")) (by decide)
  have F258 : Fld Z h255 b255 "com/example/pen_over_wire/penoverwire/model/User" "role" "Lcom/example/pen_over_wire/penoverwire/model/Role;" .null := D255 (Or.inr (hw _ (List.mem_of_getElem? (i := 25) rfl))) (ty := (.object "com/example/pen_over_wire/penoverwire/model/Role")) (by decide)
  have F259 : Fld Z h255 b255 "com/example/pen_over_wire/penoverwire/model/User" "password" "Lcom/example/pen_over_wire/penoverwire/crypto/PasswordHash;" .null := D255 (Or.inr (hw _ (List.mem_of_getElem? (i := 27) rfl))) (ty := (.object "com/example/pen_over_wire/penoverwire/crypto/PasswordHash")) (by decide)
  have F260 : Fld Z h255 b255 "com/example/pen_over_wire/penoverwire/model/User" "totpSecret" "[B" .null := D255 (Or.inr (hw _ (List.mem_of_getElem? (i := 29) rfl))) (ty := (.array .byte)) (by decide)
  have F261 : Fld Z h255 b255 "com/example/pen_over_wire/penoverwire/model/User" "lastOtpStep" "J" (.long (0 : Int64)) := D255 (Or.inr (hw _ (List.mem_of_getElem? (i := 31) rfl))) (ty := .long) (by decide)
  have F262 : Fld Z h255 b255 "com/example/pen_over_wire/penoverwire/model/User" "failedLogins" "Lcom/example/pen_over_wire/penoverwire/model/FailedAttempts;" .null := D255 (Or.inr (hw _ (List.mem_of_getElem? (i := 33) rfl))) (ty := (.object "com/example/pen_over_wire/penoverwire/model/FailedAttempts")) (by decide)
  have F263 : Fld Z h255 b255 "com/example/pen_over_wire/penoverwire/model/User" "disabled" "Z" (.int (0 : Int32)) := D255 (Or.inr (hw _ (List.mem_of_getElem? (i := 35) rfl))) (ty := .boolean) (by decide)
  have F264 : Fld Z h255 b255 "com/example/pen_over_wire/penoverwire/model/User" "sessionEpoch" "J" (.long (0 : Int64)) := D255 (Or.inr (hw _ (List.mem_of_getElem? (i := 37) rfl))) (ty := .long) (by decide)
  have k265 : ∀ t, Steps p.tables e below (T255.setTop (mkF m 17 #[.val (.long p0), .second, .val (.long p1), .second, .val (.int p2), .val (.long (if (p2 &&& (1 : Int32)) = (0 : Int32) then p1 else p0)), .second, .unset, .unset, .unset, .unset, .unset, .unset, .unset, .unset] [(.ref b255)])) t → Steps p.tables e below (s₁.setTop (entryFrame m #[(.long p0), (.long p1), (.int p2)] maxLocals)) t := fun t k => k254 t (st255 t k)
  have k266 : ∀ t, Steps p.tables e below (T255.setTop (mkF m 18 #[.val (.long p0), .second, .val (.long p1), .second, .val (.int p2), .val (.long (if (p2 &&& (1 : Int32)) = (0 : Int32) then p1 else p0)), .second, .unset, .unset, .unset, .unset, .unset, .unset, .unset, .unset] [(.ref b255), (.ref b255)])) t → Steps p.tables e below (s₁.setTop (entryFrame m #[(.long p0), (.long p1), (.int p2)] maxLocals)) t := fun t k => k265 t (by
    show Steps p.tables e below (T255.setTop (mkF m 17 #[.val (.long p0), .second, .val (.long p1), .second, .val (.int p2), .val (.long (if (p2 &&& (1 : Int32)) = (0 : Int32) then p1 else p0)), .second, .unset, .unset, .unset, .unset, .unset, .unset, .unset, .unset] [(.ref b255)])) _
    refine XS.dup X255.here hx rfl (hb hby at_17) rfl rfl ?_
    exact k)
  obtain ⟨as267, T267, h267, kk267, X267, e267, E267, hS267, hk267, hZ267, hown267, st267⟩ := ldcS (s := s) (vm0 := s.vm) X255 hx hZ hown (hw _ (List.mem_of_getElem? (i := 3) rfl)) (own_wS hw) e255 (k0 := 0) ((State.WarmedH.refl s).since 0) (Nat.zero_le _) (g := (mkF m 18 #[.val (.long p0), .second, .val (.long p1), .second, .val (.int p2), .val (.long (if (p2 &&& (1 : Int32)) = (0 : Int32) then p1 else p0)), .second, .unset, .unset, .unset, .unset, .unset, .unset, .unset, .unset] [(.ref b255), (.ref b255)])) rfl (hb hby at_18) (n := 4) (by first | decide | simp) (by decide) (by decide) (by decide)
  have Z268 : n0 ≤ h267.size := Nat.le_trans Z256 E267.1
  have F269 : Exa Z h267 b255 "com/example/pen_over_wire/penoverwire/model/User" := (A255).ext E267
  have F270 : Fld Z h267 b255 "com/example/pen_over_wire/penoverwire/model/User" "name" "Ljava/lang/String;" .null := (F257).ext E267
  have F271 : Fld Z h267 b255 "com/example/pen_over_wire/penoverwire/model/User" "role" "Lcom/example/pen_over_wire/penoverwire/model/Role;" .null := (F258).ext E267
  have F272 : Fld Z h267 b255 "com/example/pen_over_wire/penoverwire/model/User" "password" "Lcom/example/pen_over_wire/penoverwire/crypto/PasswordHash;" .null := (F259).ext E267
  have F273 : Fld Z h267 b255 "com/example/pen_over_wire/penoverwire/model/User" "totpSecret" "[B" .null := (F260).ext E267
  have F274 : Fld Z h267 b255 "com/example/pen_over_wire/penoverwire/model/User" "lastOtpStep" "J" (.long (0 : Int64)) := (F261).ext E267
  have F275 : Fld Z h267 b255 "com/example/pen_over_wire/penoverwire/model/User" "failedLogins" "Lcom/example/pen_over_wire/penoverwire/model/FailedAttempts;" .null := (F262).ext E267
  have F276 : Fld Z h267 b255 "com/example/pen_over_wire/penoverwire/model/User" "disabled" "Z" (.int (0 : Int32)) := (F263).ext E267
  have F277 : Fld Z h267 b255 "com/example/pen_over_wire/penoverwire/model/User" "sessionEpoch" "J" (.long (0 : Int64)) := (F264).ext E267
  have k278 : ∀ t, Steps p.tables e below (T267.setTop (mkF m 20 #[.val (.long p0), .second, .val (.long p1), .second, .val (.int p2), .val (.long (if (p2 &&& (1 : Int32)) = (0 : Int32) then p1 else p0)), .second, .unset, .unset, .unset, .unset, .unset, .unset, .unset, .unset] [(.ref as267), (.ref b255), (.ref b255)])) t → Steps p.tables e below (s₁.setTop (entryFrame m #[(.long p0), (.long p1), (.int p2)] maxLocals)) t := fun t k => k266 t (st267 t k)
  have k279 : ∀ t, Steps p.tables e below (T267.setTop (mkF m 23 #[.val (.long p0), .second, .val (.long p1), .second, .val (.int p2), .val (.long (if (p2 &&& (1 : Int32)) = (0 : Int32) then p1 else p0)), .second, .unset, .unset, .unset, .unset, .unset, .unset, .unset, .unset] [(.int (0 : Int32)), .null, .null, (.ref as267), (.ref b255), (.ref b255)])) t → Steps p.tables e below (s₁.setTop (entryFrame m #[(.long p0), (.long p1), (.int p2)] maxLocals)) t := fun t k => k278 t (by
    show Steps p.tables e below (T267.setTop (mkF m 20 #[.val (.long p0), .second, .val (.long p1), .second, .val (.int p2), .val (.long (if (p2 &&& (1 : Int32)) = (0 : Int32) then p1 else p0)), .second, .unset, .unset, .unset, .unset, .unset, .unset, .unset, .unset] [(.ref as267), (.ref b255), (.ref b255)])) _
    refine XS.aconstNull X267.here hx rfl (hb hby at_20) ?_
    show Steps p.tables e below (T267.setTop (mkF m 21 #[.val (.long p0), .second, .val (.long p1), .second, .val (.int p2), .val (.long (if (p2 &&& (1 : Int32)) = (0 : Int32) then p1 else p0)), .second, .unset, .unset, .unset, .unset, .unset, .unset, .unset, .unset] [.null, (.ref as267), (.ref b255), (.ref b255)])) _
    refine XS.aconstNull X267.here hx rfl (hb hby at_21) ?_
    show Steps p.tables e below (T267.setTop (mkF m 22 #[.val (.long p0), .second, .val (.long p1), .second, .val (.int p2), .val (.long (if (p2 &&& (1 : Int32)) = (0 : Int32) then p1 else p0)), .second, .unset, .unset, .unset, .unset, .unset, .unset, .unset, .unset] [.null, .null, (.ref as267), (.ref b255), (.ref b255)])) _
    refine XS.iconst X267.here hx rfl (hb hby at_22) ?_
    exact k)
  obtain ⟨T280, h280, c280, X280, e280, E280, A280, st280⟩ := newP X267 hx hZ267 (hw _ (List.mem_of_getElem? (i := 6) rfl)) e267 (g := (mkF m 23 #[.val (.long p0), .second, .val (.long p1), .second, .val (.int p2), .val (.long (if (p2 &&& (1 : Int32)) = (0 : Int32) then p1 else p0)), .second, .unset, .unset, .unset, .unset, .unset, .unset, .unset, .unset] [(.int (0 : Int32)), .null, .null, (.ref as267), (.ref b255), (.ref b255)])) rfl (hb hby at_23) rfl (by decide) (cap := 0) (by decide) (by decide) (by decide) (by decide)
  obtain ⟨b280, g280⟩ : ∃ z, z = h267.size := ⟨_, rfl⟩
  rw [← g280] at A280 st280
  have ne281 : b255 ≠ b280 := Nat.ne_of_lt (Nat.lt_of_lt_of_le (F269).lt (Nat.le_of_eq g280.symm))
  have g_b280 : n0 ≤ b280 := Nat.le_trans Z268 (Nat.le_of_eq g280.symm)
  have Z282 : n0 ≤ h280.size := Nat.le_trans Z268 E280.1
  have F283 : Exa Z h280 b255 "com/example/pen_over_wire/penoverwire/model/User" := (F269).ext E280
  have F284 : Fld Z h280 b255 "com/example/pen_over_wire/penoverwire/model/User" "name" "Ljava/lang/String;" .null := (F270).ext E280
  have F285 : Fld Z h280 b255 "com/example/pen_over_wire/penoverwire/model/User" "role" "Lcom/example/pen_over_wire/penoverwire/model/Role;" .null := (F271).ext E280
  have F286 : Fld Z h280 b255 "com/example/pen_over_wire/penoverwire/model/User" "password" "Lcom/example/pen_over_wire/penoverwire/crypto/PasswordHash;" .null := (F272).ext E280
  have F287 : Fld Z h280 b255 "com/example/pen_over_wire/penoverwire/model/User" "totpSecret" "[B" .null := (F273).ext E280
  have F288 : Fld Z h280 b255 "com/example/pen_over_wire/penoverwire/model/User" "lastOtpStep" "J" (.long (0 : Int64)) := (F274).ext E280
  have F289 : Fld Z h280 b255 "com/example/pen_over_wire/penoverwire/model/User" "failedLogins" "Lcom/example/pen_over_wire/penoverwire/model/FailedAttempts;" .null := (F275).ext E280
  have F290 : Fld Z h280 b255 "com/example/pen_over_wire/penoverwire/model/User" "disabled" "Z" (.int (0 : Int32)) := (F276).ext E280
  have F291 : Fld Z h280 b255 "com/example/pen_over_wire/penoverwire/model/User" "sessionEpoch" "J" (.long (0 : Int64)) := (F277).ext E280
  have F292 : kk267 ≤ h280.size := Nat.le_trans hk267 E280.1
  have V280 : Arv Z h280 b280 c280 .byte (0 : Int32) [] (.int (0 : Int32)) := (Arv.new A280 (by decide)).pad (pad_rep [] (.int (0 : Int32)) 0)
  have k293 : ∀ t, Steps p.tables e below (T280.setTop (mkF m 25 #[.val (.long p0), .second, .val (.long p1), .second, .val (.int p2), .val (.long (if (p2 &&& (1 : Int32)) = (0 : Int32) then p1 else p0)), .second, .unset, .unset, .unset, .unset, .unset, .unset, .unset, .unset] [(.ref b280), .null, .null, (.ref as267), (.ref b255), (.ref b255)])) t → Steps p.tables e below (s₁.setTop (entryFrame m #[(.long p0), (.long p1), (.int p2)] maxLocals)) t := fun t k => k279 t (st280 t k)
  have k294 : ∀ t, Steps p.tables e below (T280.setTop (mkF m 29 #[.val (.long p0), .second, .val (.long p1), .second, .val (.int p2), .val (.long (if (p2 &&& (1 : Int32)) = (0 : Int32) then p1 else p0)), .second, .unset, .unset, .unset, .unset, .unset, .unset, .unset, .unset] [(.long p0), (.int (0 : Int32)), .null, (.long (0 : Int64)), (.ref b280), .null, .null, (.ref as267), (.ref b255), (.ref b255)])) t → Steps p.tables e below (s₁.setTop (entryFrame m #[(.long p0), (.long p1), (.int p2)] maxLocals)) t := fun t k => k293 t (by
    show Steps p.tables e below (T280.setTop (mkF m 25 #[.val (.long p0), .second, .val (.long p1), .second, .val (.int p2), .val (.long (if (p2 &&& (1 : Int32)) = (0 : Int32) then p1 else p0)), .second, .unset, .unset, .unset, .unset, .unset, .unset, .unset, .unset] [(.ref b280), .null, .null, (.ref as267), (.ref b255), (.ref b255)])) _
    refine XS.lconst X280.here hx rfl (hb hby at_25) ?_
    show Steps p.tables e below (T280.setTop (mkF m 26 #[.val (.long p0), .second, .val (.long p1), .second, .val (.int p2), .val (.long (if (p2 &&& (1 : Int32)) = (0 : Int32) then p1 else p0)), .second, .unset, .unset, .unset, .unset, .unset, .unset, .unset, .unset] [(.long (0 : Int64)), (.ref b280), .null, .null, (.ref as267), (.ref b255), (.ref b255)])) _
    refine XS.aconstNull X280.here hx rfl (hb hby at_26) ?_
    show Steps p.tables e below (T280.setTop (mkF m 27 #[.val (.long p0), .second, .val (.long p1), .second, .val (.int p2), .val (.long (if (p2 &&& (1 : Int32)) = (0 : Int32) then p1 else p0)), .second, .unset, .unset, .unset, .unset, .unset, .unset, .unset, .unset] [.null, (.long (0 : Int64)), (.ref b280), .null, .null, (.ref as267), (.ref b255), (.ref b255)])) _
    refine XS.iconst X280.here hx rfl (hb hby at_27) ?_
    show Steps p.tables e below (T280.setTop (mkF m 28 #[.val (.long p0), .second, .val (.long p1), .second, .val (.int p2), .val (.long (if (p2 &&& (1 : Int32)) = (0 : Int32) then p1 else p0)), .second, .unset, .unset, .unset, .unset, .unset, .unset, .unset, .unset] [(.int (0 : Int32)), .null, (.long (0 : Int64)), (.ref b280), .null, .null, (.ref as267), (.ref b255), (.ref b255)])) _
    refine XS.lloadN X280.here hx rfl (hb hby at_28) rfl ?_
    exact k)
  obtain ⟨_, _, ⟨T295, L295, kc295, ks295⟩, -, X295, ⟨Lc295, hQ295, l295, y295, z295⟩, st295⟩ := X280.specialBack hx (y := (⟨"com/example/pen_over_wire/penoverwire/model/User", "<init>", "(Ljava/lang/String;Lcom/example/pen_over_wire/penoverwire/model/Role;Lcom/example/pen_over_wire/penoverwire/crypto/PasswordHash;[BJLcom/example/pen_over_wire/penoverwire/model/FailedAttempts;ZJ)V"⟩ : MethodName)) rfl hown267 (mvT hZ267 (hw _ (List.mem_of_getElem? (i := 11) rfl))) (mvT hZ267 (hw _ (List.mem_of_getElem? (i := 12) rfl))) (mvT hZ267 (hw _ (List.mem_of_getElem? (i := 13) rfl))) (by decide) (backOf (W := 1) (rm1 l Z a0 hw [] b255 (Value.ref as267) Value.null Value.null (Value.ref b280) (0 : Int64) Value.null (0 : Int32) p0 h280 n0 Z282 rfl rfl rfl rfl rfl (Or.inl rfl) F284 F285 F286 F287 F288 F289 F290 F291 F283 g_b255) hZ267 (hw _ (List.mem_of_getElem? (i := 13) rfl)) (hw _ (List.mem_of_getElem? (i := 2) rfl)) (by decide) (by decide)) (g := (mkF m 29 #[.val (.long p0), .second, .val (.long p1), .second, .val (.int p2), .val (.long (if (p2 &&& (1 : Int32)) = (0 : Int32) then p1 else p0)), .second, .unset, .unset, .unset, .unset, .unset, .unset, .unset, .unset] [(.long p0), (.int (0 : Int32)), .null, (.long (0 : Int64)), (.ref b280), .null, .null, (.ref as267), (.ref b255), (.ref b255)])) rfl (by rw [hml]; rfl) (Steps.refl _) (a := b255) (argsL := [(.ref as267), .null, .null, (.ref b280), (.long (0 : Int64)), .null, (.int (0 : Int32)), (.long p0)]) (rest := [(.ref b255)]) (lenOf pd_1 rfl) rfl (by show 2 * 0 + _ ≤ _; exact Nat.le_of_eq rfl) (hb hby at_29) (fun _ _ => ⟨rfl, e280, (by decide : 4 + 0 ≤ _), (by decide : 16 + 0 ≤ _)⟩)
  dsimp only [Pt.U, Pt.locs, Pt.cells, Pt.slots] at X295 l295 y295 z295 st295 hQ295
  subst l295 y295 z295
  obtain ⟨rfl, Nq295, K295, Ax295, Fx295_0, Fx295_1, Fx295_2, Fx295_3, Fx295_4, Fx295_5, Fx295_6, Fx295_7⟩ := hQ295
  have N295 := Fr.app N0 Nq295
  have Z296 : n0 ≤ T295.heap.size := Nat.le_trans Z282 K295.1
  have F297 : Exa Z T295.heap b255 "com/example/pen_over_wire/penoverwire/model/User" := (F283).keep K295
  have F298 : kk267 ≤ T295.heap.size := Nat.le_trans F292 K295.1
  have F299 : Arv Z T295.heap b280 c280 .byte (0 : Int32) [] (.int (0 : Int32)) := (V280).keep K295 (ninS (Ne.symm ne281) nin0)
  have k300 : ∀ t, Steps p.tables e below (T295.setTop (mkF m 32 #[.val (.long p0), .second, .val (.long p1), .second, .val (.int p2), .val (.long (if (p2 &&& (1 : Int32)) = (0 : Int32) then p1 else p0)), .second, .unset, .unset, .unset, .unset, .unset, .unset, .unset, .unset] [(.ref b255)])) t → Steps p.tables e below (s₁.setTop (entryFrame m #[(.long p0), (.long p1), (.int p2)] maxLocals)) t := fun t k => k294 t (st295.trans k)
  have k301 : ∀ t, Steps p.tables e below (T295.setTop (mkF m 38 #[.val (.long p0), .second, .val (.long p1), .second, .val (.int p2), .val (.long (if (p2 &&& (1 : Int32)) = (0 : Int32) then p1 else p0)), .second, .val (.ref b255), .unset, .unset, .unset, .unset, .unset, .unset, .unset] [(.long (if (p2 &&& (1 : Int32)) = (0 : Int32) then p1 else p0)), (.ref b255)])) t → Steps p.tables e below (s₁.setTop (entryFrame m #[(.long p0), (.long p1), (.int p2)] maxLocals)) t := fun t k => k300 t (by
    show Steps p.tables e below (T295.setTop (mkF m 32 #[.val (.long p0), .second, .val (.long p1), .second, .val (.int p2), .val (.long (if (p2 &&& (1 : Int32)) = (0 : Int32) then p1 else p0)), .second, .unset, .unset, .unset, .unset, .unset, .unset, .unset, .unset] [(.ref b255)])) _
    refine XS.astore X295.here hx rfl (hb hby at_32) rfl rfl (l' := #[.val (.long p0), .second, .val (.long p1), .second, .val (.int p2), .val (.long (if (p2 &&& (1 : Int32)) = (0 : Int32) then p1 else p0)), .second, .val (.ref b255), .unset, .unset, .unset, .unset, .unset, .unset, .unset]) rfl ?_
    show Steps p.tables e below (T295.setTop (mkF m 34 #[.val (.long p0), .second, .val (.long p1), .second, .val (.int p2), .val (.long (if (p2 &&& (1 : Int32)) = (0 : Int32) then p1 else p0)), .second, .val (.ref b255), .unset, .unset, .unset, .unset, .unset, .unset, .unset] [])) _
    refine XS.aload X295.here hx rfl (hb hby at_34) rfl rfl ?_
    show Steps p.tables e below (T295.setTop (mkF m 36 #[.val (.long p0), .second, .val (.long p1), .second, .val (.int p2), .val (.long (if (p2 &&& (1 : Int32)) = (0 : Int32) then p1 else p0)), .second, .val (.ref b255), .unset, .unset, .unset, .unset, .unset, .unset, .unset] [(.ref b255)])) _
    refine XS.lload X295.here hx rfl (hb hby at_36) rfl ?_
    exact k)
  obtain ⟨cq302, kq302, q302a, q302b, q302c⟩ := isOf hZ267 rfl F297
  obtain ⟨_, _, ⟨T302, L302, kc302, ks302⟩, -, X302, ⟨Lc302, hQ302, l302, y302, z302⟩, st302⟩ := X295.virtualBack hx (y := (⟨"com/example/pen_over_wire/penoverwire/model/User", "keepsSessionOf", "(J)Z"⟩ : MethodName)) (z := (⟨"com/example/pen_over_wire/penoverwire/model/User", "keepsSessionOf", "(J)Z"⟩ : MethodName)) hown267 (mvT hZ267 (hw _ (List.mem_of_getElem? (i := 38) rfl))) (mvT hZ267 (hw _ (List.mem_of_getElem? (i := 39) rfl))) (notFace_of_selects (args := #[]) (mvT hZ267 (hw _ (List.mem_of_getElem? (i := 41) rfl)))) (mvT hZ267 (hw _ (List.mem_of_getElem? (i := 41) rfl))) (mvT hZ267 (hw _ (List.mem_of_getElem? (i := 40) rfl))) (by decide) (backOf (W := 0) (rm4 l Z a0 hw [] b255 (if (p2 &&& (1 : Int32)) = (0 : Int32) then p1 else p0) p0 T295.heap n0 Z296 Fx295_7) hZ267 (hw _ (List.mem_of_getElem? (i := 42) rfl)) (hw _ (List.mem_of_getElem? (i := 2) rfl)) (by decide) (by decide)) q302a q302c (g := (mkF m 38 #[.val (.long p0), .second, .val (.long p1), .second, .val (.int p2), .val (.long (if (p2 &&& (1 : Int32)) = (0 : Int32) then p1 else p0)), .second, .val (.ref b255), .unset, .unset, .unset, .unset, .unset, .unset, .unset] [(.long (if (p2 &&& (1 : Int32)) = (0 : Int32) then p1 else p0)), (.ref b255)])) rfl (by rw [hml]; rfl) (Steps.refl _) (argsL := [(.long (if (p2 &&& (1 : Int32)) = (0 : Int32) then p1 else p0))]) (rest := []) (lenOf pd_2 rfl) rfl (by show 2 * 0 + _ ≤ _; exact Nat.le_of_eq rfl) (hb hby at_38) (fun _ _ => ⟨rfl, rfl, (by decide : 4 + 0 ≤ _), (by decide : 16 + 0 ≤ _)⟩)
  dsimp only [Pt.U, Pt.locs, Pt.cells, Pt.slots] at X302 l302 y302 z302 st302 hQ302
  subst l302 y302 z302
  obtain ⟨rfl, Nq302, eq302⟩ := hQ302
  have N302 := Fr.app N295 Nq302
  have k303 : ∀ t, Steps p.tables e below (T302.setTop (mkF m 41 #[.val (.long p0), .second, .val (.long p1), .second, .val (.int p2), .val (.long (if (p2 &&& (1 : Int32)) = (0 : Int32) then p1 else p0)), .second, .val (.ref b255), .unset, .unset, .unset, .unset, .unset, .unset, .unset] [(.int (own_ks p0 (if (p2 &&& (1 : Int32)) = (0 : Int32) then p1 else p0)))])) t → Steps p.tables e below (s₁.setTop (entryFrame m #[(.long p0), (.long p1), (.int p2)] maxLocals)) t := fun t k => k301 t (st302.trans k)
  have k304 : ∀ t, Steps p.tables e below (T302.setTop (mkF m 45 #[.val (.long p0), .second, .val (.long p1), .second, .val (.int p2), .val (.long (if (p2 &&& (1 : Int32)) = (0 : Int32) then p1 else p0)), .second, .val (.ref b255), .unset, .unset, .unset, .unset, .unset, .unset, .unset] [(.int (lcmpW (if (p2 &&& (1 : Int32)) = (0 : Int32) then p1 else p0) p0)), (.int (own_ks p0 (if (p2 &&& (1 : Int32)) = (0 : Int32) then p1 else p0)))])) t → Steps p.tables e below (s₁.setTop (entryFrame m #[(.long p0), (.long p1), (.int p2)] maxLocals)) t := fun t k => k303 t (by
    show Steps p.tables e below (T302.setTop (mkF m 41 #[.val (.long p0), .second, .val (.long p1), .second, .val (.int p2), .val (.long (if (p2 &&& (1 : Int32)) = (0 : Int32) then p1 else p0)), .second, .val (.ref b255), .unset, .unset, .unset, .unset, .unset, .unset, .unset] [(.int (own_ks p0 (if (p2 &&& (1 : Int32)) = (0 : Int32) then p1 else p0)))])) _
    refine XS.lload X302.here hx rfl (hb hby at_41) rfl ?_
    show Steps p.tables e below (T302.setTop (mkF m 43 #[.val (.long p0), .second, .val (.long p1), .second, .val (.int p2), .val (.long (if (p2 &&& (1 : Int32)) = (0 : Int32) then p1 else p0)), .second, .val (.ref b255), .unset, .unset, .unset, .unset, .unset, .unset, .unset] [(.long (if (p2 &&& (1 : Int32)) = (0 : Int32) then p1 else p0)), (.int (own_ks p0 (if (p2 &&& (1 : Int32)) = (0 : Int32) then p1 else p0)))])) _
    refine XS.lloadN X302.here hx rfl (hb hby at_43) rfl ?_
    show Steps p.tables e below (T302.setTop (mkF m 44 #[.val (.long p0), .second, .val (.long p1), .second, .val (.int p2), .val (.long (if (p2 &&& (1 : Int32)) = (0 : Int32) then p1 else p0)), .second, .val (.ref b255), .unset, .unset, .unset, .unset, .unset, .unset, .unset] [(.long p0), (.long (if (p2 &&& (1 : Int32)) = (0 : Int32) then p1 else p0)), (.int (own_ks p0 (if (p2 &&& (1 : Int32)) = (0 : Int32) then p1 else p0)))])) _
    refine XS.lcmp X302.here hx rfl (hb hby at_44) rfl ?_
    exact k)
  have k306 : ∀ t, Steps p.tables e below (T302.setTop (mkF m 53 #[.val (.long p0), .second, .val (.long p1), .second, .val (.int p2), .val (.long (if (p2 &&& (1 : Int32)) = (0 : Int32) then p1 else p0)), .second, .val (.ref b255), .unset, .unset, .unset, .unset, .unset, .unset, .unset] [(.int (if (lcmpW (if (p2 &&& (1 : Int32)) = (0 : Int32) then p1 else p0) p0) = (0 : Int32) then (1 : Int32) else (0 : Int32))), (.int (own_ks p0 (if (p2 &&& (1 : Int32)) = (0 : Int32) then p1 else p0)))])) t → Steps p.tables e below (s₁.setTop (entryFrame m #[(.long p0), (.long p1), (.int p2)] maxLocals)) t := fun t k => k304 t (by
    by_cases hq305 : (lcmpW (if (p2 &&& (1 : Int32)) = (0 : Int32) then p1 else p0) p0) = (0 : Int32)
    · simp only [if_pos hq305] at k
      show Steps p.tables e below (T302.setTop (mkF m 45 #[.val (.long p0), .second, .val (.long p1), .second, .val (.int p2), .val (.long (if (p2 &&& (1 : Int32)) = (0 : Int32) then p1 else p0)), .second, .val (.ref b255), .unset, .unset, .unset, .unset, .unset, .unset, .unset] [(.int (lcmpW (if (p2 &&& (1 : Int32)) = (0 : Int32) then p1 else p0) p0)), (.int (own_ks p0 (if (p2 &&& (1 : Int32)) = (0 : Int32) then p1 else p0)))])) _
      refine XS.ifNo X302.here hx rfl (hb hby at_45) rfl ((if0 _ _).trans (teq hq305).2) ?_
      show Steps p.tables e below (T302.setTop (mkF m 48 #[.val (.long p0), .second, .val (.long p1), .second, .val (.int p2), .val (.long (if (p2 &&& (1 : Int32)) = (0 : Int32) then p1 else p0)), .second, .val (.ref b255), .unset, .unset, .unset, .unset, .unset, .unset, .unset] [(.int (own_ks p0 (if (p2 &&& (1 : Int32)) = (0 : Int32) then p1 else p0)))])) _
      refine XS.iconst X302.here hx rfl (hb hby at_48) ?_
      show Steps p.tables e below (T302.setTop (mkF m 49 #[.val (.long p0), .second, .val (.long p1), .second, .val (.int p2), .val (.long (if (p2 &&& (1 : Int32)) = (0 : Int32) then p1 else p0)), .second, .val (.ref b255), .unset, .unset, .unset, .unset, .unset, .unset, .unset] [(.int (1 : Int32)), (.int (own_ks p0 (if (p2 &&& (1 : Int32)) = (0 : Int32) then p1 else p0)))])) _
      refine XS.goto X302.here hx rfl (pc0 := 49) (pc' := 53) rfl (hb hby at_49) (by decide) (by decide) ?_
      exact k
    · simp only [if_neg hq305] at k
      show Steps p.tables e below (T302.setTop (mkF m 45 #[.val (.long p0), .second, .val (.long p1), .second, .val (.int p2), .val (.long (if (p2 &&& (1 : Int32)) = (0 : Int32) then p1 else p0)), .second, .val (.ref b255), .unset, .unset, .unset, .unset, .unset, .unset, .unset] [(.int (lcmpW (if (p2 &&& (1 : Int32)) = (0 : Int32) then p1 else p0) p0)), (.int (own_ks p0 (if (p2 &&& (1 : Int32)) = (0 : Int32) then p1 else p0)))])) _
      refine XS.ifYes X302.here hx rfl (pc0 := 45) (pc' := 52) rfl (hb hby at_45) rfl ((if0 _ _).trans (feq hq305).2) (by decide) (by decide) ?_
      show Steps p.tables e below (T302.setTop (mkF m 52 #[.val (.long p0), .second, .val (.long p1), .second, .val (.int p2), .val (.long (if (p2 &&& (1 : Int32)) = (0 : Int32) then p1 else p0)), .second, .val (.ref b255), .unset, .unset, .unset, .unset, .unset, .unset, .unset] [(.int (own_ks p0 (if (p2 &&& (1 : Int32)) = (0 : Int32) then p1 else p0)))])) _
      refine XS.iconst X302.here hx rfl (hb hby at_52) ?_
      exact k)
  have k307 : ∀ t, Steps p.tables e below (T302.setTop (mkF m 67 #[.val (.long p0), .second, .val (.long p1), .second, .val (.int p2), .val (.long (if (p2 &&& (1 : Int32)) = (0 : Int32) then p1 else p0)), .second, .val (.ref b255), .val (.int (1 : Int32)), .unset, .unset, .unset, .unset, .unset, .unset] [(.ref b255), (.ref b255)])) t → Steps p.tables e below (s₁.setTop (entryFrame m #[(.long p0), (.long p1), (.int p2)] maxLocals)) t := fun t k => k306 t (by
    show Steps p.tables e below (T302.setTop (mkF m 53 #[.val (.long p0), .second, .val (.long p1), .second, .val (.int p2), .val (.long (if (p2 &&& (1 : Int32)) = (0 : Int32) then p1 else p0)), .second, .val (.ref b255), .unset, .unset, .unset, .unset, .unset, .unset, .unset] [(.int (if (lcmpW (if (p2 &&& (1 : Int32)) = (0 : Int32) then p1 else p0) p0) = (0 : Int32) then (1 : Int32) else (0 : Int32))), (.int (own_ks p0 (if (p2 &&& (1 : Int32)) = (0 : Int32) then p1 else p0)))])) _
    refine XS.icmpNo X302.here hx rfl (hb hby at_53) rfl (teq (own_sym p0 _)).2 ?_
    show Steps p.tables e below (T302.setTop (mkF m 56 #[.val (.long p0), .second, .val (.long p1), .second, .val (.int p2), .val (.long (if (p2 &&& (1 : Int32)) = (0 : Int32) then p1 else p0)), .second, .val (.ref b255), .unset, .unset, .unset, .unset, .unset, .unset, .unset] [])) _
    refine XS.iconst X302.here hx rfl (hb hby at_56) ?_
    show Steps p.tables e below (T302.setTop (mkF m 57 #[.val (.long p0), .second, .val (.long p1), .second, .val (.int p2), .val (.long (if (p2 &&& (1 : Int32)) = (0 : Int32) then p1 else p0)), .second, .val (.ref b255), .unset, .unset, .unset, .unset, .unset, .unset, .unset] [(.int (1 : Int32))])) _
    refine XS.goto X302.here hx rfl (pc0 := 57) (pc' := 61) rfl (hb hby at_57) (by decide) (by decide) ?_
    show Steps p.tables e below (T302.setTop (mkF m 61 #[.val (.long p0), .second, .val (.long p1), .second, .val (.int p2), .val (.long (if (p2 &&& (1 : Int32)) = (0 : Int32) then p1 else p0)), .second, .val (.ref b255), .unset, .unset, .unset, .unset, .unset, .unset, .unset] [(.int (1 : Int32))])) _
    refine XS.istore X302.here hx rfl (hb hby at_61) rfl (l' := #[.val (.long p0), .second, .val (.long p1), .second, .val (.int p2), .val (.long (if (p2 &&& (1 : Int32)) = (0 : Int32) then p1 else p0)), .second, .val (.ref b255), .val (.int (1 : Int32)), .unset, .unset, .unset, .unset, .unset, .unset]) rfl ?_
    show Steps p.tables e below (T302.setTop (mkF m 63 #[.val (.long p0), .second, .val (.long p1), .second, .val (.int p2), .val (.long (if (p2 &&& (1 : Int32)) = (0 : Int32) then p1 else p0)), .second, .val (.ref b255), .val (.int (1 : Int32)), .unset, .unset, .unset, .unset, .unset, .unset] [])) _
    refine XS.aload X302.here hx rfl (hb hby at_63) rfl rfl ?_
    show Steps p.tables e below (T302.setTop (mkF m 65 #[.val (.long p0), .second, .val (.long p1), .second, .val (.int p2), .val (.long (if (p2 &&& (1 : Int32)) = (0 : Int32) then p1 else p0)), .second, .val (.ref b255), .val (.int (1 : Int32)), .unset, .unset, .unset, .unset, .unset, .unset] [(.ref b255)])) _
    refine XS.aload X302.here hx rfl (hb hby at_65) rfl rfl ?_
    exact k)
  obtain ⟨cq308, kq308, q308a, q308b, q308c⟩ := isOf hZ267 eq302 F297
  obtain ⟨_, _, ⟨T308, L308, kc308, ks308⟩, -, X308, ⟨Lc308, hQ308, l308, y308, z308⟩, st308⟩ := X302.virtualBack hx (y := (⟨"com/example/pen_over_wire/penoverwire/model/User", "sessionEpoch", "()J"⟩ : MethodName)) (z := (⟨"com/example/pen_over_wire/penoverwire/model/User", "sessionEpoch", "()J"⟩ : MethodName)) hown267 (mvT hZ267 (hw _ (List.mem_of_getElem? (i := 43) rfl))) (mvT hZ267 (hw _ (List.mem_of_getElem? (i := 44) rfl))) (notFace_of_selects (args := #[]) (mvT hZ267 (hw _ (List.mem_of_getElem? (i := 46) rfl)))) (mvT hZ267 (hw _ (List.mem_of_getElem? (i := 46) rfl))) (mvT hZ267 (hw _ (List.mem_of_getElem? (i := 45) rfl))) (by decide) (backOf (W := 1) (rm5 l Z a0 hw [] b255 p0 T295.heap n0 Z296 Fx295_7) hZ267 (hw _ (List.mem_of_getElem? (i := 47) rfl)) (hw _ (List.mem_of_getElem? (i := 2) rfl)) (by decide) (by decide)) q308a q308c (g := (mkF m 67 #[.val (.long p0), .second, .val (.long p1), .second, .val (.int p2), .val (.long (if (p2 &&& (1 : Int32)) = (0 : Int32) then p1 else p0)), .second, .val (.ref b255), .val (.int (1 : Int32)), .unset, .unset, .unset, .unset, .unset, .unset] [(.ref b255), (.ref b255)])) rfl (by rw [hml]; rfl) (Steps.refl _) (argsL := []) (rest := [(.ref b255)]) (lenOf pd_3 rfl) rfl (by show 2 * 0 + _ ≤ _; exact Nat.le_of_eq rfl) (hb hby at_67) (fun _ _ => ⟨rfl, eq302, (by decide : 4 + 0 ≤ _), (by decide : 16 + 0 ≤ _)⟩)
  dsimp only [Pt.U, Pt.locs, Pt.cells, Pt.slots] at X308 l308 y308 z308 st308 hQ308
  subst l308 y308 z308
  obtain ⟨rfl, Nq308, eq308⟩ := hQ308
  have N308 := Fr.app N302 Nq308
  have k309 : ∀ t, Steps p.tables e below (T308.setTop (mkF m 70 #[.val (.long p0), .second, .val (.long p1), .second, .val (.int p2), .val (.long (if (p2 &&& (1 : Int32)) = (0 : Int32) then p1 else p0)), .second, .val (.ref b255), .val (.int (1 : Int32)), .unset, .unset, .unset, .unset, .unset, .unset] [(.long p0), (.ref b255)])) t → Steps p.tables e below (s₁.setTop (entryFrame m #[(.long p0), (.long p1), (.int p2)] maxLocals)) t := fun t k => k307 t (st308.trans k)
  obtain ⟨cq310, kq310, q310a, q310b, q310c⟩ := isOf hZ267 eq308 F297
  obtain ⟨_, _, ⟨T310, L310, kc310, ks310⟩, -, X310, ⟨Lc310, hQ310, l310, y310, z310⟩, st310⟩ := X308.virtualBack hx (y := (⟨"com/example/pen_over_wire/penoverwire/model/User", "keepsSessionOf", "(J)Z"⟩ : MethodName)) (z := (⟨"com/example/pen_over_wire/penoverwire/model/User", "keepsSessionOf", "(J)Z"⟩ : MethodName)) hown267 (mvT hZ267 (hw _ (List.mem_of_getElem? (i := 38) rfl))) (mvT hZ267 (hw _ (List.mem_of_getElem? (i := 39) rfl))) (notFace_of_selects (args := #[]) (mvT hZ267 (hw _ (List.mem_of_getElem? (i := 41) rfl)))) (mvT hZ267 (hw _ (List.mem_of_getElem? (i := 41) rfl))) (mvT hZ267 (hw _ (List.mem_of_getElem? (i := 40) rfl))) (by decide) (backOf (W := 0) (rm4 l Z a0 hw [] b255 p0 p0 T295.heap n0 Z296 Fx295_7) hZ267 (hw _ (List.mem_of_getElem? (i := 42) rfl)) (hw _ (List.mem_of_getElem? (i := 2) rfl)) (by decide) (by decide)) q310a q310c (g := (mkF m 70 #[.val (.long p0), .second, .val (.long p1), .second, .val (.int p2), .val (.long (if (p2 &&& (1 : Int32)) = (0 : Int32) then p1 else p0)), .second, .val (.ref b255), .val (.int (1 : Int32)), .unset, .unset, .unset, .unset, .unset, .unset] [(.long p0), (.ref b255)])) rfl (by rw [hml]; rfl) (Steps.refl _) (argsL := [(.long p0)]) (rest := []) (lenOf pd_2 rfl) rfl (by show 2 * 0 + _ ≤ _; exact Nat.le_of_eq rfl) (hb hby at_70) (fun _ _ => ⟨rfl, eq308, (by decide : 4 + 0 ≤ _), (by decide : 16 + 0 ≤ _)⟩)
  dsimp only [Pt.U, Pt.locs, Pt.cells, Pt.slots] at X310 l310 y310 z310 st310 hQ310
  subst l310 y310 z310
  obtain ⟨rfl, Nq310, eq310⟩ := hQ310
  have N310 := Fr.app N308 Nq310
  have k311 : ∀ t, Steps p.tables e below (T310.setTop (mkF m 73 #[.val (.long p0), .second, .val (.long p1), .second, .val (.int p2), .val (.long (if (p2 &&& (1 : Int32)) = (0 : Int32) then p1 else p0)), .second, .val (.ref b255), .val (.int (1 : Int32)), .unset, .unset, .unset, .unset, .unset, .unset] [(.int (own_ks p0 p0))])) t → Steps p.tables e below (s₁.setTop (entryFrame m #[(.long p0), (.long p1), (.int p2)] maxLocals)) t := fun t k => k309 t (st310.trans k)
  have k312 : ∀ t, Steps p.tables e below (T310.setTop (mkF m 77 #[.val (.long p0), .second, .val (.long p1), .second, .val (.int p2), .val (.long (if (p2 &&& (1 : Int32)) = (0 : Int32) then p1 else p0)), .second, .val (.ref b255), .val (.int (1 : Int32)), .val (.int (own_ks p0 p0)), .unset, .unset, .unset, .unset, .unset] [(.ref b255)])) t → Steps p.tables e below (s₁.setTop (entryFrame m #[(.long p0), (.long p1), (.int p2)] maxLocals)) t := fun t k => k311 t (by
    show Steps p.tables e below (T310.setTop (mkF m 73 #[.val (.long p0), .second, .val (.long p1), .second, .val (.int p2), .val (.long (if (p2 &&& (1 : Int32)) = (0 : Int32) then p1 else p0)), .second, .val (.ref b255), .val (.int (1 : Int32)), .unset, .unset, .unset, .unset, .unset, .unset] [(.int (own_ks p0 p0))])) _
    refine XS.istore X310.here hx rfl (hb hby at_73) rfl (l' := #[.val (.long p0), .second, .val (.long p1), .second, .val (.int p2), .val (.long (if (p2 &&& (1 : Int32)) = (0 : Int32) then p1 else p0)), .second, .val (.ref b255), .val (.int (1 : Int32)), .val (.int (own_ks p0 p0)), .unset, .unset, .unset, .unset, .unset]) rfl ?_
    show Steps p.tables e below (T310.setTop (mkF m 75 #[.val (.long p0), .second, .val (.long p1), .second, .val (.int p2), .val (.long (if (p2 &&& (1 : Int32)) = (0 : Int32) then p1 else p0)), .second, .val (.ref b255), .val (.int (1 : Int32)), .val (.int (own_ks p0 p0)), .unset, .unset, .unset, .unset, .unset] [])) _
    refine XS.aload X310.here hx rfl (hb hby at_75) rfl rfl ?_
    exact k)
  obtain ⟨b313, g313⟩ : ∃ z, z = T295.heap.size := ⟨_, rfl⟩
  have ne314 : b255 ≠ b313 := Nat.ne_of_lt (Nat.lt_of_lt_of_le (F297).lt (Nat.le_of_eq g313.symm))
  have ne315 : b280 ≠ b313 := Nat.ne_of_lt (Nat.lt_of_lt_of_le (F299).lt (Nat.le_of_eq g313.symm))
  have g_b313 : n0 ≤ b313 := Nat.le_trans Z296 (Nat.le_of_eq g313.symm)
  obtain ⟨cq316, kq316, q316a, q316b, q316c⟩ := isOf hZ267 eq310 F297
  obtain ⟨_, _, ⟨T316, L316, kc316, ks316⟩, -, X316, ⟨Lc316, hQ316, l316, y316, z316⟩, st316⟩ := X310.virtualBack hx (y := (⟨"com/example/pen_over_wire/penoverwire/model/User", "disable", "()Lcom/example/pen_over_wire/penoverwire/model/User;"⟩ : MethodName)) (z := (⟨"com/example/pen_over_wire/penoverwire/model/User", "disable", "()Lcom/example/pen_over_wire/penoverwire/model/User;"⟩ : MethodName)) hown267 (mvT hZ267 (hw _ (List.mem_of_getElem? (i := 48) rfl))) (mvT hZ267 (hw _ (List.mem_of_getElem? (i := 49) rfl))) (notFace_of_selects (args := #[]) (mvT hZ267 (hw _ (List.mem_of_getElem? (i := 51) rfl)))) (mvT hZ267 (hw _ (List.mem_of_getElem? (i := 51) rfl))) (mvT hZ267 (hw _ (List.mem_of_getElem? (i := 50) rfl))) (by decide) (backOf (W := 0) (rm6 l Z a0 hw [] b255 b313 (Value.ref as267) Value.null Value.null (Value.ref b280) (0 : Int64) Value.null (0 : Int32) p0 T295.heap n0 Z296 rfl rfl rfl rfl rfl Fx295_0 Fx295_1 Fx295_2 Fx295_3 Fx295_4 Fx295_5 Fx295_6 Fx295_7 F297 g313) hZ267 (hw _ (List.mem_of_getElem? (i := 52) rfl)) (hw _ (List.mem_of_getElem? (i := 2) rfl)) (by decide) (by decide)) q316a q316c (g := (mkF m 77 #[.val (.long p0), .second, .val (.long p1), .second, .val (.int p2), .val (.long (if (p2 &&& (1 : Int32)) = (0 : Int32) then p1 else p0)), .second, .val (.ref b255), .val (.int (1 : Int32)), .val (.int (own_ks p0 p0)), .unset, .unset, .unset, .unset, .unset] [(.ref b255)])) rfl (by rw [hml]; rfl) (Steps.refl _) (argsL := []) (rest := []) (lenOf pd_4 rfl) rfl (by show 2 * 0 + _ ≤ _; exact Nat.le_of_eq rfl) (hb hby at_77) (fun _ _ => ⟨rfl, eq310, (by decide : 4 + 1 ≤ _), (by decide : 16 + 8 ≤ _)⟩)
  dsimp only [Pt.U, Pt.locs, Pt.cells, Pt.slots] at X316 l316 y316 z316 st316 hQ316
  subst l316 y316 z316
  obtain ⟨rfl, Nq316, K316, Ax316, Fx316_0, Fx316_1, Fx316_2, Fx316_3, Fx316_4, Fx316_5, Fx316_6, Fx316_7⟩ := hQ316
  have N316 := Fr.app N310 Nq316
  have Z317 : n0 ≤ T316.heap.size := Nat.le_trans Z296 K316.1
  have F318 : Exa Z T316.heap b255 "com/example/pen_over_wire/penoverwire/model/User" := (F297).keep K316
  have F319 : kk267 ≤ T316.heap.size := Nat.le_trans F298 K316.1
  have F320 : Arv Z T316.heap b280 c280 .byte (0 : Int32) [] (.int (0 : Int32)) := (F299).keep K316 nin0
  have F321 : Fld Z T316.heap b255 "com/example/pen_over_wire/penoverwire/model/User" "name" "Ljava/lang/String;" (.ref as267) := (Fx295_0).keep K316 nin0
  have F322 : Fld Z T316.heap b255 "com/example/pen_over_wire/penoverwire/model/User" "role" "Lcom/example/pen_over_wire/penoverwire/model/Role;" .null := (Fx295_1).keep K316 nin0
  have F323 : Fld Z T316.heap b255 "com/example/pen_over_wire/penoverwire/model/User" "password" "Lcom/example/pen_over_wire/penoverwire/crypto/PasswordHash;" .null := (Fx295_2).keep K316 nin0
  have F324 : Fld Z T316.heap b255 "com/example/pen_over_wire/penoverwire/model/User" "totpSecret" "[B" (.ref b280) := (Fx295_3).keep K316 nin0
  have F325 : Fld Z T316.heap b255 "com/example/pen_over_wire/penoverwire/model/User" "lastOtpStep" "J" (.long (0 : Int64)) := (Fx295_4).keep K316 nin0
  have F326 : Fld Z T316.heap b255 "com/example/pen_over_wire/penoverwire/model/User" "failedLogins" "Lcom/example/pen_over_wire/penoverwire/model/FailedAttempts;" .null := (Fx295_5).keep K316 nin0
  have F327 : Fld Z T316.heap b255 "com/example/pen_over_wire/penoverwire/model/User" "disabled" "Z" (.int (0 : Int32)) := (Fx295_6).keep K316 nin0
  have F328 : Fld Z T316.heap b255 "com/example/pen_over_wire/penoverwire/model/User" "sessionEpoch" "J" (.long p0) := (Fx295_7).keep K316 nin0
  have k329 : ∀ t, Steps p.tables e below (T316.setTop (mkF m 80 #[.val (.long p0), .second, .val (.long p1), .second, .val (.int p2), .val (.long (if (p2 &&& (1 : Int32)) = (0 : Int32) then p1 else p0)), .second, .val (.ref b255), .val (.int (1 : Int32)), .val (.int (own_ks p0 p0)), .unset, .unset, .unset, .unset, .unset] [(.ref b313)])) t → Steps p.tables e below (s₁.setTop (entryFrame m #[(.long p0), (.long p1), (.int p2)] maxLocals)) t := fun t k => k312 t (st316.trans k)
  have k330 : ∀ t, Steps p.tables e below (T316.setTop (mkF m 85 #[.val (.long p0), .second, .val (.long p1), .second, .val (.int p2), .val (.long (if (p2 &&& (1 : Int32)) = (0 : Int32) then p1 else p0)), .second, .val (.ref b255), .val (.int (1 : Int32)), .val (.int (own_ks p0 p0)), .val (.ref b313), .unset, .unset, .unset, .unset] [(.long p0), (.ref b313)])) t → Steps p.tables e below (s₁.setTop (entryFrame m #[(.long p0), (.long p1), (.int p2)] maxLocals)) t := fun t k => k329 t (by
    show Steps p.tables e below (T316.setTop (mkF m 80 #[.val (.long p0), .second, .val (.long p1), .second, .val (.int p2), .val (.long (if (p2 &&& (1 : Int32)) = (0 : Int32) then p1 else p0)), .second, .val (.ref b255), .val (.int (1 : Int32)), .val (.int (own_ks p0 p0)), .unset, .unset, .unset, .unset, .unset] [(.ref b313)])) _
    refine XS.astore X316.here hx rfl (hb hby at_80) rfl rfl (l' := #[.val (.long p0), .second, .val (.long p1), .second, .val (.int p2), .val (.long (if (p2 &&& (1 : Int32)) = (0 : Int32) then p1 else p0)), .second, .val (.ref b255), .val (.int (1 : Int32)), .val (.int (own_ks p0 p0)), .val (.ref b313), .unset, .unset, .unset, .unset]) rfl ?_
    show Steps p.tables e below (T316.setTop (mkF m 82 #[.val (.long p0), .second, .val (.long p1), .second, .val (.int p2), .val (.long (if (p2 &&& (1 : Int32)) = (0 : Int32) then p1 else p0)), .second, .val (.ref b255), .val (.int (1 : Int32)), .val (.int (own_ks p0 p0)), .val (.ref b313), .unset, .unset, .unset, .unset] [])) _
    refine XS.aload X316.here hx rfl (hb hby at_82) rfl rfl ?_
    show Steps p.tables e below (T316.setTop (mkF m 84 #[.val (.long p0), .second, .val (.long p1), .second, .val (.int p2), .val (.long (if (p2 &&& (1 : Int32)) = (0 : Int32) then p1 else p0)), .second, .val (.ref b255), .val (.int (1 : Int32)), .val (.int (own_ks p0 p0)), .val (.ref b313), .unset, .unset, .unset, .unset] [(.ref b313)])) _
    refine XS.lloadN X316.here hx rfl (hb hby at_84) rfl ?_
    exact k)
  obtain ⟨cq331, kq331, q331a, q331b, q331c⟩ := isOf hZ267 rfl Ax316
  obtain ⟨_, _, ⟨T331, L331, kc331, ks331⟩, -, X331, ⟨Lc331, hQ331, l331, y331, z331⟩, st331⟩ := X316.virtualBack hx (y := (⟨"com/example/pen_over_wire/penoverwire/model/User", "keepsSessionOf", "(J)Z"⟩ : MethodName)) (z := (⟨"com/example/pen_over_wire/penoverwire/model/User", "keepsSessionOf", "(J)Z"⟩ : MethodName)) hown267 (mvT hZ267 (hw _ (List.mem_of_getElem? (i := 38) rfl))) (mvT hZ267 (hw _ (List.mem_of_getElem? (i := 39) rfl))) (notFace_of_selects (args := #[]) (mvT hZ267 (hw _ (List.mem_of_getElem? (i := 41) rfl)))) (mvT hZ267 (hw _ (List.mem_of_getElem? (i := 41) rfl))) (mvT hZ267 (hw _ (List.mem_of_getElem? (i := 40) rfl))) (by decide) (backOf (W := 0) (rm4 l Z a0 hw [] b313 p0 (p0 + (1 : Int64)) T316.heap n0 Z317 Fx316_7) hZ267 (hw _ (List.mem_of_getElem? (i := 42) rfl)) (hw _ (List.mem_of_getElem? (i := 2) rfl)) (by decide) (by decide)) q331a q331c (g := (mkF m 85 #[.val (.long p0), .second, .val (.long p1), .second, .val (.int p2), .val (.long (if (p2 &&& (1 : Int32)) = (0 : Int32) then p1 else p0)), .second, .val (.ref b255), .val (.int (1 : Int32)), .val (.int (own_ks p0 p0)), .val (.ref b313), .unset, .unset, .unset, .unset] [(.long p0), (.ref b313)])) rfl (by rw [hml]; rfl) (Steps.refl _) (argsL := [(.long p0)]) (rest := []) (lenOf pd_2 rfl) rfl (by show 2 * 0 + _ ≤ _; exact Nat.le_of_eq rfl) (hb hby at_85) (fun _ _ => ⟨rfl, rfl, (by decide : 5 + 0 ≤ _), (by decide : 24 + 0 ≤ _)⟩)
  dsimp only [Pt.U, Pt.locs, Pt.cells, Pt.slots] at X331 l331 y331 z331 st331 hQ331
  subst l331 y331 z331
  obtain ⟨rfl, Nq331, eq331⟩ := hQ331
  have N331 := Fr.app N316 Nq331
  have k332 : ∀ t, Steps p.tables e below (T331.setTop (mkF m 88 #[.val (.long p0), .second, .val (.long p1), .second, .val (.int p2), .val (.long (if (p2 &&& (1 : Int32)) = (0 : Int32) then p1 else p0)), .second, .val (.ref b255), .val (.int (1 : Int32)), .val (.int (own_ks p0 p0)), .val (.ref b313), .unset, .unset, .unset, .unset] [(.int (own_ks (p0 + (1 : Int64)) p0))])) t → Steps p.tables e below (s₁.setTop (entryFrame m #[(.long p0), (.long p1), (.int p2)] maxLocals)) t := fun t k => k330 t (st331.trans k)
  have k333 : ∀ t, Steps p.tables e below (T331.setTop (mkF m 100 #[.val (.long p0), .second, .val (.long p1), .second, .val (.int p2), .val (.long (if (p2 &&& (1 : Int32)) = (0 : Int32) then p1 else p0)), .second, .val (.ref b255), .val (.int (1 : Int32)), .val (.int (own_ks p0 p0)), .val (.ref b313), .val (.int (1 : Int32)), .unset, .unset, .unset] [(.ref b313)])) t → Steps p.tables e below (s₁.setTop (entryFrame m #[(.long p0), (.long p1), (.int p2)] maxLocals)) t := fun t k => k332 t (by
    show Steps p.tables e below (T331.setTop (mkF m 88 #[.val (.long p0), .second, .val (.long p1), .second, .val (.int p2), .val (.long (if (p2 &&& (1 : Int32)) = (0 : Int32) then p1 else p0)), .second, .val (.ref b255), .val (.int (1 : Int32)), .val (.int (own_ks p0 p0)), .val (.ref b313), .unset, .unset, .unset, .unset] [(.int (own_ks (p0 + (1 : Int64)) p0))])) _
    refine XS.ifNo X331.here hx rfl (hb hby at_88) rfl ((if0 _ _).trans (teq (own_k0 (own_suc p0))).2) ?_
    show Steps p.tables e below (T331.setTop (mkF m 91 #[.val (.long p0), .second, .val (.long p1), .second, .val (.int p2), .val (.long (if (p2 &&& (1 : Int32)) = (0 : Int32) then p1 else p0)), .second, .val (.ref b255), .val (.int (1 : Int32)), .val (.int (own_ks p0 p0)), .val (.ref b313), .unset, .unset, .unset, .unset] [])) _
    refine XS.iconst X331.here hx rfl (hb hby at_91) ?_
    show Steps p.tables e below (T331.setTop (mkF m 92 #[.val (.long p0), .second, .val (.long p1), .second, .val (.int p2), .val (.long (if (p2 &&& (1 : Int32)) = (0 : Int32) then p1 else p0)), .second, .val (.ref b255), .val (.int (1 : Int32)), .val (.int (own_ks p0 p0)), .val (.ref b313), .unset, .unset, .unset, .unset] [(.int (1 : Int32))])) _
    refine XS.goto X331.here hx rfl (pc0 := 92) (pc' := 96) rfl (hb hby at_92) (by decide) (by decide) ?_
    show Steps p.tables e below (T331.setTop (mkF m 96 #[.val (.long p0), .second, .val (.long p1), .second, .val (.int p2), .val (.long (if (p2 &&& (1 : Int32)) = (0 : Int32) then p1 else p0)), .second, .val (.ref b255), .val (.int (1 : Int32)), .val (.int (own_ks p0 p0)), .val (.ref b313), .unset, .unset, .unset, .unset] [(.int (1 : Int32))])) _
    refine XS.istore X331.here hx rfl (hb hby at_96) rfl (l' := #[.val (.long p0), .second, .val (.long p1), .second, .val (.int p2), .val (.long (if (p2 &&& (1 : Int32)) = (0 : Int32) then p1 else p0)), .second, .val (.ref b255), .val (.int (1 : Int32)), .val (.int (own_ks p0 p0)), .val (.ref b313), .val (.int (1 : Int32)), .unset, .unset, .unset]) rfl ?_
    show Steps p.tables e below (T331.setTop (mkF m 98 #[.val (.long p0), .second, .val (.long p1), .second, .val (.int p2), .val (.long (if (p2 &&& (1 : Int32)) = (0 : Int32) then p1 else p0)), .second, .val (.ref b255), .val (.int (1 : Int32)), .val (.int (own_ks p0 p0)), .val (.ref b313), .val (.int (1 : Int32)), .unset, .unset, .unset] [])) _
    refine XS.aload X331.here hx rfl (hb hby at_98) rfl rfl ?_
    exact k)
  obtain ⟨b334, g334⟩ : ∃ z, z = T316.heap.size := ⟨_, rfl⟩
  have ne335 : b255 ≠ b334 := Nat.ne_of_lt (Nat.lt_of_lt_of_le (F318).lt (Nat.le_of_eq g334.symm))
  have ne336 : b280 ≠ b334 := Nat.ne_of_lt (Nat.lt_of_lt_of_le (F320).lt (Nat.le_of_eq g334.symm))
  have ne337 : b313 ≠ b334 := Nat.ne_of_lt (Nat.lt_of_lt_of_le (Fx316_0).lt (Nat.le_of_eq g334.symm))
  have g_b334 : n0 ≤ b334 := Nat.le_trans Z317 (Nat.le_of_eq g334.symm)
  obtain ⟨cq338, kq338, q338a, q338b, q338c⟩ := isOf hZ267 eq331 Ax316
  obtain ⟨_, _, ⟨T338, L338, kc338, ks338⟩, -, X338, ⟨Lc338, hQ338, l338, y338, z338⟩, st338⟩ := X331.virtualBack hx (y := (⟨"com/example/pen_over_wire/penoverwire/model/User", "enable", "()Lcom/example/pen_over_wire/penoverwire/model/User;"⟩ : MethodName)) (z := (⟨"com/example/pen_over_wire/penoverwire/model/User", "enable", "()Lcom/example/pen_over_wire/penoverwire/model/User;"⟩ : MethodName)) hown267 (mvT hZ267 (hw _ (List.mem_of_getElem? (i := 55) rfl))) (mvT hZ267 (hw _ (List.mem_of_getElem? (i := 56) rfl))) (notFace_of_selects (args := #[]) (mvT hZ267 (hw _ (List.mem_of_getElem? (i := 58) rfl)))) (mvT hZ267 (hw _ (List.mem_of_getElem? (i := 58) rfl))) (mvT hZ267 (hw _ (List.mem_of_getElem? (i := 57) rfl))) (by decide) (backOf (W := 0) (rm7 l Z a0 hw [] b313 b334 (Value.ref as267) Value.null Value.null (Value.ref b280) (0 : Int64) Value.null (1 : Int32) (p0 + (1 : Int64)) T316.heap n0 Z317 rfl rfl rfl rfl rfl Fx316_0 Fx316_1 Fx316_2 Fx316_3 Fx316_4 Fx316_5 Fx316_6 Fx316_7 Ax316 g334) hZ267 (hw _ (List.mem_of_getElem? (i := 59) rfl)) (hw _ (List.mem_of_getElem? (i := 2) rfl)) (by decide) (by decide)) q338a q338c (g := (mkF m 100 #[.val (.long p0), .second, .val (.long p1), .second, .val (.int p2), .val (.long (if (p2 &&& (1 : Int32)) = (0 : Int32) then p1 else p0)), .second, .val (.ref b255), .val (.int (1 : Int32)), .val (.int (own_ks p0 p0)), .val (.ref b313), .val (.int (1 : Int32)), .unset, .unset, .unset] [(.ref b313)])) rfl (by rw [hml]; rfl) (Steps.refl _) (argsL := []) (rest := []) (lenOf pd_4 rfl) rfl (by show 2 * 0 + _ ≤ _; exact Nat.le_of_eq rfl) (hb hby at_100) (fun _ _ => ⟨rfl, eq331, (by decide : 5 + 1 ≤ _), (by decide : 24 + 8 ≤ _)⟩)
  dsimp only [Pt.U, Pt.locs, Pt.cells, Pt.slots] at X338 l338 y338 z338 st338 hQ338
  subst l338 y338 z338
  obtain ⟨rfl, Nq338, K338, Ax338, Fx338_0, Fx338_1, Fx338_2, Fx338_3, Fx338_4, Fx338_5, Fx338_6, Fx338_7⟩ := hQ338
  have N338 := Fr.app N331 Nq338
  have Z339 : n0 ≤ T338.heap.size := Nat.le_trans Z317 K338.1
  have F340 : Exa Z T338.heap b255 "com/example/pen_over_wire/penoverwire/model/User" := (F318).keep K338
  have F341 : kk267 ≤ T338.heap.size := Nat.le_trans F319 K338.1
  have F342 : Arv Z T338.heap b280 c280 .byte (0 : Int32) [] (.int (0 : Int32)) := (F320).keep K338 nin0
  have F343 : Fld Z T338.heap b255 "com/example/pen_over_wire/penoverwire/model/User" "name" "Ljava/lang/String;" (.ref as267) := (F321).keep K338 nin0
  have F344 : Fld Z T338.heap b255 "com/example/pen_over_wire/penoverwire/model/User" "role" "Lcom/example/pen_over_wire/penoverwire/model/Role;" .null := (F322).keep K338 nin0
  have F345 : Fld Z T338.heap b255 "com/example/pen_over_wire/penoverwire/model/User" "password" "Lcom/example/pen_over_wire/penoverwire/crypto/PasswordHash;" .null := (F323).keep K338 nin0
  have F346 : Fld Z T338.heap b255 "com/example/pen_over_wire/penoverwire/model/User" "totpSecret" "[B" (.ref b280) := (F324).keep K338 nin0
  have F347 : Fld Z T338.heap b255 "com/example/pen_over_wire/penoverwire/model/User" "lastOtpStep" "J" (.long (0 : Int64)) := (F325).keep K338 nin0
  have F348 : Fld Z T338.heap b255 "com/example/pen_over_wire/penoverwire/model/User" "failedLogins" "Lcom/example/pen_over_wire/penoverwire/model/FailedAttempts;" .null := (F326).keep K338 nin0
  have F349 : Fld Z T338.heap b255 "com/example/pen_over_wire/penoverwire/model/User" "disabled" "Z" (.int (0 : Int32)) := (F327).keep K338 nin0
  have F350 : Fld Z T338.heap b255 "com/example/pen_over_wire/penoverwire/model/User" "sessionEpoch" "J" (.long p0) := (F328).keep K338 nin0
  have F351 : Fld Z T338.heap b313 "com/example/pen_over_wire/penoverwire/model/User" "name" "Ljava/lang/String;" (.ref as267) := (Fx316_0).keep K338 nin0
  have F352 : Fld Z T338.heap b313 "com/example/pen_over_wire/penoverwire/model/User" "role" "Lcom/example/pen_over_wire/penoverwire/model/Role;" .null := (Fx316_1).keep K338 nin0
  have F353 : Fld Z T338.heap b313 "com/example/pen_over_wire/penoverwire/model/User" "password" "Lcom/example/pen_over_wire/penoverwire/crypto/PasswordHash;" .null := (Fx316_2).keep K338 nin0
  have F354 : Fld Z T338.heap b313 "com/example/pen_over_wire/penoverwire/model/User" "totpSecret" "[B" (.ref b280) := (Fx316_3).keep K338 nin0
  have F355 : Fld Z T338.heap b313 "com/example/pen_over_wire/penoverwire/model/User" "lastOtpStep" "J" (.long (0 : Int64)) := (Fx316_4).keep K338 nin0
  have F356 : Fld Z T338.heap b313 "com/example/pen_over_wire/penoverwire/model/User" "failedLogins" "Lcom/example/pen_over_wire/penoverwire/model/FailedAttempts;" .null := (Fx316_5).keep K338 nin0
  have F357 : Fld Z T338.heap b313 "com/example/pen_over_wire/penoverwire/model/User" "disabled" "Z" (.int (1 : Int32)) := (Fx316_6).keep K338 nin0
  have F358 : Fld Z T338.heap b313 "com/example/pen_over_wire/penoverwire/model/User" "sessionEpoch" "J" (.long (p0 + (1 : Int64))) := (Fx316_7).keep K338 nin0
  have F359 : Exa Z T338.heap b313 "com/example/pen_over_wire/penoverwire/model/User" := (Ax316).keep K338
  have k360 : ∀ t, Steps p.tables e below (T338.setTop (mkF m 103 #[.val (.long p0), .second, .val (.long p1), .second, .val (.int p2), .val (.long (if (p2 &&& (1 : Int32)) = (0 : Int32) then p1 else p0)), .second, .val (.ref b255), .val (.int (1 : Int32)), .val (.int (own_ks p0 p0)), .val (.ref b313), .val (.int (1 : Int32)), .unset, .unset, .unset] [(.ref b334)])) t → Steps p.tables e below (s₁.setTop (entryFrame m #[(.long p0), (.long p1), (.int p2)] maxLocals)) t := fun t k => k333 t (st338.trans k)
  have k361 : ∀ t, Steps p.tables e below (T338.setTop (mkF m 108 #[.val (.long p0), .second, .val (.long p1), .second, .val (.int p2), .val (.long (if (p2 &&& (1 : Int32)) = (0 : Int32) then p1 else p0)), .second, .val (.ref b255), .val (.int (1 : Int32)), .val (.int (own_ks p0 p0)), .val (.ref b313), .val (.int (1 : Int32)), .val (.ref b334), .unset, .unset] [(.long p0), (.ref b334)])) t → Steps p.tables e below (s₁.setTop (entryFrame m #[(.long p0), (.long p1), (.int p2)] maxLocals)) t := fun t k => k360 t (by
    show Steps p.tables e below (T338.setTop (mkF m 103 #[.val (.long p0), .second, .val (.long p1), .second, .val (.int p2), .val (.long (if (p2 &&& (1 : Int32)) = (0 : Int32) then p1 else p0)), .second, .val (.ref b255), .val (.int (1 : Int32)), .val (.int (own_ks p0 p0)), .val (.ref b313), .val (.int (1 : Int32)), .unset, .unset, .unset] [(.ref b334)])) _
    refine XS.astore X338.here hx rfl (hb hby at_103) rfl rfl (l' := #[.val (.long p0), .second, .val (.long p1), .second, .val (.int p2), .val (.long (if (p2 &&& (1 : Int32)) = (0 : Int32) then p1 else p0)), .second, .val (.ref b255), .val (.int (1 : Int32)), .val (.int (own_ks p0 p0)), .val (.ref b313), .val (.int (1 : Int32)), .val (.ref b334), .unset, .unset]) rfl ?_
    show Steps p.tables e below (T338.setTop (mkF m 105 #[.val (.long p0), .second, .val (.long p1), .second, .val (.int p2), .val (.long (if (p2 &&& (1 : Int32)) = (0 : Int32) then p1 else p0)), .second, .val (.ref b255), .val (.int (1 : Int32)), .val (.int (own_ks p0 p0)), .val (.ref b313), .val (.int (1 : Int32)), .val (.ref b334), .unset, .unset] [])) _
    refine XS.aload X338.here hx rfl (hb hby at_105) rfl rfl ?_
    show Steps p.tables e below (T338.setTop (mkF m 107 #[.val (.long p0), .second, .val (.long p1), .second, .val (.int p2), .val (.long (if (p2 &&& (1 : Int32)) = (0 : Int32) then p1 else p0)), .second, .val (.ref b255), .val (.int (1 : Int32)), .val (.int (own_ks p0 p0)), .val (.ref b313), .val (.int (1 : Int32)), .val (.ref b334), .unset, .unset] [(.ref b334)])) _
    refine XS.lloadN X338.here hx rfl (hb hby at_107) rfl ?_
    exact k)
  obtain ⟨cq362, kq362, q362a, q362b, q362c⟩ := isOf hZ267 rfl Ax338
  obtain ⟨_, _, ⟨T362, L362, kc362, ks362⟩, -, X362, ⟨Lc362, hQ362, l362, y362, z362⟩, st362⟩ := X338.virtualBack hx (y := (⟨"com/example/pen_over_wire/penoverwire/model/User", "keepsSessionOf", "(J)Z"⟩ : MethodName)) (z := (⟨"com/example/pen_over_wire/penoverwire/model/User", "keepsSessionOf", "(J)Z"⟩ : MethodName)) hown267 (mvT hZ267 (hw _ (List.mem_of_getElem? (i := 38) rfl))) (mvT hZ267 (hw _ (List.mem_of_getElem? (i := 39) rfl))) (notFace_of_selects (args := #[]) (mvT hZ267 (hw _ (List.mem_of_getElem? (i := 41) rfl)))) (mvT hZ267 (hw _ (List.mem_of_getElem? (i := 41) rfl))) (mvT hZ267 (hw _ (List.mem_of_getElem? (i := 40) rfl))) (by decide) (backOf (W := 0) (rm4 l Z a0 hw [] b334 p0 (p0 + (1 : Int64)) T338.heap n0 Z339 Fx338_7) hZ267 (hw _ (List.mem_of_getElem? (i := 42) rfl)) (hw _ (List.mem_of_getElem? (i := 2) rfl)) (by decide) (by decide)) q362a q362c (g := (mkF m 108 #[.val (.long p0), .second, .val (.long p1), .second, .val (.int p2), .val (.long (if (p2 &&& (1 : Int32)) = (0 : Int32) then p1 else p0)), .second, .val (.ref b255), .val (.int (1 : Int32)), .val (.int (own_ks p0 p0)), .val (.ref b313), .val (.int (1 : Int32)), .val (.ref b334), .unset, .unset] [(.long p0), (.ref b334)])) rfl (by rw [hml]; rfl) (Steps.refl _) (argsL := [(.long p0)]) (rest := []) (lenOf pd_2 rfl) rfl (by show 2 * 0 + _ ≤ _; exact Nat.le_of_eq rfl) (hb hby at_108) (fun _ _ => ⟨rfl, rfl, (by decide : 6 + 0 ≤ _), (by decide : 32 + 0 ≤ _)⟩)
  dsimp only [Pt.U, Pt.locs, Pt.cells, Pt.slots] at X362 l362 y362 z362 st362 hQ362
  subst l362 y362 z362
  obtain ⟨rfl, Nq362, eq362⟩ := hQ362
  have N362 := Fr.app N338 Nq362
  have k363 : ∀ t, Steps p.tables e below (T362.setTop (mkF m 111 #[.val (.long p0), .second, .val (.long p1), .second, .val (.int p2), .val (.long (if (p2 &&& (1 : Int32)) = (0 : Int32) then p1 else p0)), .second, .val (.ref b255), .val (.int (1 : Int32)), .val (.int (own_ks p0 p0)), .val (.ref b313), .val (.int (1 : Int32)), .val (.ref b334), .unset, .unset] [(.int (own_ks (p0 + (1 : Int64)) p0))])) t → Steps p.tables e below (s₁.setTop (entryFrame m #[(.long p0), (.long p1), (.int p2)] maxLocals)) t := fun t k => k361 t (st362.trans k)
  have k364 : ∀ t, Steps p.tables e below (T362.setTop (mkF m 126 #[.val (.long p0), .second, .val (.long p1), .second, .val (.int p2), .val (.long (if (p2 &&& (1 : Int32)) = (0 : Int32) then p1 else p0)), .second, .val (.ref b255), .val (.int (1 : Int32)), .val (.int (own_ks p0 p0)), .val (.ref b313), .val (.int (1 : Int32)), .val (.ref b334), .val (.int (1 : Int32)), .unset] [(.long (p0 + (1 : Int64))), (.ref b334)])) t → Steps p.tables e below (s₁.setTop (entryFrame m #[(.long p0), (.long p1), (.int p2)] maxLocals)) t := fun t k => k363 t (by
    show Steps p.tables e below (T362.setTop (mkF m 111 #[.val (.long p0), .second, .val (.long p1), .second, .val (.int p2), .val (.long (if (p2 &&& (1 : Int32)) = (0 : Int32) then p1 else p0)), .second, .val (.ref b255), .val (.int (1 : Int32)), .val (.int (own_ks p0 p0)), .val (.ref b313), .val (.int (1 : Int32)), .val (.ref b334), .unset, .unset] [(.int (own_ks (p0 + (1 : Int64)) p0))])) _
    refine XS.ifNo X362.here hx rfl (hb hby at_111) rfl ((if0 _ _).trans (teq (own_k0 (own_suc p0))).2) ?_
    show Steps p.tables e below (T362.setTop (mkF m 114 #[.val (.long p0), .second, .val (.long p1), .second, .val (.int p2), .val (.long (if (p2 &&& (1 : Int32)) = (0 : Int32) then p1 else p0)), .second, .val (.ref b255), .val (.int (1 : Int32)), .val (.int (own_ks p0 p0)), .val (.ref b313), .val (.int (1 : Int32)), .val (.ref b334), .unset, .unset] [])) _
    refine XS.iconst X362.here hx rfl (hb hby at_114) ?_
    show Steps p.tables e below (T362.setTop (mkF m 115 #[.val (.long p0), .second, .val (.long p1), .second, .val (.int p2), .val (.long (if (p2 &&& (1 : Int32)) = (0 : Int32) then p1 else p0)), .second, .val (.ref b255), .val (.int (1 : Int32)), .val (.int (own_ks p0 p0)), .val (.ref b313), .val (.int (1 : Int32)), .val (.ref b334), .unset, .unset] [(.int (1 : Int32))])) _
    refine XS.goto X362.here hx rfl (pc0 := 115) (pc' := 119) rfl (hb hby at_115) (by decide) (by decide) ?_
    show Steps p.tables e below (T362.setTop (mkF m 119 #[.val (.long p0), .second, .val (.long p1), .second, .val (.int p2), .val (.long (if (p2 &&& (1 : Int32)) = (0 : Int32) then p1 else p0)), .second, .val (.ref b255), .val (.int (1 : Int32)), .val (.int (own_ks p0 p0)), .val (.ref b313), .val (.int (1 : Int32)), .val (.ref b334), .unset, .unset] [(.int (1 : Int32))])) _
    refine XS.istore X362.here hx rfl (hb hby at_119) rfl (l' := #[.val (.long p0), .second, .val (.long p1), .second, .val (.int p2), .val (.long (if (p2 &&& (1 : Int32)) = (0 : Int32) then p1 else p0)), .second, .val (.ref b255), .val (.int (1 : Int32)), .val (.int (own_ks p0 p0)), .val (.ref b313), .val (.int (1 : Int32)), .val (.ref b334), .val (.int (1 : Int32)), .unset]) rfl ?_
    show Steps p.tables e below (T362.setTop (mkF m 121 #[.val (.long p0), .second, .val (.long p1), .second, .val (.int p2), .val (.long (if (p2 &&& (1 : Int32)) = (0 : Int32) then p1 else p0)), .second, .val (.ref b255), .val (.int (1 : Int32)), .val (.int (own_ks p0 p0)), .val (.ref b313), .val (.int (1 : Int32)), .val (.ref b334), .val (.int (1 : Int32)), .unset] [])) _
    refine XS.aload X362.here hx rfl (hb hby at_121) rfl rfl ?_
    show Steps p.tables e below (T362.setTop (mkF m 123 #[.val (.long p0), .second, .val (.long p1), .second, .val (.int p2), .val (.long (if (p2 &&& (1 : Int32)) = (0 : Int32) then p1 else p0)), .second, .val (.ref b255), .val (.int (1 : Int32)), .val (.int (own_ks p0 p0)), .val (.ref b313), .val (.int (1 : Int32)), .val (.ref b334), .val (.int (1 : Int32)), .unset] [(.ref b334)])) _
    refine XS.lloadN X362.here hx rfl (hb hby at_123) rfl ?_
    show Steps p.tables e below (T362.setTop (mkF m 124 #[.val (.long p0), .second, .val (.long p1), .second, .val (.int p2), .val (.long (if (p2 &&& (1 : Int32)) = (0 : Int32) then p1 else p0)), .second, .val (.ref b255), .val (.int (1 : Int32)), .val (.int (own_ks p0 p0)), .val (.ref b313), .val (.int (1 : Int32)), .val (.ref b334), .val (.int (1 : Int32)), .unset] [(.long p0), (.ref b334)])) _
    refine XS.lconst X362.here hx rfl (hb hby at_124) ?_
    show Steps p.tables e below (T362.setTop (mkF m 125 #[.val (.long p0), .second, .val (.long p1), .second, .val (.int p2), .val (.long (if (p2 &&& (1 : Int32)) = (0 : Int32) then p1 else p0)), .second, .val (.ref b255), .val (.int (1 : Int32)), .val (.int (own_ks p0 p0)), .val (.ref b313), .val (.int (1 : Int32)), .val (.ref b334), .val (.int (1 : Int32)), .unset] [(.long (1 : Int64)), (.long p0), (.ref b334)])) _
    refine XS.ladd X362.here hx rfl (hb hby at_125) rfl ?_
    exact k)
  obtain ⟨cq365, kq365, q365a, q365b, q365c⟩ := isOf hZ267 eq362 Ax338
  obtain ⟨_, _, ⟨T365, L365, kc365, ks365⟩, -, X365, ⟨Lc365, hQ365, l365, y365, z365⟩, st365⟩ := X362.virtualBack hx (y := (⟨"com/example/pen_over_wire/penoverwire/model/User", "keepsSessionOf", "(J)Z"⟩ : MethodName)) (z := (⟨"com/example/pen_over_wire/penoverwire/model/User", "keepsSessionOf", "(J)Z"⟩ : MethodName)) hown267 (mvT hZ267 (hw _ (List.mem_of_getElem? (i := 38) rfl))) (mvT hZ267 (hw _ (List.mem_of_getElem? (i := 39) rfl))) (notFace_of_selects (args := #[]) (mvT hZ267 (hw _ (List.mem_of_getElem? (i := 41) rfl)))) (mvT hZ267 (hw _ (List.mem_of_getElem? (i := 41) rfl))) (mvT hZ267 (hw _ (List.mem_of_getElem? (i := 40) rfl))) (by decide) (backOf (W := 0) (rm4 l Z a0 hw [] b334 (p0 + (1 : Int64)) (p0 + (1 : Int64)) T338.heap n0 Z339 Fx338_7) hZ267 (hw _ (List.mem_of_getElem? (i := 42) rfl)) (hw _ (List.mem_of_getElem? (i := 2) rfl)) (by decide) (by decide)) q365a q365c (g := (mkF m 126 #[.val (.long p0), .second, .val (.long p1), .second, .val (.int p2), .val (.long (if (p2 &&& (1 : Int32)) = (0 : Int32) then p1 else p0)), .second, .val (.ref b255), .val (.int (1 : Int32)), .val (.int (own_ks p0 p0)), .val (.ref b313), .val (.int (1 : Int32)), .val (.ref b334), .val (.int (1 : Int32)), .unset] [(.long (p0 + (1 : Int64))), (.ref b334)])) rfl (by rw [hml]; rfl) (Steps.refl _) (argsL := [(.long (p0 + (1 : Int64)))]) (rest := []) (lenOf pd_2 rfl) rfl (by show 2 * 0 + _ ≤ _; exact Nat.le_of_eq rfl) (hb hby at_126) (fun _ _ => ⟨rfl, eq362, (by decide : 6 + 0 ≤ _), (by decide : 32 + 0 ≤ _)⟩)
  dsimp only [Pt.U, Pt.locs, Pt.cells, Pt.slots] at X365 l365 y365 z365 st365 hQ365
  subst l365 y365 z365
  obtain ⟨rfl, Nq365, eq365⟩ := hQ365
  have N365 := Fr.app N362 Nq365
  have k366 : ∀ t, Steps p.tables e below (T365.setTop (mkF m 129 #[.val (.long p0), .second, .val (.long p1), .second, .val (.int p2), .val (.long (if (p2 &&& (1 : Int32)) = (0 : Int32) then p1 else p0)), .second, .val (.ref b255), .val (.int (1 : Int32)), .val (.int (own_ks p0 p0)), .val (.ref b313), .val (.int (1 : Int32)), .val (.ref b334), .val (.int (1 : Int32)), .unset] [(.int (own_ks (p0 + (1 : Int64)) (p0 + (1 : Int64))))])) t → Steps p.tables e below (s₁.setTop (entryFrame m #[(.long p0), (.long p1), (.int p2)] maxLocals)) t := fun t k => k364 t (st365.trans k)
  have k367 : ∀ t, Steps p.tables e below (T365.setTop (mkF m 161 #[.val (.long p0), .second, .val (.long p1), .second, .val (.int p2), .val (.long (if (p2 &&& (1 : Int32)) = (0 : Int32) then p1 else p0)), .second, .val (.ref b255), .val (.int (1 : Int32)), .val (.int (own_ks p0 p0)), .val (.ref b313), .val (.int (1 : Int32)), .val (.ref b334), .val (.int (1 : Int32)), .val (.int (own_ks (p0 + (1 : Int64)) (p0 + (1 : Int64))))] [(.int (1 : Int32))])) t → Steps p.tables e below (s₁.setTop (entryFrame m #[(.long p0), (.long p1), (.int p2)] maxLocals)) t := fun t k => k366 t (by
    show Steps p.tables e below (T365.setTop (mkF m 129 #[.val (.long p0), .second, .val (.long p1), .second, .val (.int p2), .val (.long (if (p2 &&& (1 : Int32)) = (0 : Int32) then p1 else p0)), .second, .val (.ref b255), .val (.int (1 : Int32)), .val (.int (own_ks p0 p0)), .val (.ref b313), .val (.int (1 : Int32)), .val (.ref b334), .val (.int (1 : Int32)), .unset] [(.int (own_ks (p0 + (1 : Int64)) (p0 + (1 : Int64))))])) _
    refine XS.istore X365.here hx rfl (hb hby at_129) rfl (l' := #[.val (.long p0), .second, .val (.long p1), .second, .val (.int p2), .val (.long (if (p2 &&& (1 : Int32)) = (0 : Int32) then p1 else p0)), .second, .val (.ref b255), .val (.int (1 : Int32)), .val (.int (own_ks p0 p0)), .val (.ref b313), .val (.int (1 : Int32)), .val (.ref b334), .val (.int (1 : Int32)), .val (.int (own_ks (p0 + (1 : Int64)) (p0 + (1 : Int64))))]) rfl ?_
    show Steps p.tables e below (T365.setTop (mkF m 131 #[.val (.long p0), .second, .val (.long p1), .second, .val (.int p2), .val (.long (if (p2 &&& (1 : Int32)) = (0 : Int32) then p1 else p0)), .second, .val (.ref b255), .val (.int (1 : Int32)), .val (.int (own_ks p0 p0)), .val (.ref b313), .val (.int (1 : Int32)), .val (.ref b334), .val (.int (1 : Int32)), .val (.int (own_ks (p0 + (1 : Int64)) (p0 + (1 : Int64))))] [])) _
    refine XS.iload X365.here hx rfl (hb hby at_131) rfl ?_
    show Steps p.tables e below (T365.setTop (mkF m 133 #[.val (.long p0), .second, .val (.long p1), .second, .val (.int p2), .val (.long (if (p2 &&& (1 : Int32)) = (0 : Int32) then p1 else p0)), .second, .val (.ref b255), .val (.int (1 : Int32)), .val (.int (own_ks p0 p0)), .val (.ref b313), .val (.int (1 : Int32)), .val (.ref b334), .val (.int (1 : Int32)), .val (.int (own_ks (p0 + (1 : Int64)) (p0 + (1 : Int64))))] [(.int (1 : Int32))])) _
    refine XS.ifNo X365.here hx rfl (hb hby at_133) rfl ((if0 _ _).trans (feq (by decide : ¬ ((1 : Int32) = (0 : Int32)))).1) ?_
    show Steps p.tables e below (T365.setTop (mkF m 136 #[.val (.long p0), .second, .val (.long p1), .second, .val (.int p2), .val (.long (if (p2 &&& (1 : Int32)) = (0 : Int32) then p1 else p0)), .second, .val (.ref b255), .val (.int (1 : Int32)), .val (.int (own_ks p0 p0)), .val (.ref b313), .val (.int (1 : Int32)), .val (.ref b334), .val (.int (1 : Int32)), .val (.int (own_ks (p0 + (1 : Int64)) (p0 + (1 : Int64))))] [])) _
    refine XS.iload X365.here hx rfl (hb hby at_136) rfl ?_
    show Steps p.tables e below (T365.setTop (mkF m 138 #[.val (.long p0), .second, .val (.long p1), .second, .val (.int p2), .val (.long (if (p2 &&& (1 : Int32)) = (0 : Int32) then p1 else p0)), .second, .val (.ref b255), .val (.int (1 : Int32)), .val (.int (own_ks p0 p0)), .val (.ref b313), .val (.int (1 : Int32)), .val (.ref b334), .val (.int (1 : Int32)), .val (.int (own_ks (p0 + (1 : Int64)) (p0 + (1 : Int64))))] [(.int (own_ks p0 p0))])) _
    refine XS.ifNo X365.here hx rfl (hb hby at_138) rfl ((if0 _ _).trans (feq (by rw [own_k1]; decide)).1) ?_
    show Steps p.tables e below (T365.setTop (mkF m 141 #[.val (.long p0), .second, .val (.long p1), .second, .val (.int p2), .val (.long (if (p2 &&& (1 : Int32)) = (0 : Int32) then p1 else p0)), .second, .val (.ref b255), .val (.int (1 : Int32)), .val (.int (own_ks p0 p0)), .val (.ref b313), .val (.int (1 : Int32)), .val (.ref b334), .val (.int (1 : Int32)), .val (.int (own_ks (p0 + (1 : Int64)) (p0 + (1 : Int64))))] [])) _
    refine XS.iload X365.here hx rfl (hb hby at_141) rfl ?_
    show Steps p.tables e below (T365.setTop (mkF m 143 #[.val (.long p0), .second, .val (.long p1), .second, .val (.int p2), .val (.long (if (p2 &&& (1 : Int32)) = (0 : Int32) then p1 else p0)), .second, .val (.ref b255), .val (.int (1 : Int32)), .val (.int (own_ks p0 p0)), .val (.ref b313), .val (.int (1 : Int32)), .val (.ref b334), .val (.int (1 : Int32)), .val (.int (own_ks (p0 + (1 : Int64)) (p0 + (1 : Int64))))] [(.int (1 : Int32))])) _
    refine XS.ifNo X365.here hx rfl (hb hby at_143) rfl ((if0 _ _).trans (feq (by decide : ¬ ((1 : Int32) = (0 : Int32)))).1) ?_
    show Steps p.tables e below (T365.setTop (mkF m 146 #[.val (.long p0), .second, .val (.long p1), .second, .val (.int p2), .val (.long (if (p2 &&& (1 : Int32)) = (0 : Int32) then p1 else p0)), .second, .val (.ref b255), .val (.int (1 : Int32)), .val (.int (own_ks p0 p0)), .val (.ref b313), .val (.int (1 : Int32)), .val (.ref b334), .val (.int (1 : Int32)), .val (.int (own_ks (p0 + (1 : Int64)) (p0 + (1 : Int64))))] [])) _
    refine XS.iload X365.here hx rfl (hb hby at_146) rfl ?_
    show Steps p.tables e below (T365.setTop (mkF m 148 #[.val (.long p0), .second, .val (.long p1), .second, .val (.int p2), .val (.long (if (p2 &&& (1 : Int32)) = (0 : Int32) then p1 else p0)), .second, .val (.ref b255), .val (.int (1 : Int32)), .val (.int (own_ks p0 p0)), .val (.ref b313), .val (.int (1 : Int32)), .val (.ref b334), .val (.int (1 : Int32)), .val (.int (own_ks (p0 + (1 : Int64)) (p0 + (1 : Int64))))] [(.int (1 : Int32))])) _
    refine XS.ifNo X365.here hx rfl (hb hby at_148) rfl ((if0 _ _).trans (feq (by decide : ¬ ((1 : Int32) = (0 : Int32)))).1) ?_
    show Steps p.tables e below (T365.setTop (mkF m 151 #[.val (.long p0), .second, .val (.long p1), .second, .val (.int p2), .val (.long (if (p2 &&& (1 : Int32)) = (0 : Int32) then p1 else p0)), .second, .val (.ref b255), .val (.int (1 : Int32)), .val (.int (own_ks p0 p0)), .val (.ref b313), .val (.int (1 : Int32)), .val (.ref b334), .val (.int (1 : Int32)), .val (.int (own_ks (p0 + (1 : Int64)) (p0 + (1 : Int64))))] [])) _
    refine XS.iload X365.here hx rfl (hb hby at_151) rfl ?_
    show Steps p.tables e below (T365.setTop (mkF m 153 #[.val (.long p0), .second, .val (.long p1), .second, .val (.int p2), .val (.long (if (p2 &&& (1 : Int32)) = (0 : Int32) then p1 else p0)), .second, .val (.ref b255), .val (.int (1 : Int32)), .val (.int (own_ks p0 p0)), .val (.ref b313), .val (.int (1 : Int32)), .val (.ref b334), .val (.int (1 : Int32)), .val (.int (own_ks (p0 + (1 : Int64)) (p0 + (1 : Int64))))] [(.int (own_ks (p0 + (1 : Int64)) (p0 + (1 : Int64))))])) _
    refine XS.ifNo X365.here hx rfl (hb hby at_153) rfl ((if0 _ _).trans (feq (by rw [own_k1]; decide)).1) ?_
    show Steps p.tables e below (T365.setTop (mkF m 156 #[.val (.long p0), .second, .val (.long p1), .second, .val (.int p2), .val (.long (if (p2 &&& (1 : Int32)) = (0 : Int32) then p1 else p0)), .second, .val (.ref b255), .val (.int (1 : Int32)), .val (.int (own_ks p0 p0)), .val (.ref b313), .val (.int (1 : Int32)), .val (.ref b334), .val (.int (1 : Int32)), .val (.int (own_ks (p0 + (1 : Int64)) (p0 + (1 : Int64))))] [])) _
    refine XS.iconst X365.here hx rfl (hb hby at_156) ?_
    show Steps p.tables e below (T365.setTop (mkF m 157 #[.val (.long p0), .second, .val (.long p1), .second, .val (.int p2), .val (.long (if (p2 &&& (1 : Int32)) = (0 : Int32) then p1 else p0)), .second, .val (.ref b255), .val (.int (1 : Int32)), .val (.int (own_ks p0 p0)), .val (.ref b313), .val (.int (1 : Int32)), .val (.ref b334), .val (.int (1 : Int32)), .val (.int (own_ks (p0 + (1 : Int64)) (p0 + (1 : Int64))))] [(.int (1 : Int32))])) _
    refine XS.goto X365.here hx rfl (pc0 := 157) (pc' := 161) rfl (hb hby at_157) (by decide) (by decide) ?_
    exact k)
  obtain ⟨fs, hr, hrun, hended, hEW⟩ := X365.leaveW hS267 (by rw [eq365]; exact F341) (v := some (.int (1 : Int32))) (fun h => by rw [Bd.returns] at h; cases h)
  refine ⟨_, _, k367 _ ?_, hrun, hended, _, _, rfl, ?_, hEW.1, hEW.2.1, hEW.2.2.1, hEW.2.2.2.mono (by decide) (by decide)⟩
  · show Steps p.tables e below (T365.setTop (mkF m 161 #[.val (.long p0), .second, .val (.long p1), .second, .val (.int p2), .val (.long (if (p2 &&& (1 : Int32)) = (0 : Int32) then p1 else p0)), .second, .val (.ref b255), .val (.int (1 : Int32)), .val (.int (own_ks p0 p0)), .val (.ref b313), .val (.int (1 : Int32)), .val (.ref b334), .val (.int (1 : Int32)), .val (.int (own_ks (p0 + (1 : Int64)) (p0 + (1 : Int64))))] [(.int (1 : Int32))])) _
    exact retN X365 hx (t := .boolean) Bd.returns (by simp) (hb hby at_161) hr
  · show Q0 Z p0 p1 p2 h0 n0 _ T365.heap _
    rw [eq365]
    exact ⟨rfl, N365⟩
set_option maxRecDepth 65536 in
set_option maxHeartbeats 40000000 in
theorem comes_1 {Post : Tables → Env → Array Value → State → Outcome → State → Prop} (hpost : ∀ tb e args s v u, (limb_1_1.after args s (.returned v) u = true ∧ limb_1_2.after args s (.returned v) u = true ∧ True) → ReturnedEndW s (.returned v) u (Jvm.fieldLocs frame_1_writes args s ++ Jvm.arrayLocs frame_1_arrays args s ++ Jvm.staticLocs frame_1_statics s) 24 1152 → Post tb e args s (.returned v) u) :
    ArmFor flags0 classFile x code maxLocals ret World_1 tables_1 room_1 Calls_1 rest_1 Pre_1 Post := by
  intro l hfl _ _ p e ha hc hk s m args below hf hA hF happ hP
  obtain ⟨hcalls, hrest, hpre⟩ := hP
  obtain ⟨-, -, -, hnamed, -, -, -, hat⟩ := (Spec.applies_iff hf).mp happ
  obtain ⟨hg, hn⟩ := and_e (Cond.before_iff.mp (show (Jvm.Cond.and given_1 narrow_1).before args s = true from hpre))
  obtain ⟨g1, g2⟩ := and_e hg
  obtain ⟨g3, g4⟩ := and_e g2
  obtain ⟨g5, g6⟩ := and_e g4
  obtain ⟨w0, w1, w2, rfl⟩ : ∃ w0 w1 w2 : Value, args = #[w0, w1, w2] := by
    have hs : args.size = 3 := by simpa [Cond.value, given_1] using g1
    obtain ⟨L⟩ := args
    match L, hs with
    | [w0, w1, w2], _ => exact ⟨w0, w1, w2, rfl⟩
  have hw := fun d (hd : d ∈ tables_1) => atoms_spec (ws := Jvm.Cond.code x code maxLocals ret :: tables_1) hat d (List.mem_cons_of_mem _ hd)
  have hfit : Fit s := fun {y c} hc i hi => by
    obtain ⟨ha, rfl⟩ := Array.getElem?_eq_some_iff.mp hc
    have q := List.all_eq_true.mp ((Array.all_eq_true_iff_forall_mem.mp hF) _ (Array.getElem_mem ha)) i (List.mem_range.mpr hi)
    simpa [Array.getElem?_eq_getElem hi] using q
  obtain ⟨i0, ei0⟩ := isL_v g3
  obtain rfl : w0 = (.long i0) := Option.some.inj ei0
  obtain ⟨i1, ei1⟩ := isL_v g5
  obtain rfl : w1 = (.long i1) := Option.some.inj ei1
  obtain ⟨i2, ei2⟩ := is_v g6
  obtain rfl : w2 = (.int i2) := Option.some.inj ei2
  obtain ⟨n, o, h1, h2, h3, _, L, rfl, ⟨rfl, N⟩, hq⟩ := rm0 l s _ hw tables_1 i0 i1 i2 s.heap s.heap.size (Nat.le_refl _)  p e ha hc hk s m _ below hf ((Spec.applies_iff_loose hf).mp happ).1 ⟨rfl, State.Warmed39.refl s, rfl⟩ trivial
  refine ⟨n, _, h1, h2, h3, hpost _ _ _ _ _ _ ⟨Cond.after_iff.mpr rfl, Cond.after_iff.mpr (eq_i res_at (Term.int_eval (1)) rfl), trivial⟩ ⟨hq.1, hq.2.1, hq.2.2.1, (hq.2.2.2.sift fun y hy => Or.inr (N y hy)).mono (by decide) (by decide)⟩⟩
theorem main_1_1 : Claimed_1_1 := comes_1 fun _ _ _ _ _ _ h hF => ⟨h.1, hF⟩
theorem main_1_2 : Claimed_1_2 := comes_1 fun _ _ _ _ _ _ h hF => ⟨h.2.1, hF⟩
end Jvm.Pilot.@@N@@
namespace Jvm.Pilot.@@N@@
open Jvm Jvm.ClassFile Sem Op Lib Jvm.Free Jvm.Stand Jvm.Pilot.@@N@@.Jvm.D
/-! MADE BY PROGRAM (witnessworld.py) out of the Statement's table words and the real class files: 15 classes; the members and pool entries that the words name. The judged class is class 1, her method 1. -/
namespace start1
open Jvm.ClassFile
def u (s : String) : CpInfo := .utf8 (stringToUtf16 s)
/-- a pool by its gaps: so many unusable entries, then the entry; so many at the end -/
def gap : Nat → List CpInfo → List CpInfo
  | 0, r => r
  | n + 1, r => .unusable :: gap n r
def poolList (es : List (Nat × CpInfo)) (last : Nat) : List CpInfo := es.foldr (fun e r => gap e.1 (e.2 :: r)) (gap last [])
def pool (es : List (Nat × CpInfo)) (last : Nat) : Array CpInfo := ⟨poolList es last⟩
def fileOf (pool : Array CpInfo) (this : Nat) (attrs : Array Attribute := #[]) (ms : Array MethodInfo := #[]) (fl : Nat := 33) (sup : Nat := 0) (ifs : Array Nat := #[]) (fds : Array FieldInfo := #[]) : ClassFile where
  minorVersion := 0
  majorVersion := 65
  constantPool := pool
  accessFlags := fl
  thisClass := this
  superClass := sup
  interfaces := ifs
  fields := fds
  methods := ms
  attributes := attrs
def plain (name : String) (sup : Option ClassId) : Class where
  name := name
  kind := .ordinary
  loader := none
  accessFlags := 33
  super := sup
  interfaces := #[]
  cf := none
  fields := #[]
  methods := #[]
  instanceTypes := #[]
  staticTypes := #[]
  resolved := #[]
  callSites := []
  init := .initialized
  statics := none
  mirror := none

def pool0 : Array CpInfo := pool [(5, u "<init>"), (0, u "()V"), (1, .class_ 10), (1, u "java/lang/Object")] 113

def k0c0 : Code := { maxStack := 0, maxLocals := 1, code := object_method_1_code, exceptionTable := #[], attributes := #[] }
def k0m0 : Method := { name := "<init>", desc := "()V", sig := { parameters := [], returnType := none }, accessFlags := 1, code := some k0c0 }
/-- java/lang/Object -/
def k0 : Class := { plain "java/lang/Object" none with
  accessFlags := 33
  interfaces := #[]
  cf := some (fileOf pool0 8 #[] #[{ accessFlags := 1, nameIndex := 5, descriptorIndex := 6, attributes := #[] }] 33 0 #[] #[])
  fields := #[]
  methods := #[k0m0]
  instanceTypes := #[]
  staticTypes := #[]
  resolved := Array.replicate 124 none
  statics := none }

def pool1 : Array CpInfo := pool [(2, .class_ 4), (1, u "java/lang/Object"), (0, u "<init>"), (0, u "()V"), (0, .class_ 8), (0, u "com/example/pen_over_wire/penoverwire/model/User"), (0, .string 10), (0, u "a"), (0, .methodref 7 12), (0, .nameAndType 5 13), (0, u "(Ljava/lang/String;Lcom/example/pen_over_wire/penoverwire/model/Role;Lcom/example/pen_over_wire/penoverwire/crypto/PasswordHash;[BJLcom/example/pen_over_wire/penoverwire/model/FailedAttempts;ZJ)V"), (0, .methodref 7 15), (0, .nameAndType 16 17), (0, u "keepsSessionOf"), (0, u "(J)Z"), (0, .methodref 7 19), (0, .nameAndType 20 21), (0, u "sessionEpoch"), (0, u "()J"), (0, .methodref 7 23), (0, .nameAndType 24 25), (0, u "disable"), (0, u "()Lcom/example/pen_over_wire/penoverwire/model/User;"), (0, .methodref 7 27), (0, .nameAndType 28 25), (0, u "enable"), (0, .class_ 30), (0, u "com/example/pen_over_wire/penoverwire/model/UserKeepsSessionOfPinLaw"), (2, u "law"), (0, u "(JJI)Z")] 3

def k1m0 : Method := { name := "<init>", desc := "()V", sig := { parameters := [], returnType := none }, accessFlags := 2, code := none }
def k1c1 : Code := { maxStack := 12, maxLocals := 15, code := code, exceptionTable := #[], attributes := #[] }
def k1m1 : Method := { name := "law", desc := "(JJI)Z", sig := { parameters := [.long, .long, .int], returnType := some .boolean }, accessFlags := 9, code := some k1c1 }
/-- com/example/pen_over_wire/penoverwire/model/UserKeepsSessionOfPinLaw -/
def k1 : Class := { plain "com/example/pen_over_wire/penoverwire/model/UserKeepsSessionOfPinLaw" (some 0) with
  accessFlags := 49
  interfaces := #[]
  cf := some (fileOf pool1 29 #[] #[{ accessFlags := 2, nameIndex := 5, descriptorIndex := 6, attributes := #[] }, { accessFlags := 9, nameIndex := 33, descriptorIndex := 34, attributes := #[] }] 49 2 #[] #[])
  fields := #[]
  methods := #[k1m0, k1m1]
  instanceTypes := #[]
  staticTypes := #[]
  resolved := Array.replicate 38 none
  statics := none }

def pool2 : Array CpInfo := pool [(1, .methodref 2 3), (0, .class_ 4), (0, .nameAndType 5 6), (0, u "java/lang/Object"), (0, u "<init>"), (0, u "()V"), (0, .class_ 8), (0, u "java/lang/Record")] 13

def k2c0 : Code := { maxStack := 1, maxLocals := 1, code := jdk_30_method_1_code, exceptionTable := #[], attributes := #[] }
def k2m0 : Method := { name := "<init>", desc := "()V", sig := { parameters := [], returnType := none }, accessFlags := 4, code := some k2c0 }
/-- java/lang/Record -/
def k2 : Class := { plain "java/lang/Record" (some 0) with
  accessFlags := 1057
  interfaces := #[]
  cf := some (fileOf pool2 7 #[] #[{ accessFlags := 4, nameIndex := 5, descriptorIndex := 6, attributes := #[] }] 1057 2 #[] #[])
  fields := #[]
  methods := #[k2m0]
  instanceTypes := #[]
  staticTypes := #[]
  resolved := Array.replicate 22 none
  statics := none }

def pool3 : Array CpInfo := pool [(1, .methodref 2 3), (0, .class_ 4), (0, .nameAndType 5 6), (0, u "java/lang/Record"), (0, u "<init>"), (0, u "()V"), (0, .fieldref 8 9), (0, .class_ 10), (0, .nameAndType 11 12), (0, u "com/example/pen_over_wire/penoverwire/model/User"), (0, u "name"), (0, u "Ljava/lang/String;"), (0, .fieldref 8 14), (0, .nameAndType 15 16), (0, u "role"), (0, u "Lcom/example/pen_over_wire/penoverwire/model/Role;"), (0, .fieldref 8 18), (0, .nameAndType 19 20), (0, u "password"), (0, u "Lcom/example/pen_over_wire/penoverwire/crypto/PasswordHash;"), (0, .fieldref 8 22), (0, .nameAndType 23 24), (0, u "totpSecret"), (0, u "[B"), (0, .fieldref 8 26), (0, .nameAndType 27 28), (0, u "lastOtpStep"), (0, u "J"), (0, .fieldref 8 30), (0, .nameAndType 31 32), (0, u "failedLogins"), (0, u "Lcom/example/pen_over_wire/penoverwire/model/FailedAttempts;"), (0, .fieldref 8 34), (0, .nameAndType 35 36), (0, u "disabled"), (0, u "Z"), (0, .fieldref 8 38), (0, .nameAndType 39 28), (0, u "sessionEpoch"), (0, .methodref 8 41), (0, .nameAndType 5 42), (0, u "(Ljava/lang/String;Lcom/example/pen_over_wire/penoverwire/model/Role;Lcom/example/pen_over_wire/penoverwire/crypto/PasswordHash;[BJLcom/example/pen_over_wire/penoverwire/model/FailedAttempts;ZJ)V"), (2, u "NAME"), (0, u "Ljava/util/regex/Pattern;"), (37, u "disable"), (0, u "()Lcom/example/pen_over_wire/penoverwire/model/User;"), (0, u "enable"), (0, u "keepsSessionOf"), (0, u "(J)Z"), (9, u "()J")] 29

def k3c0 : Code := { maxStack := 3, maxLocals := 11, code := prog_34_method_1_code, exceptionTable := #[], attributes := #[] }
def k3m0 : Method := { name := "<init>", desc := "(Ljava/lang/String;Lcom/example/pen_over_wire/penoverwire/model/Role;Lcom/example/pen_over_wire/penoverwire/crypto/PasswordHash;[BJLcom/example/pen_over_wire/penoverwire/model/FailedAttempts;ZJ)V", sig := { parameters := [(.object "java/lang/String"), (.object "com/example/pen_over_wire/penoverwire/model/Role"), (.object "com/example/pen_over_wire/penoverwire/crypto/PasswordHash"), (.array .byte), .long, (.object "com/example/pen_over_wire/penoverwire/model/FailedAttempts"), .boolean, .long], returnType := none }, accessFlags := 1, code := some k3c0 }
def k3c1 : Code := { maxStack := 14, maxLocals := 1, code := prog_34_method_4_code, exceptionTable := #[], attributes := #[] }
def k3m1 : Method := { name := "disable", desc := "()Lcom/example/pen_over_wire/penoverwire/model/User;", sig := { parameters := [], returnType := some (.object "com/example/pen_over_wire/penoverwire/model/User") }, accessFlags := 1, code := some k3c1 }
def k3c2 : Code := { maxStack := 12, maxLocals := 1, code := prog_34_method_5_code, exceptionTable := #[], attributes := #[] }
def k3m2 : Method := { name := "enable", desc := "()Lcom/example/pen_over_wire/penoverwire/model/User;", sig := { parameters := [], returnType := some (.object "com/example/pen_over_wire/penoverwire/model/User") }, accessFlags := 1, code := some k3c2 }
def k3c3 : Code := { maxStack := 4, maxLocals := 3, code := prog_34_method_6_code, exceptionTable := #[], attributes := #[] }
def k3m3 : Method := { name := "keepsSessionOf", desc := "(J)Z", sig := { parameters := [.long], returnType := some .boolean }, accessFlags := 1, code := some k3c3 }
def k3c4 : Code := { maxStack := 2, maxLocals := 1, code := prog_34_method_18_code, exceptionTable := #[], attributes := #[] }
def k3m4 : Method := { name := "sessionEpoch", desc := "()J", sig := { parameters := [], returnType := some .long }, accessFlags := 1, code := some k3c4 }
/-- com/example/pen_over_wire/penoverwire/model/User -/
def k3 : Class := { plain "com/example/pen_over_wire/penoverwire/model/User" (some 2) with
  accessFlags := 49
  interfaces := #[]
  cf := some (fileOf pool3 8 #[] #[{ accessFlags := 1, nameIndex := 5, descriptorIndex := 42, attributes := #[] }, { accessFlags := 1, nameIndex := 84, descriptorIndex := 85, attributes := #[] }, { accessFlags := 1, nameIndex := 86, descriptorIndex := 85, attributes := #[] }, { accessFlags := 1, nameIndex := 87, descriptorIndex := 88, attributes := #[] }, { accessFlags := 1, nameIndex := 39, descriptorIndex := 98, attributes := #[] }] 49 2 #[] #[{ accessFlags := 18, nameIndex := 11, descriptorIndex := 12, attributes := #[] }, { accessFlags := 18, nameIndex := 15, descriptorIndex := 16, attributes := #[] }, { accessFlags := 18, nameIndex := 19, descriptorIndex := 20, attributes := #[] }, { accessFlags := 18, nameIndex := 23, descriptorIndex := 24, attributes := #[] }, { accessFlags := 18, nameIndex := 27, descriptorIndex := 28, attributes := #[] }, { accessFlags := 18, nameIndex := 31, descriptorIndex := 32, attributes := #[] }, { accessFlags := 18, nameIndex := 35, descriptorIndex := 36, attributes := #[] }, { accessFlags := 18, nameIndex := 39, descriptorIndex := 28, attributes := #[] }, { accessFlags := 26, nameIndex := 45, descriptorIndex := 46, attributes := #[] }])
  fields := #[{ name := "name", type := (.object "java/lang/String"), accessFlags := 18, slot := 0, constantValue := 0 }, { name := "role", type := (.object "com/example/pen_over_wire/penoverwire/model/Role"), accessFlags := 18, slot := 1, constantValue := 0 }, { name := "password", type := (.object "com/example/pen_over_wire/penoverwire/crypto/PasswordHash"), accessFlags := 18, slot := 2, constantValue := 0 }, { name := "totpSecret", type := (.array .byte), accessFlags := 18, slot := 3, constantValue := 0 }, { name := "lastOtpStep", type := .long, accessFlags := 18, slot := 4, constantValue := 0 }, { name := "failedLogins", type := (.object "com/example/pen_over_wire/penoverwire/model/FailedAttempts"), accessFlags := 18, slot := 5, constantValue := 0 }, { name := "disabled", type := .boolean, accessFlags := 18, slot := 6, constantValue := 0 }, { name := "sessionEpoch", type := .long, accessFlags := 18, slot := 7, constantValue := 0 }, { name := "NAME", type := (.object "java/util/regex/Pattern"), accessFlags := 26, slot := 0, constantValue := 0 }]
  methods := #[k3m0, k3m1, k3m2, k3m3, k3m4]
  instanceTypes := #[(.object "java/lang/String"), (.object "com/example/pen_over_wire/penoverwire/model/Role"), (.object "com/example/pen_over_wire/penoverwire/crypto/PasswordHash"), (.array .byte), .long, (.object "com/example/pen_over_wire/penoverwire/model/FailedAttempts"), .boolean, .long]
  staticTypes := #[(.object "java/util/regex/Pattern")]
  resolved := Array.replicate 128 none
  statics := none }

def pool4 : Array CpInfo := pool [(1, .class_ 2), (0, u "java/io/Serializable"), (0, .class_ 4), (0, u "java/lang/Object")] 2

/-- java/io/Serializable -/
def k4 : Class := { plain "java/io/Serializable" (some 0) with
  accessFlags := 1537
  interfaces := #[]
  cf := some (fileOf pool4 1 #[] #[] 1537 3 #[] #[])
  fields := #[]
  methods := #[]
  instanceTypes := #[]
  staticTypes := #[]
  resolved := Array.replicate 7 none
  statics := none }

def pool5 : Array CpInfo := pool [(1, .class_ 2), (0, u "java/lang/Comparable"), (0, .class_ 4), (0, u "java/lang/Object")] 7

/-- java/lang/Comparable -/
def k5 : Class := { plain "java/lang/Comparable" (some 0) with
  accessFlags := 1537
  interfaces := #[]
  cf := some (fileOf pool5 1 #[] #[] 1537 3 #[] #[])
  fields := #[]
  methods := #[]
  instanceTypes := #[]
  staticTypes := #[]
  resolved := Array.replicate 12 none
  statics := none }

def pool6 : Array CpInfo := pool [(2, .class_ 4), (1, u "java/lang/CharSequence"), (42, .class_ 48), (0, u "java/lang/CharSequence$1CodePointIterator"), (10, .class_ 60), (0, u "java/lang/CharSequence$1CharIterator"), (5, .class_ 67), (0, u "java/lang/Object")] 63

/-- java/lang/CharSequence -/
def k6 : Class := { plain "java/lang/CharSequence" (some 0) with
  accessFlags := 1537
  interfaces := #[]
  cf := some (fileOf pool6 2 #[.nestMembers #[47, 59]] #[] 1537 66 #[] #[])
  fields := #[]
  methods := #[]
  instanceTypes := #[]
  staticTypes := #[]
  resolved := Array.replicate 131 none
  statics := none }

def pool7 : Array CpInfo := pool [(1, .class_ 2), (0, u "java/lang/constant/Constable"), (0, .class_ 4), (0, u "java/lang/Object")] 6

/-- java/lang/constant/Constable -/
def k7 : Class := { plain "java/lang/constant/Constable" (some 0) with
  accessFlags := 1537
  interfaces := #[]
  cf := some (fileOf pool7 1 #[] #[] 1537 3 #[] #[])
  fields := #[]
  methods := #[]
  instanceTypes := #[]
  staticTypes := #[]
  resolved := Array.replicate 11 none
  statics := none }

def pool8 : Array CpInfo := pool [(1, .class_ 2), (0, u "java/lang/constant/ConstantDesc"), (0, .class_ 4), (0, u "java/lang/Object")] 32

/-- java/lang/constant/ConstantDesc -/
def k8 : Class := { plain "java/lang/constant/ConstantDesc" (some 0) with
  accessFlags := 1537
  interfaces := #[]
  cf := some (fileOf pool8 1 #[] #[] 1537 3 #[] #[])
  fields := #[]
  methods := #[]
  instanceTypes := #[]
  staticTypes := #[]
  resolved := Array.replicate 37 none
  statics := none }

def pool9 : Array CpInfo := pool [(2, .class_ 4), (1, u "java/lang/Object"), (0, u "<init>"), (0, u "()V"), (3, .class_ 12), (1, u "java/lang/String"), (0, u "value"), (0, u "[B"), (2, u "coder"), (0, u "B"), (2, u "hash"), (0, u "I"), (2, u "hashIsZero"), (0, u "Z"), (13, u "COMPACT_STRINGS"), (534, .class_ 576), (0, u "java/lang/CharSequence"), (22, u "CASE_INSENSITIVE_ORDER"), (0, u "Ljava/util/Comparator;"), (500, u "serialPersistentFields"), (0, u "[Ljava/io/ObjectStreamField;"), (0, .class_ 1104), (0, u "java/lang/String$CaseInsensitiveComparator"), (1, .class_ 1107), (0, u "java/io/Serializable"), (0, .class_ 1109), (0, u "java/lang/Comparable"), (0, .class_ 1111), (0, u "java/lang/constant/Constable"), (0, .class_ 1113), (0, u "java/lang/constant/ConstantDesc"), (2, u "serialVersionUID"), (0, u "J"), (3, u "REPL"), (0, u "C"), (2, u "LATIN1"), (1, u "UTF16")] 323

def k9m0 : Method := { name := "<init>", desc := "()V", sig := { parameters := [], returnType := none }, accessFlags := 1, code := none }
/-- java/lang/String -/
def k9 : Class := { plain "java/lang/String" (some 0) with
  accessFlags := 49
  interfaces := #[4, 5, 6, 7, 8]
  cf := some (fileOf pool9 10 #[.nestMembers #[1103]] #[{ accessFlags := 1, nameIndex := 5, descriptorIndex := 6, attributes := #[] }] 49 2 #[1106, 1108, 575, 1110, 1112] #[{ accessFlags := 18, nameIndex := 13, descriptorIndex := 14, attributes := #[] }, { accessFlags := 18, nameIndex := 17, descriptorIndex := 18, attributes := #[] }, { accessFlags := 2, nameIndex := 21, descriptorIndex := 22, attributes := #[] }, { accessFlags := 2, nameIndex := 25, descriptorIndex := 26, attributes := #[] }, { accessFlags := 26, nameIndex := 1116, descriptorIndex := 1117, attributes := #[] }, { accessFlags := 24, nameIndex := 40, descriptorIndex := 26, attributes := #[] }, { accessFlags := 26, nameIndex := 1101, descriptorIndex := 1102, attributes := #[] }, { accessFlags := 26, nameIndex := 1121, descriptorIndex := 1122, attributes := #[] }, { accessFlags := 25, nameIndex := 599, descriptorIndex := 600, attributes := #[] }, { accessFlags := 24, nameIndex := 1125, descriptorIndex := 18, attributes := #[] }, { accessFlags := 24, nameIndex := 1127, descriptorIndex := 18, attributes := #[] }])
  fields := #[{ name := "value", type := (.array .byte), accessFlags := 18, slot := 0, constantValue := 0 }, { name := "coder", type := .byte, accessFlags := 18, slot := 1, constantValue := 0 }, { name := "hash", type := .int, accessFlags := 2, slot := 2, constantValue := 0 }, { name := "hashIsZero", type := .boolean, accessFlags := 2, slot := 3, constantValue := 0 }, { name := "serialVersionUID", type := .long, accessFlags := 26, slot := 0, constantValue := 0 }, { name := "COMPACT_STRINGS", type := .boolean, accessFlags := 24, slot := 1, constantValue := 0 }, { name := "serialPersistentFields", type := (.array (.object "java/io/ObjectStreamField")), accessFlags := 26, slot := 2, constantValue := 0 }, { name := "REPL", type := .char, accessFlags := 26, slot := 3, constantValue := 0 }, { name := "CASE_INSENSITIVE_ORDER", type := (.object "java/util/Comparator"), accessFlags := 25, slot := 4, constantValue := 0 }, { name := "LATIN1", type := .byte, accessFlags := 24, slot := 5, constantValue := 0 }, { name := "UTF16", type := .byte, accessFlags := 24, slot := 6, constantValue := 0 }]
  methods := #[k9m0]
  instanceTypes := #[(.array .byte), .byte, .int, .boolean]
  staticTypes := #[.long, .boolean, (.array (.object "java/io/ObjectStreamField")), .char, (.object "java/util/Comparator"), .byte, .byte]
  resolved := Array.replicate 1451 none
  statics := none }

def pool10 : Array CpInfo := pool [(1, u "java/lang/Cloneable"), (0, .class_ 1), (0, u "java/lang/Object"), (0, .class_ 3)] 3

/-- java/lang/Cloneable -/
def k10 : Class := { plain "java/lang/Cloneable" (some 0) with
  accessFlags := 1537
  interfaces := #[]
  cf := some (fileOf pool10 2 #[] #[] 1537 4 #[] #[])
  fields := #[]
  methods := #[]
  instanceTypes := #[]
  staticTypes := #[]
  resolved := Array.replicate 8 none
  statics := none }

/-- the primitive byte -/
def k11 : Class := { plain "byte" none with kind := .primitive 'B', accessFlags := 0x411 }
/-- [B -/
def k12 : Class := { plain "[B" (some 0) with kind := .array 11 .byte, interfaces := #[10, 4], accessFlags := 1041 }

/-- the primitive int -/
def k13 : Class := { plain "int" none with kind := .primitive 'I', accessFlags := 0x411 }
/-- [I -/
def k14 : Class := { plain "[I" (some 0) with kind := .array 13 .int, interfaces := #[10, 4], accessFlags := 1041 }

def heap : Heap := #[]
def classes : Array Class := #[k0, k1, k2, k3, k4, k5, k6, k7, k8, k9, k10, k11, k12, k13, k14]
def interned : List (Array UInt16 × Addr) := []
def slotsUsed : Nat := 0
def theMethod : MethodId := ⟨1, 1⟩
def args0 : Array Value := #[.long 5, .long 5, .int 5]
def aboutOver (below : List Frame) : State where
  vm := { classes := classes, interned := interned.toArray }
  heap := heap
  slotsUsed := slotsUsed
  threads := #[{ frames := .invoking theMethod args0 :: below }]
def below0 : List Frame := [.native { method := ⟨0, 0⟩, args := #[] }]
def about1 : State := aboutOver below0
def p0 : Program := .bare "" "" ""
def e0 : Env := launch0.env 0 0 0
theorem w_frames : about1.frames = Frame.invoking theMethod args0 :: below0 := rfl
set_option maxRecDepth 65536 in
theorem w_args : argsFit about1.vm theMethod args0 = true := by decide +kernel
set_option maxRecDepth 65536 in
theorem w_heap : heapFits about1 = true := by decide +kernel
set_option maxRecDepth 65536 in
theorem w_runnable : about1.curStatus? = some .runnable := by decide +kernel
set_option maxRecDepth 65536 in
theorem w_alone : about1.alone = true := by decide +kernel
set_option maxRecDepth 65536 in
theorem w_named : about1.methodNamed? x = some theMethod := by decide +kernel
set_option maxRecDepth 65536 in
theorem w_hears : about1.hears theMethod below0 = true := by decide +kernel
set_option maxRecDepth 65536 in
theorem w_ripe : about1.ripe theMethod args0 below0 = true := by decide +kernel
theorem w_running : about1.status = .running := rfl
set_option maxRecDepth 65536 in
theorem w_room : about1.hasRoom e0.platform room_1 = true :=
  launch0.hasRoom_least _ room_1 (by decide +kernel) (by decide +kernel) (by decide +kernel) (by decide +kernel) (by decide +kernel) (by decide +kernel)
theorem allAtoms_all (ts : List Jvm.Cond) (a : Array Jvm.Value) (st : Jvm.State) : (allAtoms ts).before a st = ts.all (fun c => c.before a st) := by
  induction ts with
  | nil => rfl
  | cons c t ih =>
    show (Jvm.Cond.and c (allAtoms t)).before a st = _
    rw [Jvm.Cond.before_and, ih, List.all_cons]
def words1 : List Jvm.Cond := Jvm.Cond.code x code maxLocals ret :: tables_1
/-- a 'code' word, met by the world's own term for the bytes: nothing is compared byte by byte -/
theorem code_word {y : MethodName} {bytes : ByteArray} {mx : Nat} {rt : Option FieldType} {a : Array Value} {s : State} {m : MethodId} {meth : Method} {c : Code} (h1 : s.methodNamed? y = some m) (h2 : s.vm.method? m = some meth) (h3 : meth.code = some c) (h4 : c.code = bytes)
    (h5 : (c.maxLocals == mx && c.exceptionTable.isEmpty && decide (c.maxStack ≤ mostOperands) && decide (meth.sig.returnType = rt) && !meth.locks && decide (parseMethodDescriptor y.desc = some meth.sig)) = true) : (Jvm.Cond.code y bytes mx rt).before a s = true := by
  simp only [Bool.and_eq_true, beq_iff_eq, Bool.not_eq_true', decide_eq_true_eq] at h5
  obtain ⟨⟨⟨⟨⟨g1, g2⟩, g3⟩, g4⟩, g5⟩, g6⟩ := h5
  simp [Cond.before, Cond.holds, Cond.value, h1, h2, h3, h4, g1, g2, g3, g4, g5, g6]
def isCode : Jvm.Cond → Bool
  | .code _ _ _ _ => true
  | _ => false
theorem all_split {L : List Jvm.Cond} {P : Jvm.Cond → Bool} (h1 : L.all (fun c => isCode c || P c) = true) (h2 : ∀ c ∈ L.filter isCode, P c = true) : L.all P = true := by
  refine List.all_eq_true.mpr fun c hc => ?_
  have h := List.all_eq_true.mp h1 c hc
  rcases Bool.eq_false_or_eq_true (isCode c) with hi | hi
  · exact h2 c (List.mem_filter.mpr ⟨hc, hi⟩)
  · simpa [hi] using h
set_option maxRecDepth 65536 in
theorem w_c0 : (Jvm.Cond.code x code maxLocals ret).before args0 about1 = true := code_word (m := ⟨1, 1⟩) (meth := k1m1) (c := k1c1) (by decide +kernel) rfl rfl rfl (by decide +kernel)
set_option maxRecDepth 65536 in
theorem w_c1 : (Jvm.Cond.code ({ cls := "com/example/pen_over_wire/penoverwire/model/User", name := "<init>", desc := "(Ljava/lang/String;Lcom/example/pen_over_wire/penoverwire/model/Role;Lcom/example/pen_over_wire/penoverwire/crypto/PasswordHash;[BJLcom/example/pen_over_wire/penoverwire/model/FailedAttempts;ZJ)V" } : Jvm.MethodName) prog_34_method_1_code (11 : Nat) (Option.none : Option Jvm.ClassFile.FieldType)).before args0 about1 = true := code_word (m := ⟨3, 0⟩) (meth := k3m0) (c := k3c0) (by decide +kernel) rfl rfl rfl (by decide +kernel)
set_option maxRecDepth 65536 in
theorem w_c2 : (Jvm.Cond.code ({ cls := "java/lang/Record", name := "<init>", desc := "()V" } : Jvm.MethodName) jdk_30_method_1_code (1 : Nat) (Option.none : Option Jvm.ClassFile.FieldType)).before args0 about1 = true := code_word (m := ⟨2, 0⟩) (meth := k2m0) (c := k2c0) (by decide +kernel) rfl rfl rfl (by decide +kernel)
set_option maxRecDepth 65536 in
theorem w_c3 : (Jvm.Cond.code ({ cls := "java/lang/Object", name := "<init>", desc := "()V" } : Jvm.MethodName) object_method_1_code (1 : Nat) (Option.none : Option Jvm.ClassFile.FieldType)).before args0 about1 = true := code_word (m := ⟨0, 0⟩) (meth := k0m0) (c := k0c0) (by decide +kernel) rfl rfl rfl (by decide +kernel)
set_option maxRecDepth 65536 in
theorem w_c4 : (Jvm.Cond.code ({ cls := "com/example/pen_over_wire/penoverwire/model/User", name := "keepsSessionOf", desc := "(J)Z" } : Jvm.MethodName) prog_34_method_6_code (3 : Nat) (Option.some Jvm.ClassFile.FieldType.boolean)).before args0 about1 = true := code_word (m := ⟨3, 3⟩) (meth := k3m3) (c := k3c3) (by decide +kernel) rfl rfl rfl (by decide +kernel)
set_option maxRecDepth 65536 in
theorem w_c5 : (Jvm.Cond.code ({ cls := "com/example/pen_over_wire/penoverwire/model/User", name := "sessionEpoch", desc := "()J" } : Jvm.MethodName) prog_34_method_18_code (1 : Nat) (Option.some Jvm.ClassFile.FieldType.long)).before args0 about1 = true := code_word (m := ⟨3, 4⟩) (meth := k3m4) (c := k3c4) (by decide +kernel) rfl rfl rfl (by decide +kernel)
set_option maxRecDepth 65536 in
theorem w_c6 : (Jvm.Cond.code ({ cls := "com/example/pen_over_wire/penoverwire/model/User", name := "disable", desc := "()Lcom/example/pen_over_wire/penoverwire/model/User;" } : Jvm.MethodName) prog_34_method_4_code (1 : Nat) (Option.some (Jvm.ClassFile.FieldType.object "com/example/pen_over_wire/penoverwire/model/User"))).before args0 about1 = true := code_word (m := ⟨3, 1⟩) (meth := k3m1) (c := k3c1) (by decide +kernel) rfl rfl rfl (by decide +kernel)
set_option maxRecDepth 65536 in
theorem w_c7 : (Jvm.Cond.code ({ cls := "com/example/pen_over_wire/penoverwire/model/User", name := "enable", desc := "()Lcom/example/pen_over_wire/penoverwire/model/User;" } : Jvm.MethodName) prog_34_method_5_code (1 : Nat) (Option.some (Jvm.ClassFile.FieldType.object "com/example/pen_over_wire/penoverwire/model/User"))).before args0 about1 = true := code_word (m := ⟨3, 2⟩) (meth := k3m2) (c := k3c2) (by decide +kernel) rfl rfl rfl (by decide +kernel)
def codes1 : List Jvm.Cond := [Jvm.Cond.code x code maxLocals ret, Jvm.Cond.code ({ cls := "com/example/pen_over_wire/penoverwire/model/User", name := "<init>", desc := "(Ljava/lang/String;Lcom/example/pen_over_wire/penoverwire/model/Role;Lcom/example/pen_over_wire/penoverwire/crypto/PasswordHash;[BJLcom/example/pen_over_wire/penoverwire/model/FailedAttempts;ZJ)V" } : Jvm.MethodName) prog_34_method_1_code (11 : Nat) (Option.none : Option Jvm.ClassFile.FieldType), Jvm.Cond.code ({ cls := "java/lang/Record", name := "<init>", desc := "()V" } : Jvm.MethodName) jdk_30_method_1_code (1 : Nat) (Option.none : Option Jvm.ClassFile.FieldType), Jvm.Cond.code ({ cls := "java/lang/Object", name := "<init>", desc := "()V" } : Jvm.MethodName) object_method_1_code (1 : Nat) (Option.none : Option Jvm.ClassFile.FieldType), Jvm.Cond.code ({ cls := "com/example/pen_over_wire/penoverwire/model/User", name := "keepsSessionOf", desc := "(J)Z" } : Jvm.MethodName) prog_34_method_6_code (3 : Nat) (Option.some Jvm.ClassFile.FieldType.boolean), Jvm.Cond.code ({ cls := "com/example/pen_over_wire/penoverwire/model/User", name := "sessionEpoch", desc := "()J" } : Jvm.MethodName) prog_34_method_18_code (1 : Nat) (Option.some Jvm.ClassFile.FieldType.long), Jvm.Cond.code ({ cls := "com/example/pen_over_wire/penoverwire/model/User", name := "disable", desc := "()Lcom/example/pen_over_wire/penoverwire/model/User;" } : Jvm.MethodName) prog_34_method_4_code (1 : Nat) (Option.some (Jvm.ClassFile.FieldType.object "com/example/pen_over_wire/penoverwire/model/User")), Jvm.Cond.code ({ cls := "com/example/pen_over_wire/penoverwire/model/User", name := "enable", desc := "()Lcom/example/pen_over_wire/penoverwire/model/User;" } : Jvm.MethodName) prog_34_method_5_code (1 : Nat) (Option.some (Jvm.ClassFile.FieldType.object "com/example/pen_over_wire/penoverwire/model/User"))]
set_option maxRecDepth 65536 in
theorem codes_eq : words1.filter isCode = codes1 := rfl
theorem w_codes : ∀ c ∈ words1.filter isCode, c.before args0 about1 = true := by
  rw [codes_eq]
  intro c hc
  simp only [codes1, List.mem_cons, List.not_mem_nil, or_false] at hc
  rcases hc with rfl | rfl | rfl | rfl | rfl | rfl | rfl | rfl
  · exact w_c0
  · exact w_c1
  · exact w_c2
  · exact w_c3
  · exact w_c4
  · exact w_c5
  · exact w_c6
  · exact w_c7
set_option maxRecDepth 65536 in
theorem w_t1 : (words1.take 24).all (fun c => isCode c || c.before args0 about1) = true := by decide +kernel
set_option maxRecDepth 65536 in
theorem w_t2 : ((words1.drop 24).take 24).all (fun c => isCode c || c.before args0 about1) = true := by decide +kernel
set_option maxRecDepth 65536 in
theorem w_t3 : ((words1.drop 24).drop 24).all (fun c => isCode c || c.before args0 about1) = true := by decide +kernel
theorem w_tables : (allAtoms (Jvm.Cond.code x code maxLocals ret :: tables_1)).before args0 about1 = true := by
  rw [allAtoms_all]
  show words1.all (fun c => c.before args0 about1) = true
  refine all_split ?_ w_codes
  rw [← List.take_append_drop 24 words1, List.all_append, w_t1, ← List.take_append_drop 24 (words1.drop 24), List.all_append, w_t2, w_t3]
  rfl
set_option maxRecDepth 65536 in
theorem w_case : (Jvm.Cond.and given_1 narrow_1).before args0 about1 = true := by decide +kernel
theorem w_applies : (headSpec (Jvm.Cond.code x code maxLocals ret :: tables_1) room_1).applies x e0.platform about1 = true :=
  (Spec.applies_iff w_frames).mpr ⟨w_running, w_runnable, w_alone, w_named, w_hears, w_ripe, w_room, w_tables⟩
theorem atStart : AtStart classFile x code maxLocals ret World_1 tables_1 room_1 Calls_1 rest_1 Pre_1 launch0 p0 e0 about1 theMethod args0 below0 :=
  ⟨lists_1, trivial, launch0.admits_env _ _ _, launch0.least_env, fairChoices_fair.cas, fairChoices_fair.clock, w_frames, w_args, w_heap, w_applies, trivial, trivial, w_case⟩
end start1
theorem witness_1 : WitnessClaimed_1 := ⟨start1.p0, start1.e0, start1.about1, start1.theMethod, start1.args0, start1.below0, start1.atStart⟩
end Jvm.Pilot.@@N@@
