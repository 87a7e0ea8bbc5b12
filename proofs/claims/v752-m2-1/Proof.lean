import JvmDerived
import JvmDerived.Pilot.@@N@@Statement
import JvmDerived.Pilot.@@N@@Code
set_option linter.unusedVariables false
set_option linter.unusedSimpArgs false
namespace Jvm.RoadKit
open Sem ClassFile Op Lib Jvm.Stand Jvm.Free Jvm.LawKit
section New
variable {p : Program} {l : Launch} {e : Env} {R : Room} {s : State} {m : MethodId} {args : Array Value} {below : List Frame} {meth : Method} {c : Code} {T : State} {locs : List Loc} {cells slots : Nat}
theorem retI (X : Stand p l e R s m args below meth c T locs cells slots) (hx : p.tables.exec = Jvm.exec) {pc : Nat} {Ls : Array Slot} {z : Int32} {rest : List Value} (hret : meth.sig.returnType = some .int) (hd : decode c.code pc = .ok (.ireturn, 1)) {fs : List Frame}
    (hl : ∀ (f : JFrame) (acts : List Action), f.method = m → f.locked = none → f.entered = [] → (doReturn e (T.setTop f) acts (some (.int z))).1 = T.setFrames fs) : Steps p.tables e below (T.setTop (mkF m pc Ls (.int z :: rest))) (T.setFrames fs) :=
  retOut X hx hret rfl (Or.inl ⟨rfl, Or.inl rfl, z, rfl⟩) hd hl
theorem own_hide {n0 : Nat} (X : Stand p l e R s m args below meth c T locs cells slots) (N : Fr n0 locs) : ∃ L, Stand p l e R s m args below meth c T L cells slots ∧ Fr n0 L := ⟨_, X, N⟩
theorem own_catR {v : Value} (h : v.isRef = true) : v.category = 1 := by rcases ref_cases h with rfl | ⟨a, rfl⟩ <;> rfl
theorem own_iteR (P : Prop) [Decidable P] {a b : Value} (ha : a.isRef = true) (hb : b.isRef = true) : (if P then a else b).isRef = true := by
  by_cases h : P
  · rw [if_pos h]; exact ha
  · rw [if_neg h]; exact hb
end New
end Jvm.RoadKit
namespace Jvm.Pilot.@@N@@
open Jvm Jvm.ClassFile Sem Op Lib Jvm.Free Jvm.Stand Jvm.LawKit Jvm.RoadKit Bundle Jvm.Pilot.@@N@@.Jvm.D
def own_cap (n z : Int32) : Int32 := if n = z then z * (2 : Int32) else z
def own_b (x : Int32) : Int32 := x.toInt8.toInt32
theorem own_bb (x : Int32) : nar .byte (x.toInt8.toInt32) = own_b x := by
  show x.toInt8.toInt32.toInt8.toInt32 = x.toInt8.toInt32
  rw [Int8.toInt8_toInt32]
theorem own_set (vs : List Value) (d w : Value) : (vs ++ [d]).set vs.length w = vs ++ [w] := by simp
theorem own_copy (vs : List Value) (d : Value) (n : Nat) (hl : vs.length ≤ n) (hn : n ≤ 16) : ∀ i, vs.getD i d = ((List.replicate 16 d).take 0 ++ ((List.range n).map fun i => vs.getD (0 + i) d) ++ (List.replicate 16 d).drop (0 + n)).getD i d := fun i => by
  simp only [List.take_zero, List.nil_append, Nat.zero_add, List.getD_eq_getElem?_getD]
  by_cases h : i < n
  · rw [List.getElem?_append_left (by simpa using h)]
    simp [h]
  · rw [List.getElem?_append_right (by simpa using h)]
    rw [List.getElem?_eq_none (by omega)]
    simp only [List.length_map, List.length_range, List.drop_replicate, List.getElem?_replicate]
    split <;> rfl
theorem own_c4 (x : Int32) : ((1 : Int32) + (x &&& (3 : Int32))) = 1 ∨ ((1 : Int32) + (x &&& (3 : Int32))) = 2 ∨ ((1 : Int32) + (x &&& (3 : Int32))) = 3 ∨ ((1 : Int32) + (x &&& (3 : Int32))) = 4 := by
  have h1 := c_mask x 3 2 (by decide) (by decide)
  have z0 : (0 : Int32).toInt = 0 := rfl
  have z1 : (1 : Int32).toInt = 1 := rfl
  have z2 : (2 : Int32).toInt = 2 := rfl
  have z3 : (3 : Int32).toInt = 3 := rfl
  have : (x &&& (3 : Int32)) = 0 ∨ (x &&& (3 : Int32)) = 1 ∨ (x &&& (3 : Int32)) = 2 ∨ (x &&& (3 : Int32)) = 3 := by
    simp only [← Int32.toInt_inj, z0, z1, z2, z3, h1]
    omega
  rcases this with h | h | h | h <;> rw [h] <;> decide
theorem own_n6 (x : Int32) : ((x &&& (2147483647 : Int32)) % (6 : Int32)) = 0 ∨ ((x &&& (2147483647 : Int32)) % (6 : Int32)) = 1 ∨ ((x &&& (2147483647 : Int32)) % (6 : Int32)) = 2 ∨ ((x &&& (2147483647 : Int32)) % (6 : Int32)) = 3 ∨ ((x &&& (2147483647 : Int32)) % (6 : Int32)) = 4 ∨ ((x &&& (2147483647 : Int32)) % (6 : Int32)) = 5 := by
  have h1 := c_mask x 2147483647 31 (by decide) (by decide)
  have h2 := (c_irem (x &&& 2147483647) 6 6 rfl).1 (by rw [h1]; omega)
  have z0 : (0 : Int32).toInt = 0 := rfl
  have z1 : (1 : Int32).toInt = 1 := rfl
  have z2 : (2 : Int32).toInt = 2 := rfl
  have z3 : (3 : Int32).toInt = 3 := rfl
  have z4 : (4 : Int32).toInt = 4 := rfl
  have z5 : (5 : Int32).toInt = 5 := rfl
  simp only [← Int32.toInt_inj, z0, z1, z2, z3, z4, z5, h2]
  omega
theorem d2_0 : decode jdk_2038_method_1_code 0 = .ok (.aload_n 0, 1) := by decide +kernel
theorem d2_1 : decode jdk_2038_method_1_code 1 = .ok (.invokespecial 1, 3) := by decide +kernel
theorem d2_4 : decode jdk_2038_method_1_code 4 = .ok (.return_, 1) := by decide +kernel
theorem pn_0 : plainName "java/io/OutputStream" = true := by first | (simp [plainName, overriddenIn]; done) | decide +kernel
theorem ef_2 (m : MethodId) (x0 : Addr) : entryFrame m #[(.ref x0)] 1 = mkF m 0 #[.val (.ref x0)] [] := by first | (simp [entryFrame, mkF, argsToLocals, Value.category]; done) | rfl
def Q2 (Z : State) (a : Addr) (h0 : Heap) (n0 : Nat) (v : Option Value) (h : Heap) (L : List Loc) : Prop := v = none ∧ Fr n0 L ∧ h = h0
set_option maxRecDepth 65536 in
set_option maxHeartbeats 40000000 in
theorem rm2 (l : Launch) (Z : State) (a0 : Array Value) (hw : ∀ d ∈ tables_1, d.before a0 Z = true) (ws : List Jvm.Cond) (a : Addr) (h0 : Heap) (n0 : Nat) (Z0 : n0 ≤ h0.size) :
    MetFree l (⟨"java/io/OutputStream", "<init>", "()V"⟩ : MethodName) (head1 (Jvm.Cond.code (⟨"java/io/OutputStream", "<init>", "()V"⟩ : MethodName) jdk_2038_method_1_code 1 none :: ws) ({ frames := 1, cells := 0, slots := 0, locals := 12 } : Room)) (fun aa U => aa = #[(.ref a)] ∧ Z.Warmed39 U.vm ∧ U.heap = h0) (fun _ _ _ _ _ => True) (fun _ U o U' => ∃ v L, o = .returned v ∧ Q2 Z a h0 n0 v U'.heap L ∧ FrameEnd U o U' L ({ frames := 1, cells := 0, slots := 0, locals := 12 } : Room).cells ({ frames := 1, cells := 0, slots := 0, locals := 12 } : Room).slots) := by
  refine MetFree.of_bodySF (plainFor_of_name pn_0) hisR ?_
  intro p e s m args below meth c s₁ Bd hml0 hP hK
  obtain ⟨rfl, hZ, hh⟩ := hP
  have hx := Bd.exec
  have hby := Bd.bytes
  have hml : c.maxLocals = 1 := hml0
  have hown : s.vm.findClass "java/io/OutputStream" = some m.cls := findClass_of_methodNamed Bd.named
  have hnm := (name_of_methodNamed Bd.named Bd.method).1
  have X0 : Stand p l e ({ frames := 1, cells := 0, slots := 0, locals := 12 } : Room) s m #[(.ref a)] below meth c s₁ [] 0 0 := Stand.of_body Bd
  have e0 : s₁.heap = h0 := by rw [← hh, Bd.state]; rfl
  have N0 := Fr.nil n0
  have pre0 : ∀ t, Steps p.tables e below (s₁.setTop (mkF m 0 #[.val (.ref a)] [])) t → Steps p.tables e below (s₁.setTop (entryFrame m #[(.ref a)] 1)) t := fun t k => castTop (ef_2 m a) k
  have k1 : ∀ t, Steps p.tables e below (s₁.setTop (mkF m 1 #[.val (.ref a)] [(.ref a)])) t → Steps p.tables e below (s₁.setTop (entryFrame m #[(.ref a)] 1)) t := fun t k => pre0 t (by
    show Steps p.tables e below (s₁.setTop (mkF m 0 #[.val (.ref a)] [])) _
    refine XS.aloadN X0.here hx rfl (hb hby d2_0) rfl rfl ?_
    exact k)
  obtain ⟨T2, X2, e2, st2⟩ := initO X0 hx hZ hown (hw _ (List.mem_of_getElem? (i := 13) rfl)) (hw _ (List.mem_of_getElem? (i := 14) rfl)) (hw _ (List.mem_of_getElem? (i := 15) rfl)) e0 (g := (mkF m 1 #[.val (.ref a)] [(.ref a)])) rfl (by rw [hml]; rfl) rfl (hb hby d2_1) (by decide) (W := 0) (by show 2 * 0 + _ ≤ _; exact Nat.le_of_eq rfl) (by decide)
  have k3 : ∀ t, Steps p.tables e below (T2.setTop (mkF m 4 #[.val (.ref a)] [])) t → Steps p.tables e below (s₁.setTop (entryFrame m #[(.ref a)] 1)) t := fun t k => k1 t (st2 t k)
  obtain ⟨fs, hr, hrun, hended, hW, hsame⟩ := X2.leave (v := none) (fun _ => rfl)
  refine ⟨_, _, k3 _ ?_, hrun, hended, _, _, rfl, ?_, ⟨_, rfl⟩, hW, hsame.mono (by decide) (by decide)⟩
  · show Steps p.tables e below (T2.setTop (mkF m 4 #[.val (.ref a)] [])) _
    exact X2.returnOut hx Bd.returns (hb hby d2_4) hr
  · show Q2 Z a h0 n0 _ T2.heap _
    rw [e2]
    exact ⟨rfl, N0, rfl⟩
theorem d1_0 : decode prog_14_method_1_code 0 = .ok (.aload_n 0, 1) := by decide +kernel
theorem d1_1 : decode prog_14_method_1_code 1 = .ok (.invokespecial 1, 3) := by decide +kernel
theorem d1_4 : decode prog_14_method_1_code 4 = .ok (.aload_n 0, 1) := by decide +kernel
theorem d1_5 : decode prog_14_method_1_code 5 = .ok (.iload_n 1, 1) := by decide +kernel
theorem d1_6 : decode prog_14_method_1_code 6 = .ok (.newarray .byte, 2) := by decide +kernel
theorem d1_8 : decode prog_14_method_1_code 8 = .ok (.putfield 7, 3) := by decide +kernel
theorem d1_11 : decode prog_14_method_1_code 11 = .ok (.return_, 1) := by decide +kernel
theorem pn_1 : plainName "com/example/wegweiser/wegweiser/index/ByteSink" = true := by first | (simp [plainName, overriddenIn]; done) | decide +kernel
theorem pd_0 : parseMethodDescriptor "()V" = some ⟨[], none⟩ := by decide +kernel
theorem ef_1 (m : MethodId) (x0 : Addr) (x1 : Int32) : entryFrame m #[(.ref x0), (.int x1)] 2 = mkF m 0 #[.val (.ref x0), .val (.int x1)] [] := by first | (simp [entryFrame, mkF, argsToLocals, Value.category]; done) | rfl
def Q1 (Z : State) (a : Addr) (z : Int32) (b : Addr) (h0 : Heap) (n0 : Nat) (v : Option Value) (h : Heap) (L : List Loc) : Prop := v = none ∧ Fr n0 L ∧ Keep h0 h [a] ∧ Exa Z h a "com/example/wegweiser/wegweiser/index/ByteSink" ∧ Fld Z h a "com/example/wegweiser/wegweiser/index/ByteSink" "length" "I" (.int (0 : Int32)) ∧ Fld Z h a "com/example/wegweiser/wegweiser/index/ByteSink" "bytes" "[B" (.ref b) ∧ ∃ k, Arv Z h b k .byte z [] (.int (0 : Int32))
set_option maxRecDepth 65536 in
set_option maxHeartbeats 40000000 in
theorem rm1 (l : Launch) (Z : State) (a0 : Array Value) (hw : ∀ d ∈ tables_1, d.before a0 Z = true) (ws : List Jvm.Cond) (a : Addr) (z : Int32) (b : Addr) (h0 : Heap) (n0 : Nat) (Z0 : n0 ≤ h0.size) (F1 : Fld Z h0 a "com/example/wegweiser/wegweiser/index/ByteSink" "bytes" "[B" .null) (F2 : Fld Z h0 a "com/example/wegweiser/wegweiser/index/ByteSink" "length" "I" (.int (0 : Int32))) (Ea : Exa Z h0 a "com/example/wegweiser/wegweiser/index/ByteSink") (g_a : n0 ≤ a) (gb : b = h0.size) (hz0 : ¬ z < 0) (hz4 : z.toNatClampNeg ≤ 4) :
    MetFree l (⟨"com/example/wegweiser/wegweiser/index/ByteSink", "<init>", "(I)V"⟩ : MethodName) (head1 (Jvm.Cond.code (⟨"com/example/wegweiser/wegweiser/index/ByteSink", "<init>", "(I)V"⟩ : MethodName) prog_14_method_1_code 2 none :: ws) ({ frames := 2, cells := 1, slots := 4, locals := 24 } : Room)) (fun aa U => aa = #[(.ref a), (.int z)] ∧ Z.Warmed39 U.vm ∧ U.heap = h0) (fun _ _ _ _ _ => True) (fun _ U o U' => ∃ v L, o = .returned v ∧ Q1 Z a z b h0 n0 v U'.heap L ∧ FrameEnd U o U' L ({ frames := 2, cells := 1, slots := 4, locals := 24 } : Room).cells ({ frames := 2, cells := 1, slots := 4, locals := 24 } : Room).slots) := by
  refine MetFree.of_bodySF (plainFor_of_name pn_1) hisR ?_
  intro p e s m args below meth c s₁ Bd hml0 hP hK
  obtain ⟨rfl, hZ, hh⟩ := hP
  have hx := Bd.exec
  have hby := Bd.bytes
  have hml : c.maxLocals = 2 := hml0
  have hown : s.vm.findClass "com/example/wegweiser/wegweiser/index/ByteSink" = some m.cls := findClass_of_methodNamed Bd.named
  have hnm := (name_of_methodNamed Bd.named Bd.method).1
  have X0 : Stand p l e ({ frames := 2, cells := 1, slots := 4, locals := 24 } : Room) s m #[(.ref a), (.int z)] below meth c s₁ [] 0 0 := Stand.of_body Bd
  have e0 : s₁.heap = h0 := by rw [← hh, Bd.state]; rfl
  have N0 := Fr.nil n0
  have pre0 : ∀ t, Steps p.tables e below (s₁.setTop (mkF m 0 #[.val (.ref a), .val (.int z)] [])) t → Steps p.tables e below (s₁.setTop (entryFrame m #[(.ref a), (.int z)] 2)) t := fun t k => castTop (ef_1 m a z) k
  have KR : Keep h0 h0 [a] := Keep.refl _ _
  have k5 : ∀ t, Steps p.tables e below (s₁.setTop (mkF m 1 #[.val (.ref a), .val (.int z)] [(.ref a)])) t → Steps p.tables e below (s₁.setTop (entryFrame m #[(.ref a), (.int z)] 2)) t := fun t k => pre0 t (by
    show Steps p.tables e below (s₁.setTop (mkF m 0 #[.val (.ref a), .val (.int z)] [])) _
    refine XS.aloadN X0.here hx rfl (hb hby d1_0) rfl rfl ?_
    exact k)
  obtain ⟨_, _, ⟨T6, L6, kc6, ks6⟩, -, X6, ⟨Lc6, hQ6, l6, y6, z6⟩, st6⟩ := X0.specialBack hx (y := (⟨"java/io/OutputStream", "<init>", "()V"⟩ : MethodName)) rfl hown (mvT hZ (hw _ (List.mem_of_getElem? (i := 8) rfl))) (mvT hZ (hw _ (List.mem_of_getElem? (i := 9) rfl))) (mvT hZ (hw _ (List.mem_of_getElem? (i := 12) rfl))) (by decide) (backOf (W := 0) (rm2 l Z a0 hw [] a h0 n0 Z0) hZ (hw _ (List.mem_of_getElem? (i := 12) rfl)) (hw _ (List.mem_of_getElem? (i := 11) rfl)) (by decide) (by decide)) (g := (mkF m 1 #[.val (.ref a), .val (.int z)] [(.ref a)])) rfl (by rw [hml]; rfl) (Steps.refl _) (a := a) (argsL := []) (rest := []) (lenOf pd_0 rfl) rfl (by show 2 * 0 + _ ≤ _; exact Nat.le_of_eq rfl) (hb hby d1_1) (fun _ _ => ⟨rfl, e0, (by decide : 0 + 0 ≤ _), (by decide : 0 + 0 ≤ _)⟩)
  dsimp only [Pt.U, Pt.locs, Pt.cells, Pt.slots] at X6 l6 y6 z6 st6 hQ6
  subst l6 y6 z6
  obtain ⟨rfl, Nq6, eq6⟩ := hQ6
  have N6 := Fr.app N0 Nq6
  obtain ⟨LH6, XH6, NH6⟩ := own_hide X6 N6
  clear X6 N6
  have k7 : ∀ t, Steps p.tables e below (T6.setTop (mkF m 4 #[.val (.ref a), .val (.int z)] [])) t → Steps p.tables e below (s₁.setTop (entryFrame m #[(.ref a), (.int z)] 2)) t := fun t k => k5 t (st6.trans k)
  have k8 : ∀ t, Steps p.tables e below (T6.setTop (mkF m 6 #[.val (.ref a), .val (.int z)] [(.int z), (.ref a)])) t → Steps p.tables e below (s₁.setTop (entryFrame m #[(.ref a), (.int z)] 2)) t := fun t k => k7 t (by
    show Steps p.tables e below (T6.setTop (mkF m 4 #[.val (.ref a), .val (.int z)] [])) _
    refine XS.aloadN XH6.here hx rfl (hb hby d1_4) rfl rfl ?_
    show Steps p.tables e below (T6.setTop (mkF m 5 #[.val (.ref a), .val (.int z)] [(.ref a)])) _
    refine XS.iloadN XH6.here hx rfl (hb hby d1_5) rfl ?_
    exact k)
  obtain ⟨T9, h9, c9, X9, e9, E9, A9, st9⟩ := newP XH6 hx hZ (hw _ (List.mem_of_getElem? (i := 16) rfl)) eq6 (g := (mkF m 6 #[.val (.ref a), .val (.int z)] [(.int z), (.ref a)])) rfl (hb hby d1_6) rfl hz0 (cap := 4) hz4 (by decide) (by decide) (by decide)
  rw [← gb] at A9 st9
  have ne10 : a ≠ b := Nat.ne_of_lt (Nat.lt_of_lt_of_le (F1).lt (Nat.le_of_eq gb.symm))
  have g_b : n0 ≤ b := Nat.le_trans Z0 (Nat.le_of_eq gb.symm)
  have sz_b : h0.size ≤ b := Nat.le_trans KR.1 (Nat.le_of_eq gb.symm)
  have Z11 : n0 ≤ h9.size := Nat.le_trans Z0 E9.1
  have K12 : Keep h0 h9 [a] := KR.ext E9
  have F13 : Fld Z h9 a "com/example/wegweiser/wegweiser/index/ByteSink" "bytes" "[B" .null := (F1).ext E9
  have F14 : Fld Z h9 a "com/example/wegweiser/wegweiser/index/ByteSink" "length" "I" (.int (0 : Int32)) := (F2).ext E9
  have F15 : Exa Z h9 a "com/example/wegweiser/wegweiser/index/ByteSink" := (Ea).ext E9
  have V9 : Arv Z h9 b c9 .byte z [] (.int (0 : Int32)) := (Arv.new A9 hz0).pad (pad_rep [] (.int (0 : Int32)) 0)
  have k16 : ∀ t, Steps p.tables e below (T9.setTop (mkF m 8 #[.val (.ref a), .val (.int z)] [(.ref b), (.ref a)])) t → Steps p.tables e below (s₁.setTop (entryFrame m #[(.ref a), (.int z)] 2)) t := fun t k => k8 t (st9 t k)
  obtain ⟨T17, h17, X17, e17, W17, st17⟩ := putF X9 hx hZ hown (host := "") (Or.inl (hw _ (List.mem_of_getElem? (i := 17) rfl))) Via.refl e9 F13 F15 (Or.inl (hw _ (List.mem_of_getElem? (i := 18) rfl))) (hw _ (List.mem_of_getElem? (i := 3) rfl)) (ty := (.array .byte)) (by decide) rfl rfl (g := (mkF m 8 #[.val (.ref a), .val (.int z)] [(.ref b), (.ref a)])) rfl rfl (hb hby d1_8)
  have N17 := Fr.snoc X17 NH6 g_a
  obtain ⟨LH17, XH17, NH17⟩ := own_hide X17 N17
  clear X17 N17
  have Z18 : n0 ≤ h17.size := Nat.le_trans Z11 (Nat.le_of_eq W17.size.symm)
  have K19 : Keep h0 h17 [a] := K12.wr W17 (Or.inl (List.mem_of_getElem? (i := 0) rfl))
  have F20 : Fld Z h17 a "com/example/wegweiser/wegweiser/index/ByteSink" "length" "I" (.int (0 : Int32)) := Fld.other W17 F14 (Or.inr (slot_ne (Or.inl (hw _ (List.mem_of_getElem? (i := 25) rfl))) (Or.inl (hw _ (List.mem_of_getElem? (i := 18) rfl))) (by decide) (t := .int) (t' := (.array .byte)) (by decide) (by decide)))
  have F21 : Exa Z h17 a "com/example/wegweiser/wegweiser/index/ByteSink" := Exa.wr W17 F15
  have F22 : Arv Z h17 b c9 .byte z [] (.int (0 : Int32)) := (V9).other W17 (Ne.symm ne10)
  have F23 : Fld Z h17 a "com/example/wegweiser/wegweiser/index/ByteSink" "bytes" "[B" (.ref b) := Fld.same W17 F13
  have k24 : ∀ t, Steps p.tables e below (T17.setTop (mkF m 11 #[.val (.ref a), .val (.int z)] [])) t → Steps p.tables e below (s₁.setTop (entryFrame m #[(.ref a), (.int z)] 2)) t := fun t k => k16 t (st17 t k)
  obtain ⟨fs, hr, hrun, hended, hW, hsame⟩ := XH17.leave (v := none) (fun _ => rfl)
  refine ⟨_, _, k24 _ ?_, hrun, hended, _, _, rfl, ?_, ⟨_, rfl⟩, hW, hsame.mono (by decide) (by decide)⟩
  · show Steps p.tables e below (T17.setTop (mkF m 11 #[.val (.ref a), .val (.int z)] [])) _
    exact XH17.returnOut hx Bd.returns (hb hby d1_11) hr
  · show Q1 Z a z b h0 n0 _ T17.heap _
    rw [e17]
    exact ⟨rfl, NH17, K19, F21, F20, F23, _, F22⟩
theorem d6_0 : decode jdk_29_method_69_code 0 = .ok (.iload_n 0, 1) := by decide +kernel
theorem d6_1 : decode jdk_29_method_69_code 1 = .ok (.iload_n 1, 1) := by decide +kernel
theorem d6_2 : decode jdk_29_method_69_code 2 = .ok (.if_icmp .gt 7, 3) := by decide +kernel
theorem d6_5 : decode jdk_29_method_69_code 5 = .ok (.iload_n 0, 1) := by decide +kernel
theorem d6_6 : decode jdk_29_method_69_code 6 = .ok (.goto 4, 3) := by decide +kernel
theorem d6_10 : decode jdk_29_method_69_code 10 = .ok (.ireturn, 1) := by decide +kernel
theorem ef_6 (m : MethodId) (x0 : Int32) (x1 : Int32) : entryFrame m #[(.int x0), (.int x1)] 2 = mkF m 0 #[.val (.int x0), .val (.int x1)] [] := by first | (simp [entryFrame, mkF, argsToLocals, Value.category]; done) | rfl
def Q6 (Z : State) (p0 : Int32) (p1 : Int32) (h0 : Heap) (n0 : Nat) (v : Option Value) (h : Heap) (L : List Loc) : Prop := v = some (.int p0) ∧ Fr n0 L ∧ h = h0
set_option maxRecDepth 65536 in
set_option maxHeartbeats 40000000 in
theorem rm6 (l : Launch) (Z : State) (a0 : Array Value) (hw : ∀ d ∈ tables_1, d.before a0 Z = true) (ws : List Jvm.Cond) (p0 : Int32) (p1 : Int32) (h0 : Heap) (n0 : Nat) (Z0 : n0 ≤ h0.size) (hle : ¬ p1 < p0) :
    MetFree l (⟨"java/lang/Math", "min", "(II)I"⟩ : MethodName) (head1 (Jvm.Cond.code (⟨"java/lang/Math", "min", "(II)I"⟩ : MethodName) jdk_29_method_69_code 2 (some .int) :: ws) ({ frames := 0, cells := 0, slots := 0, locals := 0 } : Room)) (fun aa U => aa = #[(.int p0), (.int p1)] ∧ Z.Warmed39 U.vm ∧ U.heap = h0) (fun _ _ _ _ _ => True) (fun _ U o U' => ∃ v L, o = .returned v ∧ Q6 Z p0 p1 h0 n0 v U'.heap L ∧ FrameEnd U o U' L ({ frames := 0, cells := 0, slots := 0, locals := 0 } : Room).cells ({ frames := 0, cells := 0, slots := 0, locals := 0 } : Room).slots) := by
  refine MetFree.of_bodySF (Jvm.Free.JP.mathPlain rfl (by decide +kernel)) hisR ?_
  intro p e s m args below meth c s₁ Bd hml0 hP hK
  obtain ⟨rfl, hZ, hh⟩ := hP
  have hx := Bd.exec
  have hby := Bd.bytes
  have hml : c.maxLocals = 2 := hml0
  have hown : s.vm.findClass "java/lang/Math" = some m.cls := findClass_of_methodNamed Bd.named
  have hnm := (name_of_methodNamed Bd.named Bd.method).1
  have X0 : Stand p l e ({ frames := 0, cells := 0, slots := 0, locals := 0 } : Room) s m #[(.int p0), (.int p1)] below meth c s₁ [] 0 0 := Stand.of_body Bd
  have e0 : s₁.heap = h0 := by rw [← hh, Bd.state]; rfl
  have N0 := Fr.nil n0
  have pre0 : ∀ t, Steps p.tables e below (s₁.setTop (mkF m 0 #[.val (.int p0), .val (.int p1)] [])) t → Steps p.tables e below (s₁.setTop (entryFrame m #[(.int p0), (.int p1)] 2)) t := fun t k => castTop (ef_6 m p0 p1) k
  have k26 : ∀ t, Steps p.tables e below (s₁.setTop (mkF m 10 #[.val (.int p0), .val (.int p1)] [(.int p0)])) t → Steps p.tables e below (s₁.setTop (entryFrame m #[(.int p0), (.int p1)] 2)) t := fun t k => pre0 t (by
    show Steps p.tables e below (s₁.setTop (mkF m 0 #[.val (.int p0), .val (.int p1)] [])) _
    refine XS.iloadN X0.here hx rfl (hb hby d6_0) rfl ?_
    show Steps p.tables e below (s₁.setTop (mkF m 1 #[.val (.int p0), .val (.int p1)] [(.int p0)])) _
    refine XS.iloadN X0.here hx rfl (hb hby d6_1) rfl ?_
    show Steps p.tables e below (s₁.setTop (mkF m 2 #[.val (.int p0), .val (.int p1)] [(.int p1), (.int p0)])) _
    refine XS.icmpNo X0.here hx rfl (hb hby d6_2) rfl (flt hle).2.2.1 ?_
    show Steps p.tables e below (s₁.setTop (mkF m 5 #[.val (.int p0), .val (.int p1)] [])) _
    refine XS.iloadN X0.here hx rfl (hb hby d6_5) rfl ?_
    show Steps p.tables e below (s₁.setTop (mkF m 6 #[.val (.int p0), .val (.int p1)] [(.int p0)])) _
    refine XS.goto X0.here hx rfl (pc0 := 6) (pc' := 10) rfl (hb hby d6_6) (by decide) (by decide) ?_
    exact k)
  obtain ⟨fs, hr, hrun, hended, hW, hsame⟩ := X0.leave (v := some (.int p0)) (fun h => by rw [Bd.returns] at h; cases h)
  refine ⟨_, _, k26 _ ?_, hrun, hended, _, _, rfl, ?_, ⟨_, rfl⟩, hW, hsame.mono (by decide) (by decide)⟩
  · show Steps p.tables e below (s₁.setTop (mkF m 10 #[.val (.int p0), .val (.int p1)] [(.int p0)])) _
    exact retI X0 hx Bd.returns (hb hby d6_10) hr
  · show Q6 Z p0 p1 h0 n0 _ s₁.heap _
    rw [e0]
    exact ⟨rfl, N0, rfl⟩
theorem d5_0 : decode jdk_65_method_121_code 0 = .ok (.iload_n 1, 1) := by decide +kernel
theorem d5_1 : decode jdk_65_method_121_code 1 = .ok (.aload_n 0, 1) := by decide +kernel
theorem d5_2 : decode jdk_65_method_121_code 2 = .ok (.arraylength, 1) := by decide +kernel
theorem d5_3 : decode jdk_65_method_121_code 3 = .ok (.if_icmp .ne 11, 3) := by decide +kernel
theorem d5_14 : decode jdk_65_method_121_code 14 = .ok (.iload_n 1, 1) := by decide +kernel
theorem d5_15 : decode jdk_65_method_121_code 15 = .ok (.newarray .byte, 2) := by decide +kernel
theorem d5_17 : decode jdk_65_method_121_code 17 = .ok (.astore_n 2, 1) := by decide +kernel
theorem d5_18 : decode jdk_65_method_121_code 18 = .ok (.aload_n 0, 1) := by decide +kernel
theorem d5_19 : decode jdk_65_method_121_code 19 = .ok (.iconst 0, 1) := by decide +kernel
theorem d5_20 : decode jdk_65_method_121_code 20 = .ok (.aload_n 2, 1) := by decide +kernel
theorem d5_21 : decode jdk_65_method_121_code 21 = .ok (.iconst 0, 1) := by decide +kernel
theorem d5_22 : decode jdk_65_method_121_code 22 = .ok (.aload_n 0, 1) := by decide +kernel
theorem d5_23 : decode jdk_65_method_121_code 23 = .ok (.arraylength, 1) := by decide +kernel
theorem d5_24 : decode jdk_65_method_121_code 24 = .ok (.iload_n 1, 1) := by decide +kernel
theorem d5_25 : decode jdk_65_method_121_code 25 = .ok (.invokestatic 304, 3) := by decide +kernel
theorem d5_28 : decode jdk_65_method_121_code 28 = .ok (.invokestatic 150, 3) := by decide +kernel
theorem d5_31 : decode jdk_65_method_121_code 31 = .ok (.aload_n 2, 1) := by decide +kernel
theorem d5_32 : decode jdk_65_method_121_code 32 = .ok (.areturn, 1) := by decide +kernel
theorem pn_2 : plainName "java/util/Arrays" = true := by first | (simp [plainName, overriddenIn]; done) | decide +kernel
theorem pd_1 : parseMethodDescriptor "(II)I" = some ⟨[.int, .int], some .int⟩ := by decide +kernel
theorem ef_5 (m : MethodId) (x0 : Addr) (x1 : Int32) : entryFrame m #[(.ref x0), (.int x1)] 3 = mkF m 0 #[.val (.ref x0), .val (.int x1), .unset] [] := by first | (simp [entryFrame, mkF, argsToLocals, Value.category]; done) | rfl
def Q5 (Z : State) (a : Addr) (p1 : Int32) (b : Addr) (k : ClassId) (z : Int32) (vs : List Value) (h0 : Heap) (n0 : Nat) (v : Option Value) (h : Heap) (L : List Loc) : Prop := v = some (.ref b) ∧ Fr n0 L ∧ Keep h0 h [] ∧ ∃ k', Arv Z h b k' .byte p1 vs (.int (0 : Int32))
set_option maxRecDepth 65536 in
set_option maxHeartbeats 40000000 in
theorem rm5 (l : Launch) (Z : State) (a0 : Array Value) (hw : ∀ d ∈ tables_1, d.before a0 Z = true) (ws : List Jvm.Cond) (a : Addr) (p1 : Int32) (b : Addr) (k : ClassId) (z : Int32) (vs : List Value) (h0 : Heap) (n0 : Nat) (Z0 : n0 ≤ h0.size) (V0 : Arv Z h0 a k .byte z vs (.int (0 : Int32))) (gb : b = h0.size) (hne : ¬ p1 = z) (hle : ¬ p1 < z) (hz0 : ¬ z < 0) (hp0 : ¬ p1 < 0) (hp16 : p1.toNatClampNeg ≤ 16) (hz16 : z.toNatClampNeg ≤ 16) (hzp : z.toNatClampNeg ≤ p1.toNatClampNeg) (hl : vs.length ≤ z.toNatClampNeg) :
    MetFree l (⟨"java/util/Arrays", "copyOf", "([BI)[B"⟩ : MethodName) (head1 (Jvm.Cond.code (⟨"java/util/Arrays", "copyOf", "([BI)[B"⟩ : MethodName) jdk_65_method_121_code 3 (some (.array .byte)) :: ws) ({ frames := 1, cells := 1, slots := 16, locals := 18 } : Room)) (fun aa U => aa = #[(.ref a), (.int p1)] ∧ Z.Warmed39 U.vm ∧ U.heap = h0) (fun _ _ _ _ _ => True) (fun _ U o U' => ∃ v L, o = .returned v ∧ Q5 Z a p1 b k z vs h0 n0 v U'.heap L ∧ FrameEnd U o U' L ({ frames := 1, cells := 1, slots := 16, locals := 18 } : Room).cells ({ frames := 1, cells := 1, slots := 16, locals := 18 } : Room).slots) := by
  refine MetFree.of_bodySF (plainFor_of_name pn_2) hisR ?_
  intro p e s m args below meth c s₁ Bd hml0 hP hK
  obtain ⟨rfl, hZ, hh⟩ := hP
  have hx := Bd.exec
  have hby := Bd.bytes
  have hml : c.maxLocals = 3 := hml0
  have hown : s.vm.findClass "java/util/Arrays" = some m.cls := findClass_of_methodNamed Bd.named
  have hnm := (name_of_methodNamed Bd.named Bd.method).1
  have X0 : Stand p l e ({ frames := 1, cells := 1, slots := 16, locals := 18 } : Room) s m #[(.ref a), (.int p1)] below meth c s₁ [] 0 0 := Stand.of_body Bd
  have e0 : s₁.heap = h0 := by rw [← hh, Bd.state]; rfl
  have N0 := Fr.nil n0
  have pre0 : ∀ t, Steps p.tables e below (s₁.setTop (mkF m 0 #[.val (.ref a), .val (.int p1), .unset] [])) t → Steps p.tables e below (s₁.setTop (entryFrame m #[(.ref a), (.int p1)] 3)) t := fun t k => castTop (ef_5 m a p1) k
  have KR : Keep h0 h0 [] := Keep.refl _ _
  have k29 : ∀ t, Steps p.tables e below (s₁.setTop (mkF m 15 #[.val (.ref a), .val (.int p1), .unset] [(.int p1)])) t → Steps p.tables e below (s₁.setTop (entryFrame m #[(.ref a), (.int p1)] 3)) t := fun t k => pre0 t (by
    show Steps p.tables e below (s₁.setTop (mkF m 0 #[.val (.ref a), .val (.int p1), .unset] [])) _
    refine XS.iloadN X0.here hx rfl (hb hby d5_0) rfl ?_
    show Steps p.tables e below (s₁.setTop (mkF m 1 #[.val (.ref a), .val (.int p1), .unset] [(.int p1)])) _
    refine XS.aloadN X0.here hx rfl (hb hby d5_1) rfl rfl ?_
    show Steps p.tables e below (s₁.setTop (mkF m 2 #[.val (.ref a), .val (.int p1), .unset] [(.ref a), (.int p1)])) _
    obtain ⟨clq28, Arq28, -, Sq28, Nq28, -, -⟩ := id V0
    refine X0.arraylength hx (by rw [e0]; exact Arq28.1) (State.isArrayOf_alike hZ.alike Arq28.2.1) (g := (mkF m 2 #[.val (.ref a), .val (.int p1), .unset] [(.ref a), (.int p1)])) rfl rfl (hb hby d5_2) _ ?_
    rw [len_of Sq28 Nq28]
    show Steps p.tables e below (s₁.setTop (mkF m 3 #[.val (.ref a), .val (.int p1), .unset] [(.int z), (.int p1)])) _
    refine XS.icmpYes X0.here hx rfl (pc0 := 3) (pc' := 14) rfl (hb hby d5_3) rfl (feq hne).2 (by decide) (by decide) ?_
    show Steps p.tables e below (s₁.setTop (mkF m 14 #[.val (.ref a), .val (.int p1), .unset] [])) _
    refine XS.iloadN X0.here hx rfl (hb hby d5_14) rfl ?_
    exact k)
  obtain ⟨T30, h30, c30, X30, e30, E30, A30, st30⟩ := newP X0 hx hZ (hw _ (List.mem_of_getElem? (i := 16) rfl)) e0 (g := (mkF m 15 #[.val (.ref a), .val (.int p1), .unset] [(.int p1)])) rfl (hb hby d5_15) rfl hp0 (cap := 16) hp16 (by decide) (by decide) (by decide)
  rw [← gb] at A30 st30
  have ne31 : a ≠ b := Nat.ne_of_lt (Nat.lt_of_lt_of_le (V0).lt (Nat.le_of_eq gb.symm))
  have g_b : n0 ≤ b := Nat.le_trans Z0 (Nat.le_of_eq gb.symm)
  have sz_b : h0.size ≤ b := Nat.le_trans KR.1 (Nat.le_of_eq gb.symm)
  have Z32 : n0 ≤ h30.size := Nat.le_trans Z0 E30.1
  have K33 : Keep h0 h30 [] := KR.ext E30
  have F34 : Arv Z h30 a k .byte z vs (.int (0 : Int32)) := (V0).ext E30
  have V30 : Arv Z h30 b c30 .byte p1 [(.int (0 : Int32)), (.int (0 : Int32)), (.int (0 : Int32)), (.int (0 : Int32)), (.int (0 : Int32)), (.int (0 : Int32)), (.int (0 : Int32)), (.int (0 : Int32)), (.int (0 : Int32)), (.int (0 : Int32)), (.int (0 : Int32)), (.int (0 : Int32)), (.int (0 : Int32)), (.int (0 : Int32)), (.int (0 : Int32)), (.int (0 : Int32))] (.int (0 : Int32)) := (Arv.new A30 hp0).pad (pad_rep [] (.int (0 : Int32)) 16)
  have k35 : ∀ t, Steps p.tables e below (T30.setTop (mkF m 17 #[.val (.ref a), .val (.int p1), .unset] [(.ref b)])) t → Steps p.tables e below (s₁.setTop (entryFrame m #[(.ref a), (.int p1)] 3)) t := fun t k => k29 t (st30 t k)
  have k37 : ∀ t, Steps p.tables e below (T30.setTop (mkF m 25 #[.val (.ref a), .val (.int p1), .val (.ref b)] [(.int p1), (.int z), (.int (0 : Int32)), (.ref b), (.int (0 : Int32)), (.ref a)])) t → Steps p.tables e below (s₁.setTop (entryFrame m #[(.ref a), (.int p1)] 3)) t := fun t k => k35 t (by
    show Steps p.tables e below (T30.setTop (mkF m 17 #[.val (.ref a), .val (.int p1), .unset] [(.ref b)])) _
    refine XS.astoreN X30.here hx rfl (hb hby d5_17) rfl rfl (l' := #[.val (.ref a), .val (.int p1), .val (.ref b)]) rfl ?_
    show Steps p.tables e below (T30.setTop (mkF m 18 #[.val (.ref a), .val (.int p1), .val (.ref b)] [])) _
    refine XS.aloadN X30.here hx rfl (hb hby d5_18) rfl rfl ?_
    show Steps p.tables e below (T30.setTop (mkF m 19 #[.val (.ref a), .val (.int p1), .val (.ref b)] [(.ref a)])) _
    refine XS.iconst X30.here hx rfl (hb hby d5_19) ?_
    show Steps p.tables e below (T30.setTop (mkF m 20 #[.val (.ref a), .val (.int p1), .val (.ref b)] [(.int (0 : Int32)), (.ref a)])) _
    refine XS.aloadN X30.here hx rfl (hb hby d5_20) rfl rfl ?_
    show Steps p.tables e below (T30.setTop (mkF m 21 #[.val (.ref a), .val (.int p1), .val (.ref b)] [(.ref b), (.int (0 : Int32)), (.ref a)])) _
    refine XS.iconst X30.here hx rfl (hb hby d5_21) ?_
    show Steps p.tables e below (T30.setTop (mkF m 22 #[.val (.ref a), .val (.int p1), .val (.ref b)] [(.int (0 : Int32)), (.ref b), (.int (0 : Int32)), (.ref a)])) _
    refine XS.aloadN X30.here hx rfl (hb hby d5_22) rfl rfl ?_
    show Steps p.tables e below (T30.setTop (mkF m 23 #[.val (.ref a), .val (.int p1), .val (.ref b)] [(.ref a), (.int (0 : Int32)), (.ref b), (.int (0 : Int32)), (.ref a)])) _
    obtain ⟨clq36, Arq36, -, Sq36, Nq36, -, -⟩ := id F34
    refine X30.arraylength hx (by rw [e30]; exact Arq36.1) (State.isArrayOf_alike hZ.alike Arq36.2.1) (g := (mkF m 23 #[.val (.ref a), .val (.int p1), .val (.ref b)] [(.ref a), (.int (0 : Int32)), (.ref b), (.int (0 : Int32)), (.ref a)])) rfl rfl (hb hby d5_23) _ ?_
    rw [len_of Sq36 Nq36]
    show Steps p.tables e below (T30.setTop (mkF m 24 #[.val (.ref a), .val (.int p1), .val (.ref b)] [(.int z), (.int (0 : Int32)), (.ref b), (.int (0 : Int32)), (.ref a)])) _
    refine XS.iloadN X30.here hx rfl (hb hby d5_24) rfl ?_
    exact k)
  obtain ⟨_, _, ⟨T38, L38, kc38, ks38⟩, -, X38, ⟨Lc38, hQ38, l38, y38, z38⟩, st38⟩ := Jvm.LawKit.callS X30 hx (y := (⟨"java/lang/Math", "min", "(II)I"⟩ : MethodName)) hown (mvT hZ (hw _ (List.mem_of_getElem? (i := 30) rfl))) (mvT hZ (hw _ (List.mem_of_getElem? (i := 31) rfl))) (mvT hZ (hw _ (List.mem_of_getElem? (i := 32) rfl))) (mvT hZ (hw _ (List.mem_of_getElem? (i := 33) rfl))) (by decide) (backOf (W := 4) (rm6 l Z a0 hw [] z p1 h30 n0 Z32 hle) hZ (hw _ (List.mem_of_getElem? (i := 33) rfl)) (hw _ (List.mem_of_getElem? (i := 32) rfl)) (by decide) (by decide)) (g := (mkF m 25 #[.val (.ref a), .val (.int p1), .val (.ref b)] [(.int p1), (.int z), (.int (0 : Int32)), (.ref b), (.int (0 : Int32)), (.ref a)])) rfl (by rw [hml]; rfl) (argsL := [(.int z), (.int p1)]) (rest := [(.int (0 : Int32)), (.ref b), (.int (0 : Int32)), (.ref a)]) (lenOf pd_1 rfl) rfl (by show 2 * 0 + _ ≤ _; exact Nat.le_of_eq rfl) (hb hby d5_25) (fun _ _ => ⟨rfl, e30, (by decide : 1 + 0 ≤ _), (by decide : 16 + 0 ≤ _)⟩)
  dsimp only [Pt.U, Pt.locs, Pt.cells, Pt.slots] at X38 l38 y38 z38 st38 hQ38
  subst l38 y38 z38
  obtain ⟨rfl, Nq38, eq38⟩ := hQ38
  have N38 := Fr.app N0 Nq38
  obtain ⟨LH38, XH38, NH38⟩ := own_hide X38 N38
  clear X38 N38
  have k39 : ∀ t, Steps p.tables e below (T38.setTop (mkF m 28 #[.val (.ref a), .val (.int p1), .val (.ref b)] [(.int z), (.int (0 : Int32)), (.ref b), (.int (0 : Int32)), (.ref a)])) t → Steps p.tables e below (s₁.setTop (entryFrame m #[(.ref a), (.int p1)] 3)) t := fun t k => k37 t (st38 t k)
  obtain ⟨T40, h40, Lc40, X40, e40, N40, K40, V40, st40⟩ := cpA XH38 hx hZ hown (hw _ (List.mem_of_getElem? (i := 34) rfl)) (hw _ (List.mem_of_getElem? (i := 37) rfl)) (hw _ (List.mem_of_getElem? (i := 35) rfl)) (hw _ (List.mem_of_getElem? (i := 36) rfl)) eq38 (sp := (0 : Int32)) (dp := (0 : Int32)) (nn := z) F34 V30 (Or.inl ⟨rfl, rfl⟩) (by decide) (by decide) hz0 (by show 0 + _ ≤ _; omega) (by show 0 + _ ≤ _; rw [Nat.zero_add]; exact hzp) rfl (by show 0 + _ ≤ 16; rw [Nat.zero_add]; exact hz16) NH38 g_b (g := (mkF m 28 #[.val (.ref a), .val (.int p1), .val (.ref b)] [(.int z), (.int (0 : Int32)), (.ref b), (.int (0 : Int32)), (.ref a)])) rfl (by rw [hml]; rfl) rfl (hb hby d5_28) (by decide) (W := 0) (by show 2 * 0 + _ ≤ _; exact Nat.le_of_eq rfl) (by decide)
  have Z41 : n0 ≤ h40.size := Nat.le_trans Z32 K40.1
  have K42 : Keep h0 h40 [] := K33.trans K40 (allS (Or.inr sz_b) all0)
  have F43 : Arv Z h40 a k .byte z vs (.int (0 : Int32)) := (F34).keep K40 (ninS ne31 nin0)
  have k44 : ∀ t, Steps p.tables e below (T40.setTop (mkF m 31 #[.val (.ref a), .val (.int p1), .val (.ref b)] [])) t → Steps p.tables e below (s₁.setTop (entryFrame m #[(.ref a), (.int p1)] 3)) t := fun t k => k39 t (st40 t k)
  have V' := V40.pad (own_copy vs (.int (0 : Int32)) z.toNatClampNeg hl hz16)
  have k45 : ∀ t, Steps p.tables e below (T40.setTop (mkF m 32 #[.val (.ref a), .val (.int p1), .val (.ref b)] [(.ref b)])) t → Steps p.tables e below (s₁.setTop (entryFrame m #[(.ref a), (.int p1)] 3)) t := fun t k => k44 t (by
    show Steps p.tables e below (T40.setTop (mkF m 31 #[.val (.ref a), .val (.int p1), .val (.ref b)] [])) _
    refine XS.aloadN X40.here hx rfl (hb hby d5_31) rfl rfl ?_
    exact k)
  obtain ⟨fs, hr, hrun, hended, hW, hsame⟩ := X40.leave (v := some (.ref b)) (fun h => by rw [Bd.returns] at h; cases h)
  refine ⟨_, _, k45 _ ?_, hrun, hended, _, _, rfl, ?_, ⟨_, rfl⟩, hW, hsame.mono (by decide) (by decide)⟩
  · show Steps p.tables e below (T40.setTop (mkF m 32 #[.val (.ref a), .val (.int p1), .val (.ref b)] [(.ref b)])) _
    exact retOut X40 hx Bd.returns rfl (Or.inr (Or.inr (Or.inr (Or.inr ⟨rfl, rfl, rfl⟩)))) (hb hby d5_32) hr
  · show Q5 Z a p1 b k z vs h0 n0 _ T40.heap _
    rw [e40]
    exact ⟨rfl, N40, K42, _, V'⟩
theorem d4_0 : decode prog_14_method_2_code 0 = .ok (.aload_n 0, 1) := by decide +kernel
theorem d4_1 : decode prog_14_method_2_code 1 = .ok (.getfield 13, 3) := by decide +kernel
theorem d4_4 : decode prog_14_method_2_code 4 = .ok (.aload_n 0, 1) := by decide +kernel
theorem d4_5 : decode prog_14_method_2_code 5 = .ok (.getfield 7, 3) := by decide +kernel
theorem d4_8 : decode prog_14_method_2_code 8 = .ok (.arraylength, 1) := by decide +kernel
theorem d4_9 : decode prog_14_method_2_code 9 = .ok (.if_icmp .ne 21, 3) := by decide +kernel
theorem d4_12 : decode prog_14_method_2_code 12 = .ok (.aload_n 0, 1) := by decide +kernel
theorem d4_13 : decode prog_14_method_2_code 13 = .ok (.aload_n 0, 1) := by decide +kernel
theorem d4_14 : decode prog_14_method_2_code 14 = .ok (.getfield 7, 3) := by decide +kernel
theorem d4_17 : decode prog_14_method_2_code 17 = .ok (.aload_n 0, 1) := by decide +kernel
theorem d4_18 : decode prog_14_method_2_code 18 = .ok (.getfield 7, 3) := by decide +kernel
theorem d4_21 : decode prog_14_method_2_code 21 = .ok (.arraylength, 1) := by decide +kernel
theorem d4_22 : decode prog_14_method_2_code 22 = .ok (.iconst 2, 1) := by decide +kernel
theorem d4_23 : decode prog_14_method_2_code 23 = .ok (.imul, 1) := by decide +kernel
theorem d4_24 : decode prog_14_method_2_code 24 = .ok (.invokestatic 17, 3) := by decide +kernel
theorem d4_27 : decode prog_14_method_2_code 27 = .ok (.putfield 7, 3) := by decide +kernel
theorem d4_30 : decode prog_14_method_2_code 30 = .ok (.aload_n 0, 1) := by decide +kernel
theorem d4_31 : decode prog_14_method_2_code 31 = .ok (.getfield 7, 3) := by decide +kernel
theorem d4_34 : decode prog_14_method_2_code 34 = .ok (.aload_n 0, 1) := by decide +kernel
theorem d4_35 : decode prog_14_method_2_code 35 = .ok (.dup, 1) := by decide +kernel
theorem d4_36 : decode prog_14_method_2_code 36 = .ok (.getfield 13, 3) := by decide +kernel
theorem d4_39 : decode prog_14_method_2_code 39 = .ok (.dup_x1, 1) := by decide +kernel
theorem d4_40 : decode prog_14_method_2_code 40 = .ok (.iconst 1, 1) := by decide +kernel
theorem d4_41 : decode prog_14_method_2_code 41 = .ok (.iadd, 1) := by decide +kernel
theorem d4_42 : decode prog_14_method_2_code 42 = .ok (.putfield 13, 3) := by decide +kernel
theorem d4_45 : decode prog_14_method_2_code 45 = .ok (.iload_n 1, 1) := by decide +kernel
theorem d4_46 : decode prog_14_method_2_code 46 = .ok (.i2b, 1) := by decide +kernel
theorem d4_47 : decode prog_14_method_2_code 47 = .ok (.bastore, 1) := by decide +kernel
theorem d4_48 : decode prog_14_method_2_code 48 = .ok (.return_, 1) := by decide +kernel
theorem pd_2 : parseMethodDescriptor "([BI)[B" = some ⟨[(.array .byte), .int], some (.array .byte)⟩ := by decide +kernel
theorem ef_4 (m : MethodId) (x0 : Addr) (x1 : Int32) : entryFrame m #[(.ref x0), (.int x1)] 2 = mkF m 0 #[.val (.ref x0), .val (.int x1)] [] := by first | (simp [entryFrame, mkF, argsToLocals, Value.category]; done) | rfl
def Q4 (Z : State) (a : Addr) (p1 : Int32) (b : Addr) (k : ClassId) (n : Int32) (z : Int32) (vs : List Value) (h0 : Heap) (n0 : Nat) (v : Option Value) (h : Heap) (L : List Loc) : Prop := ∃ (b' : Addr) (k' : ClassId), v = none ∧ Fr n0 L ∧ Keep h0 h [a, b] ∧ n0 ≤ b' ∧ b' ≠ a ∧ (b' = b ∨ h0.size ≤ b') ∧ Exa Z h a "com/example/wegweiser/wegweiser/index/ByteSink" ∧ Fld Z h a "com/example/wegweiser/wegweiser/index/ByteSink" "length" "I" (.int (n + (1 : Int32))) ∧ Fld Z h a "com/example/wegweiser/wegweiser/index/ByteSink" "bytes" "[B" (.ref b') ∧ Arv Z h b' k' .byte (own_cap n z) (vs ++ [(.int (own_b p1))]) (.int (0 : Int32))
set_option maxRecDepth 65536 in
set_option maxHeartbeats 40000000 in
theorem rm4 (l : Launch) (Z : State) (a0 : Array Value) (hw : ∀ d ∈ tables_1, d.before a0 Z = true) (ws : List Jvm.Cond) (a : Addr) (p1 : Int32) (b : Addr) (k : ClassId) (n : Int32) (z : Int32) (vs : List Value) (h0 : Heap) (n0 : Nat) (Z0 : n0 ≤ h0.size) (F1 : Fld Z h0 a "com/example/wegweiser/wegweiser/index/ByteSink" "length" "I" (.int n)) (F2 : Fld Z h0 a "com/example/wegweiser/wegweiser/index/ByteSink" "bytes" "[B" (.ref b)) (Ea : Exa Z h0 a "com/example/wegweiser/wegweiser/index/ByteSink") (V0 : Arv Z h0 b k .byte z vs (.int (0 : Int32))) (g_a : n0 ≤ a) (g_b : n0 ≤ b) (nba : b ≠ a) (hn : n.toNatClampNeg = vs.length) (hn0 : ¬ n < 0) (hz0 : ¬ z < 0) (hL0 : ¬ n = z → n < z) (hL1 : n = z → n < (z * (2 : Int32))) (hG : n = z → ¬ (z * (2 : Int32)) = z ∧ ¬ (z * (2 : Int32)) < z ∧ ¬ (z * (2 : Int32)) < 0 ∧ (z * (2 : Int32)).toNatClampNeg ≤ 16 ∧ z.toNatClampNeg ≤ 16 ∧ z.toNatClampNeg ≤ (z * (2 : Int32)).toNatClampNeg) :
    MetFree l (⟨"com/example/wegweiser/wegweiser/index/ByteSink", "write", "(I)V"⟩ : MethodName) (head1 (Jvm.Cond.code (⟨"com/example/wegweiser/wegweiser/index/ByteSink", "write", "(I)V"⟩ : MethodName) prog_14_method_2_code 2 none :: ws) ({ frames := 2, cells := 1, slots := 16, locals := 33 } : Room)) (fun aa U => aa = #[(.ref a), (.int p1)] ∧ Z.Warmed39 U.vm ∧ U.heap = h0) (fun _ _ _ _ _ => True) (fun _ U o U' => ∃ v L, o = .returned v ∧ Q4 Z a p1 b k n z vs h0 n0 v U'.heap L ∧ FrameEnd U o U' L ({ frames := 2, cells := 1, slots := 16, locals := 33 } : Room).cells ({ frames := 2, cells := 1, slots := 16, locals := 33 } : Room).slots) := by
  refine MetFree.of_bodySF (plainFor_of_name pn_1) hisR ?_
  intro p e s m args below meth c s₁ Bd hml0 hP hK
  obtain ⟨rfl, hZ, hh⟩ := hP
  have hx := Bd.exec
  have hby := Bd.bytes
  have hml : c.maxLocals = 2 := hml0
  have hown : s.vm.findClass "com/example/wegweiser/wegweiser/index/ByteSink" = some m.cls := findClass_of_methodNamed Bd.named
  have hnm := (name_of_methodNamed Bd.named Bd.method).1
  have X0 : Stand p l e ({ frames := 2, cells := 1, slots := 16, locals := 33 } : Room) s m #[(.ref a), (.int p1)] below meth c s₁ [] 0 0 := Stand.of_body Bd
  have e0 : s₁.heap = h0 := by rw [← hh, Bd.state]; rfl
  have N0 := Fr.nil n0
  have pre0 : ∀ t, Steps p.tables e below (s₁.setTop (mkF m 0 #[.val (.ref a), .val (.int p1)] [])) t → Steps p.tables e below (s₁.setTop (entryFrame m #[(.ref a), (.int p1)] 2)) t := fun t k => castTop (ef_4 m a p1) k
  have KR : Keep h0 h0 [a, b] := Keep.refl _ _
  have k47 : ∀ t, Steps p.tables e below (s₁.setTop (mkF m 1 #[.val (.ref a), .val (.int p1)] [(.ref a)])) t → Steps p.tables e below (s₁.setTop (entryFrame m #[(.ref a), (.int p1)] 2)) t := fun t k => pre0 t (by
    show Steps p.tables e below (s₁.setTop (mkF m 0 #[.val (.ref a), .val (.int p1)] [])) _
    refine XS.aloadN X0.here hx rfl (hb hby d4_0) rfl rfl ?_
    exact k)
  obtain ⟨T48, X48, e48, st48⟩ := getF X0 hx hZ hown (host := "") (Or.inl (hw _ (List.mem_of_getElem? (i := 24) rfl))) Via.refl e0 F1 (g := (mkF m 1 #[.val (.ref a), .val (.int p1)] [(.ref a)])) rfl rfl (hb hby d4_1)
  have k49 : ∀ t, Steps p.tables e below (T48.setTop (mkF m 4 #[.val (.ref a), .val (.int p1)] [(.int n)])) t → Steps p.tables e below (s₁.setTop (entryFrame m #[(.ref a), (.int p1)] 2)) t := fun t k => k47 t (st48 t k)
  have k50 : ∀ t, Steps p.tables e below (T48.setTop (mkF m 5 #[.val (.ref a), .val (.int p1)] [(.ref a), (.int n)])) t → Steps p.tables e below (s₁.setTop (entryFrame m #[(.ref a), (.int p1)] 2)) t := fun t k => k49 t (by
    show Steps p.tables e below (T48.setTop (mkF m 4 #[.val (.ref a), .val (.int p1)] [(.int n)])) _
    refine XS.aloadN X48.here hx rfl (hb hby d4_4) rfl rfl ?_
    exact k)
  obtain ⟨T51, X51, e51, st51⟩ := getF X48 hx hZ hown (host := "") (Or.inl (hw _ (List.mem_of_getElem? (i := 17) rfl))) Via.refl e48 F2 (g := (mkF m 5 #[.val (.ref a), .val (.int p1)] [(.ref a), (.int n)])) rfl rfl (hb hby d4_5)
  have k52 : ∀ t, Steps p.tables e below (T51.setTop (mkF m 8 #[.val (.ref a), .val (.int p1)] [(.ref b), (.int n)])) t → Steps p.tables e below (s₁.setTop (entryFrame m #[(.ref a), (.int p1)] 2)) t := fun t k => k50 t (st51 t k)
  have k54 : ∀ t, Steps p.tables e below (T51.setTop (mkF m 9 #[.val (.ref a), .val (.int p1)] [(.int z), (.int n)])) t → Steps p.tables e below (s₁.setTop (entryFrame m #[(.ref a), (.int p1)] 2)) t := fun t k => k52 t (by
    show Steps p.tables e below (T51.setTop (mkF m 8 #[.val (.ref a), .val (.int p1)] [(.ref b), (.int n)])) _
    obtain ⟨clq53, Arq53, -, Sq53, Nq53, -, -⟩ := id V0
    refine X51.arraylength hx (by rw [e51]; exact Arq53.1) (State.isArrayOf_alike hZ.alike Arq53.2.1) (g := (mkF m 8 #[.val (.ref a), .val (.int p1)] [(.ref b), (.int n)])) rfl rfl (hb hby d4_8) _ ?_
    rw [len_of Sq53 Nq53]
    exact k)
  by_cases hc55 : n = z
  · have k56 : ∀ t, Steps p.tables e below (T51.setTop (mkF m 14 #[.val (.ref a), .val (.int p1)] [(.ref a), (.ref a)])) t → Steps p.tables e below (s₁.setTop (entryFrame m #[(.ref a), (.int p1)] 2)) t := fun t k => k54 t (by
      show Steps p.tables e below (T51.setTop (mkF m 9 #[.val (.ref a), .val (.int p1)] [(.int z), (.int n)])) _
      refine XS.icmpNo X51.here hx rfl (hb hby d4_9) rfl (teq hc55).2 ?_
      show Steps p.tables e below (T51.setTop (mkF m 12 #[.val (.ref a), .val (.int p1)] [])) _
      refine XS.aloadN X51.here hx rfl (hb hby d4_12) rfl rfl ?_
      show Steps p.tables e below (T51.setTop (mkF m 13 #[.val (.ref a), .val (.int p1)] [(.ref a)])) _
      refine XS.aloadN X51.here hx rfl (hb hby d4_13) rfl rfl ?_
      exact k)
    obtain ⟨T57, X57, e57, st57⟩ := getF X51 hx hZ hown (host := "") (Or.inl (hw _ (List.mem_of_getElem? (i := 17) rfl))) Via.refl e51 F2 (g := (mkF m 14 #[.val (.ref a), .val (.int p1)] [(.ref a), (.ref a)])) rfl rfl (hb hby d4_14)
    have k58 : ∀ t, Steps p.tables e below (T57.setTop (mkF m 17 #[.val (.ref a), .val (.int p1)] [(.ref b), (.ref a)])) t → Steps p.tables e below (s₁.setTop (entryFrame m #[(.ref a), (.int p1)] 2)) t := fun t k => k56 t (st57 t k)
    have k59 : ∀ t, Steps p.tables e below (T57.setTop (mkF m 18 #[.val (.ref a), .val (.int p1)] [(.ref a), (.ref b), (.ref a)])) t → Steps p.tables e below (s₁.setTop (entryFrame m #[(.ref a), (.int p1)] 2)) t := fun t k => k58 t (by
      show Steps p.tables e below (T57.setTop (mkF m 17 #[.val (.ref a), .val (.int p1)] [(.ref b), (.ref a)])) _
      refine XS.aloadN X57.here hx rfl (hb hby d4_17) rfl rfl ?_
      exact k)
    obtain ⟨T60, X60, e60, st60⟩ := getF X57 hx hZ hown (host := "") (Or.inl (hw _ (List.mem_of_getElem? (i := 17) rfl))) Via.refl e57 F2 (g := (mkF m 18 #[.val (.ref a), .val (.int p1)] [(.ref a), (.ref b), (.ref a)])) rfl rfl (hb hby d4_18)
    have k61 : ∀ t, Steps p.tables e below (T60.setTop (mkF m 21 #[.val (.ref a), .val (.int p1)] [(.ref b), (.ref b), (.ref a)])) t → Steps p.tables e below (s₁.setTop (entryFrame m #[(.ref a), (.int p1)] 2)) t := fun t k => k59 t (st60 t k)
    have k63 : ∀ t, Steps p.tables e below (T60.setTop (mkF m 24 #[.val (.ref a), .val (.int p1)] [(.int (z * (2 : Int32))), (.ref b), (.ref a)])) t → Steps p.tables e below (s₁.setTop (entryFrame m #[(.ref a), (.int p1)] 2)) t := fun t k => k61 t (by
      show Steps p.tables e below (T60.setTop (mkF m 21 #[.val (.ref a), .val (.int p1)] [(.ref b), (.ref b), (.ref a)])) _
      obtain ⟨clq62, Arq62, -, Sq62, Nq62, -, -⟩ := id V0
      refine X60.arraylength hx (by rw [e60]; exact Arq62.1) (State.isArrayOf_alike hZ.alike Arq62.2.1) (g := (mkF m 21 #[.val (.ref a), .val (.int p1)] [(.ref b), (.ref b), (.ref a)])) rfl rfl (hb hby d4_21) _ ?_
      rw [len_of Sq62 Nq62]
      show Steps p.tables e below (T60.setTop (mkF m 22 #[.val (.ref a), .val (.int p1)] [(.int z), (.ref b), (.ref a)])) _
      refine XS.iconst X60.here hx rfl (hb hby d4_22) ?_
      show Steps p.tables e below (T60.setTop (mkF m 23 #[.val (.ref a), .val (.int p1)] [(.int (2 : Int32)), (.int z), (.ref b), (.ref a)])) _
      refine XS.imul X60.here hx rfl (hb hby d4_23) rfl ?_
      exact k)
    obtain ⟨b64, g64⟩ : ∃ z, z = h0.size := ⟨_, rfl⟩
    have ne65 : a ≠ b64 := Nat.ne_of_lt (Nat.lt_of_lt_of_le (F1).lt (Nat.le_of_eq g64.symm))
    have ne66 : b ≠ b64 := Nat.ne_of_lt (Nat.lt_of_lt_of_le (V0).lt (Nat.le_of_eq g64.symm))
    have g_b64 : n0 ≤ b64 := Nat.le_trans Z0 (Nat.le_of_eq g64.symm)
    have sz_b64 : h0.size ≤ b64 := Nat.le_trans KR.1 (Nat.le_of_eq g64.symm)
    have hln : vs.length ≤ z.toNatClampNeg := by rw [← hn, hc55]; exact Nat.le_refl _
    obtain ⟨_, _, ⟨T67, L67, kc67, ks67⟩, -, X67, ⟨Lc67, hQ67, l67, y67, z67⟩, st67⟩ := Jvm.LawKit.callS X60 hx (y := (⟨"java/util/Arrays", "copyOf", "([BI)[B"⟩ : MethodName)) hown (mvT hZ (hw _ (List.mem_of_getElem? (i := 26) rfl))) (mvT hZ (hw _ (List.mem_of_getElem? (i := 27) rfl))) (mvT hZ (hw _ (List.mem_of_getElem? (i := 28) rfl))) (mvT hZ (hw _ (List.mem_of_getElem? (i := 29) rfl))) (by decide) (backOf (W := 1) (rm5 l Z a0 hw [] b (z * (2 : Int32)) b64 k z vs h0 n0 Z0 V0 g64 (hG hc55).1 (hG hc55).2.1 hz0 (hG hc55).2.2.1 (hG hc55).2.2.2.1 (hG hc55).2.2.2.2.1 (hG hc55).2.2.2.2.2 hln) hZ (hw _ (List.mem_of_getElem? (i := 29) rfl)) (hw _ (List.mem_of_getElem? (i := 28) rfl)) (by decide) (by decide)) (g := (mkF m 24 #[.val (.ref a), .val (.int p1)] [(.int (z * (2 : Int32))), (.ref b), (.ref a)])) rfl (by rw [hml]; rfl) (argsL := [(.ref b), (.int (z * (2 : Int32)))]) (rest := [(.ref a)]) (lenOf pd_2 rfl) rfl (by show 2 * 0 + _ ≤ _; exact Nat.le_of_eq rfl) (hb hby d4_24) (fun _ _ => ⟨rfl, e60, (by decide : 0 + 1 ≤ _), (by decide : 0 + 16 ≤ _)⟩)
    dsimp only [Pt.U, Pt.locs, Pt.cells, Pt.slots] at X67 l67 y67 z67 st67 hQ67
    subst l67 y67 z67
    obtain ⟨rfl, Nq67, K67, kn67, Vx67⟩ := hQ67
    have N67 := Fr.app N0 Nq67
    obtain ⟨LH67, XH67, NH67⟩ := own_hide X67 N67
    clear X67 N67
    have Z68 : n0 ≤ T67.heap.size := Nat.le_trans Z0 K67.1
    have K69 : Keep h0 T67.heap [a, b] := KR.trans K67 all0
    have F70 : Fld Z T67.heap a "com/example/wegweiser/wegweiser/index/ByteSink" "length" "I" (.int n) := (F1).keep K67 nin0
    have F71 : Fld Z T67.heap a "com/example/wegweiser/wegweiser/index/ByteSink" "bytes" "[B" (.ref b) := (F2).keep K67 nin0
    have F72 : Exa Z T67.heap a "com/example/wegweiser/wegweiser/index/ByteSink" := (Ea).keep K67
    have F73 : Arv Z T67.heap b k .byte z vs (.int (0 : Int32)) := (V0).keep K67 nin0
    have k74 : ∀ t, Steps p.tables e below (T67.setTop (mkF m 27 #[.val (.ref a), .val (.int p1)] [(.ref b64), (.ref a)])) t → Steps p.tables e below (s₁.setTop (entryFrame m #[(.ref a), (.int p1)] 2)) t := fun t k => k63 t (st67 t k)
    obtain ⟨T75, h75, X75, e75, W75, st75⟩ := putF XH67 hx hZ hown (host := "") (Or.inl (hw _ (List.mem_of_getElem? (i := 17) rfl))) Via.refl rfl F71 F72 (Or.inl (hw _ (List.mem_of_getElem? (i := 18) rfl))) (hw _ (List.mem_of_getElem? (i := 3) rfl)) (ty := (.array .byte)) (by decide) rfl rfl (g := (mkF m 27 #[.val (.ref a), .val (.int p1)] [(.ref b64), (.ref a)])) rfl rfl (hb hby d4_27)
    have N75 := Fr.snoc X75 NH67 g_a
    obtain ⟨LH75, XH75, NH75⟩ := own_hide X75 N75
    clear X75 N75
    have Z76 : n0 ≤ h75.size := Nat.le_trans Z68 (Nat.le_of_eq W75.size.symm)
    have K77 : Keep h0 h75 [a, b] := K69.wr W75 (Or.inl (List.mem_of_getElem? (i := 0) rfl))
    have F78 : Fld Z h75 a "com/example/wegweiser/wegweiser/index/ByteSink" "length" "I" (.int n) := Fld.other W75 F70 (Or.inr (slot_ne (Or.inl (hw _ (List.mem_of_getElem? (i := 25) rfl))) (Or.inl (hw _ (List.mem_of_getElem? (i := 18) rfl))) (by decide) (t := .int) (t' := (.array .byte)) (by decide) (by decide)))
    have F79 : Exa Z h75 a "com/example/wegweiser/wegweiser/index/ByteSink" := Exa.wr W75 F72
    have F80 : Arv Z h75 b k .byte z vs (.int (0 : Int32)) := (F73).other W75 nba
    have F81 : Arv Z h75 b64 kn67 .byte (z * (2 : Int32)) vs (.int (0 : Int32)) := (Vx67).other W75 (Ne.symm ne65)
    have F82 : Fld Z h75 a "com/example/wegweiser/wegweiser/index/ByteSink" "bytes" "[B" (.ref b64) := Fld.same W75 F71
    have k83 : ∀ t, Steps p.tables e below (T75.setTop (mkF m 30 #[.val (.ref a), .val (.int p1)] [])) t → Steps p.tables e below (s₁.setTop (entryFrame m #[(.ref a), (.int p1)] 2)) t := fun t k => k74 t (st75 t k)
    have k84 : ∀ t, Steps p.tables e below (T75.setTop (mkF m 31 #[.val (.ref a), .val (.int p1)] [(.ref a)])) t → Steps p.tables e below (s₁.setTop (entryFrame m #[(.ref a), (.int p1)] 2)) t := fun t k => k83 t (by
      show Steps p.tables e below (T75.setTop (mkF m 30 #[.val (.ref a), .val (.int p1)] [])) _
      refine XS.aloadN XH75.here hx rfl (hb hby d4_30) rfl rfl ?_
      exact k)
    obtain ⟨T85, X85, e85, st85⟩ := getF XH75 hx hZ hown (host := "") (Or.inl (hw _ (List.mem_of_getElem? (i := 17) rfl))) Via.refl e75 F82 (g := (mkF m 31 #[.val (.ref a), .val (.int p1)] [(.ref a)])) rfl rfl (hb hby d4_31)
    have k86 : ∀ t, Steps p.tables e below (T85.setTop (mkF m 34 #[.val (.ref a), .val (.int p1)] [(.ref b64)])) t → Steps p.tables e below (s₁.setTop (entryFrame m #[(.ref a), (.int p1)] 2)) t := fun t k => k84 t (st85 t k)
    have k87 : ∀ t, Steps p.tables e below (T85.setTop (mkF m 36 #[.val (.ref a), .val (.int p1)] [(.ref a), (.ref a), (.ref b64)])) t → Steps p.tables e below (s₁.setTop (entryFrame m #[(.ref a), (.int p1)] 2)) t := fun t k => k86 t (by
      show Steps p.tables e below (T85.setTop (mkF m 34 #[.val (.ref a), .val (.int p1)] [(.ref b64)])) _
      refine XS.aloadN X85.here hx rfl (hb hby d4_34) rfl rfl ?_
      show Steps p.tables e below (T85.setTop (mkF m 35 #[.val (.ref a), .val (.int p1)] [(.ref a), (.ref b64)])) _
      refine XS.dup X85.here hx rfl (hb hby d4_35) rfl rfl ?_
      exact k)
    obtain ⟨T88, X88, e88, st88⟩ := getF X85 hx hZ hown (host := "") (Or.inl (hw _ (List.mem_of_getElem? (i := 24) rfl))) Via.refl e85 F78 (g := (mkF m 36 #[.val (.ref a), .val (.int p1)] [(.ref a), (.ref a), (.ref b64)])) rfl rfl (hb hby d4_36)
    have k89 : ∀ t, Steps p.tables e below (T88.setTop (mkF m 39 #[.val (.ref a), .val (.int p1)] [(.int n), (.ref a), (.ref b64)])) t → Steps p.tables e below (s₁.setTop (entryFrame m #[(.ref a), (.int p1)] 2)) t := fun t k => k87 t (st88 t k)
    have k90 : ∀ t, Steps p.tables e below (T88.setTop (mkF m 42 #[.val (.ref a), .val (.int p1)] [(.int (n + (1 : Int32))), (.ref a), (.int n), (.ref b64)])) t → Steps p.tables e below (s₁.setTop (entryFrame m #[(.ref a), (.int p1)] 2)) t := fun t k => k89 t (by
      show Steps p.tables e below (T88.setTop (mkF m 39 #[.val (.ref a), .val (.int p1)] [(.int n), (.ref a), (.ref b64)])) _
      refine XS.dupX1 X88.here hx rfl (hb hby d4_39) rfl rfl rfl ?_
      show Steps p.tables e below (T88.setTop (mkF m 40 #[.val (.ref a), .val (.int p1)] [(.int n), (.ref a), (.int n), (.ref b64)])) _
      refine XS.iconst X88.here hx rfl (hb hby d4_40) ?_
      show Steps p.tables e below (T88.setTop (mkF m 41 #[.val (.ref a), .val (.int p1)] [(.int (1 : Int32)), (.int n), (.ref a), (.int n), (.ref b64)])) _
      refine XS.iadd X88.here hx rfl (hb hby d4_41) rfl ?_
      exact k)
    obtain ⟨T91, h91, X91, e91, W91, st91⟩ := putF X88 hx hZ hown (host := "") (Or.inl (hw _ (List.mem_of_getElem? (i := 24) rfl))) Via.refl e88 F78 F79 (Or.inl (hw _ (List.mem_of_getElem? (i := 25) rfl))) (hw _ (List.mem_of_getElem? (i := 3) rfl)) (ty := .int) (by decide) rfl rfl (g := (mkF m 42 #[.val (.ref a), .val (.int p1)] [(.int (n + (1 : Int32))), (.ref a), (.int n), (.ref b64)])) rfl rfl (hb hby d4_42)
    have N91 := Fr.snoc X91 NH75 g_a
    obtain ⟨LH91, XH91, NH91⟩ := own_hide X91 N91
    clear X91 N91
    have Z92 : n0 ≤ h91.size := Nat.le_trans Z76 (Nat.le_of_eq W91.size.symm)
    have K93 : Keep h0 h91 [a, b] := K77.wr W91 (Or.inl (List.mem_of_getElem? (i := 0) rfl))
    have F94 : Exa Z h91 a "com/example/wegweiser/wegweiser/index/ByteSink" := Exa.wr W91 F79
    have F95 : Arv Z h91 b k .byte z vs (.int (0 : Int32)) := (F80).other W91 nba
    have F96 : Arv Z h91 b64 kn67 .byte (z * (2 : Int32)) vs (.int (0 : Int32)) := (F81).other W91 (Ne.symm ne65)
    have F97 : Fld Z h91 a "com/example/wegweiser/wegweiser/index/ByteSink" "bytes" "[B" (.ref b64) := Fld.other W91 F82 (Or.inr (slot_ne (Or.inl (hw _ (List.mem_of_getElem? (i := 18) rfl))) (Or.inl (hw _ (List.mem_of_getElem? (i := 25) rfl))) (by decide) (t := (.array .byte)) (t' := .int) (by decide) (by decide)))
    have F98 : Fld Z h91 a "com/example/wegweiser/wegweiser/index/ByteSink" "length" "I" (.int (n + (1 : Int32))) := Fld.same W91 F78
    have k99 : ∀ t, Steps p.tables e below (T91.setTop (mkF m 45 #[.val (.ref a), .val (.int p1)] [(.int n), (.ref b64)])) t → Steps p.tables e below (s₁.setTop (entryFrame m #[(.ref a), (.int p1)] 2)) t := fun t k => k90 t (st91 t k)
    have k100 : ∀ t, Steps p.tables e below (T91.setTop (mkF m 47 #[.val (.ref a), .val (.int p1)] [(.int (p1.toInt8.toInt32)), (.int n), (.ref b64)])) t → Steps p.tables e below (s₁.setTop (entryFrame m #[(.ref a), (.int p1)] 2)) t := fun t k => k99 t (by
      show Steps p.tables e below (T91.setTop (mkF m 45 #[.val (.ref a), .val (.int p1)] [(.int n), (.ref b64)])) _
      refine XS.iloadN XH91.here hx rfl (hb hby d4_45) rfl ?_
      show Steps p.tables e below (T91.setTop (mkF m 46 #[.val (.ref a), .val (.int p1)] [(.int p1), (.int n), (.ref b64)])) _
      refine XS.i2b XH91.here hx rfl (hb hby d4_46) rfl ?_
      exact k)
    obtain ⟨cl101, Ar101, qq101, S101, M101, H101, G101⟩ := (F96).pad (pad_rep vs (.int (0 : Int32)) 1)
    have hin101 : ¬ (n < 0 ∨ cl101.slots.size ≤ n.toNatClampNeg) := inb_of S101 ⟨hn0, hL1 hc55⟩
    obtain ⟨T101, h101, X101, e101, W101, st101⟩ := stB XH91 hx hZ e91 Ar101 (j := n) hin101 (g := (mkF m 47 #[.val (.ref a), .val (.int p1)] [(.int (p1.toInt8.toInt32)), (.int n), (.ref b64)])) rfl rfl (hb hby d4_47)
    have V101 : Arv Z h101 b64 kn67 .byte (z * (2 : Int32)) (vs ++ [(.int (own_b p1))]) (.int (0 : Int32)) := by
      have q := Arv.set Ar101 qq101 S101 M101 H101 G101 (fits_nar_byte _) W101 vs.length hn (by simp)
      rw [show (Value.int ((p1.toInt8.toInt32).toInt8.toInt32)) = Value.int (own_b p1) from congrArg Value.int (own_bb p1)] at q
      exact (own_set vs _ _) ▸ q
    have N101 := Fr.snoc X101 NH91 g_b64
    obtain ⟨LH101, XH101, NH101⟩ := own_hide X101 N101
    clear X101 N101
    have Z102 : n0 ≤ h101.size := Nat.le_trans Z92 (Nat.le_of_eq W101.size.symm)
    have K103 : Keep h0 h101 [a, b] := K93.wr W101 (Or.inr sz_b64)
    have F104 : Exa Z h101 a "com/example/wegweiser/wegweiser/index/ByteSink" := Exa.wr W101 F94
    have F105 : Arv Z h101 b k .byte z vs (.int (0 : Int32)) := (F95).other W101 ne66
    have F106 : Fld Z h101 a "com/example/wegweiser/wegweiser/index/ByteSink" "bytes" "[B" (.ref b64) := Fld.other W101 F97 (Or.inl ne65)
    have F107 : Fld Z h101 a "com/example/wegweiser/wegweiser/index/ByteSink" "length" "I" (.int (n + (1 : Int32))) := Fld.other W101 F98 (Or.inl ne65)
    have k108 : ∀ t, Steps p.tables e below (T101.setTop (mkF m 48 #[.val (.ref a), .val (.int p1)] [])) t → Steps p.tables e below (s₁.setTop (entryFrame m #[(.ref a), (.int p1)] 2)) t := fun t k => k100 t (st101 t k)
    obtain ⟨fs, hr, hrun, hended, hW, hsame⟩ := XH101.leave (v := none) (fun _ => rfl)
    refine ⟨_, _, k108 _ ?_, hrun, hended, _, _, rfl, ?_, ⟨_, rfl⟩, hW, hsame.mono (by decide) (by decide)⟩
    · show Steps p.tables e below (T101.setTop (mkF m 48 #[.val (.ref a), .val (.int p1)] [])) _
      exact XH101.returnOut hx Bd.returns (hb hby d4_48) hr
    · show Q4 Z a p1 b k n z vs h0 n0 _ T101.heap _
      rw [e101]
      exact ⟨b64, _, rfl, NH101, K103, g_b64, Ne.symm ne65, Or.inr (Nat.le_of_eq g64.symm), F104, F107, F106, (show own_cap n z = z * (2 : Int32) from if_pos hc55) ▸ V101⟩
  · have k110 : ∀ t, Steps p.tables e below (T51.setTop (mkF m 31 #[.val (.ref a), .val (.int p1)] [(.ref a)])) t → Steps p.tables e below (s₁.setTop (entryFrame m #[(.ref a), (.int p1)] 2)) t := fun t k => k54 t (by
      show Steps p.tables e below (T51.setTop (mkF m 9 #[.val (.ref a), .val (.int p1)] [(.int z), (.int n)])) _
      refine XS.icmpYes X51.here hx rfl (pc0 := 9) (pc' := 30) rfl (hb hby d4_9) rfl (feq hc55).2 (by decide) (by decide) ?_
      show Steps p.tables e below (T51.setTop (mkF m 30 #[.val (.ref a), .val (.int p1)] [])) _
      refine XS.aloadN X51.here hx rfl (hb hby d4_30) rfl rfl ?_
      exact k)
    obtain ⟨T111, X111, e111, st111⟩ := getF X51 hx hZ hown (host := "") (Or.inl (hw _ (List.mem_of_getElem? (i := 17) rfl))) Via.refl e51 F2 (g := (mkF m 31 #[.val (.ref a), .val (.int p1)] [(.ref a)])) rfl rfl (hb hby d4_31)
    have k112 : ∀ t, Steps p.tables e below (T111.setTop (mkF m 34 #[.val (.ref a), .val (.int p1)] [(.ref b)])) t → Steps p.tables e below (s₁.setTop (entryFrame m #[(.ref a), (.int p1)] 2)) t := fun t k => k110 t (st111 t k)
    have k113 : ∀ t, Steps p.tables e below (T111.setTop (mkF m 36 #[.val (.ref a), .val (.int p1)] [(.ref a), (.ref a), (.ref b)])) t → Steps p.tables e below (s₁.setTop (entryFrame m #[(.ref a), (.int p1)] 2)) t := fun t k => k112 t (by
      show Steps p.tables e below (T111.setTop (mkF m 34 #[.val (.ref a), .val (.int p1)] [(.ref b)])) _
      refine XS.aloadN X111.here hx rfl (hb hby d4_34) rfl rfl ?_
      show Steps p.tables e below (T111.setTop (mkF m 35 #[.val (.ref a), .val (.int p1)] [(.ref a), (.ref b)])) _
      refine XS.dup X111.here hx rfl (hb hby d4_35) rfl rfl ?_
      exact k)
    obtain ⟨T114, X114, e114, st114⟩ := getF X111 hx hZ hown (host := "") (Or.inl (hw _ (List.mem_of_getElem? (i := 24) rfl))) Via.refl e111 F1 (g := (mkF m 36 #[.val (.ref a), .val (.int p1)] [(.ref a), (.ref a), (.ref b)])) rfl rfl (hb hby d4_36)
    have k115 : ∀ t, Steps p.tables e below (T114.setTop (mkF m 39 #[.val (.ref a), .val (.int p1)] [(.int n), (.ref a), (.ref b)])) t → Steps p.tables e below (s₁.setTop (entryFrame m #[(.ref a), (.int p1)] 2)) t := fun t k => k113 t (st114 t k)
    have k116 : ∀ t, Steps p.tables e below (T114.setTop (mkF m 42 #[.val (.ref a), .val (.int p1)] [(.int (n + (1 : Int32))), (.ref a), (.int n), (.ref b)])) t → Steps p.tables e below (s₁.setTop (entryFrame m #[(.ref a), (.int p1)] 2)) t := fun t k => k115 t (by
      show Steps p.tables e below (T114.setTop (mkF m 39 #[.val (.ref a), .val (.int p1)] [(.int n), (.ref a), (.ref b)])) _
      refine XS.dupX1 X114.here hx rfl (hb hby d4_39) rfl rfl rfl ?_
      show Steps p.tables e below (T114.setTop (mkF m 40 #[.val (.ref a), .val (.int p1)] [(.int n), (.ref a), (.int n), (.ref b)])) _
      refine XS.iconst X114.here hx rfl (hb hby d4_40) ?_
      show Steps p.tables e below (T114.setTop (mkF m 41 #[.val (.ref a), .val (.int p1)] [(.int (1 : Int32)), (.int n), (.ref a), (.int n), (.ref b)])) _
      refine XS.iadd X114.here hx rfl (hb hby d4_41) rfl ?_
      exact k)
    obtain ⟨T117, h117, X117, e117, W117, st117⟩ := putF X114 hx hZ hown (host := "") (Or.inl (hw _ (List.mem_of_getElem? (i := 24) rfl))) Via.refl e114 F1 Ea (Or.inl (hw _ (List.mem_of_getElem? (i := 25) rfl))) (hw _ (List.mem_of_getElem? (i := 3) rfl)) (ty := .int) (by decide) rfl rfl (g := (mkF m 42 #[.val (.ref a), .val (.int p1)] [(.int (n + (1 : Int32))), (.ref a), (.int n), (.ref b)])) rfl rfl (hb hby d4_42)
    have N117 := Fr.snoc X117 N0 g_a
    obtain ⟨LH117, XH117, NH117⟩ := own_hide X117 N117
    clear X117 N117
    have Z118 : n0 ≤ h117.size := Nat.le_trans Z0 (Nat.le_of_eq W117.size.symm)
    have K119 : Keep h0 h117 [a, b] := KR.wr W117 (Or.inl (List.mem_of_getElem? (i := 0) rfl))
    have F120 : Fld Z h117 a "com/example/wegweiser/wegweiser/index/ByteSink" "bytes" "[B" (.ref b) := Fld.other W117 F2 (Or.inr (slot_ne (Or.inl (hw _ (List.mem_of_getElem? (i := 18) rfl))) (Or.inl (hw _ (List.mem_of_getElem? (i := 25) rfl))) (by decide) (t := (.array .byte)) (t' := .int) (by decide) (by decide)))
    have F121 : Exa Z h117 a "com/example/wegweiser/wegweiser/index/ByteSink" := Exa.wr W117 Ea
    have F122 : Arv Z h117 b k .byte z vs (.int (0 : Int32)) := (V0).other W117 nba
    have F123 : Fld Z h117 a "com/example/wegweiser/wegweiser/index/ByteSink" "length" "I" (.int (n + (1 : Int32))) := Fld.same W117 F1
    have k124 : ∀ t, Steps p.tables e below (T117.setTop (mkF m 45 #[.val (.ref a), .val (.int p1)] [(.int n), (.ref b)])) t → Steps p.tables e below (s₁.setTop (entryFrame m #[(.ref a), (.int p1)] 2)) t := fun t k => k116 t (st117 t k)
    have k125 : ∀ t, Steps p.tables e below (T117.setTop (mkF m 47 #[.val (.ref a), .val (.int p1)] [(.int (p1.toInt8.toInt32)), (.int n), (.ref b)])) t → Steps p.tables e below (s₁.setTop (entryFrame m #[(.ref a), (.int p1)] 2)) t := fun t k => k124 t (by
      show Steps p.tables e below (T117.setTop (mkF m 45 #[.val (.ref a), .val (.int p1)] [(.int n), (.ref b)])) _
      refine XS.iloadN XH117.here hx rfl (hb hby d4_45) rfl ?_
      show Steps p.tables e below (T117.setTop (mkF m 46 #[.val (.ref a), .val (.int p1)] [(.int p1), (.int n), (.ref b)])) _
      refine XS.i2b XH117.here hx rfl (hb hby d4_46) rfl ?_
      exact k)
    obtain ⟨cl126, Ar126, qq126, S126, M126, H126, G126⟩ := (F122).pad (pad_rep vs (.int (0 : Int32)) 1)
    have hin126 : ¬ (n < 0 ∨ cl126.slots.size ≤ n.toNatClampNeg) := inb_of S126 ⟨hn0, hL0 hc55⟩
    obtain ⟨T126, h126, X126, e126, W126, st126⟩ := stB XH117 hx hZ e117 Ar126 (j := n) hin126 (g := (mkF m 47 #[.val (.ref a), .val (.int p1)] [(.int (p1.toInt8.toInt32)), (.int n), (.ref b)])) rfl rfl (hb hby d4_47)
    have V126 : Arv Z h126 b k .byte z (vs ++ [(.int (own_b p1))]) (.int (0 : Int32)) := by
      have q := Arv.set Ar126 qq126 S126 M126 H126 G126 (fits_nar_byte _) W126 vs.length hn (by simp)
      rw [show (Value.int ((p1.toInt8.toInt32).toInt8.toInt32)) = Value.int (own_b p1) from congrArg Value.int (own_bb p1)] at q
      exact (own_set vs _ _) ▸ q
    have N126 := Fr.snoc X126 NH117 g_b
    obtain ⟨LH126, XH126, NH126⟩ := own_hide X126 N126
    clear X126 N126
    have Z127 : n0 ≤ h126.size := Nat.le_trans Z118 (Nat.le_of_eq W126.size.symm)
    have K128 : Keep h0 h126 [a, b] := K119.wr W126 (Or.inl (List.mem_of_getElem? (i := 1) rfl))
    have F129 : Fld Z h126 a "com/example/wegweiser/wegweiser/index/ByteSink" "bytes" "[B" (.ref b) := Fld.other W126 F120 (Or.inl (Ne.symm nba))
    have F130 : Exa Z h126 a "com/example/wegweiser/wegweiser/index/ByteSink" := Exa.wr W126 F121
    have F131 : Fld Z h126 a "com/example/wegweiser/wegweiser/index/ByteSink" "length" "I" (.int (n + (1 : Int32))) := Fld.other W126 F123 (Or.inl (Ne.symm nba))
    have k132 : ∀ t, Steps p.tables e below (T126.setTop (mkF m 48 #[.val (.ref a), .val (.int p1)] [])) t → Steps p.tables e below (s₁.setTop (entryFrame m #[(.ref a), (.int p1)] 2)) t := fun t k => k125 t (st126 t k)
    obtain ⟨fs, hr, hrun, hended, hW, hsame⟩ := XH126.leave (v := none) (fun _ => rfl)
    refine ⟨_, _, k132 _ ?_, hrun, hended, _, _, rfl, ?_, ⟨_, rfl⟩, hW, hsame.mono (by decide) (by decide)⟩
    · show Steps p.tables e below (T126.setTop (mkF m 48 #[.val (.ref a), .val (.int p1)] [])) _
      exact XH126.returnOut hx Bd.returns (hb hby d4_48) hr
    · show Q4 Z a p1 b k n z vs h0 n0 _ T126.heap _
      rw [e126]
      exact ⟨b, _, rfl, NH126, K128, g_b, nba, Or.inl rfl, F130, F131, F129, (show own_cap n z = z from if_neg hc55) ▸ V126⟩
theorem d7_0 : decode prog_14_method_5_code 0 = .ok (.aload_n 0, 1) := by decide +kernel
theorem d7_1 : decode prog_14_method_5_code 1 = .ok (.getfield 13, 3) := by decide +kernel
theorem d7_4 : decode prog_14_method_5_code 4 = .ok (.ireturn, 1) := by decide +kernel
theorem ef_7 (m : MethodId) (x0 : Addr) : entryFrame m #[(.ref x0)] 1 = mkF m 0 #[.val (.ref x0)] [] := by first | (simp [entryFrame, mkF, argsToLocals, Value.category]; done) | rfl
def Q7 (Z : State) (a : Addr) (n : Int32) (h0 : Heap) (n0 : Nat) (v : Option Value) (h : Heap) (L : List Loc) : Prop := v = some (.int n) ∧ Fr n0 L ∧ h = h0
set_option maxRecDepth 65536 in
set_option maxHeartbeats 40000000 in
theorem rm7 (l : Launch) (Z : State) (a0 : Array Value) (hw : ∀ d ∈ tables_1, d.before a0 Z = true) (ws : List Jvm.Cond) (a : Addr) (n : Int32) (h0 : Heap) (n0 : Nat) (Z0 : n0 ≤ h0.size) (F1 : Fld Z h0 a "com/example/wegweiser/wegweiser/index/ByteSink" "length" "I" (.int n)) :
    MetFree l (⟨"com/example/wegweiser/wegweiser/index/ByteSink", "length", "()I"⟩ : MethodName) (head1 (Jvm.Cond.code (⟨"com/example/wegweiser/wegweiser/index/ByteSink", "length", "()I"⟩ : MethodName) prog_14_method_5_code 1 (some .int) :: ws) ({ frames := 0, cells := 0, slots := 0, locals := 0 } : Room)) (fun aa U => aa = #[(.ref a)] ∧ Z.Warmed39 U.vm ∧ U.heap = h0) (fun _ _ _ _ _ => True) (fun _ U o U' => ∃ v L, o = .returned v ∧ Q7 Z a n h0 n0 v U'.heap L ∧ FrameEnd U o U' L ({ frames := 0, cells := 0, slots := 0, locals := 0 } : Room).cells ({ frames := 0, cells := 0, slots := 0, locals := 0 } : Room).slots) := by
  refine MetFree.of_bodySF (plainFor_of_name pn_1) hisR ?_
  intro p e s m args below meth c s₁ Bd hml0 hP hK
  obtain ⟨rfl, hZ, hh⟩ := hP
  have hx := Bd.exec
  have hby := Bd.bytes
  have hml : c.maxLocals = 1 := hml0
  have hown : s.vm.findClass "com/example/wegweiser/wegweiser/index/ByteSink" = some m.cls := findClass_of_methodNamed Bd.named
  have hnm := (name_of_methodNamed Bd.named Bd.method).1
  have X0 : Stand p l e ({ frames := 0, cells := 0, slots := 0, locals := 0 } : Room) s m #[(.ref a)] below meth c s₁ [] 0 0 := Stand.of_body Bd
  have e0 : s₁.heap = h0 := by rw [← hh, Bd.state]; rfl
  have N0 := Fr.nil n0
  have pre0 : ∀ t, Steps p.tables e below (s₁.setTop (mkF m 0 #[.val (.ref a)] [])) t → Steps p.tables e below (s₁.setTop (entryFrame m #[(.ref a)] 1)) t := fun t k => castTop (ef_7 m a) k
  have k134 : ∀ t, Steps p.tables e below (s₁.setTop (mkF m 1 #[.val (.ref a)] [(.ref a)])) t → Steps p.tables e below (s₁.setTop (entryFrame m #[(.ref a)] 1)) t := fun t k => pre0 t (by
    show Steps p.tables e below (s₁.setTop (mkF m 0 #[.val (.ref a)] [])) _
    refine XS.aloadN X0.here hx rfl (hb hby d7_0) rfl rfl ?_
    exact k)
  obtain ⟨T135, X135, e135, st135⟩ := getF X0 hx hZ hown (host := "") (Or.inl (hw _ (List.mem_of_getElem? (i := 24) rfl))) Via.refl e0 F1 (g := (mkF m 1 #[.val (.ref a)] [(.ref a)])) rfl rfl (hb hby d7_1)
  have k136 : ∀ t, Steps p.tables e below (T135.setTop (mkF m 4 #[.val (.ref a)] [(.int n)])) t → Steps p.tables e below (s₁.setTop (entryFrame m #[(.ref a)] 1)) t := fun t k => k134 t (st135 t k)
  obtain ⟨fs, hr, hrun, hended, hW, hsame⟩ := X135.leave (v := some (.int n)) (fun h => by rw [Bd.returns] at h; cases h)
  refine ⟨_, _, k136 _ ?_, hrun, hended, _, _, rfl, ?_, ⟨_, rfl⟩, hW, hsame.mono (by decide) (by decide)⟩
  · show Steps p.tables e below (T135.setTop (mkF m 4 #[.val (.ref a)] [(.int n)])) _
    exact retI X135 hx Bd.returns (hb hby d7_4) hr
  · show Q7 Z a n h0 n0 _ T135.heap _
    rw [e135]
    exact ⟨rfl, N0, rfl⟩
theorem d8_0 : decode prog_14_method_6_code 0 = .ok (.aload_n 0, 1) := by decide +kernel
theorem d8_1 : decode prog_14_method_6_code 1 = .ok (.getfield 7, 3) := by decide +kernel
theorem d8_4 : decode prog_14_method_6_code 4 = .ok (.arraylength, 1) := by decide +kernel
theorem d8_5 : decode prog_14_method_6_code 5 = .ok (.ireturn, 1) := by decide +kernel
theorem ef_8 (m : MethodId) (x0 : Addr) : entryFrame m #[(.ref x0)] 1 = mkF m 0 #[.val (.ref x0)] [] := by first | (simp [entryFrame, mkF, argsToLocals, Value.category]; done) | rfl
def Q8 (Z : State) (a : Addr) (b : Addr) (k : ClassId) (z : Int32) (vs : List Value) (h0 : Heap) (n0 : Nat) (v : Option Value) (h : Heap) (L : List Loc) : Prop := v = some (.int z) ∧ Fr n0 L ∧ h = h0
set_option maxRecDepth 65536 in
set_option maxHeartbeats 40000000 in
theorem rm8 (l : Launch) (Z : State) (a0 : Array Value) (hw : ∀ d ∈ tables_1, d.before a0 Z = true) (ws : List Jvm.Cond) (a : Addr) (b : Addr) (k : ClassId) (z : Int32) (vs : List Value) (h0 : Heap) (n0 : Nat) (Z0 : n0 ≤ h0.size) (F1 : Fld Z h0 a "com/example/wegweiser/wegweiser/index/ByteSink" "bytes" "[B" (.ref b)) (V0 : Arv Z h0 b k .byte z vs (.int (0 : Int32))) :
    MetFree l (⟨"com/example/wegweiser/wegweiser/index/ByteSink", "capacity", "()I"⟩ : MethodName) (head1 (Jvm.Cond.code (⟨"com/example/wegweiser/wegweiser/index/ByteSink", "capacity", "()I"⟩ : MethodName) prog_14_method_6_code 1 (some .int) :: ws) ({ frames := 0, cells := 0, slots := 0, locals := 0 } : Room)) (fun aa U => aa = #[(.ref a)] ∧ Z.Warmed39 U.vm ∧ U.heap = h0) (fun _ _ _ _ _ => True) (fun _ U o U' => ∃ v L, o = .returned v ∧ Q8 Z a b k z vs h0 n0 v U'.heap L ∧ FrameEnd U o U' L ({ frames := 0, cells := 0, slots := 0, locals := 0 } : Room).cells ({ frames := 0, cells := 0, slots := 0, locals := 0 } : Room).slots) := by
  refine MetFree.of_bodySF (plainFor_of_name pn_1) hisR ?_
  intro p e s m args below meth c s₁ Bd hml0 hP hK
  obtain ⟨rfl, hZ, hh⟩ := hP
  have hx := Bd.exec
  have hby := Bd.bytes
  have hml : c.maxLocals = 1 := hml0
  have hown : s.vm.findClass "com/example/wegweiser/wegweiser/index/ByteSink" = some m.cls := findClass_of_methodNamed Bd.named
  have hnm := (name_of_methodNamed Bd.named Bd.method).1
  have X0 : Stand p l e ({ frames := 0, cells := 0, slots := 0, locals := 0 } : Room) s m #[(.ref a)] below meth c s₁ [] 0 0 := Stand.of_body Bd
  have e0 : s₁.heap = h0 := by rw [← hh, Bd.state]; rfl
  have N0 := Fr.nil n0
  have pre0 : ∀ t, Steps p.tables e below (s₁.setTop (mkF m 0 #[.val (.ref a)] [])) t → Steps p.tables e below (s₁.setTop (entryFrame m #[(.ref a)] 1)) t := fun t k => castTop (ef_8 m a) k
  have k138 : ∀ t, Steps p.tables e below (s₁.setTop (mkF m 1 #[.val (.ref a)] [(.ref a)])) t → Steps p.tables e below (s₁.setTop (entryFrame m #[(.ref a)] 1)) t := fun t k => pre0 t (by
    show Steps p.tables e below (s₁.setTop (mkF m 0 #[.val (.ref a)] [])) _
    refine XS.aloadN X0.here hx rfl (hb hby d8_0) rfl rfl ?_
    exact k)
  obtain ⟨T139, X139, e139, st139⟩ := getF X0 hx hZ hown (host := "") (Or.inl (hw _ (List.mem_of_getElem? (i := 17) rfl))) Via.refl e0 F1 (g := (mkF m 1 #[.val (.ref a)] [(.ref a)])) rfl rfl (hb hby d8_1)
  have k140 : ∀ t, Steps p.tables e below (T139.setTop (mkF m 4 #[.val (.ref a)] [(.ref b)])) t → Steps p.tables e below (s₁.setTop (entryFrame m #[(.ref a)] 1)) t := fun t k => k138 t (st139 t k)
  have k142 : ∀ t, Steps p.tables e below (T139.setTop (mkF m 5 #[.val (.ref a)] [(.int z)])) t → Steps p.tables e below (s₁.setTop (entryFrame m #[(.ref a)] 1)) t := fun t k => k140 t (by
    show Steps p.tables e below (T139.setTop (mkF m 4 #[.val (.ref a)] [(.ref b)])) _
    obtain ⟨clq141, Arq141, -, Sq141, Nq141, -, -⟩ := id V0
    refine X139.arraylength hx (by rw [e139]; exact Arq141.1) (State.isArrayOf_alike hZ.alike Arq141.2.1) (g := (mkF m 4 #[.val (.ref a)] [(.ref b)])) rfl rfl (hb hby d8_4) _ ?_
    rw [len_of Sq141 Nq141]
    exact k)
  obtain ⟨fs, hr, hrun, hended, hW, hsame⟩ := X139.leave (v := some (.int z)) (fun h => by rw [Bd.returns] at h; cases h)
  refine ⟨_, _, k142 _ ?_, hrun, hended, _, _, rfl, ?_, ⟨_, rfl⟩, hW, hsame.mono (by decide) (by decide)⟩
  · show Steps p.tables e below (T139.setTop (mkF m 5 #[.val (.ref a)] [(.int z)])) _
    exact retI X139 hx Bd.returns (hb hby d8_5) hr
  · show Q8 Z a b k z vs h0 n0 _ T139.heap _
    rw [e139]
    exact ⟨rfl, N0, rfl⟩
theorem d9_0 : decode prog_14_method_4_code 0 = .ok (.aload_n 0, 1) := by decide +kernel
theorem d9_1 : decode prog_14_method_4_code 1 = .ok (.getfield 7, 3) := by decide +kernel
theorem d9_4 : decode prog_14_method_4_code 4 = .ok (.areturn, 1) := by decide +kernel
theorem ef_9 (m : MethodId) (x0 : Addr) : entryFrame m #[(.ref x0)] 1 = mkF m 0 #[.val (.ref x0)] [] := by first | (simp [entryFrame, mkF, argsToLocals, Value.category]; done) | rfl
def Q9 (Z : State) (a : Addr) (b : Addr) (h0 : Heap) (n0 : Nat) (v : Option Value) (h : Heap) (L : List Loc) : Prop := v = some (.ref b) ∧ Fr n0 L ∧ h = h0
set_option maxRecDepth 65536 in
set_option maxHeartbeats 40000000 in
theorem rm9 (l : Launch) (Z : State) (a0 : Array Value) (hw : ∀ d ∈ tables_1, d.before a0 Z = true) (ws : List Jvm.Cond) (a : Addr) (b : Addr) (h0 : Heap) (n0 : Nat) (Z0 : n0 ≤ h0.size) (F1 : Fld Z h0 a "com/example/wegweiser/wegweiser/index/ByteSink" "bytes" "[B" (.ref b)) :
    MetFree l (⟨"com/example/wegweiser/wegweiser/index/ByteSink", "bytes", "()[B"⟩ : MethodName) (head1 (Jvm.Cond.code (⟨"com/example/wegweiser/wegweiser/index/ByteSink", "bytes", "()[B"⟩ : MethodName) prog_14_method_4_code 1 (some (.array .byte)) :: ws) ({ frames := 0, cells := 0, slots := 0, locals := 0 } : Room)) (fun aa U => aa = #[(.ref a)] ∧ Z.Warmed39 U.vm ∧ U.heap = h0) (fun _ _ _ _ _ => True) (fun _ U o U' => ∃ v L, o = .returned v ∧ Q9 Z a b h0 n0 v U'.heap L ∧ FrameEnd U o U' L ({ frames := 0, cells := 0, slots := 0, locals := 0 } : Room).cells ({ frames := 0, cells := 0, slots := 0, locals := 0 } : Room).slots) := by
  refine MetFree.of_bodySF (plainFor_of_name pn_1) hisR ?_
  intro p e s m args below meth c s₁ Bd hml0 hP hK
  obtain ⟨rfl, hZ, hh⟩ := hP
  have hx := Bd.exec
  have hby := Bd.bytes
  have hml : c.maxLocals = 1 := hml0
  have hown : s.vm.findClass "com/example/wegweiser/wegweiser/index/ByteSink" = some m.cls := findClass_of_methodNamed Bd.named
  have hnm := (name_of_methodNamed Bd.named Bd.method).1
  have X0 : Stand p l e ({ frames := 0, cells := 0, slots := 0, locals := 0 } : Room) s m #[(.ref a)] below meth c s₁ [] 0 0 := Stand.of_body Bd
  have e0 : s₁.heap = h0 := by rw [← hh, Bd.state]; rfl
  have N0 := Fr.nil n0
  have pre0 : ∀ t, Steps p.tables e below (s₁.setTop (mkF m 0 #[.val (.ref a)] [])) t → Steps p.tables e below (s₁.setTop (entryFrame m #[(.ref a)] 1)) t := fun t k => castTop (ef_9 m a) k
  have k144 : ∀ t, Steps p.tables e below (s₁.setTop (mkF m 1 #[.val (.ref a)] [(.ref a)])) t → Steps p.tables e below (s₁.setTop (entryFrame m #[(.ref a)] 1)) t := fun t k => pre0 t (by
    show Steps p.tables e below (s₁.setTop (mkF m 0 #[.val (.ref a)] [])) _
    refine XS.aloadN X0.here hx rfl (hb hby d9_0) rfl rfl ?_
    exact k)
  obtain ⟨T145, X145, e145, st145⟩ := getF X0 hx hZ hown (host := "") (Or.inl (hw _ (List.mem_of_getElem? (i := 17) rfl))) Via.refl e0 F1 (g := (mkF m 1 #[.val (.ref a)] [(.ref a)])) rfl rfl (hb hby d9_1)
  have k146 : ∀ t, Steps p.tables e below (T145.setTop (mkF m 4 #[.val (.ref a)] [(.ref b)])) t → Steps p.tables e below (s₁.setTop (entryFrame m #[(.ref a)] 1)) t := fun t k => k144 t (st145 t k)
  obtain ⟨fs, hr, hrun, hended, hW, hsame⟩ := X145.leave (v := some (.ref b)) (fun h => by rw [Bd.returns] at h; cases h)
  refine ⟨_, _, k146 _ ?_, hrun, hended, _, _, rfl, ?_, ⟨_, rfl⟩, hW, hsame.mono (by decide) (by decide)⟩
  · show Steps p.tables e below (T145.setTop (mkF m 4 #[.val (.ref a)] [(.ref b)])) _
    exact retOut X145 hx Bd.returns rfl (Or.inr (Or.inr (Or.inr (Or.inr ⟨rfl, rfl, rfl⟩)))) (hb hby d9_4) hr
  · show Q9 Z a b h0 n0 _ T145.heap _
    rw [e145]
    exact ⟨rfl, N0, rfl⟩
theorem d10_0 : decode method_3_code 0 = .ok (.iload_n 3, 1) := by decide +kernel
theorem d10_1 : decode method_3_code 1 = .ok (.aload_n 0, 1) := by decide +kernel
theorem d10_2 : decode method_3_code 2 = .ok (.arraylength, 1) := by decide +kernel
theorem d10_3 : decode method_3_code 3 = .ok (.if_icmp .lt 5, 3) := by decide +kernel
theorem d10_6 : decode method_3_code 6 = .ok (.iconst 1, 1) := by decide +kernel
theorem d10_7 : decode method_3_code 7 = .ok (.ireturn, 1) := by decide +kernel
theorem d10_8 : decode method_3_code 8 = .ok (.iload_n 3, 1) := by decide +kernel
theorem d10_9 : decode method_3_code 9 = .ok (.iload_n 2, 1) := by decide +kernel
theorem d10_10 : decode method_3_code 10 = .ok (.if_icmp .ge 19, 3) := by decide +kernel
theorem d10_13 : decode method_3_code 13 = .ok (.aload_n 0, 1) := by decide +kernel
theorem d10_14 : decode method_3_code 14 = .ok (.iload_n 3, 1) := by decide +kernel
theorem d10_15 : decode method_3_code 15 = .ok (.baload, 1) := by decide +kernel
theorem d10_16 : decode method_3_code 16 = .ok (.aload_n 1, 1) := by decide +kernel
theorem d10_17 : decode method_3_code 17 = .ok (.iload_n 3, 1) := by decide +kernel
theorem d10_18 : decode method_3_code 18 = .ok (.iaload, 1) := by decide +kernel
theorem d10_19 : decode method_3_code 19 = .ok (.i2b, 1) := by decide +kernel
theorem d10_20 : decode method_3_code 20 = .ok (.if_icmp .ne 7, 3) := by decide +kernel
theorem d10_23 : decode method_3_code 23 = .ok (.iconst 1, 1) := by decide +kernel
theorem d10_24 : decode method_3_code 24 = .ok (.goto 4, 3) := by decide +kernel
theorem d10_28 : decode method_3_code 28 = .ok (.ireturn, 1) := by decide +kernel
theorem d10_29 : decode method_3_code 29 = .ok (.aload_n 0, 1) := by decide +kernel
theorem d10_30 : decode method_3_code 30 = .ok (.iload_n 3, 1) := by decide +kernel
theorem d10_31 : decode method_3_code 31 = .ok (.baload, 1) := by decide +kernel
theorem d10_32 : decode method_3_code 32 = .ok (.ifCond .ne 7, 3) := by decide +kernel
theorem d10_35 : decode method_3_code 35 = .ok (.iconst 1, 1) := by decide +kernel
theorem d10_36 : decode method_3_code 36 = .ok (.goto 4, 3) := by decide +kernel
theorem d10_40 : decode method_3_code 40 = .ok (.ireturn, 1) := by decide +kernel
theorem pn_3 : plainName "com/example/wegweiser/wegweiser/index/ByteSinkWritePinLaw" = true := by first | (simp [plainName, overriddenIn]; done) | decide +kernel
theorem ef_10 (m : MethodId) (x0 : Addr) (x1 : Addr) (x2 : Int32) (x3 : Int32) : entryFrame m #[(.ref x0), (.ref x1), (.int x2), (.int x3)] 4 = mkF m 0 #[.val (.ref x0), .val (.ref x1), .val (.int x2), .val (.int x3)] [] := by first | (simp [entryFrame, mkF, argsToLocals, Value.category]; done) | rfl
def Q10 (Z : State) (a : Addr) (cv : Addr) (n : Int32) (i : Int32) (k : ClassId) (z : Int32) (vs : List Value) (k1 : ClassId) (lv : List Value) (y : Int32) (x : Int32) (h0 : Heap) (n0 : Nat) (v : Option Value) (h : Heap) (L : List Loc) : Prop := v = some (.int 1) ∧ Fr n0 L ∧ h = h0
set_option maxRecDepth 65536 in
set_option maxHeartbeats 40000000 in
theorem rm10 (l : Launch) (Z : State) (a0 : Array Value) (hw : ∀ d ∈ tables_1, d.before a0 Z = true) (ws : List Jvm.Cond) (a : Addr) (cv : Addr) (n : Int32) (i : Int32) (k : ClassId) (z : Int32) (vs : List Value) (k1 : ClassId) (lv : List Value) (y : Int32) (x : Int32) (h0 : Heap) (n0 : Nat) (Z0 : n0 ≤ h0.size) (V0 : Arv Z h0 a k .byte z vs (.int (0 : Int32))) (V1 : Arv Z h0 cv k1 .int (5 : Int32) lv (.int (0 : Int32))) (hi0 : ¬ i < 0) (hbv : vs.getD i.toNatClampNeg (.int (0 : Int32)) = .int y) (hv : i < n → (¬ i < 0 ∧ i < (5 : Int32)) ∧ lv.getD i.toNatClampNeg (.int (0 : Int32)) = .int x) (h1 : i < n → y = (x.toInt8.toInt32)) (h2 : ¬ i < n → y = (0 : Int32)) :
    MetFree l (⟨"com/example/wegweiser/wegweiser/index/ByteSinkWritePinLaw", "at", "([B[III)Z"⟩ : MethodName) (head1 (Jvm.Cond.code (⟨"com/example/wegweiser/wegweiser/index/ByteSinkWritePinLaw", "at", "([B[III)Z"⟩ : MethodName) method_3_code 4 (some .boolean) :: ws) ({ frames := 0, cells := 0, slots := 0, locals := 0 } : Room)) (fun aa U => aa = #[(.ref a), (.ref cv), (.int n), (.int i)] ∧ Z.Warmed39 U.vm ∧ U.heap = h0) (fun _ _ _ _ _ => True) (fun _ U o U' => ∃ v L, o = .returned v ∧ Q10 Z a cv n i k z vs k1 lv y x h0 n0 v U'.heap L ∧ FrameEnd U o U' L ({ frames := 0, cells := 0, slots := 0, locals := 0 } : Room).cells ({ frames := 0, cells := 0, slots := 0, locals := 0 } : Room).slots) := by
  refine MetFree.of_bodySF (plainFor_of_name pn_3) hisR ?_
  intro p e s m args below meth c s₁ Bd hml0 hP hK
  obtain ⟨rfl, hZ, hh⟩ := hP
  have hx := Bd.exec
  have hby := Bd.bytes
  have hml : c.maxLocals = 4 := hml0
  have hown : s.vm.findClass "com/example/wegweiser/wegweiser/index/ByteSinkWritePinLaw" = some m.cls := findClass_of_methodNamed Bd.named
  have hnm := (name_of_methodNamed Bd.named Bd.method).1
  have X0 : Stand p l e ({ frames := 0, cells := 0, slots := 0, locals := 0 } : Room) s m #[(.ref a), (.ref cv), (.int n), (.int i)] below meth c s₁ [] 0 0 := Stand.of_body Bd
  have e0 : s₁.heap = h0 := by rw [← hh, Bd.state]; rfl
  have N0 := Fr.nil n0
  have pre0 : ∀ t, Steps p.tables e below (s₁.setTop (mkF m 0 #[.val (.ref a), .val (.ref cv), .val (.int n), .val (.int i)] [])) t → Steps p.tables e below (s₁.setTop (entryFrame m #[(.ref a), (.ref cv), (.int n), (.int i)] 4)) t := fun t k => castTop (ef_10 m a cv n i) k
  have k149 : ∀ t, Steps p.tables e below (s₁.setTop (mkF m 3 #[.val (.ref a), .val (.ref cv), .val (.int n), .val (.int i)] [(.int z), (.int i)])) t → Steps p.tables e below (s₁.setTop (entryFrame m #[(.ref a), (.ref cv), (.int n), (.int i)] 4)) t := fun t k => pre0 t (by
    show Steps p.tables e below (s₁.setTop (mkF m 0 #[.val (.ref a), .val (.ref cv), .val (.int n), .val (.int i)] [])) _
    refine XS.iloadN X0.here hx rfl (hb hby d10_0) rfl ?_
    show Steps p.tables e below (s₁.setTop (mkF m 1 #[.val (.ref a), .val (.ref cv), .val (.int n), .val (.int i)] [(.int i)])) _
    refine XS.aloadN X0.here hx rfl (hb hby d10_1) rfl rfl ?_
    show Steps p.tables e below (s₁.setTop (mkF m 2 #[.val (.ref a), .val (.ref cv), .val (.int n), .val (.int i)] [(.ref a), (.int i)])) _
    obtain ⟨clq148, Arq148, -, Sq148, Nq148, -, -⟩ := id V0
    refine X0.arraylength hx (by rw [e0]; exact Arq148.1) (State.isArrayOf_alike hZ.alike Arq148.2.1) (g := (mkF m 2 #[.val (.ref a), .val (.ref cv), .val (.int n), .val (.int i)] [(.ref a), (.int i)])) rfl rfl (hb hby d10_2) _ ?_
    rw [len_of Sq148 Nq148]
    exact k)
  by_cases hc150 : i < z
  · have k151 : ∀ t, Steps p.tables e below (s₁.setTop (mkF m 10 #[.val (.ref a), .val (.ref cv), .val (.int n), .val (.int i)] [(.int n), (.int i)])) t → Steps p.tables e below (s₁.setTop (entryFrame m #[(.ref a), (.ref cv), (.int n), (.int i)] 4)) t := fun t k => k149 t (by
      show Steps p.tables e below (s₁.setTop (mkF m 3 #[.val (.ref a), .val (.ref cv), .val (.int n), .val (.int i)] [(.int z), (.int i)])) _
      refine XS.icmpYes X0.here hx rfl (pc0 := 3) (pc' := 8) rfl (hb hby d10_3) rfl (tlt hc150).1 (by decide) (by decide) ?_
      show Steps p.tables e below (s₁.setTop (mkF m 8 #[.val (.ref a), .val (.ref cv), .val (.int n), .val (.int i)] [])) _
      refine XS.iloadN X0.here hx rfl (hb hby d10_8) rfl ?_
      show Steps p.tables e below (s₁.setTop (mkF m 9 #[.val (.ref a), .val (.ref cv), .val (.int n), .val (.int i)] [(.int i)])) _
      refine XS.iloadN X0.here hx rfl (hb hby d10_9) rfl ?_
      exact k)
    by_cases hc152 : i < n
    · have k155 : ∀ t, Steps p.tables e below (s₁.setTop (mkF m 28 #[.val (.ref a), .val (.ref cv), .val (.int n), .val (.int i)] [(.int (1 : Int32))])) t → Steps p.tables e below (s₁.setTop (entryFrame m #[(.ref a), (.ref cv), (.int n), (.int i)] 4)) t := fun t k => k151 t (by
        show Steps p.tables e below (s₁.setTop (mkF m 10 #[.val (.ref a), .val (.ref cv), .val (.int n), .val (.int i)] [(.int n), (.int i)])) _
        refine XS.icmpNo X0.here hx rfl (hb hby d10_10) rfl (tlt hc152).2.1 ?_
        show Steps p.tables e below (s₁.setTop (mkF m 13 #[.val (.ref a), .val (.ref cv), .val (.int n), .val (.int i)] [])) _
        refine XS.aloadN X0.here hx rfl (hb hby d10_13) rfl rfl ?_
        show Steps p.tables e below (s₁.setTop (mkF m 14 #[.val (.ref a), .val (.ref cv), .val (.int n), .val (.int i)] [(.ref a)])) _
        refine XS.iloadN X0.here hx rfl (hb hby d10_14) rfl ?_
        show Steps p.tables e below (s₁.setTop (mkF m 15 #[.val (.ref a), .val (.ref cv), .val (.int n), .val (.int i)] [(.int i), (.ref a)])) _
        obtain ⟨clq153, Arq153, -, Sq153, Nq153, Hq153, Gq153⟩ := id V0
        have hinq153 := inb_of (j := i) Sq153 ⟨hi0, hc150⟩
        refine X0.baloadBytes hx (j := i) (v := (.int y)) (by rw [e0]; exact Arq153.1) (State.isArrayOf_alike hZ.alike Arq153.2.1) Arq153.2.2 hinq153 (Has.at Hq153 hinq153 hbv) (g := (mkF m 15 #[.val (.ref a), .val (.ref cv), .val (.int n), .val (.int i)] [(.int i), (.ref a)])) rfl rfl (hb hby d10_15) _ ?_
        show Steps p.tables e below (s₁.setTop (mkF m 16 #[.val (.ref a), .val (.ref cv), .val (.int n), .val (.int i)] [(.int y)])) _
        refine XS.aloadN X0.here hx rfl (hb hby d10_16) rfl rfl ?_
        show Steps p.tables e below (s₁.setTop (mkF m 17 #[.val (.ref a), .val (.ref cv), .val (.int n), .val (.int i)] [(.ref cv), (.int y)])) _
        refine XS.iloadN X0.here hx rfl (hb hby d10_17) rfl ?_
        show Steps p.tables e below (s₁.setTop (mkF m 18 #[.val (.ref a), .val (.ref cv), .val (.int n), .val (.int i)] [(.int i), (.ref cv), (.int y)])) _
        obtain ⟨clq154, Arq154, -, Sq154, Nq154, Hq154, Gq154⟩ := id V1
        have hinq154 := inb_of (j := i) Sq154 (hv hc152).1
        refine X0.iaload hx (j := i) (v := (.int x)) (by rw [e0]; exact Arq154.1) (State.isArrayOf_alike hZ.alike Arq154.2.1) Arq154.2.2 hinq154 (Has.at Hq154 hinq154 (hv hc152).2) (g := (mkF m 18 #[.val (.ref a), .val (.ref cv), .val (.int n), .val (.int i)] [(.int i), (.ref cv), (.int y)])) rfl rfl (hb hby d10_18) _ ?_
        show Steps p.tables e below (s₁.setTop (mkF m 19 #[.val (.ref a), .val (.ref cv), .val (.int n), .val (.int i)] [(.int x), (.int y)])) _
        refine XS.i2b X0.here hx rfl (hb hby d10_19) rfl ?_
        show Steps p.tables e below (s₁.setTop (mkF m 20 #[.val (.ref a), .val (.ref cv), .val (.int n), .val (.int i)] [(.int (x.toInt8.toInt32)), (.int y)])) _
        refine XS.icmpNo X0.here hx rfl (hb hby d10_20) rfl (teq (h1 hc152)).2 ?_
        show Steps p.tables e below (s₁.setTop (mkF m 23 #[.val (.ref a), .val (.ref cv), .val (.int n), .val (.int i)] [])) _
        refine XS.iconst X0.here hx rfl (hb hby d10_23) ?_
        show Steps p.tables e below (s₁.setTop (mkF m 24 #[.val (.ref a), .val (.ref cv), .val (.int n), .val (.int i)] [(.int (1 : Int32))])) _
        refine XS.goto X0.here hx rfl (pc0 := 24) (pc' := 28) rfl (hb hby d10_24) (by decide) (by decide) ?_
        exact k)
      obtain ⟨fs, hr, hrun, hended, hW, hsame⟩ := X0.leave (v := some (.int (1 : Int32))) (fun h => by rw [Bd.returns] at h; cases h)
      refine ⟨_, _, k155 _ ?_, hrun, hended, _, _, rfl, ?_, ⟨_, rfl⟩, hW, hsame.mono (by decide) (by decide)⟩
      · show Steps p.tables e below (s₁.setTop (mkF m 28 #[.val (.ref a), .val (.ref cv), .val (.int n), .val (.int i)] [(.int (1 : Int32))])) _
        exact retN X0 hx (t := .boolean) Bd.returns (by simp) (hb hby d10_28) hr
      · show Q10 Z a cv n i k z vs k1 lv y x h0 n0 _ s₁.heap _
        rw [e0]
        exact ⟨rfl, N0, rfl⟩
    · have k158 : ∀ t, Steps p.tables e below (s₁.setTop (mkF m 40 #[.val (.ref a), .val (.ref cv), .val (.int n), .val (.int i)] [(.int (1 : Int32))])) t → Steps p.tables e below (s₁.setTop (entryFrame m #[(.ref a), (.ref cv), (.int n), (.int i)] 4)) t := fun t k => k151 t (by
        show Steps p.tables e below (s₁.setTop (mkF m 10 #[.val (.ref a), .val (.ref cv), .val (.int n), .val (.int i)] [(.int n), (.int i)])) _
        refine XS.icmpYes X0.here hx rfl (pc0 := 10) (pc' := 29) rfl (hb hby d10_10) rfl (flt hc152).2.1 (by decide) (by decide) ?_
        show Steps p.tables e below (s₁.setTop (mkF m 29 #[.val (.ref a), .val (.ref cv), .val (.int n), .val (.int i)] [])) _
        refine XS.aloadN X0.here hx rfl (hb hby d10_29) rfl rfl ?_
        show Steps p.tables e below (s₁.setTop (mkF m 30 #[.val (.ref a), .val (.ref cv), .val (.int n), .val (.int i)] [(.ref a)])) _
        refine XS.iloadN X0.here hx rfl (hb hby d10_30) rfl ?_
        show Steps p.tables e below (s₁.setTop (mkF m 31 #[.val (.ref a), .val (.ref cv), .val (.int n), .val (.int i)] [(.int i), (.ref a)])) _
        obtain ⟨clq157, Arq157, -, Sq157, Nq157, Hq157, Gq157⟩ := id V0
        have hinq157 := inb_of (j := i) Sq157 ⟨hi0, hc150⟩
        refine X0.baloadBytes hx (j := i) (v := (.int y)) (by rw [e0]; exact Arq157.1) (State.isArrayOf_alike hZ.alike Arq157.2.1) Arq157.2.2 hinq157 (Has.at Hq157 hinq157 hbv) (g := (mkF m 31 #[.val (.ref a), .val (.ref cv), .val (.int n), .val (.int i)] [(.int i), (.ref a)])) rfl rfl (hb hby d10_31) _ ?_
        show Steps p.tables e below (s₁.setTop (mkF m 32 #[.val (.ref a), .val (.ref cv), .val (.int n), .val (.int i)] [(.int y)])) _
        refine XS.ifNo X0.here hx rfl (hb hby d10_32) rfl ((if0 _ _).trans (teq (h2 hc152)).2) ?_
        show Steps p.tables e below (s₁.setTop (mkF m 35 #[.val (.ref a), .val (.ref cv), .val (.int n), .val (.int i)] [])) _
        refine XS.iconst X0.here hx rfl (hb hby d10_35) ?_
        show Steps p.tables e below (s₁.setTop (mkF m 36 #[.val (.ref a), .val (.ref cv), .val (.int n), .val (.int i)] [(.int (1 : Int32))])) _
        refine XS.goto X0.here hx rfl (pc0 := 36) (pc' := 40) rfl (hb hby d10_36) (by decide) (by decide) ?_
        exact k)
      obtain ⟨fs, hr, hrun, hended, hW, hsame⟩ := X0.leave (v := some (.int (1 : Int32))) (fun h => by rw [Bd.returns] at h; cases h)
      refine ⟨_, _, k158 _ ?_, hrun, hended, _, _, rfl, ?_, ⟨_, rfl⟩, hW, hsame.mono (by decide) (by decide)⟩
      · show Steps p.tables e below (s₁.setTop (mkF m 40 #[.val (.ref a), .val (.ref cv), .val (.int n), .val (.int i)] [(.int (1 : Int32))])) _
        exact retN X0 hx (t := .boolean) Bd.returns (by simp) (hb hby d10_40) hr
      · show Q10 Z a cv n i k z vs k1 lv y x h0 n0 _ s₁.heap _
        rw [e0]
        exact ⟨rfl, N0, rfl⟩
  · have k160 : ∀ t, Steps p.tables e below (s₁.setTop (mkF m 7 #[.val (.ref a), .val (.ref cv), .val (.int n), .val (.int i)] [(.int (1 : Int32))])) t → Steps p.tables e below (s₁.setTop (entryFrame m #[(.ref a), (.ref cv), (.int n), (.int i)] 4)) t := fun t k => k149 t (by
      show Steps p.tables e below (s₁.setTop (mkF m 3 #[.val (.ref a), .val (.ref cv), .val (.int n), .val (.int i)] [(.int z), (.int i)])) _
      refine XS.icmpNo X0.here hx rfl (hb hby d10_3) rfl (flt hc150).1 ?_
      show Steps p.tables e below (s₁.setTop (mkF m 6 #[.val (.ref a), .val (.ref cv), .val (.int n), .val (.int i)] [])) _
      refine XS.iconst X0.here hx rfl (hb hby d10_6) ?_
      exact k)
    obtain ⟨fs, hr, hrun, hended, hW, hsame⟩ := X0.leave (v := some (.int (1 : Int32))) (fun h => by rw [Bd.returns] at h; cases h)
    refine ⟨_, _, k160 _ ?_, hrun, hended, _, _, rfl, ?_, ⟨_, rfl⟩, hW, hsame.mono (by decide) (by decide)⟩
    · show Steps p.tables e below (s₁.setTop (mkF m 7 #[.val (.ref a), .val (.ref cv), .val (.int n), .val (.int i)] [(.int (1 : Int32))])) _
      exact retN X0 hx (t := .boolean) Bd.returns (by simp) (hb hby d10_7) hr
    · show Q10 Z a cv n i k z vs k1 lv y x h0 n0 _ s₁.heap _
      rw [e0]
      exact ⟨rfl, N0, rfl⟩
theorem pd_3 : parseMethodDescriptor "(I)V" = some ⟨[.int], none⟩ := by decide +kernel
theorem pd_4 : parseMethodDescriptor "()I" = some ⟨[], some .int⟩ := by decide +kernel
theorem pd_5 : parseMethodDescriptor "()[B" = some ⟨[], some (.array .byte)⟩ := by decide +kernel
theorem pd_6 : parseMethodDescriptor "([B[III)Z" = some ⟨[(.array .byte), (.array .int), .int, .int], some .boolean⟩ := by decide +kernel
theorem ef_0 (m : MethodId) (x0 : Int32) (x1 : Int32) (x2 : Int32) (x3 : Int32) (x4 : Int32) (x5 : Int32) : entryFrame m #[(.int x0), (.int x1), (.int x2), (.int x3), (.int x4), (.int x5)] maxLocals = mkF m 0 #[.val (.int x0), .val (.int x1), .val (.int x2), .val (.int x3), .val (.int x4), .val (.int x5), .unset, .unset, .unset, .unset, .unset, .unset] [] := by first | (simp [entryFrame, mkF, argsToLocals, Value.category, maxLocals]; done) | rfl
def Q0 (Z : State) (p0 : Int32) (p1 : Int32) (p2 : Int32) (p3 : Int32) (p4 : Int32) (p5 : Int32) (h0 : Heap) (n0 : Nat) (v : Option Value) (h : Heap) (L : List Loc) : Prop := v = some (.int 1) ∧ Fr n0 L
set_option maxRecDepth 65536 in
set_option maxHeartbeats 40000000 in
theorem rm0 (l : Launch) (Z : State) (a0 : Array Value) (hw : ∀ d ∈ tables_1, d.before a0 Z = true) (ws : List Jvm.Cond) (p0 : Int32) (p1 : Int32) (p2 : Int32) (p3 : Int32) (p4 : Int32) (p5 : Int32) (h0 : Heap) (n0 : Nat) (Z0 : n0 ≤ h0.size) :
    MetFree l x (head1 (Jvm.Cond.code x code maxLocals ret :: ws) room_1) (fun aa U => aa = #[(.int p0), (.int p1), (.int p2), (.int p3), (.int p4), (.int p5)] ∧ Z.Warmed39 U.vm ∧ U.heap = h0) (fun _ _ _ _ _ => True) (fun _ U o U' => ∃ v L, o = .returned v ∧ Q0 Z p0 p1 p2 p3 p4 p5 h0 n0 v U'.heap L ∧ FrameEnd U o U' L room_1.cells room_1.slots) := by
  refine MetFree.of_bodySF (plainFor_of_name pn_3) hisR ?_
  intro p e s m args below meth c s₁ Bd hml0 hP hK
  obtain ⟨rfl, hZ, hh⟩ := hP
  have hx := Bd.exec
  have hby := Bd.bytes
  have hml : c.maxLocals = 12 := hml0
  have hown : s.vm.findClass "com/example/wegweiser/wegweiser/index/ByteSinkWritePinLaw" = some m.cls := findClass_of_methodNamed Bd.named
  have hnm := (name_of_methodNamed Bd.named Bd.method).1
  have X0 : Stand p l e room_1 s m #[(.int p0), (.int p1), (.int p2), (.int p3), (.int p4), (.int p5)] below meth c s₁ [] 0 0 := Stand.of_body Bd
  have e0 : s₁.heap = h0 := by rw [← hh, Bd.state]; rfl
  have N0 := Fr.nil n0
  have pre0 : ∀ t, Steps p.tables e below (s₁.setTop (mkF m 0 #[.val (.int p0), .val (.int p1), .val (.int p2), .val (.int p3), .val (.int p4), .val (.int p5), .unset, .unset, .unset, .unset, .unset, .unset] [])) t → Steps p.tables e below (s₁.setTop (entryFrame m #[(.int p0), (.int p1), (.int p2), (.int p3), (.int p4), (.int p5)] maxLocals)) t := fun t k => castTop (ef_0 m p0 p1 p2 p3 p4 p5) k
  have k162 : ∀ t, Steps p.tables e below (s₁.setTop (mkF m 7 #[.val (.int p0), .val (.int p1), .val (.int p2), .val (.int p3), .val (.int p4), .val (.int p5), .val (.int ((1 : Int32) + (p0 &&& (3 : Int32)))), .unset, .unset, .unset, .unset, .unset] [])) t → Steps p.tables e below (s₁.setTop (entryFrame m #[(.int p0), (.int p1), (.int p2), (.int p3), (.int p4), (.int p5)] maxLocals)) t := fun t k => pre0 t (by
    show Steps p.tables e below (s₁.setTop (mkF m 0 #[.val (.int p0), .val (.int p1), .val (.int p2), .val (.int p3), .val (.int p4), .val (.int p5), .unset, .unset, .unset, .unset, .unset, .unset] [])) _
    refine XS.iconst X0.here hx rfl (hb hby at_0) ?_
    show Steps p.tables e below (s₁.setTop (mkF m 1 #[.val (.int p0), .val (.int p1), .val (.int p2), .val (.int p3), .val (.int p4), .val (.int p5), .unset, .unset, .unset, .unset, .unset, .unset] [(.int (1 : Int32))])) _
    refine XS.iloadN X0.here hx rfl (hb hby at_1) rfl ?_
    show Steps p.tables e below (s₁.setTop (mkF m 2 #[.val (.int p0), .val (.int p1), .val (.int p2), .val (.int p3), .val (.int p4), .val (.int p5), .unset, .unset, .unset, .unset, .unset, .unset] [(.int p0), (.int (1 : Int32))])) _
    refine XS.iconst X0.here hx rfl (hb hby at_2) ?_
    show Steps p.tables e below (s₁.setTop (mkF m 3 #[.val (.int p0), .val (.int p1), .val (.int p2), .val (.int p3), .val (.int p4), .val (.int p5), .unset, .unset, .unset, .unset, .unset, .unset] [(.int (3 : Int32)), (.int p0), (.int (1 : Int32))])) _
    refine XS.iand X0.here hx rfl (hb hby at_3) rfl ?_
    show Steps p.tables e below (s₁.setTop (mkF m 4 #[.val (.int p0), .val (.int p1), .val (.int p2), .val (.int p3), .val (.int p4), .val (.int p5), .unset, .unset, .unset, .unset, .unset, .unset] [(.int (p0 &&& (3 : Int32))), (.int (1 : Int32))])) _
    refine XS.iadd X0.here hx rfl (hb hby at_4) rfl ?_
    show Steps p.tables e below (s₁.setTop (mkF m 5 #[.val (.int p0), .val (.int p1), .val (.int p2), .val (.int p3), .val (.int p4), .val (.int p5), .unset, .unset, .unset, .unset, .unset, .unset] [(.int ((1 : Int32) + (p0 &&& (3 : Int32))))])) _
    refine XS.istore X0.here hx rfl (hb hby at_5) rfl (l' := #[.val (.int p0), .val (.int p1), .val (.int p2), .val (.int p3), .val (.int p4), .val (.int p5), .val (.int ((1 : Int32) + (p0 &&& (3 : Int32)))), .unset, .unset, .unset, .unset, .unset]) rfl ?_
    exact k)
  obtain ⟨z, ez⟩ : ∃ zz_, zz_ = ((1 : Int32) + (p0 &&& (3 : Int32))) := ⟨_, rfl⟩
  rw [← ez] at k162
  have hz : z = 1 ∨ z = 2 ∨ z = 3 ∨ z = 4 := by rw [ez]; exact own_c4 p0
  have k163 : ∀ t, Steps p.tables e below (s₁.setTop (mkF m 16 #[.val (.int p0), .val (.int p1), .val (.int p2), .val (.int p3), .val (.int p4), .val (.int p5), .val (.int z), .val (.int ((p1 &&& (2147483647 : Int32)) % (6 : Int32))), .unset, .unset, .unset, .unset] [])) t → Steps p.tables e below (s₁.setTop (entryFrame m #[(.int p0), (.int p1), (.int p2), (.int p3), (.int p4), (.int p5)] maxLocals)) t := fun t k => k162 t (by
    show Steps p.tables e below (s₁.setTop (mkF m 7 #[.val (.int p0), .val (.int p1), .val (.int p2), .val (.int p3), .val (.int p4), .val (.int p5), .val (.int z), .unset, .unset, .unset, .unset, .unset] [])) _
    refine XS.iloadN X0.here hx rfl (hb hby at_7) rfl ?_
    show Steps p.tables e below (s₁.setTop (mkF m 8 #[.val (.int p0), .val (.int p1), .val (.int p2), .val (.int p3), .val (.int p4), .val (.int p5), .val (.int z), .unset, .unset, .unset, .unset, .unset] [(.int p1)])) _
    refine X0.ldcInt hx hown (mvT hZ (hw _ (List.mem_of_getElem? (i := 0) rfl))) (g := (mkF m 8 #[.val (.int p0), .val (.int p1), .val (.int p2), .val (.int p3), .val (.int p4), .val (.int p5), .val (.int z), .unset, .unset, .unset, .unset, .unset] [(.int p1)])) rfl (hb hby at_8) _ ?_
    show Steps p.tables e below (s₁.setTop (mkF m 10 #[.val (.int p0), .val (.int p1), .val (.int p2), .val (.int p3), .val (.int p4), .val (.int p5), .val (.int z), .unset, .unset, .unset, .unset, .unset] [(.int (2147483647 : Int32)), (.int p1)])) _
    refine XS.iand X0.here hx rfl (hb hby at_10) rfl ?_
    show Steps p.tables e below (s₁.setTop (mkF m 11 #[.val (.int p0), .val (.int p1), .val (.int p2), .val (.int p3), .val (.int p4), .val (.int p5), .val (.int z), .unset, .unset, .unset, .unset, .unset] [(.int (p1 &&& (2147483647 : Int32)))])) _
    refine XS.bipush X0.here hx rfl (hb hby at_11) ?_
    show Steps p.tables e below (s₁.setTop (mkF m 13 #[.val (.int p0), .val (.int p1), .val (.int p2), .val (.int p3), .val (.int p4), .val (.int p5), .val (.int z), .unset, .unset, .unset, .unset, .unset] [(.int (6 : Int32)), (.int (p1 &&& (2147483647 : Int32)))])) _
    refine iremM (g := (mkF m 13 #[.val (.int p0), .val (.int p1), .val (.int p2), .val (.int p3), .val (.int p4), .val (.int p5), .val (.int z), .unset, .unset, .unset, .unset, .unset] [(.int (6 : Int32)), (.int (p1 &&& (2147483647 : Int32)))])) X0 hx rfl (hb hby at_13) rfl (by decide) ?_
    show Steps p.tables e below (s₁.setTop (mkF m 14 #[.val (.int p0), .val (.int p1), .val (.int p2), .val (.int p3), .val (.int p4), .val (.int p5), .val (.int z), .unset, .unset, .unset, .unset, .unset] [(.int ((p1 &&& (2147483647 : Int32)) % (6 : Int32)))])) _
    refine XS.istore X0.here hx rfl (hb hby at_14) rfl (l' := #[.val (.int p0), .val (.int p1), .val (.int p2), .val (.int p3), .val (.int p4), .val (.int p5), .val (.int z), .val (.int ((p1 &&& (2147483647 : Int32)) % (6 : Int32))), .unset, .unset, .unset, .unset]) rfl ?_
    exact k)
  obtain ⟨n6, en6⟩ : ∃ zz_, zz_ = ((p1 &&& (2147483647 : Int32)) % (6 : Int32)) := ⟨_, rfl⟩
  rw [← en6] at k163
  have hn6 := own_n6 p1
  rw [← en6] at hn6
  have k164 : ∀ t, Steps p.tables e below (s₁.setTop (mkF m 17 #[.val (.int p0), .val (.int p1), .val (.int p2), .val (.int p3), .val (.int p4), .val (.int p5), .val (.int z), .val (.int n6), .unset, .unset, .unset, .unset] [(.int (5 : Int32))])) t → Steps p.tables e below (s₁.setTop (entryFrame m #[(.int p0), (.int p1), (.int p2), (.int p3), (.int p4), (.int p5)] maxLocals)) t := fun t k => k163 t (by
    show Steps p.tables e below (s₁.setTop (mkF m 16 #[.val (.int p0), .val (.int p1), .val (.int p2), .val (.int p3), .val (.int p4), .val (.int p5), .val (.int z), .val (.int n6), .unset, .unset, .unset, .unset] [])) _
    refine XS.iconst X0.here hx rfl (hb hby at_16) ?_
    exact k)
  obtain ⟨T165, h165, c165, X165, e165, E165, A165, st165⟩ := newP X0 hx hZ (hw _ (List.mem_of_getElem? (i := 1) rfl)) e0 (g := (mkF m 17 #[.val (.int p0), .val (.int p1), .val (.int p2), .val (.int p3), .val (.int p4), .val (.int p5), .val (.int z), .val (.int n6), .unset, .unset, .unset, .unset] [(.int (5 : Int32))])) rfl (hb hby at_17) rfl (by decide) (cap := 5) (by decide) (by decide) (by decide) (by decide)
  obtain ⟨b165, g165⟩ : ∃ z, z = h0.size := ⟨_, rfl⟩
  rw [← g165] at A165 st165
  have g_b165 : n0 ≤ b165 := Nat.le_trans Z0 (Nat.le_of_eq g165.symm)
  have Z166 : n0 ≤ h165.size := Nat.le_trans Z0 E165.1
  have V165 : Arv Z h165 b165 c165 .int (5 : Int32) [(.int (0 : Int32)), (.int (0 : Int32)), (.int (0 : Int32)), (.int (0 : Int32)), (.int (0 : Int32))] (.int (0 : Int32)) := (Arv.new A165 (by decide)).pad (pad_rep [] (.int (0 : Int32)) 5)
  have k167 : ∀ t, Steps p.tables e below (T165.setTop (mkF m 19 #[.val (.int p0), .val (.int p1), .val (.int p2), .val (.int p3), .val (.int p4), .val (.int p5), .val (.int z), .val (.int n6), .unset, .unset, .unset, .unset] [(.ref b165)])) t → Steps p.tables e below (s₁.setTop (entryFrame m #[(.int p0), (.int p1), (.int p2), (.int p3), (.int p4), (.int p5)] maxLocals)) t := fun t k => k164 t (st165 t k)
  have k168 : ∀ t, Steps p.tables e below (T165.setTop (mkF m 22 #[.val (.int p0), .val (.int p1), .val (.int p2), .val (.int p3), .val (.int p4), .val (.int p5), .val (.int z), .val (.int n6), .unset, .unset, .unset, .unset] [(.int p2), (.int (0 : Int32)), (.ref b165), (.ref b165)])) t → Steps p.tables e below (s₁.setTop (entryFrame m #[(.int p0), (.int p1), (.int p2), (.int p3), (.int p4), (.int p5)] maxLocals)) t := fun t k => k167 t (by
    show Steps p.tables e below (T165.setTop (mkF m 19 #[.val (.int p0), .val (.int p1), .val (.int p2), .val (.int p3), .val (.int p4), .val (.int p5), .val (.int z), .val (.int n6), .unset, .unset, .unset, .unset] [(.ref b165)])) _
    refine XS.dup X165.here hx rfl (hb hby at_19) rfl rfl ?_
    show Steps p.tables e below (T165.setTop (mkF m 20 #[.val (.int p0), .val (.int p1), .val (.int p2), .val (.int p3), .val (.int p4), .val (.int p5), .val (.int z), .val (.int n6), .unset, .unset, .unset, .unset] [(.ref b165), (.ref b165)])) _
    refine XS.iconst X165.here hx rfl (hb hby at_20) ?_
    show Steps p.tables e below (T165.setTop (mkF m 21 #[.val (.int p0), .val (.int p1), .val (.int p2), .val (.int p3), .val (.int p4), .val (.int p5), .val (.int z), .val (.int n6), .unset, .unset, .unset, .unset] [(.int (0 : Int32)), (.ref b165), (.ref b165)])) _
    refine XS.iloadN X165.here hx rfl (hb hby at_21) rfl ?_
    exact k)
  obtain ⟨cl169, Ar169, qq169, S169, M169, H169, G169⟩ := V165
  have hin169 : ¬ ((0 : Int32) < 0 ∨ cl169.slots.size ≤ ((0 : Int32)).toNatClampNeg) := inb_of S169 ⟨by decide, by decide⟩
  obtain ⟨T169, h169, X169, e169, W169, st169⟩ := stI X165 hx hZ e165 Ar169 (j := (0 : Int32)) hin169 (g := (mkF m 22 #[.val (.int p0), .val (.int p1), .val (.int p2), .val (.int p3), .val (.int p4), .val (.int p5), .val (.int z), .val (.int n6), .unset, .unset, .unset, .unset] [(.int p2), (.int (0 : Int32)), (.ref b165), (.ref b165)])) rfl rfl (hb hby at_22)
  have V169 : Arv Z h169 b165 c165 .int (5 : Int32) [(.int p2), (.int (0 : Int32)), (.int (0 : Int32)), (.int (0 : Int32)), (.int (0 : Int32))] (.int (0 : Int32)) := Arv.set Ar169 qq169 S169 M169 H169 G169 rfl W169 0 rfl (Nat.le_of_ble_eq_true rfl)
  have N169 := Fr.snoc X169 N0 g_b165
  obtain ⟨LH169, XH169, NH169⟩ := own_hide X169 N169
  clear X169 N169
  have Z170 : n0 ≤ h169.size := Nat.le_trans Z166 (Nat.le_of_eq W169.size.symm)
  have k171 : ∀ t, Steps p.tables e below (T169.setTop (mkF m 23 #[.val (.int p0), .val (.int p1), .val (.int p2), .val (.int p3), .val (.int p4), .val (.int p5), .val (.int z), .val (.int n6), .unset, .unset, .unset, .unset] [(.ref b165)])) t → Steps p.tables e below (s₁.setTop (entryFrame m #[(.int p0), (.int p1), (.int p2), (.int p3), (.int p4), (.int p5)] maxLocals)) t := fun t k => k168 t (st169 t k)
  have k172 : ∀ t, Steps p.tables e below (T169.setTop (mkF m 26 #[.val (.int p0), .val (.int p1), .val (.int p2), .val (.int p3), .val (.int p4), .val (.int p5), .val (.int z), .val (.int n6), .unset, .unset, .unset, .unset] [(.int p3), (.int (1 : Int32)), (.ref b165), (.ref b165)])) t → Steps p.tables e below (s₁.setTop (entryFrame m #[(.int p0), (.int p1), (.int p2), (.int p3), (.int p4), (.int p5)] maxLocals)) t := fun t k => k171 t (by
    show Steps p.tables e below (T169.setTop (mkF m 23 #[.val (.int p0), .val (.int p1), .val (.int p2), .val (.int p3), .val (.int p4), .val (.int p5), .val (.int z), .val (.int n6), .unset, .unset, .unset, .unset] [(.ref b165)])) _
    refine XS.dup XH169.here hx rfl (hb hby at_23) rfl rfl ?_
    show Steps p.tables e below (T169.setTop (mkF m 24 #[.val (.int p0), .val (.int p1), .val (.int p2), .val (.int p3), .val (.int p4), .val (.int p5), .val (.int z), .val (.int n6), .unset, .unset, .unset, .unset] [(.ref b165), (.ref b165)])) _
    refine XS.iconst XH169.here hx rfl (hb hby at_24) ?_
    show Steps p.tables e below (T169.setTop (mkF m 25 #[.val (.int p0), .val (.int p1), .val (.int p2), .val (.int p3), .val (.int p4), .val (.int p5), .val (.int z), .val (.int n6), .unset, .unset, .unset, .unset] [(.int (1 : Int32)), (.ref b165), (.ref b165)])) _
    refine XS.iloadN XH169.here hx rfl (hb hby at_25) rfl ?_
    exact k)
  obtain ⟨cl173, Ar173, qq173, S173, M173, H173, G173⟩ := V169
  have hin173 : ¬ ((1 : Int32) < 0 ∨ cl173.slots.size ≤ ((1 : Int32)).toNatClampNeg) := inb_of S173 ⟨by decide, by decide⟩
  obtain ⟨T173, h173, X173, e173, W173, st173⟩ := stI XH169 hx hZ e169 Ar173 (j := (1 : Int32)) hin173 (g := (mkF m 26 #[.val (.int p0), .val (.int p1), .val (.int p2), .val (.int p3), .val (.int p4), .val (.int p5), .val (.int z), .val (.int n6), .unset, .unset, .unset, .unset] [(.int p3), (.int (1 : Int32)), (.ref b165), (.ref b165)])) rfl rfl (hb hby at_26)
  have V173 : Arv Z h173 b165 c165 .int (5 : Int32) [(.int p2), (.int p3), (.int (0 : Int32)), (.int (0 : Int32)), (.int (0 : Int32))] (.int (0 : Int32)) := Arv.set Ar173 qq173 S173 M173 H173 G173 rfl W173 1 rfl (Nat.le_of_ble_eq_true rfl)
  have N173 := Fr.snoc X173 NH169 g_b165
  obtain ⟨LH173, XH173, NH173⟩ := own_hide X173 N173
  clear X173 N173
  have Z174 : n0 ≤ h173.size := Nat.le_trans Z170 (Nat.le_of_eq W173.size.symm)
  have k175 : ∀ t, Steps p.tables e below (T173.setTop (mkF m 27 #[.val (.int p0), .val (.int p1), .val (.int p2), .val (.int p3), .val (.int p4), .val (.int p5), .val (.int z), .val (.int n6), .unset, .unset, .unset, .unset] [(.ref b165)])) t → Steps p.tables e below (s₁.setTop (entryFrame m #[(.int p0), (.int p1), (.int p2), (.int p3), (.int p4), (.int p5)] maxLocals)) t := fun t k => k172 t (st173 t k)
  have k176 : ∀ t, Steps p.tables e below (T173.setTop (mkF m 31 #[.val (.int p0), .val (.int p1), .val (.int p2), .val (.int p3), .val (.int p4), .val (.int p5), .val (.int z), .val (.int n6), .unset, .unset, .unset, .unset] [(.int p4), (.int (2 : Int32)), (.ref b165), (.ref b165)])) t → Steps p.tables e below (s₁.setTop (entryFrame m #[(.int p0), (.int p1), (.int p2), (.int p3), (.int p4), (.int p5)] maxLocals)) t := fun t k => k175 t (by
    show Steps p.tables e below (T173.setTop (mkF m 27 #[.val (.int p0), .val (.int p1), .val (.int p2), .val (.int p3), .val (.int p4), .val (.int p5), .val (.int z), .val (.int n6), .unset, .unset, .unset, .unset] [(.ref b165)])) _
    refine XS.dup XH173.here hx rfl (hb hby at_27) rfl rfl ?_
    show Steps p.tables e below (T173.setTop (mkF m 28 #[.val (.int p0), .val (.int p1), .val (.int p2), .val (.int p3), .val (.int p4), .val (.int p5), .val (.int z), .val (.int n6), .unset, .unset, .unset, .unset] [(.ref b165), (.ref b165)])) _
    refine XS.iconst XH173.here hx rfl (hb hby at_28) ?_
    show Steps p.tables e below (T173.setTop (mkF m 29 #[.val (.int p0), .val (.int p1), .val (.int p2), .val (.int p3), .val (.int p4), .val (.int p5), .val (.int z), .val (.int n6), .unset, .unset, .unset, .unset] [(.int (2 : Int32)), (.ref b165), (.ref b165)])) _
    refine XS.iload XH173.here hx rfl (hb hby at_29) rfl ?_
    exact k)
  obtain ⟨cl177, Ar177, qq177, S177, M177, H177, G177⟩ := V173
  have hin177 : ¬ ((2 : Int32) < 0 ∨ cl177.slots.size ≤ ((2 : Int32)).toNatClampNeg) := inb_of S177 ⟨by decide, by decide⟩
  obtain ⟨T177, h177, X177, e177, W177, st177⟩ := stI XH173 hx hZ e173 Ar177 (j := (2 : Int32)) hin177 (g := (mkF m 31 #[.val (.int p0), .val (.int p1), .val (.int p2), .val (.int p3), .val (.int p4), .val (.int p5), .val (.int z), .val (.int n6), .unset, .unset, .unset, .unset] [(.int p4), (.int (2 : Int32)), (.ref b165), (.ref b165)])) rfl rfl (hb hby at_31)
  have V177 : Arv Z h177 b165 c165 .int (5 : Int32) [(.int p2), (.int p3), (.int p4), (.int (0 : Int32)), (.int (0 : Int32))] (.int (0 : Int32)) := Arv.set Ar177 qq177 S177 M177 H177 G177 rfl W177 2 rfl (Nat.le_of_ble_eq_true rfl)
  have N177 := Fr.snoc X177 NH173 g_b165
  obtain ⟨LH177, XH177, NH177⟩ := own_hide X177 N177
  clear X177 N177
  have Z178 : n0 ≤ h177.size := Nat.le_trans Z174 (Nat.le_of_eq W177.size.symm)
  have k179 : ∀ t, Steps p.tables e below (T177.setTop (mkF m 32 #[.val (.int p0), .val (.int p1), .val (.int p2), .val (.int p3), .val (.int p4), .val (.int p5), .val (.int z), .val (.int n6), .unset, .unset, .unset, .unset] [(.ref b165)])) t → Steps p.tables e below (s₁.setTop (entryFrame m #[(.int p0), (.int p1), (.int p2), (.int p3), (.int p4), (.int p5)] maxLocals)) t := fun t k => k176 t (st177 t k)
  have k180 : ∀ t, Steps p.tables e below (T177.setTop (mkF m 36 #[.val (.int p0), .val (.int p1), .val (.int p2), .val (.int p3), .val (.int p4), .val (.int p5), .val (.int z), .val (.int n6), .unset, .unset, .unset, .unset] [(.int p5), (.int (3 : Int32)), (.ref b165), (.ref b165)])) t → Steps p.tables e below (s₁.setTop (entryFrame m #[(.int p0), (.int p1), (.int p2), (.int p3), (.int p4), (.int p5)] maxLocals)) t := fun t k => k179 t (by
    show Steps p.tables e below (T177.setTop (mkF m 32 #[.val (.int p0), .val (.int p1), .val (.int p2), .val (.int p3), .val (.int p4), .val (.int p5), .val (.int z), .val (.int n6), .unset, .unset, .unset, .unset] [(.ref b165)])) _
    refine XS.dup XH177.here hx rfl (hb hby at_32) rfl rfl ?_
    show Steps p.tables e below (T177.setTop (mkF m 33 #[.val (.int p0), .val (.int p1), .val (.int p2), .val (.int p3), .val (.int p4), .val (.int p5), .val (.int z), .val (.int n6), .unset, .unset, .unset, .unset] [(.ref b165), (.ref b165)])) _
    refine XS.iconst XH177.here hx rfl (hb hby at_33) ?_
    show Steps p.tables e below (T177.setTop (mkF m 34 #[.val (.int p0), .val (.int p1), .val (.int p2), .val (.int p3), .val (.int p4), .val (.int p5), .val (.int z), .val (.int n6), .unset, .unset, .unset, .unset] [(.int (3 : Int32)), (.ref b165), (.ref b165)])) _
    refine XS.iload XH177.here hx rfl (hb hby at_34) rfl ?_
    exact k)
  obtain ⟨cl181, Ar181, qq181, S181, M181, H181, G181⟩ := V177
  have hin181 : ¬ ((3 : Int32) < 0 ∨ cl181.slots.size ≤ ((3 : Int32)).toNatClampNeg) := inb_of S181 ⟨by decide, by decide⟩
  obtain ⟨T181, h181, X181, e181, W181, st181⟩ := stI XH177 hx hZ e177 Ar181 (j := (3 : Int32)) hin181 (g := (mkF m 36 #[.val (.int p0), .val (.int p1), .val (.int p2), .val (.int p3), .val (.int p4), .val (.int p5), .val (.int z), .val (.int n6), .unset, .unset, .unset, .unset] [(.int p5), (.int (3 : Int32)), (.ref b165), (.ref b165)])) rfl rfl (hb hby at_36)
  have V181 : Arv Z h181 b165 c165 .int (5 : Int32) [(.int p2), (.int p3), (.int p4), (.int p5), (.int (0 : Int32))] (.int (0 : Int32)) := Arv.set Ar181 qq181 S181 M181 H181 G181 rfl W181 3 rfl (Nat.le_of_ble_eq_true rfl)
  have N181 := Fr.snoc X181 NH177 g_b165
  obtain ⟨LH181, XH181, NH181⟩ := own_hide X181 N181
  clear X181 N181
  have Z182 : n0 ≤ h181.size := Nat.le_trans Z178 (Nat.le_of_eq W181.size.symm)
  have k183 : ∀ t, Steps p.tables e below (T181.setTop (mkF m 37 #[.val (.int p0), .val (.int p1), .val (.int p2), .val (.int p3), .val (.int p4), .val (.int p5), .val (.int z), .val (.int n6), .unset, .unset, .unset, .unset] [(.ref b165)])) t → Steps p.tables e below (s₁.setTop (entryFrame m #[(.int p0), (.int p1), (.int p2), (.int p3), (.int p4), (.int p5)] maxLocals)) t := fun t k => k180 t (st181 t k)
  have k184 : ∀ t, Steps p.tables e below (T181.setTop (mkF m 43 #[.val (.int p0), .val (.int p1), .val (.int p2), .val (.int p3), .val (.int p4), .val (.int p5), .val (.int z), .val (.int n6), .unset, .unset, .unset, .unset] [(.int (p2 ^^^ p4)), (.int (4 : Int32)), (.ref b165), (.ref b165)])) t → Steps p.tables e below (s₁.setTop (entryFrame m #[(.int p0), (.int p1), (.int p2), (.int p3), (.int p4), (.int p5)] maxLocals)) t := fun t k => k183 t (by
    show Steps p.tables e below (T181.setTop (mkF m 37 #[.val (.int p0), .val (.int p1), .val (.int p2), .val (.int p3), .val (.int p4), .val (.int p5), .val (.int z), .val (.int n6), .unset, .unset, .unset, .unset] [(.ref b165)])) _
    refine XS.dup XH181.here hx rfl (hb hby at_37) rfl rfl ?_
    show Steps p.tables e below (T181.setTop (mkF m 38 #[.val (.int p0), .val (.int p1), .val (.int p2), .val (.int p3), .val (.int p4), .val (.int p5), .val (.int z), .val (.int n6), .unset, .unset, .unset, .unset] [(.ref b165), (.ref b165)])) _
    refine XS.iconst XH181.here hx rfl (hb hby at_38) ?_
    show Steps p.tables e below (T181.setTop (mkF m 39 #[.val (.int p0), .val (.int p1), .val (.int p2), .val (.int p3), .val (.int p4), .val (.int p5), .val (.int z), .val (.int n6), .unset, .unset, .unset, .unset] [(.int (4 : Int32)), (.ref b165), (.ref b165)])) _
    refine XS.iloadN XH181.here hx rfl (hb hby at_39) rfl ?_
    show Steps p.tables e below (T181.setTop (mkF m 40 #[.val (.int p0), .val (.int p1), .val (.int p2), .val (.int p3), .val (.int p4), .val (.int p5), .val (.int z), .val (.int n6), .unset, .unset, .unset, .unset] [(.int p2), (.int (4 : Int32)), (.ref b165), (.ref b165)])) _
    refine XS.iload XH181.here hx rfl (hb hby at_40) rfl ?_
    show Steps p.tables e below (T181.setTop (mkF m 42 #[.val (.int p0), .val (.int p1), .val (.int p2), .val (.int p3), .val (.int p4), .val (.int p5), .val (.int z), .val (.int n6), .unset, .unset, .unset, .unset] [(.int p4), (.int p2), (.int (4 : Int32)), (.ref b165), (.ref b165)])) _
    refine XS.ixor XH181.here hx rfl (hb hby at_42) rfl ?_
    exact k)
  obtain ⟨cl185, Ar185, qq185, S185, M185, H185, G185⟩ := V181
  have hin185 : ¬ ((4 : Int32) < 0 ∨ cl185.slots.size ≤ ((4 : Int32)).toNatClampNeg) := inb_of S185 ⟨by decide, by decide⟩
  obtain ⟨T185, h185, X185, e185, W185, st185⟩ := stI XH181 hx hZ e181 Ar185 (j := (4 : Int32)) hin185 (g := (mkF m 43 #[.val (.int p0), .val (.int p1), .val (.int p2), .val (.int p3), .val (.int p4), .val (.int p5), .val (.int z), .val (.int n6), .unset, .unset, .unset, .unset] [(.int (p2 ^^^ p4)), (.int (4 : Int32)), (.ref b165), (.ref b165)])) rfl rfl (hb hby at_43)
  have V185 : Arv Z h185 b165 c165 .int (5 : Int32) [(.int p2), (.int p3), (.int p4), (.int p5), (.int (p2 ^^^ p4))] (.int (0 : Int32)) := Arv.set Ar185 qq185 S185 M185 H185 G185 rfl W185 4 rfl (Nat.le_of_ble_eq_true rfl)
  have N185 := Fr.snoc X185 NH181 g_b165
  obtain ⟨LH185, XH185, NH185⟩ := own_hide X185 N185
  clear X185 N185
  have Z186 : n0 ≤ h185.size := Nat.le_trans Z182 (Nat.le_of_eq W185.size.symm)
  have k187 : ∀ t, Steps p.tables e below (T185.setTop (mkF m 44 #[.val (.int p0), .val (.int p1), .val (.int p2), .val (.int p3), .val (.int p4), .val (.int p5), .val (.int z), .val (.int n6), .unset, .unset, .unset, .unset] [(.ref b165)])) t → Steps p.tables e below (s₁.setTop (entryFrame m #[(.int p0), (.int p1), (.int p2), (.int p3), (.int p4), (.int p5)] maxLocals)) t := fun t k => k184 t (st185 t k)
  have k188 : ∀ t, Steps p.tables e below (T185.setTop (mkF m 46 #[.val (.int p0), .val (.int p1), .val (.int p2), .val (.int p3), .val (.int p4), .val (.int p5), .val (.int z), .val (.int n6), .val (.ref b165), .unset, .unset, .unset] [])) t → Steps p.tables e below (s₁.setTop (entryFrame m #[(.int p0), (.int p1), (.int p2), (.int p3), (.int p4), (.int p5)] maxLocals)) t := fun t k => k187 t (by
    show Steps p.tables e below (T185.setTop (mkF m 44 #[.val (.int p0), .val (.int p1), .val (.int p2), .val (.int p3), .val (.int p4), .val (.int p5), .val (.int z), .val (.int n6), .unset, .unset, .unset, .unset] [(.ref b165)])) _
    refine XS.astore XH185.here hx rfl (hb hby at_44) rfl rfl (l' := #[.val (.int p0), .val (.int p1), .val (.int p2), .val (.int p3), .val (.int p4), .val (.int p5), .val (.int z), .val (.int n6), .val (.ref b165), .unset, .unset, .unset]) rfl ?_
    exact k)
  obtain ⟨T189, h189, X189, e189, E189, A189, D189, -, st189⟩ := newO XH185 hx hZ hown (hw _ (List.mem_of_getElem? (i := 2) rfl)) (hw _ (List.mem_of_getElem? (i := 3) rfl)) (hw _ (List.mem_of_getElem? (i := 4) rfl)) e185 (g := (mkF m 46 #[.val (.int p0), .val (.int p1), .val (.int p2), .val (.int p3), .val (.int p4), .val (.int p5), .val (.int z), .val (.int n6), .val (.ref b165), .unset, .unset, .unset] [])) rfl (hb hby at_46) (by decide) (by decide)
  obtain ⟨b189, g189⟩ : ∃ z, z = h185.size := ⟨_, rfl⟩
  rw [← g189] at A189 D189 st189
  have ne190 : b165 ≠ b189 := Nat.ne_of_lt (Nat.lt_of_lt_of_le (V185).lt (Nat.le_of_eq g189.symm))
  have g_b189 : n0 ≤ b189 := Nat.le_trans Z186 (Nat.le_of_eq g189.symm)
  have Z191 : n0 ≤ h189.size := Nat.le_trans Z186 E189.1
  have F192 : Arv Z h189 b165 c165 .int (5 : Int32) [(.int p2), (.int p3), (.int p4), (.int p5), (.int (p2 ^^^ p4))] (.int (0 : Int32)) := (V185).ext E189
  have F193 : Fld Z h189 b189 "com/example/wegweiser/wegweiser/index/ByteSink" "bytes" "[B" .null := D189 (Or.inl (hw _ (List.mem_of_getElem? (i := 18) rfl))) (ty := (.array .byte)) (by decide)
  have F194 : Fld Z h189 b189 "com/example/wegweiser/wegweiser/index/ByteSink" "length" "I" (.int (0 : Int32)) := D189 (Or.inl (hw _ (List.mem_of_getElem? (i := 25) rfl))) (ty := .int) (by decide)
  have k195 : ∀ t, Steps p.tables e below (T189.setTop (mkF m 49 #[.val (.int p0), .val (.int p1), .val (.int p2), .val (.int p3), .val (.int p4), .val (.int p5), .val (.int z), .val (.int n6), .val (.ref b165), .unset, .unset, .unset] [(.ref b189)])) t → Steps p.tables e below (s₁.setTop (entryFrame m #[(.int p0), (.int p1), (.int p2), (.int p3), (.int p4), (.int p5)] maxLocals)) t := fun t k => k188 t (st189 t k)
  have k196 : ∀ t, Steps p.tables e below (T189.setTop (mkF m 52 #[.val (.int p0), .val (.int p1), .val (.int p2), .val (.int p3), .val (.int p4), .val (.int p5), .val (.int z), .val (.int n6), .val (.ref b165), .unset, .unset, .unset] [(.int z), (.ref b189), (.ref b189)])) t → Steps p.tables e below (s₁.setTop (entryFrame m #[(.int p0), (.int p1), (.int p2), (.int p3), (.int p4), (.int p5)] maxLocals)) t := fun t k => k195 t (by
    show Steps p.tables e below (T189.setTop (mkF m 49 #[.val (.int p0), .val (.int p1), .val (.int p2), .val (.int p3), .val (.int p4), .val (.int p5), .val (.int z), .val (.int n6), .val (.ref b165), .unset, .unset, .unset] [(.ref b189)])) _
    refine XS.dup X189.here hx rfl (hb hby at_49) rfl rfl ?_
    show Steps p.tables e below (T189.setTop (mkF m 50 #[.val (.int p0), .val (.int p1), .val (.int p2), .val (.int p3), .val (.int p4), .val (.int p5), .val (.int z), .val (.int n6), .val (.ref b165), .unset, .unset, .unset] [(.ref b189), (.ref b189)])) _
    refine XS.iload X189.here hx rfl (hb hby at_50) rfl ?_
    exact k)
  obtain ⟨b197, g197⟩ : ∃ z, z = h189.size := ⟨_, rfl⟩
  have ne198 : b165 ≠ b197 := Nat.ne_of_lt (Nat.lt_of_lt_of_le (F192).lt (Nat.le_of_eq g197.symm))
  have ne199 : b189 ≠ b197 := Nat.ne_of_lt (Nat.lt_of_lt_of_le (A189).lt (Nat.le_of_eq g197.symm))
  have g_b197 : n0 ≤ b197 := Nat.le_trans Z191 (Nat.le_of_eq g197.symm)
  obtain ⟨_, _, ⟨T200, L200, kc200, ks200⟩, -, X200, ⟨Lc200, hQ200, l200, y200, z200⟩, st200⟩ := X189.specialBack hx (y := (⟨"com/example/wegweiser/wegweiser/index/ByteSink", "<init>", "(I)V"⟩ : MethodName)) rfl hown (mvT hZ (hw _ (List.mem_of_getElem? (i := 5) rfl))) (mvT hZ (hw _ (List.mem_of_getElem? (i := 6) rfl))) (mvT hZ (hw _ (List.mem_of_getElem? (i := 7) rfl))) (by decide) (backOf (W := 1) (rm1 l Z a0 hw [] b189 z b197 h189 n0 Z191 F193 F194 A189 g_b189 g197 (by rcases hz with rfl | rfl | rfl | rfl <;> decide) (by rcases hz with rfl | rfl | rfl | rfl <;> decide)) hZ (hw _ (List.mem_of_getElem? (i := 7) rfl)) (hw _ (List.mem_of_getElem? (i := 4) rfl)) (by decide) (by decide)) (g := (mkF m 52 #[.val (.int p0), .val (.int p1), .val (.int p2), .val (.int p3), .val (.int p4), .val (.int p5), .val (.int z), .val (.int n6), .val (.ref b165), .unset, .unset, .unset] [(.int z), (.ref b189), (.ref b189)])) rfl (by rw [hml]; rfl) (Steps.refl _) (a := b189) (argsL := [(.int z)]) (rest := [(.ref b189)]) (lenOf pd_3 rfl) rfl (by show 2 * 0 + _ ≤ _; exact Nat.le_of_eq rfl) (hb hby at_52) (fun _ _ => ⟨rfl, e189, (by decide : 2 + 1 ≤ _), (by decide : 7 + 4 ≤ _)⟩)
  dsimp only [Pt.U, Pt.locs, Pt.cells, Pt.slots] at X200 l200 y200 z200 st200 hQ200
  subst l200 y200 z200
  obtain ⟨rfl, Nq200, K200, Ax200, Fl200, Fb200, kb200, Vx200⟩ := hQ200
  have N200 := Fr.app NH185 Nq200
  obtain ⟨LH200, XH200, NH200⟩ := own_hide X200 N200
  clear X200 N200
  have Z201 : n0 ≤ T200.heap.size := Nat.le_trans Z191 K200.1
  have F202 : Arv Z T200.heap b165 c165 .int (5 : Int32) [(.int p2), (.int p3), (.int p4), (.int p5), (.int (p2 ^^^ p4))] (.int (0 : Int32)) := (F192).keep K200 (ninS ne190 nin0)
  have F203 : Exa Z T200.heap b189 "com/example/wegweiser/wegweiser/index/ByteSink" := (A189).keep K200
  have k204 : ∀ t, Steps p.tables e below (T200.setTop (mkF m 55 #[.val (.int p0), .val (.int p1), .val (.int p2), .val (.int p3), .val (.int p4), .val (.int p5), .val (.int z), .val (.int n6), .val (.ref b165), .unset, .unset, .unset] [(.ref b189)])) t → Steps p.tables e below (s₁.setTop (entryFrame m #[(.int p0), (.int p1), (.int p2), (.int p3), (.int p4), (.int p5)] maxLocals)) t := fun t k => k196 t (st200.trans k)
  have k205 : ∀ t, Steps p.tables e below (T200.setTop (mkF m 57 #[.val (.int p0), .val (.int p1), .val (.int p2), .val (.int p3), .val (.int p4), .val (.int p5), .val (.int z), .val (.int n6), .val (.ref b165), .val (.ref b189), .unset, .unset] [])) t → Steps p.tables e below (s₁.setTop (entryFrame m #[(.int p0), (.int p1), (.int p2), (.int p3), (.int p4), (.int p5)] maxLocals)) t := fun t k => k204 t (by
    show Steps p.tables e below (T200.setTop (mkF m 55 #[.val (.int p0), .val (.int p1), .val (.int p2), .val (.int p3), .val (.int p4), .val (.int p5), .val (.int z), .val (.int n6), .val (.ref b165), .unset, .unset, .unset] [(.ref b189)])) _
    refine XS.astore XH200.here hx rfl (hb hby at_55) rfl rfl (l' := #[.val (.int p0), .val (.int p1), .val (.int p2), .val (.int p3), .val (.int p4), .val (.int p5), .val (.int z), .val (.int n6), .val (.ref b165), .val (.ref b189), .unset, .unset]) rfl ?_
    exact k)
  rcases hn6 with hn | hn | hn | hn | hn | hn
  · have k206 : ∀ t, Steps p.tables e below (T200.setTop (mkF m 139 #[.val (.int p0), .val (.int p1), .val (.int p2), .val (.int p3), .val (.int p4), .val (.int p5), .val (.int z), .val (.int n6), .val (.ref b165), .val (.ref b189), .val (.int z), .unset] [(.int z), (.int n6)])) t → Steps p.tables e below (s₁.setTop (entryFrame m #[(.int p0), (.int p1), (.int p2), (.int p3), (.int p4), (.int p5)] maxLocals)) t := fun t k => k205 t (by
      show Steps p.tables e below (T200.setTop (mkF m 57 #[.val (.int p0), .val (.int p1), .val (.int p2), .val (.int p3), .val (.int p4), .val (.int p5), .val (.int z), .val (.int n6), .val (.ref b165), .val (.ref b189), .unset, .unset] [])) _
      refine XS.iload XH200.here hx rfl (hb hby at_57) rfl ?_
      show Steps p.tables e below (T200.setTop (mkF m 59 #[.val (.int p0), .val (.int p1), .val (.int p2), .val (.int p3), .val (.int p4), .val (.int p5), .val (.int z), .val (.int n6), .val (.ref b165), .val (.ref b189), .unset, .unset] [(.int n6)])) _
      refine XS.ifYes XH200.here hx rfl (pc0 := 59) (pc' := 71) rfl (hb hby at_59) rfl ((if0 _ _).trans (flt (by rw [hn]; decide)).2.2.2) (by decide) (by decide) ?_
      show Steps p.tables e below (T200.setTop (mkF m 71 #[.val (.int p0), .val (.int p1), .val (.int p2), .val (.int p3), .val (.int p4), .val (.int p5), .val (.int z), .val (.int n6), .val (.ref b165), .val (.ref b189), .unset, .unset] [])) _
      refine XS.iload XH200.here hx rfl (hb hby at_71) rfl ?_
      show Steps p.tables e below (T200.setTop (mkF m 73 #[.val (.int p0), .val (.int p1), .val (.int p2), .val (.int p3), .val (.int p4), .val (.int p5), .val (.int z), .val (.int n6), .val (.ref b165), .val (.ref b189), .unset, .unset] [(.int n6)])) _
      refine XS.iconst XH200.here hx rfl (hb hby at_73) ?_
      show Steps p.tables e below (T200.setTop (mkF m 74 #[.val (.int p0), .val (.int p1), .val (.int p2), .val (.int p3), .val (.int p4), .val (.int p5), .val (.int z), .val (.int n6), .val (.ref b165), .val (.ref b189), .unset, .unset] [(.int (1 : Int32)), (.int n6)])) _
      refine XS.icmpYes XH200.here hx rfl (pc0 := 74) (pc' := 86) rfl (hb hby at_74) rfl (flt (by rw [hn]; decide)).2.2.2 (by decide) (by decide) ?_
      show Steps p.tables e below (T200.setTop (mkF m 86 #[.val (.int p0), .val (.int p1), .val (.int p2), .val (.int p3), .val (.int p4), .val (.int p5), .val (.int z), .val (.int n6), .val (.ref b165), .val (.ref b189), .unset, .unset] [])) _
      refine XS.iload XH200.here hx rfl (hb hby at_86) rfl ?_
      show Steps p.tables e below (T200.setTop (mkF m 88 #[.val (.int p0), .val (.int p1), .val (.int p2), .val (.int p3), .val (.int p4), .val (.int p5), .val (.int z), .val (.int n6), .val (.ref b165), .val (.ref b189), .unset, .unset] [(.int n6)])) _
      refine XS.iconst XH200.here hx rfl (hb hby at_88) ?_
      show Steps p.tables e below (T200.setTop (mkF m 89 #[.val (.int p0), .val (.int p1), .val (.int p2), .val (.int p3), .val (.int p4), .val (.int p5), .val (.int z), .val (.int n6), .val (.ref b165), .val (.ref b189), .unset, .unset] [(.int (2 : Int32)), (.int n6)])) _
      refine XS.icmpYes XH200.here hx rfl (pc0 := 89) (pc' := 101) rfl (hb hby at_89) rfl (flt (by rw [hn]; decide)).2.2.2 (by decide) (by decide) ?_
      show Steps p.tables e below (T200.setTop (mkF m 101 #[.val (.int p0), .val (.int p1), .val (.int p2), .val (.int p3), .val (.int p4), .val (.int p5), .val (.int z), .val (.int n6), .val (.ref b165), .val (.ref b189), .unset, .unset] [])) _
      refine XS.iload XH200.here hx rfl (hb hby at_101) rfl ?_
      show Steps p.tables e below (T200.setTop (mkF m 103 #[.val (.int p0), .val (.int p1), .val (.int p2), .val (.int p3), .val (.int p4), .val (.int p5), .val (.int z), .val (.int n6), .val (.ref b165), .val (.ref b189), .unset, .unset] [(.int n6)])) _
      refine XS.iconst XH200.here hx rfl (hb hby at_103) ?_
      show Steps p.tables e below (T200.setTop (mkF m 104 #[.val (.int p0), .val (.int p1), .val (.int p2), .val (.int p3), .val (.int p4), .val (.int p5), .val (.int z), .val (.int n6), .val (.ref b165), .val (.ref b189), .unset, .unset] [(.int (3 : Int32)), (.int n6)])) _
      refine XS.icmpYes XH200.here hx rfl (pc0 := 104) (pc' := 116) rfl (hb hby at_104) rfl (flt (by rw [hn]; decide)).2.2.2 (by decide) (by decide) ?_
      show Steps p.tables e below (T200.setTop (mkF m 116 #[.val (.int p0), .val (.int p1), .val (.int p2), .val (.int p3), .val (.int p4), .val (.int p5), .val (.int z), .val (.int n6), .val (.ref b165), .val (.ref b189), .unset, .unset] [])) _
      refine XS.iload XH200.here hx rfl (hb hby at_116) rfl ?_
      show Steps p.tables e below (T200.setTop (mkF m 118 #[.val (.int p0), .val (.int p1), .val (.int p2), .val (.int p3), .val (.int p4), .val (.int p5), .val (.int z), .val (.int n6), .val (.ref b165), .val (.ref b189), .unset, .unset] [(.int n6)])) _
      refine XS.iconst XH200.here hx rfl (hb hby at_118) ?_
      show Steps p.tables e below (T200.setTop (mkF m 119 #[.val (.int p0), .val (.int p1), .val (.int p2), .val (.int p3), .val (.int p4), .val (.int p5), .val (.int z), .val (.int n6), .val (.ref b165), .val (.ref b189), .unset, .unset] [(.int (4 : Int32)), (.int n6)])) _
      refine XS.icmpYes XH200.here hx rfl (pc0 := 119) (pc' := 131) rfl (hb hby at_119) rfl (flt (by rw [hn]; decide)).2.2.2 (by decide) (by decide) ?_
      show Steps p.tables e below (T200.setTop (mkF m 131 #[.val (.int p0), .val (.int p1), .val (.int p2), .val (.int p3), .val (.int p4), .val (.int p5), .val (.int z), .val (.int n6), .val (.ref b165), .val (.ref b189), .unset, .unset] [])) _
      refine XS.iload XH200.here hx rfl (hb hby at_131) rfl ?_
      show Steps p.tables e below (T200.setTop (mkF m 133 #[.val (.int p0), .val (.int p1), .val (.int p2), .val (.int p3), .val (.int p4), .val (.int p5), .val (.int z), .val (.int n6), .val (.ref b165), .val (.ref b189), .unset, .unset] [(.int z)])) _
      refine XS.istore XH200.here hx rfl (hb hby at_133) rfl (l' := #[.val (.int p0), .val (.int p1), .val (.int p2), .val (.int p3), .val (.int p4), .val (.int p5), .val (.int z), .val (.int n6), .val (.ref b165), .val (.ref b189), .val (.int z), .unset]) rfl ?_
      show Steps p.tables e below (T200.setTop (mkF m 135 #[.val (.int p0), .val (.int p1), .val (.int p2), .val (.int p3), .val (.int p4), .val (.int p5), .val (.int z), .val (.int n6), .val (.ref b165), .val (.ref b189), .val (.int z), .unset] [])) _
      refine XS.iload XH200.here hx rfl (hb hby at_135) rfl ?_
      show Steps p.tables e below (T200.setTop (mkF m 137 #[.val (.int p0), .val (.int p1), .val (.int p2), .val (.int p3), .val (.int p4), .val (.int p5), .val (.int z), .val (.int n6), .val (.ref b165), .val (.ref b189), .val (.int z), .unset] [(.int n6)])) _
      refine XS.iload XH200.here hx rfl (hb hby at_137) rfl ?_
      exact k)
    have k208 : ∀ t, Steps p.tables e below (T200.setTop (mkF m 148 #[.val (.int p0), .val (.int p1), .val (.int p2), .val (.int p3), .val (.int p4), .val (.int p5), .val (.int z), .val (.int n6), .val (.ref b165), .val (.ref b189), .val (.int (if z < n6 then (z * (2 : Int32)) else z)), .unset] [])) t → Steps p.tables e below (s₁.setTop (entryFrame m #[(.int p0), (.int p1), (.int p2), (.int p3), (.int p4), (.int p5)] maxLocals)) t := fun t k => k206 t (by
      by_cases hq207 : z < n6
      · simp only [if_pos hq207] at k
        show Steps p.tables e below (T200.setTop (mkF m 139 #[.val (.int p0), .val (.int p1), .val (.int p2), .val (.int p3), .val (.int p4), .val (.int p5), .val (.int z), .val (.int n6), .val (.ref b165), .val (.ref b189), .val (.int z), .unset] [(.int z), (.int n6)])) _
        refine XS.icmpNo XH200.here hx rfl (hb hby at_139) rfl (tlt hq207).2.2.2 ?_
        show Steps p.tables e below (T200.setTop (mkF m 142 #[.val (.int p0), .val (.int p1), .val (.int p2), .val (.int p3), .val (.int p4), .val (.int p5), .val (.int z), .val (.int n6), .val (.ref b165), .val (.ref b189), .val (.int z), .unset] [])) _
        refine XS.iload XH200.here hx rfl (hb hby at_142) rfl ?_
        show Steps p.tables e below (T200.setTop (mkF m 144 #[.val (.int p0), .val (.int p1), .val (.int p2), .val (.int p3), .val (.int p4), .val (.int p5), .val (.int z), .val (.int n6), .val (.ref b165), .val (.ref b189), .val (.int z), .unset] [(.int z)])) _
        refine XS.iconst XH200.here hx rfl (hb hby at_144) ?_
        show Steps p.tables e below (T200.setTop (mkF m 145 #[.val (.int p0), .val (.int p1), .val (.int p2), .val (.int p3), .val (.int p4), .val (.int p5), .val (.int z), .val (.int n6), .val (.ref b165), .val (.ref b189), .val (.int z), .unset] [(.int (2 : Int32)), (.int z)])) _
        refine XS.imul XH200.here hx rfl (hb hby at_145) rfl ?_
        show Steps p.tables e below (T200.setTop (mkF m 146 #[.val (.int p0), .val (.int p1), .val (.int p2), .val (.int p3), .val (.int p4), .val (.int p5), .val (.int z), .val (.int n6), .val (.ref b165), .val (.ref b189), .val (.int z), .unset] [(.int (z * (2 : Int32)))])) _
        refine XS.istore XH200.here hx rfl (hb hby at_146) rfl (l' := #[.val (.int p0), .val (.int p1), .val (.int p2), .val (.int p3), .val (.int p4), .val (.int p5), .val (.int z), .val (.int n6), .val (.ref b165), .val (.ref b189), .val (.int (z * (2 : Int32))), .unset]) rfl ?_
        exact k
      · simp only [if_neg hq207] at k
        show Steps p.tables e below (T200.setTop (mkF m 139 #[.val (.int p0), .val (.int p1), .val (.int p2), .val (.int p3), .val (.int p4), .val (.int p5), .val (.int z), .val (.int n6), .val (.ref b165), .val (.ref b189), .val (.int z), .unset] [(.int z), (.int n6)])) _
        refine XS.icmpYes XH200.here hx rfl (pc0 := 139) (pc' := 148) rfl (hb hby at_139) rfl (flt hq207).2.2.2 (by decide) (by decide) ?_
        exact k)
    have k209 : ∀ t, Steps p.tables e below (T200.setTop (mkF m 152 #[.val (.int p0), .val (.int p1), .val (.int p2), .val (.int p3), .val (.int p4), .val (.int p5), .val (.int z), .val (.int n6), .val (.ref b165), .val (.ref b189), .val (.int (if z < n6 then (z * (2 : Int32)) else z)), .unset] [(.int (if z < n6 then (z * (2 : Int32)) else z)), (.int n6)])) t → Steps p.tables e below (s₁.setTop (entryFrame m #[(.int p0), (.int p1), (.int p2), (.int p3), (.int p4), (.int p5)] maxLocals)) t := fun t k => k208 t (by
      show Steps p.tables e below (T200.setTop (mkF m 148 #[.val (.int p0), .val (.int p1), .val (.int p2), .val (.int p3), .val (.int p4), .val (.int p5), .val (.int z), .val (.int n6), .val (.ref b165), .val (.ref b189), .val (.int (if z < n6 then (z * (2 : Int32)) else z)), .unset] [])) _
      refine XS.iload XH200.here hx rfl (hb hby at_148) rfl ?_
      show Steps p.tables e below (T200.setTop (mkF m 150 #[.val (.int p0), .val (.int p1), .val (.int p2), .val (.int p3), .val (.int p4), .val (.int p5), .val (.int z), .val (.int n6), .val (.ref b165), .val (.ref b189), .val (.int (if z < n6 then (z * (2 : Int32)) else z)), .unset] [(.int n6)])) _
      refine XS.iload XH200.here hx rfl (hb hby at_150) rfl ?_
      exact k)
    have k211 : ∀ t, Steps p.tables e below (T200.setTop (mkF m 161 #[.val (.int p0), .val (.int p1), .val (.int p2), .val (.int p3), .val (.int p4), .val (.int p5), .val (.int z), .val (.int n6), .val (.ref b165), .val (.ref b189), .val (.int (if (if z < n6 then (z * (2 : Int32)) else z) < n6 then ((if z < n6 then (z * (2 : Int32)) else z) * (2 : Int32)) else (if z < n6 then (z * (2 : Int32)) else z))), .unset] [])) t → Steps p.tables e below (s₁.setTop (entryFrame m #[(.int p0), (.int p1), (.int p2), (.int p3), (.int p4), (.int p5)] maxLocals)) t := fun t k => k209 t (by
      by_cases hq210 : (if z < n6 then (z * (2 : Int32)) else z) < n6
      · simp only [if_pos hq210] at k
        show Steps p.tables e below (T200.setTop (mkF m 152 #[.val (.int p0), .val (.int p1), .val (.int p2), .val (.int p3), .val (.int p4), .val (.int p5), .val (.int z), .val (.int n6), .val (.ref b165), .val (.ref b189), .val (.int (if z < n6 then (z * (2 : Int32)) else z)), .unset] [(.int (if z < n6 then (z * (2 : Int32)) else z)), (.int n6)])) _
        refine XS.icmpNo XH200.here hx rfl (hb hby at_152) rfl (tlt hq210).2.2.2 ?_
        show Steps p.tables e below (T200.setTop (mkF m 155 #[.val (.int p0), .val (.int p1), .val (.int p2), .val (.int p3), .val (.int p4), .val (.int p5), .val (.int z), .val (.int n6), .val (.ref b165), .val (.ref b189), .val (.int (if z < n6 then (z * (2 : Int32)) else z)), .unset] [])) _
        refine XS.iload XH200.here hx rfl (hb hby at_155) rfl ?_
        show Steps p.tables e below (T200.setTop (mkF m 157 #[.val (.int p0), .val (.int p1), .val (.int p2), .val (.int p3), .val (.int p4), .val (.int p5), .val (.int z), .val (.int n6), .val (.ref b165), .val (.ref b189), .val (.int (if z < n6 then (z * (2 : Int32)) else z)), .unset] [(.int (if z < n6 then (z * (2 : Int32)) else z))])) _
        refine XS.iconst XH200.here hx rfl (hb hby at_157) ?_
        show Steps p.tables e below (T200.setTop (mkF m 158 #[.val (.int p0), .val (.int p1), .val (.int p2), .val (.int p3), .val (.int p4), .val (.int p5), .val (.int z), .val (.int n6), .val (.ref b165), .val (.ref b189), .val (.int (if z < n6 then (z * (2 : Int32)) else z)), .unset] [(.int (2 : Int32)), (.int (if z < n6 then (z * (2 : Int32)) else z))])) _
        refine XS.imul XH200.here hx rfl (hb hby at_158) rfl ?_
        show Steps p.tables e below (T200.setTop (mkF m 159 #[.val (.int p0), .val (.int p1), .val (.int p2), .val (.int p3), .val (.int p4), .val (.int p5), .val (.int z), .val (.int n6), .val (.ref b165), .val (.ref b189), .val (.int (if z < n6 then (z * (2 : Int32)) else z)), .unset] [(.int ((if z < n6 then (z * (2 : Int32)) else z) * (2 : Int32)))])) _
        refine XS.istore XH200.here hx rfl (hb hby at_159) rfl (l' := #[.val (.int p0), .val (.int p1), .val (.int p2), .val (.int p3), .val (.int p4), .val (.int p5), .val (.int z), .val (.int n6), .val (.ref b165), .val (.ref b189), .val (.int ((if z < n6 then (z * (2 : Int32)) else z) * (2 : Int32))), .unset]) rfl ?_
        exact k
      · simp only [if_neg hq210] at k
        show Steps p.tables e below (T200.setTop (mkF m 152 #[.val (.int p0), .val (.int p1), .val (.int p2), .val (.int p3), .val (.int p4), .val (.int p5), .val (.int z), .val (.int n6), .val (.ref b165), .val (.ref b189), .val (.int (if z < n6 then (z * (2 : Int32)) else z)), .unset] [(.int (if z < n6 then (z * (2 : Int32)) else z)), (.int n6)])) _
        refine XS.icmpYes XH200.here hx rfl (pc0 := 152) (pc' := 161) rfl (hb hby at_152) rfl (flt hq210).2.2.2 (by decide) (by decide) ?_
        exact k)
    have k212 : ∀ t, Steps p.tables e below (T200.setTop (mkF m 165 #[.val (.int p0), .val (.int p1), .val (.int p2), .val (.int p3), .val (.int p4), .val (.int p5), .val (.int z), .val (.int n6), .val (.ref b165), .val (.ref b189), .val (.int (if (if z < n6 then (z * (2 : Int32)) else z) < n6 then ((if z < n6 then (z * (2 : Int32)) else z) * (2 : Int32)) else (if z < n6 then (z * (2 : Int32)) else z))), .unset] [(.int (if (if z < n6 then (z * (2 : Int32)) else z) < n6 then ((if z < n6 then (z * (2 : Int32)) else z) * (2 : Int32)) else (if z < n6 then (z * (2 : Int32)) else z))), (.int n6)])) t → Steps p.tables e below (s₁.setTop (entryFrame m #[(.int p0), (.int p1), (.int p2), (.int p3), (.int p4), (.int p5)] maxLocals)) t := fun t k => k211 t (by
      show Steps p.tables e below (T200.setTop (mkF m 161 #[.val (.int p0), .val (.int p1), .val (.int p2), .val (.int p3), .val (.int p4), .val (.int p5), .val (.int z), .val (.int n6), .val (.ref b165), .val (.ref b189), .val (.int (if (if z < n6 then (z * (2 : Int32)) else z) < n6 then ((if z < n6 then (z * (2 : Int32)) else z) * (2 : Int32)) else (if z < n6 then (z * (2 : Int32)) else z))), .unset] [])) _
      refine XS.iload XH200.here hx rfl (hb hby at_161) rfl ?_
      show Steps p.tables e below (T200.setTop (mkF m 163 #[.val (.int p0), .val (.int p1), .val (.int p2), .val (.int p3), .val (.int p4), .val (.int p5), .val (.int z), .val (.int n6), .val (.ref b165), .val (.ref b189), .val (.int (if (if z < n6 then (z * (2 : Int32)) else z) < n6 then ((if z < n6 then (z * (2 : Int32)) else z) * (2 : Int32)) else (if z < n6 then (z * (2 : Int32)) else z))), .unset] [(.int n6)])) _
      refine XS.iload XH200.here hx rfl (hb hby at_163) rfl ?_
      exact k)
    have k214 : ∀ t, Steps p.tables e below (T200.setTop (mkF m 174 #[.val (.int p0), .val (.int p1), .val (.int p2), .val (.int p3), .val (.int p4), .val (.int p5), .val (.int z), .val (.int n6), .val (.ref b165), .val (.ref b189), .val (.int (if (if (if z < n6 then (z * (2 : Int32)) else z) < n6 then ((if z < n6 then (z * (2 : Int32)) else z) * (2 : Int32)) else (if z < n6 then (z * (2 : Int32)) else z)) < n6 then ((if (if z < n6 then (z * (2 : Int32)) else z) < n6 then ((if z < n6 then (z * (2 : Int32)) else z) * (2 : Int32)) else (if z < n6 then (z * (2 : Int32)) else z)) * (2 : Int32)) else (if (if z < n6 then (z * (2 : Int32)) else z) < n6 then ((if z < n6 then (z * (2 : Int32)) else z) * (2 : Int32)) else (if z < n6 then (z * (2 : Int32)) else z)))), .unset] [])) t → Steps p.tables e below (s₁.setTop (entryFrame m #[(.int p0), (.int p1), (.int p2), (.int p3), (.int p4), (.int p5)] maxLocals)) t := fun t k => k212 t (by
      by_cases hq213 : (if (if z < n6 then (z * (2 : Int32)) else z) < n6 then ((if z < n6 then (z * (2 : Int32)) else z) * (2 : Int32)) else (if z < n6 then (z * (2 : Int32)) else z)) < n6
      · simp only [if_pos hq213] at k
        show Steps p.tables e below (T200.setTop (mkF m 165 #[.val (.int p0), .val (.int p1), .val (.int p2), .val (.int p3), .val (.int p4), .val (.int p5), .val (.int z), .val (.int n6), .val (.ref b165), .val (.ref b189), .val (.int (if (if z < n6 then (z * (2 : Int32)) else z) < n6 then ((if z < n6 then (z * (2 : Int32)) else z) * (2 : Int32)) else (if z < n6 then (z * (2 : Int32)) else z))), .unset] [(.int (if (if z < n6 then (z * (2 : Int32)) else z) < n6 then ((if z < n6 then (z * (2 : Int32)) else z) * (2 : Int32)) else (if z < n6 then (z * (2 : Int32)) else z))), (.int n6)])) _
        refine XS.icmpNo XH200.here hx rfl (hb hby at_165) rfl (tlt hq213).2.2.2 ?_
        show Steps p.tables e below (T200.setTop (mkF m 168 #[.val (.int p0), .val (.int p1), .val (.int p2), .val (.int p3), .val (.int p4), .val (.int p5), .val (.int z), .val (.int n6), .val (.ref b165), .val (.ref b189), .val (.int (if (if z < n6 then (z * (2 : Int32)) else z) < n6 then ((if z < n6 then (z * (2 : Int32)) else z) * (2 : Int32)) else (if z < n6 then (z * (2 : Int32)) else z))), .unset] [])) _
        refine XS.iload XH200.here hx rfl (hb hby at_168) rfl ?_
        show Steps p.tables e below (T200.setTop (mkF m 170 #[.val (.int p0), .val (.int p1), .val (.int p2), .val (.int p3), .val (.int p4), .val (.int p5), .val (.int z), .val (.int n6), .val (.ref b165), .val (.ref b189), .val (.int (if (if z < n6 then (z * (2 : Int32)) else z) < n6 then ((if z < n6 then (z * (2 : Int32)) else z) * (2 : Int32)) else (if z < n6 then (z * (2 : Int32)) else z))), .unset] [(.int (if (if z < n6 then (z * (2 : Int32)) else z) < n6 then ((if z < n6 then (z * (2 : Int32)) else z) * (2 : Int32)) else (if z < n6 then (z * (2 : Int32)) else z)))])) _
        refine XS.iconst XH200.here hx rfl (hb hby at_170) ?_
        show Steps p.tables e below (T200.setTop (mkF m 171 #[.val (.int p0), .val (.int p1), .val (.int p2), .val (.int p3), .val (.int p4), .val (.int p5), .val (.int z), .val (.int n6), .val (.ref b165), .val (.ref b189), .val (.int (if (if z < n6 then (z * (2 : Int32)) else z) < n6 then ((if z < n6 then (z * (2 : Int32)) else z) * (2 : Int32)) else (if z < n6 then (z * (2 : Int32)) else z))), .unset] [(.int (2 : Int32)), (.int (if (if z < n6 then (z * (2 : Int32)) else z) < n6 then ((if z < n6 then (z * (2 : Int32)) else z) * (2 : Int32)) else (if z < n6 then (z * (2 : Int32)) else z)))])) _
        refine XS.imul XH200.here hx rfl (hb hby at_171) rfl ?_
        show Steps p.tables e below (T200.setTop (mkF m 172 #[.val (.int p0), .val (.int p1), .val (.int p2), .val (.int p3), .val (.int p4), .val (.int p5), .val (.int z), .val (.int n6), .val (.ref b165), .val (.ref b189), .val (.int (if (if z < n6 then (z * (2 : Int32)) else z) < n6 then ((if z < n6 then (z * (2 : Int32)) else z) * (2 : Int32)) else (if z < n6 then (z * (2 : Int32)) else z))), .unset] [(.int ((if (if z < n6 then (z * (2 : Int32)) else z) < n6 then ((if z < n6 then (z * (2 : Int32)) else z) * (2 : Int32)) else (if z < n6 then (z * (2 : Int32)) else z)) * (2 : Int32)))])) _
        refine XS.istore XH200.here hx rfl (hb hby at_172) rfl (l' := #[.val (.int p0), .val (.int p1), .val (.int p2), .val (.int p3), .val (.int p4), .val (.int p5), .val (.int z), .val (.int n6), .val (.ref b165), .val (.ref b189), .val (.int ((if (if z < n6 then (z * (2 : Int32)) else z) < n6 then ((if z < n6 then (z * (2 : Int32)) else z) * (2 : Int32)) else (if z < n6 then (z * (2 : Int32)) else z)) * (2 : Int32))), .unset]) rfl ?_
        exact k
      · simp only [if_neg hq213] at k
        show Steps p.tables e below (T200.setTop (mkF m 165 #[.val (.int p0), .val (.int p1), .val (.int p2), .val (.int p3), .val (.int p4), .val (.int p5), .val (.int z), .val (.int n6), .val (.ref b165), .val (.ref b189), .val (.int (if (if z < n6 then (z * (2 : Int32)) else z) < n6 then ((if z < n6 then (z * (2 : Int32)) else z) * (2 : Int32)) else (if z < n6 then (z * (2 : Int32)) else z))), .unset] [(.int (if (if z < n6 then (z * (2 : Int32)) else z) < n6 then ((if z < n6 then (z * (2 : Int32)) else z) * (2 : Int32)) else (if z < n6 then (z * (2 : Int32)) else z))), (.int n6)])) _
        refine XS.icmpYes XH200.here hx rfl (pc0 := 165) (pc' := 174) rfl (hb hby at_165) rfl (flt hq213).2.2.2 (by decide) (by decide) ?_
        exact k)
    obtain ⟨ec, hec⟩ : ∃ zz_, zz_ = (if (if (if z < n6 then (z * (2 : Int32)) else z) < n6 then ((if z < n6 then (z * (2 : Int32)) else z) * (2 : Int32)) else (if z < n6 then (z * (2 : Int32)) else z)) < n6 then ((if (if z < n6 then (z * (2 : Int32)) else z) < n6 then ((if z < n6 then (z * (2 : Int32)) else z) * (2 : Int32)) else (if z < n6 then (z * (2 : Int32)) else z)) * (2 : Int32)) else (if (if z < n6 then (z * (2 : Int32)) else z) < n6 then ((if z < n6 then (z * (2 : Int32)) else z) * (2 : Int32)) else (if z < n6 then (z * (2 : Int32)) else z))) := ⟨_, rfl⟩
    rw [← hec] at k214
    have k215 : ∀ t, Steps p.tables e below (T200.setTop (mkF m 176 #[.val (.int p0), .val (.int p1), .val (.int p2), .val (.int p3), .val (.int p4), .val (.int p5), .val (.int z), .val (.int n6), .val (.ref b165), .val (.ref b189), .val (.int ec), .unset] [(.ref b189)])) t → Steps p.tables e below (s₁.setTop (entryFrame m #[(.int p0), (.int p1), (.int p2), (.int p3), (.int p4), (.int p5)] maxLocals)) t := fun t k => k214 t (by
      show Steps p.tables e below (T200.setTop (mkF m 174 #[.val (.int p0), .val (.int p1), .val (.int p2), .val (.int p3), .val (.int p4), .val (.int p5), .val (.int z), .val (.int n6), .val (.ref b165), .val (.ref b189), .val (.int ec), .unset] [])) _
      refine XS.aload XH200.here hx rfl (hb hby at_174) rfl rfl ?_
      exact k)
    obtain ⟨cq216, kq216, q216a, q216b, q216c⟩ := isOf hZ rfl F203
    obtain ⟨_, _, ⟨T216, L216, kc216, ks216⟩, -, X216, ⟨Lc216, hQ216, l216, y216, z216⟩, st216⟩ := XH200.virtualBack hx (y := (⟨"com/example/wegweiser/wegweiser/index/ByteSink", "length", "()I"⟩ : MethodName)) (z := (⟨"com/example/wegweiser/wegweiser/index/ByteSink", "length", "()I"⟩ : MethodName)) hown (mvT hZ (hw _ (List.mem_of_getElem? (i := 38) rfl))) (mvT hZ (hw _ (List.mem_of_getElem? (i := 39) rfl))) (notFace_of_selects (args := #[]) (mvT hZ (hw _ (List.mem_of_getElem? (i := 41) rfl)))) (mvT hZ (hw _ (List.mem_of_getElem? (i := 41) rfl))) (mvT hZ (hw _ (List.mem_of_getElem? (i := 40) rfl))) (by decide) (backOf (W := 0) (rm7 l Z a0 hw [] b189 (0 : Int32) T200.heap n0 Z201 Fl200) hZ (hw _ (List.mem_of_getElem? (i := 42) rfl)) (hw _ (List.mem_of_getElem? (i := 4) rfl)) (by decide) (by decide)) q216a q216c (g := (mkF m 176 #[.val (.int p0), .val (.int p1), .val (.int p2), .val (.int p3), .val (.int p4), .val (.int p5), .val (.int z), .val (.int n6), .val (.ref b165), .val (.ref b189), .val (.int ec), .unset] [(.ref b189)])) rfl (by rw [hml]; rfl) (Steps.refl _) (argsL := []) (rest := []) (lenOf pd_4 rfl) rfl (by show 2 * 0 + _ ≤ _; exact Nat.le_of_eq rfl) (hb hby at_176) (fun _ _ => ⟨rfl, rfl, (by decide : 3 + 0 ≤ _), (by decide : 11 + 0 ≤ _)⟩)
    dsimp only [Pt.U, Pt.locs, Pt.cells, Pt.slots] at X216 l216 y216 z216 st216 hQ216
    subst l216 y216 z216
    obtain ⟨rfl, Nq216, eq216⟩ := hQ216
    have N216 := Fr.app NH200 Nq216
    obtain ⟨LH216, XH216, NH216⟩ := own_hide X216 N216
    clear X216 N216
    have k217 : ∀ t, Steps p.tables e below (T216.setTop (mkF m 179 #[.val (.int p0), .val (.int p1), .val (.int p2), .val (.int p3), .val (.int p4), .val (.int p5), .val (.int z), .val (.int n6), .val (.ref b165), .val (.ref b189), .val (.int ec), .unset] [(.int (0 : Int32))])) t → Steps p.tables e below (s₁.setTop (entryFrame m #[(.int p0), (.int p1), (.int p2), (.int p3), (.int p4), (.int p5)] maxLocals)) t := fun t k => k215 t (st216.trans k)
    have k218 : ∀ t, Steps p.tables e below (T216.setTop (mkF m 188 #[.val (.int p0), .val (.int p1), .val (.int p2), .val (.int p3), .val (.int p4), .val (.int p5), .val (.int z), .val (.int n6), .val (.ref b165), .val (.ref b189), .val (.int ec), .unset] [(.ref b189)])) t → Steps p.tables e below (s₁.setTop (entryFrame m #[(.int p0), (.int p1), (.int p2), (.int p3), (.int p4), (.int p5)] maxLocals)) t := fun t k => k217 t (by
      show Steps p.tables e below (T216.setTop (mkF m 179 #[.val (.int p0), .val (.int p1), .val (.int p2), .val (.int p3), .val (.int p4), .val (.int p5), .val (.int z), .val (.int n6), .val (.ref b165), .val (.ref b189), .val (.int ec), .unset] [(.int (0 : Int32))])) _
      refine XS.iload XH216.here hx rfl (hb hby at_179) rfl ?_
      show Steps p.tables e below (T216.setTop (mkF m 181 #[.val (.int p0), .val (.int p1), .val (.int p2), .val (.int p3), .val (.int p4), .val (.int p5), .val (.int z), .val (.int n6), .val (.ref b165), .val (.ref b189), .val (.int ec), .unset] [(.int n6), (.int (0 : Int32))])) _
      refine XS.icmpYes XH216.here hx rfl (pc0 := 181) (pc' := 186) rfl (hb hby at_181) rfl (teq (by first | (rw [hn]; done) | (rw [hn]; decide))).1 (by decide) (by decide) ?_
      show Steps p.tables e below (T216.setTop (mkF m 186 #[.val (.int p0), .val (.int p1), .val (.int p2), .val (.int p3), .val (.int p4), .val (.int p5), .val (.int z), .val (.int n6), .val (.ref b165), .val (.ref b189), .val (.int ec), .unset] [])) _
      refine XS.aload XH216.here hx rfl (hb hby at_186) rfl rfl ?_
      exact k)
    obtain ⟨cq219, kq219, q219a, q219b, q219c⟩ := isOf hZ eq216 F203
    obtain ⟨_, _, ⟨T219, L219, kc219, ks219⟩, -, X219, ⟨Lc219, hQ219, l219, y219, z219⟩, st219⟩ := XH216.virtualBack hx (y := (⟨"com/example/wegweiser/wegweiser/index/ByteSink", "capacity", "()I"⟩ : MethodName)) (z := (⟨"com/example/wegweiser/wegweiser/index/ByteSink", "capacity", "()I"⟩ : MethodName)) hown (mvT hZ (hw _ (List.mem_of_getElem? (i := 43) rfl))) (mvT hZ (hw _ (List.mem_of_getElem? (i := 44) rfl))) (notFace_of_selects (args := #[]) (mvT hZ (hw _ (List.mem_of_getElem? (i := 46) rfl)))) (mvT hZ (hw _ (List.mem_of_getElem? (i := 46) rfl))) (mvT hZ (hw _ (List.mem_of_getElem? (i := 45) rfl))) (by decide) (backOf (W := 0) (rm8 l Z a0 hw [] b189 b197 kb200 z [] T200.heap n0 Z201 Fb200 Vx200) hZ (hw _ (List.mem_of_getElem? (i := 47) rfl)) (hw _ (List.mem_of_getElem? (i := 4) rfl)) (by decide) (by decide)) q219a q219c (g := (mkF m 188 #[.val (.int p0), .val (.int p1), .val (.int p2), .val (.int p3), .val (.int p4), .val (.int p5), .val (.int z), .val (.int n6), .val (.ref b165), .val (.ref b189), .val (.int ec), .unset] [(.ref b189)])) rfl (by rw [hml]; rfl) (Steps.refl _) (argsL := []) (rest := []) (lenOf pd_4 rfl) rfl (by show 2 * 0 + _ ≤ _; exact Nat.le_of_eq rfl) (hb hby at_188) (fun _ _ => ⟨rfl, eq216, (by decide : 3 + 0 ≤ _), (by decide : 11 + 0 ≤ _)⟩)
    dsimp only [Pt.U, Pt.locs, Pt.cells, Pt.slots] at X219 l219 y219 z219 st219 hQ219
    subst l219 y219 z219
    obtain ⟨rfl, Nq219, eq219⟩ := hQ219
    have N219 := Fr.app NH216 Nq219
    obtain ⟨LH219, XH219, NH219⟩ := own_hide X219 N219
    clear X219 N219
    have k220 : ∀ t, Steps p.tables e below (T219.setTop (mkF m 191 #[.val (.int p0), .val (.int p1), .val (.int p2), .val (.int p3), .val (.int p4), .val (.int p5), .val (.int z), .val (.int n6), .val (.ref b165), .val (.ref b189), .val (.int ec), .unset] [(.int z)])) t → Steps p.tables e below (s₁.setTop (entryFrame m #[(.int p0), (.int p1), (.int p2), (.int p3), (.int p4), (.int p5)] maxLocals)) t := fun t k => k218 t (st219.trans k)
    have k221 : ∀ t, Steps p.tables e below (T219.setTop (mkF m 200 #[.val (.int p0), .val (.int p1), .val (.int p2), .val (.int p3), .val (.int p4), .val (.int p5), .val (.int z), .val (.int n6), .val (.ref b165), .val (.ref b189), .val (.int ec), .unset] [(.ref b189)])) t → Steps p.tables e below (s₁.setTop (entryFrame m #[(.int p0), (.int p1), (.int p2), (.int p3), (.int p4), (.int p5)] maxLocals)) t := fun t k => k220 t (by
      show Steps p.tables e below (T219.setTop (mkF m 191 #[.val (.int p0), .val (.int p1), .val (.int p2), .val (.int p3), .val (.int p4), .val (.int p5), .val (.int z), .val (.int n6), .val (.ref b165), .val (.ref b189), .val (.int ec), .unset] [(.int z)])) _
      refine XS.iload XH219.here hx rfl (hb hby at_191) rfl ?_
      show Steps p.tables e below (T219.setTop (mkF m 193 #[.val (.int p0), .val (.int p1), .val (.int p2), .val (.int p3), .val (.int p4), .val (.int p5), .val (.int z), .val (.int n6), .val (.ref b165), .val (.ref b189), .val (.int ec), .unset] [(.int ec), (.int z)])) _
      refine XS.icmpYes XH219.here hx rfl (pc0 := 193) (pc' := 198) rfl (hb hby at_193) rfl (teq (by rw [hec, hn]; rcases hz with rfl | rfl | rfl | rfl <;> decide)).1 (by decide) (by decide) ?_
      show Steps p.tables e below (T219.setTop (mkF m 198 #[.val (.int p0), .val (.int p1), .val (.int p2), .val (.int p3), .val (.int p4), .val (.int p5), .val (.int z), .val (.int n6), .val (.ref b165), .val (.ref b189), .val (.int ec), .unset] [])) _
      refine XS.aload XH219.here hx rfl (hb hby at_198) rfl rfl ?_
      exact k)
    obtain ⟨cq222, kq222, q222a, q222b, q222c⟩ := isOf hZ eq219 F203
    obtain ⟨_, _, ⟨T222, L222, kc222, ks222⟩, -, X222, ⟨Lc222, hQ222, l222, y222, z222⟩, st222⟩ := XH219.virtualBack hx (y := (⟨"com/example/wegweiser/wegweiser/index/ByteSink", "bytes", "()[B"⟩ : MethodName)) (z := (⟨"com/example/wegweiser/wegweiser/index/ByteSink", "bytes", "()[B"⟩ : MethodName)) hown (mvT hZ (hw _ (List.mem_of_getElem? (i := 48) rfl))) (mvT hZ (hw _ (List.mem_of_getElem? (i := 49) rfl))) (notFace_of_selects (args := #[]) (mvT hZ (hw _ (List.mem_of_getElem? (i := 51) rfl)))) (mvT hZ (hw _ (List.mem_of_getElem? (i := 51) rfl))) (mvT hZ (hw _ (List.mem_of_getElem? (i := 50) rfl))) (by decide) (backOf (W := 0) (rm9 l Z a0 hw [] b189 b197 T200.heap n0 Z201 Fb200) hZ (hw _ (List.mem_of_getElem? (i := 52) rfl)) (hw _ (List.mem_of_getElem? (i := 4) rfl)) (by decide) (by decide)) q222a q222c (g := (mkF m 200 #[.val (.int p0), .val (.int p1), .val (.int p2), .val (.int p3), .val (.int p4), .val (.int p5), .val (.int z), .val (.int n6), .val (.ref b165), .val (.ref b189), .val (.int ec), .unset] [(.ref b189)])) rfl (by rw [hml]; rfl) (Steps.refl _) (argsL := []) (rest := []) (lenOf pd_5 rfl) rfl (by show 2 * 0 + _ ≤ _; exact Nat.le_of_eq rfl) (hb hby at_200) (fun _ _ => ⟨rfl, eq219, (by decide : 3 + 0 ≤ _), (by decide : 11 + 0 ≤ _)⟩)
    dsimp only [Pt.U, Pt.locs, Pt.cells, Pt.slots] at X222 l222 y222 z222 st222 hQ222
    subst l222 y222 z222
    obtain ⟨rfl, Nq222, eq222⟩ := hQ222
    have N222 := Fr.app NH219 Nq222
    obtain ⟨LH222, XH222, NH222⟩ := own_hide X222 N222
    clear X222 N222
    have k223 : ∀ t, Steps p.tables e below (T222.setTop (mkF m 203 #[.val (.int p0), .val (.int p1), .val (.int p2), .val (.int p3), .val (.int p4), .val (.int p5), .val (.int z), .val (.int n6), .val (.ref b165), .val (.ref b189), .val (.int ec), .unset] [(.ref b197)])) t → Steps p.tables e below (s₁.setTop (entryFrame m #[(.int p0), (.int p1), (.int p2), (.int p3), (.int p4), (.int p5)] maxLocals)) t := fun t k => k221 t (st222.trans k)
    have k225 : ∀ t, Steps p.tables e below (T222.setTop (mkF m 222 #[.val (.int p0), .val (.int p1), .val (.int p2), .val (.int p3), .val (.int p4), .val (.int p5), .val (.int z), .val (.int n6), .val (.ref b165), .val (.ref b189), .val (.int ec), .val (.ref b197)] [(.int (0 : Int32)), (.int n6), (.ref b165), (.ref b197)])) t → Steps p.tables e below (s₁.setTop (entryFrame m #[(.int p0), (.int p1), (.int p2), (.int p3), (.int p4), (.int p5)] maxLocals)) t := fun t k => k223 t (by
      show Steps p.tables e below (T222.setTop (mkF m 203 #[.val (.int p0), .val (.int p1), .val (.int p2), .val (.int p3), .val (.int p4), .val (.int p5), .val (.int z), .val (.int n6), .val (.ref b165), .val (.ref b189), .val (.int ec), .unset] [(.ref b197)])) _
      refine XS.astore XH222.here hx rfl (hb hby at_203) rfl rfl (l' := #[.val (.int p0), .val (.int p1), .val (.int p2), .val (.int p3), .val (.int p4), .val (.int p5), .val (.int z), .val (.int n6), .val (.ref b165), .val (.ref b189), .val (.int ec), .val (.ref b197)]) rfl ?_
      show Steps p.tables e below (T222.setTop (mkF m 205 #[.val (.int p0), .val (.int p1), .val (.int p2), .val (.int p3), .val (.int p4), .val (.int p5), .val (.int z), .val (.int n6), .val (.ref b165), .val (.ref b189), .val (.int ec), .val (.ref b197)] [])) _
      refine XS.aload XH222.here hx rfl (hb hby at_205) rfl rfl ?_
      show Steps p.tables e below (T222.setTop (mkF m 207 #[.val (.int p0), .val (.int p1), .val (.int p2), .val (.int p3), .val (.int p4), .val (.int p5), .val (.int z), .val (.int n6), .val (.ref b165), .val (.ref b189), .val (.int ec), .val (.ref b197)] [(.ref b197)])) _
      obtain ⟨clq224, Arq224, -, Sq224, Nq224, -, -⟩ := id Vx200
      refine XH222.arraylength hx (by rw [eq222]; exact Arq224.1) (State.isArrayOf_alike hZ.alike Arq224.2.1) (g := (mkF m 207 #[.val (.int p0), .val (.int p1), .val (.int p2), .val (.int p3), .val (.int p4), .val (.int p5), .val (.int z), .val (.int n6), .val (.ref b165), .val (.ref b189), .val (.int ec), .val (.ref b197)] [(.ref b197)])) rfl rfl (hb hby at_207) _ ?_
      rw [len_of Sq224 Nq224]
      show Steps p.tables e below (T222.setTop (mkF m 208 #[.val (.int p0), .val (.int p1), .val (.int p2), .val (.int p3), .val (.int p4), .val (.int p5), .val (.int z), .val (.int n6), .val (.ref b165), .val (.ref b189), .val (.int ec), .val (.ref b197)] [(.int z)])) _
      refine XS.iload XH222.here hx rfl (hb hby at_208) rfl ?_
      show Steps p.tables e below (T222.setTop (mkF m 210 #[.val (.int p0), .val (.int p1), .val (.int p2), .val (.int p3), .val (.int p4), .val (.int p5), .val (.int z), .val (.int n6), .val (.ref b165), .val (.ref b189), .val (.int ec), .val (.ref b197)] [(.int ec), (.int z)])) _
      refine XS.icmpYes XH222.here hx rfl (pc0 := 210) (pc' := 215) rfl (hb hby at_210) rfl (teq (by rw [hec, hn]; rcases hz with rfl | rfl | rfl | rfl <;> decide)).1 (by decide) (by decide) ?_
      show Steps p.tables e below (T222.setTop (mkF m 215 #[.val (.int p0), .val (.int p1), .val (.int p2), .val (.int p3), .val (.int p4), .val (.int p5), .val (.int z), .val (.int n6), .val (.ref b165), .val (.ref b189), .val (.int ec), .val (.ref b197)] [])) _
      refine XS.aload XH222.here hx rfl (hb hby at_215) rfl rfl ?_
      show Steps p.tables e below (T222.setTop (mkF m 217 #[.val (.int p0), .val (.int p1), .val (.int p2), .val (.int p3), .val (.int p4), .val (.int p5), .val (.int z), .val (.int n6), .val (.ref b165), .val (.ref b189), .val (.int ec), .val (.ref b197)] [(.ref b197)])) _
      refine XS.aload XH222.here hx rfl (hb hby at_217) rfl rfl ?_
      show Steps p.tables e below (T222.setTop (mkF m 219 #[.val (.int p0), .val (.int p1), .val (.int p2), .val (.int p3), .val (.int p4), .val (.int p5), .val (.int z), .val (.int n6), .val (.ref b165), .val (.ref b189), .val (.int ec), .val (.ref b197)] [(.ref b165), (.ref b197)])) _
      refine XS.iload XH222.here hx rfl (hb hby at_219) rfl ?_
      show Steps p.tables e below (T222.setTop (mkF m 221 #[.val (.int p0), .val (.int p1), .val (.int p2), .val (.int p3), .val (.int p4), .val (.int p5), .val (.int z), .val (.int n6), .val (.ref b165), .val (.ref b189), .val (.int ec), .val (.ref b197)] [(.int n6), (.ref b165), (.ref b197)])) _
      refine XS.iconst XH222.here hx rfl (hb hby at_221) ?_
      exact k)
    obtain ⟨_, _, ⟨T226, L226, kc226, ks226⟩, -, X226, ⟨Lc226, hQ226, l226, y226, z226⟩, st226⟩ := Jvm.LawKit.callS XH222 hx (y := (⟨"com/example/wegweiser/wegweiser/index/ByteSinkWritePinLaw", "at", "([B[III)Z"⟩ : MethodName)) hown (mvT hZ (hw _ (List.mem_of_getElem? (i := 53) rfl))) (mvT hZ (hw _ (List.mem_of_getElem? (i := 54) rfl))) (mvT hZ (hw _ (List.mem_of_getElem? (i := 55) rfl))) (mvT hZ (hw _ (List.mem_of_getElem? (i := 56) rfl))) (by decide) (backOf (W := 0) (rm10 l Z a0 hw [] b197 b165 n6 (0 : Int32) kb200 z [] c165 [(.int p2), (.int p3), (.int p4), (.int p5), (.int (p2 ^^^ p4))] (0 : Int32) p2 T200.heap n0 Z201 Vx200 F202 (by decide) rfl (fun _ => ⟨⟨by decide, by decide⟩, rfl⟩) (fun h => absurd h (by rw [hn]; decide)) (fun _ => rfl)) hZ (hw _ (List.mem_of_getElem? (i := 56) rfl)) (hw _ (List.mem_of_getElem? (i := 55) rfl)) (by decide) (by decide)) (g := (mkF m 222 #[.val (.int p0), .val (.int p1), .val (.int p2), .val (.int p3), .val (.int p4), .val (.int p5), .val (.int z), .val (.int n6), .val (.ref b165), .val (.ref b189), .val (.int ec), .val (.ref b197)] [(.int (0 : Int32)), (.int n6), (.ref b165), (.ref b197)])) rfl (by rw [hml]; rfl) (argsL := [(.ref b197), (.ref b165), (.int n6), (.int (0 : Int32))]) (rest := []) (lenOf pd_6 rfl) rfl (by show 2 * 0 + _ ≤ _; exact Nat.le_of_eq rfl) (hb hby at_222) (fun _ _ => ⟨rfl, eq222, (by decide : 3 + 0 ≤ _), (by decide : 11 + 0 ≤ _)⟩)
    dsimp only [Pt.U, Pt.locs, Pt.cells, Pt.slots] at X226 l226 y226 z226 st226 hQ226
    subst l226 y226 z226
    obtain ⟨rfl, Nq226, eq226⟩ := hQ226
    have N226 := Fr.app NH222 Nq226
    obtain ⟨LH226, XH226, NH226⟩ := own_hide X226 N226
    clear X226 N226
    have k227 : ∀ t, Steps p.tables e below (T226.setTop (mkF m 225 #[.val (.int p0), .val (.int p1), .val (.int p2), .val (.int p3), .val (.int p4), .val (.int p5), .val (.int z), .val (.int n6), .val (.ref b165), .val (.ref b189), .val (.int ec), .val (.ref b197)] [(.int (1 : Int32))])) t → Steps p.tables e below (s₁.setTop (entryFrame m #[(.int p0), (.int p1), (.int p2), (.int p3), (.int p4), (.int p5)] maxLocals)) t := fun t k => k225 t (st226 t k)
    have k228 : ∀ t, Steps p.tables e below (T226.setTop (mkF m 235 #[.val (.int p0), .val (.int p1), .val (.int p2), .val (.int p3), .val (.int p4), .val (.int p5), .val (.int z), .val (.int n6), .val (.ref b165), .val (.ref b189), .val (.int ec), .val (.ref b197)] [(.int (1 : Int32)), (.int n6), (.ref b165), (.ref b197)])) t → Steps p.tables e below (s₁.setTop (entryFrame m #[(.int p0), (.int p1), (.int p2), (.int p3), (.int p4), (.int p5)] maxLocals)) t := fun t k => k227 t (by
      show Steps p.tables e below (T226.setTop (mkF m 225 #[.val (.int p0), .val (.int p1), .val (.int p2), .val (.int p3), .val (.int p4), .val (.int p5), .val (.int z), .val (.int n6), .val (.ref b165), .val (.ref b189), .val (.int ec), .val (.ref b197)] [(.int (1 : Int32))])) _
      refine XS.ifNo XH226.here hx rfl (hb hby at_225) rfl ((if0 _ _).trans (feq (by decide : ¬ ((1 : Int32) = (0 : Int32)))).1) ?_
      show Steps p.tables e below (T226.setTop (mkF m 228 #[.val (.int p0), .val (.int p1), .val (.int p2), .val (.int p3), .val (.int p4), .val (.int p5), .val (.int z), .val (.int n6), .val (.ref b165), .val (.ref b189), .val (.int ec), .val (.ref b197)] [])) _
      refine XS.aload XH226.here hx rfl (hb hby at_228) rfl rfl ?_
      show Steps p.tables e below (T226.setTop (mkF m 230 #[.val (.int p0), .val (.int p1), .val (.int p2), .val (.int p3), .val (.int p4), .val (.int p5), .val (.int z), .val (.int n6), .val (.ref b165), .val (.ref b189), .val (.int ec), .val (.ref b197)] [(.ref b197)])) _
      refine XS.aload XH226.here hx rfl (hb hby at_230) rfl rfl ?_
      show Steps p.tables e below (T226.setTop (mkF m 232 #[.val (.int p0), .val (.int p1), .val (.int p2), .val (.int p3), .val (.int p4), .val (.int p5), .val (.int z), .val (.int n6), .val (.ref b165), .val (.ref b189), .val (.int ec), .val (.ref b197)] [(.ref b165), (.ref b197)])) _
      refine XS.iload XH226.here hx rfl (hb hby at_232) rfl ?_
      show Steps p.tables e below (T226.setTop (mkF m 234 #[.val (.int p0), .val (.int p1), .val (.int p2), .val (.int p3), .val (.int p4), .val (.int p5), .val (.int z), .val (.int n6), .val (.ref b165), .val (.ref b189), .val (.int ec), .val (.ref b197)] [(.int n6), (.ref b165), (.ref b197)])) _
      refine XS.iconst XH226.here hx rfl (hb hby at_234) ?_
      exact k)
    obtain ⟨_, _, ⟨T229, L229, kc229, ks229⟩, -, X229, ⟨Lc229, hQ229, l229, y229, z229⟩, st229⟩ := Jvm.LawKit.callS XH226 hx (y := (⟨"com/example/wegweiser/wegweiser/index/ByteSinkWritePinLaw", "at", "([B[III)Z"⟩ : MethodName)) hown (mvT hZ (hw _ (List.mem_of_getElem? (i := 53) rfl))) (mvT hZ (hw _ (List.mem_of_getElem? (i := 54) rfl))) (mvT hZ (hw _ (List.mem_of_getElem? (i := 55) rfl))) (mvT hZ (hw _ (List.mem_of_getElem? (i := 56) rfl))) (by decide) (backOf (W := 0) (rm10 l Z a0 hw [] b197 b165 n6 (1 : Int32) kb200 z [] c165 [(.int p2), (.int p3), (.int p4), (.int p5), (.int (p2 ^^^ p4))] (0 : Int32) p3 T200.heap n0 Z201 Vx200 F202 (by decide) rfl (fun _ => ⟨⟨by decide, by decide⟩, rfl⟩) (fun h => absurd h (by rw [hn]; decide)) (fun _ => rfl)) hZ (hw _ (List.mem_of_getElem? (i := 56) rfl)) (hw _ (List.mem_of_getElem? (i := 55) rfl)) (by decide) (by decide)) (g := (mkF m 235 #[.val (.int p0), .val (.int p1), .val (.int p2), .val (.int p3), .val (.int p4), .val (.int p5), .val (.int z), .val (.int n6), .val (.ref b165), .val (.ref b189), .val (.int ec), .val (.ref b197)] [(.int (1 : Int32)), (.int n6), (.ref b165), (.ref b197)])) rfl (by rw [hml]; rfl) (argsL := [(.ref b197), (.ref b165), (.int n6), (.int (1 : Int32))]) (rest := []) (lenOf pd_6 rfl) rfl (by show 2 * 0 + _ ≤ _; exact Nat.le_of_eq rfl) (hb hby at_235) (fun _ _ => ⟨rfl, eq226, (by decide : 3 + 0 ≤ _), (by decide : 11 + 0 ≤ _)⟩)
    dsimp only [Pt.U, Pt.locs, Pt.cells, Pt.slots] at X229 l229 y229 z229 st229 hQ229
    subst l229 y229 z229
    obtain ⟨rfl, Nq229, eq229⟩ := hQ229
    have N229 := Fr.app NH226 Nq229
    obtain ⟨LH229, XH229, NH229⟩ := own_hide X229 N229
    clear X229 N229
    have k230 : ∀ t, Steps p.tables e below (T229.setTop (mkF m 238 #[.val (.int p0), .val (.int p1), .val (.int p2), .val (.int p3), .val (.int p4), .val (.int p5), .val (.int z), .val (.int n6), .val (.ref b165), .val (.ref b189), .val (.int ec), .val (.ref b197)] [(.int (1 : Int32))])) t → Steps p.tables e below (s₁.setTop (entryFrame m #[(.int p0), (.int p1), (.int p2), (.int p3), (.int p4), (.int p5)] maxLocals)) t := fun t k => k228 t (st229 t k)
    have k231 : ∀ t, Steps p.tables e below (T229.setTop (mkF m 248 #[.val (.int p0), .val (.int p1), .val (.int p2), .val (.int p3), .val (.int p4), .val (.int p5), .val (.int z), .val (.int n6), .val (.ref b165), .val (.ref b189), .val (.int ec), .val (.ref b197)] [(.int (2 : Int32)), (.int n6), (.ref b165), (.ref b197)])) t → Steps p.tables e below (s₁.setTop (entryFrame m #[(.int p0), (.int p1), (.int p2), (.int p3), (.int p4), (.int p5)] maxLocals)) t := fun t k => k230 t (by
      show Steps p.tables e below (T229.setTop (mkF m 238 #[.val (.int p0), .val (.int p1), .val (.int p2), .val (.int p3), .val (.int p4), .val (.int p5), .val (.int z), .val (.int n6), .val (.ref b165), .val (.ref b189), .val (.int ec), .val (.ref b197)] [(.int (1 : Int32))])) _
      refine XS.ifNo XH229.here hx rfl (hb hby at_238) rfl ((if0 _ _).trans (feq (by decide : ¬ ((1 : Int32) = (0 : Int32)))).1) ?_
      show Steps p.tables e below (T229.setTop (mkF m 241 #[.val (.int p0), .val (.int p1), .val (.int p2), .val (.int p3), .val (.int p4), .val (.int p5), .val (.int z), .val (.int n6), .val (.ref b165), .val (.ref b189), .val (.int ec), .val (.ref b197)] [])) _
      refine XS.aload XH229.here hx rfl (hb hby at_241) rfl rfl ?_
      show Steps p.tables e below (T229.setTop (mkF m 243 #[.val (.int p0), .val (.int p1), .val (.int p2), .val (.int p3), .val (.int p4), .val (.int p5), .val (.int z), .val (.int n6), .val (.ref b165), .val (.ref b189), .val (.int ec), .val (.ref b197)] [(.ref b197)])) _
      refine XS.aload XH229.here hx rfl (hb hby at_243) rfl rfl ?_
      show Steps p.tables e below (T229.setTop (mkF m 245 #[.val (.int p0), .val (.int p1), .val (.int p2), .val (.int p3), .val (.int p4), .val (.int p5), .val (.int z), .val (.int n6), .val (.ref b165), .val (.ref b189), .val (.int ec), .val (.ref b197)] [(.ref b165), (.ref b197)])) _
      refine XS.iload XH229.here hx rfl (hb hby at_245) rfl ?_
      show Steps p.tables e below (T229.setTop (mkF m 247 #[.val (.int p0), .val (.int p1), .val (.int p2), .val (.int p3), .val (.int p4), .val (.int p5), .val (.int z), .val (.int n6), .val (.ref b165), .val (.ref b189), .val (.int ec), .val (.ref b197)] [(.int n6), (.ref b165), (.ref b197)])) _
      refine XS.iconst XH229.here hx rfl (hb hby at_247) ?_
      exact k)
    obtain ⟨_, _, ⟨T232, L232, kc232, ks232⟩, -, X232, ⟨Lc232, hQ232, l232, y232, z232⟩, st232⟩ := Jvm.LawKit.callS XH229 hx (y := (⟨"com/example/wegweiser/wegweiser/index/ByteSinkWritePinLaw", "at", "([B[III)Z"⟩ : MethodName)) hown (mvT hZ (hw _ (List.mem_of_getElem? (i := 53) rfl))) (mvT hZ (hw _ (List.mem_of_getElem? (i := 54) rfl))) (mvT hZ (hw _ (List.mem_of_getElem? (i := 55) rfl))) (mvT hZ (hw _ (List.mem_of_getElem? (i := 56) rfl))) (by decide) (backOf (W := 0) (rm10 l Z a0 hw [] b197 b165 n6 (2 : Int32) kb200 z [] c165 [(.int p2), (.int p3), (.int p4), (.int p5), (.int (p2 ^^^ p4))] (0 : Int32) p4 T200.heap n0 Z201 Vx200 F202 (by decide) rfl (fun _ => ⟨⟨by decide, by decide⟩, rfl⟩) (fun h => absurd h (by rw [hn]; decide)) (fun _ => rfl)) hZ (hw _ (List.mem_of_getElem? (i := 56) rfl)) (hw _ (List.mem_of_getElem? (i := 55) rfl)) (by decide) (by decide)) (g := (mkF m 248 #[.val (.int p0), .val (.int p1), .val (.int p2), .val (.int p3), .val (.int p4), .val (.int p5), .val (.int z), .val (.int n6), .val (.ref b165), .val (.ref b189), .val (.int ec), .val (.ref b197)] [(.int (2 : Int32)), (.int n6), (.ref b165), (.ref b197)])) rfl (by rw [hml]; rfl) (argsL := [(.ref b197), (.ref b165), (.int n6), (.int (2 : Int32))]) (rest := []) (lenOf pd_6 rfl) rfl (by show 2 * 0 + _ ≤ _; exact Nat.le_of_eq rfl) (hb hby at_248) (fun _ _ => ⟨rfl, eq229, (by decide : 3 + 0 ≤ _), (by decide : 11 + 0 ≤ _)⟩)
    dsimp only [Pt.U, Pt.locs, Pt.cells, Pt.slots] at X232 l232 y232 z232 st232 hQ232
    subst l232 y232 z232
    obtain ⟨rfl, Nq232, eq232⟩ := hQ232
    have N232 := Fr.app NH229 Nq232
    obtain ⟨LH232, XH232, NH232⟩ := own_hide X232 N232
    clear X232 N232
    have k233 : ∀ t, Steps p.tables e below (T232.setTop (mkF m 251 #[.val (.int p0), .val (.int p1), .val (.int p2), .val (.int p3), .val (.int p4), .val (.int p5), .val (.int z), .val (.int n6), .val (.ref b165), .val (.ref b189), .val (.int ec), .val (.ref b197)] [(.int (1 : Int32))])) t → Steps p.tables e below (s₁.setTop (entryFrame m #[(.int p0), (.int p1), (.int p2), (.int p3), (.int p4), (.int p5)] maxLocals)) t := fun t k => k231 t (st232 t k)
    have k234 : ∀ t, Steps p.tables e below (T232.setTop (mkF m 261 #[.val (.int p0), .val (.int p1), .val (.int p2), .val (.int p3), .val (.int p4), .val (.int p5), .val (.int z), .val (.int n6), .val (.ref b165), .val (.ref b189), .val (.int ec), .val (.ref b197)] [(.int (3 : Int32)), (.int n6), (.ref b165), (.ref b197)])) t → Steps p.tables e below (s₁.setTop (entryFrame m #[(.int p0), (.int p1), (.int p2), (.int p3), (.int p4), (.int p5)] maxLocals)) t := fun t k => k233 t (by
      show Steps p.tables e below (T232.setTop (mkF m 251 #[.val (.int p0), .val (.int p1), .val (.int p2), .val (.int p3), .val (.int p4), .val (.int p5), .val (.int z), .val (.int n6), .val (.ref b165), .val (.ref b189), .val (.int ec), .val (.ref b197)] [(.int (1 : Int32))])) _
      refine XS.ifNo XH232.here hx rfl (hb hby at_251) rfl ((if0 _ _).trans (feq (by decide : ¬ ((1 : Int32) = (0 : Int32)))).1) ?_
      show Steps p.tables e below (T232.setTop (mkF m 254 #[.val (.int p0), .val (.int p1), .val (.int p2), .val (.int p3), .val (.int p4), .val (.int p5), .val (.int z), .val (.int n6), .val (.ref b165), .val (.ref b189), .val (.int ec), .val (.ref b197)] [])) _
      refine XS.aload XH232.here hx rfl (hb hby at_254) rfl rfl ?_
      show Steps p.tables e below (T232.setTop (mkF m 256 #[.val (.int p0), .val (.int p1), .val (.int p2), .val (.int p3), .val (.int p4), .val (.int p5), .val (.int z), .val (.int n6), .val (.ref b165), .val (.ref b189), .val (.int ec), .val (.ref b197)] [(.ref b197)])) _
      refine XS.aload XH232.here hx rfl (hb hby at_256) rfl rfl ?_
      show Steps p.tables e below (T232.setTop (mkF m 258 #[.val (.int p0), .val (.int p1), .val (.int p2), .val (.int p3), .val (.int p4), .val (.int p5), .val (.int z), .val (.int n6), .val (.ref b165), .val (.ref b189), .val (.int ec), .val (.ref b197)] [(.ref b165), (.ref b197)])) _
      refine XS.iload XH232.here hx rfl (hb hby at_258) rfl ?_
      show Steps p.tables e below (T232.setTop (mkF m 260 #[.val (.int p0), .val (.int p1), .val (.int p2), .val (.int p3), .val (.int p4), .val (.int p5), .val (.int z), .val (.int n6), .val (.ref b165), .val (.ref b189), .val (.int ec), .val (.ref b197)] [(.int n6), (.ref b165), (.ref b197)])) _
      refine XS.iconst XH232.here hx rfl (hb hby at_260) ?_
      exact k)
    obtain ⟨_, _, ⟨T235, L235, kc235, ks235⟩, -, X235, ⟨Lc235, hQ235, l235, y235, z235⟩, st235⟩ := Jvm.LawKit.callS XH232 hx (y := (⟨"com/example/wegweiser/wegweiser/index/ByteSinkWritePinLaw", "at", "([B[III)Z"⟩ : MethodName)) hown (mvT hZ (hw _ (List.mem_of_getElem? (i := 53) rfl))) (mvT hZ (hw _ (List.mem_of_getElem? (i := 54) rfl))) (mvT hZ (hw _ (List.mem_of_getElem? (i := 55) rfl))) (mvT hZ (hw _ (List.mem_of_getElem? (i := 56) rfl))) (by decide) (backOf (W := 0) (rm10 l Z a0 hw [] b197 b165 n6 (3 : Int32) kb200 z [] c165 [(.int p2), (.int p3), (.int p4), (.int p5), (.int (p2 ^^^ p4))] (0 : Int32) p5 T200.heap n0 Z201 Vx200 F202 (by decide) rfl (fun _ => ⟨⟨by decide, by decide⟩, rfl⟩) (fun h => absurd h (by rw [hn]; decide)) (fun _ => rfl)) hZ (hw _ (List.mem_of_getElem? (i := 56) rfl)) (hw _ (List.mem_of_getElem? (i := 55) rfl)) (by decide) (by decide)) (g := (mkF m 261 #[.val (.int p0), .val (.int p1), .val (.int p2), .val (.int p3), .val (.int p4), .val (.int p5), .val (.int z), .val (.int n6), .val (.ref b165), .val (.ref b189), .val (.int ec), .val (.ref b197)] [(.int (3 : Int32)), (.int n6), (.ref b165), (.ref b197)])) rfl (by rw [hml]; rfl) (argsL := [(.ref b197), (.ref b165), (.int n6), (.int (3 : Int32))]) (rest := []) (lenOf pd_6 rfl) rfl (by show 2 * 0 + _ ≤ _; exact Nat.le_of_eq rfl) (hb hby at_261) (fun _ _ => ⟨rfl, eq232, (by decide : 3 + 0 ≤ _), (by decide : 11 + 0 ≤ _)⟩)
    dsimp only [Pt.U, Pt.locs, Pt.cells, Pt.slots] at X235 l235 y235 z235 st235 hQ235
    subst l235 y235 z235
    obtain ⟨rfl, Nq235, eq235⟩ := hQ235
    have N235 := Fr.app NH232 Nq235
    obtain ⟨LH235, XH235, NH235⟩ := own_hide X235 N235
    clear X235 N235
    have k236 : ∀ t, Steps p.tables e below (T235.setTop (mkF m 264 #[.val (.int p0), .val (.int p1), .val (.int p2), .val (.int p3), .val (.int p4), .val (.int p5), .val (.int z), .val (.int n6), .val (.ref b165), .val (.ref b189), .val (.int ec), .val (.ref b197)] [(.int (1 : Int32))])) t → Steps p.tables e below (s₁.setTop (entryFrame m #[(.int p0), (.int p1), (.int p2), (.int p3), (.int p4), (.int p5)] maxLocals)) t := fun t k => k234 t (st235 t k)
    have k237 : ∀ t, Steps p.tables e below (T235.setTop (mkF m 274 #[.val (.int p0), .val (.int p1), .val (.int p2), .val (.int p3), .val (.int p4), .val (.int p5), .val (.int z), .val (.int n6), .val (.ref b165), .val (.ref b189), .val (.int ec), .val (.ref b197)] [(.int (4 : Int32)), (.int n6), (.ref b165), (.ref b197)])) t → Steps p.tables e below (s₁.setTop (entryFrame m #[(.int p0), (.int p1), (.int p2), (.int p3), (.int p4), (.int p5)] maxLocals)) t := fun t k => k236 t (by
      show Steps p.tables e below (T235.setTop (mkF m 264 #[.val (.int p0), .val (.int p1), .val (.int p2), .val (.int p3), .val (.int p4), .val (.int p5), .val (.int z), .val (.int n6), .val (.ref b165), .val (.ref b189), .val (.int ec), .val (.ref b197)] [(.int (1 : Int32))])) _
      refine XS.ifNo XH235.here hx rfl (hb hby at_264) rfl ((if0 _ _).trans (feq (by decide : ¬ ((1 : Int32) = (0 : Int32)))).1) ?_
      show Steps p.tables e below (T235.setTop (mkF m 267 #[.val (.int p0), .val (.int p1), .val (.int p2), .val (.int p3), .val (.int p4), .val (.int p5), .val (.int z), .val (.int n6), .val (.ref b165), .val (.ref b189), .val (.int ec), .val (.ref b197)] [])) _
      refine XS.aload XH235.here hx rfl (hb hby at_267) rfl rfl ?_
      show Steps p.tables e below (T235.setTop (mkF m 269 #[.val (.int p0), .val (.int p1), .val (.int p2), .val (.int p3), .val (.int p4), .val (.int p5), .val (.int z), .val (.int n6), .val (.ref b165), .val (.ref b189), .val (.int ec), .val (.ref b197)] [(.ref b197)])) _
      refine XS.aload XH235.here hx rfl (hb hby at_269) rfl rfl ?_
      show Steps p.tables e below (T235.setTop (mkF m 271 #[.val (.int p0), .val (.int p1), .val (.int p2), .val (.int p3), .val (.int p4), .val (.int p5), .val (.int z), .val (.int n6), .val (.ref b165), .val (.ref b189), .val (.int ec), .val (.ref b197)] [(.ref b165), (.ref b197)])) _
      refine XS.iload XH235.here hx rfl (hb hby at_271) rfl ?_
      show Steps p.tables e below (T235.setTop (mkF m 273 #[.val (.int p0), .val (.int p1), .val (.int p2), .val (.int p3), .val (.int p4), .val (.int p5), .val (.int z), .val (.int n6), .val (.ref b165), .val (.ref b189), .val (.int ec), .val (.ref b197)] [(.int n6), (.ref b165), (.ref b197)])) _
      refine XS.iconst XH235.here hx rfl (hb hby at_273) ?_
      exact k)
    obtain ⟨_, _, ⟨T238, L238, kc238, ks238⟩, -, X238, ⟨Lc238, hQ238, l238, y238, z238⟩, st238⟩ := Jvm.LawKit.callS XH235 hx (y := (⟨"com/example/wegweiser/wegweiser/index/ByteSinkWritePinLaw", "at", "([B[III)Z"⟩ : MethodName)) hown (mvT hZ (hw _ (List.mem_of_getElem? (i := 53) rfl))) (mvT hZ (hw _ (List.mem_of_getElem? (i := 54) rfl))) (mvT hZ (hw _ (List.mem_of_getElem? (i := 55) rfl))) (mvT hZ (hw _ (List.mem_of_getElem? (i := 56) rfl))) (by decide) (backOf (W := 0) (rm10 l Z a0 hw [] b197 b165 n6 (4 : Int32) kb200 z [] c165 [(.int p2), (.int p3), (.int p4), (.int p5), (.int (p2 ^^^ p4))] (0 : Int32) (p2 ^^^ p4) T200.heap n0 Z201 Vx200 F202 (by decide) rfl (fun _ => ⟨⟨by decide, by decide⟩, rfl⟩) (fun h => absurd h (by rw [hn]; decide)) (fun _ => rfl)) hZ (hw _ (List.mem_of_getElem? (i := 56) rfl)) (hw _ (List.mem_of_getElem? (i := 55) rfl)) (by decide) (by decide)) (g := (mkF m 274 #[.val (.int p0), .val (.int p1), .val (.int p2), .val (.int p3), .val (.int p4), .val (.int p5), .val (.int z), .val (.int n6), .val (.ref b165), .val (.ref b189), .val (.int ec), .val (.ref b197)] [(.int (4 : Int32)), (.int n6), (.ref b165), (.ref b197)])) rfl (by rw [hml]; rfl) (argsL := [(.ref b197), (.ref b165), (.int n6), (.int (4 : Int32))]) (rest := []) (lenOf pd_6 rfl) rfl (by show 2 * 0 + _ ≤ _; exact Nat.le_of_eq rfl) (hb hby at_274) (fun _ _ => ⟨rfl, eq235, (by decide : 3 + 0 ≤ _), (by decide : 11 + 0 ≤ _)⟩)
    dsimp only [Pt.U, Pt.locs, Pt.cells, Pt.slots] at X238 l238 y238 z238 st238 hQ238
    subst l238 y238 z238
    obtain ⟨rfl, Nq238, eq238⟩ := hQ238
    have N238 := Fr.app NH235 Nq238
    obtain ⟨LH238, XH238, NH238⟩ := own_hide X238 N238
    clear X238 N238
    have k239 : ∀ t, Steps p.tables e below (T238.setTop (mkF m 277 #[.val (.int p0), .val (.int p1), .val (.int p2), .val (.int p3), .val (.int p4), .val (.int p5), .val (.int z), .val (.int n6), .val (.ref b165), .val (.ref b189), .val (.int ec), .val (.ref b197)] [(.int (1 : Int32))])) t → Steps p.tables e below (s₁.setTop (entryFrame m #[(.int p0), (.int p1), (.int p2), (.int p3), (.int p4), (.int p5)] maxLocals)) t := fun t k => k237 t (st238 t k)
    have k240 : ∀ t, Steps p.tables e below (T238.setTop (mkF m 287 #[.val (.int p0), .val (.int p1), .val (.int p2), .val (.int p3), .val (.int p4), .val (.int p5), .val (.int z), .val (.int n6), .val (.ref b165), .val (.ref b189), .val (.int ec), .val (.ref b197)] [(.int (5 : Int32)), (.int n6), (.ref b165), (.ref b197)])) t → Steps p.tables e below (s₁.setTop (entryFrame m #[(.int p0), (.int p1), (.int p2), (.int p3), (.int p4), (.int p5)] maxLocals)) t := fun t k => k239 t (by
      show Steps p.tables e below (T238.setTop (mkF m 277 #[.val (.int p0), .val (.int p1), .val (.int p2), .val (.int p3), .val (.int p4), .val (.int p5), .val (.int z), .val (.int n6), .val (.ref b165), .val (.ref b189), .val (.int ec), .val (.ref b197)] [(.int (1 : Int32))])) _
      refine XS.ifNo XH238.here hx rfl (hb hby at_277) rfl ((if0 _ _).trans (feq (by decide : ¬ ((1 : Int32) = (0 : Int32)))).1) ?_
      show Steps p.tables e below (T238.setTop (mkF m 280 #[.val (.int p0), .val (.int p1), .val (.int p2), .val (.int p3), .val (.int p4), .val (.int p5), .val (.int z), .val (.int n6), .val (.ref b165), .val (.ref b189), .val (.int ec), .val (.ref b197)] [])) _
      refine XS.aload XH238.here hx rfl (hb hby at_280) rfl rfl ?_
      show Steps p.tables e below (T238.setTop (mkF m 282 #[.val (.int p0), .val (.int p1), .val (.int p2), .val (.int p3), .val (.int p4), .val (.int p5), .val (.int z), .val (.int n6), .val (.ref b165), .val (.ref b189), .val (.int ec), .val (.ref b197)] [(.ref b197)])) _
      refine XS.aload XH238.here hx rfl (hb hby at_282) rfl rfl ?_
      show Steps p.tables e below (T238.setTop (mkF m 284 #[.val (.int p0), .val (.int p1), .val (.int p2), .val (.int p3), .val (.int p4), .val (.int p5), .val (.int z), .val (.int n6), .val (.ref b165), .val (.ref b189), .val (.int ec), .val (.ref b197)] [(.ref b165), (.ref b197)])) _
      refine XS.iload XH238.here hx rfl (hb hby at_284) rfl ?_
      show Steps p.tables e below (T238.setTop (mkF m 286 #[.val (.int p0), .val (.int p1), .val (.int p2), .val (.int p3), .val (.int p4), .val (.int p5), .val (.int z), .val (.int n6), .val (.ref b165), .val (.ref b189), .val (.int ec), .val (.ref b197)] [(.int n6), (.ref b165), (.ref b197)])) _
      refine XS.iconst XH238.here hx rfl (hb hby at_286) ?_
      exact k)
    obtain ⟨_, _, ⟨T241, L241, kc241, ks241⟩, -, X241, ⟨Lc241, hQ241, l241, y241, z241⟩, st241⟩ := Jvm.LawKit.callS XH238 hx (y := (⟨"com/example/wegweiser/wegweiser/index/ByteSinkWritePinLaw", "at", "([B[III)Z"⟩ : MethodName)) hown (mvT hZ (hw _ (List.mem_of_getElem? (i := 53) rfl))) (mvT hZ (hw _ (List.mem_of_getElem? (i := 54) rfl))) (mvT hZ (hw _ (List.mem_of_getElem? (i := 55) rfl))) (mvT hZ (hw _ (List.mem_of_getElem? (i := 56) rfl))) (by decide) (backOf (W := 0) (rm10 l Z a0 hw [] b197 b165 n6 (5 : Int32) kb200 z [] c165 [(.int p2), (.int p3), (.int p4), (.int p5), (.int (p2 ^^^ p4))] (0 : Int32) (0 : Int32) T200.heap n0 Z201 Vx200 F202 (by decide) rfl (fun h => absurd h (by rw [hn]; decide)) (fun h => absurd h (by rw [hn]; decide)) (fun _ => rfl)) hZ (hw _ (List.mem_of_getElem? (i := 56) rfl)) (hw _ (List.mem_of_getElem? (i := 55) rfl)) (by decide) (by decide)) (g := (mkF m 287 #[.val (.int p0), .val (.int p1), .val (.int p2), .val (.int p3), .val (.int p4), .val (.int p5), .val (.int z), .val (.int n6), .val (.ref b165), .val (.ref b189), .val (.int ec), .val (.ref b197)] [(.int (5 : Int32)), (.int n6), (.ref b165), (.ref b197)])) rfl (by rw [hml]; rfl) (argsL := [(.ref b197), (.ref b165), (.int n6), (.int (5 : Int32))]) (rest := []) (lenOf pd_6 rfl) rfl (by show 2 * 0 + _ ≤ _; exact Nat.le_of_eq rfl) (hb hby at_287) (fun _ _ => ⟨rfl, eq238, (by decide : 3 + 0 ≤ _), (by decide : 11 + 0 ≤ _)⟩)
    dsimp only [Pt.U, Pt.locs, Pt.cells, Pt.slots] at X241 l241 y241 z241 st241 hQ241
    subst l241 y241 z241
    obtain ⟨rfl, Nq241, eq241⟩ := hQ241
    have N241 := Fr.app NH238 Nq241
    obtain ⟨LH241, XH241, NH241⟩ := own_hide X241 N241
    clear X241 N241
    have k242 : ∀ t, Steps p.tables e below (T241.setTop (mkF m 290 #[.val (.int p0), .val (.int p1), .val (.int p2), .val (.int p3), .val (.int p4), .val (.int p5), .val (.int z), .val (.int n6), .val (.ref b165), .val (.ref b189), .val (.int ec), .val (.ref b197)] [(.int (1 : Int32))])) t → Steps p.tables e below (s₁.setTop (entryFrame m #[(.int p0), (.int p1), (.int p2), (.int p3), (.int p4), (.int p5)] maxLocals)) t := fun t k => k240 t (st241 t k)
    have k243 : ∀ t, Steps p.tables e below (T241.setTop (mkF m 301 #[.val (.int p0), .val (.int p1), .val (.int p2), .val (.int p3), .val (.int p4), .val (.int p5), .val (.int z), .val (.int n6), .val (.ref b165), .val (.ref b189), .val (.int ec), .val (.ref b197)] [(.int (6 : Int32)), (.int n6), (.ref b165), (.ref b197)])) t → Steps p.tables e below (s₁.setTop (entryFrame m #[(.int p0), (.int p1), (.int p2), (.int p3), (.int p4), (.int p5)] maxLocals)) t := fun t k => k242 t (by
      show Steps p.tables e below (T241.setTop (mkF m 290 #[.val (.int p0), .val (.int p1), .val (.int p2), .val (.int p3), .val (.int p4), .val (.int p5), .val (.int z), .val (.int n6), .val (.ref b165), .val (.ref b189), .val (.int ec), .val (.ref b197)] [(.int (1 : Int32))])) _
      refine XS.ifNo XH241.here hx rfl (hb hby at_290) rfl ((if0 _ _).trans (feq (by decide : ¬ ((1 : Int32) = (0 : Int32)))).1) ?_
      show Steps p.tables e below (T241.setTop (mkF m 293 #[.val (.int p0), .val (.int p1), .val (.int p2), .val (.int p3), .val (.int p4), .val (.int p5), .val (.int z), .val (.int n6), .val (.ref b165), .val (.ref b189), .val (.int ec), .val (.ref b197)] [])) _
      refine XS.aload XH241.here hx rfl (hb hby at_293) rfl rfl ?_
      show Steps p.tables e below (T241.setTop (mkF m 295 #[.val (.int p0), .val (.int p1), .val (.int p2), .val (.int p3), .val (.int p4), .val (.int p5), .val (.int z), .val (.int n6), .val (.ref b165), .val (.ref b189), .val (.int ec), .val (.ref b197)] [(.ref b197)])) _
      refine XS.aload XH241.here hx rfl (hb hby at_295) rfl rfl ?_
      show Steps p.tables e below (T241.setTop (mkF m 297 #[.val (.int p0), .val (.int p1), .val (.int p2), .val (.int p3), .val (.int p4), .val (.int p5), .val (.int z), .val (.int n6), .val (.ref b165), .val (.ref b189), .val (.int ec), .val (.ref b197)] [(.ref b165), (.ref b197)])) _
      refine XS.iload XH241.here hx rfl (hb hby at_297) rfl ?_
      show Steps p.tables e below (T241.setTop (mkF m 299 #[.val (.int p0), .val (.int p1), .val (.int p2), .val (.int p3), .val (.int p4), .val (.int p5), .val (.int z), .val (.int n6), .val (.ref b165), .val (.ref b189), .val (.int ec), .val (.ref b197)] [(.int n6), (.ref b165), (.ref b197)])) _
      refine XS.bipush XH241.here hx rfl (hb hby at_299) ?_
      exact k)
    obtain ⟨_, _, ⟨T244, L244, kc244, ks244⟩, -, X244, ⟨Lc244, hQ244, l244, y244, z244⟩, st244⟩ := Jvm.LawKit.callS XH241 hx (y := (⟨"com/example/wegweiser/wegweiser/index/ByteSinkWritePinLaw", "at", "([B[III)Z"⟩ : MethodName)) hown (mvT hZ (hw _ (List.mem_of_getElem? (i := 53) rfl))) (mvT hZ (hw _ (List.mem_of_getElem? (i := 54) rfl))) (mvT hZ (hw _ (List.mem_of_getElem? (i := 55) rfl))) (mvT hZ (hw _ (List.mem_of_getElem? (i := 56) rfl))) (by decide) (backOf (W := 0) (rm10 l Z a0 hw [] b197 b165 n6 (6 : Int32) kb200 z [] c165 [(.int p2), (.int p3), (.int p4), (.int p5), (.int (p2 ^^^ p4))] (0 : Int32) (0 : Int32) T200.heap n0 Z201 Vx200 F202 (by decide) rfl (fun h => absurd h (by rw [hn]; decide)) (fun h => absurd h (by rw [hn]; decide)) (fun _ => rfl)) hZ (hw _ (List.mem_of_getElem? (i := 56) rfl)) (hw _ (List.mem_of_getElem? (i := 55) rfl)) (by decide) (by decide)) (g := (mkF m 301 #[.val (.int p0), .val (.int p1), .val (.int p2), .val (.int p3), .val (.int p4), .val (.int p5), .val (.int z), .val (.int n6), .val (.ref b165), .val (.ref b189), .val (.int ec), .val (.ref b197)] [(.int (6 : Int32)), (.int n6), (.ref b165), (.ref b197)])) rfl (by rw [hml]; rfl) (argsL := [(.ref b197), (.ref b165), (.int n6), (.int (6 : Int32))]) (rest := []) (lenOf pd_6 rfl) rfl (by show 2 * 0 + _ ≤ _; exact Nat.le_of_eq rfl) (hb hby at_301) (fun _ _ => ⟨rfl, eq241, (by decide : 3 + 0 ≤ _), (by decide : 11 + 0 ≤ _)⟩)
    dsimp only [Pt.U, Pt.locs, Pt.cells, Pt.slots] at X244 l244 y244 z244 st244 hQ244
    subst l244 y244 z244
    obtain ⟨rfl, Nq244, eq244⟩ := hQ244
    have N244 := Fr.app NH241 Nq244
    obtain ⟨LH244, XH244, NH244⟩ := own_hide X244 N244
    clear X244 N244
    have k245 : ∀ t, Steps p.tables e below (T244.setTop (mkF m 304 #[.val (.int p0), .val (.int p1), .val (.int p2), .val (.int p3), .val (.int p4), .val (.int p5), .val (.int z), .val (.int n6), .val (.ref b165), .val (.ref b189), .val (.int ec), .val (.ref b197)] [(.int (1 : Int32))])) t → Steps p.tables e below (s₁.setTop (entryFrame m #[(.int p0), (.int p1), (.int p2), (.int p3), (.int p4), (.int p5)] maxLocals)) t := fun t k => k243 t (st244 t k)
    have k246 : ∀ t, Steps p.tables e below (T244.setTop (mkF m 315 #[.val (.int p0), .val (.int p1), .val (.int p2), .val (.int p3), .val (.int p4), .val (.int p5), .val (.int z), .val (.int n6), .val (.ref b165), .val (.ref b189), .val (.int ec), .val (.ref b197)] [(.int (7 : Int32)), (.int n6), (.ref b165), (.ref b197)])) t → Steps p.tables e below (s₁.setTop (entryFrame m #[(.int p0), (.int p1), (.int p2), (.int p3), (.int p4), (.int p5)] maxLocals)) t := fun t k => k245 t (by
      show Steps p.tables e below (T244.setTop (mkF m 304 #[.val (.int p0), .val (.int p1), .val (.int p2), .val (.int p3), .val (.int p4), .val (.int p5), .val (.int z), .val (.int n6), .val (.ref b165), .val (.ref b189), .val (.int ec), .val (.ref b197)] [(.int (1 : Int32))])) _
      refine XS.ifNo XH244.here hx rfl (hb hby at_304) rfl ((if0 _ _).trans (feq (by decide : ¬ ((1 : Int32) = (0 : Int32)))).1) ?_
      show Steps p.tables e below (T244.setTop (mkF m 307 #[.val (.int p0), .val (.int p1), .val (.int p2), .val (.int p3), .val (.int p4), .val (.int p5), .val (.int z), .val (.int n6), .val (.ref b165), .val (.ref b189), .val (.int ec), .val (.ref b197)] [])) _
      refine XS.aload XH244.here hx rfl (hb hby at_307) rfl rfl ?_
      show Steps p.tables e below (T244.setTop (mkF m 309 #[.val (.int p0), .val (.int p1), .val (.int p2), .val (.int p3), .val (.int p4), .val (.int p5), .val (.int z), .val (.int n6), .val (.ref b165), .val (.ref b189), .val (.int ec), .val (.ref b197)] [(.ref b197)])) _
      refine XS.aload XH244.here hx rfl (hb hby at_309) rfl rfl ?_
      show Steps p.tables e below (T244.setTop (mkF m 311 #[.val (.int p0), .val (.int p1), .val (.int p2), .val (.int p3), .val (.int p4), .val (.int p5), .val (.int z), .val (.int n6), .val (.ref b165), .val (.ref b189), .val (.int ec), .val (.ref b197)] [(.ref b165), (.ref b197)])) _
      refine XS.iload XH244.here hx rfl (hb hby at_311) rfl ?_
      show Steps p.tables e below (T244.setTop (mkF m 313 #[.val (.int p0), .val (.int p1), .val (.int p2), .val (.int p3), .val (.int p4), .val (.int p5), .val (.int z), .val (.int n6), .val (.ref b165), .val (.ref b189), .val (.int ec), .val (.ref b197)] [(.int n6), (.ref b165), (.ref b197)])) _
      refine XS.bipush XH244.here hx rfl (hb hby at_313) ?_
      exact k)
    obtain ⟨_, _, ⟨T247, L247, kc247, ks247⟩, -, X247, ⟨Lc247, hQ247, l247, y247, z247⟩, st247⟩ := Jvm.LawKit.callS XH244 hx (y := (⟨"com/example/wegweiser/wegweiser/index/ByteSinkWritePinLaw", "at", "([B[III)Z"⟩ : MethodName)) hown (mvT hZ (hw _ (List.mem_of_getElem? (i := 53) rfl))) (mvT hZ (hw _ (List.mem_of_getElem? (i := 54) rfl))) (mvT hZ (hw _ (List.mem_of_getElem? (i := 55) rfl))) (mvT hZ (hw _ (List.mem_of_getElem? (i := 56) rfl))) (by decide) (backOf (W := 0) (rm10 l Z a0 hw [] b197 b165 n6 (7 : Int32) kb200 z [] c165 [(.int p2), (.int p3), (.int p4), (.int p5), (.int (p2 ^^^ p4))] (0 : Int32) (0 : Int32) T200.heap n0 Z201 Vx200 F202 (by decide) rfl (fun h => absurd h (by rw [hn]; decide)) (fun h => absurd h (by rw [hn]; decide)) (fun _ => rfl)) hZ (hw _ (List.mem_of_getElem? (i := 56) rfl)) (hw _ (List.mem_of_getElem? (i := 55) rfl)) (by decide) (by decide)) (g := (mkF m 315 #[.val (.int p0), .val (.int p1), .val (.int p2), .val (.int p3), .val (.int p4), .val (.int p5), .val (.int z), .val (.int n6), .val (.ref b165), .val (.ref b189), .val (.int ec), .val (.ref b197)] [(.int (7 : Int32)), (.int n6), (.ref b165), (.ref b197)])) rfl (by rw [hml]; rfl) (argsL := [(.ref b197), (.ref b165), (.int n6), (.int (7 : Int32))]) (rest := []) (lenOf pd_6 rfl) rfl (by show 2 * 0 + _ ≤ _; exact Nat.le_of_eq rfl) (hb hby at_315) (fun _ _ => ⟨rfl, eq244, (by decide : 3 + 0 ≤ _), (by decide : 11 + 0 ≤ _)⟩)
    dsimp only [Pt.U, Pt.locs, Pt.cells, Pt.slots] at X247 l247 y247 z247 st247 hQ247
    subst l247 y247 z247
    obtain ⟨rfl, Nq247, eq247⟩ := hQ247
    have N247 := Fr.app NH244 Nq247
    obtain ⟨LH247, XH247, NH247⟩ := own_hide X247 N247
    clear X247 N247
    have k248 : ∀ t, Steps p.tables e below (T247.setTop (mkF m 318 #[.val (.int p0), .val (.int p1), .val (.int p2), .val (.int p3), .val (.int p4), .val (.int p5), .val (.int z), .val (.int n6), .val (.ref b165), .val (.ref b189), .val (.int ec), .val (.ref b197)] [(.int (1 : Int32))])) t → Steps p.tables e below (s₁.setTop (entryFrame m #[(.int p0), (.int p1), (.int p2), (.int p3), (.int p4), (.int p5)] maxLocals)) t := fun t k => k246 t (st247 t k)
    have k249 : ∀ t, Steps p.tables e below (T247.setTop (mkF m 326 #[.val (.int p0), .val (.int p1), .val (.int p2), .val (.int p3), .val (.int p4), .val (.int p5), .val (.int z), .val (.int n6), .val (.ref b165), .val (.ref b189), .val (.int ec), .val (.ref b197)] [(.int (1 : Int32))])) t → Steps p.tables e below (s₁.setTop (entryFrame m #[(.int p0), (.int p1), (.int p2), (.int p3), (.int p4), (.int p5)] maxLocals)) t := fun t k => k248 t (by
      show Steps p.tables e below (T247.setTop (mkF m 318 #[.val (.int p0), .val (.int p1), .val (.int p2), .val (.int p3), .val (.int p4), .val (.int p5), .val (.int z), .val (.int n6), .val (.ref b165), .val (.ref b189), .val (.int ec), .val (.ref b197)] [(.int (1 : Int32))])) _
      refine XS.ifNo XH247.here hx rfl (hb hby at_318) rfl ((if0 _ _).trans (feq (by decide : ¬ ((1 : Int32) = (0 : Int32)))).1) ?_
      show Steps p.tables e below (T247.setTop (mkF m 321 #[.val (.int p0), .val (.int p1), .val (.int p2), .val (.int p3), .val (.int p4), .val (.int p5), .val (.int z), .val (.int n6), .val (.ref b165), .val (.ref b189), .val (.int ec), .val (.ref b197)] [])) _
      refine XS.iconst XH247.here hx rfl (hb hby at_321) ?_
      show Steps p.tables e below (T247.setTop (mkF m 322 #[.val (.int p0), .val (.int p1), .val (.int p2), .val (.int p3), .val (.int p4), .val (.int p5), .val (.int z), .val (.int n6), .val (.ref b165), .val (.ref b189), .val (.int ec), .val (.ref b197)] [(.int (1 : Int32))])) _
      refine XS.goto XH247.here hx rfl (pc0 := 322) (pc' := 326) rfl (hb hby at_322) (by decide) (by decide) ?_
      exact k)
    obtain ⟨fs, hr, hrun, hended, hW, hsame⟩ := XH247.leave (v := some (.int (1 : Int32))) (fun h => by rw [Bd.returns] at h; cases h)
    refine ⟨_, _, k249 _ ?_, hrun, hended, _, _, rfl, ?_, ⟨_, rfl⟩, hW, hsame.mono (by decide) (by decide)⟩
    · show Steps p.tables e below (T247.setTop (mkF m 326 #[.val (.int p0), .val (.int p1), .val (.int p2), .val (.int p3), .val (.int p4), .val (.int p5), .val (.int z), .val (.int n6), .val (.ref b165), .val (.ref b189), .val (.int ec), .val (.ref b197)] [(.int (1 : Int32))])) _
      exact retN XH247 hx (t := .boolean) Bd.returns (by simp) (hb hby at_326) hr
    · show Q0 Z p0 p1 p2 p3 p4 p5 h0 n0 _ T247.heap _
      rw [eq247]
      exact ⟨rfl, NH247⟩
  · have k252 : ∀ t, Steps p.tables e below (T200.setTop (mkF m 68 #[.val (.int p0), .val (.int p1), .val (.int p2), .val (.int p3), .val (.int p4), .val (.int p5), .val (.int z), .val (.int n6), .val (.ref b165), .val (.ref b189), .unset, .unset] [(.int p2), (.ref b189)])) t → Steps p.tables e below (s₁.setTop (entryFrame m #[(.int p0), (.int p1), (.int p2), (.int p3), (.int p4), (.int p5)] maxLocals)) t := fun t k => k205 t (by
      show Steps p.tables e below (T200.setTop (mkF m 57 #[.val (.int p0), .val (.int p1), .val (.int p2), .val (.int p3), .val (.int p4), .val (.int p5), .val (.int z), .val (.int n6), .val (.ref b165), .val (.ref b189), .unset, .unset] [])) _
      refine XS.iload XH200.here hx rfl (hb hby at_57) rfl ?_
      show Steps p.tables e below (T200.setTop (mkF m 59 #[.val (.int p0), .val (.int p1), .val (.int p2), .val (.int p3), .val (.int p4), .val (.int p5), .val (.int z), .val (.int n6), .val (.ref b165), .val (.ref b189), .unset, .unset] [(.int n6)])) _
      refine XS.ifNo XH200.here hx rfl (hb hby at_59) rfl ((if0 _ _).trans (tlt (by rw [hn]; decide)).2.2.2) ?_
      show Steps p.tables e below (T200.setTop (mkF m 62 #[.val (.int p0), .val (.int p1), .val (.int p2), .val (.int p3), .val (.int p4), .val (.int p5), .val (.int z), .val (.int n6), .val (.ref b165), .val (.ref b189), .unset, .unset] [])) _
      refine XS.aload XH200.here hx rfl (hb hby at_62) rfl rfl ?_
      show Steps p.tables e below (T200.setTop (mkF m 64 #[.val (.int p0), .val (.int p1), .val (.int p2), .val (.int p3), .val (.int p4), .val (.int p5), .val (.int z), .val (.int n6), .val (.ref b165), .val (.ref b189), .unset, .unset] [(.ref b189)])) _
      refine XS.aload XH200.here hx rfl (hb hby at_64) rfl rfl ?_
      show Steps p.tables e below (T200.setTop (mkF m 66 #[.val (.int p0), .val (.int p1), .val (.int p2), .val (.int p3), .val (.int p4), .val (.int p5), .val (.int z), .val (.int n6), .val (.ref b165), .val (.ref b189), .unset, .unset] [(.ref b165), (.ref b189)])) _
      refine XS.iconst XH200.here hx rfl (hb hby at_66) ?_
      show Steps p.tables e below (T200.setTop (mkF m 67 #[.val (.int p0), .val (.int p1), .val (.int p2), .val (.int p3), .val (.int p4), .val (.int p5), .val (.int z), .val (.int n6), .val (.ref b165), .val (.ref b189), .unset, .unset] [(.int (0 : Int32)), (.ref b165), (.ref b189)])) _
      obtain ⟨clq251, Arq251, -, Sq251, Nq251, Hq251, Gq251⟩ := id F202
      have hinq251 := inb_of (j := (0 : Int32)) Sq251 ⟨by decide, by decide⟩
      refine XH200.iaload hx (j := (0 : Int32)) (v := (.int p2)) (id Arq251.1) (State.isArrayOf_alike hZ.alike Arq251.2.1) Arq251.2.2 hinq251 (Has.at Hq251 hinq251 rfl) (g := (mkF m 67 #[.val (.int p0), .val (.int p1), .val (.int p2), .val (.int p3), .val (.int p4), .val (.int p5), .val (.int z), .val (.int n6), .val (.ref b165), .val (.ref b189), .unset, .unset] [(.int (0 : Int32)), (.ref b165), (.ref b189)])) rfl rfl (hb hby at_67) _ ?_
      exact k)
    have nbab197 := (Ne.symm ne199)
    obtain ⟨cq253, kq253, q253a, q253b, q253c⟩ := isOf hZ rfl F203
    obtain ⟨_, _, ⟨T253, L253, kc253, ks253⟩, -, X253, ⟨Lc253, hQ253, l253, y253, z253⟩, st253⟩ := XH200.virtualBack hx (y := (⟨"com/example/wegweiser/wegweiser/index/ByteSink", "write", "(I)V"⟩ : MethodName)) (z := (⟨"com/example/wegweiser/wegweiser/index/ByteSink", "write", "(I)V"⟩ : MethodName)) hown (mvT hZ (hw _ (List.mem_of_getElem? (i := 19) rfl))) (mvT hZ (hw _ (List.mem_of_getElem? (i := 20) rfl))) (notFace_of_selects (args := #[]) (mvT hZ (hw _ (List.mem_of_getElem? (i := 22) rfl)))) (mvT hZ (hw _ (List.mem_of_getElem? (i := 22) rfl))) (mvT hZ (hw _ (List.mem_of_getElem? (i := 21) rfl))) (by decide) (backOf (W := 0) (rm4 l Z a0 hw [] b189 p2 b197 kb200 (0 : Int32) z [] T200.heap n0 Z201 Fl200 Fb200 F203 Vx200 g_b189 g_b197 (Ne.symm ne199) rfl (by rcases hz with rfl | rfl | rfl | rfl <;> decide) (by rcases hz with rfl | rfl | rfl | rfl <;> decide) (by rcases hz with rfl | rfl | rfl | rfl <;> decide) (by rcases hz with rfl | rfl | rfl | rfl <;> decide) (by rcases hz with rfl | rfl | rfl | rfl <;> decide)) hZ (hw _ (List.mem_of_getElem? (i := 23) rfl)) (hw _ (List.mem_of_getElem? (i := 4) rfl)) (by decide) (by decide)) q253a q253c (g := (mkF m 68 #[.val (.int p0), .val (.int p1), .val (.int p2), .val (.int p3), .val (.int p4), .val (.int p5), .val (.int z), .val (.int n6), .val (.ref b165), .val (.ref b189), .unset, .unset] [(.int p2), (.ref b189)])) rfl (by rw [hml]; rfl) (Steps.refl _) (argsL := [(.int p2)]) (rest := []) (lenOf pd_3 rfl) rfl (by show 2 * 0 + _ ≤ _; exact Nat.le_of_eq rfl) (hb hby at_68) (fun _ _ => ⟨rfl, rfl, (by decide : 3 + 1 ≤ _), (by decide : 11 + 16 ≤ _)⟩)
    dsimp only [Pt.U, Pt.locs, Pt.cells, Pt.slots] at X253 l253 y253 z253 st253 hQ253
    subst l253 y253 z253
    obtain ⟨b253, kb253, rfl, Nq253, K253, g_b253, nx253, hor253, Ax253, Fl253, Fb253, Vx253⟩ := hQ253
    have N253 := Fr.app NH200 Nq253
    obtain ⟨LH253, XH253, NH253⟩ := own_hide X253 N253
    clear X253 N253
    have nv253 : b165 ≠ b253 := hor253.elim (fun q => by rw [q]; exact ne198) (fun q => Nat.ne_of_lt (Nat.lt_of_lt_of_le (F202).lt q))
    have Z254 : n0 ≤ T253.heap.size := Nat.le_trans Z201 K253.1
    have F255 : Arv Z T253.heap b165 c165 .int (5 : Int32) [(.int p2), (.int p3), (.int p4), (.int p5), (.int (p2 ^^^ p4))] (.int (0 : Int32)) := (F202).keep K253 (ninS ne190 (ninS ne198 nin0))
    have F256 : Exa Z T253.heap b189 "com/example/wegweiser/wegweiser/index/ByteSink" := (F203).keep K253
    have k257 : ∀ t, Steps p.tables e below (T253.setTop (mkF m 71 #[.val (.int p0), .val (.int p1), .val (.int p2), .val (.int p3), .val (.int p4), .val (.int p5), .val (.int z), .val (.int n6), .val (.ref b165), .val (.ref b189), .unset, .unset] [])) t → Steps p.tables e below (s₁.setTop (entryFrame m #[(.int p0), (.int p1), (.int p2), (.int p3), (.int p4), (.int p5)] maxLocals)) t := fun t k => k252 t (st253.trans k)
    have k258 : ∀ t, Steps p.tables e below (T253.setTop (mkF m 139 #[.val (.int p0), .val (.int p1), .val (.int p2), .val (.int p3), .val (.int p4), .val (.int p5), .val (.int z), .val (.int n6), .val (.ref b165), .val (.ref b189), .val (.int z), .unset] [(.int z), (.int n6)])) t → Steps p.tables e below (s₁.setTop (entryFrame m #[(.int p0), (.int p1), (.int p2), (.int p3), (.int p4), (.int p5)] maxLocals)) t := fun t k => k257 t (by
      show Steps p.tables e below (T253.setTop (mkF m 71 #[.val (.int p0), .val (.int p1), .val (.int p2), .val (.int p3), .val (.int p4), .val (.int p5), .val (.int z), .val (.int n6), .val (.ref b165), .val (.ref b189), .unset, .unset] [])) _
      refine XS.iload XH253.here hx rfl (hb hby at_71) rfl ?_
      show Steps p.tables e below (T253.setTop (mkF m 73 #[.val (.int p0), .val (.int p1), .val (.int p2), .val (.int p3), .val (.int p4), .val (.int p5), .val (.int z), .val (.int n6), .val (.ref b165), .val (.ref b189), .unset, .unset] [(.int n6)])) _
      refine XS.iconst XH253.here hx rfl (hb hby at_73) ?_
      show Steps p.tables e below (T253.setTop (mkF m 74 #[.val (.int p0), .val (.int p1), .val (.int p2), .val (.int p3), .val (.int p4), .val (.int p5), .val (.int z), .val (.int n6), .val (.ref b165), .val (.ref b189), .unset, .unset] [(.int (1 : Int32)), (.int n6)])) _
      refine XS.icmpYes XH253.here hx rfl (pc0 := 74) (pc' := 86) rfl (hb hby at_74) rfl (flt (by rw [hn]; decide)).2.2.2 (by decide) (by decide) ?_
      show Steps p.tables e below (T253.setTop (mkF m 86 #[.val (.int p0), .val (.int p1), .val (.int p2), .val (.int p3), .val (.int p4), .val (.int p5), .val (.int z), .val (.int n6), .val (.ref b165), .val (.ref b189), .unset, .unset] [])) _
      refine XS.iload XH253.here hx rfl (hb hby at_86) rfl ?_
      show Steps p.tables e below (T253.setTop (mkF m 88 #[.val (.int p0), .val (.int p1), .val (.int p2), .val (.int p3), .val (.int p4), .val (.int p5), .val (.int z), .val (.int n6), .val (.ref b165), .val (.ref b189), .unset, .unset] [(.int n6)])) _
      refine XS.iconst XH253.here hx rfl (hb hby at_88) ?_
      show Steps p.tables e below (T253.setTop (mkF m 89 #[.val (.int p0), .val (.int p1), .val (.int p2), .val (.int p3), .val (.int p4), .val (.int p5), .val (.int z), .val (.int n6), .val (.ref b165), .val (.ref b189), .unset, .unset] [(.int (2 : Int32)), (.int n6)])) _
      refine XS.icmpYes XH253.here hx rfl (pc0 := 89) (pc' := 101) rfl (hb hby at_89) rfl (flt (by rw [hn]; decide)).2.2.2 (by decide) (by decide) ?_
      show Steps p.tables e below (T253.setTop (mkF m 101 #[.val (.int p0), .val (.int p1), .val (.int p2), .val (.int p3), .val (.int p4), .val (.int p5), .val (.int z), .val (.int n6), .val (.ref b165), .val (.ref b189), .unset, .unset] [])) _
      refine XS.iload XH253.here hx rfl (hb hby at_101) rfl ?_
      show Steps p.tables e below (T253.setTop (mkF m 103 #[.val (.int p0), .val (.int p1), .val (.int p2), .val (.int p3), .val (.int p4), .val (.int p5), .val (.int z), .val (.int n6), .val (.ref b165), .val (.ref b189), .unset, .unset] [(.int n6)])) _
      refine XS.iconst XH253.here hx rfl (hb hby at_103) ?_
      show Steps p.tables e below (T253.setTop (mkF m 104 #[.val (.int p0), .val (.int p1), .val (.int p2), .val (.int p3), .val (.int p4), .val (.int p5), .val (.int z), .val (.int n6), .val (.ref b165), .val (.ref b189), .unset, .unset] [(.int (3 : Int32)), (.int n6)])) _
      refine XS.icmpYes XH253.here hx rfl (pc0 := 104) (pc' := 116) rfl (hb hby at_104) rfl (flt (by rw [hn]; decide)).2.2.2 (by decide) (by decide) ?_
      show Steps p.tables e below (T253.setTop (mkF m 116 #[.val (.int p0), .val (.int p1), .val (.int p2), .val (.int p3), .val (.int p4), .val (.int p5), .val (.int z), .val (.int n6), .val (.ref b165), .val (.ref b189), .unset, .unset] [])) _
      refine XS.iload XH253.here hx rfl (hb hby at_116) rfl ?_
      show Steps p.tables e below (T253.setTop (mkF m 118 #[.val (.int p0), .val (.int p1), .val (.int p2), .val (.int p3), .val (.int p4), .val (.int p5), .val (.int z), .val (.int n6), .val (.ref b165), .val (.ref b189), .unset, .unset] [(.int n6)])) _
      refine XS.iconst XH253.here hx rfl (hb hby at_118) ?_
      show Steps p.tables e below (T253.setTop (mkF m 119 #[.val (.int p0), .val (.int p1), .val (.int p2), .val (.int p3), .val (.int p4), .val (.int p5), .val (.int z), .val (.int n6), .val (.ref b165), .val (.ref b189), .unset, .unset] [(.int (4 : Int32)), (.int n6)])) _
      refine XS.icmpYes XH253.here hx rfl (pc0 := 119) (pc' := 131) rfl (hb hby at_119) rfl (flt (by rw [hn]; decide)).2.2.2 (by decide) (by decide) ?_
      show Steps p.tables e below (T253.setTop (mkF m 131 #[.val (.int p0), .val (.int p1), .val (.int p2), .val (.int p3), .val (.int p4), .val (.int p5), .val (.int z), .val (.int n6), .val (.ref b165), .val (.ref b189), .unset, .unset] [])) _
      refine XS.iload XH253.here hx rfl (hb hby at_131) rfl ?_
      show Steps p.tables e below (T253.setTop (mkF m 133 #[.val (.int p0), .val (.int p1), .val (.int p2), .val (.int p3), .val (.int p4), .val (.int p5), .val (.int z), .val (.int n6), .val (.ref b165), .val (.ref b189), .unset, .unset] [(.int z)])) _
      refine XS.istore XH253.here hx rfl (hb hby at_133) rfl (l' := #[.val (.int p0), .val (.int p1), .val (.int p2), .val (.int p3), .val (.int p4), .val (.int p5), .val (.int z), .val (.int n6), .val (.ref b165), .val (.ref b189), .val (.int z), .unset]) rfl ?_
      show Steps p.tables e below (T253.setTop (mkF m 135 #[.val (.int p0), .val (.int p1), .val (.int p2), .val (.int p3), .val (.int p4), .val (.int p5), .val (.int z), .val (.int n6), .val (.ref b165), .val (.ref b189), .val (.int z), .unset] [])) _
      refine XS.iload XH253.here hx rfl (hb hby at_135) rfl ?_
      show Steps p.tables e below (T253.setTop (mkF m 137 #[.val (.int p0), .val (.int p1), .val (.int p2), .val (.int p3), .val (.int p4), .val (.int p5), .val (.int z), .val (.int n6), .val (.ref b165), .val (.ref b189), .val (.int z), .unset] [(.int n6)])) _
      refine XS.iload XH253.here hx rfl (hb hby at_137) rfl ?_
      exact k)
    have k260 : ∀ t, Steps p.tables e below (T253.setTop (mkF m 148 #[.val (.int p0), .val (.int p1), .val (.int p2), .val (.int p3), .val (.int p4), .val (.int p5), .val (.int z), .val (.int n6), .val (.ref b165), .val (.ref b189), .val (.int (if z < n6 then (z * (2 : Int32)) else z)), .unset] [])) t → Steps p.tables e below (s₁.setTop (entryFrame m #[(.int p0), (.int p1), (.int p2), (.int p3), (.int p4), (.int p5)] maxLocals)) t := fun t k => k258 t (by
      by_cases hq259 : z < n6
      · simp only [if_pos hq259] at k
        show Steps p.tables e below (T253.setTop (mkF m 139 #[.val (.int p0), .val (.int p1), .val (.int p2), .val (.int p3), .val (.int p4), .val (.int p5), .val (.int z), .val (.int n6), .val (.ref b165), .val (.ref b189), .val (.int z), .unset] [(.int z), (.int n6)])) _
        refine XS.icmpNo XH253.here hx rfl (hb hby at_139) rfl (tlt hq259).2.2.2 ?_
        show Steps p.tables e below (T253.setTop (mkF m 142 #[.val (.int p0), .val (.int p1), .val (.int p2), .val (.int p3), .val (.int p4), .val (.int p5), .val (.int z), .val (.int n6), .val (.ref b165), .val (.ref b189), .val (.int z), .unset] [])) _
        refine XS.iload XH253.here hx rfl (hb hby at_142) rfl ?_
        show Steps p.tables e below (T253.setTop (mkF m 144 #[.val (.int p0), .val (.int p1), .val (.int p2), .val (.int p3), .val (.int p4), .val (.int p5), .val (.int z), .val (.int n6), .val (.ref b165), .val (.ref b189), .val (.int z), .unset] [(.int z)])) _
        refine XS.iconst XH253.here hx rfl (hb hby at_144) ?_
        show Steps p.tables e below (T253.setTop (mkF m 145 #[.val (.int p0), .val (.int p1), .val (.int p2), .val (.int p3), .val (.int p4), .val (.int p5), .val (.int z), .val (.int n6), .val (.ref b165), .val (.ref b189), .val (.int z), .unset] [(.int (2 : Int32)), (.int z)])) _
        refine XS.imul XH253.here hx rfl (hb hby at_145) rfl ?_
        show Steps p.tables e below (T253.setTop (mkF m 146 #[.val (.int p0), .val (.int p1), .val (.int p2), .val (.int p3), .val (.int p4), .val (.int p5), .val (.int z), .val (.int n6), .val (.ref b165), .val (.ref b189), .val (.int z), .unset] [(.int (z * (2 : Int32)))])) _
        refine XS.istore XH253.here hx rfl (hb hby at_146) rfl (l' := #[.val (.int p0), .val (.int p1), .val (.int p2), .val (.int p3), .val (.int p4), .val (.int p5), .val (.int z), .val (.int n6), .val (.ref b165), .val (.ref b189), .val (.int (z * (2 : Int32))), .unset]) rfl ?_
        exact k
      · simp only [if_neg hq259] at k
        show Steps p.tables e below (T253.setTop (mkF m 139 #[.val (.int p0), .val (.int p1), .val (.int p2), .val (.int p3), .val (.int p4), .val (.int p5), .val (.int z), .val (.int n6), .val (.ref b165), .val (.ref b189), .val (.int z), .unset] [(.int z), (.int n6)])) _
        refine XS.icmpYes XH253.here hx rfl (pc0 := 139) (pc' := 148) rfl (hb hby at_139) rfl (flt hq259).2.2.2 (by decide) (by decide) ?_
        exact k)
    have k261 : ∀ t, Steps p.tables e below (T253.setTop (mkF m 152 #[.val (.int p0), .val (.int p1), .val (.int p2), .val (.int p3), .val (.int p4), .val (.int p5), .val (.int z), .val (.int n6), .val (.ref b165), .val (.ref b189), .val (.int (if z < n6 then (z * (2 : Int32)) else z)), .unset] [(.int (if z < n6 then (z * (2 : Int32)) else z)), (.int n6)])) t → Steps p.tables e below (s₁.setTop (entryFrame m #[(.int p0), (.int p1), (.int p2), (.int p3), (.int p4), (.int p5)] maxLocals)) t := fun t k => k260 t (by
      show Steps p.tables e below (T253.setTop (mkF m 148 #[.val (.int p0), .val (.int p1), .val (.int p2), .val (.int p3), .val (.int p4), .val (.int p5), .val (.int z), .val (.int n6), .val (.ref b165), .val (.ref b189), .val (.int (if z < n6 then (z * (2 : Int32)) else z)), .unset] [])) _
      refine XS.iload XH253.here hx rfl (hb hby at_148) rfl ?_
      show Steps p.tables e below (T253.setTop (mkF m 150 #[.val (.int p0), .val (.int p1), .val (.int p2), .val (.int p3), .val (.int p4), .val (.int p5), .val (.int z), .val (.int n6), .val (.ref b165), .val (.ref b189), .val (.int (if z < n6 then (z * (2 : Int32)) else z)), .unset] [(.int n6)])) _
      refine XS.iload XH253.here hx rfl (hb hby at_150) rfl ?_
      exact k)
    have k263 : ∀ t, Steps p.tables e below (T253.setTop (mkF m 161 #[.val (.int p0), .val (.int p1), .val (.int p2), .val (.int p3), .val (.int p4), .val (.int p5), .val (.int z), .val (.int n6), .val (.ref b165), .val (.ref b189), .val (.int (if (if z < n6 then (z * (2 : Int32)) else z) < n6 then ((if z < n6 then (z * (2 : Int32)) else z) * (2 : Int32)) else (if z < n6 then (z * (2 : Int32)) else z))), .unset] [])) t → Steps p.tables e below (s₁.setTop (entryFrame m #[(.int p0), (.int p1), (.int p2), (.int p3), (.int p4), (.int p5)] maxLocals)) t := fun t k => k261 t (by
      by_cases hq262 : (if z < n6 then (z * (2 : Int32)) else z) < n6
      · simp only [if_pos hq262] at k
        show Steps p.tables e below (T253.setTop (mkF m 152 #[.val (.int p0), .val (.int p1), .val (.int p2), .val (.int p3), .val (.int p4), .val (.int p5), .val (.int z), .val (.int n6), .val (.ref b165), .val (.ref b189), .val (.int (if z < n6 then (z * (2 : Int32)) else z)), .unset] [(.int (if z < n6 then (z * (2 : Int32)) else z)), (.int n6)])) _
        refine XS.icmpNo XH253.here hx rfl (hb hby at_152) rfl (tlt hq262).2.2.2 ?_
        show Steps p.tables e below (T253.setTop (mkF m 155 #[.val (.int p0), .val (.int p1), .val (.int p2), .val (.int p3), .val (.int p4), .val (.int p5), .val (.int z), .val (.int n6), .val (.ref b165), .val (.ref b189), .val (.int (if z < n6 then (z * (2 : Int32)) else z)), .unset] [])) _
        refine XS.iload XH253.here hx rfl (hb hby at_155) rfl ?_
        show Steps p.tables e below (T253.setTop (mkF m 157 #[.val (.int p0), .val (.int p1), .val (.int p2), .val (.int p3), .val (.int p4), .val (.int p5), .val (.int z), .val (.int n6), .val (.ref b165), .val (.ref b189), .val (.int (if z < n6 then (z * (2 : Int32)) else z)), .unset] [(.int (if z < n6 then (z * (2 : Int32)) else z))])) _
        refine XS.iconst XH253.here hx rfl (hb hby at_157) ?_
        show Steps p.tables e below (T253.setTop (mkF m 158 #[.val (.int p0), .val (.int p1), .val (.int p2), .val (.int p3), .val (.int p4), .val (.int p5), .val (.int z), .val (.int n6), .val (.ref b165), .val (.ref b189), .val (.int (if z < n6 then (z * (2 : Int32)) else z)), .unset] [(.int (2 : Int32)), (.int (if z < n6 then (z * (2 : Int32)) else z))])) _
        refine XS.imul XH253.here hx rfl (hb hby at_158) rfl ?_
        show Steps p.tables e below (T253.setTop (mkF m 159 #[.val (.int p0), .val (.int p1), .val (.int p2), .val (.int p3), .val (.int p4), .val (.int p5), .val (.int z), .val (.int n6), .val (.ref b165), .val (.ref b189), .val (.int (if z < n6 then (z * (2 : Int32)) else z)), .unset] [(.int ((if z < n6 then (z * (2 : Int32)) else z) * (2 : Int32)))])) _
        refine XS.istore XH253.here hx rfl (hb hby at_159) rfl (l' := #[.val (.int p0), .val (.int p1), .val (.int p2), .val (.int p3), .val (.int p4), .val (.int p5), .val (.int z), .val (.int n6), .val (.ref b165), .val (.ref b189), .val (.int ((if z < n6 then (z * (2 : Int32)) else z) * (2 : Int32))), .unset]) rfl ?_
        exact k
      · simp only [if_neg hq262] at k
        show Steps p.tables e below (T253.setTop (mkF m 152 #[.val (.int p0), .val (.int p1), .val (.int p2), .val (.int p3), .val (.int p4), .val (.int p5), .val (.int z), .val (.int n6), .val (.ref b165), .val (.ref b189), .val (.int (if z < n6 then (z * (2 : Int32)) else z)), .unset] [(.int (if z < n6 then (z * (2 : Int32)) else z)), (.int n6)])) _
        refine XS.icmpYes XH253.here hx rfl (pc0 := 152) (pc' := 161) rfl (hb hby at_152) rfl (flt hq262).2.2.2 (by decide) (by decide) ?_
        exact k)
    have k264 : ∀ t, Steps p.tables e below (T253.setTop (mkF m 165 #[.val (.int p0), .val (.int p1), .val (.int p2), .val (.int p3), .val (.int p4), .val (.int p5), .val (.int z), .val (.int n6), .val (.ref b165), .val (.ref b189), .val (.int (if (if z < n6 then (z * (2 : Int32)) else z) < n6 then ((if z < n6 then (z * (2 : Int32)) else z) * (2 : Int32)) else (if z < n6 then (z * (2 : Int32)) else z))), .unset] [(.int (if (if z < n6 then (z * (2 : Int32)) else z) < n6 then ((if z < n6 then (z * (2 : Int32)) else z) * (2 : Int32)) else (if z < n6 then (z * (2 : Int32)) else z))), (.int n6)])) t → Steps p.tables e below (s₁.setTop (entryFrame m #[(.int p0), (.int p1), (.int p2), (.int p3), (.int p4), (.int p5)] maxLocals)) t := fun t k => k263 t (by
      show Steps p.tables e below (T253.setTop (mkF m 161 #[.val (.int p0), .val (.int p1), .val (.int p2), .val (.int p3), .val (.int p4), .val (.int p5), .val (.int z), .val (.int n6), .val (.ref b165), .val (.ref b189), .val (.int (if (if z < n6 then (z * (2 : Int32)) else z) < n6 then ((if z < n6 then (z * (2 : Int32)) else z) * (2 : Int32)) else (if z < n6 then (z * (2 : Int32)) else z))), .unset] [])) _
      refine XS.iload XH253.here hx rfl (hb hby at_161) rfl ?_
      show Steps p.tables e below (T253.setTop (mkF m 163 #[.val (.int p0), .val (.int p1), .val (.int p2), .val (.int p3), .val (.int p4), .val (.int p5), .val (.int z), .val (.int n6), .val (.ref b165), .val (.ref b189), .val (.int (if (if z < n6 then (z * (2 : Int32)) else z) < n6 then ((if z < n6 then (z * (2 : Int32)) else z) * (2 : Int32)) else (if z < n6 then (z * (2 : Int32)) else z))), .unset] [(.int n6)])) _
      refine XS.iload XH253.here hx rfl (hb hby at_163) rfl ?_
      exact k)
    have k266 : ∀ t, Steps p.tables e below (T253.setTop (mkF m 174 #[.val (.int p0), .val (.int p1), .val (.int p2), .val (.int p3), .val (.int p4), .val (.int p5), .val (.int z), .val (.int n6), .val (.ref b165), .val (.ref b189), .val (.int (if (if (if z < n6 then (z * (2 : Int32)) else z) < n6 then ((if z < n6 then (z * (2 : Int32)) else z) * (2 : Int32)) else (if z < n6 then (z * (2 : Int32)) else z)) < n6 then ((if (if z < n6 then (z * (2 : Int32)) else z) < n6 then ((if z < n6 then (z * (2 : Int32)) else z) * (2 : Int32)) else (if z < n6 then (z * (2 : Int32)) else z)) * (2 : Int32)) else (if (if z < n6 then (z * (2 : Int32)) else z) < n6 then ((if z < n6 then (z * (2 : Int32)) else z) * (2 : Int32)) else (if z < n6 then (z * (2 : Int32)) else z)))), .unset] [])) t → Steps p.tables e below (s₁.setTop (entryFrame m #[(.int p0), (.int p1), (.int p2), (.int p3), (.int p4), (.int p5)] maxLocals)) t := fun t k => k264 t (by
      by_cases hq265 : (if (if z < n6 then (z * (2 : Int32)) else z) < n6 then ((if z < n6 then (z * (2 : Int32)) else z) * (2 : Int32)) else (if z < n6 then (z * (2 : Int32)) else z)) < n6
      · simp only [if_pos hq265] at k
        show Steps p.tables e below (T253.setTop (mkF m 165 #[.val (.int p0), .val (.int p1), .val (.int p2), .val (.int p3), .val (.int p4), .val (.int p5), .val (.int z), .val (.int n6), .val (.ref b165), .val (.ref b189), .val (.int (if (if z < n6 then (z * (2 : Int32)) else z) < n6 then ((if z < n6 then (z * (2 : Int32)) else z) * (2 : Int32)) else (if z < n6 then (z * (2 : Int32)) else z))), .unset] [(.int (if (if z < n6 then (z * (2 : Int32)) else z) < n6 then ((if z < n6 then (z * (2 : Int32)) else z) * (2 : Int32)) else (if z < n6 then (z * (2 : Int32)) else z))), (.int n6)])) _
        refine XS.icmpNo XH253.here hx rfl (hb hby at_165) rfl (tlt hq265).2.2.2 ?_
        show Steps p.tables e below (T253.setTop (mkF m 168 #[.val (.int p0), .val (.int p1), .val (.int p2), .val (.int p3), .val (.int p4), .val (.int p5), .val (.int z), .val (.int n6), .val (.ref b165), .val (.ref b189), .val (.int (if (if z < n6 then (z * (2 : Int32)) else z) < n6 then ((if z < n6 then (z * (2 : Int32)) else z) * (2 : Int32)) else (if z < n6 then (z * (2 : Int32)) else z))), .unset] [])) _
        refine XS.iload XH253.here hx rfl (hb hby at_168) rfl ?_
        show Steps p.tables e below (T253.setTop (mkF m 170 #[.val (.int p0), .val (.int p1), .val (.int p2), .val (.int p3), .val (.int p4), .val (.int p5), .val (.int z), .val (.int n6), .val (.ref b165), .val (.ref b189), .val (.int (if (if z < n6 then (z * (2 : Int32)) else z) < n6 then ((if z < n6 then (z * (2 : Int32)) else z) * (2 : Int32)) else (if z < n6 then (z * (2 : Int32)) else z))), .unset] [(.int (if (if z < n6 then (z * (2 : Int32)) else z) < n6 then ((if z < n6 then (z * (2 : Int32)) else z) * (2 : Int32)) else (if z < n6 then (z * (2 : Int32)) else z)))])) _
        refine XS.iconst XH253.here hx rfl (hb hby at_170) ?_
        show Steps p.tables e below (T253.setTop (mkF m 171 #[.val (.int p0), .val (.int p1), .val (.int p2), .val (.int p3), .val (.int p4), .val (.int p5), .val (.int z), .val (.int n6), .val (.ref b165), .val (.ref b189), .val (.int (if (if z < n6 then (z * (2 : Int32)) else z) < n6 then ((if z < n6 then (z * (2 : Int32)) else z) * (2 : Int32)) else (if z < n6 then (z * (2 : Int32)) else z))), .unset] [(.int (2 : Int32)), (.int (if (if z < n6 then (z * (2 : Int32)) else z) < n6 then ((if z < n6 then (z * (2 : Int32)) else z) * (2 : Int32)) else (if z < n6 then (z * (2 : Int32)) else z)))])) _
        refine XS.imul XH253.here hx rfl (hb hby at_171) rfl ?_
        show Steps p.tables e below (T253.setTop (mkF m 172 #[.val (.int p0), .val (.int p1), .val (.int p2), .val (.int p3), .val (.int p4), .val (.int p5), .val (.int z), .val (.int n6), .val (.ref b165), .val (.ref b189), .val (.int (if (if z < n6 then (z * (2 : Int32)) else z) < n6 then ((if z < n6 then (z * (2 : Int32)) else z) * (2 : Int32)) else (if z < n6 then (z * (2 : Int32)) else z))), .unset] [(.int ((if (if z < n6 then (z * (2 : Int32)) else z) < n6 then ((if z < n6 then (z * (2 : Int32)) else z) * (2 : Int32)) else (if z < n6 then (z * (2 : Int32)) else z)) * (2 : Int32)))])) _
        refine XS.istore XH253.here hx rfl (hb hby at_172) rfl (l' := #[.val (.int p0), .val (.int p1), .val (.int p2), .val (.int p3), .val (.int p4), .val (.int p5), .val (.int z), .val (.int n6), .val (.ref b165), .val (.ref b189), .val (.int ((if (if z < n6 then (z * (2 : Int32)) else z) < n6 then ((if z < n6 then (z * (2 : Int32)) else z) * (2 : Int32)) else (if z < n6 then (z * (2 : Int32)) else z)) * (2 : Int32))), .unset]) rfl ?_
        exact k
      · simp only [if_neg hq265] at k
        show Steps p.tables e below (T253.setTop (mkF m 165 #[.val (.int p0), .val (.int p1), .val (.int p2), .val (.int p3), .val (.int p4), .val (.int p5), .val (.int z), .val (.int n6), .val (.ref b165), .val (.ref b189), .val (.int (if (if z < n6 then (z * (2 : Int32)) else z) < n6 then ((if z < n6 then (z * (2 : Int32)) else z) * (2 : Int32)) else (if z < n6 then (z * (2 : Int32)) else z))), .unset] [(.int (if (if z < n6 then (z * (2 : Int32)) else z) < n6 then ((if z < n6 then (z * (2 : Int32)) else z) * (2 : Int32)) else (if z < n6 then (z * (2 : Int32)) else z))), (.int n6)])) _
        refine XS.icmpYes XH253.here hx rfl (pc0 := 165) (pc' := 174) rfl (hb hby at_165) rfl (flt hq265).2.2.2 (by decide) (by decide) ?_
        exact k)
    obtain ⟨ec, hec⟩ : ∃ zz_, zz_ = (if (if (if z < n6 then (z * (2 : Int32)) else z) < n6 then ((if z < n6 then (z * (2 : Int32)) else z) * (2 : Int32)) else (if z < n6 then (z * (2 : Int32)) else z)) < n6 then ((if (if z < n6 then (z * (2 : Int32)) else z) < n6 then ((if z < n6 then (z * (2 : Int32)) else z) * (2 : Int32)) else (if z < n6 then (z * (2 : Int32)) else z)) * (2 : Int32)) else (if (if z < n6 then (z * (2 : Int32)) else z) < n6 then ((if z < n6 then (z * (2 : Int32)) else z) * (2 : Int32)) else (if z < n6 then (z * (2 : Int32)) else z))) := ⟨_, rfl⟩
    rw [← hec] at k266
    have k267 : ∀ t, Steps p.tables e below (T253.setTop (mkF m 176 #[.val (.int p0), .val (.int p1), .val (.int p2), .val (.int p3), .val (.int p4), .val (.int p5), .val (.int z), .val (.int n6), .val (.ref b165), .val (.ref b189), .val (.int ec), .unset] [(.ref b189)])) t → Steps p.tables e below (s₁.setTop (entryFrame m #[(.int p0), (.int p1), (.int p2), (.int p3), (.int p4), (.int p5)] maxLocals)) t := fun t k => k266 t (by
      show Steps p.tables e below (T253.setTop (mkF m 174 #[.val (.int p0), .val (.int p1), .val (.int p2), .val (.int p3), .val (.int p4), .val (.int p5), .val (.int z), .val (.int n6), .val (.ref b165), .val (.ref b189), .val (.int ec), .unset] [])) _
      refine XS.aload XH253.here hx rfl (hb hby at_174) rfl rfl ?_
      exact k)
    obtain ⟨cq268, kq268, q268a, q268b, q268c⟩ := isOf hZ rfl F256
    obtain ⟨_, _, ⟨T268, L268, kc268, ks268⟩, -, X268, ⟨Lc268, hQ268, l268, y268, z268⟩, st268⟩ := XH253.virtualBack hx (y := (⟨"com/example/wegweiser/wegweiser/index/ByteSink", "length", "()I"⟩ : MethodName)) (z := (⟨"com/example/wegweiser/wegweiser/index/ByteSink", "length", "()I"⟩ : MethodName)) hown (mvT hZ (hw _ (List.mem_of_getElem? (i := 38) rfl))) (mvT hZ (hw _ (List.mem_of_getElem? (i := 39) rfl))) (notFace_of_selects (args := #[]) (mvT hZ (hw _ (List.mem_of_getElem? (i := 41) rfl)))) (mvT hZ (hw _ (List.mem_of_getElem? (i := 41) rfl))) (mvT hZ (hw _ (List.mem_of_getElem? (i := 40) rfl))) (by decide) (backOf (W := 0) (rm7 l Z a0 hw [] b189 ((0 : Int32) + (1 : Int32)) T253.heap n0 Z254 Fl253) hZ (hw _ (List.mem_of_getElem? (i := 42) rfl)) (hw _ (List.mem_of_getElem? (i := 4) rfl)) (by decide) (by decide)) q268a q268c (g := (mkF m 176 #[.val (.int p0), .val (.int p1), .val (.int p2), .val (.int p3), .val (.int p4), .val (.int p5), .val (.int z), .val (.int n6), .val (.ref b165), .val (.ref b189), .val (.int ec), .unset] [(.ref b189)])) rfl (by rw [hml]; rfl) (Steps.refl _) (argsL := []) (rest := []) (lenOf pd_4 rfl) rfl (by show 2 * 0 + _ ≤ _; exact Nat.le_of_eq rfl) (hb hby at_176) (fun _ _ => ⟨rfl, rfl, (by decide : 4 + 0 ≤ _), (by decide : 27 + 0 ≤ _)⟩)
    dsimp only [Pt.U, Pt.locs, Pt.cells, Pt.slots] at X268 l268 y268 z268 st268 hQ268
    subst l268 y268 z268
    obtain ⟨rfl, Nq268, eq268⟩ := hQ268
    have N268 := Fr.app NH253 Nq268
    obtain ⟨LH268, XH268, NH268⟩ := own_hide X268 N268
    clear X268 N268
    have k269 : ∀ t, Steps p.tables e below (T268.setTop (mkF m 179 #[.val (.int p0), .val (.int p1), .val (.int p2), .val (.int p3), .val (.int p4), .val (.int p5), .val (.int z), .val (.int n6), .val (.ref b165), .val (.ref b189), .val (.int ec), .unset] [(.int ((0 : Int32) + (1 : Int32)))])) t → Steps p.tables e below (s₁.setTop (entryFrame m #[(.int p0), (.int p1), (.int p2), (.int p3), (.int p4), (.int p5)] maxLocals)) t := fun t k => k267 t (st268.trans k)
    have k270 : ∀ t, Steps p.tables e below (T268.setTop (mkF m 188 #[.val (.int p0), .val (.int p1), .val (.int p2), .val (.int p3), .val (.int p4), .val (.int p5), .val (.int z), .val (.int n6), .val (.ref b165), .val (.ref b189), .val (.int ec), .unset] [(.ref b189)])) t → Steps p.tables e below (s₁.setTop (entryFrame m #[(.int p0), (.int p1), (.int p2), (.int p3), (.int p4), (.int p5)] maxLocals)) t := fun t k => k269 t (by
      show Steps p.tables e below (T268.setTop (mkF m 179 #[.val (.int p0), .val (.int p1), .val (.int p2), .val (.int p3), .val (.int p4), .val (.int p5), .val (.int z), .val (.int n6), .val (.ref b165), .val (.ref b189), .val (.int ec), .unset] [(.int ((0 : Int32) + (1 : Int32)))])) _
      refine XS.iload XH268.here hx rfl (hb hby at_179) rfl ?_
      show Steps p.tables e below (T268.setTop (mkF m 181 #[.val (.int p0), .val (.int p1), .val (.int p2), .val (.int p3), .val (.int p4), .val (.int p5), .val (.int z), .val (.int n6), .val (.ref b165), .val (.ref b189), .val (.int ec), .unset] [(.int n6), (.int ((0 : Int32) + (1 : Int32)))])) _
      refine XS.icmpYes XH268.here hx rfl (pc0 := 181) (pc' := 186) rfl (hb hby at_181) rfl (teq (by first | (rw [hn]; done) | (rw [hn]; decide))).1 (by decide) (by decide) ?_
      show Steps p.tables e below (T268.setTop (mkF m 186 #[.val (.int p0), .val (.int p1), .val (.int p2), .val (.int p3), .val (.int p4), .val (.int p5), .val (.int z), .val (.int n6), .val (.ref b165), .val (.ref b189), .val (.int ec), .unset] [])) _
      refine XS.aload XH268.here hx rfl (hb hby at_186) rfl rfl ?_
      exact k)
    obtain ⟨cq271, kq271, q271a, q271b, q271c⟩ := isOf hZ eq268 F256
    obtain ⟨_, _, ⟨T271, L271, kc271, ks271⟩, -, X271, ⟨Lc271, hQ271, l271, y271, z271⟩, st271⟩ := XH268.virtualBack hx (y := (⟨"com/example/wegweiser/wegweiser/index/ByteSink", "capacity", "()I"⟩ : MethodName)) (z := (⟨"com/example/wegweiser/wegweiser/index/ByteSink", "capacity", "()I"⟩ : MethodName)) hown (mvT hZ (hw _ (List.mem_of_getElem? (i := 43) rfl))) (mvT hZ (hw _ (List.mem_of_getElem? (i := 44) rfl))) (notFace_of_selects (args := #[]) (mvT hZ (hw _ (List.mem_of_getElem? (i := 46) rfl)))) (mvT hZ (hw _ (List.mem_of_getElem? (i := 46) rfl))) (mvT hZ (hw _ (List.mem_of_getElem? (i := 45) rfl))) (by decide) (backOf (W := 0) (rm8 l Z a0 hw [] b189 b253 kb253 (own_cap (0 : Int32) z) ([] ++ [(.int (own_b p2))]) T253.heap n0 Z254 Fb253 Vx253) hZ (hw _ (List.mem_of_getElem? (i := 47) rfl)) (hw _ (List.mem_of_getElem? (i := 4) rfl)) (by decide) (by decide)) q271a q271c (g := (mkF m 188 #[.val (.int p0), .val (.int p1), .val (.int p2), .val (.int p3), .val (.int p4), .val (.int p5), .val (.int z), .val (.int n6), .val (.ref b165), .val (.ref b189), .val (.int ec), .unset] [(.ref b189)])) rfl (by rw [hml]; rfl) (Steps.refl _) (argsL := []) (rest := []) (lenOf pd_4 rfl) rfl (by show 2 * 0 + _ ≤ _; exact Nat.le_of_eq rfl) (hb hby at_188) (fun _ _ => ⟨rfl, eq268, (by decide : 4 + 0 ≤ _), (by decide : 27 + 0 ≤ _)⟩)
    dsimp only [Pt.U, Pt.locs, Pt.cells, Pt.slots] at X271 l271 y271 z271 st271 hQ271
    subst l271 y271 z271
    obtain ⟨rfl, Nq271, eq271⟩ := hQ271
    have N271 := Fr.app NH268 Nq271
    obtain ⟨LH271, XH271, NH271⟩ := own_hide X271 N271
    clear X271 N271
    have k272 : ∀ t, Steps p.tables e below (T271.setTop (mkF m 191 #[.val (.int p0), .val (.int p1), .val (.int p2), .val (.int p3), .val (.int p4), .val (.int p5), .val (.int z), .val (.int n6), .val (.ref b165), .val (.ref b189), .val (.int ec), .unset] [(.int (own_cap (0 : Int32) z))])) t → Steps p.tables e below (s₁.setTop (entryFrame m #[(.int p0), (.int p1), (.int p2), (.int p3), (.int p4), (.int p5)] maxLocals)) t := fun t k => k270 t (st271.trans k)
    have k273 : ∀ t, Steps p.tables e below (T271.setTop (mkF m 200 #[.val (.int p0), .val (.int p1), .val (.int p2), .val (.int p3), .val (.int p4), .val (.int p5), .val (.int z), .val (.int n6), .val (.ref b165), .val (.ref b189), .val (.int ec), .unset] [(.ref b189)])) t → Steps p.tables e below (s₁.setTop (entryFrame m #[(.int p0), (.int p1), (.int p2), (.int p3), (.int p4), (.int p5)] maxLocals)) t := fun t k => k272 t (by
      show Steps p.tables e below (T271.setTop (mkF m 191 #[.val (.int p0), .val (.int p1), .val (.int p2), .val (.int p3), .val (.int p4), .val (.int p5), .val (.int z), .val (.int n6), .val (.ref b165), .val (.ref b189), .val (.int ec), .unset] [(.int (own_cap (0 : Int32) z))])) _
      refine XS.iload XH271.here hx rfl (hb hby at_191) rfl ?_
      show Steps p.tables e below (T271.setTop (mkF m 193 #[.val (.int p0), .val (.int p1), .val (.int p2), .val (.int p3), .val (.int p4), .val (.int p5), .val (.int z), .val (.int n6), .val (.ref b165), .val (.ref b189), .val (.int ec), .unset] [(.int ec), (.int (own_cap (0 : Int32) z))])) _
      refine XS.icmpYes XH271.here hx rfl (pc0 := 193) (pc' := 198) rfl (hb hby at_193) rfl (teq (by rw [hec, hn]; rcases hz with rfl | rfl | rfl | rfl <;> decide)).1 (by decide) (by decide) ?_
      show Steps p.tables e below (T271.setTop (mkF m 198 #[.val (.int p0), .val (.int p1), .val (.int p2), .val (.int p3), .val (.int p4), .val (.int p5), .val (.int z), .val (.int n6), .val (.ref b165), .val (.ref b189), .val (.int ec), .unset] [])) _
      refine XS.aload XH271.here hx rfl (hb hby at_198) rfl rfl ?_
      exact k)
    obtain ⟨cq274, kq274, q274a, q274b, q274c⟩ := isOf hZ eq271 F256
    obtain ⟨_, _, ⟨T274, L274, kc274, ks274⟩, -, X274, ⟨Lc274, hQ274, l274, y274, z274⟩, st274⟩ := XH271.virtualBack hx (y := (⟨"com/example/wegweiser/wegweiser/index/ByteSink", "bytes", "()[B"⟩ : MethodName)) (z := (⟨"com/example/wegweiser/wegweiser/index/ByteSink", "bytes", "()[B"⟩ : MethodName)) hown (mvT hZ (hw _ (List.mem_of_getElem? (i := 48) rfl))) (mvT hZ (hw _ (List.mem_of_getElem? (i := 49) rfl))) (notFace_of_selects (args := #[]) (mvT hZ (hw _ (List.mem_of_getElem? (i := 51) rfl)))) (mvT hZ (hw _ (List.mem_of_getElem? (i := 51) rfl))) (mvT hZ (hw _ (List.mem_of_getElem? (i := 50) rfl))) (by decide) (backOf (W := 0) (rm9 l Z a0 hw [] b189 b253 T253.heap n0 Z254 Fb253) hZ (hw _ (List.mem_of_getElem? (i := 52) rfl)) (hw _ (List.mem_of_getElem? (i := 4) rfl)) (by decide) (by decide)) q274a q274c (g := (mkF m 200 #[.val (.int p0), .val (.int p1), .val (.int p2), .val (.int p3), .val (.int p4), .val (.int p5), .val (.int z), .val (.int n6), .val (.ref b165), .val (.ref b189), .val (.int ec), .unset] [(.ref b189)])) rfl (by rw [hml]; rfl) (Steps.refl _) (argsL := []) (rest := []) (lenOf pd_5 rfl) rfl (by show 2 * 0 + _ ≤ _; exact Nat.le_of_eq rfl) (hb hby at_200) (fun _ _ => ⟨rfl, eq271, (by decide : 4 + 0 ≤ _), (by decide : 27 + 0 ≤ _)⟩)
    dsimp only [Pt.U, Pt.locs, Pt.cells, Pt.slots] at X274 l274 y274 z274 st274 hQ274
    subst l274 y274 z274
    obtain ⟨rfl, Nq274, eq274⟩ := hQ274
    have N274 := Fr.app NH271 Nq274
    obtain ⟨LH274, XH274, NH274⟩ := own_hide X274 N274
    clear X274 N274
    have k275 : ∀ t, Steps p.tables e below (T274.setTop (mkF m 203 #[.val (.int p0), .val (.int p1), .val (.int p2), .val (.int p3), .val (.int p4), .val (.int p5), .val (.int z), .val (.int n6), .val (.ref b165), .val (.ref b189), .val (.int ec), .unset] [(.ref b253)])) t → Steps p.tables e below (s₁.setTop (entryFrame m #[(.int p0), (.int p1), (.int p2), (.int p3), (.int p4), (.int p5)] maxLocals)) t := fun t k => k273 t (st274.trans k)
    have k277 : ∀ t, Steps p.tables e below (T274.setTop (mkF m 222 #[.val (.int p0), .val (.int p1), .val (.int p2), .val (.int p3), .val (.int p4), .val (.int p5), .val (.int z), .val (.int n6), .val (.ref b165), .val (.ref b189), .val (.int ec), .val (.ref b253)] [(.int (0 : Int32)), (.int n6), (.ref b165), (.ref b253)])) t → Steps p.tables e below (s₁.setTop (entryFrame m #[(.int p0), (.int p1), (.int p2), (.int p3), (.int p4), (.int p5)] maxLocals)) t := fun t k => k275 t (by
      show Steps p.tables e below (T274.setTop (mkF m 203 #[.val (.int p0), .val (.int p1), .val (.int p2), .val (.int p3), .val (.int p4), .val (.int p5), .val (.int z), .val (.int n6), .val (.ref b165), .val (.ref b189), .val (.int ec), .unset] [(.ref b253)])) _
      refine XS.astore XH274.here hx rfl (hb hby at_203) rfl rfl (l' := #[.val (.int p0), .val (.int p1), .val (.int p2), .val (.int p3), .val (.int p4), .val (.int p5), .val (.int z), .val (.int n6), .val (.ref b165), .val (.ref b189), .val (.int ec), .val (.ref b253)]) rfl ?_
      show Steps p.tables e below (T274.setTop (mkF m 205 #[.val (.int p0), .val (.int p1), .val (.int p2), .val (.int p3), .val (.int p4), .val (.int p5), .val (.int z), .val (.int n6), .val (.ref b165), .val (.ref b189), .val (.int ec), .val (.ref b253)] [])) _
      refine XS.aload XH274.here hx rfl (hb hby at_205) rfl rfl ?_
      show Steps p.tables e below (T274.setTop (mkF m 207 #[.val (.int p0), .val (.int p1), .val (.int p2), .val (.int p3), .val (.int p4), .val (.int p5), .val (.int z), .val (.int n6), .val (.ref b165), .val (.ref b189), .val (.int ec), .val (.ref b253)] [(.ref b253)])) _
      obtain ⟨clq276, Arq276, -, Sq276, Nq276, -, -⟩ := id Vx253
      refine XH274.arraylength hx (by rw [eq274]; exact Arq276.1) (State.isArrayOf_alike hZ.alike Arq276.2.1) (g := (mkF m 207 #[.val (.int p0), .val (.int p1), .val (.int p2), .val (.int p3), .val (.int p4), .val (.int p5), .val (.int z), .val (.int n6), .val (.ref b165), .val (.ref b189), .val (.int ec), .val (.ref b253)] [(.ref b253)])) rfl rfl (hb hby at_207) _ ?_
      rw [len_of Sq276 Nq276]
      show Steps p.tables e below (T274.setTop (mkF m 208 #[.val (.int p0), .val (.int p1), .val (.int p2), .val (.int p3), .val (.int p4), .val (.int p5), .val (.int z), .val (.int n6), .val (.ref b165), .val (.ref b189), .val (.int ec), .val (.ref b253)] [(.int (own_cap (0 : Int32) z))])) _
      refine XS.iload XH274.here hx rfl (hb hby at_208) rfl ?_
      show Steps p.tables e below (T274.setTop (mkF m 210 #[.val (.int p0), .val (.int p1), .val (.int p2), .val (.int p3), .val (.int p4), .val (.int p5), .val (.int z), .val (.int n6), .val (.ref b165), .val (.ref b189), .val (.int ec), .val (.ref b253)] [(.int ec), (.int (own_cap (0 : Int32) z))])) _
      refine XS.icmpYes XH274.here hx rfl (pc0 := 210) (pc' := 215) rfl (hb hby at_210) rfl (teq (by rw [hec, hn]; rcases hz with rfl | rfl | rfl | rfl <;> decide)).1 (by decide) (by decide) ?_
      show Steps p.tables e below (T274.setTop (mkF m 215 #[.val (.int p0), .val (.int p1), .val (.int p2), .val (.int p3), .val (.int p4), .val (.int p5), .val (.int z), .val (.int n6), .val (.ref b165), .val (.ref b189), .val (.int ec), .val (.ref b253)] [])) _
      refine XS.aload XH274.here hx rfl (hb hby at_215) rfl rfl ?_
      show Steps p.tables e below (T274.setTop (mkF m 217 #[.val (.int p0), .val (.int p1), .val (.int p2), .val (.int p3), .val (.int p4), .val (.int p5), .val (.int z), .val (.int n6), .val (.ref b165), .val (.ref b189), .val (.int ec), .val (.ref b253)] [(.ref b253)])) _
      refine XS.aload XH274.here hx rfl (hb hby at_217) rfl rfl ?_
      show Steps p.tables e below (T274.setTop (mkF m 219 #[.val (.int p0), .val (.int p1), .val (.int p2), .val (.int p3), .val (.int p4), .val (.int p5), .val (.int z), .val (.int n6), .val (.ref b165), .val (.ref b189), .val (.int ec), .val (.ref b253)] [(.ref b165), (.ref b253)])) _
      refine XS.iload XH274.here hx rfl (hb hby at_219) rfl ?_
      show Steps p.tables e below (T274.setTop (mkF m 221 #[.val (.int p0), .val (.int p1), .val (.int p2), .val (.int p3), .val (.int p4), .val (.int p5), .val (.int z), .val (.int n6), .val (.ref b165), .val (.ref b189), .val (.int ec), .val (.ref b253)] [(.int n6), (.ref b165), (.ref b253)])) _
      refine XS.iconst XH274.here hx rfl (hb hby at_221) ?_
      exact k)
    obtain ⟨_, _, ⟨T278, L278, kc278, ks278⟩, -, X278, ⟨Lc278, hQ278, l278, y278, z278⟩, st278⟩ := Jvm.LawKit.callS XH274 hx (y := (⟨"com/example/wegweiser/wegweiser/index/ByteSinkWritePinLaw", "at", "([B[III)Z"⟩ : MethodName)) hown (mvT hZ (hw _ (List.mem_of_getElem? (i := 53) rfl))) (mvT hZ (hw _ (List.mem_of_getElem? (i := 54) rfl))) (mvT hZ (hw _ (List.mem_of_getElem? (i := 55) rfl))) (mvT hZ (hw _ (List.mem_of_getElem? (i := 56) rfl))) (by decide) (backOf (W := 0) (rm10 l Z a0 hw [] b253 b165 n6 (0 : Int32) kb253 (own_cap (0 : Int32) z) ([] ++ [(.int (own_b p2))]) c165 [(.int p2), (.int p3), (.int p4), (.int p5), (.int (p2 ^^^ p4))] (own_b p2) p2 T253.heap n0 Z254 Vx253 F255 (by decide) rfl (fun _ => ⟨⟨by decide, by decide⟩, rfl⟩) (fun _ => rfl) (fun h => absurd h (by rw [hn]; decide))) hZ (hw _ (List.mem_of_getElem? (i := 56) rfl)) (hw _ (List.mem_of_getElem? (i := 55) rfl)) (by decide) (by decide)) (g := (mkF m 222 #[.val (.int p0), .val (.int p1), .val (.int p2), .val (.int p3), .val (.int p4), .val (.int p5), .val (.int z), .val (.int n6), .val (.ref b165), .val (.ref b189), .val (.int ec), .val (.ref b253)] [(.int (0 : Int32)), (.int n6), (.ref b165), (.ref b253)])) rfl (by rw [hml]; rfl) (argsL := [(.ref b253), (.ref b165), (.int n6), (.int (0 : Int32))]) (rest := []) (lenOf pd_6 rfl) rfl (by show 2 * 0 + _ ≤ _; exact Nat.le_of_eq rfl) (hb hby at_222) (fun _ _ => ⟨rfl, eq274, (by decide : 4 + 0 ≤ _), (by decide : 27 + 0 ≤ _)⟩)
    dsimp only [Pt.U, Pt.locs, Pt.cells, Pt.slots] at X278 l278 y278 z278 st278 hQ278
    subst l278 y278 z278
    obtain ⟨rfl, Nq278, eq278⟩ := hQ278
    have N278 := Fr.app NH274 Nq278
    obtain ⟨LH278, XH278, NH278⟩ := own_hide X278 N278
    clear X278 N278
    have k279 : ∀ t, Steps p.tables e below (T278.setTop (mkF m 225 #[.val (.int p0), .val (.int p1), .val (.int p2), .val (.int p3), .val (.int p4), .val (.int p5), .val (.int z), .val (.int n6), .val (.ref b165), .val (.ref b189), .val (.int ec), .val (.ref b253)] [(.int (1 : Int32))])) t → Steps p.tables e below (s₁.setTop (entryFrame m #[(.int p0), (.int p1), (.int p2), (.int p3), (.int p4), (.int p5)] maxLocals)) t := fun t k => k277 t (st278 t k)
    have k280 : ∀ t, Steps p.tables e below (T278.setTop (mkF m 235 #[.val (.int p0), .val (.int p1), .val (.int p2), .val (.int p3), .val (.int p4), .val (.int p5), .val (.int z), .val (.int n6), .val (.ref b165), .val (.ref b189), .val (.int ec), .val (.ref b253)] [(.int (1 : Int32)), (.int n6), (.ref b165), (.ref b253)])) t → Steps p.tables e below (s₁.setTop (entryFrame m #[(.int p0), (.int p1), (.int p2), (.int p3), (.int p4), (.int p5)] maxLocals)) t := fun t k => k279 t (by
      show Steps p.tables e below (T278.setTop (mkF m 225 #[.val (.int p0), .val (.int p1), .val (.int p2), .val (.int p3), .val (.int p4), .val (.int p5), .val (.int z), .val (.int n6), .val (.ref b165), .val (.ref b189), .val (.int ec), .val (.ref b253)] [(.int (1 : Int32))])) _
      refine XS.ifNo XH278.here hx rfl (hb hby at_225) rfl ((if0 _ _).trans (feq (by decide : ¬ ((1 : Int32) = (0 : Int32)))).1) ?_
      show Steps p.tables e below (T278.setTop (mkF m 228 #[.val (.int p0), .val (.int p1), .val (.int p2), .val (.int p3), .val (.int p4), .val (.int p5), .val (.int z), .val (.int n6), .val (.ref b165), .val (.ref b189), .val (.int ec), .val (.ref b253)] [])) _
      refine XS.aload XH278.here hx rfl (hb hby at_228) rfl rfl ?_
      show Steps p.tables e below (T278.setTop (mkF m 230 #[.val (.int p0), .val (.int p1), .val (.int p2), .val (.int p3), .val (.int p4), .val (.int p5), .val (.int z), .val (.int n6), .val (.ref b165), .val (.ref b189), .val (.int ec), .val (.ref b253)] [(.ref b253)])) _
      refine XS.aload XH278.here hx rfl (hb hby at_230) rfl rfl ?_
      show Steps p.tables e below (T278.setTop (mkF m 232 #[.val (.int p0), .val (.int p1), .val (.int p2), .val (.int p3), .val (.int p4), .val (.int p5), .val (.int z), .val (.int n6), .val (.ref b165), .val (.ref b189), .val (.int ec), .val (.ref b253)] [(.ref b165), (.ref b253)])) _
      refine XS.iload XH278.here hx rfl (hb hby at_232) rfl ?_
      show Steps p.tables e below (T278.setTop (mkF m 234 #[.val (.int p0), .val (.int p1), .val (.int p2), .val (.int p3), .val (.int p4), .val (.int p5), .val (.int z), .val (.int n6), .val (.ref b165), .val (.ref b189), .val (.int ec), .val (.ref b253)] [(.int n6), (.ref b165), (.ref b253)])) _
      refine XS.iconst XH278.here hx rfl (hb hby at_234) ?_
      exact k)
    obtain ⟨_, _, ⟨T281, L281, kc281, ks281⟩, -, X281, ⟨Lc281, hQ281, l281, y281, z281⟩, st281⟩ := Jvm.LawKit.callS XH278 hx (y := (⟨"com/example/wegweiser/wegweiser/index/ByteSinkWritePinLaw", "at", "([B[III)Z"⟩ : MethodName)) hown (mvT hZ (hw _ (List.mem_of_getElem? (i := 53) rfl))) (mvT hZ (hw _ (List.mem_of_getElem? (i := 54) rfl))) (mvT hZ (hw _ (List.mem_of_getElem? (i := 55) rfl))) (mvT hZ (hw _ (List.mem_of_getElem? (i := 56) rfl))) (by decide) (backOf (W := 0) (rm10 l Z a0 hw [] b253 b165 n6 (1 : Int32) kb253 (own_cap (0 : Int32) z) ([] ++ [(.int (own_b p2))]) c165 [(.int p2), (.int p3), (.int p4), (.int p5), (.int (p2 ^^^ p4))] (0 : Int32) p3 T253.heap n0 Z254 Vx253 F255 (by decide) rfl (fun _ => ⟨⟨by decide, by decide⟩, rfl⟩) (fun h => absurd h (by rw [hn]; decide)) (fun _ => rfl)) hZ (hw _ (List.mem_of_getElem? (i := 56) rfl)) (hw _ (List.mem_of_getElem? (i := 55) rfl)) (by decide) (by decide)) (g := (mkF m 235 #[.val (.int p0), .val (.int p1), .val (.int p2), .val (.int p3), .val (.int p4), .val (.int p5), .val (.int z), .val (.int n6), .val (.ref b165), .val (.ref b189), .val (.int ec), .val (.ref b253)] [(.int (1 : Int32)), (.int n6), (.ref b165), (.ref b253)])) rfl (by rw [hml]; rfl) (argsL := [(.ref b253), (.ref b165), (.int n6), (.int (1 : Int32))]) (rest := []) (lenOf pd_6 rfl) rfl (by show 2 * 0 + _ ≤ _; exact Nat.le_of_eq rfl) (hb hby at_235) (fun _ _ => ⟨rfl, eq278, (by decide : 4 + 0 ≤ _), (by decide : 27 + 0 ≤ _)⟩)
    dsimp only [Pt.U, Pt.locs, Pt.cells, Pt.slots] at X281 l281 y281 z281 st281 hQ281
    subst l281 y281 z281
    obtain ⟨rfl, Nq281, eq281⟩ := hQ281
    have N281 := Fr.app NH278 Nq281
    obtain ⟨LH281, XH281, NH281⟩ := own_hide X281 N281
    clear X281 N281
    have k282 : ∀ t, Steps p.tables e below (T281.setTop (mkF m 238 #[.val (.int p0), .val (.int p1), .val (.int p2), .val (.int p3), .val (.int p4), .val (.int p5), .val (.int z), .val (.int n6), .val (.ref b165), .val (.ref b189), .val (.int ec), .val (.ref b253)] [(.int (1 : Int32))])) t → Steps p.tables e below (s₁.setTop (entryFrame m #[(.int p0), (.int p1), (.int p2), (.int p3), (.int p4), (.int p5)] maxLocals)) t := fun t k => k280 t (st281 t k)
    have k283 : ∀ t, Steps p.tables e below (T281.setTop (mkF m 248 #[.val (.int p0), .val (.int p1), .val (.int p2), .val (.int p3), .val (.int p4), .val (.int p5), .val (.int z), .val (.int n6), .val (.ref b165), .val (.ref b189), .val (.int ec), .val (.ref b253)] [(.int (2 : Int32)), (.int n6), (.ref b165), (.ref b253)])) t → Steps p.tables e below (s₁.setTop (entryFrame m #[(.int p0), (.int p1), (.int p2), (.int p3), (.int p4), (.int p5)] maxLocals)) t := fun t k => k282 t (by
      show Steps p.tables e below (T281.setTop (mkF m 238 #[.val (.int p0), .val (.int p1), .val (.int p2), .val (.int p3), .val (.int p4), .val (.int p5), .val (.int z), .val (.int n6), .val (.ref b165), .val (.ref b189), .val (.int ec), .val (.ref b253)] [(.int (1 : Int32))])) _
      refine XS.ifNo XH281.here hx rfl (hb hby at_238) rfl ((if0 _ _).trans (feq (by decide : ¬ ((1 : Int32) = (0 : Int32)))).1) ?_
      show Steps p.tables e below (T281.setTop (mkF m 241 #[.val (.int p0), .val (.int p1), .val (.int p2), .val (.int p3), .val (.int p4), .val (.int p5), .val (.int z), .val (.int n6), .val (.ref b165), .val (.ref b189), .val (.int ec), .val (.ref b253)] [])) _
      refine XS.aload XH281.here hx rfl (hb hby at_241) rfl rfl ?_
      show Steps p.tables e below (T281.setTop (mkF m 243 #[.val (.int p0), .val (.int p1), .val (.int p2), .val (.int p3), .val (.int p4), .val (.int p5), .val (.int z), .val (.int n6), .val (.ref b165), .val (.ref b189), .val (.int ec), .val (.ref b253)] [(.ref b253)])) _
      refine XS.aload XH281.here hx rfl (hb hby at_243) rfl rfl ?_
      show Steps p.tables e below (T281.setTop (mkF m 245 #[.val (.int p0), .val (.int p1), .val (.int p2), .val (.int p3), .val (.int p4), .val (.int p5), .val (.int z), .val (.int n6), .val (.ref b165), .val (.ref b189), .val (.int ec), .val (.ref b253)] [(.ref b165), (.ref b253)])) _
      refine XS.iload XH281.here hx rfl (hb hby at_245) rfl ?_
      show Steps p.tables e below (T281.setTop (mkF m 247 #[.val (.int p0), .val (.int p1), .val (.int p2), .val (.int p3), .val (.int p4), .val (.int p5), .val (.int z), .val (.int n6), .val (.ref b165), .val (.ref b189), .val (.int ec), .val (.ref b253)] [(.int n6), (.ref b165), (.ref b253)])) _
      refine XS.iconst XH281.here hx rfl (hb hby at_247) ?_
      exact k)
    obtain ⟨_, _, ⟨T284, L284, kc284, ks284⟩, -, X284, ⟨Lc284, hQ284, l284, y284, z284⟩, st284⟩ := Jvm.LawKit.callS XH281 hx (y := (⟨"com/example/wegweiser/wegweiser/index/ByteSinkWritePinLaw", "at", "([B[III)Z"⟩ : MethodName)) hown (mvT hZ (hw _ (List.mem_of_getElem? (i := 53) rfl))) (mvT hZ (hw _ (List.mem_of_getElem? (i := 54) rfl))) (mvT hZ (hw _ (List.mem_of_getElem? (i := 55) rfl))) (mvT hZ (hw _ (List.mem_of_getElem? (i := 56) rfl))) (by decide) (backOf (W := 0) (rm10 l Z a0 hw [] b253 b165 n6 (2 : Int32) kb253 (own_cap (0 : Int32) z) ([] ++ [(.int (own_b p2))]) c165 [(.int p2), (.int p3), (.int p4), (.int p5), (.int (p2 ^^^ p4))] (0 : Int32) p4 T253.heap n0 Z254 Vx253 F255 (by decide) rfl (fun _ => ⟨⟨by decide, by decide⟩, rfl⟩) (fun h => absurd h (by rw [hn]; decide)) (fun _ => rfl)) hZ (hw _ (List.mem_of_getElem? (i := 56) rfl)) (hw _ (List.mem_of_getElem? (i := 55) rfl)) (by decide) (by decide)) (g := (mkF m 248 #[.val (.int p0), .val (.int p1), .val (.int p2), .val (.int p3), .val (.int p4), .val (.int p5), .val (.int z), .val (.int n6), .val (.ref b165), .val (.ref b189), .val (.int ec), .val (.ref b253)] [(.int (2 : Int32)), (.int n6), (.ref b165), (.ref b253)])) rfl (by rw [hml]; rfl) (argsL := [(.ref b253), (.ref b165), (.int n6), (.int (2 : Int32))]) (rest := []) (lenOf pd_6 rfl) rfl (by show 2 * 0 + _ ≤ _; exact Nat.le_of_eq rfl) (hb hby at_248) (fun _ _ => ⟨rfl, eq281, (by decide : 4 + 0 ≤ _), (by decide : 27 + 0 ≤ _)⟩)
    dsimp only [Pt.U, Pt.locs, Pt.cells, Pt.slots] at X284 l284 y284 z284 st284 hQ284
    subst l284 y284 z284
    obtain ⟨rfl, Nq284, eq284⟩ := hQ284
    have N284 := Fr.app NH281 Nq284
    obtain ⟨LH284, XH284, NH284⟩ := own_hide X284 N284
    clear X284 N284
    have k285 : ∀ t, Steps p.tables e below (T284.setTop (mkF m 251 #[.val (.int p0), .val (.int p1), .val (.int p2), .val (.int p3), .val (.int p4), .val (.int p5), .val (.int z), .val (.int n6), .val (.ref b165), .val (.ref b189), .val (.int ec), .val (.ref b253)] [(.int (1 : Int32))])) t → Steps p.tables e below (s₁.setTop (entryFrame m #[(.int p0), (.int p1), (.int p2), (.int p3), (.int p4), (.int p5)] maxLocals)) t := fun t k => k283 t (st284 t k)
    have k286 : ∀ t, Steps p.tables e below (T284.setTop (mkF m 261 #[.val (.int p0), .val (.int p1), .val (.int p2), .val (.int p3), .val (.int p4), .val (.int p5), .val (.int z), .val (.int n6), .val (.ref b165), .val (.ref b189), .val (.int ec), .val (.ref b253)] [(.int (3 : Int32)), (.int n6), (.ref b165), (.ref b253)])) t → Steps p.tables e below (s₁.setTop (entryFrame m #[(.int p0), (.int p1), (.int p2), (.int p3), (.int p4), (.int p5)] maxLocals)) t := fun t k => k285 t (by
      show Steps p.tables e below (T284.setTop (mkF m 251 #[.val (.int p0), .val (.int p1), .val (.int p2), .val (.int p3), .val (.int p4), .val (.int p5), .val (.int z), .val (.int n6), .val (.ref b165), .val (.ref b189), .val (.int ec), .val (.ref b253)] [(.int (1 : Int32))])) _
      refine XS.ifNo XH284.here hx rfl (hb hby at_251) rfl ((if0 _ _).trans (feq (by decide : ¬ ((1 : Int32) = (0 : Int32)))).1) ?_
      show Steps p.tables e below (T284.setTop (mkF m 254 #[.val (.int p0), .val (.int p1), .val (.int p2), .val (.int p3), .val (.int p4), .val (.int p5), .val (.int z), .val (.int n6), .val (.ref b165), .val (.ref b189), .val (.int ec), .val (.ref b253)] [])) _
      refine XS.aload XH284.here hx rfl (hb hby at_254) rfl rfl ?_
      show Steps p.tables e below (T284.setTop (mkF m 256 #[.val (.int p0), .val (.int p1), .val (.int p2), .val (.int p3), .val (.int p4), .val (.int p5), .val (.int z), .val (.int n6), .val (.ref b165), .val (.ref b189), .val (.int ec), .val (.ref b253)] [(.ref b253)])) _
      refine XS.aload XH284.here hx rfl (hb hby at_256) rfl rfl ?_
      show Steps p.tables e below (T284.setTop (mkF m 258 #[.val (.int p0), .val (.int p1), .val (.int p2), .val (.int p3), .val (.int p4), .val (.int p5), .val (.int z), .val (.int n6), .val (.ref b165), .val (.ref b189), .val (.int ec), .val (.ref b253)] [(.ref b165), (.ref b253)])) _
      refine XS.iload XH284.here hx rfl (hb hby at_258) rfl ?_
      show Steps p.tables e below (T284.setTop (mkF m 260 #[.val (.int p0), .val (.int p1), .val (.int p2), .val (.int p3), .val (.int p4), .val (.int p5), .val (.int z), .val (.int n6), .val (.ref b165), .val (.ref b189), .val (.int ec), .val (.ref b253)] [(.int n6), (.ref b165), (.ref b253)])) _
      refine XS.iconst XH284.here hx rfl (hb hby at_260) ?_
      exact k)
    obtain ⟨_, _, ⟨T287, L287, kc287, ks287⟩, -, X287, ⟨Lc287, hQ287, l287, y287, z287⟩, st287⟩ := Jvm.LawKit.callS XH284 hx (y := (⟨"com/example/wegweiser/wegweiser/index/ByteSinkWritePinLaw", "at", "([B[III)Z"⟩ : MethodName)) hown (mvT hZ (hw _ (List.mem_of_getElem? (i := 53) rfl))) (mvT hZ (hw _ (List.mem_of_getElem? (i := 54) rfl))) (mvT hZ (hw _ (List.mem_of_getElem? (i := 55) rfl))) (mvT hZ (hw _ (List.mem_of_getElem? (i := 56) rfl))) (by decide) (backOf (W := 0) (rm10 l Z a0 hw [] b253 b165 n6 (3 : Int32) kb253 (own_cap (0 : Int32) z) ([] ++ [(.int (own_b p2))]) c165 [(.int p2), (.int p3), (.int p4), (.int p5), (.int (p2 ^^^ p4))] (0 : Int32) p5 T253.heap n0 Z254 Vx253 F255 (by decide) rfl (fun _ => ⟨⟨by decide, by decide⟩, rfl⟩) (fun h => absurd h (by rw [hn]; decide)) (fun _ => rfl)) hZ (hw _ (List.mem_of_getElem? (i := 56) rfl)) (hw _ (List.mem_of_getElem? (i := 55) rfl)) (by decide) (by decide)) (g := (mkF m 261 #[.val (.int p0), .val (.int p1), .val (.int p2), .val (.int p3), .val (.int p4), .val (.int p5), .val (.int z), .val (.int n6), .val (.ref b165), .val (.ref b189), .val (.int ec), .val (.ref b253)] [(.int (3 : Int32)), (.int n6), (.ref b165), (.ref b253)])) rfl (by rw [hml]; rfl) (argsL := [(.ref b253), (.ref b165), (.int n6), (.int (3 : Int32))]) (rest := []) (lenOf pd_6 rfl) rfl (by show 2 * 0 + _ ≤ _; exact Nat.le_of_eq rfl) (hb hby at_261) (fun _ _ => ⟨rfl, eq284, (by decide : 4 + 0 ≤ _), (by decide : 27 + 0 ≤ _)⟩)
    dsimp only [Pt.U, Pt.locs, Pt.cells, Pt.slots] at X287 l287 y287 z287 st287 hQ287
    subst l287 y287 z287
    obtain ⟨rfl, Nq287, eq287⟩ := hQ287
    have N287 := Fr.app NH284 Nq287
    obtain ⟨LH287, XH287, NH287⟩ := own_hide X287 N287
    clear X287 N287
    have k288 : ∀ t, Steps p.tables e below (T287.setTop (mkF m 264 #[.val (.int p0), .val (.int p1), .val (.int p2), .val (.int p3), .val (.int p4), .val (.int p5), .val (.int z), .val (.int n6), .val (.ref b165), .val (.ref b189), .val (.int ec), .val (.ref b253)] [(.int (1 : Int32))])) t → Steps p.tables e below (s₁.setTop (entryFrame m #[(.int p0), (.int p1), (.int p2), (.int p3), (.int p4), (.int p5)] maxLocals)) t := fun t k => k286 t (st287 t k)
    have k289 : ∀ t, Steps p.tables e below (T287.setTop (mkF m 274 #[.val (.int p0), .val (.int p1), .val (.int p2), .val (.int p3), .val (.int p4), .val (.int p5), .val (.int z), .val (.int n6), .val (.ref b165), .val (.ref b189), .val (.int ec), .val (.ref b253)] [(.int (4 : Int32)), (.int n6), (.ref b165), (.ref b253)])) t → Steps p.tables e below (s₁.setTop (entryFrame m #[(.int p0), (.int p1), (.int p2), (.int p3), (.int p4), (.int p5)] maxLocals)) t := fun t k => k288 t (by
      show Steps p.tables e below (T287.setTop (mkF m 264 #[.val (.int p0), .val (.int p1), .val (.int p2), .val (.int p3), .val (.int p4), .val (.int p5), .val (.int z), .val (.int n6), .val (.ref b165), .val (.ref b189), .val (.int ec), .val (.ref b253)] [(.int (1 : Int32))])) _
      refine XS.ifNo XH287.here hx rfl (hb hby at_264) rfl ((if0 _ _).trans (feq (by decide : ¬ ((1 : Int32) = (0 : Int32)))).1) ?_
      show Steps p.tables e below (T287.setTop (mkF m 267 #[.val (.int p0), .val (.int p1), .val (.int p2), .val (.int p3), .val (.int p4), .val (.int p5), .val (.int z), .val (.int n6), .val (.ref b165), .val (.ref b189), .val (.int ec), .val (.ref b253)] [])) _
      refine XS.aload XH287.here hx rfl (hb hby at_267) rfl rfl ?_
      show Steps p.tables e below (T287.setTop (mkF m 269 #[.val (.int p0), .val (.int p1), .val (.int p2), .val (.int p3), .val (.int p4), .val (.int p5), .val (.int z), .val (.int n6), .val (.ref b165), .val (.ref b189), .val (.int ec), .val (.ref b253)] [(.ref b253)])) _
      refine XS.aload XH287.here hx rfl (hb hby at_269) rfl rfl ?_
      show Steps p.tables e below (T287.setTop (mkF m 271 #[.val (.int p0), .val (.int p1), .val (.int p2), .val (.int p3), .val (.int p4), .val (.int p5), .val (.int z), .val (.int n6), .val (.ref b165), .val (.ref b189), .val (.int ec), .val (.ref b253)] [(.ref b165), (.ref b253)])) _
      refine XS.iload XH287.here hx rfl (hb hby at_271) rfl ?_
      show Steps p.tables e below (T287.setTop (mkF m 273 #[.val (.int p0), .val (.int p1), .val (.int p2), .val (.int p3), .val (.int p4), .val (.int p5), .val (.int z), .val (.int n6), .val (.ref b165), .val (.ref b189), .val (.int ec), .val (.ref b253)] [(.int n6), (.ref b165), (.ref b253)])) _
      refine XS.iconst XH287.here hx rfl (hb hby at_273) ?_
      exact k)
    obtain ⟨_, _, ⟨T290, L290, kc290, ks290⟩, -, X290, ⟨Lc290, hQ290, l290, y290, z290⟩, st290⟩ := Jvm.LawKit.callS XH287 hx (y := (⟨"com/example/wegweiser/wegweiser/index/ByteSinkWritePinLaw", "at", "([B[III)Z"⟩ : MethodName)) hown (mvT hZ (hw _ (List.mem_of_getElem? (i := 53) rfl))) (mvT hZ (hw _ (List.mem_of_getElem? (i := 54) rfl))) (mvT hZ (hw _ (List.mem_of_getElem? (i := 55) rfl))) (mvT hZ (hw _ (List.mem_of_getElem? (i := 56) rfl))) (by decide) (backOf (W := 0) (rm10 l Z a0 hw [] b253 b165 n6 (4 : Int32) kb253 (own_cap (0 : Int32) z) ([] ++ [(.int (own_b p2))]) c165 [(.int p2), (.int p3), (.int p4), (.int p5), (.int (p2 ^^^ p4))] (0 : Int32) (p2 ^^^ p4) T253.heap n0 Z254 Vx253 F255 (by decide) rfl (fun _ => ⟨⟨by decide, by decide⟩, rfl⟩) (fun h => absurd h (by rw [hn]; decide)) (fun _ => rfl)) hZ (hw _ (List.mem_of_getElem? (i := 56) rfl)) (hw _ (List.mem_of_getElem? (i := 55) rfl)) (by decide) (by decide)) (g := (mkF m 274 #[.val (.int p0), .val (.int p1), .val (.int p2), .val (.int p3), .val (.int p4), .val (.int p5), .val (.int z), .val (.int n6), .val (.ref b165), .val (.ref b189), .val (.int ec), .val (.ref b253)] [(.int (4 : Int32)), (.int n6), (.ref b165), (.ref b253)])) rfl (by rw [hml]; rfl) (argsL := [(.ref b253), (.ref b165), (.int n6), (.int (4 : Int32))]) (rest := []) (lenOf pd_6 rfl) rfl (by show 2 * 0 + _ ≤ _; exact Nat.le_of_eq rfl) (hb hby at_274) (fun _ _ => ⟨rfl, eq287, (by decide : 4 + 0 ≤ _), (by decide : 27 + 0 ≤ _)⟩)
    dsimp only [Pt.U, Pt.locs, Pt.cells, Pt.slots] at X290 l290 y290 z290 st290 hQ290
    subst l290 y290 z290
    obtain ⟨rfl, Nq290, eq290⟩ := hQ290
    have N290 := Fr.app NH287 Nq290
    obtain ⟨LH290, XH290, NH290⟩ := own_hide X290 N290
    clear X290 N290
    have k291 : ∀ t, Steps p.tables e below (T290.setTop (mkF m 277 #[.val (.int p0), .val (.int p1), .val (.int p2), .val (.int p3), .val (.int p4), .val (.int p5), .val (.int z), .val (.int n6), .val (.ref b165), .val (.ref b189), .val (.int ec), .val (.ref b253)] [(.int (1 : Int32))])) t → Steps p.tables e below (s₁.setTop (entryFrame m #[(.int p0), (.int p1), (.int p2), (.int p3), (.int p4), (.int p5)] maxLocals)) t := fun t k => k289 t (st290 t k)
    have k292 : ∀ t, Steps p.tables e below (T290.setTop (mkF m 287 #[.val (.int p0), .val (.int p1), .val (.int p2), .val (.int p3), .val (.int p4), .val (.int p5), .val (.int z), .val (.int n6), .val (.ref b165), .val (.ref b189), .val (.int ec), .val (.ref b253)] [(.int (5 : Int32)), (.int n6), (.ref b165), (.ref b253)])) t → Steps p.tables e below (s₁.setTop (entryFrame m #[(.int p0), (.int p1), (.int p2), (.int p3), (.int p4), (.int p5)] maxLocals)) t := fun t k => k291 t (by
      show Steps p.tables e below (T290.setTop (mkF m 277 #[.val (.int p0), .val (.int p1), .val (.int p2), .val (.int p3), .val (.int p4), .val (.int p5), .val (.int z), .val (.int n6), .val (.ref b165), .val (.ref b189), .val (.int ec), .val (.ref b253)] [(.int (1 : Int32))])) _
      refine XS.ifNo XH290.here hx rfl (hb hby at_277) rfl ((if0 _ _).trans (feq (by decide : ¬ ((1 : Int32) = (0 : Int32)))).1) ?_
      show Steps p.tables e below (T290.setTop (mkF m 280 #[.val (.int p0), .val (.int p1), .val (.int p2), .val (.int p3), .val (.int p4), .val (.int p5), .val (.int z), .val (.int n6), .val (.ref b165), .val (.ref b189), .val (.int ec), .val (.ref b253)] [])) _
      refine XS.aload XH290.here hx rfl (hb hby at_280) rfl rfl ?_
      show Steps p.tables e below (T290.setTop (mkF m 282 #[.val (.int p0), .val (.int p1), .val (.int p2), .val (.int p3), .val (.int p4), .val (.int p5), .val (.int z), .val (.int n6), .val (.ref b165), .val (.ref b189), .val (.int ec), .val (.ref b253)] [(.ref b253)])) _
      refine XS.aload XH290.here hx rfl (hb hby at_282) rfl rfl ?_
      show Steps p.tables e below (T290.setTop (mkF m 284 #[.val (.int p0), .val (.int p1), .val (.int p2), .val (.int p3), .val (.int p4), .val (.int p5), .val (.int z), .val (.int n6), .val (.ref b165), .val (.ref b189), .val (.int ec), .val (.ref b253)] [(.ref b165), (.ref b253)])) _
      refine XS.iload XH290.here hx rfl (hb hby at_284) rfl ?_
      show Steps p.tables e below (T290.setTop (mkF m 286 #[.val (.int p0), .val (.int p1), .val (.int p2), .val (.int p3), .val (.int p4), .val (.int p5), .val (.int z), .val (.int n6), .val (.ref b165), .val (.ref b189), .val (.int ec), .val (.ref b253)] [(.int n6), (.ref b165), (.ref b253)])) _
      refine XS.iconst XH290.here hx rfl (hb hby at_286) ?_
      exact k)
    obtain ⟨_, _, ⟨T293, L293, kc293, ks293⟩, -, X293, ⟨Lc293, hQ293, l293, y293, z293⟩, st293⟩ := Jvm.LawKit.callS XH290 hx (y := (⟨"com/example/wegweiser/wegweiser/index/ByteSinkWritePinLaw", "at", "([B[III)Z"⟩ : MethodName)) hown (mvT hZ (hw _ (List.mem_of_getElem? (i := 53) rfl))) (mvT hZ (hw _ (List.mem_of_getElem? (i := 54) rfl))) (mvT hZ (hw _ (List.mem_of_getElem? (i := 55) rfl))) (mvT hZ (hw _ (List.mem_of_getElem? (i := 56) rfl))) (by decide) (backOf (W := 0) (rm10 l Z a0 hw [] b253 b165 n6 (5 : Int32) kb253 (own_cap (0 : Int32) z) ([] ++ [(.int (own_b p2))]) c165 [(.int p2), (.int p3), (.int p4), (.int p5), (.int (p2 ^^^ p4))] (0 : Int32) (0 : Int32) T253.heap n0 Z254 Vx253 F255 (by decide) rfl (fun h => absurd h (by rw [hn]; decide)) (fun h => absurd h (by rw [hn]; decide)) (fun _ => rfl)) hZ (hw _ (List.mem_of_getElem? (i := 56) rfl)) (hw _ (List.mem_of_getElem? (i := 55) rfl)) (by decide) (by decide)) (g := (mkF m 287 #[.val (.int p0), .val (.int p1), .val (.int p2), .val (.int p3), .val (.int p4), .val (.int p5), .val (.int z), .val (.int n6), .val (.ref b165), .val (.ref b189), .val (.int ec), .val (.ref b253)] [(.int (5 : Int32)), (.int n6), (.ref b165), (.ref b253)])) rfl (by rw [hml]; rfl) (argsL := [(.ref b253), (.ref b165), (.int n6), (.int (5 : Int32))]) (rest := []) (lenOf pd_6 rfl) rfl (by show 2 * 0 + _ ≤ _; exact Nat.le_of_eq rfl) (hb hby at_287) (fun _ _ => ⟨rfl, eq290, (by decide : 4 + 0 ≤ _), (by decide : 27 + 0 ≤ _)⟩)
    dsimp only [Pt.U, Pt.locs, Pt.cells, Pt.slots] at X293 l293 y293 z293 st293 hQ293
    subst l293 y293 z293
    obtain ⟨rfl, Nq293, eq293⟩ := hQ293
    have N293 := Fr.app NH290 Nq293
    obtain ⟨LH293, XH293, NH293⟩ := own_hide X293 N293
    clear X293 N293
    have k294 : ∀ t, Steps p.tables e below (T293.setTop (mkF m 290 #[.val (.int p0), .val (.int p1), .val (.int p2), .val (.int p3), .val (.int p4), .val (.int p5), .val (.int z), .val (.int n6), .val (.ref b165), .val (.ref b189), .val (.int ec), .val (.ref b253)] [(.int (1 : Int32))])) t → Steps p.tables e below (s₁.setTop (entryFrame m #[(.int p0), (.int p1), (.int p2), (.int p3), (.int p4), (.int p5)] maxLocals)) t := fun t k => k292 t (st293 t k)
    have k295 : ∀ t, Steps p.tables e below (T293.setTop (mkF m 301 #[.val (.int p0), .val (.int p1), .val (.int p2), .val (.int p3), .val (.int p4), .val (.int p5), .val (.int z), .val (.int n6), .val (.ref b165), .val (.ref b189), .val (.int ec), .val (.ref b253)] [(.int (6 : Int32)), (.int n6), (.ref b165), (.ref b253)])) t → Steps p.tables e below (s₁.setTop (entryFrame m #[(.int p0), (.int p1), (.int p2), (.int p3), (.int p4), (.int p5)] maxLocals)) t := fun t k => k294 t (by
      show Steps p.tables e below (T293.setTop (mkF m 290 #[.val (.int p0), .val (.int p1), .val (.int p2), .val (.int p3), .val (.int p4), .val (.int p5), .val (.int z), .val (.int n6), .val (.ref b165), .val (.ref b189), .val (.int ec), .val (.ref b253)] [(.int (1 : Int32))])) _
      refine XS.ifNo XH293.here hx rfl (hb hby at_290) rfl ((if0 _ _).trans (feq (by decide : ¬ ((1 : Int32) = (0 : Int32)))).1) ?_
      show Steps p.tables e below (T293.setTop (mkF m 293 #[.val (.int p0), .val (.int p1), .val (.int p2), .val (.int p3), .val (.int p4), .val (.int p5), .val (.int z), .val (.int n6), .val (.ref b165), .val (.ref b189), .val (.int ec), .val (.ref b253)] [])) _
      refine XS.aload XH293.here hx rfl (hb hby at_293) rfl rfl ?_
      show Steps p.tables e below (T293.setTop (mkF m 295 #[.val (.int p0), .val (.int p1), .val (.int p2), .val (.int p3), .val (.int p4), .val (.int p5), .val (.int z), .val (.int n6), .val (.ref b165), .val (.ref b189), .val (.int ec), .val (.ref b253)] [(.ref b253)])) _
      refine XS.aload XH293.here hx rfl (hb hby at_295) rfl rfl ?_
      show Steps p.tables e below (T293.setTop (mkF m 297 #[.val (.int p0), .val (.int p1), .val (.int p2), .val (.int p3), .val (.int p4), .val (.int p5), .val (.int z), .val (.int n6), .val (.ref b165), .val (.ref b189), .val (.int ec), .val (.ref b253)] [(.ref b165), (.ref b253)])) _
      refine XS.iload XH293.here hx rfl (hb hby at_297) rfl ?_
      show Steps p.tables e below (T293.setTop (mkF m 299 #[.val (.int p0), .val (.int p1), .val (.int p2), .val (.int p3), .val (.int p4), .val (.int p5), .val (.int z), .val (.int n6), .val (.ref b165), .val (.ref b189), .val (.int ec), .val (.ref b253)] [(.int n6), (.ref b165), (.ref b253)])) _
      refine XS.bipush XH293.here hx rfl (hb hby at_299) ?_
      exact k)
    obtain ⟨_, _, ⟨T296, L296, kc296, ks296⟩, -, X296, ⟨Lc296, hQ296, l296, y296, z296⟩, st296⟩ := Jvm.LawKit.callS XH293 hx (y := (⟨"com/example/wegweiser/wegweiser/index/ByteSinkWritePinLaw", "at", "([B[III)Z"⟩ : MethodName)) hown (mvT hZ (hw _ (List.mem_of_getElem? (i := 53) rfl))) (mvT hZ (hw _ (List.mem_of_getElem? (i := 54) rfl))) (mvT hZ (hw _ (List.mem_of_getElem? (i := 55) rfl))) (mvT hZ (hw _ (List.mem_of_getElem? (i := 56) rfl))) (by decide) (backOf (W := 0) (rm10 l Z a0 hw [] b253 b165 n6 (6 : Int32) kb253 (own_cap (0 : Int32) z) ([] ++ [(.int (own_b p2))]) c165 [(.int p2), (.int p3), (.int p4), (.int p5), (.int (p2 ^^^ p4))] (0 : Int32) (0 : Int32) T253.heap n0 Z254 Vx253 F255 (by decide) rfl (fun h => absurd h (by rw [hn]; decide)) (fun h => absurd h (by rw [hn]; decide)) (fun _ => rfl)) hZ (hw _ (List.mem_of_getElem? (i := 56) rfl)) (hw _ (List.mem_of_getElem? (i := 55) rfl)) (by decide) (by decide)) (g := (mkF m 301 #[.val (.int p0), .val (.int p1), .val (.int p2), .val (.int p3), .val (.int p4), .val (.int p5), .val (.int z), .val (.int n6), .val (.ref b165), .val (.ref b189), .val (.int ec), .val (.ref b253)] [(.int (6 : Int32)), (.int n6), (.ref b165), (.ref b253)])) rfl (by rw [hml]; rfl) (argsL := [(.ref b253), (.ref b165), (.int n6), (.int (6 : Int32))]) (rest := []) (lenOf pd_6 rfl) rfl (by show 2 * 0 + _ ≤ _; exact Nat.le_of_eq rfl) (hb hby at_301) (fun _ _ => ⟨rfl, eq293, (by decide : 4 + 0 ≤ _), (by decide : 27 + 0 ≤ _)⟩)
    dsimp only [Pt.U, Pt.locs, Pt.cells, Pt.slots] at X296 l296 y296 z296 st296 hQ296
    subst l296 y296 z296
    obtain ⟨rfl, Nq296, eq296⟩ := hQ296
    have N296 := Fr.app NH293 Nq296
    obtain ⟨LH296, XH296, NH296⟩ := own_hide X296 N296
    clear X296 N296
    have k297 : ∀ t, Steps p.tables e below (T296.setTop (mkF m 304 #[.val (.int p0), .val (.int p1), .val (.int p2), .val (.int p3), .val (.int p4), .val (.int p5), .val (.int z), .val (.int n6), .val (.ref b165), .val (.ref b189), .val (.int ec), .val (.ref b253)] [(.int (1 : Int32))])) t → Steps p.tables e below (s₁.setTop (entryFrame m #[(.int p0), (.int p1), (.int p2), (.int p3), (.int p4), (.int p5)] maxLocals)) t := fun t k => k295 t (st296 t k)
    have k298 : ∀ t, Steps p.tables e below (T296.setTop (mkF m 315 #[.val (.int p0), .val (.int p1), .val (.int p2), .val (.int p3), .val (.int p4), .val (.int p5), .val (.int z), .val (.int n6), .val (.ref b165), .val (.ref b189), .val (.int ec), .val (.ref b253)] [(.int (7 : Int32)), (.int n6), (.ref b165), (.ref b253)])) t → Steps p.tables e below (s₁.setTop (entryFrame m #[(.int p0), (.int p1), (.int p2), (.int p3), (.int p4), (.int p5)] maxLocals)) t := fun t k => k297 t (by
      show Steps p.tables e below (T296.setTop (mkF m 304 #[.val (.int p0), .val (.int p1), .val (.int p2), .val (.int p3), .val (.int p4), .val (.int p5), .val (.int z), .val (.int n6), .val (.ref b165), .val (.ref b189), .val (.int ec), .val (.ref b253)] [(.int (1 : Int32))])) _
      refine XS.ifNo XH296.here hx rfl (hb hby at_304) rfl ((if0 _ _).trans (feq (by decide : ¬ ((1 : Int32) = (0 : Int32)))).1) ?_
      show Steps p.tables e below (T296.setTop (mkF m 307 #[.val (.int p0), .val (.int p1), .val (.int p2), .val (.int p3), .val (.int p4), .val (.int p5), .val (.int z), .val (.int n6), .val (.ref b165), .val (.ref b189), .val (.int ec), .val (.ref b253)] [])) _
      refine XS.aload XH296.here hx rfl (hb hby at_307) rfl rfl ?_
      show Steps p.tables e below (T296.setTop (mkF m 309 #[.val (.int p0), .val (.int p1), .val (.int p2), .val (.int p3), .val (.int p4), .val (.int p5), .val (.int z), .val (.int n6), .val (.ref b165), .val (.ref b189), .val (.int ec), .val (.ref b253)] [(.ref b253)])) _
      refine XS.aload XH296.here hx rfl (hb hby at_309) rfl rfl ?_
      show Steps p.tables e below (T296.setTop (mkF m 311 #[.val (.int p0), .val (.int p1), .val (.int p2), .val (.int p3), .val (.int p4), .val (.int p5), .val (.int z), .val (.int n6), .val (.ref b165), .val (.ref b189), .val (.int ec), .val (.ref b253)] [(.ref b165), (.ref b253)])) _
      refine XS.iload XH296.here hx rfl (hb hby at_311) rfl ?_
      show Steps p.tables e below (T296.setTop (mkF m 313 #[.val (.int p0), .val (.int p1), .val (.int p2), .val (.int p3), .val (.int p4), .val (.int p5), .val (.int z), .val (.int n6), .val (.ref b165), .val (.ref b189), .val (.int ec), .val (.ref b253)] [(.int n6), (.ref b165), (.ref b253)])) _
      refine XS.bipush XH296.here hx rfl (hb hby at_313) ?_
      exact k)
    obtain ⟨_, _, ⟨T299, L299, kc299, ks299⟩, -, X299, ⟨Lc299, hQ299, l299, y299, z299⟩, st299⟩ := Jvm.LawKit.callS XH296 hx (y := (⟨"com/example/wegweiser/wegweiser/index/ByteSinkWritePinLaw", "at", "([B[III)Z"⟩ : MethodName)) hown (mvT hZ (hw _ (List.mem_of_getElem? (i := 53) rfl))) (mvT hZ (hw _ (List.mem_of_getElem? (i := 54) rfl))) (mvT hZ (hw _ (List.mem_of_getElem? (i := 55) rfl))) (mvT hZ (hw _ (List.mem_of_getElem? (i := 56) rfl))) (by decide) (backOf (W := 0) (rm10 l Z a0 hw [] b253 b165 n6 (7 : Int32) kb253 (own_cap (0 : Int32) z) ([] ++ [(.int (own_b p2))]) c165 [(.int p2), (.int p3), (.int p4), (.int p5), (.int (p2 ^^^ p4))] (0 : Int32) (0 : Int32) T253.heap n0 Z254 Vx253 F255 (by decide) rfl (fun h => absurd h (by rw [hn]; decide)) (fun h => absurd h (by rw [hn]; decide)) (fun _ => rfl)) hZ (hw _ (List.mem_of_getElem? (i := 56) rfl)) (hw _ (List.mem_of_getElem? (i := 55) rfl)) (by decide) (by decide)) (g := (mkF m 315 #[.val (.int p0), .val (.int p1), .val (.int p2), .val (.int p3), .val (.int p4), .val (.int p5), .val (.int z), .val (.int n6), .val (.ref b165), .val (.ref b189), .val (.int ec), .val (.ref b253)] [(.int (7 : Int32)), (.int n6), (.ref b165), (.ref b253)])) rfl (by rw [hml]; rfl) (argsL := [(.ref b253), (.ref b165), (.int n6), (.int (7 : Int32))]) (rest := []) (lenOf pd_6 rfl) rfl (by show 2 * 0 + _ ≤ _; exact Nat.le_of_eq rfl) (hb hby at_315) (fun _ _ => ⟨rfl, eq296, (by decide : 4 + 0 ≤ _), (by decide : 27 + 0 ≤ _)⟩)
    dsimp only [Pt.U, Pt.locs, Pt.cells, Pt.slots] at X299 l299 y299 z299 st299 hQ299
    subst l299 y299 z299
    obtain ⟨rfl, Nq299, eq299⟩ := hQ299
    have N299 := Fr.app NH296 Nq299
    obtain ⟨LH299, XH299, NH299⟩ := own_hide X299 N299
    clear X299 N299
    have k300 : ∀ t, Steps p.tables e below (T299.setTop (mkF m 318 #[.val (.int p0), .val (.int p1), .val (.int p2), .val (.int p3), .val (.int p4), .val (.int p5), .val (.int z), .val (.int n6), .val (.ref b165), .val (.ref b189), .val (.int ec), .val (.ref b253)] [(.int (1 : Int32))])) t → Steps p.tables e below (s₁.setTop (entryFrame m #[(.int p0), (.int p1), (.int p2), (.int p3), (.int p4), (.int p5)] maxLocals)) t := fun t k => k298 t (st299 t k)
    have k301 : ∀ t, Steps p.tables e below (T299.setTop (mkF m 326 #[.val (.int p0), .val (.int p1), .val (.int p2), .val (.int p3), .val (.int p4), .val (.int p5), .val (.int z), .val (.int n6), .val (.ref b165), .val (.ref b189), .val (.int ec), .val (.ref b253)] [(.int (1 : Int32))])) t → Steps p.tables e below (s₁.setTop (entryFrame m #[(.int p0), (.int p1), (.int p2), (.int p3), (.int p4), (.int p5)] maxLocals)) t := fun t k => k300 t (by
      show Steps p.tables e below (T299.setTop (mkF m 318 #[.val (.int p0), .val (.int p1), .val (.int p2), .val (.int p3), .val (.int p4), .val (.int p5), .val (.int z), .val (.int n6), .val (.ref b165), .val (.ref b189), .val (.int ec), .val (.ref b253)] [(.int (1 : Int32))])) _
      refine XS.ifNo XH299.here hx rfl (hb hby at_318) rfl ((if0 _ _).trans (feq (by decide : ¬ ((1 : Int32) = (0 : Int32)))).1) ?_
      show Steps p.tables e below (T299.setTop (mkF m 321 #[.val (.int p0), .val (.int p1), .val (.int p2), .val (.int p3), .val (.int p4), .val (.int p5), .val (.int z), .val (.int n6), .val (.ref b165), .val (.ref b189), .val (.int ec), .val (.ref b253)] [])) _
      refine XS.iconst XH299.here hx rfl (hb hby at_321) ?_
      show Steps p.tables e below (T299.setTop (mkF m 322 #[.val (.int p0), .val (.int p1), .val (.int p2), .val (.int p3), .val (.int p4), .val (.int p5), .val (.int z), .val (.int n6), .val (.ref b165), .val (.ref b189), .val (.int ec), .val (.ref b253)] [(.int (1 : Int32))])) _
      refine XS.goto XH299.here hx rfl (pc0 := 322) (pc' := 326) rfl (hb hby at_322) (by decide) (by decide) ?_
      exact k)
    obtain ⟨fs, hr, hrun, hended, hW, hsame⟩ := XH299.leave (v := some (.int (1 : Int32))) (fun h => by rw [Bd.returns] at h; cases h)
    refine ⟨_, _, k301 _ ?_, hrun, hended, _, _, rfl, ?_, ⟨_, rfl⟩, hW, hsame.mono (by decide) (by decide)⟩
    · show Steps p.tables e below (T299.setTop (mkF m 326 #[.val (.int p0), .val (.int p1), .val (.int p2), .val (.int p3), .val (.int p4), .val (.int p5), .val (.int z), .val (.int n6), .val (.ref b165), .val (.ref b189), .val (.int ec), .val (.ref b253)] [(.int (1 : Int32))])) _
      exact retN XH299 hx (t := .boolean) Bd.returns (by simp) (hb hby at_326) hr
    · show Q0 Z p0 p1 p2 p3 p4 p5 h0 n0 _ T299.heap _
      rw [eq299]
      exact ⟨rfl, NH299⟩
  · have k304 : ∀ t, Steps p.tables e below (T200.setTop (mkF m 68 #[.val (.int p0), .val (.int p1), .val (.int p2), .val (.int p3), .val (.int p4), .val (.int p5), .val (.int z), .val (.int n6), .val (.ref b165), .val (.ref b189), .unset, .unset] [(.int p2), (.ref b189)])) t → Steps p.tables e below (s₁.setTop (entryFrame m #[(.int p0), (.int p1), (.int p2), (.int p3), (.int p4), (.int p5)] maxLocals)) t := fun t k => k205 t (by
      show Steps p.tables e below (T200.setTop (mkF m 57 #[.val (.int p0), .val (.int p1), .val (.int p2), .val (.int p3), .val (.int p4), .val (.int p5), .val (.int z), .val (.int n6), .val (.ref b165), .val (.ref b189), .unset, .unset] [])) _
      refine XS.iload XH200.here hx rfl (hb hby at_57) rfl ?_
      show Steps p.tables e below (T200.setTop (mkF m 59 #[.val (.int p0), .val (.int p1), .val (.int p2), .val (.int p3), .val (.int p4), .val (.int p5), .val (.int z), .val (.int n6), .val (.ref b165), .val (.ref b189), .unset, .unset] [(.int n6)])) _
      refine XS.ifNo XH200.here hx rfl (hb hby at_59) rfl ((if0 _ _).trans (tlt (by rw [hn]; decide)).2.2.2) ?_
      show Steps p.tables e below (T200.setTop (mkF m 62 #[.val (.int p0), .val (.int p1), .val (.int p2), .val (.int p3), .val (.int p4), .val (.int p5), .val (.int z), .val (.int n6), .val (.ref b165), .val (.ref b189), .unset, .unset] [])) _
      refine XS.aload XH200.here hx rfl (hb hby at_62) rfl rfl ?_
      show Steps p.tables e below (T200.setTop (mkF m 64 #[.val (.int p0), .val (.int p1), .val (.int p2), .val (.int p3), .val (.int p4), .val (.int p5), .val (.int z), .val (.int n6), .val (.ref b165), .val (.ref b189), .unset, .unset] [(.ref b189)])) _
      refine XS.aload XH200.here hx rfl (hb hby at_64) rfl rfl ?_
      show Steps p.tables e below (T200.setTop (mkF m 66 #[.val (.int p0), .val (.int p1), .val (.int p2), .val (.int p3), .val (.int p4), .val (.int p5), .val (.int z), .val (.int n6), .val (.ref b165), .val (.ref b189), .unset, .unset] [(.ref b165), (.ref b189)])) _
      refine XS.iconst XH200.here hx rfl (hb hby at_66) ?_
      show Steps p.tables e below (T200.setTop (mkF m 67 #[.val (.int p0), .val (.int p1), .val (.int p2), .val (.int p3), .val (.int p4), .val (.int p5), .val (.int z), .val (.int n6), .val (.ref b165), .val (.ref b189), .unset, .unset] [(.int (0 : Int32)), (.ref b165), (.ref b189)])) _
      obtain ⟨clq303, Arq303, -, Sq303, Nq303, Hq303, Gq303⟩ := id F202
      have hinq303 := inb_of (j := (0 : Int32)) Sq303 ⟨by decide, by decide⟩
      refine XH200.iaload hx (j := (0 : Int32)) (v := (.int p2)) (id Arq303.1) (State.isArrayOf_alike hZ.alike Arq303.2.1) Arq303.2.2 hinq303 (Has.at Hq303 hinq303 rfl) (g := (mkF m 67 #[.val (.int p0), .val (.int p1), .val (.int p2), .val (.int p3), .val (.int p4), .val (.int p5), .val (.int z), .val (.int n6), .val (.ref b165), .val (.ref b189), .unset, .unset] [(.int (0 : Int32)), (.ref b165), (.ref b189)])) rfl rfl (hb hby at_67) _ ?_
      exact k)
    have nbab197 := (Ne.symm ne199)
    obtain ⟨cq305, kq305, q305a, q305b, q305c⟩ := isOf hZ rfl F203
    obtain ⟨_, _, ⟨T305, L305, kc305, ks305⟩, -, X305, ⟨Lc305, hQ305, l305, y305, z305⟩, st305⟩ := XH200.virtualBack hx (y := (⟨"com/example/wegweiser/wegweiser/index/ByteSink", "write", "(I)V"⟩ : MethodName)) (z := (⟨"com/example/wegweiser/wegweiser/index/ByteSink", "write", "(I)V"⟩ : MethodName)) hown (mvT hZ (hw _ (List.mem_of_getElem? (i := 19) rfl))) (mvT hZ (hw _ (List.mem_of_getElem? (i := 20) rfl))) (notFace_of_selects (args := #[]) (mvT hZ (hw _ (List.mem_of_getElem? (i := 22) rfl)))) (mvT hZ (hw _ (List.mem_of_getElem? (i := 22) rfl))) (mvT hZ (hw _ (List.mem_of_getElem? (i := 21) rfl))) (by decide) (backOf (W := 0) (rm4 l Z a0 hw [] b189 p2 b197 kb200 (0 : Int32) z [] T200.heap n0 Z201 Fl200 Fb200 F203 Vx200 g_b189 g_b197 (Ne.symm ne199) rfl (by rcases hz with rfl | rfl | rfl | rfl <;> decide) (by rcases hz with rfl | rfl | rfl | rfl <;> decide) (by rcases hz with rfl | rfl | rfl | rfl <;> decide) (by rcases hz with rfl | rfl | rfl | rfl <;> decide) (by rcases hz with rfl | rfl | rfl | rfl <;> decide)) hZ (hw _ (List.mem_of_getElem? (i := 23) rfl)) (hw _ (List.mem_of_getElem? (i := 4) rfl)) (by decide) (by decide)) q305a q305c (g := (mkF m 68 #[.val (.int p0), .val (.int p1), .val (.int p2), .val (.int p3), .val (.int p4), .val (.int p5), .val (.int z), .val (.int n6), .val (.ref b165), .val (.ref b189), .unset, .unset] [(.int p2), (.ref b189)])) rfl (by rw [hml]; rfl) (Steps.refl _) (argsL := [(.int p2)]) (rest := []) (lenOf pd_3 rfl) rfl (by show 2 * 0 + _ ≤ _; exact Nat.le_of_eq rfl) (hb hby at_68) (fun _ _ => ⟨rfl, rfl, (by decide : 3 + 1 ≤ _), (by decide : 11 + 16 ≤ _)⟩)
    dsimp only [Pt.U, Pt.locs, Pt.cells, Pt.slots] at X305 l305 y305 z305 st305 hQ305
    subst l305 y305 z305
    obtain ⟨b305, kb305, rfl, Nq305, K305, g_b305, nx305, hor305, Ax305, Fl305, Fb305, Vx305⟩ := hQ305
    have N305 := Fr.app NH200 Nq305
    obtain ⟨LH305, XH305, NH305⟩ := own_hide X305 N305
    clear X305 N305
    have nv305 : b165 ≠ b305 := hor305.elim (fun q => by rw [q]; exact ne198) (fun q => Nat.ne_of_lt (Nat.lt_of_lt_of_le (F202).lt q))
    have Z306 : n0 ≤ T305.heap.size := Nat.le_trans Z201 K305.1
    have F307 : Arv Z T305.heap b165 c165 .int (5 : Int32) [(.int p2), (.int p3), (.int p4), (.int p5), (.int (p2 ^^^ p4))] (.int (0 : Int32)) := (F202).keep K305 (ninS ne190 (ninS ne198 nin0))
    have F308 : Exa Z T305.heap b189 "com/example/wegweiser/wegweiser/index/ByteSink" := (F203).keep K305
    have k309 : ∀ t, Steps p.tables e below (T305.setTop (mkF m 71 #[.val (.int p0), .val (.int p1), .val (.int p2), .val (.int p3), .val (.int p4), .val (.int p5), .val (.int z), .val (.int n6), .val (.ref b165), .val (.ref b189), .unset, .unset] [])) t → Steps p.tables e below (s₁.setTop (entryFrame m #[(.int p0), (.int p1), (.int p2), (.int p3), (.int p4), (.int p5)] maxLocals)) t := fun t k => k304 t (st305.trans k)
    have k311 : ∀ t, Steps p.tables e below (T305.setTop (mkF m 83 #[.val (.int p0), .val (.int p1), .val (.int p2), .val (.int p3), .val (.int p4), .val (.int p5), .val (.int z), .val (.int n6), .val (.ref b165), .val (.ref b189), .unset, .unset] [(.int p3), (.ref b189)])) t → Steps p.tables e below (s₁.setTop (entryFrame m #[(.int p0), (.int p1), (.int p2), (.int p3), (.int p4), (.int p5)] maxLocals)) t := fun t k => k309 t (by
      show Steps p.tables e below (T305.setTop (mkF m 71 #[.val (.int p0), .val (.int p1), .val (.int p2), .val (.int p3), .val (.int p4), .val (.int p5), .val (.int z), .val (.int n6), .val (.ref b165), .val (.ref b189), .unset, .unset] [])) _
      refine XS.iload XH305.here hx rfl (hb hby at_71) rfl ?_
      show Steps p.tables e below (T305.setTop (mkF m 73 #[.val (.int p0), .val (.int p1), .val (.int p2), .val (.int p3), .val (.int p4), .val (.int p5), .val (.int z), .val (.int n6), .val (.ref b165), .val (.ref b189), .unset, .unset] [(.int n6)])) _
      refine XS.iconst XH305.here hx rfl (hb hby at_73) ?_
      show Steps p.tables e below (T305.setTop (mkF m 74 #[.val (.int p0), .val (.int p1), .val (.int p2), .val (.int p3), .val (.int p4), .val (.int p5), .val (.int z), .val (.int n6), .val (.ref b165), .val (.ref b189), .unset, .unset] [(.int (1 : Int32)), (.int n6)])) _
      refine XS.icmpNo XH305.here hx rfl (hb hby at_74) rfl (tlt (by rw [hn]; decide)).2.2.2 ?_
      show Steps p.tables e below (T305.setTop (mkF m 77 #[.val (.int p0), .val (.int p1), .val (.int p2), .val (.int p3), .val (.int p4), .val (.int p5), .val (.int z), .val (.int n6), .val (.ref b165), .val (.ref b189), .unset, .unset] [])) _
      refine XS.aload XH305.here hx rfl (hb hby at_77) rfl rfl ?_
      show Steps p.tables e below (T305.setTop (mkF m 79 #[.val (.int p0), .val (.int p1), .val (.int p2), .val (.int p3), .val (.int p4), .val (.int p5), .val (.int z), .val (.int n6), .val (.ref b165), .val (.ref b189), .unset, .unset] [(.ref b189)])) _
      refine XS.aload XH305.here hx rfl (hb hby at_79) rfl rfl ?_
      show Steps p.tables e below (T305.setTop (mkF m 81 #[.val (.int p0), .val (.int p1), .val (.int p2), .val (.int p3), .val (.int p4), .val (.int p5), .val (.int z), .val (.int n6), .val (.ref b165), .val (.ref b189), .unset, .unset] [(.ref b165), (.ref b189)])) _
      refine XS.iconst XH305.here hx rfl (hb hby at_81) ?_
      show Steps p.tables e below (T305.setTop (mkF m 82 #[.val (.int p0), .val (.int p1), .val (.int p2), .val (.int p3), .val (.int p4), .val (.int p5), .val (.int z), .val (.int n6), .val (.ref b165), .val (.ref b189), .unset, .unset] [(.int (1 : Int32)), (.ref b165), (.ref b189)])) _
      obtain ⟨clq310, Arq310, -, Sq310, Nq310, Hq310, Gq310⟩ := id F307
      have hinq310 := inb_of (j := (1 : Int32)) Sq310 ⟨by decide, by decide⟩
      refine XH305.iaload hx (j := (1 : Int32)) (v := (.int p3)) (id Arq310.1) (State.isArrayOf_alike hZ.alike Arq310.2.1) Arq310.2.2 hinq310 (Has.at Hq310 hinq310 rfl) (g := (mkF m 82 #[.val (.int p0), .val (.int p1), .val (.int p2), .val (.int p3), .val (.int p4), .val (.int p5), .val (.int z), .val (.int n6), .val (.ref b165), .val (.ref b189), .unset, .unset] [(.int (1 : Int32)), (.ref b165), (.ref b189)])) rfl rfl (hb hby at_82) _ ?_
      exact k)
    have nbab305 := nx305
    obtain ⟨cq312, kq312, q312a, q312b, q312c⟩ := isOf hZ rfl F308
    obtain ⟨_, _, ⟨T312, L312, kc312, ks312⟩, -, X312, ⟨Lc312, hQ312, l312, y312, z312⟩, st312⟩ := XH305.virtualBack hx (y := (⟨"com/example/wegweiser/wegweiser/index/ByteSink", "write", "(I)V"⟩ : MethodName)) (z := (⟨"com/example/wegweiser/wegweiser/index/ByteSink", "write", "(I)V"⟩ : MethodName)) hown (mvT hZ (hw _ (List.mem_of_getElem? (i := 19) rfl))) (mvT hZ (hw _ (List.mem_of_getElem? (i := 20) rfl))) (notFace_of_selects (args := #[]) (mvT hZ (hw _ (List.mem_of_getElem? (i := 22) rfl)))) (mvT hZ (hw _ (List.mem_of_getElem? (i := 22) rfl))) (mvT hZ (hw _ (List.mem_of_getElem? (i := 21) rfl))) (by decide) (backOf (W := 0) (rm4 l Z a0 hw [] b189 p3 b305 kb305 ((0 : Int32) + (1 : Int32)) (own_cap (0 : Int32) z) ([] ++ [(.int (own_b p2))]) T305.heap n0 Z306 Fl305 Fb305 F308 Vx305 g_b189 g_b305 nx305 rfl (by rcases hz with rfl | rfl | rfl | rfl <;> decide) (by rcases hz with rfl | rfl | rfl | rfl <;> decide) (by rcases hz with rfl | rfl | rfl | rfl <;> decide) (by rcases hz with rfl | rfl | rfl | rfl <;> decide) (by rcases hz with rfl | rfl | rfl | rfl <;> decide)) hZ (hw _ (List.mem_of_getElem? (i := 23) rfl)) (hw _ (List.mem_of_getElem? (i := 4) rfl)) (by decide) (by decide)) q312a q312c (g := (mkF m 83 #[.val (.int p0), .val (.int p1), .val (.int p2), .val (.int p3), .val (.int p4), .val (.int p5), .val (.int z), .val (.int n6), .val (.ref b165), .val (.ref b189), .unset, .unset] [(.int p3), (.ref b189)])) rfl (by rw [hml]; rfl) (Steps.refl _) (argsL := [(.int p3)]) (rest := []) (lenOf pd_3 rfl) rfl (by show 2 * 0 + _ ≤ _; exact Nat.le_of_eq rfl) (hb hby at_83) (fun _ _ => ⟨rfl, rfl, (by decide : 4 + 1 ≤ _), (by decide : 27 + 16 ≤ _)⟩)
    dsimp only [Pt.U, Pt.locs, Pt.cells, Pt.slots] at X312 l312 y312 z312 st312 hQ312
    subst l312 y312 z312
    obtain ⟨b312, kb312, rfl, Nq312, K312, g_b312, nx312, hor312, Ax312, Fl312, Fb312, Vx312⟩ := hQ312
    have N312 := Fr.app NH305 Nq312
    obtain ⟨LH312, XH312, NH312⟩ := own_hide X312 N312
    clear X312 N312
    have nv312 : b165 ≠ b312 := hor312.elim (fun q => by rw [q]; exact nv305) (fun q => Nat.ne_of_lt (Nat.lt_of_lt_of_le (F307).lt q))
    have Z313 : n0 ≤ T312.heap.size := Nat.le_trans Z306 K312.1
    have F314 : Arv Z T312.heap b165 c165 .int (5 : Int32) [(.int p2), (.int p3), (.int p4), (.int p5), (.int (p2 ^^^ p4))] (.int (0 : Int32)) := (F307).keep K312 (ninS ne190 (ninS nv305 nin0))
    have F315 : Exa Z T312.heap b189 "com/example/wegweiser/wegweiser/index/ByteSink" := (F308).keep K312
    have k316 : ∀ t, Steps p.tables e below (T312.setTop (mkF m 86 #[.val (.int p0), .val (.int p1), .val (.int p2), .val (.int p3), .val (.int p4), .val (.int p5), .val (.int z), .val (.int n6), .val (.ref b165), .val (.ref b189), .unset, .unset] [])) t → Steps p.tables e below (s₁.setTop (entryFrame m #[(.int p0), (.int p1), (.int p2), (.int p3), (.int p4), (.int p5)] maxLocals)) t := fun t k => k311 t (st312.trans k)
    have k317 : ∀ t, Steps p.tables e below (T312.setTop (mkF m 139 #[.val (.int p0), .val (.int p1), .val (.int p2), .val (.int p3), .val (.int p4), .val (.int p5), .val (.int z), .val (.int n6), .val (.ref b165), .val (.ref b189), .val (.int z), .unset] [(.int z), (.int n6)])) t → Steps p.tables e below (s₁.setTop (entryFrame m #[(.int p0), (.int p1), (.int p2), (.int p3), (.int p4), (.int p5)] maxLocals)) t := fun t k => k316 t (by
      show Steps p.tables e below (T312.setTop (mkF m 86 #[.val (.int p0), .val (.int p1), .val (.int p2), .val (.int p3), .val (.int p4), .val (.int p5), .val (.int z), .val (.int n6), .val (.ref b165), .val (.ref b189), .unset, .unset] [])) _
      refine XS.iload XH312.here hx rfl (hb hby at_86) rfl ?_
      show Steps p.tables e below (T312.setTop (mkF m 88 #[.val (.int p0), .val (.int p1), .val (.int p2), .val (.int p3), .val (.int p4), .val (.int p5), .val (.int z), .val (.int n6), .val (.ref b165), .val (.ref b189), .unset, .unset] [(.int n6)])) _
      refine XS.iconst XH312.here hx rfl (hb hby at_88) ?_
      show Steps p.tables e below (T312.setTop (mkF m 89 #[.val (.int p0), .val (.int p1), .val (.int p2), .val (.int p3), .val (.int p4), .val (.int p5), .val (.int z), .val (.int n6), .val (.ref b165), .val (.ref b189), .unset, .unset] [(.int (2 : Int32)), (.int n6)])) _
      refine XS.icmpYes XH312.here hx rfl (pc0 := 89) (pc' := 101) rfl (hb hby at_89) rfl (flt (by rw [hn]; decide)).2.2.2 (by decide) (by decide) ?_
      show Steps p.tables e below (T312.setTop (mkF m 101 #[.val (.int p0), .val (.int p1), .val (.int p2), .val (.int p3), .val (.int p4), .val (.int p5), .val (.int z), .val (.int n6), .val (.ref b165), .val (.ref b189), .unset, .unset] [])) _
      refine XS.iload XH312.here hx rfl (hb hby at_101) rfl ?_
      show Steps p.tables e below (T312.setTop (mkF m 103 #[.val (.int p0), .val (.int p1), .val (.int p2), .val (.int p3), .val (.int p4), .val (.int p5), .val (.int z), .val (.int n6), .val (.ref b165), .val (.ref b189), .unset, .unset] [(.int n6)])) _
      refine XS.iconst XH312.here hx rfl (hb hby at_103) ?_
      show Steps p.tables e below (T312.setTop (mkF m 104 #[.val (.int p0), .val (.int p1), .val (.int p2), .val (.int p3), .val (.int p4), .val (.int p5), .val (.int z), .val (.int n6), .val (.ref b165), .val (.ref b189), .unset, .unset] [(.int (3 : Int32)), (.int n6)])) _
      refine XS.icmpYes XH312.here hx rfl (pc0 := 104) (pc' := 116) rfl (hb hby at_104) rfl (flt (by rw [hn]; decide)).2.2.2 (by decide) (by decide) ?_
      show Steps p.tables e below (T312.setTop (mkF m 116 #[.val (.int p0), .val (.int p1), .val (.int p2), .val (.int p3), .val (.int p4), .val (.int p5), .val (.int z), .val (.int n6), .val (.ref b165), .val (.ref b189), .unset, .unset] [])) _
      refine XS.iload XH312.here hx rfl (hb hby at_116) rfl ?_
      show Steps p.tables e below (T312.setTop (mkF m 118 #[.val (.int p0), .val (.int p1), .val (.int p2), .val (.int p3), .val (.int p4), .val (.int p5), .val (.int z), .val (.int n6), .val (.ref b165), .val (.ref b189), .unset, .unset] [(.int n6)])) _
      refine XS.iconst XH312.here hx rfl (hb hby at_118) ?_
      show Steps p.tables e below (T312.setTop (mkF m 119 #[.val (.int p0), .val (.int p1), .val (.int p2), .val (.int p3), .val (.int p4), .val (.int p5), .val (.int z), .val (.int n6), .val (.ref b165), .val (.ref b189), .unset, .unset] [(.int (4 : Int32)), (.int n6)])) _
      refine XS.icmpYes XH312.here hx rfl (pc0 := 119) (pc' := 131) rfl (hb hby at_119) rfl (flt (by rw [hn]; decide)).2.2.2 (by decide) (by decide) ?_
      show Steps p.tables e below (T312.setTop (mkF m 131 #[.val (.int p0), .val (.int p1), .val (.int p2), .val (.int p3), .val (.int p4), .val (.int p5), .val (.int z), .val (.int n6), .val (.ref b165), .val (.ref b189), .unset, .unset] [])) _
      refine XS.iload XH312.here hx rfl (hb hby at_131) rfl ?_
      show Steps p.tables e below (T312.setTop (mkF m 133 #[.val (.int p0), .val (.int p1), .val (.int p2), .val (.int p3), .val (.int p4), .val (.int p5), .val (.int z), .val (.int n6), .val (.ref b165), .val (.ref b189), .unset, .unset] [(.int z)])) _
      refine XS.istore XH312.here hx rfl (hb hby at_133) rfl (l' := #[.val (.int p0), .val (.int p1), .val (.int p2), .val (.int p3), .val (.int p4), .val (.int p5), .val (.int z), .val (.int n6), .val (.ref b165), .val (.ref b189), .val (.int z), .unset]) rfl ?_
      show Steps p.tables e below (T312.setTop (mkF m 135 #[.val (.int p0), .val (.int p1), .val (.int p2), .val (.int p3), .val (.int p4), .val (.int p5), .val (.int z), .val (.int n6), .val (.ref b165), .val (.ref b189), .val (.int z), .unset] [])) _
      refine XS.iload XH312.here hx rfl (hb hby at_135) rfl ?_
      show Steps p.tables e below (T312.setTop (mkF m 137 #[.val (.int p0), .val (.int p1), .val (.int p2), .val (.int p3), .val (.int p4), .val (.int p5), .val (.int z), .val (.int n6), .val (.ref b165), .val (.ref b189), .val (.int z), .unset] [(.int n6)])) _
      refine XS.iload XH312.here hx rfl (hb hby at_137) rfl ?_
      exact k)
    have k319 : ∀ t, Steps p.tables e below (T312.setTop (mkF m 148 #[.val (.int p0), .val (.int p1), .val (.int p2), .val (.int p3), .val (.int p4), .val (.int p5), .val (.int z), .val (.int n6), .val (.ref b165), .val (.ref b189), .val (.int (if z < n6 then (z * (2 : Int32)) else z)), .unset] [])) t → Steps p.tables e below (s₁.setTop (entryFrame m #[(.int p0), (.int p1), (.int p2), (.int p3), (.int p4), (.int p5)] maxLocals)) t := fun t k => k317 t (by
      by_cases hq318 : z < n6
      · simp only [if_pos hq318] at k
        show Steps p.tables e below (T312.setTop (mkF m 139 #[.val (.int p0), .val (.int p1), .val (.int p2), .val (.int p3), .val (.int p4), .val (.int p5), .val (.int z), .val (.int n6), .val (.ref b165), .val (.ref b189), .val (.int z), .unset] [(.int z), (.int n6)])) _
        refine XS.icmpNo XH312.here hx rfl (hb hby at_139) rfl (tlt hq318).2.2.2 ?_
        show Steps p.tables e below (T312.setTop (mkF m 142 #[.val (.int p0), .val (.int p1), .val (.int p2), .val (.int p3), .val (.int p4), .val (.int p5), .val (.int z), .val (.int n6), .val (.ref b165), .val (.ref b189), .val (.int z), .unset] [])) _
        refine XS.iload XH312.here hx rfl (hb hby at_142) rfl ?_
        show Steps p.tables e below (T312.setTop (mkF m 144 #[.val (.int p0), .val (.int p1), .val (.int p2), .val (.int p3), .val (.int p4), .val (.int p5), .val (.int z), .val (.int n6), .val (.ref b165), .val (.ref b189), .val (.int z), .unset] [(.int z)])) _
        refine XS.iconst XH312.here hx rfl (hb hby at_144) ?_
        show Steps p.tables e below (T312.setTop (mkF m 145 #[.val (.int p0), .val (.int p1), .val (.int p2), .val (.int p3), .val (.int p4), .val (.int p5), .val (.int z), .val (.int n6), .val (.ref b165), .val (.ref b189), .val (.int z), .unset] [(.int (2 : Int32)), (.int z)])) _
        refine XS.imul XH312.here hx rfl (hb hby at_145) rfl ?_
        show Steps p.tables e below (T312.setTop (mkF m 146 #[.val (.int p0), .val (.int p1), .val (.int p2), .val (.int p3), .val (.int p4), .val (.int p5), .val (.int z), .val (.int n6), .val (.ref b165), .val (.ref b189), .val (.int z), .unset] [(.int (z * (2 : Int32)))])) _
        refine XS.istore XH312.here hx rfl (hb hby at_146) rfl (l' := #[.val (.int p0), .val (.int p1), .val (.int p2), .val (.int p3), .val (.int p4), .val (.int p5), .val (.int z), .val (.int n6), .val (.ref b165), .val (.ref b189), .val (.int (z * (2 : Int32))), .unset]) rfl ?_
        exact k
      · simp only [if_neg hq318] at k
        show Steps p.tables e below (T312.setTop (mkF m 139 #[.val (.int p0), .val (.int p1), .val (.int p2), .val (.int p3), .val (.int p4), .val (.int p5), .val (.int z), .val (.int n6), .val (.ref b165), .val (.ref b189), .val (.int z), .unset] [(.int z), (.int n6)])) _
        refine XS.icmpYes XH312.here hx rfl (pc0 := 139) (pc' := 148) rfl (hb hby at_139) rfl (flt hq318).2.2.2 (by decide) (by decide) ?_
        exact k)
    have k320 : ∀ t, Steps p.tables e below (T312.setTop (mkF m 152 #[.val (.int p0), .val (.int p1), .val (.int p2), .val (.int p3), .val (.int p4), .val (.int p5), .val (.int z), .val (.int n6), .val (.ref b165), .val (.ref b189), .val (.int (if z < n6 then (z * (2 : Int32)) else z)), .unset] [(.int (if z < n6 then (z * (2 : Int32)) else z)), (.int n6)])) t → Steps p.tables e below (s₁.setTop (entryFrame m #[(.int p0), (.int p1), (.int p2), (.int p3), (.int p4), (.int p5)] maxLocals)) t := fun t k => k319 t (by
      show Steps p.tables e below (T312.setTop (mkF m 148 #[.val (.int p0), .val (.int p1), .val (.int p2), .val (.int p3), .val (.int p4), .val (.int p5), .val (.int z), .val (.int n6), .val (.ref b165), .val (.ref b189), .val (.int (if z < n6 then (z * (2 : Int32)) else z)), .unset] [])) _
      refine XS.iload XH312.here hx rfl (hb hby at_148) rfl ?_
      show Steps p.tables e below (T312.setTop (mkF m 150 #[.val (.int p0), .val (.int p1), .val (.int p2), .val (.int p3), .val (.int p4), .val (.int p5), .val (.int z), .val (.int n6), .val (.ref b165), .val (.ref b189), .val (.int (if z < n6 then (z * (2 : Int32)) else z)), .unset] [(.int n6)])) _
      refine XS.iload XH312.here hx rfl (hb hby at_150) rfl ?_
      exact k)
    have k322 : ∀ t, Steps p.tables e below (T312.setTop (mkF m 161 #[.val (.int p0), .val (.int p1), .val (.int p2), .val (.int p3), .val (.int p4), .val (.int p5), .val (.int z), .val (.int n6), .val (.ref b165), .val (.ref b189), .val (.int (if (if z < n6 then (z * (2 : Int32)) else z) < n6 then ((if z < n6 then (z * (2 : Int32)) else z) * (2 : Int32)) else (if z < n6 then (z * (2 : Int32)) else z))), .unset] [])) t → Steps p.tables e below (s₁.setTop (entryFrame m #[(.int p0), (.int p1), (.int p2), (.int p3), (.int p4), (.int p5)] maxLocals)) t := fun t k => k320 t (by
      by_cases hq321 : (if z < n6 then (z * (2 : Int32)) else z) < n6
      · simp only [if_pos hq321] at k
        show Steps p.tables e below (T312.setTop (mkF m 152 #[.val (.int p0), .val (.int p1), .val (.int p2), .val (.int p3), .val (.int p4), .val (.int p5), .val (.int z), .val (.int n6), .val (.ref b165), .val (.ref b189), .val (.int (if z < n6 then (z * (2 : Int32)) else z)), .unset] [(.int (if z < n6 then (z * (2 : Int32)) else z)), (.int n6)])) _
        refine XS.icmpNo XH312.here hx rfl (hb hby at_152) rfl (tlt hq321).2.2.2 ?_
        show Steps p.tables e below (T312.setTop (mkF m 155 #[.val (.int p0), .val (.int p1), .val (.int p2), .val (.int p3), .val (.int p4), .val (.int p5), .val (.int z), .val (.int n6), .val (.ref b165), .val (.ref b189), .val (.int (if z < n6 then (z * (2 : Int32)) else z)), .unset] [])) _
        refine XS.iload XH312.here hx rfl (hb hby at_155) rfl ?_
        show Steps p.tables e below (T312.setTop (mkF m 157 #[.val (.int p0), .val (.int p1), .val (.int p2), .val (.int p3), .val (.int p4), .val (.int p5), .val (.int z), .val (.int n6), .val (.ref b165), .val (.ref b189), .val (.int (if z < n6 then (z * (2 : Int32)) else z)), .unset] [(.int (if z < n6 then (z * (2 : Int32)) else z))])) _
        refine XS.iconst XH312.here hx rfl (hb hby at_157) ?_
        show Steps p.tables e below (T312.setTop (mkF m 158 #[.val (.int p0), .val (.int p1), .val (.int p2), .val (.int p3), .val (.int p4), .val (.int p5), .val (.int z), .val (.int n6), .val (.ref b165), .val (.ref b189), .val (.int (if z < n6 then (z * (2 : Int32)) else z)), .unset] [(.int (2 : Int32)), (.int (if z < n6 then (z * (2 : Int32)) else z))])) _
        refine XS.imul XH312.here hx rfl (hb hby at_158) rfl ?_
        show Steps p.tables e below (T312.setTop (mkF m 159 #[.val (.int p0), .val (.int p1), .val (.int p2), .val (.int p3), .val (.int p4), .val (.int p5), .val (.int z), .val (.int n6), .val (.ref b165), .val (.ref b189), .val (.int (if z < n6 then (z * (2 : Int32)) else z)), .unset] [(.int ((if z < n6 then (z * (2 : Int32)) else z) * (2 : Int32)))])) _
        refine XS.istore XH312.here hx rfl (hb hby at_159) rfl (l' := #[.val (.int p0), .val (.int p1), .val (.int p2), .val (.int p3), .val (.int p4), .val (.int p5), .val (.int z), .val (.int n6), .val (.ref b165), .val (.ref b189), .val (.int ((if z < n6 then (z * (2 : Int32)) else z) * (2 : Int32))), .unset]) rfl ?_
        exact k
      · simp only [if_neg hq321] at k
        show Steps p.tables e below (T312.setTop (mkF m 152 #[.val (.int p0), .val (.int p1), .val (.int p2), .val (.int p3), .val (.int p4), .val (.int p5), .val (.int z), .val (.int n6), .val (.ref b165), .val (.ref b189), .val (.int (if z < n6 then (z * (2 : Int32)) else z)), .unset] [(.int (if z < n6 then (z * (2 : Int32)) else z)), (.int n6)])) _
        refine XS.icmpYes XH312.here hx rfl (pc0 := 152) (pc' := 161) rfl (hb hby at_152) rfl (flt hq321).2.2.2 (by decide) (by decide) ?_
        exact k)
    have k323 : ∀ t, Steps p.tables e below (T312.setTop (mkF m 165 #[.val (.int p0), .val (.int p1), .val (.int p2), .val (.int p3), .val (.int p4), .val (.int p5), .val (.int z), .val (.int n6), .val (.ref b165), .val (.ref b189), .val (.int (if (if z < n6 then (z * (2 : Int32)) else z) < n6 then ((if z < n6 then (z * (2 : Int32)) else z) * (2 : Int32)) else (if z < n6 then (z * (2 : Int32)) else z))), .unset] [(.int (if (if z < n6 then (z * (2 : Int32)) else z) < n6 then ((if z < n6 then (z * (2 : Int32)) else z) * (2 : Int32)) else (if z < n6 then (z * (2 : Int32)) else z))), (.int n6)])) t → Steps p.tables e below (s₁.setTop (entryFrame m #[(.int p0), (.int p1), (.int p2), (.int p3), (.int p4), (.int p5)] maxLocals)) t := fun t k => k322 t (by
      show Steps p.tables e below (T312.setTop (mkF m 161 #[.val (.int p0), .val (.int p1), .val (.int p2), .val (.int p3), .val (.int p4), .val (.int p5), .val (.int z), .val (.int n6), .val (.ref b165), .val (.ref b189), .val (.int (if (if z < n6 then (z * (2 : Int32)) else z) < n6 then ((if z < n6 then (z * (2 : Int32)) else z) * (2 : Int32)) else (if z < n6 then (z * (2 : Int32)) else z))), .unset] [])) _
      refine XS.iload XH312.here hx rfl (hb hby at_161) rfl ?_
      show Steps p.tables e below (T312.setTop (mkF m 163 #[.val (.int p0), .val (.int p1), .val (.int p2), .val (.int p3), .val (.int p4), .val (.int p5), .val (.int z), .val (.int n6), .val (.ref b165), .val (.ref b189), .val (.int (if (if z < n6 then (z * (2 : Int32)) else z) < n6 then ((if z < n6 then (z * (2 : Int32)) else z) * (2 : Int32)) else (if z < n6 then (z * (2 : Int32)) else z))), .unset] [(.int n6)])) _
      refine XS.iload XH312.here hx rfl (hb hby at_163) rfl ?_
      exact k)
    have k325 : ∀ t, Steps p.tables e below (T312.setTop (mkF m 174 #[.val (.int p0), .val (.int p1), .val (.int p2), .val (.int p3), .val (.int p4), .val (.int p5), .val (.int z), .val (.int n6), .val (.ref b165), .val (.ref b189), .val (.int (if (if (if z < n6 then (z * (2 : Int32)) else z) < n6 then ((if z < n6 then (z * (2 : Int32)) else z) * (2 : Int32)) else (if z < n6 then (z * (2 : Int32)) else z)) < n6 then ((if (if z < n6 then (z * (2 : Int32)) else z) < n6 then ((if z < n6 then (z * (2 : Int32)) else z) * (2 : Int32)) else (if z < n6 then (z * (2 : Int32)) else z)) * (2 : Int32)) else (if (if z < n6 then (z * (2 : Int32)) else z) < n6 then ((if z < n6 then (z * (2 : Int32)) else z) * (2 : Int32)) else (if z < n6 then (z * (2 : Int32)) else z)))), .unset] [])) t → Steps p.tables e below (s₁.setTop (entryFrame m #[(.int p0), (.int p1), (.int p2), (.int p3), (.int p4), (.int p5)] maxLocals)) t := fun t k => k323 t (by
      by_cases hq324 : (if (if z < n6 then (z * (2 : Int32)) else z) < n6 then ((if z < n6 then (z * (2 : Int32)) else z) * (2 : Int32)) else (if z < n6 then (z * (2 : Int32)) else z)) < n6
      · simp only [if_pos hq324] at k
        show Steps p.tables e below (T312.setTop (mkF m 165 #[.val (.int p0), .val (.int p1), .val (.int p2), .val (.int p3), .val (.int p4), .val (.int p5), .val (.int z), .val (.int n6), .val (.ref b165), .val (.ref b189), .val (.int (if (if z < n6 then (z * (2 : Int32)) else z) < n6 then ((if z < n6 then (z * (2 : Int32)) else z) * (2 : Int32)) else (if z < n6 then (z * (2 : Int32)) else z))), .unset] [(.int (if (if z < n6 then (z * (2 : Int32)) else z) < n6 then ((if z < n6 then (z * (2 : Int32)) else z) * (2 : Int32)) else (if z < n6 then (z * (2 : Int32)) else z))), (.int n6)])) _
        refine XS.icmpNo XH312.here hx rfl (hb hby at_165) rfl (tlt hq324).2.2.2 ?_
        show Steps p.tables e below (T312.setTop (mkF m 168 #[.val (.int p0), .val (.int p1), .val (.int p2), .val (.int p3), .val (.int p4), .val (.int p5), .val (.int z), .val (.int n6), .val (.ref b165), .val (.ref b189), .val (.int (if (if z < n6 then (z * (2 : Int32)) else z) < n6 then ((if z < n6 then (z * (2 : Int32)) else z) * (2 : Int32)) else (if z < n6 then (z * (2 : Int32)) else z))), .unset] [])) _
        refine XS.iload XH312.here hx rfl (hb hby at_168) rfl ?_
        show Steps p.tables e below (T312.setTop (mkF m 170 #[.val (.int p0), .val (.int p1), .val (.int p2), .val (.int p3), .val (.int p4), .val (.int p5), .val (.int z), .val (.int n6), .val (.ref b165), .val (.ref b189), .val (.int (if (if z < n6 then (z * (2 : Int32)) else z) < n6 then ((if z < n6 then (z * (2 : Int32)) else z) * (2 : Int32)) else (if z < n6 then (z * (2 : Int32)) else z))), .unset] [(.int (if (if z < n6 then (z * (2 : Int32)) else z) < n6 then ((if z < n6 then (z * (2 : Int32)) else z) * (2 : Int32)) else (if z < n6 then (z * (2 : Int32)) else z)))])) _
        refine XS.iconst XH312.here hx rfl (hb hby at_170) ?_
        show Steps p.tables e below (T312.setTop (mkF m 171 #[.val (.int p0), .val (.int p1), .val (.int p2), .val (.int p3), .val (.int p4), .val (.int p5), .val (.int z), .val (.int n6), .val (.ref b165), .val (.ref b189), .val (.int (if (if z < n6 then (z * (2 : Int32)) else z) < n6 then ((if z < n6 then (z * (2 : Int32)) else z) * (2 : Int32)) else (if z < n6 then (z * (2 : Int32)) else z))), .unset] [(.int (2 : Int32)), (.int (if (if z < n6 then (z * (2 : Int32)) else z) < n6 then ((if z < n6 then (z * (2 : Int32)) else z) * (2 : Int32)) else (if z < n6 then (z * (2 : Int32)) else z)))])) _
        refine XS.imul XH312.here hx rfl (hb hby at_171) rfl ?_
        show Steps p.tables e below (T312.setTop (mkF m 172 #[.val (.int p0), .val (.int p1), .val (.int p2), .val (.int p3), .val (.int p4), .val (.int p5), .val (.int z), .val (.int n6), .val (.ref b165), .val (.ref b189), .val (.int (if (if z < n6 then (z * (2 : Int32)) else z) < n6 then ((if z < n6 then (z * (2 : Int32)) else z) * (2 : Int32)) else (if z < n6 then (z * (2 : Int32)) else z))), .unset] [(.int ((if (if z < n6 then (z * (2 : Int32)) else z) < n6 then ((if z < n6 then (z * (2 : Int32)) else z) * (2 : Int32)) else (if z < n6 then (z * (2 : Int32)) else z)) * (2 : Int32)))])) _
        refine XS.istore XH312.here hx rfl (hb hby at_172) rfl (l' := #[.val (.int p0), .val (.int p1), .val (.int p2), .val (.int p3), .val (.int p4), .val (.int p5), .val (.int z), .val (.int n6), .val (.ref b165), .val (.ref b189), .val (.int ((if (if z < n6 then (z * (2 : Int32)) else z) < n6 then ((if z < n6 then (z * (2 : Int32)) else z) * (2 : Int32)) else (if z < n6 then (z * (2 : Int32)) else z)) * (2 : Int32))), .unset]) rfl ?_
        exact k
      · simp only [if_neg hq324] at k
        show Steps p.tables e below (T312.setTop (mkF m 165 #[.val (.int p0), .val (.int p1), .val (.int p2), .val (.int p3), .val (.int p4), .val (.int p5), .val (.int z), .val (.int n6), .val (.ref b165), .val (.ref b189), .val (.int (if (if z < n6 then (z * (2 : Int32)) else z) < n6 then ((if z < n6 then (z * (2 : Int32)) else z) * (2 : Int32)) else (if z < n6 then (z * (2 : Int32)) else z))), .unset] [(.int (if (if z < n6 then (z * (2 : Int32)) else z) < n6 then ((if z < n6 then (z * (2 : Int32)) else z) * (2 : Int32)) else (if z < n6 then (z * (2 : Int32)) else z))), (.int n6)])) _
        refine XS.icmpYes XH312.here hx rfl (pc0 := 165) (pc' := 174) rfl (hb hby at_165) rfl (flt hq324).2.2.2 (by decide) (by decide) ?_
        exact k)
    obtain ⟨ec, hec⟩ : ∃ zz_, zz_ = (if (if (if z < n6 then (z * (2 : Int32)) else z) < n6 then ((if z < n6 then (z * (2 : Int32)) else z) * (2 : Int32)) else (if z < n6 then (z * (2 : Int32)) else z)) < n6 then ((if (if z < n6 then (z * (2 : Int32)) else z) < n6 then ((if z < n6 then (z * (2 : Int32)) else z) * (2 : Int32)) else (if z < n6 then (z * (2 : Int32)) else z)) * (2 : Int32)) else (if (if z < n6 then (z * (2 : Int32)) else z) < n6 then ((if z < n6 then (z * (2 : Int32)) else z) * (2 : Int32)) else (if z < n6 then (z * (2 : Int32)) else z))) := ⟨_, rfl⟩
    rw [← hec] at k325
    have k326 : ∀ t, Steps p.tables e below (T312.setTop (mkF m 176 #[.val (.int p0), .val (.int p1), .val (.int p2), .val (.int p3), .val (.int p4), .val (.int p5), .val (.int z), .val (.int n6), .val (.ref b165), .val (.ref b189), .val (.int ec), .unset] [(.ref b189)])) t → Steps p.tables e below (s₁.setTop (entryFrame m #[(.int p0), (.int p1), (.int p2), (.int p3), (.int p4), (.int p5)] maxLocals)) t := fun t k => k325 t (by
      show Steps p.tables e below (T312.setTop (mkF m 174 #[.val (.int p0), .val (.int p1), .val (.int p2), .val (.int p3), .val (.int p4), .val (.int p5), .val (.int z), .val (.int n6), .val (.ref b165), .val (.ref b189), .val (.int ec), .unset] [])) _
      refine XS.aload XH312.here hx rfl (hb hby at_174) rfl rfl ?_
      exact k)
    obtain ⟨cq327, kq327, q327a, q327b, q327c⟩ := isOf hZ rfl F315
    obtain ⟨_, _, ⟨T327, L327, kc327, ks327⟩, -, X327, ⟨Lc327, hQ327, l327, y327, z327⟩, st327⟩ := XH312.virtualBack hx (y := (⟨"com/example/wegweiser/wegweiser/index/ByteSink", "length", "()I"⟩ : MethodName)) (z := (⟨"com/example/wegweiser/wegweiser/index/ByteSink", "length", "()I"⟩ : MethodName)) hown (mvT hZ (hw _ (List.mem_of_getElem? (i := 38) rfl))) (mvT hZ (hw _ (List.mem_of_getElem? (i := 39) rfl))) (notFace_of_selects (args := #[]) (mvT hZ (hw _ (List.mem_of_getElem? (i := 41) rfl)))) (mvT hZ (hw _ (List.mem_of_getElem? (i := 41) rfl))) (mvT hZ (hw _ (List.mem_of_getElem? (i := 40) rfl))) (by decide) (backOf (W := 0) (rm7 l Z a0 hw [] b189 (((0 : Int32) + (1 : Int32)) + (1 : Int32)) T312.heap n0 Z313 Fl312) hZ (hw _ (List.mem_of_getElem? (i := 42) rfl)) (hw _ (List.mem_of_getElem? (i := 4) rfl)) (by decide) (by decide)) q327a q327c (g := (mkF m 176 #[.val (.int p0), .val (.int p1), .val (.int p2), .val (.int p3), .val (.int p4), .val (.int p5), .val (.int z), .val (.int n6), .val (.ref b165), .val (.ref b189), .val (.int ec), .unset] [(.ref b189)])) rfl (by rw [hml]; rfl) (Steps.refl _) (argsL := []) (rest := []) (lenOf pd_4 rfl) rfl (by show 2 * 0 + _ ≤ _; exact Nat.le_of_eq rfl) (hb hby at_176) (fun _ _ => ⟨rfl, rfl, (by decide : 5 + 0 ≤ _), (by decide : 43 + 0 ≤ _)⟩)
    dsimp only [Pt.U, Pt.locs, Pt.cells, Pt.slots] at X327 l327 y327 z327 st327 hQ327
    subst l327 y327 z327
    obtain ⟨rfl, Nq327, eq327⟩ := hQ327
    have N327 := Fr.app NH312 Nq327
    obtain ⟨LH327, XH327, NH327⟩ := own_hide X327 N327
    clear X327 N327
    have k328 : ∀ t, Steps p.tables e below (T327.setTop (mkF m 179 #[.val (.int p0), .val (.int p1), .val (.int p2), .val (.int p3), .val (.int p4), .val (.int p5), .val (.int z), .val (.int n6), .val (.ref b165), .val (.ref b189), .val (.int ec), .unset] [(.int (((0 : Int32) + (1 : Int32)) + (1 : Int32)))])) t → Steps p.tables e below (s₁.setTop (entryFrame m #[(.int p0), (.int p1), (.int p2), (.int p3), (.int p4), (.int p5)] maxLocals)) t := fun t k => k326 t (st327.trans k)
    have k329 : ∀ t, Steps p.tables e below (T327.setTop (mkF m 188 #[.val (.int p0), .val (.int p1), .val (.int p2), .val (.int p3), .val (.int p4), .val (.int p5), .val (.int z), .val (.int n6), .val (.ref b165), .val (.ref b189), .val (.int ec), .unset] [(.ref b189)])) t → Steps p.tables e below (s₁.setTop (entryFrame m #[(.int p0), (.int p1), (.int p2), (.int p3), (.int p4), (.int p5)] maxLocals)) t := fun t k => k328 t (by
      show Steps p.tables e below (T327.setTop (mkF m 179 #[.val (.int p0), .val (.int p1), .val (.int p2), .val (.int p3), .val (.int p4), .val (.int p5), .val (.int z), .val (.int n6), .val (.ref b165), .val (.ref b189), .val (.int ec), .unset] [(.int (((0 : Int32) + (1 : Int32)) + (1 : Int32)))])) _
      refine XS.iload XH327.here hx rfl (hb hby at_179) rfl ?_
      show Steps p.tables e below (T327.setTop (mkF m 181 #[.val (.int p0), .val (.int p1), .val (.int p2), .val (.int p3), .val (.int p4), .val (.int p5), .val (.int z), .val (.int n6), .val (.ref b165), .val (.ref b189), .val (.int ec), .unset] [(.int n6), (.int (((0 : Int32) + (1 : Int32)) + (1 : Int32)))])) _
      refine XS.icmpYes XH327.here hx rfl (pc0 := 181) (pc' := 186) rfl (hb hby at_181) rfl (teq (by first | (rw [hn]; done) | (rw [hn]; decide))).1 (by decide) (by decide) ?_
      show Steps p.tables e below (T327.setTop (mkF m 186 #[.val (.int p0), .val (.int p1), .val (.int p2), .val (.int p3), .val (.int p4), .val (.int p5), .val (.int z), .val (.int n6), .val (.ref b165), .val (.ref b189), .val (.int ec), .unset] [])) _
      refine XS.aload XH327.here hx rfl (hb hby at_186) rfl rfl ?_
      exact k)
    obtain ⟨cq330, kq330, q330a, q330b, q330c⟩ := isOf hZ eq327 F315
    obtain ⟨_, _, ⟨T330, L330, kc330, ks330⟩, -, X330, ⟨Lc330, hQ330, l330, y330, z330⟩, st330⟩ := XH327.virtualBack hx (y := (⟨"com/example/wegweiser/wegweiser/index/ByteSink", "capacity", "()I"⟩ : MethodName)) (z := (⟨"com/example/wegweiser/wegweiser/index/ByteSink", "capacity", "()I"⟩ : MethodName)) hown (mvT hZ (hw _ (List.mem_of_getElem? (i := 43) rfl))) (mvT hZ (hw _ (List.mem_of_getElem? (i := 44) rfl))) (notFace_of_selects (args := #[]) (mvT hZ (hw _ (List.mem_of_getElem? (i := 46) rfl)))) (mvT hZ (hw _ (List.mem_of_getElem? (i := 46) rfl))) (mvT hZ (hw _ (List.mem_of_getElem? (i := 45) rfl))) (by decide) (backOf (W := 0) (rm8 l Z a0 hw [] b189 b312 kb312 (own_cap ((0 : Int32) + (1 : Int32)) (own_cap (0 : Int32) z)) (([] ++ [(.int (own_b p2))]) ++ [(.int (own_b p3))]) T312.heap n0 Z313 Fb312 Vx312) hZ (hw _ (List.mem_of_getElem? (i := 47) rfl)) (hw _ (List.mem_of_getElem? (i := 4) rfl)) (by decide) (by decide)) q330a q330c (g := (mkF m 188 #[.val (.int p0), .val (.int p1), .val (.int p2), .val (.int p3), .val (.int p4), .val (.int p5), .val (.int z), .val (.int n6), .val (.ref b165), .val (.ref b189), .val (.int ec), .unset] [(.ref b189)])) rfl (by rw [hml]; rfl) (Steps.refl _) (argsL := []) (rest := []) (lenOf pd_4 rfl) rfl (by show 2 * 0 + _ ≤ _; exact Nat.le_of_eq rfl) (hb hby at_188) (fun _ _ => ⟨rfl, eq327, (by decide : 5 + 0 ≤ _), (by decide : 43 + 0 ≤ _)⟩)
    dsimp only [Pt.U, Pt.locs, Pt.cells, Pt.slots] at X330 l330 y330 z330 st330 hQ330
    subst l330 y330 z330
    obtain ⟨rfl, Nq330, eq330⟩ := hQ330
    have N330 := Fr.app NH327 Nq330
    obtain ⟨LH330, XH330, NH330⟩ := own_hide X330 N330
    clear X330 N330
    have k331 : ∀ t, Steps p.tables e below (T330.setTop (mkF m 191 #[.val (.int p0), .val (.int p1), .val (.int p2), .val (.int p3), .val (.int p4), .val (.int p5), .val (.int z), .val (.int n6), .val (.ref b165), .val (.ref b189), .val (.int ec), .unset] [(.int (own_cap ((0 : Int32) + (1 : Int32)) (own_cap (0 : Int32) z)))])) t → Steps p.tables e below (s₁.setTop (entryFrame m #[(.int p0), (.int p1), (.int p2), (.int p3), (.int p4), (.int p5)] maxLocals)) t := fun t k => k329 t (st330.trans k)
    have k332 : ∀ t, Steps p.tables e below (T330.setTop (mkF m 200 #[.val (.int p0), .val (.int p1), .val (.int p2), .val (.int p3), .val (.int p4), .val (.int p5), .val (.int z), .val (.int n6), .val (.ref b165), .val (.ref b189), .val (.int ec), .unset] [(.ref b189)])) t → Steps p.tables e below (s₁.setTop (entryFrame m #[(.int p0), (.int p1), (.int p2), (.int p3), (.int p4), (.int p5)] maxLocals)) t := fun t k => k331 t (by
      show Steps p.tables e below (T330.setTop (mkF m 191 #[.val (.int p0), .val (.int p1), .val (.int p2), .val (.int p3), .val (.int p4), .val (.int p5), .val (.int z), .val (.int n6), .val (.ref b165), .val (.ref b189), .val (.int ec), .unset] [(.int (own_cap ((0 : Int32) + (1 : Int32)) (own_cap (0 : Int32) z)))])) _
      refine XS.iload XH330.here hx rfl (hb hby at_191) rfl ?_
      show Steps p.tables e below (T330.setTop (mkF m 193 #[.val (.int p0), .val (.int p1), .val (.int p2), .val (.int p3), .val (.int p4), .val (.int p5), .val (.int z), .val (.int n6), .val (.ref b165), .val (.ref b189), .val (.int ec), .unset] [(.int ec), (.int (own_cap ((0 : Int32) + (1 : Int32)) (own_cap (0 : Int32) z)))])) _
      refine XS.icmpYes XH330.here hx rfl (pc0 := 193) (pc' := 198) rfl (hb hby at_193) rfl (teq (by rw [hec, hn]; rcases hz with rfl | rfl | rfl | rfl <;> decide)).1 (by decide) (by decide) ?_
      show Steps p.tables e below (T330.setTop (mkF m 198 #[.val (.int p0), .val (.int p1), .val (.int p2), .val (.int p3), .val (.int p4), .val (.int p5), .val (.int z), .val (.int n6), .val (.ref b165), .val (.ref b189), .val (.int ec), .unset] [])) _
      refine XS.aload XH330.here hx rfl (hb hby at_198) rfl rfl ?_
      exact k)
    obtain ⟨cq333, kq333, q333a, q333b, q333c⟩ := isOf hZ eq330 F315
    obtain ⟨_, _, ⟨T333, L333, kc333, ks333⟩, -, X333, ⟨Lc333, hQ333, l333, y333, z333⟩, st333⟩ := XH330.virtualBack hx (y := (⟨"com/example/wegweiser/wegweiser/index/ByteSink", "bytes", "()[B"⟩ : MethodName)) (z := (⟨"com/example/wegweiser/wegweiser/index/ByteSink", "bytes", "()[B"⟩ : MethodName)) hown (mvT hZ (hw _ (List.mem_of_getElem? (i := 48) rfl))) (mvT hZ (hw _ (List.mem_of_getElem? (i := 49) rfl))) (notFace_of_selects (args := #[]) (mvT hZ (hw _ (List.mem_of_getElem? (i := 51) rfl)))) (mvT hZ (hw _ (List.mem_of_getElem? (i := 51) rfl))) (mvT hZ (hw _ (List.mem_of_getElem? (i := 50) rfl))) (by decide) (backOf (W := 0) (rm9 l Z a0 hw [] b189 b312 T312.heap n0 Z313 Fb312) hZ (hw _ (List.mem_of_getElem? (i := 52) rfl)) (hw _ (List.mem_of_getElem? (i := 4) rfl)) (by decide) (by decide)) q333a q333c (g := (mkF m 200 #[.val (.int p0), .val (.int p1), .val (.int p2), .val (.int p3), .val (.int p4), .val (.int p5), .val (.int z), .val (.int n6), .val (.ref b165), .val (.ref b189), .val (.int ec), .unset] [(.ref b189)])) rfl (by rw [hml]; rfl) (Steps.refl _) (argsL := []) (rest := []) (lenOf pd_5 rfl) rfl (by show 2 * 0 + _ ≤ _; exact Nat.le_of_eq rfl) (hb hby at_200) (fun _ _ => ⟨rfl, eq330, (by decide : 5 + 0 ≤ _), (by decide : 43 + 0 ≤ _)⟩)
    dsimp only [Pt.U, Pt.locs, Pt.cells, Pt.slots] at X333 l333 y333 z333 st333 hQ333
    subst l333 y333 z333
    obtain ⟨rfl, Nq333, eq333⟩ := hQ333
    have N333 := Fr.app NH330 Nq333
    obtain ⟨LH333, XH333, NH333⟩ := own_hide X333 N333
    clear X333 N333
    have k334 : ∀ t, Steps p.tables e below (T333.setTop (mkF m 203 #[.val (.int p0), .val (.int p1), .val (.int p2), .val (.int p3), .val (.int p4), .val (.int p5), .val (.int z), .val (.int n6), .val (.ref b165), .val (.ref b189), .val (.int ec), .unset] [(.ref b312)])) t → Steps p.tables e below (s₁.setTop (entryFrame m #[(.int p0), (.int p1), (.int p2), (.int p3), (.int p4), (.int p5)] maxLocals)) t := fun t k => k332 t (st333.trans k)
    have k336 : ∀ t, Steps p.tables e below (T333.setTop (mkF m 222 #[.val (.int p0), .val (.int p1), .val (.int p2), .val (.int p3), .val (.int p4), .val (.int p5), .val (.int z), .val (.int n6), .val (.ref b165), .val (.ref b189), .val (.int ec), .val (.ref b312)] [(.int (0 : Int32)), (.int n6), (.ref b165), (.ref b312)])) t → Steps p.tables e below (s₁.setTop (entryFrame m #[(.int p0), (.int p1), (.int p2), (.int p3), (.int p4), (.int p5)] maxLocals)) t := fun t k => k334 t (by
      show Steps p.tables e below (T333.setTop (mkF m 203 #[.val (.int p0), .val (.int p1), .val (.int p2), .val (.int p3), .val (.int p4), .val (.int p5), .val (.int z), .val (.int n6), .val (.ref b165), .val (.ref b189), .val (.int ec), .unset] [(.ref b312)])) _
      refine XS.astore XH333.here hx rfl (hb hby at_203) rfl rfl (l' := #[.val (.int p0), .val (.int p1), .val (.int p2), .val (.int p3), .val (.int p4), .val (.int p5), .val (.int z), .val (.int n6), .val (.ref b165), .val (.ref b189), .val (.int ec), .val (.ref b312)]) rfl ?_
      show Steps p.tables e below (T333.setTop (mkF m 205 #[.val (.int p0), .val (.int p1), .val (.int p2), .val (.int p3), .val (.int p4), .val (.int p5), .val (.int z), .val (.int n6), .val (.ref b165), .val (.ref b189), .val (.int ec), .val (.ref b312)] [])) _
      refine XS.aload XH333.here hx rfl (hb hby at_205) rfl rfl ?_
      show Steps p.tables e below (T333.setTop (mkF m 207 #[.val (.int p0), .val (.int p1), .val (.int p2), .val (.int p3), .val (.int p4), .val (.int p5), .val (.int z), .val (.int n6), .val (.ref b165), .val (.ref b189), .val (.int ec), .val (.ref b312)] [(.ref b312)])) _
      obtain ⟨clq335, Arq335, -, Sq335, Nq335, -, -⟩ := id Vx312
      refine XH333.arraylength hx (by rw [eq333]; exact Arq335.1) (State.isArrayOf_alike hZ.alike Arq335.2.1) (g := (mkF m 207 #[.val (.int p0), .val (.int p1), .val (.int p2), .val (.int p3), .val (.int p4), .val (.int p5), .val (.int z), .val (.int n6), .val (.ref b165), .val (.ref b189), .val (.int ec), .val (.ref b312)] [(.ref b312)])) rfl rfl (hb hby at_207) _ ?_
      rw [len_of Sq335 Nq335]
      show Steps p.tables e below (T333.setTop (mkF m 208 #[.val (.int p0), .val (.int p1), .val (.int p2), .val (.int p3), .val (.int p4), .val (.int p5), .val (.int z), .val (.int n6), .val (.ref b165), .val (.ref b189), .val (.int ec), .val (.ref b312)] [(.int (own_cap ((0 : Int32) + (1 : Int32)) (own_cap (0 : Int32) z)))])) _
      refine XS.iload XH333.here hx rfl (hb hby at_208) rfl ?_
      show Steps p.tables e below (T333.setTop (mkF m 210 #[.val (.int p0), .val (.int p1), .val (.int p2), .val (.int p3), .val (.int p4), .val (.int p5), .val (.int z), .val (.int n6), .val (.ref b165), .val (.ref b189), .val (.int ec), .val (.ref b312)] [(.int ec), (.int (own_cap ((0 : Int32) + (1 : Int32)) (own_cap (0 : Int32) z)))])) _
      refine XS.icmpYes XH333.here hx rfl (pc0 := 210) (pc' := 215) rfl (hb hby at_210) rfl (teq (by rw [hec, hn]; rcases hz with rfl | rfl | rfl | rfl <;> decide)).1 (by decide) (by decide) ?_
      show Steps p.tables e below (T333.setTop (mkF m 215 #[.val (.int p0), .val (.int p1), .val (.int p2), .val (.int p3), .val (.int p4), .val (.int p5), .val (.int z), .val (.int n6), .val (.ref b165), .val (.ref b189), .val (.int ec), .val (.ref b312)] [])) _
      refine XS.aload XH333.here hx rfl (hb hby at_215) rfl rfl ?_
      show Steps p.tables e below (T333.setTop (mkF m 217 #[.val (.int p0), .val (.int p1), .val (.int p2), .val (.int p3), .val (.int p4), .val (.int p5), .val (.int z), .val (.int n6), .val (.ref b165), .val (.ref b189), .val (.int ec), .val (.ref b312)] [(.ref b312)])) _
      refine XS.aload XH333.here hx rfl (hb hby at_217) rfl rfl ?_
      show Steps p.tables e below (T333.setTop (mkF m 219 #[.val (.int p0), .val (.int p1), .val (.int p2), .val (.int p3), .val (.int p4), .val (.int p5), .val (.int z), .val (.int n6), .val (.ref b165), .val (.ref b189), .val (.int ec), .val (.ref b312)] [(.ref b165), (.ref b312)])) _
      refine XS.iload XH333.here hx rfl (hb hby at_219) rfl ?_
      show Steps p.tables e below (T333.setTop (mkF m 221 #[.val (.int p0), .val (.int p1), .val (.int p2), .val (.int p3), .val (.int p4), .val (.int p5), .val (.int z), .val (.int n6), .val (.ref b165), .val (.ref b189), .val (.int ec), .val (.ref b312)] [(.int n6), (.ref b165), (.ref b312)])) _
      refine XS.iconst XH333.here hx rfl (hb hby at_221) ?_
      exact k)
    obtain ⟨_, _, ⟨T337, L337, kc337, ks337⟩, -, X337, ⟨Lc337, hQ337, l337, y337, z337⟩, st337⟩ := Jvm.LawKit.callS XH333 hx (y := (⟨"com/example/wegweiser/wegweiser/index/ByteSinkWritePinLaw", "at", "([B[III)Z"⟩ : MethodName)) hown (mvT hZ (hw _ (List.mem_of_getElem? (i := 53) rfl))) (mvT hZ (hw _ (List.mem_of_getElem? (i := 54) rfl))) (mvT hZ (hw _ (List.mem_of_getElem? (i := 55) rfl))) (mvT hZ (hw _ (List.mem_of_getElem? (i := 56) rfl))) (by decide) (backOf (W := 0) (rm10 l Z a0 hw [] b312 b165 n6 (0 : Int32) kb312 (own_cap ((0 : Int32) + (1 : Int32)) (own_cap (0 : Int32) z)) (([] ++ [(.int (own_b p2))]) ++ [(.int (own_b p3))]) c165 [(.int p2), (.int p3), (.int p4), (.int p5), (.int (p2 ^^^ p4))] (own_b p2) p2 T312.heap n0 Z313 Vx312 F314 (by decide) rfl (fun _ => ⟨⟨by decide, by decide⟩, rfl⟩) (fun _ => rfl) (fun h => absurd h (by rw [hn]; decide))) hZ (hw _ (List.mem_of_getElem? (i := 56) rfl)) (hw _ (List.mem_of_getElem? (i := 55) rfl)) (by decide) (by decide)) (g := (mkF m 222 #[.val (.int p0), .val (.int p1), .val (.int p2), .val (.int p3), .val (.int p4), .val (.int p5), .val (.int z), .val (.int n6), .val (.ref b165), .val (.ref b189), .val (.int ec), .val (.ref b312)] [(.int (0 : Int32)), (.int n6), (.ref b165), (.ref b312)])) rfl (by rw [hml]; rfl) (argsL := [(.ref b312), (.ref b165), (.int n6), (.int (0 : Int32))]) (rest := []) (lenOf pd_6 rfl) rfl (by show 2 * 0 + _ ≤ _; exact Nat.le_of_eq rfl) (hb hby at_222) (fun _ _ => ⟨rfl, eq333, (by decide : 5 + 0 ≤ _), (by decide : 43 + 0 ≤ _)⟩)
    dsimp only [Pt.U, Pt.locs, Pt.cells, Pt.slots] at X337 l337 y337 z337 st337 hQ337
    subst l337 y337 z337
    obtain ⟨rfl, Nq337, eq337⟩ := hQ337
    have N337 := Fr.app NH333 Nq337
    obtain ⟨LH337, XH337, NH337⟩ := own_hide X337 N337
    clear X337 N337
    have k338 : ∀ t, Steps p.tables e below (T337.setTop (mkF m 225 #[.val (.int p0), .val (.int p1), .val (.int p2), .val (.int p3), .val (.int p4), .val (.int p5), .val (.int z), .val (.int n6), .val (.ref b165), .val (.ref b189), .val (.int ec), .val (.ref b312)] [(.int (1 : Int32))])) t → Steps p.tables e below (s₁.setTop (entryFrame m #[(.int p0), (.int p1), (.int p2), (.int p3), (.int p4), (.int p5)] maxLocals)) t := fun t k => k336 t (st337 t k)
    have k339 : ∀ t, Steps p.tables e below (T337.setTop (mkF m 235 #[.val (.int p0), .val (.int p1), .val (.int p2), .val (.int p3), .val (.int p4), .val (.int p5), .val (.int z), .val (.int n6), .val (.ref b165), .val (.ref b189), .val (.int ec), .val (.ref b312)] [(.int (1 : Int32)), (.int n6), (.ref b165), (.ref b312)])) t → Steps p.tables e below (s₁.setTop (entryFrame m #[(.int p0), (.int p1), (.int p2), (.int p3), (.int p4), (.int p5)] maxLocals)) t := fun t k => k338 t (by
      show Steps p.tables e below (T337.setTop (mkF m 225 #[.val (.int p0), .val (.int p1), .val (.int p2), .val (.int p3), .val (.int p4), .val (.int p5), .val (.int z), .val (.int n6), .val (.ref b165), .val (.ref b189), .val (.int ec), .val (.ref b312)] [(.int (1 : Int32))])) _
      refine XS.ifNo XH337.here hx rfl (hb hby at_225) rfl ((if0 _ _).trans (feq (by decide : ¬ ((1 : Int32) = (0 : Int32)))).1) ?_
      show Steps p.tables e below (T337.setTop (mkF m 228 #[.val (.int p0), .val (.int p1), .val (.int p2), .val (.int p3), .val (.int p4), .val (.int p5), .val (.int z), .val (.int n6), .val (.ref b165), .val (.ref b189), .val (.int ec), .val (.ref b312)] [])) _
      refine XS.aload XH337.here hx rfl (hb hby at_228) rfl rfl ?_
      show Steps p.tables e below (T337.setTop (mkF m 230 #[.val (.int p0), .val (.int p1), .val (.int p2), .val (.int p3), .val (.int p4), .val (.int p5), .val (.int z), .val (.int n6), .val (.ref b165), .val (.ref b189), .val (.int ec), .val (.ref b312)] [(.ref b312)])) _
      refine XS.aload XH337.here hx rfl (hb hby at_230) rfl rfl ?_
      show Steps p.tables e below (T337.setTop (mkF m 232 #[.val (.int p0), .val (.int p1), .val (.int p2), .val (.int p3), .val (.int p4), .val (.int p5), .val (.int z), .val (.int n6), .val (.ref b165), .val (.ref b189), .val (.int ec), .val (.ref b312)] [(.ref b165), (.ref b312)])) _
      refine XS.iload XH337.here hx rfl (hb hby at_232) rfl ?_
      show Steps p.tables e below (T337.setTop (mkF m 234 #[.val (.int p0), .val (.int p1), .val (.int p2), .val (.int p3), .val (.int p4), .val (.int p5), .val (.int z), .val (.int n6), .val (.ref b165), .val (.ref b189), .val (.int ec), .val (.ref b312)] [(.int n6), (.ref b165), (.ref b312)])) _
      refine XS.iconst XH337.here hx rfl (hb hby at_234) ?_
      exact k)
    obtain ⟨_, _, ⟨T340, L340, kc340, ks340⟩, -, X340, ⟨Lc340, hQ340, l340, y340, z340⟩, st340⟩ := Jvm.LawKit.callS XH337 hx (y := (⟨"com/example/wegweiser/wegweiser/index/ByteSinkWritePinLaw", "at", "([B[III)Z"⟩ : MethodName)) hown (mvT hZ (hw _ (List.mem_of_getElem? (i := 53) rfl))) (mvT hZ (hw _ (List.mem_of_getElem? (i := 54) rfl))) (mvT hZ (hw _ (List.mem_of_getElem? (i := 55) rfl))) (mvT hZ (hw _ (List.mem_of_getElem? (i := 56) rfl))) (by decide) (backOf (W := 0) (rm10 l Z a0 hw [] b312 b165 n6 (1 : Int32) kb312 (own_cap ((0 : Int32) + (1 : Int32)) (own_cap (0 : Int32) z)) (([] ++ [(.int (own_b p2))]) ++ [(.int (own_b p3))]) c165 [(.int p2), (.int p3), (.int p4), (.int p5), (.int (p2 ^^^ p4))] (own_b p3) p3 T312.heap n0 Z313 Vx312 F314 (by decide) rfl (fun _ => ⟨⟨by decide, by decide⟩, rfl⟩) (fun _ => rfl) (fun h => absurd h (by rw [hn]; decide))) hZ (hw _ (List.mem_of_getElem? (i := 56) rfl)) (hw _ (List.mem_of_getElem? (i := 55) rfl)) (by decide) (by decide)) (g := (mkF m 235 #[.val (.int p0), .val (.int p1), .val (.int p2), .val (.int p3), .val (.int p4), .val (.int p5), .val (.int z), .val (.int n6), .val (.ref b165), .val (.ref b189), .val (.int ec), .val (.ref b312)] [(.int (1 : Int32)), (.int n6), (.ref b165), (.ref b312)])) rfl (by rw [hml]; rfl) (argsL := [(.ref b312), (.ref b165), (.int n6), (.int (1 : Int32))]) (rest := []) (lenOf pd_6 rfl) rfl (by show 2 * 0 + _ ≤ _; exact Nat.le_of_eq rfl) (hb hby at_235) (fun _ _ => ⟨rfl, eq337, (by decide : 5 + 0 ≤ _), (by decide : 43 + 0 ≤ _)⟩)
    dsimp only [Pt.U, Pt.locs, Pt.cells, Pt.slots] at X340 l340 y340 z340 st340 hQ340
    subst l340 y340 z340
    obtain ⟨rfl, Nq340, eq340⟩ := hQ340
    have N340 := Fr.app NH337 Nq340
    obtain ⟨LH340, XH340, NH340⟩ := own_hide X340 N340
    clear X340 N340
    have k341 : ∀ t, Steps p.tables e below (T340.setTop (mkF m 238 #[.val (.int p0), .val (.int p1), .val (.int p2), .val (.int p3), .val (.int p4), .val (.int p5), .val (.int z), .val (.int n6), .val (.ref b165), .val (.ref b189), .val (.int ec), .val (.ref b312)] [(.int (1 : Int32))])) t → Steps p.tables e below (s₁.setTop (entryFrame m #[(.int p0), (.int p1), (.int p2), (.int p3), (.int p4), (.int p5)] maxLocals)) t := fun t k => k339 t (st340 t k)
    have k342 : ∀ t, Steps p.tables e below (T340.setTop (mkF m 248 #[.val (.int p0), .val (.int p1), .val (.int p2), .val (.int p3), .val (.int p4), .val (.int p5), .val (.int z), .val (.int n6), .val (.ref b165), .val (.ref b189), .val (.int ec), .val (.ref b312)] [(.int (2 : Int32)), (.int n6), (.ref b165), (.ref b312)])) t → Steps p.tables e below (s₁.setTop (entryFrame m #[(.int p0), (.int p1), (.int p2), (.int p3), (.int p4), (.int p5)] maxLocals)) t := fun t k => k341 t (by
      show Steps p.tables e below (T340.setTop (mkF m 238 #[.val (.int p0), .val (.int p1), .val (.int p2), .val (.int p3), .val (.int p4), .val (.int p5), .val (.int z), .val (.int n6), .val (.ref b165), .val (.ref b189), .val (.int ec), .val (.ref b312)] [(.int (1 : Int32))])) _
      refine XS.ifNo XH340.here hx rfl (hb hby at_238) rfl ((if0 _ _).trans (feq (by decide : ¬ ((1 : Int32) = (0 : Int32)))).1) ?_
      show Steps p.tables e below (T340.setTop (mkF m 241 #[.val (.int p0), .val (.int p1), .val (.int p2), .val (.int p3), .val (.int p4), .val (.int p5), .val (.int z), .val (.int n6), .val (.ref b165), .val (.ref b189), .val (.int ec), .val (.ref b312)] [])) _
      refine XS.aload XH340.here hx rfl (hb hby at_241) rfl rfl ?_
      show Steps p.tables e below (T340.setTop (mkF m 243 #[.val (.int p0), .val (.int p1), .val (.int p2), .val (.int p3), .val (.int p4), .val (.int p5), .val (.int z), .val (.int n6), .val (.ref b165), .val (.ref b189), .val (.int ec), .val (.ref b312)] [(.ref b312)])) _
      refine XS.aload XH340.here hx rfl (hb hby at_243) rfl rfl ?_
      show Steps p.tables e below (T340.setTop (mkF m 245 #[.val (.int p0), .val (.int p1), .val (.int p2), .val (.int p3), .val (.int p4), .val (.int p5), .val (.int z), .val (.int n6), .val (.ref b165), .val (.ref b189), .val (.int ec), .val (.ref b312)] [(.ref b165), (.ref b312)])) _
      refine XS.iload XH340.here hx rfl (hb hby at_245) rfl ?_
      show Steps p.tables e below (T340.setTop (mkF m 247 #[.val (.int p0), .val (.int p1), .val (.int p2), .val (.int p3), .val (.int p4), .val (.int p5), .val (.int z), .val (.int n6), .val (.ref b165), .val (.ref b189), .val (.int ec), .val (.ref b312)] [(.int n6), (.ref b165), (.ref b312)])) _
      refine XS.iconst XH340.here hx rfl (hb hby at_247) ?_
      exact k)
    obtain ⟨_, _, ⟨T343, L343, kc343, ks343⟩, -, X343, ⟨Lc343, hQ343, l343, y343, z343⟩, st343⟩ := Jvm.LawKit.callS XH340 hx (y := (⟨"com/example/wegweiser/wegweiser/index/ByteSinkWritePinLaw", "at", "([B[III)Z"⟩ : MethodName)) hown (mvT hZ (hw _ (List.mem_of_getElem? (i := 53) rfl))) (mvT hZ (hw _ (List.mem_of_getElem? (i := 54) rfl))) (mvT hZ (hw _ (List.mem_of_getElem? (i := 55) rfl))) (mvT hZ (hw _ (List.mem_of_getElem? (i := 56) rfl))) (by decide) (backOf (W := 0) (rm10 l Z a0 hw [] b312 b165 n6 (2 : Int32) kb312 (own_cap ((0 : Int32) + (1 : Int32)) (own_cap (0 : Int32) z)) (([] ++ [(.int (own_b p2))]) ++ [(.int (own_b p3))]) c165 [(.int p2), (.int p3), (.int p4), (.int p5), (.int (p2 ^^^ p4))] (0 : Int32) p4 T312.heap n0 Z313 Vx312 F314 (by decide) rfl (fun _ => ⟨⟨by decide, by decide⟩, rfl⟩) (fun h => absurd h (by rw [hn]; decide)) (fun _ => rfl)) hZ (hw _ (List.mem_of_getElem? (i := 56) rfl)) (hw _ (List.mem_of_getElem? (i := 55) rfl)) (by decide) (by decide)) (g := (mkF m 248 #[.val (.int p0), .val (.int p1), .val (.int p2), .val (.int p3), .val (.int p4), .val (.int p5), .val (.int z), .val (.int n6), .val (.ref b165), .val (.ref b189), .val (.int ec), .val (.ref b312)] [(.int (2 : Int32)), (.int n6), (.ref b165), (.ref b312)])) rfl (by rw [hml]; rfl) (argsL := [(.ref b312), (.ref b165), (.int n6), (.int (2 : Int32))]) (rest := []) (lenOf pd_6 rfl) rfl (by show 2 * 0 + _ ≤ _; exact Nat.le_of_eq rfl) (hb hby at_248) (fun _ _ => ⟨rfl, eq340, (by decide : 5 + 0 ≤ _), (by decide : 43 + 0 ≤ _)⟩)
    dsimp only [Pt.U, Pt.locs, Pt.cells, Pt.slots] at X343 l343 y343 z343 st343 hQ343
    subst l343 y343 z343
    obtain ⟨rfl, Nq343, eq343⟩ := hQ343
    have N343 := Fr.app NH340 Nq343
    obtain ⟨LH343, XH343, NH343⟩ := own_hide X343 N343
    clear X343 N343
    have k344 : ∀ t, Steps p.tables e below (T343.setTop (mkF m 251 #[.val (.int p0), .val (.int p1), .val (.int p2), .val (.int p3), .val (.int p4), .val (.int p5), .val (.int z), .val (.int n6), .val (.ref b165), .val (.ref b189), .val (.int ec), .val (.ref b312)] [(.int (1 : Int32))])) t → Steps p.tables e below (s₁.setTop (entryFrame m #[(.int p0), (.int p1), (.int p2), (.int p3), (.int p4), (.int p5)] maxLocals)) t := fun t k => k342 t (st343 t k)
    have k345 : ∀ t, Steps p.tables e below (T343.setTop (mkF m 261 #[.val (.int p0), .val (.int p1), .val (.int p2), .val (.int p3), .val (.int p4), .val (.int p5), .val (.int z), .val (.int n6), .val (.ref b165), .val (.ref b189), .val (.int ec), .val (.ref b312)] [(.int (3 : Int32)), (.int n6), (.ref b165), (.ref b312)])) t → Steps p.tables e below (s₁.setTop (entryFrame m #[(.int p0), (.int p1), (.int p2), (.int p3), (.int p4), (.int p5)] maxLocals)) t := fun t k => k344 t (by
      show Steps p.tables e below (T343.setTop (mkF m 251 #[.val (.int p0), .val (.int p1), .val (.int p2), .val (.int p3), .val (.int p4), .val (.int p5), .val (.int z), .val (.int n6), .val (.ref b165), .val (.ref b189), .val (.int ec), .val (.ref b312)] [(.int (1 : Int32))])) _
      refine XS.ifNo XH343.here hx rfl (hb hby at_251) rfl ((if0 _ _).trans (feq (by decide : ¬ ((1 : Int32) = (0 : Int32)))).1) ?_
      show Steps p.tables e below (T343.setTop (mkF m 254 #[.val (.int p0), .val (.int p1), .val (.int p2), .val (.int p3), .val (.int p4), .val (.int p5), .val (.int z), .val (.int n6), .val (.ref b165), .val (.ref b189), .val (.int ec), .val (.ref b312)] [])) _
      refine XS.aload XH343.here hx rfl (hb hby at_254) rfl rfl ?_
      show Steps p.tables e below (T343.setTop (mkF m 256 #[.val (.int p0), .val (.int p1), .val (.int p2), .val (.int p3), .val (.int p4), .val (.int p5), .val (.int z), .val (.int n6), .val (.ref b165), .val (.ref b189), .val (.int ec), .val (.ref b312)] [(.ref b312)])) _
      refine XS.aload XH343.here hx rfl (hb hby at_256) rfl rfl ?_
      show Steps p.tables e below (T343.setTop (mkF m 258 #[.val (.int p0), .val (.int p1), .val (.int p2), .val (.int p3), .val (.int p4), .val (.int p5), .val (.int z), .val (.int n6), .val (.ref b165), .val (.ref b189), .val (.int ec), .val (.ref b312)] [(.ref b165), (.ref b312)])) _
      refine XS.iload XH343.here hx rfl (hb hby at_258) rfl ?_
      show Steps p.tables e below (T343.setTop (mkF m 260 #[.val (.int p0), .val (.int p1), .val (.int p2), .val (.int p3), .val (.int p4), .val (.int p5), .val (.int z), .val (.int n6), .val (.ref b165), .val (.ref b189), .val (.int ec), .val (.ref b312)] [(.int n6), (.ref b165), (.ref b312)])) _
      refine XS.iconst XH343.here hx rfl (hb hby at_260) ?_
      exact k)
    obtain ⟨_, _, ⟨T346, L346, kc346, ks346⟩, -, X346, ⟨Lc346, hQ346, l346, y346, z346⟩, st346⟩ := Jvm.LawKit.callS XH343 hx (y := (⟨"com/example/wegweiser/wegweiser/index/ByteSinkWritePinLaw", "at", "([B[III)Z"⟩ : MethodName)) hown (mvT hZ (hw _ (List.mem_of_getElem? (i := 53) rfl))) (mvT hZ (hw _ (List.mem_of_getElem? (i := 54) rfl))) (mvT hZ (hw _ (List.mem_of_getElem? (i := 55) rfl))) (mvT hZ (hw _ (List.mem_of_getElem? (i := 56) rfl))) (by decide) (backOf (W := 0) (rm10 l Z a0 hw [] b312 b165 n6 (3 : Int32) kb312 (own_cap ((0 : Int32) + (1 : Int32)) (own_cap (0 : Int32) z)) (([] ++ [(.int (own_b p2))]) ++ [(.int (own_b p3))]) c165 [(.int p2), (.int p3), (.int p4), (.int p5), (.int (p2 ^^^ p4))] (0 : Int32) p5 T312.heap n0 Z313 Vx312 F314 (by decide) rfl (fun _ => ⟨⟨by decide, by decide⟩, rfl⟩) (fun h => absurd h (by rw [hn]; decide)) (fun _ => rfl)) hZ (hw _ (List.mem_of_getElem? (i := 56) rfl)) (hw _ (List.mem_of_getElem? (i := 55) rfl)) (by decide) (by decide)) (g := (mkF m 261 #[.val (.int p0), .val (.int p1), .val (.int p2), .val (.int p3), .val (.int p4), .val (.int p5), .val (.int z), .val (.int n6), .val (.ref b165), .val (.ref b189), .val (.int ec), .val (.ref b312)] [(.int (3 : Int32)), (.int n6), (.ref b165), (.ref b312)])) rfl (by rw [hml]; rfl) (argsL := [(.ref b312), (.ref b165), (.int n6), (.int (3 : Int32))]) (rest := []) (lenOf pd_6 rfl) rfl (by show 2 * 0 + _ ≤ _; exact Nat.le_of_eq rfl) (hb hby at_261) (fun _ _ => ⟨rfl, eq343, (by decide : 5 + 0 ≤ _), (by decide : 43 + 0 ≤ _)⟩)
    dsimp only [Pt.U, Pt.locs, Pt.cells, Pt.slots] at X346 l346 y346 z346 st346 hQ346
    subst l346 y346 z346
    obtain ⟨rfl, Nq346, eq346⟩ := hQ346
    have N346 := Fr.app NH343 Nq346
    obtain ⟨LH346, XH346, NH346⟩ := own_hide X346 N346
    clear X346 N346
    have k347 : ∀ t, Steps p.tables e below (T346.setTop (mkF m 264 #[.val (.int p0), .val (.int p1), .val (.int p2), .val (.int p3), .val (.int p4), .val (.int p5), .val (.int z), .val (.int n6), .val (.ref b165), .val (.ref b189), .val (.int ec), .val (.ref b312)] [(.int (1 : Int32))])) t → Steps p.tables e below (s₁.setTop (entryFrame m #[(.int p0), (.int p1), (.int p2), (.int p3), (.int p4), (.int p5)] maxLocals)) t := fun t k => k345 t (st346 t k)
    have k348 : ∀ t, Steps p.tables e below (T346.setTop (mkF m 274 #[.val (.int p0), .val (.int p1), .val (.int p2), .val (.int p3), .val (.int p4), .val (.int p5), .val (.int z), .val (.int n6), .val (.ref b165), .val (.ref b189), .val (.int ec), .val (.ref b312)] [(.int (4 : Int32)), (.int n6), (.ref b165), (.ref b312)])) t → Steps p.tables e below (s₁.setTop (entryFrame m #[(.int p0), (.int p1), (.int p2), (.int p3), (.int p4), (.int p5)] maxLocals)) t := fun t k => k347 t (by
      show Steps p.tables e below (T346.setTop (mkF m 264 #[.val (.int p0), .val (.int p1), .val (.int p2), .val (.int p3), .val (.int p4), .val (.int p5), .val (.int z), .val (.int n6), .val (.ref b165), .val (.ref b189), .val (.int ec), .val (.ref b312)] [(.int (1 : Int32))])) _
      refine XS.ifNo XH346.here hx rfl (hb hby at_264) rfl ((if0 _ _).trans (feq (by decide : ¬ ((1 : Int32) = (0 : Int32)))).1) ?_
      show Steps p.tables e below (T346.setTop (mkF m 267 #[.val (.int p0), .val (.int p1), .val (.int p2), .val (.int p3), .val (.int p4), .val (.int p5), .val (.int z), .val (.int n6), .val (.ref b165), .val (.ref b189), .val (.int ec), .val (.ref b312)] [])) _
      refine XS.aload XH346.here hx rfl (hb hby at_267) rfl rfl ?_
      show Steps p.tables e below (T346.setTop (mkF m 269 #[.val (.int p0), .val (.int p1), .val (.int p2), .val (.int p3), .val (.int p4), .val (.int p5), .val (.int z), .val (.int n6), .val (.ref b165), .val (.ref b189), .val (.int ec), .val (.ref b312)] [(.ref b312)])) _
      refine XS.aload XH346.here hx rfl (hb hby at_269) rfl rfl ?_
      show Steps p.tables e below (T346.setTop (mkF m 271 #[.val (.int p0), .val (.int p1), .val (.int p2), .val (.int p3), .val (.int p4), .val (.int p5), .val (.int z), .val (.int n6), .val (.ref b165), .val (.ref b189), .val (.int ec), .val (.ref b312)] [(.ref b165), (.ref b312)])) _
      refine XS.iload XH346.here hx rfl (hb hby at_271) rfl ?_
      show Steps p.tables e below (T346.setTop (mkF m 273 #[.val (.int p0), .val (.int p1), .val (.int p2), .val (.int p3), .val (.int p4), .val (.int p5), .val (.int z), .val (.int n6), .val (.ref b165), .val (.ref b189), .val (.int ec), .val (.ref b312)] [(.int n6), (.ref b165), (.ref b312)])) _
      refine XS.iconst XH346.here hx rfl (hb hby at_273) ?_
      exact k)
    obtain ⟨_, _, ⟨T349, L349, kc349, ks349⟩, -, X349, ⟨Lc349, hQ349, l349, y349, z349⟩, st349⟩ := Jvm.LawKit.callS XH346 hx (y := (⟨"com/example/wegweiser/wegweiser/index/ByteSinkWritePinLaw", "at", "([B[III)Z"⟩ : MethodName)) hown (mvT hZ (hw _ (List.mem_of_getElem? (i := 53) rfl))) (mvT hZ (hw _ (List.mem_of_getElem? (i := 54) rfl))) (mvT hZ (hw _ (List.mem_of_getElem? (i := 55) rfl))) (mvT hZ (hw _ (List.mem_of_getElem? (i := 56) rfl))) (by decide) (backOf (W := 0) (rm10 l Z a0 hw [] b312 b165 n6 (4 : Int32) kb312 (own_cap ((0 : Int32) + (1 : Int32)) (own_cap (0 : Int32) z)) (([] ++ [(.int (own_b p2))]) ++ [(.int (own_b p3))]) c165 [(.int p2), (.int p3), (.int p4), (.int p5), (.int (p2 ^^^ p4))] (0 : Int32) (p2 ^^^ p4) T312.heap n0 Z313 Vx312 F314 (by decide) rfl (fun _ => ⟨⟨by decide, by decide⟩, rfl⟩) (fun h => absurd h (by rw [hn]; decide)) (fun _ => rfl)) hZ (hw _ (List.mem_of_getElem? (i := 56) rfl)) (hw _ (List.mem_of_getElem? (i := 55) rfl)) (by decide) (by decide)) (g := (mkF m 274 #[.val (.int p0), .val (.int p1), .val (.int p2), .val (.int p3), .val (.int p4), .val (.int p5), .val (.int z), .val (.int n6), .val (.ref b165), .val (.ref b189), .val (.int ec), .val (.ref b312)] [(.int (4 : Int32)), (.int n6), (.ref b165), (.ref b312)])) rfl (by rw [hml]; rfl) (argsL := [(.ref b312), (.ref b165), (.int n6), (.int (4 : Int32))]) (rest := []) (lenOf pd_6 rfl) rfl (by show 2 * 0 + _ ≤ _; exact Nat.le_of_eq rfl) (hb hby at_274) (fun _ _ => ⟨rfl, eq346, (by decide : 5 + 0 ≤ _), (by decide : 43 + 0 ≤ _)⟩)
    dsimp only [Pt.U, Pt.locs, Pt.cells, Pt.slots] at X349 l349 y349 z349 st349 hQ349
    subst l349 y349 z349
    obtain ⟨rfl, Nq349, eq349⟩ := hQ349
    have N349 := Fr.app NH346 Nq349
    obtain ⟨LH349, XH349, NH349⟩ := own_hide X349 N349
    clear X349 N349
    have k350 : ∀ t, Steps p.tables e below (T349.setTop (mkF m 277 #[.val (.int p0), .val (.int p1), .val (.int p2), .val (.int p3), .val (.int p4), .val (.int p5), .val (.int z), .val (.int n6), .val (.ref b165), .val (.ref b189), .val (.int ec), .val (.ref b312)] [(.int (1 : Int32))])) t → Steps p.tables e below (s₁.setTop (entryFrame m #[(.int p0), (.int p1), (.int p2), (.int p3), (.int p4), (.int p5)] maxLocals)) t := fun t k => k348 t (st349 t k)
    have k351 : ∀ t, Steps p.tables e below (T349.setTop (mkF m 287 #[.val (.int p0), .val (.int p1), .val (.int p2), .val (.int p3), .val (.int p4), .val (.int p5), .val (.int z), .val (.int n6), .val (.ref b165), .val (.ref b189), .val (.int ec), .val (.ref b312)] [(.int (5 : Int32)), (.int n6), (.ref b165), (.ref b312)])) t → Steps p.tables e below (s₁.setTop (entryFrame m #[(.int p0), (.int p1), (.int p2), (.int p3), (.int p4), (.int p5)] maxLocals)) t := fun t k => k350 t (by
      show Steps p.tables e below (T349.setTop (mkF m 277 #[.val (.int p0), .val (.int p1), .val (.int p2), .val (.int p3), .val (.int p4), .val (.int p5), .val (.int z), .val (.int n6), .val (.ref b165), .val (.ref b189), .val (.int ec), .val (.ref b312)] [(.int (1 : Int32))])) _
      refine XS.ifNo XH349.here hx rfl (hb hby at_277) rfl ((if0 _ _).trans (feq (by decide : ¬ ((1 : Int32) = (0 : Int32)))).1) ?_
      show Steps p.tables e below (T349.setTop (mkF m 280 #[.val (.int p0), .val (.int p1), .val (.int p2), .val (.int p3), .val (.int p4), .val (.int p5), .val (.int z), .val (.int n6), .val (.ref b165), .val (.ref b189), .val (.int ec), .val (.ref b312)] [])) _
      refine XS.aload XH349.here hx rfl (hb hby at_280) rfl rfl ?_
      show Steps p.tables e below (T349.setTop (mkF m 282 #[.val (.int p0), .val (.int p1), .val (.int p2), .val (.int p3), .val (.int p4), .val (.int p5), .val (.int z), .val (.int n6), .val (.ref b165), .val (.ref b189), .val (.int ec), .val (.ref b312)] [(.ref b312)])) _
      refine XS.aload XH349.here hx rfl (hb hby at_282) rfl rfl ?_
      show Steps p.tables e below (T349.setTop (mkF m 284 #[.val (.int p0), .val (.int p1), .val (.int p2), .val (.int p3), .val (.int p4), .val (.int p5), .val (.int z), .val (.int n6), .val (.ref b165), .val (.ref b189), .val (.int ec), .val (.ref b312)] [(.ref b165), (.ref b312)])) _
      refine XS.iload XH349.here hx rfl (hb hby at_284) rfl ?_
      show Steps p.tables e below (T349.setTop (mkF m 286 #[.val (.int p0), .val (.int p1), .val (.int p2), .val (.int p3), .val (.int p4), .val (.int p5), .val (.int z), .val (.int n6), .val (.ref b165), .val (.ref b189), .val (.int ec), .val (.ref b312)] [(.int n6), (.ref b165), (.ref b312)])) _
      refine XS.iconst XH349.here hx rfl (hb hby at_286) ?_
      exact k)
    obtain ⟨_, _, ⟨T352, L352, kc352, ks352⟩, -, X352, ⟨Lc352, hQ352, l352, y352, z352⟩, st352⟩ := Jvm.LawKit.callS XH349 hx (y := (⟨"com/example/wegweiser/wegweiser/index/ByteSinkWritePinLaw", "at", "([B[III)Z"⟩ : MethodName)) hown (mvT hZ (hw _ (List.mem_of_getElem? (i := 53) rfl))) (mvT hZ (hw _ (List.mem_of_getElem? (i := 54) rfl))) (mvT hZ (hw _ (List.mem_of_getElem? (i := 55) rfl))) (mvT hZ (hw _ (List.mem_of_getElem? (i := 56) rfl))) (by decide) (backOf (W := 0) (rm10 l Z a0 hw [] b312 b165 n6 (5 : Int32) kb312 (own_cap ((0 : Int32) + (1 : Int32)) (own_cap (0 : Int32) z)) (([] ++ [(.int (own_b p2))]) ++ [(.int (own_b p3))]) c165 [(.int p2), (.int p3), (.int p4), (.int p5), (.int (p2 ^^^ p4))] (0 : Int32) (0 : Int32) T312.heap n0 Z313 Vx312 F314 (by decide) rfl (fun h => absurd h (by rw [hn]; decide)) (fun h => absurd h (by rw [hn]; decide)) (fun _ => rfl)) hZ (hw _ (List.mem_of_getElem? (i := 56) rfl)) (hw _ (List.mem_of_getElem? (i := 55) rfl)) (by decide) (by decide)) (g := (mkF m 287 #[.val (.int p0), .val (.int p1), .val (.int p2), .val (.int p3), .val (.int p4), .val (.int p5), .val (.int z), .val (.int n6), .val (.ref b165), .val (.ref b189), .val (.int ec), .val (.ref b312)] [(.int (5 : Int32)), (.int n6), (.ref b165), (.ref b312)])) rfl (by rw [hml]; rfl) (argsL := [(.ref b312), (.ref b165), (.int n6), (.int (5 : Int32))]) (rest := []) (lenOf pd_6 rfl) rfl (by show 2 * 0 + _ ≤ _; exact Nat.le_of_eq rfl) (hb hby at_287) (fun _ _ => ⟨rfl, eq349, (by decide : 5 + 0 ≤ _), (by decide : 43 + 0 ≤ _)⟩)
    dsimp only [Pt.U, Pt.locs, Pt.cells, Pt.slots] at X352 l352 y352 z352 st352 hQ352
    subst l352 y352 z352
    obtain ⟨rfl, Nq352, eq352⟩ := hQ352
    have N352 := Fr.app NH349 Nq352
    obtain ⟨LH352, XH352, NH352⟩ := own_hide X352 N352
    clear X352 N352
    have k353 : ∀ t, Steps p.tables e below (T352.setTop (mkF m 290 #[.val (.int p0), .val (.int p1), .val (.int p2), .val (.int p3), .val (.int p4), .val (.int p5), .val (.int z), .val (.int n6), .val (.ref b165), .val (.ref b189), .val (.int ec), .val (.ref b312)] [(.int (1 : Int32))])) t → Steps p.tables e below (s₁.setTop (entryFrame m #[(.int p0), (.int p1), (.int p2), (.int p3), (.int p4), (.int p5)] maxLocals)) t := fun t k => k351 t (st352 t k)
    have k354 : ∀ t, Steps p.tables e below (T352.setTop (mkF m 301 #[.val (.int p0), .val (.int p1), .val (.int p2), .val (.int p3), .val (.int p4), .val (.int p5), .val (.int z), .val (.int n6), .val (.ref b165), .val (.ref b189), .val (.int ec), .val (.ref b312)] [(.int (6 : Int32)), (.int n6), (.ref b165), (.ref b312)])) t → Steps p.tables e below (s₁.setTop (entryFrame m #[(.int p0), (.int p1), (.int p2), (.int p3), (.int p4), (.int p5)] maxLocals)) t := fun t k => k353 t (by
      show Steps p.tables e below (T352.setTop (mkF m 290 #[.val (.int p0), .val (.int p1), .val (.int p2), .val (.int p3), .val (.int p4), .val (.int p5), .val (.int z), .val (.int n6), .val (.ref b165), .val (.ref b189), .val (.int ec), .val (.ref b312)] [(.int (1 : Int32))])) _
      refine XS.ifNo XH352.here hx rfl (hb hby at_290) rfl ((if0 _ _).trans (feq (by decide : ¬ ((1 : Int32) = (0 : Int32)))).1) ?_
      show Steps p.tables e below (T352.setTop (mkF m 293 #[.val (.int p0), .val (.int p1), .val (.int p2), .val (.int p3), .val (.int p4), .val (.int p5), .val (.int z), .val (.int n6), .val (.ref b165), .val (.ref b189), .val (.int ec), .val (.ref b312)] [])) _
      refine XS.aload XH352.here hx rfl (hb hby at_293) rfl rfl ?_
      show Steps p.tables e below (T352.setTop (mkF m 295 #[.val (.int p0), .val (.int p1), .val (.int p2), .val (.int p3), .val (.int p4), .val (.int p5), .val (.int z), .val (.int n6), .val (.ref b165), .val (.ref b189), .val (.int ec), .val (.ref b312)] [(.ref b312)])) _
      refine XS.aload XH352.here hx rfl (hb hby at_295) rfl rfl ?_
      show Steps p.tables e below (T352.setTop (mkF m 297 #[.val (.int p0), .val (.int p1), .val (.int p2), .val (.int p3), .val (.int p4), .val (.int p5), .val (.int z), .val (.int n6), .val (.ref b165), .val (.ref b189), .val (.int ec), .val (.ref b312)] [(.ref b165), (.ref b312)])) _
      refine XS.iload XH352.here hx rfl (hb hby at_297) rfl ?_
      show Steps p.tables e below (T352.setTop (mkF m 299 #[.val (.int p0), .val (.int p1), .val (.int p2), .val (.int p3), .val (.int p4), .val (.int p5), .val (.int z), .val (.int n6), .val (.ref b165), .val (.ref b189), .val (.int ec), .val (.ref b312)] [(.int n6), (.ref b165), (.ref b312)])) _
      refine XS.bipush XH352.here hx rfl (hb hby at_299) ?_
      exact k)
    obtain ⟨_, _, ⟨T355, L355, kc355, ks355⟩, -, X355, ⟨Lc355, hQ355, l355, y355, z355⟩, st355⟩ := Jvm.LawKit.callS XH352 hx (y := (⟨"com/example/wegweiser/wegweiser/index/ByteSinkWritePinLaw", "at", "([B[III)Z"⟩ : MethodName)) hown (mvT hZ (hw _ (List.mem_of_getElem? (i := 53) rfl))) (mvT hZ (hw _ (List.mem_of_getElem? (i := 54) rfl))) (mvT hZ (hw _ (List.mem_of_getElem? (i := 55) rfl))) (mvT hZ (hw _ (List.mem_of_getElem? (i := 56) rfl))) (by decide) (backOf (W := 0) (rm10 l Z a0 hw [] b312 b165 n6 (6 : Int32) kb312 (own_cap ((0 : Int32) + (1 : Int32)) (own_cap (0 : Int32) z)) (([] ++ [(.int (own_b p2))]) ++ [(.int (own_b p3))]) c165 [(.int p2), (.int p3), (.int p4), (.int p5), (.int (p2 ^^^ p4))] (0 : Int32) (0 : Int32) T312.heap n0 Z313 Vx312 F314 (by decide) rfl (fun h => absurd h (by rw [hn]; decide)) (fun h => absurd h (by rw [hn]; decide)) (fun _ => rfl)) hZ (hw _ (List.mem_of_getElem? (i := 56) rfl)) (hw _ (List.mem_of_getElem? (i := 55) rfl)) (by decide) (by decide)) (g := (mkF m 301 #[.val (.int p0), .val (.int p1), .val (.int p2), .val (.int p3), .val (.int p4), .val (.int p5), .val (.int z), .val (.int n6), .val (.ref b165), .val (.ref b189), .val (.int ec), .val (.ref b312)] [(.int (6 : Int32)), (.int n6), (.ref b165), (.ref b312)])) rfl (by rw [hml]; rfl) (argsL := [(.ref b312), (.ref b165), (.int n6), (.int (6 : Int32))]) (rest := []) (lenOf pd_6 rfl) rfl (by show 2 * 0 + _ ≤ _; exact Nat.le_of_eq rfl) (hb hby at_301) (fun _ _ => ⟨rfl, eq352, (by decide : 5 + 0 ≤ _), (by decide : 43 + 0 ≤ _)⟩)
    dsimp only [Pt.U, Pt.locs, Pt.cells, Pt.slots] at X355 l355 y355 z355 st355 hQ355
    subst l355 y355 z355
    obtain ⟨rfl, Nq355, eq355⟩ := hQ355
    have N355 := Fr.app NH352 Nq355
    obtain ⟨LH355, XH355, NH355⟩ := own_hide X355 N355
    clear X355 N355
    have k356 : ∀ t, Steps p.tables e below (T355.setTop (mkF m 304 #[.val (.int p0), .val (.int p1), .val (.int p2), .val (.int p3), .val (.int p4), .val (.int p5), .val (.int z), .val (.int n6), .val (.ref b165), .val (.ref b189), .val (.int ec), .val (.ref b312)] [(.int (1 : Int32))])) t → Steps p.tables e below (s₁.setTop (entryFrame m #[(.int p0), (.int p1), (.int p2), (.int p3), (.int p4), (.int p5)] maxLocals)) t := fun t k => k354 t (st355 t k)
    have k357 : ∀ t, Steps p.tables e below (T355.setTop (mkF m 315 #[.val (.int p0), .val (.int p1), .val (.int p2), .val (.int p3), .val (.int p4), .val (.int p5), .val (.int z), .val (.int n6), .val (.ref b165), .val (.ref b189), .val (.int ec), .val (.ref b312)] [(.int (7 : Int32)), (.int n6), (.ref b165), (.ref b312)])) t → Steps p.tables e below (s₁.setTop (entryFrame m #[(.int p0), (.int p1), (.int p2), (.int p3), (.int p4), (.int p5)] maxLocals)) t := fun t k => k356 t (by
      show Steps p.tables e below (T355.setTop (mkF m 304 #[.val (.int p0), .val (.int p1), .val (.int p2), .val (.int p3), .val (.int p4), .val (.int p5), .val (.int z), .val (.int n6), .val (.ref b165), .val (.ref b189), .val (.int ec), .val (.ref b312)] [(.int (1 : Int32))])) _
      refine XS.ifNo XH355.here hx rfl (hb hby at_304) rfl ((if0 _ _).trans (feq (by decide : ¬ ((1 : Int32) = (0 : Int32)))).1) ?_
      show Steps p.tables e below (T355.setTop (mkF m 307 #[.val (.int p0), .val (.int p1), .val (.int p2), .val (.int p3), .val (.int p4), .val (.int p5), .val (.int z), .val (.int n6), .val (.ref b165), .val (.ref b189), .val (.int ec), .val (.ref b312)] [])) _
      refine XS.aload XH355.here hx rfl (hb hby at_307) rfl rfl ?_
      show Steps p.tables e below (T355.setTop (mkF m 309 #[.val (.int p0), .val (.int p1), .val (.int p2), .val (.int p3), .val (.int p4), .val (.int p5), .val (.int z), .val (.int n6), .val (.ref b165), .val (.ref b189), .val (.int ec), .val (.ref b312)] [(.ref b312)])) _
      refine XS.aload XH355.here hx rfl (hb hby at_309) rfl rfl ?_
      show Steps p.tables e below (T355.setTop (mkF m 311 #[.val (.int p0), .val (.int p1), .val (.int p2), .val (.int p3), .val (.int p4), .val (.int p5), .val (.int z), .val (.int n6), .val (.ref b165), .val (.ref b189), .val (.int ec), .val (.ref b312)] [(.ref b165), (.ref b312)])) _
      refine XS.iload XH355.here hx rfl (hb hby at_311) rfl ?_
      show Steps p.tables e below (T355.setTop (mkF m 313 #[.val (.int p0), .val (.int p1), .val (.int p2), .val (.int p3), .val (.int p4), .val (.int p5), .val (.int z), .val (.int n6), .val (.ref b165), .val (.ref b189), .val (.int ec), .val (.ref b312)] [(.int n6), (.ref b165), (.ref b312)])) _
      refine XS.bipush XH355.here hx rfl (hb hby at_313) ?_
      exact k)
    obtain ⟨_, _, ⟨T358, L358, kc358, ks358⟩, -, X358, ⟨Lc358, hQ358, l358, y358, z358⟩, st358⟩ := Jvm.LawKit.callS XH355 hx (y := (⟨"com/example/wegweiser/wegweiser/index/ByteSinkWritePinLaw", "at", "([B[III)Z"⟩ : MethodName)) hown (mvT hZ (hw _ (List.mem_of_getElem? (i := 53) rfl))) (mvT hZ (hw _ (List.mem_of_getElem? (i := 54) rfl))) (mvT hZ (hw _ (List.mem_of_getElem? (i := 55) rfl))) (mvT hZ (hw _ (List.mem_of_getElem? (i := 56) rfl))) (by decide) (backOf (W := 0) (rm10 l Z a0 hw [] b312 b165 n6 (7 : Int32) kb312 (own_cap ((0 : Int32) + (1 : Int32)) (own_cap (0 : Int32) z)) (([] ++ [(.int (own_b p2))]) ++ [(.int (own_b p3))]) c165 [(.int p2), (.int p3), (.int p4), (.int p5), (.int (p2 ^^^ p4))] (0 : Int32) (0 : Int32) T312.heap n0 Z313 Vx312 F314 (by decide) rfl (fun h => absurd h (by rw [hn]; decide)) (fun h => absurd h (by rw [hn]; decide)) (fun _ => rfl)) hZ (hw _ (List.mem_of_getElem? (i := 56) rfl)) (hw _ (List.mem_of_getElem? (i := 55) rfl)) (by decide) (by decide)) (g := (mkF m 315 #[.val (.int p0), .val (.int p1), .val (.int p2), .val (.int p3), .val (.int p4), .val (.int p5), .val (.int z), .val (.int n6), .val (.ref b165), .val (.ref b189), .val (.int ec), .val (.ref b312)] [(.int (7 : Int32)), (.int n6), (.ref b165), (.ref b312)])) rfl (by rw [hml]; rfl) (argsL := [(.ref b312), (.ref b165), (.int n6), (.int (7 : Int32))]) (rest := []) (lenOf pd_6 rfl) rfl (by show 2 * 0 + _ ≤ _; exact Nat.le_of_eq rfl) (hb hby at_315) (fun _ _ => ⟨rfl, eq355, (by decide : 5 + 0 ≤ _), (by decide : 43 + 0 ≤ _)⟩)
    dsimp only [Pt.U, Pt.locs, Pt.cells, Pt.slots] at X358 l358 y358 z358 st358 hQ358
    subst l358 y358 z358
    obtain ⟨rfl, Nq358, eq358⟩ := hQ358
    have N358 := Fr.app NH355 Nq358
    obtain ⟨LH358, XH358, NH358⟩ := own_hide X358 N358
    clear X358 N358
    have k359 : ∀ t, Steps p.tables e below (T358.setTop (mkF m 318 #[.val (.int p0), .val (.int p1), .val (.int p2), .val (.int p3), .val (.int p4), .val (.int p5), .val (.int z), .val (.int n6), .val (.ref b165), .val (.ref b189), .val (.int ec), .val (.ref b312)] [(.int (1 : Int32))])) t → Steps p.tables e below (s₁.setTop (entryFrame m #[(.int p0), (.int p1), (.int p2), (.int p3), (.int p4), (.int p5)] maxLocals)) t := fun t k => k357 t (st358 t k)
    have k360 : ∀ t, Steps p.tables e below (T358.setTop (mkF m 326 #[.val (.int p0), .val (.int p1), .val (.int p2), .val (.int p3), .val (.int p4), .val (.int p5), .val (.int z), .val (.int n6), .val (.ref b165), .val (.ref b189), .val (.int ec), .val (.ref b312)] [(.int (1 : Int32))])) t → Steps p.tables e below (s₁.setTop (entryFrame m #[(.int p0), (.int p1), (.int p2), (.int p3), (.int p4), (.int p5)] maxLocals)) t := fun t k => k359 t (by
      show Steps p.tables e below (T358.setTop (mkF m 318 #[.val (.int p0), .val (.int p1), .val (.int p2), .val (.int p3), .val (.int p4), .val (.int p5), .val (.int z), .val (.int n6), .val (.ref b165), .val (.ref b189), .val (.int ec), .val (.ref b312)] [(.int (1 : Int32))])) _
      refine XS.ifNo XH358.here hx rfl (hb hby at_318) rfl ((if0 _ _).trans (feq (by decide : ¬ ((1 : Int32) = (0 : Int32)))).1) ?_
      show Steps p.tables e below (T358.setTop (mkF m 321 #[.val (.int p0), .val (.int p1), .val (.int p2), .val (.int p3), .val (.int p4), .val (.int p5), .val (.int z), .val (.int n6), .val (.ref b165), .val (.ref b189), .val (.int ec), .val (.ref b312)] [])) _
      refine XS.iconst XH358.here hx rfl (hb hby at_321) ?_
      show Steps p.tables e below (T358.setTop (mkF m 322 #[.val (.int p0), .val (.int p1), .val (.int p2), .val (.int p3), .val (.int p4), .val (.int p5), .val (.int z), .val (.int n6), .val (.ref b165), .val (.ref b189), .val (.int ec), .val (.ref b312)] [(.int (1 : Int32))])) _
      refine XS.goto XH358.here hx rfl (pc0 := 322) (pc' := 326) rfl (hb hby at_322) (by decide) (by decide) ?_
      exact k)
    obtain ⟨fs, hr, hrun, hended, hW, hsame⟩ := XH358.leave (v := some (.int (1 : Int32))) (fun h => by rw [Bd.returns] at h; cases h)
    refine ⟨_, _, k360 _ ?_, hrun, hended, _, _, rfl, ?_, ⟨_, rfl⟩, hW, hsame.mono (by decide) (by decide)⟩
    · show Steps p.tables e below (T358.setTop (mkF m 326 #[.val (.int p0), .val (.int p1), .val (.int p2), .val (.int p3), .val (.int p4), .val (.int p5), .val (.int z), .val (.int n6), .val (.ref b165), .val (.ref b189), .val (.int ec), .val (.ref b312)] [(.int (1 : Int32))])) _
      exact retN XH358 hx (t := .boolean) Bd.returns (by simp) (hb hby at_326) hr
    · show Q0 Z p0 p1 p2 p3 p4 p5 h0 n0 _ T358.heap _
      rw [eq358]
      exact ⟨rfl, NH358⟩
  · have k363 : ∀ t, Steps p.tables e below (T200.setTop (mkF m 68 #[.val (.int p0), .val (.int p1), .val (.int p2), .val (.int p3), .val (.int p4), .val (.int p5), .val (.int z), .val (.int n6), .val (.ref b165), .val (.ref b189), .unset, .unset] [(.int p2), (.ref b189)])) t → Steps p.tables e below (s₁.setTop (entryFrame m #[(.int p0), (.int p1), (.int p2), (.int p3), (.int p4), (.int p5)] maxLocals)) t := fun t k => k205 t (by
      show Steps p.tables e below (T200.setTop (mkF m 57 #[.val (.int p0), .val (.int p1), .val (.int p2), .val (.int p3), .val (.int p4), .val (.int p5), .val (.int z), .val (.int n6), .val (.ref b165), .val (.ref b189), .unset, .unset] [])) _
      refine XS.iload XH200.here hx rfl (hb hby at_57) rfl ?_
      show Steps p.tables e below (T200.setTop (mkF m 59 #[.val (.int p0), .val (.int p1), .val (.int p2), .val (.int p3), .val (.int p4), .val (.int p5), .val (.int z), .val (.int n6), .val (.ref b165), .val (.ref b189), .unset, .unset] [(.int n6)])) _
      refine XS.ifNo XH200.here hx rfl (hb hby at_59) rfl ((if0 _ _).trans (tlt (by rw [hn]; decide)).2.2.2) ?_
      show Steps p.tables e below (T200.setTop (mkF m 62 #[.val (.int p0), .val (.int p1), .val (.int p2), .val (.int p3), .val (.int p4), .val (.int p5), .val (.int z), .val (.int n6), .val (.ref b165), .val (.ref b189), .unset, .unset] [])) _
      refine XS.aload XH200.here hx rfl (hb hby at_62) rfl rfl ?_
      show Steps p.tables e below (T200.setTop (mkF m 64 #[.val (.int p0), .val (.int p1), .val (.int p2), .val (.int p3), .val (.int p4), .val (.int p5), .val (.int z), .val (.int n6), .val (.ref b165), .val (.ref b189), .unset, .unset] [(.ref b189)])) _
      refine XS.aload XH200.here hx rfl (hb hby at_64) rfl rfl ?_
      show Steps p.tables e below (T200.setTop (mkF m 66 #[.val (.int p0), .val (.int p1), .val (.int p2), .val (.int p3), .val (.int p4), .val (.int p5), .val (.int z), .val (.int n6), .val (.ref b165), .val (.ref b189), .unset, .unset] [(.ref b165), (.ref b189)])) _
      refine XS.iconst XH200.here hx rfl (hb hby at_66) ?_
      show Steps p.tables e below (T200.setTop (mkF m 67 #[.val (.int p0), .val (.int p1), .val (.int p2), .val (.int p3), .val (.int p4), .val (.int p5), .val (.int z), .val (.int n6), .val (.ref b165), .val (.ref b189), .unset, .unset] [(.int (0 : Int32)), (.ref b165), (.ref b189)])) _
      obtain ⟨clq362, Arq362, -, Sq362, Nq362, Hq362, Gq362⟩ := id F202
      have hinq362 := inb_of (j := (0 : Int32)) Sq362 ⟨by decide, by decide⟩
      refine XH200.iaload hx (j := (0 : Int32)) (v := (.int p2)) (id Arq362.1) (State.isArrayOf_alike hZ.alike Arq362.2.1) Arq362.2.2 hinq362 (Has.at Hq362 hinq362 rfl) (g := (mkF m 67 #[.val (.int p0), .val (.int p1), .val (.int p2), .val (.int p3), .val (.int p4), .val (.int p5), .val (.int z), .val (.int n6), .val (.ref b165), .val (.ref b189), .unset, .unset] [(.int (0 : Int32)), (.ref b165), (.ref b189)])) rfl rfl (hb hby at_67) _ ?_
      exact k)
    have nbab197 := (Ne.symm ne199)
    obtain ⟨cq364, kq364, q364a, q364b, q364c⟩ := isOf hZ rfl F203
    obtain ⟨_, _, ⟨T364, L364, kc364, ks364⟩, -, X364, ⟨Lc364, hQ364, l364, y364, z364⟩, st364⟩ := XH200.virtualBack hx (y := (⟨"com/example/wegweiser/wegweiser/index/ByteSink", "write", "(I)V"⟩ : MethodName)) (z := (⟨"com/example/wegweiser/wegweiser/index/ByteSink", "write", "(I)V"⟩ : MethodName)) hown (mvT hZ (hw _ (List.mem_of_getElem? (i := 19) rfl))) (mvT hZ (hw _ (List.mem_of_getElem? (i := 20) rfl))) (notFace_of_selects (args := #[]) (mvT hZ (hw _ (List.mem_of_getElem? (i := 22) rfl)))) (mvT hZ (hw _ (List.mem_of_getElem? (i := 22) rfl))) (mvT hZ (hw _ (List.mem_of_getElem? (i := 21) rfl))) (by decide) (backOf (W := 0) (rm4 l Z a0 hw [] b189 p2 b197 kb200 (0 : Int32) z [] T200.heap n0 Z201 Fl200 Fb200 F203 Vx200 g_b189 g_b197 (Ne.symm ne199) rfl (by rcases hz with rfl | rfl | rfl | rfl <;> decide) (by rcases hz with rfl | rfl | rfl | rfl <;> decide) (by rcases hz with rfl | rfl | rfl | rfl <;> decide) (by rcases hz with rfl | rfl | rfl | rfl <;> decide) (by rcases hz with rfl | rfl | rfl | rfl <;> decide)) hZ (hw _ (List.mem_of_getElem? (i := 23) rfl)) (hw _ (List.mem_of_getElem? (i := 4) rfl)) (by decide) (by decide)) q364a q364c (g := (mkF m 68 #[.val (.int p0), .val (.int p1), .val (.int p2), .val (.int p3), .val (.int p4), .val (.int p5), .val (.int z), .val (.int n6), .val (.ref b165), .val (.ref b189), .unset, .unset] [(.int p2), (.ref b189)])) rfl (by rw [hml]; rfl) (Steps.refl _) (argsL := [(.int p2)]) (rest := []) (lenOf pd_3 rfl) rfl (by show 2 * 0 + _ ≤ _; exact Nat.le_of_eq rfl) (hb hby at_68) (fun _ _ => ⟨rfl, rfl, (by decide : 3 + 1 ≤ _), (by decide : 11 + 16 ≤ _)⟩)
    dsimp only [Pt.U, Pt.locs, Pt.cells, Pt.slots] at X364 l364 y364 z364 st364 hQ364
    subst l364 y364 z364
    obtain ⟨b364, kb364, rfl, Nq364, K364, g_b364, nx364, hor364, Ax364, Fl364, Fb364, Vx364⟩ := hQ364
    have N364 := Fr.app NH200 Nq364
    obtain ⟨LH364, XH364, NH364⟩ := own_hide X364 N364
    clear X364 N364
    have nv364 : b165 ≠ b364 := hor364.elim (fun q => by rw [q]; exact ne198) (fun q => Nat.ne_of_lt (Nat.lt_of_lt_of_le (F202).lt q))
    have Z365 : n0 ≤ T364.heap.size := Nat.le_trans Z201 K364.1
    have F366 : Arv Z T364.heap b165 c165 .int (5 : Int32) [(.int p2), (.int p3), (.int p4), (.int p5), (.int (p2 ^^^ p4))] (.int (0 : Int32)) := (F202).keep K364 (ninS ne190 (ninS ne198 nin0))
    have F367 : Exa Z T364.heap b189 "com/example/wegweiser/wegweiser/index/ByteSink" := (F203).keep K364
    have k368 : ∀ t, Steps p.tables e below (T364.setTop (mkF m 71 #[.val (.int p0), .val (.int p1), .val (.int p2), .val (.int p3), .val (.int p4), .val (.int p5), .val (.int z), .val (.int n6), .val (.ref b165), .val (.ref b189), .unset, .unset] [])) t → Steps p.tables e below (s₁.setTop (entryFrame m #[(.int p0), (.int p1), (.int p2), (.int p3), (.int p4), (.int p5)] maxLocals)) t := fun t k => k363 t (st364.trans k)
    have k370 : ∀ t, Steps p.tables e below (T364.setTop (mkF m 83 #[.val (.int p0), .val (.int p1), .val (.int p2), .val (.int p3), .val (.int p4), .val (.int p5), .val (.int z), .val (.int n6), .val (.ref b165), .val (.ref b189), .unset, .unset] [(.int p3), (.ref b189)])) t → Steps p.tables e below (s₁.setTop (entryFrame m #[(.int p0), (.int p1), (.int p2), (.int p3), (.int p4), (.int p5)] maxLocals)) t := fun t k => k368 t (by
      show Steps p.tables e below (T364.setTop (mkF m 71 #[.val (.int p0), .val (.int p1), .val (.int p2), .val (.int p3), .val (.int p4), .val (.int p5), .val (.int z), .val (.int n6), .val (.ref b165), .val (.ref b189), .unset, .unset] [])) _
      refine XS.iload XH364.here hx rfl (hb hby at_71) rfl ?_
      show Steps p.tables e below (T364.setTop (mkF m 73 #[.val (.int p0), .val (.int p1), .val (.int p2), .val (.int p3), .val (.int p4), .val (.int p5), .val (.int z), .val (.int n6), .val (.ref b165), .val (.ref b189), .unset, .unset] [(.int n6)])) _
      refine XS.iconst XH364.here hx rfl (hb hby at_73) ?_
      show Steps p.tables e below (T364.setTop (mkF m 74 #[.val (.int p0), .val (.int p1), .val (.int p2), .val (.int p3), .val (.int p4), .val (.int p5), .val (.int z), .val (.int n6), .val (.ref b165), .val (.ref b189), .unset, .unset] [(.int (1 : Int32)), (.int n6)])) _
      refine XS.icmpNo XH364.here hx rfl (hb hby at_74) rfl (tlt (by rw [hn]; decide)).2.2.2 ?_
      show Steps p.tables e below (T364.setTop (mkF m 77 #[.val (.int p0), .val (.int p1), .val (.int p2), .val (.int p3), .val (.int p4), .val (.int p5), .val (.int z), .val (.int n6), .val (.ref b165), .val (.ref b189), .unset, .unset] [])) _
      refine XS.aload XH364.here hx rfl (hb hby at_77) rfl rfl ?_
      show Steps p.tables e below (T364.setTop (mkF m 79 #[.val (.int p0), .val (.int p1), .val (.int p2), .val (.int p3), .val (.int p4), .val (.int p5), .val (.int z), .val (.int n6), .val (.ref b165), .val (.ref b189), .unset, .unset] [(.ref b189)])) _
      refine XS.aload XH364.here hx rfl (hb hby at_79) rfl rfl ?_
      show Steps p.tables e below (T364.setTop (mkF m 81 #[.val (.int p0), .val (.int p1), .val (.int p2), .val (.int p3), .val (.int p4), .val (.int p5), .val (.int z), .val (.int n6), .val (.ref b165), .val (.ref b189), .unset, .unset] [(.ref b165), (.ref b189)])) _
      refine XS.iconst XH364.here hx rfl (hb hby at_81) ?_
      show Steps p.tables e below (T364.setTop (mkF m 82 #[.val (.int p0), .val (.int p1), .val (.int p2), .val (.int p3), .val (.int p4), .val (.int p5), .val (.int z), .val (.int n6), .val (.ref b165), .val (.ref b189), .unset, .unset] [(.int (1 : Int32)), (.ref b165), (.ref b189)])) _
      obtain ⟨clq369, Arq369, -, Sq369, Nq369, Hq369, Gq369⟩ := id F366
      have hinq369 := inb_of (j := (1 : Int32)) Sq369 ⟨by decide, by decide⟩
      refine XH364.iaload hx (j := (1 : Int32)) (v := (.int p3)) (id Arq369.1) (State.isArrayOf_alike hZ.alike Arq369.2.1) Arq369.2.2 hinq369 (Has.at Hq369 hinq369 rfl) (g := (mkF m 82 #[.val (.int p0), .val (.int p1), .val (.int p2), .val (.int p3), .val (.int p4), .val (.int p5), .val (.int z), .val (.int n6), .val (.ref b165), .val (.ref b189), .unset, .unset] [(.int (1 : Int32)), (.ref b165), (.ref b189)])) rfl rfl (hb hby at_82) _ ?_
      exact k)
    have nbab364 := nx364
    obtain ⟨cq371, kq371, q371a, q371b, q371c⟩ := isOf hZ rfl F367
    obtain ⟨_, _, ⟨T371, L371, kc371, ks371⟩, -, X371, ⟨Lc371, hQ371, l371, y371, z371⟩, st371⟩ := XH364.virtualBack hx (y := (⟨"com/example/wegweiser/wegweiser/index/ByteSink", "write", "(I)V"⟩ : MethodName)) (z := (⟨"com/example/wegweiser/wegweiser/index/ByteSink", "write", "(I)V"⟩ : MethodName)) hown (mvT hZ (hw _ (List.mem_of_getElem? (i := 19) rfl))) (mvT hZ (hw _ (List.mem_of_getElem? (i := 20) rfl))) (notFace_of_selects (args := #[]) (mvT hZ (hw _ (List.mem_of_getElem? (i := 22) rfl)))) (mvT hZ (hw _ (List.mem_of_getElem? (i := 22) rfl))) (mvT hZ (hw _ (List.mem_of_getElem? (i := 21) rfl))) (by decide) (backOf (W := 0) (rm4 l Z a0 hw [] b189 p3 b364 kb364 ((0 : Int32) + (1 : Int32)) (own_cap (0 : Int32) z) ([] ++ [(.int (own_b p2))]) T364.heap n0 Z365 Fl364 Fb364 F367 Vx364 g_b189 g_b364 nx364 rfl (by rcases hz with rfl | rfl | rfl | rfl <;> decide) (by rcases hz with rfl | rfl | rfl | rfl <;> decide) (by rcases hz with rfl | rfl | rfl | rfl <;> decide) (by rcases hz with rfl | rfl | rfl | rfl <;> decide) (by rcases hz with rfl | rfl | rfl | rfl <;> decide)) hZ (hw _ (List.mem_of_getElem? (i := 23) rfl)) (hw _ (List.mem_of_getElem? (i := 4) rfl)) (by decide) (by decide)) q371a q371c (g := (mkF m 83 #[.val (.int p0), .val (.int p1), .val (.int p2), .val (.int p3), .val (.int p4), .val (.int p5), .val (.int z), .val (.int n6), .val (.ref b165), .val (.ref b189), .unset, .unset] [(.int p3), (.ref b189)])) rfl (by rw [hml]; rfl) (Steps.refl _) (argsL := [(.int p3)]) (rest := []) (lenOf pd_3 rfl) rfl (by show 2 * 0 + _ ≤ _; exact Nat.le_of_eq rfl) (hb hby at_83) (fun _ _ => ⟨rfl, rfl, (by decide : 4 + 1 ≤ _), (by decide : 27 + 16 ≤ _)⟩)
    dsimp only [Pt.U, Pt.locs, Pt.cells, Pt.slots] at X371 l371 y371 z371 st371 hQ371
    subst l371 y371 z371
    obtain ⟨b371, kb371, rfl, Nq371, K371, g_b371, nx371, hor371, Ax371, Fl371, Fb371, Vx371⟩ := hQ371
    have N371 := Fr.app NH364 Nq371
    obtain ⟨LH371, XH371, NH371⟩ := own_hide X371 N371
    clear X371 N371
    have nv371 : b165 ≠ b371 := hor371.elim (fun q => by rw [q]; exact nv364) (fun q => Nat.ne_of_lt (Nat.lt_of_lt_of_le (F366).lt q))
    have Z372 : n0 ≤ T371.heap.size := Nat.le_trans Z365 K371.1
    have F373 : Arv Z T371.heap b165 c165 .int (5 : Int32) [(.int p2), (.int p3), (.int p4), (.int p5), (.int (p2 ^^^ p4))] (.int (0 : Int32)) := (F366).keep K371 (ninS ne190 (ninS nv364 nin0))
    have F374 : Exa Z T371.heap b189 "com/example/wegweiser/wegweiser/index/ByteSink" := (F367).keep K371
    have k375 : ∀ t, Steps p.tables e below (T371.setTop (mkF m 86 #[.val (.int p0), .val (.int p1), .val (.int p2), .val (.int p3), .val (.int p4), .val (.int p5), .val (.int z), .val (.int n6), .val (.ref b165), .val (.ref b189), .unset, .unset] [])) t → Steps p.tables e below (s₁.setTop (entryFrame m #[(.int p0), (.int p1), (.int p2), (.int p3), (.int p4), (.int p5)] maxLocals)) t := fun t k => k370 t (st371.trans k)
    have k377 : ∀ t, Steps p.tables e below (T371.setTop (mkF m 98 #[.val (.int p0), .val (.int p1), .val (.int p2), .val (.int p3), .val (.int p4), .val (.int p5), .val (.int z), .val (.int n6), .val (.ref b165), .val (.ref b189), .unset, .unset] [(.int p4), (.ref b189)])) t → Steps p.tables e below (s₁.setTop (entryFrame m #[(.int p0), (.int p1), (.int p2), (.int p3), (.int p4), (.int p5)] maxLocals)) t := fun t k => k375 t (by
      show Steps p.tables e below (T371.setTop (mkF m 86 #[.val (.int p0), .val (.int p1), .val (.int p2), .val (.int p3), .val (.int p4), .val (.int p5), .val (.int z), .val (.int n6), .val (.ref b165), .val (.ref b189), .unset, .unset] [])) _
      refine XS.iload XH371.here hx rfl (hb hby at_86) rfl ?_
      show Steps p.tables e below (T371.setTop (mkF m 88 #[.val (.int p0), .val (.int p1), .val (.int p2), .val (.int p3), .val (.int p4), .val (.int p5), .val (.int z), .val (.int n6), .val (.ref b165), .val (.ref b189), .unset, .unset] [(.int n6)])) _
      refine XS.iconst XH371.here hx rfl (hb hby at_88) ?_
      show Steps p.tables e below (T371.setTop (mkF m 89 #[.val (.int p0), .val (.int p1), .val (.int p2), .val (.int p3), .val (.int p4), .val (.int p5), .val (.int z), .val (.int n6), .val (.ref b165), .val (.ref b189), .unset, .unset] [(.int (2 : Int32)), (.int n6)])) _
      refine XS.icmpNo XH371.here hx rfl (hb hby at_89) rfl (tlt (by rw [hn]; decide)).2.2.2 ?_
      show Steps p.tables e below (T371.setTop (mkF m 92 #[.val (.int p0), .val (.int p1), .val (.int p2), .val (.int p3), .val (.int p4), .val (.int p5), .val (.int z), .val (.int n6), .val (.ref b165), .val (.ref b189), .unset, .unset] [])) _
      refine XS.aload XH371.here hx rfl (hb hby at_92) rfl rfl ?_
      show Steps p.tables e below (T371.setTop (mkF m 94 #[.val (.int p0), .val (.int p1), .val (.int p2), .val (.int p3), .val (.int p4), .val (.int p5), .val (.int z), .val (.int n6), .val (.ref b165), .val (.ref b189), .unset, .unset] [(.ref b189)])) _
      refine XS.aload XH371.here hx rfl (hb hby at_94) rfl rfl ?_
      show Steps p.tables e below (T371.setTop (mkF m 96 #[.val (.int p0), .val (.int p1), .val (.int p2), .val (.int p3), .val (.int p4), .val (.int p5), .val (.int z), .val (.int n6), .val (.ref b165), .val (.ref b189), .unset, .unset] [(.ref b165), (.ref b189)])) _
      refine XS.iconst XH371.here hx rfl (hb hby at_96) ?_
      show Steps p.tables e below (T371.setTop (mkF m 97 #[.val (.int p0), .val (.int p1), .val (.int p2), .val (.int p3), .val (.int p4), .val (.int p5), .val (.int z), .val (.int n6), .val (.ref b165), .val (.ref b189), .unset, .unset] [(.int (2 : Int32)), (.ref b165), (.ref b189)])) _
      obtain ⟨clq376, Arq376, -, Sq376, Nq376, Hq376, Gq376⟩ := id F373
      have hinq376 := inb_of (j := (2 : Int32)) Sq376 ⟨by decide, by decide⟩
      refine XH371.iaload hx (j := (2 : Int32)) (v := (.int p4)) (id Arq376.1) (State.isArrayOf_alike hZ.alike Arq376.2.1) Arq376.2.2 hinq376 (Has.at Hq376 hinq376 rfl) (g := (mkF m 97 #[.val (.int p0), .val (.int p1), .val (.int p2), .val (.int p3), .val (.int p4), .val (.int p5), .val (.int z), .val (.int n6), .val (.ref b165), .val (.ref b189), .unset, .unset] [(.int (2 : Int32)), (.ref b165), (.ref b189)])) rfl rfl (hb hby at_97) _ ?_
      exact k)
    have nbab371 := nx371
    obtain ⟨cq378, kq378, q378a, q378b, q378c⟩ := isOf hZ rfl F374
    obtain ⟨_, _, ⟨T378, L378, kc378, ks378⟩, -, X378, ⟨Lc378, hQ378, l378, y378, z378⟩, st378⟩ := XH371.virtualBack hx (y := (⟨"com/example/wegweiser/wegweiser/index/ByteSink", "write", "(I)V"⟩ : MethodName)) (z := (⟨"com/example/wegweiser/wegweiser/index/ByteSink", "write", "(I)V"⟩ : MethodName)) hown (mvT hZ (hw _ (List.mem_of_getElem? (i := 19) rfl))) (mvT hZ (hw _ (List.mem_of_getElem? (i := 20) rfl))) (notFace_of_selects (args := #[]) (mvT hZ (hw _ (List.mem_of_getElem? (i := 22) rfl)))) (mvT hZ (hw _ (List.mem_of_getElem? (i := 22) rfl))) (mvT hZ (hw _ (List.mem_of_getElem? (i := 21) rfl))) (by decide) (backOf (W := 0) (rm4 l Z a0 hw [] b189 p4 b371 kb371 (((0 : Int32) + (1 : Int32)) + (1 : Int32)) (own_cap ((0 : Int32) + (1 : Int32)) (own_cap (0 : Int32) z)) (([] ++ [(.int (own_b p2))]) ++ [(.int (own_b p3))]) T371.heap n0 Z372 Fl371 Fb371 F374 Vx371 g_b189 g_b371 nx371 rfl (by rcases hz with rfl | rfl | rfl | rfl <;> decide) (by rcases hz with rfl | rfl | rfl | rfl <;> decide) (by rcases hz with rfl | rfl | rfl | rfl <;> decide) (by rcases hz with rfl | rfl | rfl | rfl <;> decide) (by rcases hz with rfl | rfl | rfl | rfl <;> decide)) hZ (hw _ (List.mem_of_getElem? (i := 23) rfl)) (hw _ (List.mem_of_getElem? (i := 4) rfl)) (by decide) (by decide)) q378a q378c (g := (mkF m 98 #[.val (.int p0), .val (.int p1), .val (.int p2), .val (.int p3), .val (.int p4), .val (.int p5), .val (.int z), .val (.int n6), .val (.ref b165), .val (.ref b189), .unset, .unset] [(.int p4), (.ref b189)])) rfl (by rw [hml]; rfl) (Steps.refl _) (argsL := [(.int p4)]) (rest := []) (lenOf pd_3 rfl) rfl (by show 2 * 0 + _ ≤ _; exact Nat.le_of_eq rfl) (hb hby at_98) (fun _ _ => ⟨rfl, rfl, (by decide : 5 + 1 ≤ _), (by decide : 43 + 16 ≤ _)⟩)
    dsimp only [Pt.U, Pt.locs, Pt.cells, Pt.slots] at X378 l378 y378 z378 st378 hQ378
    subst l378 y378 z378
    obtain ⟨b378, kb378, rfl, Nq378, K378, g_b378, nx378, hor378, Ax378, Fl378, Fb378, Vx378⟩ := hQ378
    have N378 := Fr.app NH371 Nq378
    obtain ⟨LH378, XH378, NH378⟩ := own_hide X378 N378
    clear X378 N378
    have nv378 : b165 ≠ b378 := hor378.elim (fun q => by rw [q]; exact nv371) (fun q => Nat.ne_of_lt (Nat.lt_of_lt_of_le (F373).lt q))
    have Z379 : n0 ≤ T378.heap.size := Nat.le_trans Z372 K378.1
    have F380 : Arv Z T378.heap b165 c165 .int (5 : Int32) [(.int p2), (.int p3), (.int p4), (.int p5), (.int (p2 ^^^ p4))] (.int (0 : Int32)) := (F373).keep K378 (ninS ne190 (ninS nv371 nin0))
    have F381 : Exa Z T378.heap b189 "com/example/wegweiser/wegweiser/index/ByteSink" := (F374).keep K378
    have k382 : ∀ t, Steps p.tables e below (T378.setTop (mkF m 101 #[.val (.int p0), .val (.int p1), .val (.int p2), .val (.int p3), .val (.int p4), .val (.int p5), .val (.int z), .val (.int n6), .val (.ref b165), .val (.ref b189), .unset, .unset] [])) t → Steps p.tables e below (s₁.setTop (entryFrame m #[(.int p0), (.int p1), (.int p2), (.int p3), (.int p4), (.int p5)] maxLocals)) t := fun t k => k377 t (st378.trans k)
    have k383 : ∀ t, Steps p.tables e below (T378.setTop (mkF m 139 #[.val (.int p0), .val (.int p1), .val (.int p2), .val (.int p3), .val (.int p4), .val (.int p5), .val (.int z), .val (.int n6), .val (.ref b165), .val (.ref b189), .val (.int z), .unset] [(.int z), (.int n6)])) t → Steps p.tables e below (s₁.setTop (entryFrame m #[(.int p0), (.int p1), (.int p2), (.int p3), (.int p4), (.int p5)] maxLocals)) t := fun t k => k382 t (by
      show Steps p.tables e below (T378.setTop (mkF m 101 #[.val (.int p0), .val (.int p1), .val (.int p2), .val (.int p3), .val (.int p4), .val (.int p5), .val (.int z), .val (.int n6), .val (.ref b165), .val (.ref b189), .unset, .unset] [])) _
      refine XS.iload XH378.here hx rfl (hb hby at_101) rfl ?_
      show Steps p.tables e below (T378.setTop (mkF m 103 #[.val (.int p0), .val (.int p1), .val (.int p2), .val (.int p3), .val (.int p4), .val (.int p5), .val (.int z), .val (.int n6), .val (.ref b165), .val (.ref b189), .unset, .unset] [(.int n6)])) _
      refine XS.iconst XH378.here hx rfl (hb hby at_103) ?_
      show Steps p.tables e below (T378.setTop (mkF m 104 #[.val (.int p0), .val (.int p1), .val (.int p2), .val (.int p3), .val (.int p4), .val (.int p5), .val (.int z), .val (.int n6), .val (.ref b165), .val (.ref b189), .unset, .unset] [(.int (3 : Int32)), (.int n6)])) _
      refine XS.icmpYes XH378.here hx rfl (pc0 := 104) (pc' := 116) rfl (hb hby at_104) rfl (flt (by rw [hn]; decide)).2.2.2 (by decide) (by decide) ?_
      show Steps p.tables e below (T378.setTop (mkF m 116 #[.val (.int p0), .val (.int p1), .val (.int p2), .val (.int p3), .val (.int p4), .val (.int p5), .val (.int z), .val (.int n6), .val (.ref b165), .val (.ref b189), .unset, .unset] [])) _
      refine XS.iload XH378.here hx rfl (hb hby at_116) rfl ?_
      show Steps p.tables e below (T378.setTop (mkF m 118 #[.val (.int p0), .val (.int p1), .val (.int p2), .val (.int p3), .val (.int p4), .val (.int p5), .val (.int z), .val (.int n6), .val (.ref b165), .val (.ref b189), .unset, .unset] [(.int n6)])) _
      refine XS.iconst XH378.here hx rfl (hb hby at_118) ?_
      show Steps p.tables e below (T378.setTop (mkF m 119 #[.val (.int p0), .val (.int p1), .val (.int p2), .val (.int p3), .val (.int p4), .val (.int p5), .val (.int z), .val (.int n6), .val (.ref b165), .val (.ref b189), .unset, .unset] [(.int (4 : Int32)), (.int n6)])) _
      refine XS.icmpYes XH378.here hx rfl (pc0 := 119) (pc' := 131) rfl (hb hby at_119) rfl (flt (by rw [hn]; decide)).2.2.2 (by decide) (by decide) ?_
      show Steps p.tables e below (T378.setTop (mkF m 131 #[.val (.int p0), .val (.int p1), .val (.int p2), .val (.int p3), .val (.int p4), .val (.int p5), .val (.int z), .val (.int n6), .val (.ref b165), .val (.ref b189), .unset, .unset] [])) _
      refine XS.iload XH378.here hx rfl (hb hby at_131) rfl ?_
      show Steps p.tables e below (T378.setTop (mkF m 133 #[.val (.int p0), .val (.int p1), .val (.int p2), .val (.int p3), .val (.int p4), .val (.int p5), .val (.int z), .val (.int n6), .val (.ref b165), .val (.ref b189), .unset, .unset] [(.int z)])) _
      refine XS.istore XH378.here hx rfl (hb hby at_133) rfl (l' := #[.val (.int p0), .val (.int p1), .val (.int p2), .val (.int p3), .val (.int p4), .val (.int p5), .val (.int z), .val (.int n6), .val (.ref b165), .val (.ref b189), .val (.int z), .unset]) rfl ?_
      show Steps p.tables e below (T378.setTop (mkF m 135 #[.val (.int p0), .val (.int p1), .val (.int p2), .val (.int p3), .val (.int p4), .val (.int p5), .val (.int z), .val (.int n6), .val (.ref b165), .val (.ref b189), .val (.int z), .unset] [])) _
      refine XS.iload XH378.here hx rfl (hb hby at_135) rfl ?_
      show Steps p.tables e below (T378.setTop (mkF m 137 #[.val (.int p0), .val (.int p1), .val (.int p2), .val (.int p3), .val (.int p4), .val (.int p5), .val (.int z), .val (.int n6), .val (.ref b165), .val (.ref b189), .val (.int z), .unset] [(.int n6)])) _
      refine XS.iload XH378.here hx rfl (hb hby at_137) rfl ?_
      exact k)
    have k385 : ∀ t, Steps p.tables e below (T378.setTop (mkF m 148 #[.val (.int p0), .val (.int p1), .val (.int p2), .val (.int p3), .val (.int p4), .val (.int p5), .val (.int z), .val (.int n6), .val (.ref b165), .val (.ref b189), .val (.int (if z < n6 then (z * (2 : Int32)) else z)), .unset] [])) t → Steps p.tables e below (s₁.setTop (entryFrame m #[(.int p0), (.int p1), (.int p2), (.int p3), (.int p4), (.int p5)] maxLocals)) t := fun t k => k383 t (by
      by_cases hq384 : z < n6
      · simp only [if_pos hq384] at k
        show Steps p.tables e below (T378.setTop (mkF m 139 #[.val (.int p0), .val (.int p1), .val (.int p2), .val (.int p3), .val (.int p4), .val (.int p5), .val (.int z), .val (.int n6), .val (.ref b165), .val (.ref b189), .val (.int z), .unset] [(.int z), (.int n6)])) _
        refine XS.icmpNo XH378.here hx rfl (hb hby at_139) rfl (tlt hq384).2.2.2 ?_
        show Steps p.tables e below (T378.setTop (mkF m 142 #[.val (.int p0), .val (.int p1), .val (.int p2), .val (.int p3), .val (.int p4), .val (.int p5), .val (.int z), .val (.int n6), .val (.ref b165), .val (.ref b189), .val (.int z), .unset] [])) _
        refine XS.iload XH378.here hx rfl (hb hby at_142) rfl ?_
        show Steps p.tables e below (T378.setTop (mkF m 144 #[.val (.int p0), .val (.int p1), .val (.int p2), .val (.int p3), .val (.int p4), .val (.int p5), .val (.int z), .val (.int n6), .val (.ref b165), .val (.ref b189), .val (.int z), .unset] [(.int z)])) _
        refine XS.iconst XH378.here hx rfl (hb hby at_144) ?_
        show Steps p.tables e below (T378.setTop (mkF m 145 #[.val (.int p0), .val (.int p1), .val (.int p2), .val (.int p3), .val (.int p4), .val (.int p5), .val (.int z), .val (.int n6), .val (.ref b165), .val (.ref b189), .val (.int z), .unset] [(.int (2 : Int32)), (.int z)])) _
        refine XS.imul XH378.here hx rfl (hb hby at_145) rfl ?_
        show Steps p.tables e below (T378.setTop (mkF m 146 #[.val (.int p0), .val (.int p1), .val (.int p2), .val (.int p3), .val (.int p4), .val (.int p5), .val (.int z), .val (.int n6), .val (.ref b165), .val (.ref b189), .val (.int z), .unset] [(.int (z * (2 : Int32)))])) _
        refine XS.istore XH378.here hx rfl (hb hby at_146) rfl (l' := #[.val (.int p0), .val (.int p1), .val (.int p2), .val (.int p3), .val (.int p4), .val (.int p5), .val (.int z), .val (.int n6), .val (.ref b165), .val (.ref b189), .val (.int (z * (2 : Int32))), .unset]) rfl ?_
        exact k
      · simp only [if_neg hq384] at k
        show Steps p.tables e below (T378.setTop (mkF m 139 #[.val (.int p0), .val (.int p1), .val (.int p2), .val (.int p3), .val (.int p4), .val (.int p5), .val (.int z), .val (.int n6), .val (.ref b165), .val (.ref b189), .val (.int z), .unset] [(.int z), (.int n6)])) _
        refine XS.icmpYes XH378.here hx rfl (pc0 := 139) (pc' := 148) rfl (hb hby at_139) rfl (flt hq384).2.2.2 (by decide) (by decide) ?_
        exact k)
    have k386 : ∀ t, Steps p.tables e below (T378.setTop (mkF m 152 #[.val (.int p0), .val (.int p1), .val (.int p2), .val (.int p3), .val (.int p4), .val (.int p5), .val (.int z), .val (.int n6), .val (.ref b165), .val (.ref b189), .val (.int (if z < n6 then (z * (2 : Int32)) else z)), .unset] [(.int (if z < n6 then (z * (2 : Int32)) else z)), (.int n6)])) t → Steps p.tables e below (s₁.setTop (entryFrame m #[(.int p0), (.int p1), (.int p2), (.int p3), (.int p4), (.int p5)] maxLocals)) t := fun t k => k385 t (by
      show Steps p.tables e below (T378.setTop (mkF m 148 #[.val (.int p0), .val (.int p1), .val (.int p2), .val (.int p3), .val (.int p4), .val (.int p5), .val (.int z), .val (.int n6), .val (.ref b165), .val (.ref b189), .val (.int (if z < n6 then (z * (2 : Int32)) else z)), .unset] [])) _
      refine XS.iload XH378.here hx rfl (hb hby at_148) rfl ?_
      show Steps p.tables e below (T378.setTop (mkF m 150 #[.val (.int p0), .val (.int p1), .val (.int p2), .val (.int p3), .val (.int p4), .val (.int p5), .val (.int z), .val (.int n6), .val (.ref b165), .val (.ref b189), .val (.int (if z < n6 then (z * (2 : Int32)) else z)), .unset] [(.int n6)])) _
      refine XS.iload XH378.here hx rfl (hb hby at_150) rfl ?_
      exact k)
    have k388 : ∀ t, Steps p.tables e below (T378.setTop (mkF m 161 #[.val (.int p0), .val (.int p1), .val (.int p2), .val (.int p3), .val (.int p4), .val (.int p5), .val (.int z), .val (.int n6), .val (.ref b165), .val (.ref b189), .val (.int (if (if z < n6 then (z * (2 : Int32)) else z) < n6 then ((if z < n6 then (z * (2 : Int32)) else z) * (2 : Int32)) else (if z < n6 then (z * (2 : Int32)) else z))), .unset] [])) t → Steps p.tables e below (s₁.setTop (entryFrame m #[(.int p0), (.int p1), (.int p2), (.int p3), (.int p4), (.int p5)] maxLocals)) t := fun t k => k386 t (by
      by_cases hq387 : (if z < n6 then (z * (2 : Int32)) else z) < n6
      · simp only [if_pos hq387] at k
        show Steps p.tables e below (T378.setTop (mkF m 152 #[.val (.int p0), .val (.int p1), .val (.int p2), .val (.int p3), .val (.int p4), .val (.int p5), .val (.int z), .val (.int n6), .val (.ref b165), .val (.ref b189), .val (.int (if z < n6 then (z * (2 : Int32)) else z)), .unset] [(.int (if z < n6 then (z * (2 : Int32)) else z)), (.int n6)])) _
        refine XS.icmpNo XH378.here hx rfl (hb hby at_152) rfl (tlt hq387).2.2.2 ?_
        show Steps p.tables e below (T378.setTop (mkF m 155 #[.val (.int p0), .val (.int p1), .val (.int p2), .val (.int p3), .val (.int p4), .val (.int p5), .val (.int z), .val (.int n6), .val (.ref b165), .val (.ref b189), .val (.int (if z < n6 then (z * (2 : Int32)) else z)), .unset] [])) _
        refine XS.iload XH378.here hx rfl (hb hby at_155) rfl ?_
        show Steps p.tables e below (T378.setTop (mkF m 157 #[.val (.int p0), .val (.int p1), .val (.int p2), .val (.int p3), .val (.int p4), .val (.int p5), .val (.int z), .val (.int n6), .val (.ref b165), .val (.ref b189), .val (.int (if z < n6 then (z * (2 : Int32)) else z)), .unset] [(.int (if z < n6 then (z * (2 : Int32)) else z))])) _
        refine XS.iconst XH378.here hx rfl (hb hby at_157) ?_
        show Steps p.tables e below (T378.setTop (mkF m 158 #[.val (.int p0), .val (.int p1), .val (.int p2), .val (.int p3), .val (.int p4), .val (.int p5), .val (.int z), .val (.int n6), .val (.ref b165), .val (.ref b189), .val (.int (if z < n6 then (z * (2 : Int32)) else z)), .unset] [(.int (2 : Int32)), (.int (if z < n6 then (z * (2 : Int32)) else z))])) _
        refine XS.imul XH378.here hx rfl (hb hby at_158) rfl ?_
        show Steps p.tables e below (T378.setTop (mkF m 159 #[.val (.int p0), .val (.int p1), .val (.int p2), .val (.int p3), .val (.int p4), .val (.int p5), .val (.int z), .val (.int n6), .val (.ref b165), .val (.ref b189), .val (.int (if z < n6 then (z * (2 : Int32)) else z)), .unset] [(.int ((if z < n6 then (z * (2 : Int32)) else z) * (2 : Int32)))])) _
        refine XS.istore XH378.here hx rfl (hb hby at_159) rfl (l' := #[.val (.int p0), .val (.int p1), .val (.int p2), .val (.int p3), .val (.int p4), .val (.int p5), .val (.int z), .val (.int n6), .val (.ref b165), .val (.ref b189), .val (.int ((if z < n6 then (z * (2 : Int32)) else z) * (2 : Int32))), .unset]) rfl ?_
        exact k
      · simp only [if_neg hq387] at k
        show Steps p.tables e below (T378.setTop (mkF m 152 #[.val (.int p0), .val (.int p1), .val (.int p2), .val (.int p3), .val (.int p4), .val (.int p5), .val (.int z), .val (.int n6), .val (.ref b165), .val (.ref b189), .val (.int (if z < n6 then (z * (2 : Int32)) else z)), .unset] [(.int (if z < n6 then (z * (2 : Int32)) else z)), (.int n6)])) _
        refine XS.icmpYes XH378.here hx rfl (pc0 := 152) (pc' := 161) rfl (hb hby at_152) rfl (flt hq387).2.2.2 (by decide) (by decide) ?_
        exact k)
    have k389 : ∀ t, Steps p.tables e below (T378.setTop (mkF m 165 #[.val (.int p0), .val (.int p1), .val (.int p2), .val (.int p3), .val (.int p4), .val (.int p5), .val (.int z), .val (.int n6), .val (.ref b165), .val (.ref b189), .val (.int (if (if z < n6 then (z * (2 : Int32)) else z) < n6 then ((if z < n6 then (z * (2 : Int32)) else z) * (2 : Int32)) else (if z < n6 then (z * (2 : Int32)) else z))), .unset] [(.int (if (if z < n6 then (z * (2 : Int32)) else z) < n6 then ((if z < n6 then (z * (2 : Int32)) else z) * (2 : Int32)) else (if z < n6 then (z * (2 : Int32)) else z))), (.int n6)])) t → Steps p.tables e below (s₁.setTop (entryFrame m #[(.int p0), (.int p1), (.int p2), (.int p3), (.int p4), (.int p5)] maxLocals)) t := fun t k => k388 t (by
      show Steps p.tables e below (T378.setTop (mkF m 161 #[.val (.int p0), .val (.int p1), .val (.int p2), .val (.int p3), .val (.int p4), .val (.int p5), .val (.int z), .val (.int n6), .val (.ref b165), .val (.ref b189), .val (.int (if (if z < n6 then (z * (2 : Int32)) else z) < n6 then ((if z < n6 then (z * (2 : Int32)) else z) * (2 : Int32)) else (if z < n6 then (z * (2 : Int32)) else z))), .unset] [])) _
      refine XS.iload XH378.here hx rfl (hb hby at_161) rfl ?_
      show Steps p.tables e below (T378.setTop (mkF m 163 #[.val (.int p0), .val (.int p1), .val (.int p2), .val (.int p3), .val (.int p4), .val (.int p5), .val (.int z), .val (.int n6), .val (.ref b165), .val (.ref b189), .val (.int (if (if z < n6 then (z * (2 : Int32)) else z) < n6 then ((if z < n6 then (z * (2 : Int32)) else z) * (2 : Int32)) else (if z < n6 then (z * (2 : Int32)) else z))), .unset] [(.int n6)])) _
      refine XS.iload XH378.here hx rfl (hb hby at_163) rfl ?_
      exact k)
    have k391 : ∀ t, Steps p.tables e below (T378.setTop (mkF m 174 #[.val (.int p0), .val (.int p1), .val (.int p2), .val (.int p3), .val (.int p4), .val (.int p5), .val (.int z), .val (.int n6), .val (.ref b165), .val (.ref b189), .val (.int (if (if (if z < n6 then (z * (2 : Int32)) else z) < n6 then ((if z < n6 then (z * (2 : Int32)) else z) * (2 : Int32)) else (if z < n6 then (z * (2 : Int32)) else z)) < n6 then ((if (if z < n6 then (z * (2 : Int32)) else z) < n6 then ((if z < n6 then (z * (2 : Int32)) else z) * (2 : Int32)) else (if z < n6 then (z * (2 : Int32)) else z)) * (2 : Int32)) else (if (if z < n6 then (z * (2 : Int32)) else z) < n6 then ((if z < n6 then (z * (2 : Int32)) else z) * (2 : Int32)) else (if z < n6 then (z * (2 : Int32)) else z)))), .unset] [])) t → Steps p.tables e below (s₁.setTop (entryFrame m #[(.int p0), (.int p1), (.int p2), (.int p3), (.int p4), (.int p5)] maxLocals)) t := fun t k => k389 t (by
      by_cases hq390 : (if (if z < n6 then (z * (2 : Int32)) else z) < n6 then ((if z < n6 then (z * (2 : Int32)) else z) * (2 : Int32)) else (if z < n6 then (z * (2 : Int32)) else z)) < n6
      · simp only [if_pos hq390] at k
        show Steps p.tables e below (T378.setTop (mkF m 165 #[.val (.int p0), .val (.int p1), .val (.int p2), .val (.int p3), .val (.int p4), .val (.int p5), .val (.int z), .val (.int n6), .val (.ref b165), .val (.ref b189), .val (.int (if (if z < n6 then (z * (2 : Int32)) else z) < n6 then ((if z < n6 then (z * (2 : Int32)) else z) * (2 : Int32)) else (if z < n6 then (z * (2 : Int32)) else z))), .unset] [(.int (if (if z < n6 then (z * (2 : Int32)) else z) < n6 then ((if z < n6 then (z * (2 : Int32)) else z) * (2 : Int32)) else (if z < n6 then (z * (2 : Int32)) else z))), (.int n6)])) _
        refine XS.icmpNo XH378.here hx rfl (hb hby at_165) rfl (tlt hq390).2.2.2 ?_
        show Steps p.tables e below (T378.setTop (mkF m 168 #[.val (.int p0), .val (.int p1), .val (.int p2), .val (.int p3), .val (.int p4), .val (.int p5), .val (.int z), .val (.int n6), .val (.ref b165), .val (.ref b189), .val (.int (if (if z < n6 then (z * (2 : Int32)) else z) < n6 then ((if z < n6 then (z * (2 : Int32)) else z) * (2 : Int32)) else (if z < n6 then (z * (2 : Int32)) else z))), .unset] [])) _
        refine XS.iload XH378.here hx rfl (hb hby at_168) rfl ?_
        show Steps p.tables e below (T378.setTop (mkF m 170 #[.val (.int p0), .val (.int p1), .val (.int p2), .val (.int p3), .val (.int p4), .val (.int p5), .val (.int z), .val (.int n6), .val (.ref b165), .val (.ref b189), .val (.int (if (if z < n6 then (z * (2 : Int32)) else z) < n6 then ((if z < n6 then (z * (2 : Int32)) else z) * (2 : Int32)) else (if z < n6 then (z * (2 : Int32)) else z))), .unset] [(.int (if (if z < n6 then (z * (2 : Int32)) else z) < n6 then ((if z < n6 then (z * (2 : Int32)) else z) * (2 : Int32)) else (if z < n6 then (z * (2 : Int32)) else z)))])) _
        refine XS.iconst XH378.here hx rfl (hb hby at_170) ?_
        show Steps p.tables e below (T378.setTop (mkF m 171 #[.val (.int p0), .val (.int p1), .val (.int p2), .val (.int p3), .val (.int p4), .val (.int p5), .val (.int z), .val (.int n6), .val (.ref b165), .val (.ref b189), .val (.int (if (if z < n6 then (z * (2 : Int32)) else z) < n6 then ((if z < n6 then (z * (2 : Int32)) else z) * (2 : Int32)) else (if z < n6 then (z * (2 : Int32)) else z))), .unset] [(.int (2 : Int32)), (.int (if (if z < n6 then (z * (2 : Int32)) else z) < n6 then ((if z < n6 then (z * (2 : Int32)) else z) * (2 : Int32)) else (if z < n6 then (z * (2 : Int32)) else z)))])) _
        refine XS.imul XH378.here hx rfl (hb hby at_171) rfl ?_
        show Steps p.tables e below (T378.setTop (mkF m 172 #[.val (.int p0), .val (.int p1), .val (.int p2), .val (.int p3), .val (.int p4), .val (.int p5), .val (.int z), .val (.int n6), .val (.ref b165), .val (.ref b189), .val (.int (if (if z < n6 then (z * (2 : Int32)) else z) < n6 then ((if z < n6 then (z * (2 : Int32)) else z) * (2 : Int32)) else (if z < n6 then (z * (2 : Int32)) else z))), .unset] [(.int ((if (if z < n6 then (z * (2 : Int32)) else z) < n6 then ((if z < n6 then (z * (2 : Int32)) else z) * (2 : Int32)) else (if z < n6 then (z * (2 : Int32)) else z)) * (2 : Int32)))])) _
        refine XS.istore XH378.here hx rfl (hb hby at_172) rfl (l' := #[.val (.int p0), .val (.int p1), .val (.int p2), .val (.int p3), .val (.int p4), .val (.int p5), .val (.int z), .val (.int n6), .val (.ref b165), .val (.ref b189), .val (.int ((if (if z < n6 then (z * (2 : Int32)) else z) < n6 then ((if z < n6 then (z * (2 : Int32)) else z) * (2 : Int32)) else (if z < n6 then (z * (2 : Int32)) else z)) * (2 : Int32))), .unset]) rfl ?_
        exact k
      · simp only [if_neg hq390] at k
        show Steps p.tables e below (T378.setTop (mkF m 165 #[.val (.int p0), .val (.int p1), .val (.int p2), .val (.int p3), .val (.int p4), .val (.int p5), .val (.int z), .val (.int n6), .val (.ref b165), .val (.ref b189), .val (.int (if (if z < n6 then (z * (2 : Int32)) else z) < n6 then ((if z < n6 then (z * (2 : Int32)) else z) * (2 : Int32)) else (if z < n6 then (z * (2 : Int32)) else z))), .unset] [(.int (if (if z < n6 then (z * (2 : Int32)) else z) < n6 then ((if z < n6 then (z * (2 : Int32)) else z) * (2 : Int32)) else (if z < n6 then (z * (2 : Int32)) else z))), (.int n6)])) _
        refine XS.icmpYes XH378.here hx rfl (pc0 := 165) (pc' := 174) rfl (hb hby at_165) rfl (flt hq390).2.2.2 (by decide) (by decide) ?_
        exact k)
    obtain ⟨ec, hec⟩ : ∃ zz_, zz_ = (if (if (if z < n6 then (z * (2 : Int32)) else z) < n6 then ((if z < n6 then (z * (2 : Int32)) else z) * (2 : Int32)) else (if z < n6 then (z * (2 : Int32)) else z)) < n6 then ((if (if z < n6 then (z * (2 : Int32)) else z) < n6 then ((if z < n6 then (z * (2 : Int32)) else z) * (2 : Int32)) else (if z < n6 then (z * (2 : Int32)) else z)) * (2 : Int32)) else (if (if z < n6 then (z * (2 : Int32)) else z) < n6 then ((if z < n6 then (z * (2 : Int32)) else z) * (2 : Int32)) else (if z < n6 then (z * (2 : Int32)) else z))) := ⟨_, rfl⟩
    rw [← hec] at k391
    have k392 : ∀ t, Steps p.tables e below (T378.setTop (mkF m 176 #[.val (.int p0), .val (.int p1), .val (.int p2), .val (.int p3), .val (.int p4), .val (.int p5), .val (.int z), .val (.int n6), .val (.ref b165), .val (.ref b189), .val (.int ec), .unset] [(.ref b189)])) t → Steps p.tables e below (s₁.setTop (entryFrame m #[(.int p0), (.int p1), (.int p2), (.int p3), (.int p4), (.int p5)] maxLocals)) t := fun t k => k391 t (by
      show Steps p.tables e below (T378.setTop (mkF m 174 #[.val (.int p0), .val (.int p1), .val (.int p2), .val (.int p3), .val (.int p4), .val (.int p5), .val (.int z), .val (.int n6), .val (.ref b165), .val (.ref b189), .val (.int ec), .unset] [])) _
      refine XS.aload XH378.here hx rfl (hb hby at_174) rfl rfl ?_
      exact k)
    obtain ⟨cq393, kq393, q393a, q393b, q393c⟩ := isOf hZ rfl F381
    obtain ⟨_, _, ⟨T393, L393, kc393, ks393⟩, -, X393, ⟨Lc393, hQ393, l393, y393, z393⟩, st393⟩ := XH378.virtualBack hx (y := (⟨"com/example/wegweiser/wegweiser/index/ByteSink", "length", "()I"⟩ : MethodName)) (z := (⟨"com/example/wegweiser/wegweiser/index/ByteSink", "length", "()I"⟩ : MethodName)) hown (mvT hZ (hw _ (List.mem_of_getElem? (i := 38) rfl))) (mvT hZ (hw _ (List.mem_of_getElem? (i := 39) rfl))) (notFace_of_selects (args := #[]) (mvT hZ (hw _ (List.mem_of_getElem? (i := 41) rfl)))) (mvT hZ (hw _ (List.mem_of_getElem? (i := 41) rfl))) (mvT hZ (hw _ (List.mem_of_getElem? (i := 40) rfl))) (by decide) (backOf (W := 0) (rm7 l Z a0 hw [] b189 ((((0 : Int32) + (1 : Int32)) + (1 : Int32)) + (1 : Int32)) T378.heap n0 Z379 Fl378) hZ (hw _ (List.mem_of_getElem? (i := 42) rfl)) (hw _ (List.mem_of_getElem? (i := 4) rfl)) (by decide) (by decide)) q393a q393c (g := (mkF m 176 #[.val (.int p0), .val (.int p1), .val (.int p2), .val (.int p3), .val (.int p4), .val (.int p5), .val (.int z), .val (.int n6), .val (.ref b165), .val (.ref b189), .val (.int ec), .unset] [(.ref b189)])) rfl (by rw [hml]; rfl) (Steps.refl _) (argsL := []) (rest := []) (lenOf pd_4 rfl) rfl (by show 2 * 0 + _ ≤ _; exact Nat.le_of_eq rfl) (hb hby at_176) (fun _ _ => ⟨rfl, rfl, (by decide : 6 + 0 ≤ _), (by decide : 59 + 0 ≤ _)⟩)
    dsimp only [Pt.U, Pt.locs, Pt.cells, Pt.slots] at X393 l393 y393 z393 st393 hQ393
    subst l393 y393 z393
    obtain ⟨rfl, Nq393, eq393⟩ := hQ393
    have N393 := Fr.app NH378 Nq393
    obtain ⟨LH393, XH393, NH393⟩ := own_hide X393 N393
    clear X393 N393
    have k394 : ∀ t, Steps p.tables e below (T393.setTop (mkF m 179 #[.val (.int p0), .val (.int p1), .val (.int p2), .val (.int p3), .val (.int p4), .val (.int p5), .val (.int z), .val (.int n6), .val (.ref b165), .val (.ref b189), .val (.int ec), .unset] [(.int ((((0 : Int32) + (1 : Int32)) + (1 : Int32)) + (1 : Int32)))])) t → Steps p.tables e below (s₁.setTop (entryFrame m #[(.int p0), (.int p1), (.int p2), (.int p3), (.int p4), (.int p5)] maxLocals)) t := fun t k => k392 t (st393.trans k)
    have k395 : ∀ t, Steps p.tables e below (T393.setTop (mkF m 188 #[.val (.int p0), .val (.int p1), .val (.int p2), .val (.int p3), .val (.int p4), .val (.int p5), .val (.int z), .val (.int n6), .val (.ref b165), .val (.ref b189), .val (.int ec), .unset] [(.ref b189)])) t → Steps p.tables e below (s₁.setTop (entryFrame m #[(.int p0), (.int p1), (.int p2), (.int p3), (.int p4), (.int p5)] maxLocals)) t := fun t k => k394 t (by
      show Steps p.tables e below (T393.setTop (mkF m 179 #[.val (.int p0), .val (.int p1), .val (.int p2), .val (.int p3), .val (.int p4), .val (.int p5), .val (.int z), .val (.int n6), .val (.ref b165), .val (.ref b189), .val (.int ec), .unset] [(.int ((((0 : Int32) + (1 : Int32)) + (1 : Int32)) + (1 : Int32)))])) _
      refine XS.iload XH393.here hx rfl (hb hby at_179) rfl ?_
      show Steps p.tables e below (T393.setTop (mkF m 181 #[.val (.int p0), .val (.int p1), .val (.int p2), .val (.int p3), .val (.int p4), .val (.int p5), .val (.int z), .val (.int n6), .val (.ref b165), .val (.ref b189), .val (.int ec), .unset] [(.int n6), (.int ((((0 : Int32) + (1 : Int32)) + (1 : Int32)) + (1 : Int32)))])) _
      refine XS.icmpYes XH393.here hx rfl (pc0 := 181) (pc' := 186) rfl (hb hby at_181) rfl (teq (by first | (rw [hn]; done) | (rw [hn]; decide))).1 (by decide) (by decide) ?_
      show Steps p.tables e below (T393.setTop (mkF m 186 #[.val (.int p0), .val (.int p1), .val (.int p2), .val (.int p3), .val (.int p4), .val (.int p5), .val (.int z), .val (.int n6), .val (.ref b165), .val (.ref b189), .val (.int ec), .unset] [])) _
      refine XS.aload XH393.here hx rfl (hb hby at_186) rfl rfl ?_
      exact k)
    obtain ⟨cq396, kq396, q396a, q396b, q396c⟩ := isOf hZ eq393 F381
    obtain ⟨_, _, ⟨T396, L396, kc396, ks396⟩, -, X396, ⟨Lc396, hQ396, l396, y396, z396⟩, st396⟩ := XH393.virtualBack hx (y := (⟨"com/example/wegweiser/wegweiser/index/ByteSink", "capacity", "()I"⟩ : MethodName)) (z := (⟨"com/example/wegweiser/wegweiser/index/ByteSink", "capacity", "()I"⟩ : MethodName)) hown (mvT hZ (hw _ (List.mem_of_getElem? (i := 43) rfl))) (mvT hZ (hw _ (List.mem_of_getElem? (i := 44) rfl))) (notFace_of_selects (args := #[]) (mvT hZ (hw _ (List.mem_of_getElem? (i := 46) rfl)))) (mvT hZ (hw _ (List.mem_of_getElem? (i := 46) rfl))) (mvT hZ (hw _ (List.mem_of_getElem? (i := 45) rfl))) (by decide) (backOf (W := 0) (rm8 l Z a0 hw [] b189 b378 kb378 (own_cap (((0 : Int32) + (1 : Int32)) + (1 : Int32)) (own_cap ((0 : Int32) + (1 : Int32)) (own_cap (0 : Int32) z))) ((([] ++ [(.int (own_b p2))]) ++ [(.int (own_b p3))]) ++ [(.int (own_b p4))]) T378.heap n0 Z379 Fb378 Vx378) hZ (hw _ (List.mem_of_getElem? (i := 47) rfl)) (hw _ (List.mem_of_getElem? (i := 4) rfl)) (by decide) (by decide)) q396a q396c (g := (mkF m 188 #[.val (.int p0), .val (.int p1), .val (.int p2), .val (.int p3), .val (.int p4), .val (.int p5), .val (.int z), .val (.int n6), .val (.ref b165), .val (.ref b189), .val (.int ec), .unset] [(.ref b189)])) rfl (by rw [hml]; rfl) (Steps.refl _) (argsL := []) (rest := []) (lenOf pd_4 rfl) rfl (by show 2 * 0 + _ ≤ _; exact Nat.le_of_eq rfl) (hb hby at_188) (fun _ _ => ⟨rfl, eq393, (by decide : 6 + 0 ≤ _), (by decide : 59 + 0 ≤ _)⟩)
    dsimp only [Pt.U, Pt.locs, Pt.cells, Pt.slots] at X396 l396 y396 z396 st396 hQ396
    subst l396 y396 z396
    obtain ⟨rfl, Nq396, eq396⟩ := hQ396
    have N396 := Fr.app NH393 Nq396
    obtain ⟨LH396, XH396, NH396⟩ := own_hide X396 N396
    clear X396 N396
    have k397 : ∀ t, Steps p.tables e below (T396.setTop (mkF m 191 #[.val (.int p0), .val (.int p1), .val (.int p2), .val (.int p3), .val (.int p4), .val (.int p5), .val (.int z), .val (.int n6), .val (.ref b165), .val (.ref b189), .val (.int ec), .unset] [(.int (own_cap (((0 : Int32) + (1 : Int32)) + (1 : Int32)) (own_cap ((0 : Int32) + (1 : Int32)) (own_cap (0 : Int32) z))))])) t → Steps p.tables e below (s₁.setTop (entryFrame m #[(.int p0), (.int p1), (.int p2), (.int p3), (.int p4), (.int p5)] maxLocals)) t := fun t k => k395 t (st396.trans k)
    have k398 : ∀ t, Steps p.tables e below (T396.setTop (mkF m 200 #[.val (.int p0), .val (.int p1), .val (.int p2), .val (.int p3), .val (.int p4), .val (.int p5), .val (.int z), .val (.int n6), .val (.ref b165), .val (.ref b189), .val (.int ec), .unset] [(.ref b189)])) t → Steps p.tables e below (s₁.setTop (entryFrame m #[(.int p0), (.int p1), (.int p2), (.int p3), (.int p4), (.int p5)] maxLocals)) t := fun t k => k397 t (by
      show Steps p.tables e below (T396.setTop (mkF m 191 #[.val (.int p0), .val (.int p1), .val (.int p2), .val (.int p3), .val (.int p4), .val (.int p5), .val (.int z), .val (.int n6), .val (.ref b165), .val (.ref b189), .val (.int ec), .unset] [(.int (own_cap (((0 : Int32) + (1 : Int32)) + (1 : Int32)) (own_cap ((0 : Int32) + (1 : Int32)) (own_cap (0 : Int32) z))))])) _
      refine XS.iload XH396.here hx rfl (hb hby at_191) rfl ?_
      show Steps p.tables e below (T396.setTop (mkF m 193 #[.val (.int p0), .val (.int p1), .val (.int p2), .val (.int p3), .val (.int p4), .val (.int p5), .val (.int z), .val (.int n6), .val (.ref b165), .val (.ref b189), .val (.int ec), .unset] [(.int ec), (.int (own_cap (((0 : Int32) + (1 : Int32)) + (1 : Int32)) (own_cap ((0 : Int32) + (1 : Int32)) (own_cap (0 : Int32) z))))])) _
      refine XS.icmpYes XH396.here hx rfl (pc0 := 193) (pc' := 198) rfl (hb hby at_193) rfl (teq (by rw [hec, hn]; rcases hz with rfl | rfl | rfl | rfl <;> decide)).1 (by decide) (by decide) ?_
      show Steps p.tables e below (T396.setTop (mkF m 198 #[.val (.int p0), .val (.int p1), .val (.int p2), .val (.int p3), .val (.int p4), .val (.int p5), .val (.int z), .val (.int n6), .val (.ref b165), .val (.ref b189), .val (.int ec), .unset] [])) _
      refine XS.aload XH396.here hx rfl (hb hby at_198) rfl rfl ?_
      exact k)
    obtain ⟨cq399, kq399, q399a, q399b, q399c⟩ := isOf hZ eq396 F381
    obtain ⟨_, _, ⟨T399, L399, kc399, ks399⟩, -, X399, ⟨Lc399, hQ399, l399, y399, z399⟩, st399⟩ := XH396.virtualBack hx (y := (⟨"com/example/wegweiser/wegweiser/index/ByteSink", "bytes", "()[B"⟩ : MethodName)) (z := (⟨"com/example/wegweiser/wegweiser/index/ByteSink", "bytes", "()[B"⟩ : MethodName)) hown (mvT hZ (hw _ (List.mem_of_getElem? (i := 48) rfl))) (mvT hZ (hw _ (List.mem_of_getElem? (i := 49) rfl))) (notFace_of_selects (args := #[]) (mvT hZ (hw _ (List.mem_of_getElem? (i := 51) rfl)))) (mvT hZ (hw _ (List.mem_of_getElem? (i := 51) rfl))) (mvT hZ (hw _ (List.mem_of_getElem? (i := 50) rfl))) (by decide) (backOf (W := 0) (rm9 l Z a0 hw [] b189 b378 T378.heap n0 Z379 Fb378) hZ (hw _ (List.mem_of_getElem? (i := 52) rfl)) (hw _ (List.mem_of_getElem? (i := 4) rfl)) (by decide) (by decide)) q399a q399c (g := (mkF m 200 #[.val (.int p0), .val (.int p1), .val (.int p2), .val (.int p3), .val (.int p4), .val (.int p5), .val (.int z), .val (.int n6), .val (.ref b165), .val (.ref b189), .val (.int ec), .unset] [(.ref b189)])) rfl (by rw [hml]; rfl) (Steps.refl _) (argsL := []) (rest := []) (lenOf pd_5 rfl) rfl (by show 2 * 0 + _ ≤ _; exact Nat.le_of_eq rfl) (hb hby at_200) (fun _ _ => ⟨rfl, eq396, (by decide : 6 + 0 ≤ _), (by decide : 59 + 0 ≤ _)⟩)
    dsimp only [Pt.U, Pt.locs, Pt.cells, Pt.slots] at X399 l399 y399 z399 st399 hQ399
    subst l399 y399 z399
    obtain ⟨rfl, Nq399, eq399⟩ := hQ399
    have N399 := Fr.app NH396 Nq399
    obtain ⟨LH399, XH399, NH399⟩ := own_hide X399 N399
    clear X399 N399
    have k400 : ∀ t, Steps p.tables e below (T399.setTop (mkF m 203 #[.val (.int p0), .val (.int p1), .val (.int p2), .val (.int p3), .val (.int p4), .val (.int p5), .val (.int z), .val (.int n6), .val (.ref b165), .val (.ref b189), .val (.int ec), .unset] [(.ref b378)])) t → Steps p.tables e below (s₁.setTop (entryFrame m #[(.int p0), (.int p1), (.int p2), (.int p3), (.int p4), (.int p5)] maxLocals)) t := fun t k => k398 t (st399.trans k)
    have k402 : ∀ t, Steps p.tables e below (T399.setTop (mkF m 222 #[.val (.int p0), .val (.int p1), .val (.int p2), .val (.int p3), .val (.int p4), .val (.int p5), .val (.int z), .val (.int n6), .val (.ref b165), .val (.ref b189), .val (.int ec), .val (.ref b378)] [(.int (0 : Int32)), (.int n6), (.ref b165), (.ref b378)])) t → Steps p.tables e below (s₁.setTop (entryFrame m #[(.int p0), (.int p1), (.int p2), (.int p3), (.int p4), (.int p5)] maxLocals)) t := fun t k => k400 t (by
      show Steps p.tables e below (T399.setTop (mkF m 203 #[.val (.int p0), .val (.int p1), .val (.int p2), .val (.int p3), .val (.int p4), .val (.int p5), .val (.int z), .val (.int n6), .val (.ref b165), .val (.ref b189), .val (.int ec), .unset] [(.ref b378)])) _
      refine XS.astore XH399.here hx rfl (hb hby at_203) rfl rfl (l' := #[.val (.int p0), .val (.int p1), .val (.int p2), .val (.int p3), .val (.int p4), .val (.int p5), .val (.int z), .val (.int n6), .val (.ref b165), .val (.ref b189), .val (.int ec), .val (.ref b378)]) rfl ?_
      show Steps p.tables e below (T399.setTop (mkF m 205 #[.val (.int p0), .val (.int p1), .val (.int p2), .val (.int p3), .val (.int p4), .val (.int p5), .val (.int z), .val (.int n6), .val (.ref b165), .val (.ref b189), .val (.int ec), .val (.ref b378)] [])) _
      refine XS.aload XH399.here hx rfl (hb hby at_205) rfl rfl ?_
      show Steps p.tables e below (T399.setTop (mkF m 207 #[.val (.int p0), .val (.int p1), .val (.int p2), .val (.int p3), .val (.int p4), .val (.int p5), .val (.int z), .val (.int n6), .val (.ref b165), .val (.ref b189), .val (.int ec), .val (.ref b378)] [(.ref b378)])) _
      obtain ⟨clq401, Arq401, -, Sq401, Nq401, -, -⟩ := id Vx378
      refine XH399.arraylength hx (by rw [eq399]; exact Arq401.1) (State.isArrayOf_alike hZ.alike Arq401.2.1) (g := (mkF m 207 #[.val (.int p0), .val (.int p1), .val (.int p2), .val (.int p3), .val (.int p4), .val (.int p5), .val (.int z), .val (.int n6), .val (.ref b165), .val (.ref b189), .val (.int ec), .val (.ref b378)] [(.ref b378)])) rfl rfl (hb hby at_207) _ ?_
      rw [len_of Sq401 Nq401]
      show Steps p.tables e below (T399.setTop (mkF m 208 #[.val (.int p0), .val (.int p1), .val (.int p2), .val (.int p3), .val (.int p4), .val (.int p5), .val (.int z), .val (.int n6), .val (.ref b165), .val (.ref b189), .val (.int ec), .val (.ref b378)] [(.int (own_cap (((0 : Int32) + (1 : Int32)) + (1 : Int32)) (own_cap ((0 : Int32) + (1 : Int32)) (own_cap (0 : Int32) z))))])) _
      refine XS.iload XH399.here hx rfl (hb hby at_208) rfl ?_
      show Steps p.tables e below (T399.setTop (mkF m 210 #[.val (.int p0), .val (.int p1), .val (.int p2), .val (.int p3), .val (.int p4), .val (.int p5), .val (.int z), .val (.int n6), .val (.ref b165), .val (.ref b189), .val (.int ec), .val (.ref b378)] [(.int ec), (.int (own_cap (((0 : Int32) + (1 : Int32)) + (1 : Int32)) (own_cap ((0 : Int32) + (1 : Int32)) (own_cap (0 : Int32) z))))])) _
      refine XS.icmpYes XH399.here hx rfl (pc0 := 210) (pc' := 215) rfl (hb hby at_210) rfl (teq (by rw [hec, hn]; rcases hz with rfl | rfl | rfl | rfl <;> decide)).1 (by decide) (by decide) ?_
      show Steps p.tables e below (T399.setTop (mkF m 215 #[.val (.int p0), .val (.int p1), .val (.int p2), .val (.int p3), .val (.int p4), .val (.int p5), .val (.int z), .val (.int n6), .val (.ref b165), .val (.ref b189), .val (.int ec), .val (.ref b378)] [])) _
      refine XS.aload XH399.here hx rfl (hb hby at_215) rfl rfl ?_
      show Steps p.tables e below (T399.setTop (mkF m 217 #[.val (.int p0), .val (.int p1), .val (.int p2), .val (.int p3), .val (.int p4), .val (.int p5), .val (.int z), .val (.int n6), .val (.ref b165), .val (.ref b189), .val (.int ec), .val (.ref b378)] [(.ref b378)])) _
      refine XS.aload XH399.here hx rfl (hb hby at_217) rfl rfl ?_
      show Steps p.tables e below (T399.setTop (mkF m 219 #[.val (.int p0), .val (.int p1), .val (.int p2), .val (.int p3), .val (.int p4), .val (.int p5), .val (.int z), .val (.int n6), .val (.ref b165), .val (.ref b189), .val (.int ec), .val (.ref b378)] [(.ref b165), (.ref b378)])) _
      refine XS.iload XH399.here hx rfl (hb hby at_219) rfl ?_
      show Steps p.tables e below (T399.setTop (mkF m 221 #[.val (.int p0), .val (.int p1), .val (.int p2), .val (.int p3), .val (.int p4), .val (.int p5), .val (.int z), .val (.int n6), .val (.ref b165), .val (.ref b189), .val (.int ec), .val (.ref b378)] [(.int n6), (.ref b165), (.ref b378)])) _
      refine XS.iconst XH399.here hx rfl (hb hby at_221) ?_
      exact k)
    obtain ⟨_, _, ⟨T403, L403, kc403, ks403⟩, -, X403, ⟨Lc403, hQ403, l403, y403, z403⟩, st403⟩ := Jvm.LawKit.callS XH399 hx (y := (⟨"com/example/wegweiser/wegweiser/index/ByteSinkWritePinLaw", "at", "([B[III)Z"⟩ : MethodName)) hown (mvT hZ (hw _ (List.mem_of_getElem? (i := 53) rfl))) (mvT hZ (hw _ (List.mem_of_getElem? (i := 54) rfl))) (mvT hZ (hw _ (List.mem_of_getElem? (i := 55) rfl))) (mvT hZ (hw _ (List.mem_of_getElem? (i := 56) rfl))) (by decide) (backOf (W := 0) (rm10 l Z a0 hw [] b378 b165 n6 (0 : Int32) kb378 (own_cap (((0 : Int32) + (1 : Int32)) + (1 : Int32)) (own_cap ((0 : Int32) + (1 : Int32)) (own_cap (0 : Int32) z))) ((([] ++ [(.int (own_b p2))]) ++ [(.int (own_b p3))]) ++ [(.int (own_b p4))]) c165 [(.int p2), (.int p3), (.int p4), (.int p5), (.int (p2 ^^^ p4))] (own_b p2) p2 T378.heap n0 Z379 Vx378 F380 (by decide) rfl (fun _ => ⟨⟨by decide, by decide⟩, rfl⟩) (fun _ => rfl) (fun h => absurd h (by rw [hn]; decide))) hZ (hw _ (List.mem_of_getElem? (i := 56) rfl)) (hw _ (List.mem_of_getElem? (i := 55) rfl)) (by decide) (by decide)) (g := (mkF m 222 #[.val (.int p0), .val (.int p1), .val (.int p2), .val (.int p3), .val (.int p4), .val (.int p5), .val (.int z), .val (.int n6), .val (.ref b165), .val (.ref b189), .val (.int ec), .val (.ref b378)] [(.int (0 : Int32)), (.int n6), (.ref b165), (.ref b378)])) rfl (by rw [hml]; rfl) (argsL := [(.ref b378), (.ref b165), (.int n6), (.int (0 : Int32))]) (rest := []) (lenOf pd_6 rfl) rfl (by show 2 * 0 + _ ≤ _; exact Nat.le_of_eq rfl) (hb hby at_222) (fun _ _ => ⟨rfl, eq399, (by decide : 6 + 0 ≤ _), (by decide : 59 + 0 ≤ _)⟩)
    dsimp only [Pt.U, Pt.locs, Pt.cells, Pt.slots] at X403 l403 y403 z403 st403 hQ403
    subst l403 y403 z403
    obtain ⟨rfl, Nq403, eq403⟩ := hQ403
    have N403 := Fr.app NH399 Nq403
    obtain ⟨LH403, XH403, NH403⟩ := own_hide X403 N403
    clear X403 N403
    have k404 : ∀ t, Steps p.tables e below (T403.setTop (mkF m 225 #[.val (.int p0), .val (.int p1), .val (.int p2), .val (.int p3), .val (.int p4), .val (.int p5), .val (.int z), .val (.int n6), .val (.ref b165), .val (.ref b189), .val (.int ec), .val (.ref b378)] [(.int (1 : Int32))])) t → Steps p.tables e below (s₁.setTop (entryFrame m #[(.int p0), (.int p1), (.int p2), (.int p3), (.int p4), (.int p5)] maxLocals)) t := fun t k => k402 t (st403 t k)
    have k405 : ∀ t, Steps p.tables e below (T403.setTop (mkF m 235 #[.val (.int p0), .val (.int p1), .val (.int p2), .val (.int p3), .val (.int p4), .val (.int p5), .val (.int z), .val (.int n6), .val (.ref b165), .val (.ref b189), .val (.int ec), .val (.ref b378)] [(.int (1 : Int32)), (.int n6), (.ref b165), (.ref b378)])) t → Steps p.tables e below (s₁.setTop (entryFrame m #[(.int p0), (.int p1), (.int p2), (.int p3), (.int p4), (.int p5)] maxLocals)) t := fun t k => k404 t (by
      show Steps p.tables e below (T403.setTop (mkF m 225 #[.val (.int p0), .val (.int p1), .val (.int p2), .val (.int p3), .val (.int p4), .val (.int p5), .val (.int z), .val (.int n6), .val (.ref b165), .val (.ref b189), .val (.int ec), .val (.ref b378)] [(.int (1 : Int32))])) _
      refine XS.ifNo XH403.here hx rfl (hb hby at_225) rfl ((if0 _ _).trans (feq (by decide : ¬ ((1 : Int32) = (0 : Int32)))).1) ?_
      show Steps p.tables e below (T403.setTop (mkF m 228 #[.val (.int p0), .val (.int p1), .val (.int p2), .val (.int p3), .val (.int p4), .val (.int p5), .val (.int z), .val (.int n6), .val (.ref b165), .val (.ref b189), .val (.int ec), .val (.ref b378)] [])) _
      refine XS.aload XH403.here hx rfl (hb hby at_228) rfl rfl ?_
      show Steps p.tables e below (T403.setTop (mkF m 230 #[.val (.int p0), .val (.int p1), .val (.int p2), .val (.int p3), .val (.int p4), .val (.int p5), .val (.int z), .val (.int n6), .val (.ref b165), .val (.ref b189), .val (.int ec), .val (.ref b378)] [(.ref b378)])) _
      refine XS.aload XH403.here hx rfl (hb hby at_230) rfl rfl ?_
      show Steps p.tables e below (T403.setTop (mkF m 232 #[.val (.int p0), .val (.int p1), .val (.int p2), .val (.int p3), .val (.int p4), .val (.int p5), .val (.int z), .val (.int n6), .val (.ref b165), .val (.ref b189), .val (.int ec), .val (.ref b378)] [(.ref b165), (.ref b378)])) _
      refine XS.iload XH403.here hx rfl (hb hby at_232) rfl ?_
      show Steps p.tables e below (T403.setTop (mkF m 234 #[.val (.int p0), .val (.int p1), .val (.int p2), .val (.int p3), .val (.int p4), .val (.int p5), .val (.int z), .val (.int n6), .val (.ref b165), .val (.ref b189), .val (.int ec), .val (.ref b378)] [(.int n6), (.ref b165), (.ref b378)])) _
      refine XS.iconst XH403.here hx rfl (hb hby at_234) ?_
      exact k)
    obtain ⟨_, _, ⟨T406, L406, kc406, ks406⟩, -, X406, ⟨Lc406, hQ406, l406, y406, z406⟩, st406⟩ := Jvm.LawKit.callS XH403 hx (y := (⟨"com/example/wegweiser/wegweiser/index/ByteSinkWritePinLaw", "at", "([B[III)Z"⟩ : MethodName)) hown (mvT hZ (hw _ (List.mem_of_getElem? (i := 53) rfl))) (mvT hZ (hw _ (List.mem_of_getElem? (i := 54) rfl))) (mvT hZ (hw _ (List.mem_of_getElem? (i := 55) rfl))) (mvT hZ (hw _ (List.mem_of_getElem? (i := 56) rfl))) (by decide) (backOf (W := 0) (rm10 l Z a0 hw [] b378 b165 n6 (1 : Int32) kb378 (own_cap (((0 : Int32) + (1 : Int32)) + (1 : Int32)) (own_cap ((0 : Int32) + (1 : Int32)) (own_cap (0 : Int32) z))) ((([] ++ [(.int (own_b p2))]) ++ [(.int (own_b p3))]) ++ [(.int (own_b p4))]) c165 [(.int p2), (.int p3), (.int p4), (.int p5), (.int (p2 ^^^ p4))] (own_b p3) p3 T378.heap n0 Z379 Vx378 F380 (by decide) rfl (fun _ => ⟨⟨by decide, by decide⟩, rfl⟩) (fun _ => rfl) (fun h => absurd h (by rw [hn]; decide))) hZ (hw _ (List.mem_of_getElem? (i := 56) rfl)) (hw _ (List.mem_of_getElem? (i := 55) rfl)) (by decide) (by decide)) (g := (mkF m 235 #[.val (.int p0), .val (.int p1), .val (.int p2), .val (.int p3), .val (.int p4), .val (.int p5), .val (.int z), .val (.int n6), .val (.ref b165), .val (.ref b189), .val (.int ec), .val (.ref b378)] [(.int (1 : Int32)), (.int n6), (.ref b165), (.ref b378)])) rfl (by rw [hml]; rfl) (argsL := [(.ref b378), (.ref b165), (.int n6), (.int (1 : Int32))]) (rest := []) (lenOf pd_6 rfl) rfl (by show 2 * 0 + _ ≤ _; exact Nat.le_of_eq rfl) (hb hby at_235) (fun _ _ => ⟨rfl, eq403, (by decide : 6 + 0 ≤ _), (by decide : 59 + 0 ≤ _)⟩)
    dsimp only [Pt.U, Pt.locs, Pt.cells, Pt.slots] at X406 l406 y406 z406 st406 hQ406
    subst l406 y406 z406
    obtain ⟨rfl, Nq406, eq406⟩ := hQ406
    have N406 := Fr.app NH403 Nq406
    obtain ⟨LH406, XH406, NH406⟩ := own_hide X406 N406
    clear X406 N406
    have k407 : ∀ t, Steps p.tables e below (T406.setTop (mkF m 238 #[.val (.int p0), .val (.int p1), .val (.int p2), .val (.int p3), .val (.int p4), .val (.int p5), .val (.int z), .val (.int n6), .val (.ref b165), .val (.ref b189), .val (.int ec), .val (.ref b378)] [(.int (1 : Int32))])) t → Steps p.tables e below (s₁.setTop (entryFrame m #[(.int p0), (.int p1), (.int p2), (.int p3), (.int p4), (.int p5)] maxLocals)) t := fun t k => k405 t (st406 t k)
    have k408 : ∀ t, Steps p.tables e below (T406.setTop (mkF m 248 #[.val (.int p0), .val (.int p1), .val (.int p2), .val (.int p3), .val (.int p4), .val (.int p5), .val (.int z), .val (.int n6), .val (.ref b165), .val (.ref b189), .val (.int ec), .val (.ref b378)] [(.int (2 : Int32)), (.int n6), (.ref b165), (.ref b378)])) t → Steps p.tables e below (s₁.setTop (entryFrame m #[(.int p0), (.int p1), (.int p2), (.int p3), (.int p4), (.int p5)] maxLocals)) t := fun t k => k407 t (by
      show Steps p.tables e below (T406.setTop (mkF m 238 #[.val (.int p0), .val (.int p1), .val (.int p2), .val (.int p3), .val (.int p4), .val (.int p5), .val (.int z), .val (.int n6), .val (.ref b165), .val (.ref b189), .val (.int ec), .val (.ref b378)] [(.int (1 : Int32))])) _
      refine XS.ifNo XH406.here hx rfl (hb hby at_238) rfl ((if0 _ _).trans (feq (by decide : ¬ ((1 : Int32) = (0 : Int32)))).1) ?_
      show Steps p.tables e below (T406.setTop (mkF m 241 #[.val (.int p0), .val (.int p1), .val (.int p2), .val (.int p3), .val (.int p4), .val (.int p5), .val (.int z), .val (.int n6), .val (.ref b165), .val (.ref b189), .val (.int ec), .val (.ref b378)] [])) _
      refine XS.aload XH406.here hx rfl (hb hby at_241) rfl rfl ?_
      show Steps p.tables e below (T406.setTop (mkF m 243 #[.val (.int p0), .val (.int p1), .val (.int p2), .val (.int p3), .val (.int p4), .val (.int p5), .val (.int z), .val (.int n6), .val (.ref b165), .val (.ref b189), .val (.int ec), .val (.ref b378)] [(.ref b378)])) _
      refine XS.aload XH406.here hx rfl (hb hby at_243) rfl rfl ?_
      show Steps p.tables e below (T406.setTop (mkF m 245 #[.val (.int p0), .val (.int p1), .val (.int p2), .val (.int p3), .val (.int p4), .val (.int p5), .val (.int z), .val (.int n6), .val (.ref b165), .val (.ref b189), .val (.int ec), .val (.ref b378)] [(.ref b165), (.ref b378)])) _
      refine XS.iload XH406.here hx rfl (hb hby at_245) rfl ?_
      show Steps p.tables e below (T406.setTop (mkF m 247 #[.val (.int p0), .val (.int p1), .val (.int p2), .val (.int p3), .val (.int p4), .val (.int p5), .val (.int z), .val (.int n6), .val (.ref b165), .val (.ref b189), .val (.int ec), .val (.ref b378)] [(.int n6), (.ref b165), (.ref b378)])) _
      refine XS.iconst XH406.here hx rfl (hb hby at_247) ?_
      exact k)
    obtain ⟨_, _, ⟨T409, L409, kc409, ks409⟩, -, X409, ⟨Lc409, hQ409, l409, y409, z409⟩, st409⟩ := Jvm.LawKit.callS XH406 hx (y := (⟨"com/example/wegweiser/wegweiser/index/ByteSinkWritePinLaw", "at", "([B[III)Z"⟩ : MethodName)) hown (mvT hZ (hw _ (List.mem_of_getElem? (i := 53) rfl))) (mvT hZ (hw _ (List.mem_of_getElem? (i := 54) rfl))) (mvT hZ (hw _ (List.mem_of_getElem? (i := 55) rfl))) (mvT hZ (hw _ (List.mem_of_getElem? (i := 56) rfl))) (by decide) (backOf (W := 0) (rm10 l Z a0 hw [] b378 b165 n6 (2 : Int32) kb378 (own_cap (((0 : Int32) + (1 : Int32)) + (1 : Int32)) (own_cap ((0 : Int32) + (1 : Int32)) (own_cap (0 : Int32) z))) ((([] ++ [(.int (own_b p2))]) ++ [(.int (own_b p3))]) ++ [(.int (own_b p4))]) c165 [(.int p2), (.int p3), (.int p4), (.int p5), (.int (p2 ^^^ p4))] (own_b p4) p4 T378.heap n0 Z379 Vx378 F380 (by decide) rfl (fun _ => ⟨⟨by decide, by decide⟩, rfl⟩) (fun _ => rfl) (fun h => absurd h (by rw [hn]; decide))) hZ (hw _ (List.mem_of_getElem? (i := 56) rfl)) (hw _ (List.mem_of_getElem? (i := 55) rfl)) (by decide) (by decide)) (g := (mkF m 248 #[.val (.int p0), .val (.int p1), .val (.int p2), .val (.int p3), .val (.int p4), .val (.int p5), .val (.int z), .val (.int n6), .val (.ref b165), .val (.ref b189), .val (.int ec), .val (.ref b378)] [(.int (2 : Int32)), (.int n6), (.ref b165), (.ref b378)])) rfl (by rw [hml]; rfl) (argsL := [(.ref b378), (.ref b165), (.int n6), (.int (2 : Int32))]) (rest := []) (lenOf pd_6 rfl) rfl (by show 2 * 0 + _ ≤ _; exact Nat.le_of_eq rfl) (hb hby at_248) (fun _ _ => ⟨rfl, eq406, (by decide : 6 + 0 ≤ _), (by decide : 59 + 0 ≤ _)⟩)
    dsimp only [Pt.U, Pt.locs, Pt.cells, Pt.slots] at X409 l409 y409 z409 st409 hQ409
    subst l409 y409 z409
    obtain ⟨rfl, Nq409, eq409⟩ := hQ409
    have N409 := Fr.app NH406 Nq409
    obtain ⟨LH409, XH409, NH409⟩ := own_hide X409 N409
    clear X409 N409
    have k410 : ∀ t, Steps p.tables e below (T409.setTop (mkF m 251 #[.val (.int p0), .val (.int p1), .val (.int p2), .val (.int p3), .val (.int p4), .val (.int p5), .val (.int z), .val (.int n6), .val (.ref b165), .val (.ref b189), .val (.int ec), .val (.ref b378)] [(.int (1 : Int32))])) t → Steps p.tables e below (s₁.setTop (entryFrame m #[(.int p0), (.int p1), (.int p2), (.int p3), (.int p4), (.int p5)] maxLocals)) t := fun t k => k408 t (st409 t k)
    have k411 : ∀ t, Steps p.tables e below (T409.setTop (mkF m 261 #[.val (.int p0), .val (.int p1), .val (.int p2), .val (.int p3), .val (.int p4), .val (.int p5), .val (.int z), .val (.int n6), .val (.ref b165), .val (.ref b189), .val (.int ec), .val (.ref b378)] [(.int (3 : Int32)), (.int n6), (.ref b165), (.ref b378)])) t → Steps p.tables e below (s₁.setTop (entryFrame m #[(.int p0), (.int p1), (.int p2), (.int p3), (.int p4), (.int p5)] maxLocals)) t := fun t k => k410 t (by
      show Steps p.tables e below (T409.setTop (mkF m 251 #[.val (.int p0), .val (.int p1), .val (.int p2), .val (.int p3), .val (.int p4), .val (.int p5), .val (.int z), .val (.int n6), .val (.ref b165), .val (.ref b189), .val (.int ec), .val (.ref b378)] [(.int (1 : Int32))])) _
      refine XS.ifNo XH409.here hx rfl (hb hby at_251) rfl ((if0 _ _).trans (feq (by decide : ¬ ((1 : Int32) = (0 : Int32)))).1) ?_
      show Steps p.tables e below (T409.setTop (mkF m 254 #[.val (.int p0), .val (.int p1), .val (.int p2), .val (.int p3), .val (.int p4), .val (.int p5), .val (.int z), .val (.int n6), .val (.ref b165), .val (.ref b189), .val (.int ec), .val (.ref b378)] [])) _
      refine XS.aload XH409.here hx rfl (hb hby at_254) rfl rfl ?_
      show Steps p.tables e below (T409.setTop (mkF m 256 #[.val (.int p0), .val (.int p1), .val (.int p2), .val (.int p3), .val (.int p4), .val (.int p5), .val (.int z), .val (.int n6), .val (.ref b165), .val (.ref b189), .val (.int ec), .val (.ref b378)] [(.ref b378)])) _
      refine XS.aload XH409.here hx rfl (hb hby at_256) rfl rfl ?_
      show Steps p.tables e below (T409.setTop (mkF m 258 #[.val (.int p0), .val (.int p1), .val (.int p2), .val (.int p3), .val (.int p4), .val (.int p5), .val (.int z), .val (.int n6), .val (.ref b165), .val (.ref b189), .val (.int ec), .val (.ref b378)] [(.ref b165), (.ref b378)])) _
      refine XS.iload XH409.here hx rfl (hb hby at_258) rfl ?_
      show Steps p.tables e below (T409.setTop (mkF m 260 #[.val (.int p0), .val (.int p1), .val (.int p2), .val (.int p3), .val (.int p4), .val (.int p5), .val (.int z), .val (.int n6), .val (.ref b165), .val (.ref b189), .val (.int ec), .val (.ref b378)] [(.int n6), (.ref b165), (.ref b378)])) _
      refine XS.iconst XH409.here hx rfl (hb hby at_260) ?_
      exact k)
    obtain ⟨_, _, ⟨T412, L412, kc412, ks412⟩, -, X412, ⟨Lc412, hQ412, l412, y412, z412⟩, st412⟩ := Jvm.LawKit.callS XH409 hx (y := (⟨"com/example/wegweiser/wegweiser/index/ByteSinkWritePinLaw", "at", "([B[III)Z"⟩ : MethodName)) hown (mvT hZ (hw _ (List.mem_of_getElem? (i := 53) rfl))) (mvT hZ (hw _ (List.mem_of_getElem? (i := 54) rfl))) (mvT hZ (hw _ (List.mem_of_getElem? (i := 55) rfl))) (mvT hZ (hw _ (List.mem_of_getElem? (i := 56) rfl))) (by decide) (backOf (W := 0) (rm10 l Z a0 hw [] b378 b165 n6 (3 : Int32) kb378 (own_cap (((0 : Int32) + (1 : Int32)) + (1 : Int32)) (own_cap ((0 : Int32) + (1 : Int32)) (own_cap (0 : Int32) z))) ((([] ++ [(.int (own_b p2))]) ++ [(.int (own_b p3))]) ++ [(.int (own_b p4))]) c165 [(.int p2), (.int p3), (.int p4), (.int p5), (.int (p2 ^^^ p4))] (0 : Int32) p5 T378.heap n0 Z379 Vx378 F380 (by decide) rfl (fun _ => ⟨⟨by decide, by decide⟩, rfl⟩) (fun h => absurd h (by rw [hn]; decide)) (fun _ => rfl)) hZ (hw _ (List.mem_of_getElem? (i := 56) rfl)) (hw _ (List.mem_of_getElem? (i := 55) rfl)) (by decide) (by decide)) (g := (mkF m 261 #[.val (.int p0), .val (.int p1), .val (.int p2), .val (.int p3), .val (.int p4), .val (.int p5), .val (.int z), .val (.int n6), .val (.ref b165), .val (.ref b189), .val (.int ec), .val (.ref b378)] [(.int (3 : Int32)), (.int n6), (.ref b165), (.ref b378)])) rfl (by rw [hml]; rfl) (argsL := [(.ref b378), (.ref b165), (.int n6), (.int (3 : Int32))]) (rest := []) (lenOf pd_6 rfl) rfl (by show 2 * 0 + _ ≤ _; exact Nat.le_of_eq rfl) (hb hby at_261) (fun _ _ => ⟨rfl, eq409, (by decide : 6 + 0 ≤ _), (by decide : 59 + 0 ≤ _)⟩)
    dsimp only [Pt.U, Pt.locs, Pt.cells, Pt.slots] at X412 l412 y412 z412 st412 hQ412
    subst l412 y412 z412
    obtain ⟨rfl, Nq412, eq412⟩ := hQ412
    have N412 := Fr.app NH409 Nq412
    obtain ⟨LH412, XH412, NH412⟩ := own_hide X412 N412
    clear X412 N412
    have k413 : ∀ t, Steps p.tables e below (T412.setTop (mkF m 264 #[.val (.int p0), .val (.int p1), .val (.int p2), .val (.int p3), .val (.int p4), .val (.int p5), .val (.int z), .val (.int n6), .val (.ref b165), .val (.ref b189), .val (.int ec), .val (.ref b378)] [(.int (1 : Int32))])) t → Steps p.tables e below (s₁.setTop (entryFrame m #[(.int p0), (.int p1), (.int p2), (.int p3), (.int p4), (.int p5)] maxLocals)) t := fun t k => k411 t (st412 t k)
    have k414 : ∀ t, Steps p.tables e below (T412.setTop (mkF m 274 #[.val (.int p0), .val (.int p1), .val (.int p2), .val (.int p3), .val (.int p4), .val (.int p5), .val (.int z), .val (.int n6), .val (.ref b165), .val (.ref b189), .val (.int ec), .val (.ref b378)] [(.int (4 : Int32)), (.int n6), (.ref b165), (.ref b378)])) t → Steps p.tables e below (s₁.setTop (entryFrame m #[(.int p0), (.int p1), (.int p2), (.int p3), (.int p4), (.int p5)] maxLocals)) t := fun t k => k413 t (by
      show Steps p.tables e below (T412.setTop (mkF m 264 #[.val (.int p0), .val (.int p1), .val (.int p2), .val (.int p3), .val (.int p4), .val (.int p5), .val (.int z), .val (.int n6), .val (.ref b165), .val (.ref b189), .val (.int ec), .val (.ref b378)] [(.int (1 : Int32))])) _
      refine XS.ifNo XH412.here hx rfl (hb hby at_264) rfl ((if0 _ _).trans (feq (by decide : ¬ ((1 : Int32) = (0 : Int32)))).1) ?_
      show Steps p.tables e below (T412.setTop (mkF m 267 #[.val (.int p0), .val (.int p1), .val (.int p2), .val (.int p3), .val (.int p4), .val (.int p5), .val (.int z), .val (.int n6), .val (.ref b165), .val (.ref b189), .val (.int ec), .val (.ref b378)] [])) _
      refine XS.aload XH412.here hx rfl (hb hby at_267) rfl rfl ?_
      show Steps p.tables e below (T412.setTop (mkF m 269 #[.val (.int p0), .val (.int p1), .val (.int p2), .val (.int p3), .val (.int p4), .val (.int p5), .val (.int z), .val (.int n6), .val (.ref b165), .val (.ref b189), .val (.int ec), .val (.ref b378)] [(.ref b378)])) _
      refine XS.aload XH412.here hx rfl (hb hby at_269) rfl rfl ?_
      show Steps p.tables e below (T412.setTop (mkF m 271 #[.val (.int p0), .val (.int p1), .val (.int p2), .val (.int p3), .val (.int p4), .val (.int p5), .val (.int z), .val (.int n6), .val (.ref b165), .val (.ref b189), .val (.int ec), .val (.ref b378)] [(.ref b165), (.ref b378)])) _
      refine XS.iload XH412.here hx rfl (hb hby at_271) rfl ?_
      show Steps p.tables e below (T412.setTop (mkF m 273 #[.val (.int p0), .val (.int p1), .val (.int p2), .val (.int p3), .val (.int p4), .val (.int p5), .val (.int z), .val (.int n6), .val (.ref b165), .val (.ref b189), .val (.int ec), .val (.ref b378)] [(.int n6), (.ref b165), (.ref b378)])) _
      refine XS.iconst XH412.here hx rfl (hb hby at_273) ?_
      exact k)
    obtain ⟨_, _, ⟨T415, L415, kc415, ks415⟩, -, X415, ⟨Lc415, hQ415, l415, y415, z415⟩, st415⟩ := Jvm.LawKit.callS XH412 hx (y := (⟨"com/example/wegweiser/wegweiser/index/ByteSinkWritePinLaw", "at", "([B[III)Z"⟩ : MethodName)) hown (mvT hZ (hw _ (List.mem_of_getElem? (i := 53) rfl))) (mvT hZ (hw _ (List.mem_of_getElem? (i := 54) rfl))) (mvT hZ (hw _ (List.mem_of_getElem? (i := 55) rfl))) (mvT hZ (hw _ (List.mem_of_getElem? (i := 56) rfl))) (by decide) (backOf (W := 0) (rm10 l Z a0 hw [] b378 b165 n6 (4 : Int32) kb378 (own_cap (((0 : Int32) + (1 : Int32)) + (1 : Int32)) (own_cap ((0 : Int32) + (1 : Int32)) (own_cap (0 : Int32) z))) ((([] ++ [(.int (own_b p2))]) ++ [(.int (own_b p3))]) ++ [(.int (own_b p4))]) c165 [(.int p2), (.int p3), (.int p4), (.int p5), (.int (p2 ^^^ p4))] (0 : Int32) (p2 ^^^ p4) T378.heap n0 Z379 Vx378 F380 (by decide) rfl (fun _ => ⟨⟨by decide, by decide⟩, rfl⟩) (fun h => absurd h (by rw [hn]; decide)) (fun _ => rfl)) hZ (hw _ (List.mem_of_getElem? (i := 56) rfl)) (hw _ (List.mem_of_getElem? (i := 55) rfl)) (by decide) (by decide)) (g := (mkF m 274 #[.val (.int p0), .val (.int p1), .val (.int p2), .val (.int p3), .val (.int p4), .val (.int p5), .val (.int z), .val (.int n6), .val (.ref b165), .val (.ref b189), .val (.int ec), .val (.ref b378)] [(.int (4 : Int32)), (.int n6), (.ref b165), (.ref b378)])) rfl (by rw [hml]; rfl) (argsL := [(.ref b378), (.ref b165), (.int n6), (.int (4 : Int32))]) (rest := []) (lenOf pd_6 rfl) rfl (by show 2 * 0 + _ ≤ _; exact Nat.le_of_eq rfl) (hb hby at_274) (fun _ _ => ⟨rfl, eq412, (by decide : 6 + 0 ≤ _), (by decide : 59 + 0 ≤ _)⟩)
    dsimp only [Pt.U, Pt.locs, Pt.cells, Pt.slots] at X415 l415 y415 z415 st415 hQ415
    subst l415 y415 z415
    obtain ⟨rfl, Nq415, eq415⟩ := hQ415
    have N415 := Fr.app NH412 Nq415
    obtain ⟨LH415, XH415, NH415⟩ := own_hide X415 N415
    clear X415 N415
    have k416 : ∀ t, Steps p.tables e below (T415.setTop (mkF m 277 #[.val (.int p0), .val (.int p1), .val (.int p2), .val (.int p3), .val (.int p4), .val (.int p5), .val (.int z), .val (.int n6), .val (.ref b165), .val (.ref b189), .val (.int ec), .val (.ref b378)] [(.int (1 : Int32))])) t → Steps p.tables e below (s₁.setTop (entryFrame m #[(.int p0), (.int p1), (.int p2), (.int p3), (.int p4), (.int p5)] maxLocals)) t := fun t k => k414 t (st415 t k)
    have k417 : ∀ t, Steps p.tables e below (T415.setTop (mkF m 287 #[.val (.int p0), .val (.int p1), .val (.int p2), .val (.int p3), .val (.int p4), .val (.int p5), .val (.int z), .val (.int n6), .val (.ref b165), .val (.ref b189), .val (.int ec), .val (.ref b378)] [(.int (5 : Int32)), (.int n6), (.ref b165), (.ref b378)])) t → Steps p.tables e below (s₁.setTop (entryFrame m #[(.int p0), (.int p1), (.int p2), (.int p3), (.int p4), (.int p5)] maxLocals)) t := fun t k => k416 t (by
      show Steps p.tables e below (T415.setTop (mkF m 277 #[.val (.int p0), .val (.int p1), .val (.int p2), .val (.int p3), .val (.int p4), .val (.int p5), .val (.int z), .val (.int n6), .val (.ref b165), .val (.ref b189), .val (.int ec), .val (.ref b378)] [(.int (1 : Int32))])) _
      refine XS.ifNo XH415.here hx rfl (hb hby at_277) rfl ((if0 _ _).trans (feq (by decide : ¬ ((1 : Int32) = (0 : Int32)))).1) ?_
      show Steps p.tables e below (T415.setTop (mkF m 280 #[.val (.int p0), .val (.int p1), .val (.int p2), .val (.int p3), .val (.int p4), .val (.int p5), .val (.int z), .val (.int n6), .val (.ref b165), .val (.ref b189), .val (.int ec), .val (.ref b378)] [])) _
      refine XS.aload XH415.here hx rfl (hb hby at_280) rfl rfl ?_
      show Steps p.tables e below (T415.setTop (mkF m 282 #[.val (.int p0), .val (.int p1), .val (.int p2), .val (.int p3), .val (.int p4), .val (.int p5), .val (.int z), .val (.int n6), .val (.ref b165), .val (.ref b189), .val (.int ec), .val (.ref b378)] [(.ref b378)])) _
      refine XS.aload XH415.here hx rfl (hb hby at_282) rfl rfl ?_
      show Steps p.tables e below (T415.setTop (mkF m 284 #[.val (.int p0), .val (.int p1), .val (.int p2), .val (.int p3), .val (.int p4), .val (.int p5), .val (.int z), .val (.int n6), .val (.ref b165), .val (.ref b189), .val (.int ec), .val (.ref b378)] [(.ref b165), (.ref b378)])) _
      refine XS.iload XH415.here hx rfl (hb hby at_284) rfl ?_
      show Steps p.tables e below (T415.setTop (mkF m 286 #[.val (.int p0), .val (.int p1), .val (.int p2), .val (.int p3), .val (.int p4), .val (.int p5), .val (.int z), .val (.int n6), .val (.ref b165), .val (.ref b189), .val (.int ec), .val (.ref b378)] [(.int n6), (.ref b165), (.ref b378)])) _
      refine XS.iconst XH415.here hx rfl (hb hby at_286) ?_
      exact k)
    obtain ⟨_, _, ⟨T418, L418, kc418, ks418⟩, -, X418, ⟨Lc418, hQ418, l418, y418, z418⟩, st418⟩ := Jvm.LawKit.callS XH415 hx (y := (⟨"com/example/wegweiser/wegweiser/index/ByteSinkWritePinLaw", "at", "([B[III)Z"⟩ : MethodName)) hown (mvT hZ (hw _ (List.mem_of_getElem? (i := 53) rfl))) (mvT hZ (hw _ (List.mem_of_getElem? (i := 54) rfl))) (mvT hZ (hw _ (List.mem_of_getElem? (i := 55) rfl))) (mvT hZ (hw _ (List.mem_of_getElem? (i := 56) rfl))) (by decide) (backOf (W := 0) (rm10 l Z a0 hw [] b378 b165 n6 (5 : Int32) kb378 (own_cap (((0 : Int32) + (1 : Int32)) + (1 : Int32)) (own_cap ((0 : Int32) + (1 : Int32)) (own_cap (0 : Int32) z))) ((([] ++ [(.int (own_b p2))]) ++ [(.int (own_b p3))]) ++ [(.int (own_b p4))]) c165 [(.int p2), (.int p3), (.int p4), (.int p5), (.int (p2 ^^^ p4))] (0 : Int32) (0 : Int32) T378.heap n0 Z379 Vx378 F380 (by decide) rfl (fun h => absurd h (by rw [hn]; decide)) (fun h => absurd h (by rw [hn]; decide)) (fun _ => rfl)) hZ (hw _ (List.mem_of_getElem? (i := 56) rfl)) (hw _ (List.mem_of_getElem? (i := 55) rfl)) (by decide) (by decide)) (g := (mkF m 287 #[.val (.int p0), .val (.int p1), .val (.int p2), .val (.int p3), .val (.int p4), .val (.int p5), .val (.int z), .val (.int n6), .val (.ref b165), .val (.ref b189), .val (.int ec), .val (.ref b378)] [(.int (5 : Int32)), (.int n6), (.ref b165), (.ref b378)])) rfl (by rw [hml]; rfl) (argsL := [(.ref b378), (.ref b165), (.int n6), (.int (5 : Int32))]) (rest := []) (lenOf pd_6 rfl) rfl (by show 2 * 0 + _ ≤ _; exact Nat.le_of_eq rfl) (hb hby at_287) (fun _ _ => ⟨rfl, eq415, (by decide : 6 + 0 ≤ _), (by decide : 59 + 0 ≤ _)⟩)
    dsimp only [Pt.U, Pt.locs, Pt.cells, Pt.slots] at X418 l418 y418 z418 st418 hQ418
    subst l418 y418 z418
    obtain ⟨rfl, Nq418, eq418⟩ := hQ418
    have N418 := Fr.app NH415 Nq418
    obtain ⟨LH418, XH418, NH418⟩ := own_hide X418 N418
    clear X418 N418
    have k419 : ∀ t, Steps p.tables e below (T418.setTop (mkF m 290 #[.val (.int p0), .val (.int p1), .val (.int p2), .val (.int p3), .val (.int p4), .val (.int p5), .val (.int z), .val (.int n6), .val (.ref b165), .val (.ref b189), .val (.int ec), .val (.ref b378)] [(.int (1 : Int32))])) t → Steps p.tables e below (s₁.setTop (entryFrame m #[(.int p0), (.int p1), (.int p2), (.int p3), (.int p4), (.int p5)] maxLocals)) t := fun t k => k417 t (st418 t k)
    have k420 : ∀ t, Steps p.tables e below (T418.setTop (mkF m 301 #[.val (.int p0), .val (.int p1), .val (.int p2), .val (.int p3), .val (.int p4), .val (.int p5), .val (.int z), .val (.int n6), .val (.ref b165), .val (.ref b189), .val (.int ec), .val (.ref b378)] [(.int (6 : Int32)), (.int n6), (.ref b165), (.ref b378)])) t → Steps p.tables e below (s₁.setTop (entryFrame m #[(.int p0), (.int p1), (.int p2), (.int p3), (.int p4), (.int p5)] maxLocals)) t := fun t k => k419 t (by
      show Steps p.tables e below (T418.setTop (mkF m 290 #[.val (.int p0), .val (.int p1), .val (.int p2), .val (.int p3), .val (.int p4), .val (.int p5), .val (.int z), .val (.int n6), .val (.ref b165), .val (.ref b189), .val (.int ec), .val (.ref b378)] [(.int (1 : Int32))])) _
      refine XS.ifNo XH418.here hx rfl (hb hby at_290) rfl ((if0 _ _).trans (feq (by decide : ¬ ((1 : Int32) = (0 : Int32)))).1) ?_
      show Steps p.tables e below (T418.setTop (mkF m 293 #[.val (.int p0), .val (.int p1), .val (.int p2), .val (.int p3), .val (.int p4), .val (.int p5), .val (.int z), .val (.int n6), .val (.ref b165), .val (.ref b189), .val (.int ec), .val (.ref b378)] [])) _
      refine XS.aload XH418.here hx rfl (hb hby at_293) rfl rfl ?_
      show Steps p.tables e below (T418.setTop (mkF m 295 #[.val (.int p0), .val (.int p1), .val (.int p2), .val (.int p3), .val (.int p4), .val (.int p5), .val (.int z), .val (.int n6), .val (.ref b165), .val (.ref b189), .val (.int ec), .val (.ref b378)] [(.ref b378)])) _
      refine XS.aload XH418.here hx rfl (hb hby at_295) rfl rfl ?_
      show Steps p.tables e below (T418.setTop (mkF m 297 #[.val (.int p0), .val (.int p1), .val (.int p2), .val (.int p3), .val (.int p4), .val (.int p5), .val (.int z), .val (.int n6), .val (.ref b165), .val (.ref b189), .val (.int ec), .val (.ref b378)] [(.ref b165), (.ref b378)])) _
      refine XS.iload XH418.here hx rfl (hb hby at_297) rfl ?_
      show Steps p.tables e below (T418.setTop (mkF m 299 #[.val (.int p0), .val (.int p1), .val (.int p2), .val (.int p3), .val (.int p4), .val (.int p5), .val (.int z), .val (.int n6), .val (.ref b165), .val (.ref b189), .val (.int ec), .val (.ref b378)] [(.int n6), (.ref b165), (.ref b378)])) _
      refine XS.bipush XH418.here hx rfl (hb hby at_299) ?_
      exact k)
    obtain ⟨_, _, ⟨T421, L421, kc421, ks421⟩, -, X421, ⟨Lc421, hQ421, l421, y421, z421⟩, st421⟩ := Jvm.LawKit.callS XH418 hx (y := (⟨"com/example/wegweiser/wegweiser/index/ByteSinkWritePinLaw", "at", "([B[III)Z"⟩ : MethodName)) hown (mvT hZ (hw _ (List.mem_of_getElem? (i := 53) rfl))) (mvT hZ (hw _ (List.mem_of_getElem? (i := 54) rfl))) (mvT hZ (hw _ (List.mem_of_getElem? (i := 55) rfl))) (mvT hZ (hw _ (List.mem_of_getElem? (i := 56) rfl))) (by decide) (backOf (W := 0) (rm10 l Z a0 hw [] b378 b165 n6 (6 : Int32) kb378 (own_cap (((0 : Int32) + (1 : Int32)) + (1 : Int32)) (own_cap ((0 : Int32) + (1 : Int32)) (own_cap (0 : Int32) z))) ((([] ++ [(.int (own_b p2))]) ++ [(.int (own_b p3))]) ++ [(.int (own_b p4))]) c165 [(.int p2), (.int p3), (.int p4), (.int p5), (.int (p2 ^^^ p4))] (0 : Int32) (0 : Int32) T378.heap n0 Z379 Vx378 F380 (by decide) rfl (fun h => absurd h (by rw [hn]; decide)) (fun h => absurd h (by rw [hn]; decide)) (fun _ => rfl)) hZ (hw _ (List.mem_of_getElem? (i := 56) rfl)) (hw _ (List.mem_of_getElem? (i := 55) rfl)) (by decide) (by decide)) (g := (mkF m 301 #[.val (.int p0), .val (.int p1), .val (.int p2), .val (.int p3), .val (.int p4), .val (.int p5), .val (.int z), .val (.int n6), .val (.ref b165), .val (.ref b189), .val (.int ec), .val (.ref b378)] [(.int (6 : Int32)), (.int n6), (.ref b165), (.ref b378)])) rfl (by rw [hml]; rfl) (argsL := [(.ref b378), (.ref b165), (.int n6), (.int (6 : Int32))]) (rest := []) (lenOf pd_6 rfl) rfl (by show 2 * 0 + _ ≤ _; exact Nat.le_of_eq rfl) (hb hby at_301) (fun _ _ => ⟨rfl, eq418, (by decide : 6 + 0 ≤ _), (by decide : 59 + 0 ≤ _)⟩)
    dsimp only [Pt.U, Pt.locs, Pt.cells, Pt.slots] at X421 l421 y421 z421 st421 hQ421
    subst l421 y421 z421
    obtain ⟨rfl, Nq421, eq421⟩ := hQ421
    have N421 := Fr.app NH418 Nq421
    obtain ⟨LH421, XH421, NH421⟩ := own_hide X421 N421
    clear X421 N421
    have k422 : ∀ t, Steps p.tables e below (T421.setTop (mkF m 304 #[.val (.int p0), .val (.int p1), .val (.int p2), .val (.int p3), .val (.int p4), .val (.int p5), .val (.int z), .val (.int n6), .val (.ref b165), .val (.ref b189), .val (.int ec), .val (.ref b378)] [(.int (1 : Int32))])) t → Steps p.tables e below (s₁.setTop (entryFrame m #[(.int p0), (.int p1), (.int p2), (.int p3), (.int p4), (.int p5)] maxLocals)) t := fun t k => k420 t (st421 t k)
    have k423 : ∀ t, Steps p.tables e below (T421.setTop (mkF m 315 #[.val (.int p0), .val (.int p1), .val (.int p2), .val (.int p3), .val (.int p4), .val (.int p5), .val (.int z), .val (.int n6), .val (.ref b165), .val (.ref b189), .val (.int ec), .val (.ref b378)] [(.int (7 : Int32)), (.int n6), (.ref b165), (.ref b378)])) t → Steps p.tables e below (s₁.setTop (entryFrame m #[(.int p0), (.int p1), (.int p2), (.int p3), (.int p4), (.int p5)] maxLocals)) t := fun t k => k422 t (by
      show Steps p.tables e below (T421.setTop (mkF m 304 #[.val (.int p0), .val (.int p1), .val (.int p2), .val (.int p3), .val (.int p4), .val (.int p5), .val (.int z), .val (.int n6), .val (.ref b165), .val (.ref b189), .val (.int ec), .val (.ref b378)] [(.int (1 : Int32))])) _
      refine XS.ifNo XH421.here hx rfl (hb hby at_304) rfl ((if0 _ _).trans (feq (by decide : ¬ ((1 : Int32) = (0 : Int32)))).1) ?_
      show Steps p.tables e below (T421.setTop (mkF m 307 #[.val (.int p0), .val (.int p1), .val (.int p2), .val (.int p3), .val (.int p4), .val (.int p5), .val (.int z), .val (.int n6), .val (.ref b165), .val (.ref b189), .val (.int ec), .val (.ref b378)] [])) _
      refine XS.aload XH421.here hx rfl (hb hby at_307) rfl rfl ?_
      show Steps p.tables e below (T421.setTop (mkF m 309 #[.val (.int p0), .val (.int p1), .val (.int p2), .val (.int p3), .val (.int p4), .val (.int p5), .val (.int z), .val (.int n6), .val (.ref b165), .val (.ref b189), .val (.int ec), .val (.ref b378)] [(.ref b378)])) _
      refine XS.aload XH421.here hx rfl (hb hby at_309) rfl rfl ?_
      show Steps p.tables e below (T421.setTop (mkF m 311 #[.val (.int p0), .val (.int p1), .val (.int p2), .val (.int p3), .val (.int p4), .val (.int p5), .val (.int z), .val (.int n6), .val (.ref b165), .val (.ref b189), .val (.int ec), .val (.ref b378)] [(.ref b165), (.ref b378)])) _
      refine XS.iload XH421.here hx rfl (hb hby at_311) rfl ?_
      show Steps p.tables e below (T421.setTop (mkF m 313 #[.val (.int p0), .val (.int p1), .val (.int p2), .val (.int p3), .val (.int p4), .val (.int p5), .val (.int z), .val (.int n6), .val (.ref b165), .val (.ref b189), .val (.int ec), .val (.ref b378)] [(.int n6), (.ref b165), (.ref b378)])) _
      refine XS.bipush XH421.here hx rfl (hb hby at_313) ?_
      exact k)
    obtain ⟨_, _, ⟨T424, L424, kc424, ks424⟩, -, X424, ⟨Lc424, hQ424, l424, y424, z424⟩, st424⟩ := Jvm.LawKit.callS XH421 hx (y := (⟨"com/example/wegweiser/wegweiser/index/ByteSinkWritePinLaw", "at", "([B[III)Z"⟩ : MethodName)) hown (mvT hZ (hw _ (List.mem_of_getElem? (i := 53) rfl))) (mvT hZ (hw _ (List.mem_of_getElem? (i := 54) rfl))) (mvT hZ (hw _ (List.mem_of_getElem? (i := 55) rfl))) (mvT hZ (hw _ (List.mem_of_getElem? (i := 56) rfl))) (by decide) (backOf (W := 0) (rm10 l Z a0 hw [] b378 b165 n6 (7 : Int32) kb378 (own_cap (((0 : Int32) + (1 : Int32)) + (1 : Int32)) (own_cap ((0 : Int32) + (1 : Int32)) (own_cap (0 : Int32) z))) ((([] ++ [(.int (own_b p2))]) ++ [(.int (own_b p3))]) ++ [(.int (own_b p4))]) c165 [(.int p2), (.int p3), (.int p4), (.int p5), (.int (p2 ^^^ p4))] (0 : Int32) (0 : Int32) T378.heap n0 Z379 Vx378 F380 (by decide) rfl (fun h => absurd h (by rw [hn]; decide)) (fun h => absurd h (by rw [hn]; decide)) (fun _ => rfl)) hZ (hw _ (List.mem_of_getElem? (i := 56) rfl)) (hw _ (List.mem_of_getElem? (i := 55) rfl)) (by decide) (by decide)) (g := (mkF m 315 #[.val (.int p0), .val (.int p1), .val (.int p2), .val (.int p3), .val (.int p4), .val (.int p5), .val (.int z), .val (.int n6), .val (.ref b165), .val (.ref b189), .val (.int ec), .val (.ref b378)] [(.int (7 : Int32)), (.int n6), (.ref b165), (.ref b378)])) rfl (by rw [hml]; rfl) (argsL := [(.ref b378), (.ref b165), (.int n6), (.int (7 : Int32))]) (rest := []) (lenOf pd_6 rfl) rfl (by show 2 * 0 + _ ≤ _; exact Nat.le_of_eq rfl) (hb hby at_315) (fun _ _ => ⟨rfl, eq421, (by decide : 6 + 0 ≤ _), (by decide : 59 + 0 ≤ _)⟩)
    dsimp only [Pt.U, Pt.locs, Pt.cells, Pt.slots] at X424 l424 y424 z424 st424 hQ424
    subst l424 y424 z424
    obtain ⟨rfl, Nq424, eq424⟩ := hQ424
    have N424 := Fr.app NH421 Nq424
    obtain ⟨LH424, XH424, NH424⟩ := own_hide X424 N424
    clear X424 N424
    have k425 : ∀ t, Steps p.tables e below (T424.setTop (mkF m 318 #[.val (.int p0), .val (.int p1), .val (.int p2), .val (.int p3), .val (.int p4), .val (.int p5), .val (.int z), .val (.int n6), .val (.ref b165), .val (.ref b189), .val (.int ec), .val (.ref b378)] [(.int (1 : Int32))])) t → Steps p.tables e below (s₁.setTop (entryFrame m #[(.int p0), (.int p1), (.int p2), (.int p3), (.int p4), (.int p5)] maxLocals)) t := fun t k => k423 t (st424 t k)
    have k426 : ∀ t, Steps p.tables e below (T424.setTop (mkF m 326 #[.val (.int p0), .val (.int p1), .val (.int p2), .val (.int p3), .val (.int p4), .val (.int p5), .val (.int z), .val (.int n6), .val (.ref b165), .val (.ref b189), .val (.int ec), .val (.ref b378)] [(.int (1 : Int32))])) t → Steps p.tables e below (s₁.setTop (entryFrame m #[(.int p0), (.int p1), (.int p2), (.int p3), (.int p4), (.int p5)] maxLocals)) t := fun t k => k425 t (by
      show Steps p.tables e below (T424.setTop (mkF m 318 #[.val (.int p0), .val (.int p1), .val (.int p2), .val (.int p3), .val (.int p4), .val (.int p5), .val (.int z), .val (.int n6), .val (.ref b165), .val (.ref b189), .val (.int ec), .val (.ref b378)] [(.int (1 : Int32))])) _
      refine XS.ifNo XH424.here hx rfl (hb hby at_318) rfl ((if0 _ _).trans (feq (by decide : ¬ ((1 : Int32) = (0 : Int32)))).1) ?_
      show Steps p.tables e below (T424.setTop (mkF m 321 #[.val (.int p0), .val (.int p1), .val (.int p2), .val (.int p3), .val (.int p4), .val (.int p5), .val (.int z), .val (.int n6), .val (.ref b165), .val (.ref b189), .val (.int ec), .val (.ref b378)] [])) _
      refine XS.iconst XH424.here hx rfl (hb hby at_321) ?_
      show Steps p.tables e below (T424.setTop (mkF m 322 #[.val (.int p0), .val (.int p1), .val (.int p2), .val (.int p3), .val (.int p4), .val (.int p5), .val (.int z), .val (.int n6), .val (.ref b165), .val (.ref b189), .val (.int ec), .val (.ref b378)] [(.int (1 : Int32))])) _
      refine XS.goto XH424.here hx rfl (pc0 := 322) (pc' := 326) rfl (hb hby at_322) (by decide) (by decide) ?_
      exact k)
    obtain ⟨fs, hr, hrun, hended, hW, hsame⟩ := XH424.leave (v := some (.int (1 : Int32))) (fun h => by rw [Bd.returns] at h; cases h)
    refine ⟨_, _, k426 _ ?_, hrun, hended, _, _, rfl, ?_, ⟨_, rfl⟩, hW, hsame.mono (by decide) (by decide)⟩
    · show Steps p.tables e below (T424.setTop (mkF m 326 #[.val (.int p0), .val (.int p1), .val (.int p2), .val (.int p3), .val (.int p4), .val (.int p5), .val (.int z), .val (.int n6), .val (.ref b165), .val (.ref b189), .val (.int ec), .val (.ref b378)] [(.int (1 : Int32))])) _
      exact retN XH424 hx (t := .boolean) Bd.returns (by simp) (hb hby at_326) hr
    · show Q0 Z p0 p1 p2 p3 p4 p5 h0 n0 _ T424.heap _
      rw [eq424]
      exact ⟨rfl, NH424⟩
  · have k429 : ∀ t, Steps p.tables e below (T200.setTop (mkF m 68 #[.val (.int p0), .val (.int p1), .val (.int p2), .val (.int p3), .val (.int p4), .val (.int p5), .val (.int z), .val (.int n6), .val (.ref b165), .val (.ref b189), .unset, .unset] [(.int p2), (.ref b189)])) t → Steps p.tables e below (s₁.setTop (entryFrame m #[(.int p0), (.int p1), (.int p2), (.int p3), (.int p4), (.int p5)] maxLocals)) t := fun t k => k205 t (by
      show Steps p.tables e below (T200.setTop (mkF m 57 #[.val (.int p0), .val (.int p1), .val (.int p2), .val (.int p3), .val (.int p4), .val (.int p5), .val (.int z), .val (.int n6), .val (.ref b165), .val (.ref b189), .unset, .unset] [])) _
      refine XS.iload XH200.here hx rfl (hb hby at_57) rfl ?_
      show Steps p.tables e below (T200.setTop (mkF m 59 #[.val (.int p0), .val (.int p1), .val (.int p2), .val (.int p3), .val (.int p4), .val (.int p5), .val (.int z), .val (.int n6), .val (.ref b165), .val (.ref b189), .unset, .unset] [(.int n6)])) _
      refine XS.ifNo XH200.here hx rfl (hb hby at_59) rfl ((if0 _ _).trans (tlt (by rw [hn]; decide)).2.2.2) ?_
      show Steps p.tables e below (T200.setTop (mkF m 62 #[.val (.int p0), .val (.int p1), .val (.int p2), .val (.int p3), .val (.int p4), .val (.int p5), .val (.int z), .val (.int n6), .val (.ref b165), .val (.ref b189), .unset, .unset] [])) _
      refine XS.aload XH200.here hx rfl (hb hby at_62) rfl rfl ?_
      show Steps p.tables e below (T200.setTop (mkF m 64 #[.val (.int p0), .val (.int p1), .val (.int p2), .val (.int p3), .val (.int p4), .val (.int p5), .val (.int z), .val (.int n6), .val (.ref b165), .val (.ref b189), .unset, .unset] [(.ref b189)])) _
      refine XS.aload XH200.here hx rfl (hb hby at_64) rfl rfl ?_
      show Steps p.tables e below (T200.setTop (mkF m 66 #[.val (.int p0), .val (.int p1), .val (.int p2), .val (.int p3), .val (.int p4), .val (.int p5), .val (.int z), .val (.int n6), .val (.ref b165), .val (.ref b189), .unset, .unset] [(.ref b165), (.ref b189)])) _
      refine XS.iconst XH200.here hx rfl (hb hby at_66) ?_
      show Steps p.tables e below (T200.setTop (mkF m 67 #[.val (.int p0), .val (.int p1), .val (.int p2), .val (.int p3), .val (.int p4), .val (.int p5), .val (.int z), .val (.int n6), .val (.ref b165), .val (.ref b189), .unset, .unset] [(.int (0 : Int32)), (.ref b165), (.ref b189)])) _
      obtain ⟨clq428, Arq428, -, Sq428, Nq428, Hq428, Gq428⟩ := id F202
      have hinq428 := inb_of (j := (0 : Int32)) Sq428 ⟨by decide, by decide⟩
      refine XH200.iaload hx (j := (0 : Int32)) (v := (.int p2)) (id Arq428.1) (State.isArrayOf_alike hZ.alike Arq428.2.1) Arq428.2.2 hinq428 (Has.at Hq428 hinq428 rfl) (g := (mkF m 67 #[.val (.int p0), .val (.int p1), .val (.int p2), .val (.int p3), .val (.int p4), .val (.int p5), .val (.int z), .val (.int n6), .val (.ref b165), .val (.ref b189), .unset, .unset] [(.int (0 : Int32)), (.ref b165), (.ref b189)])) rfl rfl (hb hby at_67) _ ?_
      exact k)
    have nbab197 := (Ne.symm ne199)
    obtain ⟨cq430, kq430, q430a, q430b, q430c⟩ := isOf hZ rfl F203
    obtain ⟨_, _, ⟨T430, L430, kc430, ks430⟩, -, X430, ⟨Lc430, hQ430, l430, y430, z430⟩, st430⟩ := XH200.virtualBack hx (y := (⟨"com/example/wegweiser/wegweiser/index/ByteSink", "write", "(I)V"⟩ : MethodName)) (z := (⟨"com/example/wegweiser/wegweiser/index/ByteSink", "write", "(I)V"⟩ : MethodName)) hown (mvT hZ (hw _ (List.mem_of_getElem? (i := 19) rfl))) (mvT hZ (hw _ (List.mem_of_getElem? (i := 20) rfl))) (notFace_of_selects (args := #[]) (mvT hZ (hw _ (List.mem_of_getElem? (i := 22) rfl)))) (mvT hZ (hw _ (List.mem_of_getElem? (i := 22) rfl))) (mvT hZ (hw _ (List.mem_of_getElem? (i := 21) rfl))) (by decide) (backOf (W := 0) (rm4 l Z a0 hw [] b189 p2 b197 kb200 (0 : Int32) z [] T200.heap n0 Z201 Fl200 Fb200 F203 Vx200 g_b189 g_b197 (Ne.symm ne199) rfl (by rcases hz with rfl | rfl | rfl | rfl <;> decide) (by rcases hz with rfl | rfl | rfl | rfl <;> decide) (by rcases hz with rfl | rfl | rfl | rfl <;> decide) (by rcases hz with rfl | rfl | rfl | rfl <;> decide) (by rcases hz with rfl | rfl | rfl | rfl <;> decide)) hZ (hw _ (List.mem_of_getElem? (i := 23) rfl)) (hw _ (List.mem_of_getElem? (i := 4) rfl)) (by decide) (by decide)) q430a q430c (g := (mkF m 68 #[.val (.int p0), .val (.int p1), .val (.int p2), .val (.int p3), .val (.int p4), .val (.int p5), .val (.int z), .val (.int n6), .val (.ref b165), .val (.ref b189), .unset, .unset] [(.int p2), (.ref b189)])) rfl (by rw [hml]; rfl) (Steps.refl _) (argsL := [(.int p2)]) (rest := []) (lenOf pd_3 rfl) rfl (by show 2 * 0 + _ ≤ _; exact Nat.le_of_eq rfl) (hb hby at_68) (fun _ _ => ⟨rfl, rfl, (by decide : 3 + 1 ≤ _), (by decide : 11 + 16 ≤ _)⟩)
    dsimp only [Pt.U, Pt.locs, Pt.cells, Pt.slots] at X430 l430 y430 z430 st430 hQ430
    subst l430 y430 z430
    obtain ⟨b430, kb430, rfl, Nq430, K430, g_b430, nx430, hor430, Ax430, Fl430, Fb430, Vx430⟩ := hQ430
    have N430 := Fr.app NH200 Nq430
    obtain ⟨LH430, XH430, NH430⟩ := own_hide X430 N430
    clear X430 N430
    have nv430 : b165 ≠ b430 := hor430.elim (fun q => by rw [q]; exact ne198) (fun q => Nat.ne_of_lt (Nat.lt_of_lt_of_le (F202).lt q))
    have Z431 : n0 ≤ T430.heap.size := Nat.le_trans Z201 K430.1
    have F432 : Arv Z T430.heap b165 c165 .int (5 : Int32) [(.int p2), (.int p3), (.int p4), (.int p5), (.int (p2 ^^^ p4))] (.int (0 : Int32)) := (F202).keep K430 (ninS ne190 (ninS ne198 nin0))
    have F433 : Exa Z T430.heap b189 "com/example/wegweiser/wegweiser/index/ByteSink" := (F203).keep K430
    have k434 : ∀ t, Steps p.tables e below (T430.setTop (mkF m 71 #[.val (.int p0), .val (.int p1), .val (.int p2), .val (.int p3), .val (.int p4), .val (.int p5), .val (.int z), .val (.int n6), .val (.ref b165), .val (.ref b189), .unset, .unset] [])) t → Steps p.tables e below (s₁.setTop (entryFrame m #[(.int p0), (.int p1), (.int p2), (.int p3), (.int p4), (.int p5)] maxLocals)) t := fun t k => k429 t (st430.trans k)
    have k436 : ∀ t, Steps p.tables e below (T430.setTop (mkF m 83 #[.val (.int p0), .val (.int p1), .val (.int p2), .val (.int p3), .val (.int p4), .val (.int p5), .val (.int z), .val (.int n6), .val (.ref b165), .val (.ref b189), .unset, .unset] [(.int p3), (.ref b189)])) t → Steps p.tables e below (s₁.setTop (entryFrame m #[(.int p0), (.int p1), (.int p2), (.int p3), (.int p4), (.int p5)] maxLocals)) t := fun t k => k434 t (by
      show Steps p.tables e below (T430.setTop (mkF m 71 #[.val (.int p0), .val (.int p1), .val (.int p2), .val (.int p3), .val (.int p4), .val (.int p5), .val (.int z), .val (.int n6), .val (.ref b165), .val (.ref b189), .unset, .unset] [])) _
      refine XS.iload XH430.here hx rfl (hb hby at_71) rfl ?_
      show Steps p.tables e below (T430.setTop (mkF m 73 #[.val (.int p0), .val (.int p1), .val (.int p2), .val (.int p3), .val (.int p4), .val (.int p5), .val (.int z), .val (.int n6), .val (.ref b165), .val (.ref b189), .unset, .unset] [(.int n6)])) _
      refine XS.iconst XH430.here hx rfl (hb hby at_73) ?_
      show Steps p.tables e below (T430.setTop (mkF m 74 #[.val (.int p0), .val (.int p1), .val (.int p2), .val (.int p3), .val (.int p4), .val (.int p5), .val (.int z), .val (.int n6), .val (.ref b165), .val (.ref b189), .unset, .unset] [(.int (1 : Int32)), (.int n6)])) _
      refine XS.icmpNo XH430.here hx rfl (hb hby at_74) rfl (tlt (by rw [hn]; decide)).2.2.2 ?_
      show Steps p.tables e below (T430.setTop (mkF m 77 #[.val (.int p0), .val (.int p1), .val (.int p2), .val (.int p3), .val (.int p4), .val (.int p5), .val (.int z), .val (.int n6), .val (.ref b165), .val (.ref b189), .unset, .unset] [])) _
      refine XS.aload XH430.here hx rfl (hb hby at_77) rfl rfl ?_
      show Steps p.tables e below (T430.setTop (mkF m 79 #[.val (.int p0), .val (.int p1), .val (.int p2), .val (.int p3), .val (.int p4), .val (.int p5), .val (.int z), .val (.int n6), .val (.ref b165), .val (.ref b189), .unset, .unset] [(.ref b189)])) _
      refine XS.aload XH430.here hx rfl (hb hby at_79) rfl rfl ?_
      show Steps p.tables e below (T430.setTop (mkF m 81 #[.val (.int p0), .val (.int p1), .val (.int p2), .val (.int p3), .val (.int p4), .val (.int p5), .val (.int z), .val (.int n6), .val (.ref b165), .val (.ref b189), .unset, .unset] [(.ref b165), (.ref b189)])) _
      refine XS.iconst XH430.here hx rfl (hb hby at_81) ?_
      show Steps p.tables e below (T430.setTop (mkF m 82 #[.val (.int p0), .val (.int p1), .val (.int p2), .val (.int p3), .val (.int p4), .val (.int p5), .val (.int z), .val (.int n6), .val (.ref b165), .val (.ref b189), .unset, .unset] [(.int (1 : Int32)), (.ref b165), (.ref b189)])) _
      obtain ⟨clq435, Arq435, -, Sq435, Nq435, Hq435, Gq435⟩ := id F432
      have hinq435 := inb_of (j := (1 : Int32)) Sq435 ⟨by decide, by decide⟩
      refine XH430.iaload hx (j := (1 : Int32)) (v := (.int p3)) (id Arq435.1) (State.isArrayOf_alike hZ.alike Arq435.2.1) Arq435.2.2 hinq435 (Has.at Hq435 hinq435 rfl) (g := (mkF m 82 #[.val (.int p0), .val (.int p1), .val (.int p2), .val (.int p3), .val (.int p4), .val (.int p5), .val (.int z), .val (.int n6), .val (.ref b165), .val (.ref b189), .unset, .unset] [(.int (1 : Int32)), (.ref b165), (.ref b189)])) rfl rfl (hb hby at_82) _ ?_
      exact k)
    have nbab430 := nx430
    obtain ⟨cq437, kq437, q437a, q437b, q437c⟩ := isOf hZ rfl F433
    obtain ⟨_, _, ⟨T437, L437, kc437, ks437⟩, -, X437, ⟨Lc437, hQ437, l437, y437, z437⟩, st437⟩ := XH430.virtualBack hx (y := (⟨"com/example/wegweiser/wegweiser/index/ByteSink", "write", "(I)V"⟩ : MethodName)) (z := (⟨"com/example/wegweiser/wegweiser/index/ByteSink", "write", "(I)V"⟩ : MethodName)) hown (mvT hZ (hw _ (List.mem_of_getElem? (i := 19) rfl))) (mvT hZ (hw _ (List.mem_of_getElem? (i := 20) rfl))) (notFace_of_selects (args := #[]) (mvT hZ (hw _ (List.mem_of_getElem? (i := 22) rfl)))) (mvT hZ (hw _ (List.mem_of_getElem? (i := 22) rfl))) (mvT hZ (hw _ (List.mem_of_getElem? (i := 21) rfl))) (by decide) (backOf (W := 0) (rm4 l Z a0 hw [] b189 p3 b430 kb430 ((0 : Int32) + (1 : Int32)) (own_cap (0 : Int32) z) ([] ++ [(.int (own_b p2))]) T430.heap n0 Z431 Fl430 Fb430 F433 Vx430 g_b189 g_b430 nx430 rfl (by rcases hz with rfl | rfl | rfl | rfl <;> decide) (by rcases hz with rfl | rfl | rfl | rfl <;> decide) (by rcases hz with rfl | rfl | rfl | rfl <;> decide) (by rcases hz with rfl | rfl | rfl | rfl <;> decide) (by rcases hz with rfl | rfl | rfl | rfl <;> decide)) hZ (hw _ (List.mem_of_getElem? (i := 23) rfl)) (hw _ (List.mem_of_getElem? (i := 4) rfl)) (by decide) (by decide)) q437a q437c (g := (mkF m 83 #[.val (.int p0), .val (.int p1), .val (.int p2), .val (.int p3), .val (.int p4), .val (.int p5), .val (.int z), .val (.int n6), .val (.ref b165), .val (.ref b189), .unset, .unset] [(.int p3), (.ref b189)])) rfl (by rw [hml]; rfl) (Steps.refl _) (argsL := [(.int p3)]) (rest := []) (lenOf pd_3 rfl) rfl (by show 2 * 0 + _ ≤ _; exact Nat.le_of_eq rfl) (hb hby at_83) (fun _ _ => ⟨rfl, rfl, (by decide : 4 + 1 ≤ _), (by decide : 27 + 16 ≤ _)⟩)
    dsimp only [Pt.U, Pt.locs, Pt.cells, Pt.slots] at X437 l437 y437 z437 st437 hQ437
    subst l437 y437 z437
    obtain ⟨b437, kb437, rfl, Nq437, K437, g_b437, nx437, hor437, Ax437, Fl437, Fb437, Vx437⟩ := hQ437
    have N437 := Fr.app NH430 Nq437
    obtain ⟨LH437, XH437, NH437⟩ := own_hide X437 N437
    clear X437 N437
    have nv437 : b165 ≠ b437 := hor437.elim (fun q => by rw [q]; exact nv430) (fun q => Nat.ne_of_lt (Nat.lt_of_lt_of_le (F432).lt q))
    have Z438 : n0 ≤ T437.heap.size := Nat.le_trans Z431 K437.1
    have F439 : Arv Z T437.heap b165 c165 .int (5 : Int32) [(.int p2), (.int p3), (.int p4), (.int p5), (.int (p2 ^^^ p4))] (.int (0 : Int32)) := (F432).keep K437 (ninS ne190 (ninS nv430 nin0))
    have F440 : Exa Z T437.heap b189 "com/example/wegweiser/wegweiser/index/ByteSink" := (F433).keep K437
    have k441 : ∀ t, Steps p.tables e below (T437.setTop (mkF m 86 #[.val (.int p0), .val (.int p1), .val (.int p2), .val (.int p3), .val (.int p4), .val (.int p5), .val (.int z), .val (.int n6), .val (.ref b165), .val (.ref b189), .unset, .unset] [])) t → Steps p.tables e below (s₁.setTop (entryFrame m #[(.int p0), (.int p1), (.int p2), (.int p3), (.int p4), (.int p5)] maxLocals)) t := fun t k => k436 t (st437.trans k)
    have k443 : ∀ t, Steps p.tables e below (T437.setTop (mkF m 98 #[.val (.int p0), .val (.int p1), .val (.int p2), .val (.int p3), .val (.int p4), .val (.int p5), .val (.int z), .val (.int n6), .val (.ref b165), .val (.ref b189), .unset, .unset] [(.int p4), (.ref b189)])) t → Steps p.tables e below (s₁.setTop (entryFrame m #[(.int p0), (.int p1), (.int p2), (.int p3), (.int p4), (.int p5)] maxLocals)) t := fun t k => k441 t (by
      show Steps p.tables e below (T437.setTop (mkF m 86 #[.val (.int p0), .val (.int p1), .val (.int p2), .val (.int p3), .val (.int p4), .val (.int p5), .val (.int z), .val (.int n6), .val (.ref b165), .val (.ref b189), .unset, .unset] [])) _
      refine XS.iload XH437.here hx rfl (hb hby at_86) rfl ?_
      show Steps p.tables e below (T437.setTop (mkF m 88 #[.val (.int p0), .val (.int p1), .val (.int p2), .val (.int p3), .val (.int p4), .val (.int p5), .val (.int z), .val (.int n6), .val (.ref b165), .val (.ref b189), .unset, .unset] [(.int n6)])) _
      refine XS.iconst XH437.here hx rfl (hb hby at_88) ?_
      show Steps p.tables e below (T437.setTop (mkF m 89 #[.val (.int p0), .val (.int p1), .val (.int p2), .val (.int p3), .val (.int p4), .val (.int p5), .val (.int z), .val (.int n6), .val (.ref b165), .val (.ref b189), .unset, .unset] [(.int (2 : Int32)), (.int n6)])) _
      refine XS.icmpNo XH437.here hx rfl (hb hby at_89) rfl (tlt (by rw [hn]; decide)).2.2.2 ?_
      show Steps p.tables e below (T437.setTop (mkF m 92 #[.val (.int p0), .val (.int p1), .val (.int p2), .val (.int p3), .val (.int p4), .val (.int p5), .val (.int z), .val (.int n6), .val (.ref b165), .val (.ref b189), .unset, .unset] [])) _
      refine XS.aload XH437.here hx rfl (hb hby at_92) rfl rfl ?_
      show Steps p.tables e below (T437.setTop (mkF m 94 #[.val (.int p0), .val (.int p1), .val (.int p2), .val (.int p3), .val (.int p4), .val (.int p5), .val (.int z), .val (.int n6), .val (.ref b165), .val (.ref b189), .unset, .unset] [(.ref b189)])) _
      refine XS.aload XH437.here hx rfl (hb hby at_94) rfl rfl ?_
      show Steps p.tables e below (T437.setTop (mkF m 96 #[.val (.int p0), .val (.int p1), .val (.int p2), .val (.int p3), .val (.int p4), .val (.int p5), .val (.int z), .val (.int n6), .val (.ref b165), .val (.ref b189), .unset, .unset] [(.ref b165), (.ref b189)])) _
      refine XS.iconst XH437.here hx rfl (hb hby at_96) ?_
      show Steps p.tables e below (T437.setTop (mkF m 97 #[.val (.int p0), .val (.int p1), .val (.int p2), .val (.int p3), .val (.int p4), .val (.int p5), .val (.int z), .val (.int n6), .val (.ref b165), .val (.ref b189), .unset, .unset] [(.int (2 : Int32)), (.ref b165), (.ref b189)])) _
      obtain ⟨clq442, Arq442, -, Sq442, Nq442, Hq442, Gq442⟩ := id F439
      have hinq442 := inb_of (j := (2 : Int32)) Sq442 ⟨by decide, by decide⟩
      refine XH437.iaload hx (j := (2 : Int32)) (v := (.int p4)) (id Arq442.1) (State.isArrayOf_alike hZ.alike Arq442.2.1) Arq442.2.2 hinq442 (Has.at Hq442 hinq442 rfl) (g := (mkF m 97 #[.val (.int p0), .val (.int p1), .val (.int p2), .val (.int p3), .val (.int p4), .val (.int p5), .val (.int z), .val (.int n6), .val (.ref b165), .val (.ref b189), .unset, .unset] [(.int (2 : Int32)), (.ref b165), (.ref b189)])) rfl rfl (hb hby at_97) _ ?_
      exact k)
    have nbab437 := nx437
    obtain ⟨cq444, kq444, q444a, q444b, q444c⟩ := isOf hZ rfl F440
    obtain ⟨_, _, ⟨T444, L444, kc444, ks444⟩, -, X444, ⟨Lc444, hQ444, l444, y444, z444⟩, st444⟩ := XH437.virtualBack hx (y := (⟨"com/example/wegweiser/wegweiser/index/ByteSink", "write", "(I)V"⟩ : MethodName)) (z := (⟨"com/example/wegweiser/wegweiser/index/ByteSink", "write", "(I)V"⟩ : MethodName)) hown (mvT hZ (hw _ (List.mem_of_getElem? (i := 19) rfl))) (mvT hZ (hw _ (List.mem_of_getElem? (i := 20) rfl))) (notFace_of_selects (args := #[]) (mvT hZ (hw _ (List.mem_of_getElem? (i := 22) rfl)))) (mvT hZ (hw _ (List.mem_of_getElem? (i := 22) rfl))) (mvT hZ (hw _ (List.mem_of_getElem? (i := 21) rfl))) (by decide) (backOf (W := 0) (rm4 l Z a0 hw [] b189 p4 b437 kb437 (((0 : Int32) + (1 : Int32)) + (1 : Int32)) (own_cap ((0 : Int32) + (1 : Int32)) (own_cap (0 : Int32) z)) (([] ++ [(.int (own_b p2))]) ++ [(.int (own_b p3))]) T437.heap n0 Z438 Fl437 Fb437 F440 Vx437 g_b189 g_b437 nx437 rfl (by rcases hz with rfl | rfl | rfl | rfl <;> decide) (by rcases hz with rfl | rfl | rfl | rfl <;> decide) (by rcases hz with rfl | rfl | rfl | rfl <;> decide) (by rcases hz with rfl | rfl | rfl | rfl <;> decide) (by rcases hz with rfl | rfl | rfl | rfl <;> decide)) hZ (hw _ (List.mem_of_getElem? (i := 23) rfl)) (hw _ (List.mem_of_getElem? (i := 4) rfl)) (by decide) (by decide)) q444a q444c (g := (mkF m 98 #[.val (.int p0), .val (.int p1), .val (.int p2), .val (.int p3), .val (.int p4), .val (.int p5), .val (.int z), .val (.int n6), .val (.ref b165), .val (.ref b189), .unset, .unset] [(.int p4), (.ref b189)])) rfl (by rw [hml]; rfl) (Steps.refl _) (argsL := [(.int p4)]) (rest := []) (lenOf pd_3 rfl) rfl (by show 2 * 0 + _ ≤ _; exact Nat.le_of_eq rfl) (hb hby at_98) (fun _ _ => ⟨rfl, rfl, (by decide : 5 + 1 ≤ _), (by decide : 43 + 16 ≤ _)⟩)
    dsimp only [Pt.U, Pt.locs, Pt.cells, Pt.slots] at X444 l444 y444 z444 st444 hQ444
    subst l444 y444 z444
    obtain ⟨b444, kb444, rfl, Nq444, K444, g_b444, nx444, hor444, Ax444, Fl444, Fb444, Vx444⟩ := hQ444
    have N444 := Fr.app NH437 Nq444
    obtain ⟨LH444, XH444, NH444⟩ := own_hide X444 N444
    clear X444 N444
    have nv444 : b165 ≠ b444 := hor444.elim (fun q => by rw [q]; exact nv437) (fun q => Nat.ne_of_lt (Nat.lt_of_lt_of_le (F439).lt q))
    have Z445 : n0 ≤ T444.heap.size := Nat.le_trans Z438 K444.1
    have F446 : Arv Z T444.heap b165 c165 .int (5 : Int32) [(.int p2), (.int p3), (.int p4), (.int p5), (.int (p2 ^^^ p4))] (.int (0 : Int32)) := (F439).keep K444 (ninS ne190 (ninS nv437 nin0))
    have F447 : Exa Z T444.heap b189 "com/example/wegweiser/wegweiser/index/ByteSink" := (F440).keep K444
    have k448 : ∀ t, Steps p.tables e below (T444.setTop (mkF m 101 #[.val (.int p0), .val (.int p1), .val (.int p2), .val (.int p3), .val (.int p4), .val (.int p5), .val (.int z), .val (.int n6), .val (.ref b165), .val (.ref b189), .unset, .unset] [])) t → Steps p.tables e below (s₁.setTop (entryFrame m #[(.int p0), (.int p1), (.int p2), (.int p3), (.int p4), (.int p5)] maxLocals)) t := fun t k => k443 t (st444.trans k)
    have k450 : ∀ t, Steps p.tables e below (T444.setTop (mkF m 113 #[.val (.int p0), .val (.int p1), .val (.int p2), .val (.int p3), .val (.int p4), .val (.int p5), .val (.int z), .val (.int n6), .val (.ref b165), .val (.ref b189), .unset, .unset] [(.int p5), (.ref b189)])) t → Steps p.tables e below (s₁.setTop (entryFrame m #[(.int p0), (.int p1), (.int p2), (.int p3), (.int p4), (.int p5)] maxLocals)) t := fun t k => k448 t (by
      show Steps p.tables e below (T444.setTop (mkF m 101 #[.val (.int p0), .val (.int p1), .val (.int p2), .val (.int p3), .val (.int p4), .val (.int p5), .val (.int z), .val (.int n6), .val (.ref b165), .val (.ref b189), .unset, .unset] [])) _
      refine XS.iload XH444.here hx rfl (hb hby at_101) rfl ?_
      show Steps p.tables e below (T444.setTop (mkF m 103 #[.val (.int p0), .val (.int p1), .val (.int p2), .val (.int p3), .val (.int p4), .val (.int p5), .val (.int z), .val (.int n6), .val (.ref b165), .val (.ref b189), .unset, .unset] [(.int n6)])) _
      refine XS.iconst XH444.here hx rfl (hb hby at_103) ?_
      show Steps p.tables e below (T444.setTop (mkF m 104 #[.val (.int p0), .val (.int p1), .val (.int p2), .val (.int p3), .val (.int p4), .val (.int p5), .val (.int z), .val (.int n6), .val (.ref b165), .val (.ref b189), .unset, .unset] [(.int (3 : Int32)), (.int n6)])) _
      refine XS.icmpNo XH444.here hx rfl (hb hby at_104) rfl (tlt (by rw [hn]; decide)).2.2.2 ?_
      show Steps p.tables e below (T444.setTop (mkF m 107 #[.val (.int p0), .val (.int p1), .val (.int p2), .val (.int p3), .val (.int p4), .val (.int p5), .val (.int z), .val (.int n6), .val (.ref b165), .val (.ref b189), .unset, .unset] [])) _
      refine XS.aload XH444.here hx rfl (hb hby at_107) rfl rfl ?_
      show Steps p.tables e below (T444.setTop (mkF m 109 #[.val (.int p0), .val (.int p1), .val (.int p2), .val (.int p3), .val (.int p4), .val (.int p5), .val (.int z), .val (.int n6), .val (.ref b165), .val (.ref b189), .unset, .unset] [(.ref b189)])) _
      refine XS.aload XH444.here hx rfl (hb hby at_109) rfl rfl ?_
      show Steps p.tables e below (T444.setTop (mkF m 111 #[.val (.int p0), .val (.int p1), .val (.int p2), .val (.int p3), .val (.int p4), .val (.int p5), .val (.int z), .val (.int n6), .val (.ref b165), .val (.ref b189), .unset, .unset] [(.ref b165), (.ref b189)])) _
      refine XS.iconst XH444.here hx rfl (hb hby at_111) ?_
      show Steps p.tables e below (T444.setTop (mkF m 112 #[.val (.int p0), .val (.int p1), .val (.int p2), .val (.int p3), .val (.int p4), .val (.int p5), .val (.int z), .val (.int n6), .val (.ref b165), .val (.ref b189), .unset, .unset] [(.int (3 : Int32)), (.ref b165), (.ref b189)])) _
      obtain ⟨clq449, Arq449, -, Sq449, Nq449, Hq449, Gq449⟩ := id F446
      have hinq449 := inb_of (j := (3 : Int32)) Sq449 ⟨by decide, by decide⟩
      refine XH444.iaload hx (j := (3 : Int32)) (v := (.int p5)) (id Arq449.1) (State.isArrayOf_alike hZ.alike Arq449.2.1) Arq449.2.2 hinq449 (Has.at Hq449 hinq449 rfl) (g := (mkF m 112 #[.val (.int p0), .val (.int p1), .val (.int p2), .val (.int p3), .val (.int p4), .val (.int p5), .val (.int z), .val (.int n6), .val (.ref b165), .val (.ref b189), .unset, .unset] [(.int (3 : Int32)), (.ref b165), (.ref b189)])) rfl rfl (hb hby at_112) _ ?_
      exact k)
    have nbab444 := nx444
    obtain ⟨cq451, kq451, q451a, q451b, q451c⟩ := isOf hZ rfl F447
    obtain ⟨_, _, ⟨T451, L451, kc451, ks451⟩, -, X451, ⟨Lc451, hQ451, l451, y451, z451⟩, st451⟩ := XH444.virtualBack hx (y := (⟨"com/example/wegweiser/wegweiser/index/ByteSink", "write", "(I)V"⟩ : MethodName)) (z := (⟨"com/example/wegweiser/wegweiser/index/ByteSink", "write", "(I)V"⟩ : MethodName)) hown (mvT hZ (hw _ (List.mem_of_getElem? (i := 19) rfl))) (mvT hZ (hw _ (List.mem_of_getElem? (i := 20) rfl))) (notFace_of_selects (args := #[]) (mvT hZ (hw _ (List.mem_of_getElem? (i := 22) rfl)))) (mvT hZ (hw _ (List.mem_of_getElem? (i := 22) rfl))) (mvT hZ (hw _ (List.mem_of_getElem? (i := 21) rfl))) (by decide) (backOf (W := 0) (rm4 l Z a0 hw [] b189 p5 b444 kb444 ((((0 : Int32) + (1 : Int32)) + (1 : Int32)) + (1 : Int32)) (own_cap (((0 : Int32) + (1 : Int32)) + (1 : Int32)) (own_cap ((0 : Int32) + (1 : Int32)) (own_cap (0 : Int32) z))) ((([] ++ [(.int (own_b p2))]) ++ [(.int (own_b p3))]) ++ [(.int (own_b p4))]) T444.heap n0 Z445 Fl444 Fb444 F447 Vx444 g_b189 g_b444 nx444 rfl (by rcases hz with rfl | rfl | rfl | rfl <;> decide) (by rcases hz with rfl | rfl | rfl | rfl <;> decide) (by rcases hz with rfl | rfl | rfl | rfl <;> decide) (by rcases hz with rfl | rfl | rfl | rfl <;> decide) (by rcases hz with rfl | rfl | rfl | rfl <;> decide)) hZ (hw _ (List.mem_of_getElem? (i := 23) rfl)) (hw _ (List.mem_of_getElem? (i := 4) rfl)) (by decide) (by decide)) q451a q451c (g := (mkF m 113 #[.val (.int p0), .val (.int p1), .val (.int p2), .val (.int p3), .val (.int p4), .val (.int p5), .val (.int z), .val (.int n6), .val (.ref b165), .val (.ref b189), .unset, .unset] [(.int p5), (.ref b189)])) rfl (by rw [hml]; rfl) (Steps.refl _) (argsL := [(.int p5)]) (rest := []) (lenOf pd_3 rfl) rfl (by show 2 * 0 + _ ≤ _; exact Nat.le_of_eq rfl) (hb hby at_113) (fun _ _ => ⟨rfl, rfl, (by decide : 6 + 1 ≤ _), (by decide : 59 + 16 ≤ _)⟩)
    dsimp only [Pt.U, Pt.locs, Pt.cells, Pt.slots] at X451 l451 y451 z451 st451 hQ451
    subst l451 y451 z451
    obtain ⟨b451, kb451, rfl, Nq451, K451, g_b451, nx451, hor451, Ax451, Fl451, Fb451, Vx451⟩ := hQ451
    have N451 := Fr.app NH444 Nq451
    obtain ⟨LH451, XH451, NH451⟩ := own_hide X451 N451
    clear X451 N451
    have nv451 : b165 ≠ b451 := hor451.elim (fun q => by rw [q]; exact nv444) (fun q => Nat.ne_of_lt (Nat.lt_of_lt_of_le (F446).lt q))
    have Z452 : n0 ≤ T451.heap.size := Nat.le_trans Z445 K451.1
    have F453 : Arv Z T451.heap b165 c165 .int (5 : Int32) [(.int p2), (.int p3), (.int p4), (.int p5), (.int (p2 ^^^ p4))] (.int (0 : Int32)) := (F446).keep K451 (ninS ne190 (ninS nv444 nin0))
    have F454 : Exa Z T451.heap b189 "com/example/wegweiser/wegweiser/index/ByteSink" := (F447).keep K451
    have k455 : ∀ t, Steps p.tables e below (T451.setTop (mkF m 116 #[.val (.int p0), .val (.int p1), .val (.int p2), .val (.int p3), .val (.int p4), .val (.int p5), .val (.int z), .val (.int n6), .val (.ref b165), .val (.ref b189), .unset, .unset] [])) t → Steps p.tables e below (s₁.setTop (entryFrame m #[(.int p0), (.int p1), (.int p2), (.int p3), (.int p4), (.int p5)] maxLocals)) t := fun t k => k450 t (st451.trans k)
    have k456 : ∀ t, Steps p.tables e below (T451.setTop (mkF m 139 #[.val (.int p0), .val (.int p1), .val (.int p2), .val (.int p3), .val (.int p4), .val (.int p5), .val (.int z), .val (.int n6), .val (.ref b165), .val (.ref b189), .val (.int z), .unset] [(.int z), (.int n6)])) t → Steps p.tables e below (s₁.setTop (entryFrame m #[(.int p0), (.int p1), (.int p2), (.int p3), (.int p4), (.int p5)] maxLocals)) t := fun t k => k455 t (by
      show Steps p.tables e below (T451.setTop (mkF m 116 #[.val (.int p0), .val (.int p1), .val (.int p2), .val (.int p3), .val (.int p4), .val (.int p5), .val (.int z), .val (.int n6), .val (.ref b165), .val (.ref b189), .unset, .unset] [])) _
      refine XS.iload XH451.here hx rfl (hb hby at_116) rfl ?_
      show Steps p.tables e below (T451.setTop (mkF m 118 #[.val (.int p0), .val (.int p1), .val (.int p2), .val (.int p3), .val (.int p4), .val (.int p5), .val (.int z), .val (.int n6), .val (.ref b165), .val (.ref b189), .unset, .unset] [(.int n6)])) _
      refine XS.iconst XH451.here hx rfl (hb hby at_118) ?_
      show Steps p.tables e below (T451.setTop (mkF m 119 #[.val (.int p0), .val (.int p1), .val (.int p2), .val (.int p3), .val (.int p4), .val (.int p5), .val (.int z), .val (.int n6), .val (.ref b165), .val (.ref b189), .unset, .unset] [(.int (4 : Int32)), (.int n6)])) _
      refine XS.icmpYes XH451.here hx rfl (pc0 := 119) (pc' := 131) rfl (hb hby at_119) rfl (flt (by rw [hn]; decide)).2.2.2 (by decide) (by decide) ?_
      show Steps p.tables e below (T451.setTop (mkF m 131 #[.val (.int p0), .val (.int p1), .val (.int p2), .val (.int p3), .val (.int p4), .val (.int p5), .val (.int z), .val (.int n6), .val (.ref b165), .val (.ref b189), .unset, .unset] [])) _
      refine XS.iload XH451.here hx rfl (hb hby at_131) rfl ?_
      show Steps p.tables e below (T451.setTop (mkF m 133 #[.val (.int p0), .val (.int p1), .val (.int p2), .val (.int p3), .val (.int p4), .val (.int p5), .val (.int z), .val (.int n6), .val (.ref b165), .val (.ref b189), .unset, .unset] [(.int z)])) _
      refine XS.istore XH451.here hx rfl (hb hby at_133) rfl (l' := #[.val (.int p0), .val (.int p1), .val (.int p2), .val (.int p3), .val (.int p4), .val (.int p5), .val (.int z), .val (.int n6), .val (.ref b165), .val (.ref b189), .val (.int z), .unset]) rfl ?_
      show Steps p.tables e below (T451.setTop (mkF m 135 #[.val (.int p0), .val (.int p1), .val (.int p2), .val (.int p3), .val (.int p4), .val (.int p5), .val (.int z), .val (.int n6), .val (.ref b165), .val (.ref b189), .val (.int z), .unset] [])) _
      refine XS.iload XH451.here hx rfl (hb hby at_135) rfl ?_
      show Steps p.tables e below (T451.setTop (mkF m 137 #[.val (.int p0), .val (.int p1), .val (.int p2), .val (.int p3), .val (.int p4), .val (.int p5), .val (.int z), .val (.int n6), .val (.ref b165), .val (.ref b189), .val (.int z), .unset] [(.int n6)])) _
      refine XS.iload XH451.here hx rfl (hb hby at_137) rfl ?_
      exact k)
    have k458 : ∀ t, Steps p.tables e below (T451.setTop (mkF m 148 #[.val (.int p0), .val (.int p1), .val (.int p2), .val (.int p3), .val (.int p4), .val (.int p5), .val (.int z), .val (.int n6), .val (.ref b165), .val (.ref b189), .val (.int (if z < n6 then (z * (2 : Int32)) else z)), .unset] [])) t → Steps p.tables e below (s₁.setTop (entryFrame m #[(.int p0), (.int p1), (.int p2), (.int p3), (.int p4), (.int p5)] maxLocals)) t := fun t k => k456 t (by
      by_cases hq457 : z < n6
      · simp only [if_pos hq457] at k
        show Steps p.tables e below (T451.setTop (mkF m 139 #[.val (.int p0), .val (.int p1), .val (.int p2), .val (.int p3), .val (.int p4), .val (.int p5), .val (.int z), .val (.int n6), .val (.ref b165), .val (.ref b189), .val (.int z), .unset] [(.int z), (.int n6)])) _
        refine XS.icmpNo XH451.here hx rfl (hb hby at_139) rfl (tlt hq457).2.2.2 ?_
        show Steps p.tables e below (T451.setTop (mkF m 142 #[.val (.int p0), .val (.int p1), .val (.int p2), .val (.int p3), .val (.int p4), .val (.int p5), .val (.int z), .val (.int n6), .val (.ref b165), .val (.ref b189), .val (.int z), .unset] [])) _
        refine XS.iload XH451.here hx rfl (hb hby at_142) rfl ?_
        show Steps p.tables e below (T451.setTop (mkF m 144 #[.val (.int p0), .val (.int p1), .val (.int p2), .val (.int p3), .val (.int p4), .val (.int p5), .val (.int z), .val (.int n6), .val (.ref b165), .val (.ref b189), .val (.int z), .unset] [(.int z)])) _
        refine XS.iconst XH451.here hx rfl (hb hby at_144) ?_
        show Steps p.tables e below (T451.setTop (mkF m 145 #[.val (.int p0), .val (.int p1), .val (.int p2), .val (.int p3), .val (.int p4), .val (.int p5), .val (.int z), .val (.int n6), .val (.ref b165), .val (.ref b189), .val (.int z), .unset] [(.int (2 : Int32)), (.int z)])) _
        refine XS.imul XH451.here hx rfl (hb hby at_145) rfl ?_
        show Steps p.tables e below (T451.setTop (mkF m 146 #[.val (.int p0), .val (.int p1), .val (.int p2), .val (.int p3), .val (.int p4), .val (.int p5), .val (.int z), .val (.int n6), .val (.ref b165), .val (.ref b189), .val (.int z), .unset] [(.int (z * (2 : Int32)))])) _
        refine XS.istore XH451.here hx rfl (hb hby at_146) rfl (l' := #[.val (.int p0), .val (.int p1), .val (.int p2), .val (.int p3), .val (.int p4), .val (.int p5), .val (.int z), .val (.int n6), .val (.ref b165), .val (.ref b189), .val (.int (z * (2 : Int32))), .unset]) rfl ?_
        exact k
      · simp only [if_neg hq457] at k
        show Steps p.tables e below (T451.setTop (mkF m 139 #[.val (.int p0), .val (.int p1), .val (.int p2), .val (.int p3), .val (.int p4), .val (.int p5), .val (.int z), .val (.int n6), .val (.ref b165), .val (.ref b189), .val (.int z), .unset] [(.int z), (.int n6)])) _
        refine XS.icmpYes XH451.here hx rfl (pc0 := 139) (pc' := 148) rfl (hb hby at_139) rfl (flt hq457).2.2.2 (by decide) (by decide) ?_
        exact k)
    have k459 : ∀ t, Steps p.tables e below (T451.setTop (mkF m 152 #[.val (.int p0), .val (.int p1), .val (.int p2), .val (.int p3), .val (.int p4), .val (.int p5), .val (.int z), .val (.int n6), .val (.ref b165), .val (.ref b189), .val (.int (if z < n6 then (z * (2 : Int32)) else z)), .unset] [(.int (if z < n6 then (z * (2 : Int32)) else z)), (.int n6)])) t → Steps p.tables e below (s₁.setTop (entryFrame m #[(.int p0), (.int p1), (.int p2), (.int p3), (.int p4), (.int p5)] maxLocals)) t := fun t k => k458 t (by
      show Steps p.tables e below (T451.setTop (mkF m 148 #[.val (.int p0), .val (.int p1), .val (.int p2), .val (.int p3), .val (.int p4), .val (.int p5), .val (.int z), .val (.int n6), .val (.ref b165), .val (.ref b189), .val (.int (if z < n6 then (z * (2 : Int32)) else z)), .unset] [])) _
      refine XS.iload XH451.here hx rfl (hb hby at_148) rfl ?_
      show Steps p.tables e below (T451.setTop (mkF m 150 #[.val (.int p0), .val (.int p1), .val (.int p2), .val (.int p3), .val (.int p4), .val (.int p5), .val (.int z), .val (.int n6), .val (.ref b165), .val (.ref b189), .val (.int (if z < n6 then (z * (2 : Int32)) else z)), .unset] [(.int n6)])) _
      refine XS.iload XH451.here hx rfl (hb hby at_150) rfl ?_
      exact k)
    have k461 : ∀ t, Steps p.tables e below (T451.setTop (mkF m 161 #[.val (.int p0), .val (.int p1), .val (.int p2), .val (.int p3), .val (.int p4), .val (.int p5), .val (.int z), .val (.int n6), .val (.ref b165), .val (.ref b189), .val (.int (if (if z < n6 then (z * (2 : Int32)) else z) < n6 then ((if z < n6 then (z * (2 : Int32)) else z) * (2 : Int32)) else (if z < n6 then (z * (2 : Int32)) else z))), .unset] [])) t → Steps p.tables e below (s₁.setTop (entryFrame m #[(.int p0), (.int p1), (.int p2), (.int p3), (.int p4), (.int p5)] maxLocals)) t := fun t k => k459 t (by
      by_cases hq460 : (if z < n6 then (z * (2 : Int32)) else z) < n6
      · simp only [if_pos hq460] at k
        show Steps p.tables e below (T451.setTop (mkF m 152 #[.val (.int p0), .val (.int p1), .val (.int p2), .val (.int p3), .val (.int p4), .val (.int p5), .val (.int z), .val (.int n6), .val (.ref b165), .val (.ref b189), .val (.int (if z < n6 then (z * (2 : Int32)) else z)), .unset] [(.int (if z < n6 then (z * (2 : Int32)) else z)), (.int n6)])) _
        refine XS.icmpNo XH451.here hx rfl (hb hby at_152) rfl (tlt hq460).2.2.2 ?_
        show Steps p.tables e below (T451.setTop (mkF m 155 #[.val (.int p0), .val (.int p1), .val (.int p2), .val (.int p3), .val (.int p4), .val (.int p5), .val (.int z), .val (.int n6), .val (.ref b165), .val (.ref b189), .val (.int (if z < n6 then (z * (2 : Int32)) else z)), .unset] [])) _
        refine XS.iload XH451.here hx rfl (hb hby at_155) rfl ?_
        show Steps p.tables e below (T451.setTop (mkF m 157 #[.val (.int p0), .val (.int p1), .val (.int p2), .val (.int p3), .val (.int p4), .val (.int p5), .val (.int z), .val (.int n6), .val (.ref b165), .val (.ref b189), .val (.int (if z < n6 then (z * (2 : Int32)) else z)), .unset] [(.int (if z < n6 then (z * (2 : Int32)) else z))])) _
        refine XS.iconst XH451.here hx rfl (hb hby at_157) ?_
        show Steps p.tables e below (T451.setTop (mkF m 158 #[.val (.int p0), .val (.int p1), .val (.int p2), .val (.int p3), .val (.int p4), .val (.int p5), .val (.int z), .val (.int n6), .val (.ref b165), .val (.ref b189), .val (.int (if z < n6 then (z * (2 : Int32)) else z)), .unset] [(.int (2 : Int32)), (.int (if z < n6 then (z * (2 : Int32)) else z))])) _
        refine XS.imul XH451.here hx rfl (hb hby at_158) rfl ?_
        show Steps p.tables e below (T451.setTop (mkF m 159 #[.val (.int p0), .val (.int p1), .val (.int p2), .val (.int p3), .val (.int p4), .val (.int p5), .val (.int z), .val (.int n6), .val (.ref b165), .val (.ref b189), .val (.int (if z < n6 then (z * (2 : Int32)) else z)), .unset] [(.int ((if z < n6 then (z * (2 : Int32)) else z) * (2 : Int32)))])) _
        refine XS.istore XH451.here hx rfl (hb hby at_159) rfl (l' := #[.val (.int p0), .val (.int p1), .val (.int p2), .val (.int p3), .val (.int p4), .val (.int p5), .val (.int z), .val (.int n6), .val (.ref b165), .val (.ref b189), .val (.int ((if z < n6 then (z * (2 : Int32)) else z) * (2 : Int32))), .unset]) rfl ?_
        exact k
      · simp only [if_neg hq460] at k
        show Steps p.tables e below (T451.setTop (mkF m 152 #[.val (.int p0), .val (.int p1), .val (.int p2), .val (.int p3), .val (.int p4), .val (.int p5), .val (.int z), .val (.int n6), .val (.ref b165), .val (.ref b189), .val (.int (if z < n6 then (z * (2 : Int32)) else z)), .unset] [(.int (if z < n6 then (z * (2 : Int32)) else z)), (.int n6)])) _
        refine XS.icmpYes XH451.here hx rfl (pc0 := 152) (pc' := 161) rfl (hb hby at_152) rfl (flt hq460).2.2.2 (by decide) (by decide) ?_
        exact k)
    have k462 : ∀ t, Steps p.tables e below (T451.setTop (mkF m 165 #[.val (.int p0), .val (.int p1), .val (.int p2), .val (.int p3), .val (.int p4), .val (.int p5), .val (.int z), .val (.int n6), .val (.ref b165), .val (.ref b189), .val (.int (if (if z < n6 then (z * (2 : Int32)) else z) < n6 then ((if z < n6 then (z * (2 : Int32)) else z) * (2 : Int32)) else (if z < n6 then (z * (2 : Int32)) else z))), .unset] [(.int (if (if z < n6 then (z * (2 : Int32)) else z) < n6 then ((if z < n6 then (z * (2 : Int32)) else z) * (2 : Int32)) else (if z < n6 then (z * (2 : Int32)) else z))), (.int n6)])) t → Steps p.tables e below (s₁.setTop (entryFrame m #[(.int p0), (.int p1), (.int p2), (.int p3), (.int p4), (.int p5)] maxLocals)) t := fun t k => k461 t (by
      show Steps p.tables e below (T451.setTop (mkF m 161 #[.val (.int p0), .val (.int p1), .val (.int p2), .val (.int p3), .val (.int p4), .val (.int p5), .val (.int z), .val (.int n6), .val (.ref b165), .val (.ref b189), .val (.int (if (if z < n6 then (z * (2 : Int32)) else z) < n6 then ((if z < n6 then (z * (2 : Int32)) else z) * (2 : Int32)) else (if z < n6 then (z * (2 : Int32)) else z))), .unset] [])) _
      refine XS.iload XH451.here hx rfl (hb hby at_161) rfl ?_
      show Steps p.tables e below (T451.setTop (mkF m 163 #[.val (.int p0), .val (.int p1), .val (.int p2), .val (.int p3), .val (.int p4), .val (.int p5), .val (.int z), .val (.int n6), .val (.ref b165), .val (.ref b189), .val (.int (if (if z < n6 then (z * (2 : Int32)) else z) < n6 then ((if z < n6 then (z * (2 : Int32)) else z) * (2 : Int32)) else (if z < n6 then (z * (2 : Int32)) else z))), .unset] [(.int n6)])) _
      refine XS.iload XH451.here hx rfl (hb hby at_163) rfl ?_
      exact k)
    have k464 : ∀ t, Steps p.tables e below (T451.setTop (mkF m 174 #[.val (.int p0), .val (.int p1), .val (.int p2), .val (.int p3), .val (.int p4), .val (.int p5), .val (.int z), .val (.int n6), .val (.ref b165), .val (.ref b189), .val (.int (if (if (if z < n6 then (z * (2 : Int32)) else z) < n6 then ((if z < n6 then (z * (2 : Int32)) else z) * (2 : Int32)) else (if z < n6 then (z * (2 : Int32)) else z)) < n6 then ((if (if z < n6 then (z * (2 : Int32)) else z) < n6 then ((if z < n6 then (z * (2 : Int32)) else z) * (2 : Int32)) else (if z < n6 then (z * (2 : Int32)) else z)) * (2 : Int32)) else (if (if z < n6 then (z * (2 : Int32)) else z) < n6 then ((if z < n6 then (z * (2 : Int32)) else z) * (2 : Int32)) else (if z < n6 then (z * (2 : Int32)) else z)))), .unset] [])) t → Steps p.tables e below (s₁.setTop (entryFrame m #[(.int p0), (.int p1), (.int p2), (.int p3), (.int p4), (.int p5)] maxLocals)) t := fun t k => k462 t (by
      by_cases hq463 : (if (if z < n6 then (z * (2 : Int32)) else z) < n6 then ((if z < n6 then (z * (2 : Int32)) else z) * (2 : Int32)) else (if z < n6 then (z * (2 : Int32)) else z)) < n6
      · simp only [if_pos hq463] at k
        show Steps p.tables e below (T451.setTop (mkF m 165 #[.val (.int p0), .val (.int p1), .val (.int p2), .val (.int p3), .val (.int p4), .val (.int p5), .val (.int z), .val (.int n6), .val (.ref b165), .val (.ref b189), .val (.int (if (if z < n6 then (z * (2 : Int32)) else z) < n6 then ((if z < n6 then (z * (2 : Int32)) else z) * (2 : Int32)) else (if z < n6 then (z * (2 : Int32)) else z))), .unset] [(.int (if (if z < n6 then (z * (2 : Int32)) else z) < n6 then ((if z < n6 then (z * (2 : Int32)) else z) * (2 : Int32)) else (if z < n6 then (z * (2 : Int32)) else z))), (.int n6)])) _
        refine XS.icmpNo XH451.here hx rfl (hb hby at_165) rfl (tlt hq463).2.2.2 ?_
        show Steps p.tables e below (T451.setTop (mkF m 168 #[.val (.int p0), .val (.int p1), .val (.int p2), .val (.int p3), .val (.int p4), .val (.int p5), .val (.int z), .val (.int n6), .val (.ref b165), .val (.ref b189), .val (.int (if (if z < n6 then (z * (2 : Int32)) else z) < n6 then ((if z < n6 then (z * (2 : Int32)) else z) * (2 : Int32)) else (if z < n6 then (z * (2 : Int32)) else z))), .unset] [])) _
        refine XS.iload XH451.here hx rfl (hb hby at_168) rfl ?_
        show Steps p.tables e below (T451.setTop (mkF m 170 #[.val (.int p0), .val (.int p1), .val (.int p2), .val (.int p3), .val (.int p4), .val (.int p5), .val (.int z), .val (.int n6), .val (.ref b165), .val (.ref b189), .val (.int (if (if z < n6 then (z * (2 : Int32)) else z) < n6 then ((if z < n6 then (z * (2 : Int32)) else z) * (2 : Int32)) else (if z < n6 then (z * (2 : Int32)) else z))), .unset] [(.int (if (if z < n6 then (z * (2 : Int32)) else z) < n6 then ((if z < n6 then (z * (2 : Int32)) else z) * (2 : Int32)) else (if z < n6 then (z * (2 : Int32)) else z)))])) _
        refine XS.iconst XH451.here hx rfl (hb hby at_170) ?_
        show Steps p.tables e below (T451.setTop (mkF m 171 #[.val (.int p0), .val (.int p1), .val (.int p2), .val (.int p3), .val (.int p4), .val (.int p5), .val (.int z), .val (.int n6), .val (.ref b165), .val (.ref b189), .val (.int (if (if z < n6 then (z * (2 : Int32)) else z) < n6 then ((if z < n6 then (z * (2 : Int32)) else z) * (2 : Int32)) else (if z < n6 then (z * (2 : Int32)) else z))), .unset] [(.int (2 : Int32)), (.int (if (if z < n6 then (z * (2 : Int32)) else z) < n6 then ((if z < n6 then (z * (2 : Int32)) else z) * (2 : Int32)) else (if z < n6 then (z * (2 : Int32)) else z)))])) _
        refine XS.imul XH451.here hx rfl (hb hby at_171) rfl ?_
        show Steps p.tables e below (T451.setTop (mkF m 172 #[.val (.int p0), .val (.int p1), .val (.int p2), .val (.int p3), .val (.int p4), .val (.int p5), .val (.int z), .val (.int n6), .val (.ref b165), .val (.ref b189), .val (.int (if (if z < n6 then (z * (2 : Int32)) else z) < n6 then ((if z < n6 then (z * (2 : Int32)) else z) * (2 : Int32)) else (if z < n6 then (z * (2 : Int32)) else z))), .unset] [(.int ((if (if z < n6 then (z * (2 : Int32)) else z) < n6 then ((if z < n6 then (z * (2 : Int32)) else z) * (2 : Int32)) else (if z < n6 then (z * (2 : Int32)) else z)) * (2 : Int32)))])) _
        refine XS.istore XH451.here hx rfl (hb hby at_172) rfl (l' := #[.val (.int p0), .val (.int p1), .val (.int p2), .val (.int p3), .val (.int p4), .val (.int p5), .val (.int z), .val (.int n6), .val (.ref b165), .val (.ref b189), .val (.int ((if (if z < n6 then (z * (2 : Int32)) else z) < n6 then ((if z < n6 then (z * (2 : Int32)) else z) * (2 : Int32)) else (if z < n6 then (z * (2 : Int32)) else z)) * (2 : Int32))), .unset]) rfl ?_
        exact k
      · simp only [if_neg hq463] at k
        show Steps p.tables e below (T451.setTop (mkF m 165 #[.val (.int p0), .val (.int p1), .val (.int p2), .val (.int p3), .val (.int p4), .val (.int p5), .val (.int z), .val (.int n6), .val (.ref b165), .val (.ref b189), .val (.int (if (if z < n6 then (z * (2 : Int32)) else z) < n6 then ((if z < n6 then (z * (2 : Int32)) else z) * (2 : Int32)) else (if z < n6 then (z * (2 : Int32)) else z))), .unset] [(.int (if (if z < n6 then (z * (2 : Int32)) else z) < n6 then ((if z < n6 then (z * (2 : Int32)) else z) * (2 : Int32)) else (if z < n6 then (z * (2 : Int32)) else z))), (.int n6)])) _
        refine XS.icmpYes XH451.here hx rfl (pc0 := 165) (pc' := 174) rfl (hb hby at_165) rfl (flt hq463).2.2.2 (by decide) (by decide) ?_
        exact k)
    obtain ⟨ec, hec⟩ : ∃ zz_, zz_ = (if (if (if z < n6 then (z * (2 : Int32)) else z) < n6 then ((if z < n6 then (z * (2 : Int32)) else z) * (2 : Int32)) else (if z < n6 then (z * (2 : Int32)) else z)) < n6 then ((if (if z < n6 then (z * (2 : Int32)) else z) < n6 then ((if z < n6 then (z * (2 : Int32)) else z) * (2 : Int32)) else (if z < n6 then (z * (2 : Int32)) else z)) * (2 : Int32)) else (if (if z < n6 then (z * (2 : Int32)) else z) < n6 then ((if z < n6 then (z * (2 : Int32)) else z) * (2 : Int32)) else (if z < n6 then (z * (2 : Int32)) else z))) := ⟨_, rfl⟩
    rw [← hec] at k464
    have k465 : ∀ t, Steps p.tables e below (T451.setTop (mkF m 176 #[.val (.int p0), .val (.int p1), .val (.int p2), .val (.int p3), .val (.int p4), .val (.int p5), .val (.int z), .val (.int n6), .val (.ref b165), .val (.ref b189), .val (.int ec), .unset] [(.ref b189)])) t → Steps p.tables e below (s₁.setTop (entryFrame m #[(.int p0), (.int p1), (.int p2), (.int p3), (.int p4), (.int p5)] maxLocals)) t := fun t k => k464 t (by
      show Steps p.tables e below (T451.setTop (mkF m 174 #[.val (.int p0), .val (.int p1), .val (.int p2), .val (.int p3), .val (.int p4), .val (.int p5), .val (.int z), .val (.int n6), .val (.ref b165), .val (.ref b189), .val (.int ec), .unset] [])) _
      refine XS.aload XH451.here hx rfl (hb hby at_174) rfl rfl ?_
      exact k)
    obtain ⟨cq466, kq466, q466a, q466b, q466c⟩ := isOf hZ rfl F454
    obtain ⟨_, _, ⟨T466, L466, kc466, ks466⟩, -, X466, ⟨Lc466, hQ466, l466, y466, z466⟩, st466⟩ := XH451.virtualBack hx (y := (⟨"com/example/wegweiser/wegweiser/index/ByteSink", "length", "()I"⟩ : MethodName)) (z := (⟨"com/example/wegweiser/wegweiser/index/ByteSink", "length", "()I"⟩ : MethodName)) hown (mvT hZ (hw _ (List.mem_of_getElem? (i := 38) rfl))) (mvT hZ (hw _ (List.mem_of_getElem? (i := 39) rfl))) (notFace_of_selects (args := #[]) (mvT hZ (hw _ (List.mem_of_getElem? (i := 41) rfl)))) (mvT hZ (hw _ (List.mem_of_getElem? (i := 41) rfl))) (mvT hZ (hw _ (List.mem_of_getElem? (i := 40) rfl))) (by decide) (backOf (W := 0) (rm7 l Z a0 hw [] b189 (((((0 : Int32) + (1 : Int32)) + (1 : Int32)) + (1 : Int32)) + (1 : Int32)) T451.heap n0 Z452 Fl451) hZ (hw _ (List.mem_of_getElem? (i := 42) rfl)) (hw _ (List.mem_of_getElem? (i := 4) rfl)) (by decide) (by decide)) q466a q466c (g := (mkF m 176 #[.val (.int p0), .val (.int p1), .val (.int p2), .val (.int p3), .val (.int p4), .val (.int p5), .val (.int z), .val (.int n6), .val (.ref b165), .val (.ref b189), .val (.int ec), .unset] [(.ref b189)])) rfl (by rw [hml]; rfl) (Steps.refl _) (argsL := []) (rest := []) (lenOf pd_4 rfl) rfl (by show 2 * 0 + _ ≤ _; exact Nat.le_of_eq rfl) (hb hby at_176) (fun _ _ => ⟨rfl, rfl, (by decide : 7 + 0 ≤ _), (by decide : 75 + 0 ≤ _)⟩)
    dsimp only [Pt.U, Pt.locs, Pt.cells, Pt.slots] at X466 l466 y466 z466 st466 hQ466
    subst l466 y466 z466
    obtain ⟨rfl, Nq466, eq466⟩ := hQ466
    have N466 := Fr.app NH451 Nq466
    obtain ⟨LH466, XH466, NH466⟩ := own_hide X466 N466
    clear X466 N466
    have k467 : ∀ t, Steps p.tables e below (T466.setTop (mkF m 179 #[.val (.int p0), .val (.int p1), .val (.int p2), .val (.int p3), .val (.int p4), .val (.int p5), .val (.int z), .val (.int n6), .val (.ref b165), .val (.ref b189), .val (.int ec), .unset] [(.int (((((0 : Int32) + (1 : Int32)) + (1 : Int32)) + (1 : Int32)) + (1 : Int32)))])) t → Steps p.tables e below (s₁.setTop (entryFrame m #[(.int p0), (.int p1), (.int p2), (.int p3), (.int p4), (.int p5)] maxLocals)) t := fun t k => k465 t (st466.trans k)
    have k468 : ∀ t, Steps p.tables e below (T466.setTop (mkF m 188 #[.val (.int p0), .val (.int p1), .val (.int p2), .val (.int p3), .val (.int p4), .val (.int p5), .val (.int z), .val (.int n6), .val (.ref b165), .val (.ref b189), .val (.int ec), .unset] [(.ref b189)])) t → Steps p.tables e below (s₁.setTop (entryFrame m #[(.int p0), (.int p1), (.int p2), (.int p3), (.int p4), (.int p5)] maxLocals)) t := fun t k => k467 t (by
      show Steps p.tables e below (T466.setTop (mkF m 179 #[.val (.int p0), .val (.int p1), .val (.int p2), .val (.int p3), .val (.int p4), .val (.int p5), .val (.int z), .val (.int n6), .val (.ref b165), .val (.ref b189), .val (.int ec), .unset] [(.int (((((0 : Int32) + (1 : Int32)) + (1 : Int32)) + (1 : Int32)) + (1 : Int32)))])) _
      refine XS.iload XH466.here hx rfl (hb hby at_179) rfl ?_
      show Steps p.tables e below (T466.setTop (mkF m 181 #[.val (.int p0), .val (.int p1), .val (.int p2), .val (.int p3), .val (.int p4), .val (.int p5), .val (.int z), .val (.int n6), .val (.ref b165), .val (.ref b189), .val (.int ec), .unset] [(.int n6), (.int (((((0 : Int32) + (1 : Int32)) + (1 : Int32)) + (1 : Int32)) + (1 : Int32)))])) _
      refine XS.icmpYes XH466.here hx rfl (pc0 := 181) (pc' := 186) rfl (hb hby at_181) rfl (teq (by first | (rw [hn]; done) | (rw [hn]; decide))).1 (by decide) (by decide) ?_
      show Steps p.tables e below (T466.setTop (mkF m 186 #[.val (.int p0), .val (.int p1), .val (.int p2), .val (.int p3), .val (.int p4), .val (.int p5), .val (.int z), .val (.int n6), .val (.ref b165), .val (.ref b189), .val (.int ec), .unset] [])) _
      refine XS.aload XH466.here hx rfl (hb hby at_186) rfl rfl ?_
      exact k)
    obtain ⟨cq469, kq469, q469a, q469b, q469c⟩ := isOf hZ eq466 F454
    obtain ⟨_, _, ⟨T469, L469, kc469, ks469⟩, -, X469, ⟨Lc469, hQ469, l469, y469, z469⟩, st469⟩ := XH466.virtualBack hx (y := (⟨"com/example/wegweiser/wegweiser/index/ByteSink", "capacity", "()I"⟩ : MethodName)) (z := (⟨"com/example/wegweiser/wegweiser/index/ByteSink", "capacity", "()I"⟩ : MethodName)) hown (mvT hZ (hw _ (List.mem_of_getElem? (i := 43) rfl))) (mvT hZ (hw _ (List.mem_of_getElem? (i := 44) rfl))) (notFace_of_selects (args := #[]) (mvT hZ (hw _ (List.mem_of_getElem? (i := 46) rfl)))) (mvT hZ (hw _ (List.mem_of_getElem? (i := 46) rfl))) (mvT hZ (hw _ (List.mem_of_getElem? (i := 45) rfl))) (by decide) (backOf (W := 0) (rm8 l Z a0 hw [] b189 b451 kb451 (own_cap ((((0 : Int32) + (1 : Int32)) + (1 : Int32)) + (1 : Int32)) (own_cap (((0 : Int32) + (1 : Int32)) + (1 : Int32)) (own_cap ((0 : Int32) + (1 : Int32)) (own_cap (0 : Int32) z)))) (((([] ++ [(.int (own_b p2))]) ++ [(.int (own_b p3))]) ++ [(.int (own_b p4))]) ++ [(.int (own_b p5))]) T451.heap n0 Z452 Fb451 Vx451) hZ (hw _ (List.mem_of_getElem? (i := 47) rfl)) (hw _ (List.mem_of_getElem? (i := 4) rfl)) (by decide) (by decide)) q469a q469c (g := (mkF m 188 #[.val (.int p0), .val (.int p1), .val (.int p2), .val (.int p3), .val (.int p4), .val (.int p5), .val (.int z), .val (.int n6), .val (.ref b165), .val (.ref b189), .val (.int ec), .unset] [(.ref b189)])) rfl (by rw [hml]; rfl) (Steps.refl _) (argsL := []) (rest := []) (lenOf pd_4 rfl) rfl (by show 2 * 0 + _ ≤ _; exact Nat.le_of_eq rfl) (hb hby at_188) (fun _ _ => ⟨rfl, eq466, (by decide : 7 + 0 ≤ _), (by decide : 75 + 0 ≤ _)⟩)
    dsimp only [Pt.U, Pt.locs, Pt.cells, Pt.slots] at X469 l469 y469 z469 st469 hQ469
    subst l469 y469 z469
    obtain ⟨rfl, Nq469, eq469⟩ := hQ469
    have N469 := Fr.app NH466 Nq469
    obtain ⟨LH469, XH469, NH469⟩ := own_hide X469 N469
    clear X469 N469
    have k470 : ∀ t, Steps p.tables e below (T469.setTop (mkF m 191 #[.val (.int p0), .val (.int p1), .val (.int p2), .val (.int p3), .val (.int p4), .val (.int p5), .val (.int z), .val (.int n6), .val (.ref b165), .val (.ref b189), .val (.int ec), .unset] [(.int (own_cap ((((0 : Int32) + (1 : Int32)) + (1 : Int32)) + (1 : Int32)) (own_cap (((0 : Int32) + (1 : Int32)) + (1 : Int32)) (own_cap ((0 : Int32) + (1 : Int32)) (own_cap (0 : Int32) z)))))])) t → Steps p.tables e below (s₁.setTop (entryFrame m #[(.int p0), (.int p1), (.int p2), (.int p3), (.int p4), (.int p5)] maxLocals)) t := fun t k => k468 t (st469.trans k)
    have k471 : ∀ t, Steps p.tables e below (T469.setTop (mkF m 200 #[.val (.int p0), .val (.int p1), .val (.int p2), .val (.int p3), .val (.int p4), .val (.int p5), .val (.int z), .val (.int n6), .val (.ref b165), .val (.ref b189), .val (.int ec), .unset] [(.ref b189)])) t → Steps p.tables e below (s₁.setTop (entryFrame m #[(.int p0), (.int p1), (.int p2), (.int p3), (.int p4), (.int p5)] maxLocals)) t := fun t k => k470 t (by
      show Steps p.tables e below (T469.setTop (mkF m 191 #[.val (.int p0), .val (.int p1), .val (.int p2), .val (.int p3), .val (.int p4), .val (.int p5), .val (.int z), .val (.int n6), .val (.ref b165), .val (.ref b189), .val (.int ec), .unset] [(.int (own_cap ((((0 : Int32) + (1 : Int32)) + (1 : Int32)) + (1 : Int32)) (own_cap (((0 : Int32) + (1 : Int32)) + (1 : Int32)) (own_cap ((0 : Int32) + (1 : Int32)) (own_cap (0 : Int32) z)))))])) _
      refine XS.iload XH469.here hx rfl (hb hby at_191) rfl ?_
      show Steps p.tables e below (T469.setTop (mkF m 193 #[.val (.int p0), .val (.int p1), .val (.int p2), .val (.int p3), .val (.int p4), .val (.int p5), .val (.int z), .val (.int n6), .val (.ref b165), .val (.ref b189), .val (.int ec), .unset] [(.int ec), (.int (own_cap ((((0 : Int32) + (1 : Int32)) + (1 : Int32)) + (1 : Int32)) (own_cap (((0 : Int32) + (1 : Int32)) + (1 : Int32)) (own_cap ((0 : Int32) + (1 : Int32)) (own_cap (0 : Int32) z)))))])) _
      refine XS.icmpYes XH469.here hx rfl (pc0 := 193) (pc' := 198) rfl (hb hby at_193) rfl (teq (by rw [hec, hn]; rcases hz with rfl | rfl | rfl | rfl <;> decide)).1 (by decide) (by decide) ?_
      show Steps p.tables e below (T469.setTop (mkF m 198 #[.val (.int p0), .val (.int p1), .val (.int p2), .val (.int p3), .val (.int p4), .val (.int p5), .val (.int z), .val (.int n6), .val (.ref b165), .val (.ref b189), .val (.int ec), .unset] [])) _
      refine XS.aload XH469.here hx rfl (hb hby at_198) rfl rfl ?_
      exact k)
    obtain ⟨cq472, kq472, q472a, q472b, q472c⟩ := isOf hZ eq469 F454
    obtain ⟨_, _, ⟨T472, L472, kc472, ks472⟩, -, X472, ⟨Lc472, hQ472, l472, y472, z472⟩, st472⟩ := XH469.virtualBack hx (y := (⟨"com/example/wegweiser/wegweiser/index/ByteSink", "bytes", "()[B"⟩ : MethodName)) (z := (⟨"com/example/wegweiser/wegweiser/index/ByteSink", "bytes", "()[B"⟩ : MethodName)) hown (mvT hZ (hw _ (List.mem_of_getElem? (i := 48) rfl))) (mvT hZ (hw _ (List.mem_of_getElem? (i := 49) rfl))) (notFace_of_selects (args := #[]) (mvT hZ (hw _ (List.mem_of_getElem? (i := 51) rfl)))) (mvT hZ (hw _ (List.mem_of_getElem? (i := 51) rfl))) (mvT hZ (hw _ (List.mem_of_getElem? (i := 50) rfl))) (by decide) (backOf (W := 0) (rm9 l Z a0 hw [] b189 b451 T451.heap n0 Z452 Fb451) hZ (hw _ (List.mem_of_getElem? (i := 52) rfl)) (hw _ (List.mem_of_getElem? (i := 4) rfl)) (by decide) (by decide)) q472a q472c (g := (mkF m 200 #[.val (.int p0), .val (.int p1), .val (.int p2), .val (.int p3), .val (.int p4), .val (.int p5), .val (.int z), .val (.int n6), .val (.ref b165), .val (.ref b189), .val (.int ec), .unset] [(.ref b189)])) rfl (by rw [hml]; rfl) (Steps.refl _) (argsL := []) (rest := []) (lenOf pd_5 rfl) rfl (by show 2 * 0 + _ ≤ _; exact Nat.le_of_eq rfl) (hb hby at_200) (fun _ _ => ⟨rfl, eq469, (by decide : 7 + 0 ≤ _), (by decide : 75 + 0 ≤ _)⟩)
    dsimp only [Pt.U, Pt.locs, Pt.cells, Pt.slots] at X472 l472 y472 z472 st472 hQ472
    subst l472 y472 z472
    obtain ⟨rfl, Nq472, eq472⟩ := hQ472
    have N472 := Fr.app NH469 Nq472
    obtain ⟨LH472, XH472, NH472⟩ := own_hide X472 N472
    clear X472 N472
    have k473 : ∀ t, Steps p.tables e below (T472.setTop (mkF m 203 #[.val (.int p0), .val (.int p1), .val (.int p2), .val (.int p3), .val (.int p4), .val (.int p5), .val (.int z), .val (.int n6), .val (.ref b165), .val (.ref b189), .val (.int ec), .unset] [(.ref b451)])) t → Steps p.tables e below (s₁.setTop (entryFrame m #[(.int p0), (.int p1), (.int p2), (.int p3), (.int p4), (.int p5)] maxLocals)) t := fun t k => k471 t (st472.trans k)
    have k475 : ∀ t, Steps p.tables e below (T472.setTop (mkF m 222 #[.val (.int p0), .val (.int p1), .val (.int p2), .val (.int p3), .val (.int p4), .val (.int p5), .val (.int z), .val (.int n6), .val (.ref b165), .val (.ref b189), .val (.int ec), .val (.ref b451)] [(.int (0 : Int32)), (.int n6), (.ref b165), (.ref b451)])) t → Steps p.tables e below (s₁.setTop (entryFrame m #[(.int p0), (.int p1), (.int p2), (.int p3), (.int p4), (.int p5)] maxLocals)) t := fun t k => k473 t (by
      show Steps p.tables e below (T472.setTop (mkF m 203 #[.val (.int p0), .val (.int p1), .val (.int p2), .val (.int p3), .val (.int p4), .val (.int p5), .val (.int z), .val (.int n6), .val (.ref b165), .val (.ref b189), .val (.int ec), .unset] [(.ref b451)])) _
      refine XS.astore XH472.here hx rfl (hb hby at_203) rfl rfl (l' := #[.val (.int p0), .val (.int p1), .val (.int p2), .val (.int p3), .val (.int p4), .val (.int p5), .val (.int z), .val (.int n6), .val (.ref b165), .val (.ref b189), .val (.int ec), .val (.ref b451)]) rfl ?_
      show Steps p.tables e below (T472.setTop (mkF m 205 #[.val (.int p0), .val (.int p1), .val (.int p2), .val (.int p3), .val (.int p4), .val (.int p5), .val (.int z), .val (.int n6), .val (.ref b165), .val (.ref b189), .val (.int ec), .val (.ref b451)] [])) _
      refine XS.aload XH472.here hx rfl (hb hby at_205) rfl rfl ?_
      show Steps p.tables e below (T472.setTop (mkF m 207 #[.val (.int p0), .val (.int p1), .val (.int p2), .val (.int p3), .val (.int p4), .val (.int p5), .val (.int z), .val (.int n6), .val (.ref b165), .val (.ref b189), .val (.int ec), .val (.ref b451)] [(.ref b451)])) _
      obtain ⟨clq474, Arq474, -, Sq474, Nq474, -, -⟩ := id Vx451
      refine XH472.arraylength hx (by rw [eq472]; exact Arq474.1) (State.isArrayOf_alike hZ.alike Arq474.2.1) (g := (mkF m 207 #[.val (.int p0), .val (.int p1), .val (.int p2), .val (.int p3), .val (.int p4), .val (.int p5), .val (.int z), .val (.int n6), .val (.ref b165), .val (.ref b189), .val (.int ec), .val (.ref b451)] [(.ref b451)])) rfl rfl (hb hby at_207) _ ?_
      rw [len_of Sq474 Nq474]
      show Steps p.tables e below (T472.setTop (mkF m 208 #[.val (.int p0), .val (.int p1), .val (.int p2), .val (.int p3), .val (.int p4), .val (.int p5), .val (.int z), .val (.int n6), .val (.ref b165), .val (.ref b189), .val (.int ec), .val (.ref b451)] [(.int (own_cap ((((0 : Int32) + (1 : Int32)) + (1 : Int32)) + (1 : Int32)) (own_cap (((0 : Int32) + (1 : Int32)) + (1 : Int32)) (own_cap ((0 : Int32) + (1 : Int32)) (own_cap (0 : Int32) z)))))])) _
      refine XS.iload XH472.here hx rfl (hb hby at_208) rfl ?_
      show Steps p.tables e below (T472.setTop (mkF m 210 #[.val (.int p0), .val (.int p1), .val (.int p2), .val (.int p3), .val (.int p4), .val (.int p5), .val (.int z), .val (.int n6), .val (.ref b165), .val (.ref b189), .val (.int ec), .val (.ref b451)] [(.int ec), (.int (own_cap ((((0 : Int32) + (1 : Int32)) + (1 : Int32)) + (1 : Int32)) (own_cap (((0 : Int32) + (1 : Int32)) + (1 : Int32)) (own_cap ((0 : Int32) + (1 : Int32)) (own_cap (0 : Int32) z)))))])) _
      refine XS.icmpYes XH472.here hx rfl (pc0 := 210) (pc' := 215) rfl (hb hby at_210) rfl (teq (by rw [hec, hn]; rcases hz with rfl | rfl | rfl | rfl <;> decide)).1 (by decide) (by decide) ?_
      show Steps p.tables e below (T472.setTop (mkF m 215 #[.val (.int p0), .val (.int p1), .val (.int p2), .val (.int p3), .val (.int p4), .val (.int p5), .val (.int z), .val (.int n6), .val (.ref b165), .val (.ref b189), .val (.int ec), .val (.ref b451)] [])) _
      refine XS.aload XH472.here hx rfl (hb hby at_215) rfl rfl ?_
      show Steps p.tables e below (T472.setTop (mkF m 217 #[.val (.int p0), .val (.int p1), .val (.int p2), .val (.int p3), .val (.int p4), .val (.int p5), .val (.int z), .val (.int n6), .val (.ref b165), .val (.ref b189), .val (.int ec), .val (.ref b451)] [(.ref b451)])) _
      refine XS.aload XH472.here hx rfl (hb hby at_217) rfl rfl ?_
      show Steps p.tables e below (T472.setTop (mkF m 219 #[.val (.int p0), .val (.int p1), .val (.int p2), .val (.int p3), .val (.int p4), .val (.int p5), .val (.int z), .val (.int n6), .val (.ref b165), .val (.ref b189), .val (.int ec), .val (.ref b451)] [(.ref b165), (.ref b451)])) _
      refine XS.iload XH472.here hx rfl (hb hby at_219) rfl ?_
      show Steps p.tables e below (T472.setTop (mkF m 221 #[.val (.int p0), .val (.int p1), .val (.int p2), .val (.int p3), .val (.int p4), .val (.int p5), .val (.int z), .val (.int n6), .val (.ref b165), .val (.ref b189), .val (.int ec), .val (.ref b451)] [(.int n6), (.ref b165), (.ref b451)])) _
      refine XS.iconst XH472.here hx rfl (hb hby at_221) ?_
      exact k)
    obtain ⟨_, _, ⟨T476, L476, kc476, ks476⟩, -, X476, ⟨Lc476, hQ476, l476, y476, z476⟩, st476⟩ := Jvm.LawKit.callS XH472 hx (y := (⟨"com/example/wegweiser/wegweiser/index/ByteSinkWritePinLaw", "at", "([B[III)Z"⟩ : MethodName)) hown (mvT hZ (hw _ (List.mem_of_getElem? (i := 53) rfl))) (mvT hZ (hw _ (List.mem_of_getElem? (i := 54) rfl))) (mvT hZ (hw _ (List.mem_of_getElem? (i := 55) rfl))) (mvT hZ (hw _ (List.mem_of_getElem? (i := 56) rfl))) (by decide) (backOf (W := 0) (rm10 l Z a0 hw [] b451 b165 n6 (0 : Int32) kb451 (own_cap ((((0 : Int32) + (1 : Int32)) + (1 : Int32)) + (1 : Int32)) (own_cap (((0 : Int32) + (1 : Int32)) + (1 : Int32)) (own_cap ((0 : Int32) + (1 : Int32)) (own_cap (0 : Int32) z)))) (((([] ++ [(.int (own_b p2))]) ++ [(.int (own_b p3))]) ++ [(.int (own_b p4))]) ++ [(.int (own_b p5))]) c165 [(.int p2), (.int p3), (.int p4), (.int p5), (.int (p2 ^^^ p4))] (own_b p2) p2 T451.heap n0 Z452 Vx451 F453 (by decide) rfl (fun _ => ⟨⟨by decide, by decide⟩, rfl⟩) (fun _ => rfl) (fun h => absurd h (by rw [hn]; decide))) hZ (hw _ (List.mem_of_getElem? (i := 56) rfl)) (hw _ (List.mem_of_getElem? (i := 55) rfl)) (by decide) (by decide)) (g := (mkF m 222 #[.val (.int p0), .val (.int p1), .val (.int p2), .val (.int p3), .val (.int p4), .val (.int p5), .val (.int z), .val (.int n6), .val (.ref b165), .val (.ref b189), .val (.int ec), .val (.ref b451)] [(.int (0 : Int32)), (.int n6), (.ref b165), (.ref b451)])) rfl (by rw [hml]; rfl) (argsL := [(.ref b451), (.ref b165), (.int n6), (.int (0 : Int32))]) (rest := []) (lenOf pd_6 rfl) rfl (by show 2 * 0 + _ ≤ _; exact Nat.le_of_eq rfl) (hb hby at_222) (fun _ _ => ⟨rfl, eq472, (by decide : 7 + 0 ≤ _), (by decide : 75 + 0 ≤ _)⟩)
    dsimp only [Pt.U, Pt.locs, Pt.cells, Pt.slots] at X476 l476 y476 z476 st476 hQ476
    subst l476 y476 z476
    obtain ⟨rfl, Nq476, eq476⟩ := hQ476
    have N476 := Fr.app NH472 Nq476
    obtain ⟨LH476, XH476, NH476⟩ := own_hide X476 N476
    clear X476 N476
    have k477 : ∀ t, Steps p.tables e below (T476.setTop (mkF m 225 #[.val (.int p0), .val (.int p1), .val (.int p2), .val (.int p3), .val (.int p4), .val (.int p5), .val (.int z), .val (.int n6), .val (.ref b165), .val (.ref b189), .val (.int ec), .val (.ref b451)] [(.int (1 : Int32))])) t → Steps p.tables e below (s₁.setTop (entryFrame m #[(.int p0), (.int p1), (.int p2), (.int p3), (.int p4), (.int p5)] maxLocals)) t := fun t k => k475 t (st476 t k)
    have k478 : ∀ t, Steps p.tables e below (T476.setTop (mkF m 235 #[.val (.int p0), .val (.int p1), .val (.int p2), .val (.int p3), .val (.int p4), .val (.int p5), .val (.int z), .val (.int n6), .val (.ref b165), .val (.ref b189), .val (.int ec), .val (.ref b451)] [(.int (1 : Int32)), (.int n6), (.ref b165), (.ref b451)])) t → Steps p.tables e below (s₁.setTop (entryFrame m #[(.int p0), (.int p1), (.int p2), (.int p3), (.int p4), (.int p5)] maxLocals)) t := fun t k => k477 t (by
      show Steps p.tables e below (T476.setTop (mkF m 225 #[.val (.int p0), .val (.int p1), .val (.int p2), .val (.int p3), .val (.int p4), .val (.int p5), .val (.int z), .val (.int n6), .val (.ref b165), .val (.ref b189), .val (.int ec), .val (.ref b451)] [(.int (1 : Int32))])) _
      refine XS.ifNo XH476.here hx rfl (hb hby at_225) rfl ((if0 _ _).trans (feq (by decide : ¬ ((1 : Int32) = (0 : Int32)))).1) ?_
      show Steps p.tables e below (T476.setTop (mkF m 228 #[.val (.int p0), .val (.int p1), .val (.int p2), .val (.int p3), .val (.int p4), .val (.int p5), .val (.int z), .val (.int n6), .val (.ref b165), .val (.ref b189), .val (.int ec), .val (.ref b451)] [])) _
      refine XS.aload XH476.here hx rfl (hb hby at_228) rfl rfl ?_
      show Steps p.tables e below (T476.setTop (mkF m 230 #[.val (.int p0), .val (.int p1), .val (.int p2), .val (.int p3), .val (.int p4), .val (.int p5), .val (.int z), .val (.int n6), .val (.ref b165), .val (.ref b189), .val (.int ec), .val (.ref b451)] [(.ref b451)])) _
      refine XS.aload XH476.here hx rfl (hb hby at_230) rfl rfl ?_
      show Steps p.tables e below (T476.setTop (mkF m 232 #[.val (.int p0), .val (.int p1), .val (.int p2), .val (.int p3), .val (.int p4), .val (.int p5), .val (.int z), .val (.int n6), .val (.ref b165), .val (.ref b189), .val (.int ec), .val (.ref b451)] [(.ref b165), (.ref b451)])) _
      refine XS.iload XH476.here hx rfl (hb hby at_232) rfl ?_
      show Steps p.tables e below (T476.setTop (mkF m 234 #[.val (.int p0), .val (.int p1), .val (.int p2), .val (.int p3), .val (.int p4), .val (.int p5), .val (.int z), .val (.int n6), .val (.ref b165), .val (.ref b189), .val (.int ec), .val (.ref b451)] [(.int n6), (.ref b165), (.ref b451)])) _
      refine XS.iconst XH476.here hx rfl (hb hby at_234) ?_
      exact k)
    obtain ⟨_, _, ⟨T479, L479, kc479, ks479⟩, -, X479, ⟨Lc479, hQ479, l479, y479, z479⟩, st479⟩ := Jvm.LawKit.callS XH476 hx (y := (⟨"com/example/wegweiser/wegweiser/index/ByteSinkWritePinLaw", "at", "([B[III)Z"⟩ : MethodName)) hown (mvT hZ (hw _ (List.mem_of_getElem? (i := 53) rfl))) (mvT hZ (hw _ (List.mem_of_getElem? (i := 54) rfl))) (mvT hZ (hw _ (List.mem_of_getElem? (i := 55) rfl))) (mvT hZ (hw _ (List.mem_of_getElem? (i := 56) rfl))) (by decide) (backOf (W := 0) (rm10 l Z a0 hw [] b451 b165 n6 (1 : Int32) kb451 (own_cap ((((0 : Int32) + (1 : Int32)) + (1 : Int32)) + (1 : Int32)) (own_cap (((0 : Int32) + (1 : Int32)) + (1 : Int32)) (own_cap ((0 : Int32) + (1 : Int32)) (own_cap (0 : Int32) z)))) (((([] ++ [(.int (own_b p2))]) ++ [(.int (own_b p3))]) ++ [(.int (own_b p4))]) ++ [(.int (own_b p5))]) c165 [(.int p2), (.int p3), (.int p4), (.int p5), (.int (p2 ^^^ p4))] (own_b p3) p3 T451.heap n0 Z452 Vx451 F453 (by decide) rfl (fun _ => ⟨⟨by decide, by decide⟩, rfl⟩) (fun _ => rfl) (fun h => absurd h (by rw [hn]; decide))) hZ (hw _ (List.mem_of_getElem? (i := 56) rfl)) (hw _ (List.mem_of_getElem? (i := 55) rfl)) (by decide) (by decide)) (g := (mkF m 235 #[.val (.int p0), .val (.int p1), .val (.int p2), .val (.int p3), .val (.int p4), .val (.int p5), .val (.int z), .val (.int n6), .val (.ref b165), .val (.ref b189), .val (.int ec), .val (.ref b451)] [(.int (1 : Int32)), (.int n6), (.ref b165), (.ref b451)])) rfl (by rw [hml]; rfl) (argsL := [(.ref b451), (.ref b165), (.int n6), (.int (1 : Int32))]) (rest := []) (lenOf pd_6 rfl) rfl (by show 2 * 0 + _ ≤ _; exact Nat.le_of_eq rfl) (hb hby at_235) (fun _ _ => ⟨rfl, eq476, (by decide : 7 + 0 ≤ _), (by decide : 75 + 0 ≤ _)⟩)
    dsimp only [Pt.U, Pt.locs, Pt.cells, Pt.slots] at X479 l479 y479 z479 st479 hQ479
    subst l479 y479 z479
    obtain ⟨rfl, Nq479, eq479⟩ := hQ479
    have N479 := Fr.app NH476 Nq479
    obtain ⟨LH479, XH479, NH479⟩ := own_hide X479 N479
    clear X479 N479
    have k480 : ∀ t, Steps p.tables e below (T479.setTop (mkF m 238 #[.val (.int p0), .val (.int p1), .val (.int p2), .val (.int p3), .val (.int p4), .val (.int p5), .val (.int z), .val (.int n6), .val (.ref b165), .val (.ref b189), .val (.int ec), .val (.ref b451)] [(.int (1 : Int32))])) t → Steps p.tables e below (s₁.setTop (entryFrame m #[(.int p0), (.int p1), (.int p2), (.int p3), (.int p4), (.int p5)] maxLocals)) t := fun t k => k478 t (st479 t k)
    have k481 : ∀ t, Steps p.tables e below (T479.setTop (mkF m 248 #[.val (.int p0), .val (.int p1), .val (.int p2), .val (.int p3), .val (.int p4), .val (.int p5), .val (.int z), .val (.int n6), .val (.ref b165), .val (.ref b189), .val (.int ec), .val (.ref b451)] [(.int (2 : Int32)), (.int n6), (.ref b165), (.ref b451)])) t → Steps p.tables e below (s₁.setTop (entryFrame m #[(.int p0), (.int p1), (.int p2), (.int p3), (.int p4), (.int p5)] maxLocals)) t := fun t k => k480 t (by
      show Steps p.tables e below (T479.setTop (mkF m 238 #[.val (.int p0), .val (.int p1), .val (.int p2), .val (.int p3), .val (.int p4), .val (.int p5), .val (.int z), .val (.int n6), .val (.ref b165), .val (.ref b189), .val (.int ec), .val (.ref b451)] [(.int (1 : Int32))])) _
      refine XS.ifNo XH479.here hx rfl (hb hby at_238) rfl ((if0 _ _).trans (feq (by decide : ¬ ((1 : Int32) = (0 : Int32)))).1) ?_
      show Steps p.tables e below (T479.setTop (mkF m 241 #[.val (.int p0), .val (.int p1), .val (.int p2), .val (.int p3), .val (.int p4), .val (.int p5), .val (.int z), .val (.int n6), .val (.ref b165), .val (.ref b189), .val (.int ec), .val (.ref b451)] [])) _
      refine XS.aload XH479.here hx rfl (hb hby at_241) rfl rfl ?_
      show Steps p.tables e below (T479.setTop (mkF m 243 #[.val (.int p0), .val (.int p1), .val (.int p2), .val (.int p3), .val (.int p4), .val (.int p5), .val (.int z), .val (.int n6), .val (.ref b165), .val (.ref b189), .val (.int ec), .val (.ref b451)] [(.ref b451)])) _
      refine XS.aload XH479.here hx rfl (hb hby at_243) rfl rfl ?_
      show Steps p.tables e below (T479.setTop (mkF m 245 #[.val (.int p0), .val (.int p1), .val (.int p2), .val (.int p3), .val (.int p4), .val (.int p5), .val (.int z), .val (.int n6), .val (.ref b165), .val (.ref b189), .val (.int ec), .val (.ref b451)] [(.ref b165), (.ref b451)])) _
      refine XS.iload XH479.here hx rfl (hb hby at_245) rfl ?_
      show Steps p.tables e below (T479.setTop (mkF m 247 #[.val (.int p0), .val (.int p1), .val (.int p2), .val (.int p3), .val (.int p4), .val (.int p5), .val (.int z), .val (.int n6), .val (.ref b165), .val (.ref b189), .val (.int ec), .val (.ref b451)] [(.int n6), (.ref b165), (.ref b451)])) _
      refine XS.iconst XH479.here hx rfl (hb hby at_247) ?_
      exact k)
    obtain ⟨_, _, ⟨T482, L482, kc482, ks482⟩, -, X482, ⟨Lc482, hQ482, l482, y482, z482⟩, st482⟩ := Jvm.LawKit.callS XH479 hx (y := (⟨"com/example/wegweiser/wegweiser/index/ByteSinkWritePinLaw", "at", "([B[III)Z"⟩ : MethodName)) hown (mvT hZ (hw _ (List.mem_of_getElem? (i := 53) rfl))) (mvT hZ (hw _ (List.mem_of_getElem? (i := 54) rfl))) (mvT hZ (hw _ (List.mem_of_getElem? (i := 55) rfl))) (mvT hZ (hw _ (List.mem_of_getElem? (i := 56) rfl))) (by decide) (backOf (W := 0) (rm10 l Z a0 hw [] b451 b165 n6 (2 : Int32) kb451 (own_cap ((((0 : Int32) + (1 : Int32)) + (1 : Int32)) + (1 : Int32)) (own_cap (((0 : Int32) + (1 : Int32)) + (1 : Int32)) (own_cap ((0 : Int32) + (1 : Int32)) (own_cap (0 : Int32) z)))) (((([] ++ [(.int (own_b p2))]) ++ [(.int (own_b p3))]) ++ [(.int (own_b p4))]) ++ [(.int (own_b p5))]) c165 [(.int p2), (.int p3), (.int p4), (.int p5), (.int (p2 ^^^ p4))] (own_b p4) p4 T451.heap n0 Z452 Vx451 F453 (by decide) rfl (fun _ => ⟨⟨by decide, by decide⟩, rfl⟩) (fun _ => rfl) (fun h => absurd h (by rw [hn]; decide))) hZ (hw _ (List.mem_of_getElem? (i := 56) rfl)) (hw _ (List.mem_of_getElem? (i := 55) rfl)) (by decide) (by decide)) (g := (mkF m 248 #[.val (.int p0), .val (.int p1), .val (.int p2), .val (.int p3), .val (.int p4), .val (.int p5), .val (.int z), .val (.int n6), .val (.ref b165), .val (.ref b189), .val (.int ec), .val (.ref b451)] [(.int (2 : Int32)), (.int n6), (.ref b165), (.ref b451)])) rfl (by rw [hml]; rfl) (argsL := [(.ref b451), (.ref b165), (.int n6), (.int (2 : Int32))]) (rest := []) (lenOf pd_6 rfl) rfl (by show 2 * 0 + _ ≤ _; exact Nat.le_of_eq rfl) (hb hby at_248) (fun _ _ => ⟨rfl, eq479, (by decide : 7 + 0 ≤ _), (by decide : 75 + 0 ≤ _)⟩)
    dsimp only [Pt.U, Pt.locs, Pt.cells, Pt.slots] at X482 l482 y482 z482 st482 hQ482
    subst l482 y482 z482
    obtain ⟨rfl, Nq482, eq482⟩ := hQ482
    have N482 := Fr.app NH479 Nq482
    obtain ⟨LH482, XH482, NH482⟩ := own_hide X482 N482
    clear X482 N482
    have k483 : ∀ t, Steps p.tables e below (T482.setTop (mkF m 251 #[.val (.int p0), .val (.int p1), .val (.int p2), .val (.int p3), .val (.int p4), .val (.int p5), .val (.int z), .val (.int n6), .val (.ref b165), .val (.ref b189), .val (.int ec), .val (.ref b451)] [(.int (1 : Int32))])) t → Steps p.tables e below (s₁.setTop (entryFrame m #[(.int p0), (.int p1), (.int p2), (.int p3), (.int p4), (.int p5)] maxLocals)) t := fun t k => k481 t (st482 t k)
    have k484 : ∀ t, Steps p.tables e below (T482.setTop (mkF m 261 #[.val (.int p0), .val (.int p1), .val (.int p2), .val (.int p3), .val (.int p4), .val (.int p5), .val (.int z), .val (.int n6), .val (.ref b165), .val (.ref b189), .val (.int ec), .val (.ref b451)] [(.int (3 : Int32)), (.int n6), (.ref b165), (.ref b451)])) t → Steps p.tables e below (s₁.setTop (entryFrame m #[(.int p0), (.int p1), (.int p2), (.int p3), (.int p4), (.int p5)] maxLocals)) t := fun t k => k483 t (by
      show Steps p.tables e below (T482.setTop (mkF m 251 #[.val (.int p0), .val (.int p1), .val (.int p2), .val (.int p3), .val (.int p4), .val (.int p5), .val (.int z), .val (.int n6), .val (.ref b165), .val (.ref b189), .val (.int ec), .val (.ref b451)] [(.int (1 : Int32))])) _
      refine XS.ifNo XH482.here hx rfl (hb hby at_251) rfl ((if0 _ _).trans (feq (by decide : ¬ ((1 : Int32) = (0 : Int32)))).1) ?_
      show Steps p.tables e below (T482.setTop (mkF m 254 #[.val (.int p0), .val (.int p1), .val (.int p2), .val (.int p3), .val (.int p4), .val (.int p5), .val (.int z), .val (.int n6), .val (.ref b165), .val (.ref b189), .val (.int ec), .val (.ref b451)] [])) _
      refine XS.aload XH482.here hx rfl (hb hby at_254) rfl rfl ?_
      show Steps p.tables e below (T482.setTop (mkF m 256 #[.val (.int p0), .val (.int p1), .val (.int p2), .val (.int p3), .val (.int p4), .val (.int p5), .val (.int z), .val (.int n6), .val (.ref b165), .val (.ref b189), .val (.int ec), .val (.ref b451)] [(.ref b451)])) _
      refine XS.aload XH482.here hx rfl (hb hby at_256) rfl rfl ?_
      show Steps p.tables e below (T482.setTop (mkF m 258 #[.val (.int p0), .val (.int p1), .val (.int p2), .val (.int p3), .val (.int p4), .val (.int p5), .val (.int z), .val (.int n6), .val (.ref b165), .val (.ref b189), .val (.int ec), .val (.ref b451)] [(.ref b165), (.ref b451)])) _
      refine XS.iload XH482.here hx rfl (hb hby at_258) rfl ?_
      show Steps p.tables e below (T482.setTop (mkF m 260 #[.val (.int p0), .val (.int p1), .val (.int p2), .val (.int p3), .val (.int p4), .val (.int p5), .val (.int z), .val (.int n6), .val (.ref b165), .val (.ref b189), .val (.int ec), .val (.ref b451)] [(.int n6), (.ref b165), (.ref b451)])) _
      refine XS.iconst XH482.here hx rfl (hb hby at_260) ?_
      exact k)
    obtain ⟨_, _, ⟨T485, L485, kc485, ks485⟩, -, X485, ⟨Lc485, hQ485, l485, y485, z485⟩, st485⟩ := Jvm.LawKit.callS XH482 hx (y := (⟨"com/example/wegweiser/wegweiser/index/ByteSinkWritePinLaw", "at", "([B[III)Z"⟩ : MethodName)) hown (mvT hZ (hw _ (List.mem_of_getElem? (i := 53) rfl))) (mvT hZ (hw _ (List.mem_of_getElem? (i := 54) rfl))) (mvT hZ (hw _ (List.mem_of_getElem? (i := 55) rfl))) (mvT hZ (hw _ (List.mem_of_getElem? (i := 56) rfl))) (by decide) (backOf (W := 0) (rm10 l Z a0 hw [] b451 b165 n6 (3 : Int32) kb451 (own_cap ((((0 : Int32) + (1 : Int32)) + (1 : Int32)) + (1 : Int32)) (own_cap (((0 : Int32) + (1 : Int32)) + (1 : Int32)) (own_cap ((0 : Int32) + (1 : Int32)) (own_cap (0 : Int32) z)))) (((([] ++ [(.int (own_b p2))]) ++ [(.int (own_b p3))]) ++ [(.int (own_b p4))]) ++ [(.int (own_b p5))]) c165 [(.int p2), (.int p3), (.int p4), (.int p5), (.int (p2 ^^^ p4))] (own_b p5) p5 T451.heap n0 Z452 Vx451 F453 (by decide) rfl (fun _ => ⟨⟨by decide, by decide⟩, rfl⟩) (fun _ => rfl) (fun h => absurd h (by rw [hn]; decide))) hZ (hw _ (List.mem_of_getElem? (i := 56) rfl)) (hw _ (List.mem_of_getElem? (i := 55) rfl)) (by decide) (by decide)) (g := (mkF m 261 #[.val (.int p0), .val (.int p1), .val (.int p2), .val (.int p3), .val (.int p4), .val (.int p5), .val (.int z), .val (.int n6), .val (.ref b165), .val (.ref b189), .val (.int ec), .val (.ref b451)] [(.int (3 : Int32)), (.int n6), (.ref b165), (.ref b451)])) rfl (by rw [hml]; rfl) (argsL := [(.ref b451), (.ref b165), (.int n6), (.int (3 : Int32))]) (rest := []) (lenOf pd_6 rfl) rfl (by show 2 * 0 + _ ≤ _; exact Nat.le_of_eq rfl) (hb hby at_261) (fun _ _ => ⟨rfl, eq482, (by decide : 7 + 0 ≤ _), (by decide : 75 + 0 ≤ _)⟩)
    dsimp only [Pt.U, Pt.locs, Pt.cells, Pt.slots] at X485 l485 y485 z485 st485 hQ485
    subst l485 y485 z485
    obtain ⟨rfl, Nq485, eq485⟩ := hQ485
    have N485 := Fr.app NH482 Nq485
    obtain ⟨LH485, XH485, NH485⟩ := own_hide X485 N485
    clear X485 N485
    have k486 : ∀ t, Steps p.tables e below (T485.setTop (mkF m 264 #[.val (.int p0), .val (.int p1), .val (.int p2), .val (.int p3), .val (.int p4), .val (.int p5), .val (.int z), .val (.int n6), .val (.ref b165), .val (.ref b189), .val (.int ec), .val (.ref b451)] [(.int (1 : Int32))])) t → Steps p.tables e below (s₁.setTop (entryFrame m #[(.int p0), (.int p1), (.int p2), (.int p3), (.int p4), (.int p5)] maxLocals)) t := fun t k => k484 t (st485 t k)
    have k487 : ∀ t, Steps p.tables e below (T485.setTop (mkF m 274 #[.val (.int p0), .val (.int p1), .val (.int p2), .val (.int p3), .val (.int p4), .val (.int p5), .val (.int z), .val (.int n6), .val (.ref b165), .val (.ref b189), .val (.int ec), .val (.ref b451)] [(.int (4 : Int32)), (.int n6), (.ref b165), (.ref b451)])) t → Steps p.tables e below (s₁.setTop (entryFrame m #[(.int p0), (.int p1), (.int p2), (.int p3), (.int p4), (.int p5)] maxLocals)) t := fun t k => k486 t (by
      show Steps p.tables e below (T485.setTop (mkF m 264 #[.val (.int p0), .val (.int p1), .val (.int p2), .val (.int p3), .val (.int p4), .val (.int p5), .val (.int z), .val (.int n6), .val (.ref b165), .val (.ref b189), .val (.int ec), .val (.ref b451)] [(.int (1 : Int32))])) _
      refine XS.ifNo XH485.here hx rfl (hb hby at_264) rfl ((if0 _ _).trans (feq (by decide : ¬ ((1 : Int32) = (0 : Int32)))).1) ?_
      show Steps p.tables e below (T485.setTop (mkF m 267 #[.val (.int p0), .val (.int p1), .val (.int p2), .val (.int p3), .val (.int p4), .val (.int p5), .val (.int z), .val (.int n6), .val (.ref b165), .val (.ref b189), .val (.int ec), .val (.ref b451)] [])) _
      refine XS.aload XH485.here hx rfl (hb hby at_267) rfl rfl ?_
      show Steps p.tables e below (T485.setTop (mkF m 269 #[.val (.int p0), .val (.int p1), .val (.int p2), .val (.int p3), .val (.int p4), .val (.int p5), .val (.int z), .val (.int n6), .val (.ref b165), .val (.ref b189), .val (.int ec), .val (.ref b451)] [(.ref b451)])) _
      refine XS.aload XH485.here hx rfl (hb hby at_269) rfl rfl ?_
      show Steps p.tables e below (T485.setTop (mkF m 271 #[.val (.int p0), .val (.int p1), .val (.int p2), .val (.int p3), .val (.int p4), .val (.int p5), .val (.int z), .val (.int n6), .val (.ref b165), .val (.ref b189), .val (.int ec), .val (.ref b451)] [(.ref b165), (.ref b451)])) _
      refine XS.iload XH485.here hx rfl (hb hby at_271) rfl ?_
      show Steps p.tables e below (T485.setTop (mkF m 273 #[.val (.int p0), .val (.int p1), .val (.int p2), .val (.int p3), .val (.int p4), .val (.int p5), .val (.int z), .val (.int n6), .val (.ref b165), .val (.ref b189), .val (.int ec), .val (.ref b451)] [(.int n6), (.ref b165), (.ref b451)])) _
      refine XS.iconst XH485.here hx rfl (hb hby at_273) ?_
      exact k)
    obtain ⟨_, _, ⟨T488, L488, kc488, ks488⟩, -, X488, ⟨Lc488, hQ488, l488, y488, z488⟩, st488⟩ := Jvm.LawKit.callS XH485 hx (y := (⟨"com/example/wegweiser/wegweiser/index/ByteSinkWritePinLaw", "at", "([B[III)Z"⟩ : MethodName)) hown (mvT hZ (hw _ (List.mem_of_getElem? (i := 53) rfl))) (mvT hZ (hw _ (List.mem_of_getElem? (i := 54) rfl))) (mvT hZ (hw _ (List.mem_of_getElem? (i := 55) rfl))) (mvT hZ (hw _ (List.mem_of_getElem? (i := 56) rfl))) (by decide) (backOf (W := 0) (rm10 l Z a0 hw [] b451 b165 n6 (4 : Int32) kb451 (own_cap ((((0 : Int32) + (1 : Int32)) + (1 : Int32)) + (1 : Int32)) (own_cap (((0 : Int32) + (1 : Int32)) + (1 : Int32)) (own_cap ((0 : Int32) + (1 : Int32)) (own_cap (0 : Int32) z)))) (((([] ++ [(.int (own_b p2))]) ++ [(.int (own_b p3))]) ++ [(.int (own_b p4))]) ++ [(.int (own_b p5))]) c165 [(.int p2), (.int p3), (.int p4), (.int p5), (.int (p2 ^^^ p4))] (0 : Int32) (p2 ^^^ p4) T451.heap n0 Z452 Vx451 F453 (by decide) rfl (fun _ => ⟨⟨by decide, by decide⟩, rfl⟩) (fun h => absurd h (by rw [hn]; decide)) (fun _ => rfl)) hZ (hw _ (List.mem_of_getElem? (i := 56) rfl)) (hw _ (List.mem_of_getElem? (i := 55) rfl)) (by decide) (by decide)) (g := (mkF m 274 #[.val (.int p0), .val (.int p1), .val (.int p2), .val (.int p3), .val (.int p4), .val (.int p5), .val (.int z), .val (.int n6), .val (.ref b165), .val (.ref b189), .val (.int ec), .val (.ref b451)] [(.int (4 : Int32)), (.int n6), (.ref b165), (.ref b451)])) rfl (by rw [hml]; rfl) (argsL := [(.ref b451), (.ref b165), (.int n6), (.int (4 : Int32))]) (rest := []) (lenOf pd_6 rfl) rfl (by show 2 * 0 + _ ≤ _; exact Nat.le_of_eq rfl) (hb hby at_274) (fun _ _ => ⟨rfl, eq485, (by decide : 7 + 0 ≤ _), (by decide : 75 + 0 ≤ _)⟩)
    dsimp only [Pt.U, Pt.locs, Pt.cells, Pt.slots] at X488 l488 y488 z488 st488 hQ488
    subst l488 y488 z488
    obtain ⟨rfl, Nq488, eq488⟩ := hQ488
    have N488 := Fr.app NH485 Nq488
    obtain ⟨LH488, XH488, NH488⟩ := own_hide X488 N488
    clear X488 N488
    have k489 : ∀ t, Steps p.tables e below (T488.setTop (mkF m 277 #[.val (.int p0), .val (.int p1), .val (.int p2), .val (.int p3), .val (.int p4), .val (.int p5), .val (.int z), .val (.int n6), .val (.ref b165), .val (.ref b189), .val (.int ec), .val (.ref b451)] [(.int (1 : Int32))])) t → Steps p.tables e below (s₁.setTop (entryFrame m #[(.int p0), (.int p1), (.int p2), (.int p3), (.int p4), (.int p5)] maxLocals)) t := fun t k => k487 t (st488 t k)
    have k490 : ∀ t, Steps p.tables e below (T488.setTop (mkF m 287 #[.val (.int p0), .val (.int p1), .val (.int p2), .val (.int p3), .val (.int p4), .val (.int p5), .val (.int z), .val (.int n6), .val (.ref b165), .val (.ref b189), .val (.int ec), .val (.ref b451)] [(.int (5 : Int32)), (.int n6), (.ref b165), (.ref b451)])) t → Steps p.tables e below (s₁.setTop (entryFrame m #[(.int p0), (.int p1), (.int p2), (.int p3), (.int p4), (.int p5)] maxLocals)) t := fun t k => k489 t (by
      show Steps p.tables e below (T488.setTop (mkF m 277 #[.val (.int p0), .val (.int p1), .val (.int p2), .val (.int p3), .val (.int p4), .val (.int p5), .val (.int z), .val (.int n6), .val (.ref b165), .val (.ref b189), .val (.int ec), .val (.ref b451)] [(.int (1 : Int32))])) _
      refine XS.ifNo XH488.here hx rfl (hb hby at_277) rfl ((if0 _ _).trans (feq (by decide : ¬ ((1 : Int32) = (0 : Int32)))).1) ?_
      show Steps p.tables e below (T488.setTop (mkF m 280 #[.val (.int p0), .val (.int p1), .val (.int p2), .val (.int p3), .val (.int p4), .val (.int p5), .val (.int z), .val (.int n6), .val (.ref b165), .val (.ref b189), .val (.int ec), .val (.ref b451)] [])) _
      refine XS.aload XH488.here hx rfl (hb hby at_280) rfl rfl ?_
      show Steps p.tables e below (T488.setTop (mkF m 282 #[.val (.int p0), .val (.int p1), .val (.int p2), .val (.int p3), .val (.int p4), .val (.int p5), .val (.int z), .val (.int n6), .val (.ref b165), .val (.ref b189), .val (.int ec), .val (.ref b451)] [(.ref b451)])) _
      refine XS.aload XH488.here hx rfl (hb hby at_282) rfl rfl ?_
      show Steps p.tables e below (T488.setTop (mkF m 284 #[.val (.int p0), .val (.int p1), .val (.int p2), .val (.int p3), .val (.int p4), .val (.int p5), .val (.int z), .val (.int n6), .val (.ref b165), .val (.ref b189), .val (.int ec), .val (.ref b451)] [(.ref b165), (.ref b451)])) _
      refine XS.iload XH488.here hx rfl (hb hby at_284) rfl ?_
      show Steps p.tables e below (T488.setTop (mkF m 286 #[.val (.int p0), .val (.int p1), .val (.int p2), .val (.int p3), .val (.int p4), .val (.int p5), .val (.int z), .val (.int n6), .val (.ref b165), .val (.ref b189), .val (.int ec), .val (.ref b451)] [(.int n6), (.ref b165), (.ref b451)])) _
      refine XS.iconst XH488.here hx rfl (hb hby at_286) ?_
      exact k)
    obtain ⟨_, _, ⟨T491, L491, kc491, ks491⟩, -, X491, ⟨Lc491, hQ491, l491, y491, z491⟩, st491⟩ := Jvm.LawKit.callS XH488 hx (y := (⟨"com/example/wegweiser/wegweiser/index/ByteSinkWritePinLaw", "at", "([B[III)Z"⟩ : MethodName)) hown (mvT hZ (hw _ (List.mem_of_getElem? (i := 53) rfl))) (mvT hZ (hw _ (List.mem_of_getElem? (i := 54) rfl))) (mvT hZ (hw _ (List.mem_of_getElem? (i := 55) rfl))) (mvT hZ (hw _ (List.mem_of_getElem? (i := 56) rfl))) (by decide) (backOf (W := 0) (rm10 l Z a0 hw [] b451 b165 n6 (5 : Int32) kb451 (own_cap ((((0 : Int32) + (1 : Int32)) + (1 : Int32)) + (1 : Int32)) (own_cap (((0 : Int32) + (1 : Int32)) + (1 : Int32)) (own_cap ((0 : Int32) + (1 : Int32)) (own_cap (0 : Int32) z)))) (((([] ++ [(.int (own_b p2))]) ++ [(.int (own_b p3))]) ++ [(.int (own_b p4))]) ++ [(.int (own_b p5))]) c165 [(.int p2), (.int p3), (.int p4), (.int p5), (.int (p2 ^^^ p4))] (0 : Int32) (0 : Int32) T451.heap n0 Z452 Vx451 F453 (by decide) rfl (fun h => absurd h (by rw [hn]; decide)) (fun h => absurd h (by rw [hn]; decide)) (fun _ => rfl)) hZ (hw _ (List.mem_of_getElem? (i := 56) rfl)) (hw _ (List.mem_of_getElem? (i := 55) rfl)) (by decide) (by decide)) (g := (mkF m 287 #[.val (.int p0), .val (.int p1), .val (.int p2), .val (.int p3), .val (.int p4), .val (.int p5), .val (.int z), .val (.int n6), .val (.ref b165), .val (.ref b189), .val (.int ec), .val (.ref b451)] [(.int (5 : Int32)), (.int n6), (.ref b165), (.ref b451)])) rfl (by rw [hml]; rfl) (argsL := [(.ref b451), (.ref b165), (.int n6), (.int (5 : Int32))]) (rest := []) (lenOf pd_6 rfl) rfl (by show 2 * 0 + _ ≤ _; exact Nat.le_of_eq rfl) (hb hby at_287) (fun _ _ => ⟨rfl, eq488, (by decide : 7 + 0 ≤ _), (by decide : 75 + 0 ≤ _)⟩)
    dsimp only [Pt.U, Pt.locs, Pt.cells, Pt.slots] at X491 l491 y491 z491 st491 hQ491
    subst l491 y491 z491
    obtain ⟨rfl, Nq491, eq491⟩ := hQ491
    have N491 := Fr.app NH488 Nq491
    obtain ⟨LH491, XH491, NH491⟩ := own_hide X491 N491
    clear X491 N491
    have k492 : ∀ t, Steps p.tables e below (T491.setTop (mkF m 290 #[.val (.int p0), .val (.int p1), .val (.int p2), .val (.int p3), .val (.int p4), .val (.int p5), .val (.int z), .val (.int n6), .val (.ref b165), .val (.ref b189), .val (.int ec), .val (.ref b451)] [(.int (1 : Int32))])) t → Steps p.tables e below (s₁.setTop (entryFrame m #[(.int p0), (.int p1), (.int p2), (.int p3), (.int p4), (.int p5)] maxLocals)) t := fun t k => k490 t (st491 t k)
    have k493 : ∀ t, Steps p.tables e below (T491.setTop (mkF m 301 #[.val (.int p0), .val (.int p1), .val (.int p2), .val (.int p3), .val (.int p4), .val (.int p5), .val (.int z), .val (.int n6), .val (.ref b165), .val (.ref b189), .val (.int ec), .val (.ref b451)] [(.int (6 : Int32)), (.int n6), (.ref b165), (.ref b451)])) t → Steps p.tables e below (s₁.setTop (entryFrame m #[(.int p0), (.int p1), (.int p2), (.int p3), (.int p4), (.int p5)] maxLocals)) t := fun t k => k492 t (by
      show Steps p.tables e below (T491.setTop (mkF m 290 #[.val (.int p0), .val (.int p1), .val (.int p2), .val (.int p3), .val (.int p4), .val (.int p5), .val (.int z), .val (.int n6), .val (.ref b165), .val (.ref b189), .val (.int ec), .val (.ref b451)] [(.int (1 : Int32))])) _
      refine XS.ifNo XH491.here hx rfl (hb hby at_290) rfl ((if0 _ _).trans (feq (by decide : ¬ ((1 : Int32) = (0 : Int32)))).1) ?_
      show Steps p.tables e below (T491.setTop (mkF m 293 #[.val (.int p0), .val (.int p1), .val (.int p2), .val (.int p3), .val (.int p4), .val (.int p5), .val (.int z), .val (.int n6), .val (.ref b165), .val (.ref b189), .val (.int ec), .val (.ref b451)] [])) _
      refine XS.aload XH491.here hx rfl (hb hby at_293) rfl rfl ?_
      show Steps p.tables e below (T491.setTop (mkF m 295 #[.val (.int p0), .val (.int p1), .val (.int p2), .val (.int p3), .val (.int p4), .val (.int p5), .val (.int z), .val (.int n6), .val (.ref b165), .val (.ref b189), .val (.int ec), .val (.ref b451)] [(.ref b451)])) _
      refine XS.aload XH491.here hx rfl (hb hby at_295) rfl rfl ?_
      show Steps p.tables e below (T491.setTop (mkF m 297 #[.val (.int p0), .val (.int p1), .val (.int p2), .val (.int p3), .val (.int p4), .val (.int p5), .val (.int z), .val (.int n6), .val (.ref b165), .val (.ref b189), .val (.int ec), .val (.ref b451)] [(.ref b165), (.ref b451)])) _
      refine XS.iload XH491.here hx rfl (hb hby at_297) rfl ?_
      show Steps p.tables e below (T491.setTop (mkF m 299 #[.val (.int p0), .val (.int p1), .val (.int p2), .val (.int p3), .val (.int p4), .val (.int p5), .val (.int z), .val (.int n6), .val (.ref b165), .val (.ref b189), .val (.int ec), .val (.ref b451)] [(.int n6), (.ref b165), (.ref b451)])) _
      refine XS.bipush XH491.here hx rfl (hb hby at_299) ?_
      exact k)
    obtain ⟨_, _, ⟨T494, L494, kc494, ks494⟩, -, X494, ⟨Lc494, hQ494, l494, y494, z494⟩, st494⟩ := Jvm.LawKit.callS XH491 hx (y := (⟨"com/example/wegweiser/wegweiser/index/ByteSinkWritePinLaw", "at", "([B[III)Z"⟩ : MethodName)) hown (mvT hZ (hw _ (List.mem_of_getElem? (i := 53) rfl))) (mvT hZ (hw _ (List.mem_of_getElem? (i := 54) rfl))) (mvT hZ (hw _ (List.mem_of_getElem? (i := 55) rfl))) (mvT hZ (hw _ (List.mem_of_getElem? (i := 56) rfl))) (by decide) (backOf (W := 0) (rm10 l Z a0 hw [] b451 b165 n6 (6 : Int32) kb451 (own_cap ((((0 : Int32) + (1 : Int32)) + (1 : Int32)) + (1 : Int32)) (own_cap (((0 : Int32) + (1 : Int32)) + (1 : Int32)) (own_cap ((0 : Int32) + (1 : Int32)) (own_cap (0 : Int32) z)))) (((([] ++ [(.int (own_b p2))]) ++ [(.int (own_b p3))]) ++ [(.int (own_b p4))]) ++ [(.int (own_b p5))]) c165 [(.int p2), (.int p3), (.int p4), (.int p5), (.int (p2 ^^^ p4))] (0 : Int32) (0 : Int32) T451.heap n0 Z452 Vx451 F453 (by decide) rfl (fun h => absurd h (by rw [hn]; decide)) (fun h => absurd h (by rw [hn]; decide)) (fun _ => rfl)) hZ (hw _ (List.mem_of_getElem? (i := 56) rfl)) (hw _ (List.mem_of_getElem? (i := 55) rfl)) (by decide) (by decide)) (g := (mkF m 301 #[.val (.int p0), .val (.int p1), .val (.int p2), .val (.int p3), .val (.int p4), .val (.int p5), .val (.int z), .val (.int n6), .val (.ref b165), .val (.ref b189), .val (.int ec), .val (.ref b451)] [(.int (6 : Int32)), (.int n6), (.ref b165), (.ref b451)])) rfl (by rw [hml]; rfl) (argsL := [(.ref b451), (.ref b165), (.int n6), (.int (6 : Int32))]) (rest := []) (lenOf pd_6 rfl) rfl (by show 2 * 0 + _ ≤ _; exact Nat.le_of_eq rfl) (hb hby at_301) (fun _ _ => ⟨rfl, eq491, (by decide : 7 + 0 ≤ _), (by decide : 75 + 0 ≤ _)⟩)
    dsimp only [Pt.U, Pt.locs, Pt.cells, Pt.slots] at X494 l494 y494 z494 st494 hQ494
    subst l494 y494 z494
    obtain ⟨rfl, Nq494, eq494⟩ := hQ494
    have N494 := Fr.app NH491 Nq494
    obtain ⟨LH494, XH494, NH494⟩ := own_hide X494 N494
    clear X494 N494
    have k495 : ∀ t, Steps p.tables e below (T494.setTop (mkF m 304 #[.val (.int p0), .val (.int p1), .val (.int p2), .val (.int p3), .val (.int p4), .val (.int p5), .val (.int z), .val (.int n6), .val (.ref b165), .val (.ref b189), .val (.int ec), .val (.ref b451)] [(.int (1 : Int32))])) t → Steps p.tables e below (s₁.setTop (entryFrame m #[(.int p0), (.int p1), (.int p2), (.int p3), (.int p4), (.int p5)] maxLocals)) t := fun t k => k493 t (st494 t k)
    have k496 : ∀ t, Steps p.tables e below (T494.setTop (mkF m 315 #[.val (.int p0), .val (.int p1), .val (.int p2), .val (.int p3), .val (.int p4), .val (.int p5), .val (.int z), .val (.int n6), .val (.ref b165), .val (.ref b189), .val (.int ec), .val (.ref b451)] [(.int (7 : Int32)), (.int n6), (.ref b165), (.ref b451)])) t → Steps p.tables e below (s₁.setTop (entryFrame m #[(.int p0), (.int p1), (.int p2), (.int p3), (.int p4), (.int p5)] maxLocals)) t := fun t k => k495 t (by
      show Steps p.tables e below (T494.setTop (mkF m 304 #[.val (.int p0), .val (.int p1), .val (.int p2), .val (.int p3), .val (.int p4), .val (.int p5), .val (.int z), .val (.int n6), .val (.ref b165), .val (.ref b189), .val (.int ec), .val (.ref b451)] [(.int (1 : Int32))])) _
      refine XS.ifNo XH494.here hx rfl (hb hby at_304) rfl ((if0 _ _).trans (feq (by decide : ¬ ((1 : Int32) = (0 : Int32)))).1) ?_
      show Steps p.tables e below (T494.setTop (mkF m 307 #[.val (.int p0), .val (.int p1), .val (.int p2), .val (.int p3), .val (.int p4), .val (.int p5), .val (.int z), .val (.int n6), .val (.ref b165), .val (.ref b189), .val (.int ec), .val (.ref b451)] [])) _
      refine XS.aload XH494.here hx rfl (hb hby at_307) rfl rfl ?_
      show Steps p.tables e below (T494.setTop (mkF m 309 #[.val (.int p0), .val (.int p1), .val (.int p2), .val (.int p3), .val (.int p4), .val (.int p5), .val (.int z), .val (.int n6), .val (.ref b165), .val (.ref b189), .val (.int ec), .val (.ref b451)] [(.ref b451)])) _
      refine XS.aload XH494.here hx rfl (hb hby at_309) rfl rfl ?_
      show Steps p.tables e below (T494.setTop (mkF m 311 #[.val (.int p0), .val (.int p1), .val (.int p2), .val (.int p3), .val (.int p4), .val (.int p5), .val (.int z), .val (.int n6), .val (.ref b165), .val (.ref b189), .val (.int ec), .val (.ref b451)] [(.ref b165), (.ref b451)])) _
      refine XS.iload XH494.here hx rfl (hb hby at_311) rfl ?_
      show Steps p.tables e below (T494.setTop (mkF m 313 #[.val (.int p0), .val (.int p1), .val (.int p2), .val (.int p3), .val (.int p4), .val (.int p5), .val (.int z), .val (.int n6), .val (.ref b165), .val (.ref b189), .val (.int ec), .val (.ref b451)] [(.int n6), (.ref b165), (.ref b451)])) _
      refine XS.bipush XH494.here hx rfl (hb hby at_313) ?_
      exact k)
    obtain ⟨_, _, ⟨T497, L497, kc497, ks497⟩, -, X497, ⟨Lc497, hQ497, l497, y497, z497⟩, st497⟩ := Jvm.LawKit.callS XH494 hx (y := (⟨"com/example/wegweiser/wegweiser/index/ByteSinkWritePinLaw", "at", "([B[III)Z"⟩ : MethodName)) hown (mvT hZ (hw _ (List.mem_of_getElem? (i := 53) rfl))) (mvT hZ (hw _ (List.mem_of_getElem? (i := 54) rfl))) (mvT hZ (hw _ (List.mem_of_getElem? (i := 55) rfl))) (mvT hZ (hw _ (List.mem_of_getElem? (i := 56) rfl))) (by decide) (backOf (W := 0) (rm10 l Z a0 hw [] b451 b165 n6 (7 : Int32) kb451 (own_cap ((((0 : Int32) + (1 : Int32)) + (1 : Int32)) + (1 : Int32)) (own_cap (((0 : Int32) + (1 : Int32)) + (1 : Int32)) (own_cap ((0 : Int32) + (1 : Int32)) (own_cap (0 : Int32) z)))) (((([] ++ [(.int (own_b p2))]) ++ [(.int (own_b p3))]) ++ [(.int (own_b p4))]) ++ [(.int (own_b p5))]) c165 [(.int p2), (.int p3), (.int p4), (.int p5), (.int (p2 ^^^ p4))] (0 : Int32) (0 : Int32) T451.heap n0 Z452 Vx451 F453 (by decide) rfl (fun h => absurd h (by rw [hn]; decide)) (fun h => absurd h (by rw [hn]; decide)) (fun _ => rfl)) hZ (hw _ (List.mem_of_getElem? (i := 56) rfl)) (hw _ (List.mem_of_getElem? (i := 55) rfl)) (by decide) (by decide)) (g := (mkF m 315 #[.val (.int p0), .val (.int p1), .val (.int p2), .val (.int p3), .val (.int p4), .val (.int p5), .val (.int z), .val (.int n6), .val (.ref b165), .val (.ref b189), .val (.int ec), .val (.ref b451)] [(.int (7 : Int32)), (.int n6), (.ref b165), (.ref b451)])) rfl (by rw [hml]; rfl) (argsL := [(.ref b451), (.ref b165), (.int n6), (.int (7 : Int32))]) (rest := []) (lenOf pd_6 rfl) rfl (by show 2 * 0 + _ ≤ _; exact Nat.le_of_eq rfl) (hb hby at_315) (fun _ _ => ⟨rfl, eq494, (by decide : 7 + 0 ≤ _), (by decide : 75 + 0 ≤ _)⟩)
    dsimp only [Pt.U, Pt.locs, Pt.cells, Pt.slots] at X497 l497 y497 z497 st497 hQ497
    subst l497 y497 z497
    obtain ⟨rfl, Nq497, eq497⟩ := hQ497
    have N497 := Fr.app NH494 Nq497
    obtain ⟨LH497, XH497, NH497⟩ := own_hide X497 N497
    clear X497 N497
    have k498 : ∀ t, Steps p.tables e below (T497.setTop (mkF m 318 #[.val (.int p0), .val (.int p1), .val (.int p2), .val (.int p3), .val (.int p4), .val (.int p5), .val (.int z), .val (.int n6), .val (.ref b165), .val (.ref b189), .val (.int ec), .val (.ref b451)] [(.int (1 : Int32))])) t → Steps p.tables e below (s₁.setTop (entryFrame m #[(.int p0), (.int p1), (.int p2), (.int p3), (.int p4), (.int p5)] maxLocals)) t := fun t k => k496 t (st497 t k)
    have k499 : ∀ t, Steps p.tables e below (T497.setTop (mkF m 326 #[.val (.int p0), .val (.int p1), .val (.int p2), .val (.int p3), .val (.int p4), .val (.int p5), .val (.int z), .val (.int n6), .val (.ref b165), .val (.ref b189), .val (.int ec), .val (.ref b451)] [(.int (1 : Int32))])) t → Steps p.tables e below (s₁.setTop (entryFrame m #[(.int p0), (.int p1), (.int p2), (.int p3), (.int p4), (.int p5)] maxLocals)) t := fun t k => k498 t (by
      show Steps p.tables e below (T497.setTop (mkF m 318 #[.val (.int p0), .val (.int p1), .val (.int p2), .val (.int p3), .val (.int p4), .val (.int p5), .val (.int z), .val (.int n6), .val (.ref b165), .val (.ref b189), .val (.int ec), .val (.ref b451)] [(.int (1 : Int32))])) _
      refine XS.ifNo XH497.here hx rfl (hb hby at_318) rfl ((if0 _ _).trans (feq (by decide : ¬ ((1 : Int32) = (0 : Int32)))).1) ?_
      show Steps p.tables e below (T497.setTop (mkF m 321 #[.val (.int p0), .val (.int p1), .val (.int p2), .val (.int p3), .val (.int p4), .val (.int p5), .val (.int z), .val (.int n6), .val (.ref b165), .val (.ref b189), .val (.int ec), .val (.ref b451)] [])) _
      refine XS.iconst XH497.here hx rfl (hb hby at_321) ?_
      show Steps p.tables e below (T497.setTop (mkF m 322 #[.val (.int p0), .val (.int p1), .val (.int p2), .val (.int p3), .val (.int p4), .val (.int p5), .val (.int z), .val (.int n6), .val (.ref b165), .val (.ref b189), .val (.int ec), .val (.ref b451)] [(.int (1 : Int32))])) _
      refine XS.goto XH497.here hx rfl (pc0 := 322) (pc' := 326) rfl (hb hby at_322) (by decide) (by decide) ?_
      exact k)
    obtain ⟨fs, hr, hrun, hended, hW, hsame⟩ := XH497.leave (v := some (.int (1 : Int32))) (fun h => by rw [Bd.returns] at h; cases h)
    refine ⟨_, _, k499 _ ?_, hrun, hended, _, _, rfl, ?_, ⟨_, rfl⟩, hW, hsame.mono (by decide) (by decide)⟩
    · show Steps p.tables e below (T497.setTop (mkF m 326 #[.val (.int p0), .val (.int p1), .val (.int p2), .val (.int p3), .val (.int p4), .val (.int p5), .val (.int z), .val (.int n6), .val (.ref b165), .val (.ref b189), .val (.int ec), .val (.ref b451)] [(.int (1 : Int32))])) _
      exact retN XH497 hx (t := .boolean) Bd.returns (by simp) (hb hby at_326) hr
    · show Q0 Z p0 p1 p2 p3 p4 p5 h0 n0 _ T497.heap _
      rw [eq497]
      exact ⟨rfl, NH497⟩
  · have k502 : ∀ t, Steps p.tables e below (T200.setTop (mkF m 68 #[.val (.int p0), .val (.int p1), .val (.int p2), .val (.int p3), .val (.int p4), .val (.int p5), .val (.int z), .val (.int n6), .val (.ref b165), .val (.ref b189), .unset, .unset] [(.int p2), (.ref b189)])) t → Steps p.tables e below (s₁.setTop (entryFrame m #[(.int p0), (.int p1), (.int p2), (.int p3), (.int p4), (.int p5)] maxLocals)) t := fun t k => k205 t (by
      show Steps p.tables e below (T200.setTop (mkF m 57 #[.val (.int p0), .val (.int p1), .val (.int p2), .val (.int p3), .val (.int p4), .val (.int p5), .val (.int z), .val (.int n6), .val (.ref b165), .val (.ref b189), .unset, .unset] [])) _
      refine XS.iload XH200.here hx rfl (hb hby at_57) rfl ?_
      show Steps p.tables e below (T200.setTop (mkF m 59 #[.val (.int p0), .val (.int p1), .val (.int p2), .val (.int p3), .val (.int p4), .val (.int p5), .val (.int z), .val (.int n6), .val (.ref b165), .val (.ref b189), .unset, .unset] [(.int n6)])) _
      refine XS.ifNo XH200.here hx rfl (hb hby at_59) rfl ((if0 _ _).trans (tlt (by rw [hn]; decide)).2.2.2) ?_
      show Steps p.tables e below (T200.setTop (mkF m 62 #[.val (.int p0), .val (.int p1), .val (.int p2), .val (.int p3), .val (.int p4), .val (.int p5), .val (.int z), .val (.int n6), .val (.ref b165), .val (.ref b189), .unset, .unset] [])) _
      refine XS.aload XH200.here hx rfl (hb hby at_62) rfl rfl ?_
      show Steps p.tables e below (T200.setTop (mkF m 64 #[.val (.int p0), .val (.int p1), .val (.int p2), .val (.int p3), .val (.int p4), .val (.int p5), .val (.int z), .val (.int n6), .val (.ref b165), .val (.ref b189), .unset, .unset] [(.ref b189)])) _
      refine XS.aload XH200.here hx rfl (hb hby at_64) rfl rfl ?_
      show Steps p.tables e below (T200.setTop (mkF m 66 #[.val (.int p0), .val (.int p1), .val (.int p2), .val (.int p3), .val (.int p4), .val (.int p5), .val (.int z), .val (.int n6), .val (.ref b165), .val (.ref b189), .unset, .unset] [(.ref b165), (.ref b189)])) _
      refine XS.iconst XH200.here hx rfl (hb hby at_66) ?_
      show Steps p.tables e below (T200.setTop (mkF m 67 #[.val (.int p0), .val (.int p1), .val (.int p2), .val (.int p3), .val (.int p4), .val (.int p5), .val (.int z), .val (.int n6), .val (.ref b165), .val (.ref b189), .unset, .unset] [(.int (0 : Int32)), (.ref b165), (.ref b189)])) _
      obtain ⟨clq501, Arq501, -, Sq501, Nq501, Hq501, Gq501⟩ := id F202
      have hinq501 := inb_of (j := (0 : Int32)) Sq501 ⟨by decide, by decide⟩
      refine XH200.iaload hx (j := (0 : Int32)) (v := (.int p2)) (id Arq501.1) (State.isArrayOf_alike hZ.alike Arq501.2.1) Arq501.2.2 hinq501 (Has.at Hq501 hinq501 rfl) (g := (mkF m 67 #[.val (.int p0), .val (.int p1), .val (.int p2), .val (.int p3), .val (.int p4), .val (.int p5), .val (.int z), .val (.int n6), .val (.ref b165), .val (.ref b189), .unset, .unset] [(.int (0 : Int32)), (.ref b165), (.ref b189)])) rfl rfl (hb hby at_67) _ ?_
      exact k)
    have nbab197 := (Ne.symm ne199)
    obtain ⟨cq503, kq503, q503a, q503b, q503c⟩ := isOf hZ rfl F203
    obtain ⟨_, _, ⟨T503, L503, kc503, ks503⟩, -, X503, ⟨Lc503, hQ503, l503, y503, z503⟩, st503⟩ := XH200.virtualBack hx (y := (⟨"com/example/wegweiser/wegweiser/index/ByteSink", "write", "(I)V"⟩ : MethodName)) (z := (⟨"com/example/wegweiser/wegweiser/index/ByteSink", "write", "(I)V"⟩ : MethodName)) hown (mvT hZ (hw _ (List.mem_of_getElem? (i := 19) rfl))) (mvT hZ (hw _ (List.mem_of_getElem? (i := 20) rfl))) (notFace_of_selects (args := #[]) (mvT hZ (hw _ (List.mem_of_getElem? (i := 22) rfl)))) (mvT hZ (hw _ (List.mem_of_getElem? (i := 22) rfl))) (mvT hZ (hw _ (List.mem_of_getElem? (i := 21) rfl))) (by decide) (backOf (W := 0) (rm4 l Z a0 hw [] b189 p2 b197 kb200 (0 : Int32) z [] T200.heap n0 Z201 Fl200 Fb200 F203 Vx200 g_b189 g_b197 (Ne.symm ne199) rfl (by rcases hz with rfl | rfl | rfl | rfl <;> decide) (by rcases hz with rfl | rfl | rfl | rfl <;> decide) (by rcases hz with rfl | rfl | rfl | rfl <;> decide) (by rcases hz with rfl | rfl | rfl | rfl <;> decide) (by rcases hz with rfl | rfl | rfl | rfl <;> decide)) hZ (hw _ (List.mem_of_getElem? (i := 23) rfl)) (hw _ (List.mem_of_getElem? (i := 4) rfl)) (by decide) (by decide)) q503a q503c (g := (mkF m 68 #[.val (.int p0), .val (.int p1), .val (.int p2), .val (.int p3), .val (.int p4), .val (.int p5), .val (.int z), .val (.int n6), .val (.ref b165), .val (.ref b189), .unset, .unset] [(.int p2), (.ref b189)])) rfl (by rw [hml]; rfl) (Steps.refl _) (argsL := [(.int p2)]) (rest := []) (lenOf pd_3 rfl) rfl (by show 2 * 0 + _ ≤ _; exact Nat.le_of_eq rfl) (hb hby at_68) (fun _ _ => ⟨rfl, rfl, (by decide : 3 + 1 ≤ _), (by decide : 11 + 16 ≤ _)⟩)
    dsimp only [Pt.U, Pt.locs, Pt.cells, Pt.slots] at X503 l503 y503 z503 st503 hQ503
    subst l503 y503 z503
    obtain ⟨b503, kb503, rfl, Nq503, K503, g_b503, nx503, hor503, Ax503, Fl503, Fb503, Vx503⟩ := hQ503
    have N503 := Fr.app NH200 Nq503
    obtain ⟨LH503, XH503, NH503⟩ := own_hide X503 N503
    clear X503 N503
    have nv503 : b165 ≠ b503 := hor503.elim (fun q => by rw [q]; exact ne198) (fun q => Nat.ne_of_lt (Nat.lt_of_lt_of_le (F202).lt q))
    have Z504 : n0 ≤ T503.heap.size := Nat.le_trans Z201 K503.1
    have F505 : Arv Z T503.heap b165 c165 .int (5 : Int32) [(.int p2), (.int p3), (.int p4), (.int p5), (.int (p2 ^^^ p4))] (.int (0 : Int32)) := (F202).keep K503 (ninS ne190 (ninS ne198 nin0))
    have F506 : Exa Z T503.heap b189 "com/example/wegweiser/wegweiser/index/ByteSink" := (F203).keep K503
    have k507 : ∀ t, Steps p.tables e below (T503.setTop (mkF m 71 #[.val (.int p0), .val (.int p1), .val (.int p2), .val (.int p3), .val (.int p4), .val (.int p5), .val (.int z), .val (.int n6), .val (.ref b165), .val (.ref b189), .unset, .unset] [])) t → Steps p.tables e below (s₁.setTop (entryFrame m #[(.int p0), (.int p1), (.int p2), (.int p3), (.int p4), (.int p5)] maxLocals)) t := fun t k => k502 t (st503.trans k)
    have k509 : ∀ t, Steps p.tables e below (T503.setTop (mkF m 83 #[.val (.int p0), .val (.int p1), .val (.int p2), .val (.int p3), .val (.int p4), .val (.int p5), .val (.int z), .val (.int n6), .val (.ref b165), .val (.ref b189), .unset, .unset] [(.int p3), (.ref b189)])) t → Steps p.tables e below (s₁.setTop (entryFrame m #[(.int p0), (.int p1), (.int p2), (.int p3), (.int p4), (.int p5)] maxLocals)) t := fun t k => k507 t (by
      show Steps p.tables e below (T503.setTop (mkF m 71 #[.val (.int p0), .val (.int p1), .val (.int p2), .val (.int p3), .val (.int p4), .val (.int p5), .val (.int z), .val (.int n6), .val (.ref b165), .val (.ref b189), .unset, .unset] [])) _
      refine XS.iload XH503.here hx rfl (hb hby at_71) rfl ?_
      show Steps p.tables e below (T503.setTop (mkF m 73 #[.val (.int p0), .val (.int p1), .val (.int p2), .val (.int p3), .val (.int p4), .val (.int p5), .val (.int z), .val (.int n6), .val (.ref b165), .val (.ref b189), .unset, .unset] [(.int n6)])) _
      refine XS.iconst XH503.here hx rfl (hb hby at_73) ?_
      show Steps p.tables e below (T503.setTop (mkF m 74 #[.val (.int p0), .val (.int p1), .val (.int p2), .val (.int p3), .val (.int p4), .val (.int p5), .val (.int z), .val (.int n6), .val (.ref b165), .val (.ref b189), .unset, .unset] [(.int (1 : Int32)), (.int n6)])) _
      refine XS.icmpNo XH503.here hx rfl (hb hby at_74) rfl (tlt (by rw [hn]; decide)).2.2.2 ?_
      show Steps p.tables e below (T503.setTop (mkF m 77 #[.val (.int p0), .val (.int p1), .val (.int p2), .val (.int p3), .val (.int p4), .val (.int p5), .val (.int z), .val (.int n6), .val (.ref b165), .val (.ref b189), .unset, .unset] [])) _
      refine XS.aload XH503.here hx rfl (hb hby at_77) rfl rfl ?_
      show Steps p.tables e below (T503.setTop (mkF m 79 #[.val (.int p0), .val (.int p1), .val (.int p2), .val (.int p3), .val (.int p4), .val (.int p5), .val (.int z), .val (.int n6), .val (.ref b165), .val (.ref b189), .unset, .unset] [(.ref b189)])) _
      refine XS.aload XH503.here hx rfl (hb hby at_79) rfl rfl ?_
      show Steps p.tables e below (T503.setTop (mkF m 81 #[.val (.int p0), .val (.int p1), .val (.int p2), .val (.int p3), .val (.int p4), .val (.int p5), .val (.int z), .val (.int n6), .val (.ref b165), .val (.ref b189), .unset, .unset] [(.ref b165), (.ref b189)])) _
      refine XS.iconst XH503.here hx rfl (hb hby at_81) ?_
      show Steps p.tables e below (T503.setTop (mkF m 82 #[.val (.int p0), .val (.int p1), .val (.int p2), .val (.int p3), .val (.int p4), .val (.int p5), .val (.int z), .val (.int n6), .val (.ref b165), .val (.ref b189), .unset, .unset] [(.int (1 : Int32)), (.ref b165), (.ref b189)])) _
      obtain ⟨clq508, Arq508, -, Sq508, Nq508, Hq508, Gq508⟩ := id F505
      have hinq508 := inb_of (j := (1 : Int32)) Sq508 ⟨by decide, by decide⟩
      refine XH503.iaload hx (j := (1 : Int32)) (v := (.int p3)) (id Arq508.1) (State.isArrayOf_alike hZ.alike Arq508.2.1) Arq508.2.2 hinq508 (Has.at Hq508 hinq508 rfl) (g := (mkF m 82 #[.val (.int p0), .val (.int p1), .val (.int p2), .val (.int p3), .val (.int p4), .val (.int p5), .val (.int z), .val (.int n6), .val (.ref b165), .val (.ref b189), .unset, .unset] [(.int (1 : Int32)), (.ref b165), (.ref b189)])) rfl rfl (hb hby at_82) _ ?_
      exact k)
    have nbab503 := nx503
    obtain ⟨cq510, kq510, q510a, q510b, q510c⟩ := isOf hZ rfl F506
    obtain ⟨_, _, ⟨T510, L510, kc510, ks510⟩, -, X510, ⟨Lc510, hQ510, l510, y510, z510⟩, st510⟩ := XH503.virtualBack hx (y := (⟨"com/example/wegweiser/wegweiser/index/ByteSink", "write", "(I)V"⟩ : MethodName)) (z := (⟨"com/example/wegweiser/wegweiser/index/ByteSink", "write", "(I)V"⟩ : MethodName)) hown (mvT hZ (hw _ (List.mem_of_getElem? (i := 19) rfl))) (mvT hZ (hw _ (List.mem_of_getElem? (i := 20) rfl))) (notFace_of_selects (args := #[]) (mvT hZ (hw _ (List.mem_of_getElem? (i := 22) rfl)))) (mvT hZ (hw _ (List.mem_of_getElem? (i := 22) rfl))) (mvT hZ (hw _ (List.mem_of_getElem? (i := 21) rfl))) (by decide) (backOf (W := 0) (rm4 l Z a0 hw [] b189 p3 b503 kb503 ((0 : Int32) + (1 : Int32)) (own_cap (0 : Int32) z) ([] ++ [(.int (own_b p2))]) T503.heap n0 Z504 Fl503 Fb503 F506 Vx503 g_b189 g_b503 nx503 rfl (by rcases hz with rfl | rfl | rfl | rfl <;> decide) (by rcases hz with rfl | rfl | rfl | rfl <;> decide) (by rcases hz with rfl | rfl | rfl | rfl <;> decide) (by rcases hz with rfl | rfl | rfl | rfl <;> decide) (by rcases hz with rfl | rfl | rfl | rfl <;> decide)) hZ (hw _ (List.mem_of_getElem? (i := 23) rfl)) (hw _ (List.mem_of_getElem? (i := 4) rfl)) (by decide) (by decide)) q510a q510c (g := (mkF m 83 #[.val (.int p0), .val (.int p1), .val (.int p2), .val (.int p3), .val (.int p4), .val (.int p5), .val (.int z), .val (.int n6), .val (.ref b165), .val (.ref b189), .unset, .unset] [(.int p3), (.ref b189)])) rfl (by rw [hml]; rfl) (Steps.refl _) (argsL := [(.int p3)]) (rest := []) (lenOf pd_3 rfl) rfl (by show 2 * 0 + _ ≤ _; exact Nat.le_of_eq rfl) (hb hby at_83) (fun _ _ => ⟨rfl, rfl, (by decide : 4 + 1 ≤ _), (by decide : 27 + 16 ≤ _)⟩)
    dsimp only [Pt.U, Pt.locs, Pt.cells, Pt.slots] at X510 l510 y510 z510 st510 hQ510
    subst l510 y510 z510
    obtain ⟨b510, kb510, rfl, Nq510, K510, g_b510, nx510, hor510, Ax510, Fl510, Fb510, Vx510⟩ := hQ510
    have N510 := Fr.app NH503 Nq510
    obtain ⟨LH510, XH510, NH510⟩ := own_hide X510 N510
    clear X510 N510
    have nv510 : b165 ≠ b510 := hor510.elim (fun q => by rw [q]; exact nv503) (fun q => Nat.ne_of_lt (Nat.lt_of_lt_of_le (F505).lt q))
    have Z511 : n0 ≤ T510.heap.size := Nat.le_trans Z504 K510.1
    have F512 : Arv Z T510.heap b165 c165 .int (5 : Int32) [(.int p2), (.int p3), (.int p4), (.int p5), (.int (p2 ^^^ p4))] (.int (0 : Int32)) := (F505).keep K510 (ninS ne190 (ninS nv503 nin0))
    have F513 : Exa Z T510.heap b189 "com/example/wegweiser/wegweiser/index/ByteSink" := (F506).keep K510
    have k514 : ∀ t, Steps p.tables e below (T510.setTop (mkF m 86 #[.val (.int p0), .val (.int p1), .val (.int p2), .val (.int p3), .val (.int p4), .val (.int p5), .val (.int z), .val (.int n6), .val (.ref b165), .val (.ref b189), .unset, .unset] [])) t → Steps p.tables e below (s₁.setTop (entryFrame m #[(.int p0), (.int p1), (.int p2), (.int p3), (.int p4), (.int p5)] maxLocals)) t := fun t k => k509 t (st510.trans k)
    have k516 : ∀ t, Steps p.tables e below (T510.setTop (mkF m 98 #[.val (.int p0), .val (.int p1), .val (.int p2), .val (.int p3), .val (.int p4), .val (.int p5), .val (.int z), .val (.int n6), .val (.ref b165), .val (.ref b189), .unset, .unset] [(.int p4), (.ref b189)])) t → Steps p.tables e below (s₁.setTop (entryFrame m #[(.int p0), (.int p1), (.int p2), (.int p3), (.int p4), (.int p5)] maxLocals)) t := fun t k => k514 t (by
      show Steps p.tables e below (T510.setTop (mkF m 86 #[.val (.int p0), .val (.int p1), .val (.int p2), .val (.int p3), .val (.int p4), .val (.int p5), .val (.int z), .val (.int n6), .val (.ref b165), .val (.ref b189), .unset, .unset] [])) _
      refine XS.iload XH510.here hx rfl (hb hby at_86) rfl ?_
      show Steps p.tables e below (T510.setTop (mkF m 88 #[.val (.int p0), .val (.int p1), .val (.int p2), .val (.int p3), .val (.int p4), .val (.int p5), .val (.int z), .val (.int n6), .val (.ref b165), .val (.ref b189), .unset, .unset] [(.int n6)])) _
      refine XS.iconst XH510.here hx rfl (hb hby at_88) ?_
      show Steps p.tables e below (T510.setTop (mkF m 89 #[.val (.int p0), .val (.int p1), .val (.int p2), .val (.int p3), .val (.int p4), .val (.int p5), .val (.int z), .val (.int n6), .val (.ref b165), .val (.ref b189), .unset, .unset] [(.int (2 : Int32)), (.int n6)])) _
      refine XS.icmpNo XH510.here hx rfl (hb hby at_89) rfl (tlt (by rw [hn]; decide)).2.2.2 ?_
      show Steps p.tables e below (T510.setTop (mkF m 92 #[.val (.int p0), .val (.int p1), .val (.int p2), .val (.int p3), .val (.int p4), .val (.int p5), .val (.int z), .val (.int n6), .val (.ref b165), .val (.ref b189), .unset, .unset] [])) _
      refine XS.aload XH510.here hx rfl (hb hby at_92) rfl rfl ?_
      show Steps p.tables e below (T510.setTop (mkF m 94 #[.val (.int p0), .val (.int p1), .val (.int p2), .val (.int p3), .val (.int p4), .val (.int p5), .val (.int z), .val (.int n6), .val (.ref b165), .val (.ref b189), .unset, .unset] [(.ref b189)])) _
      refine XS.aload XH510.here hx rfl (hb hby at_94) rfl rfl ?_
      show Steps p.tables e below (T510.setTop (mkF m 96 #[.val (.int p0), .val (.int p1), .val (.int p2), .val (.int p3), .val (.int p4), .val (.int p5), .val (.int z), .val (.int n6), .val (.ref b165), .val (.ref b189), .unset, .unset] [(.ref b165), (.ref b189)])) _
      refine XS.iconst XH510.here hx rfl (hb hby at_96) ?_
      show Steps p.tables e below (T510.setTop (mkF m 97 #[.val (.int p0), .val (.int p1), .val (.int p2), .val (.int p3), .val (.int p4), .val (.int p5), .val (.int z), .val (.int n6), .val (.ref b165), .val (.ref b189), .unset, .unset] [(.int (2 : Int32)), (.ref b165), (.ref b189)])) _
      obtain ⟨clq515, Arq515, -, Sq515, Nq515, Hq515, Gq515⟩ := id F512
      have hinq515 := inb_of (j := (2 : Int32)) Sq515 ⟨by decide, by decide⟩
      refine XH510.iaload hx (j := (2 : Int32)) (v := (.int p4)) (id Arq515.1) (State.isArrayOf_alike hZ.alike Arq515.2.1) Arq515.2.2 hinq515 (Has.at Hq515 hinq515 rfl) (g := (mkF m 97 #[.val (.int p0), .val (.int p1), .val (.int p2), .val (.int p3), .val (.int p4), .val (.int p5), .val (.int z), .val (.int n6), .val (.ref b165), .val (.ref b189), .unset, .unset] [(.int (2 : Int32)), (.ref b165), (.ref b189)])) rfl rfl (hb hby at_97) _ ?_
      exact k)
    have nbab510 := nx510
    obtain ⟨cq517, kq517, q517a, q517b, q517c⟩ := isOf hZ rfl F513
    obtain ⟨_, _, ⟨T517, L517, kc517, ks517⟩, -, X517, ⟨Lc517, hQ517, l517, y517, z517⟩, st517⟩ := XH510.virtualBack hx (y := (⟨"com/example/wegweiser/wegweiser/index/ByteSink", "write", "(I)V"⟩ : MethodName)) (z := (⟨"com/example/wegweiser/wegweiser/index/ByteSink", "write", "(I)V"⟩ : MethodName)) hown (mvT hZ (hw _ (List.mem_of_getElem? (i := 19) rfl))) (mvT hZ (hw _ (List.mem_of_getElem? (i := 20) rfl))) (notFace_of_selects (args := #[]) (mvT hZ (hw _ (List.mem_of_getElem? (i := 22) rfl)))) (mvT hZ (hw _ (List.mem_of_getElem? (i := 22) rfl))) (mvT hZ (hw _ (List.mem_of_getElem? (i := 21) rfl))) (by decide) (backOf (W := 0) (rm4 l Z a0 hw [] b189 p4 b510 kb510 (((0 : Int32) + (1 : Int32)) + (1 : Int32)) (own_cap ((0 : Int32) + (1 : Int32)) (own_cap (0 : Int32) z)) (([] ++ [(.int (own_b p2))]) ++ [(.int (own_b p3))]) T510.heap n0 Z511 Fl510 Fb510 F513 Vx510 g_b189 g_b510 nx510 rfl (by rcases hz with rfl | rfl | rfl | rfl <;> decide) (by rcases hz with rfl | rfl | rfl | rfl <;> decide) (by rcases hz with rfl | rfl | rfl | rfl <;> decide) (by rcases hz with rfl | rfl | rfl | rfl <;> decide) (by rcases hz with rfl | rfl | rfl | rfl <;> decide)) hZ (hw _ (List.mem_of_getElem? (i := 23) rfl)) (hw _ (List.mem_of_getElem? (i := 4) rfl)) (by decide) (by decide)) q517a q517c (g := (mkF m 98 #[.val (.int p0), .val (.int p1), .val (.int p2), .val (.int p3), .val (.int p4), .val (.int p5), .val (.int z), .val (.int n6), .val (.ref b165), .val (.ref b189), .unset, .unset] [(.int p4), (.ref b189)])) rfl (by rw [hml]; rfl) (Steps.refl _) (argsL := [(.int p4)]) (rest := []) (lenOf pd_3 rfl) rfl (by show 2 * 0 + _ ≤ _; exact Nat.le_of_eq rfl) (hb hby at_98) (fun _ _ => ⟨rfl, rfl, (by decide : 5 + 1 ≤ _), (by decide : 43 + 16 ≤ _)⟩)
    dsimp only [Pt.U, Pt.locs, Pt.cells, Pt.slots] at X517 l517 y517 z517 st517 hQ517
    subst l517 y517 z517
    obtain ⟨b517, kb517, rfl, Nq517, K517, g_b517, nx517, hor517, Ax517, Fl517, Fb517, Vx517⟩ := hQ517
    have N517 := Fr.app NH510 Nq517
    obtain ⟨LH517, XH517, NH517⟩ := own_hide X517 N517
    clear X517 N517
    have nv517 : b165 ≠ b517 := hor517.elim (fun q => by rw [q]; exact nv510) (fun q => Nat.ne_of_lt (Nat.lt_of_lt_of_le (F512).lt q))
    have Z518 : n0 ≤ T517.heap.size := Nat.le_trans Z511 K517.1
    have F519 : Arv Z T517.heap b165 c165 .int (5 : Int32) [(.int p2), (.int p3), (.int p4), (.int p5), (.int (p2 ^^^ p4))] (.int (0 : Int32)) := (F512).keep K517 (ninS ne190 (ninS nv510 nin0))
    have F520 : Exa Z T517.heap b189 "com/example/wegweiser/wegweiser/index/ByteSink" := (F513).keep K517
    have k521 : ∀ t, Steps p.tables e below (T517.setTop (mkF m 101 #[.val (.int p0), .val (.int p1), .val (.int p2), .val (.int p3), .val (.int p4), .val (.int p5), .val (.int z), .val (.int n6), .val (.ref b165), .val (.ref b189), .unset, .unset] [])) t → Steps p.tables e below (s₁.setTop (entryFrame m #[(.int p0), (.int p1), (.int p2), (.int p3), (.int p4), (.int p5)] maxLocals)) t := fun t k => k516 t (st517.trans k)
    have k523 : ∀ t, Steps p.tables e below (T517.setTop (mkF m 113 #[.val (.int p0), .val (.int p1), .val (.int p2), .val (.int p3), .val (.int p4), .val (.int p5), .val (.int z), .val (.int n6), .val (.ref b165), .val (.ref b189), .unset, .unset] [(.int p5), (.ref b189)])) t → Steps p.tables e below (s₁.setTop (entryFrame m #[(.int p0), (.int p1), (.int p2), (.int p3), (.int p4), (.int p5)] maxLocals)) t := fun t k => k521 t (by
      show Steps p.tables e below (T517.setTop (mkF m 101 #[.val (.int p0), .val (.int p1), .val (.int p2), .val (.int p3), .val (.int p4), .val (.int p5), .val (.int z), .val (.int n6), .val (.ref b165), .val (.ref b189), .unset, .unset] [])) _
      refine XS.iload XH517.here hx rfl (hb hby at_101) rfl ?_
      show Steps p.tables e below (T517.setTop (mkF m 103 #[.val (.int p0), .val (.int p1), .val (.int p2), .val (.int p3), .val (.int p4), .val (.int p5), .val (.int z), .val (.int n6), .val (.ref b165), .val (.ref b189), .unset, .unset] [(.int n6)])) _
      refine XS.iconst XH517.here hx rfl (hb hby at_103) ?_
      show Steps p.tables e below (T517.setTop (mkF m 104 #[.val (.int p0), .val (.int p1), .val (.int p2), .val (.int p3), .val (.int p4), .val (.int p5), .val (.int z), .val (.int n6), .val (.ref b165), .val (.ref b189), .unset, .unset] [(.int (3 : Int32)), (.int n6)])) _
      refine XS.icmpNo XH517.here hx rfl (hb hby at_104) rfl (tlt (by rw [hn]; decide)).2.2.2 ?_
      show Steps p.tables e below (T517.setTop (mkF m 107 #[.val (.int p0), .val (.int p1), .val (.int p2), .val (.int p3), .val (.int p4), .val (.int p5), .val (.int z), .val (.int n6), .val (.ref b165), .val (.ref b189), .unset, .unset] [])) _
      refine XS.aload XH517.here hx rfl (hb hby at_107) rfl rfl ?_
      show Steps p.tables e below (T517.setTop (mkF m 109 #[.val (.int p0), .val (.int p1), .val (.int p2), .val (.int p3), .val (.int p4), .val (.int p5), .val (.int z), .val (.int n6), .val (.ref b165), .val (.ref b189), .unset, .unset] [(.ref b189)])) _
      refine XS.aload XH517.here hx rfl (hb hby at_109) rfl rfl ?_
      show Steps p.tables e below (T517.setTop (mkF m 111 #[.val (.int p0), .val (.int p1), .val (.int p2), .val (.int p3), .val (.int p4), .val (.int p5), .val (.int z), .val (.int n6), .val (.ref b165), .val (.ref b189), .unset, .unset] [(.ref b165), (.ref b189)])) _
      refine XS.iconst XH517.here hx rfl (hb hby at_111) ?_
      show Steps p.tables e below (T517.setTop (mkF m 112 #[.val (.int p0), .val (.int p1), .val (.int p2), .val (.int p3), .val (.int p4), .val (.int p5), .val (.int z), .val (.int n6), .val (.ref b165), .val (.ref b189), .unset, .unset] [(.int (3 : Int32)), (.ref b165), (.ref b189)])) _
      obtain ⟨clq522, Arq522, -, Sq522, Nq522, Hq522, Gq522⟩ := id F519
      have hinq522 := inb_of (j := (3 : Int32)) Sq522 ⟨by decide, by decide⟩
      refine XH517.iaload hx (j := (3 : Int32)) (v := (.int p5)) (id Arq522.1) (State.isArrayOf_alike hZ.alike Arq522.2.1) Arq522.2.2 hinq522 (Has.at Hq522 hinq522 rfl) (g := (mkF m 112 #[.val (.int p0), .val (.int p1), .val (.int p2), .val (.int p3), .val (.int p4), .val (.int p5), .val (.int z), .val (.int n6), .val (.ref b165), .val (.ref b189), .unset, .unset] [(.int (3 : Int32)), (.ref b165), (.ref b189)])) rfl rfl (hb hby at_112) _ ?_
      exact k)
    have nbab517 := nx517
    obtain ⟨cq524, kq524, q524a, q524b, q524c⟩ := isOf hZ rfl F520
    obtain ⟨_, _, ⟨T524, L524, kc524, ks524⟩, -, X524, ⟨Lc524, hQ524, l524, y524, z524⟩, st524⟩ := XH517.virtualBack hx (y := (⟨"com/example/wegweiser/wegweiser/index/ByteSink", "write", "(I)V"⟩ : MethodName)) (z := (⟨"com/example/wegweiser/wegweiser/index/ByteSink", "write", "(I)V"⟩ : MethodName)) hown (mvT hZ (hw _ (List.mem_of_getElem? (i := 19) rfl))) (mvT hZ (hw _ (List.mem_of_getElem? (i := 20) rfl))) (notFace_of_selects (args := #[]) (mvT hZ (hw _ (List.mem_of_getElem? (i := 22) rfl)))) (mvT hZ (hw _ (List.mem_of_getElem? (i := 22) rfl))) (mvT hZ (hw _ (List.mem_of_getElem? (i := 21) rfl))) (by decide) (backOf (W := 0) (rm4 l Z a0 hw [] b189 p5 b517 kb517 ((((0 : Int32) + (1 : Int32)) + (1 : Int32)) + (1 : Int32)) (own_cap (((0 : Int32) + (1 : Int32)) + (1 : Int32)) (own_cap ((0 : Int32) + (1 : Int32)) (own_cap (0 : Int32) z))) ((([] ++ [(.int (own_b p2))]) ++ [(.int (own_b p3))]) ++ [(.int (own_b p4))]) T517.heap n0 Z518 Fl517 Fb517 F520 Vx517 g_b189 g_b517 nx517 rfl (by rcases hz with rfl | rfl | rfl | rfl <;> decide) (by rcases hz with rfl | rfl | rfl | rfl <;> decide) (by rcases hz with rfl | rfl | rfl | rfl <;> decide) (by rcases hz with rfl | rfl | rfl | rfl <;> decide) (by rcases hz with rfl | rfl | rfl | rfl <;> decide)) hZ (hw _ (List.mem_of_getElem? (i := 23) rfl)) (hw _ (List.mem_of_getElem? (i := 4) rfl)) (by decide) (by decide)) q524a q524c (g := (mkF m 113 #[.val (.int p0), .val (.int p1), .val (.int p2), .val (.int p3), .val (.int p4), .val (.int p5), .val (.int z), .val (.int n6), .val (.ref b165), .val (.ref b189), .unset, .unset] [(.int p5), (.ref b189)])) rfl (by rw [hml]; rfl) (Steps.refl _) (argsL := [(.int p5)]) (rest := []) (lenOf pd_3 rfl) rfl (by show 2 * 0 + _ ≤ _; exact Nat.le_of_eq rfl) (hb hby at_113) (fun _ _ => ⟨rfl, rfl, (by decide : 6 + 1 ≤ _), (by decide : 59 + 16 ≤ _)⟩)
    dsimp only [Pt.U, Pt.locs, Pt.cells, Pt.slots] at X524 l524 y524 z524 st524 hQ524
    subst l524 y524 z524
    obtain ⟨b524, kb524, rfl, Nq524, K524, g_b524, nx524, hor524, Ax524, Fl524, Fb524, Vx524⟩ := hQ524
    have N524 := Fr.app NH517 Nq524
    obtain ⟨LH524, XH524, NH524⟩ := own_hide X524 N524
    clear X524 N524
    have nv524 : b165 ≠ b524 := hor524.elim (fun q => by rw [q]; exact nv517) (fun q => Nat.ne_of_lt (Nat.lt_of_lt_of_le (F519).lt q))
    have Z525 : n0 ≤ T524.heap.size := Nat.le_trans Z518 K524.1
    have F526 : Arv Z T524.heap b165 c165 .int (5 : Int32) [(.int p2), (.int p3), (.int p4), (.int p5), (.int (p2 ^^^ p4))] (.int (0 : Int32)) := (F519).keep K524 (ninS ne190 (ninS nv517 nin0))
    have F527 : Exa Z T524.heap b189 "com/example/wegweiser/wegweiser/index/ByteSink" := (F520).keep K524
    have k528 : ∀ t, Steps p.tables e below (T524.setTop (mkF m 116 #[.val (.int p0), .val (.int p1), .val (.int p2), .val (.int p3), .val (.int p4), .val (.int p5), .val (.int z), .val (.int n6), .val (.ref b165), .val (.ref b189), .unset, .unset] [])) t → Steps p.tables e below (s₁.setTop (entryFrame m #[(.int p0), (.int p1), (.int p2), (.int p3), (.int p4), (.int p5)] maxLocals)) t := fun t k => k523 t (st524.trans k)
    have k530 : ∀ t, Steps p.tables e below (T524.setTop (mkF m 128 #[.val (.int p0), .val (.int p1), .val (.int p2), .val (.int p3), .val (.int p4), .val (.int p5), .val (.int z), .val (.int n6), .val (.ref b165), .val (.ref b189), .unset, .unset] [(.int (p2 ^^^ p4)), (.ref b189)])) t → Steps p.tables e below (s₁.setTop (entryFrame m #[(.int p0), (.int p1), (.int p2), (.int p3), (.int p4), (.int p5)] maxLocals)) t := fun t k => k528 t (by
      show Steps p.tables e below (T524.setTop (mkF m 116 #[.val (.int p0), .val (.int p1), .val (.int p2), .val (.int p3), .val (.int p4), .val (.int p5), .val (.int z), .val (.int n6), .val (.ref b165), .val (.ref b189), .unset, .unset] [])) _
      refine XS.iload XH524.here hx rfl (hb hby at_116) rfl ?_
      show Steps p.tables e below (T524.setTop (mkF m 118 #[.val (.int p0), .val (.int p1), .val (.int p2), .val (.int p3), .val (.int p4), .val (.int p5), .val (.int z), .val (.int n6), .val (.ref b165), .val (.ref b189), .unset, .unset] [(.int n6)])) _
      refine XS.iconst XH524.here hx rfl (hb hby at_118) ?_
      show Steps p.tables e below (T524.setTop (mkF m 119 #[.val (.int p0), .val (.int p1), .val (.int p2), .val (.int p3), .val (.int p4), .val (.int p5), .val (.int z), .val (.int n6), .val (.ref b165), .val (.ref b189), .unset, .unset] [(.int (4 : Int32)), (.int n6)])) _
      refine XS.icmpNo XH524.here hx rfl (hb hby at_119) rfl (tlt (by rw [hn]; decide)).2.2.2 ?_
      show Steps p.tables e below (T524.setTop (mkF m 122 #[.val (.int p0), .val (.int p1), .val (.int p2), .val (.int p3), .val (.int p4), .val (.int p5), .val (.int z), .val (.int n6), .val (.ref b165), .val (.ref b189), .unset, .unset] [])) _
      refine XS.aload XH524.here hx rfl (hb hby at_122) rfl rfl ?_
      show Steps p.tables e below (T524.setTop (mkF m 124 #[.val (.int p0), .val (.int p1), .val (.int p2), .val (.int p3), .val (.int p4), .val (.int p5), .val (.int z), .val (.int n6), .val (.ref b165), .val (.ref b189), .unset, .unset] [(.ref b189)])) _
      refine XS.aload XH524.here hx rfl (hb hby at_124) rfl rfl ?_
      show Steps p.tables e below (T524.setTop (mkF m 126 #[.val (.int p0), .val (.int p1), .val (.int p2), .val (.int p3), .val (.int p4), .val (.int p5), .val (.int z), .val (.int n6), .val (.ref b165), .val (.ref b189), .unset, .unset] [(.ref b165), (.ref b189)])) _
      refine XS.iconst XH524.here hx rfl (hb hby at_126) ?_
      show Steps p.tables e below (T524.setTop (mkF m 127 #[.val (.int p0), .val (.int p1), .val (.int p2), .val (.int p3), .val (.int p4), .val (.int p5), .val (.int z), .val (.int n6), .val (.ref b165), .val (.ref b189), .unset, .unset] [(.int (4 : Int32)), (.ref b165), (.ref b189)])) _
      obtain ⟨clq529, Arq529, -, Sq529, Nq529, Hq529, Gq529⟩ := id F526
      have hinq529 := inb_of (j := (4 : Int32)) Sq529 ⟨by decide, by decide⟩
      refine XH524.iaload hx (j := (4 : Int32)) (v := (.int (p2 ^^^ p4))) (id Arq529.1) (State.isArrayOf_alike hZ.alike Arq529.2.1) Arq529.2.2 hinq529 (Has.at Hq529 hinq529 rfl) (g := (mkF m 127 #[.val (.int p0), .val (.int p1), .val (.int p2), .val (.int p3), .val (.int p4), .val (.int p5), .val (.int z), .val (.int n6), .val (.ref b165), .val (.ref b189), .unset, .unset] [(.int (4 : Int32)), (.ref b165), (.ref b189)])) rfl rfl (hb hby at_127) _ ?_
      exact k)
    have nbab524 := nx524
    obtain ⟨cq531, kq531, q531a, q531b, q531c⟩ := isOf hZ rfl F527
    obtain ⟨_, _, ⟨T531, L531, kc531, ks531⟩, -, X531, ⟨Lc531, hQ531, l531, y531, z531⟩, st531⟩ := XH524.virtualBack hx (y := (⟨"com/example/wegweiser/wegweiser/index/ByteSink", "write", "(I)V"⟩ : MethodName)) (z := (⟨"com/example/wegweiser/wegweiser/index/ByteSink", "write", "(I)V"⟩ : MethodName)) hown (mvT hZ (hw _ (List.mem_of_getElem? (i := 19) rfl))) (mvT hZ (hw _ (List.mem_of_getElem? (i := 20) rfl))) (notFace_of_selects (args := #[]) (mvT hZ (hw _ (List.mem_of_getElem? (i := 22) rfl)))) (mvT hZ (hw _ (List.mem_of_getElem? (i := 22) rfl))) (mvT hZ (hw _ (List.mem_of_getElem? (i := 21) rfl))) (by decide) (backOf (W := 0) (rm4 l Z a0 hw [] b189 (p2 ^^^ p4) b524 kb524 (((((0 : Int32) + (1 : Int32)) + (1 : Int32)) + (1 : Int32)) + (1 : Int32)) (own_cap ((((0 : Int32) + (1 : Int32)) + (1 : Int32)) + (1 : Int32)) (own_cap (((0 : Int32) + (1 : Int32)) + (1 : Int32)) (own_cap ((0 : Int32) + (1 : Int32)) (own_cap (0 : Int32) z)))) (((([] ++ [(.int (own_b p2))]) ++ [(.int (own_b p3))]) ++ [(.int (own_b p4))]) ++ [(.int (own_b p5))]) T524.heap n0 Z525 Fl524 Fb524 F527 Vx524 g_b189 g_b524 nx524 rfl (by rcases hz with rfl | rfl | rfl | rfl <;> decide) (by rcases hz with rfl | rfl | rfl | rfl <;> decide) (by rcases hz with rfl | rfl | rfl | rfl <;> decide) (by rcases hz with rfl | rfl | rfl | rfl <;> decide) (by rcases hz with rfl | rfl | rfl | rfl <;> decide)) hZ (hw _ (List.mem_of_getElem? (i := 23) rfl)) (hw _ (List.mem_of_getElem? (i := 4) rfl)) (by decide) (by decide)) q531a q531c (g := (mkF m 128 #[.val (.int p0), .val (.int p1), .val (.int p2), .val (.int p3), .val (.int p4), .val (.int p5), .val (.int z), .val (.int n6), .val (.ref b165), .val (.ref b189), .unset, .unset] [(.int (p2 ^^^ p4)), (.ref b189)])) rfl (by rw [hml]; rfl) (Steps.refl _) (argsL := [(.int (p2 ^^^ p4))]) (rest := []) (lenOf pd_3 rfl) rfl (by show 2 * 0 + _ ≤ _; exact Nat.le_of_eq rfl) (hb hby at_128) (fun _ _ => ⟨rfl, rfl, (by decide : 7 + 1 ≤ _), (by decide : 75 + 16 ≤ _)⟩)
    dsimp only [Pt.U, Pt.locs, Pt.cells, Pt.slots] at X531 l531 y531 z531 st531 hQ531
    subst l531 y531 z531
    obtain ⟨b531, kb531, rfl, Nq531, K531, g_b531, nx531, hor531, Ax531, Fl531, Fb531, Vx531⟩ := hQ531
    have N531 := Fr.app NH524 Nq531
    obtain ⟨LH531, XH531, NH531⟩ := own_hide X531 N531
    clear X531 N531
    have nv531 : b165 ≠ b531 := hor531.elim (fun q => by rw [q]; exact nv524) (fun q => Nat.ne_of_lt (Nat.lt_of_lt_of_le (F526).lt q))
    have Z532 : n0 ≤ T531.heap.size := Nat.le_trans Z525 K531.1
    have F533 : Arv Z T531.heap b165 c165 .int (5 : Int32) [(.int p2), (.int p3), (.int p4), (.int p5), (.int (p2 ^^^ p4))] (.int (0 : Int32)) := (F526).keep K531 (ninS ne190 (ninS nv524 nin0))
    have F534 : Exa Z T531.heap b189 "com/example/wegweiser/wegweiser/index/ByteSink" := (F527).keep K531
    have k535 : ∀ t, Steps p.tables e below (T531.setTop (mkF m 131 #[.val (.int p0), .val (.int p1), .val (.int p2), .val (.int p3), .val (.int p4), .val (.int p5), .val (.int z), .val (.int n6), .val (.ref b165), .val (.ref b189), .unset, .unset] [])) t → Steps p.tables e below (s₁.setTop (entryFrame m #[(.int p0), (.int p1), (.int p2), (.int p3), (.int p4), (.int p5)] maxLocals)) t := fun t k => k530 t (st531.trans k)
    have k536 : ∀ t, Steps p.tables e below (T531.setTop (mkF m 139 #[.val (.int p0), .val (.int p1), .val (.int p2), .val (.int p3), .val (.int p4), .val (.int p5), .val (.int z), .val (.int n6), .val (.ref b165), .val (.ref b189), .val (.int z), .unset] [(.int z), (.int n6)])) t → Steps p.tables e below (s₁.setTop (entryFrame m #[(.int p0), (.int p1), (.int p2), (.int p3), (.int p4), (.int p5)] maxLocals)) t := fun t k => k535 t (by
      show Steps p.tables e below (T531.setTop (mkF m 131 #[.val (.int p0), .val (.int p1), .val (.int p2), .val (.int p3), .val (.int p4), .val (.int p5), .val (.int z), .val (.int n6), .val (.ref b165), .val (.ref b189), .unset, .unset] [])) _
      refine XS.iload XH531.here hx rfl (hb hby at_131) rfl ?_
      show Steps p.tables e below (T531.setTop (mkF m 133 #[.val (.int p0), .val (.int p1), .val (.int p2), .val (.int p3), .val (.int p4), .val (.int p5), .val (.int z), .val (.int n6), .val (.ref b165), .val (.ref b189), .unset, .unset] [(.int z)])) _
      refine XS.istore XH531.here hx rfl (hb hby at_133) rfl (l' := #[.val (.int p0), .val (.int p1), .val (.int p2), .val (.int p3), .val (.int p4), .val (.int p5), .val (.int z), .val (.int n6), .val (.ref b165), .val (.ref b189), .val (.int z), .unset]) rfl ?_
      show Steps p.tables e below (T531.setTop (mkF m 135 #[.val (.int p0), .val (.int p1), .val (.int p2), .val (.int p3), .val (.int p4), .val (.int p5), .val (.int z), .val (.int n6), .val (.ref b165), .val (.ref b189), .val (.int z), .unset] [])) _
      refine XS.iload XH531.here hx rfl (hb hby at_135) rfl ?_
      show Steps p.tables e below (T531.setTop (mkF m 137 #[.val (.int p0), .val (.int p1), .val (.int p2), .val (.int p3), .val (.int p4), .val (.int p5), .val (.int z), .val (.int n6), .val (.ref b165), .val (.ref b189), .val (.int z), .unset] [(.int n6)])) _
      refine XS.iload XH531.here hx rfl (hb hby at_137) rfl ?_
      exact k)
    have k538 : ∀ t, Steps p.tables e below (T531.setTop (mkF m 148 #[.val (.int p0), .val (.int p1), .val (.int p2), .val (.int p3), .val (.int p4), .val (.int p5), .val (.int z), .val (.int n6), .val (.ref b165), .val (.ref b189), .val (.int (if z < n6 then (z * (2 : Int32)) else z)), .unset] [])) t → Steps p.tables e below (s₁.setTop (entryFrame m #[(.int p0), (.int p1), (.int p2), (.int p3), (.int p4), (.int p5)] maxLocals)) t := fun t k => k536 t (by
      by_cases hq537 : z < n6
      · simp only [if_pos hq537] at k
        show Steps p.tables e below (T531.setTop (mkF m 139 #[.val (.int p0), .val (.int p1), .val (.int p2), .val (.int p3), .val (.int p4), .val (.int p5), .val (.int z), .val (.int n6), .val (.ref b165), .val (.ref b189), .val (.int z), .unset] [(.int z), (.int n6)])) _
        refine XS.icmpNo XH531.here hx rfl (hb hby at_139) rfl (tlt hq537).2.2.2 ?_
        show Steps p.tables e below (T531.setTop (mkF m 142 #[.val (.int p0), .val (.int p1), .val (.int p2), .val (.int p3), .val (.int p4), .val (.int p5), .val (.int z), .val (.int n6), .val (.ref b165), .val (.ref b189), .val (.int z), .unset] [])) _
        refine XS.iload XH531.here hx rfl (hb hby at_142) rfl ?_
        show Steps p.tables e below (T531.setTop (mkF m 144 #[.val (.int p0), .val (.int p1), .val (.int p2), .val (.int p3), .val (.int p4), .val (.int p5), .val (.int z), .val (.int n6), .val (.ref b165), .val (.ref b189), .val (.int z), .unset] [(.int z)])) _
        refine XS.iconst XH531.here hx rfl (hb hby at_144) ?_
        show Steps p.tables e below (T531.setTop (mkF m 145 #[.val (.int p0), .val (.int p1), .val (.int p2), .val (.int p3), .val (.int p4), .val (.int p5), .val (.int z), .val (.int n6), .val (.ref b165), .val (.ref b189), .val (.int z), .unset] [(.int (2 : Int32)), (.int z)])) _
        refine XS.imul XH531.here hx rfl (hb hby at_145) rfl ?_
        show Steps p.tables e below (T531.setTop (mkF m 146 #[.val (.int p0), .val (.int p1), .val (.int p2), .val (.int p3), .val (.int p4), .val (.int p5), .val (.int z), .val (.int n6), .val (.ref b165), .val (.ref b189), .val (.int z), .unset] [(.int (z * (2 : Int32)))])) _
        refine XS.istore XH531.here hx rfl (hb hby at_146) rfl (l' := #[.val (.int p0), .val (.int p1), .val (.int p2), .val (.int p3), .val (.int p4), .val (.int p5), .val (.int z), .val (.int n6), .val (.ref b165), .val (.ref b189), .val (.int (z * (2 : Int32))), .unset]) rfl ?_
        exact k
      · simp only [if_neg hq537] at k
        show Steps p.tables e below (T531.setTop (mkF m 139 #[.val (.int p0), .val (.int p1), .val (.int p2), .val (.int p3), .val (.int p4), .val (.int p5), .val (.int z), .val (.int n6), .val (.ref b165), .val (.ref b189), .val (.int z), .unset] [(.int z), (.int n6)])) _
        refine XS.icmpYes XH531.here hx rfl (pc0 := 139) (pc' := 148) rfl (hb hby at_139) rfl (flt hq537).2.2.2 (by decide) (by decide) ?_
        exact k)
    have k539 : ∀ t, Steps p.tables e below (T531.setTop (mkF m 152 #[.val (.int p0), .val (.int p1), .val (.int p2), .val (.int p3), .val (.int p4), .val (.int p5), .val (.int z), .val (.int n6), .val (.ref b165), .val (.ref b189), .val (.int (if z < n6 then (z * (2 : Int32)) else z)), .unset] [(.int (if z < n6 then (z * (2 : Int32)) else z)), (.int n6)])) t → Steps p.tables e below (s₁.setTop (entryFrame m #[(.int p0), (.int p1), (.int p2), (.int p3), (.int p4), (.int p5)] maxLocals)) t := fun t k => k538 t (by
      show Steps p.tables e below (T531.setTop (mkF m 148 #[.val (.int p0), .val (.int p1), .val (.int p2), .val (.int p3), .val (.int p4), .val (.int p5), .val (.int z), .val (.int n6), .val (.ref b165), .val (.ref b189), .val (.int (if z < n6 then (z * (2 : Int32)) else z)), .unset] [])) _
      refine XS.iload XH531.here hx rfl (hb hby at_148) rfl ?_
      show Steps p.tables e below (T531.setTop (mkF m 150 #[.val (.int p0), .val (.int p1), .val (.int p2), .val (.int p3), .val (.int p4), .val (.int p5), .val (.int z), .val (.int n6), .val (.ref b165), .val (.ref b189), .val (.int (if z < n6 then (z * (2 : Int32)) else z)), .unset] [(.int n6)])) _
      refine XS.iload XH531.here hx rfl (hb hby at_150) rfl ?_
      exact k)
    have k541 : ∀ t, Steps p.tables e below (T531.setTop (mkF m 161 #[.val (.int p0), .val (.int p1), .val (.int p2), .val (.int p3), .val (.int p4), .val (.int p5), .val (.int z), .val (.int n6), .val (.ref b165), .val (.ref b189), .val (.int (if (if z < n6 then (z * (2 : Int32)) else z) < n6 then ((if z < n6 then (z * (2 : Int32)) else z) * (2 : Int32)) else (if z < n6 then (z * (2 : Int32)) else z))), .unset] [])) t → Steps p.tables e below (s₁.setTop (entryFrame m #[(.int p0), (.int p1), (.int p2), (.int p3), (.int p4), (.int p5)] maxLocals)) t := fun t k => k539 t (by
      by_cases hq540 : (if z < n6 then (z * (2 : Int32)) else z) < n6
      · simp only [if_pos hq540] at k
        show Steps p.tables e below (T531.setTop (mkF m 152 #[.val (.int p0), .val (.int p1), .val (.int p2), .val (.int p3), .val (.int p4), .val (.int p5), .val (.int z), .val (.int n6), .val (.ref b165), .val (.ref b189), .val (.int (if z < n6 then (z * (2 : Int32)) else z)), .unset] [(.int (if z < n6 then (z * (2 : Int32)) else z)), (.int n6)])) _
        refine XS.icmpNo XH531.here hx rfl (hb hby at_152) rfl (tlt hq540).2.2.2 ?_
        show Steps p.tables e below (T531.setTop (mkF m 155 #[.val (.int p0), .val (.int p1), .val (.int p2), .val (.int p3), .val (.int p4), .val (.int p5), .val (.int z), .val (.int n6), .val (.ref b165), .val (.ref b189), .val (.int (if z < n6 then (z * (2 : Int32)) else z)), .unset] [])) _
        refine XS.iload XH531.here hx rfl (hb hby at_155) rfl ?_
        show Steps p.tables e below (T531.setTop (mkF m 157 #[.val (.int p0), .val (.int p1), .val (.int p2), .val (.int p3), .val (.int p4), .val (.int p5), .val (.int z), .val (.int n6), .val (.ref b165), .val (.ref b189), .val (.int (if z < n6 then (z * (2 : Int32)) else z)), .unset] [(.int (if z < n6 then (z * (2 : Int32)) else z))])) _
        refine XS.iconst XH531.here hx rfl (hb hby at_157) ?_
        show Steps p.tables e below (T531.setTop (mkF m 158 #[.val (.int p0), .val (.int p1), .val (.int p2), .val (.int p3), .val (.int p4), .val (.int p5), .val (.int z), .val (.int n6), .val (.ref b165), .val (.ref b189), .val (.int (if z < n6 then (z * (2 : Int32)) else z)), .unset] [(.int (2 : Int32)), (.int (if z < n6 then (z * (2 : Int32)) else z))])) _
        refine XS.imul XH531.here hx rfl (hb hby at_158) rfl ?_
        show Steps p.tables e below (T531.setTop (mkF m 159 #[.val (.int p0), .val (.int p1), .val (.int p2), .val (.int p3), .val (.int p4), .val (.int p5), .val (.int z), .val (.int n6), .val (.ref b165), .val (.ref b189), .val (.int (if z < n6 then (z * (2 : Int32)) else z)), .unset] [(.int ((if z < n6 then (z * (2 : Int32)) else z) * (2 : Int32)))])) _
        refine XS.istore XH531.here hx rfl (hb hby at_159) rfl (l' := #[.val (.int p0), .val (.int p1), .val (.int p2), .val (.int p3), .val (.int p4), .val (.int p5), .val (.int z), .val (.int n6), .val (.ref b165), .val (.ref b189), .val (.int ((if z < n6 then (z * (2 : Int32)) else z) * (2 : Int32))), .unset]) rfl ?_
        exact k
      · simp only [if_neg hq540] at k
        show Steps p.tables e below (T531.setTop (mkF m 152 #[.val (.int p0), .val (.int p1), .val (.int p2), .val (.int p3), .val (.int p4), .val (.int p5), .val (.int z), .val (.int n6), .val (.ref b165), .val (.ref b189), .val (.int (if z < n6 then (z * (2 : Int32)) else z)), .unset] [(.int (if z < n6 then (z * (2 : Int32)) else z)), (.int n6)])) _
        refine XS.icmpYes XH531.here hx rfl (pc0 := 152) (pc' := 161) rfl (hb hby at_152) rfl (flt hq540).2.2.2 (by decide) (by decide) ?_
        exact k)
    have k542 : ∀ t, Steps p.tables e below (T531.setTop (mkF m 165 #[.val (.int p0), .val (.int p1), .val (.int p2), .val (.int p3), .val (.int p4), .val (.int p5), .val (.int z), .val (.int n6), .val (.ref b165), .val (.ref b189), .val (.int (if (if z < n6 then (z * (2 : Int32)) else z) < n6 then ((if z < n6 then (z * (2 : Int32)) else z) * (2 : Int32)) else (if z < n6 then (z * (2 : Int32)) else z))), .unset] [(.int (if (if z < n6 then (z * (2 : Int32)) else z) < n6 then ((if z < n6 then (z * (2 : Int32)) else z) * (2 : Int32)) else (if z < n6 then (z * (2 : Int32)) else z))), (.int n6)])) t → Steps p.tables e below (s₁.setTop (entryFrame m #[(.int p0), (.int p1), (.int p2), (.int p3), (.int p4), (.int p5)] maxLocals)) t := fun t k => k541 t (by
      show Steps p.tables e below (T531.setTop (mkF m 161 #[.val (.int p0), .val (.int p1), .val (.int p2), .val (.int p3), .val (.int p4), .val (.int p5), .val (.int z), .val (.int n6), .val (.ref b165), .val (.ref b189), .val (.int (if (if z < n6 then (z * (2 : Int32)) else z) < n6 then ((if z < n6 then (z * (2 : Int32)) else z) * (2 : Int32)) else (if z < n6 then (z * (2 : Int32)) else z))), .unset] [])) _
      refine XS.iload XH531.here hx rfl (hb hby at_161) rfl ?_
      show Steps p.tables e below (T531.setTop (mkF m 163 #[.val (.int p0), .val (.int p1), .val (.int p2), .val (.int p3), .val (.int p4), .val (.int p5), .val (.int z), .val (.int n6), .val (.ref b165), .val (.ref b189), .val (.int (if (if z < n6 then (z * (2 : Int32)) else z) < n6 then ((if z < n6 then (z * (2 : Int32)) else z) * (2 : Int32)) else (if z < n6 then (z * (2 : Int32)) else z))), .unset] [(.int n6)])) _
      refine XS.iload XH531.here hx rfl (hb hby at_163) rfl ?_
      exact k)
    have k544 : ∀ t, Steps p.tables e below (T531.setTop (mkF m 174 #[.val (.int p0), .val (.int p1), .val (.int p2), .val (.int p3), .val (.int p4), .val (.int p5), .val (.int z), .val (.int n6), .val (.ref b165), .val (.ref b189), .val (.int (if (if (if z < n6 then (z * (2 : Int32)) else z) < n6 then ((if z < n6 then (z * (2 : Int32)) else z) * (2 : Int32)) else (if z < n6 then (z * (2 : Int32)) else z)) < n6 then ((if (if z < n6 then (z * (2 : Int32)) else z) < n6 then ((if z < n6 then (z * (2 : Int32)) else z) * (2 : Int32)) else (if z < n6 then (z * (2 : Int32)) else z)) * (2 : Int32)) else (if (if z < n6 then (z * (2 : Int32)) else z) < n6 then ((if z < n6 then (z * (2 : Int32)) else z) * (2 : Int32)) else (if z < n6 then (z * (2 : Int32)) else z)))), .unset] [])) t → Steps p.tables e below (s₁.setTop (entryFrame m #[(.int p0), (.int p1), (.int p2), (.int p3), (.int p4), (.int p5)] maxLocals)) t := fun t k => k542 t (by
      by_cases hq543 : (if (if z < n6 then (z * (2 : Int32)) else z) < n6 then ((if z < n6 then (z * (2 : Int32)) else z) * (2 : Int32)) else (if z < n6 then (z * (2 : Int32)) else z)) < n6
      · simp only [if_pos hq543] at k
        show Steps p.tables e below (T531.setTop (mkF m 165 #[.val (.int p0), .val (.int p1), .val (.int p2), .val (.int p3), .val (.int p4), .val (.int p5), .val (.int z), .val (.int n6), .val (.ref b165), .val (.ref b189), .val (.int (if (if z < n6 then (z * (2 : Int32)) else z) < n6 then ((if z < n6 then (z * (2 : Int32)) else z) * (2 : Int32)) else (if z < n6 then (z * (2 : Int32)) else z))), .unset] [(.int (if (if z < n6 then (z * (2 : Int32)) else z) < n6 then ((if z < n6 then (z * (2 : Int32)) else z) * (2 : Int32)) else (if z < n6 then (z * (2 : Int32)) else z))), (.int n6)])) _
        refine XS.icmpNo XH531.here hx rfl (hb hby at_165) rfl (tlt hq543).2.2.2 ?_
        show Steps p.tables e below (T531.setTop (mkF m 168 #[.val (.int p0), .val (.int p1), .val (.int p2), .val (.int p3), .val (.int p4), .val (.int p5), .val (.int z), .val (.int n6), .val (.ref b165), .val (.ref b189), .val (.int (if (if z < n6 then (z * (2 : Int32)) else z) < n6 then ((if z < n6 then (z * (2 : Int32)) else z) * (2 : Int32)) else (if z < n6 then (z * (2 : Int32)) else z))), .unset] [])) _
        refine XS.iload XH531.here hx rfl (hb hby at_168) rfl ?_
        show Steps p.tables e below (T531.setTop (mkF m 170 #[.val (.int p0), .val (.int p1), .val (.int p2), .val (.int p3), .val (.int p4), .val (.int p5), .val (.int z), .val (.int n6), .val (.ref b165), .val (.ref b189), .val (.int (if (if z < n6 then (z * (2 : Int32)) else z) < n6 then ((if z < n6 then (z * (2 : Int32)) else z) * (2 : Int32)) else (if z < n6 then (z * (2 : Int32)) else z))), .unset] [(.int (if (if z < n6 then (z * (2 : Int32)) else z) < n6 then ((if z < n6 then (z * (2 : Int32)) else z) * (2 : Int32)) else (if z < n6 then (z * (2 : Int32)) else z)))])) _
        refine XS.iconst XH531.here hx rfl (hb hby at_170) ?_
        show Steps p.tables e below (T531.setTop (mkF m 171 #[.val (.int p0), .val (.int p1), .val (.int p2), .val (.int p3), .val (.int p4), .val (.int p5), .val (.int z), .val (.int n6), .val (.ref b165), .val (.ref b189), .val (.int (if (if z < n6 then (z * (2 : Int32)) else z) < n6 then ((if z < n6 then (z * (2 : Int32)) else z) * (2 : Int32)) else (if z < n6 then (z * (2 : Int32)) else z))), .unset] [(.int (2 : Int32)), (.int (if (if z < n6 then (z * (2 : Int32)) else z) < n6 then ((if z < n6 then (z * (2 : Int32)) else z) * (2 : Int32)) else (if z < n6 then (z * (2 : Int32)) else z)))])) _
        refine XS.imul XH531.here hx rfl (hb hby at_171) rfl ?_
        show Steps p.tables e below (T531.setTop (mkF m 172 #[.val (.int p0), .val (.int p1), .val (.int p2), .val (.int p3), .val (.int p4), .val (.int p5), .val (.int z), .val (.int n6), .val (.ref b165), .val (.ref b189), .val (.int (if (if z < n6 then (z * (2 : Int32)) else z) < n6 then ((if z < n6 then (z * (2 : Int32)) else z) * (2 : Int32)) else (if z < n6 then (z * (2 : Int32)) else z))), .unset] [(.int ((if (if z < n6 then (z * (2 : Int32)) else z) < n6 then ((if z < n6 then (z * (2 : Int32)) else z) * (2 : Int32)) else (if z < n6 then (z * (2 : Int32)) else z)) * (2 : Int32)))])) _
        refine XS.istore XH531.here hx rfl (hb hby at_172) rfl (l' := #[.val (.int p0), .val (.int p1), .val (.int p2), .val (.int p3), .val (.int p4), .val (.int p5), .val (.int z), .val (.int n6), .val (.ref b165), .val (.ref b189), .val (.int ((if (if z < n6 then (z * (2 : Int32)) else z) < n6 then ((if z < n6 then (z * (2 : Int32)) else z) * (2 : Int32)) else (if z < n6 then (z * (2 : Int32)) else z)) * (2 : Int32))), .unset]) rfl ?_
        exact k
      · simp only [if_neg hq543] at k
        show Steps p.tables e below (T531.setTop (mkF m 165 #[.val (.int p0), .val (.int p1), .val (.int p2), .val (.int p3), .val (.int p4), .val (.int p5), .val (.int z), .val (.int n6), .val (.ref b165), .val (.ref b189), .val (.int (if (if z < n6 then (z * (2 : Int32)) else z) < n6 then ((if z < n6 then (z * (2 : Int32)) else z) * (2 : Int32)) else (if z < n6 then (z * (2 : Int32)) else z))), .unset] [(.int (if (if z < n6 then (z * (2 : Int32)) else z) < n6 then ((if z < n6 then (z * (2 : Int32)) else z) * (2 : Int32)) else (if z < n6 then (z * (2 : Int32)) else z))), (.int n6)])) _
        refine XS.icmpYes XH531.here hx rfl (pc0 := 165) (pc' := 174) rfl (hb hby at_165) rfl (flt hq543).2.2.2 (by decide) (by decide) ?_
        exact k)
    obtain ⟨ec, hec⟩ : ∃ zz_, zz_ = (if (if (if z < n6 then (z * (2 : Int32)) else z) < n6 then ((if z < n6 then (z * (2 : Int32)) else z) * (2 : Int32)) else (if z < n6 then (z * (2 : Int32)) else z)) < n6 then ((if (if z < n6 then (z * (2 : Int32)) else z) < n6 then ((if z < n6 then (z * (2 : Int32)) else z) * (2 : Int32)) else (if z < n6 then (z * (2 : Int32)) else z)) * (2 : Int32)) else (if (if z < n6 then (z * (2 : Int32)) else z) < n6 then ((if z < n6 then (z * (2 : Int32)) else z) * (2 : Int32)) else (if z < n6 then (z * (2 : Int32)) else z))) := ⟨_, rfl⟩
    rw [← hec] at k544
    have k545 : ∀ t, Steps p.tables e below (T531.setTop (mkF m 176 #[.val (.int p0), .val (.int p1), .val (.int p2), .val (.int p3), .val (.int p4), .val (.int p5), .val (.int z), .val (.int n6), .val (.ref b165), .val (.ref b189), .val (.int ec), .unset] [(.ref b189)])) t → Steps p.tables e below (s₁.setTop (entryFrame m #[(.int p0), (.int p1), (.int p2), (.int p3), (.int p4), (.int p5)] maxLocals)) t := fun t k => k544 t (by
      show Steps p.tables e below (T531.setTop (mkF m 174 #[.val (.int p0), .val (.int p1), .val (.int p2), .val (.int p3), .val (.int p4), .val (.int p5), .val (.int z), .val (.int n6), .val (.ref b165), .val (.ref b189), .val (.int ec), .unset] [])) _
      refine XS.aload XH531.here hx rfl (hb hby at_174) rfl rfl ?_
      exact k)
    obtain ⟨cq546, kq546, q546a, q546b, q546c⟩ := isOf hZ rfl F534
    obtain ⟨_, _, ⟨T546, L546, kc546, ks546⟩, -, X546, ⟨Lc546, hQ546, l546, y546, z546⟩, st546⟩ := XH531.virtualBack hx (y := (⟨"com/example/wegweiser/wegweiser/index/ByteSink", "length", "()I"⟩ : MethodName)) (z := (⟨"com/example/wegweiser/wegweiser/index/ByteSink", "length", "()I"⟩ : MethodName)) hown (mvT hZ (hw _ (List.mem_of_getElem? (i := 38) rfl))) (mvT hZ (hw _ (List.mem_of_getElem? (i := 39) rfl))) (notFace_of_selects (args := #[]) (mvT hZ (hw _ (List.mem_of_getElem? (i := 41) rfl)))) (mvT hZ (hw _ (List.mem_of_getElem? (i := 41) rfl))) (mvT hZ (hw _ (List.mem_of_getElem? (i := 40) rfl))) (by decide) (backOf (W := 0) (rm7 l Z a0 hw [] b189 ((((((0 : Int32) + (1 : Int32)) + (1 : Int32)) + (1 : Int32)) + (1 : Int32)) + (1 : Int32)) T531.heap n0 Z532 Fl531) hZ (hw _ (List.mem_of_getElem? (i := 42) rfl)) (hw _ (List.mem_of_getElem? (i := 4) rfl)) (by decide) (by decide)) q546a q546c (g := (mkF m 176 #[.val (.int p0), .val (.int p1), .val (.int p2), .val (.int p3), .val (.int p4), .val (.int p5), .val (.int z), .val (.int n6), .val (.ref b165), .val (.ref b189), .val (.int ec), .unset] [(.ref b189)])) rfl (by rw [hml]; rfl) (Steps.refl _) (argsL := []) (rest := []) (lenOf pd_4 rfl) rfl (by show 2 * 0 + _ ≤ _; exact Nat.le_of_eq rfl) (hb hby at_176) (fun _ _ => ⟨rfl, rfl, (by decide : 8 + 0 ≤ _), (by decide : 91 + 0 ≤ _)⟩)
    dsimp only [Pt.U, Pt.locs, Pt.cells, Pt.slots] at X546 l546 y546 z546 st546 hQ546
    subst l546 y546 z546
    obtain ⟨rfl, Nq546, eq546⟩ := hQ546
    have N546 := Fr.app NH531 Nq546
    obtain ⟨LH546, XH546, NH546⟩ := own_hide X546 N546
    clear X546 N546
    have k547 : ∀ t, Steps p.tables e below (T546.setTop (mkF m 179 #[.val (.int p0), .val (.int p1), .val (.int p2), .val (.int p3), .val (.int p4), .val (.int p5), .val (.int z), .val (.int n6), .val (.ref b165), .val (.ref b189), .val (.int ec), .unset] [(.int ((((((0 : Int32) + (1 : Int32)) + (1 : Int32)) + (1 : Int32)) + (1 : Int32)) + (1 : Int32)))])) t → Steps p.tables e below (s₁.setTop (entryFrame m #[(.int p0), (.int p1), (.int p2), (.int p3), (.int p4), (.int p5)] maxLocals)) t := fun t k => k545 t (st546.trans k)
    have k548 : ∀ t, Steps p.tables e below (T546.setTop (mkF m 188 #[.val (.int p0), .val (.int p1), .val (.int p2), .val (.int p3), .val (.int p4), .val (.int p5), .val (.int z), .val (.int n6), .val (.ref b165), .val (.ref b189), .val (.int ec), .unset] [(.ref b189)])) t → Steps p.tables e below (s₁.setTop (entryFrame m #[(.int p0), (.int p1), (.int p2), (.int p3), (.int p4), (.int p5)] maxLocals)) t := fun t k => k547 t (by
      show Steps p.tables e below (T546.setTop (mkF m 179 #[.val (.int p0), .val (.int p1), .val (.int p2), .val (.int p3), .val (.int p4), .val (.int p5), .val (.int z), .val (.int n6), .val (.ref b165), .val (.ref b189), .val (.int ec), .unset] [(.int ((((((0 : Int32) + (1 : Int32)) + (1 : Int32)) + (1 : Int32)) + (1 : Int32)) + (1 : Int32)))])) _
      refine XS.iload XH546.here hx rfl (hb hby at_179) rfl ?_
      show Steps p.tables e below (T546.setTop (mkF m 181 #[.val (.int p0), .val (.int p1), .val (.int p2), .val (.int p3), .val (.int p4), .val (.int p5), .val (.int z), .val (.int n6), .val (.ref b165), .val (.ref b189), .val (.int ec), .unset] [(.int n6), (.int ((((((0 : Int32) + (1 : Int32)) + (1 : Int32)) + (1 : Int32)) + (1 : Int32)) + (1 : Int32)))])) _
      refine XS.icmpYes XH546.here hx rfl (pc0 := 181) (pc' := 186) rfl (hb hby at_181) rfl (teq (by first | (rw [hn]; done) | (rw [hn]; decide))).1 (by decide) (by decide) ?_
      show Steps p.tables e below (T546.setTop (mkF m 186 #[.val (.int p0), .val (.int p1), .val (.int p2), .val (.int p3), .val (.int p4), .val (.int p5), .val (.int z), .val (.int n6), .val (.ref b165), .val (.ref b189), .val (.int ec), .unset] [])) _
      refine XS.aload XH546.here hx rfl (hb hby at_186) rfl rfl ?_
      exact k)
    obtain ⟨cq549, kq549, q549a, q549b, q549c⟩ := isOf hZ eq546 F534
    obtain ⟨_, _, ⟨T549, L549, kc549, ks549⟩, -, X549, ⟨Lc549, hQ549, l549, y549, z549⟩, st549⟩ := XH546.virtualBack hx (y := (⟨"com/example/wegweiser/wegweiser/index/ByteSink", "capacity", "()I"⟩ : MethodName)) (z := (⟨"com/example/wegweiser/wegweiser/index/ByteSink", "capacity", "()I"⟩ : MethodName)) hown (mvT hZ (hw _ (List.mem_of_getElem? (i := 43) rfl))) (mvT hZ (hw _ (List.mem_of_getElem? (i := 44) rfl))) (notFace_of_selects (args := #[]) (mvT hZ (hw _ (List.mem_of_getElem? (i := 46) rfl)))) (mvT hZ (hw _ (List.mem_of_getElem? (i := 46) rfl))) (mvT hZ (hw _ (List.mem_of_getElem? (i := 45) rfl))) (by decide) (backOf (W := 0) (rm8 l Z a0 hw [] b189 b531 kb531 (own_cap (((((0 : Int32) + (1 : Int32)) + (1 : Int32)) + (1 : Int32)) + (1 : Int32)) (own_cap ((((0 : Int32) + (1 : Int32)) + (1 : Int32)) + (1 : Int32)) (own_cap (((0 : Int32) + (1 : Int32)) + (1 : Int32)) (own_cap ((0 : Int32) + (1 : Int32)) (own_cap (0 : Int32) z))))) ((((([] ++ [(.int (own_b p2))]) ++ [(.int (own_b p3))]) ++ [(.int (own_b p4))]) ++ [(.int (own_b p5))]) ++ [(.int (own_b (p2 ^^^ p4)))]) T531.heap n0 Z532 Fb531 Vx531) hZ (hw _ (List.mem_of_getElem? (i := 47) rfl)) (hw _ (List.mem_of_getElem? (i := 4) rfl)) (by decide) (by decide)) q549a q549c (g := (mkF m 188 #[.val (.int p0), .val (.int p1), .val (.int p2), .val (.int p3), .val (.int p4), .val (.int p5), .val (.int z), .val (.int n6), .val (.ref b165), .val (.ref b189), .val (.int ec), .unset] [(.ref b189)])) rfl (by rw [hml]; rfl) (Steps.refl _) (argsL := []) (rest := []) (lenOf pd_4 rfl) rfl (by show 2 * 0 + _ ≤ _; exact Nat.le_of_eq rfl) (hb hby at_188) (fun _ _ => ⟨rfl, eq546, (by decide : 8 + 0 ≤ _), (by decide : 91 + 0 ≤ _)⟩)
    dsimp only [Pt.U, Pt.locs, Pt.cells, Pt.slots] at X549 l549 y549 z549 st549 hQ549
    subst l549 y549 z549
    obtain ⟨rfl, Nq549, eq549⟩ := hQ549
    have N549 := Fr.app NH546 Nq549
    obtain ⟨LH549, XH549, NH549⟩ := own_hide X549 N549
    clear X549 N549
    have k550 : ∀ t, Steps p.tables e below (T549.setTop (mkF m 191 #[.val (.int p0), .val (.int p1), .val (.int p2), .val (.int p3), .val (.int p4), .val (.int p5), .val (.int z), .val (.int n6), .val (.ref b165), .val (.ref b189), .val (.int ec), .unset] [(.int (own_cap (((((0 : Int32) + (1 : Int32)) + (1 : Int32)) + (1 : Int32)) + (1 : Int32)) (own_cap ((((0 : Int32) + (1 : Int32)) + (1 : Int32)) + (1 : Int32)) (own_cap (((0 : Int32) + (1 : Int32)) + (1 : Int32)) (own_cap ((0 : Int32) + (1 : Int32)) (own_cap (0 : Int32) z))))))])) t → Steps p.tables e below (s₁.setTop (entryFrame m #[(.int p0), (.int p1), (.int p2), (.int p3), (.int p4), (.int p5)] maxLocals)) t := fun t k => k548 t (st549.trans k)
    have k551 : ∀ t, Steps p.tables e below (T549.setTop (mkF m 200 #[.val (.int p0), .val (.int p1), .val (.int p2), .val (.int p3), .val (.int p4), .val (.int p5), .val (.int z), .val (.int n6), .val (.ref b165), .val (.ref b189), .val (.int ec), .unset] [(.ref b189)])) t → Steps p.tables e below (s₁.setTop (entryFrame m #[(.int p0), (.int p1), (.int p2), (.int p3), (.int p4), (.int p5)] maxLocals)) t := fun t k => k550 t (by
      show Steps p.tables e below (T549.setTop (mkF m 191 #[.val (.int p0), .val (.int p1), .val (.int p2), .val (.int p3), .val (.int p4), .val (.int p5), .val (.int z), .val (.int n6), .val (.ref b165), .val (.ref b189), .val (.int ec), .unset] [(.int (own_cap (((((0 : Int32) + (1 : Int32)) + (1 : Int32)) + (1 : Int32)) + (1 : Int32)) (own_cap ((((0 : Int32) + (1 : Int32)) + (1 : Int32)) + (1 : Int32)) (own_cap (((0 : Int32) + (1 : Int32)) + (1 : Int32)) (own_cap ((0 : Int32) + (1 : Int32)) (own_cap (0 : Int32) z))))))])) _
      refine XS.iload XH549.here hx rfl (hb hby at_191) rfl ?_
      show Steps p.tables e below (T549.setTop (mkF m 193 #[.val (.int p0), .val (.int p1), .val (.int p2), .val (.int p3), .val (.int p4), .val (.int p5), .val (.int z), .val (.int n6), .val (.ref b165), .val (.ref b189), .val (.int ec), .unset] [(.int ec), (.int (own_cap (((((0 : Int32) + (1 : Int32)) + (1 : Int32)) + (1 : Int32)) + (1 : Int32)) (own_cap ((((0 : Int32) + (1 : Int32)) + (1 : Int32)) + (1 : Int32)) (own_cap (((0 : Int32) + (1 : Int32)) + (1 : Int32)) (own_cap ((0 : Int32) + (1 : Int32)) (own_cap (0 : Int32) z))))))])) _
      refine XS.icmpYes XH549.here hx rfl (pc0 := 193) (pc' := 198) rfl (hb hby at_193) rfl (teq (by rw [hec, hn]; rcases hz with rfl | rfl | rfl | rfl <;> decide)).1 (by decide) (by decide) ?_
      show Steps p.tables e below (T549.setTop (mkF m 198 #[.val (.int p0), .val (.int p1), .val (.int p2), .val (.int p3), .val (.int p4), .val (.int p5), .val (.int z), .val (.int n6), .val (.ref b165), .val (.ref b189), .val (.int ec), .unset] [])) _
      refine XS.aload XH549.here hx rfl (hb hby at_198) rfl rfl ?_
      exact k)
    obtain ⟨cq552, kq552, q552a, q552b, q552c⟩ := isOf hZ eq549 F534
    obtain ⟨_, _, ⟨T552, L552, kc552, ks552⟩, -, X552, ⟨Lc552, hQ552, l552, y552, z552⟩, st552⟩ := XH549.virtualBack hx (y := (⟨"com/example/wegweiser/wegweiser/index/ByteSink", "bytes", "()[B"⟩ : MethodName)) (z := (⟨"com/example/wegweiser/wegweiser/index/ByteSink", "bytes", "()[B"⟩ : MethodName)) hown (mvT hZ (hw _ (List.mem_of_getElem? (i := 48) rfl))) (mvT hZ (hw _ (List.mem_of_getElem? (i := 49) rfl))) (notFace_of_selects (args := #[]) (mvT hZ (hw _ (List.mem_of_getElem? (i := 51) rfl)))) (mvT hZ (hw _ (List.mem_of_getElem? (i := 51) rfl))) (mvT hZ (hw _ (List.mem_of_getElem? (i := 50) rfl))) (by decide) (backOf (W := 0) (rm9 l Z a0 hw [] b189 b531 T531.heap n0 Z532 Fb531) hZ (hw _ (List.mem_of_getElem? (i := 52) rfl)) (hw _ (List.mem_of_getElem? (i := 4) rfl)) (by decide) (by decide)) q552a q552c (g := (mkF m 200 #[.val (.int p0), .val (.int p1), .val (.int p2), .val (.int p3), .val (.int p4), .val (.int p5), .val (.int z), .val (.int n6), .val (.ref b165), .val (.ref b189), .val (.int ec), .unset] [(.ref b189)])) rfl (by rw [hml]; rfl) (Steps.refl _) (argsL := []) (rest := []) (lenOf pd_5 rfl) rfl (by show 2 * 0 + _ ≤ _; exact Nat.le_of_eq rfl) (hb hby at_200) (fun _ _ => ⟨rfl, eq549, (by decide : 8 + 0 ≤ _), (by decide : 91 + 0 ≤ _)⟩)
    dsimp only [Pt.U, Pt.locs, Pt.cells, Pt.slots] at X552 l552 y552 z552 st552 hQ552
    subst l552 y552 z552
    obtain ⟨rfl, Nq552, eq552⟩ := hQ552
    have N552 := Fr.app NH549 Nq552
    obtain ⟨LH552, XH552, NH552⟩ := own_hide X552 N552
    clear X552 N552
    have k553 : ∀ t, Steps p.tables e below (T552.setTop (mkF m 203 #[.val (.int p0), .val (.int p1), .val (.int p2), .val (.int p3), .val (.int p4), .val (.int p5), .val (.int z), .val (.int n6), .val (.ref b165), .val (.ref b189), .val (.int ec), .unset] [(.ref b531)])) t → Steps p.tables e below (s₁.setTop (entryFrame m #[(.int p0), (.int p1), (.int p2), (.int p3), (.int p4), (.int p5)] maxLocals)) t := fun t k => k551 t (st552.trans k)
    have k555 : ∀ t, Steps p.tables e below (T552.setTop (mkF m 222 #[.val (.int p0), .val (.int p1), .val (.int p2), .val (.int p3), .val (.int p4), .val (.int p5), .val (.int z), .val (.int n6), .val (.ref b165), .val (.ref b189), .val (.int ec), .val (.ref b531)] [(.int (0 : Int32)), (.int n6), (.ref b165), (.ref b531)])) t → Steps p.tables e below (s₁.setTop (entryFrame m #[(.int p0), (.int p1), (.int p2), (.int p3), (.int p4), (.int p5)] maxLocals)) t := fun t k => k553 t (by
      show Steps p.tables e below (T552.setTop (mkF m 203 #[.val (.int p0), .val (.int p1), .val (.int p2), .val (.int p3), .val (.int p4), .val (.int p5), .val (.int z), .val (.int n6), .val (.ref b165), .val (.ref b189), .val (.int ec), .unset] [(.ref b531)])) _
      refine XS.astore XH552.here hx rfl (hb hby at_203) rfl rfl (l' := #[.val (.int p0), .val (.int p1), .val (.int p2), .val (.int p3), .val (.int p4), .val (.int p5), .val (.int z), .val (.int n6), .val (.ref b165), .val (.ref b189), .val (.int ec), .val (.ref b531)]) rfl ?_
      show Steps p.tables e below (T552.setTop (mkF m 205 #[.val (.int p0), .val (.int p1), .val (.int p2), .val (.int p3), .val (.int p4), .val (.int p5), .val (.int z), .val (.int n6), .val (.ref b165), .val (.ref b189), .val (.int ec), .val (.ref b531)] [])) _
      refine XS.aload XH552.here hx rfl (hb hby at_205) rfl rfl ?_
      show Steps p.tables e below (T552.setTop (mkF m 207 #[.val (.int p0), .val (.int p1), .val (.int p2), .val (.int p3), .val (.int p4), .val (.int p5), .val (.int z), .val (.int n6), .val (.ref b165), .val (.ref b189), .val (.int ec), .val (.ref b531)] [(.ref b531)])) _
      obtain ⟨clq554, Arq554, -, Sq554, Nq554, -, -⟩ := id Vx531
      refine XH552.arraylength hx (by rw [eq552]; exact Arq554.1) (State.isArrayOf_alike hZ.alike Arq554.2.1) (g := (mkF m 207 #[.val (.int p0), .val (.int p1), .val (.int p2), .val (.int p3), .val (.int p4), .val (.int p5), .val (.int z), .val (.int n6), .val (.ref b165), .val (.ref b189), .val (.int ec), .val (.ref b531)] [(.ref b531)])) rfl rfl (hb hby at_207) _ ?_
      rw [len_of Sq554 Nq554]
      show Steps p.tables e below (T552.setTop (mkF m 208 #[.val (.int p0), .val (.int p1), .val (.int p2), .val (.int p3), .val (.int p4), .val (.int p5), .val (.int z), .val (.int n6), .val (.ref b165), .val (.ref b189), .val (.int ec), .val (.ref b531)] [(.int (own_cap (((((0 : Int32) + (1 : Int32)) + (1 : Int32)) + (1 : Int32)) + (1 : Int32)) (own_cap ((((0 : Int32) + (1 : Int32)) + (1 : Int32)) + (1 : Int32)) (own_cap (((0 : Int32) + (1 : Int32)) + (1 : Int32)) (own_cap ((0 : Int32) + (1 : Int32)) (own_cap (0 : Int32) z))))))])) _
      refine XS.iload XH552.here hx rfl (hb hby at_208) rfl ?_
      show Steps p.tables e below (T552.setTop (mkF m 210 #[.val (.int p0), .val (.int p1), .val (.int p2), .val (.int p3), .val (.int p4), .val (.int p5), .val (.int z), .val (.int n6), .val (.ref b165), .val (.ref b189), .val (.int ec), .val (.ref b531)] [(.int ec), (.int (own_cap (((((0 : Int32) + (1 : Int32)) + (1 : Int32)) + (1 : Int32)) + (1 : Int32)) (own_cap ((((0 : Int32) + (1 : Int32)) + (1 : Int32)) + (1 : Int32)) (own_cap (((0 : Int32) + (1 : Int32)) + (1 : Int32)) (own_cap ((0 : Int32) + (1 : Int32)) (own_cap (0 : Int32) z))))))])) _
      refine XS.icmpYes XH552.here hx rfl (pc0 := 210) (pc' := 215) rfl (hb hby at_210) rfl (teq (by rw [hec, hn]; rcases hz with rfl | rfl | rfl | rfl <;> decide)).1 (by decide) (by decide) ?_
      show Steps p.tables e below (T552.setTop (mkF m 215 #[.val (.int p0), .val (.int p1), .val (.int p2), .val (.int p3), .val (.int p4), .val (.int p5), .val (.int z), .val (.int n6), .val (.ref b165), .val (.ref b189), .val (.int ec), .val (.ref b531)] [])) _
      refine XS.aload XH552.here hx rfl (hb hby at_215) rfl rfl ?_
      show Steps p.tables e below (T552.setTop (mkF m 217 #[.val (.int p0), .val (.int p1), .val (.int p2), .val (.int p3), .val (.int p4), .val (.int p5), .val (.int z), .val (.int n6), .val (.ref b165), .val (.ref b189), .val (.int ec), .val (.ref b531)] [(.ref b531)])) _
      refine XS.aload XH552.here hx rfl (hb hby at_217) rfl rfl ?_
      show Steps p.tables e below (T552.setTop (mkF m 219 #[.val (.int p0), .val (.int p1), .val (.int p2), .val (.int p3), .val (.int p4), .val (.int p5), .val (.int z), .val (.int n6), .val (.ref b165), .val (.ref b189), .val (.int ec), .val (.ref b531)] [(.ref b165), (.ref b531)])) _
      refine XS.iload XH552.here hx rfl (hb hby at_219) rfl ?_
      show Steps p.tables e below (T552.setTop (mkF m 221 #[.val (.int p0), .val (.int p1), .val (.int p2), .val (.int p3), .val (.int p4), .val (.int p5), .val (.int z), .val (.int n6), .val (.ref b165), .val (.ref b189), .val (.int ec), .val (.ref b531)] [(.int n6), (.ref b165), (.ref b531)])) _
      refine XS.iconst XH552.here hx rfl (hb hby at_221) ?_
      exact k)
    obtain ⟨_, _, ⟨T556, L556, kc556, ks556⟩, -, X556, ⟨Lc556, hQ556, l556, y556, z556⟩, st556⟩ := Jvm.LawKit.callS XH552 hx (y := (⟨"com/example/wegweiser/wegweiser/index/ByteSinkWritePinLaw", "at", "([B[III)Z"⟩ : MethodName)) hown (mvT hZ (hw _ (List.mem_of_getElem? (i := 53) rfl))) (mvT hZ (hw _ (List.mem_of_getElem? (i := 54) rfl))) (mvT hZ (hw _ (List.mem_of_getElem? (i := 55) rfl))) (mvT hZ (hw _ (List.mem_of_getElem? (i := 56) rfl))) (by decide) (backOf (W := 0) (rm10 l Z a0 hw [] b531 b165 n6 (0 : Int32) kb531 (own_cap (((((0 : Int32) + (1 : Int32)) + (1 : Int32)) + (1 : Int32)) + (1 : Int32)) (own_cap ((((0 : Int32) + (1 : Int32)) + (1 : Int32)) + (1 : Int32)) (own_cap (((0 : Int32) + (1 : Int32)) + (1 : Int32)) (own_cap ((0 : Int32) + (1 : Int32)) (own_cap (0 : Int32) z))))) ((((([] ++ [(.int (own_b p2))]) ++ [(.int (own_b p3))]) ++ [(.int (own_b p4))]) ++ [(.int (own_b p5))]) ++ [(.int (own_b (p2 ^^^ p4)))]) c165 [(.int p2), (.int p3), (.int p4), (.int p5), (.int (p2 ^^^ p4))] (own_b p2) p2 T531.heap n0 Z532 Vx531 F533 (by decide) rfl (fun _ => ⟨⟨by decide, by decide⟩, rfl⟩) (fun _ => rfl) (fun h => absurd h (by rw [hn]; decide))) hZ (hw _ (List.mem_of_getElem? (i := 56) rfl)) (hw _ (List.mem_of_getElem? (i := 55) rfl)) (by decide) (by decide)) (g := (mkF m 222 #[.val (.int p0), .val (.int p1), .val (.int p2), .val (.int p3), .val (.int p4), .val (.int p5), .val (.int z), .val (.int n6), .val (.ref b165), .val (.ref b189), .val (.int ec), .val (.ref b531)] [(.int (0 : Int32)), (.int n6), (.ref b165), (.ref b531)])) rfl (by rw [hml]; rfl) (argsL := [(.ref b531), (.ref b165), (.int n6), (.int (0 : Int32))]) (rest := []) (lenOf pd_6 rfl) rfl (by show 2 * 0 + _ ≤ _; exact Nat.le_of_eq rfl) (hb hby at_222) (fun _ _ => ⟨rfl, eq552, (by decide : 8 + 0 ≤ _), (by decide : 91 + 0 ≤ _)⟩)
    dsimp only [Pt.U, Pt.locs, Pt.cells, Pt.slots] at X556 l556 y556 z556 st556 hQ556
    subst l556 y556 z556
    obtain ⟨rfl, Nq556, eq556⟩ := hQ556
    have N556 := Fr.app NH552 Nq556
    obtain ⟨LH556, XH556, NH556⟩ := own_hide X556 N556
    clear X556 N556
    have k557 : ∀ t, Steps p.tables e below (T556.setTop (mkF m 225 #[.val (.int p0), .val (.int p1), .val (.int p2), .val (.int p3), .val (.int p4), .val (.int p5), .val (.int z), .val (.int n6), .val (.ref b165), .val (.ref b189), .val (.int ec), .val (.ref b531)] [(.int (1 : Int32))])) t → Steps p.tables e below (s₁.setTop (entryFrame m #[(.int p0), (.int p1), (.int p2), (.int p3), (.int p4), (.int p5)] maxLocals)) t := fun t k => k555 t (st556 t k)
    have k558 : ∀ t, Steps p.tables e below (T556.setTop (mkF m 235 #[.val (.int p0), .val (.int p1), .val (.int p2), .val (.int p3), .val (.int p4), .val (.int p5), .val (.int z), .val (.int n6), .val (.ref b165), .val (.ref b189), .val (.int ec), .val (.ref b531)] [(.int (1 : Int32)), (.int n6), (.ref b165), (.ref b531)])) t → Steps p.tables e below (s₁.setTop (entryFrame m #[(.int p0), (.int p1), (.int p2), (.int p3), (.int p4), (.int p5)] maxLocals)) t := fun t k => k557 t (by
      show Steps p.tables e below (T556.setTop (mkF m 225 #[.val (.int p0), .val (.int p1), .val (.int p2), .val (.int p3), .val (.int p4), .val (.int p5), .val (.int z), .val (.int n6), .val (.ref b165), .val (.ref b189), .val (.int ec), .val (.ref b531)] [(.int (1 : Int32))])) _
      refine XS.ifNo XH556.here hx rfl (hb hby at_225) rfl ((if0 _ _).trans (feq (by decide : ¬ ((1 : Int32) = (0 : Int32)))).1) ?_
      show Steps p.tables e below (T556.setTop (mkF m 228 #[.val (.int p0), .val (.int p1), .val (.int p2), .val (.int p3), .val (.int p4), .val (.int p5), .val (.int z), .val (.int n6), .val (.ref b165), .val (.ref b189), .val (.int ec), .val (.ref b531)] [])) _
      refine XS.aload XH556.here hx rfl (hb hby at_228) rfl rfl ?_
      show Steps p.tables e below (T556.setTop (mkF m 230 #[.val (.int p0), .val (.int p1), .val (.int p2), .val (.int p3), .val (.int p4), .val (.int p5), .val (.int z), .val (.int n6), .val (.ref b165), .val (.ref b189), .val (.int ec), .val (.ref b531)] [(.ref b531)])) _
      refine XS.aload XH556.here hx rfl (hb hby at_230) rfl rfl ?_
      show Steps p.tables e below (T556.setTop (mkF m 232 #[.val (.int p0), .val (.int p1), .val (.int p2), .val (.int p3), .val (.int p4), .val (.int p5), .val (.int z), .val (.int n6), .val (.ref b165), .val (.ref b189), .val (.int ec), .val (.ref b531)] [(.ref b165), (.ref b531)])) _
      refine XS.iload XH556.here hx rfl (hb hby at_232) rfl ?_
      show Steps p.tables e below (T556.setTop (mkF m 234 #[.val (.int p0), .val (.int p1), .val (.int p2), .val (.int p3), .val (.int p4), .val (.int p5), .val (.int z), .val (.int n6), .val (.ref b165), .val (.ref b189), .val (.int ec), .val (.ref b531)] [(.int n6), (.ref b165), (.ref b531)])) _
      refine XS.iconst XH556.here hx rfl (hb hby at_234) ?_
      exact k)
    obtain ⟨_, _, ⟨T559, L559, kc559, ks559⟩, -, X559, ⟨Lc559, hQ559, l559, y559, z559⟩, st559⟩ := Jvm.LawKit.callS XH556 hx (y := (⟨"com/example/wegweiser/wegweiser/index/ByteSinkWritePinLaw", "at", "([B[III)Z"⟩ : MethodName)) hown (mvT hZ (hw _ (List.mem_of_getElem? (i := 53) rfl))) (mvT hZ (hw _ (List.mem_of_getElem? (i := 54) rfl))) (mvT hZ (hw _ (List.mem_of_getElem? (i := 55) rfl))) (mvT hZ (hw _ (List.mem_of_getElem? (i := 56) rfl))) (by decide) (backOf (W := 0) (rm10 l Z a0 hw [] b531 b165 n6 (1 : Int32) kb531 (own_cap (((((0 : Int32) + (1 : Int32)) + (1 : Int32)) + (1 : Int32)) + (1 : Int32)) (own_cap ((((0 : Int32) + (1 : Int32)) + (1 : Int32)) + (1 : Int32)) (own_cap (((0 : Int32) + (1 : Int32)) + (1 : Int32)) (own_cap ((0 : Int32) + (1 : Int32)) (own_cap (0 : Int32) z))))) ((((([] ++ [(.int (own_b p2))]) ++ [(.int (own_b p3))]) ++ [(.int (own_b p4))]) ++ [(.int (own_b p5))]) ++ [(.int (own_b (p2 ^^^ p4)))]) c165 [(.int p2), (.int p3), (.int p4), (.int p5), (.int (p2 ^^^ p4))] (own_b p3) p3 T531.heap n0 Z532 Vx531 F533 (by decide) rfl (fun _ => ⟨⟨by decide, by decide⟩, rfl⟩) (fun _ => rfl) (fun h => absurd h (by rw [hn]; decide))) hZ (hw _ (List.mem_of_getElem? (i := 56) rfl)) (hw _ (List.mem_of_getElem? (i := 55) rfl)) (by decide) (by decide)) (g := (mkF m 235 #[.val (.int p0), .val (.int p1), .val (.int p2), .val (.int p3), .val (.int p4), .val (.int p5), .val (.int z), .val (.int n6), .val (.ref b165), .val (.ref b189), .val (.int ec), .val (.ref b531)] [(.int (1 : Int32)), (.int n6), (.ref b165), (.ref b531)])) rfl (by rw [hml]; rfl) (argsL := [(.ref b531), (.ref b165), (.int n6), (.int (1 : Int32))]) (rest := []) (lenOf pd_6 rfl) rfl (by show 2 * 0 + _ ≤ _; exact Nat.le_of_eq rfl) (hb hby at_235) (fun _ _ => ⟨rfl, eq556, (by decide : 8 + 0 ≤ _), (by decide : 91 + 0 ≤ _)⟩)
    dsimp only [Pt.U, Pt.locs, Pt.cells, Pt.slots] at X559 l559 y559 z559 st559 hQ559
    subst l559 y559 z559
    obtain ⟨rfl, Nq559, eq559⟩ := hQ559
    have N559 := Fr.app NH556 Nq559
    obtain ⟨LH559, XH559, NH559⟩ := own_hide X559 N559
    clear X559 N559
    have k560 : ∀ t, Steps p.tables e below (T559.setTop (mkF m 238 #[.val (.int p0), .val (.int p1), .val (.int p2), .val (.int p3), .val (.int p4), .val (.int p5), .val (.int z), .val (.int n6), .val (.ref b165), .val (.ref b189), .val (.int ec), .val (.ref b531)] [(.int (1 : Int32))])) t → Steps p.tables e below (s₁.setTop (entryFrame m #[(.int p0), (.int p1), (.int p2), (.int p3), (.int p4), (.int p5)] maxLocals)) t := fun t k => k558 t (st559 t k)
    have k561 : ∀ t, Steps p.tables e below (T559.setTop (mkF m 248 #[.val (.int p0), .val (.int p1), .val (.int p2), .val (.int p3), .val (.int p4), .val (.int p5), .val (.int z), .val (.int n6), .val (.ref b165), .val (.ref b189), .val (.int ec), .val (.ref b531)] [(.int (2 : Int32)), (.int n6), (.ref b165), (.ref b531)])) t → Steps p.tables e below (s₁.setTop (entryFrame m #[(.int p0), (.int p1), (.int p2), (.int p3), (.int p4), (.int p5)] maxLocals)) t := fun t k => k560 t (by
      show Steps p.tables e below (T559.setTop (mkF m 238 #[.val (.int p0), .val (.int p1), .val (.int p2), .val (.int p3), .val (.int p4), .val (.int p5), .val (.int z), .val (.int n6), .val (.ref b165), .val (.ref b189), .val (.int ec), .val (.ref b531)] [(.int (1 : Int32))])) _
      refine XS.ifNo XH559.here hx rfl (hb hby at_238) rfl ((if0 _ _).trans (feq (by decide : ¬ ((1 : Int32) = (0 : Int32)))).1) ?_
      show Steps p.tables e below (T559.setTop (mkF m 241 #[.val (.int p0), .val (.int p1), .val (.int p2), .val (.int p3), .val (.int p4), .val (.int p5), .val (.int z), .val (.int n6), .val (.ref b165), .val (.ref b189), .val (.int ec), .val (.ref b531)] [])) _
      refine XS.aload XH559.here hx rfl (hb hby at_241) rfl rfl ?_
      show Steps p.tables e below (T559.setTop (mkF m 243 #[.val (.int p0), .val (.int p1), .val (.int p2), .val (.int p3), .val (.int p4), .val (.int p5), .val (.int z), .val (.int n6), .val (.ref b165), .val (.ref b189), .val (.int ec), .val (.ref b531)] [(.ref b531)])) _
      refine XS.aload XH559.here hx rfl (hb hby at_243) rfl rfl ?_
      show Steps p.tables e below (T559.setTop (mkF m 245 #[.val (.int p0), .val (.int p1), .val (.int p2), .val (.int p3), .val (.int p4), .val (.int p5), .val (.int z), .val (.int n6), .val (.ref b165), .val (.ref b189), .val (.int ec), .val (.ref b531)] [(.ref b165), (.ref b531)])) _
      refine XS.iload XH559.here hx rfl (hb hby at_245) rfl ?_
      show Steps p.tables e below (T559.setTop (mkF m 247 #[.val (.int p0), .val (.int p1), .val (.int p2), .val (.int p3), .val (.int p4), .val (.int p5), .val (.int z), .val (.int n6), .val (.ref b165), .val (.ref b189), .val (.int ec), .val (.ref b531)] [(.int n6), (.ref b165), (.ref b531)])) _
      refine XS.iconst XH559.here hx rfl (hb hby at_247) ?_
      exact k)
    obtain ⟨_, _, ⟨T562, L562, kc562, ks562⟩, -, X562, ⟨Lc562, hQ562, l562, y562, z562⟩, st562⟩ := Jvm.LawKit.callS XH559 hx (y := (⟨"com/example/wegweiser/wegweiser/index/ByteSinkWritePinLaw", "at", "([B[III)Z"⟩ : MethodName)) hown (mvT hZ (hw _ (List.mem_of_getElem? (i := 53) rfl))) (mvT hZ (hw _ (List.mem_of_getElem? (i := 54) rfl))) (mvT hZ (hw _ (List.mem_of_getElem? (i := 55) rfl))) (mvT hZ (hw _ (List.mem_of_getElem? (i := 56) rfl))) (by decide) (backOf (W := 0) (rm10 l Z a0 hw [] b531 b165 n6 (2 : Int32) kb531 (own_cap (((((0 : Int32) + (1 : Int32)) + (1 : Int32)) + (1 : Int32)) + (1 : Int32)) (own_cap ((((0 : Int32) + (1 : Int32)) + (1 : Int32)) + (1 : Int32)) (own_cap (((0 : Int32) + (1 : Int32)) + (1 : Int32)) (own_cap ((0 : Int32) + (1 : Int32)) (own_cap (0 : Int32) z))))) ((((([] ++ [(.int (own_b p2))]) ++ [(.int (own_b p3))]) ++ [(.int (own_b p4))]) ++ [(.int (own_b p5))]) ++ [(.int (own_b (p2 ^^^ p4)))]) c165 [(.int p2), (.int p3), (.int p4), (.int p5), (.int (p2 ^^^ p4))] (own_b p4) p4 T531.heap n0 Z532 Vx531 F533 (by decide) rfl (fun _ => ⟨⟨by decide, by decide⟩, rfl⟩) (fun _ => rfl) (fun h => absurd h (by rw [hn]; decide))) hZ (hw _ (List.mem_of_getElem? (i := 56) rfl)) (hw _ (List.mem_of_getElem? (i := 55) rfl)) (by decide) (by decide)) (g := (mkF m 248 #[.val (.int p0), .val (.int p1), .val (.int p2), .val (.int p3), .val (.int p4), .val (.int p5), .val (.int z), .val (.int n6), .val (.ref b165), .val (.ref b189), .val (.int ec), .val (.ref b531)] [(.int (2 : Int32)), (.int n6), (.ref b165), (.ref b531)])) rfl (by rw [hml]; rfl) (argsL := [(.ref b531), (.ref b165), (.int n6), (.int (2 : Int32))]) (rest := []) (lenOf pd_6 rfl) rfl (by show 2 * 0 + _ ≤ _; exact Nat.le_of_eq rfl) (hb hby at_248) (fun _ _ => ⟨rfl, eq559, (by decide : 8 + 0 ≤ _), (by decide : 91 + 0 ≤ _)⟩)
    dsimp only [Pt.U, Pt.locs, Pt.cells, Pt.slots] at X562 l562 y562 z562 st562 hQ562
    subst l562 y562 z562
    obtain ⟨rfl, Nq562, eq562⟩ := hQ562
    have N562 := Fr.app NH559 Nq562
    obtain ⟨LH562, XH562, NH562⟩ := own_hide X562 N562
    clear X562 N562
    have k563 : ∀ t, Steps p.tables e below (T562.setTop (mkF m 251 #[.val (.int p0), .val (.int p1), .val (.int p2), .val (.int p3), .val (.int p4), .val (.int p5), .val (.int z), .val (.int n6), .val (.ref b165), .val (.ref b189), .val (.int ec), .val (.ref b531)] [(.int (1 : Int32))])) t → Steps p.tables e below (s₁.setTop (entryFrame m #[(.int p0), (.int p1), (.int p2), (.int p3), (.int p4), (.int p5)] maxLocals)) t := fun t k => k561 t (st562 t k)
    have k564 : ∀ t, Steps p.tables e below (T562.setTop (mkF m 261 #[.val (.int p0), .val (.int p1), .val (.int p2), .val (.int p3), .val (.int p4), .val (.int p5), .val (.int z), .val (.int n6), .val (.ref b165), .val (.ref b189), .val (.int ec), .val (.ref b531)] [(.int (3 : Int32)), (.int n6), (.ref b165), (.ref b531)])) t → Steps p.tables e below (s₁.setTop (entryFrame m #[(.int p0), (.int p1), (.int p2), (.int p3), (.int p4), (.int p5)] maxLocals)) t := fun t k => k563 t (by
      show Steps p.tables e below (T562.setTop (mkF m 251 #[.val (.int p0), .val (.int p1), .val (.int p2), .val (.int p3), .val (.int p4), .val (.int p5), .val (.int z), .val (.int n6), .val (.ref b165), .val (.ref b189), .val (.int ec), .val (.ref b531)] [(.int (1 : Int32))])) _
      refine XS.ifNo XH562.here hx rfl (hb hby at_251) rfl ((if0 _ _).trans (feq (by decide : ¬ ((1 : Int32) = (0 : Int32)))).1) ?_
      show Steps p.tables e below (T562.setTop (mkF m 254 #[.val (.int p0), .val (.int p1), .val (.int p2), .val (.int p3), .val (.int p4), .val (.int p5), .val (.int z), .val (.int n6), .val (.ref b165), .val (.ref b189), .val (.int ec), .val (.ref b531)] [])) _
      refine XS.aload XH562.here hx rfl (hb hby at_254) rfl rfl ?_
      show Steps p.tables e below (T562.setTop (mkF m 256 #[.val (.int p0), .val (.int p1), .val (.int p2), .val (.int p3), .val (.int p4), .val (.int p5), .val (.int z), .val (.int n6), .val (.ref b165), .val (.ref b189), .val (.int ec), .val (.ref b531)] [(.ref b531)])) _
      refine XS.aload XH562.here hx rfl (hb hby at_256) rfl rfl ?_
      show Steps p.tables e below (T562.setTop (mkF m 258 #[.val (.int p0), .val (.int p1), .val (.int p2), .val (.int p3), .val (.int p4), .val (.int p5), .val (.int z), .val (.int n6), .val (.ref b165), .val (.ref b189), .val (.int ec), .val (.ref b531)] [(.ref b165), (.ref b531)])) _
      refine XS.iload XH562.here hx rfl (hb hby at_258) rfl ?_
      show Steps p.tables e below (T562.setTop (mkF m 260 #[.val (.int p0), .val (.int p1), .val (.int p2), .val (.int p3), .val (.int p4), .val (.int p5), .val (.int z), .val (.int n6), .val (.ref b165), .val (.ref b189), .val (.int ec), .val (.ref b531)] [(.int n6), (.ref b165), (.ref b531)])) _
      refine XS.iconst XH562.here hx rfl (hb hby at_260) ?_
      exact k)
    obtain ⟨_, _, ⟨T565, L565, kc565, ks565⟩, -, X565, ⟨Lc565, hQ565, l565, y565, z565⟩, st565⟩ := Jvm.LawKit.callS XH562 hx (y := (⟨"com/example/wegweiser/wegweiser/index/ByteSinkWritePinLaw", "at", "([B[III)Z"⟩ : MethodName)) hown (mvT hZ (hw _ (List.mem_of_getElem? (i := 53) rfl))) (mvT hZ (hw _ (List.mem_of_getElem? (i := 54) rfl))) (mvT hZ (hw _ (List.mem_of_getElem? (i := 55) rfl))) (mvT hZ (hw _ (List.mem_of_getElem? (i := 56) rfl))) (by decide) (backOf (W := 0) (rm10 l Z a0 hw [] b531 b165 n6 (3 : Int32) kb531 (own_cap (((((0 : Int32) + (1 : Int32)) + (1 : Int32)) + (1 : Int32)) + (1 : Int32)) (own_cap ((((0 : Int32) + (1 : Int32)) + (1 : Int32)) + (1 : Int32)) (own_cap (((0 : Int32) + (1 : Int32)) + (1 : Int32)) (own_cap ((0 : Int32) + (1 : Int32)) (own_cap (0 : Int32) z))))) ((((([] ++ [(.int (own_b p2))]) ++ [(.int (own_b p3))]) ++ [(.int (own_b p4))]) ++ [(.int (own_b p5))]) ++ [(.int (own_b (p2 ^^^ p4)))]) c165 [(.int p2), (.int p3), (.int p4), (.int p5), (.int (p2 ^^^ p4))] (own_b p5) p5 T531.heap n0 Z532 Vx531 F533 (by decide) rfl (fun _ => ⟨⟨by decide, by decide⟩, rfl⟩) (fun _ => rfl) (fun h => absurd h (by rw [hn]; decide))) hZ (hw _ (List.mem_of_getElem? (i := 56) rfl)) (hw _ (List.mem_of_getElem? (i := 55) rfl)) (by decide) (by decide)) (g := (mkF m 261 #[.val (.int p0), .val (.int p1), .val (.int p2), .val (.int p3), .val (.int p4), .val (.int p5), .val (.int z), .val (.int n6), .val (.ref b165), .val (.ref b189), .val (.int ec), .val (.ref b531)] [(.int (3 : Int32)), (.int n6), (.ref b165), (.ref b531)])) rfl (by rw [hml]; rfl) (argsL := [(.ref b531), (.ref b165), (.int n6), (.int (3 : Int32))]) (rest := []) (lenOf pd_6 rfl) rfl (by show 2 * 0 + _ ≤ _; exact Nat.le_of_eq rfl) (hb hby at_261) (fun _ _ => ⟨rfl, eq562, (by decide : 8 + 0 ≤ _), (by decide : 91 + 0 ≤ _)⟩)
    dsimp only [Pt.U, Pt.locs, Pt.cells, Pt.slots] at X565 l565 y565 z565 st565 hQ565
    subst l565 y565 z565
    obtain ⟨rfl, Nq565, eq565⟩ := hQ565
    have N565 := Fr.app NH562 Nq565
    obtain ⟨LH565, XH565, NH565⟩ := own_hide X565 N565
    clear X565 N565
    have k566 : ∀ t, Steps p.tables e below (T565.setTop (mkF m 264 #[.val (.int p0), .val (.int p1), .val (.int p2), .val (.int p3), .val (.int p4), .val (.int p5), .val (.int z), .val (.int n6), .val (.ref b165), .val (.ref b189), .val (.int ec), .val (.ref b531)] [(.int (1 : Int32))])) t → Steps p.tables e below (s₁.setTop (entryFrame m #[(.int p0), (.int p1), (.int p2), (.int p3), (.int p4), (.int p5)] maxLocals)) t := fun t k => k564 t (st565 t k)
    have k567 : ∀ t, Steps p.tables e below (T565.setTop (mkF m 274 #[.val (.int p0), .val (.int p1), .val (.int p2), .val (.int p3), .val (.int p4), .val (.int p5), .val (.int z), .val (.int n6), .val (.ref b165), .val (.ref b189), .val (.int ec), .val (.ref b531)] [(.int (4 : Int32)), (.int n6), (.ref b165), (.ref b531)])) t → Steps p.tables e below (s₁.setTop (entryFrame m #[(.int p0), (.int p1), (.int p2), (.int p3), (.int p4), (.int p5)] maxLocals)) t := fun t k => k566 t (by
      show Steps p.tables e below (T565.setTop (mkF m 264 #[.val (.int p0), .val (.int p1), .val (.int p2), .val (.int p3), .val (.int p4), .val (.int p5), .val (.int z), .val (.int n6), .val (.ref b165), .val (.ref b189), .val (.int ec), .val (.ref b531)] [(.int (1 : Int32))])) _
      refine XS.ifNo XH565.here hx rfl (hb hby at_264) rfl ((if0 _ _).trans (feq (by decide : ¬ ((1 : Int32) = (0 : Int32)))).1) ?_
      show Steps p.tables e below (T565.setTop (mkF m 267 #[.val (.int p0), .val (.int p1), .val (.int p2), .val (.int p3), .val (.int p4), .val (.int p5), .val (.int z), .val (.int n6), .val (.ref b165), .val (.ref b189), .val (.int ec), .val (.ref b531)] [])) _
      refine XS.aload XH565.here hx rfl (hb hby at_267) rfl rfl ?_
      show Steps p.tables e below (T565.setTop (mkF m 269 #[.val (.int p0), .val (.int p1), .val (.int p2), .val (.int p3), .val (.int p4), .val (.int p5), .val (.int z), .val (.int n6), .val (.ref b165), .val (.ref b189), .val (.int ec), .val (.ref b531)] [(.ref b531)])) _
      refine XS.aload XH565.here hx rfl (hb hby at_269) rfl rfl ?_
      show Steps p.tables e below (T565.setTop (mkF m 271 #[.val (.int p0), .val (.int p1), .val (.int p2), .val (.int p3), .val (.int p4), .val (.int p5), .val (.int z), .val (.int n6), .val (.ref b165), .val (.ref b189), .val (.int ec), .val (.ref b531)] [(.ref b165), (.ref b531)])) _
      refine XS.iload XH565.here hx rfl (hb hby at_271) rfl ?_
      show Steps p.tables e below (T565.setTop (mkF m 273 #[.val (.int p0), .val (.int p1), .val (.int p2), .val (.int p3), .val (.int p4), .val (.int p5), .val (.int z), .val (.int n6), .val (.ref b165), .val (.ref b189), .val (.int ec), .val (.ref b531)] [(.int n6), (.ref b165), (.ref b531)])) _
      refine XS.iconst XH565.here hx rfl (hb hby at_273) ?_
      exact k)
    obtain ⟨_, _, ⟨T568, L568, kc568, ks568⟩, -, X568, ⟨Lc568, hQ568, l568, y568, z568⟩, st568⟩ := Jvm.LawKit.callS XH565 hx (y := (⟨"com/example/wegweiser/wegweiser/index/ByteSinkWritePinLaw", "at", "([B[III)Z"⟩ : MethodName)) hown (mvT hZ (hw _ (List.mem_of_getElem? (i := 53) rfl))) (mvT hZ (hw _ (List.mem_of_getElem? (i := 54) rfl))) (mvT hZ (hw _ (List.mem_of_getElem? (i := 55) rfl))) (mvT hZ (hw _ (List.mem_of_getElem? (i := 56) rfl))) (by decide) (backOf (W := 0) (rm10 l Z a0 hw [] b531 b165 n6 (4 : Int32) kb531 (own_cap (((((0 : Int32) + (1 : Int32)) + (1 : Int32)) + (1 : Int32)) + (1 : Int32)) (own_cap ((((0 : Int32) + (1 : Int32)) + (1 : Int32)) + (1 : Int32)) (own_cap (((0 : Int32) + (1 : Int32)) + (1 : Int32)) (own_cap ((0 : Int32) + (1 : Int32)) (own_cap (0 : Int32) z))))) ((((([] ++ [(.int (own_b p2))]) ++ [(.int (own_b p3))]) ++ [(.int (own_b p4))]) ++ [(.int (own_b p5))]) ++ [(.int (own_b (p2 ^^^ p4)))]) c165 [(.int p2), (.int p3), (.int p4), (.int p5), (.int (p2 ^^^ p4))] (own_b (p2 ^^^ p4)) (p2 ^^^ p4) T531.heap n0 Z532 Vx531 F533 (by decide) rfl (fun _ => ⟨⟨by decide, by decide⟩, rfl⟩) (fun _ => rfl) (fun h => absurd h (by rw [hn]; decide))) hZ (hw _ (List.mem_of_getElem? (i := 56) rfl)) (hw _ (List.mem_of_getElem? (i := 55) rfl)) (by decide) (by decide)) (g := (mkF m 274 #[.val (.int p0), .val (.int p1), .val (.int p2), .val (.int p3), .val (.int p4), .val (.int p5), .val (.int z), .val (.int n6), .val (.ref b165), .val (.ref b189), .val (.int ec), .val (.ref b531)] [(.int (4 : Int32)), (.int n6), (.ref b165), (.ref b531)])) rfl (by rw [hml]; rfl) (argsL := [(.ref b531), (.ref b165), (.int n6), (.int (4 : Int32))]) (rest := []) (lenOf pd_6 rfl) rfl (by show 2 * 0 + _ ≤ _; exact Nat.le_of_eq rfl) (hb hby at_274) (fun _ _ => ⟨rfl, eq565, (by decide : 8 + 0 ≤ _), (by decide : 91 + 0 ≤ _)⟩)
    dsimp only [Pt.U, Pt.locs, Pt.cells, Pt.slots] at X568 l568 y568 z568 st568 hQ568
    subst l568 y568 z568
    obtain ⟨rfl, Nq568, eq568⟩ := hQ568
    have N568 := Fr.app NH565 Nq568
    obtain ⟨LH568, XH568, NH568⟩ := own_hide X568 N568
    clear X568 N568
    have k569 : ∀ t, Steps p.tables e below (T568.setTop (mkF m 277 #[.val (.int p0), .val (.int p1), .val (.int p2), .val (.int p3), .val (.int p4), .val (.int p5), .val (.int z), .val (.int n6), .val (.ref b165), .val (.ref b189), .val (.int ec), .val (.ref b531)] [(.int (1 : Int32))])) t → Steps p.tables e below (s₁.setTop (entryFrame m #[(.int p0), (.int p1), (.int p2), (.int p3), (.int p4), (.int p5)] maxLocals)) t := fun t k => k567 t (st568 t k)
    have k570 : ∀ t, Steps p.tables e below (T568.setTop (mkF m 287 #[.val (.int p0), .val (.int p1), .val (.int p2), .val (.int p3), .val (.int p4), .val (.int p5), .val (.int z), .val (.int n6), .val (.ref b165), .val (.ref b189), .val (.int ec), .val (.ref b531)] [(.int (5 : Int32)), (.int n6), (.ref b165), (.ref b531)])) t → Steps p.tables e below (s₁.setTop (entryFrame m #[(.int p0), (.int p1), (.int p2), (.int p3), (.int p4), (.int p5)] maxLocals)) t := fun t k => k569 t (by
      show Steps p.tables e below (T568.setTop (mkF m 277 #[.val (.int p0), .val (.int p1), .val (.int p2), .val (.int p3), .val (.int p4), .val (.int p5), .val (.int z), .val (.int n6), .val (.ref b165), .val (.ref b189), .val (.int ec), .val (.ref b531)] [(.int (1 : Int32))])) _
      refine XS.ifNo XH568.here hx rfl (hb hby at_277) rfl ((if0 _ _).trans (feq (by decide : ¬ ((1 : Int32) = (0 : Int32)))).1) ?_
      show Steps p.tables e below (T568.setTop (mkF m 280 #[.val (.int p0), .val (.int p1), .val (.int p2), .val (.int p3), .val (.int p4), .val (.int p5), .val (.int z), .val (.int n6), .val (.ref b165), .val (.ref b189), .val (.int ec), .val (.ref b531)] [])) _
      refine XS.aload XH568.here hx rfl (hb hby at_280) rfl rfl ?_
      show Steps p.tables e below (T568.setTop (mkF m 282 #[.val (.int p0), .val (.int p1), .val (.int p2), .val (.int p3), .val (.int p4), .val (.int p5), .val (.int z), .val (.int n6), .val (.ref b165), .val (.ref b189), .val (.int ec), .val (.ref b531)] [(.ref b531)])) _
      refine XS.aload XH568.here hx rfl (hb hby at_282) rfl rfl ?_
      show Steps p.tables e below (T568.setTop (mkF m 284 #[.val (.int p0), .val (.int p1), .val (.int p2), .val (.int p3), .val (.int p4), .val (.int p5), .val (.int z), .val (.int n6), .val (.ref b165), .val (.ref b189), .val (.int ec), .val (.ref b531)] [(.ref b165), (.ref b531)])) _
      refine XS.iload XH568.here hx rfl (hb hby at_284) rfl ?_
      show Steps p.tables e below (T568.setTop (mkF m 286 #[.val (.int p0), .val (.int p1), .val (.int p2), .val (.int p3), .val (.int p4), .val (.int p5), .val (.int z), .val (.int n6), .val (.ref b165), .val (.ref b189), .val (.int ec), .val (.ref b531)] [(.int n6), (.ref b165), (.ref b531)])) _
      refine XS.iconst XH568.here hx rfl (hb hby at_286) ?_
      exact k)
    obtain ⟨_, _, ⟨T571, L571, kc571, ks571⟩, -, X571, ⟨Lc571, hQ571, l571, y571, z571⟩, st571⟩ := Jvm.LawKit.callS XH568 hx (y := (⟨"com/example/wegweiser/wegweiser/index/ByteSinkWritePinLaw", "at", "([B[III)Z"⟩ : MethodName)) hown (mvT hZ (hw _ (List.mem_of_getElem? (i := 53) rfl))) (mvT hZ (hw _ (List.mem_of_getElem? (i := 54) rfl))) (mvT hZ (hw _ (List.mem_of_getElem? (i := 55) rfl))) (mvT hZ (hw _ (List.mem_of_getElem? (i := 56) rfl))) (by decide) (backOf (W := 0) (rm10 l Z a0 hw [] b531 b165 n6 (5 : Int32) kb531 (own_cap (((((0 : Int32) + (1 : Int32)) + (1 : Int32)) + (1 : Int32)) + (1 : Int32)) (own_cap ((((0 : Int32) + (1 : Int32)) + (1 : Int32)) + (1 : Int32)) (own_cap (((0 : Int32) + (1 : Int32)) + (1 : Int32)) (own_cap ((0 : Int32) + (1 : Int32)) (own_cap (0 : Int32) z))))) ((((([] ++ [(.int (own_b p2))]) ++ [(.int (own_b p3))]) ++ [(.int (own_b p4))]) ++ [(.int (own_b p5))]) ++ [(.int (own_b (p2 ^^^ p4)))]) c165 [(.int p2), (.int p3), (.int p4), (.int p5), (.int (p2 ^^^ p4))] (0 : Int32) (0 : Int32) T531.heap n0 Z532 Vx531 F533 (by decide) rfl (fun h => absurd h (by rw [hn]; decide)) (fun h => absurd h (by rw [hn]; decide)) (fun _ => rfl)) hZ (hw _ (List.mem_of_getElem? (i := 56) rfl)) (hw _ (List.mem_of_getElem? (i := 55) rfl)) (by decide) (by decide)) (g := (mkF m 287 #[.val (.int p0), .val (.int p1), .val (.int p2), .val (.int p3), .val (.int p4), .val (.int p5), .val (.int z), .val (.int n6), .val (.ref b165), .val (.ref b189), .val (.int ec), .val (.ref b531)] [(.int (5 : Int32)), (.int n6), (.ref b165), (.ref b531)])) rfl (by rw [hml]; rfl) (argsL := [(.ref b531), (.ref b165), (.int n6), (.int (5 : Int32))]) (rest := []) (lenOf pd_6 rfl) rfl (by show 2 * 0 + _ ≤ _; exact Nat.le_of_eq rfl) (hb hby at_287) (fun _ _ => ⟨rfl, eq568, (by decide : 8 + 0 ≤ _), (by decide : 91 + 0 ≤ _)⟩)
    dsimp only [Pt.U, Pt.locs, Pt.cells, Pt.slots] at X571 l571 y571 z571 st571 hQ571
    subst l571 y571 z571
    obtain ⟨rfl, Nq571, eq571⟩ := hQ571
    have N571 := Fr.app NH568 Nq571
    obtain ⟨LH571, XH571, NH571⟩ := own_hide X571 N571
    clear X571 N571
    have k572 : ∀ t, Steps p.tables e below (T571.setTop (mkF m 290 #[.val (.int p0), .val (.int p1), .val (.int p2), .val (.int p3), .val (.int p4), .val (.int p5), .val (.int z), .val (.int n6), .val (.ref b165), .val (.ref b189), .val (.int ec), .val (.ref b531)] [(.int (1 : Int32))])) t → Steps p.tables e below (s₁.setTop (entryFrame m #[(.int p0), (.int p1), (.int p2), (.int p3), (.int p4), (.int p5)] maxLocals)) t := fun t k => k570 t (st571 t k)
    have k573 : ∀ t, Steps p.tables e below (T571.setTop (mkF m 301 #[.val (.int p0), .val (.int p1), .val (.int p2), .val (.int p3), .val (.int p4), .val (.int p5), .val (.int z), .val (.int n6), .val (.ref b165), .val (.ref b189), .val (.int ec), .val (.ref b531)] [(.int (6 : Int32)), (.int n6), (.ref b165), (.ref b531)])) t → Steps p.tables e below (s₁.setTop (entryFrame m #[(.int p0), (.int p1), (.int p2), (.int p3), (.int p4), (.int p5)] maxLocals)) t := fun t k => k572 t (by
      show Steps p.tables e below (T571.setTop (mkF m 290 #[.val (.int p0), .val (.int p1), .val (.int p2), .val (.int p3), .val (.int p4), .val (.int p5), .val (.int z), .val (.int n6), .val (.ref b165), .val (.ref b189), .val (.int ec), .val (.ref b531)] [(.int (1 : Int32))])) _
      refine XS.ifNo XH571.here hx rfl (hb hby at_290) rfl ((if0 _ _).trans (feq (by decide : ¬ ((1 : Int32) = (0 : Int32)))).1) ?_
      show Steps p.tables e below (T571.setTop (mkF m 293 #[.val (.int p0), .val (.int p1), .val (.int p2), .val (.int p3), .val (.int p4), .val (.int p5), .val (.int z), .val (.int n6), .val (.ref b165), .val (.ref b189), .val (.int ec), .val (.ref b531)] [])) _
      refine XS.aload XH571.here hx rfl (hb hby at_293) rfl rfl ?_
      show Steps p.tables e below (T571.setTop (mkF m 295 #[.val (.int p0), .val (.int p1), .val (.int p2), .val (.int p3), .val (.int p4), .val (.int p5), .val (.int z), .val (.int n6), .val (.ref b165), .val (.ref b189), .val (.int ec), .val (.ref b531)] [(.ref b531)])) _
      refine XS.aload XH571.here hx rfl (hb hby at_295) rfl rfl ?_
      show Steps p.tables e below (T571.setTop (mkF m 297 #[.val (.int p0), .val (.int p1), .val (.int p2), .val (.int p3), .val (.int p4), .val (.int p5), .val (.int z), .val (.int n6), .val (.ref b165), .val (.ref b189), .val (.int ec), .val (.ref b531)] [(.ref b165), (.ref b531)])) _
      refine XS.iload XH571.here hx rfl (hb hby at_297) rfl ?_
      show Steps p.tables e below (T571.setTop (mkF m 299 #[.val (.int p0), .val (.int p1), .val (.int p2), .val (.int p3), .val (.int p4), .val (.int p5), .val (.int z), .val (.int n6), .val (.ref b165), .val (.ref b189), .val (.int ec), .val (.ref b531)] [(.int n6), (.ref b165), (.ref b531)])) _
      refine XS.bipush XH571.here hx rfl (hb hby at_299) ?_
      exact k)
    obtain ⟨_, _, ⟨T574, L574, kc574, ks574⟩, -, X574, ⟨Lc574, hQ574, l574, y574, z574⟩, st574⟩ := Jvm.LawKit.callS XH571 hx (y := (⟨"com/example/wegweiser/wegweiser/index/ByteSinkWritePinLaw", "at", "([B[III)Z"⟩ : MethodName)) hown (mvT hZ (hw _ (List.mem_of_getElem? (i := 53) rfl))) (mvT hZ (hw _ (List.mem_of_getElem? (i := 54) rfl))) (mvT hZ (hw _ (List.mem_of_getElem? (i := 55) rfl))) (mvT hZ (hw _ (List.mem_of_getElem? (i := 56) rfl))) (by decide) (backOf (W := 0) (rm10 l Z a0 hw [] b531 b165 n6 (6 : Int32) kb531 (own_cap (((((0 : Int32) + (1 : Int32)) + (1 : Int32)) + (1 : Int32)) + (1 : Int32)) (own_cap ((((0 : Int32) + (1 : Int32)) + (1 : Int32)) + (1 : Int32)) (own_cap (((0 : Int32) + (1 : Int32)) + (1 : Int32)) (own_cap ((0 : Int32) + (1 : Int32)) (own_cap (0 : Int32) z))))) ((((([] ++ [(.int (own_b p2))]) ++ [(.int (own_b p3))]) ++ [(.int (own_b p4))]) ++ [(.int (own_b p5))]) ++ [(.int (own_b (p2 ^^^ p4)))]) c165 [(.int p2), (.int p3), (.int p4), (.int p5), (.int (p2 ^^^ p4))] (0 : Int32) (0 : Int32) T531.heap n0 Z532 Vx531 F533 (by decide) rfl (fun h => absurd h (by rw [hn]; decide)) (fun h => absurd h (by rw [hn]; decide)) (fun _ => rfl)) hZ (hw _ (List.mem_of_getElem? (i := 56) rfl)) (hw _ (List.mem_of_getElem? (i := 55) rfl)) (by decide) (by decide)) (g := (mkF m 301 #[.val (.int p0), .val (.int p1), .val (.int p2), .val (.int p3), .val (.int p4), .val (.int p5), .val (.int z), .val (.int n6), .val (.ref b165), .val (.ref b189), .val (.int ec), .val (.ref b531)] [(.int (6 : Int32)), (.int n6), (.ref b165), (.ref b531)])) rfl (by rw [hml]; rfl) (argsL := [(.ref b531), (.ref b165), (.int n6), (.int (6 : Int32))]) (rest := []) (lenOf pd_6 rfl) rfl (by show 2 * 0 + _ ≤ _; exact Nat.le_of_eq rfl) (hb hby at_301) (fun _ _ => ⟨rfl, eq571, (by decide : 8 + 0 ≤ _), (by decide : 91 + 0 ≤ _)⟩)
    dsimp only [Pt.U, Pt.locs, Pt.cells, Pt.slots] at X574 l574 y574 z574 st574 hQ574
    subst l574 y574 z574
    obtain ⟨rfl, Nq574, eq574⟩ := hQ574
    have N574 := Fr.app NH571 Nq574
    obtain ⟨LH574, XH574, NH574⟩ := own_hide X574 N574
    clear X574 N574
    have k575 : ∀ t, Steps p.tables e below (T574.setTop (mkF m 304 #[.val (.int p0), .val (.int p1), .val (.int p2), .val (.int p3), .val (.int p4), .val (.int p5), .val (.int z), .val (.int n6), .val (.ref b165), .val (.ref b189), .val (.int ec), .val (.ref b531)] [(.int (1 : Int32))])) t → Steps p.tables e below (s₁.setTop (entryFrame m #[(.int p0), (.int p1), (.int p2), (.int p3), (.int p4), (.int p5)] maxLocals)) t := fun t k => k573 t (st574 t k)
    have k576 : ∀ t, Steps p.tables e below (T574.setTop (mkF m 315 #[.val (.int p0), .val (.int p1), .val (.int p2), .val (.int p3), .val (.int p4), .val (.int p5), .val (.int z), .val (.int n6), .val (.ref b165), .val (.ref b189), .val (.int ec), .val (.ref b531)] [(.int (7 : Int32)), (.int n6), (.ref b165), (.ref b531)])) t → Steps p.tables e below (s₁.setTop (entryFrame m #[(.int p0), (.int p1), (.int p2), (.int p3), (.int p4), (.int p5)] maxLocals)) t := fun t k => k575 t (by
      show Steps p.tables e below (T574.setTop (mkF m 304 #[.val (.int p0), .val (.int p1), .val (.int p2), .val (.int p3), .val (.int p4), .val (.int p5), .val (.int z), .val (.int n6), .val (.ref b165), .val (.ref b189), .val (.int ec), .val (.ref b531)] [(.int (1 : Int32))])) _
      refine XS.ifNo XH574.here hx rfl (hb hby at_304) rfl ((if0 _ _).trans (feq (by decide : ¬ ((1 : Int32) = (0 : Int32)))).1) ?_
      show Steps p.tables e below (T574.setTop (mkF m 307 #[.val (.int p0), .val (.int p1), .val (.int p2), .val (.int p3), .val (.int p4), .val (.int p5), .val (.int z), .val (.int n6), .val (.ref b165), .val (.ref b189), .val (.int ec), .val (.ref b531)] [])) _
      refine XS.aload XH574.here hx rfl (hb hby at_307) rfl rfl ?_
      show Steps p.tables e below (T574.setTop (mkF m 309 #[.val (.int p0), .val (.int p1), .val (.int p2), .val (.int p3), .val (.int p4), .val (.int p5), .val (.int z), .val (.int n6), .val (.ref b165), .val (.ref b189), .val (.int ec), .val (.ref b531)] [(.ref b531)])) _
      refine XS.aload XH574.here hx rfl (hb hby at_309) rfl rfl ?_
      show Steps p.tables e below (T574.setTop (mkF m 311 #[.val (.int p0), .val (.int p1), .val (.int p2), .val (.int p3), .val (.int p4), .val (.int p5), .val (.int z), .val (.int n6), .val (.ref b165), .val (.ref b189), .val (.int ec), .val (.ref b531)] [(.ref b165), (.ref b531)])) _
      refine XS.iload XH574.here hx rfl (hb hby at_311) rfl ?_
      show Steps p.tables e below (T574.setTop (mkF m 313 #[.val (.int p0), .val (.int p1), .val (.int p2), .val (.int p3), .val (.int p4), .val (.int p5), .val (.int z), .val (.int n6), .val (.ref b165), .val (.ref b189), .val (.int ec), .val (.ref b531)] [(.int n6), (.ref b165), (.ref b531)])) _
      refine XS.bipush XH574.here hx rfl (hb hby at_313) ?_
      exact k)
    obtain ⟨_, _, ⟨T577, L577, kc577, ks577⟩, -, X577, ⟨Lc577, hQ577, l577, y577, z577⟩, st577⟩ := Jvm.LawKit.callS XH574 hx (y := (⟨"com/example/wegweiser/wegweiser/index/ByteSinkWritePinLaw", "at", "([B[III)Z"⟩ : MethodName)) hown (mvT hZ (hw _ (List.mem_of_getElem? (i := 53) rfl))) (mvT hZ (hw _ (List.mem_of_getElem? (i := 54) rfl))) (mvT hZ (hw _ (List.mem_of_getElem? (i := 55) rfl))) (mvT hZ (hw _ (List.mem_of_getElem? (i := 56) rfl))) (by decide) (backOf (W := 0) (rm10 l Z a0 hw [] b531 b165 n6 (7 : Int32) kb531 (own_cap (((((0 : Int32) + (1 : Int32)) + (1 : Int32)) + (1 : Int32)) + (1 : Int32)) (own_cap ((((0 : Int32) + (1 : Int32)) + (1 : Int32)) + (1 : Int32)) (own_cap (((0 : Int32) + (1 : Int32)) + (1 : Int32)) (own_cap ((0 : Int32) + (1 : Int32)) (own_cap (0 : Int32) z))))) ((((([] ++ [(.int (own_b p2))]) ++ [(.int (own_b p3))]) ++ [(.int (own_b p4))]) ++ [(.int (own_b p5))]) ++ [(.int (own_b (p2 ^^^ p4)))]) c165 [(.int p2), (.int p3), (.int p4), (.int p5), (.int (p2 ^^^ p4))] (0 : Int32) (0 : Int32) T531.heap n0 Z532 Vx531 F533 (by decide) rfl (fun h => absurd h (by rw [hn]; decide)) (fun h => absurd h (by rw [hn]; decide)) (fun _ => rfl)) hZ (hw _ (List.mem_of_getElem? (i := 56) rfl)) (hw _ (List.mem_of_getElem? (i := 55) rfl)) (by decide) (by decide)) (g := (mkF m 315 #[.val (.int p0), .val (.int p1), .val (.int p2), .val (.int p3), .val (.int p4), .val (.int p5), .val (.int z), .val (.int n6), .val (.ref b165), .val (.ref b189), .val (.int ec), .val (.ref b531)] [(.int (7 : Int32)), (.int n6), (.ref b165), (.ref b531)])) rfl (by rw [hml]; rfl) (argsL := [(.ref b531), (.ref b165), (.int n6), (.int (7 : Int32))]) (rest := []) (lenOf pd_6 rfl) rfl (by show 2 * 0 + _ ≤ _; exact Nat.le_of_eq rfl) (hb hby at_315) (fun _ _ => ⟨rfl, eq574, (by decide : 8 + 0 ≤ _), (by decide : 91 + 0 ≤ _)⟩)
    dsimp only [Pt.U, Pt.locs, Pt.cells, Pt.slots] at X577 l577 y577 z577 st577 hQ577
    subst l577 y577 z577
    obtain ⟨rfl, Nq577, eq577⟩ := hQ577
    have N577 := Fr.app NH574 Nq577
    obtain ⟨LH577, XH577, NH577⟩ := own_hide X577 N577
    clear X577 N577
    have k578 : ∀ t, Steps p.tables e below (T577.setTop (mkF m 318 #[.val (.int p0), .val (.int p1), .val (.int p2), .val (.int p3), .val (.int p4), .val (.int p5), .val (.int z), .val (.int n6), .val (.ref b165), .val (.ref b189), .val (.int ec), .val (.ref b531)] [(.int (1 : Int32))])) t → Steps p.tables e below (s₁.setTop (entryFrame m #[(.int p0), (.int p1), (.int p2), (.int p3), (.int p4), (.int p5)] maxLocals)) t := fun t k => k576 t (st577 t k)
    have k579 : ∀ t, Steps p.tables e below (T577.setTop (mkF m 326 #[.val (.int p0), .val (.int p1), .val (.int p2), .val (.int p3), .val (.int p4), .val (.int p5), .val (.int z), .val (.int n6), .val (.ref b165), .val (.ref b189), .val (.int ec), .val (.ref b531)] [(.int (1 : Int32))])) t → Steps p.tables e below (s₁.setTop (entryFrame m #[(.int p0), (.int p1), (.int p2), (.int p3), (.int p4), (.int p5)] maxLocals)) t := fun t k => k578 t (by
      show Steps p.tables e below (T577.setTop (mkF m 318 #[.val (.int p0), .val (.int p1), .val (.int p2), .val (.int p3), .val (.int p4), .val (.int p5), .val (.int z), .val (.int n6), .val (.ref b165), .val (.ref b189), .val (.int ec), .val (.ref b531)] [(.int (1 : Int32))])) _
      refine XS.ifNo XH577.here hx rfl (hb hby at_318) rfl ((if0 _ _).trans (feq (by decide : ¬ ((1 : Int32) = (0 : Int32)))).1) ?_
      show Steps p.tables e below (T577.setTop (mkF m 321 #[.val (.int p0), .val (.int p1), .val (.int p2), .val (.int p3), .val (.int p4), .val (.int p5), .val (.int z), .val (.int n6), .val (.ref b165), .val (.ref b189), .val (.int ec), .val (.ref b531)] [])) _
      refine XS.iconst XH577.here hx rfl (hb hby at_321) ?_
      show Steps p.tables e below (T577.setTop (mkF m 322 #[.val (.int p0), .val (.int p1), .val (.int p2), .val (.int p3), .val (.int p4), .val (.int p5), .val (.int z), .val (.int n6), .val (.ref b165), .val (.ref b189), .val (.int ec), .val (.ref b531)] [(.int (1 : Int32))])) _
      refine XS.goto XH577.here hx rfl (pc0 := 322) (pc' := 326) rfl (hb hby at_322) (by decide) (by decide) ?_
      exact k)
    obtain ⟨fs, hr, hrun, hended, hW, hsame⟩ := XH577.leave (v := some (.int (1 : Int32))) (fun h => by rw [Bd.returns] at h; cases h)
    refine ⟨_, _, k579 _ ?_, hrun, hended, _, _, rfl, ?_, ⟨_, rfl⟩, hW, hsame.mono (by decide) (by decide)⟩
    · show Steps p.tables e below (T577.setTop (mkF m 326 #[.val (.int p0), .val (.int p1), .val (.int p2), .val (.int p3), .val (.int p4), .val (.int p5), .val (.int z), .val (.int n6), .val (.ref b165), .val (.ref b189), .val (.int ec), .val (.ref b531)] [(.int (1 : Int32))])) _
      exact retN XH577 hx (t := .boolean) Bd.returns (by simp) (hb hby at_326) hr
    · show Q0 Z p0 p1 p2 p3 p4 p5 h0 n0 _ T577.heap _
      rw [eq577]
      exact ⟨rfl, NH577⟩
set_option maxRecDepth 65536 in
set_option maxHeartbeats 40000000 in
theorem comes_1 {Post : Tables → Env → Array Value → State → Outcome → State → Prop} (hpost : ∀ tb e args s v u, (limb_1_1.after args s (.returned v) u = true ∧ limb_1_2.after args s (.returned v) u = true ∧ True) → FrameEnd s (.returned v) u (Jvm.fieldLocs frame_1_writes args s ++ Jvm.arrayLocs frame_1_arrays args s ++ Jvm.staticLocs frame_1_statics s) 24 128 → Post tb e args s (.returned v) u) :
    ArmFor flags0 classFile x code maxLocals ret World_1 tables_1 room_1 Calls_1 rest_1 Pre_1 Post := by
  intro l hfl _ _ p e ha hc hk s m args below hf hA hF happ hP
  obtain ⟨hcalls, hrest, hpre⟩ := hP
  obtain ⟨-, -, -, hnamed, -, -, -, hat⟩ := (Spec.applies_iff hf).mp happ
  obtain ⟨hg, hn⟩ := and_e (Cond.before_iff.mp (show (Jvm.Cond.and given_1 narrow_1).before args s = true from hpre))
  obtain ⟨g1, g2⟩ := and_e hg
  obtain ⟨g3, g4⟩ := and_e g2
  obtain ⟨g5, g6⟩ := and_e g4
  obtain ⟨g7, g8⟩ := and_e g6
  obtain ⟨g9, g10⟩ := and_e g8
  obtain ⟨g11, g12⟩ := and_e g10
  obtain ⟨w0, w1, w2, w3, w4, w5, rfl⟩ : ∃ w0 w1 w2 w3 w4 w5 : Value, args = #[w0, w1, w2, w3, w4, w5] := by
    have hs : args.size = 6 := by simpa [Cond.value, given_1] using g1
    obtain ⟨L⟩ := args
    match L, hs with
    | [w0, w1, w2, w3, w4, w5], _ => exact ⟨w0, w1, w2, w3, w4, w5, rfl⟩
  have hw := fun d (hd : d ∈ tables_1) => atoms_spec (ws := Jvm.Cond.code x code maxLocals ret :: tables_1) hat d (List.mem_cons_of_mem _ hd)
  have hfit : Fit s := fun {y c} hc i hi => by
    obtain ⟨ha, rfl⟩ := Array.getElem?_eq_some_iff.mp hc
    have q := List.all_eq_true.mp ((Array.all_eq_true_iff_forall_mem.mp hF) _ (Array.getElem_mem ha)) i (List.mem_range.mpr hi)
    simpa [Array.getElem?_eq_getElem hi] using q
  obtain ⟨i0, ei0⟩ := is_v g3
  obtain rfl : w0 = (.int i0) := Option.some.inj ei0
  obtain ⟨i1, ei1⟩ := is_v g5
  obtain rfl : w1 = (.int i1) := Option.some.inj ei1
  obtain ⟨i2, ei2⟩ := is_v g7
  obtain rfl : w2 = (.int i2) := Option.some.inj ei2
  obtain ⟨i3, ei3⟩ := is_v g9
  obtain rfl : w3 = (.int i3) := Option.some.inj ei3
  obtain ⟨i4, ei4⟩ := is_v g11
  obtain rfl : w4 = (.int i4) := Option.some.inj ei4
  obtain ⟨i5, ei5⟩ := is_v g12
  obtain rfl : w5 = (.int i5) := Option.some.inj ei5
  obtain ⟨n, o, h1, h2, h3, _, L, rfl, ⟨rfl, N⟩, hq⟩ := rm0 l s _ hw tables_1 i0 i1 i2 i3 i4 i5 s.heap s.heap.size (Nat.le_refl _)  p e ha hc hk s m _ below hf ((Spec.applies_iff_loose hf).mp happ).1 ⟨rfl, State.Warmed39.refl s, rfl⟩ trivial
  refine ⟨n, _, h1, h2, h3, hpost _ _ _ _ _ _ ⟨Cond.after_iff.mpr rfl, Cond.after_iff.mpr (eq_i res_at (Term.int_eval (1)) rfl), trivial⟩ ⟨hq.1, hq.2.1, (hq.2.2.sift fun y hy => Or.inr (N y hy)).mono (by decide) (by decide)⟩⟩
theorem main_1_1 : Claimed_1_1 := comes_1 fun _ _ _ _ _ _ h hF => ⟨h.1, hF⟩
theorem main_1_2 : Claimed_1_2 := comes_1 fun _ _ _ _ _ _ h hF => ⟨h.2.1, hF⟩
end Jvm.Pilot.@@N@@
namespace Jvm.Pilot.@@N@@
open Jvm Jvm.ClassFile Sem Op Lib Jvm.Free Jvm.Stand Jvm.Pilot.@@N@@.Jvm.D
/-! MADE BY PROGRAM (witnessworld.py) out of the Statement's table words and the real class files: 16 classes; the members and pool entries that the words name. The judged class is class 1, her method 1. -/
namespace start1
open Jvm.ClassFile
def u (s : String) : CpInfo := .utf8 (stringToUtf16 s)
/-- a pool by its gaps: so many unusable entries, then the entry; so many at the end -/
def gap : Nat → List CpInfo → List CpInfo
  | 0, r => r
  | n + 1, r => .unusable :: gap n r
def poolList (es : List (Nat × CpInfo)) (last : Nat) : List CpInfo := es.foldr (fun e r => gap e.1 (e.2 :: r)) (gap last [])
def pool (es : List (Nat × CpInfo)) (last : Nat) : Array CpInfo := ⟨poolList es last⟩
def fileOf (pool : Array CpInfo) (this : Nat) (attrs : Array Attribute := #[]) (ms : Array MethodInfo := #[]) (fl : Nat := 33) (sup : Nat := 0) (ifs : Array Nat := #[]) (fds : Array FieldInfo := #[]) : ClassFile where
  minorVersion := 0
  majorVersion := 65
  constantPool := pool
  accessFlags := fl
  thisClass := this
  superClass := sup
  interfaces := ifs
  fields := fds
  methods := ms
  attributes := attrs
def plain (name : String) (sup : Option ClassId) : Class where
  name := name
  kind := .ordinary
  loader := none
  accessFlags := 33
  super := sup
  interfaces := #[]
  cf := none
  fields := #[]
  methods := #[]
  instanceTypes := #[]
  staticTypes := #[]
  resolved := #[]
  callSites := []
  init := .initialized
  statics := none
  mirror := none

def pool0 : Array CpInfo := pool [(5, u "<init>"), (0, u "()V"), (1, .class_ 10), (1, u "java/lang/Object")] 113

def k0c0 : Code := { maxStack := 0, maxLocals := 1, code := object_method_1_code, exceptionTable := #[], attributes := #[] }
def k0m0 : Method := { name := "<init>", desc := "()V", sig := { parameters := [], returnType := none }, accessFlags := 1, code := some k0c0 }
/-- java/lang/Object -/
def k0 : Class := { plain "java/lang/Object" none with
  accessFlags := 33
  interfaces := #[]
  cf := some (fileOf pool0 8 #[] #[{ accessFlags := 1, nameIndex := 5, descriptorIndex := 6, attributes := #[] }] 33 0 #[] #[])
  fields := #[]
  methods := #[k0m0]
  instanceTypes := #[]
  staticTypes := #[]
  resolved := Array.replicate 124 none
  statics := none }

def pool1 : Array CpInfo := pool [(2, .class_ 4), (1, u "java/lang/Object"), (0, u "<init>"), (0, u "()V"), (0, .integer 2147483647), (0, .class_ 9), (0, u "com/example/wegweiser/wegweiser/index/ByteSink"), (0, .methodref 8 11), (0, .nameAndType 5 12), (0, u "(I)V"), (0, .methodref 8 14), (0, .nameAndType 15 12), (0, u "write"), (0, .methodref 8 17), (0, .nameAndType 18 19), (0, u "length"), (0, u "()I"), (0, .methodref 8 21), (0, .nameAndType 22 19), (0, u "capacity"), (0, .methodref 8 24), (0, .nameAndType 25 26), (0, u "bytes"), (0, u "()[B"), (0, .methodref 28 29), (0, .class_ 30), (0, .nameAndType 31 32), (0, u "com/example/wegweiser/wegweiser/index/ByteSinkWritePinLaw"), (0, u "at"), (0, u "([B[III)Z"), (2, u "law"), (0, u "(IIIIII)Z")] 7

def k1m0 : Method := { name := "<init>", desc := "()V", sig := { parameters := [], returnType := none }, accessFlags := 1, code := none }
def k1c1 : Code := { maxStack := 5, maxLocals := 12, code := code, exceptionTable := #[], attributes := #[] }
def k1m1 : Method := { name := "law", desc := "(IIIIII)Z", sig := { parameters := [.int, .int, .int, .int, .int, .int], returnType := some .boolean }, accessFlags := 9, code := some k1c1 }
def k1c2 : Code := { maxStack := 3, maxLocals := 4, code := method_3_code, exceptionTable := #[], attributes := #[] }
def k1m2 : Method := { name := "at", desc := "([B[III)Z", sig := { parameters := [(.array .byte), (.array .int), .int, .int], returnType := some .boolean }, accessFlags := 10, code := some k1c2 }
/-- com/example/wegweiser/wegweiser/index/ByteSinkWritePinLaw -/
def k1 : Class := { plain "com/example/wegweiser/wegweiser/index/ByteSinkWritePinLaw" (some 0) with
  accessFlags := 49
  interfaces := #[]
  cf := some (fileOf pool1 28 #[] #[{ accessFlags := 1, nameIndex := 5, descriptorIndex := 6, attributes := #[] }, { accessFlags := 9, nameIndex := 35, descriptorIndex := 36, attributes := #[] }, { accessFlags := 10, nameIndex := 31, descriptorIndex := 32, attributes := #[] }] 49 2 #[] #[])
  fields := #[]
  methods := #[k1m0, k1m1, k1m2]
  instanceTypes := #[]
  staticTypes := #[]
  resolved := Array.replicate 44 none
  statics := none }

def pool2 : Array CpInfo := pool [(1, .class_ 2), (0, u "java/lang/AutoCloseable"), (0, .class_ 4), (0, u "java/lang/Object")] 7

/-- java/lang/AutoCloseable -/
def k2 : Class := { plain "java/lang/AutoCloseable" (some 0) with
  accessFlags := 1537
  interfaces := #[]
  cf := some (fileOf pool2 1 #[] #[] 1537 3 #[] #[])
  fields := #[]
  methods := #[]
  instanceTypes := #[]
  staticTypes := #[]
  resolved := Array.replicate 12 none
  statics := none }

def pool3 : Array CpInfo := pool [(1, .class_ 2), (0, u "java/io/Closeable"), (0, .class_ 4), (0, u "java/lang/Object"), (0, .class_ 6), (0, u "java/lang/AutoCloseable")] 7

/-- java/io/Closeable -/
def k3 : Class := { plain "java/io/Closeable" (some 0) with
  accessFlags := 1537
  interfaces := #[2]
  cf := some (fileOf pool3 1 #[] #[] 1537 3 #[5] #[])
  fields := #[]
  methods := #[]
  instanceTypes := #[]
  staticTypes := #[]
  resolved := Array.replicate 14 none
  statics := none }

def pool4 : Array CpInfo := pool [(1, .class_ 2), (0, u "java/io/Flushable"), (0, .class_ 4), (0, u "java/lang/Object")] 7

/-- java/io/Flushable -/
def k4 : Class := { plain "java/io/Flushable" (some 0) with
  accessFlags := 1537
  interfaces := #[]
  cf := some (fileOf pool4 1 #[] #[] 1537 3 #[] #[])
  fields := #[]
  methods := #[]
  instanceTypes := #[]
  staticTypes := #[]
  resolved := Array.replicate 12 none
  statics := none }

def pool5 : Array CpInfo := pool [(1, .methodref 2 3), (0, .class_ 4), (0, .nameAndType 5 6), (0, u "java/lang/Object"), (0, u "<init>"), (0, u "()V"), (0, .class_ 8), (0, u "java/io/OutputStream$1"), (2, .class_ 13), (1, u "java/io/OutputStream"), (11, .class_ 26), (0, u "java/io/Closeable"), (0, .class_ 28), (0, u "java/io/Flushable")] 24

def k5c0 : Code := { maxStack := 1, maxLocals := 1, code := jdk_2038_method_1_code, exceptionTable := #[], attributes := #[] }
def k5m0 : Method := { name := "<init>", desc := "()V", sig := { parameters := [], returnType := none }, accessFlags := 1, code := some k5c0 }
/-- java/io/OutputStream -/
def k5 : Class := { plain "java/io/OutputStream" (some 0) with
  accessFlags := 1057
  interfaces := #[3, 4]
  cf := some (fileOf pool5 11 #[.nestMembers #[7]] #[{ accessFlags := 1, nameIndex := 5, descriptorIndex := 6, attributes := #[] }] 1057 2 #[25, 27] #[])
  fields := #[]
  methods := #[k5m0]
  instanceTypes := #[]
  staticTypes := #[]
  resolved := Array.replicate 53 none
  statics := none }

def pool6 : Array CpInfo := pool [(1, .methodref 2 3), (0, .class_ 4), (0, .nameAndType 5 6), (0, u "java/io/OutputStream"), (0, u "<init>"), (0, u "()V"), (0, .fieldref 8 9), (0, .class_ 10), (0, .nameAndType 11 12), (0, u "com/example/wegweiser/wegweiser/index/ByteSink"), (0, u "bytes"), (0, u "[B"), (0, .fieldref 8 14), (0, .nameAndType 15 16), (0, u "length"), (0, u "I"), (0, .methodref 18 19), (0, .class_ 20), (0, .nameAndType 21 22), (0, u "java/util/Arrays"), (0, u "copyOf"), (0, u "([BI)[B"), (12, u "(I)V"), (2, u "write"), (2, u "()[B"), (0, u "()I"), (0, u "capacity")] 3

def k6c0 : Code := { maxStack := 2, maxLocals := 2, code := prog_14_method_1_code, exceptionTable := #[], attributes := #[] }
def k6m0 : Method := { name := "<init>", desc := "(I)V", sig := { parameters := [.int], returnType := none }, accessFlags := 0, code := some k6c0 }
def k6c1 : Code := { maxStack := 5, maxLocals := 2, code := prog_14_method_2_code, exceptionTable := #[], attributes := #[] }
def k6m1 : Method := { name := "write", desc := "(I)V", sig := { parameters := [.int], returnType := none }, accessFlags := 1, code := some k6c1 }
def k6c2 : Code := { maxStack := 1, maxLocals := 1, code := prog_14_method_4_code, exceptionTable := #[], attributes := #[] }
def k6m2 : Method := { name := "bytes", desc := "()[B", sig := { parameters := [], returnType := some (.array .byte) }, accessFlags := 0, code := some k6c2 }
def k6c3 : Code := { maxStack := 1, maxLocals := 1, code := prog_14_method_5_code, exceptionTable := #[], attributes := #[] }
def k6m3 : Method := { name := "length", desc := "()I", sig := { parameters := [], returnType := some .int }, accessFlags := 0, code := some k6c3 }
def k6c4 : Code := { maxStack := 1, maxLocals := 1, code := prog_14_method_6_code, exceptionTable := #[], attributes := #[] }
def k6m4 : Method := { name := "capacity", desc := "()I", sig := { parameters := [], returnType := some .int }, accessFlags := 0, code := some k6c4 }
/-- com/example/wegweiser/wegweiser/index/ByteSink -/
def k6 : Class := { plain "com/example/wegweiser/wegweiser/index/ByteSink" (some 5) with
  accessFlags := 32
  interfaces := #[]
  cf := some (fileOf pool6 8 #[] #[{ accessFlags := 0, nameIndex := 5, descriptorIndex := 35, attributes := #[] }, { accessFlags := 1, nameIndex := 38, descriptorIndex := 35, attributes := #[] }, { accessFlags := 0, nameIndex := 11, descriptorIndex := 41, attributes := #[] }, { accessFlags := 0, nameIndex := 15, descriptorIndex := 42, attributes := #[] }, { accessFlags := 0, nameIndex := 43, descriptorIndex := 42, attributes := #[] }] 32 2 #[] #[{ accessFlags := 2, nameIndex := 11, descriptorIndex := 12, attributes := #[] }, { accessFlags := 2, nameIndex := 15, descriptorIndex := 16, attributes := #[] }])
  fields := #[{ name := "bytes", type := (.array .byte), accessFlags := 2, slot := 0, constantValue := 0 }, { name := "length", type := .int, accessFlags := 2, slot := 1, constantValue := 0 }]
  methods := #[k6m0, k6m1, k6m2, k6m3, k6m4]
  instanceTypes := #[(.array .byte), .int]
  staticTypes := #[]
  resolved := Array.replicate 47 none
  statics := none }

def pool7 : Array CpInfo := pool [(2, .class_ 4), (1, u "java/lang/Object"), (0, u "<init>"), (0, u "()V"), (7, .class_ 16), (1, u "java/util/Arrays"), (57, .class_ 76), (1, u "java/util/Arrays$NaturalOrder"), (36, .class_ 115), (1, u "java/util/Arrays$LegacyMergeSort"), (1, u "Z"), (32, .methodref 151 152), (0, .class_ 153), (0, .nameAndType 154 155), (0, u "java/lang/System"), (0, u "arraycopy"), (0, u "(Ljava/lang/Object;ILjava/lang/Object;II)V"), (146, u "copyOf"), (1, .methodref 305 306), (0, .class_ 307), (0, .nameAndType 308 309), (0, u "java/lang/Math"), (0, u "min"), (0, u "(II)I"), (65, .class_ 376), (0, u "java/util/Arrays$ArrayList"), (68, u "$assertionsDisabled"), (269, u "MIN_ARRAY_SORT_GRAN"), (0, u "I"), (2, u "INSERTIONSORT_THRESHOLD"), (149, u "([BI)[B"), (105, .class_ 976), (0, u "java/util/Arrays$ArrayItr")] 52

def k7m0 : Method := { name := "<init>", desc := "()V", sig := { parameters := [], returnType := none }, accessFlags := 2, code := none }
def k7c1 : Code := { maxStack := 6, maxLocals := 3, code := jdk_65_method_121_code, exceptionTable := #[], attributes := #[] }
def k7m1 : Method := { name := "copyOf", desc := "([BI)[B", sig := { parameters := [(.array .byte), .int], returnType := some (.array .byte) }, accessFlags := 9, code := some k7c1 }
/-- java/util/Arrays -/
def k7 : Class := { plain "java/util/Arrays" (some 0) with
  accessFlags := 49
  interfaces := #[]
  cf := some (fileOf pool7 14 #[.nestMembers #[975, 375, 113, 74]] #[{ accessFlags := 2, nameIndex := 5, descriptorIndex := 6, attributes := #[] }, { accessFlags := 9, nameIndex := 302, descriptorIndex := 869, attributes := #[] }] 49 2 #[] #[{ accessFlags := 26, nameIndex := 715, descriptorIndex := 716, attributes := #[] }, { accessFlags := 26, nameIndex := 719, descriptorIndex := 716, attributes := #[] }, { accessFlags := 4120, nameIndex := 445, descriptorIndex := 117, attributes := #[] }])
  fields := #[{ name := "MIN_ARRAY_SORT_GRAN", type := .int, accessFlags := 26, slot := 0, constantValue := 0 }, { name := "INSERTIONSORT_THRESHOLD", type := .int, accessFlags := 26, slot := 1, constantValue := 0 }, { name := "$assertionsDisabled", type := .boolean, accessFlags := 4120, slot := 2, constantValue := 0 }]
  methods := #[k7m0, k7m1]
  instanceTypes := #[]
  staticTypes := #[.int, .int, .boolean]
  resolved := Array.replicate 1029 none
  statics := none }

def pool8 : Array CpInfo := pool [(1, .class_ 2), (0, u "java/lang/Math"), (1, .class_ 6), (1, u "java/lang/Object"), (0, u "<init>"), (0, u "()V"), (89, .class_ 100), (1, u "java/lang/Math$RandomNumberGeneratorHolder"), (71, u "negativeZeroFloatBits"), (0, u "J"), (2, u "negativeZeroDoubleBits"), (24, u "min"), (43, u "$assertionsDisabled"), (0, u "Z"), (88, u "(II)I"), (2, u "twoToTheDoubleScaleDown"), (0, u "D"), (4, u "twoToTheDoubleScaleUp"), (9, u "E"), (3, u "PI"), (2, u "TAU"), (2, u "DEGREES_TO_RADIANS"), (0, u "RADIANS_TO_DEGREES")] 94

def k8m0 : Method := { name := "<init>", desc := "()V", sig := { parameters := [], returnType := none }, accessFlags := 2, code := none }
def k8c1 : Code := { maxStack := 2, maxLocals := 2, code := jdk_29_method_69_code, exceptionTable := #[], attributes := #[] }
def k8m1 : Method := { name := "min", desc := "(II)I", sig := { parameters := [.int, .int], returnType := some .int }, accessFlags := 9, code := some k8c1 }
/-- java/lang/Math -/
def k8 : Class := { plain "java/lang/Math" (some 0) with
  accessFlags := 49
  interfaces := #[]
  cf := some (fileOf pool8 1 #[.nestMembers #[98]] #[{ accessFlags := 2, nameIndex := 7, descriptorIndex := 8, attributes := #[] }, { accessFlags := 9, nameIndex := 201, descriptorIndex := 335, attributes := #[] }] 49 4 #[] #[{ accessFlags := 25, nameIndex := 354, descriptorIndex := 339, attributes := #[] }, { accessFlags := 25, nameIndex := 358, descriptorIndex := 339, attributes := #[] }, { accessFlags := 25, nameIndex := 361, descriptorIndex := 339, attributes := #[] }, { accessFlags := 26, nameIndex := 364, descriptorIndex := 339, attributes := #[] }, { accessFlags := 26, nameIndex := 365, descriptorIndex := 339, attributes := #[] }, { accessFlags := 26, nameIndex := 172, descriptorIndex := 173, attributes := #[] }, { accessFlags := 26, nameIndex := 176, descriptorIndex := 173, attributes := #[] }, { accessFlags := 8, nameIndex := 344, descriptorIndex := 339, attributes := #[] }, { accessFlags := 8, nameIndex := 338, descriptorIndex := 339, attributes := #[] }, { accessFlags := 4120, nameIndex := 245, descriptorIndex := 246, attributes := #[] }])
  fields := #[{ name := "E", type := .double, accessFlags := 25, slot := 0, constantValue := 0 }, { name := "PI", type := .double, accessFlags := 25, slot := 1, constantValue := 0 }, { name := "TAU", type := .double, accessFlags := 25, slot := 2, constantValue := 0 }, { name := "DEGREES_TO_RADIANS", type := .double, accessFlags := 26, slot := 3, constantValue := 0 }, { name := "RADIANS_TO_DEGREES", type := .double, accessFlags := 26, slot := 4, constantValue := 0 }, { name := "negativeZeroFloatBits", type := .long, accessFlags := 26, slot := 5, constantValue := 0 }, { name := "negativeZeroDoubleBits", type := .long, accessFlags := 26, slot := 6, constantValue := 0 }, { name := "twoToTheDoubleScaleUp", type := .double, accessFlags := 8, slot := 7, constantValue := 0 }, { name := "twoToTheDoubleScaleDown", type := .double, accessFlags := 8, slot := 8, constantValue := 0 }, { name := "$assertionsDisabled", type := .boolean, accessFlags := 4120, slot := 9, constantValue := 0 }]
  methods := #[k8m0, k8m1]
  instanceTypes := #[]
  staticTypes := #[.double, .double, .double, .double, .double, .long, .long, .double, .double, .boolean]
  resolved := Array.replicate 460 none
  statics := none }

def pool9 : Array CpInfo := pool [(2, .class_ 4), (1, u "java/lang/Object"), (0, u "<init>"), (0, u "()V"), (1, .class_ 10), (1, u "java/lang/System"), (0, u "allowSecurityManager"), (0, u "I"), (16, u "cons"), (0, u "Ljava/io/Console;"), (77, .class_ 110), (1, u "java/lang/System$CallersHolder"), (43, u "initialErrStream"), (0, u "Ljava/io/PrintStream;"), (19, u "security"), (0, u "Ljava/lang/SecurityManager;"), (31, .class_ 209), (0, u "java/lang/System$1"), (7, u "props"), (0, u "Ljava/util/Properties;"), (2, u "lineSeparator"), (0, u "Ljava/lang/String;"), (96, .class_ 321), (1, u "java/lang/System$LoggerFinder"), (5, .class_ 328), (0, u "java/lang/System$Logger"), (67, u "err"), (2, u "out"), (91, u "notSupportedJnuEncoding"), (15, u "in"), (17, u "initialIn"), (0, u "Ljava/io/InputStream;"), (35, u "bootLayer"), (0, u "Ljava/lang/ModuleLayer;"), (99, .class_ 664), (0, u "java/lang/System$2"), (9, u "NEVER"), (2, u "MAYBE"), (49, u "arraycopy"), (0, u "(Ljava/lang/Object;ILjava/lang/Object;II)V"), (72, .class_ 802), (0, u "java/lang/System$Logger$Level")] 31

def k9m0 : Method := { name := "<init>", desc := "()V", sig := { parameters := [], returnType := none }, accessFlags := 2, code := none }
def k9m1 : Method := { name := "arraycopy", desc := "(Ljava/lang/Object;ILjava/lang/Object;II)V", sig := { parameters := [(.object "java/lang/Object"), .int, (.object "java/lang/Object"), .int, .int], returnType := none }, accessFlags := 265, code := none }
/-- java/lang/System -/
def k9 : Class := { plain "java/lang/System" (some 0) with
  accessFlags := 49
  interfaces := #[]
  cf := some (fileOf pool9 8 #[.nestMembers #[319, 327, 801, 108, 663, 208]] #[{ accessFlags := 2, nameIndex := 5, descriptorIndex := 6, attributes := #[] }, { accessFlags := 265, nameIndex := 727, descriptorIndex := 728, attributes := #[] }] 49 2 #[] #[{ accessFlags := 25, nameIndex := 507, descriptorIndex := 526, attributes := #[] }, { accessFlags := 25, nameIndex := 399, descriptorIndex := 155, attributes := #[] }, { accessFlags := 25, nameIndex := 396, descriptorIndex := 155, attributes := #[] }, { accessFlags := 10, nameIndex := 525, descriptorIndex := 526, attributes := #[] }, { accessFlags := 26, nameIndex := 674, descriptorIndex := 12, attributes := #[] }, { accessFlags := 26, nameIndex := 677, descriptorIndex := 12, attributes := #[] }, { accessFlags := 10, nameIndex := 11, descriptorIndex := 12, attributes := #[] }, { accessFlags := 74, nameIndex := 175, descriptorIndex := 176, attributes := #[] }, { accessFlags := 10, nameIndex := 491, descriptorIndex := 222, attributes := #[] }, { accessFlags := 74, nameIndex := 29, descriptorIndex := 30, attributes := #[] }, { accessFlags := 74, nameIndex := 154, descriptorIndex := 155, attributes := #[] }, { accessFlags := 10, nameIndex := 217, descriptorIndex := 218, attributes := #[] }, { accessFlags := 10, nameIndex := 221, descriptorIndex := 222, attributes := #[] }, { accessFlags := 8, nameIndex := 562, descriptorIndex := 563, attributes := #[] }])
  fields := #[{ name := "in", type := (.object "java/io/InputStream"), accessFlags := 25, slot := 0, constantValue := 0 }, { name := "out", type := (.object "java/io/PrintStream"), accessFlags := 25, slot := 1, constantValue := 0 }, { name := "err", type := (.object "java/io/PrintStream"), accessFlags := 25, slot := 2, constantValue := 0 }, { name := "initialIn", type := (.object "java/io/InputStream"), accessFlags := 10, slot := 3, constantValue := 0 }, { name := "NEVER", type := .int, accessFlags := 26, slot := 4, constantValue := 0 }, { name := "MAYBE", type := .int, accessFlags := 26, slot := 5, constantValue := 0 }, { name := "allowSecurityManager", type := .int, accessFlags := 10, slot := 6, constantValue := 0 }, { name := "security", type := (.object "java/lang/SecurityManager"), accessFlags := 74, slot := 7, constantValue := 0 }, { name := "notSupportedJnuEncoding", type := (.object "java/lang/String"), accessFlags := 10, slot := 8, constantValue := 0 }, { name := "cons", type := (.object "java/io/Console"), accessFlags := 74, slot := 9, constantValue := 0 }, { name := "initialErrStream", type := (.object "java/io/PrintStream"), accessFlags := 74, slot := 10, constantValue := 0 }, { name := "props", type := (.object "java/util/Properties"), accessFlags := 10, slot := 11, constantValue := 0 }, { name := "lineSeparator", type := (.object "java/lang/String"), accessFlags := 10, slot := 12, constantValue := 0 }, { name := "bootLayer", type := (.object "java/lang/ModuleLayer"), accessFlags := 8, slot := 13, constantValue := 0 }]
  methods := #[k9m0, k9m1]
  instanceTypes := #[]
  staticTypes := #[(.object "java/io/InputStream"), (.object "java/io/PrintStream"), (.object "java/io/PrintStream"), (.object "java/io/InputStream"), .int, .int, .int, (.object "java/lang/SecurityManager"), (.object "java/lang/String"), (.object "java/io/Console"), (.object "java/io/PrintStream"), (.object "java/util/Properties"), (.object "java/lang/String"), (.object "java/lang/ModuleLayer")]
  resolved := Array.replicate 834 none
  statics := none }

def pool10 : Array CpInfo := pool [(1, u "java/lang/Cloneable"), (0, .class_ 1), (0, u "java/lang/Object"), (0, .class_ 3)] 3

/-- java/lang/Cloneable -/
def k10 : Class := { plain "java/lang/Cloneable" (some 0) with
  accessFlags := 1537
  interfaces := #[]
  cf := some (fileOf pool10 2 #[] #[] 1537 4 #[] #[])
  fields := #[]
  methods := #[]
  instanceTypes := #[]
  staticTypes := #[]
  resolved := Array.replicate 8 none
  statics := none }

def pool11 : Array CpInfo := pool [(1, u "java/io/Serializable"), (0, .class_ 1), (0, u "java/lang/Object"), (0, .class_ 3)] 3

/-- java/io/Serializable -/
def k11 : Class := { plain "java/io/Serializable" (some 0) with
  accessFlags := 1537
  interfaces := #[]
  cf := some (fileOf pool11 2 #[] #[] 1537 4 #[] #[])
  fields := #[]
  methods := #[]
  instanceTypes := #[]
  staticTypes := #[]
  resolved := Array.replicate 8 none
  statics := none }

/-- the primitive byte -/
def k12 : Class := { plain "byte" none with kind := .primitive 'B', accessFlags := 0x411 }
/-- [B -/
def k13 : Class := { plain "[B" (some 0) with kind := .array 12 .byte, interfaces := #[10, 11], accessFlags := 1041 }

/-- the primitive int -/
def k14 : Class := { plain "int" none with kind := .primitive 'I', accessFlags := 0x411 }
/-- [I -/
def k15 : Class := { plain "[I" (some 0) with kind := .array 14 .int, interfaces := #[10, 11], accessFlags := 1041 }

def heap : Heap := #[]
def classes : Array Class := #[k0, k1, k2, k3, k4, k5, k6, k7, k8, k9, k10, k11, k12, k13, k14, k15]
def interned : List (Array UInt16 × Addr) := []
def slotsUsed : Nat := 0
def theMethod : MethodId := ⟨1, 1⟩
def args0 : Array Value := #[.int 5, .int 5, .int 5, .int 5, .int 5, .int 5]
def aboutOver (below : List Frame) : State where
  vm := { classes := classes, interned := interned.toArray }
  heap := heap
  slotsUsed := slotsUsed
  threads := #[{ frames := .invoking theMethod args0 :: below }]
def below0 : List Frame := [.native { method := ⟨0, 0⟩, args := #[] }]
def about1 : State := aboutOver below0
def p0 : Program := .bare "" "" ""
def e0 : Env := launch0.env 0 0 0
theorem w_frames : about1.frames = Frame.invoking theMethod args0 :: below0 := rfl
set_option maxRecDepth 65536 in
theorem w_args : argsFit about1.vm theMethod args0 = true := by decide +kernel
set_option maxRecDepth 65536 in
theorem w_heap : heapFits about1 = true := by decide +kernel
set_option maxRecDepth 65536 in
theorem w_runnable : about1.curStatus? = some .runnable := by decide +kernel
set_option maxRecDepth 65536 in
theorem w_alone : about1.alone = true := by decide +kernel
set_option maxRecDepth 65536 in
theorem w_named : about1.methodNamed? x = some theMethod := by decide +kernel
set_option maxRecDepth 65536 in
theorem w_hears : about1.hears theMethod below0 = true := by decide +kernel
set_option maxRecDepth 65536 in
theorem w_ripe : about1.ripe theMethod args0 below0 = true := by decide +kernel
theorem w_running : about1.status = .running := rfl
set_option maxRecDepth 65536 in
theorem w_room : about1.hasRoom e0.platform room_1 = true :=
  launch0.hasRoom_least _ room_1 (by decide +kernel) (by decide +kernel) (by decide +kernel) (by decide +kernel) (by decide +kernel) (by decide +kernel)
theorem allAtoms_all (ts : List Jvm.Cond) (a : Array Jvm.Value) (st : Jvm.State) : (allAtoms ts).before a st = ts.all (fun c => c.before a st) := by
  induction ts with
  | nil => rfl
  | cons c t ih =>
    show (Jvm.Cond.and c (allAtoms t)).before a st = _
    rw [Jvm.Cond.before_and, ih, List.all_cons]
def words1 : List Jvm.Cond := Jvm.Cond.code x code maxLocals ret :: tables_1
/-- a 'code' word, met by the world's own term for the bytes: nothing is compared byte by byte -/
theorem code_word {y : MethodName} {bytes : ByteArray} {mx : Nat} {rt : Option FieldType} {a : Array Value} {s : State} {m : MethodId} {meth : Method} {c : Code} (h1 : s.methodNamed? y = some m) (h2 : s.vm.method? m = some meth) (h3 : meth.code = some c) (h4 : c.code = bytes)
    (h5 : (c.maxLocals == mx && c.exceptionTable.isEmpty && decide (c.maxStack ≤ mostOperands) && decide (meth.sig.returnType = rt) && !meth.locks && decide (parseMethodDescriptor y.desc = some meth.sig)) = true) : (Jvm.Cond.code y bytes mx rt).before a s = true := by
  simp only [Bool.and_eq_true, beq_iff_eq, Bool.not_eq_true', decide_eq_true_eq] at h5
  obtain ⟨⟨⟨⟨⟨g1, g2⟩, g3⟩, g4⟩, g5⟩, g6⟩ := h5
  simp [Cond.before, Cond.holds, Cond.value, h1, h2, h3, h4, g1, g2, g3, g4, g5, g6]
def isCode : Jvm.Cond → Bool
  | .code _ _ _ _ => true
  | _ => false
theorem all_split {L : List Jvm.Cond} {P : Jvm.Cond → Bool} (h1 : L.all (fun c => isCode c || P c) = true) (h2 : ∀ c ∈ L.filter isCode, P c = true) : L.all P = true := by
  refine List.all_eq_true.mpr fun c hc => ?_
  have h := List.all_eq_true.mp h1 c hc
  rcases Bool.eq_false_or_eq_true (isCode c) with hi | hi
  · exact h2 c (List.mem_filter.mpr ⟨hc, hi⟩)
  · simpa [hi] using h
set_option maxRecDepth 65536 in
theorem w_c0 : (Jvm.Cond.code x code maxLocals ret).before args0 about1 = true := code_word (m := ⟨1, 1⟩) (meth := k1m1) (c := k1c1) (by decide +kernel) rfl rfl rfl (by decide +kernel)
set_option maxRecDepth 65536 in
theorem w_c1 : (Jvm.Cond.code ({ cls := "com/example/wegweiser/wegweiser/index/ByteSink", name := "<init>", desc := "(I)V" } : Jvm.MethodName) prog_14_method_1_code (2 : Nat) (Option.none : Option Jvm.ClassFile.FieldType)).before args0 about1 = true := code_word (m := ⟨6, 0⟩) (meth := k6m0) (c := k6c0) (by decide +kernel) rfl rfl rfl (by decide +kernel)
set_option maxRecDepth 65536 in
theorem w_c2 : (Jvm.Cond.code ({ cls := "java/io/OutputStream", name := "<init>", desc := "()V" } : Jvm.MethodName) jdk_2038_method_1_code (1 : Nat) (Option.none : Option Jvm.ClassFile.FieldType)).before args0 about1 = true := code_word (m := ⟨5, 0⟩) (meth := k5m0) (c := k5c0) (by decide +kernel) rfl rfl rfl (by decide +kernel)
set_option maxRecDepth 65536 in
theorem w_c3 : (Jvm.Cond.code ({ cls := "java/lang/Object", name := "<init>", desc := "()V" } : Jvm.MethodName) object_method_1_code (1 : Nat) (Option.none : Option Jvm.ClassFile.FieldType)).before args0 about1 = true := code_word (m := ⟨0, 0⟩) (meth := k0m0) (c := k0c0) (by decide +kernel) rfl rfl rfl (by decide +kernel)
set_option maxRecDepth 65536 in
theorem w_c4 : (Jvm.Cond.code ({ cls := "com/example/wegweiser/wegweiser/index/ByteSink", name := "write", desc := "(I)V" } : Jvm.MethodName) prog_14_method_2_code (2 : Nat) (Option.none : Option Jvm.ClassFile.FieldType)).before args0 about1 = true := code_word (m := ⟨6, 1⟩) (meth := k6m1) (c := k6c1) (by decide +kernel) rfl rfl rfl (by decide +kernel)
set_option maxRecDepth 65536 in
theorem w_c5 : (Jvm.Cond.code ({ cls := "java/util/Arrays", name := "copyOf", desc := "([BI)[B" } : Jvm.MethodName) jdk_65_method_121_code (3 : Nat) (Option.some (Jvm.ClassFile.FieldType.array Jvm.ClassFile.FieldType.byte))).before args0 about1 = true := code_word (m := ⟨7, 1⟩) (meth := k7m1) (c := k7c1) (by decide +kernel) rfl rfl rfl (by decide +kernel)
set_option maxRecDepth 65536 in
theorem w_c6 : (Jvm.Cond.code ({ cls := "java/lang/Math", name := "min", desc := "(II)I" } : Jvm.MethodName) jdk_29_method_69_code (2 : Nat) (Option.some Jvm.ClassFile.FieldType.int)).before args0 about1 = true := code_word (m := ⟨8, 1⟩) (meth := k8m1) (c := k8c1) (by decide +kernel) rfl rfl rfl (by decide +kernel)
set_option maxRecDepth 65536 in
theorem w_c7 : (Jvm.Cond.code ({ cls := "com/example/wegweiser/wegweiser/index/ByteSink", name := "length", desc := "()I" } : Jvm.MethodName) prog_14_method_5_code (1 : Nat) (Option.some Jvm.ClassFile.FieldType.int)).before args0 about1 = true := code_word (m := ⟨6, 3⟩) (meth := k6m3) (c := k6c3) (by decide +kernel) rfl rfl rfl (by decide +kernel)
set_option maxRecDepth 65536 in
theorem w_c8 : (Jvm.Cond.code ({ cls := "com/example/wegweiser/wegweiser/index/ByteSink", name := "capacity", desc := "()I" } : Jvm.MethodName) prog_14_method_6_code (1 : Nat) (Option.some Jvm.ClassFile.FieldType.int)).before args0 about1 = true := code_word (m := ⟨6, 4⟩) (meth := k6m4) (c := k6c4) (by decide +kernel) rfl rfl rfl (by decide +kernel)
set_option maxRecDepth 65536 in
theorem w_c9 : (Jvm.Cond.code ({ cls := "com/example/wegweiser/wegweiser/index/ByteSink", name := "bytes", desc := "()[B" } : Jvm.MethodName) prog_14_method_4_code (1 : Nat) (Option.some (Jvm.ClassFile.FieldType.array Jvm.ClassFile.FieldType.byte))).before args0 about1 = true := code_word (m := ⟨6, 2⟩) (meth := k6m2) (c := k6c2) (by decide +kernel) rfl rfl rfl (by decide +kernel)
set_option maxRecDepth 65536 in
theorem w_c10 : (Jvm.Cond.code ({ cls := "com/example/wegweiser/wegweiser/index/ByteSinkWritePinLaw", name := "at", desc := "([B[III)Z" } : Jvm.MethodName) method_3_code (4 : Nat) (Option.some Jvm.ClassFile.FieldType.boolean)).before args0 about1 = true := code_word (m := ⟨1, 2⟩) (meth := k1m2) (c := k1c2) (by decide +kernel) rfl rfl rfl (by decide +kernel)
def codes1 : List Jvm.Cond := [Jvm.Cond.code x code maxLocals ret, Jvm.Cond.code ({ cls := "com/example/wegweiser/wegweiser/index/ByteSink", name := "<init>", desc := "(I)V" } : Jvm.MethodName) prog_14_method_1_code (2 : Nat) (Option.none : Option Jvm.ClassFile.FieldType), Jvm.Cond.code ({ cls := "java/io/OutputStream", name := "<init>", desc := "()V" } : Jvm.MethodName) jdk_2038_method_1_code (1 : Nat) (Option.none : Option Jvm.ClassFile.FieldType), Jvm.Cond.code ({ cls := "java/lang/Object", name := "<init>", desc := "()V" } : Jvm.MethodName) object_method_1_code (1 : Nat) (Option.none : Option Jvm.ClassFile.FieldType), Jvm.Cond.code ({ cls := "com/example/wegweiser/wegweiser/index/ByteSink", name := "write", desc := "(I)V" } : Jvm.MethodName) prog_14_method_2_code (2 : Nat) (Option.none : Option Jvm.ClassFile.FieldType), Jvm.Cond.code ({ cls := "java/util/Arrays", name := "copyOf", desc := "([BI)[B" } : Jvm.MethodName) jdk_65_method_121_code (3 : Nat) (Option.some (Jvm.ClassFile.FieldType.array Jvm.ClassFile.FieldType.byte)), Jvm.Cond.code ({ cls := "java/lang/Math", name := "min", desc := "(II)I" } : Jvm.MethodName) jdk_29_method_69_code (2 : Nat) (Option.some Jvm.ClassFile.FieldType.int), Jvm.Cond.code ({ cls := "com/example/wegweiser/wegweiser/index/ByteSink", name := "length", desc := "()I" } : Jvm.MethodName) prog_14_method_5_code (1 : Nat) (Option.some Jvm.ClassFile.FieldType.int), Jvm.Cond.code ({ cls := "com/example/wegweiser/wegweiser/index/ByteSink", name := "capacity", desc := "()I" } : Jvm.MethodName) prog_14_method_6_code (1 : Nat) (Option.some Jvm.ClassFile.FieldType.int), Jvm.Cond.code ({ cls := "com/example/wegweiser/wegweiser/index/ByteSink", name := "bytes", desc := "()[B" } : Jvm.MethodName) prog_14_method_4_code (1 : Nat) (Option.some (Jvm.ClassFile.FieldType.array Jvm.ClassFile.FieldType.byte)), Jvm.Cond.code ({ cls := "com/example/wegweiser/wegweiser/index/ByteSinkWritePinLaw", name := "at", desc := "([B[III)Z" } : Jvm.MethodName) method_3_code (4 : Nat) (Option.some Jvm.ClassFile.FieldType.boolean)]
set_option maxRecDepth 65536 in
theorem codes_eq : words1.filter isCode = codes1 := rfl
theorem w_codes : ∀ c ∈ words1.filter isCode, c.before args0 about1 = true := by
  rw [codes_eq]
  intro c hc
  simp only [codes1, List.mem_cons, List.not_mem_nil, or_false] at hc
  rcases hc with rfl | rfl | rfl | rfl | rfl | rfl | rfl | rfl | rfl | rfl | rfl
  · exact w_c0
  · exact w_c1
  · exact w_c2
  · exact w_c3
  · exact w_c4
  · exact w_c5
  · exact w_c6
  · exact w_c7
  · exact w_c8
  · exact w_c9
  · exact w_c10
set_option maxRecDepth 65536 in
theorem w_t1 : (words1.take 24).all (fun c => isCode c || c.before args0 about1) = true := by decide +kernel
set_option maxRecDepth 65536 in
theorem w_t2 : ((words1.drop 24).take 24).all (fun c => isCode c || c.before args0 about1) = true := by decide +kernel
set_option maxRecDepth 65536 in
theorem w_t3 : ((words1.drop 24).drop 24).all (fun c => isCode c || c.before args0 about1) = true := by decide +kernel
theorem w_tables : (allAtoms (Jvm.Cond.code x code maxLocals ret :: tables_1)).before args0 about1 = true := by
  rw [allAtoms_all]
  show words1.all (fun c => c.before args0 about1) = true
  refine all_split ?_ w_codes
  rw [← List.take_append_drop 24 words1, List.all_append, w_t1, ← List.take_append_drop 24 (words1.drop 24), List.all_append, w_t2, w_t3]
  rfl
set_option maxRecDepth 65536 in
theorem w_case : (Jvm.Cond.and given_1 narrow_1).before args0 about1 = true := by decide +kernel
theorem w_applies : (headSpec (Jvm.Cond.code x code maxLocals ret :: tables_1) room_1).applies x e0.platform about1 = true :=
  (Spec.applies_iff w_frames).mpr ⟨w_running, w_runnable, w_alone, w_named, w_hears, w_ripe, w_room, w_tables⟩
theorem atStart : AtStart classFile x code maxLocals ret World_1 tables_1 room_1 Calls_1 rest_1 Pre_1 launch0 p0 e0 about1 theMethod args0 below0 :=
  ⟨lists_1, trivial, launch0.admits_env _ _ _, launch0.least_env, fairChoices_fair.cas, fairChoices_fair.clock, w_frames, w_args, w_heap, w_applies, trivial, trivial, w_case⟩
end start1
theorem witness_1 : WitnessClaimed_1 := ⟨start1.p0, start1.e0, start1.about1, start1.theMethod, start1.args0, start1.below0, start1.atStart⟩
end Jvm.Pilot.@@N@@
