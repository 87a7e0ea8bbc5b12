import JvmDerived
import JvmDerived.Pilot.@@N@@Statement
import JvmDerived.Pilot.@@N@@Code
set_option linter.unusedVariables false
set_option linter.unusedSimpArgs false
namespace Jvm.RoadKit
open Sem ClassFile Op Lib Jvm.Stand Jvm.Free Jvm.LawKit
section New
variable {p : Program} {l : Launch} {e : Env} {R : Room} {s : State} {m : MethodId} {args : Array Value} {below : List Frame} {meth : Method} {c : Code} {T : State} {locs : List Loc} {cells slots : Nat}
theorem retI (X : Stand p l e R s m args below meth c T locs cells slots) (hx : p.tables.exec = Jvm.exec) {pc : Nat} {Ls : Array Slot} {z : Int32} {rest : List Value} (hret : meth.sig.returnType = some .int) (hd : decode c.code pc = .ok (.ireturn, 1)) {fs : List Frame}
    (hl : ∀ (f : JFrame) (acts : List Action), f.method = m → f.locked = none → f.entered = [] → (doReturn e (T.setTop f) acts (some (.int z))).1 = T.setFrames fs) : Steps p.tables e below (T.setTop (mkF m pc Ls (.int z :: rest))) (T.setFrames fs) :=
  retOut X hx hret rfl (Or.inl ⟨rfl, Or.inl rfl, z, rfl⟩) hd hl
end New
end Jvm.RoadKit
namespace Jvm.Pilot.@@N@@
open Jvm Jvm.ClassFile Sem Op Lib Jvm.Free Jvm.Stand Jvm.LawKit Jvm.RoadKit Bundle Jvm.Pilot.@@N@@.Jvm.D
def own_bt (t : Int64) : Int32 := if (lcmpW t (-1 : Int64)) = (0 : Int32) then 0 else if (lcmpW t (-2 : Int64)) = (0 : Int32) then 0 else 1
theorem own_lc0 (x y : Int64) : (lcmpW x y = 0) ↔ x = y := lw_eq x y
theorem own_law (s : Int32) (t : Int64) (hs : s = 0 ∨ s = 1 ∨ s = 2) :
    own_bt (if s = (0 : Int32) then (-1 : Int64) else (if s = (1 : Int32) then (-2 : Int64) else t)) = (if s = (2 : Int32) then (if (lcmpW t (-2 : Int64)) < (0 : Int32) then (1 : Int32) else (if (0 : Int32) < (lcmpW t (-1 : Int64)) then (1 : Int32) else (0 : Int32))) else (0 : Int32)) := by
  rcases hs with rfl | rfl | rfl
  · rw [if_pos rfl, if_neg (by decide : ¬ ((0 : Int32) = 2))]; decide
  · rw [if_neg (by decide : ¬ ((1 : Int32) = 0)), if_pos rfl, if_neg (by decide : ¬ ((1 : Int32) = 2))]; decide
  · have e1 : ¬ ((2 : Int32) = 0) := by decide
    have e2 : ¬ ((2 : Int32) = 1) := by decide
    rw [if_neg e1, if_neg e2, if_pos rfl]
    unfold own_bt
    have m1 : (-1 : Int64).toInt = -1 := rfl
    have m2 : (-2 : Int64).toInt = -2 := rfl
    have z0 : (0 : Int32).toInt = 0 := rfl
    obtain ⟨a1, a2, a3⟩ := c_lcmp t (-1)
    obtain ⟨b1, b2, b3⟩ := c_lcmp t (-2)
    rw [m1] at a1 a2 a3
    rw [m2] at b1 b2 b3
    simp only [← Int32.toInt_inj, Int32.lt_iff_toInt_lt, z0]
    generalize (lcmpW t (-1)).toInt = u at *
    generalize (lcmpW t (-2)).toInt = v at *
    split <;> (try split) <;> (try split) <;> (try split) <;> first | rfl | omega
theorem own_three (x : Int32) : ((x &&& (2147483647 : Int32)) % (3 : Int32)) = 0 ∨ ((x &&& (2147483647 : Int32)) % (3 : Int32)) = 1 ∨ ((x &&& (2147483647 : Int32)) % (3 : Int32)) = 2 := by
  have h1 := c_mask x 2147483647 31 (by decide) (by decide)
  have h2 := (c_irem (x &&& 2147483647) 3 3 rfl).1 (by rw [h1]; omega)
  have z0 : (0 : Int32).toInt = 0 := rfl
  have z1 : (1 : Int32).toInt = 1 := rfl
  have z2 : (2 : Int32).toInt = 2 := rfl
  simp only [← Int32.toInt_inj, z0, z1, z2, h2]
  omega
theorem d2_0 : decode jdk_30_method_1_code 0 = .ok (.aload_n 0, 1) := by decide +kernel
theorem d2_1 : decode jdk_30_method_1_code 1 = .ok (.invokespecial 1, 3) := by decide +kernel
theorem d2_4 : decode jdk_30_method_1_code 4 = .ok (.return_, 1) := by decide +kernel
theorem pn_0 : plainName "java/lang/Record" = true := by first | (simp [plainName, overriddenIn]; done) | decide +kernel
theorem ef_2 (m : MethodId) (x0 : Addr) : entryFrame m #[(.ref x0)] 1 = mkF m 0 #[.val (.ref x0)] [] := by first | (simp [entryFrame, mkF, argsToLocals, Value.category]; done) | rfl
def Q2 (Z : State) (a : Addr) (h0 : Heap) (n0 : Nat) (v : Option Value) (h : Heap) (L : List Loc) : Prop := v = none ∧ Fr n0 L ∧ h = h0
set_option maxRecDepth 65536 in
set_option maxHeartbeats 40000000 in
theorem rm2 (l : Launch) (Z : State) (a0 : Array Value) (hw : ∀ d ∈ tables_1, d.before a0 Z = true) (ws : List Jvm.Cond) (a : Addr) (h0 : Heap) (n0 : Nat) (Z0 : n0 ≤ h0.size) :
    MetFree l (⟨"java/lang/Record", "<init>", "()V"⟩ : MethodName) (head1 (Jvm.Cond.code (⟨"java/lang/Record", "<init>", "()V"⟩ : MethodName) jdk_30_method_1_code 1 none :: ws) ({ frames := 1, cells := 0, slots := 0, locals := 12 } : Room)) (fun aa U => aa = #[(.ref a)] ∧ Z.Warmed39 U.vm ∧ U.heap = h0) (fun _ _ _ _ _ => True) (fun _ U o U' => ∃ v L, o = .returned v ∧ Q2 Z a h0 n0 v U'.heap L ∧ FrameEnd U o U' L ({ frames := 1, cells := 0, slots := 0, locals := 12 } : Room).cells ({ frames := 1, cells := 0, slots := 0, locals := 12 } : Room).slots) := by
  refine MetFree.of_bodySF (plainFor_of_name pn_0) hisR ?_
  intro p e s m args below meth c s₁ Bd hml0 hP hK
  obtain ⟨rfl, hZ, hh⟩ := hP
  have hx := Bd.exec
  have hby := Bd.bytes
  have hml : c.maxLocals = 1 := hml0
  have hown : s.vm.findClass "java/lang/Record" = some m.cls := findClass_of_methodNamed Bd.named
  have hnm := (name_of_methodNamed Bd.named Bd.method).1
  have X0 : Stand p l e ({ frames := 1, cells := 0, slots := 0, locals := 12 } : Room) s m #[(.ref a)] below meth c s₁ [] 0 0 := Stand.of_body Bd
  have e0 : s₁.heap = h0 := by rw [← hh, Bd.state]; rfl
  have N0 := Fr.nil n0
  have pre0 : ∀ t, Steps p.tables e below (s₁.setTop (mkF m 0 #[.val (.ref a)] [])) t → Steps p.tables e below (s₁.setTop (entryFrame m #[(.ref a)] 1)) t := fun t k => castTop (ef_2 m a) k
  have k1 : ∀ t, Steps p.tables e below (s₁.setTop (mkF m 1 #[.val (.ref a)] [(.ref a)])) t → Steps p.tables e below (s₁.setTop (entryFrame m #[(.ref a)] 1)) t := fun t k => pre0 t (by
    show Steps p.tables e below (s₁.setTop (mkF m 0 #[.val (.ref a)] [])) _
    refine XS.aloadN X0.here hx rfl (hb hby d2_0) rfl rfl ?_
    exact k)
  obtain ⟨T2, X2, e2, st2⟩ := initO X0 hx hZ hown (hw _ (List.mem_of_getElem? (i := 13) rfl)) (hw _ (List.mem_of_getElem? (i := 14) rfl)) (hw _ (List.mem_of_getElem? (i := 15) rfl)) e0 (g := (mkF m 1 #[.val (.ref a)] [(.ref a)])) rfl (by rw [hml]; rfl) rfl (hb hby d2_1) (by decide) (W := 0) (by show 2 * 0 + _ ≤ _; exact Nat.le_of_eq rfl) (by decide)
  have k3 : ∀ t, Steps p.tables e below (T2.setTop (mkF m 4 #[.val (.ref a)] [])) t → Steps p.tables e below (s₁.setTop (entryFrame m #[(.ref a)] 1)) t := fun t k => k1 t (st2 t k)
  obtain ⟨fs, hr, hrun, hended, hW, hsame⟩ := X2.leave (v := none) (fun _ => rfl)
  refine ⟨_, _, k3 _ ?_, hrun, hended, _, _, rfl, ?_, ⟨_, rfl⟩, hW, hsame.mono (by decide) (by decide)⟩
  · show Steps p.tables e below (T2.setTop (mkF m 4 #[.val (.ref a)] [])) _
    exact X2.returnOut hx Bd.returns (hb hby d2_4) hr
  · show Q2 Z a h0 n0 _ T2.heap _
    rw [e2]
    exact ⟨rfl, N0, rfl⟩
theorem d1_0 : decode prog_75_method_1_code 0 = .ok (.aload_n 0, 1) := by decide +kernel
theorem d1_1 : decode prog_75_method_1_code 1 = .ok (.invokespecial 3, 3) := by decide +kernel
theorem d1_4 : decode prog_75_method_1_code 4 = .ok (.aload_n 0, 1) := by decide +kernel
theorem d1_5 : decode prog_75_method_1_code 5 = .ok (.iload_n 1, 1) := by decide +kernel
theorem d1_6 : decode prog_75_method_1_code 6 = .ok (.putfield 9, 3) := by decide +kernel
theorem d1_9 : decode prog_75_method_1_code 9 = .ok (.aload_n 0, 1) := by decide +kernel
theorem d1_10 : decode prog_75_method_1_code 10 = .ok (.lload_n 2, 1) := by decide +kernel
theorem d1_11 : decode prog_75_method_1_code 11 = .ok (.putfield 15, 3) := by decide +kernel
theorem d1_14 : decode prog_75_method_1_code 14 = .ok (.return_, 1) := by decide +kernel
theorem pn_1 : plainName "com/example/waxwing/waxwing/protocol/ListOffsetsRequest$PartitionQuery" = true := by first | (simp [plainName, overriddenIn]; done) | decide +kernel
theorem pd_0 : parseMethodDescriptor "()V" = some ⟨[], none⟩ := by decide +kernel
theorem ef_1 (m : MethodId) (x0 : Addr) (x1 : Int32) (x2 : Int64) : entryFrame m #[(.ref x0), (.int x1), (.long x2)] 4 = mkF m 0 #[.val (.ref x0), .val (.int x1), .val (.long x2), .second] [] := by first | (simp [entryFrame, mkF, argsToLocals, Value.category]; done) | rfl
def Q1 (Z : State) (a : Addr) (p1 : Int32) (p2 : Int64) (h0 : Heap) (n0 : Nat) (v : Option Value) (h : Heap) (L : List Loc) : Prop := v = none ∧ Fr n0 L ∧ Keep h0 h [a] ∧ Exa Z h a "com/example/waxwing/waxwing/protocol/ListOffsetsRequest$PartitionQuery" ∧ Fld Z h a "com/example/waxwing/waxwing/protocol/ListOffsetsRequest$PartitionQuery" "timestamp" "J" (.long p2)
set_option maxRecDepth 65536 in
set_option maxHeartbeats 40000000 in
theorem rm1 (l : Launch) (Z : State) (a0 : Array Value) (hw : ∀ d ∈ tables_1, d.before a0 Z = true) (ws : List Jvm.Cond) (a : Addr) (p1 : Int32) (p2 : Int64) (h0 : Heap) (n0 : Nat) (Z0 : n0 ≤ h0.size) (F1 : Fld Z h0 a "com/example/waxwing/waxwing/protocol/ListOffsetsRequest$PartitionQuery" "index" "I" (.int (0 : Int32))) (F2 : Fld Z h0 a "com/example/waxwing/waxwing/protocol/ListOffsetsRequest$PartitionQuery" "timestamp" "J" (.long (0 : Int64))) (Ea : Exa Z h0 a "com/example/waxwing/waxwing/protocol/ListOffsetsRequest$PartitionQuery") (g_a : n0 ≤ a) :
    MetFree l (⟨"com/example/waxwing/waxwing/protocol/ListOffsetsRequest$PartitionQuery", "<init>", "(IJ)V"⟩ : MethodName) (head1 (Jvm.Cond.code (⟨"com/example/waxwing/waxwing/protocol/ListOffsetsRequest$PartitionQuery", "<init>", "(IJ)V"⟩ : MethodName) prog_75_method_1_code 4 none :: ws) ({ frames := 2, cells := 0, slots := 0, locals := 24 } : Room)) (fun aa U => aa = #[(.ref a), (.int p1), (.long p2)] ∧ Z.Warmed39 U.vm ∧ U.heap = h0) (fun _ _ _ _ _ => True) (fun _ U o U' => ∃ v L, o = .returned v ∧ Q1 Z a p1 p2 h0 n0 v U'.heap L ∧ FrameEnd U o U' L ({ frames := 2, cells := 0, slots := 0, locals := 24 } : Room).cells ({ frames := 2, cells := 0, slots := 0, locals := 24 } : Room).slots) := by
  refine MetFree.of_bodySF (plainFor_of_name pn_1) hisR ?_
  intro p e s m args below meth c s₁ Bd hml0 hP hK
  obtain ⟨rfl, hZ, hh⟩ := hP
  have hx := Bd.exec
  have hby := Bd.bytes
  have hml : c.maxLocals = 4 := hml0
  have hown : s.vm.findClass "com/example/waxwing/waxwing/protocol/ListOffsetsRequest$PartitionQuery" = some m.cls := findClass_of_methodNamed Bd.named
  have hnm := (name_of_methodNamed Bd.named Bd.method).1
  have X0 : Stand p l e ({ frames := 2, cells := 0, slots := 0, locals := 24 } : Room) s m #[(.ref a), (.int p1), (.long p2)] below meth c s₁ [] 0 0 := Stand.of_body Bd
  have e0 : s₁.heap = h0 := by rw [← hh, Bd.state]; rfl
  have N0 := Fr.nil n0
  have pre0 : ∀ t, Steps p.tables e below (s₁.setTop (mkF m 0 #[.val (.ref a), .val (.int p1), .val (.long p2), .second] [])) t → Steps p.tables e below (s₁.setTop (entryFrame m #[(.ref a), (.int p1), (.long p2)] 4)) t := fun t k => castTop (ef_1 m a p1 p2) k
  have KR : Keep h0 h0 [a] := Keep.refl _ _
  have k5 : ∀ t, Steps p.tables e below (s₁.setTop (mkF m 1 #[.val (.ref a), .val (.int p1), .val (.long p2), .second] [(.ref a)])) t → Steps p.tables e below (s₁.setTop (entryFrame m #[(.ref a), (.int p1), (.long p2)] 4)) t := fun t k => pre0 t (by
    show Steps p.tables e below (s₁.setTop (mkF m 0 #[.val (.ref a), .val (.int p1), .val (.long p2), .second] [])) _
    refine XS.aloadN X0.here hx rfl (hb hby d1_0) rfl rfl ?_
    exact k)
  obtain ⟨_, _, ⟨T6, L6, kc6, ks6⟩, -, X6, ⟨Lc6, hQ6, l6, y6, z6⟩, st6⟩ := X0.specialBack hx (y := (⟨"java/lang/Record", "<init>", "()V"⟩ : MethodName)) rfl hown (mvT hZ (hw _ (List.mem_of_getElem? (i := 8) rfl))) (mvT hZ (hw _ (List.mem_of_getElem? (i := 9) rfl))) (mvT hZ (hw _ (List.mem_of_getElem? (i := 12) rfl))) (by decide) (backOf (W := 0) (rm2 l Z a0 hw [] a h0 n0 Z0) hZ (hw _ (List.mem_of_getElem? (i := 12) rfl)) (hw _ (List.mem_of_getElem? (i := 11) rfl)) (by decide) (by decide)) (g := (mkF m 1 #[.val (.ref a), .val (.int p1), .val (.long p2), .second] [(.ref a)])) rfl (by rw [hml]; rfl) (Steps.refl _) (a := a) (argsL := []) (rest := []) (lenOf pd_0 rfl) rfl (by show 2 * 0 + _ ≤ _; exact Nat.le_of_eq rfl) (hb hby d1_1) (fun _ _ => ⟨rfl, e0, (by decide : 0 + 0 ≤ _), (by decide : 0 + 0 ≤ _)⟩)
  dsimp only [Pt.U, Pt.locs, Pt.cells, Pt.slots] at X6 l6 y6 z6 st6 hQ6
  subst l6 y6 z6
  obtain ⟨rfl, Nq6, eq6⟩ := hQ6
  have N6 := Fr.app N0 Nq6
  have k7 : ∀ t, Steps p.tables e below (T6.setTop (mkF m 4 #[.val (.ref a), .val (.int p1), .val (.long p2), .second] [])) t → Steps p.tables e below (s₁.setTop (entryFrame m #[(.ref a), (.int p1), (.long p2)] 4)) t := fun t k => k5 t (st6.trans k)
  have k8 : ∀ t, Steps p.tables e below (T6.setTop (mkF m 6 #[.val (.ref a), .val (.int p1), .val (.long p2), .second] [(.int p1), (.ref a)])) t → Steps p.tables e below (s₁.setTop (entryFrame m #[(.ref a), (.int p1), (.long p2)] 4)) t := fun t k => k7 t (by
    show Steps p.tables e below (T6.setTop (mkF m 4 #[.val (.ref a), .val (.int p1), .val (.long p2), .second] [])) _
    refine XS.aloadN X6.here hx rfl (hb hby d1_4) rfl rfl ?_
    show Steps p.tables e below (T6.setTop (mkF m 5 #[.val (.ref a), .val (.int p1), .val (.long p2), .second] [(.ref a)])) _
    refine XS.iloadN X6.here hx rfl (hb hby d1_5) rfl ?_
    exact k)
  obtain ⟨T9, h9, X9, e9, W9, st9⟩ := putF X6 hx hZ hown (host := "") (Or.inl (hw _ (List.mem_of_getElem? (i := 16) rfl))) Via.refl eq6 F1 Ea (Or.inr ⟨(hw _ (List.mem_of_getElem? (i := 17) rfl)), rfl, hnm⟩) (hw _ (List.mem_of_getElem? (i := 3) rfl)) (ty := .int) (by decide) rfl rfl (g := (mkF m 6 #[.val (.ref a), .val (.int p1), .val (.long p2), .second] [(.int p1), (.ref a)])) rfl rfl (hb hby d1_6)
  have N9 := Fr.snoc X9 N6 g_a
  have Z10 : n0 ≤ h9.size := Nat.le_trans Z0 (Nat.le_of_eq W9.size.symm)
  have K11 : Keep h0 h9 [a] := KR.wr W9 (Or.inl (List.mem_of_getElem? (i := 0) rfl))
  have F12 : Fld Z h9 a "com/example/waxwing/waxwing/protocol/ListOffsetsRequest$PartitionQuery" "timestamp" "J" (.long (0 : Int64)) := Fld.other W9 F2 (Or.inr (slot_ne (Or.inr (hw _ (List.mem_of_getElem? (i := 19) rfl))) (Or.inr (hw _ (List.mem_of_getElem? (i := 17) rfl))) (by decide) (t := .long) (t' := .int) (by decide) (by decide)))
  have F13 : Exa Z h9 a "com/example/waxwing/waxwing/protocol/ListOffsetsRequest$PartitionQuery" := Exa.wr W9 Ea
  have F14 : Fld Z h9 a "com/example/waxwing/waxwing/protocol/ListOffsetsRequest$PartitionQuery" "index" "I" (.int p1) := Fld.same W9 F1
  have k15 : ∀ t, Steps p.tables e below (T9.setTop (mkF m 9 #[.val (.ref a), .val (.int p1), .val (.long p2), .second] [])) t → Steps p.tables e below (s₁.setTop (entryFrame m #[(.ref a), (.int p1), (.long p2)] 4)) t := fun t k => k8 t (st9 t k)
  have k16 : ∀ t, Steps p.tables e below (T9.setTop (mkF m 11 #[.val (.ref a), .val (.int p1), .val (.long p2), .second] [(.long p2), (.ref a)])) t → Steps p.tables e below (s₁.setTop (entryFrame m #[(.ref a), (.int p1), (.long p2)] 4)) t := fun t k => k15 t (by
    show Steps p.tables e below (T9.setTop (mkF m 9 #[.val (.ref a), .val (.int p1), .val (.long p2), .second] [])) _
    refine XS.aloadN X9.here hx rfl (hb hby d1_9) rfl rfl ?_
    show Steps p.tables e below (T9.setTop (mkF m 10 #[.val (.ref a), .val (.int p1), .val (.long p2), .second] [(.ref a)])) _
    refine XS.lloadN X9.here hx rfl (hb hby d1_10) rfl ?_
    exact k)
  obtain ⟨T17, h17, X17, e17, W17, st17⟩ := putF X9 hx hZ hown (host := "") (Or.inl (hw _ (List.mem_of_getElem? (i := 18) rfl))) Via.refl e9 F12 F13 (Or.inr ⟨(hw _ (List.mem_of_getElem? (i := 19) rfl)), rfl, hnm⟩) (hw _ (List.mem_of_getElem? (i := 3) rfl)) (ty := .long) (by decide) rfl rfl (g := (mkF m 11 #[.val (.ref a), .val (.int p1), .val (.long p2), .second] [(.long p2), (.ref a)])) rfl rfl (hb hby d1_11)
  have N17 := Fr.snoc X17 N9 g_a
  have Z18 : n0 ≤ h17.size := Nat.le_trans Z10 (Nat.le_of_eq W17.size.symm)
  have K19 : Keep h0 h17 [a] := K11.wr W17 (Or.inl (List.mem_of_getElem? (i := 0) rfl))
  have F20 : Exa Z h17 a "com/example/waxwing/waxwing/protocol/ListOffsetsRequest$PartitionQuery" := Exa.wr W17 F13
  have F21 : Fld Z h17 a "com/example/waxwing/waxwing/protocol/ListOffsetsRequest$PartitionQuery" "index" "I" (.int p1) := Fld.other W17 F14 (Or.inr (slot_ne (Or.inr (hw _ (List.mem_of_getElem? (i := 17) rfl))) (Or.inr (hw _ (List.mem_of_getElem? (i := 19) rfl))) (by decide) (t := .int) (t' := .long) (by decide) (by decide)))
  have F22 : Fld Z h17 a "com/example/waxwing/waxwing/protocol/ListOffsetsRequest$PartitionQuery" "timestamp" "J" (.long p2) := Fld.same W17 F12
  have k23 : ∀ t, Steps p.tables e below (T17.setTop (mkF m 14 #[.val (.ref a), .val (.int p1), .val (.long p2), .second] [])) t → Steps p.tables e below (s₁.setTop (entryFrame m #[(.ref a), (.int p1), (.long p2)] 4)) t := fun t k => k16 t (st17 t k)
  obtain ⟨fs, hr, hrun, hended, hW, hsame⟩ := X17.leave (v := none) (fun _ => rfl)
  refine ⟨_, _, k23 _ ?_, hrun, hended, _, _, rfl, ?_, ⟨_, rfl⟩, hW, hsame.mono (by decide) (by decide)⟩
  · show Steps p.tables e below (T17.setTop (mkF m 14 #[.val (.ref a), .val (.int p1), .val (.long p2), .second] [])) _
    exact X17.returnOut hx Bd.returns (hb hby d1_14) hr
  · show Q1 Z a p1 p2 h0 n0 _ T17.heap _
    rw [e17]
    exact ⟨rfl, N17, K19, F20, F22⟩
theorem d4_0 : decode prog_75_method_2_code 0 = .ok (.aload_n 0, 1) := by decide +kernel
theorem d4_1 : decode prog_75_method_2_code 1 = .ok (.getfield 15, 3) := by decide +kernel
theorem d4_4 : decode prog_75_method_2_code 4 = .ok (.ldc2_w 19, 3) := by decide +kernel
theorem d4_7 : decode prog_75_method_2_code 7 = .ok (.lcmp, 1) := by decide +kernel
theorem d4_8 : decode prog_75_method_2_code 8 = .ok (.ifCond .eq 18, 3) := by decide +kernel
theorem d4_11 : decode prog_75_method_2_code 11 = .ok (.aload_n 0, 1) := by decide +kernel
theorem d4_12 : decode prog_75_method_2_code 12 = .ok (.getfield 15, 3) := by decide +kernel
theorem d4_15 : decode prog_75_method_2_code 15 = .ok (.ldc2_w 21, 3) := by decide +kernel
theorem d4_18 : decode prog_75_method_2_code 18 = .ok (.lcmp, 1) := by decide +kernel
theorem d4_19 : decode prog_75_method_2_code 19 = .ok (.ifCond .eq 7, 3) := by decide +kernel
theorem d4_22 : decode prog_75_method_2_code 22 = .ok (.iconst 1, 1) := by decide +kernel
theorem d4_23 : decode prog_75_method_2_code 23 = .ok (.goto 4, 3) := by decide +kernel
theorem d4_26 : decode prog_75_method_2_code 26 = .ok (.iconst 0, 1) := by decide +kernel
theorem d4_27 : decode prog_75_method_2_code 27 = .ok (.ireturn, 1) := by decide +kernel
theorem ef_4 (m : MethodId) (x0 : Addr) : entryFrame m #[(.ref x0)] 1 = mkF m 0 #[.val (.ref x0)] [] := by first | (simp [entryFrame, mkF, argsToLocals, Value.category]; done) | rfl
def Q4 (Z : State) (a : Addr) (p1 : Int64) (h0 : Heap) (n0 : Nat) (v : Option Value) (h : Heap) (L : List Loc) : Prop := v = some (.int (own_bt p1)) ∧ Fr n0 L ∧ h = h0
set_option maxRecDepth 65536 in
set_option maxHeartbeats 40000000 in
theorem rm4 (l : Launch) (Z : State) (a0 : Array Value) (hw : ∀ d ∈ tables_1, d.before a0 Z = true) (ws : List Jvm.Cond) (a : Addr) (p1 : Int64) (h0 : Heap) (n0 : Nat) (Z0 : n0 ≤ h0.size) (F1 : Fld Z h0 a "com/example/waxwing/waxwing/protocol/ListOffsetsRequest$PartitionQuery" "timestamp" "J" (.long p1)) :
    MetFree l (⟨"com/example/waxwing/waxwing/protocol/ListOffsetsRequest$PartitionQuery", "byTime", "()Z"⟩ : MethodName) (head1 (Jvm.Cond.code (⟨"com/example/waxwing/waxwing/protocol/ListOffsetsRequest$PartitionQuery", "byTime", "()Z"⟩ : MethodName) prog_75_method_2_code 1 (some .boolean) :: ws) ({ frames := 0, cells := 0, slots := 0, locals := 0 } : Room)) (fun aa U => aa = #[(.ref a)] ∧ Z.Warmed39 U.vm ∧ U.heap = h0) (fun _ _ _ _ _ => True) (fun _ U o U' => ∃ v L, o = .returned v ∧ Q4 Z a p1 h0 n0 v U'.heap L ∧ FrameEnd U o U' L ({ frames := 0, cells := 0, slots := 0, locals := 0 } : Room).cells ({ frames := 0, cells := 0, slots := 0, locals := 0 } : Room).slots) := by
  refine MetFree.of_bodySF (plainFor_of_name pn_1) hisR ?_
  intro p e s m args below meth c s₁ Bd hml0 hP hK
  obtain ⟨rfl, hZ, hh⟩ := hP
  have hx := Bd.exec
  have hby := Bd.bytes
  have hml : c.maxLocals = 1 := hml0
  have hown : s.vm.findClass "com/example/waxwing/waxwing/protocol/ListOffsetsRequest$PartitionQuery" = some m.cls := findClass_of_methodNamed Bd.named
  have hnm := (name_of_methodNamed Bd.named Bd.method).1
  have X0 : Stand p l e ({ frames := 0, cells := 0, slots := 0, locals := 0 } : Room) s m #[(.ref a)] below meth c s₁ [] 0 0 := Stand.of_body Bd
  have e0 : s₁.heap = h0 := by rw [← hh, Bd.state]; rfl
  have N0 := Fr.nil n0
  have pre0 : ∀ t, Steps p.tables e below (s₁.setTop (mkF m 0 #[.val (.ref a)] [])) t → Steps p.tables e below (s₁.setTop (entryFrame m #[(.ref a)] 1)) t := fun t k => castTop (ef_4 m a) k
  have k25 : ∀ t, Steps p.tables e below (s₁.setTop (mkF m 1 #[.val (.ref a)] [(.ref a)])) t → Steps p.tables e below (s₁.setTop (entryFrame m #[(.ref a)] 1)) t := fun t k => pre0 t (by
    show Steps p.tables e below (s₁.setTop (mkF m 0 #[.val (.ref a)] [])) _
    refine XS.aloadN X0.here hx rfl (hb hby d4_0) rfl rfl ?_
    exact k)
  obtain ⟨T26, X26, e26, st26⟩ := getF X0 hx hZ hown (host := "") (Or.inl (hw _ (List.mem_of_getElem? (i := 18) rfl))) Via.refl e0 F1 (g := (mkF m 1 #[.val (.ref a)] [(.ref a)])) rfl rfl (hb hby d4_1)
  have k27 : ∀ t, Steps p.tables e below (T26.setTop (mkF m 4 #[.val (.ref a)] [(.long p1)])) t → Steps p.tables e below (s₁.setTop (entryFrame m #[(.ref a)] 1)) t := fun t k => k25 t (st26 t k)
  have k28 : ∀ t, Steps p.tables e below (T26.setTop (mkF m 8 #[.val (.ref a)] [(.int (lcmpW p1 (-1 : Int64)))])) t → Steps p.tables e below (s₁.setTop (entryFrame m #[(.ref a)] 1)) t := fun t k => k27 t (by
    show Steps p.tables e below (T26.setTop (mkF m 4 #[.val (.ref a)] [(.long p1)])) _
    refine X26.ldc2Long hx hown (mvT hZ (hw _ (List.mem_of_getElem? (i := 25) rfl))) (g := (mkF m 4 #[.val (.ref a)] [(.long p1)])) rfl (hb hby d4_4) _ ?_
    show Steps p.tables e below (T26.setTop (mkF m 7 #[.val (.ref a)] [(.long (-1 : Int64)), (.long p1)])) _
    refine XS.lcmp X26.here hx rfl (hb hby d4_7) rfl ?_
    exact k)
  by_cases hc29 : (lcmpW p1 (-1 : Int64)) = (0 : Int32)
  · have k30 : ∀ t, Steps p.tables e below (T26.setTop (mkF m 27 #[.val (.ref a)] [(.int (0 : Int32))])) t → Steps p.tables e below (s₁.setTop (entryFrame m #[(.ref a)] 1)) t := fun t k => k28 t (by
      show Steps p.tables e below (T26.setTop (mkF m 8 #[.val (.ref a)] [(.int (lcmpW p1 (-1 : Int64)))])) _
      refine XS.ifYes X26.here hx rfl (pc0 := 8) (pc' := 26) rfl (hb hby d4_8) rfl ((if0 _ _).trans (teq hc29).1) (by decide) (by decide) ?_
      show Steps p.tables e below (T26.setTop (mkF m 26 #[.val (.ref a)] [])) _
      refine XS.iconst X26.here hx rfl (hb hby d4_26) ?_
      exact k)
    obtain ⟨fs, hr, hrun, hended, hW, hsame⟩ := X26.leave (v := some (.int (0 : Int32))) (fun h => by rw [Bd.returns] at h; cases h)
    refine ⟨_, _, k30 _ ?_, hrun, hended, _, _, rfl, ?_, ⟨_, rfl⟩, hW, hsame.mono (by decide) (by decide)⟩
    · show Steps p.tables e below (T26.setTop (mkF m 27 #[.val (.ref a)] [(.int (0 : Int32))])) _
      exact retN X26 hx (t := .boolean) Bd.returns (by simp) (hb hby d4_27) hr
    · show Q4 Z a p1 h0 n0 _ T26.heap _
      rw [e26]
      exact ⟨congrArg (fun z => some (Value.int z)) (show ((0 : Int32) : Int32) = own_bt p1 by unfold own_bt; simp only [if_pos hc29]), N0, rfl⟩
  · have k32 : ∀ t, Steps p.tables e below (T26.setTop (mkF m 12 #[.val (.ref a)] [(.ref a)])) t → Steps p.tables e below (s₁.setTop (entryFrame m #[(.ref a)] 1)) t := fun t k => k28 t (by
      show Steps p.tables e below (T26.setTop (mkF m 8 #[.val (.ref a)] [(.int (lcmpW p1 (-1 : Int64)))])) _
      refine XS.ifNo X26.here hx rfl (hb hby d4_8) rfl ((if0 _ _).trans (feq hc29).1) ?_
      show Steps p.tables e below (T26.setTop (mkF m 11 #[.val (.ref a)] [])) _
      refine XS.aloadN X26.here hx rfl (hb hby d4_11) rfl rfl ?_
      exact k)
    obtain ⟨T33, X33, e33, st33⟩ := getF X26 hx hZ hown (host := "") (Or.inl (hw _ (List.mem_of_getElem? (i := 18) rfl))) Via.refl e26 F1 (g := (mkF m 12 #[.val (.ref a)] [(.ref a)])) rfl rfl (hb hby d4_12)
    have k34 : ∀ t, Steps p.tables e below (T33.setTop (mkF m 15 #[.val (.ref a)] [(.long p1)])) t → Steps p.tables e below (s₁.setTop (entryFrame m #[(.ref a)] 1)) t := fun t k => k32 t (st33 t k)
    have k35 : ∀ t, Steps p.tables e below (T33.setTop (mkF m 19 #[.val (.ref a)] [(.int (lcmpW p1 (-2 : Int64)))])) t → Steps p.tables e below (s₁.setTop (entryFrame m #[(.ref a)] 1)) t := fun t k => k34 t (by
      show Steps p.tables e below (T33.setTop (mkF m 15 #[.val (.ref a)] [(.long p1)])) _
      refine X33.ldc2Long hx hown (mvT hZ (hw _ (List.mem_of_getElem? (i := 26) rfl))) (g := (mkF m 15 #[.val (.ref a)] [(.long p1)])) rfl (hb hby d4_15) _ ?_
      show Steps p.tables e below (T33.setTop (mkF m 18 #[.val (.ref a)] [(.long (-2 : Int64)), (.long p1)])) _
      refine XS.lcmp X33.here hx rfl (hb hby d4_18) rfl ?_
      exact k)
    by_cases hc36 : (lcmpW p1 (-2 : Int64)) = (0 : Int32)
    · have k37 : ∀ t, Steps p.tables e below (T33.setTop (mkF m 27 #[.val (.ref a)] [(.int (0 : Int32))])) t → Steps p.tables e below (s₁.setTop (entryFrame m #[(.ref a)] 1)) t := fun t k => k35 t (by
        show Steps p.tables e below (T33.setTop (mkF m 19 #[.val (.ref a)] [(.int (lcmpW p1 (-2 : Int64)))])) _
        refine XS.ifYes X33.here hx rfl (pc0 := 19) (pc' := 26) rfl (hb hby d4_19) rfl ((if0 _ _).trans (teq hc36).1) (by decide) (by decide) ?_
        show Steps p.tables e below (T33.setTop (mkF m 26 #[.val (.ref a)] [])) _
        refine XS.iconst X33.here hx rfl (hb hby d4_26) ?_
        exact k)
      obtain ⟨fs, hr, hrun, hended, hW, hsame⟩ := X33.leave (v := some (.int (0 : Int32))) (fun h => by rw [Bd.returns] at h; cases h)
      refine ⟨_, _, k37 _ ?_, hrun, hended, _, _, rfl, ?_, ⟨_, rfl⟩, hW, hsame.mono (by decide) (by decide)⟩
      · show Steps p.tables e below (T33.setTop (mkF m 27 #[.val (.ref a)] [(.int (0 : Int32))])) _
        exact retN X33 hx (t := .boolean) Bd.returns (by simp) (hb hby d4_27) hr
      · show Q4 Z a p1 h0 n0 _ T33.heap _
        rw [e33]
        exact ⟨congrArg (fun z => some (Value.int z)) (show ((0 : Int32) : Int32) = own_bt p1 by unfold own_bt; simp only [if_neg hc29, if_pos hc36]), N0, rfl⟩
    · have k39 : ∀ t, Steps p.tables e below (T33.setTop (mkF m 27 #[.val (.ref a)] [(.int (1 : Int32))])) t → Steps p.tables e below (s₁.setTop (entryFrame m #[(.ref a)] 1)) t := fun t k => k35 t (by
        show Steps p.tables e below (T33.setTop (mkF m 19 #[.val (.ref a)] [(.int (lcmpW p1 (-2 : Int64)))])) _
        refine XS.ifNo X33.here hx rfl (hb hby d4_19) rfl ((if0 _ _).trans (feq hc36).1) ?_
        show Steps p.tables e below (T33.setTop (mkF m 22 #[.val (.ref a)] [])) _
        refine XS.iconst X33.here hx rfl (hb hby d4_22) ?_
        show Steps p.tables e below (T33.setTop (mkF m 23 #[.val (.ref a)] [(.int (1 : Int32))])) _
        refine XS.goto X33.here hx rfl (pc0 := 23) (pc' := 27) rfl (hb hby d4_23) (by decide) (by decide) ?_
        exact k)
      obtain ⟨fs, hr, hrun, hended, hW, hsame⟩ := X33.leave (v := some (.int (1 : Int32))) (fun h => by rw [Bd.returns] at h; cases h)
      refine ⟨_, _, k39 _ ?_, hrun, hended, _, _, rfl, ?_, ⟨_, rfl⟩, hW, hsame.mono (by decide) (by decide)⟩
      · show Steps p.tables e below (T33.setTop (mkF m 27 #[.val (.ref a)] [(.int (1 : Int32))])) _
        exact retN X33 hx (t := .boolean) Bd.returns (by simp) (hb hby d4_27) hr
      · show Q4 Z a p1 h0 n0 _ T33.heap _
        rw [e33]
        exact ⟨congrArg (fun z => some (Value.int z)) (show ((1 : Int32) : Int32) = own_bt p1 by unfold own_bt; simp only [if_neg hc29, if_neg hc36]), N0, rfl⟩
theorem pn_2 : plainName "com/example/waxwing/waxwing/protocol/PartitionQueryByTimePinLaw" = true := by first | (simp [plainName, overriddenIn]; done) | decide +kernel
theorem pd_1 : parseMethodDescriptor "(IJ)V" = some ⟨[.int, .long], none⟩ := by decide +kernel
theorem pd_2 : parseMethodDescriptor "()Z" = some ⟨[], some .boolean⟩ := by decide +kernel
theorem ef_0 (m : MethodId) (x0 : Int32) (x1 : Int64) (x2 : Int32) : entryFrame m #[(.int x0), (.long x1), (.int x2)] maxLocals = mkF m 0 #[.val (.int x0), .val (.long x1), .second, .val (.int x2), .unset, .unset, .unset, .unset, .unset] [] := by first | (simp [entryFrame, mkF, argsToLocals, Value.category, maxLocals]; done) | rfl
def Q0 (Z : State) (p0 : Int32) (p1 : Int64) (p2 : Int32) (h0 : Heap) (n0 : Nat) (v : Option Value) (h : Heap) (L : List Loc) : Prop := v = some (.int 1) ∧ Fr n0 L
set_option maxRecDepth 65536 in
set_option maxHeartbeats 40000000 in
theorem rm0 (l : Launch) (Z : State) (a0 : Array Value) (hw : ∀ d ∈ tables_1, d.before a0 Z = true) (ws : List Jvm.Cond) (p0 : Int32) (p1 : Int64) (p2 : Int32) (h0 : Heap) (n0 : Nat) (Z0 : n0 ≤ h0.size) :
    MetFree l x (head1 (Jvm.Cond.code x code maxLocals ret :: ws) room_1) (fun aa U => aa = #[(.int p0), (.long p1), (.int p2)] ∧ Z.Warmed39 U.vm ∧ U.heap = h0) (fun _ _ _ _ _ => True) (fun _ U o U' => ∃ v L, o = .returned v ∧ Q0 Z p0 p1 p2 h0 n0 v U'.heap L ∧ FrameEnd U o U' L room_1.cells room_1.slots) := by
  refine MetFree.of_bodySF (plainFor_of_name pn_2) hisR ?_
  intro p e s m args below meth c s₁ Bd hml0 hP hK
  obtain ⟨rfl, hZ, hh⟩ := hP
  have hx := Bd.exec
  have hby := Bd.bytes
  have hml : c.maxLocals = 9 := hml0
  have hown : s.vm.findClass "com/example/waxwing/waxwing/protocol/PartitionQueryByTimePinLaw" = some m.cls := findClass_of_methodNamed Bd.named
  have hnm := (name_of_methodNamed Bd.named Bd.method).1
  have X0 : Stand p l e room_1 s m #[(.int p0), (.long p1), (.int p2)] below meth c s₁ [] 0 0 := Stand.of_body Bd
  have e0 : s₁.heap = h0 := by rw [← hh, Bd.state]; rfl
  have N0 := Fr.nil n0
  have pre0 : ∀ t, Steps p.tables e below (s₁.setTop (mkF m 0 #[.val (.int p0), .val (.long p1), .second, .val (.int p2), .unset, .unset, .unset, .unset, .unset] [])) t → Steps p.tables e below (s₁.setTop (entryFrame m #[(.int p0), (.long p1), (.int p2)] maxLocals)) t := fun t k => castTop (ef_0 m p0 p1 p2) k
  have k41 : ∀ t, Steps p.tables e below (s₁.setTop (mkF m 10 #[.val (.int p0), .val (.long p1), .second, .val (.int p2), .val (.int ((p2 &&& (2147483647 : Int32)) % (3 : Int32))), .unset, .unset, .unset, .unset] [(.int ((p2 &&& (2147483647 : Int32)) % (3 : Int32)))])) t → Steps p.tables e below (s₁.setTop (entryFrame m #[(.int p0), (.long p1), (.int p2)] maxLocals)) t := fun t k => pre0 t (by
    show Steps p.tables e below (s₁.setTop (mkF m 0 #[.val (.int p0), .val (.long p1), .second, .val (.int p2), .unset, .unset, .unset, .unset, .unset] [])) _
    refine XS.iloadN X0.here hx rfl (hb hby at_0) rfl ?_
    show Steps p.tables e below (s₁.setTop (mkF m 1 #[.val (.int p0), .val (.long p1), .second, .val (.int p2), .unset, .unset, .unset, .unset, .unset] [(.int p2)])) _
    refine X0.ldcInt hx hown (mvT hZ (hw _ (List.mem_of_getElem? (i := 0) rfl))) (g := (mkF m 1 #[.val (.int p0), .val (.long p1), .second, .val (.int p2), .unset, .unset, .unset, .unset, .unset] [(.int p2)])) rfl (hb hby at_1) _ ?_
    show Steps p.tables e below (s₁.setTop (mkF m 3 #[.val (.int p0), .val (.long p1), .second, .val (.int p2), .unset, .unset, .unset, .unset, .unset] [(.int (2147483647 : Int32)), (.int p2)])) _
    refine XS.iand X0.here hx rfl (hb hby at_3) rfl ?_
    show Steps p.tables e below (s₁.setTop (mkF m 4 #[.val (.int p0), .val (.long p1), .second, .val (.int p2), .unset, .unset, .unset, .unset, .unset] [(.int (p2 &&& (2147483647 : Int32)))])) _
    refine XS.iconst X0.here hx rfl (hb hby at_4) ?_
    show Steps p.tables e below (s₁.setTop (mkF m 5 #[.val (.int p0), .val (.long p1), .second, .val (.int p2), .unset, .unset, .unset, .unset, .unset] [(.int (3 : Int32)), (.int (p2 &&& (2147483647 : Int32)))])) _
    refine iremM (g := (mkF m 5 #[.val (.int p0), .val (.long p1), .second, .val (.int p2), .unset, .unset, .unset, .unset, .unset] [(.int (3 : Int32)), (.int (p2 &&& (2147483647 : Int32)))])) X0 hx rfl (hb hby at_5) rfl (by decide) ?_
    show Steps p.tables e below (s₁.setTop (mkF m 6 #[.val (.int p0), .val (.long p1), .second, .val (.int p2), .unset, .unset, .unset, .unset, .unset] [(.int ((p2 &&& (2147483647 : Int32)) % (3 : Int32)))])) _
    refine XS.istore X0.here hx rfl (hb hby at_6) rfl (l' := #[.val (.int p0), .val (.long p1), .second, .val (.int p2), .val (.int ((p2 &&& (2147483647 : Int32)) % (3 : Int32))), .unset, .unset, .unset, .unset]) rfl ?_
    show Steps p.tables e below (s₁.setTop (mkF m 8 #[.val (.int p0), .val (.long p1), .second, .val (.int p2), .val (.int ((p2 &&& (2147483647 : Int32)) % (3 : Int32))), .unset, .unset, .unset, .unset] [])) _
    refine XS.iload X0.here hx rfl (hb hby at_8) rfl ?_
    exact k)
  have k44 : ∀ t, Steps p.tables e below (s₁.setTop (mkF m 32 #[.val (.int p0), .val (.long p1), .second, .val (.int p2), .val (.int ((p2 &&& (2147483647 : Int32)) % (3 : Int32))), .unset, .unset, .unset, .unset] [(.long (if ((p2 &&& (2147483647 : Int32)) % (3 : Int32)) = (0 : Int32) then (-1 : Int64) else (if ((p2 &&& (2147483647 : Int32)) % (3 : Int32)) = (1 : Int32) then (-2 : Int64) else p1)))])) t → Steps p.tables e below (s₁.setTop (entryFrame m #[(.int p0), (.long p1), (.int p2)] maxLocals)) t := fun t k => k41 t (by
    by_cases hq42 : ((p2 &&& (2147483647 : Int32)) % (3 : Int32)) = (0 : Int32)
    · simp only [if_pos hq42] at k
      show Steps p.tables e below (s₁.setTop (mkF m 10 #[.val (.int p0), .val (.long p1), .second, .val (.int p2), .val (.int ((p2 &&& (2147483647 : Int32)) % (3 : Int32))), .unset, .unset, .unset, .unset] [(.int ((p2 &&& (2147483647 : Int32)) % (3 : Int32)))])) _
      refine XS.ifNo X0.here hx rfl (hb hby at_10) rfl ((if0 _ _).trans (teq hq42).2) ?_
      show Steps p.tables e below (s₁.setTop (mkF m 13 #[.val (.int p0), .val (.long p1), .second, .val (.int p2), .val (.int ((p2 &&& (2147483647 : Int32)) % (3 : Int32))), .unset, .unset, .unset, .unset] [])) _
      refine X0.ldc2Long hx hown (mvT hZ (hw _ (List.mem_of_getElem? (i := 27) rfl))) (g := (mkF m 13 #[.val (.int p0), .val (.long p1), .second, .val (.int p2), .val (.int ((p2 &&& (2147483647 : Int32)) % (3 : Int32))), .unset, .unset, .unset, .unset] [])) rfl (hb hby at_13) _ ?_
      show Steps p.tables e below (s₁.setTop (mkF m 16 #[.val (.int p0), .val (.long p1), .second, .val (.int p2), .val (.int ((p2 &&& (2147483647 : Int32)) % (3 : Int32))), .unset, .unset, .unset, .unset] [(.long (-1 : Int64))])) _
      refine XS.goto X0.here hx rfl (pc0 := 16) (pc' := 32) rfl (hb hby at_16) (by decide) (by decide) ?_
      exact k
    · simp only [if_neg hq42] at k
      show Steps p.tables e below (s₁.setTop (mkF m 10 #[.val (.int p0), .val (.long p1), .second, .val (.int p2), .val (.int ((p2 &&& (2147483647 : Int32)) % (3 : Int32))), .unset, .unset, .unset, .unset] [(.int ((p2 &&& (2147483647 : Int32)) % (3 : Int32)))])) _
      refine XS.ifYes X0.here hx rfl (pc0 := 10) (pc' := 19) rfl (hb hby at_10) rfl ((if0 _ _).trans (feq hq42).2) (by decide) (by decide) ?_
      show Steps p.tables e below (s₁.setTop (mkF m 19 #[.val (.int p0), .val (.long p1), .second, .val (.int p2), .val (.int ((p2 &&& (2147483647 : Int32)) % (3 : Int32))), .unset, .unset, .unset, .unset] [])) _
      refine XS.iload X0.here hx rfl (hb hby at_19) rfl ?_
      show Steps p.tables e below (s₁.setTop (mkF m 21 #[.val (.int p0), .val (.long p1), .second, .val (.int p2), .val (.int ((p2 &&& (2147483647 : Int32)) % (3 : Int32))), .unset, .unset, .unset, .unset] [(.int ((p2 &&& (2147483647 : Int32)) % (3 : Int32)))])) _
      refine XS.iconst X0.here hx rfl (hb hby at_21) ?_
      by_cases hq43 : ((p2 &&& (2147483647 : Int32)) % (3 : Int32)) = (1 : Int32)
      · simp only [if_pos hq43] at k
        show Steps p.tables e below (s₁.setTop (mkF m 22 #[.val (.int p0), .val (.long p1), .second, .val (.int p2), .val (.int ((p2 &&& (2147483647 : Int32)) % (3 : Int32))), .unset, .unset, .unset, .unset] [(.int (1 : Int32)), (.int ((p2 &&& (2147483647 : Int32)) % (3 : Int32)))])) _
        refine XS.icmpNo X0.here hx rfl (hb hby at_22) rfl (teq hq43).2 ?_
        show Steps p.tables e below (s₁.setTop (mkF m 25 #[.val (.int p0), .val (.long p1), .second, .val (.int p2), .val (.int ((p2 &&& (2147483647 : Int32)) % (3 : Int32))), .unset, .unset, .unset, .unset] [])) _
        refine X0.ldc2Long hx hown (mvT hZ (hw _ (List.mem_of_getElem? (i := 1) rfl))) (g := (mkF m 25 #[.val (.int p0), .val (.long p1), .second, .val (.int p2), .val (.int ((p2 &&& (2147483647 : Int32)) % (3 : Int32))), .unset, .unset, .unset, .unset] [])) rfl (hb hby at_25) _ ?_
        show Steps p.tables e below (s₁.setTop (mkF m 28 #[.val (.int p0), .val (.long p1), .second, .val (.int p2), .val (.int ((p2 &&& (2147483647 : Int32)) % (3 : Int32))), .unset, .unset, .unset, .unset] [(.long (-2 : Int64))])) _
        refine XS.goto X0.here hx rfl (pc0 := 28) (pc' := 32) rfl (hb hby at_28) (by decide) (by decide) ?_
        exact k
      · simp only [if_neg hq43] at k
        show Steps p.tables e below (s₁.setTop (mkF m 22 #[.val (.int p0), .val (.long p1), .second, .val (.int p2), .val (.int ((p2 &&& (2147483647 : Int32)) % (3 : Int32))), .unset, .unset, .unset, .unset] [(.int (1 : Int32)), (.int ((p2 &&& (2147483647 : Int32)) % (3 : Int32)))])) _
        refine XS.icmpYes X0.here hx rfl (pc0 := 22) (pc' := 31) rfl (hb hby at_22) rfl (feq hq43).2 (by decide) (by decide) ?_
        show Steps p.tables e below (s₁.setTop (mkF m 31 #[.val (.int p0), .val (.long p1), .second, .val (.int p2), .val (.int ((p2 &&& (2147483647 : Int32)) % (3 : Int32))), .unset, .unset, .unset, .unset] [])) _
        refine XS.lloadN X0.here hx rfl (hb hby at_31) rfl ?_
        exact k)
  have k45 : ∀ t, Steps p.tables e below (s₁.setTop (mkF m 37 #[.val (.int p0), .val (.long p1), .second, .val (.int p2), .val (.int ((p2 &&& (2147483647 : Int32)) % (3 : Int32))), .val (.long (if ((p2 &&& (2147483647 : Int32)) % (3 : Int32)) = (0 : Int32) then (-1 : Int64) else (if ((p2 &&& (2147483647 : Int32)) % (3 : Int32)) = (1 : Int32) then (-2 : Int64) else p1))), .second, .unset, .unset] [(.int (2 : Int32)), (.int ((p2 &&& (2147483647 : Int32)) % (3 : Int32)))])) t → Steps p.tables e below (s₁.setTop (entryFrame m #[(.int p0), (.long p1), (.int p2)] maxLocals)) t := fun t k => k44 t (by
    show Steps p.tables e below (s₁.setTop (mkF m 32 #[.val (.int p0), .val (.long p1), .second, .val (.int p2), .val (.int ((p2 &&& (2147483647 : Int32)) % (3 : Int32))), .unset, .unset, .unset, .unset] [(.long (if ((p2 &&& (2147483647 : Int32)) % (3 : Int32)) = (0 : Int32) then (-1 : Int64) else (if ((p2 &&& (2147483647 : Int32)) % (3 : Int32)) = (1 : Int32) then (-2 : Int64) else p1)))])) _
    refine XS.lstore X0.here hx rfl (hb hby at_32) rfl (l' := #[.val (.int p0), .val (.long p1), .second, .val (.int p2), .val (.int ((p2 &&& (2147483647 : Int32)) % (3 : Int32))), .val (.long (if ((p2 &&& (2147483647 : Int32)) % (3 : Int32)) = (0 : Int32) then (-1 : Int64) else (if ((p2 &&& (2147483647 : Int32)) % (3 : Int32)) = (1 : Int32) then (-2 : Int64) else p1))), .second, .unset, .unset]) rfl ?_
    show Steps p.tables e below (s₁.setTop (mkF m 34 #[.val (.int p0), .val (.long p1), .second, .val (.int p2), .val (.int ((p2 &&& (2147483647 : Int32)) % (3 : Int32))), .val (.long (if ((p2 &&& (2147483647 : Int32)) % (3 : Int32)) = (0 : Int32) then (-1 : Int64) else (if ((p2 &&& (2147483647 : Int32)) % (3 : Int32)) = (1 : Int32) then (-2 : Int64) else p1))), .second, .unset, .unset] [])) _
    refine XS.iload X0.here hx rfl (hb hby at_34) rfl ?_
    show Steps p.tables e below (s₁.setTop (mkF m 36 #[.val (.int p0), .val (.long p1), .second, .val (.int p2), .val (.int ((p2 &&& (2147483647 : Int32)) % (3 : Int32))), .val (.long (if ((p2 &&& (2147483647 : Int32)) % (3 : Int32)) = (0 : Int32) then (-1 : Int64) else (if ((p2 &&& (2147483647 : Int32)) % (3 : Int32)) = (1 : Int32) then (-2 : Int64) else p1))), .second, .unset, .unset] [(.int ((p2 &&& (2147483647 : Int32)) % (3 : Int32)))])) _
    refine XS.iconst X0.here hx rfl (hb hby at_36) ?_
    exact k)
  have k49 : ∀ t, Steps p.tables e below (s₁.setTop (mkF m 61 #[.val (.int p0), .val (.long p1), .second, .val (.int p2), .val (.int ((p2 &&& (2147483647 : Int32)) % (3 : Int32))), .val (.long (if ((p2 &&& (2147483647 : Int32)) % (3 : Int32)) = (0 : Int32) then (-1 : Int64) else (if ((p2 &&& (2147483647 : Int32)) % (3 : Int32)) = (1 : Int32) then (-2 : Int64) else p1))), .second, .unset, .unset] [(.int (if ((p2 &&& (2147483647 : Int32)) % (3 : Int32)) = (2 : Int32) then (if (lcmpW p1 (-2 : Int64)) < (0 : Int32) then (1 : Int32) else (if (0 : Int32) < (lcmpW p1 (-1 : Int64)) then (1 : Int32) else (0 : Int32))) else (0 : Int32)))])) t → Steps p.tables e below (s₁.setTop (entryFrame m #[(.int p0), (.long p1), (.int p2)] maxLocals)) t := fun t k => k45 t (by
    by_cases hq46 : ((p2 &&& (2147483647 : Int32)) % (3 : Int32)) = (2 : Int32)
    · simp only [if_pos hq46] at k
      show Steps p.tables e below (s₁.setTop (mkF m 37 #[.val (.int p0), .val (.long p1), .second, .val (.int p2), .val (.int ((p2 &&& (2147483647 : Int32)) % (3 : Int32))), .val (.long (if ((p2 &&& (2147483647 : Int32)) % (3 : Int32)) = (0 : Int32) then (-1 : Int64) else (if ((p2 &&& (2147483647 : Int32)) % (3 : Int32)) = (1 : Int32) then (-2 : Int64) else p1))), .second, .unset, .unset] [(.int (2 : Int32)), (.int ((p2 &&& (2147483647 : Int32)) % (3 : Int32)))])) _
      refine XS.icmpNo X0.here hx rfl (hb hby at_37) rfl (teq hq46).2 ?_
      show Steps p.tables e below (s₁.setTop (mkF m 40 #[.val (.int p0), .val (.long p1), .second, .val (.int p2), .val (.int ((p2 &&& (2147483647 : Int32)) % (3 : Int32))), .val (.long (if ((p2 &&& (2147483647 : Int32)) % (3 : Int32)) = (0 : Int32) then (-1 : Int64) else (if ((p2 &&& (2147483647 : Int32)) % (3 : Int32)) = (1 : Int32) then (-2 : Int64) else p1))), .second, .unset, .unset] [])) _
      refine XS.lloadN X0.here hx rfl (hb hby at_40) rfl ?_
      show Steps p.tables e below (s₁.setTop (mkF m 41 #[.val (.int p0), .val (.long p1), .second, .val (.int p2), .val (.int ((p2 &&& (2147483647 : Int32)) % (3 : Int32))), .val (.long (if ((p2 &&& (2147483647 : Int32)) % (3 : Int32)) = (0 : Int32) then (-1 : Int64) else (if ((p2 &&& (2147483647 : Int32)) % (3 : Int32)) = (1 : Int32) then (-2 : Int64) else p1))), .second, .unset, .unset] [(.long p1)])) _
      refine X0.ldc2Long hx hown (mvT hZ (hw _ (List.mem_of_getElem? (i := 1) rfl))) (g := (mkF m 41 #[.val (.int p0), .val (.long p1), .second, .val (.int p2), .val (.int ((p2 &&& (2147483647 : Int32)) % (3 : Int32))), .val (.long (if ((p2 &&& (2147483647 : Int32)) % (3 : Int32)) = (0 : Int32) then (-1 : Int64) else (if ((p2 &&& (2147483647 : Int32)) % (3 : Int32)) = (1 : Int32) then (-2 : Int64) else p1))), .second, .unset, .unset] [(.long p1)])) rfl (hb hby at_41) _ ?_
      show Steps p.tables e below (s₁.setTop (mkF m 44 #[.val (.int p0), .val (.long p1), .second, .val (.int p2), .val (.int ((p2 &&& (2147483647 : Int32)) % (3 : Int32))), .val (.long (if ((p2 &&& (2147483647 : Int32)) % (3 : Int32)) = (0 : Int32) then (-1 : Int64) else (if ((p2 &&& (2147483647 : Int32)) % (3 : Int32)) = (1 : Int32) then (-2 : Int64) else p1))), .second, .unset, .unset] [(.long (-2 : Int64)), (.long p1)])) _
      refine XS.lcmp X0.here hx rfl (hb hby at_44) rfl ?_
      by_cases hq47 : (lcmpW p1 (-2 : Int64)) < (0 : Int32)
      · simp only [if_pos hq47] at k
        show Steps p.tables e below (s₁.setTop (mkF m 45 #[.val (.int p0), .val (.long p1), .second, .val (.int p2), .val (.int ((p2 &&& (2147483647 : Int32)) % (3 : Int32))), .val (.long (if ((p2 &&& (2147483647 : Int32)) % (3 : Int32)) = (0 : Int32) then (-1 : Int64) else (if ((p2 &&& (2147483647 : Int32)) % (3 : Int32)) = (1 : Int32) then (-2 : Int64) else p1))), .second, .unset, .unset] [(.int (lcmpW p1 (-2 : Int64)))])) _
        refine XS.ifYes X0.here hx rfl (pc0 := 45) (pc' := 56) rfl (hb hby at_45) rfl ((if0 _ _).trans (tlt hq47).1) (by decide) (by decide) ?_
        show Steps p.tables e below (s₁.setTop (mkF m 56 #[.val (.int p0), .val (.long p1), .second, .val (.int p2), .val (.int ((p2 &&& (2147483647 : Int32)) % (3 : Int32))), .val (.long (if ((p2 &&& (2147483647 : Int32)) % (3 : Int32)) = (0 : Int32) then (-1 : Int64) else (if ((p2 &&& (2147483647 : Int32)) % (3 : Int32)) = (1 : Int32) then (-2 : Int64) else p1))), .second, .unset, .unset] [])) _
        refine XS.iconst X0.here hx rfl (hb hby at_56) ?_
        show Steps p.tables e below (s₁.setTop (mkF m 57 #[.val (.int p0), .val (.long p1), .second, .val (.int p2), .val (.int ((p2 &&& (2147483647 : Int32)) % (3 : Int32))), .val (.long (if ((p2 &&& (2147483647 : Int32)) % (3 : Int32)) = (0 : Int32) then (-1 : Int64) else (if ((p2 &&& (2147483647 : Int32)) % (3 : Int32)) = (1 : Int32) then (-2 : Int64) else p1))), .second, .unset, .unset] [(.int (1 : Int32))])) _
        refine XS.goto X0.here hx rfl (pc0 := 57) (pc' := 61) rfl (hb hby at_57) (by decide) (by decide) ?_
        exact k
      · simp only [if_neg hq47] at k
        show Steps p.tables e below (s₁.setTop (mkF m 45 #[.val (.int p0), .val (.long p1), .second, .val (.int p2), .val (.int ((p2 &&& (2147483647 : Int32)) % (3 : Int32))), .val (.long (if ((p2 &&& (2147483647 : Int32)) % (3 : Int32)) = (0 : Int32) then (-1 : Int64) else (if ((p2 &&& (2147483647 : Int32)) % (3 : Int32)) = (1 : Int32) then (-2 : Int64) else p1))), .second, .unset, .unset] [(.int (lcmpW p1 (-2 : Int64)))])) _
        refine XS.ifNo X0.here hx rfl (hb hby at_45) rfl ((if0 _ _).trans (flt hq47).1) ?_
        show Steps p.tables e below (s₁.setTop (mkF m 48 #[.val (.int p0), .val (.long p1), .second, .val (.int p2), .val (.int ((p2 &&& (2147483647 : Int32)) % (3 : Int32))), .val (.long (if ((p2 &&& (2147483647 : Int32)) % (3 : Int32)) = (0 : Int32) then (-1 : Int64) else (if ((p2 &&& (2147483647 : Int32)) % (3 : Int32)) = (1 : Int32) then (-2 : Int64) else p1))), .second, .unset, .unset] [])) _
        refine XS.lloadN X0.here hx rfl (hb hby at_48) rfl ?_
        show Steps p.tables e below (s₁.setTop (mkF m 49 #[.val (.int p0), .val (.long p1), .second, .val (.int p2), .val (.int ((p2 &&& (2147483647 : Int32)) % (3 : Int32))), .val (.long (if ((p2 &&& (2147483647 : Int32)) % (3 : Int32)) = (0 : Int32) then (-1 : Int64) else (if ((p2 &&& (2147483647 : Int32)) % (3 : Int32)) = (1 : Int32) then (-2 : Int64) else p1))), .second, .unset, .unset] [(.long p1)])) _
        refine X0.ldc2Long hx hown (mvT hZ (hw _ (List.mem_of_getElem? (i := 27) rfl))) (g := (mkF m 49 #[.val (.int p0), .val (.long p1), .second, .val (.int p2), .val (.int ((p2 &&& (2147483647 : Int32)) % (3 : Int32))), .val (.long (if ((p2 &&& (2147483647 : Int32)) % (3 : Int32)) = (0 : Int32) then (-1 : Int64) else (if ((p2 &&& (2147483647 : Int32)) % (3 : Int32)) = (1 : Int32) then (-2 : Int64) else p1))), .second, .unset, .unset] [(.long p1)])) rfl (hb hby at_49) _ ?_
        show Steps p.tables e below (s₁.setTop (mkF m 52 #[.val (.int p0), .val (.long p1), .second, .val (.int p2), .val (.int ((p2 &&& (2147483647 : Int32)) % (3 : Int32))), .val (.long (if ((p2 &&& (2147483647 : Int32)) % (3 : Int32)) = (0 : Int32) then (-1 : Int64) else (if ((p2 &&& (2147483647 : Int32)) % (3 : Int32)) = (1 : Int32) then (-2 : Int64) else p1))), .second, .unset, .unset] [(.long (-1 : Int64)), (.long p1)])) _
        refine XS.lcmp X0.here hx rfl (hb hby at_52) rfl ?_
        by_cases hq48 : (0 : Int32) < (lcmpW p1 (-1 : Int64))
        · simp only [if_pos hq48] at k
          show Steps p.tables e below (s₁.setTop (mkF m 53 #[.val (.int p0), .val (.long p1), .second, .val (.int p2), .val (.int ((p2 &&& (2147483647 : Int32)) % (3 : Int32))), .val (.long (if ((p2 &&& (2147483647 : Int32)) % (3 : Int32)) = (0 : Int32) then (-1 : Int64) else (if ((p2 &&& (2147483647 : Int32)) % (3 : Int32)) = (1 : Int32) then (-2 : Int64) else p1))), .second, .unset, .unset] [(.int (lcmpW p1 (-1 : Int64)))])) _
          refine XS.ifNo X0.here hx rfl (hb hby at_53) rfl ((if0 _ _).trans (tlt hq48).2.2.2) ?_
          show Steps p.tables e below (s₁.setTop (mkF m 56 #[.val (.int p0), .val (.long p1), .second, .val (.int p2), .val (.int ((p2 &&& (2147483647 : Int32)) % (3 : Int32))), .val (.long (if ((p2 &&& (2147483647 : Int32)) % (3 : Int32)) = (0 : Int32) then (-1 : Int64) else (if ((p2 &&& (2147483647 : Int32)) % (3 : Int32)) = (1 : Int32) then (-2 : Int64) else p1))), .second, .unset, .unset] [])) _
          refine XS.iconst X0.here hx rfl (hb hby at_56) ?_
          show Steps p.tables e below (s₁.setTop (mkF m 57 #[.val (.int p0), .val (.long p1), .second, .val (.int p2), .val (.int ((p2 &&& (2147483647 : Int32)) % (3 : Int32))), .val (.long (if ((p2 &&& (2147483647 : Int32)) % (3 : Int32)) = (0 : Int32) then (-1 : Int64) else (if ((p2 &&& (2147483647 : Int32)) % (3 : Int32)) = (1 : Int32) then (-2 : Int64) else p1))), .second, .unset, .unset] [(.int (1 : Int32))])) _
          refine XS.goto X0.here hx rfl (pc0 := 57) (pc' := 61) rfl (hb hby at_57) (by decide) (by decide) ?_
          exact k
        · simp only [if_neg hq48] at k
          show Steps p.tables e below (s₁.setTop (mkF m 53 #[.val (.int p0), .val (.long p1), .second, .val (.int p2), .val (.int ((p2 &&& (2147483647 : Int32)) % (3 : Int32))), .val (.long (if ((p2 &&& (2147483647 : Int32)) % (3 : Int32)) = (0 : Int32) then (-1 : Int64) else (if ((p2 &&& (2147483647 : Int32)) % (3 : Int32)) = (1 : Int32) then (-2 : Int64) else p1))), .second, .unset, .unset] [(.int (lcmpW p1 (-1 : Int64)))])) _
          refine XS.ifYes X0.here hx rfl (pc0 := 53) (pc' := 60) rfl (hb hby at_53) rfl ((if0 _ _).trans (flt hq48).2.2.2) (by decide) (by decide) ?_
          show Steps p.tables e below (s₁.setTop (mkF m 60 #[.val (.int p0), .val (.long p1), .second, .val (.int p2), .val (.int ((p2 &&& (2147483647 : Int32)) % (3 : Int32))), .val (.long (if ((p2 &&& (2147483647 : Int32)) % (3 : Int32)) = (0 : Int32) then (-1 : Int64) else (if ((p2 &&& (2147483647 : Int32)) % (3 : Int32)) = (1 : Int32) then (-2 : Int64) else p1))), .second, .unset, .unset] [])) _
          refine XS.iconst X0.here hx rfl (hb hby at_60) ?_
          exact k
    · simp only [if_neg hq46] at k
      show Steps p.tables e below (s₁.setTop (mkF m 37 #[.val (.int p0), .val (.long p1), .second, .val (.int p2), .val (.int ((p2 &&& (2147483647 : Int32)) % (3 : Int32))), .val (.long (if ((p2 &&& (2147483647 : Int32)) % (3 : Int32)) = (0 : Int32) then (-1 : Int64) else (if ((p2 &&& (2147483647 : Int32)) % (3 : Int32)) = (1 : Int32) then (-2 : Int64) else p1))), .second, .unset, .unset] [(.int (2 : Int32)), (.int ((p2 &&& (2147483647 : Int32)) % (3 : Int32)))])) _
      refine XS.icmpYes X0.here hx rfl (pc0 := 37) (pc' := 60) rfl (hb hby at_37) rfl (feq hq46).2 (by decide) (by decide) ?_
      show Steps p.tables e below (s₁.setTop (mkF m 60 #[.val (.int p0), .val (.long p1), .second, .val (.int p2), .val (.int ((p2 &&& (2147483647 : Int32)) % (3 : Int32))), .val (.long (if ((p2 &&& (2147483647 : Int32)) % (3 : Int32)) = (0 : Int32) then (-1 : Int64) else (if ((p2 &&& (2147483647 : Int32)) % (3 : Int32)) = (1 : Int32) then (-2 : Int64) else p1))), .second, .unset, .unset] [])) _
      refine XS.iconst X0.here hx rfl (hb hby at_60) ?_
      exact k)
  have k50 : ∀ t, Steps p.tables e below (s₁.setTop (mkF m 63 #[.val (.int p0), .val (.long p1), .second, .val (.int p2), .val (.int ((p2 &&& (2147483647 : Int32)) % (3 : Int32))), .val (.long (if ((p2 &&& (2147483647 : Int32)) % (3 : Int32)) = (0 : Int32) then (-1 : Int64) else (if ((p2 &&& (2147483647 : Int32)) % (3 : Int32)) = (1 : Int32) then (-2 : Int64) else p1))), .second, .val (.int (if ((p2 &&& (2147483647 : Int32)) % (3 : Int32)) = (2 : Int32) then (if (lcmpW p1 (-2 : Int64)) < (0 : Int32) then (1 : Int32) else (if (0 : Int32) < (lcmpW p1 (-1 : Int64)) then (1 : Int32) else (0 : Int32))) else (0 : Int32))), .unset] [])) t → Steps p.tables e below (s₁.setTop (entryFrame m #[(.int p0), (.long p1), (.int p2)] maxLocals)) t := fun t k => k49 t (by
    show Steps p.tables e below (s₁.setTop (mkF m 61 #[.val (.int p0), .val (.long p1), .second, .val (.int p2), .val (.int ((p2 &&& (2147483647 : Int32)) % (3 : Int32))), .val (.long (if ((p2 &&& (2147483647 : Int32)) % (3 : Int32)) = (0 : Int32) then (-1 : Int64) else (if ((p2 &&& (2147483647 : Int32)) % (3 : Int32)) = (1 : Int32) then (-2 : Int64) else p1))), .second, .unset, .unset] [(.int (if ((p2 &&& (2147483647 : Int32)) % (3 : Int32)) = (2 : Int32) then (if (lcmpW p1 (-2 : Int64)) < (0 : Int32) then (1 : Int32) else (if (0 : Int32) < (lcmpW p1 (-1 : Int64)) then (1 : Int32) else (0 : Int32))) else (0 : Int32)))])) _
    refine XS.istore X0.here hx rfl (hb hby at_61) rfl (l' := #[.val (.int p0), .val (.long p1), .second, .val (.int p2), .val (.int ((p2 &&& (2147483647 : Int32)) % (3 : Int32))), .val (.long (if ((p2 &&& (2147483647 : Int32)) % (3 : Int32)) = (0 : Int32) then (-1 : Int64) else (if ((p2 &&& (2147483647 : Int32)) % (3 : Int32)) = (1 : Int32) then (-2 : Int64) else p1))), .second, .val (.int (if ((p2 &&& (2147483647 : Int32)) % (3 : Int32)) = (2 : Int32) then (if (lcmpW p1 (-2 : Int64)) < (0 : Int32) then (1 : Int32) else (if (0 : Int32) < (lcmpW p1 (-1 : Int64)) then (1 : Int32) else (0 : Int32))) else (0 : Int32))), .unset]) rfl ?_
    exact k)
  obtain ⟨T51, h51, X51, e51, E51, A51, D51, -, st51⟩ := newO X0 hx hZ hown (hw _ (List.mem_of_getElem? (i := 2) rfl)) (hw _ (List.mem_of_getElem? (i := 3) rfl)) (hw _ (List.mem_of_getElem? (i := 4) rfl)) e0 (g := (mkF m 63 #[.val (.int p0), .val (.long p1), .second, .val (.int p2), .val (.int ((p2 &&& (2147483647 : Int32)) % (3 : Int32))), .val (.long (if ((p2 &&& (2147483647 : Int32)) % (3 : Int32)) = (0 : Int32) then (-1 : Int64) else (if ((p2 &&& (2147483647 : Int32)) % (3 : Int32)) = (1 : Int32) then (-2 : Int64) else p1))), .second, .val (.int (if ((p2 &&& (2147483647 : Int32)) % (3 : Int32)) = (2 : Int32) then (if (lcmpW p1 (-2 : Int64)) < (0 : Int32) then (1 : Int32) else (if (0 : Int32) < (lcmpW p1 (-1 : Int64)) then (1 : Int32) else (0 : Int32))) else (0 : Int32))), .unset] [])) rfl (hb hby at_63) (by decide) (by decide)
  obtain ⟨b51, g51⟩ : ∃ z, z = h0.size := ⟨_, rfl⟩
  rw [← g51] at A51 D51 st51
  have g_b51 : n0 ≤ b51 := Nat.le_trans Z0 (Nat.le_of_eq g51.symm)
  have Z52 : n0 ≤ h51.size := Nat.le_trans Z0 E51.1
  have F53 : Fld Z h51 b51 "com/example/waxwing/waxwing/protocol/ListOffsetsRequest$PartitionQuery" "index" "I" (.int (0 : Int32)) := D51 (Or.inr (hw _ (List.mem_of_getElem? (i := 17) rfl))) (ty := .int) (by decide)
  have F54 : Fld Z h51 b51 "com/example/waxwing/waxwing/protocol/ListOffsetsRequest$PartitionQuery" "timestamp" "J" (.long (0 : Int64)) := D51 (Or.inr (hw _ (List.mem_of_getElem? (i := 19) rfl))) (ty := .long) (by decide)
  have k55 : ∀ t, Steps p.tables e below (T51.setTop (mkF m 66 #[.val (.int p0), .val (.long p1), .second, .val (.int p2), .val (.int ((p2 &&& (2147483647 : Int32)) % (3 : Int32))), .val (.long (if ((p2 &&& (2147483647 : Int32)) % (3 : Int32)) = (0 : Int32) then (-1 : Int64) else (if ((p2 &&& (2147483647 : Int32)) % (3 : Int32)) = (1 : Int32) then (-2 : Int64) else p1))), .second, .val (.int (if ((p2 &&& (2147483647 : Int32)) % (3 : Int32)) = (2 : Int32) then (if (lcmpW p1 (-2 : Int64)) < (0 : Int32) then (1 : Int32) else (if (0 : Int32) < (lcmpW p1 (-1 : Int64)) then (1 : Int32) else (0 : Int32))) else (0 : Int32))), .unset] [(.ref b51)])) t → Steps p.tables e below (s₁.setTop (entryFrame m #[(.int p0), (.long p1), (.int p2)] maxLocals)) t := fun t k => k50 t (st51 t k)
  have k56 : ∀ t, Steps p.tables e below (T51.setTop (mkF m 70 #[.val (.int p0), .val (.long p1), .second, .val (.int p2), .val (.int ((p2 &&& (2147483647 : Int32)) % (3 : Int32))), .val (.long (if ((p2 &&& (2147483647 : Int32)) % (3 : Int32)) = (0 : Int32) then (-1 : Int64) else (if ((p2 &&& (2147483647 : Int32)) % (3 : Int32)) = (1 : Int32) then (-2 : Int64) else p1))), .second, .val (.int (if ((p2 &&& (2147483647 : Int32)) % (3 : Int32)) = (2 : Int32) then (if (lcmpW p1 (-2 : Int64)) < (0 : Int32) then (1 : Int32) else (if (0 : Int32) < (lcmpW p1 (-1 : Int64)) then (1 : Int32) else (0 : Int32))) else (0 : Int32))), .unset] [(.long (if ((p2 &&& (2147483647 : Int32)) % (3 : Int32)) = (0 : Int32) then (-1 : Int64) else (if ((p2 &&& (2147483647 : Int32)) % (3 : Int32)) = (1 : Int32) then (-2 : Int64) else p1))), (.int p0), (.ref b51), (.ref b51)])) t → Steps p.tables e below (s₁.setTop (entryFrame m #[(.int p0), (.long p1), (.int p2)] maxLocals)) t := fun t k => k55 t (by
    show Steps p.tables e below (T51.setTop (mkF m 66 #[.val (.int p0), .val (.long p1), .second, .val (.int p2), .val (.int ((p2 &&& (2147483647 : Int32)) % (3 : Int32))), .val (.long (if ((p2 &&& (2147483647 : Int32)) % (3 : Int32)) = (0 : Int32) then (-1 : Int64) else (if ((p2 &&& (2147483647 : Int32)) % (3 : Int32)) = (1 : Int32) then (-2 : Int64) else p1))), .second, .val (.int (if ((p2 &&& (2147483647 : Int32)) % (3 : Int32)) = (2 : Int32) then (if (lcmpW p1 (-2 : Int64)) < (0 : Int32) then (1 : Int32) else (if (0 : Int32) < (lcmpW p1 (-1 : Int64)) then (1 : Int32) else (0 : Int32))) else (0 : Int32))), .unset] [(.ref b51)])) _
    refine XS.dup X51.here hx rfl (hb hby at_66) rfl rfl ?_
    show Steps p.tables e below (T51.setTop (mkF m 67 #[.val (.int p0), .val (.long p1), .second, .val (.int p2), .val (.int ((p2 &&& (2147483647 : Int32)) % (3 : Int32))), .val (.long (if ((p2 &&& (2147483647 : Int32)) % (3 : Int32)) = (0 : Int32) then (-1 : Int64) else (if ((p2 &&& (2147483647 : Int32)) % (3 : Int32)) = (1 : Int32) then (-2 : Int64) else p1))), .second, .val (.int (if ((p2 &&& (2147483647 : Int32)) % (3 : Int32)) = (2 : Int32) then (if (lcmpW p1 (-2 : Int64)) < (0 : Int32) then (1 : Int32) else (if (0 : Int32) < (lcmpW p1 (-1 : Int64)) then (1 : Int32) else (0 : Int32))) else (0 : Int32))), .unset] [(.ref b51), (.ref b51)])) _
    refine XS.iloadN X51.here hx rfl (hb hby at_67) rfl ?_
    show Steps p.tables e below (T51.setTop (mkF m 68 #[.val (.int p0), .val (.long p1), .second, .val (.int p2), .val (.int ((p2 &&& (2147483647 : Int32)) % (3 : Int32))), .val (.long (if ((p2 &&& (2147483647 : Int32)) % (3 : Int32)) = (0 : Int32) then (-1 : Int64) else (if ((p2 &&& (2147483647 : Int32)) % (3 : Int32)) = (1 : Int32) then (-2 : Int64) else p1))), .second, .val (.int (if ((p2 &&& (2147483647 : Int32)) % (3 : Int32)) = (2 : Int32) then (if (lcmpW p1 (-2 : Int64)) < (0 : Int32) then (1 : Int32) else (if (0 : Int32) < (lcmpW p1 (-1 : Int64)) then (1 : Int32) else (0 : Int32))) else (0 : Int32))), .unset] [(.int p0), (.ref b51), (.ref b51)])) _
    refine XS.lload X51.here hx rfl (hb hby at_68) rfl ?_
    exact k)
  obtain ⟨_, _, ⟨T57, L57, kc57, ks57⟩, -, X57, ⟨Lc57, hQ57, l57, y57, z57⟩, st57⟩ := X51.specialBack hx (y := (⟨"com/example/waxwing/waxwing/protocol/ListOffsetsRequest$PartitionQuery", "<init>", "(IJ)V"⟩ : MethodName)) rfl hown (mvT hZ (hw _ (List.mem_of_getElem? (i := 5) rfl))) (mvT hZ (hw _ (List.mem_of_getElem? (i := 6) rfl))) (mvT hZ (hw _ (List.mem_of_getElem? (i := 7) rfl))) (by decide) (backOf (W := 1) (rm1 l Z a0 hw [] b51 p0 (if ((p2 &&& (2147483647 : Int32)) % (3 : Int32)) = (0 : Int32) then (-1 : Int64) else (if ((p2 &&& (2147483647 : Int32)) % (3 : Int32)) = (1 : Int32) then (-2 : Int64) else p1)) h51 n0 Z52 F53 F54 A51 g_b51) hZ (hw _ (List.mem_of_getElem? (i := 7) rfl)) (hw _ (List.mem_of_getElem? (i := 4) rfl)) (by decide) (by decide)) (g := (mkF m 70 #[.val (.int p0), .val (.long p1), .second, .val (.int p2), .val (.int ((p2 &&& (2147483647 : Int32)) % (3 : Int32))), .val (.long (if ((p2 &&& (2147483647 : Int32)) % (3 : Int32)) = (0 : Int32) then (-1 : Int64) else (if ((p2 &&& (2147483647 : Int32)) % (3 : Int32)) = (1 : Int32) then (-2 : Int64) else p1))), .second, .val (.int (if ((p2 &&& (2147483647 : Int32)) % (3 : Int32)) = (2 : Int32) then (if (lcmpW p1 (-2 : Int64)) < (0 : Int32) then (1 : Int32) else (if (0 : Int32) < (lcmpW p1 (-1 : Int64)) then (1 : Int32) else (0 : Int32))) else (0 : Int32))), .unset] [(.long (if ((p2 &&& (2147483647 : Int32)) % (3 : Int32)) = (0 : Int32) then (-1 : Int64) else (if ((p2 &&& (2147483647 : Int32)) % (3 : Int32)) = (1 : Int32) then (-2 : Int64) else p1))), (.int p0), (.ref b51), (.ref b51)])) rfl (by rw [hml]; rfl) (Steps.refl _) (a := b51) (argsL := [(.int p0), (.long (if ((p2 &&& (2147483647 : Int32)) % (3 : Int32)) = (0 : Int32) then (-1 : Int64) else (if ((p2 &&& (2147483647 : Int32)) % (3 : Int32)) = (1 : Int32) then (-2 : Int64) else p1)))]) (rest := [(.ref b51)]) (lenOf pd_1 rfl) rfl (by show 2 * 0 + _ ≤ _; exact Nat.le_of_eq rfl) (hb hby at_70) (fun _ _ => ⟨rfl, e51, (by decide : 1 + 0 ≤ _), (by decide : 2 + 0 ≤ _)⟩)
  dsimp only [Pt.U, Pt.locs, Pt.cells, Pt.slots] at X57 l57 y57 z57 st57 hQ57
  subst l57 y57 z57
  obtain ⟨rfl, Nq57, K57, Ax57, Fx57⟩ := hQ57
  have N57 := Fr.app N0 Nq57
  have Z58 : n0 ≤ T57.heap.size := Nat.le_trans Z52 K57.1
  have F59 : Exa Z T57.heap b51 "com/example/waxwing/waxwing/protocol/ListOffsetsRequest$PartitionQuery" := (A51).keep K57
  have k60 : ∀ t, Steps p.tables e below (T57.setTop (mkF m 73 #[.val (.int p0), .val (.long p1), .second, .val (.int p2), .val (.int ((p2 &&& (2147483647 : Int32)) % (3 : Int32))), .val (.long (if ((p2 &&& (2147483647 : Int32)) % (3 : Int32)) = (0 : Int32) then (-1 : Int64) else (if ((p2 &&& (2147483647 : Int32)) % (3 : Int32)) = (1 : Int32) then (-2 : Int64) else p1))), .second, .val (.int (if ((p2 &&& (2147483647 : Int32)) % (3 : Int32)) = (2 : Int32) then (if (lcmpW p1 (-2 : Int64)) < (0 : Int32) then (1 : Int32) else (if (0 : Int32) < (lcmpW p1 (-1 : Int64)) then (1 : Int32) else (0 : Int32))) else (0 : Int32))), .unset] [(.ref b51)])) t → Steps p.tables e below (s₁.setTop (entryFrame m #[(.int p0), (.long p1), (.int p2)] maxLocals)) t := fun t k => k56 t (st57.trans k)
  have k61 : ∀ t, Steps p.tables e below (T57.setTop (mkF m 77 #[.val (.int p0), .val (.long p1), .second, .val (.int p2), .val (.int ((p2 &&& (2147483647 : Int32)) % (3 : Int32))), .val (.long (if ((p2 &&& (2147483647 : Int32)) % (3 : Int32)) = (0 : Int32) then (-1 : Int64) else (if ((p2 &&& (2147483647 : Int32)) % (3 : Int32)) = (1 : Int32) then (-2 : Int64) else p1))), .second, .val (.int (if ((p2 &&& (2147483647 : Int32)) % (3 : Int32)) = (2 : Int32) then (if (lcmpW p1 (-2 : Int64)) < (0 : Int32) then (1 : Int32) else (if (0 : Int32) < (lcmpW p1 (-1 : Int64)) then (1 : Int32) else (0 : Int32))) else (0 : Int32))), .val (.ref b51)] [(.ref b51)])) t → Steps p.tables e below (s₁.setTop (entryFrame m #[(.int p0), (.long p1), (.int p2)] maxLocals)) t := fun t k => k60 t (by
    show Steps p.tables e below (T57.setTop (mkF m 73 #[.val (.int p0), .val (.long p1), .second, .val (.int p2), .val (.int ((p2 &&& (2147483647 : Int32)) % (3 : Int32))), .val (.long (if ((p2 &&& (2147483647 : Int32)) % (3 : Int32)) = (0 : Int32) then (-1 : Int64) else (if ((p2 &&& (2147483647 : Int32)) % (3 : Int32)) = (1 : Int32) then (-2 : Int64) else p1))), .second, .val (.int (if ((p2 &&& (2147483647 : Int32)) % (3 : Int32)) = (2 : Int32) then (if (lcmpW p1 (-2 : Int64)) < (0 : Int32) then (1 : Int32) else (if (0 : Int32) < (lcmpW p1 (-1 : Int64)) then (1 : Int32) else (0 : Int32))) else (0 : Int32))), .unset] [(.ref b51)])) _
    refine XS.astore X57.here hx rfl (hb hby at_73) rfl rfl (l' := #[.val (.int p0), .val (.long p1), .second, .val (.int p2), .val (.int ((p2 &&& (2147483647 : Int32)) % (3 : Int32))), .val (.long (if ((p2 &&& (2147483647 : Int32)) % (3 : Int32)) = (0 : Int32) then (-1 : Int64) else (if ((p2 &&& (2147483647 : Int32)) % (3 : Int32)) = (1 : Int32) then (-2 : Int64) else p1))), .second, .val (.int (if ((p2 &&& (2147483647 : Int32)) % (3 : Int32)) = (2 : Int32) then (if (lcmpW p1 (-2 : Int64)) < (0 : Int32) then (1 : Int32) else (if (0 : Int32) < (lcmpW p1 (-1 : Int64)) then (1 : Int32) else (0 : Int32))) else (0 : Int32))), .val (.ref b51)]) rfl ?_
    show Steps p.tables e below (T57.setTop (mkF m 75 #[.val (.int p0), .val (.long p1), .second, .val (.int p2), .val (.int ((p2 &&& (2147483647 : Int32)) % (3 : Int32))), .val (.long (if ((p2 &&& (2147483647 : Int32)) % (3 : Int32)) = (0 : Int32) then (-1 : Int64) else (if ((p2 &&& (2147483647 : Int32)) % (3 : Int32)) = (1 : Int32) then (-2 : Int64) else p1))), .second, .val (.int (if ((p2 &&& (2147483647 : Int32)) % (3 : Int32)) = (2 : Int32) then (if (lcmpW p1 (-2 : Int64)) < (0 : Int32) then (1 : Int32) else (if (0 : Int32) < (lcmpW p1 (-1 : Int64)) then (1 : Int32) else (0 : Int32))) else (0 : Int32))), .val (.ref b51)] [])) _
    refine XS.aload X57.here hx rfl (hb hby at_75) rfl rfl ?_
    exact k)
  obtain ⟨cq62, kq62, q62a, q62b, q62c⟩ := isOf hZ rfl F59
  obtain ⟨_, _, ⟨T62, L62, kc62, ks62⟩, -, X62, ⟨Lc62, hQ62, l62, y62, z62⟩, st62⟩ := X57.virtualBack hx (y := (⟨"com/example/waxwing/waxwing/protocol/ListOffsetsRequest$PartitionQuery", "byTime", "()Z"⟩ : MethodName)) (z := (⟨"com/example/waxwing/waxwing/protocol/ListOffsetsRequest$PartitionQuery", "byTime", "()Z"⟩ : MethodName)) hown (mvT hZ (hw _ (List.mem_of_getElem? (i := 20) rfl))) (mvT hZ (hw _ (List.mem_of_getElem? (i := 21) rfl))) (notFace_of_selects (args := #[]) (mvT hZ (hw _ (List.mem_of_getElem? (i := 23) rfl)))) (mvT hZ (hw _ (List.mem_of_getElem? (i := 23) rfl))) (mvT hZ (hw _ (List.mem_of_getElem? (i := 22) rfl))) (by decide) (backOf (W := 0) (rm4 l Z a0 hw [] b51 (if ((p2 &&& (2147483647 : Int32)) % (3 : Int32)) = (0 : Int32) then (-1 : Int64) else (if ((p2 &&& (2147483647 : Int32)) % (3 : Int32)) = (1 : Int32) then (-2 : Int64) else p1)) T57.heap n0 Z58 Fx57) hZ (hw _ (List.mem_of_getElem? (i := 24) rfl)) (hw _ (List.mem_of_getElem? (i := 4) rfl)) (by decide) (by decide)) q62a q62c (g := (mkF m 77 #[.val (.int p0), .val (.long p1), .second, .val (.int p2), .val (.int ((p2 &&& (2147483647 : Int32)) % (3 : Int32))), .val (.long (if ((p2 &&& (2147483647 : Int32)) % (3 : Int32)) = (0 : Int32) then (-1 : Int64) else (if ((p2 &&& (2147483647 : Int32)) % (3 : Int32)) = (1 : Int32) then (-2 : Int64) else p1))), .second, .val (.int (if ((p2 &&& (2147483647 : Int32)) % (3 : Int32)) = (2 : Int32) then (if (lcmpW p1 (-2 : Int64)) < (0 : Int32) then (1 : Int32) else (if (0 : Int32) < (lcmpW p1 (-1 : Int64)) then (1 : Int32) else (0 : Int32))) else (0 : Int32))), .val (.ref b51)] [(.ref b51)])) rfl (by rw [hml]; rfl) (Steps.refl _) (argsL := []) (rest := []) (lenOf pd_2 rfl) rfl (by show 2 * 0 + _ ≤ _; exact Nat.le_of_eq rfl) (hb hby at_77) (fun _ _ => ⟨rfl, rfl, (by decide : 1 + 0 ≤ _), (by decide : 2 + 0 ≤ _)⟩)
  dsimp only [Pt.U, Pt.locs, Pt.cells, Pt.slots] at X62 l62 y62 z62 st62 hQ62
  subst l62 y62 z62
  obtain ⟨rfl, Nq62, eq62⟩ := hQ62
  have N62 := Fr.app N57 Nq62
  have k63 : ∀ t, Steps p.tables e below (T62.setTop (mkF m 80 #[.val (.int p0), .val (.long p1), .second, .val (.int p2), .val (.int ((p2 &&& (2147483647 : Int32)) % (3 : Int32))), .val (.long (if ((p2 &&& (2147483647 : Int32)) % (3 : Int32)) = (0 : Int32) then (-1 : Int64) else (if ((p2 &&& (2147483647 : Int32)) % (3 : Int32)) = (1 : Int32) then (-2 : Int64) else p1))), .second, .val (.int (if ((p2 &&& (2147483647 : Int32)) % (3 : Int32)) = (2 : Int32) then (if (lcmpW p1 (-2 : Int64)) < (0 : Int32) then (1 : Int32) else (if (0 : Int32) < (lcmpW p1 (-1 : Int64)) then (1 : Int32) else (0 : Int32))) else (0 : Int32))), .val (.ref b51)] [(.int (own_bt (if ((p2 &&& (2147483647 : Int32)) % (3 : Int32)) = (0 : Int32) then (-1 : Int64) else (if ((p2 &&& (2147483647 : Int32)) % (3 : Int32)) = (1 : Int32) then (-2 : Int64) else p1))))])) t → Steps p.tables e below (s₁.setTop (entryFrame m #[(.int p0), (.long p1), (.int p2)] maxLocals)) t := fun t k => k61 t (st62.trans k)
  have k64 : ∀ t, Steps p.tables e below (T62.setTop (mkF m 90 #[.val (.int p0), .val (.long p1), .second, .val (.int p2), .val (.int ((p2 &&& (2147483647 : Int32)) % (3 : Int32))), .val (.long (if ((p2 &&& (2147483647 : Int32)) % (3 : Int32)) = (0 : Int32) then (-1 : Int64) else (if ((p2 &&& (2147483647 : Int32)) % (3 : Int32)) = (1 : Int32) then (-2 : Int64) else p1))), .second, .val (.int (if ((p2 &&& (2147483647 : Int32)) % (3 : Int32)) = (2 : Int32) then (if (lcmpW p1 (-2 : Int64)) < (0 : Int32) then (1 : Int32) else (if (0 : Int32) < (lcmpW p1 (-1 : Int64)) then (1 : Int32) else (0 : Int32))) else (0 : Int32))), .val (.ref b51)] [(.int (1 : Int32))])) t → Steps p.tables e below (s₁.setTop (entryFrame m #[(.int p0), (.long p1), (.int p2)] maxLocals)) t := fun t k => k63 t (by
    show Steps p.tables e below (T62.setTop (mkF m 80 #[.val (.int p0), .val (.long p1), .second, .val (.int p2), .val (.int ((p2 &&& (2147483647 : Int32)) % (3 : Int32))), .val (.long (if ((p2 &&& (2147483647 : Int32)) % (3 : Int32)) = (0 : Int32) then (-1 : Int64) else (if ((p2 &&& (2147483647 : Int32)) % (3 : Int32)) = (1 : Int32) then (-2 : Int64) else p1))), .second, .val (.int (if ((p2 &&& (2147483647 : Int32)) % (3 : Int32)) = (2 : Int32) then (if (lcmpW p1 (-2 : Int64)) < (0 : Int32) then (1 : Int32) else (if (0 : Int32) < (lcmpW p1 (-1 : Int64)) then (1 : Int32) else (0 : Int32))) else (0 : Int32))), .val (.ref b51)] [(.int (own_bt (if ((p2 &&& (2147483647 : Int32)) % (3 : Int32)) = (0 : Int32) then (-1 : Int64) else (if ((p2 &&& (2147483647 : Int32)) % (3 : Int32)) = (1 : Int32) then (-2 : Int64) else p1))))])) _
    refine XS.iload X62.here hx rfl (hb hby at_80) rfl ?_
    show Steps p.tables e below (T62.setTop (mkF m 82 #[.val (.int p0), .val (.long p1), .second, .val (.int p2), .val (.int ((p2 &&& (2147483647 : Int32)) % (3 : Int32))), .val (.long (if ((p2 &&& (2147483647 : Int32)) % (3 : Int32)) = (0 : Int32) then (-1 : Int64) else (if ((p2 &&& (2147483647 : Int32)) % (3 : Int32)) = (1 : Int32) then (-2 : Int64) else p1))), .second, .val (.int (if ((p2 &&& (2147483647 : Int32)) % (3 : Int32)) = (2 : Int32) then (if (lcmpW p1 (-2 : Int64)) < (0 : Int32) then (1 : Int32) else (if (0 : Int32) < (lcmpW p1 (-1 : Int64)) then (1 : Int32) else (0 : Int32))) else (0 : Int32))), .val (.ref b51)] [(.int (if ((p2 &&& (2147483647 : Int32)) % (3 : Int32)) = (2 : Int32) then (if (lcmpW p1 (-2 : Int64)) < (0 : Int32) then (1 : Int32) else (if (0 : Int32) < (lcmpW p1 (-1 : Int64)) then (1 : Int32) else (0 : Int32))) else (0 : Int32))), (.int (own_bt (if ((p2 &&& (2147483647 : Int32)) % (3 : Int32)) = (0 : Int32) then (-1 : Int64) else (if ((p2 &&& (2147483647 : Int32)) % (3 : Int32)) = (1 : Int32) then (-2 : Int64) else p1))))])) _
    refine XS.icmpNo X62.here hx rfl (hb hby at_82) rfl (teq (own_law _ p1 (own_three p2))).2 ?_
    show Steps p.tables e below (T62.setTop (mkF m 85 #[.val (.int p0), .val (.long p1), .second, .val (.int p2), .val (.int ((p2 &&& (2147483647 : Int32)) % (3 : Int32))), .val (.long (if ((p2 &&& (2147483647 : Int32)) % (3 : Int32)) = (0 : Int32) then (-1 : Int64) else (if ((p2 &&& (2147483647 : Int32)) % (3 : Int32)) = (1 : Int32) then (-2 : Int64) else p1))), .second, .val (.int (if ((p2 &&& (2147483647 : Int32)) % (3 : Int32)) = (2 : Int32) then (if (lcmpW p1 (-2 : Int64)) < (0 : Int32) then (1 : Int32) else (if (0 : Int32) < (lcmpW p1 (-1 : Int64)) then (1 : Int32) else (0 : Int32))) else (0 : Int32))), .val (.ref b51)] [])) _
    refine XS.iconst X62.here hx rfl (hb hby at_85) ?_
    show Steps p.tables e below (T62.setTop (mkF m 86 #[.val (.int p0), .val (.long p1), .second, .val (.int p2), .val (.int ((p2 &&& (2147483647 : Int32)) % (3 : Int32))), .val (.long (if ((p2 &&& (2147483647 : Int32)) % (3 : Int32)) = (0 : Int32) then (-1 : Int64) else (if ((p2 &&& (2147483647 : Int32)) % (3 : Int32)) = (1 : Int32) then (-2 : Int64) else p1))), .second, .val (.int (if ((p2 &&& (2147483647 : Int32)) % (3 : Int32)) = (2 : Int32) then (if (lcmpW p1 (-2 : Int64)) < (0 : Int32) then (1 : Int32) else (if (0 : Int32) < (lcmpW p1 (-1 : Int64)) then (1 : Int32) else (0 : Int32))) else (0 : Int32))), .val (.ref b51)] [(.int (1 : Int32))])) _
    refine XS.goto X62.here hx rfl (pc0 := 86) (pc' := 90) rfl (hb hby at_86) (by decide) (by decide) ?_
    exact k)
  obtain ⟨fs, hr, hrun, hended, hW, hsame⟩ := X62.leave (v := some (.int (1 : Int32))) (fun h => by rw [Bd.returns] at h; cases h)
  refine ⟨_, _, k64 _ ?_, hrun, hended, _, _, rfl, ?_, ⟨_, rfl⟩, hW, hsame.mono (by decide) (by decide)⟩
  · show Steps p.tables e below (T62.setTop (mkF m 90 #[.val (.int p0), .val (.long p1), .second, .val (.int p2), .val (.int ((p2 &&& (2147483647 : Int32)) % (3 : Int32))), .val (.long (if ((p2 &&& (2147483647 : Int32)) % (3 : Int32)) = (0 : Int32) then (-1 : Int64) else (if ((p2 &&& (2147483647 : Int32)) % (3 : Int32)) = (1 : Int32) then (-2 : Int64) else p1))), .second, .val (.int (if ((p2 &&& (2147483647 : Int32)) % (3 : Int32)) = (2 : Int32) then (if (lcmpW p1 (-2 : Int64)) < (0 : Int32) then (1 : Int32) else (if (0 : Int32) < (lcmpW p1 (-1 : Int64)) then (1 : Int32) else (0 : Int32))) else (0 : Int32))), .val (.ref b51)] [(.int (1 : Int32))])) _
    exact retN X62 hx (t := .boolean) Bd.returns (by simp) (hb hby at_90) hr
  · show Q0 Z p0 p1 p2 h0 n0 _ T62.heap _
    rw [eq62]
    exact ⟨rfl, N62⟩
set_option maxRecDepth 65536 in
set_option maxHeartbeats 40000000 in
theorem comes_1 {Post : Tables → Env → Array Value → State → Outcome → State → Prop} (hpost : ∀ tb e args s v u, (limb_1_1.after args s (.returned v) u = true ∧ limb_1_2.after args s (.returned v) u = true ∧ True) → FrameEnd s (.returned v) u (Jvm.fieldLocs frame_1_writes args s ++ Jvm.arrayLocs frame_1_arrays args s ++ Jvm.staticLocs frame_1_statics s) 16 128 → Post tb e args s (.returned v) u) :
    ArmFor flags0 classFile x code maxLocals ret World_1 tables_1 room_1 Calls_1 rest_1 Pre_1 Post := by
  intro l hfl _ _ p e ha hc hk s m args below hf hA hF happ hP
  obtain ⟨hcalls, hrest, hpre⟩ := hP
  obtain ⟨-, -, -, hnamed, -, -, -, hat⟩ := (Spec.applies_iff hf).mp happ
  obtain ⟨hg, hn⟩ := and_e (Cond.before_iff.mp (show (Jvm.Cond.and given_1 narrow_1).before args s = true from hpre))
  obtain ⟨g1, g2⟩ := and_e hg
  obtain ⟨g3, g4⟩ := and_e g2
  obtain ⟨g5, g6⟩ := and_e g4
  obtain ⟨w0, w1, w2, rfl⟩ : ∃ w0 w1 w2 : Value, args = #[w0, w1, w2] := by
    have hs : args.size = 3 := by simpa [Cond.value, given_1] using g1
    obtain ⟨L⟩ := args
    match L, hs with
    | [w0, w1, w2], _ => exact ⟨w0, w1, w2, rfl⟩
  have hw := fun d (hd : d ∈ tables_1) => atoms_spec (ws := Jvm.Cond.code x code maxLocals ret :: tables_1) hat d (List.mem_cons_of_mem _ hd)
  have hfit : Fit s := fun {y c} hc i hi => by
    obtain ⟨ha, rfl⟩ := Array.getElem?_eq_some_iff.mp hc
    have q := List.all_eq_true.mp ((Array.all_eq_true_iff_forall_mem.mp hF) _ (Array.getElem_mem ha)) i (List.mem_range.mpr hi)
    simpa [Array.getElem?_eq_getElem hi] using q
  obtain ⟨i0, ei0⟩ := is_v g3
  obtain rfl : w0 = (.int i0) := Option.some.inj ei0
  obtain ⟨i1, ei1⟩ := isL_v g5
  obtain rfl : w1 = (.long i1) := Option.some.inj ei1
  obtain ⟨i2, ei2⟩ := is_v g6
  obtain rfl : w2 = (.int i2) := Option.some.inj ei2
  obtain ⟨n, o, h1, h2, h3, _, L, rfl, ⟨rfl, N⟩, hq⟩ := rm0 l s _ hw tables_1 i0 i1 i2 s.heap s.heap.size (Nat.le_refl _)  p e ha hc hk s m _ below hf ((Spec.applies_iff_loose hf).mp happ).1 ⟨rfl, State.Warmed39.refl s, rfl⟩ trivial
  refine ⟨n, _, h1, h2, h3, hpost _ _ _ _ _ _ ⟨Cond.after_iff.mpr rfl, Cond.after_iff.mpr (eq_i res_at (Term.int_eval (1)) rfl), trivial⟩ ⟨hq.1, hq.2.1, (hq.2.2.sift fun y hy => Or.inr (N y hy)).mono (by decide) (by decide)⟩⟩
theorem main_1_1 : Claimed_1_1 := comes_1 fun _ _ _ _ _ _ h hF => ⟨h.1, hF⟩
theorem main_1_2 : Claimed_1_2 := comes_1 fun _ _ _ _ _ _ h hF => ⟨h.2.1, hF⟩
end Jvm.Pilot.@@N@@
namespace Jvm.Pilot.@@N@@
open Jvm Jvm.ClassFile Sem Op Lib Jvm.Free Jvm.Stand Jvm.Pilot.@@N@@.Jvm.D
/-! MADE BY PROGRAM (witnessworld.py) out of the Statement's table words and the real class files: 10 classes; the members and pool entries that the words name. The judged class is class 1, her method 1. -/
namespace start1
open Jvm.ClassFile
def u (s : String) : CpInfo := .utf8 (stringToUtf16 s)
/-- a pool by its gaps: so many unusable entries, then the entry; so many at the end -/
def gap : Nat → List CpInfo → List CpInfo
  | 0, r => r
  | n + 1, r => .unusable :: gap n r
def poolList (es : List (Nat × CpInfo)) (last : Nat) : List CpInfo := es.foldr (fun e r => gap e.1 (e.2 :: r)) (gap last [])
def pool (es : List (Nat × CpInfo)) (last : Nat) : Array CpInfo := ⟨poolList es last⟩
def fileOf (pool : Array CpInfo) (this : Nat) (attrs : Array Attribute := #[]) (ms : Array MethodInfo := #[]) (fl : Nat := 33) (sup : Nat := 0) (ifs : Array Nat := #[]) (fds : Array FieldInfo := #[]) : ClassFile where
  minorVersion := 0
  majorVersion := 65
  constantPool := pool
  accessFlags := fl
  thisClass := this
  superClass := sup
  interfaces := ifs
  fields := fds
  methods := ms
  attributes := attrs
def plain (name : String) (sup : Option ClassId) : Class where
  name := name
  kind := .ordinary
  loader := none
  accessFlags := 33
  super := sup
  interfaces := #[]
  cf := none
  fields := #[]
  methods := #[]
  instanceTypes := #[]
  staticTypes := #[]
  resolved := #[]
  callSites := []
  init := .initialized
  statics := none
  mirror := none

def pool0 : Array CpInfo := pool [(5, u "<init>"), (0, u "()V"), (1, .class_ 10), (1, u "java/lang/Object")] 113

def k0c0 : Code := { maxStack := 0, maxLocals := 1, code := object_method_1_code, exceptionTable := #[], attributes := #[] }
def k0m0 : Method := { name := "<init>", desc := "()V", sig := { parameters := [], returnType := none }, accessFlags := 1, code := some k0c0 }
/-- java/lang/Object -/
def k0 : Class := { plain "java/lang/Object" none with
  accessFlags := 33
  interfaces := #[]
  cf := some (fileOf pool0 8 #[] #[{ accessFlags := 1, nameIndex := 5, descriptorIndex := 6, attributes := #[] }] 33 0 #[] #[])
  fields := #[]
  methods := #[k0m0]
  instanceTypes := #[]
  staticTypes := #[]
  resolved := Array.replicate 124 none
  statics := none }

def pool1 : Array CpInfo := pool [(2, .class_ 4), (1, u "java/lang/Object"), (0, u "<init>"), (0, u "()V"), (0, .integer 2147483647), (0, .long 18446744073709551615), (1, .long 18446744073709551614), (1, .class_ 13), (0, u "com/example/waxwing/waxwing/protocol/ListOffsetsRequest$PartitionQuery"), (0, .methodref 12 15), (0, .nameAndType 5 16), (0, u "(IJ)V"), (0, .methodref 12 18), (0, .nameAndType 19 20), (0, u "byTime"), (0, u "()Z"), (0, .class_ 22), (0, u "com/example/waxwing/waxwing/protocol/PartitionQueryByTimePinLaw"), (2, u "law"), (0, u "(IJI)Z")] 7

def k1m0 : Method := { name := "<init>", desc := "()V", sig := { parameters := [], returnType := none }, accessFlags := 1, code := none }
def k1c1 : Code := { maxStack := 5, maxLocals := 9, code := code, exceptionTable := #[], attributes := #[] }
def k1m1 : Method := { name := "law", desc := "(IJI)Z", sig := { parameters := [.int, .long, .int], returnType := some .boolean }, accessFlags := 9, code := some k1c1 }
/-- com/example/waxwing/waxwing/protocol/PartitionQueryByTimePinLaw -/
def k1 : Class := { plain "com/example/waxwing/waxwing/protocol/PartitionQueryByTimePinLaw" (some 0) with
  accessFlags := 49
  interfaces := #[]
  cf := some (fileOf pool1 21 #[] #[{ accessFlags := 1, nameIndex := 5, descriptorIndex := 6, attributes := #[] }, { accessFlags := 9, nameIndex := 25, descriptorIndex := 26, attributes := #[] }] 49 2 #[] #[])
  fields := #[]
  methods := #[k1m0, k1m1]
  instanceTypes := #[]
  staticTypes := #[]
  resolved := Array.replicate 34 none
  statics := none }

def pool2 : Array CpInfo := pool [(1, .methodref 2 3), (0, .class_ 4), (0, .nameAndType 5 6), (0, u "java/lang/Object"), (0, u "<init>"), (0, u "()V"), (0, .class_ 8), (0, u "java/lang/Record")] 13

def k2c0 : Code := { maxStack := 1, maxLocals := 1, code := jdk_30_method_1_code, exceptionTable := #[], attributes := #[] }
def k2m0 : Method := { name := "<init>", desc := "()V", sig := { parameters := [], returnType := none }, accessFlags := 4, code := some k2c0 }
/-- java/lang/Record -/
def k2 : Class := { plain "java/lang/Record" (some 0) with
  accessFlags := 1057
  interfaces := #[]
  cf := some (fileOf pool2 7 #[] #[{ accessFlags := 4, nameIndex := 5, descriptorIndex := 6, attributes := #[] }] 1057 2 #[] #[])
  fields := #[]
  methods := #[k2m0]
  instanceTypes := #[]
  staticTypes := #[]
  resolved := Array.replicate 22 none
  statics := none }

def pool3 : Array CpInfo := pool [(1, .class_ 2), (0, u "com/example/waxwing/waxwing/protocol/ListOffsetsRequest"), (0, .methodref 4 5), (0, .class_ 6), (0, .nameAndType 7 8), (0, u "java/lang/Record"), (0, u "<init>"), (0, u "()V"), (0, .fieldref 10 11), (0, .class_ 12), (0, .nameAndType 13 14), (0, u "com/example/waxwing/waxwing/protocol/ListOffsetsRequest$PartitionQuery"), (0, u "index"), (0, u "I"), (0, .fieldref 10 16), (0, .nameAndType 17 18), (0, u "timestamp"), (0, u "J"), (0, .long 18446744073709551615), (1, .long 18446744073709551614), (13, u "(IJ)V"), (15, u "byTime"), (0, u "()Z")] 28

def k3c0 : Code := { maxStack := 3, maxLocals := 4, code := prog_75_method_1_code, exceptionTable := #[], attributes := #[] }
def k3m0 : Method := { name := "<init>", desc := "(IJ)V", sig := { parameters := [.int, .long], returnType := none }, accessFlags := 1, code := some k3c0 }
def k3c1 : Code := { maxStack := 4, maxLocals := 1, code := prog_75_method_2_code, exceptionTable := #[], attributes := #[] }
def k3m1 : Method := { name := "byTime", desc := "()Z", sig := { parameters := [], returnType := some .boolean }, accessFlags := 1, code := some k3c1 }
/-- com/example/waxwing/waxwing/protocol/ListOffsetsRequest$PartitionQuery -/
def k3 : Class := { plain "com/example/waxwing/waxwing/protocol/ListOffsetsRequest$PartitionQuery" (some 2) with
  accessFlags := 49
  interfaces := #[]
  cf := some (fileOf pool3 10 #[.nestHost 1] #[{ accessFlags := 1, nameIndex := 7, descriptorIndex := 35, attributes := #[] }, { accessFlags := 1, nameIndex := 51, descriptorIndex := 52, attributes := #[] }] 49 4 #[] #[{ accessFlags := 18, nameIndex := 13, descriptorIndex := 14, attributes := #[] }, { accessFlags := 18, nameIndex := 17, descriptorIndex := 18, attributes := #[] }])
  fields := #[{ name := "index", type := .int, accessFlags := 18, slot := 0, constantValue := 0 }, { name := "timestamp", type := .long, accessFlags := 18, slot := 1, constantValue := 0 }]
  methods := #[k3m0, k3m1]
  instanceTypes := #[.int, .long]
  staticTypes := #[]
  resolved := Array.replicate 81 none
  statics := none }

def pool4 : Array CpInfo := pool [(1, u "java/lang/Cloneable"), (0, .class_ 1), (0, u "java/lang/Object"), (0, .class_ 3)] 3

/-- java/lang/Cloneable -/
def k4 : Class := { plain "java/lang/Cloneable" (some 0) with
  accessFlags := 1537
  interfaces := #[]
  cf := some (fileOf pool4 2 #[] #[] 1537 4 #[] #[])
  fields := #[]
  methods := #[]
  instanceTypes := #[]
  staticTypes := #[]
  resolved := Array.replicate 8 none
  statics := none }

def pool5 : Array CpInfo := pool [(1, u "java/io/Serializable"), (0, .class_ 1), (0, u "java/lang/Object"), (0, .class_ 3)] 3

/-- java/io/Serializable -/
def k5 : Class := { plain "java/io/Serializable" (some 0) with
  accessFlags := 1537
  interfaces := #[]
  cf := some (fileOf pool5 2 #[] #[] 1537 4 #[] #[])
  fields := #[]
  methods := #[]
  instanceTypes := #[]
  staticTypes := #[]
  resolved := Array.replicate 8 none
  statics := none }

/-- the primitive byte -/
def k6 : Class := { plain "byte" none with kind := .primitive 'B', accessFlags := 0x411 }
/-- [B -/
def k7 : Class := { plain "[B" (some 0) with kind := .array 6 .byte, interfaces := #[4, 5], accessFlags := 1041 }

/-- the primitive int -/
def k8 : Class := { plain "int" none with kind := .primitive 'I', accessFlags := 0x411 }
/-- [I -/
def k9 : Class := { plain "[I" (some 0) with kind := .array 8 .int, interfaces := #[4, 5], accessFlags := 1041 }

def heap : Heap := #[]
def classes : Array Class := #[k0, k1, k2, k3, k4, k5, k6, k7, k8, k9]
def interned : List (Array UInt16 × Addr) := []
def slotsUsed : Nat := 0
def theMethod : MethodId := ⟨1, 1⟩
def args0 : Array Value := #[.int 5, .long 5, .int 5]
def aboutOver (below : List Frame) : State where
  vm := { classes := classes, interned := interned.toArray }
  heap := heap
  slotsUsed := slotsUsed
  threads := #[{ frames := .invoking theMethod args0 :: below }]
def below0 : List Frame := [.native { method := ⟨0, 0⟩, args := #[] }]
def about1 : State := aboutOver below0
def p0 : Program := .bare "" "" ""
def e0 : Env := launch0.env 0 0 0
theorem w_frames : about1.frames = Frame.invoking theMethod args0 :: below0 := rfl
set_option maxRecDepth 65536 in
theorem w_args : argsFit about1.vm theMethod args0 = true := by decide +kernel
set_option maxRecDepth 65536 in
theorem w_heap : heapFits about1 = true := by decide +kernel
set_option maxRecDepth 65536 in
theorem w_runnable : about1.curStatus? = some .runnable := by decide +kernel
set_option maxRecDepth 65536 in
theorem w_alone : about1.alone = true := by decide +kernel
set_option maxRecDepth 65536 in
theorem w_named : about1.methodNamed? x = some theMethod := by decide +kernel
set_option maxRecDepth 65536 in
theorem w_hears : about1.hears theMethod below0 = true := by decide +kernel
set_option maxRecDepth 65536 in
theorem w_ripe : about1.ripe theMethod args0 below0 = true := by decide +kernel
theorem w_running : about1.status = .running := rfl
set_option maxRecDepth 65536 in
theorem w_room : about1.hasRoom e0.platform room_1 = true :=
  launch0.hasRoom_least _ room_1 (by decide +kernel) (by decide +kernel) (by decide +kernel) (by decide +kernel) (by decide +kernel) (by decide +kernel)
theorem allAtoms_all (ts : List Jvm.Cond) (a : Array Jvm.Value) (st : Jvm.State) : (allAtoms ts).before a st = ts.all (fun c => c.before a st) := by
  induction ts with
  | nil => rfl
  | cons c t ih =>
    show (Jvm.Cond.and c (allAtoms t)).before a st = _
    rw [Jvm.Cond.before_and, ih, List.all_cons]
def words1 : List Jvm.Cond := Jvm.Cond.code x code maxLocals ret :: tables_1
/-- a 'code' word, met by the world's own term for the bytes: nothing is compared byte by byte -/
theorem code_word {y : MethodName} {bytes : ByteArray} {mx : Nat} {rt : Option FieldType} {a : Array Value} {s : State} {m : MethodId} {meth : Method} {c : Code} (h1 : s.methodNamed? y = some m) (h2 : s.vm.method? m = some meth) (h3 : meth.code = some c) (h4 : c.code = bytes)
    (h5 : (c.maxLocals == mx && c.exceptionTable.isEmpty && decide (c.maxStack ≤ mostOperands) && decide (meth.sig.returnType = rt) && !meth.locks && decide (parseMethodDescriptor y.desc = some meth.sig)) = true) : (Jvm.Cond.code y bytes mx rt).before a s = true := by
  simp only [Bool.and_eq_true, beq_iff_eq, Bool.not_eq_true', decide_eq_true_eq] at h5
  obtain ⟨⟨⟨⟨⟨g1, g2⟩, g3⟩, g4⟩, g5⟩, g6⟩ := h5
  simp [Cond.before, Cond.holds, Cond.value, h1, h2, h3, h4, g1, g2, g3, g4, g5, g6]
def isCode : Jvm.Cond → Bool
  | .code _ _ _ _ => true
  | _ => false
theorem all_split {L : List Jvm.Cond} {P : Jvm.Cond → Bool} (h1 : L.all (fun c => isCode c || P c) = true) (h2 : ∀ c ∈ L.filter isCode, P c = true) : L.all P = true := by
  refine List.all_eq_true.mpr fun c hc => ?_
  have h := List.all_eq_true.mp h1 c hc
  rcases Bool.eq_false_or_eq_true (isCode c) with hi | hi
  · exact h2 c (List.mem_filter.mpr ⟨hc, hi⟩)
  · simpa [hi] using h
set_option maxRecDepth 65536 in
theorem w_c0 : (Jvm.Cond.code x code maxLocals ret).before args0 about1 = true := code_word (m := ⟨1, 1⟩) (meth := k1m1) (c := k1c1) (by decide +kernel) rfl rfl rfl (by decide +kernel)
set_option maxRecDepth 65536 in
theorem w_c1 : (Jvm.Cond.code ({ cls := "com/example/waxwing/waxwing/protocol/ListOffsetsRequest$PartitionQuery", name := "<init>", desc := "(IJ)V" } : Jvm.MethodName) prog_75_method_1_code (4 : Nat) (Option.none : Option Jvm.ClassFile.FieldType)).before args0 about1 = true := code_word (m := ⟨3, 0⟩) (meth := k3m0) (c := k3c0) (by decide +kernel) rfl rfl rfl (by decide +kernel)
set_option maxRecDepth 65536 in
theorem w_c2 : (Jvm.Cond.code ({ cls := "java/lang/Record", name := "<init>", desc := "()V" } : Jvm.MethodName) jdk_30_method_1_code (1 : Nat) (Option.none : Option Jvm.ClassFile.FieldType)).before args0 about1 = true := code_word (m := ⟨2, 0⟩) (meth := k2m0) (c := k2c0) (by decide +kernel) rfl rfl rfl (by decide +kernel)
set_option maxRecDepth 65536 in
theorem w_c3 : (Jvm.Cond.code ({ cls := "java/lang/Object", name := "<init>", desc := "()V" } : Jvm.MethodName) object_method_1_code (1 : Nat) (Option.none : Option Jvm.ClassFile.FieldType)).before args0 about1 = true := code_word (m := ⟨0, 0⟩) (meth := k0m0) (c := k0c0) (by decide +kernel) rfl rfl rfl (by decide +kernel)
set_option maxRecDepth 65536 in
theorem w_c4 : (Jvm.Cond.code ({ cls := "com/example/waxwing/waxwing/protocol/ListOffsetsRequest$PartitionQuery", name := "byTime", desc := "()Z" } : Jvm.MethodName) prog_75_method_2_code (1 : Nat) (Option.some Jvm.ClassFile.FieldType.boolean)).before args0 about1 = true := code_word (m := ⟨3, 1⟩) (meth := k3m1) (c := k3c1) (by decide +kernel) rfl rfl rfl (by decide +kernel)
def codes1 : List Jvm.Cond := [Jvm.Cond.code x code maxLocals ret, Jvm.Cond.code ({ cls := "com/example/waxwing/waxwing/protocol/ListOffsetsRequest$PartitionQuery", name := "<init>", desc := "(IJ)V" } : Jvm.MethodName) prog_75_method_1_code (4 : Nat) (Option.none : Option Jvm.ClassFile.FieldType), Jvm.Cond.code ({ cls := "java/lang/Record", name := "<init>", desc := "()V" } : Jvm.MethodName) jdk_30_method_1_code (1 : Nat) (Option.none : Option Jvm.ClassFile.FieldType), Jvm.Cond.code ({ cls := "java/lang/Object", name := "<init>", desc := "()V" } : Jvm.MethodName) object_method_1_code (1 : Nat) (Option.none : Option Jvm.ClassFile.FieldType), Jvm.Cond.code ({ cls := "com/example/waxwing/waxwing/protocol/ListOffsetsRequest$PartitionQuery", name := "byTime", desc := "()Z" } : Jvm.MethodName) prog_75_method_2_code (1 : Nat) (Option.some Jvm.ClassFile.FieldType.boolean)]
set_option maxRecDepth 65536 in
theorem codes_eq : words1.filter isCode = codes1 := rfl
theorem w_codes : ∀ c ∈ words1.filter isCode, c.before args0 about1 = true := by
  rw [codes_eq]
  intro c hc
  simp only [codes1, List.mem_cons, List.not_mem_nil, or_false] at hc
  rcases hc with rfl | rfl | rfl | rfl | rfl
  · exact w_c0
  · exact w_c1
  · exact w_c2
  · exact w_c3
  · exact w_c4
set_option maxRecDepth 65536 in
theorem w_t1 : (words1.take 24).all (fun c => isCode c || c.before args0 about1) = true := by decide +kernel
set_option maxRecDepth 65536 in
theorem w_t2 : (words1.drop 24).all (fun c => isCode c || c.before args0 about1) = true := by decide +kernel
theorem w_tables : (allAtoms (Jvm.Cond.code x code maxLocals ret :: tables_1)).before args0 about1 = true := by
  rw [allAtoms_all]
  show words1.all (fun c => c.before args0 about1) = true
  refine all_split ?_ w_codes
  rw [← List.take_append_drop 24 words1, List.all_append, w_t1, w_t2]
  rfl
set_option maxRecDepth 65536 in
theorem w_case : (Jvm.Cond.and given_1 narrow_1).before args0 about1 = true := by decide +kernel
theorem w_applies : (headSpec (Jvm.Cond.code x code maxLocals ret :: tables_1) room_1).applies x e0.platform about1 = true :=
  (Spec.applies_iff w_frames).mpr ⟨w_running, w_runnable, w_alone, w_named, w_hears, w_ripe, w_room, w_tables⟩
theorem atStart : AtStart classFile x code maxLocals ret World_1 tables_1 room_1 Calls_1 rest_1 Pre_1 launch0 p0 e0 about1 theMethod args0 below0 :=
  ⟨lists_1, trivial, launch0.admits_env _ _ _, launch0.least_env, fairChoices_fair.cas, fairChoices_fair.clock, w_frames, w_args, w_heap, w_applies, trivial, trivial, w_case⟩
end start1
theorem witness_1 : WitnessClaimed_1 := ⟨start1.p0, start1.e0, start1.about1, start1.theMethod, start1.args0, start1.below0, start1.atStart⟩
end Jvm.Pilot.@@N@@
