import JvmDerived
import JvmDerived.Pilot.@@N@@Statement
import JvmDerived.Pilot.@@N@@Code
set_option linter.unusedVariables false
set_option linter.unusedSimpArgs false
namespace Jvm.RoadKit
open Sem ClassFile Op Lib Jvm.Stand Jvm.Free Jvm.LawKit
section New
variable {p : Program} {l : Launch} {e : Env} {R : Room} {s : State} {m : MethodId} {args : Array Value} {below : List Frame} {meth : Method} {c : Code} {T : State} {locs : List Loc} {cells slots : Nat}
theorem retI (X : Stand p l e R s m args below meth c T locs cells slots) (hx : p.tables.exec = Jvm.exec) {pc : Nat} {Ls : Array Slot} {z : Int32} {rest : List Value} (hret : meth.sig.returnType = some .int) (hd : decode c.code pc = .ok (.ireturn, 1)) {fs : List Frame}
    (hl : ∀ (f : JFrame) (acts : List Action), f.method = m → f.locked = none → f.entered = [] → (doReturn e (T.setTop f) acts (some (.int z))).1 = T.setFrames fs) : Steps p.tables e below (T.setTop (mkF m pc Ls (.int z :: rest))) (T.setFrames fs) :=
  retOut X hx hret rfl (Or.inl ⟨rfl, Or.inl rfl, z, rfl⟩) hd hl
end New
end Jvm.RoadKit
namespace Jvm.Pilot.@@N@@
open Jvm Jvm.ClassFile Sem Op Lib Jvm.Free Jvm.Stand Jvm.LawKit Jvm.RoadKit Bundle Jvm.Pilot.@@N@@.Jvm.D
theorem eq_ints_own {args : Array Value} {s : State} {a b : Term} {x y : Int32} (ha : a.eval args s none [] s = some (.int x)) (hb : b.eval args s none [] s = some (.int y)) : (Jvm.Cond.eq a b).value args s none s [] = some (decide (x = y)) := by simp [Cond.value, ha, hb]
theorem own_feq {args : Array Value} {s : State} {t : Term} {x : Addr} {C n d : String} {k : Int32} (ht : t.eval args s none [] s = some (.ref x)) (h : (Jvm.Cond.eq (.field t C n d) (.int k)).value args s none s [] = some true) : s.fieldOf? x C n d = some (.int k) := by
  obtain ⟨u, v, h1, h2, -, k2⟩ := cmp_v (Or.inl h)
  have e2 : v = .int k := Option.some.inj (h2.symm.trans (Term.int_eval k))
  subst e2
  obtain ⟨z, rfl⟩ := k2
  rw [fld_at ht] at h1
  rw [h1]
  have e := gotT (eq_ints_own (by rw [fld_at ht]; exact h1) (Term.int_eval k)) h
  rw [e]
def own_ref (a x y z : Addr) : Int32 := if a = x then 1 else if a = y then 1 else if a = z then 1 else 0
theorem d1_0 : decode prog_108_method_5_code 0 = .ok (.aload_n 0, 1) := by decide +kernel
theorem d1_1 : decode prog_108_method_5_code 1 = .ok (.getstatic 13, 3) := by decide +kernel
theorem d1_4 : decode prog_108_method_5_code 4 = .ok (.if_acmp .eq 17, 3) := by decide +kernel
theorem d1_7 : decode prog_108_method_5_code 7 = .ok (.aload_n 0, 1) := by decide +kernel
theorem d1_8 : decode prog_108_method_5_code 8 = .ok (.getstatic 16, 3) := by decide +kernel
theorem d1_11 : decode prog_108_method_5_code 11 = .ok (.if_acmp .eq 10, 3) := by decide +kernel
theorem d1_14 : decode prog_108_method_5_code 14 = .ok (.aload_n 0, 1) := by decide +kernel
theorem d1_15 : decode prog_108_method_5_code 15 = .ok (.getstatic 19, 3) := by decide +kernel
theorem d1_18 : decode prog_108_method_5_code 18 = .ok (.if_acmp .ne 7, 3) := by decide +kernel
theorem d1_21 : decode prog_108_method_5_code 21 = .ok (.iconst 1, 1) := by decide +kernel
theorem d1_22 : decode prog_108_method_5_code 22 = .ok (.goto 4, 3) := by decide +kernel
theorem d1_25 : decode prog_108_method_5_code 25 = .ok (.iconst 0, 1) := by decide +kernel
theorem d1_26 : decode prog_108_method_5_code 26 = .ok (.ireturn, 1) := by decide +kernel
theorem pn_0 : plainName "com/example/committed_quads/committedquads/QueryParser$Triples" = true := by first | (simp [plainName, overriddenIn]; done) | decide +kernel
theorem ef_1 (m : MethodId) (x0 : Addr) : entryFrame m #[(.ref x0)] 1 = mkF m 0 #[.val (.ref x0)] [] := by first | (simp [entryFrame, mkF, argsToLocals, Value.category]; done) | rfl
def Q1 (Z : State) (a : Addr) (aD : Addr) (aW : Addr) (aX : Addr) (h0 : Heap) (n0 : Nat) (v : Option Value) (h : Heap) (L : List Loc) : Prop := v = some (.int (own_ref a aD aW aX)) ∧ Fr n0 L ∧ h = h0
set_option maxRecDepth 65536 in
set_option maxHeartbeats 40000000 in
theorem rm1 (l : Launch) (Z : State) (a0 : Array Value) (hw : ∀ d ∈ tables_1, d.before a0 Z = true) (ws : List Jvm.Cond) (a : Addr) (aD : Addr) (aW : Addr) (aX : Addr) (h0 : Heap) (n0 : Nat) (Z0 : n0 ≤ h0.size) (S_aD : Sta Z h0 "com/example/committed_quads/committedquads/QueryParser$Triples" "DELETED" "Lcom/example/committed_quads/committedquads/QueryParser$Triples;" (.ref aD)) (S_aW : Sta Z h0 "com/example/committed_quads/committedquads/QueryParser$Triples" "DELETED_WHERE" "Lcom/example/committed_quads/committedquads/QueryParser$Triples;" (.ref aW)) (S_aX : Sta Z h0 "com/example/committed_quads/committedquads/QueryParser$Triples" "DELETED_DATA" "Lcom/example/committed_quads/committedquads/QueryParser$Triples;" (.ref aX)) :
    MetFree l (⟨"com/example/committed_quads/committedquads/QueryParser$Triples", "refusesBlankNodes", "()Z"⟩ : MethodName) (head1 (Jvm.Cond.code (⟨"com/example/committed_quads/committedquads/QueryParser$Triples", "refusesBlankNodes", "()Z"⟩ : MethodName) prog_108_method_5_code 1 (some .boolean) :: ws) ({ frames := 0, cells := 0, slots := 0, locals := 0 } : Room)) (fun aa U => aa = #[(.ref a)] ∧ Z.Warmed39 U.vm ∧ U.heap = h0) (fun _ _ _ _ _ => True) (fun _ U o U' => ∃ v L, o = .returned v ∧ Q1 Z a aD aW aX h0 n0 v U'.heap L ∧ FrameEnd U o U' L ({ frames := 0, cells := 0, slots := 0, locals := 0 } : Room).cells ({ frames := 0, cells := 0, slots := 0, locals := 0 } : Room).slots) := by
  refine MetFree.of_bodySF (plainFor_of_name pn_0) hisR ?_
  intro p e s m args below meth c s₁ Bd hml0 hP hK
  obtain ⟨rfl, hZ, hh⟩ := hP
  have hx := Bd.exec
  have hby := Bd.bytes
  have hml : c.maxLocals = 1 := hml0
  have hown : s.vm.findClass "com/example/committed_quads/committedquads/QueryParser$Triples" = some m.cls := findClass_of_methodNamed Bd.named
  have hnm := (name_of_methodNamed Bd.named Bd.method).1
  have X0 : Stand p l e ({ frames := 0, cells := 0, slots := 0, locals := 0 } : Room) s m #[(.ref a)] below meth c s₁ [] 0 0 := Stand.of_body Bd
  have e0 : s₁.heap = h0 := by rw [← hh, Bd.state]; rfl
  have N0 := Fr.nil n0
  have pre0 : ∀ t, Steps p.tables e below (s₁.setTop (mkF m 0 #[.val (.ref a)] [])) t → Steps p.tables e below (s₁.setTop (entryFrame m #[(.ref a)] 1)) t := fun t k => castTop (ef_1 m a) k
  have k1 : ∀ t, Steps p.tables e below (s₁.setTop (mkF m 1 #[.val (.ref a)] [(.ref a)])) t → Steps p.tables e below (s₁.setTop (entryFrame m #[(.ref a)] 1)) t := fun t k => pre0 t (by
    show Steps p.tables e below (s₁.setTop (mkF m 0 #[.val (.ref a)] [])) _
    refine XS.aloadN X0.here hx rfl (hb hby d1_0) rfl rfl ?_
    exact k)
  obtain ⟨T2, X2, e2, st2⟩ := getS (host := "") X0 hx hZ hown (hw _ (List.mem_of_getElem? (i := 9) rfl)) Via.refl e0 S_aD (g := (mkF m 1 #[.val (.ref a)] [(.ref a)])) rfl (hb hby d1_1)
  have k3 : ∀ t, Steps p.tables e below (T2.setTop (mkF m 4 #[.val (.ref a)] [(.ref aD), (.ref a)])) t → Steps p.tables e below (s₁.setTop (entryFrame m #[(.ref a)] 1)) t := fun t k => k1 t (st2 t k)
  by_cases hc4 : a = aD
  · have k5 : ∀ t, Steps p.tables e below (T2.setTop (mkF m 26 #[.val (.ref a)] [(.int (1 : Int32))])) t → Steps p.tables e below (s₁.setTop (entryFrame m #[(.ref a)] 1)) t := fun t k => k3 t (by
      show Steps p.tables e below (T2.setTop (mkF m 4 #[.val (.ref a)] [(.ref aD), (.ref a)])) _
      refine Jvm.RoadKit.acmp (g := (mkF m 4 #[.val (.ref a)] [(.ref aD), (.ref a)])) X2 hx rfl rfl rfl (pc0 := 4) (pc' := 21) (same := true) rfl (hb hby d1_4) rfl (decide_eq_true (congrArg Value.ref hc4)) (by decide) (by decide) ?_
      show Steps p.tables e below (T2.setTop (mkF m 21 #[.val (.ref a)] [])) _
      refine XS.iconst X2.here hx rfl (hb hby d1_21) ?_
      show Steps p.tables e below (T2.setTop (mkF m 22 #[.val (.ref a)] [(.int (1 : Int32))])) _
      refine XS.goto X2.here hx rfl (pc0 := 22) (pc' := 26) rfl (hb hby d1_22) (by decide) (by decide) ?_
      exact k)
    obtain ⟨fs, hr, hrun, hended, hW, hsame⟩ := X2.leave (v := some (.int (1 : Int32))) (fun h => by rw [Bd.returns] at h; cases h)
    refine ⟨_, _, k5 _ ?_, hrun, hended, _, _, rfl, ?_, ⟨_, rfl⟩, hW, hsame.mono (by decide) (by decide)⟩
    · show Steps p.tables e below (T2.setTop (mkF m 26 #[.val (.ref a)] [(.int (1 : Int32))])) _
      exact retN X2 hx (t := .boolean) Bd.returns (by simp) (hb hby d1_26) hr
    · show Q1 Z a aD aW aX h0 n0 _ T2.heap _
      rw [e2]
      exact ⟨congrArg (fun z => some (Value.int z)) (show ((1 : Int32) : Int32) = own_ref a aD aW aX by unfold own_ref; simp only [if_pos hc4]), N0, rfl⟩
  · have k7 : ∀ t, Steps p.tables e below (T2.setTop (mkF m 8 #[.val (.ref a)] [(.ref a)])) t → Steps p.tables e below (s₁.setTop (entryFrame m #[(.ref a)] 1)) t := fun t k => k3 t (by
      show Steps p.tables e below (T2.setTop (mkF m 4 #[.val (.ref a)] [(.ref aD), (.ref a)])) _
      refine Jvm.RoadKit.acmp (g := (mkF m 4 #[.val (.ref a)] [(.ref aD), (.ref a)])) X2 hx rfl rfl rfl (pc0 := 4) (pc' := 7) (same := false) rfl (hb hby d1_4) rfl (decide_eq_false fun q => hc4 (Value.ref.inj q)) (by decide) (by decide) ?_
      show Steps p.tables e below (T2.setTop (mkF m 7 #[.val (.ref a)] [])) _
      refine XS.aloadN X2.here hx rfl (hb hby d1_7) rfl rfl ?_
      exact k)
    obtain ⟨T8, X8, e8, st8⟩ := getS (host := "") X2 hx hZ hown (hw _ (List.mem_of_getElem? (i := 11) rfl)) Via.refl e2 S_aW (g := (mkF m 8 #[.val (.ref a)] [(.ref a)])) rfl (hb hby d1_8)
    have k9 : ∀ t, Steps p.tables e below (T8.setTop (mkF m 11 #[.val (.ref a)] [(.ref aW), (.ref a)])) t → Steps p.tables e below (s₁.setTop (entryFrame m #[(.ref a)] 1)) t := fun t k => k7 t (st8 t k)
    by_cases hc10 : a = aW
    · have k11 : ∀ t, Steps p.tables e below (T8.setTop (mkF m 26 #[.val (.ref a)] [(.int (1 : Int32))])) t → Steps p.tables e below (s₁.setTop (entryFrame m #[(.ref a)] 1)) t := fun t k => k9 t (by
        show Steps p.tables e below (T8.setTop (mkF m 11 #[.val (.ref a)] [(.ref aW), (.ref a)])) _
        refine Jvm.RoadKit.acmp (g := (mkF m 11 #[.val (.ref a)] [(.ref aW), (.ref a)])) X8 hx rfl rfl rfl (pc0 := 11) (pc' := 21) (same := true) rfl (hb hby d1_11) rfl (decide_eq_true (congrArg Value.ref hc10)) (by decide) (by decide) ?_
        show Steps p.tables e below (T8.setTop (mkF m 21 #[.val (.ref a)] [])) _
        refine XS.iconst X8.here hx rfl (hb hby d1_21) ?_
        show Steps p.tables e below (T8.setTop (mkF m 22 #[.val (.ref a)] [(.int (1 : Int32))])) _
        refine XS.goto X8.here hx rfl (pc0 := 22) (pc' := 26) rfl (hb hby d1_22) (by decide) (by decide) ?_
        exact k)
      obtain ⟨fs, hr, hrun, hended, hW, hsame⟩ := X8.leave (v := some (.int (1 : Int32))) (fun h => by rw [Bd.returns] at h; cases h)
      refine ⟨_, _, k11 _ ?_, hrun, hended, _, _, rfl, ?_, ⟨_, rfl⟩, hW, hsame.mono (by decide) (by decide)⟩
      · show Steps p.tables e below (T8.setTop (mkF m 26 #[.val (.ref a)] [(.int (1 : Int32))])) _
        exact retN X8 hx (t := .boolean) Bd.returns (by simp) (hb hby d1_26) hr
      · show Q1 Z a aD aW aX h0 n0 _ T8.heap _
        rw [e8]
        exact ⟨congrArg (fun z => some (Value.int z)) (show ((1 : Int32) : Int32) = own_ref a aD aW aX by unfold own_ref; simp only [if_neg hc4, if_pos hc10]), N0, rfl⟩
    · have k13 : ∀ t, Steps p.tables e below (T8.setTop (mkF m 15 #[.val (.ref a)] [(.ref a)])) t → Steps p.tables e below (s₁.setTop (entryFrame m #[(.ref a)] 1)) t := fun t k => k9 t (by
        show Steps p.tables e below (T8.setTop (mkF m 11 #[.val (.ref a)] [(.ref aW), (.ref a)])) _
        refine Jvm.RoadKit.acmp (g := (mkF m 11 #[.val (.ref a)] [(.ref aW), (.ref a)])) X8 hx rfl rfl rfl (pc0 := 11) (pc' := 14) (same := false) rfl (hb hby d1_11) rfl (decide_eq_false fun q => hc10 (Value.ref.inj q)) (by decide) (by decide) ?_
        show Steps p.tables e below (T8.setTop (mkF m 14 #[.val (.ref a)] [])) _
        refine XS.aloadN X8.here hx rfl (hb hby d1_14) rfl rfl ?_
        exact k)
      obtain ⟨T14, X14, e14, st14⟩ := getS (host := "") X8 hx hZ hown (hw _ (List.mem_of_getElem? (i := 13) rfl)) Via.refl e8 S_aX (g := (mkF m 15 #[.val (.ref a)] [(.ref a)])) rfl (hb hby d1_15)
      have k15 : ∀ t, Steps p.tables e below (T14.setTop (mkF m 18 #[.val (.ref a)] [(.ref aX), (.ref a)])) t → Steps p.tables e below (s₁.setTop (entryFrame m #[(.ref a)] 1)) t := fun t k => k13 t (st14 t k)
      by_cases hc16 : a = aX
      · have k17 : ∀ t, Steps p.tables e below (T14.setTop (mkF m 26 #[.val (.ref a)] [(.int (1 : Int32))])) t → Steps p.tables e below (s₁.setTop (entryFrame m #[(.ref a)] 1)) t := fun t k => k15 t (by
          show Steps p.tables e below (T14.setTop (mkF m 18 #[.val (.ref a)] [(.ref aX), (.ref a)])) _
          refine Jvm.RoadKit.acmp (g := (mkF m 18 #[.val (.ref a)] [(.ref aX), (.ref a)])) X14 hx rfl rfl rfl (pc0 := 18) (pc' := 21) (same := true) rfl (hb hby d1_18) rfl (decide_eq_true (congrArg Value.ref hc16)) (by decide) (by decide) ?_
          show Steps p.tables e below (T14.setTop (mkF m 21 #[.val (.ref a)] [])) _
          refine XS.iconst X14.here hx rfl (hb hby d1_21) ?_
          show Steps p.tables e below (T14.setTop (mkF m 22 #[.val (.ref a)] [(.int (1 : Int32))])) _
          refine XS.goto X14.here hx rfl (pc0 := 22) (pc' := 26) rfl (hb hby d1_22) (by decide) (by decide) ?_
          exact k)
        obtain ⟨fs, hr, hrun, hended, hW, hsame⟩ := X14.leave (v := some (.int (1 : Int32))) (fun h => by rw [Bd.returns] at h; cases h)
        refine ⟨_, _, k17 _ ?_, hrun, hended, _, _, rfl, ?_, ⟨_, rfl⟩, hW, hsame.mono (by decide) (by decide)⟩
        · show Steps p.tables e below (T14.setTop (mkF m 26 #[.val (.ref a)] [(.int (1 : Int32))])) _
          exact retN X14 hx (t := .boolean) Bd.returns (by simp) (hb hby d1_26) hr
        · show Q1 Z a aD aW aX h0 n0 _ T14.heap _
          rw [e14]
          exact ⟨congrArg (fun z => some (Value.int z)) (show ((1 : Int32) : Int32) = own_ref a aD aW aX by unfold own_ref; simp only [if_neg hc4, if_neg hc10, if_pos hc16]), N0, rfl⟩
      · have k19 : ∀ t, Steps p.tables e below (T14.setTop (mkF m 26 #[.val (.ref a)] [(.int (0 : Int32))])) t → Steps p.tables e below (s₁.setTop (entryFrame m #[(.ref a)] 1)) t := fun t k => k15 t (by
          show Steps p.tables e below (T14.setTop (mkF m 18 #[.val (.ref a)] [(.ref aX), (.ref a)])) _
          refine Jvm.RoadKit.acmp (g := (mkF m 18 #[.val (.ref a)] [(.ref aX), (.ref a)])) X14 hx rfl rfl rfl (pc0 := 18) (pc' := 25) (same := false) rfl (hb hby d1_18) rfl (decide_eq_false fun q => hc16 (Value.ref.inj q)) (by decide) (by decide) ?_
          show Steps p.tables e below (T14.setTop (mkF m 25 #[.val (.ref a)] [])) _
          refine XS.iconst X14.here hx rfl (hb hby d1_25) ?_
          exact k)
        obtain ⟨fs, hr, hrun, hended, hW, hsame⟩ := X14.leave (v := some (.int (0 : Int32))) (fun h => by rw [Bd.returns] at h; cases h)
        refine ⟨_, _, k19 _ ?_, hrun, hended, _, _, rfl, ?_, ⟨_, rfl⟩, hW, hsame.mono (by decide) (by decide)⟩
        · show Steps p.tables e below (T14.setTop (mkF m 26 #[.val (.ref a)] [(.int (0 : Int32))])) _
          exact retN X14 hx (t := .boolean) Bd.returns (by simp) (hb hby d1_26) hr
        · show Q1 Z a aD aW aX h0 n0 _ T14.heap _
          rw [e14]
          exact ⟨congrArg (fun z => some (Value.int z)) (show ((0 : Int32) : Int32) = own_ref a aD aW aX by unfold own_ref; simp only [if_neg hc4, if_neg hc10, if_neg hc16]), N0, rfl⟩
theorem pn_1 : plainName "com/example/committed_quads/committedquads/TriplesRefusesBlankNodesPinLaw" = true := by first | (simp [plainName, overriddenIn]; done) | decide +kernel
theorem pd_0 : parseMethodDescriptor "()Z" = some ⟨[], some .boolean⟩ := by decide +kernel
theorem ef_0 (m : MethodId) (x0 : Int32) : entryFrame m #[(.int x0)] maxLocals = mkF m 0 #[.val (.int x0), .unset, .unset, .unset] [] := by first | (simp [entryFrame, mkF, argsToLocals, Value.category, maxLocals]; done) | rfl
def Q0 (Z : State) (p0 : Int32) (aP : Addr) (aT : Addr) (aI : Addr) (aD : Addr) (aW : Addr) (aX : Addr) (h0 : Heap) (n0 : Nat) (v : Option Value) (h : Heap) (L : List Loc) : Prop := v = some (.int 1) ∧ Fr n0 L
set_option maxRecDepth 65536 in
set_option maxHeartbeats 40000000 in
theorem rm0 (l : Launch) (Z : State) (a0 : Array Value) (hw : ∀ d ∈ tables_1, d.before a0 Z = true) (ws : List Jvm.Cond) (p0 : Int32) (aP : Addr) (aT : Addr) (aI : Addr) (aD : Addr) (aW : Addr) (aX : Addr) (h0 : Heap) (n0 : Nat) (Z0 : n0 ≤ h0.size) (S_aP : Sta Z h0 "com/example/committed_quads/committedquads/QueryParser$Triples" "PATTERN" "Lcom/example/committed_quads/committedquads/QueryParser$Triples;" (.ref aP)) (S_aT : Sta Z h0 "com/example/committed_quads/committedquads/QueryParser$Triples" "TEMPLATE" "Lcom/example/committed_quads/committedquads/QueryParser$Triples;" (.ref aT)) (S_aI : Sta Z h0 "com/example/committed_quads/committedquads/QueryParser$Triples" "INSERTED_DATA" "Lcom/example/committed_quads/committedquads/QueryParser$Triples;" (.ref aI)) (S_aD : Sta Z h0 "com/example/committed_quads/committedquads/QueryParser$Triples" "DELETED" "Lcom/example/committed_quads/committedquads/QueryParser$Triples;" (.ref aD)) (S_aW : Sta Z h0 "com/example/committed_quads/committedquads/QueryParser$Triples" "DELETED_WHERE" "Lcom/example/committed_quads/committedquads/QueryParser$Triples;" (.ref aW)) (S_aX : Sta Z h0 "com/example/committed_quads/committedquads/QueryParser$Triples" "DELETED_DATA" "Lcom/example/committed_quads/committedquads/QueryParser$Triples;" (.ref aX)) (E_aP : Exa Z h0 aP "com/example/committed_quads/committedquads/QueryParser$Triples") (E_aT : Exa Z h0 aT "com/example/committed_quads/committedquads/QueryParser$Triples") (E_aI : Exa Z h0 aI "com/example/committed_quads/committedquads/QueryParser$Triples") (E_aD : Exa Z h0 aD "com/example/committed_quads/committedquads/QueryParser$Triples") (E_aW : Exa Z h0 aW "com/example/committed_quads/committedquads/QueryParser$Triples") (E_aX : Exa Z h0 aX "com/example/committed_quads/committedquads/QueryParser$Triples") (n_aP_aT : aP ≠ aT) (n_aP_aI : aP ≠ aI) (n_aP_aD : aP ≠ aD) (n_aP_aW : aP ≠ aW) (n_aP_aX : aP ≠ aX) (n_aT_aI : aT ≠ aI) (n_aT_aD : aT ≠ aD) (n_aT_aW : aT ≠ aW) (n_aT_aX : aT ≠ aX) (n_aI_aD : aI ≠ aD) (n_aI_aW : aI ≠ aW) (n_aI_aX : aI ≠ aX) (n_aD_aW : aD ≠ aW) (n_aD_aX : aD ≠ aX) (n_aW_aX : aW ≠ aX) :
    MetFree l x (head1 (Jvm.Cond.code x code maxLocals ret :: ws) room_1) (fun aa U => aa = #[(.int p0)] ∧ Z.Warmed39 U.vm ∧ U.heap = h0) (fun _ _ _ _ _ => True) (fun _ U o U' => ∃ v L, o = .returned v ∧ Q0 Z p0 aP aT aI aD aW aX h0 n0 v U'.heap L ∧ FrameEnd U o U' L room_1.cells room_1.slots) := by
  refine MetFree.of_bodySF (plainFor_of_name pn_1) hisR ?_
  intro p e s m args below meth c s₁ Bd hml0 hP hK
  obtain ⟨rfl, hZ, hh⟩ := hP
  have hx := Bd.exec
  have hby := Bd.bytes
  have hml : c.maxLocals = 4 := hml0
  have hown : s.vm.findClass "com/example/committed_quads/committedquads/TriplesRefusesBlankNodesPinLaw" = some m.cls := findClass_of_methodNamed Bd.named
  have hnm := (name_of_methodNamed Bd.named Bd.method).1
  have X0 : Stand p l e room_1 s m #[(.int p0)] below meth c s₁ [] 0 0 := Stand.of_body Bd
  have e0 : s₁.heap = h0 := by rw [← hh, Bd.state]; rfl
  have N0 := Fr.nil n0
  have pre0 : ∀ t, Steps p.tables e below (s₁.setTop (mkF m 0 #[.val (.int p0), .unset, .unset, .unset] [])) t → Steps p.tables e below (s₁.setTop (entryFrame m #[(.int p0)] maxLocals)) t := fun t k => castTop (ef_0 m p0) k
  have k21 : ∀ t, Steps p.tables e below (s₁.setTop (mkF m 9 #[.val (.int p0), .val (.int ((p0 &&& (2147483647 : Int32)) % (6 : Int32))), .unset, .unset] [(.int ((p0 &&& (2147483647 : Int32)) % (6 : Int32)))])) t → Steps p.tables e below (s₁.setTop (entryFrame m #[(.int p0)] maxLocals)) t := fun t k => pre0 t (by
    show Steps p.tables e below (s₁.setTop (mkF m 0 #[.val (.int p0), .unset, .unset, .unset] [])) _
    refine XS.iloadN X0.here hx rfl (hb hby at_0) rfl ?_
    show Steps p.tables e below (s₁.setTop (mkF m 1 #[.val (.int p0), .unset, .unset, .unset] [(.int p0)])) _
    refine X0.ldcInt hx hown (mvT hZ (hw _ (List.mem_of_getElem? (i := 0) rfl))) (g := (mkF m 1 #[.val (.int p0), .unset, .unset, .unset] [(.int p0)])) rfl (hb hby at_1) _ ?_
    show Steps p.tables e below (s₁.setTop (mkF m 3 #[.val (.int p0), .unset, .unset, .unset] [(.int (2147483647 : Int32)), (.int p0)])) _
    refine XS.iand X0.here hx rfl (hb hby at_3) rfl ?_
    show Steps p.tables e below (s₁.setTop (mkF m 4 #[.val (.int p0), .unset, .unset, .unset] [(.int (p0 &&& (2147483647 : Int32)))])) _
    refine XS.bipush X0.here hx rfl (hb hby at_4) ?_
    show Steps p.tables e below (s₁.setTop (mkF m 6 #[.val (.int p0), .unset, .unset, .unset] [(.int (6 : Int32)), (.int (p0 &&& (2147483647 : Int32)))])) _
    refine iremM (g := (mkF m 6 #[.val (.int p0), .unset, .unset, .unset] [(.int (6 : Int32)), (.int (p0 &&& (2147483647 : Int32)))])) X0 hx rfl (hb hby at_6) rfl (by decide) ?_
    show Steps p.tables e below (s₁.setTop (mkF m 7 #[.val (.int p0), .unset, .unset, .unset] [(.int ((p0 &&& (2147483647 : Int32)) % (6 : Int32)))])) _
    refine XS.istoreN X0.here hx rfl (hb hby at_7) rfl (l' := #[.val (.int p0), .val (.int ((p0 &&& (2147483647 : Int32)) % (6 : Int32))), .unset, .unset]) rfl ?_
    show Steps p.tables e below (s₁.setTop (mkF m 8 #[.val (.int p0), .val (.int ((p0 &&& (2147483647 : Int32)) % (6 : Int32))), .unset, .unset] [])) _
    refine XS.iloadN X0.here hx rfl (hb hby at_8) rfl ?_
    exact k)
  by_cases hc22 : ((p0 &&& (2147483647 : Int32)) % (6 : Int32)) = (0 : Int32)
  · have k23 : ∀ t, Steps p.tables e below (s₁.setTop (mkF m 12 #[.val (.int p0), .val (.int ((p0 &&& (2147483647 : Int32)) % (6 : Int32))), .unset, .unset] [])) t → Steps p.tables e below (s₁.setTop (entryFrame m #[(.int p0)] maxLocals)) t := fun t k => k21 t (by
      show Steps p.tables e below (s₁.setTop (mkF m 9 #[.val (.int p0), .val (.int ((p0 &&& (2147483647 : Int32)) % (6 : Int32))), .unset, .unset] [(.int ((p0 &&& (2147483647 : Int32)) % (6 : Int32)))])) _
      refine XS.ifNo X0.here hx rfl (hb hby at_9) rfl ((if0 _ _).trans (teq hc22).2) ?_
      exact k)
    obtain ⟨T24, X24, e24, st24⟩ := getS (host := "") X0 hx hZ hown (hw _ (List.mem_of_getElem? (i := 1) rfl)) Via.refl e0 S_aP (g := (mkF m 12 #[.val (.int p0), .val (.int ((p0 &&& (2147483647 : Int32)) % (6 : Int32))), .unset, .unset] [])) rfl (hb hby at_12)
    have k25 : ∀ t, Steps p.tables e below (T24.setTop (mkF m 15 #[.val (.int p0), .val (.int ((p0 &&& (2147483647 : Int32)) % (6 : Int32))), .unset, .unset] [(.ref aP)])) t → Steps p.tables e below (s₁.setTop (entryFrame m #[(.int p0)] maxLocals)) t := fun t k => k23 t (st24 t k)
    have k26 : ∀ t, Steps p.tables e below (T24.setTop (mkF m 84 #[.val (.int p0), .val (.int ((p0 &&& (2147483647 : Int32)) % (6 : Int32))), .val (.ref aP), .val (.int (0 : Int32))] [(.ref aP)])) t → Steps p.tables e below (s₁.setTop (entryFrame m #[(.int p0)] maxLocals)) t := fun t k => k25 t (by
      show Steps p.tables e below (T24.setTop (mkF m 15 #[.val (.int p0), .val (.int ((p0 &&& (2147483647 : Int32)) % (6 : Int32))), .unset, .unset] [(.ref aP)])) _
      refine XS.astoreN X24.here hx rfl (hb hby at_15) rfl rfl (l' := #[.val (.int p0), .val (.int ((p0 &&& (2147483647 : Int32)) % (6 : Int32))), .val (.ref aP), .unset]) rfl ?_
      show Steps p.tables e below (T24.setTop (mkF m 16 #[.val (.int p0), .val (.int ((p0 &&& (2147483647 : Int32)) % (6 : Int32))), .val (.ref aP), .unset] [])) _
      refine XS.iconst X24.here hx rfl (hb hby at_16) ?_
      show Steps p.tables e below (T24.setTop (mkF m 17 #[.val (.int p0), .val (.int ((p0 &&& (2147483647 : Int32)) % (6 : Int32))), .val (.ref aP), .unset] [(.int (0 : Int32))])) _
      refine XS.istoreN X24.here hx rfl (hb hby at_17) rfl (l' := #[.val (.int p0), .val (.int ((p0 &&& (2147483647 : Int32)) % (6 : Int32))), .val (.ref aP), .val (.int (0 : Int32))]) rfl ?_
      show Steps p.tables e below (T24.setTop (mkF m 18 #[.val (.int p0), .val (.int ((p0 &&& (2147483647 : Int32)) % (6 : Int32))), .val (.ref aP), .val (.int (0 : Int32))] [])) _
      refine XS.goto X24.here hx rfl (pc0 := 18) (pc' := 83) rfl (hb hby at_18) (by decide) (by decide) ?_
      show Steps p.tables e below (T24.setTop (mkF m 83 #[.val (.int p0), .val (.int ((p0 &&& (2147483647 : Int32)) % (6 : Int32))), .val (.ref aP), .val (.int (0 : Int32))] [])) _
      refine XS.aloadN X24.here hx rfl (hb hby at_83) rfl rfl ?_
      exact k)
    obtain ⟨cq27, kq27, q27a, q27b, q27c⟩ := isOf hZ e24 E_aP
    obtain ⟨_, _, ⟨T27, L27, kc27, ks27⟩, -, X27, ⟨Lc27, hQ27, l27, y27, z27⟩, st27⟩ := X24.virtualBack hx (y := (⟨"com/example/committed_quads/committedquads/QueryParser$Triples", "refusesBlankNodes", "()Z"⟩ : MethodName)) (z := (⟨"com/example/committed_quads/committedquads/QueryParser$Triples", "refusesBlankNodes", "()Z"⟩ : MethodName)) hown (mvT hZ (hw _ (List.mem_of_getElem? (i := 4) rfl))) (mvT hZ (hw _ (List.mem_of_getElem? (i := 5) rfl))) (notFace_of_selects (args := #[]) (mvT hZ (hw _ (List.mem_of_getElem? (i := 7) rfl)))) (mvT hZ (hw _ (List.mem_of_getElem? (i := 7) rfl))) (mvT hZ (hw _ (List.mem_of_getElem? (i := 6) rfl))) (by decide) (backOf (W := 0) (rm1 l Z a0 hw [] aP aD aW aX h0 n0 Z0 S_aD S_aW S_aX) hZ (hw _ (List.mem_of_getElem? (i := 8) rfl)) (hw _ (List.mem_of_getElem? (i := 2) rfl)) (by decide) (by decide)) q27a q27c (g := (mkF m 84 #[.val (.int p0), .val (.int ((p0 &&& (2147483647 : Int32)) % (6 : Int32))), .val (.ref aP), .val (.int (0 : Int32))] [(.ref aP)])) rfl (by rw [hml]; rfl) (Steps.refl _) (argsL := []) (rest := []) (lenOf pd_0 rfl) rfl (by show 2 * 0 + _ ≤ _; exact Nat.le_of_eq rfl) (hb hby at_84) (fun _ _ => ⟨rfl, e24, (by decide : 0 + 0 ≤ _), (by decide : 0 + 0 ≤ _)⟩)
    dsimp only [Pt.U, Pt.locs, Pt.cells, Pt.slots] at X27 l27 y27 z27 st27 hQ27
    subst l27 y27 z27
    obtain ⟨rfl, Nq27, eq27⟩ := hQ27
    have N27 := Fr.app N0 Nq27
    have k28 : ∀ t, Steps p.tables e below (T27.setTop (mkF m 87 #[.val (.int p0), .val (.int ((p0 &&& (2147483647 : Int32)) % (6 : Int32))), .val (.ref aP), .val (.int (0 : Int32))] [(.int (own_ref aP aD aW aX))])) t → Steps p.tables e below (s₁.setTop (entryFrame m #[(.int p0)] maxLocals)) t := fun t k => k26 t (st27.trans k)
    have k29 : ∀ t, Steps p.tables e below (T27.setTop (mkF m 96 #[.val (.int p0), .val (.int ((p0 &&& (2147483647 : Int32)) % (6 : Int32))), .val (.ref aP), .val (.int (0 : Int32))] [(.int (1 : Int32))])) t → Steps p.tables e below (s₁.setTop (entryFrame m #[(.int p0)] maxLocals)) t := fun t k => k28 t (by
      show Steps p.tables e below (T27.setTop (mkF m 87 #[.val (.int p0), .val (.int ((p0 &&& (2147483647 : Int32)) % (6 : Int32))), .val (.ref aP), .val (.int (0 : Int32))] [(.int (own_ref aP aD aW aX))])) _
      refine XS.iloadN X27.here hx rfl (hb hby at_87) rfl ?_
      show Steps p.tables e below (T27.setTop (mkF m 88 #[.val (.int p0), .val (.int ((p0 &&& (2147483647 : Int32)) % (6 : Int32))), .val (.ref aP), .val (.int (0 : Int32))] [(.int (0 : Int32)), (.int (own_ref aP aD aW aX))])) _
      refine XS.icmpNo X27.here hx rfl (hb hby at_88) rfl (teq (show (own_ref aP aD aW aX) = (0 : Int32) by simp [own_ref, n_aP_aT, n_aP_aI, n_aP_aD, n_aP_aW, n_aP_aX, n_aT_aI, n_aT_aD, n_aT_aW, n_aT_aX, n_aI_aD, n_aI_aW, n_aI_aX, n_aD_aW, n_aD_aX, n_aW_aX, Ne.symm n_aP_aT, Ne.symm n_aP_aI, Ne.symm n_aP_aD, Ne.symm n_aP_aW, Ne.symm n_aP_aX, Ne.symm n_aT_aI, Ne.symm n_aT_aD, Ne.symm n_aT_aW, Ne.symm n_aT_aX, Ne.symm n_aI_aD, Ne.symm n_aI_aW, Ne.symm n_aI_aX, Ne.symm n_aD_aW, Ne.symm n_aD_aX, Ne.symm n_aW_aX])).2 ?_
      show Steps p.tables e below (T27.setTop (mkF m 91 #[.val (.int p0), .val (.int ((p0 &&& (2147483647 : Int32)) % (6 : Int32))), .val (.ref aP), .val (.int (0 : Int32))] [])) _
      refine XS.iconst X27.here hx rfl (hb hby at_91) ?_
      show Steps p.tables e below (T27.setTop (mkF m 92 #[.val (.int p0), .val (.int ((p0 &&& (2147483647 : Int32)) % (6 : Int32))), .val (.ref aP), .val (.int (0 : Int32))] [(.int (1 : Int32))])) _
      refine XS.goto X27.here hx rfl (pc0 := 92) (pc' := 96) rfl (hb hby at_92) (by decide) (by decide) ?_
      exact k)
    obtain ⟨fs, hr, hrun, hended, hW, hsame⟩ := X27.leave (v := some (.int (1 : Int32))) (fun h => by rw [Bd.returns] at h; cases h)
    refine ⟨_, _, k29 _ ?_, hrun, hended, _, _, rfl, ?_, ⟨_, rfl⟩, hW, hsame.mono (by decide) (by decide)⟩
    · show Steps p.tables e below (T27.setTop (mkF m 96 #[.val (.int p0), .val (.int ((p0 &&& (2147483647 : Int32)) % (6 : Int32))), .val (.ref aP), .val (.int (0 : Int32))] [(.int (1 : Int32))])) _
      exact retN X27 hx (t := .boolean) Bd.returns (by simp) (hb hby at_96) hr
    · show Q0 Z p0 aP aT aI aD aW aX h0 n0 _ T27.heap _
      rw [eq27]
      exact ⟨rfl, N27⟩
  · have k31 : ∀ t, Steps p.tables e below (s₁.setTop (mkF m 23 #[.val (.int p0), .val (.int ((p0 &&& (2147483647 : Int32)) % (6 : Int32))), .unset, .unset] [(.int (1 : Int32)), (.int ((p0 &&& (2147483647 : Int32)) % (6 : Int32)))])) t → Steps p.tables e below (s₁.setTop (entryFrame m #[(.int p0)] maxLocals)) t := fun t k => k21 t (by
      show Steps p.tables e below (s₁.setTop (mkF m 9 #[.val (.int p0), .val (.int ((p0 &&& (2147483647 : Int32)) % (6 : Int32))), .unset, .unset] [(.int ((p0 &&& (2147483647 : Int32)) % (6 : Int32)))])) _
      refine XS.ifYes X0.here hx rfl (pc0 := 9) (pc' := 21) rfl (hb hby at_9) rfl ((if0 _ _).trans (feq hc22).2) (by decide) (by decide) ?_
      show Steps p.tables e below (s₁.setTop (mkF m 21 #[.val (.int p0), .val (.int ((p0 &&& (2147483647 : Int32)) % (6 : Int32))), .unset, .unset] [])) _
      refine XS.iloadN X0.here hx rfl (hb hby at_21) rfl ?_
      show Steps p.tables e below (s₁.setTop (mkF m 22 #[.val (.int p0), .val (.int ((p0 &&& (2147483647 : Int32)) % (6 : Int32))), .unset, .unset] [(.int ((p0 &&& (2147483647 : Int32)) % (6 : Int32)))])) _
      refine XS.iconst X0.here hx rfl (hb hby at_22) ?_
      exact k)
    by_cases hc32 : ((p0 &&& (2147483647 : Int32)) % (6 : Int32)) = (1 : Int32)
    · have k33 : ∀ t, Steps p.tables e below (s₁.setTop (mkF m 26 #[.val (.int p0), .val (.int ((p0 &&& (2147483647 : Int32)) % (6 : Int32))), .unset, .unset] [])) t → Steps p.tables e below (s₁.setTop (entryFrame m #[(.int p0)] maxLocals)) t := fun t k => k31 t (by
        show Steps p.tables e below (s₁.setTop (mkF m 23 #[.val (.int p0), .val (.int ((p0 &&& (2147483647 : Int32)) % (6 : Int32))), .unset, .unset] [(.int (1 : Int32)), (.int ((p0 &&& (2147483647 : Int32)) % (6 : Int32)))])) _
        refine XS.icmpNo X0.here hx rfl (hb hby at_23) rfl (teq hc32).2 ?_
        exact k)
      obtain ⟨T34, X34, e34, st34⟩ := getS (host := "") X0 hx hZ hown (hw _ (List.mem_of_getElem? (i := 18) rfl)) Via.refl e0 S_aT (g := (mkF m 26 #[.val (.int p0), .val (.int ((p0 &&& (2147483647 : Int32)) % (6 : Int32))), .unset, .unset] [])) rfl (hb hby at_26)
      have k35 : ∀ t, Steps p.tables e below (T34.setTop (mkF m 29 #[.val (.int p0), .val (.int ((p0 &&& (2147483647 : Int32)) % (6 : Int32))), .unset, .unset] [(.ref aT)])) t → Steps p.tables e below (s₁.setTop (entryFrame m #[(.int p0)] maxLocals)) t := fun t k => k33 t (st34 t k)
      have k36 : ∀ t, Steps p.tables e below (T34.setTop (mkF m 84 #[.val (.int p0), .val (.int ((p0 &&& (2147483647 : Int32)) % (6 : Int32))), .val (.ref aT), .val (.int (0 : Int32))] [(.ref aT)])) t → Steps p.tables e below (s₁.setTop (entryFrame m #[(.int p0)] maxLocals)) t := fun t k => k35 t (by
        show Steps p.tables e below (T34.setTop (mkF m 29 #[.val (.int p0), .val (.int ((p0 &&& (2147483647 : Int32)) % (6 : Int32))), .unset, .unset] [(.ref aT)])) _
        refine XS.astoreN X34.here hx rfl (hb hby at_29) rfl rfl (l' := #[.val (.int p0), .val (.int ((p0 &&& (2147483647 : Int32)) % (6 : Int32))), .val (.ref aT), .unset]) rfl ?_
        show Steps p.tables e below (T34.setTop (mkF m 30 #[.val (.int p0), .val (.int ((p0 &&& (2147483647 : Int32)) % (6 : Int32))), .val (.ref aT), .unset] [])) _
        refine XS.iconst X34.here hx rfl (hb hby at_30) ?_
        show Steps p.tables e below (T34.setTop (mkF m 31 #[.val (.int p0), .val (.int ((p0 &&& (2147483647 : Int32)) % (6 : Int32))), .val (.ref aT), .unset] [(.int (0 : Int32))])) _
        refine XS.istoreN X34.here hx rfl (hb hby at_31) rfl (l' := #[.val (.int p0), .val (.int ((p0 &&& (2147483647 : Int32)) % (6 : Int32))), .val (.ref aT), .val (.int (0 : Int32))]) rfl ?_
        show Steps p.tables e below (T34.setTop (mkF m 32 #[.val (.int p0), .val (.int ((p0 &&& (2147483647 : Int32)) % (6 : Int32))), .val (.ref aT), .val (.int (0 : Int32))] [])) _
        refine XS.goto X34.here hx rfl (pc0 := 32) (pc' := 83) rfl (hb hby at_32) (by decide) (by decide) ?_
        show Steps p.tables e below (T34.setTop (mkF m 83 #[.val (.int p0), .val (.int ((p0 &&& (2147483647 : Int32)) % (6 : Int32))), .val (.ref aT), .val (.int (0 : Int32))] [])) _
        refine XS.aloadN X34.here hx rfl (hb hby at_83) rfl rfl ?_
        exact k)
      obtain ⟨cq37, kq37, q37a, q37b, q37c⟩ := isOf hZ e34 E_aT
      obtain ⟨_, _, ⟨T37, L37, kc37, ks37⟩, -, X37, ⟨Lc37, hQ37, l37, y37, z37⟩, st37⟩ := X34.virtualBack hx (y := (⟨"com/example/committed_quads/committedquads/QueryParser$Triples", "refusesBlankNodes", "()Z"⟩ : MethodName)) (z := (⟨"com/example/committed_quads/committedquads/QueryParser$Triples", "refusesBlankNodes", "()Z"⟩ : MethodName)) hown (mvT hZ (hw _ (List.mem_of_getElem? (i := 4) rfl))) (mvT hZ (hw _ (List.mem_of_getElem? (i := 5) rfl))) (notFace_of_selects (args := #[]) (mvT hZ (hw _ (List.mem_of_getElem? (i := 7) rfl)))) (mvT hZ (hw _ (List.mem_of_getElem? (i := 7) rfl))) (mvT hZ (hw _ (List.mem_of_getElem? (i := 6) rfl))) (by decide) (backOf (W := 0) (rm1 l Z a0 hw [] aT aD aW aX h0 n0 Z0 S_aD S_aW S_aX) hZ (hw _ (List.mem_of_getElem? (i := 8) rfl)) (hw _ (List.mem_of_getElem? (i := 2) rfl)) (by decide) (by decide)) q37a q37c (g := (mkF m 84 #[.val (.int p0), .val (.int ((p0 &&& (2147483647 : Int32)) % (6 : Int32))), .val (.ref aT), .val (.int (0 : Int32))] [(.ref aT)])) rfl (by rw [hml]; rfl) (Steps.refl _) (argsL := []) (rest := []) (lenOf pd_0 rfl) rfl (by show 2 * 0 + _ ≤ _; exact Nat.le_of_eq rfl) (hb hby at_84) (fun _ _ => ⟨rfl, e34, (by decide : 0 + 0 ≤ _), (by decide : 0 + 0 ≤ _)⟩)
      dsimp only [Pt.U, Pt.locs, Pt.cells, Pt.slots] at X37 l37 y37 z37 st37 hQ37
      subst l37 y37 z37
      obtain ⟨rfl, Nq37, eq37⟩ := hQ37
      have N37 := Fr.app N0 Nq37
      have k38 : ∀ t, Steps p.tables e below (T37.setTop (mkF m 87 #[.val (.int p0), .val (.int ((p0 &&& (2147483647 : Int32)) % (6 : Int32))), .val (.ref aT), .val (.int (0 : Int32))] [(.int (own_ref aT aD aW aX))])) t → Steps p.tables e below (s₁.setTop (entryFrame m #[(.int p0)] maxLocals)) t := fun t k => k36 t (st37.trans k)
      have k39 : ∀ t, Steps p.tables e below (T37.setTop (mkF m 96 #[.val (.int p0), .val (.int ((p0 &&& (2147483647 : Int32)) % (6 : Int32))), .val (.ref aT), .val (.int (0 : Int32))] [(.int (1 : Int32))])) t → Steps p.tables e below (s₁.setTop (entryFrame m #[(.int p0)] maxLocals)) t := fun t k => k38 t (by
        show Steps p.tables e below (T37.setTop (mkF m 87 #[.val (.int p0), .val (.int ((p0 &&& (2147483647 : Int32)) % (6 : Int32))), .val (.ref aT), .val (.int (0 : Int32))] [(.int (own_ref aT aD aW aX))])) _
        refine XS.iloadN X37.here hx rfl (hb hby at_87) rfl ?_
        show Steps p.tables e below (T37.setTop (mkF m 88 #[.val (.int p0), .val (.int ((p0 &&& (2147483647 : Int32)) % (6 : Int32))), .val (.ref aT), .val (.int (0 : Int32))] [(.int (0 : Int32)), (.int (own_ref aT aD aW aX))])) _
        refine XS.icmpNo X37.here hx rfl (hb hby at_88) rfl (teq (show (own_ref aT aD aW aX) = (0 : Int32) by simp [own_ref, n_aP_aT, n_aP_aI, n_aP_aD, n_aP_aW, n_aP_aX, n_aT_aI, n_aT_aD, n_aT_aW, n_aT_aX, n_aI_aD, n_aI_aW, n_aI_aX, n_aD_aW, n_aD_aX, n_aW_aX, Ne.symm n_aP_aT, Ne.symm n_aP_aI, Ne.symm n_aP_aD, Ne.symm n_aP_aW, Ne.symm n_aP_aX, Ne.symm n_aT_aI, Ne.symm n_aT_aD, Ne.symm n_aT_aW, Ne.symm n_aT_aX, Ne.symm n_aI_aD, Ne.symm n_aI_aW, Ne.symm n_aI_aX, Ne.symm n_aD_aW, Ne.symm n_aD_aX, Ne.symm n_aW_aX])).2 ?_
        show Steps p.tables e below (T37.setTop (mkF m 91 #[.val (.int p0), .val (.int ((p0 &&& (2147483647 : Int32)) % (6 : Int32))), .val (.ref aT), .val (.int (0 : Int32))] [])) _
        refine XS.iconst X37.here hx rfl (hb hby at_91) ?_
        show Steps p.tables e below (T37.setTop (mkF m 92 #[.val (.int p0), .val (.int ((p0 &&& (2147483647 : Int32)) % (6 : Int32))), .val (.ref aT), .val (.int (0 : Int32))] [(.int (1 : Int32))])) _
        refine XS.goto X37.here hx rfl (pc0 := 92) (pc' := 96) rfl (hb hby at_92) (by decide) (by decide) ?_
        exact k)
      obtain ⟨fs, hr, hrun, hended, hW, hsame⟩ := X37.leave (v := some (.int (1 : Int32))) (fun h => by rw [Bd.returns] at h; cases h)
      refine ⟨_, _, k39 _ ?_, hrun, hended, _, _, rfl, ?_, ⟨_, rfl⟩, hW, hsame.mono (by decide) (by decide)⟩
      · show Steps p.tables e below (T37.setTop (mkF m 96 #[.val (.int p0), .val (.int ((p0 &&& (2147483647 : Int32)) % (6 : Int32))), .val (.ref aT), .val (.int (0 : Int32))] [(.int (1 : Int32))])) _
        exact retN X37 hx (t := .boolean) Bd.returns (by simp) (hb hby at_96) hr
      · show Q0 Z p0 aP aT aI aD aW aX h0 n0 _ T37.heap _
        rw [eq37]
        exact ⟨rfl, N37⟩
    · have k41 : ∀ t, Steps p.tables e below (s₁.setTop (mkF m 37 #[.val (.int p0), .val (.int ((p0 &&& (2147483647 : Int32)) % (6 : Int32))), .unset, .unset] [(.int (2 : Int32)), (.int ((p0 &&& (2147483647 : Int32)) % (6 : Int32)))])) t → Steps p.tables e below (s₁.setTop (entryFrame m #[(.int p0)] maxLocals)) t := fun t k => k31 t (by
        show Steps p.tables e below (s₁.setTop (mkF m 23 #[.val (.int p0), .val (.int ((p0 &&& (2147483647 : Int32)) % (6 : Int32))), .unset, .unset] [(.int (1 : Int32)), (.int ((p0 &&& (2147483647 : Int32)) % (6 : Int32)))])) _
        refine XS.icmpYes X0.here hx rfl (pc0 := 23) (pc' := 35) rfl (hb hby at_23) rfl (feq hc32).2 (by decide) (by decide) ?_
        show Steps p.tables e below (s₁.setTop (mkF m 35 #[.val (.int p0), .val (.int ((p0 &&& (2147483647 : Int32)) % (6 : Int32))), .unset, .unset] [])) _
        refine XS.iloadN X0.here hx rfl (hb hby at_35) rfl ?_
        show Steps p.tables e below (s₁.setTop (mkF m 36 #[.val (.int p0), .val (.int ((p0 &&& (2147483647 : Int32)) % (6 : Int32))), .unset, .unset] [(.int ((p0 &&& (2147483647 : Int32)) % (6 : Int32)))])) _
        refine XS.iconst X0.here hx rfl (hb hby at_36) ?_
        exact k)
      by_cases hc42 : ((p0 &&& (2147483647 : Int32)) % (6 : Int32)) = (2 : Int32)
      · have k43 : ∀ t, Steps p.tables e below (s₁.setTop (mkF m 40 #[.val (.int p0), .val (.int ((p0 &&& (2147483647 : Int32)) % (6 : Int32))), .unset, .unset] [])) t → Steps p.tables e below (s₁.setTop (entryFrame m #[(.int p0)] maxLocals)) t := fun t k => k41 t (by
          show Steps p.tables e below (s₁.setTop (mkF m 37 #[.val (.int p0), .val (.int ((p0 &&& (2147483647 : Int32)) % (6 : Int32))), .unset, .unset] [(.int (2 : Int32)), (.int ((p0 &&& (2147483647 : Int32)) % (6 : Int32)))])) _
          refine XS.icmpNo X0.here hx rfl (hb hby at_37) rfl (teq hc42).2 ?_
          exact k)
        obtain ⟨T44, X44, e44, st44⟩ := getS (host := "") X0 hx hZ hown (hw _ (List.mem_of_getElem? (i := 16) rfl)) Via.refl e0 S_aI (g := (mkF m 40 #[.val (.int p0), .val (.int ((p0 &&& (2147483647 : Int32)) % (6 : Int32))), .unset, .unset] [])) rfl (hb hby at_40)
        have k45 : ∀ t, Steps p.tables e below (T44.setTop (mkF m 43 #[.val (.int p0), .val (.int ((p0 &&& (2147483647 : Int32)) % (6 : Int32))), .unset, .unset] [(.ref aI)])) t → Steps p.tables e below (s₁.setTop (entryFrame m #[(.int p0)] maxLocals)) t := fun t k => k43 t (st44 t k)
        have k46 : ∀ t, Steps p.tables e below (T44.setTop (mkF m 84 #[.val (.int p0), .val (.int ((p0 &&& (2147483647 : Int32)) % (6 : Int32))), .val (.ref aI), .val (.int (0 : Int32))] [(.ref aI)])) t → Steps p.tables e below (s₁.setTop (entryFrame m #[(.int p0)] maxLocals)) t := fun t k => k45 t (by
          show Steps p.tables e below (T44.setTop (mkF m 43 #[.val (.int p0), .val (.int ((p0 &&& (2147483647 : Int32)) % (6 : Int32))), .unset, .unset] [(.ref aI)])) _
          refine XS.astoreN X44.here hx rfl (hb hby at_43) rfl rfl (l' := #[.val (.int p0), .val (.int ((p0 &&& (2147483647 : Int32)) % (6 : Int32))), .val (.ref aI), .unset]) rfl ?_
          show Steps p.tables e below (T44.setTop (mkF m 44 #[.val (.int p0), .val (.int ((p0 &&& (2147483647 : Int32)) % (6 : Int32))), .val (.ref aI), .unset] [])) _
          refine XS.iconst X44.here hx rfl (hb hby at_44) ?_
          show Steps p.tables e below (T44.setTop (mkF m 45 #[.val (.int p0), .val (.int ((p0 &&& (2147483647 : Int32)) % (6 : Int32))), .val (.ref aI), .unset] [(.int (0 : Int32))])) _
          refine XS.istoreN X44.here hx rfl (hb hby at_45) rfl (l' := #[.val (.int p0), .val (.int ((p0 &&& (2147483647 : Int32)) % (6 : Int32))), .val (.ref aI), .val (.int (0 : Int32))]) rfl ?_
          show Steps p.tables e below (T44.setTop (mkF m 46 #[.val (.int p0), .val (.int ((p0 &&& (2147483647 : Int32)) % (6 : Int32))), .val (.ref aI), .val (.int (0 : Int32))] [])) _
          refine XS.goto X44.here hx rfl (pc0 := 46) (pc' := 83) rfl (hb hby at_46) (by decide) (by decide) ?_
          show Steps p.tables e below (T44.setTop (mkF m 83 #[.val (.int p0), .val (.int ((p0 &&& (2147483647 : Int32)) % (6 : Int32))), .val (.ref aI), .val (.int (0 : Int32))] [])) _
          refine XS.aloadN X44.here hx rfl (hb hby at_83) rfl rfl ?_
          exact k)
        obtain ⟨cq47, kq47, q47a, q47b, q47c⟩ := isOf hZ e44 E_aI
        obtain ⟨_, _, ⟨T47, L47, kc47, ks47⟩, -, X47, ⟨Lc47, hQ47, l47, y47, z47⟩, st47⟩ := X44.virtualBack hx (y := (⟨"com/example/committed_quads/committedquads/QueryParser$Triples", "refusesBlankNodes", "()Z"⟩ : MethodName)) (z := (⟨"com/example/committed_quads/committedquads/QueryParser$Triples", "refusesBlankNodes", "()Z"⟩ : MethodName)) hown (mvT hZ (hw _ (List.mem_of_getElem? (i := 4) rfl))) (mvT hZ (hw _ (List.mem_of_getElem? (i := 5) rfl))) (notFace_of_selects (args := #[]) (mvT hZ (hw _ (List.mem_of_getElem? (i := 7) rfl)))) (mvT hZ (hw _ (List.mem_of_getElem? (i := 7) rfl))) (mvT hZ (hw _ (List.mem_of_getElem? (i := 6) rfl))) (by decide) (backOf (W := 0) (rm1 l Z a0 hw [] aI aD aW aX h0 n0 Z0 S_aD S_aW S_aX) hZ (hw _ (List.mem_of_getElem? (i := 8) rfl)) (hw _ (List.mem_of_getElem? (i := 2) rfl)) (by decide) (by decide)) q47a q47c (g := (mkF m 84 #[.val (.int p0), .val (.int ((p0 &&& (2147483647 : Int32)) % (6 : Int32))), .val (.ref aI), .val (.int (0 : Int32))] [(.ref aI)])) rfl (by rw [hml]; rfl) (Steps.refl _) (argsL := []) (rest := []) (lenOf pd_0 rfl) rfl (by show 2 * 0 + _ ≤ _; exact Nat.le_of_eq rfl) (hb hby at_84) (fun _ _ => ⟨rfl, e44, (by decide : 0 + 0 ≤ _), (by decide : 0 + 0 ≤ _)⟩)
        dsimp only [Pt.U, Pt.locs, Pt.cells, Pt.slots] at X47 l47 y47 z47 st47 hQ47
        subst l47 y47 z47
        obtain ⟨rfl, Nq47, eq47⟩ := hQ47
        have N47 := Fr.app N0 Nq47
        have k48 : ∀ t, Steps p.tables e below (T47.setTop (mkF m 87 #[.val (.int p0), .val (.int ((p0 &&& (2147483647 : Int32)) % (6 : Int32))), .val (.ref aI), .val (.int (0 : Int32))] [(.int (own_ref aI aD aW aX))])) t → Steps p.tables e below (s₁.setTop (entryFrame m #[(.int p0)] maxLocals)) t := fun t k => k46 t (st47.trans k)
        have k49 : ∀ t, Steps p.tables e below (T47.setTop (mkF m 96 #[.val (.int p0), .val (.int ((p0 &&& (2147483647 : Int32)) % (6 : Int32))), .val (.ref aI), .val (.int (0 : Int32))] [(.int (1 : Int32))])) t → Steps p.tables e below (s₁.setTop (entryFrame m #[(.int p0)] maxLocals)) t := fun t k => k48 t (by
          show Steps p.tables e below (T47.setTop (mkF m 87 #[.val (.int p0), .val (.int ((p0 &&& (2147483647 : Int32)) % (6 : Int32))), .val (.ref aI), .val (.int (0 : Int32))] [(.int (own_ref aI aD aW aX))])) _
          refine XS.iloadN X47.here hx rfl (hb hby at_87) rfl ?_
          show Steps p.tables e below (T47.setTop (mkF m 88 #[.val (.int p0), .val (.int ((p0 &&& (2147483647 : Int32)) % (6 : Int32))), .val (.ref aI), .val (.int (0 : Int32))] [(.int (0 : Int32)), (.int (own_ref aI aD aW aX))])) _
          refine XS.icmpNo X47.here hx rfl (hb hby at_88) rfl (teq (show (own_ref aI aD aW aX) = (0 : Int32) by simp [own_ref, n_aP_aT, n_aP_aI, n_aP_aD, n_aP_aW, n_aP_aX, n_aT_aI, n_aT_aD, n_aT_aW, n_aT_aX, n_aI_aD, n_aI_aW, n_aI_aX, n_aD_aW, n_aD_aX, n_aW_aX, Ne.symm n_aP_aT, Ne.symm n_aP_aI, Ne.symm n_aP_aD, Ne.symm n_aP_aW, Ne.symm n_aP_aX, Ne.symm n_aT_aI, Ne.symm n_aT_aD, Ne.symm n_aT_aW, Ne.symm n_aT_aX, Ne.symm n_aI_aD, Ne.symm n_aI_aW, Ne.symm n_aI_aX, Ne.symm n_aD_aW, Ne.symm n_aD_aX, Ne.symm n_aW_aX])).2 ?_
          show Steps p.tables e below (T47.setTop (mkF m 91 #[.val (.int p0), .val (.int ((p0 &&& (2147483647 : Int32)) % (6 : Int32))), .val (.ref aI), .val (.int (0 : Int32))] [])) _
          refine XS.iconst X47.here hx rfl (hb hby at_91) ?_
          show Steps p.tables e below (T47.setTop (mkF m 92 #[.val (.int p0), .val (.int ((p0 &&& (2147483647 : Int32)) % (6 : Int32))), .val (.ref aI), .val (.int (0 : Int32))] [(.int (1 : Int32))])) _
          refine XS.goto X47.here hx rfl (pc0 := 92) (pc' := 96) rfl (hb hby at_92) (by decide) (by decide) ?_
          exact k)
        obtain ⟨fs, hr, hrun, hended, hW, hsame⟩ := X47.leave (v := some (.int (1 : Int32))) (fun h => by rw [Bd.returns] at h; cases h)
        refine ⟨_, _, k49 _ ?_, hrun, hended, _, _, rfl, ?_, ⟨_, rfl⟩, hW, hsame.mono (by decide) (by decide)⟩
        · show Steps p.tables e below (T47.setTop (mkF m 96 #[.val (.int p0), .val (.int ((p0 &&& (2147483647 : Int32)) % (6 : Int32))), .val (.ref aI), .val (.int (0 : Int32))] [(.int (1 : Int32))])) _
          exact retN X47 hx (t := .boolean) Bd.returns (by simp) (hb hby at_96) hr
        · show Q0 Z p0 aP aT aI aD aW aX h0 n0 _ T47.heap _
          rw [eq47]
          exact ⟨rfl, N47⟩
      · have k51 : ∀ t, Steps p.tables e below (s₁.setTop (mkF m 51 #[.val (.int p0), .val (.int ((p0 &&& (2147483647 : Int32)) % (6 : Int32))), .unset, .unset] [(.int (3 : Int32)), (.int ((p0 &&& (2147483647 : Int32)) % (6 : Int32)))])) t → Steps p.tables e below (s₁.setTop (entryFrame m #[(.int p0)] maxLocals)) t := fun t k => k41 t (by
          show Steps p.tables e below (s₁.setTop (mkF m 37 #[.val (.int p0), .val (.int ((p0 &&& (2147483647 : Int32)) % (6 : Int32))), .unset, .unset] [(.int (2 : Int32)), (.int ((p0 &&& (2147483647 : Int32)) % (6 : Int32)))])) _
          refine XS.icmpYes X0.here hx rfl (pc0 := 37) (pc' := 49) rfl (hb hby at_37) rfl (feq hc42).2 (by decide) (by decide) ?_
          show Steps p.tables e below (s₁.setTop (mkF m 49 #[.val (.int p0), .val (.int ((p0 &&& (2147483647 : Int32)) % (6 : Int32))), .unset, .unset] [])) _
          refine XS.iloadN X0.here hx rfl (hb hby at_49) rfl ?_
          show Steps p.tables e below (s₁.setTop (mkF m 50 #[.val (.int p0), .val (.int ((p0 &&& (2147483647 : Int32)) % (6 : Int32))), .unset, .unset] [(.int ((p0 &&& (2147483647 : Int32)) % (6 : Int32)))])) _
          refine XS.iconst X0.here hx rfl (hb hby at_50) ?_
          exact k)
        by_cases hc52 : ((p0 &&& (2147483647 : Int32)) % (6 : Int32)) = (3 : Int32)
        · have k53 : ∀ t, Steps p.tables e below (s₁.setTop (mkF m 54 #[.val (.int p0), .val (.int ((p0 &&& (2147483647 : Int32)) % (6 : Int32))), .unset, .unset] [])) t → Steps p.tables e below (s₁.setTop (entryFrame m #[(.int p0)] maxLocals)) t := fun t k => k51 t (by
            show Steps p.tables e below (s₁.setTop (mkF m 51 #[.val (.int p0), .val (.int ((p0 &&& (2147483647 : Int32)) % (6 : Int32))), .unset, .unset] [(.int (3 : Int32)), (.int ((p0 &&& (2147483647 : Int32)) % (6 : Int32)))])) _
            refine XS.icmpNo X0.here hx rfl (hb hby at_51) rfl (teq hc52).2 ?_
            exact k)
          obtain ⟨T54, X54, e54, st54⟩ := getS (host := "") X0 hx hZ hown (hw _ (List.mem_of_getElem? (i := 15) rfl)) Via.refl e0 S_aD (g := (mkF m 54 #[.val (.int p0), .val (.int ((p0 &&& (2147483647 : Int32)) % (6 : Int32))), .unset, .unset] [])) rfl (hb hby at_54)
          have k55 : ∀ t, Steps p.tables e below (T54.setTop (mkF m 57 #[.val (.int p0), .val (.int ((p0 &&& (2147483647 : Int32)) % (6 : Int32))), .unset, .unset] [(.ref aD)])) t → Steps p.tables e below (s₁.setTop (entryFrame m #[(.int p0)] maxLocals)) t := fun t k => k53 t (st54 t k)
          have k56 : ∀ t, Steps p.tables e below (T54.setTop (mkF m 84 #[.val (.int p0), .val (.int ((p0 &&& (2147483647 : Int32)) % (6 : Int32))), .val (.ref aD), .val (.int (1 : Int32))] [(.ref aD)])) t → Steps p.tables e below (s₁.setTop (entryFrame m #[(.int p0)] maxLocals)) t := fun t k => k55 t (by
            show Steps p.tables e below (T54.setTop (mkF m 57 #[.val (.int p0), .val (.int ((p0 &&& (2147483647 : Int32)) % (6 : Int32))), .unset, .unset] [(.ref aD)])) _
            refine XS.astoreN X54.here hx rfl (hb hby at_57) rfl rfl (l' := #[.val (.int p0), .val (.int ((p0 &&& (2147483647 : Int32)) % (6 : Int32))), .val (.ref aD), .unset]) rfl ?_
            show Steps p.tables e below (T54.setTop (mkF m 58 #[.val (.int p0), .val (.int ((p0 &&& (2147483647 : Int32)) % (6 : Int32))), .val (.ref aD), .unset] [])) _
            refine XS.iconst X54.here hx rfl (hb hby at_58) ?_
            show Steps p.tables e below (T54.setTop (mkF m 59 #[.val (.int p0), .val (.int ((p0 &&& (2147483647 : Int32)) % (6 : Int32))), .val (.ref aD), .unset] [(.int (1 : Int32))])) _
            refine XS.istoreN X54.here hx rfl (hb hby at_59) rfl (l' := #[.val (.int p0), .val (.int ((p0 &&& (2147483647 : Int32)) % (6 : Int32))), .val (.ref aD), .val (.int (1 : Int32))]) rfl ?_
            show Steps p.tables e below (T54.setTop (mkF m 60 #[.val (.int p0), .val (.int ((p0 &&& (2147483647 : Int32)) % (6 : Int32))), .val (.ref aD), .val (.int (1 : Int32))] [])) _
            refine XS.goto X54.here hx rfl (pc0 := 60) (pc' := 83) rfl (hb hby at_60) (by decide) (by decide) ?_
            show Steps p.tables e below (T54.setTop (mkF m 83 #[.val (.int p0), .val (.int ((p0 &&& (2147483647 : Int32)) % (6 : Int32))), .val (.ref aD), .val (.int (1 : Int32))] [])) _
            refine XS.aloadN X54.here hx rfl (hb hby at_83) rfl rfl ?_
            exact k)
          obtain ⟨cq57, kq57, q57a, q57b, q57c⟩ := isOf hZ e54 E_aD
          obtain ⟨_, _, ⟨T57, L57, kc57, ks57⟩, -, X57, ⟨Lc57, hQ57, l57, y57, z57⟩, st57⟩ := X54.virtualBack hx (y := (⟨"com/example/committed_quads/committedquads/QueryParser$Triples", "refusesBlankNodes", "()Z"⟩ : MethodName)) (z := (⟨"com/example/committed_quads/committedquads/QueryParser$Triples", "refusesBlankNodes", "()Z"⟩ : MethodName)) hown (mvT hZ (hw _ (List.mem_of_getElem? (i := 4) rfl))) (mvT hZ (hw _ (List.mem_of_getElem? (i := 5) rfl))) (notFace_of_selects (args := #[]) (mvT hZ (hw _ (List.mem_of_getElem? (i := 7) rfl)))) (mvT hZ (hw _ (List.mem_of_getElem? (i := 7) rfl))) (mvT hZ (hw _ (List.mem_of_getElem? (i := 6) rfl))) (by decide) (backOf (W := 0) (rm1 l Z a0 hw [] aD aD aW aX h0 n0 Z0 S_aD S_aW S_aX) hZ (hw _ (List.mem_of_getElem? (i := 8) rfl)) (hw _ (List.mem_of_getElem? (i := 2) rfl)) (by decide) (by decide)) q57a q57c (g := (mkF m 84 #[.val (.int p0), .val (.int ((p0 &&& (2147483647 : Int32)) % (6 : Int32))), .val (.ref aD), .val (.int (1 : Int32))] [(.ref aD)])) rfl (by rw [hml]; rfl) (Steps.refl _) (argsL := []) (rest := []) (lenOf pd_0 rfl) rfl (by show 2 * 0 + _ ≤ _; exact Nat.le_of_eq rfl) (hb hby at_84) (fun _ _ => ⟨rfl, e54, (by decide : 0 + 0 ≤ _), (by decide : 0 + 0 ≤ _)⟩)
          dsimp only [Pt.U, Pt.locs, Pt.cells, Pt.slots] at X57 l57 y57 z57 st57 hQ57
          subst l57 y57 z57
          obtain ⟨rfl, Nq57, eq57⟩ := hQ57
          have N57 := Fr.app N0 Nq57
          have k58 : ∀ t, Steps p.tables e below (T57.setTop (mkF m 87 #[.val (.int p0), .val (.int ((p0 &&& (2147483647 : Int32)) % (6 : Int32))), .val (.ref aD), .val (.int (1 : Int32))] [(.int (own_ref aD aD aW aX))])) t → Steps p.tables e below (s₁.setTop (entryFrame m #[(.int p0)] maxLocals)) t := fun t k => k56 t (st57.trans k)
          have k59 : ∀ t, Steps p.tables e below (T57.setTop (mkF m 96 #[.val (.int p0), .val (.int ((p0 &&& (2147483647 : Int32)) % (6 : Int32))), .val (.ref aD), .val (.int (1 : Int32))] [(.int (1 : Int32))])) t → Steps p.tables e below (s₁.setTop (entryFrame m #[(.int p0)] maxLocals)) t := fun t k => k58 t (by
            show Steps p.tables e below (T57.setTop (mkF m 87 #[.val (.int p0), .val (.int ((p0 &&& (2147483647 : Int32)) % (6 : Int32))), .val (.ref aD), .val (.int (1 : Int32))] [(.int (own_ref aD aD aW aX))])) _
            refine XS.iloadN X57.here hx rfl (hb hby at_87) rfl ?_
            show Steps p.tables e below (T57.setTop (mkF m 88 #[.val (.int p0), .val (.int ((p0 &&& (2147483647 : Int32)) % (6 : Int32))), .val (.ref aD), .val (.int (1 : Int32))] [(.int (1 : Int32)), (.int (own_ref aD aD aW aX))])) _
            refine XS.icmpNo X57.here hx rfl (hb hby at_88) rfl (teq (show (own_ref aD aD aW aX) = (1 : Int32) by simp [own_ref, n_aP_aT, n_aP_aI, n_aP_aD, n_aP_aW, n_aP_aX, n_aT_aI, n_aT_aD, n_aT_aW, n_aT_aX, n_aI_aD, n_aI_aW, n_aI_aX, n_aD_aW, n_aD_aX, n_aW_aX, Ne.symm n_aP_aT, Ne.symm n_aP_aI, Ne.symm n_aP_aD, Ne.symm n_aP_aW, Ne.symm n_aP_aX, Ne.symm n_aT_aI, Ne.symm n_aT_aD, Ne.symm n_aT_aW, Ne.symm n_aT_aX, Ne.symm n_aI_aD, Ne.symm n_aI_aW, Ne.symm n_aI_aX, Ne.symm n_aD_aW, Ne.symm n_aD_aX, Ne.symm n_aW_aX])).2 ?_
            show Steps p.tables e below (T57.setTop (mkF m 91 #[.val (.int p0), .val (.int ((p0 &&& (2147483647 : Int32)) % (6 : Int32))), .val (.ref aD), .val (.int (1 : Int32))] [])) _
            refine XS.iconst X57.here hx rfl (hb hby at_91) ?_
            show Steps p.tables e below (T57.setTop (mkF m 92 #[.val (.int p0), .val (.int ((p0 &&& (2147483647 : Int32)) % (6 : Int32))), .val (.ref aD), .val (.int (1 : Int32))] [(.int (1 : Int32))])) _
            refine XS.goto X57.here hx rfl (pc0 := 92) (pc' := 96) rfl (hb hby at_92) (by decide) (by decide) ?_
            exact k)
          obtain ⟨fs, hr, hrun, hended, hW, hsame⟩ := X57.leave (v := some (.int (1 : Int32))) (fun h => by rw [Bd.returns] at h; cases h)
          refine ⟨_, _, k59 _ ?_, hrun, hended, _, _, rfl, ?_, ⟨_, rfl⟩, hW, hsame.mono (by decide) (by decide)⟩
          · show Steps p.tables e below (T57.setTop (mkF m 96 #[.val (.int p0), .val (.int ((p0 &&& (2147483647 : Int32)) % (6 : Int32))), .val (.ref aD), .val (.int (1 : Int32))] [(.int (1 : Int32))])) _
            exact retN X57 hx (t := .boolean) Bd.returns (by simp) (hb hby at_96) hr
          · show Q0 Z p0 aP aT aI aD aW aX h0 n0 _ T57.heap _
            rw [eq57]
            exact ⟨rfl, N57⟩
        · have k61 : ∀ t, Steps p.tables e below (s₁.setTop (mkF m 65 #[.val (.int p0), .val (.int ((p0 &&& (2147483647 : Int32)) % (6 : Int32))), .unset, .unset] [(.int (4 : Int32)), (.int ((p0 &&& (2147483647 : Int32)) % (6 : Int32)))])) t → Steps p.tables e below (s₁.setTop (entryFrame m #[(.int p0)] maxLocals)) t := fun t k => k51 t (by
            show Steps p.tables e below (s₁.setTop (mkF m 51 #[.val (.int p0), .val (.int ((p0 &&& (2147483647 : Int32)) % (6 : Int32))), .unset, .unset] [(.int (3 : Int32)), (.int ((p0 &&& (2147483647 : Int32)) % (6 : Int32)))])) _
            refine XS.icmpYes X0.here hx rfl (pc0 := 51) (pc' := 63) rfl (hb hby at_51) rfl (feq hc52).2 (by decide) (by decide) ?_
            show Steps p.tables e below (s₁.setTop (mkF m 63 #[.val (.int p0), .val (.int ((p0 &&& (2147483647 : Int32)) % (6 : Int32))), .unset, .unset] [])) _
            refine XS.iloadN X0.here hx rfl (hb hby at_63) rfl ?_
            show Steps p.tables e below (s₁.setTop (mkF m 64 #[.val (.int p0), .val (.int ((p0 &&& (2147483647 : Int32)) % (6 : Int32))), .unset, .unset] [(.int ((p0 &&& (2147483647 : Int32)) % (6 : Int32)))])) _
            refine XS.iconst X0.here hx rfl (hb hby at_64) ?_
            exact k)
          by_cases hc62 : ((p0 &&& (2147483647 : Int32)) % (6 : Int32)) = (4 : Int32)
          · have k63 : ∀ t, Steps p.tables e below (s₁.setTop (mkF m 68 #[.val (.int p0), .val (.int ((p0 &&& (2147483647 : Int32)) % (6 : Int32))), .unset, .unset] [])) t → Steps p.tables e below (s₁.setTop (entryFrame m #[(.int p0)] maxLocals)) t := fun t k => k61 t (by
              show Steps p.tables e below (s₁.setTop (mkF m 65 #[.val (.int p0), .val (.int ((p0 &&& (2147483647 : Int32)) % (6 : Int32))), .unset, .unset] [(.int (4 : Int32)), (.int ((p0 &&& (2147483647 : Int32)) % (6 : Int32)))])) _
              refine XS.icmpNo X0.here hx rfl (hb hby at_65) rfl (teq hc62).2 ?_
              exact k)
            obtain ⟨T64, X64, e64, st64⟩ := getS (host := "") X0 hx hZ hown (hw _ (List.mem_of_getElem? (i := 21) rfl)) Via.refl e0 S_aW (g := (mkF m 68 #[.val (.int p0), .val (.int ((p0 &&& (2147483647 : Int32)) % (6 : Int32))), .unset, .unset] [])) rfl (hb hby at_68)
            have k65 : ∀ t, Steps p.tables e below (T64.setTop (mkF m 71 #[.val (.int p0), .val (.int ((p0 &&& (2147483647 : Int32)) % (6 : Int32))), .unset, .unset] [(.ref aW)])) t → Steps p.tables e below (s₁.setTop (entryFrame m #[(.int p0)] maxLocals)) t := fun t k => k63 t (st64 t k)
            have k66 : ∀ t, Steps p.tables e below (T64.setTop (mkF m 84 #[.val (.int p0), .val (.int ((p0 &&& (2147483647 : Int32)) % (6 : Int32))), .val (.ref aW), .val (.int (1 : Int32))] [(.ref aW)])) t → Steps p.tables e below (s₁.setTop (entryFrame m #[(.int p0)] maxLocals)) t := fun t k => k65 t (by
              show Steps p.tables e below (T64.setTop (mkF m 71 #[.val (.int p0), .val (.int ((p0 &&& (2147483647 : Int32)) % (6 : Int32))), .unset, .unset] [(.ref aW)])) _
              refine XS.astoreN X64.here hx rfl (hb hby at_71) rfl rfl (l' := #[.val (.int p0), .val (.int ((p0 &&& (2147483647 : Int32)) % (6 : Int32))), .val (.ref aW), .unset]) rfl ?_
              show Steps p.tables e below (T64.setTop (mkF m 72 #[.val (.int p0), .val (.int ((p0 &&& (2147483647 : Int32)) % (6 : Int32))), .val (.ref aW), .unset] [])) _
              refine XS.iconst X64.here hx rfl (hb hby at_72) ?_
              show Steps p.tables e below (T64.setTop (mkF m 73 #[.val (.int p0), .val (.int ((p0 &&& (2147483647 : Int32)) % (6 : Int32))), .val (.ref aW), .unset] [(.int (1 : Int32))])) _
              refine XS.istoreN X64.here hx rfl (hb hby at_73) rfl (l' := #[.val (.int p0), .val (.int ((p0 &&& (2147483647 : Int32)) % (6 : Int32))), .val (.ref aW), .val (.int (1 : Int32))]) rfl ?_
              show Steps p.tables e below (T64.setTop (mkF m 74 #[.val (.int p0), .val (.int ((p0 &&& (2147483647 : Int32)) % (6 : Int32))), .val (.ref aW), .val (.int (1 : Int32))] [])) _
              refine XS.goto X64.here hx rfl (pc0 := 74) (pc' := 83) rfl (hb hby at_74) (by decide) (by decide) ?_
              show Steps p.tables e below (T64.setTop (mkF m 83 #[.val (.int p0), .val (.int ((p0 &&& (2147483647 : Int32)) % (6 : Int32))), .val (.ref aW), .val (.int (1 : Int32))] [])) _
              refine XS.aloadN X64.here hx rfl (hb hby at_83) rfl rfl ?_
              exact k)
            obtain ⟨cq67, kq67, q67a, q67b, q67c⟩ := isOf hZ e64 E_aW
            obtain ⟨_, _, ⟨T67, L67, kc67, ks67⟩, -, X67, ⟨Lc67, hQ67, l67, y67, z67⟩, st67⟩ := X64.virtualBack hx (y := (⟨"com/example/committed_quads/committedquads/QueryParser$Triples", "refusesBlankNodes", "()Z"⟩ : MethodName)) (z := (⟨"com/example/committed_quads/committedquads/QueryParser$Triples", "refusesBlankNodes", "()Z"⟩ : MethodName)) hown (mvT hZ (hw _ (List.mem_of_getElem? (i := 4) rfl))) (mvT hZ (hw _ (List.mem_of_getElem? (i := 5) rfl))) (notFace_of_selects (args := #[]) (mvT hZ (hw _ (List.mem_of_getElem? (i := 7) rfl)))) (mvT hZ (hw _ (List.mem_of_getElem? (i := 7) rfl))) (mvT hZ (hw _ (List.mem_of_getElem? (i := 6) rfl))) (by decide) (backOf (W := 0) (rm1 l Z a0 hw [] aW aD aW aX h0 n0 Z0 S_aD S_aW S_aX) hZ (hw _ (List.mem_of_getElem? (i := 8) rfl)) (hw _ (List.mem_of_getElem? (i := 2) rfl)) (by decide) (by decide)) q67a q67c (g := (mkF m 84 #[.val (.int p0), .val (.int ((p0 &&& (2147483647 : Int32)) % (6 : Int32))), .val (.ref aW), .val (.int (1 : Int32))] [(.ref aW)])) rfl (by rw [hml]; rfl) (Steps.refl _) (argsL := []) (rest := []) (lenOf pd_0 rfl) rfl (by show 2 * 0 + _ ≤ _; exact Nat.le_of_eq rfl) (hb hby at_84) (fun _ _ => ⟨rfl, e64, (by decide : 0 + 0 ≤ _), (by decide : 0 + 0 ≤ _)⟩)
            dsimp only [Pt.U, Pt.locs, Pt.cells, Pt.slots] at X67 l67 y67 z67 st67 hQ67
            subst l67 y67 z67
            obtain ⟨rfl, Nq67, eq67⟩ := hQ67
            have N67 := Fr.app N0 Nq67
            have k68 : ∀ t, Steps p.tables e below (T67.setTop (mkF m 87 #[.val (.int p0), .val (.int ((p0 &&& (2147483647 : Int32)) % (6 : Int32))), .val (.ref aW), .val (.int (1 : Int32))] [(.int (own_ref aW aD aW aX))])) t → Steps p.tables e below (s₁.setTop (entryFrame m #[(.int p0)] maxLocals)) t := fun t k => k66 t (st67.trans k)
            have k69 : ∀ t, Steps p.tables e below (T67.setTop (mkF m 96 #[.val (.int p0), .val (.int ((p0 &&& (2147483647 : Int32)) % (6 : Int32))), .val (.ref aW), .val (.int (1 : Int32))] [(.int (1 : Int32))])) t → Steps p.tables e below (s₁.setTop (entryFrame m #[(.int p0)] maxLocals)) t := fun t k => k68 t (by
              show Steps p.tables e below (T67.setTop (mkF m 87 #[.val (.int p0), .val (.int ((p0 &&& (2147483647 : Int32)) % (6 : Int32))), .val (.ref aW), .val (.int (1 : Int32))] [(.int (own_ref aW aD aW aX))])) _
              refine XS.iloadN X67.here hx rfl (hb hby at_87) rfl ?_
              show Steps p.tables e below (T67.setTop (mkF m 88 #[.val (.int p0), .val (.int ((p0 &&& (2147483647 : Int32)) % (6 : Int32))), .val (.ref aW), .val (.int (1 : Int32))] [(.int (1 : Int32)), (.int (own_ref aW aD aW aX))])) _
              refine XS.icmpNo X67.here hx rfl (hb hby at_88) rfl (teq (show (own_ref aW aD aW aX) = (1 : Int32) by simp [own_ref, n_aP_aT, n_aP_aI, n_aP_aD, n_aP_aW, n_aP_aX, n_aT_aI, n_aT_aD, n_aT_aW, n_aT_aX, n_aI_aD, n_aI_aW, n_aI_aX, n_aD_aW, n_aD_aX, n_aW_aX, Ne.symm n_aP_aT, Ne.symm n_aP_aI, Ne.symm n_aP_aD, Ne.symm n_aP_aW, Ne.symm n_aP_aX, Ne.symm n_aT_aI, Ne.symm n_aT_aD, Ne.symm n_aT_aW, Ne.symm n_aT_aX, Ne.symm n_aI_aD, Ne.symm n_aI_aW, Ne.symm n_aI_aX, Ne.symm n_aD_aW, Ne.symm n_aD_aX, Ne.symm n_aW_aX])).2 ?_
              show Steps p.tables e below (T67.setTop (mkF m 91 #[.val (.int p0), .val (.int ((p0 &&& (2147483647 : Int32)) % (6 : Int32))), .val (.ref aW), .val (.int (1 : Int32))] [])) _
              refine XS.iconst X67.here hx rfl (hb hby at_91) ?_
              show Steps p.tables e below (T67.setTop (mkF m 92 #[.val (.int p0), .val (.int ((p0 &&& (2147483647 : Int32)) % (6 : Int32))), .val (.ref aW), .val (.int (1 : Int32))] [(.int (1 : Int32))])) _
              refine XS.goto X67.here hx rfl (pc0 := 92) (pc' := 96) rfl (hb hby at_92) (by decide) (by decide) ?_
              exact k)
            obtain ⟨fs, hr, hrun, hended, hW, hsame⟩ := X67.leave (v := some (.int (1 : Int32))) (fun h => by rw [Bd.returns] at h; cases h)
            refine ⟨_, _, k69 _ ?_, hrun, hended, _, _, rfl, ?_, ⟨_, rfl⟩, hW, hsame.mono (by decide) (by decide)⟩
            · show Steps p.tables e below (T67.setTop (mkF m 96 #[.val (.int p0), .val (.int ((p0 &&& (2147483647 : Int32)) % (6 : Int32))), .val (.ref aW), .val (.int (1 : Int32))] [(.int (1 : Int32))])) _
              exact retN X67 hx (t := .boolean) Bd.returns (by simp) (hb hby at_96) hr
            · show Q0 Z p0 aP aT aI aD aW aX h0 n0 _ T67.heap _
              rw [eq67]
              exact ⟨rfl, N67⟩
          · have k71 : ∀ t, Steps p.tables e below (s₁.setTop (mkF m 77 #[.val (.int p0), .val (.int ((p0 &&& (2147483647 : Int32)) % (6 : Int32))), .unset, .unset] [])) t → Steps p.tables e below (s₁.setTop (entryFrame m #[(.int p0)] maxLocals)) t := fun t k => k61 t (by
              show Steps p.tables e below (s₁.setTop (mkF m 65 #[.val (.int p0), .val (.int ((p0 &&& (2147483647 : Int32)) % (6 : Int32))), .unset, .unset] [(.int (4 : Int32)), (.int ((p0 &&& (2147483647 : Int32)) % (6 : Int32)))])) _
              refine XS.icmpYes X0.here hx rfl (pc0 := 65) (pc' := 77) rfl (hb hby at_65) rfl (feq hc62).2 (by decide) (by decide) ?_
              exact k)
            obtain ⟨T72, X72, e72, st72⟩ := getS (host := "") X0 hx hZ hown (hw _ (List.mem_of_getElem? (i := 20) rfl)) Via.refl e0 S_aX (g := (mkF m 77 #[.val (.int p0), .val (.int ((p0 &&& (2147483647 : Int32)) % (6 : Int32))), .unset, .unset] [])) rfl (hb hby at_77)
            have k73 : ∀ t, Steps p.tables e below (T72.setTop (mkF m 80 #[.val (.int p0), .val (.int ((p0 &&& (2147483647 : Int32)) % (6 : Int32))), .unset, .unset] [(.ref aX)])) t → Steps p.tables e below (s₁.setTop (entryFrame m #[(.int p0)] maxLocals)) t := fun t k => k71 t (st72 t k)
            have k74 : ∀ t, Steps p.tables e below (T72.setTop (mkF m 84 #[.val (.int p0), .val (.int ((p0 &&& (2147483647 : Int32)) % (6 : Int32))), .val (.ref aX), .val (.int (1 : Int32))] [(.ref aX)])) t → Steps p.tables e below (s₁.setTop (entryFrame m #[(.int p0)] maxLocals)) t := fun t k => k73 t (by
              show Steps p.tables e below (T72.setTop (mkF m 80 #[.val (.int p0), .val (.int ((p0 &&& (2147483647 : Int32)) % (6 : Int32))), .unset, .unset] [(.ref aX)])) _
              refine XS.astoreN X72.here hx rfl (hb hby at_80) rfl rfl (l' := #[.val (.int p0), .val (.int ((p0 &&& (2147483647 : Int32)) % (6 : Int32))), .val (.ref aX), .unset]) rfl ?_
              show Steps p.tables e below (T72.setTop (mkF m 81 #[.val (.int p0), .val (.int ((p0 &&& (2147483647 : Int32)) % (6 : Int32))), .val (.ref aX), .unset] [])) _
              refine XS.iconst X72.here hx rfl (hb hby at_81) ?_
              show Steps p.tables e below (T72.setTop (mkF m 82 #[.val (.int p0), .val (.int ((p0 &&& (2147483647 : Int32)) % (6 : Int32))), .val (.ref aX), .unset] [(.int (1 : Int32))])) _
              refine XS.istoreN X72.here hx rfl (hb hby at_82) rfl (l' := #[.val (.int p0), .val (.int ((p0 &&& (2147483647 : Int32)) % (6 : Int32))), .val (.ref aX), .val (.int (1 : Int32))]) rfl ?_
              show Steps p.tables e below (T72.setTop (mkF m 83 #[.val (.int p0), .val (.int ((p0 &&& (2147483647 : Int32)) % (6 : Int32))), .val (.ref aX), .val (.int (1 : Int32))] [])) _
              refine XS.aloadN X72.here hx rfl (hb hby at_83) rfl rfl ?_
              exact k)
            obtain ⟨cq75, kq75, q75a, q75b, q75c⟩ := isOf hZ e72 E_aX
            obtain ⟨_, _, ⟨T75, L75, kc75, ks75⟩, -, X75, ⟨Lc75, hQ75, l75, y75, z75⟩, st75⟩ := X72.virtualBack hx (y := (⟨"com/example/committed_quads/committedquads/QueryParser$Triples", "refusesBlankNodes", "()Z"⟩ : MethodName)) (z := (⟨"com/example/committed_quads/committedquads/QueryParser$Triples", "refusesBlankNodes", "()Z"⟩ : MethodName)) hown (mvT hZ (hw _ (List.mem_of_getElem? (i := 4) rfl))) (mvT hZ (hw _ (List.mem_of_getElem? (i := 5) rfl))) (notFace_of_selects (args := #[]) (mvT hZ (hw _ (List.mem_of_getElem? (i := 7) rfl)))) (mvT hZ (hw _ (List.mem_of_getElem? (i := 7) rfl))) (mvT hZ (hw _ (List.mem_of_getElem? (i := 6) rfl))) (by decide) (backOf (W := 0) (rm1 l Z a0 hw [] aX aD aW aX h0 n0 Z0 S_aD S_aW S_aX) hZ (hw _ (List.mem_of_getElem? (i := 8) rfl)) (hw _ (List.mem_of_getElem? (i := 2) rfl)) (by decide) (by decide)) q75a q75c (g := (mkF m 84 #[.val (.int p0), .val (.int ((p0 &&& (2147483647 : Int32)) % (6 : Int32))), .val (.ref aX), .val (.int (1 : Int32))] [(.ref aX)])) rfl (by rw [hml]; rfl) (Steps.refl _) (argsL := []) (rest := []) (lenOf pd_0 rfl) rfl (by show 2 * 0 + _ ≤ _; exact Nat.le_of_eq rfl) (hb hby at_84) (fun _ _ => ⟨rfl, e72, (by decide : 0 + 0 ≤ _), (by decide : 0 + 0 ≤ _)⟩)
            dsimp only [Pt.U, Pt.locs, Pt.cells, Pt.slots] at X75 l75 y75 z75 st75 hQ75
            subst l75 y75 z75
            obtain ⟨rfl, Nq75, eq75⟩ := hQ75
            have N75 := Fr.app N0 Nq75
            have k76 : ∀ t, Steps p.tables e below (T75.setTop (mkF m 87 #[.val (.int p0), .val (.int ((p0 &&& (2147483647 : Int32)) % (6 : Int32))), .val (.ref aX), .val (.int (1 : Int32))] [(.int (own_ref aX aD aW aX))])) t → Steps p.tables e below (s₁.setTop (entryFrame m #[(.int p0)] maxLocals)) t := fun t k => k74 t (st75.trans k)
            have k77 : ∀ t, Steps p.tables e below (T75.setTop (mkF m 96 #[.val (.int p0), .val (.int ((p0 &&& (2147483647 : Int32)) % (6 : Int32))), .val (.ref aX), .val (.int (1 : Int32))] [(.int (1 : Int32))])) t → Steps p.tables e below (s₁.setTop (entryFrame m #[(.int p0)] maxLocals)) t := fun t k => k76 t (by
              show Steps p.tables e below (T75.setTop (mkF m 87 #[.val (.int p0), .val (.int ((p0 &&& (2147483647 : Int32)) % (6 : Int32))), .val (.ref aX), .val (.int (1 : Int32))] [(.int (own_ref aX aD aW aX))])) _
              refine XS.iloadN X75.here hx rfl (hb hby at_87) rfl ?_
              show Steps p.tables e below (T75.setTop (mkF m 88 #[.val (.int p0), .val (.int ((p0 &&& (2147483647 : Int32)) % (6 : Int32))), .val (.ref aX), .val (.int (1 : Int32))] [(.int (1 : Int32)), (.int (own_ref aX aD aW aX))])) _
              refine XS.icmpNo X75.here hx rfl (hb hby at_88) rfl (teq (show (own_ref aX aD aW aX) = (1 : Int32) by simp [own_ref, n_aP_aT, n_aP_aI, n_aP_aD, n_aP_aW, n_aP_aX, n_aT_aI, n_aT_aD, n_aT_aW, n_aT_aX, n_aI_aD, n_aI_aW, n_aI_aX, n_aD_aW, n_aD_aX, n_aW_aX, Ne.symm n_aP_aT, Ne.symm n_aP_aI, Ne.symm n_aP_aD, Ne.symm n_aP_aW, Ne.symm n_aP_aX, Ne.symm n_aT_aI, Ne.symm n_aT_aD, Ne.symm n_aT_aW, Ne.symm n_aT_aX, Ne.symm n_aI_aD, Ne.symm n_aI_aW, Ne.symm n_aI_aX, Ne.symm n_aD_aW, Ne.symm n_aD_aX, Ne.symm n_aW_aX])).2 ?_
              show Steps p.tables e below (T75.setTop (mkF m 91 #[.val (.int p0), .val (.int ((p0 &&& (2147483647 : Int32)) % (6 : Int32))), .val (.ref aX), .val (.int (1 : Int32))] [])) _
              refine XS.iconst X75.here hx rfl (hb hby at_91) ?_
              show Steps p.tables e below (T75.setTop (mkF m 92 #[.val (.int p0), .val (.int ((p0 &&& (2147483647 : Int32)) % (6 : Int32))), .val (.ref aX), .val (.int (1 : Int32))] [(.int (1 : Int32))])) _
              refine XS.goto X75.here hx rfl (pc0 := 92) (pc' := 96) rfl (hb hby at_92) (by decide) (by decide) ?_
              exact k)
            obtain ⟨fs, hr, hrun, hended, hW, hsame⟩ := X75.leave (v := some (.int (1 : Int32))) (fun h => by rw [Bd.returns] at h; cases h)
            refine ⟨_, _, k77 _ ?_, hrun, hended, _, _, rfl, ?_, ⟨_, rfl⟩, hW, hsame.mono (by decide) (by decide)⟩
            · show Steps p.tables e below (T75.setTop (mkF m 96 #[.val (.int p0), .val (.int ((p0 &&& (2147483647 : Int32)) % (6 : Int32))), .val (.ref aX), .val (.int (1 : Int32))] [(.int (1 : Int32))])) _
              exact retN X75 hx (t := .boolean) Bd.returns (by simp) (hb hby at_96) hr
            · show Q0 Z p0 aP aT aI aD aW aX h0 n0 _ T75.heap _
              rw [eq75]
              exact ⟨rfl, N75⟩
set_option maxRecDepth 65536 in
set_option maxHeartbeats 40000000 in
theorem comes_1 {Post : Tables → Env → Array Value → State → Outcome → State → Prop} (hpost : ∀ tb e args s v u, (limb_1_1.after args s (.returned v) u = true ∧ limb_1_2.after args s (.returned v) u = true ∧ True) → FrameEnd s (.returned v) u (Jvm.fieldLocs frame_1_writes args s ++ Jvm.arrayLocs frame_1_arrays args s ++ Jvm.staticLocs frame_1_statics s) 0 0 → Post tb e args s (.returned v) u) :
    ArmFor flags0 classFile x code maxLocals ret World_1 tables_1 room_1 Calls_1 rest_1 Pre_1 Post := by
  intro l hfl _ _ p e ha hc hk s m args below hf hA hF happ hP
  obtain ⟨hcalls, hrest, hpre⟩ := hP
  obtain ⟨-, -, -, hnamed, -, -, -, hat⟩ := (Spec.applies_iff hf).mp happ
  obtain ⟨hg, hn⟩ := and_e (Cond.before_iff.mp (show (Jvm.Cond.and given_1 narrow_1).before args s = true from hpre))
  obtain ⟨g1, g2⟩ := and_e hg
  obtain ⟨w0, rfl⟩ : ∃ w0 : Value, args = #[w0] := by
    have hs : args.size = 1 := by simpa [Cond.value, given_1] using g1
    obtain ⟨L⟩ := args
    match L, hs with
    | [w0], _ => exact ⟨w0, rfl⟩
  have hw := fun d (hd : d ∈ tables_1) => atoms_spec (ws := Jvm.Cond.code x code maxLocals ret :: tables_1) hat d (List.mem_cons_of_mem _ hd)
  have hfit : Fit s := fun {y c} hc i hi => by
    obtain ⟨ha, rfl⟩ := Array.getElem?_eq_some_iff.mp hc
    have q := List.all_eq_true.mp ((Array.all_eq_true_iff_forall_mem.mp hF) _ (Array.getElem_mem ha)) i (List.mem_range.mpr hi)
    simpa [Array.getElem?_eq_getElem hi] using q
  obtain ⟨i0, ei0⟩ := is_v g2
  obtain rfl : w0 = (.int i0) := Option.some.inj ei0
  obtain ⟨c0, r0⟩ := and_e hn
  obtain ⟨c1, r1⟩ := and_e r0
  obtain ⟨c2, r2⟩ := and_e r1
  obtain ⟨c3, r3⟩ := and_e r2
  obtain ⟨c4, r4⟩ := and_e r3
  obtain ⟨c5, r5⟩ := and_e r4
  obtain ⟨c6, r6⟩ := and_e r5
  obtain ⟨c7, r7⟩ := and_e r6
  obtain ⟨c8, r8⟩ := and_e r7
  obtain ⟨c9, r9⟩ := and_e r8
  obtain ⟨c10, r10⟩ := and_e r9
  have c11 := r10
  obtain ⟨a_PATTERN, ev_PATTERN⟩ := exa_v c0
  have S_PATTERN := Sta.start ev_PATTERN (Or.inr ⟨(hw _ (List.mem_of_getElem? (i := 2) rfl)), (hw _ (List.mem_of_getElem? (i := 3) rfl))⟩)
  have E_PATTERN := Exa.start ev_PATTERN c0
  obtain ⟨a_DELETED, ev_DELETED⟩ := exa_v c1
  have S_DELETED := Sta.start ev_DELETED (Or.inr ⟨(hw _ (List.mem_of_getElem? (i := 2) rfl)), (hw _ (List.mem_of_getElem? (i := 10) rfl))⟩)
  have E_DELETED := Exa.start ev_DELETED c1
  obtain ⟨a_DELETED_WHERE, ev_DELETED_WHERE⟩ := exa_v c4
  have S_DELETED_WHERE := Sta.start ev_DELETED_WHERE (Or.inr ⟨(hw _ (List.mem_of_getElem? (i := 2) rfl)), (hw _ (List.mem_of_getElem? (i := 12) rfl))⟩)
  have E_DELETED_WHERE := Exa.start ev_DELETED_WHERE c4
  obtain ⟨a_DELETED_DATA, ev_DELETED_DATA⟩ := exa_v c6
  have S_DELETED_DATA := Sta.start ev_DELETED_DATA (Or.inr ⟨(hw _ (List.mem_of_getElem? (i := 2) rfl)), (hw _ (List.mem_of_getElem? (i := 14) rfl))⟩)
  have E_DELETED_DATA := Exa.start ev_DELETED_DATA c6
  obtain ⟨a_INSERTED_DATA, ev_INSERTED_DATA⟩ := exa_v c8
  have S_INSERTED_DATA := Sta.start ev_INSERTED_DATA (Or.inr ⟨(hw _ (List.mem_of_getElem? (i := 2) rfl)), (hw _ (List.mem_of_getElem? (i := 17) rfl))⟩)
  have E_INSERTED_DATA := Exa.start ev_INSERTED_DATA c8
  obtain ⟨a_TEMPLATE, ev_TEMPLATE⟩ := exa_v c10
  have S_TEMPLATE := Sta.start ev_TEMPLATE (Or.inr ⟨(hw _ (List.mem_of_getElem? (i := 2) rfl)), (hw _ (List.mem_of_getElem? (i := 19) rfl))⟩)
  have E_TEMPLATE := Exa.start ev_TEMPLATE c10
  have F_PATTERN_ordinal := Fld.start (own_feq ev_PATTERN c2)
  have F_DELETED_ordinal := Fld.start (own_feq ev_DELETED c3)
  have F_DELETED_WHERE_ordinal := Fld.start (own_feq ev_DELETED_WHERE c5)
  have F_DELETED_DATA_ordinal := Fld.start (own_feq ev_DELETED_DATA c7)
  have F_INSERTED_DATA_ordinal := Fld.start (own_feq ev_INSERTED_DATA c9)
  have F_TEMPLATE_ordinal := Fld.start (own_feq ev_TEMPLATE c11)
  have n_PATTERN_TEMPLATE := Fld.ne F_PATTERN_ordinal F_TEMPLATE_ordinal (by decide)
  have n_PATTERN_INSERTED_DATA := Fld.ne F_PATTERN_ordinal F_INSERTED_DATA_ordinal (by decide)
  have n_PATTERN_DELETED := Fld.ne F_PATTERN_ordinal F_DELETED_ordinal (by decide)
  have n_PATTERN_DELETED_WHERE := Fld.ne F_PATTERN_ordinal F_DELETED_WHERE_ordinal (by decide)
  have n_PATTERN_DELETED_DATA := Fld.ne F_PATTERN_ordinal F_DELETED_DATA_ordinal (by decide)
  have n_TEMPLATE_INSERTED_DATA := Fld.ne F_TEMPLATE_ordinal F_INSERTED_DATA_ordinal (by decide)
  have n_TEMPLATE_DELETED := Fld.ne F_TEMPLATE_ordinal F_DELETED_ordinal (by decide)
  have n_TEMPLATE_DELETED_WHERE := Fld.ne F_TEMPLATE_ordinal F_DELETED_WHERE_ordinal (by decide)
  have n_TEMPLATE_DELETED_DATA := Fld.ne F_TEMPLATE_ordinal F_DELETED_DATA_ordinal (by decide)
  have n_INSERTED_DATA_DELETED := Fld.ne F_INSERTED_DATA_ordinal F_DELETED_ordinal (by decide)
  have n_INSERTED_DATA_DELETED_WHERE := Fld.ne F_INSERTED_DATA_ordinal F_DELETED_WHERE_ordinal (by decide)
  have n_INSERTED_DATA_DELETED_DATA := Fld.ne F_INSERTED_DATA_ordinal F_DELETED_DATA_ordinal (by decide)
  have n_DELETED_DELETED_WHERE := Fld.ne F_DELETED_ordinal F_DELETED_WHERE_ordinal (by decide)
  have n_DELETED_DELETED_DATA := Fld.ne F_DELETED_ordinal F_DELETED_DATA_ordinal (by decide)
  have n_DELETED_WHERE_DELETED_DATA := Fld.ne F_DELETED_WHERE_ordinal F_DELETED_DATA_ordinal (by decide)
  obtain ⟨n, o, h1, h2, h3, _, L, rfl, ⟨rfl, N⟩, hq⟩ := rm0 l s _ hw tables_1 i0 a_PATTERN a_TEMPLATE a_INSERTED_DATA a_DELETED a_DELETED_WHERE a_DELETED_DATA s.heap s.heap.size (Nat.le_refl _) S_PATTERN S_TEMPLATE S_INSERTED_DATA S_DELETED S_DELETED_WHERE S_DELETED_DATA E_PATTERN E_TEMPLATE E_INSERTED_DATA E_DELETED E_DELETED_WHERE E_DELETED_DATA n_PATTERN_TEMPLATE n_PATTERN_INSERTED_DATA n_PATTERN_DELETED n_PATTERN_DELETED_WHERE n_PATTERN_DELETED_DATA n_TEMPLATE_INSERTED_DATA n_TEMPLATE_DELETED n_TEMPLATE_DELETED_WHERE n_TEMPLATE_DELETED_DATA n_INSERTED_DATA_DELETED n_INSERTED_DATA_DELETED_WHERE n_INSERTED_DATA_DELETED_DATA n_DELETED_DELETED_WHERE n_DELETED_DELETED_DATA n_DELETED_WHERE_DELETED_DATA p e ha hc hk s m _ below hf ((Spec.applies_iff_loose hf).mp happ).1 ⟨rfl, State.Warmed39.refl s, rfl⟩ trivial
  refine ⟨n, _, h1, h2, h3, hpost _ _ _ _ _ _ ⟨Cond.after_iff.mpr rfl, Cond.after_iff.mpr (eq_i res_at (Term.int_eval (1)) rfl), trivial⟩ ⟨hq.1, hq.2.1, (hq.2.2.sift fun y hy => Or.inr (N y hy)).mono (by decide) (by decide)⟩⟩
theorem main_1_1 : Claimed_1_1 := comes_1 fun _ _ _ _ _ _ h hF => ⟨h.1, hF⟩
theorem main_1_2 : Claimed_1_2 := comes_1 fun _ _ _ _ _ _ h hF => ⟨h.2.1, hF⟩
end Jvm.Pilot.@@N@@
namespace Jvm.Pilot.@@N@@
open Jvm Jvm.ClassFile Sem Op Lib Jvm.Free Jvm.Stand Jvm.Pilot.@@N@@.Jvm.D
/-! MADE BY PROGRAM (witnessworld.py) out of the Statement's table words and the real class files: 12 classes; the members and pool entries that the words name. The judged class is class 1, her method 1. -/
namespace start1
open Jvm.ClassFile
def u (s : String) : CpInfo := .utf8 (stringToUtf16 s)
/-- a pool by its gaps: so many unusable entries, then the entry; so many at the end -/
def gap : Nat → List CpInfo → List CpInfo
  | 0, r => r
  | n + 1, r => .unusable :: gap n r
def poolList (es : List (Nat × CpInfo)) (last : Nat) : List CpInfo := es.foldr (fun e r => gap e.1 (e.2 :: r)) (gap last [])
def pool (es : List (Nat × CpInfo)) (last : Nat) : Array CpInfo := ⟨poolList es last⟩
def fileOf (pool : Array CpInfo) (this : Nat) (attrs : Array Attribute := #[]) (ms : Array MethodInfo := #[]) (fl : Nat := 33) (sup : Nat := 0) (ifs : Array Nat := #[]) (fds : Array FieldInfo := #[]) : ClassFile where
  minorVersion := 0
  majorVersion := 65
  constantPool := pool
  accessFlags := fl
  thisClass := this
  superClass := sup
  interfaces := ifs
  fields := fds
  methods := ms
  attributes := attrs
def plain (name : String) (sup : Option ClassId) : Class where
  name := name
  kind := .ordinary
  loader := none
  accessFlags := 33
  super := sup
  interfaces := #[]
  cf := none
  fields := #[]
  methods := #[]
  instanceTypes := #[]
  staticTypes := #[]
  resolved := #[]
  callSites := []
  init := .initialized
  statics := none
  mirror := none

def pool0 : Array CpInfo := pool [(5, u "<init>"), (0, u "()V"), (1, .class_ 10), (1, u "java/lang/Object")] 113

def k0m0 : Method := { name := "<init>", desc := "()V", sig := { parameters := [], returnType := none }, accessFlags := 1, code := none }
/-- java/lang/Object -/
def k0 : Class := { plain "java/lang/Object" none with
  accessFlags := 33
  interfaces := #[]
  cf := some (fileOf pool0 8 #[] #[{ accessFlags := 1, nameIndex := 5, descriptorIndex := 6, attributes := #[] }] 33 0 #[] #[])
  fields := #[]
  methods := #[k0m0]
  instanceTypes := #[]
  staticTypes := #[]
  resolved := Array.replicate 124 none
  statics := none }

def pool1 : Array CpInfo := pool [(2, .class_ 4), (1, u "java/lang/Object"), (0, u "<init>"), (0, u "()V"), (0, .integer 2147483647), (0, .fieldref 9 10), (0, .class_ 11), (0, .nameAndType 12 13), (0, u "com/example/committed_quads/committedquads/QueryParser$Triples"), (0, u "PATTERN"), (0, u "Lcom/example/committed_quads/committedquads/QueryParser$Triples;"), (0, .fieldref 9 15), (0, .nameAndType 16 13), (0, u "TEMPLATE"), (0, .fieldref 9 18), (0, .nameAndType 19 13), (0, u "INSERTED_DATA"), (0, .fieldref 9 21), (0, .nameAndType 22 13), (0, u "DELETED"), (0, .fieldref 9 24), (0, .nameAndType 25 13), (0, u "DELETED_WHERE"), (0, .fieldref 9 27), (0, .nameAndType 28 13), (0, u "DELETED_DATA"), (0, .methodref 9 30), (0, .nameAndType 31 32), (0, u "refusesBlankNodes"), (0, u "()Z"), (0, .class_ 34), (0, u "com/example/committed_quads/committedquads/TriplesRefusesBlankNodesPinLaw"), (2, u "law"), (0, u "(I)Z")] 7

def k1m0 : Method := { name := "<init>", desc := "()V", sig := { parameters := [], returnType := none }, accessFlags := 2, code := none }
def k1c1 : Code := { maxStack := 2, maxLocals := 4, code := code, exceptionTable := #[], attributes := #[] }
def k1m1 : Method := { name := "law", desc := "(I)Z", sig := { parameters := [.int], returnType := some .boolean }, accessFlags := 9, code := some k1c1 }
/-- com/example/committed_quads/committedquads/TriplesRefusesBlankNodesPinLaw -/
def k1 : Class := { plain "com/example/committed_quads/committedquads/TriplesRefusesBlankNodesPinLaw" (some 0) with
  accessFlags := 49
  interfaces := #[]
  cf := some (fileOf pool1 33 #[] #[{ accessFlags := 2, nameIndex := 5, descriptorIndex := 6, attributes := #[] }, { accessFlags := 9, nameIndex := 37, descriptorIndex := 38, attributes := #[] }] 49 2 #[] #[])
  fields := #[]
  methods := #[k1m0, k1m1]
  instanceTypes := #[]
  staticTypes := #[]
  resolved := Array.replicate 46 none
  statics := none }

def pool2 : Array CpInfo := pool [(1, .class_ 2), (0, u "java/lang/constant/Constable"), (0, .class_ 4), (0, u "java/lang/Object")] 6

/-- java/lang/constant/Constable -/
def k2 : Class := { plain "java/lang/constant/Constable" (some 0) with
  accessFlags := 1537
  interfaces := #[]
  cf := some (fileOf pool2 1 #[] #[] 1537 3 #[] #[])
  fields := #[]
  methods := #[]
  instanceTypes := #[]
  staticTypes := #[]
  resolved := Array.replicate 11 none
  statics := none }

def pool3 : Array CpInfo := pool [(1, .class_ 2), (0, u "java/lang/Comparable"), (0, .class_ 4), (0, u "java/lang/Object")] 7

/-- java/lang/Comparable -/
def k3 : Class := { plain "java/lang/Comparable" (some 0) with
  accessFlags := 1537
  interfaces := #[]
  cf := some (fileOf pool3 1 #[] #[] 1537 3 #[] #[])
  fields := #[]
  methods := #[]
  instanceTypes := #[]
  staticTypes := #[]
  resolved := Array.replicate 12 none
  statics := none }

def pool4 : Array CpInfo := pool [(1, .class_ 2), (0, u "java/io/Serializable"), (0, .class_ 4), (0, u "java/lang/Object")] 2

/-- java/io/Serializable -/
def k4 : Class := { plain "java/io/Serializable" (some 0) with
  accessFlags := 1537
  interfaces := #[]
  cf := some (fileOf pool4 1 #[] #[] 1537 3 #[] #[])
  fields := #[]
  methods := #[]
  instanceTypes := #[]
  staticTypes := #[]
  resolved := Array.replicate 7 none
  statics := none }

def pool5 : Array CpInfo := pool [(2, .class_ 4), (1, u "java/lang/Enum"), (0, u "name"), (0, u "Ljava/lang/String;"), (2, u "ordinal"), (0, u "I"), (1, .class_ 14), (1, u "java/lang/Object"), (4, u "hash"), (86, .class_ 108), (1, u "java/lang/Enum$EnumDesc"), (2, .class_ 112), (0, u "java/lang/constant/Constable"), (0, .class_ 114), (0, u "java/lang/Comparable"), (0, .class_ 116), (0, u "java/io/Serializable")] 87

/-- java/lang/Enum -/
def k5 : Class := { plain "java/lang/Enum" (some 0) with
  accessFlags := 1057
  interfaces := #[2, 3, 4]
  cf := some (fileOf pool5 2 #[.nestMembers #[106]] #[] 1057 12 #[111, 113, 115] #[{ accessFlags := 18, nameIndex := 5, descriptorIndex := 6, attributes := #[] }, { accessFlags := 18, nameIndex := 9, descriptorIndex := 10, attributes := #[] }, { accessFlags := 2, nameIndex := 19, descriptorIndex := 10, attributes := #[] }])
  fields := #[{ name := "name", type := (.object "java/lang/String"), accessFlags := 18, slot := 0, constantValue := 0 }, { name := "ordinal", type := .int, accessFlags := 18, slot := 1, constantValue := 0 }, { name := "hash", type := .int, accessFlags := 2, slot := 2, constantValue := 0 }]
  methods := #[]
  instanceTypes := #[(.object "java/lang/String"), .int, .int]
  staticTypes := #[]
  resolved := Array.replicate 204 none
  statics := none }

def pool6 : Array CpInfo := pool [(1, .class_ 2), (0, u "com/example/committed_quads/committedquads/QueryParser$Triples"), (2, u "PATTERN"), (0, u "Lcom/example/committed_quads/committedquads/QueryParser$Triples;"), (2, u "TEMPLATE"), (2, u "INSERTED_DATA"), (0, .fieldref 1 14), (0, .nameAndType 15 6), (0, u "DELETED"), (0, .fieldref 1 17), (0, .nameAndType 18 6), (0, u "DELETED_WHERE"), (0, .fieldref 1 20), (0, .nameAndType 21 6), (0, u "DELETED_DATA"), (2, u "$VALUES"), (0, u "[Lcom/example/committed_quads/committedquads/QueryParser$Triples;"), (6, .class_ 34), (1, u "java/lang/Enum"), (25, u "()Z"), (1, u "refusesBlankNodes"), (6, .class_ 70), (0, u "com/example/committed_quads/committedquads/QueryParser")] 2

def k6c0 : Code := { maxStack := 2, maxLocals := 1, code := prog_108_method_5_code, exceptionTable := #[], attributes := #[] }
def k6m0 : Method := { name := "refusesBlankNodes", desc := "()Z", sig := { parameters := [], returnType := some .boolean }, accessFlags := 0, code := some k6c0 }
/-- com/example/committed_quads/committedquads/QueryParser$Triples -/
def k6 : Class := { plain "com/example/committed_quads/committedquads/QueryParser$Triples" (some 5) with
  accessFlags := 16432
  interfaces := #[]
  cf := some (fileOf pool6 1 #[.nestHost 69] #[{ accessFlags := 0, nameIndex := 62, descriptorIndex := 60, attributes := #[] }] 16432 32 #[] #[{ accessFlags := 16409, nameIndex := 5, descriptorIndex := 6, attributes := #[] }, { accessFlags := 16409, nameIndex := 9, descriptorIndex := 6, attributes := #[] }, { accessFlags := 16409, nameIndex := 12, descriptorIndex := 6, attributes := #[] }, { accessFlags := 16409, nameIndex := 15, descriptorIndex := 6, attributes := #[] }, { accessFlags := 16409, nameIndex := 18, descriptorIndex := 6, attributes := #[] }, { accessFlags := 16409, nameIndex := 21, descriptorIndex := 6, attributes := #[] }, { accessFlags := 4122, nameIndex := 24, descriptorIndex := 25, attributes := #[] }])
  fields := #[{ name := "PATTERN", type := (.object "com/example/committed_quads/committedquads/QueryParser$Triples"), accessFlags := 16409, slot := 0, constantValue := 0 }, { name := "TEMPLATE", type := (.object "com/example/committed_quads/committedquads/QueryParser$Triples"), accessFlags := 16409, slot := 1, constantValue := 0 }, { name := "INSERTED_DATA", type := (.object "com/example/committed_quads/committedquads/QueryParser$Triples"), accessFlags := 16409, slot := 2, constantValue := 0 }, { name := "DELETED", type := (.object "com/example/committed_quads/committedquads/QueryParser$Triples"), accessFlags := 16409, slot := 3, constantValue := 0 }, { name := "DELETED_WHERE", type := (.object "com/example/committed_quads/committedquads/QueryParser$Triples"), accessFlags := 16409, slot := 4, constantValue := 0 }, { name := "DELETED_DATA", type := (.object "com/example/committed_quads/committedquads/QueryParser$Triples"), accessFlags := 16409, slot := 5, constantValue := 0 }, { name := "$VALUES", type := (.array (.object "com/example/committed_quads/committedquads/QueryParser$Triples")), accessFlags := 4122, slot := 6, constantValue := 0 }]
  methods := #[k6m0]
  instanceTypes := #[(.object "java/lang/String"), .int, .int]
  staticTypes := #[(.object "com/example/committed_quads/committedquads/QueryParser$Triples"), (.object "com/example/committed_quads/committedquads/QueryParser$Triples"), (.object "com/example/committed_quads/committedquads/QueryParser$Triples"), (.object "com/example/committed_quads/committedquads/QueryParser$Triples"), (.object "com/example/committed_quads/committedquads/QueryParser$Triples"), (.object "com/example/committed_quads/committedquads/QueryParser$Triples"), (.array (.object "com/example/committed_quads/committedquads/QueryParser$Triples"))]
  resolved := Array.replicate 73 none
  statics := some 0 }

def pool7 : Array CpInfo := pool [(1, u "java/lang/Cloneable"), (0, .class_ 1), (0, u "java/lang/Object"), (0, .class_ 3)] 3

/-- java/lang/Cloneable -/
def k7 : Class := { plain "java/lang/Cloneable" (some 0) with
  accessFlags := 1537
  interfaces := #[]
  cf := some (fileOf pool7 2 #[] #[] 1537 4 #[] #[])
  fields := #[]
  methods := #[]
  instanceTypes := #[]
  staticTypes := #[]
  resolved := Array.replicate 8 none
  statics := none }

/-- the primitive byte -/
def k8 : Class := { plain "byte" none with kind := .primitive 'B', accessFlags := 0x411 }
/-- [B -/
def k9 : Class := { plain "[B" (some 0) with kind := .array 8 .byte, interfaces := #[7, 4], accessFlags := 1041 }

/-- the primitive int -/
def k10 : Class := { plain "int" none with kind := .primitive 'I', accessFlags := 0x411 }
/-- [I -/
def k11 : Class := { plain "[I" (some 0) with kind := .array 10 .int, interfaces := #[7, 4], accessFlags := 1041 }

def heap : Heap := #[{ cls := 6, slots := #[.ref 1, .ref 2, .ref 3, .ref 4, .ref 5, .ref 6, .null], vm := .statics 6 },
  { cls := 6, slots := #[.null, .int 0, .int 0], vm := .none },
  { cls := 6, slots := #[.null, .int 1, .int 0], vm := .none },
  { cls := 6, slots := #[.null, .int 2, .int 0], vm := .none },
  { cls := 6, slots := #[.null, .int 3, .int 0], vm := .none },
  { cls := 6, slots := #[.null, .int 4, .int 0], vm := .none },
  { cls := 6, slots := #[.null, .int 5, .int 0], vm := .none }]
def classes : Array Class := #[k0, k1, k2, k3, k4, k5, k6, k7, k8, k9, k10, k11]
def interned : List (Array UInt16 × Addr) := []
def slotsUsed : Nat := 25
def theMethod : MethodId := ⟨1, 1⟩
def args0 : Array Value := #[.int 5]
def aboutOver (below : List Frame) : State where
  vm := { classes := classes, interned := interned.toArray }
  heap := heap
  slotsUsed := slotsUsed
  threads := #[{ frames := .invoking theMethod args0 :: below }]
def below0 : List Frame := [.native { method := ⟨0, 0⟩, args := #[] }]
def about1 : State := aboutOver below0
def p0 : Program := .bare "" "" ""
def e0 : Env := launch0.env 0 0 0
theorem w_frames : about1.frames = Frame.invoking theMethod args0 :: below0 := rfl
set_option maxRecDepth 65536 in
theorem w_args : argsFit about1.vm theMethod args0 = true := by decide +kernel
set_option maxRecDepth 65536 in
theorem w_heap : heapFits about1 = true := by decide +kernel
set_option maxRecDepth 65536 in
theorem w_runnable : about1.curStatus? = some .runnable := by decide +kernel
set_option maxRecDepth 65536 in
theorem w_alone : about1.alone = true := by decide +kernel
set_option maxRecDepth 65536 in
theorem w_named : about1.methodNamed? x = some theMethod := by decide +kernel
set_option maxRecDepth 65536 in
theorem w_hears : about1.hears theMethod below0 = true := by decide +kernel
set_option maxRecDepth 65536 in
theorem w_ripe : about1.ripe theMethod args0 below0 = true := by decide +kernel
theorem w_running : about1.status = .running := rfl
set_option maxRecDepth 65536 in
theorem w_room : about1.hasRoom e0.platform room_1 = true :=
  launch0.hasRoom_least _ room_1 (by decide +kernel) (by decide +kernel) (by decide +kernel) (by decide +kernel) (by decide +kernel) (by decide +kernel)
theorem allAtoms_all (ts : List Jvm.Cond) (a : Array Jvm.Value) (st : Jvm.State) : (allAtoms ts).before a st = ts.all (fun c => c.before a st) := by
  induction ts with
  | nil => rfl
  | cons c t ih =>
    show (Jvm.Cond.and c (allAtoms t)).before a st = _
    rw [Jvm.Cond.before_and, ih, List.all_cons]
def words1 : List Jvm.Cond := Jvm.Cond.code x code maxLocals ret :: tables_1
/-- a 'code' word, met by the world's own term for the bytes: nothing is compared byte by byte -/
theorem code_word {y : MethodName} {bytes : ByteArray} {mx : Nat} {rt : Option FieldType} {a : Array Value} {s : State} {m : MethodId} {meth : Method} {c : Code} (h1 : s.methodNamed? y = some m) (h2 : s.vm.method? m = some meth) (h3 : meth.code = some c) (h4 : c.code = bytes)
    (h5 : (c.maxLocals == mx && c.exceptionTable.isEmpty && decide (c.maxStack ≤ mostOperands) && decide (meth.sig.returnType = rt) && !meth.locks && decide (parseMethodDescriptor y.desc = some meth.sig)) = true) : (Jvm.Cond.code y bytes mx rt).before a s = true := by
  simp only [Bool.and_eq_true, beq_iff_eq, Bool.not_eq_true', decide_eq_true_eq] at h5
  obtain ⟨⟨⟨⟨⟨g1, g2⟩, g3⟩, g4⟩, g5⟩, g6⟩ := h5
  simp [Cond.before, Cond.holds, Cond.value, h1, h2, h3, h4, g1, g2, g3, g4, g5, g6]
def isCode : Jvm.Cond → Bool
  | .code _ _ _ _ => true
  | _ => false
theorem all_split {L : List Jvm.Cond} {P : Jvm.Cond → Bool} (h1 : L.all (fun c => isCode c || P c) = true) (h2 : ∀ c ∈ L.filter isCode, P c = true) : L.all P = true := by
  refine List.all_eq_true.mpr fun c hc => ?_
  have h := List.all_eq_true.mp h1 c hc
  rcases Bool.eq_false_or_eq_true (isCode c) with hi | hi
  · exact h2 c (List.mem_filter.mpr ⟨hc, hi⟩)
  · simpa [hi] using h
set_option maxRecDepth 65536 in
theorem w_c0 : (Jvm.Cond.code x code maxLocals ret).before args0 about1 = true := code_word (m := ⟨1, 1⟩) (meth := k1m1) (c := k1c1) (by decide +kernel) rfl rfl rfl (by decide +kernel)
set_option maxRecDepth 65536 in
theorem w_c1 : (Jvm.Cond.code ({ cls := "com/example/committed_quads/committedquads/QueryParser$Triples", name := "refusesBlankNodes", desc := "()Z" } : Jvm.MethodName) prog_108_method_5_code (1 : Nat) (Option.some Jvm.ClassFile.FieldType.boolean)).before args0 about1 = true := code_word (m := ⟨6, 0⟩) (meth := k6m0) (c := k6c0) (by decide +kernel) rfl rfl rfl (by decide +kernel)
def codes1 : List Jvm.Cond := [Jvm.Cond.code x code maxLocals ret, Jvm.Cond.code ({ cls := "com/example/committed_quads/committedquads/QueryParser$Triples", name := "refusesBlankNodes", desc := "()Z" } : Jvm.MethodName) prog_108_method_5_code (1 : Nat) (Option.some Jvm.ClassFile.FieldType.boolean)]
set_option maxRecDepth 65536 in
theorem codes_eq : words1.filter isCode = codes1 := rfl
theorem w_codes : ∀ c ∈ words1.filter isCode, c.before args0 about1 = true := by
  rw [codes_eq]
  intro c hc
  simp only [codes1, List.mem_cons, List.not_mem_nil, or_false] at hc
  rcases hc with rfl | rfl
  · exact w_c0
  · exact w_c1
set_option maxRecDepth 65536 in
theorem w_t1 : words1.all (fun c => isCode c || c.before args0 about1) = true := by decide +kernel
theorem w_tables : (allAtoms (Jvm.Cond.code x code maxLocals ret :: tables_1)).before args0 about1 = true := by
  rw [allAtoms_all]
  show words1.all (fun c => c.before args0 about1) = true
  refine all_split ?_ w_codes
  rw [w_t1]
set_option maxRecDepth 65536 in
theorem w_case : (Jvm.Cond.and given_1 narrow_1).before args0 about1 = true := by decide +kernel
theorem w_applies : (headSpec (Jvm.Cond.code x code maxLocals ret :: tables_1) room_1).applies x e0.platform about1 = true :=
  (Spec.applies_iff w_frames).mpr ⟨w_running, w_runnable, w_alone, w_named, w_hears, w_ripe, w_room, w_tables⟩
theorem atStart : AtStart classFile x code maxLocals ret World_1 tables_1 room_1 Calls_1 rest_1 Pre_1 launch0 p0 e0 about1 theMethod args0 below0 :=
  ⟨lists_1, trivial, launch0.admits_env _ _ _, launch0.least_env, fairChoices_fair.cas, fairChoices_fair.clock, w_frames, w_args, w_heap, w_applies, trivial, trivial, w_case⟩
end start1
theorem witness_1 : WitnessClaimed_1 := ⟨start1.p0, start1.e0, start1.about1, start1.theMethod, start1.args0, start1.below0, start1.atStart⟩
end Jvm.Pilot.@@N@@
