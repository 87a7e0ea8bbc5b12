import JvmDerived
import JvmDerived.Pilot.@@N@@Statement
import JvmDerived.Pilot.@@N@@Code
set_option linter.unusedVariables false
set_option linter.unusedSimpArgs false
namespace Jvm.RoadKit
open Sem ClassFile Op Lib Jvm.Stand Jvm.Free Jvm.LawKit
section New
variable {p : Program} {l : Launch} {e : Env} {R : Room} {s : State} {m : MethodId} {args : Array Value} {below : List Frame} {meth : Method} {c : Code} {T : State} {locs : List Loc} {cells slots : Nat}
theorem retI (X : Stand p l e R s m args below meth c T locs cells slots) (hx : p.tables.exec = Jvm.exec) {pc : Nat} {Ls : Array Slot} {z : Int32} {rest : List Value} (hret : meth.sig.returnType = some .int) (hd : decode c.code pc = .ok (.ireturn, 1)) {fs : List Frame}
    (hl : ∀ (f : JFrame) (acts : List Action), f.method = m → f.locked = none → f.entered = [] → (doReturn e (T.setTop f) acts (some (.int z))).1 = T.setFrames fs) : Steps p.tables e below (T.setTop (mkF m pc Ls (.int z :: rest))) (T.setFrames fs) :=
  retOut X hx hret rfl (Or.inl ⟨rfl, Or.inl rfl, z, rfl⟩) hd hl
end New
end Jvm.RoadKit
namespace Jvm.Pilot.@@N@@
open Jvm Jvm.ClassFile Sem Op Lib Jvm.Free Jvm.Stand Jvm.LawKit Jvm.RoadKit Bundle Jvm.Pilot.@@N@@.Jvm.D
theorem eq_ints_own {args : Array Value} {s : State} {a b : Term} {x y : Int32} (ha : a.eval args s none [] s = some (.int x)) (hb : b.eval args s none [] s = some (.int y)) : (Jvm.Cond.eq a b).value args s none s [] = some (decide (x = y)) := by simp [Cond.value, ha, hb]
theorem own_feq {args : Array Value} {s : State} {t : Term} {x : Addr} {C n d : String} {k : Int32} (ht : t.eval args s none [] s = some (.ref x)) (h : (Jvm.Cond.eq (.field t C n d) (.int k)).value args s none s [] = some true) : s.fieldOf? x C n d = some (.int k) := by
  obtain ⟨u, v, h1, h2, -, k2⟩ := cmp_v (Or.inl h)
  have e2 : v = .int k := Option.some.inj (h2.symm.trans (Term.int_eval k))
  subst e2
  obtain ⟨z, rfl⟩ := k2
  rw [fld_at ht] at h1
  rw [h1]
  have e := gotT (eq_ints_own (by rw [fld_at ht]; exact h1) (Term.int_eval k)) h
  rw [e]
def own_pick (k : Int32) (aI aU aD aT : Addr) : Addr := if k = (0 : Int32) then aI else if k = (1 : Int32) then aU else if k = (2 : Int32) then aD else aT
def own_two (a b c : Addr) : Int32 := if a = b then 1 else if a = c then 1 else 0
theorem own_pickE {Z : State} {h : Heap} {C : String} {k : Int32} {aI aU aD aT : Addr} (h1 : Exa Z h aI C) (h2 : Exa Z h aU C) (h3 : Exa Z h aD C) (h4 : Exa Z h aT C) : Exa Z h (own_pick k aI aU aD aT) C := by
  unfold own_pick
  split
  · exact h1
  · split
    · exact h2
    · split
      · exact h3
      · exact h4
theorem own_four (x : Int32) : (x &&& (3 : Int32)) = 0 ∨ (x &&& (3 : Int32)) = 1 ∨ (x &&& (3 : Int32)) = 2 ∨ (x &&& (3 : Int32)) = 3 := by
  have h1 := c_mask x 3 2 (by decide) (by decide)
  have z0 : (0 : Int32).toInt = 0 := rfl
  have z1 : (1 : Int32).toInt = 1 := rfl
  have z2 : (2 : Int32).toInt = 2 := rfl
  have z3 : (3 : Int32).toInt = 3 := rfl
  simp only [← Int32.toInt_inj, z0, z1, z2, z3, h1]
  omega
theorem d1_0 : decode method_2_code 0 = .ok (.iload_n 0, 1) := by decide +kernel
theorem d1_1 : decode method_2_code 1 = .ok (.ifCond .ne 7, 3) := by decide +kernel
theorem d1_4 : decode method_2_code 4 = .ok (.getstatic 7, 3) := by decide +kernel
theorem d1_7 : decode method_2_code 7 = .ok (.areturn, 1) := by decide +kernel
theorem d1_8 : decode method_2_code 8 = .ok (.iload_n 0, 1) := by decide +kernel
theorem d1_9 : decode method_2_code 9 = .ok (.iconst 1, 1) := by decide +kernel
theorem d1_10 : decode method_2_code 10 = .ok (.if_icmp .ne 7, 3) := by decide +kernel
theorem d1_13 : decode method_2_code 13 = .ok (.getstatic 13, 3) := by decide +kernel
theorem d1_16 : decode method_2_code 16 = .ok (.areturn, 1) := by decide +kernel
theorem d1_17 : decode method_2_code 17 = .ok (.iload_n 0, 1) := by decide +kernel
theorem d1_18 : decode method_2_code 18 = .ok (.iconst 2, 1) := by decide +kernel
theorem d1_19 : decode method_2_code 19 = .ok (.if_icmp .ne 7, 3) := by decide +kernel
theorem d1_22 : decode method_2_code 22 = .ok (.getstatic 16, 3) := by decide +kernel
theorem d1_25 : decode method_2_code 25 = .ok (.areturn, 1) := by decide +kernel
theorem d1_26 : decode method_2_code 26 = .ok (.getstatic 19, 3) := by decide +kernel
theorem d1_29 : decode method_2_code 29 = .ok (.areturn, 1) := by decide +kernel
theorem pn_0 : plainName "com/example/wakelog/wakelog/log/OpHasBeforePinLaw" = true := by first | (simp [plainName, overriddenIn]; done) | decide +kernel
theorem ef_1 (m : MethodId) (x0 : Int32) : entryFrame m #[(.int x0)] 1 = mkF m 0 #[.val (.int x0)] [] := by first | (simp [entryFrame, mkF, argsToLocals, Value.category]; done) | rfl
def Q1 (Z : State) (p0 : Int32) (aI : Addr) (aU : Addr) (aD : Addr) (aT : Addr) (h0 : Heap) (n0 : Nat) (v : Option Value) (h : Heap) (L : List Loc) : Prop := v = some (.ref (own_pick p0 aI aU aD aT)) ∧ Fr n0 L ∧ h = h0
set_option maxRecDepth 65536 in
set_option maxHeartbeats 40000000 in
theorem rm1 (l : Launch) (Z : State) (a0 : Array Value) (hw : ∀ d ∈ tables_1, d.before a0 Z = true) (ws : List Jvm.Cond) (p0 : Int32) (aI : Addr) (aU : Addr) (aD : Addr) (aT : Addr) (h0 : Heap) (n0 : Nat) (Z0 : n0 ≤ h0.size) (S_aI : Sta Z h0 "com/example/wakelog/wakelog/log/Op" "INSERT" "Lcom/example/wakelog/wakelog/log/Op;" (.ref aI)) (S_aU : Sta Z h0 "com/example/wakelog/wakelog/log/Op" "UPDATE" "Lcom/example/wakelog/wakelog/log/Op;" (.ref aU)) (S_aD : Sta Z h0 "com/example/wakelog/wakelog/log/Op" "DELETE" "Lcom/example/wakelog/wakelog/log/Op;" (.ref aD)) (S_aT : Sta Z h0 "com/example/wakelog/wakelog/log/Op" "TRUNCATE" "Lcom/example/wakelog/wakelog/log/Op;" (.ref aT)) :
    MetFree l (⟨"com/example/wakelog/wakelog/log/OpHasBeforePinLaw", "pick", "(I)Lcom/example/wakelog/wakelog/log/Op;"⟩ : MethodName) (head1 (Jvm.Cond.code (⟨"com/example/wakelog/wakelog/log/OpHasBeforePinLaw", "pick", "(I)Lcom/example/wakelog/wakelog/log/Op;"⟩ : MethodName) method_2_code 1 (some (.object "com/example/wakelog/wakelog/log/Op")) :: ws) ({ frames := 0, cells := 0, slots := 0, locals := 0 } : Room)) (fun aa U => aa = #[(.int p0)] ∧ Z.Warmed39 U.vm ∧ U.heap = h0) (fun _ _ _ _ _ => True) (fun _ U o U' => ∃ v L, o = .returned v ∧ Q1 Z p0 aI aU aD aT h0 n0 v U'.heap L ∧ FrameEnd U o U' L ({ frames := 0, cells := 0, slots := 0, locals := 0 } : Room).cells ({ frames := 0, cells := 0, slots := 0, locals := 0 } : Room).slots) := by
  refine MetFree.of_bodySF (plainFor_of_name pn_0) hisR ?_
  intro p e s m args below meth c s₁ Bd hml0 hP hK
  obtain ⟨rfl, hZ, hh⟩ := hP
  have hx := Bd.exec
  have hby := Bd.bytes
  have hml : c.maxLocals = 1 := hml0
  have hown : s.vm.findClass "com/example/wakelog/wakelog/log/OpHasBeforePinLaw" = some m.cls := findClass_of_methodNamed Bd.named
  have hnm := (name_of_methodNamed Bd.named Bd.method).1
  have X0 : Stand p l e ({ frames := 0, cells := 0, slots := 0, locals := 0 } : Room) s m #[(.int p0)] below meth c s₁ [] 0 0 := Stand.of_body Bd
  have e0 : s₁.heap = h0 := by rw [← hh, Bd.state]; rfl
  have N0 := Fr.nil n0
  have pre0 : ∀ t, Steps p.tables e below (s₁.setTop (mkF m 0 #[.val (.int p0)] [])) t → Steps p.tables e below (s₁.setTop (entryFrame m #[(.int p0)] 1)) t := fun t k => castTop (ef_1 m p0) k
  have k1 : ∀ t, Steps p.tables e below (s₁.setTop (mkF m 1 #[.val (.int p0)] [(.int p0)])) t → Steps p.tables e below (s₁.setTop (entryFrame m #[(.int p0)] 1)) t := fun t k => pre0 t (by
    show Steps p.tables e below (s₁.setTop (mkF m 0 #[.val (.int p0)] [])) _
    refine XS.iloadN X0.here hx rfl (hb hby d1_0) rfl ?_
    exact k)
  by_cases hc2 : p0 = (0 : Int32)
  · have k3 : ∀ t, Steps p.tables e below (s₁.setTop (mkF m 4 #[.val (.int p0)] [])) t → Steps p.tables e below (s₁.setTop (entryFrame m #[(.int p0)] 1)) t := fun t k => k1 t (by
      show Steps p.tables e below (s₁.setTop (mkF m 1 #[.val (.int p0)] [(.int p0)])) _
      refine XS.ifNo X0.here hx rfl (hb hby d1_1) rfl ((if0 _ _).trans (teq hc2).2) ?_
      exact k)
    obtain ⟨T4, X4, e4, st4⟩ := getS (host := "") X0 hx hZ hown (hw _ (List.mem_of_getElem? (i := 4) rfl)) Via.refl e0 S_aI (g := (mkF m 4 #[.val (.int p0)] [])) rfl (hb hby d1_4)
    have k5 : ∀ t, Steps p.tables e below (T4.setTop (mkF m 7 #[.val (.int p0)] [(.ref aI)])) t → Steps p.tables e below (s₁.setTop (entryFrame m #[(.int p0)] 1)) t := fun t k => k3 t (st4 t k)
    obtain ⟨fs, hr, hrun, hended, hW, hsame⟩ := X4.leave (v := some (.ref aI)) (fun h => by rw [Bd.returns] at h; cases h)
    refine ⟨_, _, k5 _ ?_, hrun, hended, _, _, rfl, ?_, ⟨_, rfl⟩, hW, hsame.mono (by decide) (by decide)⟩
    · show Steps p.tables e below (T4.setTop (mkF m 7 #[.val (.int p0)] [(.ref aI)])) _
      exact retOut X4 hx Bd.returns rfl (Or.inr (Or.inr (Or.inr (Or.inr ⟨rfl, rfl, rfl⟩)))) (hb hby d1_7) hr
    · show Q1 Z p0 aI aU aD aT h0 n0 _ T4.heap _
      rw [e4]
      exact ⟨congrArg (fun z => some (Value.ref z)) (show (aI : Addr) = own_pick p0 aI aU aD aT by unfold own_pick; simp only [if_pos hc2]), N0, rfl⟩
  · have k7 : ∀ t, Steps p.tables e below (s₁.setTop (mkF m 10 #[.val (.int p0)] [(.int (1 : Int32)), (.int p0)])) t → Steps p.tables e below (s₁.setTop (entryFrame m #[(.int p0)] 1)) t := fun t k => k1 t (by
      show Steps p.tables e below (s₁.setTop (mkF m 1 #[.val (.int p0)] [(.int p0)])) _
      refine XS.ifYes X0.here hx rfl (pc0 := 1) (pc' := 8) rfl (hb hby d1_1) rfl ((if0 _ _).trans (feq hc2).2) (by decide) (by decide) ?_
      show Steps p.tables e below (s₁.setTop (mkF m 8 #[.val (.int p0)] [])) _
      refine XS.iloadN X0.here hx rfl (hb hby d1_8) rfl ?_
      show Steps p.tables e below (s₁.setTop (mkF m 9 #[.val (.int p0)] [(.int p0)])) _
      refine XS.iconst X0.here hx rfl (hb hby d1_9) ?_
      exact k)
    by_cases hc8 : p0 = (1 : Int32)
    · have k9 : ∀ t, Steps p.tables e below (s₁.setTop (mkF m 13 #[.val (.int p0)] [])) t → Steps p.tables e below (s₁.setTop (entryFrame m #[(.int p0)] 1)) t := fun t k => k7 t (by
        show Steps p.tables e below (s₁.setTop (mkF m 10 #[.val (.int p0)] [(.int (1 : Int32)), (.int p0)])) _
        refine XS.icmpNo X0.here hx rfl (hb hby d1_10) rfl (teq hc8).2 ?_
        exact k)
      obtain ⟨T10, X10, e10, st10⟩ := getS (host := "") X0 hx hZ hown (hw _ (List.mem_of_getElem? (i := 25) rfl)) Via.refl e0 S_aU (g := (mkF m 13 #[.val (.int p0)] [])) rfl (hb hby d1_13)
      have k11 : ∀ t, Steps p.tables e below (T10.setTop (mkF m 16 #[.val (.int p0)] [(.ref aU)])) t → Steps p.tables e below (s₁.setTop (entryFrame m #[(.int p0)] 1)) t := fun t k => k9 t (st10 t k)
      obtain ⟨fs, hr, hrun, hended, hW, hsame⟩ := X10.leave (v := some (.ref aU)) (fun h => by rw [Bd.returns] at h; cases h)
      refine ⟨_, _, k11 _ ?_, hrun, hended, _, _, rfl, ?_, ⟨_, rfl⟩, hW, hsame.mono (by decide) (by decide)⟩
      · show Steps p.tables e below (T10.setTop (mkF m 16 #[.val (.int p0)] [(.ref aU)])) _
        exact retOut X10 hx Bd.returns rfl (Or.inr (Or.inr (Or.inr (Or.inr ⟨rfl, rfl, rfl⟩)))) (hb hby d1_16) hr
      · show Q1 Z p0 aI aU aD aT h0 n0 _ T10.heap _
        rw [e10]
        exact ⟨congrArg (fun z => some (Value.ref z)) (show (aU : Addr) = own_pick p0 aI aU aD aT by unfold own_pick; simp only [if_neg hc2, if_pos hc8]), N0, rfl⟩
    · have k13 : ∀ t, Steps p.tables e below (s₁.setTop (mkF m 19 #[.val (.int p0)] [(.int (2 : Int32)), (.int p0)])) t → Steps p.tables e below (s₁.setTop (entryFrame m #[(.int p0)] 1)) t := fun t k => k7 t (by
        show Steps p.tables e below (s₁.setTop (mkF m 10 #[.val (.int p0)] [(.int (1 : Int32)), (.int p0)])) _
        refine XS.icmpYes X0.here hx rfl (pc0 := 10) (pc' := 17) rfl (hb hby d1_10) rfl (feq hc8).2 (by decide) (by decide) ?_
        show Steps p.tables e below (s₁.setTop (mkF m 17 #[.val (.int p0)] [])) _
        refine XS.iloadN X0.here hx rfl (hb hby d1_17) rfl ?_
        show Steps p.tables e below (s₁.setTop (mkF m 18 #[.val (.int p0)] [(.int p0)])) _
        refine XS.iconst X0.here hx rfl (hb hby d1_18) ?_
        exact k)
      by_cases hc14 : p0 = (2 : Int32)
      · have k15 : ∀ t, Steps p.tables e below (s₁.setTop (mkF m 22 #[.val (.int p0)] [])) t → Steps p.tables e below (s₁.setTop (entryFrame m #[(.int p0)] 1)) t := fun t k => k13 t (by
          show Steps p.tables e below (s₁.setTop (mkF m 19 #[.val (.int p0)] [(.int (2 : Int32)), (.int p0)])) _
          refine XS.icmpNo X0.here hx rfl (hb hby d1_19) rfl (teq hc14).2 ?_
          exact k)
        obtain ⟨T16, X16, e16, st16⟩ := getS (host := "") X0 hx hZ hown (hw _ (List.mem_of_getElem? (i := 24) rfl)) Via.refl e0 S_aD (g := (mkF m 22 #[.val (.int p0)] [])) rfl (hb hby d1_22)
        have k17 : ∀ t, Steps p.tables e below (T16.setTop (mkF m 25 #[.val (.int p0)] [(.ref aD)])) t → Steps p.tables e below (s₁.setTop (entryFrame m #[(.int p0)] 1)) t := fun t k => k15 t (st16 t k)
        obtain ⟨fs, hr, hrun, hended, hW, hsame⟩ := X16.leave (v := some (.ref aD)) (fun h => by rw [Bd.returns] at h; cases h)
        refine ⟨_, _, k17 _ ?_, hrun, hended, _, _, rfl, ?_, ⟨_, rfl⟩, hW, hsame.mono (by decide) (by decide)⟩
        · show Steps p.tables e below (T16.setTop (mkF m 25 #[.val (.int p0)] [(.ref aD)])) _
          exact retOut X16 hx Bd.returns rfl (Or.inr (Or.inr (Or.inr (Or.inr ⟨rfl, rfl, rfl⟩)))) (hb hby d1_25) hr
        · show Q1 Z p0 aI aU aD aT h0 n0 _ T16.heap _
          rw [e16]
          exact ⟨congrArg (fun z => some (Value.ref z)) (show (aD : Addr) = own_pick p0 aI aU aD aT by unfold own_pick; simp only [if_neg hc2, if_neg hc8, if_pos hc14]), N0, rfl⟩
      · have k19 : ∀ t, Steps p.tables e below (s₁.setTop (mkF m 26 #[.val (.int p0)] [])) t → Steps p.tables e below (s₁.setTop (entryFrame m #[(.int p0)] 1)) t := fun t k => k13 t (by
          show Steps p.tables e below (s₁.setTop (mkF m 19 #[.val (.int p0)] [(.int (2 : Int32)), (.int p0)])) _
          refine XS.icmpYes X0.here hx rfl (pc0 := 19) (pc' := 26) rfl (hb hby d1_19) rfl (feq hc14).2 (by decide) (by decide) ?_
          exact k)
        obtain ⟨T20, X20, e20, st20⟩ := getS (host := "") X0 hx hZ hown (hw _ (List.mem_of_getElem? (i := 22) rfl)) Via.refl e0 S_aT (g := (mkF m 26 #[.val (.int p0)] [])) rfl (hb hby d1_26)
        have k21 : ∀ t, Steps p.tables e below (T20.setTop (mkF m 29 #[.val (.int p0)] [(.ref aT)])) t → Steps p.tables e below (s₁.setTop (entryFrame m #[(.int p0)] 1)) t := fun t k => k19 t (st20 t k)
        obtain ⟨fs, hr, hrun, hended, hW, hsame⟩ := X20.leave (v := some (.ref aT)) (fun h => by rw [Bd.returns] at h; cases h)
        refine ⟨_, _, k21 _ ?_, hrun, hended, _, _, rfl, ?_, ⟨_, rfl⟩, hW, hsame.mono (by decide) (by decide)⟩
        · show Steps p.tables e below (T20.setTop (mkF m 29 #[.val (.int p0)] [(.ref aT)])) _
          exact retOut X20 hx Bd.returns rfl (Or.inr (Or.inr (Or.inr (Or.inr ⟨rfl, rfl, rfl⟩)))) (hb hby d1_29) hr
        · show Q1 Z p0 aI aU aD aT h0 n0 _ T20.heap _
          rw [e20]
          exact ⟨congrArg (fun z => some (Value.ref z)) (show (aT : Addr) = own_pick p0 aI aU aD aT by unfold own_pick; simp only [if_neg hc2, if_neg hc8, if_neg hc14]), N0, rfl⟩
theorem d2_0 : decode prog_63_method_4_code 0 = .ok (.aload_n 0, 1) := by decide +kernel
theorem d2_1 : decode prog_63_method_4_code 1 = .ok (.getstatic 7, 3) := by decide +kernel
theorem d2_4 : decode prog_63_method_4_code 4 = .ok (.if_acmp .eq 10, 3) := by decide +kernel
theorem d2_7 : decode prog_63_method_4_code 7 = .ok (.aload_n 0, 1) := by decide +kernel
theorem d2_8 : decode prog_63_method_4_code 8 = .ok (.getstatic 10, 3) := by decide +kernel
theorem d2_11 : decode prog_63_method_4_code 11 = .ok (.if_acmp .ne 7, 3) := by decide +kernel
theorem d2_14 : decode prog_63_method_4_code 14 = .ok (.iconst 1, 1) := by decide +kernel
theorem d2_15 : decode prog_63_method_4_code 15 = .ok (.goto 4, 3) := by decide +kernel
theorem d2_18 : decode prog_63_method_4_code 18 = .ok (.iconst 0, 1) := by decide +kernel
theorem d2_19 : decode prog_63_method_4_code 19 = .ok (.ireturn, 1) := by decide +kernel
theorem pn_1 : plainName "com/example/wakelog/wakelog/log/Op" = true := by first | (simp [plainName, overriddenIn]; done) | decide +kernel
theorem ef_2 (m : MethodId) (x0 : Addr) : entryFrame m #[(.ref x0)] 1 = mkF m 0 #[.val (.ref x0)] [] := by first | (simp [entryFrame, mkF, argsToLocals, Value.category]; done) | rfl
def Q2 (Z : State) (a : Addr) (aU : Addr) (aD : Addr) (h0 : Heap) (n0 : Nat) (v : Option Value) (h : Heap) (L : List Loc) : Prop := v = some (.int (own_two a aU aD)) ∧ Fr n0 L ∧ h = h0
set_option maxRecDepth 65536 in
set_option maxHeartbeats 40000000 in
theorem rm2 (l : Launch) (Z : State) (a0 : Array Value) (hw : ∀ d ∈ tables_1, d.before a0 Z = true) (ws : List Jvm.Cond) (a : Addr) (aU : Addr) (aD : Addr) (h0 : Heap) (n0 : Nat) (Z0 : n0 ≤ h0.size) (S_aU : Sta Z h0 "com/example/wakelog/wakelog/log/Op" "UPDATE" "Lcom/example/wakelog/wakelog/log/Op;" (.ref aU)) (S_aD : Sta Z h0 "com/example/wakelog/wakelog/log/Op" "DELETE" "Lcom/example/wakelog/wakelog/log/Op;" (.ref aD)) :
    MetFree l (⟨"com/example/wakelog/wakelog/log/Op", "hasBefore", "()Z"⟩ : MethodName) (head1 (Jvm.Cond.code (⟨"com/example/wakelog/wakelog/log/Op", "hasBefore", "()Z"⟩ : MethodName) prog_63_method_4_code 1 (some .boolean) :: ws) ({ frames := 0, cells := 0, slots := 0, locals := 0 } : Room)) (fun aa U => aa = #[(.ref a)] ∧ Z.Warmed39 U.vm ∧ U.heap = h0) (fun _ _ _ _ _ => True) (fun _ U o U' => ∃ v L, o = .returned v ∧ Q2 Z a aU aD h0 n0 v U'.heap L ∧ FrameEnd U o U' L ({ frames := 0, cells := 0, slots := 0, locals := 0 } : Room).cells ({ frames := 0, cells := 0, slots := 0, locals := 0 } : Room).slots) := by
  refine MetFree.of_bodySF (plainFor_of_name pn_1) hisR ?_
  intro p e s m args below meth c s₁ Bd hml0 hP hK
  obtain ⟨rfl, hZ, hh⟩ := hP
  have hx := Bd.exec
  have hby := Bd.bytes
  have hml : c.maxLocals = 1 := hml0
  have hown : s.vm.findClass "com/example/wakelog/wakelog/log/Op" = some m.cls := findClass_of_methodNamed Bd.named
  have hnm := (name_of_methodNamed Bd.named Bd.method).1
  have X0 : Stand p l e ({ frames := 0, cells := 0, slots := 0, locals := 0 } : Room) s m #[(.ref a)] below meth c s₁ [] 0 0 := Stand.of_body Bd
  have e0 : s₁.heap = h0 := by rw [← hh, Bd.state]; rfl
  have N0 := Fr.nil n0
  have pre0 : ∀ t, Steps p.tables e below (s₁.setTop (mkF m 0 #[.val (.ref a)] [])) t → Steps p.tables e below (s₁.setTop (entryFrame m #[(.ref a)] 1)) t := fun t k => castTop (ef_2 m a) k
  have k23 : ∀ t, Steps p.tables e below (s₁.setTop (mkF m 1 #[.val (.ref a)] [(.ref a)])) t → Steps p.tables e below (s₁.setTop (entryFrame m #[(.ref a)] 1)) t := fun t k => pre0 t (by
    show Steps p.tables e below (s₁.setTop (mkF m 0 #[.val (.ref a)] [])) _
    refine XS.aloadN X0.here hx rfl (hb hby d2_0) rfl rfl ?_
    exact k)
  obtain ⟨T24, X24, e24, st24⟩ := getS (host := "") X0 hx hZ hown (hw _ (List.mem_of_getElem? (i := 12) rfl)) Via.refl e0 S_aU (g := (mkF m 1 #[.val (.ref a)] [(.ref a)])) rfl (hb hby d2_1)
  have k25 : ∀ t, Steps p.tables e below (T24.setTop (mkF m 4 #[.val (.ref a)] [(.ref aU), (.ref a)])) t → Steps p.tables e below (s₁.setTop (entryFrame m #[(.ref a)] 1)) t := fun t k => k23 t (st24 t k)
  by_cases hc26 : a = aU
  · have k27 : ∀ t, Steps p.tables e below (T24.setTop (mkF m 19 #[.val (.ref a)] [(.int (1 : Int32))])) t → Steps p.tables e below (s₁.setTop (entryFrame m #[(.ref a)] 1)) t := fun t k => k25 t (by
      show Steps p.tables e below (T24.setTop (mkF m 4 #[.val (.ref a)] [(.ref aU), (.ref a)])) _
      refine Jvm.RoadKit.acmp (g := (mkF m 4 #[.val (.ref a)] [(.ref aU), (.ref a)])) X24 hx rfl rfl rfl (pc0 := 4) (pc' := 14) (same := true) rfl (hb hby d2_4) rfl (decide_eq_true (congrArg Value.ref hc26)) (by decide) (by decide) ?_
      show Steps p.tables e below (T24.setTop (mkF m 14 #[.val (.ref a)] [])) _
      refine XS.iconst X24.here hx rfl (hb hby d2_14) ?_
      show Steps p.tables e below (T24.setTop (mkF m 15 #[.val (.ref a)] [(.int (1 : Int32))])) _
      refine XS.goto X24.here hx rfl (pc0 := 15) (pc' := 19) rfl (hb hby d2_15) (by decide) (by decide) ?_
      exact k)
    obtain ⟨fs, hr, hrun, hended, hW, hsame⟩ := X24.leave (v := some (.int (1 : Int32))) (fun h => by rw [Bd.returns] at h; cases h)
    refine ⟨_, _, k27 _ ?_, hrun, hended, _, _, rfl, ?_, ⟨_, rfl⟩, hW, hsame.mono (by decide) (by decide)⟩
    · show Steps p.tables e below (T24.setTop (mkF m 19 #[.val (.ref a)] [(.int (1 : Int32))])) _
      exact retN X24 hx (t := .boolean) Bd.returns (by simp) (hb hby d2_19) hr
    · show Q2 Z a aU aD h0 n0 _ T24.heap _
      rw [e24]
      exact ⟨congrArg (fun z => some (Value.int z)) (show ((1 : Int32) : Int32) = own_two a aU aD by unfold own_two; simp only [if_pos hc26]), N0, rfl⟩
  · have k29 : ∀ t, Steps p.tables e below (T24.setTop (mkF m 8 #[.val (.ref a)] [(.ref a)])) t → Steps p.tables e below (s₁.setTop (entryFrame m #[(.ref a)] 1)) t := fun t k => k25 t (by
      show Steps p.tables e below (T24.setTop (mkF m 4 #[.val (.ref a)] [(.ref aU), (.ref a)])) _
      refine Jvm.RoadKit.acmp (g := (mkF m 4 #[.val (.ref a)] [(.ref aU), (.ref a)])) X24 hx rfl rfl rfl (pc0 := 4) (pc' := 7) (same := false) rfl (hb hby d2_4) rfl (decide_eq_false fun q => hc26 (Value.ref.inj q)) (by decide) (by decide) ?_
      show Steps p.tables e below (T24.setTop (mkF m 7 #[.val (.ref a)] [])) _
      refine XS.aloadN X24.here hx rfl (hb hby d2_7) rfl rfl ?_
      exact k)
    obtain ⟨T30, X30, e30, st30⟩ := getS (host := "") X24 hx hZ hown (hw _ (List.mem_of_getElem? (i := 14) rfl)) Via.refl e24 S_aD (g := (mkF m 8 #[.val (.ref a)] [(.ref a)])) rfl (hb hby d2_8)
    have k31 : ∀ t, Steps p.tables e below (T30.setTop (mkF m 11 #[.val (.ref a)] [(.ref aD), (.ref a)])) t → Steps p.tables e below (s₁.setTop (entryFrame m #[(.ref a)] 1)) t := fun t k => k29 t (st30 t k)
    by_cases hc32 : a = aD
    · have k33 : ∀ t, Steps p.tables e below (T30.setTop (mkF m 19 #[.val (.ref a)] [(.int (1 : Int32))])) t → Steps p.tables e below (s₁.setTop (entryFrame m #[(.ref a)] 1)) t := fun t k => k31 t (by
        show Steps p.tables e below (T30.setTop (mkF m 11 #[.val (.ref a)] [(.ref aD), (.ref a)])) _
        refine Jvm.RoadKit.acmp (g := (mkF m 11 #[.val (.ref a)] [(.ref aD), (.ref a)])) X30 hx rfl rfl rfl (pc0 := 11) (pc' := 14) (same := true) rfl (hb hby d2_11) rfl (decide_eq_true (congrArg Value.ref hc32)) (by decide) (by decide) ?_
        show Steps p.tables e below (T30.setTop (mkF m 14 #[.val (.ref a)] [])) _
        refine XS.iconst X30.here hx rfl (hb hby d2_14) ?_
        show Steps p.tables e below (T30.setTop (mkF m 15 #[.val (.ref a)] [(.int (1 : Int32))])) _
        refine XS.goto X30.here hx rfl (pc0 := 15) (pc' := 19) rfl (hb hby d2_15) (by decide) (by decide) ?_
        exact k)
      obtain ⟨fs, hr, hrun, hended, hW, hsame⟩ := X30.leave (v := some (.int (1 : Int32))) (fun h => by rw [Bd.returns] at h; cases h)
      refine ⟨_, _, k33 _ ?_, hrun, hended, _, _, rfl, ?_, ⟨_, rfl⟩, hW, hsame.mono (by decide) (by decide)⟩
      · show Steps p.tables e below (T30.setTop (mkF m 19 #[.val (.ref a)] [(.int (1 : Int32))])) _
        exact retN X30 hx (t := .boolean) Bd.returns (by simp) (hb hby d2_19) hr
      · show Q2 Z a aU aD h0 n0 _ T30.heap _
        rw [e30]
        exact ⟨congrArg (fun z => some (Value.int z)) (show ((1 : Int32) : Int32) = own_two a aU aD by unfold own_two; simp only [if_neg hc26, if_pos hc32]), N0, rfl⟩
    · have k35 : ∀ t, Steps p.tables e below (T30.setTop (mkF m 19 #[.val (.ref a)] [(.int (0 : Int32))])) t → Steps p.tables e below (s₁.setTop (entryFrame m #[(.ref a)] 1)) t := fun t k => k31 t (by
        show Steps p.tables e below (T30.setTop (mkF m 11 #[.val (.ref a)] [(.ref aD), (.ref a)])) _
        refine Jvm.RoadKit.acmp (g := (mkF m 11 #[.val (.ref a)] [(.ref aD), (.ref a)])) X30 hx rfl rfl rfl (pc0 := 11) (pc' := 18) (same := false) rfl (hb hby d2_11) rfl (decide_eq_false fun q => hc32 (Value.ref.inj q)) (by decide) (by decide) ?_
        show Steps p.tables e below (T30.setTop (mkF m 18 #[.val (.ref a)] [])) _
        refine XS.iconst X30.here hx rfl (hb hby d2_18) ?_
        exact k)
      obtain ⟨fs, hr, hrun, hended, hW, hsame⟩ := X30.leave (v := some (.int (0 : Int32))) (fun h => by rw [Bd.returns] at h; cases h)
      refine ⟨_, _, k35 _ ?_, hrun, hended, _, _, rfl, ?_, ⟨_, rfl⟩, hW, hsame.mono (by decide) (by decide)⟩
      · show Steps p.tables e below (T30.setTop (mkF m 19 #[.val (.ref a)] [(.int (0 : Int32))])) _
        exact retN X30 hx (t := .boolean) Bd.returns (by simp) (hb hby d2_19) hr
      · show Q2 Z a aU aD h0 n0 _ T30.heap _
        rw [e30]
        exact ⟨congrArg (fun z => some (Value.int z)) (show ((0 : Int32) : Int32) = own_two a aU aD by unfold own_two; simp only [if_neg hc26, if_neg hc32]), N0, rfl⟩
theorem d3_0 : decode prog_63_method_5_code 0 = .ok (.aload_n 0, 1) := by decide +kernel
theorem d3_1 : decode prog_63_method_5_code 1 = .ok (.getstatic 3, 3) := by decide +kernel
theorem d3_4 : decode prog_63_method_5_code 4 = .ok (.if_acmp .eq 10, 3) := by decide +kernel
theorem d3_7 : decode prog_63_method_5_code 7 = .ok (.aload_n 0, 1) := by decide +kernel
theorem d3_8 : decode prog_63_method_5_code 8 = .ok (.getstatic 7, 3) := by decide +kernel
theorem d3_11 : decode prog_63_method_5_code 11 = .ok (.if_acmp .ne 7, 3) := by decide +kernel
theorem d3_14 : decode prog_63_method_5_code 14 = .ok (.iconst 1, 1) := by decide +kernel
theorem d3_15 : decode prog_63_method_5_code 15 = .ok (.goto 4, 3) := by decide +kernel
theorem d3_18 : decode prog_63_method_5_code 18 = .ok (.iconst 0, 1) := by decide +kernel
theorem d3_19 : decode prog_63_method_5_code 19 = .ok (.ireturn, 1) := by decide +kernel
theorem ef_3 (m : MethodId) (x0 : Addr) : entryFrame m #[(.ref x0)] 1 = mkF m 0 #[.val (.ref x0)] [] := by first | (simp [entryFrame, mkF, argsToLocals, Value.category]; done) | rfl
def Q3 (Z : State) (a : Addr) (aI : Addr) (aU : Addr) (h0 : Heap) (n0 : Nat) (v : Option Value) (h : Heap) (L : List Loc) : Prop := v = some (.int (own_two a aI aU)) ∧ Fr n0 L ∧ h = h0
set_option maxRecDepth 65536 in
set_option maxHeartbeats 40000000 in
theorem rm3 (l : Launch) (Z : State) (a0 : Array Value) (hw : ∀ d ∈ tables_1, d.before a0 Z = true) (ws : List Jvm.Cond) (a : Addr) (aI : Addr) (aU : Addr) (h0 : Heap) (n0 : Nat) (Z0 : n0 ≤ h0.size) (S_aI : Sta Z h0 "com/example/wakelog/wakelog/log/Op" "INSERT" "Lcom/example/wakelog/wakelog/log/Op;" (.ref aI)) (S_aU : Sta Z h0 "com/example/wakelog/wakelog/log/Op" "UPDATE" "Lcom/example/wakelog/wakelog/log/Op;" (.ref aU)) :
    MetFree l (⟨"com/example/wakelog/wakelog/log/Op", "hasAfter", "()Z"⟩ : MethodName) (head1 (Jvm.Cond.code (⟨"com/example/wakelog/wakelog/log/Op", "hasAfter", "()Z"⟩ : MethodName) prog_63_method_5_code 1 (some .boolean) :: ws) ({ frames := 0, cells := 0, slots := 0, locals := 0 } : Room)) (fun aa U => aa = #[(.ref a)] ∧ Z.Warmed39 U.vm ∧ U.heap = h0) (fun _ _ _ _ _ => True) (fun _ U o U' => ∃ v L, o = .returned v ∧ Q3 Z a aI aU h0 n0 v U'.heap L ∧ FrameEnd U o U' L ({ frames := 0, cells := 0, slots := 0, locals := 0 } : Room).cells ({ frames := 0, cells := 0, slots := 0, locals := 0 } : Room).slots) := by
  refine MetFree.of_bodySF (plainFor_of_name pn_1) hisR ?_
  intro p e s m args below meth c s₁ Bd hml0 hP hK
  obtain ⟨rfl, hZ, hh⟩ := hP
  have hx := Bd.exec
  have hby := Bd.bytes
  have hml : c.maxLocals = 1 := hml0
  have hown : s.vm.findClass "com/example/wakelog/wakelog/log/Op" = some m.cls := findClass_of_methodNamed Bd.named
  have hnm := (name_of_methodNamed Bd.named Bd.method).1
  have X0 : Stand p l e ({ frames := 0, cells := 0, slots := 0, locals := 0 } : Room) s m #[(.ref a)] below meth c s₁ [] 0 0 := Stand.of_body Bd
  have e0 : s₁.heap = h0 := by rw [← hh, Bd.state]; rfl
  have N0 := Fr.nil n0
  have pre0 : ∀ t, Steps p.tables e below (s₁.setTop (mkF m 0 #[.val (.ref a)] [])) t → Steps p.tables e below (s₁.setTop (entryFrame m #[(.ref a)] 1)) t := fun t k => castTop (ef_3 m a) k
  have k37 : ∀ t, Steps p.tables e below (s₁.setTop (mkF m 1 #[.val (.ref a)] [(.ref a)])) t → Steps p.tables e below (s₁.setTop (entryFrame m #[(.ref a)] 1)) t := fun t k => pre0 t (by
    show Steps p.tables e below (s₁.setTop (mkF m 0 #[.val (.ref a)] [])) _
    refine XS.aloadN X0.here hx rfl (hb hby d3_0) rfl rfl ?_
    exact k)
  obtain ⟨T38, X38, e38, st38⟩ := getS (host := "") X0 hx hZ hown (hw _ (List.mem_of_getElem? (i := 21) rfl)) Via.refl e0 S_aI (g := (mkF m 1 #[.val (.ref a)] [(.ref a)])) rfl (hb hby d3_1)
  have k39 : ∀ t, Steps p.tables e below (T38.setTop (mkF m 4 #[.val (.ref a)] [(.ref aI), (.ref a)])) t → Steps p.tables e below (s₁.setTop (entryFrame m #[(.ref a)] 1)) t := fun t k => k37 t (st38 t k)
  by_cases hc40 : a = aI
  · have k41 : ∀ t, Steps p.tables e below (T38.setTop (mkF m 19 #[.val (.ref a)] [(.int (1 : Int32))])) t → Steps p.tables e below (s₁.setTop (entryFrame m #[(.ref a)] 1)) t := fun t k => k39 t (by
      show Steps p.tables e below (T38.setTop (mkF m 4 #[.val (.ref a)] [(.ref aI), (.ref a)])) _
      refine Jvm.RoadKit.acmp (g := (mkF m 4 #[.val (.ref a)] [(.ref aI), (.ref a)])) X38 hx rfl rfl rfl (pc0 := 4) (pc' := 14) (same := true) rfl (hb hby d3_4) rfl (decide_eq_true (congrArg Value.ref hc40)) (by decide) (by decide) ?_
      show Steps p.tables e below (T38.setTop (mkF m 14 #[.val (.ref a)] [])) _
      refine XS.iconst X38.here hx rfl (hb hby d3_14) ?_
      show Steps p.tables e below (T38.setTop (mkF m 15 #[.val (.ref a)] [(.int (1 : Int32))])) _
      refine XS.goto X38.here hx rfl (pc0 := 15) (pc' := 19) rfl (hb hby d3_15) (by decide) (by decide) ?_
      exact k)
    obtain ⟨fs, hr, hrun, hended, hW, hsame⟩ := X38.leave (v := some (.int (1 : Int32))) (fun h => by rw [Bd.returns] at h; cases h)
    refine ⟨_, _, k41 _ ?_, hrun, hended, _, _, rfl, ?_, ⟨_, rfl⟩, hW, hsame.mono (by decide) (by decide)⟩
    · show Steps p.tables e below (T38.setTop (mkF m 19 #[.val (.ref a)] [(.int (1 : Int32))])) _
      exact retN X38 hx (t := .boolean) Bd.returns (by simp) (hb hby d3_19) hr
    · show Q3 Z a aI aU h0 n0 _ T38.heap _
      rw [e38]
      exact ⟨congrArg (fun z => some (Value.int z)) (show ((1 : Int32) : Int32) = own_two a aI aU by unfold own_two; simp only [if_pos hc40]), N0, rfl⟩
  · have k43 : ∀ t, Steps p.tables e below (T38.setTop (mkF m 8 #[.val (.ref a)] [(.ref a)])) t → Steps p.tables e below (s₁.setTop (entryFrame m #[(.ref a)] 1)) t := fun t k => k39 t (by
      show Steps p.tables e below (T38.setTop (mkF m 4 #[.val (.ref a)] [(.ref aI), (.ref a)])) _
      refine Jvm.RoadKit.acmp (g := (mkF m 4 #[.val (.ref a)] [(.ref aI), (.ref a)])) X38 hx rfl rfl rfl (pc0 := 4) (pc' := 7) (same := false) rfl (hb hby d3_4) rfl (decide_eq_false fun q => hc40 (Value.ref.inj q)) (by decide) (by decide) ?_
      show Steps p.tables e below (T38.setTop (mkF m 7 #[.val (.ref a)] [])) _
      refine XS.aloadN X38.here hx rfl (hb hby d3_7) rfl rfl ?_
      exact k)
    obtain ⟨T44, X44, e44, st44⟩ := getS (host := "") X38 hx hZ hown (hw _ (List.mem_of_getElem? (i := 12) rfl)) Via.refl e38 S_aU (g := (mkF m 8 #[.val (.ref a)] [(.ref a)])) rfl (hb hby d3_8)
    have k45 : ∀ t, Steps p.tables e below (T44.setTop (mkF m 11 #[.val (.ref a)] [(.ref aU), (.ref a)])) t → Steps p.tables e below (s₁.setTop (entryFrame m #[(.ref a)] 1)) t := fun t k => k43 t (st44 t k)
    by_cases hc46 : a = aU
    · have k47 : ∀ t, Steps p.tables e below (T44.setTop (mkF m 19 #[.val (.ref a)] [(.int (1 : Int32))])) t → Steps p.tables e below (s₁.setTop (entryFrame m #[(.ref a)] 1)) t := fun t k => k45 t (by
        show Steps p.tables e below (T44.setTop (mkF m 11 #[.val (.ref a)] [(.ref aU), (.ref a)])) _
        refine Jvm.RoadKit.acmp (g := (mkF m 11 #[.val (.ref a)] [(.ref aU), (.ref a)])) X44 hx rfl rfl rfl (pc0 := 11) (pc' := 14) (same := true) rfl (hb hby d3_11) rfl (decide_eq_true (congrArg Value.ref hc46)) (by decide) (by decide) ?_
        show Steps p.tables e below (T44.setTop (mkF m 14 #[.val (.ref a)] [])) _
        refine XS.iconst X44.here hx rfl (hb hby d3_14) ?_
        show Steps p.tables e below (T44.setTop (mkF m 15 #[.val (.ref a)] [(.int (1 : Int32))])) _
        refine XS.goto X44.here hx rfl (pc0 := 15) (pc' := 19) rfl (hb hby d3_15) (by decide) (by decide) ?_
        exact k)
      obtain ⟨fs, hr, hrun, hended, hW, hsame⟩ := X44.leave (v := some (.int (1 : Int32))) (fun h => by rw [Bd.returns] at h; cases h)
      refine ⟨_, _, k47 _ ?_, hrun, hended, _, _, rfl, ?_, ⟨_, rfl⟩, hW, hsame.mono (by decide) (by decide)⟩
      · show Steps p.tables e below (T44.setTop (mkF m 19 #[.val (.ref a)] [(.int (1 : Int32))])) _
        exact retN X44 hx (t := .boolean) Bd.returns (by simp) (hb hby d3_19) hr
      · show Q3 Z a aI aU h0 n0 _ T44.heap _
        rw [e44]
        exact ⟨congrArg (fun z => some (Value.int z)) (show ((1 : Int32) : Int32) = own_two a aI aU by unfold own_two; simp only [if_neg hc40, if_pos hc46]), N0, rfl⟩
    · have k49 : ∀ t, Steps p.tables e below (T44.setTop (mkF m 19 #[.val (.ref a)] [(.int (0 : Int32))])) t → Steps p.tables e below (s₁.setTop (entryFrame m #[(.ref a)] 1)) t := fun t k => k45 t (by
        show Steps p.tables e below (T44.setTop (mkF m 11 #[.val (.ref a)] [(.ref aU), (.ref a)])) _
        refine Jvm.RoadKit.acmp (g := (mkF m 11 #[.val (.ref a)] [(.ref aU), (.ref a)])) X44 hx rfl rfl rfl (pc0 := 11) (pc' := 18) (same := false) rfl (hb hby d3_11) rfl (decide_eq_false fun q => hc46 (Value.ref.inj q)) (by decide) (by decide) ?_
        show Steps p.tables e below (T44.setTop (mkF m 18 #[.val (.ref a)] [])) _
        refine XS.iconst X44.here hx rfl (hb hby d3_18) ?_
        exact k)
      obtain ⟨fs, hr, hrun, hended, hW, hsame⟩ := X44.leave (v := some (.int (0 : Int32))) (fun h => by rw [Bd.returns] at h; cases h)
      refine ⟨_, _, k49 _ ?_, hrun, hended, _, _, rfl, ?_, ⟨_, rfl⟩, hW, hsame.mono (by decide) (by decide)⟩
      · show Steps p.tables e below (T44.setTop (mkF m 19 #[.val (.ref a)] [(.int (0 : Int32))])) _
        exact retN X44 hx (t := .boolean) Bd.returns (by simp) (hb hby d3_19) hr
      · show Q3 Z a aI aU h0 n0 _ T44.heap _
        rw [e44]
        exact ⟨congrArg (fun z => some (Value.int z)) (show ((0 : Int32) : Int32) = own_two a aI aU by unfold own_two; simp only [if_neg hc40, if_neg hc46]), N0, rfl⟩
theorem own_law1 (k : Int32) (hk : k = 0 ∨ k = 1 ∨ k = 2 ∨ k = 3) {aI aU aD aT : Addr} (nIU : aI ≠ aU) (nID : aI ≠ aD) (nIT : aI ≠ aT) (nUD : aU ≠ aD) (nUT : aU ≠ aT) (nDT : aD ≠ aT) : own_two (own_pick k aI aU aD aT) aU aD = (if k = (1 : Int32) then (1 : Int32) else (if k = (2 : Int32) then (1 : Int32) else (0 : Int32))) := by
  rcases hk with rfl | rfl | rfl | rfl <;> simp [own_two, own_pick, nIU, nID, nIT, nUD, nUT, nDT, nIU.symm, nID.symm, nIT.symm, nUD.symm, nUT.symm, nDT.symm]
theorem own_law2 (k : Int32) (hk : k = 0 ∨ k = 1 ∨ k = 2 ∨ k = 3) {aI aU aD aT : Addr} (nIU : aI ≠ aU) (nID : aI ≠ aD) (nIT : aI ≠ aT) (nUD : aU ≠ aD) (nUT : aU ≠ aT) (nDT : aD ≠ aT) : (if (own_two (own_pick k aI aU aD aT) aU aD) = (0 : Int32) then (if (own_two (own_pick k aI aU aD aT) aI aU) = (0 : Int32) then (0 : Int32) else (1 : Int32)) else (1 : Int32)) = (if k = (3 : Int32) then (0 : Int32) else (1 : Int32)) := by
  rcases hk with rfl | rfl | rfl | rfl <;> simp [own_two, own_pick, nIU, nID, nIT, nUD, nUT, nDT, nIU.symm, nID.symm, nIT.symm, nUD.symm, nUT.symm, nDT.symm]
theorem pd_0 : parseMethodDescriptor "(I)Lcom/example/wakelog/wakelog/log/Op;" = some ⟨[.int], some (.object "com/example/wakelog/wakelog/log/Op")⟩ := by decide +kernel
theorem pd_1 : parseMethodDescriptor "()Z" = some ⟨[], some .boolean⟩ := by decide +kernel
theorem ef_0 (m : MethodId) (x0 : Int32) : entryFrame m #[(.int x0)] maxLocals = mkF m 0 #[.val (.int x0), .unset, .unset, .unset, .unset, .unset, .unset] [] := by first | (simp [entryFrame, mkF, argsToLocals, Value.category, maxLocals]; done) | rfl
def Q0 (Z : State) (p0 : Int32) (aI : Addr) (aU : Addr) (aD : Addr) (aT : Addr) (h0 : Heap) (n0 : Nat) (v : Option Value) (h : Heap) (L : List Loc) : Prop := v = some (.int 1) ∧ Fr n0 L
set_option maxRecDepth 65536 in
set_option maxHeartbeats 40000000 in
theorem rm0 (l : Launch) (Z : State) (a0 : Array Value) (hw : ∀ d ∈ tables_1, d.before a0 Z = true) (ws : List Jvm.Cond) (p0 : Int32) (aI : Addr) (aU : Addr) (aD : Addr) (aT : Addr) (h0 : Heap) (n0 : Nat) (Z0 : n0 ≤ h0.size) (S_aI : Sta Z h0 "com/example/wakelog/wakelog/log/Op" "INSERT" "Lcom/example/wakelog/wakelog/log/Op;" (.ref aI)) (S_aU : Sta Z h0 "com/example/wakelog/wakelog/log/Op" "UPDATE" "Lcom/example/wakelog/wakelog/log/Op;" (.ref aU)) (S_aD : Sta Z h0 "com/example/wakelog/wakelog/log/Op" "DELETE" "Lcom/example/wakelog/wakelog/log/Op;" (.ref aD)) (S_aT : Sta Z h0 "com/example/wakelog/wakelog/log/Op" "TRUNCATE" "Lcom/example/wakelog/wakelog/log/Op;" (.ref aT)) (E_aI : Exa Z h0 aI "com/example/wakelog/wakelog/log/Op") (E_aU : Exa Z h0 aU "com/example/wakelog/wakelog/log/Op") (E_aD : Exa Z h0 aD "com/example/wakelog/wakelog/log/Op") (E_aT : Exa Z h0 aT "com/example/wakelog/wakelog/log/Op") (nIU : aI ≠ aU) (nID : aI ≠ aD) (nIT : aI ≠ aT) (nUD : aU ≠ aD) (nUT : aU ≠ aT) (nDT : aD ≠ aT) :
    MetFree l x (head1 (Jvm.Cond.code x code maxLocals ret :: ws) room_1) (fun aa U => aa = #[(.int p0)] ∧ Z.Warmed39 U.vm ∧ U.heap = h0) (fun _ _ _ _ _ => True) (fun _ U o U' => ∃ v L, o = .returned v ∧ Q0 Z p0 aI aU aD aT h0 n0 v U'.heap L ∧ FrameEnd U o U' L room_1.cells room_1.slots) := by
  refine MetFree.of_bodySF (plainFor_of_name pn_0) hisR ?_
  intro p e s m args below meth c s₁ Bd hml0 hP hK
  obtain ⟨rfl, hZ, hh⟩ := hP
  have hx := Bd.exec
  have hby := Bd.bytes
  have hml : c.maxLocals = 7 := hml0
  have hown : s.vm.findClass "com/example/wakelog/wakelog/log/OpHasBeforePinLaw" = some m.cls := findClass_of_methodNamed Bd.named
  have hnm := (name_of_methodNamed Bd.named Bd.method).1
  have X0 : Stand p l e room_1 s m #[(.int p0)] below meth c s₁ [] 0 0 := Stand.of_body Bd
  have e0 : s₁.heap = h0 := by rw [← hh, Bd.state]; rfl
  have N0 := Fr.nil n0
  have pre0 : ∀ t, Steps p.tables e below (s₁.setTop (mkF m 0 #[.val (.int p0), .unset, .unset, .unset, .unset, .unset, .unset] [])) t → Steps p.tables e below (s₁.setTop (entryFrame m #[(.int p0)] maxLocals)) t := fun t k => castTop (ef_0 m p0) k
  have k51 : ∀ t, Steps p.tables e below (s₁.setTop (mkF m 5 #[.val (.int p0), .val (.int (p0 &&& (3 : Int32))), .unset, .unset, .unset, .unset, .unset] [(.int (p0 &&& (3 : Int32)))])) t → Steps p.tables e below (s₁.setTop (entryFrame m #[(.int p0)] maxLocals)) t := fun t k => pre0 t (by
    show Steps p.tables e below (s₁.setTop (mkF m 0 #[.val (.int p0), .unset, .unset, .unset, .unset, .unset, .unset] [])) _
    refine XS.iloadN X0.here hx rfl (hb hby at_0) rfl ?_
    show Steps p.tables e below (s₁.setTop (mkF m 1 #[.val (.int p0), .unset, .unset, .unset, .unset, .unset, .unset] [(.int p0)])) _
    refine XS.iconst X0.here hx rfl (hb hby at_1) ?_
    show Steps p.tables e below (s₁.setTop (mkF m 2 #[.val (.int p0), .unset, .unset, .unset, .unset, .unset, .unset] [(.int (3 : Int32)), (.int p0)])) _
    refine XS.iand X0.here hx rfl (hb hby at_2) rfl ?_
    show Steps p.tables e below (s₁.setTop (mkF m 3 #[.val (.int p0), .unset, .unset, .unset, .unset, .unset, .unset] [(.int (p0 &&& (3 : Int32)))])) _
    refine XS.istoreN X0.here hx rfl (hb hby at_3) rfl (l' := #[.val (.int p0), .val (.int (p0 &&& (3 : Int32))), .unset, .unset, .unset, .unset, .unset]) rfl ?_
    show Steps p.tables e below (s₁.setTop (mkF m 4 #[.val (.int p0), .val (.int (p0 &&& (3 : Int32))), .unset, .unset, .unset, .unset, .unset] [])) _
    refine XS.iloadN X0.here hx rfl (hb hby at_4) rfl ?_
    exact k)
  obtain ⟨_, _, ⟨T52, L52, kc52, ks52⟩, -, X52, ⟨Lc52, hQ52, l52, y52, z52⟩, st52⟩ := Jvm.LawKit.callS X0 hx (y := (⟨"com/example/wakelog/wakelog/log/OpHasBeforePinLaw", "pick", "(I)Lcom/example/wakelog/wakelog/log/Op;"⟩ : MethodName)) hown (mvT hZ (hw _ (List.mem_of_getElem? (i := 0) rfl))) (mvT hZ (hw _ (List.mem_of_getElem? (i := 1) rfl))) (mvT hZ (hw _ (List.mem_of_getElem? (i := 2) rfl))) (mvT hZ (hw _ (List.mem_of_getElem? (i := 3) rfl))) (by decide) (backOf (W := 0) (rm1 l Z a0 hw [] (p0 &&& (3 : Int32)) aI aU aD aT h0 n0 Z0 S_aI S_aU S_aD S_aT) hZ (hw _ (List.mem_of_getElem? (i := 3) rfl)) (hw _ (List.mem_of_getElem? (i := 2) rfl)) (by decide) (by decide)) (g := (mkF m 5 #[.val (.int p0), .val (.int (p0 &&& (3 : Int32))), .unset, .unset, .unset, .unset, .unset] [(.int (p0 &&& (3 : Int32)))])) rfl (by rw [hml]; rfl) (argsL := [(.int (p0 &&& (3 : Int32)))]) (rest := []) (lenOf pd_0 rfl) rfl (by show 2 * 0 + _ ≤ _; exact Nat.le_of_eq rfl) (hb hby at_5) (fun _ _ => ⟨rfl, e0, (by decide : 0 + 0 ≤ _), (by decide : 0 + 0 ≤ _)⟩)
  dsimp only [Pt.U, Pt.locs, Pt.cells, Pt.slots] at X52 l52 y52 z52 st52 hQ52
  subst l52 y52 z52
  obtain ⟨rfl, Nq52, eq52⟩ := hQ52
  have N52 := Fr.app N0 Nq52
  have k53 : ∀ t, Steps p.tables e below (T52.setTop (mkF m 8 #[.val (.int p0), .val (.int (p0 &&& (3 : Int32))), .unset, .unset, .unset, .unset, .unset] [(.ref (own_pick (p0 &&& (3 : Int32)) aI aU aD aT))])) t → Steps p.tables e below (s₁.setTop (entryFrame m #[(.int p0)] maxLocals)) t := fun t k => k51 t (st52 t k)
  have EP := own_pickE (k := (p0 &&& (3 : Int32))) E_aI E_aU E_aD E_aT
  have k54 : ∀ t, Steps p.tables e below (T52.setTop (mkF m 11 #[.val (.int p0), .val (.int (p0 &&& (3 : Int32))), .val (.ref (own_pick (p0 &&& (3 : Int32)) aI aU aD aT)), .unset, .unset, .unset, .unset] [(.int (1 : Int32)), (.int (p0 &&& (3 : Int32)))])) t → Steps p.tables e below (s₁.setTop (entryFrame m #[(.int p0)] maxLocals)) t := fun t k => k53 t (by
    show Steps p.tables e below (T52.setTop (mkF m 8 #[.val (.int p0), .val (.int (p0 &&& (3 : Int32))), .unset, .unset, .unset, .unset, .unset] [(.ref (own_pick (p0 &&& (3 : Int32)) aI aU aD aT))])) _
    refine XS.astoreN X52.here hx rfl (hb hby at_8) rfl rfl (l' := #[.val (.int p0), .val (.int (p0 &&& (3 : Int32))), .val (.ref (own_pick (p0 &&& (3 : Int32)) aI aU aD aT)), .unset, .unset, .unset, .unset]) rfl ?_
    show Steps p.tables e below (T52.setTop (mkF m 9 #[.val (.int p0), .val (.int (p0 &&& (3 : Int32))), .val (.ref (own_pick (p0 &&& (3 : Int32)) aI aU aD aT)), .unset, .unset, .unset, .unset] [])) _
    refine XS.iloadN X52.here hx rfl (hb hby at_9) rfl ?_
    show Steps p.tables e below (T52.setTop (mkF m 10 #[.val (.int p0), .val (.int (p0 &&& (3 : Int32))), .val (.ref (own_pick (p0 &&& (3 : Int32)) aI aU aD aT)), .unset, .unset, .unset, .unset] [(.int (p0 &&& (3 : Int32)))])) _
    refine XS.iconst X52.here hx rfl (hb hby at_10) ?_
    exact k)
  have k57 : ∀ t, Steps p.tables e below (T52.setTop (mkF m 24 #[.val (.int p0), .val (.int (p0 &&& (3 : Int32))), .val (.ref (own_pick (p0 &&& (3 : Int32)) aI aU aD aT)), .unset, .unset, .unset, .unset] [(.int (if (p0 &&& (3 : Int32)) = (1 : Int32) then (1 : Int32) else (if (p0 &&& (3 : Int32)) = (2 : Int32) then (1 : Int32) else (0 : Int32))))])) t → Steps p.tables e below (s₁.setTop (entryFrame m #[(.int p0)] maxLocals)) t := fun t k => k54 t (by
    by_cases hq55 : (p0 &&& (3 : Int32)) = (1 : Int32)
    · simp only [if_pos hq55] at k
      show Steps p.tables e below (T52.setTop (mkF m 11 #[.val (.int p0), .val (.int (p0 &&& (3 : Int32))), .val (.ref (own_pick (p0 &&& (3 : Int32)) aI aU aD aT)), .unset, .unset, .unset, .unset] [(.int (1 : Int32)), (.int (p0 &&& (3 : Int32)))])) _
      refine XS.icmpYes X52.here hx rfl (pc0 := 11) (pc' := 19) rfl (hb hby at_11) rfl (teq hq55).1 (by decide) (by decide) ?_
      show Steps p.tables e below (T52.setTop (mkF m 19 #[.val (.int p0), .val (.int (p0 &&& (3 : Int32))), .val (.ref (own_pick (p0 &&& (3 : Int32)) aI aU aD aT)), .unset, .unset, .unset, .unset] [])) _
      refine XS.iconst X52.here hx rfl (hb hby at_19) ?_
      show Steps p.tables e below (T52.setTop (mkF m 20 #[.val (.int p0), .val (.int (p0 &&& (3 : Int32))), .val (.ref (own_pick (p0 &&& (3 : Int32)) aI aU aD aT)), .unset, .unset, .unset, .unset] [(.int (1 : Int32))])) _
      refine XS.goto X52.here hx rfl (pc0 := 20) (pc' := 24) rfl (hb hby at_20) (by decide) (by decide) ?_
      exact k
    · simp only [if_neg hq55] at k
      show Steps p.tables e below (T52.setTop (mkF m 11 #[.val (.int p0), .val (.int (p0 &&& (3 : Int32))), .val (.ref (own_pick (p0 &&& (3 : Int32)) aI aU aD aT)), .unset, .unset, .unset, .unset] [(.int (1 : Int32)), (.int (p0 &&& (3 : Int32)))])) _
      refine XS.icmpNo X52.here hx rfl (hb hby at_11) rfl (feq hq55).1 ?_
      show Steps p.tables e below (T52.setTop (mkF m 14 #[.val (.int p0), .val (.int (p0 &&& (3 : Int32))), .val (.ref (own_pick (p0 &&& (3 : Int32)) aI aU aD aT)), .unset, .unset, .unset, .unset] [])) _
      refine XS.iloadN X52.here hx rfl (hb hby at_14) rfl ?_
      show Steps p.tables e below (T52.setTop (mkF m 15 #[.val (.int p0), .val (.int (p0 &&& (3 : Int32))), .val (.ref (own_pick (p0 &&& (3 : Int32)) aI aU aD aT)), .unset, .unset, .unset, .unset] [(.int (p0 &&& (3 : Int32)))])) _
      refine XS.iconst X52.here hx rfl (hb hby at_15) ?_
      by_cases hq56 : (p0 &&& (3 : Int32)) = (2 : Int32)
      · simp only [if_pos hq56] at k
        show Steps p.tables e below (T52.setTop (mkF m 16 #[.val (.int p0), .val (.int (p0 &&& (3 : Int32))), .val (.ref (own_pick (p0 &&& (3 : Int32)) aI aU aD aT)), .unset, .unset, .unset, .unset] [(.int (2 : Int32)), (.int (p0 &&& (3 : Int32)))])) _
        refine XS.icmpNo X52.here hx rfl (hb hby at_16) rfl (teq hq56).2 ?_
        show Steps p.tables e below (T52.setTop (mkF m 19 #[.val (.int p0), .val (.int (p0 &&& (3 : Int32))), .val (.ref (own_pick (p0 &&& (3 : Int32)) aI aU aD aT)), .unset, .unset, .unset, .unset] [])) _
        refine XS.iconst X52.here hx rfl (hb hby at_19) ?_
        show Steps p.tables e below (T52.setTop (mkF m 20 #[.val (.int p0), .val (.int (p0 &&& (3 : Int32))), .val (.ref (own_pick (p0 &&& (3 : Int32)) aI aU aD aT)), .unset, .unset, .unset, .unset] [(.int (1 : Int32))])) _
        refine XS.goto X52.here hx rfl (pc0 := 20) (pc' := 24) rfl (hb hby at_20) (by decide) (by decide) ?_
        exact k
      · simp only [if_neg hq56] at k
        show Steps p.tables e below (T52.setTop (mkF m 16 #[.val (.int p0), .val (.int (p0 &&& (3 : Int32))), .val (.ref (own_pick (p0 &&& (3 : Int32)) aI aU aD aT)), .unset, .unset, .unset, .unset] [(.int (2 : Int32)), (.int (p0 &&& (3 : Int32)))])) _
        refine XS.icmpYes X52.here hx rfl (pc0 := 16) (pc' := 23) rfl (hb hby at_16) rfl (feq hq56).2 (by decide) (by decide) ?_
        show Steps p.tables e below (T52.setTop (mkF m 23 #[.val (.int p0), .val (.int (p0 &&& (3 : Int32))), .val (.ref (own_pick (p0 &&& (3 : Int32)) aI aU aD aT)), .unset, .unset, .unset, .unset] [])) _
        refine XS.iconst X52.here hx rfl (hb hby at_23) ?_
        exact k)
  have k58 : ∀ t, Steps p.tables e below (T52.setTop (mkF m 27 #[.val (.int p0), .val (.int (p0 &&& (3 : Int32))), .val (.ref (own_pick (p0 &&& (3 : Int32)) aI aU aD aT)), .val (.int (if (p0 &&& (3 : Int32)) = (1 : Int32) then (1 : Int32) else (if (p0 &&& (3 : Int32)) = (2 : Int32) then (1 : Int32) else (0 : Int32)))), .unset, .unset, .unset] [(.int (3 : Int32)), (.int (p0 &&& (3 : Int32)))])) t → Steps p.tables e below (s₁.setTop (entryFrame m #[(.int p0)] maxLocals)) t := fun t k => k57 t (by
    show Steps p.tables e below (T52.setTop (mkF m 24 #[.val (.int p0), .val (.int (p0 &&& (3 : Int32))), .val (.ref (own_pick (p0 &&& (3 : Int32)) aI aU aD aT)), .unset, .unset, .unset, .unset] [(.int (if (p0 &&& (3 : Int32)) = (1 : Int32) then (1 : Int32) else (if (p0 &&& (3 : Int32)) = (2 : Int32) then (1 : Int32) else (0 : Int32))))])) _
    refine XS.istoreN X52.here hx rfl (hb hby at_24) rfl (l' := #[.val (.int p0), .val (.int (p0 &&& (3 : Int32))), .val (.ref (own_pick (p0 &&& (3 : Int32)) aI aU aD aT)), .val (.int (if (p0 &&& (3 : Int32)) = (1 : Int32) then (1 : Int32) else (if (p0 &&& (3 : Int32)) = (2 : Int32) then (1 : Int32) else (0 : Int32)))), .unset, .unset, .unset]) rfl ?_
    show Steps p.tables e below (T52.setTop (mkF m 25 #[.val (.int p0), .val (.int (p0 &&& (3 : Int32))), .val (.ref (own_pick (p0 &&& (3 : Int32)) aI aU aD aT)), .val (.int (if (p0 &&& (3 : Int32)) = (1 : Int32) then (1 : Int32) else (if (p0 &&& (3 : Int32)) = (2 : Int32) then (1 : Int32) else (0 : Int32)))), .unset, .unset, .unset] [])) _
    refine XS.iloadN X52.here hx rfl (hb hby at_25) rfl ?_
    show Steps p.tables e below (T52.setTop (mkF m 26 #[.val (.int p0), .val (.int (p0 &&& (3 : Int32))), .val (.ref (own_pick (p0 &&& (3 : Int32)) aI aU aD aT)), .val (.int (if (p0 &&& (3 : Int32)) = (1 : Int32) then (1 : Int32) else (if (p0 &&& (3 : Int32)) = (2 : Int32) then (1 : Int32) else (0 : Int32)))), .unset, .unset, .unset] [(.int (p0 &&& (3 : Int32)))])) _
    refine XS.iconst X52.here hx rfl (hb hby at_26) ?_
    exact k)
  have k60 : ∀ t, Steps p.tables e below (T52.setTop (mkF m 35 #[.val (.int p0), .val (.int (p0 &&& (3 : Int32))), .val (.ref (own_pick (p0 &&& (3 : Int32)) aI aU aD aT)), .val (.int (if (p0 &&& (3 : Int32)) = (1 : Int32) then (1 : Int32) else (if (p0 &&& (3 : Int32)) = (2 : Int32) then (1 : Int32) else (0 : Int32)))), .unset, .unset, .unset] [(.int (if (p0 &&& (3 : Int32)) = (3 : Int32) then (0 : Int32) else (1 : Int32)))])) t → Steps p.tables e below (s₁.setTop (entryFrame m #[(.int p0)] maxLocals)) t := fun t k => k58 t (by
    by_cases hq59 : (p0 &&& (3 : Int32)) = (3 : Int32)
    · simp only [if_pos hq59] at k
      show Steps p.tables e below (T52.setTop (mkF m 27 #[.val (.int p0), .val (.int (p0 &&& (3 : Int32))), .val (.ref (own_pick (p0 &&& (3 : Int32)) aI aU aD aT)), .val (.int (if (p0 &&& (3 : Int32)) = (1 : Int32) then (1 : Int32) else (if (p0 &&& (3 : Int32)) = (2 : Int32) then (1 : Int32) else (0 : Int32)))), .unset, .unset, .unset] [(.int (3 : Int32)), (.int (p0 &&& (3 : Int32)))])) _
      refine XS.icmpYes X52.here hx rfl (pc0 := 27) (pc' := 34) rfl (hb hby at_27) rfl (teq hq59).1 (by decide) (by decide) ?_
      show Steps p.tables e below (T52.setTop (mkF m 34 #[.val (.int p0), .val (.int (p0 &&& (3 : Int32))), .val (.ref (own_pick (p0 &&& (3 : Int32)) aI aU aD aT)), .val (.int (if (p0 &&& (3 : Int32)) = (1 : Int32) then (1 : Int32) else (if (p0 &&& (3 : Int32)) = (2 : Int32) then (1 : Int32) else (0 : Int32)))), .unset, .unset, .unset] [])) _
      refine XS.iconst X52.here hx rfl (hb hby at_34) ?_
      exact k
    · simp only [if_neg hq59] at k
      show Steps p.tables e below (T52.setTop (mkF m 27 #[.val (.int p0), .val (.int (p0 &&& (3 : Int32))), .val (.ref (own_pick (p0 &&& (3 : Int32)) aI aU aD aT)), .val (.int (if (p0 &&& (3 : Int32)) = (1 : Int32) then (1 : Int32) else (if (p0 &&& (3 : Int32)) = (2 : Int32) then (1 : Int32) else (0 : Int32)))), .unset, .unset, .unset] [(.int (3 : Int32)), (.int (p0 &&& (3 : Int32)))])) _
      refine XS.icmpNo X52.here hx rfl (hb hby at_27) rfl (feq hq59).1 ?_
      show Steps p.tables e below (T52.setTop (mkF m 30 #[.val (.int p0), .val (.int (p0 &&& (3 : Int32))), .val (.ref (own_pick (p0 &&& (3 : Int32)) aI aU aD aT)), .val (.int (if (p0 &&& (3 : Int32)) = (1 : Int32) then (1 : Int32) else (if (p0 &&& (3 : Int32)) = (2 : Int32) then (1 : Int32) else (0 : Int32)))), .unset, .unset, .unset] [])) _
      refine XS.iconst X52.here hx rfl (hb hby at_30) ?_
      show Steps p.tables e below (T52.setTop (mkF m 31 #[.val (.int p0), .val (.int (p0 &&& (3 : Int32))), .val (.ref (own_pick (p0 &&& (3 : Int32)) aI aU aD aT)), .val (.int (if (p0 &&& (3 : Int32)) = (1 : Int32) then (1 : Int32) else (if (p0 &&& (3 : Int32)) = (2 : Int32) then (1 : Int32) else (0 : Int32)))), .unset, .unset, .unset] [(.int (1 : Int32))])) _
      refine XS.goto X52.here hx rfl (pc0 := 31) (pc' := 35) rfl (hb hby at_31) (by decide) (by decide) ?_
      exact k)
  have k61 : ∀ t, Steps p.tables e below (T52.setTop (mkF m 38 #[.val (.int p0), .val (.int (p0 &&& (3 : Int32))), .val (.ref (own_pick (p0 &&& (3 : Int32)) aI aU aD aT)), .val (.int (if (p0 &&& (3 : Int32)) = (1 : Int32) then (1 : Int32) else (if (p0 &&& (3 : Int32)) = (2 : Int32) then (1 : Int32) else (0 : Int32)))), .val (.int (if (p0 &&& (3 : Int32)) = (3 : Int32) then (0 : Int32) else (1 : Int32))), .unset, .unset] [(.ref (own_pick (p0 &&& (3 : Int32)) aI aU aD aT))])) t → Steps p.tables e below (s₁.setTop (entryFrame m #[(.int p0)] maxLocals)) t := fun t k => k60 t (by
    show Steps p.tables e below (T52.setTop (mkF m 35 #[.val (.int p0), .val (.int (p0 &&& (3 : Int32))), .val (.ref (own_pick (p0 &&& (3 : Int32)) aI aU aD aT)), .val (.int (if (p0 &&& (3 : Int32)) = (1 : Int32) then (1 : Int32) else (if (p0 &&& (3 : Int32)) = (2 : Int32) then (1 : Int32) else (0 : Int32)))), .unset, .unset, .unset] [(.int (if (p0 &&& (3 : Int32)) = (3 : Int32) then (0 : Int32) else (1 : Int32)))])) _
    refine XS.istore X52.here hx rfl (hb hby at_35) rfl (l' := #[.val (.int p0), .val (.int (p0 &&& (3 : Int32))), .val (.ref (own_pick (p0 &&& (3 : Int32)) aI aU aD aT)), .val (.int (if (p0 &&& (3 : Int32)) = (1 : Int32) then (1 : Int32) else (if (p0 &&& (3 : Int32)) = (2 : Int32) then (1 : Int32) else (0 : Int32)))), .val (.int (if (p0 &&& (3 : Int32)) = (3 : Int32) then (0 : Int32) else (1 : Int32))), .unset, .unset]) rfl ?_
    show Steps p.tables e below (T52.setTop (mkF m 37 #[.val (.int p0), .val (.int (p0 &&& (3 : Int32))), .val (.ref (own_pick (p0 &&& (3 : Int32)) aI aU aD aT)), .val (.int (if (p0 &&& (3 : Int32)) = (1 : Int32) then (1 : Int32) else (if (p0 &&& (3 : Int32)) = (2 : Int32) then (1 : Int32) else (0 : Int32)))), .val (.int (if (p0 &&& (3 : Int32)) = (3 : Int32) then (0 : Int32) else (1 : Int32))), .unset, .unset] [])) _
    refine XS.aloadN X52.here hx rfl (hb hby at_37) rfl rfl ?_
    exact k)
  obtain ⟨cq62, kq62, q62a, q62b, q62c⟩ := isOf hZ eq52 EP
  obtain ⟨_, _, ⟨T62, L62, kc62, ks62⟩, -, X62, ⟨Lc62, hQ62, l62, y62, z62⟩, st62⟩ := X52.virtualBack hx (y := (⟨"com/example/wakelog/wakelog/log/Op", "hasBefore", "()Z"⟩ : MethodName)) (z := (⟨"com/example/wakelog/wakelog/log/Op", "hasBefore", "()Z"⟩ : MethodName)) hown (mvT hZ (hw _ (List.mem_of_getElem? (i := 7) rfl))) (mvT hZ (hw _ (List.mem_of_getElem? (i := 8) rfl))) (notFace_of_selects (args := #[]) (mvT hZ (hw _ (List.mem_of_getElem? (i := 10) rfl)))) (mvT hZ (hw _ (List.mem_of_getElem? (i := 10) rfl))) (mvT hZ (hw _ (List.mem_of_getElem? (i := 9) rfl))) (by decide) (backOf (W := 0) (rm2 l Z a0 hw [] (own_pick (p0 &&& (3 : Int32)) aI aU aD aT) aU aD h0 n0 Z0 S_aU S_aD) hZ (hw _ (List.mem_of_getElem? (i := 11) rfl)) (hw _ (List.mem_of_getElem? (i := 5) rfl)) (by decide) (by decide)) q62a q62c (g := (mkF m 38 #[.val (.int p0), .val (.int (p0 &&& (3 : Int32))), .val (.ref (own_pick (p0 &&& (3 : Int32)) aI aU aD aT)), .val (.int (if (p0 &&& (3 : Int32)) = (1 : Int32) then (1 : Int32) else (if (p0 &&& (3 : Int32)) = (2 : Int32) then (1 : Int32) else (0 : Int32)))), .val (.int (if (p0 &&& (3 : Int32)) = (3 : Int32) then (0 : Int32) else (1 : Int32))), .unset, .unset] [(.ref (own_pick (p0 &&& (3 : Int32)) aI aU aD aT))])) rfl (by rw [hml]; rfl) (Steps.refl _) (argsL := []) (rest := []) (lenOf pd_1 rfl) rfl (by show 2 * 0 + _ ≤ _; exact Nat.le_of_eq rfl) (hb hby at_38) (fun _ _ => ⟨rfl, eq52, (by decide : 0 + 0 ≤ _), (by decide : 0 + 0 ≤ _)⟩)
  dsimp only [Pt.U, Pt.locs, Pt.cells, Pt.slots] at X62 l62 y62 z62 st62 hQ62
  subst l62 y62 z62
  obtain ⟨rfl, Nq62, eq62⟩ := hQ62
  have N62 := Fr.app N52 Nq62
  have k63 : ∀ t, Steps p.tables e below (T62.setTop (mkF m 41 #[.val (.int p0), .val (.int (p0 &&& (3 : Int32))), .val (.ref (own_pick (p0 &&& (3 : Int32)) aI aU aD aT)), .val (.int (if (p0 &&& (3 : Int32)) = (1 : Int32) then (1 : Int32) else (if (p0 &&& (3 : Int32)) = (2 : Int32) then (1 : Int32) else (0 : Int32)))), .val (.int (if (p0 &&& (3 : Int32)) = (3 : Int32) then (0 : Int32) else (1 : Int32))), .unset, .unset] [(.int (own_two (own_pick (p0 &&& (3 : Int32)) aI aU aD aT) aU aD))])) t → Steps p.tables e below (s₁.setTop (entryFrame m #[(.int p0)] maxLocals)) t := fun t k => k61 t (st62.trans k)
  have k64 : ∀ t, Steps p.tables e below (T62.setTop (mkF m 44 #[.val (.int p0), .val (.int (p0 &&& (3 : Int32))), .val (.ref (own_pick (p0 &&& (3 : Int32)) aI aU aD aT)), .val (.int (if (p0 &&& (3 : Int32)) = (1 : Int32) then (1 : Int32) else (if (p0 &&& (3 : Int32)) = (2 : Int32) then (1 : Int32) else (0 : Int32)))), .val (.int (if (p0 &&& (3 : Int32)) = (3 : Int32) then (0 : Int32) else (1 : Int32))), .val (.int (own_two (own_pick (p0 &&& (3 : Int32)) aI aU aD aT) aU aD)), .unset] [(.ref (own_pick (p0 &&& (3 : Int32)) aI aU aD aT))])) t → Steps p.tables e below (s₁.setTop (entryFrame m #[(.int p0)] maxLocals)) t := fun t k => k63 t (by
    show Steps p.tables e below (T62.setTop (mkF m 41 #[.val (.int p0), .val (.int (p0 &&& (3 : Int32))), .val (.ref (own_pick (p0 &&& (3 : Int32)) aI aU aD aT)), .val (.int (if (p0 &&& (3 : Int32)) = (1 : Int32) then (1 : Int32) else (if (p0 &&& (3 : Int32)) = (2 : Int32) then (1 : Int32) else (0 : Int32)))), .val (.int (if (p0 &&& (3 : Int32)) = (3 : Int32) then (0 : Int32) else (1 : Int32))), .unset, .unset] [(.int (own_two (own_pick (p0 &&& (3 : Int32)) aI aU aD aT) aU aD))])) _
    refine XS.istore X62.here hx rfl (hb hby at_41) rfl (l' := #[.val (.int p0), .val (.int (p0 &&& (3 : Int32))), .val (.ref (own_pick (p0 &&& (3 : Int32)) aI aU aD aT)), .val (.int (if (p0 &&& (3 : Int32)) = (1 : Int32) then (1 : Int32) else (if (p0 &&& (3 : Int32)) = (2 : Int32) then (1 : Int32) else (0 : Int32)))), .val (.int (if (p0 &&& (3 : Int32)) = (3 : Int32) then (0 : Int32) else (1 : Int32))), .val (.int (own_two (own_pick (p0 &&& (3 : Int32)) aI aU aD aT) aU aD)), .unset]) rfl ?_
    show Steps p.tables e below (T62.setTop (mkF m 43 #[.val (.int p0), .val (.int (p0 &&& (3 : Int32))), .val (.ref (own_pick (p0 &&& (3 : Int32)) aI aU aD aT)), .val (.int (if (p0 &&& (3 : Int32)) = (1 : Int32) then (1 : Int32) else (if (p0 &&& (3 : Int32)) = (2 : Int32) then (1 : Int32) else (0 : Int32)))), .val (.int (if (p0 &&& (3 : Int32)) = (3 : Int32) then (0 : Int32) else (1 : Int32))), .val (.int (own_two (own_pick (p0 &&& (3 : Int32)) aI aU aD aT) aU aD)), .unset] [])) _
    refine XS.aloadN X62.here hx rfl (hb hby at_43) rfl rfl ?_
    exact k)
  obtain ⟨cq65, kq65, q65a, q65b, q65c⟩ := isOf hZ eq62 EP
  obtain ⟨_, _, ⟨T65, L65, kc65, ks65⟩, -, X65, ⟨Lc65, hQ65, l65, y65, z65⟩, st65⟩ := X62.virtualBack hx (y := (⟨"com/example/wakelog/wakelog/log/Op", "hasAfter", "()Z"⟩ : MethodName)) (z := (⟨"com/example/wakelog/wakelog/log/Op", "hasAfter", "()Z"⟩ : MethodName)) hown (mvT hZ (hw _ (List.mem_of_getElem? (i := 16) rfl))) (mvT hZ (hw _ (List.mem_of_getElem? (i := 17) rfl))) (notFace_of_selects (args := #[]) (mvT hZ (hw _ (List.mem_of_getElem? (i := 19) rfl)))) (mvT hZ (hw _ (List.mem_of_getElem? (i := 19) rfl))) (mvT hZ (hw _ (List.mem_of_getElem? (i := 18) rfl))) (by decide) (backOf (W := 0) (rm3 l Z a0 hw [] (own_pick (p0 &&& (3 : Int32)) aI aU aD aT) aI aU h0 n0 Z0 S_aI S_aU) hZ (hw _ (List.mem_of_getElem? (i := 20) rfl)) (hw _ (List.mem_of_getElem? (i := 5) rfl)) (by decide) (by decide)) q65a q65c (g := (mkF m 44 #[.val (.int p0), .val (.int (p0 &&& (3 : Int32))), .val (.ref (own_pick (p0 &&& (3 : Int32)) aI aU aD aT)), .val (.int (if (p0 &&& (3 : Int32)) = (1 : Int32) then (1 : Int32) else (if (p0 &&& (3 : Int32)) = (2 : Int32) then (1 : Int32) else (0 : Int32)))), .val (.int (if (p0 &&& (3 : Int32)) = (3 : Int32) then (0 : Int32) else (1 : Int32))), .val (.int (own_two (own_pick (p0 &&& (3 : Int32)) aI aU aD aT) aU aD)), .unset] [(.ref (own_pick (p0 &&& (3 : Int32)) aI aU aD aT))])) rfl (by rw [hml]; rfl) (Steps.refl _) (argsL := []) (rest := []) (lenOf pd_1 rfl) rfl (by show 2 * 0 + _ ≤ _; exact Nat.le_of_eq rfl) (hb hby at_44) (fun _ _ => ⟨rfl, eq62, (by decide : 0 + 0 ≤ _), (by decide : 0 + 0 ≤ _)⟩)
  dsimp only [Pt.U, Pt.locs, Pt.cells, Pt.slots] at X65 l65 y65 z65 st65 hQ65
  subst l65 y65 z65
  obtain ⟨rfl, Nq65, eq65⟩ := hQ65
  have N65 := Fr.app N62 Nq65
  have k66 : ∀ t, Steps p.tables e below (T65.setTop (mkF m 47 #[.val (.int p0), .val (.int (p0 &&& (3 : Int32))), .val (.ref (own_pick (p0 &&& (3 : Int32)) aI aU aD aT)), .val (.int (if (p0 &&& (3 : Int32)) = (1 : Int32) then (1 : Int32) else (if (p0 &&& (3 : Int32)) = (2 : Int32) then (1 : Int32) else (0 : Int32)))), .val (.int (if (p0 &&& (3 : Int32)) = (3 : Int32) then (0 : Int32) else (1 : Int32))), .val (.int (own_two (own_pick (p0 &&& (3 : Int32)) aI aU aD aT) aU aD)), .unset] [(.int (own_two (own_pick (p0 &&& (3 : Int32)) aI aU aD aT) aI aU))])) t → Steps p.tables e below (s₁.setTop (entryFrame m #[(.int p0)] maxLocals)) t := fun t k => k64 t (st65.trans k)
  have k67 : ∀ t, Steps p.tables e below (T65.setTop (mkF m 57 #[.val (.int p0), .val (.int (p0 &&& (3 : Int32))), .val (.ref (own_pick (p0 &&& (3 : Int32)) aI aU aD aT)), .val (.int (if (p0 &&& (3 : Int32)) = (1 : Int32) then (1 : Int32) else (if (p0 &&& (3 : Int32)) = (2 : Int32) then (1 : Int32) else (0 : Int32)))), .val (.int (if (p0 &&& (3 : Int32)) = (3 : Int32) then (0 : Int32) else (1 : Int32))), .val (.int (own_two (own_pick (p0 &&& (3 : Int32)) aI aU aD aT) aU aD)), .val (.int (own_two (own_pick (p0 &&& (3 : Int32)) aI aU aD aT) aI aU))] [(.int (own_two (own_pick (p0 &&& (3 : Int32)) aI aU aD aT) aU aD))])) t → Steps p.tables e below (s₁.setTop (entryFrame m #[(.int p0)] maxLocals)) t := fun t k => k66 t (by
    show Steps p.tables e below (T65.setTop (mkF m 47 #[.val (.int p0), .val (.int (p0 &&& (3 : Int32))), .val (.ref (own_pick (p0 &&& (3 : Int32)) aI aU aD aT)), .val (.int (if (p0 &&& (3 : Int32)) = (1 : Int32) then (1 : Int32) else (if (p0 &&& (3 : Int32)) = (2 : Int32) then (1 : Int32) else (0 : Int32)))), .val (.int (if (p0 &&& (3 : Int32)) = (3 : Int32) then (0 : Int32) else (1 : Int32))), .val (.int (own_two (own_pick (p0 &&& (3 : Int32)) aI aU aD aT) aU aD)), .unset] [(.int (own_two (own_pick (p0 &&& (3 : Int32)) aI aU aD aT) aI aU))])) _
    refine XS.istore X65.here hx rfl (hb hby at_47) rfl (l' := #[.val (.int p0), .val (.int (p0 &&& (3 : Int32))), .val (.ref (own_pick (p0 &&& (3 : Int32)) aI aU aD aT)), .val (.int (if (p0 &&& (3 : Int32)) = (1 : Int32) then (1 : Int32) else (if (p0 &&& (3 : Int32)) = (2 : Int32) then (1 : Int32) else (0 : Int32)))), .val (.int (if (p0 &&& (3 : Int32)) = (3 : Int32) then (0 : Int32) else (1 : Int32))), .val (.int (own_two (own_pick (p0 &&& (3 : Int32)) aI aU aD aT) aU aD)), .val (.int (own_two (own_pick (p0 &&& (3 : Int32)) aI aU aD aT) aI aU))]) rfl ?_
    show Steps p.tables e below (T65.setTop (mkF m 49 #[.val (.int p0), .val (.int (p0 &&& (3 : Int32))), .val (.ref (own_pick (p0 &&& (3 : Int32)) aI aU aD aT)), .val (.int (if (p0 &&& (3 : Int32)) = (1 : Int32) then (1 : Int32) else (if (p0 &&& (3 : Int32)) = (2 : Int32) then (1 : Int32) else (0 : Int32)))), .val (.int (if (p0 &&& (3 : Int32)) = (3 : Int32) then (0 : Int32) else (1 : Int32))), .val (.int (own_two (own_pick (p0 &&& (3 : Int32)) aI aU aD aT) aU aD)), .val (.int (own_two (own_pick (p0 &&& (3 : Int32)) aI aU aD aT) aI aU))] [])) _
    refine XS.iload X65.here hx rfl (hb hby at_49) rfl ?_
    show Steps p.tables e below (T65.setTop (mkF m 51 #[.val (.int p0), .val (.int (p0 &&& (3 : Int32))), .val (.ref (own_pick (p0 &&& (3 : Int32)) aI aU aD aT)), .val (.int (if (p0 &&& (3 : Int32)) = (1 : Int32) then (1 : Int32) else (if (p0 &&& (3 : Int32)) = (2 : Int32) then (1 : Int32) else (0 : Int32)))), .val (.int (if (p0 &&& (3 : Int32)) = (3 : Int32) then (0 : Int32) else (1 : Int32))), .val (.int (own_two (own_pick (p0 &&& (3 : Int32)) aI aU aD aT) aU aD)), .val (.int (own_two (own_pick (p0 &&& (3 : Int32)) aI aU aD aT) aI aU))] [(.int (own_two (own_pick (p0 &&& (3 : Int32)) aI aU aD aT) aU aD))])) _
    refine XS.iloadN X65.here hx rfl (hb hby at_51) rfl ?_
    show Steps p.tables e below (T65.setTop (mkF m 52 #[.val (.int p0), .val (.int (p0 &&& (3 : Int32))), .val (.ref (own_pick (p0 &&& (3 : Int32)) aI aU aD aT)), .val (.int (if (p0 &&& (3 : Int32)) = (1 : Int32) then (1 : Int32) else (if (p0 &&& (3 : Int32)) = (2 : Int32) then (1 : Int32) else (0 : Int32)))), .val (.int (if (p0 &&& (3 : Int32)) = (3 : Int32) then (0 : Int32) else (1 : Int32))), .val (.int (own_two (own_pick (p0 &&& (3 : Int32)) aI aU aD aT) aU aD)), .val (.int (own_two (own_pick (p0 &&& (3 : Int32)) aI aU aD aT) aI aU))] [(.int (if (p0 &&& (3 : Int32)) = (1 : Int32) then (1 : Int32) else (if (p0 &&& (3 : Int32)) = (2 : Int32) then (1 : Int32) else (0 : Int32)))), (.int (own_two (own_pick (p0 &&& (3 : Int32)) aI aU aD aT) aU aD))])) _
    refine XS.icmpNo X65.here hx rfl (hb hby at_52) rfl (teq (own_law1 _ (own_four p0) nIU nID nIT nUD nUT nDT)).2 ?_
    show Steps p.tables e below (T65.setTop (mkF m 55 #[.val (.int p0), .val (.int (p0 &&& (3 : Int32))), .val (.ref (own_pick (p0 &&& (3 : Int32)) aI aU aD aT)), .val (.int (if (p0 &&& (3 : Int32)) = (1 : Int32) then (1 : Int32) else (if (p0 &&& (3 : Int32)) = (2 : Int32) then (1 : Int32) else (0 : Int32)))), .val (.int (if (p0 &&& (3 : Int32)) = (3 : Int32) then (0 : Int32) else (1 : Int32))), .val (.int (own_two (own_pick (p0 &&& (3 : Int32)) aI aU aD aT) aU aD)), .val (.int (own_two (own_pick (p0 &&& (3 : Int32)) aI aU aD aT) aI aU))] [])) _
    refine XS.iload X65.here hx rfl (hb hby at_55) rfl ?_
    exact k)
  have k70 : ∀ t, Steps p.tables e below (T65.setTop (mkF m 70 #[.val (.int p0), .val (.int (p0 &&& (3 : Int32))), .val (.ref (own_pick (p0 &&& (3 : Int32)) aI aU aD aT)), .val (.int (if (p0 &&& (3 : Int32)) = (1 : Int32) then (1 : Int32) else (if (p0 &&& (3 : Int32)) = (2 : Int32) then (1 : Int32) else (0 : Int32)))), .val (.int (if (p0 &&& (3 : Int32)) = (3 : Int32) then (0 : Int32) else (1 : Int32))), .val (.int (own_two (own_pick (p0 &&& (3 : Int32)) aI aU aD aT) aU aD)), .val (.int (own_two (own_pick (p0 &&& (3 : Int32)) aI aU aD aT) aI aU))] [(.int (if (own_two (own_pick (p0 &&& (3 : Int32)) aI aU aD aT) aU aD) = (0 : Int32) then (if (own_two (own_pick (p0 &&& (3 : Int32)) aI aU aD aT) aI aU) = (0 : Int32) then (0 : Int32) else (1 : Int32)) else (1 : Int32)))])) t → Steps p.tables e below (s₁.setTop (entryFrame m #[(.int p0)] maxLocals)) t := fun t k => k67 t (by
    by_cases hq68 : (own_two (own_pick (p0 &&& (3 : Int32)) aI aU aD aT) aU aD) = (0 : Int32)
    · simp only [if_pos hq68] at k
      show Steps p.tables e below (T65.setTop (mkF m 57 #[.val (.int p0), .val (.int (p0 &&& (3 : Int32))), .val (.ref (own_pick (p0 &&& (3 : Int32)) aI aU aD aT)), .val (.int (if (p0 &&& (3 : Int32)) = (1 : Int32) then (1 : Int32) else (if (p0 &&& (3 : Int32)) = (2 : Int32) then (1 : Int32) else (0 : Int32)))), .val (.int (if (p0 &&& (3 : Int32)) = (3 : Int32) then (0 : Int32) else (1 : Int32))), .val (.int (own_two (own_pick (p0 &&& (3 : Int32)) aI aU aD aT) aU aD)), .val (.int (own_two (own_pick (p0 &&& (3 : Int32)) aI aU aD aT) aI aU))] [(.int (own_two (own_pick (p0 &&& (3 : Int32)) aI aU aD aT) aU aD))])) _
      refine XS.ifNo X65.here hx rfl (hb hby at_57) rfl ((if0 _ _).trans (teq hq68).2) ?_
      show Steps p.tables e below (T65.setTop (mkF m 60 #[.val (.int p0), .val (.int (p0 &&& (3 : Int32))), .val (.ref (own_pick (p0 &&& (3 : Int32)) aI aU aD aT)), .val (.int (if (p0 &&& (3 : Int32)) = (1 : Int32) then (1 : Int32) else (if (p0 &&& (3 : Int32)) = (2 : Int32) then (1 : Int32) else (0 : Int32)))), .val (.int (if (p0 &&& (3 : Int32)) = (3 : Int32) then (0 : Int32) else (1 : Int32))), .val (.int (own_two (own_pick (p0 &&& (3 : Int32)) aI aU aD aT) aU aD)), .val (.int (own_two (own_pick (p0 &&& (3 : Int32)) aI aU aD aT) aI aU))] [])) _
      refine XS.iload X65.here hx rfl (hb hby at_60) rfl ?_
      by_cases hq69 : (own_two (own_pick (p0 &&& (3 : Int32)) aI aU aD aT) aI aU) = (0 : Int32)
      · simp only [if_pos hq69] at k
        show Steps p.tables e below (T65.setTop (mkF m 62 #[.val (.int p0), .val (.int (p0 &&& (3 : Int32))), .val (.ref (own_pick (p0 &&& (3 : Int32)) aI aU aD aT)), .val (.int (if (p0 &&& (3 : Int32)) = (1 : Int32) then (1 : Int32) else (if (p0 &&& (3 : Int32)) = (2 : Int32) then (1 : Int32) else (0 : Int32)))), .val (.int (if (p0 &&& (3 : Int32)) = (3 : Int32) then (0 : Int32) else (1 : Int32))), .val (.int (own_two (own_pick (p0 &&& (3 : Int32)) aI aU aD aT) aU aD)), .val (.int (own_two (own_pick (p0 &&& (3 : Int32)) aI aU aD aT) aI aU))] [(.int (own_two (own_pick (p0 &&& (3 : Int32)) aI aU aD aT) aI aU))])) _
        refine XS.ifYes X65.here hx rfl (pc0 := 62) (pc' := 69) rfl (hb hby at_62) rfl ((if0 _ _).trans (teq hq69).1) (by decide) (by decide) ?_
        show Steps p.tables e below (T65.setTop (mkF m 69 #[.val (.int p0), .val (.int (p0 &&& (3 : Int32))), .val (.ref (own_pick (p0 &&& (3 : Int32)) aI aU aD aT)), .val (.int (if (p0 &&& (3 : Int32)) = (1 : Int32) then (1 : Int32) else (if (p0 &&& (3 : Int32)) = (2 : Int32) then (1 : Int32) else (0 : Int32)))), .val (.int (if (p0 &&& (3 : Int32)) = (3 : Int32) then (0 : Int32) else (1 : Int32))), .val (.int (own_two (own_pick (p0 &&& (3 : Int32)) aI aU aD aT) aU aD)), .val (.int (own_two (own_pick (p0 &&& (3 : Int32)) aI aU aD aT) aI aU))] [])) _
        refine XS.iconst X65.here hx rfl (hb hby at_69) ?_
        exact k
      · simp only [if_neg hq69] at k
        show Steps p.tables e below (T65.setTop (mkF m 62 #[.val (.int p0), .val (.int (p0 &&& (3 : Int32))), .val (.ref (own_pick (p0 &&& (3 : Int32)) aI aU aD aT)), .val (.int (if (p0 &&& (3 : Int32)) = (1 : Int32) then (1 : Int32) else (if (p0 &&& (3 : Int32)) = (2 : Int32) then (1 : Int32) else (0 : Int32)))), .val (.int (if (p0 &&& (3 : Int32)) = (3 : Int32) then (0 : Int32) else (1 : Int32))), .val (.int (own_two (own_pick (p0 &&& (3 : Int32)) aI aU aD aT) aU aD)), .val (.int (own_two (own_pick (p0 &&& (3 : Int32)) aI aU aD aT) aI aU))] [(.int (own_two (own_pick (p0 &&& (3 : Int32)) aI aU aD aT) aI aU))])) _
        refine XS.ifNo X65.here hx rfl (hb hby at_62) rfl ((if0 _ _).trans (feq hq69).1) ?_
        show Steps p.tables e below (T65.setTop (mkF m 65 #[.val (.int p0), .val (.int (p0 &&& (3 : Int32))), .val (.ref (own_pick (p0 &&& (3 : Int32)) aI aU aD aT)), .val (.int (if (p0 &&& (3 : Int32)) = (1 : Int32) then (1 : Int32) else (if (p0 &&& (3 : Int32)) = (2 : Int32) then (1 : Int32) else (0 : Int32)))), .val (.int (if (p0 &&& (3 : Int32)) = (3 : Int32) then (0 : Int32) else (1 : Int32))), .val (.int (own_two (own_pick (p0 &&& (3 : Int32)) aI aU aD aT) aU aD)), .val (.int (own_two (own_pick (p0 &&& (3 : Int32)) aI aU aD aT) aI aU))] [])) _
        refine XS.iconst X65.here hx rfl (hb hby at_65) ?_
        show Steps p.tables e below (T65.setTop (mkF m 66 #[.val (.int p0), .val (.int (p0 &&& (3 : Int32))), .val (.ref (own_pick (p0 &&& (3 : Int32)) aI aU aD aT)), .val (.int (if (p0 &&& (3 : Int32)) = (1 : Int32) then (1 : Int32) else (if (p0 &&& (3 : Int32)) = (2 : Int32) then (1 : Int32) else (0 : Int32)))), .val (.int (if (p0 &&& (3 : Int32)) = (3 : Int32) then (0 : Int32) else (1 : Int32))), .val (.int (own_two (own_pick (p0 &&& (3 : Int32)) aI aU aD aT) aU aD)), .val (.int (own_two (own_pick (p0 &&& (3 : Int32)) aI aU aD aT) aI aU))] [(.int (1 : Int32))])) _
        refine XS.goto X65.here hx rfl (pc0 := 66) (pc' := 70) rfl (hb hby at_66) (by decide) (by decide) ?_
        exact k
    · simp only [if_neg hq68] at k
      show Steps p.tables e below (T65.setTop (mkF m 57 #[.val (.int p0), .val (.int (p0 &&& (3 : Int32))), .val (.ref (own_pick (p0 &&& (3 : Int32)) aI aU aD aT)), .val (.int (if (p0 &&& (3 : Int32)) = (1 : Int32) then (1 : Int32) else (if (p0 &&& (3 : Int32)) = (2 : Int32) then (1 : Int32) else (0 : Int32)))), .val (.int (if (p0 &&& (3 : Int32)) = (3 : Int32) then (0 : Int32) else (1 : Int32))), .val (.int (own_two (own_pick (p0 &&& (3 : Int32)) aI aU aD aT) aU aD)), .val (.int (own_two (own_pick (p0 &&& (3 : Int32)) aI aU aD aT) aI aU))] [(.int (own_two (own_pick (p0 &&& (3 : Int32)) aI aU aD aT) aU aD))])) _
      refine XS.ifYes X65.here hx rfl (pc0 := 57) (pc' := 65) rfl (hb hby at_57) rfl ((if0 _ _).trans (feq hq68).2) (by decide) (by decide) ?_
      show Steps p.tables e below (T65.setTop (mkF m 65 #[.val (.int p0), .val (.int (p0 &&& (3 : Int32))), .val (.ref (own_pick (p0 &&& (3 : Int32)) aI aU aD aT)), .val (.int (if (p0 &&& (3 : Int32)) = (1 : Int32) then (1 : Int32) else (if (p0 &&& (3 : Int32)) = (2 : Int32) then (1 : Int32) else (0 : Int32)))), .val (.int (if (p0 &&& (3 : Int32)) = (3 : Int32) then (0 : Int32) else (1 : Int32))), .val (.int (own_two (own_pick (p0 &&& (3 : Int32)) aI aU aD aT) aU aD)), .val (.int (own_two (own_pick (p0 &&& (3 : Int32)) aI aU aD aT) aI aU))] [])) _
      refine XS.iconst X65.here hx rfl (hb hby at_65) ?_
      show Steps p.tables e below (T65.setTop (mkF m 66 #[.val (.int p0), .val (.int (p0 &&& (3 : Int32))), .val (.ref (own_pick (p0 &&& (3 : Int32)) aI aU aD aT)), .val (.int (if (p0 &&& (3 : Int32)) = (1 : Int32) then (1 : Int32) else (if (p0 &&& (3 : Int32)) = (2 : Int32) then (1 : Int32) else (0 : Int32)))), .val (.int (if (p0 &&& (3 : Int32)) = (3 : Int32) then (0 : Int32) else (1 : Int32))), .val (.int (own_two (own_pick (p0 &&& (3 : Int32)) aI aU aD aT) aU aD)), .val (.int (own_two (own_pick (p0 &&& (3 : Int32)) aI aU aD aT) aI aU))] [(.int (1 : Int32))])) _
      refine XS.goto X65.here hx rfl (pc0 := 66) (pc' := 70) rfl (hb hby at_66) (by decide) (by decide) ?_
      exact k)
  have k71 : ∀ t, Steps p.tables e below (T65.setTop (mkF m 80 #[.val (.int p0), .val (.int (p0 &&& (3 : Int32))), .val (.ref (own_pick (p0 &&& (3 : Int32)) aI aU aD aT)), .val (.int (if (p0 &&& (3 : Int32)) = (1 : Int32) then (1 : Int32) else (if (p0 &&& (3 : Int32)) = (2 : Int32) then (1 : Int32) else (0 : Int32)))), .val (.int (if (p0 &&& (3 : Int32)) = (3 : Int32) then (0 : Int32) else (1 : Int32))), .val (.int (own_two (own_pick (p0 &&& (3 : Int32)) aI aU aD aT) aU aD)), .val (.int (own_two (own_pick (p0 &&& (3 : Int32)) aI aU aD aT) aI aU))] [(.int (1 : Int32))])) t → Steps p.tables e below (s₁.setTop (entryFrame m #[(.int p0)] maxLocals)) t := fun t k => k70 t (by
    show Steps p.tables e below (T65.setTop (mkF m 70 #[.val (.int p0), .val (.int (p0 &&& (3 : Int32))), .val (.ref (own_pick (p0 &&& (3 : Int32)) aI aU aD aT)), .val (.int (if (p0 &&& (3 : Int32)) = (1 : Int32) then (1 : Int32) else (if (p0 &&& (3 : Int32)) = (2 : Int32) then (1 : Int32) else (0 : Int32)))), .val (.int (if (p0 &&& (3 : Int32)) = (3 : Int32) then (0 : Int32) else (1 : Int32))), .val (.int (own_two (own_pick (p0 &&& (3 : Int32)) aI aU aD aT) aU aD)), .val (.int (own_two (own_pick (p0 &&& (3 : Int32)) aI aU aD aT) aI aU))] [(.int (if (own_two (own_pick (p0 &&& (3 : Int32)) aI aU aD aT) aU aD) = (0 : Int32) then (if (own_two (own_pick (p0 &&& (3 : Int32)) aI aU aD aT) aI aU) = (0 : Int32) then (0 : Int32) else (1 : Int32)) else (1 : Int32)))])) _
    refine XS.iload X65.here hx rfl (hb hby at_70) rfl ?_
    show Steps p.tables e below (T65.setTop (mkF m 72 #[.val (.int p0), .val (.int (p0 &&& (3 : Int32))), .val (.ref (own_pick (p0 &&& (3 : Int32)) aI aU aD aT)), .val (.int (if (p0 &&& (3 : Int32)) = (1 : Int32) then (1 : Int32) else (if (p0 &&& (3 : Int32)) = (2 : Int32) then (1 : Int32) else (0 : Int32)))), .val (.int (if (p0 &&& (3 : Int32)) = (3 : Int32) then (0 : Int32) else (1 : Int32))), .val (.int (own_two (own_pick (p0 &&& (3 : Int32)) aI aU aD aT) aU aD)), .val (.int (own_two (own_pick (p0 &&& (3 : Int32)) aI aU aD aT) aI aU))] [(.int (if (p0 &&& (3 : Int32)) = (3 : Int32) then (0 : Int32) else (1 : Int32))), (.int (if (own_two (own_pick (p0 &&& (3 : Int32)) aI aU aD aT) aU aD) = (0 : Int32) then (if (own_two (own_pick (p0 &&& (3 : Int32)) aI aU aD aT) aI aU) = (0 : Int32) then (0 : Int32) else (1 : Int32)) else (1 : Int32)))])) _
    refine XS.icmpNo X65.here hx rfl (hb hby at_72) rfl (teq (own_law2 _ (own_four p0) nIU nID nIT nUD nUT nDT)).2 ?_
    show Steps p.tables e below (T65.setTop (mkF m 75 #[.val (.int p0), .val (.int (p0 &&& (3 : Int32))), .val (.ref (own_pick (p0 &&& (3 : Int32)) aI aU aD aT)), .val (.int (if (p0 &&& (3 : Int32)) = (1 : Int32) then (1 : Int32) else (if (p0 &&& (3 : Int32)) = (2 : Int32) then (1 : Int32) else (0 : Int32)))), .val (.int (if (p0 &&& (3 : Int32)) = (3 : Int32) then (0 : Int32) else (1 : Int32))), .val (.int (own_two (own_pick (p0 &&& (3 : Int32)) aI aU aD aT) aU aD)), .val (.int (own_two (own_pick (p0 &&& (3 : Int32)) aI aU aD aT) aI aU))] [])) _
    refine XS.iconst X65.here hx rfl (hb hby at_75) ?_
    show Steps p.tables e below (T65.setTop (mkF m 76 #[.val (.int p0), .val (.int (p0 &&& (3 : Int32))), .val (.ref (own_pick (p0 &&& (3 : Int32)) aI aU aD aT)), .val (.int (if (p0 &&& (3 : Int32)) = (1 : Int32) then (1 : Int32) else (if (p0 &&& (3 : Int32)) = (2 : Int32) then (1 : Int32) else (0 : Int32)))), .val (.int (if (p0 &&& (3 : Int32)) = (3 : Int32) then (0 : Int32) else (1 : Int32))), .val (.int (own_two (own_pick (p0 &&& (3 : Int32)) aI aU aD aT) aU aD)), .val (.int (own_two (own_pick (p0 &&& (3 : Int32)) aI aU aD aT) aI aU))] [(.int (1 : Int32))])) _
    refine XS.goto X65.here hx rfl (pc0 := 76) (pc' := 80) rfl (hb hby at_76) (by decide) (by decide) ?_
    exact k)
  obtain ⟨fs, hr, hrun, hended, hW, hsame⟩ := X65.leave (v := some (.int (1 : Int32))) (fun h => by rw [Bd.returns] at h; cases h)
  refine ⟨_, _, k71 _ ?_, hrun, hended, _, _, rfl, ?_, ⟨_, rfl⟩, hW, hsame.mono (by decide) (by decide)⟩
  · show Steps p.tables e below (T65.setTop (mkF m 80 #[.val (.int p0), .val (.int (p0 &&& (3 : Int32))), .val (.ref (own_pick (p0 &&& (3 : Int32)) aI aU aD aT)), .val (.int (if (p0 &&& (3 : Int32)) = (1 : Int32) then (1 : Int32) else (if (p0 &&& (3 : Int32)) = (2 : Int32) then (1 : Int32) else (0 : Int32)))), .val (.int (if (p0 &&& (3 : Int32)) = (3 : Int32) then (0 : Int32) else (1 : Int32))), .val (.int (own_two (own_pick (p0 &&& (3 : Int32)) aI aU aD aT) aU aD)), .val (.int (own_two (own_pick (p0 &&& (3 : Int32)) aI aU aD aT) aI aU))] [(.int (1 : Int32))])) _
    exact retN X65 hx (t := .boolean) Bd.returns (by simp) (hb hby at_80) hr
  · show Q0 Z p0 aI aU aD aT h0 n0 _ T65.heap _
    rw [eq65]
    exact ⟨rfl, N65⟩
set_option maxRecDepth 65536 in
set_option maxHeartbeats 40000000 in
theorem comes_1 {Post : Tables → Env → Array Value → State → Outcome → State → Prop} (hpost : ∀ tb e args s v u, (limb_1_1.after args s (.returned v) u = true ∧ limb_1_2.after args s (.returned v) u = true ∧ True) → FrameEnd s (.returned v) u (Jvm.fieldLocs frame_1_writes args s ++ Jvm.arrayLocs frame_1_arrays args s ++ Jvm.staticLocs frame_1_statics s) 0 0 → Post tb e args s (.returned v) u) :
    ArmFor flags0 classFile x code maxLocals ret World_1 tables_1 room_1 Calls_1 rest_1 Pre_1 Post := by
  intro l hfl _ _ p e ha hc hk s m args below hf hA hF happ hP
  obtain ⟨hcalls, hrest, hpre⟩ := hP
  obtain ⟨-, -, -, hnamed, -, -, -, hat⟩ := (Spec.applies_iff hf).mp happ
  obtain ⟨hg, hn⟩ := and_e (Cond.before_iff.mp (show (Jvm.Cond.and given_1 narrow_1).before args s = true from hpre))
  obtain ⟨g1, g2⟩ := and_e hg
  obtain ⟨w0, rfl⟩ : ∃ w0 : Value, args = #[w0] := by
    have hs : args.size = 1 := by simpa [Cond.value, given_1] using g1
    obtain ⟨L⟩ := args
    match L, hs with
    | [w0], _ => exact ⟨w0, rfl⟩
  have hw := fun d (hd : d ∈ tables_1) => atoms_spec (ws := Jvm.Cond.code x code maxLocals ret :: tables_1) hat d (List.mem_cons_of_mem _ hd)
  have hfit : Fit s := fun {y c} hc i hi => by
    obtain ⟨ha, rfl⟩ := Array.getElem?_eq_some_iff.mp hc
    have q := List.all_eq_true.mp ((Array.all_eq_true_iff_forall_mem.mp hF) _ (Array.getElem_mem ha)) i (List.mem_range.mpr hi)
    simpa [Array.getElem?_eq_getElem hi] using q
  obtain ⟨i0, ei0⟩ := is_v g2
  obtain rfl : w0 = (.int i0) := Option.some.inj ei0
  obtain ⟨c0, r0⟩ := and_e hn
  obtain ⟨c1, r1⟩ := and_e r0
  obtain ⟨c2, r2⟩ := and_e r1
  obtain ⟨c3, r3⟩ := and_e r2
  obtain ⟨c4, r4⟩ := and_e r3
  obtain ⟨c5, r5⟩ := and_e r4
  obtain ⟨c6, r6⟩ := and_e r5
  have c7 := r6
  obtain ⟨a_INSERT, ev_INSERT⟩ := exa_v c0
  have S_INSERT := Sta.start ev_INSERT (Or.inr ⟨(hw _ (List.mem_of_getElem? (i := 5) rfl)), (hw _ (List.mem_of_getElem? (i := 6) rfl))⟩)
  have E_INSERT := Exa.start ev_INSERT c0
  obtain ⟨a_UPDATE, ev_UPDATE⟩ := exa_v c1
  have S_UPDATE := Sta.start ev_UPDATE (Or.inr ⟨(hw _ (List.mem_of_getElem? (i := 5) rfl)), (hw _ (List.mem_of_getElem? (i := 13) rfl))⟩)
  have E_UPDATE := Exa.start ev_UPDATE c1
  obtain ⟨a_DELETE, ev_DELETE⟩ := exa_v c4
  have S_DELETE := Sta.start ev_DELETE (Or.inr ⟨(hw _ (List.mem_of_getElem? (i := 5) rfl)), (hw _ (List.mem_of_getElem? (i := 15) rfl))⟩)
  have E_DELETE := Exa.start ev_DELETE c4
  obtain ⟨a_TRUNCATE, ev_TRUNCATE⟩ := exa_v c6
  have S_TRUNCATE := Sta.start ev_TRUNCATE (Or.inr ⟨(hw _ (List.mem_of_getElem? (i := 5) rfl)), (hw _ (List.mem_of_getElem? (i := 23) rfl))⟩)
  have E_TRUNCATE := Exa.start ev_TRUNCATE c6
  have F_INSERT_ordinal := Fld.start (own_feq ev_INSERT c2)
  have F_UPDATE_ordinal := Fld.start (own_feq ev_UPDATE c3)
  have F_DELETE_ordinal := Fld.start (own_feq ev_DELETE c5)
  have F_TRUNCATE_ordinal := Fld.start (own_feq ev_TRUNCATE c7)
  have n_INSERT_UPDATE := Fld.ne F_INSERT_ordinal F_UPDATE_ordinal (by decide)
  have n_INSERT_DELETE := Fld.ne F_INSERT_ordinal F_DELETE_ordinal (by decide)
  have n_INSERT_TRUNCATE := Fld.ne F_INSERT_ordinal F_TRUNCATE_ordinal (by decide)
  have n_UPDATE_DELETE := Fld.ne F_UPDATE_ordinal F_DELETE_ordinal (by decide)
  have n_UPDATE_TRUNCATE := Fld.ne F_UPDATE_ordinal F_TRUNCATE_ordinal (by decide)
  have n_DELETE_TRUNCATE := Fld.ne F_DELETE_ordinal F_TRUNCATE_ordinal (by decide)
  obtain ⟨n, o, h1, h2, h3, _, L, rfl, ⟨rfl, N⟩, hq⟩ := rm0 l s _ hw tables_1 i0 a_INSERT a_UPDATE a_DELETE a_TRUNCATE s.heap s.heap.size (Nat.le_refl _) S_INSERT S_UPDATE S_DELETE S_TRUNCATE E_INSERT E_UPDATE E_DELETE E_TRUNCATE n_INSERT_UPDATE n_INSERT_DELETE n_INSERT_TRUNCATE n_UPDATE_DELETE n_UPDATE_TRUNCATE n_DELETE_TRUNCATE p e ha hc hk s m _ below hf ((Spec.applies_iff_loose hf).mp happ).1 ⟨rfl, State.Warmed39.refl s, rfl⟩ trivial
  refine ⟨n, _, h1, h2, h3, hpost _ _ _ _ _ _ ⟨Cond.after_iff.mpr rfl, Cond.after_iff.mpr (eq_i res_at (Term.int_eval (1)) rfl), trivial⟩ ⟨hq.1, hq.2.1, (hq.2.2.sift fun y hy => Or.inr (N y hy)).mono (by decide) (by decide)⟩⟩
theorem main_1_1 : Claimed_1_1 := comes_1 fun _ _ _ _ _ _ h hF => ⟨h.1, hF⟩
theorem main_1_2 : Claimed_1_2 := comes_1 fun _ _ _ _ _ _ h hF => ⟨h.2.1, hF⟩
end Jvm.Pilot.@@N@@
namespace Jvm.Pilot.@@N@@
open Jvm Jvm.ClassFile Sem Op Lib Jvm.Free Jvm.Stand Jvm.Pilot.@@N@@.Jvm.D
/-! MADE BY PROGRAM (witnessworld.py) out of the Statement's table words and the real class files: 12 classes; the members and pool entries that the words name. The judged class is class 1, her method 2. -/
namespace start1
open Jvm.ClassFile
def u (s : String) : CpInfo := .utf8 (stringToUtf16 s)
/-- a pool by its gaps: so many unusable entries, then the entry; so many at the end -/
def gap : Nat → List CpInfo → List CpInfo
  | 0, r => r
  | n + 1, r => .unusable :: gap n r
def poolList (es : List (Nat × CpInfo)) (last : Nat) : List CpInfo := es.foldr (fun e r => gap e.1 (e.2 :: r)) (gap last [])
def pool (es : List (Nat × CpInfo)) (last : Nat) : Array CpInfo := ⟨poolList es last⟩
def fileOf (pool : Array CpInfo) (this : Nat) (attrs : Array Attribute := #[]) (ms : Array MethodInfo := #[]) (fl : Nat := 33) (sup : Nat := 0) (ifs : Array Nat := #[]) (fds : Array FieldInfo := #[]) : ClassFile where
  minorVersion := 0
  majorVersion := 65
  constantPool := pool
  accessFlags := fl
  thisClass := this
  superClass := sup
  interfaces := ifs
  fields := fds
  methods := ms
  attributes := attrs
def plain (name : String) (sup : Option ClassId) : Class where
  name := name
  kind := .ordinary
  loader := none
  accessFlags := 33
  super := sup
  interfaces := #[]
  cf := none
  fields := #[]
  methods := #[]
  instanceTypes := #[]
  staticTypes := #[]
  resolved := #[]
  callSites := []
  init := .initialized
  statics := none
  mirror := none

def pool0 : Array CpInfo := pool [(5, u "<init>"), (0, u "()V"), (1, .class_ 10), (1, u "java/lang/Object")] 113

def k0m0 : Method := { name := "<init>", desc := "()V", sig := { parameters := [], returnType := none }, accessFlags := 1, code := none }
/-- java/lang/Object -/
def k0 : Class := { plain "java/lang/Object" none with
  accessFlags := 33
  interfaces := #[]
  cf := some (fileOf pool0 8 #[] #[{ accessFlags := 1, nameIndex := 5, descriptorIndex := 6, attributes := #[] }] 33 0 #[] #[])
  fields := #[]
  methods := #[k0m0]
  instanceTypes := #[]
  staticTypes := #[]
  resolved := Array.replicate 124 none
  statics := none }

def pool1 : Array CpInfo := pool [(2, .class_ 4), (1, u "java/lang/Object"), (0, u "<init>"), (0, u "()V"), (0, .fieldref 8 9), (0, .class_ 10), (0, .nameAndType 11 12), (0, u "com/example/wakelog/wakelog/log/Op"), (0, u "INSERT"), (0, u "Lcom/example/wakelog/wakelog/log/Op;"), (0, .fieldref 8 14), (0, .nameAndType 15 12), (0, u "UPDATE"), (0, .fieldref 8 17), (0, .nameAndType 18 12), (0, u "DELETE"), (0, .fieldref 8 20), (0, .nameAndType 21 12), (0, u "TRUNCATE"), (0, .methodref 23 24), (0, .class_ 25), (0, .nameAndType 26 27), (0, u "com/example/wakelog/wakelog/log/OpHasBeforePinLaw"), (0, u "pick"), (0, u "(I)Lcom/example/wakelog/wakelog/log/Op;"), (0, .methodref 8 29), (0, .nameAndType 30 31), (0, u "hasBefore"), (0, u "()Z"), (0, .methodref 8 33), (0, .nameAndType 34 31), (0, u "hasAfter"), (3, u "law"), (0, u "(I)Z")] 2

def k1m0 : Method := { name := "<init>", desc := "()V", sig := { parameters := [], returnType := none }, accessFlags := 1, code := none }
def k1c1 : Code := { maxStack := 2, maxLocals := 1, code := method_2_code, exceptionTable := #[], attributes := #[] }
def k1m1 : Method := { name := "pick", desc := "(I)Lcom/example/wakelog/wakelog/log/Op;", sig := { parameters := [.int], returnType := some (.object "com/example/wakelog/wakelog/log/Op") }, accessFlags := 10, code := some k1c1 }
def k1c2 : Code := { maxStack := 2, maxLocals := 7, code := code, exceptionTable := #[], attributes := #[] }
def k1m2 : Method := { name := "law", desc := "(I)Z", sig := { parameters := [.int], returnType := some .boolean }, accessFlags := 9, code := some k1c2 }
/-- com/example/wakelog/wakelog/log/OpHasBeforePinLaw -/
def k1 : Class := { plain "com/example/wakelog/wakelog/log/OpHasBeforePinLaw" (some 0) with
  accessFlags := 49
  interfaces := #[]
  cf := some (fileOf pool1 23 #[] #[{ accessFlags := 1, nameIndex := 5, descriptorIndex := 6, attributes := #[] }, { accessFlags := 10, nameIndex := 26, descriptorIndex := 27, attributes := #[] }, { accessFlags := 9, nameIndex := 38, descriptorIndex := 39, attributes := #[] }] 49 2 #[] #[])
  fields := #[]
  methods := #[k1m0, k1m1, k1m2]
  instanceTypes := #[]
  staticTypes := #[]
  resolved := Array.replicate 42 none
  statics := none }

def pool2 : Array CpInfo := pool [(1, .class_ 2), (0, u "java/lang/constant/Constable"), (0, .class_ 4), (0, u "java/lang/Object")] 6

/-- java/lang/constant/Constable -/
def k2 : Class := { plain "java/lang/constant/Constable" (some 0) with
  accessFlags := 1537
  interfaces := #[]
  cf := some (fileOf pool2 1 #[] #[] 1537 3 #[] #[])
  fields := #[]
  methods := #[]
  instanceTypes := #[]
  staticTypes := #[]
  resolved := Array.replicate 11 none
  statics := none }

def pool3 : Array CpInfo := pool [(1, .class_ 2), (0, u "java/lang/Comparable"), (0, .class_ 4), (0, u "java/lang/Object")] 7

/-- java/lang/Comparable -/
def k3 : Class := { plain "java/lang/Comparable" (some 0) with
  accessFlags := 1537
  interfaces := #[]
  cf := some (fileOf pool3 1 #[] #[] 1537 3 #[] #[])
  fields := #[]
  methods := #[]
  instanceTypes := #[]
  staticTypes := #[]
  resolved := Array.replicate 12 none
  statics := none }

def pool4 : Array CpInfo := pool [(1, .class_ 2), (0, u "java/io/Serializable"), (0, .class_ 4), (0, u "java/lang/Object")] 2

/-- java/io/Serializable -/
def k4 : Class := { plain "java/io/Serializable" (some 0) with
  accessFlags := 1537
  interfaces := #[]
  cf := some (fileOf pool4 1 #[] #[] 1537 3 #[] #[])
  fields := #[]
  methods := #[]
  instanceTypes := #[]
  staticTypes := #[]
  resolved := Array.replicate 7 none
  statics := none }

def pool5 : Array CpInfo := pool [(2, .class_ 4), (1, u "java/lang/Enum"), (0, u "name"), (0, u "Ljava/lang/String;"), (2, u "ordinal"), (0, u "I"), (1, .class_ 14), (1, u "java/lang/Object"), (4, u "hash"), (86, .class_ 108), (1, u "java/lang/Enum$EnumDesc"), (2, .class_ 112), (0, u "java/lang/constant/Constable"), (0, .class_ 114), (0, u "java/lang/Comparable"), (0, .class_ 116), (0, u "java/io/Serializable")] 87

/-- java/lang/Enum -/
def k5 : Class := { plain "java/lang/Enum" (some 0) with
  accessFlags := 1057
  interfaces := #[2, 3, 4]
  cf := some (fileOf pool5 2 #[.nestMembers #[106]] #[] 1057 12 #[111, 113, 115] #[{ accessFlags := 18, nameIndex := 5, descriptorIndex := 6, attributes := #[] }, { accessFlags := 18, nameIndex := 9, descriptorIndex := 10, attributes := #[] }, { accessFlags := 2, nameIndex := 19, descriptorIndex := 10, attributes := #[] }])
  fields := #[{ name := "name", type := (.object "java/lang/String"), accessFlags := 18, slot := 0, constantValue := 0 }, { name := "ordinal", type := .int, accessFlags := 18, slot := 1, constantValue := 0 }, { name := "hash", type := .int, accessFlags := 2, slot := 2, constantValue := 0 }]
  methods := #[]
  instanceTypes := #[(.object "java/lang/String"), .int, .int]
  staticTypes := #[]
  resolved := Array.replicate 204 none
  statics := none }

def pool6 : Array CpInfo := pool [(1, .class_ 2), (0, u "com/example/wakelog/wakelog/log/Op"), (0, .fieldref 1 4), (0, .nameAndType 5 6), (0, u "INSERT"), (0, u "Lcom/example/wakelog/wakelog/log/Op;"), (0, .fieldref 1 8), (0, .nameAndType 9 6), (0, u "UPDATE"), (0, .fieldref 1 11), (0, .nameAndType 12 6), (0, u "DELETE"), (2, u "TRUNCATE"), (2, u "$VALUES"), (0, u "[Lcom/example/wakelog/wakelog/log/Op;"), (6, .class_ 28), (1, u "java/lang/Enum"), (8, u "code"), (0, u "I"), (29, u "hasBefore"), (0, u "()Z"), (1, u "hasAfter")] 22

def k6c0 : Code := { maxStack := 2, maxLocals := 1, code := prog_63_method_4_code, exceptionTable := #[], attributes := #[] }
def k6m0 : Method := { name := "hasBefore", desc := "()Z", sig := { parameters := [], returnType := some .boolean }, accessFlags := 0, code := some k6c0 }
def k6c1 : Code := { maxStack := 2, maxLocals := 1, code := prog_63_method_5_code, exceptionTable := #[], attributes := #[] }
def k6m1 : Method := { name := "hasAfter", desc := "()Z", sig := { parameters := [], returnType := some .boolean }, accessFlags := 0, code := some k6c1 }
/-- com/example/wakelog/wakelog/log/Op -/
def k6 : Class := { plain "com/example/wakelog/wakelog/log/Op" (some 5) with
  accessFlags := 16433
  interfaces := #[]
  cf := some (fileOf pool6 1 #[] #[{ accessFlags := 0, nameIndex := 68, descriptorIndex := 69, attributes := #[] }, { accessFlags := 0, nameIndex := 71, descriptorIndex := 69, attributes := #[] }] 16433 26 #[] #[{ accessFlags := 16409, nameIndex := 5, descriptorIndex := 6, attributes := #[] }, { accessFlags := 16409, nameIndex := 9, descriptorIndex := 6, attributes := #[] }, { accessFlags := 16409, nameIndex := 12, descriptorIndex := 6, attributes := #[] }, { accessFlags := 16409, nameIndex := 15, descriptorIndex := 6, attributes := #[] }, { accessFlags := 16, nameIndex := 37, descriptorIndex := 38, attributes := #[] }, { accessFlags := 4122, nameIndex := 18, descriptorIndex := 19, attributes := #[] }])
  fields := #[{ name := "INSERT", type := (.object "com/example/wakelog/wakelog/log/Op"), accessFlags := 16409, slot := 0, constantValue := 0 }, { name := "UPDATE", type := (.object "com/example/wakelog/wakelog/log/Op"), accessFlags := 16409, slot := 1, constantValue := 0 }, { name := "DELETE", type := (.object "com/example/wakelog/wakelog/log/Op"), accessFlags := 16409, slot := 2, constantValue := 0 }, { name := "TRUNCATE", type := (.object "com/example/wakelog/wakelog/log/Op"), accessFlags := 16409, slot := 3, constantValue := 0 }, { name := "code", type := .int, accessFlags := 16, slot := 3, constantValue := 0 }, { name := "$VALUES", type := (.array (.object "com/example/wakelog/wakelog/log/Op")), accessFlags := 4122, slot := 4, constantValue := 0 }]
  methods := #[k6m0, k6m1]
  instanceTypes := #[(.object "java/lang/String"), .int, .int, .int]
  staticTypes := #[(.object "com/example/wakelog/wakelog/log/Op"), (.object "com/example/wakelog/wakelog/log/Op"), (.object "com/example/wakelog/wakelog/log/Op"), (.object "com/example/wakelog/wakelog/log/Op"), (.array (.object "com/example/wakelog/wakelog/log/Op"))]
  resolved := Array.replicate 94 none
  statics := some 0 }

def pool7 : Array CpInfo := pool [(1, u "java/lang/Cloneable"), (0, .class_ 1), (0, u "java/lang/Object"), (0, .class_ 3)] 3

/-- java/lang/Cloneable -/
def k7 : Class := { plain "java/lang/Cloneable" (some 0) with
  accessFlags := 1537
  interfaces := #[]
  cf := some (fileOf pool7 2 #[] #[] 1537 4 #[] #[])
  fields := #[]
  methods := #[]
  instanceTypes := #[]
  staticTypes := #[]
  resolved := Array.replicate 8 none
  statics := none }

/-- the primitive byte -/
def k8 : Class := { plain "byte" none with kind := .primitive 'B', accessFlags := 0x411 }
/-- [B -/
def k9 : Class := { plain "[B" (some 0) with kind := .array 8 .byte, interfaces := #[7, 4], accessFlags := 1041 }

/-- the primitive int -/
def k10 : Class := { plain "int" none with kind := .primitive 'I', accessFlags := 0x411 }
/-- [I -/
def k11 : Class := { plain "[I" (some 0) with kind := .array 10 .int, interfaces := #[7, 4], accessFlags := 1041 }

def heap : Heap := #[{ cls := 6, slots := #[.ref 1, .ref 2, .ref 3, .ref 4, .null], vm := .statics 6 },
  { cls := 6, slots := #[.null, .int 0, .int 0, .int 1], vm := .none },
  { cls := 6, slots := #[.null, .int 1, .int 0, .int 2], vm := .none },
  { cls := 6, slots := #[.null, .int 2, .int 0, .int 3], vm := .none },
  { cls := 6, slots := #[.null, .int 3, .int 0, .int 4], vm := .none }]
def classes : Array Class := #[k0, k1, k2, k3, k4, k5, k6, k7, k8, k9, k10, k11]
def interned : List (Array UInt16 × Addr) := []
def slotsUsed : Nat := 21
def theMethod : MethodId := ⟨1, 2⟩
def args0 : Array Value := #[.int 5]
def aboutOver (below : List Frame) : State where
  vm := { classes := classes, interned := interned.toArray }
  heap := heap
  slotsUsed := slotsUsed
  threads := #[{ frames := .invoking theMethod args0 :: below }]
def below0 : List Frame := [.native { method := ⟨0, 0⟩, args := #[] }]
def about1 : State := aboutOver below0
def p0 : Program := .bare "" "" ""
def e0 : Env := launch0.env 0 0 0
theorem w_frames : about1.frames = Frame.invoking theMethod args0 :: below0 := rfl
set_option maxRecDepth 65536 in
theorem w_args : argsFit about1.vm theMethod args0 = true := by decide +kernel
set_option maxRecDepth 65536 in
theorem w_heap : heapFits about1 = true := by decide +kernel
set_option maxRecDepth 65536 in
theorem w_runnable : about1.curStatus? = some .runnable := by decide +kernel
set_option maxRecDepth 65536 in
theorem w_alone : about1.alone = true := by decide +kernel
set_option maxRecDepth 65536 in
theorem w_named : about1.methodNamed? x = some theMethod := by decide +kernel
set_option maxRecDepth 65536 in
theorem w_hears : about1.hears theMethod below0 = true := by decide +kernel
set_option maxRecDepth 65536 in
theorem w_ripe : about1.ripe theMethod args0 below0 = true := by decide +kernel
theorem w_running : about1.status = .running := rfl
set_option maxRecDepth 65536 in
theorem w_room : about1.hasRoom e0.platform room_1 = true :=
  launch0.hasRoom_least _ room_1 (by decide +kernel) (by decide +kernel) (by decide +kernel) (by decide +kernel) (by decide +kernel) (by decide +kernel)
theorem allAtoms_all (ts : List Jvm.Cond) (a : Array Jvm.Value) (st : Jvm.State) : (allAtoms ts).before a st = ts.all (fun c => c.before a st) := by
  induction ts with
  | nil => rfl
  | cons c t ih =>
    show (Jvm.Cond.and c (allAtoms t)).before a st = _
    rw [Jvm.Cond.before_and, ih, List.all_cons]
def words1 : List Jvm.Cond := Jvm.Cond.code x code maxLocals ret :: tables_1
/-- a 'code' word, met by the world's own term for the bytes: nothing is compared byte by byte -/
theorem code_word {y : MethodName} {bytes : ByteArray} {mx : Nat} {rt : Option FieldType} {a : Array Value} {s : State} {m : MethodId} {meth : Method} {c : Code} (h1 : s.methodNamed? y = some m) (h2 : s.vm.method? m = some meth) (h3 : meth.code = some c) (h4 : c.code = bytes)
    (h5 : (c.maxLocals == mx && c.exceptionTable.isEmpty && decide (c.maxStack ≤ mostOperands) && decide (meth.sig.returnType = rt) && !meth.locks && decide (parseMethodDescriptor y.desc = some meth.sig)) = true) : (Jvm.Cond.code y bytes mx rt).before a s = true := by
  simp only [Bool.and_eq_true, beq_iff_eq, Bool.not_eq_true', decide_eq_true_eq] at h5
  obtain ⟨⟨⟨⟨⟨g1, g2⟩, g3⟩, g4⟩, g5⟩, g6⟩ := h5
  simp [Cond.before, Cond.holds, Cond.value, h1, h2, h3, h4, g1, g2, g3, g4, g5, g6]
def isCode : Jvm.Cond → Bool
  | .code _ _ _ _ => true
  | _ => false
theorem all_split {L : List Jvm.Cond} {P : Jvm.Cond → Bool} (h1 : L.all (fun c => isCode c || P c) = true) (h2 : ∀ c ∈ L.filter isCode, P c = true) : L.all P = true := by
  refine List.all_eq_true.mpr fun c hc => ?_
  have h := List.all_eq_true.mp h1 c hc
  rcases Bool.eq_false_or_eq_true (isCode c) with hi | hi
  · exact h2 c (List.mem_filter.mpr ⟨hc, hi⟩)
  · simpa [hi] using h
set_option maxRecDepth 65536 in
theorem w_c0 : (Jvm.Cond.code x code maxLocals ret).before args0 about1 = true := code_word (m := ⟨1, 2⟩) (meth := k1m2) (c := k1c2) (by decide +kernel) rfl rfl rfl (by decide +kernel)
set_option maxRecDepth 65536 in
theorem w_c1 : (Jvm.Cond.code ({ cls := "com/example/wakelog/wakelog/log/OpHasBeforePinLaw", name := "pick", desc := "(I)Lcom/example/wakelog/wakelog/log/Op;" } : Jvm.MethodName) method_2_code (1 : Nat) (Option.some (Jvm.ClassFile.FieldType.object "com/example/wakelog/wakelog/log/Op"))).before args0 about1 = true := code_word (m := ⟨1, 1⟩) (meth := k1m1) (c := k1c1) (by decide +kernel) rfl rfl rfl (by decide +kernel)
set_option maxRecDepth 65536 in
theorem w_c2 : (Jvm.Cond.code ({ cls := "com/example/wakelog/wakelog/log/Op", name := "hasBefore", desc := "()Z" } : Jvm.MethodName) prog_63_method_4_code (1 : Nat) (Option.some Jvm.ClassFile.FieldType.boolean)).before args0 about1 = true := code_word (m := ⟨6, 0⟩) (meth := k6m0) (c := k6c0) (by decide +kernel) rfl rfl rfl (by decide +kernel)
set_option maxRecDepth 65536 in
theorem w_c3 : (Jvm.Cond.code ({ cls := "com/example/wakelog/wakelog/log/Op", name := "hasAfter", desc := "()Z" } : Jvm.MethodName) prog_63_method_5_code (1 : Nat) (Option.some Jvm.ClassFile.FieldType.boolean)).before args0 about1 = true := code_word (m := ⟨6, 1⟩) (meth := k6m1) (c := k6c1) (by decide +kernel) rfl rfl rfl (by decide +kernel)
def codes1 : List Jvm.Cond := [Jvm.Cond.code x code maxLocals ret, Jvm.Cond.code ({ cls := "com/example/wakelog/wakelog/log/OpHasBeforePinLaw", name := "pick", desc := "(I)Lcom/example/wakelog/wakelog/log/Op;" } : Jvm.MethodName) method_2_code (1 : Nat) (Option.some (Jvm.ClassFile.FieldType.object "com/example/wakelog/wakelog/log/Op")), Jvm.Cond.code ({ cls := "com/example/wakelog/wakelog/log/Op", name := "hasBefore", desc := "()Z" } : Jvm.MethodName) prog_63_method_4_code (1 : Nat) (Option.some Jvm.ClassFile.FieldType.boolean), Jvm.Cond.code ({ cls := "com/example/wakelog/wakelog/log/Op", name := "hasAfter", desc := "()Z" } : Jvm.MethodName) prog_63_method_5_code (1 : Nat) (Option.some Jvm.ClassFile.FieldType.boolean)]
set_option maxRecDepth 65536 in
theorem codes_eq : words1.filter isCode = codes1 := rfl
theorem w_codes : ∀ c ∈ words1.filter isCode, c.before args0 about1 = true := by
  rw [codes_eq]
  intro c hc
  simp only [codes1, List.mem_cons, List.not_mem_nil, or_false] at hc
  rcases hc with rfl | rfl | rfl | rfl
  · exact w_c0
  · exact w_c1
  · exact w_c2
  · exact w_c3
set_option maxRecDepth 65536 in
theorem w_t1 : (words1.take 24).all (fun c => isCode c || c.before args0 about1) = true := by decide +kernel
set_option maxRecDepth 65536 in
theorem w_t2 : (words1.drop 24).all (fun c => isCode c || c.before args0 about1) = true := by decide +kernel
theorem w_tables : (allAtoms (Jvm.Cond.code x code maxLocals ret :: tables_1)).before args0 about1 = true := by
  rw [allAtoms_all]
  show words1.all (fun c => c.before args0 about1) = true
  refine all_split ?_ w_codes
  rw [← List.take_append_drop 24 words1, List.all_append, w_t1, w_t2]
  rfl
set_option maxRecDepth 65536 in
theorem w_case : (Jvm.Cond.and given_1 narrow_1).before args0 about1 = true := by decide +kernel
theorem w_applies : (headSpec (Jvm.Cond.code x code maxLocals ret :: tables_1) room_1).applies x e0.platform about1 = true :=
  (Spec.applies_iff w_frames).mpr ⟨w_running, w_runnable, w_alone, w_named, w_hears, w_ripe, w_room, w_tables⟩
theorem atStart : AtStart classFile x code maxLocals ret World_1 tables_1 room_1 Calls_1 rest_1 Pre_1 launch0 p0 e0 about1 theMethod args0 below0 :=
  ⟨lists_1, trivial, launch0.admits_env _ _ _, launch0.least_env, fairChoices_fair.cas, fairChoices_fair.clock, w_frames, w_args, w_heap, w_applies, trivial, trivial, w_case⟩
end start1
theorem witness_1 : WitnessClaimed_1 := ⟨start1.p0, start1.e0, start1.about1, start1.theMethod, start1.args0, start1.below0, start1.atStart⟩
end Jvm.Pilot.@@N@@
