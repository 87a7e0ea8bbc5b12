import JvmDerived
import JvmDerived.Pilot.@@N@@Statement
import JvmDerived.Pilot.@@N@@Code
set_option linter.unusedVariables false
set_option linter.unusedSimpArgs false
namespace Jvm.RoadKit
open Sem ClassFile Op Lib Jvm.Stand Jvm.Free Jvm.LawKit
section New
variable {p : Program} {l : Launch} {e : Env} {R : Room} {s : State} {m : MethodId} {args : Array Value} {below : List Frame} {meth : Method} {c : Code} {T : State} {locs : List Loc} {cells slots : Nat}
theorem retI (X : Stand p l e R s m args below meth c T locs cells slots) (hx : p.tables.exec = Jvm.exec) {pc : Nat} {Ls : Array Slot} {z : Int32} {rest : List Value} (hret : meth.sig.returnType = some .int) (hd : decode c.code pc = .ok (.ireturn, 1)) {fs : List Frame}
    (hl : ∀ (f : JFrame) (acts : List Action), f.method = m → f.locked = none → f.entered = [] → (doReturn e (T.setTop f) acts (some (.int z))).1 = T.setFrames fs) : Steps p.tables e below (T.setTop (mkF m pc Ls (.int z :: rest))) (T.setFrames fs) :=
  retOut X hx hret rfl (Or.inl ⟨rfl, Or.inl rfl, z, rfl⟩) hd hl
theorem own_catR {v : Value} (h : v.isRef = true) : v.category = 1 := by rcases ref_cases h with rfl | ⟨a, rfl⟩ <;> rfl
theorem own_iteR (P : Prop) [Decidable P] {a b : Value} (ha : a.isRef = true) (hb : b.isRef = true) : (if P then a else b).isRef = true := by
  by_cases h : P
  · rw [if_pos h]; exact ha
  · rw [if_neg h]; exact hb
end New
end Jvm.RoadKit
namespace Jvm.Pilot.@@N@@
open Jvm Jvm.ClassFile Sem Op Lib Jvm.Free Jvm.Stand Jvm.LawKit Jvm.RoadKit Bundle Jvm.Pilot.@@N@@.Jvm.D
def own_len (x : Int32) : Int32 := if x < (0 : Int32) then x else (x % (5 : Int32))
def own_off (o l : Int32) : Int32 := if l < (0 : Int32) then o else ((o &&& (2147483647 : Int32)) % ((5 : Int32) - l))
def own_neg (l : Int32) : Int32 := if l < (0 : Int32) then 1 else 0
theorem own_len_le (x : Int32) : (own_len x).toInt ≤ 4 := by
  have z0 : (0 : Int32).toInt = 0 := rfl
  unfold own_len
  split
  · rename_i h; rw [Int32.lt_iff_toInt_lt] at h; omega
  · rename_i h; rw [Int32.lt_iff_toInt_lt] at h
    have := (c_irem x 5 5 rfl).1 (by omega)
    omega
theorem own_sub5 {l : Int32} (h0 : 0 ≤ l.toInt) (h4 : l.toInt ≤ 4) : ((5 : Int32) - l).toInt = 5 - l.toInt ∧ ((4 : Int32) - l).toInt = 4 - l.toInt := by
  have a := c_isub 5 l
  have b := c_isub 4 l
  have r1 := rng32 ((5 : Int32) - l)
  have r2 := rng32 ((4 : Int32) - l)
  have z5 : (5 : Int32).toInt = 5 := rfl
  have z4 : (4 : Int32).toInt = 4 := rfl
  rw [z5] at a; rw [z4] at b
  omega
theorem own_nz (x : Int32) : ¬ own_len x < (0 : Int32) → ((5 : Int32) - own_len x) ≠ 0 := fun h e => by
  have z0 : (0 : Int32).toInt = 0 := rfl
  rw [Int32.lt_iff_toInt_lt] at h
  have q := own_sub5 (l := own_len x) (by omega) (own_len_le x)
  have e' := congrArg Int32.toInt e
  have := own_len_le x
  omega
theorem own_span (x o : Int32) : ¬ own_len x < (0 : Int32) → ¬ own_off o (own_len x) < (0 : Int32) ∧ ¬ ((4 : Int32) - own_len x) < own_off o (own_len x) := fun h => by
  have z0 : (0 : Int32).toInt = 0 := rfl
  have h' := h
  rw [Int32.lt_iff_toInt_lt] at h'
  have q := own_sub5 (l := own_len x) (by omega) (own_len_le x)
  have l4 := own_len_le x
  have h1 := c_mask o 2147483647 31 (by decide) (by decide)
  have v := (c_iremV (o &&& 2147483647) ((5 : Int32) - own_len x)).1 (by rw [h1]; omega) (by omega)
  have e : own_off o (own_len x) = ((o &&& (2147483647 : Int32)) % ((5 : Int32) - own_len x)) := by unfold own_off; rw [if_neg h]
  rw [e]
  simp only [Int32.lt_iff_toInt_lt]
  omega
theorem d1_0 : decode method_2_code 0 = .ok (.iload_n 0, 1) := by decide +kernel
theorem d1_1 : decode method_2_code 1 = .ok (.ifCond .ge 7, 3) := by decide +kernel
theorem d1_4 : decode method_2_code 4 = .ok (.iload_n 0, 1) := by decide +kernel
theorem d1_5 : decode method_2_code 5 = .ok (.goto 6, 3) := by decide +kernel
theorem d1_8 : decode method_2_code 8 = .ok (.iload_n 0, 1) := by decide +kernel
theorem d1_9 : decode method_2_code 9 = .ok (.iconst 5, 1) := by decide +kernel
theorem d1_10 : decode method_2_code 10 = .ok (.irem, 1) := by decide +kernel
theorem d1_11 : decode method_2_code 11 = .ok (.ireturn, 1) := by decide +kernel
theorem pn_0 : plainName "com/example/wakelog/wakelog/log/RawRowIsNullPinLaw" = true := by first | (simp [plainName, overriddenIn]; done) | decide +kernel
theorem ef_1 (m : MethodId) (x0 : Int32) : entryFrame m #[(.int x0)] 1 = mkF m 0 #[.val (.int x0)] [] := by first | (simp [entryFrame, mkF, argsToLocals, Value.category]; done) | rfl
def Q1 (Z : State) (p0 : Int32) (h0 : Heap) (n0 : Nat) (v : Option Value) (h : Heap) (L : List Loc) : Prop := v = some (.int (own_len p0)) ∧ Fr n0 L ∧ h = h0
set_option maxRecDepth 65536 in
set_option maxHeartbeats 40000000 in
theorem rm1 (l : Launch) (Z : State) (a0 : Array Value) (hw : ∀ d ∈ tables_1, d.before a0 Z = true) (ws : List Jvm.Cond) (p0 : Int32) (h0 : Heap) (n0 : Nat) (Z0 : n0 ≤ h0.size) :
    MetFree l (⟨"com/example/wakelog/wakelog/log/RawRowIsNullPinLaw", "len", "(I)I"⟩ : MethodName) (head1 (Jvm.Cond.code (⟨"com/example/wakelog/wakelog/log/RawRowIsNullPinLaw", "len", "(I)I"⟩ : MethodName) method_2_code 1 (some .int) :: ws) ({ frames := 0, cells := 0, slots := 0, locals := 0 } : Room)) (fun aa U => aa = #[(.int p0)] ∧ Z.Warmed39 U.vm ∧ U.heap = h0) (fun _ _ _ _ _ => True) (fun _ U o U' => ∃ v L, o = .returned v ∧ Q1 Z p0 h0 n0 v U'.heap L ∧ FrameEnd U o U' L ({ frames := 0, cells := 0, slots := 0, locals := 0 } : Room).cells ({ frames := 0, cells := 0, slots := 0, locals := 0 } : Room).slots) := by
  refine MetFree.of_bodySF (plainFor_of_name pn_0) hisR ?_
  intro p e s m args below meth c s₁ Bd hml0 hP hK
  obtain ⟨rfl, hZ, hh⟩ := hP
  have hx := Bd.exec
  have hby := Bd.bytes
  have hml : c.maxLocals = 1 := hml0
  have hown : s.vm.findClass "com/example/wakelog/wakelog/log/RawRowIsNullPinLaw" = some m.cls := findClass_of_methodNamed Bd.named
  have hnm := (name_of_methodNamed Bd.named Bd.method).1
  have X0 : Stand p l e ({ frames := 0, cells := 0, slots := 0, locals := 0 } : Room) s m #[(.int p0)] below meth c s₁ [] 0 0 := Stand.of_body Bd
  have e0 : s₁.heap = h0 := by rw [← hh, Bd.state]; rfl
  have N0 := Fr.nil n0
  have pre0 : ∀ t, Steps p.tables e below (s₁.setTop (mkF m 0 #[.val (.int p0)] [])) t → Steps p.tables e below (s₁.setTop (entryFrame m #[(.int p0)] 1)) t := fun t k => castTop (ef_1 m p0) k
  have k1 : ∀ t, Steps p.tables e below (s₁.setTop (mkF m 1 #[.val (.int p0)] [(.int p0)])) t → Steps p.tables e below (s₁.setTop (entryFrame m #[(.int p0)] 1)) t := fun t k => pre0 t (by
    show Steps p.tables e below (s₁.setTop (mkF m 0 #[.val (.int p0)] [])) _
    refine XS.iloadN X0.here hx rfl (hb hby d1_0) rfl ?_
    exact k)
  by_cases hc2 : p0 < (0 : Int32)
  · have k3 : ∀ t, Steps p.tables e below (s₁.setTop (mkF m 11 #[.val (.int p0)] [(.int p0)])) t → Steps p.tables e below (s₁.setTop (entryFrame m #[(.int p0)] 1)) t := fun t k => k1 t (by
      show Steps p.tables e below (s₁.setTop (mkF m 1 #[.val (.int p0)] [(.int p0)])) _
      refine XS.ifNo X0.here hx rfl (hb hby d1_1) rfl ((if0 _ _).trans (tlt hc2).2.1) ?_
      show Steps p.tables e below (s₁.setTop (mkF m 4 #[.val (.int p0)] [])) _
      refine XS.iloadN X0.here hx rfl (hb hby d1_4) rfl ?_
      show Steps p.tables e below (s₁.setTop (mkF m 5 #[.val (.int p0)] [(.int p0)])) _
      refine XS.goto X0.here hx rfl (pc0 := 5) (pc' := 11) rfl (hb hby d1_5) (by decide) (by decide) ?_
      exact k)
    obtain ⟨fs, hr, hrun, hended, hW, hsame⟩ := X0.leave (v := some (.int p0)) (fun h => by rw [Bd.returns] at h; cases h)
    refine ⟨_, _, k3 _ ?_, hrun, hended, _, _, rfl, ?_, ⟨_, rfl⟩, hW, hsame.mono (by decide) (by decide)⟩
    · show Steps p.tables e below (s₁.setTop (mkF m 11 #[.val (.int p0)] [(.int p0)])) _
      exact retI X0 hx Bd.returns (hb hby d1_11) hr
    · show Q1 Z p0 h0 n0 _ s₁.heap _
      rw [e0]
      exact ⟨congrArg (fun z => some (Value.int z)) (show (p0 : Int32) = own_len p0 by unfold own_len; simp only [if_pos hc2]), N0, rfl⟩
  · have k5 : ∀ t, Steps p.tables e below (s₁.setTop (mkF m 11 #[.val (.int p0)] [(.int (p0 % (5 : Int32)))])) t → Steps p.tables e below (s₁.setTop (entryFrame m #[(.int p0)] 1)) t := fun t k => k1 t (by
      show Steps p.tables e below (s₁.setTop (mkF m 1 #[.val (.int p0)] [(.int p0)])) _
      refine XS.ifYes X0.here hx rfl (pc0 := 1) (pc' := 8) rfl (hb hby d1_1) rfl ((if0 _ _).trans (flt hc2).2.1) (by decide) (by decide) ?_
      show Steps p.tables e below (s₁.setTop (mkF m 8 #[.val (.int p0)] [])) _
      refine XS.iloadN X0.here hx rfl (hb hby d1_8) rfl ?_
      show Steps p.tables e below (s₁.setTop (mkF m 9 #[.val (.int p0)] [(.int p0)])) _
      refine XS.iconst X0.here hx rfl (hb hby d1_9) ?_
      show Steps p.tables e below (s₁.setTop (mkF m 10 #[.val (.int p0)] [(.int (5 : Int32)), (.int p0)])) _
      refine iremM (g := (mkF m 10 #[.val (.int p0)] [(.int (5 : Int32)), (.int p0)])) X0 hx rfl (hb hby d1_10) rfl (by decide) ?_
      exact k)
    obtain ⟨fs, hr, hrun, hended, hW, hsame⟩ := X0.leave (v := some (.int (p0 % (5 : Int32)))) (fun h => by rw [Bd.returns] at h; cases h)
    refine ⟨_, _, k5 _ ?_, hrun, hended, _, _, rfl, ?_, ⟨_, rfl⟩, hW, hsame.mono (by decide) (by decide)⟩
    · show Steps p.tables e below (s₁.setTop (mkF m 11 #[.val (.int p0)] [(.int (p0 % (5 : Int32)))])) _
      exact retI X0 hx Bd.returns (hb hby d1_11) hr
    · show Q1 Z p0 h0 n0 _ s₁.heap _
      rw [e0]
      exact ⟨congrArg (fun z => some (Value.int z)) (show ((p0 % (5 : Int32)) : Int32) = own_len p0 by unfold own_len; simp only [if_neg hc2]), N0, rfl⟩
theorem d2_0 : decode method_3_code 0 = .ok (.iload_n 1, 1) := by decide +kernel
theorem d2_1 : decode method_3_code 1 = .ok (.ifCond .ge 7, 3) := by decide +kernel
theorem d2_4 : decode method_3_code 4 = .ok (.iload_n 0, 1) := by decide +kernel
theorem d2_5 : decode method_3_code 5 = .ok (.goto 11, 3) := by decide +kernel
theorem d2_8 : decode method_3_code 8 = .ok (.iload_n 0, 1) := by decide +kernel
theorem d2_9 : decode method_3_code 9 = .ok (.ldc 7, 2) := by decide +kernel
theorem d2_11 : decode method_3_code 11 = .ok (.iand, 1) := by decide +kernel
theorem d2_12 : decode method_3_code 12 = .ok (.iconst 5, 1) := by decide +kernel
theorem d2_13 : decode method_3_code 13 = .ok (.iload_n 1, 1) := by decide +kernel
theorem d2_14 : decode method_3_code 14 = .ok (.isub, 1) := by decide +kernel
theorem d2_15 : decode method_3_code 15 = .ok (.irem, 1) := by decide +kernel
theorem d2_16 : decode method_3_code 16 = .ok (.ireturn, 1) := by decide +kernel
theorem ef_2 (m : MethodId) (x0 : Int32) (x1 : Int32) : entryFrame m #[(.int x0), (.int x1)] 2 = mkF m 0 #[.val (.int x0), .val (.int x1)] [] := by first | (simp [entryFrame, mkF, argsToLocals, Value.category]; done) | rfl
def Q2 (Z : State) (p0 : Int32) (p1 : Int32) (h0 : Heap) (n0 : Nat) (v : Option Value) (h : Heap) (L : List Loc) : Prop := v = some (.int (own_off p0 p1)) ∧ Fr n0 L ∧ h = h0
set_option maxRecDepth 65536 in
set_option maxHeartbeats 40000000 in
theorem rm2 (l : Launch) (Z : State) (a0 : Array Value) (hw : ∀ d ∈ tables_1, d.before a0 Z = true) (ws : List Jvm.Cond) (p0 : Int32) (p1 : Int32) (h0 : Heap) (n0 : Nat) (Z0 : n0 ≤ h0.size) (h5 : ¬ p1 < (0 : Int32) → ((5 : Int32) - p1) ≠ 0) :
    MetFree l (⟨"com/example/wakelog/wakelog/log/RawRowIsNullPinLaw", "off", "(II)I"⟩ : MethodName) (head1 (Jvm.Cond.code (⟨"com/example/wakelog/wakelog/log/RawRowIsNullPinLaw", "off", "(II)I"⟩ : MethodName) method_3_code 2 (some .int) :: ws) ({ frames := 0, cells := 0, slots := 0, locals := 0 } : Room)) (fun aa U => aa = #[(.int p0), (.int p1)] ∧ Z.Warmed39 U.vm ∧ U.heap = h0) (fun _ _ _ _ _ => True) (fun _ U o U' => ∃ v L, o = .returned v ∧ Q2 Z p0 p1 h0 n0 v U'.heap L ∧ FrameEnd U o U' L ({ frames := 0, cells := 0, slots := 0, locals := 0 } : Room).cells ({ frames := 0, cells := 0, slots := 0, locals := 0 } : Room).slots) := by
  refine MetFree.of_bodySF (plainFor_of_name pn_0) hisR ?_
  intro p e s m args below meth c s₁ Bd hml0 hP hK
  obtain ⟨rfl, hZ, hh⟩ := hP
  have hx := Bd.exec
  have hby := Bd.bytes
  have hml : c.maxLocals = 2 := hml0
  have hown : s.vm.findClass "com/example/wakelog/wakelog/log/RawRowIsNullPinLaw" = some m.cls := findClass_of_methodNamed Bd.named
  have hnm := (name_of_methodNamed Bd.named Bd.method).1
  have X0 : Stand p l e ({ frames := 0, cells := 0, slots := 0, locals := 0 } : Room) s m #[(.int p0), (.int p1)] below meth c s₁ [] 0 0 := Stand.of_body Bd
  have e0 : s₁.heap = h0 := by rw [← hh, Bd.state]; rfl
  have N0 := Fr.nil n0
  have pre0 : ∀ t, Steps p.tables e below (s₁.setTop (mkF m 0 #[.val (.int p0), .val (.int p1)] [])) t → Steps p.tables e below (s₁.setTop (entryFrame m #[(.int p0), (.int p1)] 2)) t := fun t k => castTop (ef_2 m p0 p1) k
  have k7 : ∀ t, Steps p.tables e below (s₁.setTop (mkF m 1 #[.val (.int p0), .val (.int p1)] [(.int p1)])) t → Steps p.tables e below (s₁.setTop (entryFrame m #[(.int p0), (.int p1)] 2)) t := fun t k => pre0 t (by
    show Steps p.tables e below (s₁.setTop (mkF m 0 #[.val (.int p0), .val (.int p1)] [])) _
    refine XS.iloadN X0.here hx rfl (hb hby d2_0) rfl ?_
    exact k)
  by_cases hc8 : p1 < (0 : Int32)
  · have k9 : ∀ t, Steps p.tables e below (s₁.setTop (mkF m 16 #[.val (.int p0), .val (.int p1)] [(.int p0)])) t → Steps p.tables e below (s₁.setTop (entryFrame m #[(.int p0), (.int p1)] 2)) t := fun t k => k7 t (by
      show Steps p.tables e below (s₁.setTop (mkF m 1 #[.val (.int p0), .val (.int p1)] [(.int p1)])) _
      refine XS.ifNo X0.here hx rfl (hb hby d2_1) rfl ((if0 _ _).trans (tlt hc8).2.1) ?_
      show Steps p.tables e below (s₁.setTop (mkF m 4 #[.val (.int p0), .val (.int p1)] [])) _
      refine XS.iloadN X0.here hx rfl (hb hby d2_4) rfl ?_
      show Steps p.tables e below (s₁.setTop (mkF m 5 #[.val (.int p0), .val (.int p1)] [(.int p0)])) _
      refine XS.goto X0.here hx rfl (pc0 := 5) (pc' := 16) rfl (hb hby d2_5) (by decide) (by decide) ?_
      exact k)
    obtain ⟨fs, hr, hrun, hended, hW, hsame⟩ := X0.leave (v := some (.int p0)) (fun h => by rw [Bd.returns] at h; cases h)
    refine ⟨_, _, k9 _ ?_, hrun, hended, _, _, rfl, ?_, ⟨_, rfl⟩, hW, hsame.mono (by decide) (by decide)⟩
    · show Steps p.tables e below (s₁.setTop (mkF m 16 #[.val (.int p0), .val (.int p1)] [(.int p0)])) _
      exact retI X0 hx Bd.returns (hb hby d2_16) hr
    · show Q2 Z p0 p1 h0 n0 _ s₁.heap _
      rw [e0]
      exact ⟨congrArg (fun z => some (Value.int z)) (show (p0 : Int32) = own_off p0 p1 by unfold own_off; simp only [if_pos hc8]), N0, rfl⟩
  · have k11 : ∀ t, Steps p.tables e below (s₁.setTop (mkF m 16 #[.val (.int p0), .val (.int p1)] [(.int ((p0 &&& (2147483647 : Int32)) % ((5 : Int32) - p1)))])) t → Steps p.tables e below (s₁.setTop (entryFrame m #[(.int p0), (.int p1)] 2)) t := fun t k => k7 t (by
      show Steps p.tables e below (s₁.setTop (mkF m 1 #[.val (.int p0), .val (.int p1)] [(.int p1)])) _
      refine XS.ifYes X0.here hx rfl (pc0 := 1) (pc' := 8) rfl (hb hby d2_1) rfl ((if0 _ _).trans (flt hc8).2.1) (by decide) (by decide) ?_
      show Steps p.tables e below (s₁.setTop (mkF m 8 #[.val (.int p0), .val (.int p1)] [])) _
      refine XS.iloadN X0.here hx rfl (hb hby d2_8) rfl ?_
      show Steps p.tables e below (s₁.setTop (mkF m 9 #[.val (.int p0), .val (.int p1)] [(.int p0)])) _
      refine X0.ldcInt hx hown (mvT hZ (hw _ (List.mem_of_getElem? (i := 9) rfl))) (g := (mkF m 9 #[.val (.int p0), .val (.int p1)] [(.int p0)])) rfl (hb hby d2_9) _ ?_
      show Steps p.tables e below (s₁.setTop (mkF m 11 #[.val (.int p0), .val (.int p1)] [(.int (2147483647 : Int32)), (.int p0)])) _
      refine XS.iand X0.here hx rfl (hb hby d2_11) rfl ?_
      show Steps p.tables e below (s₁.setTop (mkF m 12 #[.val (.int p0), .val (.int p1)] [(.int (p0 &&& (2147483647 : Int32)))])) _
      refine XS.iconst X0.here hx rfl (hb hby d2_12) ?_
      show Steps p.tables e below (s₁.setTop (mkF m 13 #[.val (.int p0), .val (.int p1)] [(.int (5 : Int32)), (.int (p0 &&& (2147483647 : Int32)))])) _
      refine XS.iloadN X0.here hx rfl (hb hby d2_13) rfl ?_
      show Steps p.tables e below (s₁.setTop (mkF m 14 #[.val (.int p0), .val (.int p1)] [(.int p1), (.int (5 : Int32)), (.int (p0 &&& (2147483647 : Int32)))])) _
      refine XS.isub X0.here hx rfl (hb hby d2_14) rfl ?_
      show Steps p.tables e below (s₁.setTop (mkF m 15 #[.val (.int p0), .val (.int p1)] [(.int ((5 : Int32) - p1)), (.int (p0 &&& (2147483647 : Int32)))])) _
      refine iremM (g := (mkF m 15 #[.val (.int p0), .val (.int p1)] [(.int ((5 : Int32) - p1)), (.int (p0 &&& (2147483647 : Int32)))])) X0 hx rfl (hb hby d2_15) rfl (h5 hc8) ?_
      exact k)
    obtain ⟨fs, hr, hrun, hended, hW, hsame⟩ := X0.leave (v := some (.int ((p0 &&& (2147483647 : Int32)) % ((5 : Int32) - p1)))) (fun h => by rw [Bd.returns] at h; cases h)
    refine ⟨_, _, k11 _ ?_, hrun, hended, _, _, rfl, ?_, ⟨_, rfl⟩, hW, hsame.mono (by decide) (by decide)⟩
    · show Steps p.tables e below (s₁.setTop (mkF m 16 #[.val (.int p0), .val (.int p1)] [(.int ((p0 &&& (2147483647 : Int32)) % ((5 : Int32) - p1)))])) _
      exact retI X0 hx Bd.returns (hb hby d2_16) hr
    · show Q2 Z p0 p1 h0 n0 _ s₁.heap _
      rw [e0]
      exact ⟨congrArg (fun z => some (Value.int z)) (show (((p0 &&& (2147483647 : Int32)) % ((5 : Int32) - p1)) : Int32) = own_off p0 p1 by unfold own_off; simp only [if_neg hc8]), N0, rfl⟩
theorem d3_0 : decode prog_67_method_1_code 0 = .ok (.aload_n 0, 1) := by decide +kernel
theorem d3_1 : decode prog_67_method_1_code 1 = .ok (.invokespecial 1, 3) := by decide +kernel
theorem d3_4 : decode prog_67_method_1_code 4 = .ok (.aload_n 2, 1) := by decide +kernel
theorem d3_5 : decode prog_67_method_1_code 5 = .ok (.arraylength, 1) := by decide +kernel
theorem d3_6 : decode prog_67_method_1_code 6 = .ok (.iconst 2, 1) := by decide +kernel
theorem d3_7 : decode prog_67_method_1_code 7 = .ok (.irem, 1) := by decide +kernel
theorem d3_8 : decode prog_67_method_1_code 8 = .ok (.ifCond .eq 18, 3) := by decide +kernel
theorem d3_26 : decode prog_67_method_1_code 26 = .ok (.iconst 0, 1) := by decide +kernel
theorem d3_27 : decode prog_67_method_1_code 27 = .ok (.istore_n 3, 1) := by decide +kernel
theorem d3_28 : decode prog_67_method_1_code 28 = .ok (.iload_n 3, 1) := by decide +kernel
theorem d3_29 : decode prog_67_method_1_code 29 = .ok (.aload_n 2, 1) := by decide +kernel
theorem d3_30 : decode prog_67_method_1_code 30 = .ok (.arraylength, 1) := by decide +kernel
theorem d3_31 : decode prog_67_method_1_code 31 = .ok (.if_icmp .ge 60, 3) := by decide +kernel
theorem d3_34 : decode prog_67_method_1_code 34 = .ok (.aload_n 2, 1) := by decide +kernel
theorem d3_35 : decode prog_67_method_1_code 35 = .ok (.iload_n 3, 1) := by decide +kernel
theorem d3_36 : decode prog_67_method_1_code 36 = .ok (.iconst 1, 1) := by decide +kernel
theorem d3_37 : decode prog_67_method_1_code 37 = .ok (.iadd, 1) := by decide +kernel
theorem d3_38 : decode prog_67_method_1_code 38 = .ok (.iaload, 1) := by decide +kernel
theorem d3_39 : decode prog_67_method_1_code 39 = .ok (.ifCond .lt 46, 3) := by decide +kernel
theorem d3_42 : decode prog_67_method_1_code 42 = .ok (.aload_n 2, 1) := by decide +kernel
theorem d3_43 : decode prog_67_method_1_code 43 = .ok (.iload_n 3, 1) := by decide +kernel
theorem d3_44 : decode prog_67_method_1_code 44 = .ok (.iaload, 1) := by decide +kernel
theorem d3_45 : decode prog_67_method_1_code 45 = .ok (.ifCond .lt 17, 3) := by decide +kernel
theorem d3_48 : decode prog_67_method_1_code 48 = .ok (.aload_n 2, 1) := by decide +kernel
theorem d3_49 : decode prog_67_method_1_code 49 = .ok (.iload_n 3, 1) := by decide +kernel
theorem d3_50 : decode prog_67_method_1_code 50 = .ok (.iaload, 1) := by decide +kernel
theorem d3_51 : decode prog_67_method_1_code 51 = .ok (.aload_n 1, 1) := by decide +kernel
theorem d3_52 : decode prog_67_method_1_code 52 = .ok (.arraylength, 1) := by decide +kernel
theorem d3_53 : decode prog_67_method_1_code 53 = .ok (.aload_n 2, 1) := by decide +kernel
theorem d3_54 : decode prog_67_method_1_code 54 = .ok (.iload_n 3, 1) := by decide +kernel
theorem d3_55 : decode prog_67_method_1_code 55 = .ok (.iconst 1, 1) := by decide +kernel
theorem d3_56 : decode prog_67_method_1_code 56 = .ok (.iadd, 1) := by decide +kernel
theorem d3_57 : decode prog_67_method_1_code 57 = .ok (.iaload, 1) := by decide +kernel
theorem d3_58 : decode prog_67_method_1_code 58 = .ok (.isub, 1) := by decide +kernel
theorem d3_59 : decode prog_67_method_1_code 59 = .ok (.if_icmp .le 26, 3) := by decide +kernel
theorem d3_85 : decode prog_67_method_1_code 85 = .ok (.iinc 3 2, 3) := by decide +kernel
theorem d3_88 : decode prog_67_method_1_code 88 = .ok (.goto (-60), 3) := by decide +kernel
theorem d3_91 : decode prog_67_method_1_code 91 = .ok (.aload_n 0, 1) := by decide +kernel
theorem d3_92 : decode prog_67_method_1_code 92 = .ok (.aload_n 1, 1) := by decide +kernel
theorem d3_93 : decode prog_67_method_1_code 93 = .ok (.putfield 19, 3) := by decide +kernel
theorem d3_96 : decode prog_67_method_1_code 96 = .ok (.aload_n 0, 1) := by decide +kernel
theorem d3_97 : decode prog_67_method_1_code 97 = .ok (.aload_n 2, 1) := by decide +kernel
theorem d3_98 : decode prog_67_method_1_code 98 = .ok (.putfield 25, 3) := by decide +kernel
theorem d3_101 : decode prog_67_method_1_code 101 = .ok (.return_, 1) := by decide +kernel
theorem pn_1 : plainName "com/example/wakelog/wakelog/log/RawRow" = true := by first | (simp [plainName, overriddenIn]; done) | decide +kernel
theorem ef_3 (m : MethodId) (x0 : Addr) (x1 : Addr) (x2 : Addr) : entryFrame m #[(.ref x0), (.ref x1), (.ref x2)] 4 = mkF m 0 #[.val (.ref x0), .val (.ref x1), .val (.ref x2), .unset] [] := by first | (simp [entryFrame, mkF, argsToLocals, Value.category]; done) | rfl
def Q3 (Z : State) (a : Addr) (ab : Addr) (asp : Addr) (kb : ClassId) (vb : List Value) (db : Value) (ks : ClassId) (o0 : Int32) (l0 : Int32) (o1 : Int32) (l1 : Int32) (o2 : Int32) (l2 : Int32) (h0 : Heap) (n0 : Nat) (v : Option Value) (h : Heap) (L : List Loc) : Prop := v = none ∧ Fr n0 L ∧ Keep h0 h [a] ∧ Exa Z h a "com/example/wakelog/wakelog/log/RawRow" ∧ Fld Z h a "com/example/wakelog/wakelog/log/RawRow" "spans" "[I" (.ref asp)
set_option maxRecDepth 65536 in
set_option maxHeartbeats 40000000 in
theorem rm3 (l : Launch) (Z : State) (a0 : Array Value) (hw : ∀ d ∈ tables_1, d.before a0 Z = true) (ws : List Jvm.Cond) (a : Addr) (ab : Addr) (asp : Addr) (kb : ClassId) (vb : List Value) (db : Value) (ks : ClassId) (o0 : Int32) (l0 : Int32) (o1 : Int32) (l1 : Int32) (o2 : Int32) (l2 : Int32) (h0 : Heap) (n0 : Nat) (Z0 : n0 ≤ h0.size) (F1 : Fld Z h0 a "com/example/wakelog/wakelog/log/RawRow" "bytes" "[B" .null) (F2 : Fld Z h0 a "com/example/wakelog/wakelog/log/RawRow" "spans" "[I" .null) (Ea : Exa Z h0 a "com/example/wakelog/wakelog/log/RawRow") (g_a : n0 ≤ a) (Vb : Arv Z h0 ab kb .byte (4 : Int32) vb db) (Vs : Arv Z h0 asp ks .int (6 : Int32) [(.int o0), (.int l0), (.int o1), (.int l1), (.int o2), (.int l2)] (.int (0 : Int32))) (n1 : ab ≠ a) (n2 : asp ≠ a) (H0 : ¬ l0 < (0 : Int32) → ¬ o0 < (0 : Int32) ∧ ¬ ((4 : Int32) - l0) < o0) (H1 : ¬ l1 < (0 : Int32) → ¬ o1 < (0 : Int32) ∧ ¬ ((4 : Int32) - l1) < o1) (H2 : ¬ l2 < (0 : Int32) → ¬ o2 < (0 : Int32) ∧ ¬ ((4 : Int32) - l2) < o2) :
    MetFree l (⟨"com/example/wakelog/wakelog/log/RawRow", "<init>", "([B[I)V"⟩ : MethodName) (head1 (Jvm.Cond.code (⟨"com/example/wakelog/wakelog/log/RawRow", "<init>", "([B[I)V"⟩ : MethodName) prog_67_method_1_code 4 none :: ws) ({ frames := 1, cells := 0, slots := 0, locals := 12 } : Room)) (fun aa U => aa = #[(.ref a), (.ref ab), (.ref asp)] ∧ Z.Warmed39 U.vm ∧ U.heap = h0) (fun _ _ _ _ _ => True) (fun _ U o U' => ∃ v L, o = .returned v ∧ Q3 Z a ab asp kb vb db ks o0 l0 o1 l1 o2 l2 h0 n0 v U'.heap L ∧ FrameEnd U o U' L ({ frames := 1, cells := 0, slots := 0, locals := 12 } : Room).cells ({ frames := 1, cells := 0, slots := 0, locals := 12 } : Room).slots) := by
  refine MetFree.of_bodySF (plainFor_of_name pn_1) hisR ?_
  intro p e s m args below meth c s₁ Bd hml0 hP hK
  obtain ⟨rfl, hZ, hh⟩ := hP
  have hx := Bd.exec
  have hby := Bd.bytes
  have hml : c.maxLocals = 4 := hml0
  have hown : s.vm.findClass "com/example/wakelog/wakelog/log/RawRow" = some m.cls := findClass_of_methodNamed Bd.named
  have hnm := (name_of_methodNamed Bd.named Bd.method).1
  have X0 : Stand p l e ({ frames := 1, cells := 0, slots := 0, locals := 12 } : Room) s m #[(.ref a), (.ref ab), (.ref asp)] below meth c s₁ [] 0 0 := Stand.of_body Bd
  have e0 : s₁.heap = h0 := by rw [← hh, Bd.state]; rfl
  have N0 := Fr.nil n0
  have pre0 : ∀ t, Steps p.tables e below (s₁.setTop (mkF m 0 #[.val (.ref a), .val (.ref ab), .val (.ref asp), .unset] [])) t → Steps p.tables e below (s₁.setTop (entryFrame m #[(.ref a), (.ref ab), (.ref asp)] 4)) t := fun t k => castTop (ef_3 m a ab asp) k
  have KR : Keep h0 h0 [a] := Keep.refl _ _
  have k13 : ∀ t, Steps p.tables e below (s₁.setTop (mkF m 1 #[.val (.ref a), .val (.ref ab), .val (.ref asp), .unset] [(.ref a)])) t → Steps p.tables e below (s₁.setTop (entryFrame m #[(.ref a), (.ref ab), (.ref asp)] 4)) t := fun t k => pre0 t (by
    show Steps p.tables e below (s₁.setTop (mkF m 0 #[.val (.ref a), .val (.ref ab), .val (.ref asp), .unset] [])) _
    refine XS.aloadN X0.here hx rfl (hb hby d3_0) rfl rfl ?_
    exact k)
  obtain ⟨T14, X14, e14, st14⟩ := initO X0 hx hZ hown (hw _ (List.mem_of_getElem? (i := 16) rfl)) (hw _ (List.mem_of_getElem? (i := 17) rfl)) (hw _ (List.mem_of_getElem? (i := 18) rfl)) e0 (g := (mkF m 1 #[.val (.ref a), .val (.ref ab), .val (.ref asp), .unset] [(.ref a)])) rfl (by rw [hml]; rfl) rfl (hb hby d3_1) (by decide) (W := 0) (by show 2 * 0 + _ ≤ _; exact Nat.le_of_eq rfl) (by decide)
  have k15 : ∀ t, Steps p.tables e below (T14.setTop (mkF m 4 #[.val (.ref a), .val (.ref ab), .val (.ref asp), .unset] [])) t → Steps p.tables e below (s₁.setTop (entryFrame m #[(.ref a), (.ref ab), (.ref asp)] 4)) t := fun t k => k13 t (st14 t k)
  have k19 : ∀ t, Steps p.tables e below (T14.setTop (mkF m 39 #[.val (.ref a), .val (.ref ab), .val (.ref asp), .val (.int (0 : Int32))] [(.int l0)])) t → Steps p.tables e below (s₁.setTop (entryFrame m #[(.ref a), (.ref ab), (.ref asp)] 4)) t := fun t k => k15 t (by
    show Steps p.tables e below (T14.setTop (mkF m 4 #[.val (.ref a), .val (.ref ab), .val (.ref asp), .unset] [])) _
    refine XS.aloadN X14.here hx rfl (hb hby d3_4) rfl rfl ?_
    show Steps p.tables e below (T14.setTop (mkF m 5 #[.val (.ref a), .val (.ref ab), .val (.ref asp), .unset] [(.ref asp)])) _
    obtain ⟨clq16, Arq16, -, Sq16, Nq16, -, -⟩ := id Vs
    refine X14.arraylength hx (by rw [e14]; exact Arq16.1) (State.isArrayOf_alike hZ.alike Arq16.2.1) (g := (mkF m 5 #[.val (.ref a), .val (.ref ab), .val (.ref asp), .unset] [(.ref asp)])) rfl rfl (hb hby d3_5) _ ?_
    rw [len_of Sq16 Nq16]
    show Steps p.tables e below (T14.setTop (mkF m 6 #[.val (.ref a), .val (.ref ab), .val (.ref asp), .unset] [(.int (6 : Int32))])) _
    refine XS.iconst X14.here hx rfl (hb hby d3_6) ?_
    show Steps p.tables e below (T14.setTop (mkF m 7 #[.val (.ref a), .val (.ref ab), .val (.ref asp), .unset] [(.int (2 : Int32)), (.int (6 : Int32))])) _
    refine iremM (g := (mkF m 7 #[.val (.ref a), .val (.ref ab), .val (.ref asp), .unset] [(.int (2 : Int32)), (.int (6 : Int32))])) X14 hx rfl (hb hby d3_7) rfl (by decide) ?_
    show Steps p.tables e below (T14.setTop (mkF m 8 #[.val (.ref a), .val (.ref ab), .val (.ref asp), .unset] [(.int ((6 : Int32) % (2 : Int32)))])) _
    refine XS.ifYes X14.here hx rfl (pc0 := 8) (pc' := 26) rfl (hb hby d3_8) rfl ((if0 _ _).trans (teq (by decide)).1) (by decide) (by decide) ?_
    show Steps p.tables e below (T14.setTop (mkF m 26 #[.val (.ref a), .val (.ref ab), .val (.ref asp), .unset] [])) _
    refine XS.iconst X14.here hx rfl (hb hby d3_26) ?_
    show Steps p.tables e below (T14.setTop (mkF m 27 #[.val (.ref a), .val (.ref ab), .val (.ref asp), .unset] [(.int (0 : Int32))])) _
    refine XS.istoreN X14.here hx rfl (hb hby d3_27) rfl (l' := #[.val (.ref a), .val (.ref ab), .val (.ref asp), .val (.int (0 : Int32))]) rfl ?_
    show Steps p.tables e below (T14.setTop (mkF m 28 #[.val (.ref a), .val (.ref ab), .val (.ref asp), .val (.int (0 : Int32))] [])) _
    refine XS.iloadN X14.here hx rfl (hb hby d3_28) rfl ?_
    show Steps p.tables e below (T14.setTop (mkF m 29 #[.val (.ref a), .val (.ref ab), .val (.ref asp), .val (.int (0 : Int32))] [(.int (0 : Int32))])) _
    refine XS.aloadN X14.here hx rfl (hb hby d3_29) rfl rfl ?_
    show Steps p.tables e below (T14.setTop (mkF m 30 #[.val (.ref a), .val (.ref ab), .val (.ref asp), .val (.int (0 : Int32))] [(.ref asp), (.int (0 : Int32))])) _
    obtain ⟨clq17, Arq17, -, Sq17, Nq17, -, -⟩ := id Vs
    refine X14.arraylength hx (by rw [e14]; exact Arq17.1) (State.isArrayOf_alike hZ.alike Arq17.2.1) (g := (mkF m 30 #[.val (.ref a), .val (.ref ab), .val (.ref asp), .val (.int (0 : Int32))] [(.ref asp), (.int (0 : Int32))])) rfl rfl (hb hby d3_30) _ ?_
    rw [len_of Sq17 Nq17]
    show Steps p.tables e below (T14.setTop (mkF m 31 #[.val (.ref a), .val (.ref ab), .val (.ref asp), .val (.int (0 : Int32))] [(.int (6 : Int32)), (.int (0 : Int32))])) _
    refine XS.icmpNo X14.here hx rfl (hb hby d3_31) rfl (tlt (by decide : (0 : Int32) < (6 : Int32))).2.1 ?_
    show Steps p.tables e below (T14.setTop (mkF m 34 #[.val (.ref a), .val (.ref ab), .val (.ref asp), .val (.int (0 : Int32))] [])) _
    refine XS.aloadN X14.here hx rfl (hb hby d3_34) rfl rfl ?_
    show Steps p.tables e below (T14.setTop (mkF m 35 #[.val (.ref a), .val (.ref ab), .val (.ref asp), .val (.int (0 : Int32))] [(.ref asp)])) _
    refine XS.iloadN X14.here hx rfl (hb hby d3_35) rfl ?_
    show Steps p.tables e below (T14.setTop (mkF m 36 #[.val (.ref a), .val (.ref ab), .val (.ref asp), .val (.int (0 : Int32))] [(.int (0 : Int32)), (.ref asp)])) _
    refine XS.iconst X14.here hx rfl (hb hby d3_36) ?_
    show Steps p.tables e below (T14.setTop (mkF m 37 #[.val (.ref a), .val (.ref ab), .val (.ref asp), .val (.int (0 : Int32))] [(.int (1 : Int32)), (.int (0 : Int32)), (.ref asp)])) _
    refine XS.iadd X14.here hx rfl (hb hby d3_37) rfl ?_
    show Steps p.tables e below (T14.setTop (mkF m 38 #[.val (.ref a), .val (.ref ab), .val (.ref asp), .val (.int (0 : Int32))] [(.int (1 : Int32)), (.ref asp)])) _
    obtain ⟨clq18, Arq18, -, Sq18, Nq18, Hq18, Gq18⟩ := id Vs
    have hinq18 := inb_of (j := (1 : Int32)) Sq18 ⟨by decide, by decide⟩
    refine X14.iaload hx (j := (1 : Int32)) (v := (.int l0)) (by rw [e14]; exact Arq18.1) (State.isArrayOf_alike hZ.alike Arq18.2.1) Arq18.2.2 hinq18 (Has.at Hq18 hinq18 rfl) (g := (mkF m 38 #[.val (.ref a), .val (.ref ab), .val (.ref asp), .val (.int (0 : Int32))] [(.int (1 : Int32)), (.ref asp)])) rfl rfl (hb hby d3_38) _ ?_
    exact k)
  have k25 : ∀ t, Steps p.tables e below (T14.setTop (mkF m 85 #[.val (.ref a), .val (.ref ab), .val (.ref asp), .val (.int (0 : Int32))] [])) t → Steps p.tables e below (s₁.setTop (entryFrame m #[(.ref a), (.ref ab), (.ref asp)] 4)) t := fun t k => k19 t (by
    by_cases hq20 : l0 < (0 : Int32)
    · show Steps p.tables e below (T14.setTop (mkF m 39 #[.val (.ref a), .val (.ref ab), .val (.ref asp), .val (.int (0 : Int32))] [(.int l0)])) _
      refine XS.ifYes X14.here hx rfl (pc0 := 39) (pc' := 85) rfl (hb hby d3_39) rfl ((if0 _ _).trans (tlt hq20).1) (by decide) (by decide) ?_
      exact k
    · show Steps p.tables e below (T14.setTop (mkF m 39 #[.val (.ref a), .val (.ref ab), .val (.ref asp), .val (.int (0 : Int32))] [(.int l0)])) _
      refine XS.ifNo X14.here hx rfl (hb hby d3_39) rfl ((if0 _ _).trans (flt hq20).1) ?_
      show Steps p.tables e below (T14.setTop (mkF m 42 #[.val (.ref a), .val (.ref ab), .val (.ref asp), .val (.int (0 : Int32))] [])) _
      refine XS.aloadN X14.here hx rfl (hb hby d3_42) rfl rfl ?_
      show Steps p.tables e below (T14.setTop (mkF m 43 #[.val (.ref a), .val (.ref ab), .val (.ref asp), .val (.int (0 : Int32))] [(.ref asp)])) _
      refine XS.iloadN X14.here hx rfl (hb hby d3_43) rfl ?_
      show Steps p.tables e below (T14.setTop (mkF m 44 #[.val (.ref a), .val (.ref ab), .val (.ref asp), .val (.int (0 : Int32))] [(.int (0 : Int32)), (.ref asp)])) _
      obtain ⟨clq21, Arq21, -, Sq21, Nq21, Hq21, Gq21⟩ := id Vs
      have hinq21 := inb_of (j := (0 : Int32)) Sq21 ⟨by decide, by decide⟩
      refine X14.iaload hx (j := (0 : Int32)) (v := (.int o0)) (by rw [e14]; exact Arq21.1) (State.isArrayOf_alike hZ.alike Arq21.2.1) Arq21.2.2 hinq21 (Has.at Hq21 hinq21 rfl) (g := (mkF m 44 #[.val (.ref a), .val (.ref ab), .val (.ref asp), .val (.int (0 : Int32))] [(.int (0 : Int32)), (.ref asp)])) rfl rfl (hb hby d3_44) _ ?_
      show Steps p.tables e below (T14.setTop (mkF m 45 #[.val (.ref a), .val (.ref ab), .val (.ref asp), .val (.int (0 : Int32))] [(.int o0)])) _
      refine XS.ifNo X14.here hx rfl (hb hby d3_45) rfl ((if0 _ _).trans (flt (H0 hq20).1).1) ?_
      show Steps p.tables e below (T14.setTop (mkF m 48 #[.val (.ref a), .val (.ref ab), .val (.ref asp), .val (.int (0 : Int32))] [])) _
      refine XS.aloadN X14.here hx rfl (hb hby d3_48) rfl rfl ?_
      show Steps p.tables e below (T14.setTop (mkF m 49 #[.val (.ref a), .val (.ref ab), .val (.ref asp), .val (.int (0 : Int32))] [(.ref asp)])) _
      refine XS.iloadN X14.here hx rfl (hb hby d3_49) rfl ?_
      show Steps p.tables e below (T14.setTop (mkF m 50 #[.val (.ref a), .val (.ref ab), .val (.ref asp), .val (.int (0 : Int32))] [(.int (0 : Int32)), (.ref asp)])) _
      obtain ⟨clq22, Arq22, -, Sq22, Nq22, Hq22, Gq22⟩ := id Vs
      have hinq22 := inb_of (j := (0 : Int32)) Sq22 ⟨by decide, by decide⟩
      refine X14.iaload hx (j := (0 : Int32)) (v := (.int o0)) (by rw [e14]; exact Arq22.1) (State.isArrayOf_alike hZ.alike Arq22.2.1) Arq22.2.2 hinq22 (Has.at Hq22 hinq22 rfl) (g := (mkF m 50 #[.val (.ref a), .val (.ref ab), .val (.ref asp), .val (.int (0 : Int32))] [(.int (0 : Int32)), (.ref asp)])) rfl rfl (hb hby d3_50) _ ?_
      show Steps p.tables e below (T14.setTop (mkF m 51 #[.val (.ref a), .val (.ref ab), .val (.ref asp), .val (.int (0 : Int32))] [(.int o0)])) _
      refine XS.aloadN X14.here hx rfl (hb hby d3_51) rfl rfl ?_
      show Steps p.tables e below (T14.setTop (mkF m 52 #[.val (.ref a), .val (.ref ab), .val (.ref asp), .val (.int (0 : Int32))] [(.ref ab), (.int o0)])) _
      obtain ⟨clq23, Arq23, -, Sq23, Nq23, -, -⟩ := id Vb
      refine X14.arraylength hx (by rw [e14]; exact Arq23.1) (State.isArrayOf_alike hZ.alike Arq23.2.1) (g := (mkF m 52 #[.val (.ref a), .val (.ref ab), .val (.ref asp), .val (.int (0 : Int32))] [(.ref ab), (.int o0)])) rfl rfl (hb hby d3_52) _ ?_
      rw [len_of Sq23 Nq23]
      show Steps p.tables e below (T14.setTop (mkF m 53 #[.val (.ref a), .val (.ref ab), .val (.ref asp), .val (.int (0 : Int32))] [(.int (4 : Int32)), (.int o0)])) _
      refine XS.aloadN X14.here hx rfl (hb hby d3_53) rfl rfl ?_
      show Steps p.tables e below (T14.setTop (mkF m 54 #[.val (.ref a), .val (.ref ab), .val (.ref asp), .val (.int (0 : Int32))] [(.ref asp), (.int (4 : Int32)), (.int o0)])) _
      refine XS.iloadN X14.here hx rfl (hb hby d3_54) rfl ?_
      show Steps p.tables e below (T14.setTop (mkF m 55 #[.val (.ref a), .val (.ref ab), .val (.ref asp), .val (.int (0 : Int32))] [(.int (0 : Int32)), (.ref asp), (.int (4 : Int32)), (.int o0)])) _
      refine XS.iconst X14.here hx rfl (hb hby d3_55) ?_
      show Steps p.tables e below (T14.setTop (mkF m 56 #[.val (.ref a), .val (.ref ab), .val (.ref asp), .val (.int (0 : Int32))] [(.int (1 : Int32)), (.int (0 : Int32)), (.ref asp), (.int (4 : Int32)), (.int o0)])) _
      refine XS.iadd X14.here hx rfl (hb hby d3_56) rfl ?_
      show Steps p.tables e below (T14.setTop (mkF m 57 #[.val (.ref a), .val (.ref ab), .val (.ref asp), .val (.int (0 : Int32))] [(.int (1 : Int32)), (.ref asp), (.int (4 : Int32)), (.int o0)])) _
      obtain ⟨clq24, Arq24, -, Sq24, Nq24, Hq24, Gq24⟩ := id Vs
      have hinq24 := inb_of (j := (1 : Int32)) Sq24 ⟨by decide, by decide⟩
      refine X14.iaload hx (j := (1 : Int32)) (v := (.int l0)) (by rw [e14]; exact Arq24.1) (State.isArrayOf_alike hZ.alike Arq24.2.1) Arq24.2.2 hinq24 (Has.at Hq24 hinq24 rfl) (g := (mkF m 57 #[.val (.ref a), .val (.ref ab), .val (.ref asp), .val (.int (0 : Int32))] [(.int (1 : Int32)), (.ref asp), (.int (4 : Int32)), (.int o0)])) rfl rfl (hb hby d3_57) _ ?_
      show Steps p.tables e below (T14.setTop (mkF m 58 #[.val (.ref a), .val (.ref ab), .val (.ref asp), .val (.int (0 : Int32))] [(.int l0), (.int (4 : Int32)), (.int o0)])) _
      refine XS.isub X14.here hx rfl (hb hby d3_58) rfl ?_
      show Steps p.tables e below (T14.setTop (mkF m 59 #[.val (.ref a), .val (.ref ab), .val (.ref asp), .val (.int (0 : Int32))] [(.int ((4 : Int32) - l0)), (.int o0)])) _
      refine XS.icmpYes X14.here hx rfl (pc0 := 59) (pc' := 85) rfl (hb hby d3_59) rfl (flt (H0 hq20).2).2.2.2 (by decide) (by decide) ?_
      exact k)
  have k28 : ∀ t, Steps p.tables e below (T14.setTop (mkF m 39 #[.val (.ref a), .val (.ref ab), .val (.ref asp), .val (.int (2 : Int32))] [(.int l1)])) t → Steps p.tables e below (s₁.setTop (entryFrame m #[(.ref a), (.ref ab), (.ref asp)] 4)) t := fun t k => k25 t (by
    show Steps p.tables e below (T14.setTop (mkF m 85 #[.val (.ref a), .val (.ref ab), .val (.ref asp), .val (.int (0 : Int32))] [])) _
    refine XS.iinc X14.here hx rfl (hb hby d3_85) rfl (l' := #[.val (.ref a), .val (.ref ab), .val (.ref asp), .val (.int (2 : Int32))]) rfl ?_
    show Steps p.tables e below (T14.setTop (mkF m 88 #[.val (.ref a), .val (.ref ab), .val (.ref asp), .val (.int (2 : Int32))] [])) _
    refine XS.goto X14.here hx rfl (pc0 := 88) (pc' := 28) rfl (hb hby d3_88) (by decide) (by decide) ?_
    show Steps p.tables e below (T14.setTop (mkF m 28 #[.val (.ref a), .val (.ref ab), .val (.ref asp), .val (.int (2 : Int32))] [])) _
    refine XS.iloadN X14.here hx rfl (hb hby d3_28) rfl ?_
    show Steps p.tables e below (T14.setTop (mkF m 29 #[.val (.ref a), .val (.ref ab), .val (.ref asp), .val (.int (2 : Int32))] [(.int (2 : Int32))])) _
    refine XS.aloadN X14.here hx rfl (hb hby d3_29) rfl rfl ?_
    show Steps p.tables e below (T14.setTop (mkF m 30 #[.val (.ref a), .val (.ref ab), .val (.ref asp), .val (.int (2 : Int32))] [(.ref asp), (.int (2 : Int32))])) _
    obtain ⟨clq26, Arq26, -, Sq26, Nq26, -, -⟩ := id Vs
    refine X14.arraylength hx (by rw [e14]; exact Arq26.1) (State.isArrayOf_alike hZ.alike Arq26.2.1) (g := (mkF m 30 #[.val (.ref a), .val (.ref ab), .val (.ref asp), .val (.int (2 : Int32))] [(.ref asp), (.int (2 : Int32))])) rfl rfl (hb hby d3_30) _ ?_
    rw [len_of Sq26 Nq26]
    show Steps p.tables e below (T14.setTop (mkF m 31 #[.val (.ref a), .val (.ref ab), .val (.ref asp), .val (.int (2 : Int32))] [(.int (6 : Int32)), (.int (2 : Int32))])) _
    refine XS.icmpNo X14.here hx rfl (hb hby d3_31) rfl (tlt (by decide : (2 : Int32) < (6 : Int32))).2.1 ?_
    show Steps p.tables e below (T14.setTop (mkF m 34 #[.val (.ref a), .val (.ref ab), .val (.ref asp), .val (.int (2 : Int32))] [])) _
    refine XS.aloadN X14.here hx rfl (hb hby d3_34) rfl rfl ?_
    show Steps p.tables e below (T14.setTop (mkF m 35 #[.val (.ref a), .val (.ref ab), .val (.ref asp), .val (.int (2 : Int32))] [(.ref asp)])) _
    refine XS.iloadN X14.here hx rfl (hb hby d3_35) rfl ?_
    show Steps p.tables e below (T14.setTop (mkF m 36 #[.val (.ref a), .val (.ref ab), .val (.ref asp), .val (.int (2 : Int32))] [(.int (2 : Int32)), (.ref asp)])) _
    refine XS.iconst X14.here hx rfl (hb hby d3_36) ?_
    show Steps p.tables e below (T14.setTop (mkF m 37 #[.val (.ref a), .val (.ref ab), .val (.ref asp), .val (.int (2 : Int32))] [(.int (1 : Int32)), (.int (2 : Int32)), (.ref asp)])) _
    refine XS.iadd X14.here hx rfl (hb hby d3_37) rfl ?_
    show Steps p.tables e below (T14.setTop (mkF m 38 #[.val (.ref a), .val (.ref ab), .val (.ref asp), .val (.int (2 : Int32))] [(.int (3 : Int32)), (.ref asp)])) _
    obtain ⟨clq27, Arq27, -, Sq27, Nq27, Hq27, Gq27⟩ := id Vs
    have hinq27 := inb_of (j := (3 : Int32)) Sq27 ⟨by decide, by decide⟩
    refine X14.iaload hx (j := (3 : Int32)) (v := (.int l1)) (by rw [e14]; exact Arq27.1) (State.isArrayOf_alike hZ.alike Arq27.2.1) Arq27.2.2 hinq27 (Has.at Hq27 hinq27 rfl) (g := (mkF m 38 #[.val (.ref a), .val (.ref ab), .val (.ref asp), .val (.int (2 : Int32))] [(.int (3 : Int32)), (.ref asp)])) rfl rfl (hb hby d3_38) _ ?_
    exact k)
  have k34 : ∀ t, Steps p.tables e below (T14.setTop (mkF m 85 #[.val (.ref a), .val (.ref ab), .val (.ref asp), .val (.int (2 : Int32))] [])) t → Steps p.tables e below (s₁.setTop (entryFrame m #[(.ref a), (.ref ab), (.ref asp)] 4)) t := fun t k => k28 t (by
    by_cases hq29 : l1 < (0 : Int32)
    · show Steps p.tables e below (T14.setTop (mkF m 39 #[.val (.ref a), .val (.ref ab), .val (.ref asp), .val (.int (2 : Int32))] [(.int l1)])) _
      refine XS.ifYes X14.here hx rfl (pc0 := 39) (pc' := 85) rfl (hb hby d3_39) rfl ((if0 _ _).trans (tlt hq29).1) (by decide) (by decide) ?_
      exact k
    · show Steps p.tables e below (T14.setTop (mkF m 39 #[.val (.ref a), .val (.ref ab), .val (.ref asp), .val (.int (2 : Int32))] [(.int l1)])) _
      refine XS.ifNo X14.here hx rfl (hb hby d3_39) rfl ((if0 _ _).trans (flt hq29).1) ?_
      show Steps p.tables e below (T14.setTop (mkF m 42 #[.val (.ref a), .val (.ref ab), .val (.ref asp), .val (.int (2 : Int32))] [])) _
      refine XS.aloadN X14.here hx rfl (hb hby d3_42) rfl rfl ?_
      show Steps p.tables e below (T14.setTop (mkF m 43 #[.val (.ref a), .val (.ref ab), .val (.ref asp), .val (.int (2 : Int32))] [(.ref asp)])) _
      refine XS.iloadN X14.here hx rfl (hb hby d3_43) rfl ?_
      show Steps p.tables e below (T14.setTop (mkF m 44 #[.val (.ref a), .val (.ref ab), .val (.ref asp), .val (.int (2 : Int32))] [(.int (2 : Int32)), (.ref asp)])) _
      obtain ⟨clq30, Arq30, -, Sq30, Nq30, Hq30, Gq30⟩ := id Vs
      have hinq30 := inb_of (j := (2 : Int32)) Sq30 ⟨by decide, by decide⟩
      refine X14.iaload hx (j := (2 : Int32)) (v := (.int o1)) (by rw [e14]; exact Arq30.1) (State.isArrayOf_alike hZ.alike Arq30.2.1) Arq30.2.2 hinq30 (Has.at Hq30 hinq30 rfl) (g := (mkF m 44 #[.val (.ref a), .val (.ref ab), .val (.ref asp), .val (.int (2 : Int32))] [(.int (2 : Int32)), (.ref asp)])) rfl rfl (hb hby d3_44) _ ?_
      show Steps p.tables e below (T14.setTop (mkF m 45 #[.val (.ref a), .val (.ref ab), .val (.ref asp), .val (.int (2 : Int32))] [(.int o1)])) _
      refine XS.ifNo X14.here hx rfl (hb hby d3_45) rfl ((if0 _ _).trans (flt (H1 hq29).1).1) ?_
      show Steps p.tables e below (T14.setTop (mkF m 48 #[.val (.ref a), .val (.ref ab), .val (.ref asp), .val (.int (2 : Int32))] [])) _
      refine XS.aloadN X14.here hx rfl (hb hby d3_48) rfl rfl ?_
      show Steps p.tables e below (T14.setTop (mkF m 49 #[.val (.ref a), .val (.ref ab), .val (.ref asp), .val (.int (2 : Int32))] [(.ref asp)])) _
      refine XS.iloadN X14.here hx rfl (hb hby d3_49) rfl ?_
      show Steps p.tables e below (T14.setTop (mkF m 50 #[.val (.ref a), .val (.ref ab), .val (.ref asp), .val (.int (2 : Int32))] [(.int (2 : Int32)), (.ref asp)])) _
      obtain ⟨clq31, Arq31, -, Sq31, Nq31, Hq31, Gq31⟩ := id Vs
      have hinq31 := inb_of (j := (2 : Int32)) Sq31 ⟨by decide, by decide⟩
      refine X14.iaload hx (j := (2 : Int32)) (v := (.int o1)) (by rw [e14]; exact Arq31.1) (State.isArrayOf_alike hZ.alike Arq31.2.1) Arq31.2.2 hinq31 (Has.at Hq31 hinq31 rfl) (g := (mkF m 50 #[.val (.ref a), .val (.ref ab), .val (.ref asp), .val (.int (2 : Int32))] [(.int (2 : Int32)), (.ref asp)])) rfl rfl (hb hby d3_50) _ ?_
      show Steps p.tables e below (T14.setTop (mkF m 51 #[.val (.ref a), .val (.ref ab), .val (.ref asp), .val (.int (2 : Int32))] [(.int o1)])) _
      refine XS.aloadN X14.here hx rfl (hb hby d3_51) rfl rfl ?_
      show Steps p.tables e below (T14.setTop (mkF m 52 #[.val (.ref a), .val (.ref ab), .val (.ref asp), .val (.int (2 : Int32))] [(.ref ab), (.int o1)])) _
      obtain ⟨clq32, Arq32, -, Sq32, Nq32, -, -⟩ := id Vb
      refine X14.arraylength hx (by rw [e14]; exact Arq32.1) (State.isArrayOf_alike hZ.alike Arq32.2.1) (g := (mkF m 52 #[.val (.ref a), .val (.ref ab), .val (.ref asp), .val (.int (2 : Int32))] [(.ref ab), (.int o1)])) rfl rfl (hb hby d3_52) _ ?_
      rw [len_of Sq32 Nq32]
      show Steps p.tables e below (T14.setTop (mkF m 53 #[.val (.ref a), .val (.ref ab), .val (.ref asp), .val (.int (2 : Int32))] [(.int (4 : Int32)), (.int o1)])) _
      refine XS.aloadN X14.here hx rfl (hb hby d3_53) rfl rfl ?_
      show Steps p.tables e below (T14.setTop (mkF m 54 #[.val (.ref a), .val (.ref ab), .val (.ref asp), .val (.int (2 : Int32))] [(.ref asp), (.int (4 : Int32)), (.int o1)])) _
      refine XS.iloadN X14.here hx rfl (hb hby d3_54) rfl ?_
      show Steps p.tables e below (T14.setTop (mkF m 55 #[.val (.ref a), .val (.ref ab), .val (.ref asp), .val (.int (2 : Int32))] [(.int (2 : Int32)), (.ref asp), (.int (4 : Int32)), (.int o1)])) _
      refine XS.iconst X14.here hx rfl (hb hby d3_55) ?_
      show Steps p.tables e below (T14.setTop (mkF m 56 #[.val (.ref a), .val (.ref ab), .val (.ref asp), .val (.int (2 : Int32))] [(.int (1 : Int32)), (.int (2 : Int32)), (.ref asp), (.int (4 : Int32)), (.int o1)])) _
      refine XS.iadd X14.here hx rfl (hb hby d3_56) rfl ?_
      show Steps p.tables e below (T14.setTop (mkF m 57 #[.val (.ref a), .val (.ref ab), .val (.ref asp), .val (.int (2 : Int32))] [(.int (3 : Int32)), (.ref asp), (.int (4 : Int32)), (.int o1)])) _
      obtain ⟨clq33, Arq33, -, Sq33, Nq33, Hq33, Gq33⟩ := id Vs
      have hinq33 := inb_of (j := (3 : Int32)) Sq33 ⟨by decide, by decide⟩
      refine X14.iaload hx (j := (3 : Int32)) (v := (.int l1)) (by rw [e14]; exact Arq33.1) (State.isArrayOf_alike hZ.alike Arq33.2.1) Arq33.2.2 hinq33 (Has.at Hq33 hinq33 rfl) (g := (mkF m 57 #[.val (.ref a), .val (.ref ab), .val (.ref asp), .val (.int (2 : Int32))] [(.int (3 : Int32)), (.ref asp), (.int (4 : Int32)), (.int o1)])) rfl rfl (hb hby d3_57) _ ?_
      show Steps p.tables e below (T14.setTop (mkF m 58 #[.val (.ref a), .val (.ref ab), .val (.ref asp), .val (.int (2 : Int32))] [(.int l1), (.int (4 : Int32)), (.int o1)])) _
      refine XS.isub X14.here hx rfl (hb hby d3_58) rfl ?_
      show Steps p.tables e below (T14.setTop (mkF m 59 #[.val (.ref a), .val (.ref ab), .val (.ref asp), .val (.int (2 : Int32))] [(.int ((4 : Int32) - l1)), (.int o1)])) _
      refine XS.icmpYes X14.here hx rfl (pc0 := 59) (pc' := 85) rfl (hb hby d3_59) rfl (flt (H1 hq29).2).2.2.2 (by decide) (by decide) ?_
      exact k)
  have k37 : ∀ t, Steps p.tables e below (T14.setTop (mkF m 39 #[.val (.ref a), .val (.ref ab), .val (.ref asp), .val (.int (4 : Int32))] [(.int l2)])) t → Steps p.tables e below (s₁.setTop (entryFrame m #[(.ref a), (.ref ab), (.ref asp)] 4)) t := fun t k => k34 t (by
    show Steps p.tables e below (T14.setTop (mkF m 85 #[.val (.ref a), .val (.ref ab), .val (.ref asp), .val (.int (2 : Int32))] [])) _
    refine XS.iinc X14.here hx rfl (hb hby d3_85) rfl (l' := #[.val (.ref a), .val (.ref ab), .val (.ref asp), .val (.int (4 : Int32))]) rfl ?_
    show Steps p.tables e below (T14.setTop (mkF m 88 #[.val (.ref a), .val (.ref ab), .val (.ref asp), .val (.int (4 : Int32))] [])) _
    refine XS.goto X14.here hx rfl (pc0 := 88) (pc' := 28) rfl (hb hby d3_88) (by decide) (by decide) ?_
    show Steps p.tables e below (T14.setTop (mkF m 28 #[.val (.ref a), .val (.ref ab), .val (.ref asp), .val (.int (4 : Int32))] [])) _
    refine XS.iloadN X14.here hx rfl (hb hby d3_28) rfl ?_
    show Steps p.tables e below (T14.setTop (mkF m 29 #[.val (.ref a), .val (.ref ab), .val (.ref asp), .val (.int (4 : Int32))] [(.int (4 : Int32))])) _
    refine XS.aloadN X14.here hx rfl (hb hby d3_29) rfl rfl ?_
    show Steps p.tables e below (T14.setTop (mkF m 30 #[.val (.ref a), .val (.ref ab), .val (.ref asp), .val (.int (4 : Int32))] [(.ref asp), (.int (4 : Int32))])) _
    obtain ⟨clq35, Arq35, -, Sq35, Nq35, -, -⟩ := id Vs
    refine X14.arraylength hx (by rw [e14]; exact Arq35.1) (State.isArrayOf_alike hZ.alike Arq35.2.1) (g := (mkF m 30 #[.val (.ref a), .val (.ref ab), .val (.ref asp), .val (.int (4 : Int32))] [(.ref asp), (.int (4 : Int32))])) rfl rfl (hb hby d3_30) _ ?_
    rw [len_of Sq35 Nq35]
    show Steps p.tables e below (T14.setTop (mkF m 31 #[.val (.ref a), .val (.ref ab), .val (.ref asp), .val (.int (4 : Int32))] [(.int (6 : Int32)), (.int (4 : Int32))])) _
    refine XS.icmpNo X14.here hx rfl (hb hby d3_31) rfl (tlt (by decide : (4 : Int32) < (6 : Int32))).2.1 ?_
    show Steps p.tables e below (T14.setTop (mkF m 34 #[.val (.ref a), .val (.ref ab), .val (.ref asp), .val (.int (4 : Int32))] [])) _
    refine XS.aloadN X14.here hx rfl (hb hby d3_34) rfl rfl ?_
    show Steps p.tables e below (T14.setTop (mkF m 35 #[.val (.ref a), .val (.ref ab), .val (.ref asp), .val (.int (4 : Int32))] [(.ref asp)])) _
    refine XS.iloadN X14.here hx rfl (hb hby d3_35) rfl ?_
    show Steps p.tables e below (T14.setTop (mkF m 36 #[.val (.ref a), .val (.ref ab), .val (.ref asp), .val (.int (4 : Int32))] [(.int (4 : Int32)), (.ref asp)])) _
    refine XS.iconst X14.here hx rfl (hb hby d3_36) ?_
    show Steps p.tables e below (T14.setTop (mkF m 37 #[.val (.ref a), .val (.ref ab), .val (.ref asp), .val (.int (4 : Int32))] [(.int (1 : Int32)), (.int (4 : Int32)), (.ref asp)])) _
    refine XS.iadd X14.here hx rfl (hb hby d3_37) rfl ?_
    show Steps p.tables e below (T14.setTop (mkF m 38 #[.val (.ref a), .val (.ref ab), .val (.ref asp), .val (.int (4 : Int32))] [(.int (5 : Int32)), (.ref asp)])) _
    obtain ⟨clq36, Arq36, -, Sq36, Nq36, Hq36, Gq36⟩ := id Vs
    have hinq36 := inb_of (j := (5 : Int32)) Sq36 ⟨by decide, by decide⟩
    refine X14.iaload hx (j := (5 : Int32)) (v := (.int l2)) (by rw [e14]; exact Arq36.1) (State.isArrayOf_alike hZ.alike Arq36.2.1) Arq36.2.2 hinq36 (Has.at Hq36 hinq36 rfl) (g := (mkF m 38 #[.val (.ref a), .val (.ref ab), .val (.ref asp), .val (.int (4 : Int32))] [(.int (5 : Int32)), (.ref asp)])) rfl rfl (hb hby d3_38) _ ?_
    exact k)
  have k43 : ∀ t, Steps p.tables e below (T14.setTop (mkF m 85 #[.val (.ref a), .val (.ref ab), .val (.ref asp), .val (.int (4 : Int32))] [])) t → Steps p.tables e below (s₁.setTop (entryFrame m #[(.ref a), (.ref ab), (.ref asp)] 4)) t := fun t k => k37 t (by
    by_cases hq38 : l2 < (0 : Int32)
    · show Steps p.tables e below (T14.setTop (mkF m 39 #[.val (.ref a), .val (.ref ab), .val (.ref asp), .val (.int (4 : Int32))] [(.int l2)])) _
      refine XS.ifYes X14.here hx rfl (pc0 := 39) (pc' := 85) rfl (hb hby d3_39) rfl ((if0 _ _).trans (tlt hq38).1) (by decide) (by decide) ?_
      exact k
    · show Steps p.tables e below (T14.setTop (mkF m 39 #[.val (.ref a), .val (.ref ab), .val (.ref asp), .val (.int (4 : Int32))] [(.int l2)])) _
      refine XS.ifNo X14.here hx rfl (hb hby d3_39) rfl ((if0 _ _).trans (flt hq38).1) ?_
      show Steps p.tables e below (T14.setTop (mkF m 42 #[.val (.ref a), .val (.ref ab), .val (.ref asp), .val (.int (4 : Int32))] [])) _
      refine XS.aloadN X14.here hx rfl (hb hby d3_42) rfl rfl ?_
      show Steps p.tables e below (T14.setTop (mkF m 43 #[.val (.ref a), .val (.ref ab), .val (.ref asp), .val (.int (4 : Int32))] [(.ref asp)])) _
      refine XS.iloadN X14.here hx rfl (hb hby d3_43) rfl ?_
      show Steps p.tables e below (T14.setTop (mkF m 44 #[.val (.ref a), .val (.ref ab), .val (.ref asp), .val (.int (4 : Int32))] [(.int (4 : Int32)), (.ref asp)])) _
      obtain ⟨clq39, Arq39, -, Sq39, Nq39, Hq39, Gq39⟩ := id Vs
      have hinq39 := inb_of (j := (4 : Int32)) Sq39 ⟨by decide, by decide⟩
      refine X14.iaload hx (j := (4 : Int32)) (v := (.int o2)) (by rw [e14]; exact Arq39.1) (State.isArrayOf_alike hZ.alike Arq39.2.1) Arq39.2.2 hinq39 (Has.at Hq39 hinq39 rfl) (g := (mkF m 44 #[.val (.ref a), .val (.ref ab), .val (.ref asp), .val (.int (4 : Int32))] [(.int (4 : Int32)), (.ref asp)])) rfl rfl (hb hby d3_44) _ ?_
      show Steps p.tables e below (T14.setTop (mkF m 45 #[.val (.ref a), .val (.ref ab), .val (.ref asp), .val (.int (4 : Int32))] [(.int o2)])) _
      refine XS.ifNo X14.here hx rfl (hb hby d3_45) rfl ((if0 _ _).trans (flt (H2 hq38).1).1) ?_
      show Steps p.tables e below (T14.setTop (mkF m 48 #[.val (.ref a), .val (.ref ab), .val (.ref asp), .val (.int (4 : Int32))] [])) _
      refine XS.aloadN X14.here hx rfl (hb hby d3_48) rfl rfl ?_
      show Steps p.tables e below (T14.setTop (mkF m 49 #[.val (.ref a), .val (.ref ab), .val (.ref asp), .val (.int (4 : Int32))] [(.ref asp)])) _
      refine XS.iloadN X14.here hx rfl (hb hby d3_49) rfl ?_
      show Steps p.tables e below (T14.setTop (mkF m 50 #[.val (.ref a), .val (.ref ab), .val (.ref asp), .val (.int (4 : Int32))] [(.int (4 : Int32)), (.ref asp)])) _
      obtain ⟨clq40, Arq40, -, Sq40, Nq40, Hq40, Gq40⟩ := id Vs
      have hinq40 := inb_of (j := (4 : Int32)) Sq40 ⟨by decide, by decide⟩
      refine X14.iaload hx (j := (4 : Int32)) (v := (.int o2)) (by rw [e14]; exact Arq40.1) (State.isArrayOf_alike hZ.alike Arq40.2.1) Arq40.2.2 hinq40 (Has.at Hq40 hinq40 rfl) (g := (mkF m 50 #[.val (.ref a), .val (.ref ab), .val (.ref asp), .val (.int (4 : Int32))] [(.int (4 : Int32)), (.ref asp)])) rfl rfl (hb hby d3_50) _ ?_
      show Steps p.tables e below (T14.setTop (mkF m 51 #[.val (.ref a), .val (.ref ab), .val (.ref asp), .val (.int (4 : Int32))] [(.int o2)])) _
      refine XS.aloadN X14.here hx rfl (hb hby d3_51) rfl rfl ?_
      show Steps p.tables e below (T14.setTop (mkF m 52 #[.val (.ref a), .val (.ref ab), .val (.ref asp), .val (.int (4 : Int32))] [(.ref ab), (.int o2)])) _
      obtain ⟨clq41, Arq41, -, Sq41, Nq41, -, -⟩ := id Vb
      refine X14.arraylength hx (by rw [e14]; exact Arq41.1) (State.isArrayOf_alike hZ.alike Arq41.2.1) (g := (mkF m 52 #[.val (.ref a), .val (.ref ab), .val (.ref asp), .val (.int (4 : Int32))] [(.ref ab), (.int o2)])) rfl rfl (hb hby d3_52) _ ?_
      rw [len_of Sq41 Nq41]
      show Steps p.tables e below (T14.setTop (mkF m 53 #[.val (.ref a), .val (.ref ab), .val (.ref asp), .val (.int (4 : Int32))] [(.int (4 : Int32)), (.int o2)])) _
      refine XS.aloadN X14.here hx rfl (hb hby d3_53) rfl rfl ?_
      show Steps p.tables e below (T14.setTop (mkF m 54 #[.val (.ref a), .val (.ref ab), .val (.ref asp), .val (.int (4 : Int32))] [(.ref asp), (.int (4 : Int32)), (.int o2)])) _
      refine XS.iloadN X14.here hx rfl (hb hby d3_54) rfl ?_
      show Steps p.tables e below (T14.setTop (mkF m 55 #[.val (.ref a), .val (.ref ab), .val (.ref asp), .val (.int (4 : Int32))] [(.int (4 : Int32)), (.ref asp), (.int (4 : Int32)), (.int o2)])) _
      refine XS.iconst X14.here hx rfl (hb hby d3_55) ?_
      show Steps p.tables e below (T14.setTop (mkF m 56 #[.val (.ref a), .val (.ref ab), .val (.ref asp), .val (.int (4 : Int32))] [(.int (1 : Int32)), (.int (4 : Int32)), (.ref asp), (.int (4 : Int32)), (.int o2)])) _
      refine XS.iadd X14.here hx rfl (hb hby d3_56) rfl ?_
      show Steps p.tables e below (T14.setTop (mkF m 57 #[.val (.ref a), .val (.ref ab), .val (.ref asp), .val (.int (4 : Int32))] [(.int (5 : Int32)), (.ref asp), (.int (4 : Int32)), (.int o2)])) _
      obtain ⟨clq42, Arq42, -, Sq42, Nq42, Hq42, Gq42⟩ := id Vs
      have hinq42 := inb_of (j := (5 : Int32)) Sq42 ⟨by decide, by decide⟩
      refine X14.iaload hx (j := (5 : Int32)) (v := (.int l2)) (by rw [e14]; exact Arq42.1) (State.isArrayOf_alike hZ.alike Arq42.2.1) Arq42.2.2 hinq42 (Has.at Hq42 hinq42 rfl) (g := (mkF m 57 #[.val (.ref a), .val (.ref ab), .val (.ref asp), .val (.int (4 : Int32))] [(.int (5 : Int32)), (.ref asp), (.int (4 : Int32)), (.int o2)])) rfl rfl (hb hby d3_57) _ ?_
      show Steps p.tables e below (T14.setTop (mkF m 58 #[.val (.ref a), .val (.ref ab), .val (.ref asp), .val (.int (4 : Int32))] [(.int l2), (.int (4 : Int32)), (.int o2)])) _
      refine XS.isub X14.here hx rfl (hb hby d3_58) rfl ?_
      show Steps p.tables e below (T14.setTop (mkF m 59 #[.val (.ref a), .val (.ref ab), .val (.ref asp), .val (.int (4 : Int32))] [(.int ((4 : Int32) - l2)), (.int o2)])) _
      refine XS.icmpYes X14.here hx rfl (pc0 := 59) (pc' := 85) rfl (hb hby d3_59) rfl (flt (H2 hq38).2).2.2.2 (by decide) (by decide) ?_
      exact k)
  have k45 : ∀ t, Steps p.tables e below (T14.setTop (mkF m 93 #[.val (.ref a), .val (.ref ab), .val (.ref asp), .val (.int (6 : Int32))] [(.ref ab), (.ref a)])) t → Steps p.tables e below (s₁.setTop (entryFrame m #[(.ref a), (.ref ab), (.ref asp)] 4)) t := fun t k => k43 t (by
    show Steps p.tables e below (T14.setTop (mkF m 85 #[.val (.ref a), .val (.ref ab), .val (.ref asp), .val (.int (4 : Int32))] [])) _
    refine XS.iinc X14.here hx rfl (hb hby d3_85) rfl (l' := #[.val (.ref a), .val (.ref ab), .val (.ref asp), .val (.int (6 : Int32))]) rfl ?_
    show Steps p.tables e below (T14.setTop (mkF m 88 #[.val (.ref a), .val (.ref ab), .val (.ref asp), .val (.int (6 : Int32))] [])) _
    refine XS.goto X14.here hx rfl (pc0 := 88) (pc' := 28) rfl (hb hby d3_88) (by decide) (by decide) ?_
    show Steps p.tables e below (T14.setTop (mkF m 28 #[.val (.ref a), .val (.ref ab), .val (.ref asp), .val (.int (6 : Int32))] [])) _
    refine XS.iloadN X14.here hx rfl (hb hby d3_28) rfl ?_
    show Steps p.tables e below (T14.setTop (mkF m 29 #[.val (.ref a), .val (.ref ab), .val (.ref asp), .val (.int (6 : Int32))] [(.int (6 : Int32))])) _
    refine XS.aloadN X14.here hx rfl (hb hby d3_29) rfl rfl ?_
    show Steps p.tables e below (T14.setTop (mkF m 30 #[.val (.ref a), .val (.ref ab), .val (.ref asp), .val (.int (6 : Int32))] [(.ref asp), (.int (6 : Int32))])) _
    obtain ⟨clq44, Arq44, -, Sq44, Nq44, -, -⟩ := id Vs
    refine X14.arraylength hx (by rw [e14]; exact Arq44.1) (State.isArrayOf_alike hZ.alike Arq44.2.1) (g := (mkF m 30 #[.val (.ref a), .val (.ref ab), .val (.ref asp), .val (.int (6 : Int32))] [(.ref asp), (.int (6 : Int32))])) rfl rfl (hb hby d3_30) _ ?_
    rw [len_of Sq44 Nq44]
    show Steps p.tables e below (T14.setTop (mkF m 31 #[.val (.ref a), .val (.ref ab), .val (.ref asp), .val (.int (6 : Int32))] [(.int (6 : Int32)), (.int (6 : Int32))])) _
    refine XS.icmpYes X14.here hx rfl (pc0 := 31) (pc' := 91) rfl (hb hby d3_31) rfl (flt (by decide : ¬ ((6 : Int32) < (6 : Int32)))).2.1 (by decide) (by decide) ?_
    show Steps p.tables e below (T14.setTop (mkF m 91 #[.val (.ref a), .val (.ref ab), .val (.ref asp), .val (.int (6 : Int32))] [])) _
    refine XS.aloadN X14.here hx rfl (hb hby d3_91) rfl rfl ?_
    show Steps p.tables e below (T14.setTop (mkF m 92 #[.val (.ref a), .val (.ref ab), .val (.ref asp), .val (.int (6 : Int32))] [(.ref a)])) _
    refine XS.aloadN X14.here hx rfl (hb hby d3_92) rfl rfl ?_
    exact k)
  obtain ⟨T46, h46, X46, e46, W46, st46⟩ := putF X14 hx hZ hown (host := "") (Or.inl (hw _ (List.mem_of_getElem? (i := 19) rfl))) Via.refl e14 F1 Ea (Or.inr ⟨(hw _ (List.mem_of_getElem? (i := 20) rfl)), rfl, hnm⟩) (hw _ (List.mem_of_getElem? (i := 11) rfl)) (ty := (.array .byte)) (by decide) rfl rfl (g := (mkF m 93 #[.val (.ref a), .val (.ref ab), .val (.ref asp), .val (.int (6 : Int32))] [(.ref ab), (.ref a)])) rfl rfl (hb hby d3_93)
  have N46 := Fr.snoc X46 N0 g_a
  have Z47 : n0 ≤ h46.size := Nat.le_trans Z0 (Nat.le_of_eq W46.size.symm)
  have K48 : Keep h0 h46 [a] := KR.wr W46 (Or.inl (List.mem_of_getElem? (i := 0) rfl))
  have F49 : Fld Z h46 a "com/example/wakelog/wakelog/log/RawRow" "spans" "[I" .null := Fld.other W46 F2 (Or.inr (slot_ne (Or.inr (hw _ (List.mem_of_getElem? (i := 22) rfl))) (Or.inr (hw _ (List.mem_of_getElem? (i := 20) rfl))) (by decide) (t := (.array .int)) (t' := (.array .byte)) (by decide) (by decide)))
  have F50 : Exa Z h46 a "com/example/wakelog/wakelog/log/RawRow" := Exa.wr W46 Ea
  have F51 : Arv Z h46 ab kb .byte (4 : Int32) vb db := (Vb).other W46 n1
  have F52 : Arv Z h46 asp ks .int (6 : Int32) [(.int o0), (.int l0), (.int o1), (.int l1), (.int o2), (.int l2)] (.int (0 : Int32)) := (Vs).other W46 n2
  have F53 : Fld Z h46 a "com/example/wakelog/wakelog/log/RawRow" "bytes" "[B" (.ref ab) := Fld.same W46 F1
  have k54 : ∀ t, Steps p.tables e below (T46.setTop (mkF m 96 #[.val (.ref a), .val (.ref ab), .val (.ref asp), .val (.int (6 : Int32))] [])) t → Steps p.tables e below (s₁.setTop (entryFrame m #[(.ref a), (.ref ab), (.ref asp)] 4)) t := fun t k => k45 t (st46 t k)
  have k55 : ∀ t, Steps p.tables e below (T46.setTop (mkF m 98 #[.val (.ref a), .val (.ref ab), .val (.ref asp), .val (.int (6 : Int32))] [(.ref asp), (.ref a)])) t → Steps p.tables e below (s₁.setTop (entryFrame m #[(.ref a), (.ref ab), (.ref asp)] 4)) t := fun t k => k54 t (by
    show Steps p.tables e below (T46.setTop (mkF m 96 #[.val (.ref a), .val (.ref ab), .val (.ref asp), .val (.int (6 : Int32))] [])) _
    refine XS.aloadN X46.here hx rfl (hb hby d3_96) rfl rfl ?_
    show Steps p.tables e below (T46.setTop (mkF m 97 #[.val (.ref a), .val (.ref ab), .val (.ref asp), .val (.int (6 : Int32))] [(.ref a)])) _
    refine XS.aloadN X46.here hx rfl (hb hby d3_97) rfl rfl ?_
    exact k)
  obtain ⟨T56, h56, X56, e56, W56, st56⟩ := putF X46 hx hZ hown (host := "") (Or.inl (hw _ (List.mem_of_getElem? (i := 21) rfl))) Via.refl e46 F49 F50 (Or.inr ⟨(hw _ (List.mem_of_getElem? (i := 22) rfl)), rfl, hnm⟩) (hw _ (List.mem_of_getElem? (i := 11) rfl)) (ty := (.array .int)) (by decide) rfl rfl (g := (mkF m 98 #[.val (.ref a), .val (.ref ab), .val (.ref asp), .val (.int (6 : Int32))] [(.ref asp), (.ref a)])) rfl rfl (hb hby d3_98)
  have N56 := Fr.snoc X56 N46 g_a
  have Z57 : n0 ≤ h56.size := Nat.le_trans Z47 (Nat.le_of_eq W56.size.symm)
  have K58 : Keep h0 h56 [a] := K48.wr W56 (Or.inl (List.mem_of_getElem? (i := 0) rfl))
  have F59 : Exa Z h56 a "com/example/wakelog/wakelog/log/RawRow" := Exa.wr W56 F50
  have F60 : Arv Z h56 ab kb .byte (4 : Int32) vb db := (F51).other W56 n1
  have F61 : Arv Z h56 asp ks .int (6 : Int32) [(.int o0), (.int l0), (.int o1), (.int l1), (.int o2), (.int l2)] (.int (0 : Int32)) := (F52).other W56 n2
  have F62 : Fld Z h56 a "com/example/wakelog/wakelog/log/RawRow" "bytes" "[B" (.ref ab) := Fld.other W56 F53 (Or.inr (slot_ne (Or.inr (hw _ (List.mem_of_getElem? (i := 20) rfl))) (Or.inr (hw _ (List.mem_of_getElem? (i := 22) rfl))) (by decide) (t := (.array .byte)) (t' := (.array .int)) (by decide) (by decide)))
  have F63 : Fld Z h56 a "com/example/wakelog/wakelog/log/RawRow" "spans" "[I" (.ref asp) := Fld.same W56 F49
  have k64 : ∀ t, Steps p.tables e below (T56.setTop (mkF m 101 #[.val (.ref a), .val (.ref ab), .val (.ref asp), .val (.int (6 : Int32))] [])) t → Steps p.tables e below (s₁.setTop (entryFrame m #[(.ref a), (.ref ab), (.ref asp)] 4)) t := fun t k => k55 t (st56 t k)
  obtain ⟨fs, hr, hrun, hended, hW, hsame⟩ := X56.leave (v := none) (fun _ => rfl)
  refine ⟨_, _, k64 _ ?_, hrun, hended, _, _, rfl, ?_, ⟨_, rfl⟩, hW, hsame.mono (by decide) (by decide)⟩
  · show Steps p.tables e below (T56.setTop (mkF m 101 #[.val (.ref a), .val (.ref ab), .val (.ref asp), .val (.int (6 : Int32))] [])) _
    exact X56.returnOut hx Bd.returns (hb hby d3_101) hr
  · show Q3 Z a ab asp kb vb db ks o0 l0 o1 l1 o2 l2 h0 n0 _ T56.heap _
    rw [e56]
    exact ⟨rfl, N56, K58, F59, F63⟩
theorem d5_0 : decode prog_67_method_4_code 0 = .ok (.aload_n 0, 1) := by decide +kernel
theorem d5_1 : decode prog_67_method_4_code 1 = .ok (.getfield 25, 3) := by decide +kernel
theorem d5_4 : decode prog_67_method_4_code 4 = .ok (.iconst 2, 1) := by decide +kernel
theorem d5_5 : decode prog_67_method_4_code 5 = .ok (.iload_n 1, 1) := by decide +kernel
theorem d5_6 : decode prog_67_method_4_code 6 = .ok (.imul, 1) := by decide +kernel
theorem d5_7 : decode prog_67_method_4_code 7 = .ok (.iconst 1, 1) := by decide +kernel
theorem d5_8 : decode prog_67_method_4_code 8 = .ok (.iadd, 1) := by decide +kernel
theorem d5_9 : decode prog_67_method_4_code 9 = .ok (.iaload, 1) := by decide +kernel
theorem d5_10 : decode prog_67_method_4_code 10 = .ok (.ifCond .ge 7, 3) := by decide +kernel
theorem d5_13 : decode prog_67_method_4_code 13 = .ok (.iconst 1, 1) := by decide +kernel
theorem d5_14 : decode prog_67_method_4_code 14 = .ok (.goto 4, 3) := by decide +kernel
theorem d5_17 : decode prog_67_method_4_code 17 = .ok (.iconst 0, 1) := by decide +kernel
theorem d5_18 : decode prog_67_method_4_code 18 = .ok (.ireturn, 1) := by decide +kernel
theorem ef_5 (m : MethodId) (x0 : Addr) (x1 : Int32) : entryFrame m #[(.ref x0), (.int x1)] 2 = mkF m 0 #[.val (.ref x0), .val (.int x1)] [] := by first | (simp [entryFrame, mkF, argsToLocals, Value.category]; done) | rfl
def Q5 (Z : State) (a : Addr) (p1 : Int32) (asp : Addr) (ks : ClassId) (vs : List Value) (lv : Int32) (h0 : Heap) (n0 : Nat) (v : Option Value) (h : Heap) (L : List Loc) : Prop := v = some (.int (own_neg lv)) ∧ Fr n0 L ∧ h = h0
set_option maxRecDepth 65536 in
set_option maxHeartbeats 40000000 in
theorem rm5 (l : Launch) (Z : State) (a0 : Array Value) (hw : ∀ d ∈ tables_1, d.before a0 Z = true) (ws : List Jvm.Cond) (a : Addr) (p1 : Int32) (asp : Addr) (ks : ClassId) (vs : List Value) (lv : Int32) (h0 : Heap) (n0 : Nat) (Z0 : n0 ≤ h0.size) (F1 : Fld Z h0 a "com/example/wakelog/wakelog/log/RawRow" "spans" "[I" (.ref asp)) (Vs : Arv Z h0 asp ks .int (6 : Int32) vs (.int (0 : Int32))) (hj : ¬ (((2 : Int32) * p1) + (1 : Int32)) < 0 ∧ (((2 : Int32) * p1) + (1 : Int32)) < (6 : Int32)) (hv : vs.getD (((2 : Int32) * p1) + (1 : Int32)).toNatClampNeg (.int (0 : Int32)) = .int lv) :
    MetFree l (⟨"com/example/wakelog/wakelog/log/RawRow", "isNull", "(I)Z"⟩ : MethodName) (head1 (Jvm.Cond.code (⟨"com/example/wakelog/wakelog/log/RawRow", "isNull", "(I)Z"⟩ : MethodName) prog_67_method_4_code 2 (some .boolean) :: ws) ({ frames := 0, cells := 0, slots := 0, locals := 0 } : Room)) (fun aa U => aa = #[(.ref a), (.int p1)] ∧ Z.Warmed39 U.vm ∧ U.heap = h0) (fun _ _ _ _ _ => True) (fun _ U o U' => ∃ v L, o = .returned v ∧ Q5 Z a p1 asp ks vs lv h0 n0 v U'.heap L ∧ FrameEnd U o U' L ({ frames := 0, cells := 0, slots := 0, locals := 0 } : Room).cells ({ frames := 0, cells := 0, slots := 0, locals := 0 } : Room).slots) := by
  refine MetFree.of_bodySF (plainFor_of_name pn_1) hisR ?_
  intro p e s m args below meth c s₁ Bd hml0 hP hK
  obtain ⟨rfl, hZ, hh⟩ := hP
  have hx := Bd.exec
  have hby := Bd.bytes
  have hml : c.maxLocals = 2 := hml0
  have hown : s.vm.findClass "com/example/wakelog/wakelog/log/RawRow" = some m.cls := findClass_of_methodNamed Bd.named
  have hnm := (name_of_methodNamed Bd.named Bd.method).1
  have X0 : Stand p l e ({ frames := 0, cells := 0, slots := 0, locals := 0 } : Room) s m #[(.ref a), (.int p1)] below meth c s₁ [] 0 0 := Stand.of_body Bd
  have e0 : s₁.heap = h0 := by rw [← hh, Bd.state]; rfl
  have N0 := Fr.nil n0
  have pre0 : ∀ t, Steps p.tables e below (s₁.setTop (mkF m 0 #[.val (.ref a), .val (.int p1)] [])) t → Steps p.tables e below (s₁.setTop (entryFrame m #[(.ref a), (.int p1)] 2)) t := fun t k => castTop (ef_5 m a p1) k
  have k66 : ∀ t, Steps p.tables e below (s₁.setTop (mkF m 1 #[.val (.ref a), .val (.int p1)] [(.ref a)])) t → Steps p.tables e below (s₁.setTop (entryFrame m #[(.ref a), (.int p1)] 2)) t := fun t k => pre0 t (by
    show Steps p.tables e below (s₁.setTop (mkF m 0 #[.val (.ref a), .val (.int p1)] [])) _
    refine XS.aloadN X0.here hx rfl (hb hby d5_0) rfl rfl ?_
    exact k)
  obtain ⟨T67, X67, e67, st67⟩ := getF X0 hx hZ hown (host := "") (Or.inl (hw _ (List.mem_of_getElem? (i := 21) rfl))) Via.refl e0 F1 (g := (mkF m 1 #[.val (.ref a), .val (.int p1)] [(.ref a)])) rfl rfl (hb hby d5_1)
  have k68 : ∀ t, Steps p.tables e below (T67.setTop (mkF m 4 #[.val (.ref a), .val (.int p1)] [(.ref asp)])) t → Steps p.tables e below (s₁.setTop (entryFrame m #[(.ref a), (.int p1)] 2)) t := fun t k => k66 t (st67 t k)
  have k70 : ∀ t, Steps p.tables e below (T67.setTop (mkF m 10 #[.val (.ref a), .val (.int p1)] [(.int lv)])) t → Steps p.tables e below (s₁.setTop (entryFrame m #[(.ref a), (.int p1)] 2)) t := fun t k => k68 t (by
    show Steps p.tables e below (T67.setTop (mkF m 4 #[.val (.ref a), .val (.int p1)] [(.ref asp)])) _
    refine XS.iconst X67.here hx rfl (hb hby d5_4) ?_
    show Steps p.tables e below (T67.setTop (mkF m 5 #[.val (.ref a), .val (.int p1)] [(.int (2 : Int32)), (.ref asp)])) _
    refine XS.iloadN X67.here hx rfl (hb hby d5_5) rfl ?_
    show Steps p.tables e below (T67.setTop (mkF m 6 #[.val (.ref a), .val (.int p1)] [(.int p1), (.int (2 : Int32)), (.ref asp)])) _
    refine XS.imul X67.here hx rfl (hb hby d5_6) rfl ?_
    show Steps p.tables e below (T67.setTop (mkF m 7 #[.val (.ref a), .val (.int p1)] [(.int ((2 : Int32) * p1)), (.ref asp)])) _
    refine XS.iconst X67.here hx rfl (hb hby d5_7) ?_
    show Steps p.tables e below (T67.setTop (mkF m 8 #[.val (.ref a), .val (.int p1)] [(.int (1 : Int32)), (.int ((2 : Int32) * p1)), (.ref asp)])) _
    refine XS.iadd X67.here hx rfl (hb hby d5_8) rfl ?_
    show Steps p.tables e below (T67.setTop (mkF m 9 #[.val (.ref a), .val (.int p1)] [(.int (((2 : Int32) * p1) + (1 : Int32))), (.ref asp)])) _
    obtain ⟨clq69, Arq69, -, Sq69, Nq69, Hq69, Gq69⟩ := id Vs
    have hinq69 := inb_of (j := (((2 : Int32) * p1) + (1 : Int32))) Sq69 hj
    refine X67.iaload hx (j := (((2 : Int32) * p1) + (1 : Int32))) (v := (.int lv)) (by rw [e67]; exact Arq69.1) (State.isArrayOf_alike hZ.alike Arq69.2.1) Arq69.2.2 hinq69 (Has.at Hq69 hinq69 hv) (g := (mkF m 9 #[.val (.ref a), .val (.int p1)] [(.int (((2 : Int32) * p1) + (1 : Int32))), (.ref asp)])) rfl rfl (hb hby d5_9) _ ?_
    exact k)
  by_cases hc71 : lv < (0 : Int32)
  · have k72 : ∀ t, Steps p.tables e below (T67.setTop (mkF m 18 #[.val (.ref a), .val (.int p1)] [(.int (1 : Int32))])) t → Steps p.tables e below (s₁.setTop (entryFrame m #[(.ref a), (.int p1)] 2)) t := fun t k => k70 t (by
      show Steps p.tables e below (T67.setTop (mkF m 10 #[.val (.ref a), .val (.int p1)] [(.int lv)])) _
      refine XS.ifNo X67.here hx rfl (hb hby d5_10) rfl ((if0 _ _).trans (tlt hc71).2.1) ?_
      show Steps p.tables e below (T67.setTop (mkF m 13 #[.val (.ref a), .val (.int p1)] [])) _
      refine XS.iconst X67.here hx rfl (hb hby d5_13) ?_
      show Steps p.tables e below (T67.setTop (mkF m 14 #[.val (.ref a), .val (.int p1)] [(.int (1 : Int32))])) _
      refine XS.goto X67.here hx rfl (pc0 := 14) (pc' := 18) rfl (hb hby d5_14) (by decide) (by decide) ?_
      exact k)
    obtain ⟨fs, hr, hrun, hended, hW, hsame⟩ := X67.leave (v := some (.int (1 : Int32))) (fun h => by rw [Bd.returns] at h; cases h)
    refine ⟨_, _, k72 _ ?_, hrun, hended, _, _, rfl, ?_, ⟨_, rfl⟩, hW, hsame.mono (by decide) (by decide)⟩
    · show Steps p.tables e below (T67.setTop (mkF m 18 #[.val (.ref a), .val (.int p1)] [(.int (1 : Int32))])) _
      exact retN X67 hx (t := .boolean) Bd.returns (by simp) (hb hby d5_18) hr
    · show Q5 Z a p1 asp ks vs lv h0 n0 _ T67.heap _
      rw [e67]
      exact ⟨congrArg (fun z => some (Value.int z)) (show ((1 : Int32) : Int32) = own_neg lv by unfold own_neg; simp only [if_pos hc71]), N0, rfl⟩
  · have k74 : ∀ t, Steps p.tables e below (T67.setTop (mkF m 18 #[.val (.ref a), .val (.int p1)] [(.int (0 : Int32))])) t → Steps p.tables e below (s₁.setTop (entryFrame m #[(.ref a), (.int p1)] 2)) t := fun t k => k70 t (by
      show Steps p.tables e below (T67.setTop (mkF m 10 #[.val (.ref a), .val (.int p1)] [(.int lv)])) _
      refine XS.ifYes X67.here hx rfl (pc0 := 10) (pc' := 17) rfl (hb hby d5_10) rfl ((if0 _ _).trans (flt hc71).2.1) (by decide) (by decide) ?_
      show Steps p.tables e below (T67.setTop (mkF m 17 #[.val (.ref a), .val (.int p1)] [])) _
      refine XS.iconst X67.here hx rfl (hb hby d5_17) ?_
      exact k)
    obtain ⟨fs, hr, hrun, hended, hW, hsame⟩ := X67.leave (v := some (.int (0 : Int32))) (fun h => by rw [Bd.returns] at h; cases h)
    refine ⟨_, _, k74 _ ?_, hrun, hended, _, _, rfl, ?_, ⟨_, rfl⟩, hW, hsame.mono (by decide) (by decide)⟩
    · show Steps p.tables e below (T67.setTop (mkF m 18 #[.val (.ref a), .val (.int p1)] [(.int (0 : Int32))])) _
      exact retN X67 hx (t := .boolean) Bd.returns (by simp) (hb hby d5_18) hr
    · show Q5 Z a p1 asp ks vs lv h0 n0 _ T67.heap _
      rw [e67]
      exact ⟨congrArg (fun z => some (Value.int z)) (show ((0 : Int32) : Int32) = own_neg lv by unfold own_neg; simp only [if_neg hc71]), N0, rfl⟩
theorem pd_0 : parseMethodDescriptor "(I)I" = some ⟨[.int], some .int⟩ := by decide +kernel
theorem pd_1 : parseMethodDescriptor "(II)I" = some ⟨[.int, .int], some .int⟩ := by decide +kernel
theorem pd_2 : parseMethodDescriptor "([B[I)V" = some ⟨[(.array .byte), (.array .int)], none⟩ := by decide +kernel
theorem pd_3 : parseMethodDescriptor "(I)Z" = some ⟨[.int], some .boolean⟩ := by decide +kernel
theorem ef_0 (m : MethodId) (x0 : Int32) (x1 : Int32) (x2 : Int32) (x3 : Int32) (x4 : Int32) (x5 : Int32) : entryFrame m #[(.int x0), (.int x1), (.int x2), (.int x3), (.int x4), (.int x5)] maxLocals = mkF m 0 #[.val (.int x0), .val (.int x1), .val (.int x2), .val (.int x3), .val (.int x4), .val (.int x5), .unset, .unset, .unset, .unset, .unset, .unset, .unset, .unset, .unset] [] := by first | (simp [entryFrame, mkF, argsToLocals, Value.category, maxLocals]; done) | rfl
def Q0 (Z : State) (p0 : Int32) (p1 : Int32) (p2 : Int32) (p3 : Int32) (p4 : Int32) (p5 : Int32) (h0 : Heap) (n0 : Nat) (v : Option Value) (h : Heap) (L : List Loc) : Prop := v = some (.int 1) ∧ Fr n0 L
set_option maxRecDepth 65536 in
set_option maxHeartbeats 40000000 in
theorem rm0 (l : Launch) (Z : State) (a0 : Array Value) (hw : ∀ d ∈ tables_1, d.before a0 Z = true) (ws : List Jvm.Cond) (p0 : Int32) (p1 : Int32) (p2 : Int32) (p3 : Int32) (p4 : Int32) (p5 : Int32) (h0 : Heap) (n0 : Nat) (Z0 : n0 ≤ h0.size) :
    MetFree l x (head1 (Jvm.Cond.code x code maxLocals ret :: ws) room_1) (fun aa U => aa = #[(.int p0), (.int p1), (.int p2), (.int p3), (.int p4), (.int p5)] ∧ Z.Warmed39 U.vm ∧ U.heap = h0) (fun _ _ _ _ _ => True) (fun _ U o U' => ∃ v L, o = .returned v ∧ Q0 Z p0 p1 p2 p3 p4 p5 h0 n0 v U'.heap L ∧ FrameEnd U o U' L room_1.cells room_1.slots) := by
  refine MetFree.of_bodySF (plainFor_of_name pn_0) hisR ?_
  intro p e s m args below meth c s₁ Bd hml0 hP hK
  obtain ⟨rfl, hZ, hh⟩ := hP
  have hx := Bd.exec
  have hby := Bd.bytes
  have hml : c.maxLocals = 15 := hml0
  have hown : s.vm.findClass "com/example/wakelog/wakelog/log/RawRowIsNullPinLaw" = some m.cls := findClass_of_methodNamed Bd.named
  have hnm := (name_of_methodNamed Bd.named Bd.method).1
  have X0 : Stand p l e room_1 s m #[(.int p0), (.int p1), (.int p2), (.int p3), (.int p4), (.int p5)] below meth c s₁ [] 0 0 := Stand.of_body Bd
  have e0 : s₁.heap = h0 := by rw [← hh, Bd.state]; rfl
  have N0 := Fr.nil n0
  have pre0 : ∀ t, Steps p.tables e below (s₁.setTop (mkF m 0 #[.val (.int p0), .val (.int p1), .val (.int p2), .val (.int p3), .val (.int p4), .val (.int p5), .unset, .unset, .unset, .unset, .unset, .unset, .unset, .unset, .unset] [])) t → Steps p.tables e below (s₁.setTop (entryFrame m #[(.int p0), (.int p1), (.int p2), (.int p3), (.int p4), (.int p5)] maxLocals)) t := fun t k => castTop (ef_0 m p0 p1 p2 p3 p4 p5) k
  have k76 : ∀ t, Steps p.tables e below (s₁.setTop (mkF m 1 #[.val (.int p0), .val (.int p1), .val (.int p2), .val (.int p3), .val (.int p4), .val (.int p5), .unset, .unset, .unset, .unset, .unset, .unset, .unset, .unset, .unset] [(.int (4 : Int32))])) t → Steps p.tables e below (s₁.setTop (entryFrame m #[(.int p0), (.int p1), (.int p2), (.int p3), (.int p4), (.int p5)] maxLocals)) t := fun t k => pre0 t (by
    show Steps p.tables e below (s₁.setTop (mkF m 0 #[.val (.int p0), .val (.int p1), .val (.int p2), .val (.int p3), .val (.int p4), .val (.int p5), .unset, .unset, .unset, .unset, .unset, .unset, .unset, .unset, .unset] [])) _
    refine XS.iconst X0.here hx rfl (hb hby at_0) ?_
    exact k)
  obtain ⟨T77, h77, c77, X77, e77, E77, A77, st77⟩ := newP X0 hx hZ (hw _ (List.mem_of_getElem? (i := 0) rfl)) e0 (g := (mkF m 1 #[.val (.int p0), .val (.int p1), .val (.int p2), .val (.int p3), .val (.int p4), .val (.int p5), .unset, .unset, .unset, .unset, .unset, .unset, .unset, .unset, .unset] [(.int (4 : Int32))])) rfl (hb hby at_1) rfl (by decide) (cap := 4) (by decide) (by decide) (by decide) (by decide)
  obtain ⟨b77, g77⟩ : ∃ z, z = h0.size := ⟨_, rfl⟩
  rw [← g77] at A77 st77
  have g_b77 : n0 ≤ b77 := Nat.le_trans Z0 (Nat.le_of_eq g77.symm)
  have Z78 : n0 ≤ h77.size := Nat.le_trans Z0 E77.1
  have V77 : Arv Z h77 b77 c77 .byte (4 : Int32) [(.int (0 : Int32)), (.int (0 : Int32)), (.int (0 : Int32)), (.int (0 : Int32))] (.int (0 : Int32)) := (Arv.new A77 (by decide)).pad (pad_rep [] (.int (0 : Int32)) 4)
  have k79 : ∀ t, Steps p.tables e below (T77.setTop (mkF m 3 #[.val (.int p0), .val (.int p1), .val (.int p2), .val (.int p3), .val (.int p4), .val (.int p5), .unset, .unset, .unset, .unset, .unset, .unset, .unset, .unset, .unset] [(.ref b77)])) t → Steps p.tables e below (s₁.setTop (entryFrame m #[(.int p0), (.int p1), (.int p2), (.int p3), (.int p4), (.int p5)] maxLocals)) t := fun t k => k76 t (st77 t k)
  have k80 : ∀ t, Steps p.tables e below (T77.setTop (mkF m 6 #[.val (.int p0), .val (.int p1), .val (.int p2), .val (.int p3), .val (.int p4), .val (.int p5), .val (.ref b77), .unset, .unset, .unset, .unset, .unset, .unset, .unset, .unset] [(.int p0)])) t → Steps p.tables e below (s₁.setTop (entryFrame m #[(.int p0), (.int p1), (.int p2), (.int p3), (.int p4), (.int p5)] maxLocals)) t := fun t k => k79 t (by
    show Steps p.tables e below (T77.setTop (mkF m 3 #[.val (.int p0), .val (.int p1), .val (.int p2), .val (.int p3), .val (.int p4), .val (.int p5), .unset, .unset, .unset, .unset, .unset, .unset, .unset, .unset, .unset] [(.ref b77)])) _
    refine XS.astore X77.here hx rfl (hb hby at_3) rfl rfl (l' := #[.val (.int p0), .val (.int p1), .val (.int p2), .val (.int p3), .val (.int p4), .val (.int p5), .val (.ref b77), .unset, .unset, .unset, .unset, .unset, .unset, .unset, .unset]) rfl ?_
    show Steps p.tables e below (T77.setTop (mkF m 5 #[.val (.int p0), .val (.int p1), .val (.int p2), .val (.int p3), .val (.int p4), .val (.int p5), .val (.ref b77), .unset, .unset, .unset, .unset, .unset, .unset, .unset, .unset] [])) _
    refine XS.iloadN X77.here hx rfl (hb hby at_5) rfl ?_
    exact k)
  obtain ⟨_, _, ⟨T81, L81, kc81, ks81⟩, -, X81, ⟨Lc81, hQ81, l81, y81, z81⟩, st81⟩ := Jvm.LawKit.callS X77 hx (y := (⟨"com/example/wakelog/wakelog/log/RawRowIsNullPinLaw", "len", "(I)I"⟩ : MethodName)) hown (mvT hZ (hw _ (List.mem_of_getElem? (i := 1) rfl))) (mvT hZ (hw _ (List.mem_of_getElem? (i := 2) rfl))) (mvT hZ (hw _ (List.mem_of_getElem? (i := 3) rfl))) (mvT hZ (hw _ (List.mem_of_getElem? (i := 4) rfl))) (by decide) (backOf (W := 0) (rm1 l Z a0 hw [] p0 h77 n0 Z78) hZ (hw _ (List.mem_of_getElem? (i := 4) rfl)) (hw _ (List.mem_of_getElem? (i := 3) rfl)) (by decide) (by decide)) (g := (mkF m 6 #[.val (.int p0), .val (.int p1), .val (.int p2), .val (.int p3), .val (.int p4), .val (.int p5), .val (.ref b77), .unset, .unset, .unset, .unset, .unset, .unset, .unset, .unset] [(.int p0)])) rfl (by rw [hml]; rfl) (argsL := [(.int p0)]) (rest := []) (lenOf pd_0 rfl) rfl (by show 2 * 0 + _ ≤ _; exact Nat.le_of_eq rfl) (hb hby at_6) (fun _ _ => ⟨rfl, e77, (by decide : 1 + 0 ≤ _), (by decide : 4 + 0 ≤ _)⟩)
  dsimp only [Pt.U, Pt.locs, Pt.cells, Pt.slots] at X81 l81 y81 z81 st81 hQ81
  subst l81 y81 z81
  obtain ⟨rfl, Nq81, eq81⟩ := hQ81
  have N81 := Fr.app N0 Nq81
  have k82 : ∀ t, Steps p.tables e below (T81.setTop (mkF m 9 #[.val (.int p0), .val (.int p1), .val (.int p2), .val (.int p3), .val (.int p4), .val (.int p5), .val (.ref b77), .unset, .unset, .unset, .unset, .unset, .unset, .unset, .unset] [(.int (own_len p0))])) t → Steps p.tables e below (s₁.setTop (entryFrame m #[(.int p0), (.int p1), (.int p2), (.int p3), (.int p4), (.int p5)] maxLocals)) t := fun t k => k80 t (st81 t k)
  have k83 : ∀ t, Steps p.tables e below (T81.setTop (mkF m 12 #[.val (.int p0), .val (.int p1), .val (.int p2), .val (.int p3), .val (.int p4), .val (.int p5), .val (.ref b77), .val (.int (own_len p0)), .unset, .unset, .unset, .unset, .unset, .unset, .unset] [(.int p2)])) t → Steps p.tables e below (s₁.setTop (entryFrame m #[(.int p0), (.int p1), (.int p2), (.int p3), (.int p4), (.int p5)] maxLocals)) t := fun t k => k82 t (by
    show Steps p.tables e below (T81.setTop (mkF m 9 #[.val (.int p0), .val (.int p1), .val (.int p2), .val (.int p3), .val (.int p4), .val (.int p5), .val (.ref b77), .unset, .unset, .unset, .unset, .unset, .unset, .unset, .unset] [(.int (own_len p0))])) _
    refine XS.istore X81.here hx rfl (hb hby at_9) rfl (l' := #[.val (.int p0), .val (.int p1), .val (.int p2), .val (.int p3), .val (.int p4), .val (.int p5), .val (.ref b77), .val (.int (own_len p0)), .unset, .unset, .unset, .unset, .unset, .unset, .unset]) rfl ?_
    show Steps p.tables e below (T81.setTop (mkF m 11 #[.val (.int p0), .val (.int p1), .val (.int p2), .val (.int p3), .val (.int p4), .val (.int p5), .val (.ref b77), .val (.int (own_len p0)), .unset, .unset, .unset, .unset, .unset, .unset, .unset] [])) _
    refine XS.iloadN X81.here hx rfl (hb hby at_11) rfl ?_
    exact k)
  obtain ⟨_, _, ⟨T84, L84, kc84, ks84⟩, -, X84, ⟨Lc84, hQ84, l84, y84, z84⟩, st84⟩ := Jvm.LawKit.callS X81 hx (y := (⟨"com/example/wakelog/wakelog/log/RawRowIsNullPinLaw", "len", "(I)I"⟩ : MethodName)) hown (mvT hZ (hw _ (List.mem_of_getElem? (i := 1) rfl))) (mvT hZ (hw _ (List.mem_of_getElem? (i := 2) rfl))) (mvT hZ (hw _ (List.mem_of_getElem? (i := 3) rfl))) (mvT hZ (hw _ (List.mem_of_getElem? (i := 4) rfl))) (by decide) (backOf (W := 0) (rm1 l Z a0 hw [] p2 h77 n0 Z78) hZ (hw _ (List.mem_of_getElem? (i := 4) rfl)) (hw _ (List.mem_of_getElem? (i := 3) rfl)) (by decide) (by decide)) (g := (mkF m 12 #[.val (.int p0), .val (.int p1), .val (.int p2), .val (.int p3), .val (.int p4), .val (.int p5), .val (.ref b77), .val (.int (own_len p0)), .unset, .unset, .unset, .unset, .unset, .unset, .unset] [(.int p2)])) rfl (by rw [hml]; rfl) (argsL := [(.int p2)]) (rest := []) (lenOf pd_0 rfl) rfl (by show 2 * 0 + _ ≤ _; exact Nat.le_of_eq rfl) (hb hby at_12) (fun _ _ => ⟨rfl, eq81, (by decide : 1 + 0 ≤ _), (by decide : 4 + 0 ≤ _)⟩)
  dsimp only [Pt.U, Pt.locs, Pt.cells, Pt.slots] at X84 l84 y84 z84 st84 hQ84
  subst l84 y84 z84
  obtain ⟨rfl, Nq84, eq84⟩ := hQ84
  have N84 := Fr.app N81 Nq84
  have k85 : ∀ t, Steps p.tables e below (T84.setTop (mkF m 15 #[.val (.int p0), .val (.int p1), .val (.int p2), .val (.int p3), .val (.int p4), .val (.int p5), .val (.ref b77), .val (.int (own_len p0)), .unset, .unset, .unset, .unset, .unset, .unset, .unset] [(.int (own_len p2))])) t → Steps p.tables e below (s₁.setTop (entryFrame m #[(.int p0), (.int p1), (.int p2), (.int p3), (.int p4), (.int p5)] maxLocals)) t := fun t k => k83 t (st84 t k)
  have k86 : ∀ t, Steps p.tables e below (T84.setTop (mkF m 19 #[.val (.int p0), .val (.int p1), .val (.int p2), .val (.int p3), .val (.int p4), .val (.int p5), .val (.ref b77), .val (.int (own_len p0)), .val (.int (own_len p2)), .unset, .unset, .unset, .unset, .unset, .unset] [(.int p4)])) t → Steps p.tables e below (s₁.setTop (entryFrame m #[(.int p0), (.int p1), (.int p2), (.int p3), (.int p4), (.int p5)] maxLocals)) t := fun t k => k85 t (by
    show Steps p.tables e below (T84.setTop (mkF m 15 #[.val (.int p0), .val (.int p1), .val (.int p2), .val (.int p3), .val (.int p4), .val (.int p5), .val (.ref b77), .val (.int (own_len p0)), .unset, .unset, .unset, .unset, .unset, .unset, .unset] [(.int (own_len p2))])) _
    refine XS.istore X84.here hx rfl (hb hby at_15) rfl (l' := #[.val (.int p0), .val (.int p1), .val (.int p2), .val (.int p3), .val (.int p4), .val (.int p5), .val (.ref b77), .val (.int (own_len p0)), .val (.int (own_len p2)), .unset, .unset, .unset, .unset, .unset, .unset]) rfl ?_
    show Steps p.tables e below (T84.setTop (mkF m 17 #[.val (.int p0), .val (.int p1), .val (.int p2), .val (.int p3), .val (.int p4), .val (.int p5), .val (.ref b77), .val (.int (own_len p0)), .val (.int (own_len p2)), .unset, .unset, .unset, .unset, .unset, .unset] [])) _
    refine XS.iload X84.here hx rfl (hb hby at_17) rfl ?_
    exact k)
  obtain ⟨_, _, ⟨T87, L87, kc87, ks87⟩, -, X87, ⟨Lc87, hQ87, l87, y87, z87⟩, st87⟩ := Jvm.LawKit.callS X84 hx (y := (⟨"com/example/wakelog/wakelog/log/RawRowIsNullPinLaw", "len", "(I)I"⟩ : MethodName)) hown (mvT hZ (hw _ (List.mem_of_getElem? (i := 1) rfl))) (mvT hZ (hw _ (List.mem_of_getElem? (i := 2) rfl))) (mvT hZ (hw _ (List.mem_of_getElem? (i := 3) rfl))) (mvT hZ (hw _ (List.mem_of_getElem? (i := 4) rfl))) (by decide) (backOf (W := 0) (rm1 l Z a0 hw [] p4 h77 n0 Z78) hZ (hw _ (List.mem_of_getElem? (i := 4) rfl)) (hw _ (List.mem_of_getElem? (i := 3) rfl)) (by decide) (by decide)) (g := (mkF m 19 #[.val (.int p0), .val (.int p1), .val (.int p2), .val (.int p3), .val (.int p4), .val (.int p5), .val (.ref b77), .val (.int (own_len p0)), .val (.int (own_len p2)), .unset, .unset, .unset, .unset, .unset, .unset] [(.int p4)])) rfl (by rw [hml]; rfl) (argsL := [(.int p4)]) (rest := []) (lenOf pd_0 rfl) rfl (by show 2 * 0 + _ ≤ _; exact Nat.le_of_eq rfl) (hb hby at_19) (fun _ _ => ⟨rfl, eq84, (by decide : 1 + 0 ≤ _), (by decide : 4 + 0 ≤ _)⟩)
  dsimp only [Pt.U, Pt.locs, Pt.cells, Pt.slots] at X87 l87 y87 z87 st87 hQ87
  subst l87 y87 z87
  obtain ⟨rfl, Nq87, eq87⟩ := hQ87
  have N87 := Fr.app N84 Nq87
  have k88 : ∀ t, Steps p.tables e below (T87.setTop (mkF m 22 #[.val (.int p0), .val (.int p1), .val (.int p2), .val (.int p3), .val (.int p4), .val (.int p5), .val (.ref b77), .val (.int (own_len p0)), .val (.int (own_len p2)), .unset, .unset, .unset, .unset, .unset, .unset] [(.int (own_len p4))])) t → Steps p.tables e below (s₁.setTop (entryFrame m #[(.int p0), (.int p1), (.int p2), (.int p3), (.int p4), (.int p5)] maxLocals)) t := fun t k => k86 t (st87 t k)
  have k89 : ∀ t, Steps p.tables e below (T87.setTop (mkF m 26 #[.val (.int p0), .val (.int p1), .val (.int p2), .val (.int p3), .val (.int p4), .val (.int p5), .val (.ref b77), .val (.int (own_len p0)), .val (.int (own_len p2)), .val (.int (own_len p4)), .unset, .unset, .unset, .unset, .unset] [(.int (6 : Int32))])) t → Steps p.tables e below (s₁.setTop (entryFrame m #[(.int p0), (.int p1), (.int p2), (.int p3), (.int p4), (.int p5)] maxLocals)) t := fun t k => k88 t (by
    show Steps p.tables e below (T87.setTop (mkF m 22 #[.val (.int p0), .val (.int p1), .val (.int p2), .val (.int p3), .val (.int p4), .val (.int p5), .val (.ref b77), .val (.int (own_len p0)), .val (.int (own_len p2)), .unset, .unset, .unset, .unset, .unset, .unset] [(.int (own_len p4))])) _
    refine XS.istore X87.here hx rfl (hb hby at_22) rfl (l' := #[.val (.int p0), .val (.int p1), .val (.int p2), .val (.int p3), .val (.int p4), .val (.int p5), .val (.ref b77), .val (.int (own_len p0)), .val (.int (own_len p2)), .val (.int (own_len p4)), .unset, .unset, .unset, .unset, .unset]) rfl ?_
    show Steps p.tables e below (T87.setTop (mkF m 24 #[.val (.int p0), .val (.int p1), .val (.int p2), .val (.int p3), .val (.int p4), .val (.int p5), .val (.ref b77), .val (.int (own_len p0)), .val (.int (own_len p2)), .val (.int (own_len p4)), .unset, .unset, .unset, .unset, .unset] [])) _
    refine XS.bipush X87.here hx rfl (hb hby at_24) ?_
    exact k)
  obtain ⟨T90, h90, c90, X90, e90, E90, A90, st90⟩ := newP X87 hx hZ (hw _ (List.mem_of_getElem? (i := 5) rfl)) eq87 (g := (mkF m 26 #[.val (.int p0), .val (.int p1), .val (.int p2), .val (.int p3), .val (.int p4), .val (.int p5), .val (.ref b77), .val (.int (own_len p0)), .val (.int (own_len p2)), .val (.int (own_len p4)), .unset, .unset, .unset, .unset, .unset] [(.int (6 : Int32))])) rfl (hb hby at_26) rfl (by decide) (cap := 6) (by decide) (by decide) (by decide) (by decide)
  obtain ⟨b90, g90⟩ : ∃ z, z = h77.size := ⟨_, rfl⟩
  rw [← g90] at A90 st90
  have ne91 : b77 ≠ b90 := Nat.ne_of_lt (Nat.lt_of_lt_of_le (V77).lt (Nat.le_of_eq g90.symm))
  have g_b90 : n0 ≤ b90 := Nat.le_trans Z78 (Nat.le_of_eq g90.symm)
  have Z92 : n0 ≤ h90.size := Nat.le_trans Z78 E90.1
  have F93 : Arv Z h90 b77 c77 .byte (4 : Int32) [(.int (0 : Int32)), (.int (0 : Int32)), (.int (0 : Int32)), (.int (0 : Int32))] (.int (0 : Int32)) := (V77).ext E90
  have V90 : Arv Z h90 b90 c90 .int (6 : Int32) [(.int (0 : Int32)), (.int (0 : Int32)), (.int (0 : Int32)), (.int (0 : Int32)), (.int (0 : Int32)), (.int (0 : Int32))] (.int (0 : Int32)) := (Arv.new A90 (by decide)).pad (pad_rep [] (.int (0 : Int32)) 6)
  have k94 : ∀ t, Steps p.tables e below (T90.setTop (mkF m 28 #[.val (.int p0), .val (.int p1), .val (.int p2), .val (.int p3), .val (.int p4), .val (.int p5), .val (.ref b77), .val (.int (own_len p0)), .val (.int (own_len p2)), .val (.int (own_len p4)), .unset, .unset, .unset, .unset, .unset] [(.ref b90)])) t → Steps p.tables e below (s₁.setTop (entryFrame m #[(.int p0), (.int p1), (.int p2), (.int p3), (.int p4), (.int p5)] maxLocals)) t := fun t k => k89 t (st90 t k)
  have k95 : ∀ t, Steps p.tables e below (T90.setTop (mkF m 36 #[.val (.int p0), .val (.int p1), .val (.int p2), .val (.int p3), .val (.int p4), .val (.int p5), .val (.ref b77), .val (.int (own_len p0)), .val (.int (own_len p2)), .val (.int (own_len p4)), .val (.ref b90), .unset, .unset, .unset, .unset] [(.int (own_len p0)), (.int p1), (.int (0 : Int32)), (.ref b90)])) t → Steps p.tables e below (s₁.setTop (entryFrame m #[(.int p0), (.int p1), (.int p2), (.int p3), (.int p4), (.int p5)] maxLocals)) t := fun t k => k94 t (by
    show Steps p.tables e below (T90.setTop (mkF m 28 #[.val (.int p0), .val (.int p1), .val (.int p2), .val (.int p3), .val (.int p4), .val (.int p5), .val (.ref b77), .val (.int (own_len p0)), .val (.int (own_len p2)), .val (.int (own_len p4)), .unset, .unset, .unset, .unset, .unset] [(.ref b90)])) _
    refine XS.astore X90.here hx rfl (hb hby at_28) rfl rfl (l' := #[.val (.int p0), .val (.int p1), .val (.int p2), .val (.int p3), .val (.int p4), .val (.int p5), .val (.ref b77), .val (.int (own_len p0)), .val (.int (own_len p2)), .val (.int (own_len p4)), .val (.ref b90), .unset, .unset, .unset, .unset]) rfl ?_
    show Steps p.tables e below (T90.setTop (mkF m 30 #[.val (.int p0), .val (.int p1), .val (.int p2), .val (.int p3), .val (.int p4), .val (.int p5), .val (.ref b77), .val (.int (own_len p0)), .val (.int (own_len p2)), .val (.int (own_len p4)), .val (.ref b90), .unset, .unset, .unset, .unset] [])) _
    refine XS.aload X90.here hx rfl (hb hby at_30) rfl rfl ?_
    show Steps p.tables e below (T90.setTop (mkF m 32 #[.val (.int p0), .val (.int p1), .val (.int p2), .val (.int p3), .val (.int p4), .val (.int p5), .val (.ref b77), .val (.int (own_len p0)), .val (.int (own_len p2)), .val (.int (own_len p4)), .val (.ref b90), .unset, .unset, .unset, .unset] [(.ref b90)])) _
    refine XS.iconst X90.here hx rfl (hb hby at_32) ?_
    show Steps p.tables e below (T90.setTop (mkF m 33 #[.val (.int p0), .val (.int p1), .val (.int p2), .val (.int p3), .val (.int p4), .val (.int p5), .val (.ref b77), .val (.int (own_len p0)), .val (.int (own_len p2)), .val (.int (own_len p4)), .val (.ref b90), .unset, .unset, .unset, .unset] [(.int (0 : Int32)), (.ref b90)])) _
    refine XS.iloadN X90.here hx rfl (hb hby at_33) rfl ?_
    show Steps p.tables e below (T90.setTop (mkF m 34 #[.val (.int p0), .val (.int p1), .val (.int p2), .val (.int p3), .val (.int p4), .val (.int p5), .val (.ref b77), .val (.int (own_len p0)), .val (.int (own_len p2)), .val (.int (own_len p4)), .val (.ref b90), .unset, .unset, .unset, .unset] [(.int p1), (.int (0 : Int32)), (.ref b90)])) _
    refine XS.iload X90.here hx rfl (hb hby at_34) rfl ?_
    exact k)
  obtain ⟨_, _, ⟨T96, L96, kc96, ks96⟩, -, X96, ⟨Lc96, hQ96, l96, y96, z96⟩, st96⟩ := Jvm.LawKit.callS X90 hx (y := (⟨"com/example/wakelog/wakelog/log/RawRowIsNullPinLaw", "off", "(II)I"⟩ : MethodName)) hown (mvT hZ (hw _ (List.mem_of_getElem? (i := 6) rfl))) (mvT hZ (hw _ (List.mem_of_getElem? (i := 7) rfl))) (mvT hZ (hw _ (List.mem_of_getElem? (i := 3) rfl))) (mvT hZ (hw _ (List.mem_of_getElem? (i := 8) rfl))) (by decide) (backOf (W := 2) (rm2 l Z a0 hw [] p1 (own_len p0) h90 n0 Z92 (own_nz p0)) hZ (hw _ (List.mem_of_getElem? (i := 8) rfl)) (hw _ (List.mem_of_getElem? (i := 3) rfl)) (by decide) (by decide)) (g := (mkF m 36 #[.val (.int p0), .val (.int p1), .val (.int p2), .val (.int p3), .val (.int p4), .val (.int p5), .val (.ref b77), .val (.int (own_len p0)), .val (.int (own_len p2)), .val (.int (own_len p4)), .val (.ref b90), .unset, .unset, .unset, .unset] [(.int (own_len p0)), (.int p1), (.int (0 : Int32)), (.ref b90)])) rfl (by rw [hml]; rfl) (argsL := [(.int p1), (.int (own_len p0))]) (rest := [(.int (0 : Int32)), (.ref b90)]) (lenOf pd_1 rfl) rfl (by show 2 * 0 + _ ≤ _; exact Nat.le_of_eq rfl) (hb hby at_36) (fun _ _ => ⟨rfl, e90, (by decide : 2 + 0 ≤ _), (by decide : 10 + 0 ≤ _)⟩)
  dsimp only [Pt.U, Pt.locs, Pt.cells, Pt.slots] at X96 l96 y96 z96 st96 hQ96
  subst l96 y96 z96
  obtain ⟨rfl, Nq96, eq96⟩ := hQ96
  have N96 := Fr.app N87 Nq96
  have k97 : ∀ t, Steps p.tables e below (T96.setTop (mkF m 39 #[.val (.int p0), .val (.int p1), .val (.int p2), .val (.int p3), .val (.int p4), .val (.int p5), .val (.ref b77), .val (.int (own_len p0)), .val (.int (own_len p2)), .val (.int (own_len p4)), .val (.ref b90), .unset, .unset, .unset, .unset] [(.int (own_off p1 (own_len p0))), (.int (0 : Int32)), (.ref b90)])) t → Steps p.tables e below (s₁.setTop (entryFrame m #[(.int p0), (.int p1), (.int p2), (.int p3), (.int p4), (.int p5)] maxLocals)) t := fun t k => k95 t (st96 t k)
  obtain ⟨cl98, Ar98, qq98, S98, M98, H98, G98⟩ := V90
  have hin98 : ¬ ((0 : Int32) < 0 ∨ cl98.slots.size ≤ ((0 : Int32)).toNatClampNeg) := inb_of S98 ⟨by decide, by decide⟩
  obtain ⟨T98, h98, X98, e98, W98, st98⟩ := stI X96 hx hZ eq96 Ar98 (j := (0 : Int32)) hin98 (g := (mkF m 39 #[.val (.int p0), .val (.int p1), .val (.int p2), .val (.int p3), .val (.int p4), .val (.int p5), .val (.ref b77), .val (.int (own_len p0)), .val (.int (own_len p2)), .val (.int (own_len p4)), .val (.ref b90), .unset, .unset, .unset, .unset] [(.int (own_off p1 (own_len p0))), (.int (0 : Int32)), (.ref b90)])) rfl rfl (hb hby at_39)
  have V98 : Arv Z h98 b90 c90 .int (6 : Int32) [(.int (own_off p1 (own_len p0))), (.int (0 : Int32)), (.int (0 : Int32)), (.int (0 : Int32)), (.int (0 : Int32)), (.int (0 : Int32))] (.int (0 : Int32)) := Arv.set Ar98 qq98 S98 M98 H98 G98 rfl W98 0 rfl (Nat.le_of_ble_eq_true rfl)
  have N98 := Fr.snoc X98 N96 g_b90
  have Z99 : n0 ≤ h98.size := Nat.le_trans Z92 (Nat.le_of_eq W98.size.symm)
  have F100 : Arv Z h98 b77 c77 .byte (4 : Int32) [(.int (0 : Int32)), (.int (0 : Int32)), (.int (0 : Int32)), (.int (0 : Int32))] (.int (0 : Int32)) := (F93).other W98 ne91
  have k101 : ∀ t, Steps p.tables e below (T98.setTop (mkF m 40 #[.val (.int p0), .val (.int p1), .val (.int p2), .val (.int p3), .val (.int p4), .val (.int p5), .val (.ref b77), .val (.int (own_len p0)), .val (.int (own_len p2)), .val (.int (own_len p4)), .val (.ref b90), .unset, .unset, .unset, .unset] [])) t → Steps p.tables e below (s₁.setTop (entryFrame m #[(.int p0), (.int p1), (.int p2), (.int p3), (.int p4), (.int p5)] maxLocals)) t := fun t k => k97 t (st98 t k)
  have k102 : ∀ t, Steps p.tables e below (T98.setTop (mkF m 45 #[.val (.int p0), .val (.int p1), .val (.int p2), .val (.int p3), .val (.int p4), .val (.int p5), .val (.ref b77), .val (.int (own_len p0)), .val (.int (own_len p2)), .val (.int (own_len p4)), .val (.ref b90), .unset, .unset, .unset, .unset] [(.int (own_len p0)), (.int (1 : Int32)), (.ref b90)])) t → Steps p.tables e below (s₁.setTop (entryFrame m #[(.int p0), (.int p1), (.int p2), (.int p3), (.int p4), (.int p5)] maxLocals)) t := fun t k => k101 t (by
    show Steps p.tables e below (T98.setTop (mkF m 40 #[.val (.int p0), .val (.int p1), .val (.int p2), .val (.int p3), .val (.int p4), .val (.int p5), .val (.ref b77), .val (.int (own_len p0)), .val (.int (own_len p2)), .val (.int (own_len p4)), .val (.ref b90), .unset, .unset, .unset, .unset] [])) _
    refine XS.aload X98.here hx rfl (hb hby at_40) rfl rfl ?_
    show Steps p.tables e below (T98.setTop (mkF m 42 #[.val (.int p0), .val (.int p1), .val (.int p2), .val (.int p3), .val (.int p4), .val (.int p5), .val (.ref b77), .val (.int (own_len p0)), .val (.int (own_len p2)), .val (.int (own_len p4)), .val (.ref b90), .unset, .unset, .unset, .unset] [(.ref b90)])) _
    refine XS.iconst X98.here hx rfl (hb hby at_42) ?_
    show Steps p.tables e below (T98.setTop (mkF m 43 #[.val (.int p0), .val (.int p1), .val (.int p2), .val (.int p3), .val (.int p4), .val (.int p5), .val (.ref b77), .val (.int (own_len p0)), .val (.int (own_len p2)), .val (.int (own_len p4)), .val (.ref b90), .unset, .unset, .unset, .unset] [(.int (1 : Int32)), (.ref b90)])) _
    refine XS.iload X98.here hx rfl (hb hby at_43) rfl ?_
    exact k)
  obtain ⟨cl103, Ar103, qq103, S103, M103, H103, G103⟩ := V98
  have hin103 : ¬ ((1 : Int32) < 0 ∨ cl103.slots.size ≤ ((1 : Int32)).toNatClampNeg) := inb_of S103 ⟨by decide, by decide⟩
  obtain ⟨T103, h103, X103, e103, W103, st103⟩ := stI X98 hx hZ e98 Ar103 (j := (1 : Int32)) hin103 (g := (mkF m 45 #[.val (.int p0), .val (.int p1), .val (.int p2), .val (.int p3), .val (.int p4), .val (.int p5), .val (.ref b77), .val (.int (own_len p0)), .val (.int (own_len p2)), .val (.int (own_len p4)), .val (.ref b90), .unset, .unset, .unset, .unset] [(.int (own_len p0)), (.int (1 : Int32)), (.ref b90)])) rfl rfl (hb hby at_45)
  have V103 : Arv Z h103 b90 c90 .int (6 : Int32) [(.int (own_off p1 (own_len p0))), (.int (own_len p0)), (.int (0 : Int32)), (.int (0 : Int32)), (.int (0 : Int32)), (.int (0 : Int32))] (.int (0 : Int32)) := Arv.set Ar103 qq103 S103 M103 H103 G103 rfl W103 1 rfl (Nat.le_of_ble_eq_true rfl)
  have N103 := Fr.snoc X103 N98 g_b90
  have Z104 : n0 ≤ h103.size := Nat.le_trans Z99 (Nat.le_of_eq W103.size.symm)
  have F105 : Arv Z h103 b77 c77 .byte (4 : Int32) [(.int (0 : Int32)), (.int (0 : Int32)), (.int (0 : Int32)), (.int (0 : Int32))] (.int (0 : Int32)) := (F100).other W103 ne91
  have k106 : ∀ t, Steps p.tables e below (T103.setTop (mkF m 46 #[.val (.int p0), .val (.int p1), .val (.int p2), .val (.int p3), .val (.int p4), .val (.int p5), .val (.ref b77), .val (.int (own_len p0)), .val (.int (own_len p2)), .val (.int (own_len p4)), .val (.ref b90), .unset, .unset, .unset, .unset] [])) t → Steps p.tables e below (s₁.setTop (entryFrame m #[(.int p0), (.int p1), (.int p2), (.int p3), (.int p4), (.int p5)] maxLocals)) t := fun t k => k102 t (st103 t k)
  have k107 : ∀ t, Steps p.tables e below (T103.setTop (mkF m 52 #[.val (.int p0), .val (.int p1), .val (.int p2), .val (.int p3), .val (.int p4), .val (.int p5), .val (.ref b77), .val (.int (own_len p0)), .val (.int (own_len p2)), .val (.int (own_len p4)), .val (.ref b90), .unset, .unset, .unset, .unset] [(.int (own_len p2)), (.int p3), (.int (2 : Int32)), (.ref b90)])) t → Steps p.tables e below (s₁.setTop (entryFrame m #[(.int p0), (.int p1), (.int p2), (.int p3), (.int p4), (.int p5)] maxLocals)) t := fun t k => k106 t (by
    show Steps p.tables e below (T103.setTop (mkF m 46 #[.val (.int p0), .val (.int p1), .val (.int p2), .val (.int p3), .val (.int p4), .val (.int p5), .val (.ref b77), .val (.int (own_len p0)), .val (.int (own_len p2)), .val (.int (own_len p4)), .val (.ref b90), .unset, .unset, .unset, .unset] [])) _
    refine XS.aload X103.here hx rfl (hb hby at_46) rfl rfl ?_
    show Steps p.tables e below (T103.setTop (mkF m 48 #[.val (.int p0), .val (.int p1), .val (.int p2), .val (.int p3), .val (.int p4), .val (.int p5), .val (.ref b77), .val (.int (own_len p0)), .val (.int (own_len p2)), .val (.int (own_len p4)), .val (.ref b90), .unset, .unset, .unset, .unset] [(.ref b90)])) _
    refine XS.iconst X103.here hx rfl (hb hby at_48) ?_
    show Steps p.tables e below (T103.setTop (mkF m 49 #[.val (.int p0), .val (.int p1), .val (.int p2), .val (.int p3), .val (.int p4), .val (.int p5), .val (.ref b77), .val (.int (own_len p0)), .val (.int (own_len p2)), .val (.int (own_len p4)), .val (.ref b90), .unset, .unset, .unset, .unset] [(.int (2 : Int32)), (.ref b90)])) _
    refine XS.iloadN X103.here hx rfl (hb hby at_49) rfl ?_
    show Steps p.tables e below (T103.setTop (mkF m 50 #[.val (.int p0), .val (.int p1), .val (.int p2), .val (.int p3), .val (.int p4), .val (.int p5), .val (.ref b77), .val (.int (own_len p0)), .val (.int (own_len p2)), .val (.int (own_len p4)), .val (.ref b90), .unset, .unset, .unset, .unset] [(.int p3), (.int (2 : Int32)), (.ref b90)])) _
    refine XS.iload X103.here hx rfl (hb hby at_50) rfl ?_
    exact k)
  obtain ⟨_, _, ⟨T108, L108, kc108, ks108⟩, -, X108, ⟨Lc108, hQ108, l108, y108, z108⟩, st108⟩ := Jvm.LawKit.callS X103 hx (y := (⟨"com/example/wakelog/wakelog/log/RawRowIsNullPinLaw", "off", "(II)I"⟩ : MethodName)) hown (mvT hZ (hw _ (List.mem_of_getElem? (i := 6) rfl))) (mvT hZ (hw _ (List.mem_of_getElem? (i := 7) rfl))) (mvT hZ (hw _ (List.mem_of_getElem? (i := 3) rfl))) (mvT hZ (hw _ (List.mem_of_getElem? (i := 8) rfl))) (by decide) (backOf (W := 2) (rm2 l Z a0 hw [] p3 (own_len p2) h103 n0 Z104 (own_nz p2)) hZ (hw _ (List.mem_of_getElem? (i := 8) rfl)) (hw _ (List.mem_of_getElem? (i := 3) rfl)) (by decide) (by decide)) (g := (mkF m 52 #[.val (.int p0), .val (.int p1), .val (.int p2), .val (.int p3), .val (.int p4), .val (.int p5), .val (.ref b77), .val (.int (own_len p0)), .val (.int (own_len p2)), .val (.int (own_len p4)), .val (.ref b90), .unset, .unset, .unset, .unset] [(.int (own_len p2)), (.int p3), (.int (2 : Int32)), (.ref b90)])) rfl (by rw [hml]; rfl) (argsL := [(.int p3), (.int (own_len p2))]) (rest := [(.int (2 : Int32)), (.ref b90)]) (lenOf pd_1 rfl) rfl (by show 2 * 0 + _ ≤ _; exact Nat.le_of_eq rfl) (hb hby at_52) (fun _ _ => ⟨rfl, e103, (by decide : 2 + 0 ≤ _), (by decide : 10 + 0 ≤ _)⟩)
  dsimp only [Pt.U, Pt.locs, Pt.cells, Pt.slots] at X108 l108 y108 z108 st108 hQ108
  subst l108 y108 z108
  obtain ⟨rfl, Nq108, eq108⟩ := hQ108
  have N108 := Fr.app N103 Nq108
  have k109 : ∀ t, Steps p.tables e below (T108.setTop (mkF m 55 #[.val (.int p0), .val (.int p1), .val (.int p2), .val (.int p3), .val (.int p4), .val (.int p5), .val (.ref b77), .val (.int (own_len p0)), .val (.int (own_len p2)), .val (.int (own_len p4)), .val (.ref b90), .unset, .unset, .unset, .unset] [(.int (own_off p3 (own_len p2))), (.int (2 : Int32)), (.ref b90)])) t → Steps p.tables e below (s₁.setTop (entryFrame m #[(.int p0), (.int p1), (.int p2), (.int p3), (.int p4), (.int p5)] maxLocals)) t := fun t k => k107 t (st108 t k)
  obtain ⟨cl110, Ar110, qq110, S110, M110, H110, G110⟩ := V103
  have hin110 : ¬ ((2 : Int32) < 0 ∨ cl110.slots.size ≤ ((2 : Int32)).toNatClampNeg) := inb_of S110 ⟨by decide, by decide⟩
  obtain ⟨T110, h110, X110, e110, W110, st110⟩ := stI X108 hx hZ eq108 Ar110 (j := (2 : Int32)) hin110 (g := (mkF m 55 #[.val (.int p0), .val (.int p1), .val (.int p2), .val (.int p3), .val (.int p4), .val (.int p5), .val (.ref b77), .val (.int (own_len p0)), .val (.int (own_len p2)), .val (.int (own_len p4)), .val (.ref b90), .unset, .unset, .unset, .unset] [(.int (own_off p3 (own_len p2))), (.int (2 : Int32)), (.ref b90)])) rfl rfl (hb hby at_55)
  have V110 : Arv Z h110 b90 c90 .int (6 : Int32) [(.int (own_off p1 (own_len p0))), (.int (own_len p0)), (.int (own_off p3 (own_len p2))), (.int (0 : Int32)), (.int (0 : Int32)), (.int (0 : Int32))] (.int (0 : Int32)) := Arv.set Ar110 qq110 S110 M110 H110 G110 rfl W110 2 rfl (Nat.le_of_ble_eq_true rfl)
  have N110 := Fr.snoc X110 N108 g_b90
  have Z111 : n0 ≤ h110.size := Nat.le_trans Z104 (Nat.le_of_eq W110.size.symm)
  have F112 : Arv Z h110 b77 c77 .byte (4 : Int32) [(.int (0 : Int32)), (.int (0 : Int32)), (.int (0 : Int32)), (.int (0 : Int32))] (.int (0 : Int32)) := (F105).other W110 ne91
  have k113 : ∀ t, Steps p.tables e below (T110.setTop (mkF m 56 #[.val (.int p0), .val (.int p1), .val (.int p2), .val (.int p3), .val (.int p4), .val (.int p5), .val (.ref b77), .val (.int (own_len p0)), .val (.int (own_len p2)), .val (.int (own_len p4)), .val (.ref b90), .unset, .unset, .unset, .unset] [])) t → Steps p.tables e below (s₁.setTop (entryFrame m #[(.int p0), (.int p1), (.int p2), (.int p3), (.int p4), (.int p5)] maxLocals)) t := fun t k => k109 t (st110 t k)
  have k114 : ∀ t, Steps p.tables e below (T110.setTop (mkF m 61 #[.val (.int p0), .val (.int p1), .val (.int p2), .val (.int p3), .val (.int p4), .val (.int p5), .val (.ref b77), .val (.int (own_len p0)), .val (.int (own_len p2)), .val (.int (own_len p4)), .val (.ref b90), .unset, .unset, .unset, .unset] [(.int (own_len p2)), (.int (3 : Int32)), (.ref b90)])) t → Steps p.tables e below (s₁.setTop (entryFrame m #[(.int p0), (.int p1), (.int p2), (.int p3), (.int p4), (.int p5)] maxLocals)) t := fun t k => k113 t (by
    show Steps p.tables e below (T110.setTop (mkF m 56 #[.val (.int p0), .val (.int p1), .val (.int p2), .val (.int p3), .val (.int p4), .val (.int p5), .val (.ref b77), .val (.int (own_len p0)), .val (.int (own_len p2)), .val (.int (own_len p4)), .val (.ref b90), .unset, .unset, .unset, .unset] [])) _
    refine XS.aload X110.here hx rfl (hb hby at_56) rfl rfl ?_
    show Steps p.tables e below (T110.setTop (mkF m 58 #[.val (.int p0), .val (.int p1), .val (.int p2), .val (.int p3), .val (.int p4), .val (.int p5), .val (.ref b77), .val (.int (own_len p0)), .val (.int (own_len p2)), .val (.int (own_len p4)), .val (.ref b90), .unset, .unset, .unset, .unset] [(.ref b90)])) _
    refine XS.iconst X110.here hx rfl (hb hby at_58) ?_
    show Steps p.tables e below (T110.setTop (mkF m 59 #[.val (.int p0), .val (.int p1), .val (.int p2), .val (.int p3), .val (.int p4), .val (.int p5), .val (.ref b77), .val (.int (own_len p0)), .val (.int (own_len p2)), .val (.int (own_len p4)), .val (.ref b90), .unset, .unset, .unset, .unset] [(.int (3 : Int32)), (.ref b90)])) _
    refine XS.iload X110.here hx rfl (hb hby at_59) rfl ?_
    exact k)
  obtain ⟨cl115, Ar115, qq115, S115, M115, H115, G115⟩ := V110
  have hin115 : ¬ ((3 : Int32) < 0 ∨ cl115.slots.size ≤ ((3 : Int32)).toNatClampNeg) := inb_of S115 ⟨by decide, by decide⟩
  obtain ⟨T115, h115, X115, e115, W115, st115⟩ := stI X110 hx hZ e110 Ar115 (j := (3 : Int32)) hin115 (g := (mkF m 61 #[.val (.int p0), .val (.int p1), .val (.int p2), .val (.int p3), .val (.int p4), .val (.int p5), .val (.ref b77), .val (.int (own_len p0)), .val (.int (own_len p2)), .val (.int (own_len p4)), .val (.ref b90), .unset, .unset, .unset, .unset] [(.int (own_len p2)), (.int (3 : Int32)), (.ref b90)])) rfl rfl (hb hby at_61)
  have V115 : Arv Z h115 b90 c90 .int (6 : Int32) [(.int (own_off p1 (own_len p0))), (.int (own_len p0)), (.int (own_off p3 (own_len p2))), (.int (own_len p2)), (.int (0 : Int32)), (.int (0 : Int32))] (.int (0 : Int32)) := Arv.set Ar115 qq115 S115 M115 H115 G115 rfl W115 3 rfl (Nat.le_of_ble_eq_true rfl)
  have N115 := Fr.snoc X115 N110 g_b90
  have Z116 : n0 ≤ h115.size := Nat.le_trans Z111 (Nat.le_of_eq W115.size.symm)
  have F117 : Arv Z h115 b77 c77 .byte (4 : Int32) [(.int (0 : Int32)), (.int (0 : Int32)), (.int (0 : Int32)), (.int (0 : Int32))] (.int (0 : Int32)) := (F112).other W115 ne91
  have k118 : ∀ t, Steps p.tables e below (T115.setTop (mkF m 62 #[.val (.int p0), .val (.int p1), .val (.int p2), .val (.int p3), .val (.int p4), .val (.int p5), .val (.ref b77), .val (.int (own_len p0)), .val (.int (own_len p2)), .val (.int (own_len p4)), .val (.ref b90), .unset, .unset, .unset, .unset] [])) t → Steps p.tables e below (s₁.setTop (entryFrame m #[(.int p0), (.int p1), (.int p2), (.int p3), (.int p4), (.int p5)] maxLocals)) t := fun t k => k114 t (st115 t k)
  have k119 : ∀ t, Steps p.tables e below (T115.setTop (mkF m 69 #[.val (.int p0), .val (.int p1), .val (.int p2), .val (.int p3), .val (.int p4), .val (.int p5), .val (.ref b77), .val (.int (own_len p0)), .val (.int (own_len p2)), .val (.int (own_len p4)), .val (.ref b90), .unset, .unset, .unset, .unset] [(.int (own_len p4)), (.int p5), (.int (4 : Int32)), (.ref b90)])) t → Steps p.tables e below (s₁.setTop (entryFrame m #[(.int p0), (.int p1), (.int p2), (.int p3), (.int p4), (.int p5)] maxLocals)) t := fun t k => k118 t (by
    show Steps p.tables e below (T115.setTop (mkF m 62 #[.val (.int p0), .val (.int p1), .val (.int p2), .val (.int p3), .val (.int p4), .val (.int p5), .val (.ref b77), .val (.int (own_len p0)), .val (.int (own_len p2)), .val (.int (own_len p4)), .val (.ref b90), .unset, .unset, .unset, .unset] [])) _
    refine XS.aload X115.here hx rfl (hb hby at_62) rfl rfl ?_
    show Steps p.tables e below (T115.setTop (mkF m 64 #[.val (.int p0), .val (.int p1), .val (.int p2), .val (.int p3), .val (.int p4), .val (.int p5), .val (.ref b77), .val (.int (own_len p0)), .val (.int (own_len p2)), .val (.int (own_len p4)), .val (.ref b90), .unset, .unset, .unset, .unset] [(.ref b90)])) _
    refine XS.iconst X115.here hx rfl (hb hby at_64) ?_
    show Steps p.tables e below (T115.setTop (mkF m 65 #[.val (.int p0), .val (.int p1), .val (.int p2), .val (.int p3), .val (.int p4), .val (.int p5), .val (.ref b77), .val (.int (own_len p0)), .val (.int (own_len p2)), .val (.int (own_len p4)), .val (.ref b90), .unset, .unset, .unset, .unset] [(.int (4 : Int32)), (.ref b90)])) _
    refine XS.iload X115.here hx rfl (hb hby at_65) rfl ?_
    show Steps p.tables e below (T115.setTop (mkF m 67 #[.val (.int p0), .val (.int p1), .val (.int p2), .val (.int p3), .val (.int p4), .val (.int p5), .val (.ref b77), .val (.int (own_len p0)), .val (.int (own_len p2)), .val (.int (own_len p4)), .val (.ref b90), .unset, .unset, .unset, .unset] [(.int p5), (.int (4 : Int32)), (.ref b90)])) _
    refine XS.iload X115.here hx rfl (hb hby at_67) rfl ?_
    exact k)
  obtain ⟨_, _, ⟨T120, L120, kc120, ks120⟩, -, X120, ⟨Lc120, hQ120, l120, y120, z120⟩, st120⟩ := Jvm.LawKit.callS X115 hx (y := (⟨"com/example/wakelog/wakelog/log/RawRowIsNullPinLaw", "off", "(II)I"⟩ : MethodName)) hown (mvT hZ (hw _ (List.mem_of_getElem? (i := 6) rfl))) (mvT hZ (hw _ (List.mem_of_getElem? (i := 7) rfl))) (mvT hZ (hw _ (List.mem_of_getElem? (i := 3) rfl))) (mvT hZ (hw _ (List.mem_of_getElem? (i := 8) rfl))) (by decide) (backOf (W := 2) (rm2 l Z a0 hw [] p5 (own_len p4) h115 n0 Z116 (own_nz p4)) hZ (hw _ (List.mem_of_getElem? (i := 8) rfl)) (hw _ (List.mem_of_getElem? (i := 3) rfl)) (by decide) (by decide)) (g := (mkF m 69 #[.val (.int p0), .val (.int p1), .val (.int p2), .val (.int p3), .val (.int p4), .val (.int p5), .val (.ref b77), .val (.int (own_len p0)), .val (.int (own_len p2)), .val (.int (own_len p4)), .val (.ref b90), .unset, .unset, .unset, .unset] [(.int (own_len p4)), (.int p5), (.int (4 : Int32)), (.ref b90)])) rfl (by rw [hml]; rfl) (argsL := [(.int p5), (.int (own_len p4))]) (rest := [(.int (4 : Int32)), (.ref b90)]) (lenOf pd_1 rfl) rfl (by show 2 * 0 + _ ≤ _; exact Nat.le_of_eq rfl) (hb hby at_69) (fun _ _ => ⟨rfl, e115, (by decide : 2 + 0 ≤ _), (by decide : 10 + 0 ≤ _)⟩)
  dsimp only [Pt.U, Pt.locs, Pt.cells, Pt.slots] at X120 l120 y120 z120 st120 hQ120
  subst l120 y120 z120
  obtain ⟨rfl, Nq120, eq120⟩ := hQ120
  have N120 := Fr.app N115 Nq120
  have k121 : ∀ t, Steps p.tables e below (T120.setTop (mkF m 72 #[.val (.int p0), .val (.int p1), .val (.int p2), .val (.int p3), .val (.int p4), .val (.int p5), .val (.ref b77), .val (.int (own_len p0)), .val (.int (own_len p2)), .val (.int (own_len p4)), .val (.ref b90), .unset, .unset, .unset, .unset] [(.int (own_off p5 (own_len p4))), (.int (4 : Int32)), (.ref b90)])) t → Steps p.tables e below (s₁.setTop (entryFrame m #[(.int p0), (.int p1), (.int p2), (.int p3), (.int p4), (.int p5)] maxLocals)) t := fun t k => k119 t (st120 t k)
  obtain ⟨cl122, Ar122, qq122, S122, M122, H122, G122⟩ := V115
  have hin122 : ¬ ((4 : Int32) < 0 ∨ cl122.slots.size ≤ ((4 : Int32)).toNatClampNeg) := inb_of S122 ⟨by decide, by decide⟩
  obtain ⟨T122, h122, X122, e122, W122, st122⟩ := stI X120 hx hZ eq120 Ar122 (j := (4 : Int32)) hin122 (g := (mkF m 72 #[.val (.int p0), .val (.int p1), .val (.int p2), .val (.int p3), .val (.int p4), .val (.int p5), .val (.ref b77), .val (.int (own_len p0)), .val (.int (own_len p2)), .val (.int (own_len p4)), .val (.ref b90), .unset, .unset, .unset, .unset] [(.int (own_off p5 (own_len p4))), (.int (4 : Int32)), (.ref b90)])) rfl rfl (hb hby at_72)
  have V122 : Arv Z h122 b90 c90 .int (6 : Int32) [(.int (own_off p1 (own_len p0))), (.int (own_len p0)), (.int (own_off p3 (own_len p2))), (.int (own_len p2)), (.int (own_off p5 (own_len p4))), (.int (0 : Int32))] (.int (0 : Int32)) := Arv.set Ar122 qq122 S122 M122 H122 G122 rfl W122 4 rfl (Nat.le_of_ble_eq_true rfl)
  have N122 := Fr.snoc X122 N120 g_b90
  have Z123 : n0 ≤ h122.size := Nat.le_trans Z116 (Nat.le_of_eq W122.size.symm)
  have F124 : Arv Z h122 b77 c77 .byte (4 : Int32) [(.int (0 : Int32)), (.int (0 : Int32)), (.int (0 : Int32)), (.int (0 : Int32))] (.int (0 : Int32)) := (F117).other W122 ne91
  have k125 : ∀ t, Steps p.tables e below (T122.setTop (mkF m 73 #[.val (.int p0), .val (.int p1), .val (.int p2), .val (.int p3), .val (.int p4), .val (.int p5), .val (.ref b77), .val (.int (own_len p0)), .val (.int (own_len p2)), .val (.int (own_len p4)), .val (.ref b90), .unset, .unset, .unset, .unset] [])) t → Steps p.tables e below (s₁.setTop (entryFrame m #[(.int p0), (.int p1), (.int p2), (.int p3), (.int p4), (.int p5)] maxLocals)) t := fun t k => k121 t (st122 t k)
  have k126 : ∀ t, Steps p.tables e below (T122.setTop (mkF m 78 #[.val (.int p0), .val (.int p1), .val (.int p2), .val (.int p3), .val (.int p4), .val (.int p5), .val (.ref b77), .val (.int (own_len p0)), .val (.int (own_len p2)), .val (.int (own_len p4)), .val (.ref b90), .unset, .unset, .unset, .unset] [(.int (own_len p4)), (.int (5 : Int32)), (.ref b90)])) t → Steps p.tables e below (s₁.setTop (entryFrame m #[(.int p0), (.int p1), (.int p2), (.int p3), (.int p4), (.int p5)] maxLocals)) t := fun t k => k125 t (by
    show Steps p.tables e below (T122.setTop (mkF m 73 #[.val (.int p0), .val (.int p1), .val (.int p2), .val (.int p3), .val (.int p4), .val (.int p5), .val (.ref b77), .val (.int (own_len p0)), .val (.int (own_len p2)), .val (.int (own_len p4)), .val (.ref b90), .unset, .unset, .unset, .unset] [])) _
    refine XS.aload X122.here hx rfl (hb hby at_73) rfl rfl ?_
    show Steps p.tables e below (T122.setTop (mkF m 75 #[.val (.int p0), .val (.int p1), .val (.int p2), .val (.int p3), .val (.int p4), .val (.int p5), .val (.ref b77), .val (.int (own_len p0)), .val (.int (own_len p2)), .val (.int (own_len p4)), .val (.ref b90), .unset, .unset, .unset, .unset] [(.ref b90)])) _
    refine XS.iconst X122.here hx rfl (hb hby at_75) ?_
    show Steps p.tables e below (T122.setTop (mkF m 76 #[.val (.int p0), .val (.int p1), .val (.int p2), .val (.int p3), .val (.int p4), .val (.int p5), .val (.ref b77), .val (.int (own_len p0)), .val (.int (own_len p2)), .val (.int (own_len p4)), .val (.ref b90), .unset, .unset, .unset, .unset] [(.int (5 : Int32)), (.ref b90)])) _
    refine XS.iload X122.here hx rfl (hb hby at_76) rfl ?_
    exact k)
  obtain ⟨cl127, Ar127, qq127, S127, M127, H127, G127⟩ := V122
  have hin127 : ¬ ((5 : Int32) < 0 ∨ cl127.slots.size ≤ ((5 : Int32)).toNatClampNeg) := inb_of S127 ⟨by decide, by decide⟩
  obtain ⟨T127, h127, X127, e127, W127, st127⟩ := stI X122 hx hZ e122 Ar127 (j := (5 : Int32)) hin127 (g := (mkF m 78 #[.val (.int p0), .val (.int p1), .val (.int p2), .val (.int p3), .val (.int p4), .val (.int p5), .val (.ref b77), .val (.int (own_len p0)), .val (.int (own_len p2)), .val (.int (own_len p4)), .val (.ref b90), .unset, .unset, .unset, .unset] [(.int (own_len p4)), (.int (5 : Int32)), (.ref b90)])) rfl rfl (hb hby at_78)
  have V127 : Arv Z h127 b90 c90 .int (6 : Int32) [(.int (own_off p1 (own_len p0))), (.int (own_len p0)), (.int (own_off p3 (own_len p2))), (.int (own_len p2)), (.int (own_off p5 (own_len p4))), (.int (own_len p4))] (.int (0 : Int32)) := Arv.set Ar127 qq127 S127 M127 H127 G127 rfl W127 5 rfl (Nat.le_of_ble_eq_true rfl)
  have N127 := Fr.snoc X127 N122 g_b90
  have Z128 : n0 ≤ h127.size := Nat.le_trans Z123 (Nat.le_of_eq W127.size.symm)
  have F129 : Arv Z h127 b77 c77 .byte (4 : Int32) [(.int (0 : Int32)), (.int (0 : Int32)), (.int (0 : Int32)), (.int (0 : Int32))] (.int (0 : Int32)) := (F124).other W127 ne91
  have k130 : ∀ t, Steps p.tables e below (T127.setTop (mkF m 79 #[.val (.int p0), .val (.int p1), .val (.int p2), .val (.int p3), .val (.int p4), .val (.int p5), .val (.ref b77), .val (.int (own_len p0)), .val (.int (own_len p2)), .val (.int (own_len p4)), .val (.ref b90), .unset, .unset, .unset, .unset] [])) t → Steps p.tables e below (s₁.setTop (entryFrame m #[(.int p0), (.int p1), (.int p2), (.int p3), (.int p4), (.int p5)] maxLocals)) t := fun t k => k126 t (st127 t k)
  obtain ⟨T131, h131, X131, e131, E131, A131, D131, -, st131⟩ := newO X127 hx hZ hown (hw _ (List.mem_of_getElem? (i := 10) rfl)) (hw _ (List.mem_of_getElem? (i := 11) rfl)) (hw _ (List.mem_of_getElem? (i := 12) rfl)) e127 (g := (mkF m 79 #[.val (.int p0), .val (.int p1), .val (.int p2), .val (.int p3), .val (.int p4), .val (.int p5), .val (.ref b77), .val (.int (own_len p0)), .val (.int (own_len p2)), .val (.int (own_len p4)), .val (.ref b90), .unset, .unset, .unset, .unset] [])) rfl (hb hby at_79) (by decide) (by decide)
  obtain ⟨b131, g131⟩ : ∃ z, z = h127.size := ⟨_, rfl⟩
  rw [← g131] at A131 D131 st131
  have ne132 : b77 ≠ b131 := Nat.ne_of_lt (Nat.lt_of_lt_of_le (F129).lt (Nat.le_of_eq g131.symm))
  have ne133 : b90 ≠ b131 := Nat.ne_of_lt (Nat.lt_of_lt_of_le (V127).lt (Nat.le_of_eq g131.symm))
  have g_b131 : n0 ≤ b131 := Nat.le_trans Z128 (Nat.le_of_eq g131.symm)
  have Z134 : n0 ≤ h131.size := Nat.le_trans Z128 E131.1
  have F135 : Arv Z h131 b77 c77 .byte (4 : Int32) [(.int (0 : Int32)), (.int (0 : Int32)), (.int (0 : Int32)), (.int (0 : Int32))] (.int (0 : Int32)) := (F129).ext E131
  have F136 : Arv Z h131 b90 c90 .int (6 : Int32) [(.int (own_off p1 (own_len p0))), (.int (own_len p0)), (.int (own_off p3 (own_len p2))), (.int (own_len p2)), (.int (own_off p5 (own_len p4))), (.int (own_len p4))] (.int (0 : Int32)) := (V127).ext E131
  have F137 : Fld Z h131 b131 "com/example/wakelog/wakelog/log/RawRow" "bytes" "[B" .null := D131 (Or.inr (hw _ (List.mem_of_getElem? (i := 20) rfl))) (ty := (.array .byte)) (by decide)
  have F138 : Fld Z h131 b131 "com/example/wakelog/wakelog/log/RawRow" "spans" "[I" .null := D131 (Or.inr (hw _ (List.mem_of_getElem? (i := 22) rfl))) (ty := (.array .int)) (by decide)
  have k139 : ∀ t, Steps p.tables e below (T131.setTop (mkF m 82 #[.val (.int p0), .val (.int p1), .val (.int p2), .val (.int p3), .val (.int p4), .val (.int p5), .val (.ref b77), .val (.int (own_len p0)), .val (.int (own_len p2)), .val (.int (own_len p4)), .val (.ref b90), .unset, .unset, .unset, .unset] [(.ref b131)])) t → Steps p.tables e below (s₁.setTop (entryFrame m #[(.int p0), (.int p1), (.int p2), (.int p3), (.int p4), (.int p5)] maxLocals)) t := fun t k => k130 t (st131 t k)
  have k140 : ∀ t, Steps p.tables e below (T131.setTop (mkF m 87 #[.val (.int p0), .val (.int p1), .val (.int p2), .val (.int p3), .val (.int p4), .val (.int p5), .val (.ref b77), .val (.int (own_len p0)), .val (.int (own_len p2)), .val (.int (own_len p4)), .val (.ref b90), .unset, .unset, .unset, .unset] [(.ref b90), (.ref b77), (.ref b131), (.ref b131)])) t → Steps p.tables e below (s₁.setTop (entryFrame m #[(.int p0), (.int p1), (.int p2), (.int p3), (.int p4), (.int p5)] maxLocals)) t := fun t k => k139 t (by
    show Steps p.tables e below (T131.setTop (mkF m 82 #[.val (.int p0), .val (.int p1), .val (.int p2), .val (.int p3), .val (.int p4), .val (.int p5), .val (.ref b77), .val (.int (own_len p0)), .val (.int (own_len p2)), .val (.int (own_len p4)), .val (.ref b90), .unset, .unset, .unset, .unset] [(.ref b131)])) _
    refine XS.dup X131.here hx rfl (hb hby at_82) rfl rfl ?_
    show Steps p.tables e below (T131.setTop (mkF m 83 #[.val (.int p0), .val (.int p1), .val (.int p2), .val (.int p3), .val (.int p4), .val (.int p5), .val (.ref b77), .val (.int (own_len p0)), .val (.int (own_len p2)), .val (.int (own_len p4)), .val (.ref b90), .unset, .unset, .unset, .unset] [(.ref b131), (.ref b131)])) _
    refine XS.aload X131.here hx rfl (hb hby at_83) rfl rfl ?_
    show Steps p.tables e below (T131.setTop (mkF m 85 #[.val (.int p0), .val (.int p1), .val (.int p2), .val (.int p3), .val (.int p4), .val (.int p5), .val (.ref b77), .val (.int (own_len p0)), .val (.int (own_len p2)), .val (.int (own_len p4)), .val (.ref b90), .unset, .unset, .unset, .unset] [(.ref b77), (.ref b131), (.ref b131)])) _
    refine XS.aload X131.here hx rfl (hb hby at_85) rfl rfl ?_
    exact k)
  obtain ⟨_, _, ⟨T141, L141, kc141, ks141⟩, -, X141, ⟨Lc141, hQ141, l141, y141, z141⟩, st141⟩ := X131.specialBack hx (y := (⟨"com/example/wakelog/wakelog/log/RawRow", "<init>", "([B[I)V"⟩ : MethodName)) rfl hown (mvT hZ (hw _ (List.mem_of_getElem? (i := 13) rfl))) (mvT hZ (hw _ (List.mem_of_getElem? (i := 14) rfl))) (mvT hZ (hw _ (List.mem_of_getElem? (i := 15) rfl))) (by decide) (backOf (W := 1) (rm3 l Z a0 hw [] b131 b77 b90 c77 _ _ c90 (own_off p1 (own_len p0)) (own_len p0) (own_off p3 (own_len p2)) (own_len p2) (own_off p5 (own_len p4)) (own_len p4) h131 n0 Z134 F137 F138 A131 g_b131 F135 F136 ne132 ne133 (own_span p0 p1) (own_span p2 p3) (own_span p4 p5)) hZ (hw _ (List.mem_of_getElem? (i := 15) rfl)) (hw _ (List.mem_of_getElem? (i := 12) rfl)) (by decide) (by decide)) (g := (mkF m 87 #[.val (.int p0), .val (.int p1), .val (.int p2), .val (.int p3), .val (.int p4), .val (.int p5), .val (.ref b77), .val (.int (own_len p0)), .val (.int (own_len p2)), .val (.int (own_len p4)), .val (.ref b90), .unset, .unset, .unset, .unset] [(.ref b90), (.ref b77), (.ref b131), (.ref b131)])) rfl (by rw [hml]; rfl) (Steps.refl _) (a := b131) (argsL := [(.ref b77), (.ref b90)]) (rest := [(.ref b131)]) (lenOf pd_2 rfl) rfl (by show 2 * 0 + _ ≤ _; exact Nat.le_of_eq rfl) (hb hby at_87) (fun _ _ => ⟨rfl, e131, (by decide : 3 + 0 ≤ _), (by decide : 12 + 0 ≤ _)⟩)
  dsimp only [Pt.U, Pt.locs, Pt.cells, Pt.slots] at X141 l141 y141 z141 st141 hQ141
  subst l141 y141 z141
  obtain ⟨rfl, Nq141, K141, Ax141, Fx141⟩ := hQ141
  have N141 := Fr.app N127 Nq141
  have Z142 : n0 ≤ T141.heap.size := Nat.le_trans Z134 K141.1
  have F143 : Arv Z T141.heap b77 c77 .byte (4 : Int32) [(.int (0 : Int32)), (.int (0 : Int32)), (.int (0 : Int32)), (.int (0 : Int32))] (.int (0 : Int32)) := (F135).keep K141 (ninS ne132 nin0)
  have F144 : Arv Z T141.heap b90 c90 .int (6 : Int32) [(.int (own_off p1 (own_len p0))), (.int (own_len p0)), (.int (own_off p3 (own_len p2))), (.int (own_len p2)), (.int (own_off p5 (own_len p4))), (.int (own_len p4))] (.int (0 : Int32)) := (F136).keep K141 (ninS ne133 nin0)
  have F145 : Exa Z T141.heap b131 "com/example/wakelog/wakelog/log/RawRow" := (A131).keep K141
  have k146 : ∀ t, Steps p.tables e below (T141.setTop (mkF m 90 #[.val (.int p0), .val (.int p1), .val (.int p2), .val (.int p3), .val (.int p4), .val (.int p5), .val (.ref b77), .val (.int (own_len p0)), .val (.int (own_len p2)), .val (.int (own_len p4)), .val (.ref b90), .unset, .unset, .unset, .unset] [(.ref b131)])) t → Steps p.tables e below (s₁.setTop (entryFrame m #[(.int p0), (.int p1), (.int p2), (.int p3), (.int p4), (.int p5)] maxLocals)) t := fun t k => k140 t (st141.trans k)
  have k147 : ∀ t, Steps p.tables e below (T141.setTop (mkF m 95 #[.val (.int p0), .val (.int p1), .val (.int p2), .val (.int p3), .val (.int p4), .val (.int p5), .val (.ref b77), .val (.int (own_len p0)), .val (.int (own_len p2)), .val (.int (own_len p4)), .val (.ref b90), .val (.ref b131), .unset, .unset, .unset] [(.int (0 : Int32)), (.ref b131)])) t → Steps p.tables e below (s₁.setTop (entryFrame m #[(.int p0), (.int p1), (.int p2), (.int p3), (.int p4), (.int p5)] maxLocals)) t := fun t k => k146 t (by
    show Steps p.tables e below (T141.setTop (mkF m 90 #[.val (.int p0), .val (.int p1), .val (.int p2), .val (.int p3), .val (.int p4), .val (.int p5), .val (.ref b77), .val (.int (own_len p0)), .val (.int (own_len p2)), .val (.int (own_len p4)), .val (.ref b90), .unset, .unset, .unset, .unset] [(.ref b131)])) _
    refine XS.astore X141.here hx rfl (hb hby at_90) rfl rfl (l' := #[.val (.int p0), .val (.int p1), .val (.int p2), .val (.int p3), .val (.int p4), .val (.int p5), .val (.ref b77), .val (.int (own_len p0)), .val (.int (own_len p2)), .val (.int (own_len p4)), .val (.ref b90), .val (.ref b131), .unset, .unset, .unset]) rfl ?_
    show Steps p.tables e below (T141.setTop (mkF m 92 #[.val (.int p0), .val (.int p1), .val (.int p2), .val (.int p3), .val (.int p4), .val (.int p5), .val (.ref b77), .val (.int (own_len p0)), .val (.int (own_len p2)), .val (.int (own_len p4)), .val (.ref b90), .val (.ref b131), .unset, .unset, .unset] [])) _
    refine XS.aload X141.here hx rfl (hb hby at_92) rfl rfl ?_
    show Steps p.tables e below (T141.setTop (mkF m 94 #[.val (.int p0), .val (.int p1), .val (.int p2), .val (.int p3), .val (.int p4), .val (.int p5), .val (.ref b77), .val (.int (own_len p0)), .val (.int (own_len p2)), .val (.int (own_len p4)), .val (.ref b90), .val (.ref b131), .unset, .unset, .unset] [(.ref b131)])) _
    refine XS.iconst X141.here hx rfl (hb hby at_94) ?_
    exact k)
  obtain ⟨cq148, kq148, q148a, q148b, q148c⟩ := isOf hZ rfl F145
  obtain ⟨_, _, ⟨T148, L148, kc148, ks148⟩, -, X148, ⟨Lc148, hQ148, l148, y148, z148⟩, st148⟩ := X141.virtualBack hx (y := (⟨"com/example/wakelog/wakelog/log/RawRow", "isNull", "(I)Z"⟩ : MethodName)) (z := (⟨"com/example/wakelog/wakelog/log/RawRow", "isNull", "(I)Z"⟩ : MethodName)) hown (mvT hZ (hw _ (List.mem_of_getElem? (i := 23) rfl))) (mvT hZ (hw _ (List.mem_of_getElem? (i := 24) rfl))) (notFace_of_selects (args := #[]) (mvT hZ (hw _ (List.mem_of_getElem? (i := 26) rfl)))) (mvT hZ (hw _ (List.mem_of_getElem? (i := 26) rfl))) (mvT hZ (hw _ (List.mem_of_getElem? (i := 25) rfl))) (by decide) (backOf (W := 0) (rm5 l Z a0 hw [] b131 (0 : Int32) b90 c90 _ (own_len p0) T141.heap n0 Z142 Fx141 F144 ⟨by decide, by decide⟩ rfl) hZ (hw _ (List.mem_of_getElem? (i := 27) rfl)) (hw _ (List.mem_of_getElem? (i := 12) rfl)) (by decide) (by decide)) q148a q148c (g := (mkF m 95 #[.val (.int p0), .val (.int p1), .val (.int p2), .val (.int p3), .val (.int p4), .val (.int p5), .val (.ref b77), .val (.int (own_len p0)), .val (.int (own_len p2)), .val (.int (own_len p4)), .val (.ref b90), .val (.ref b131), .unset, .unset, .unset] [(.int (0 : Int32)), (.ref b131)])) rfl (by rw [hml]; rfl) (Steps.refl _) (argsL := [(.int (0 : Int32))]) (rest := []) (lenOf pd_3 rfl) rfl (by show 2 * 0 + _ ≤ _; exact Nat.le_of_eq rfl) (hb hby at_95) (fun _ _ => ⟨rfl, rfl, (by decide : 3 + 0 ≤ _), (by decide : 12 + 0 ≤ _)⟩)
  dsimp only [Pt.U, Pt.locs, Pt.cells, Pt.slots] at X148 l148 y148 z148 st148 hQ148
  subst l148 y148 z148
  obtain ⟨rfl, Nq148, eq148⟩ := hQ148
  have N148 := Fr.app N141 Nq148
  have k149 : ∀ t, Steps p.tables e below (T148.setTop (mkF m 98 #[.val (.int p0), .val (.int p1), .val (.int p2), .val (.int p3), .val (.int p4), .val (.int p5), .val (.ref b77), .val (.int (own_len p0)), .val (.int (own_len p2)), .val (.int (own_len p4)), .val (.ref b90), .val (.ref b131), .unset, .unset, .unset] [(.int (own_neg (own_len p0)))])) t → Steps p.tables e below (s₁.setTop (entryFrame m #[(.int p0), (.int p1), (.int p2), (.int p3), (.int p4), (.int p5)] maxLocals)) t := fun t k => k147 t (st148.trans k)
  have k150 : ∀ t, Steps p.tables e below (T148.setTop (mkF m 103 #[.val (.int p0), .val (.int p1), .val (.int p2), .val (.int p3), .val (.int p4), .val (.int p5), .val (.ref b77), .val (.int (own_len p0)), .val (.int (own_len p2)), .val (.int (own_len p4)), .val (.ref b90), .val (.ref b131), .val (.int (own_neg (own_len p0))), .unset, .unset] [(.int (1 : Int32)), (.ref b131)])) t → Steps p.tables e below (s₁.setTop (entryFrame m #[(.int p0), (.int p1), (.int p2), (.int p3), (.int p4), (.int p5)] maxLocals)) t := fun t k => k149 t (by
    show Steps p.tables e below (T148.setTop (mkF m 98 #[.val (.int p0), .val (.int p1), .val (.int p2), .val (.int p3), .val (.int p4), .val (.int p5), .val (.ref b77), .val (.int (own_len p0)), .val (.int (own_len p2)), .val (.int (own_len p4)), .val (.ref b90), .val (.ref b131), .unset, .unset, .unset] [(.int (own_neg (own_len p0)))])) _
    refine XS.istore X148.here hx rfl (hb hby at_98) rfl (l' := #[.val (.int p0), .val (.int p1), .val (.int p2), .val (.int p3), .val (.int p4), .val (.int p5), .val (.ref b77), .val (.int (own_len p0)), .val (.int (own_len p2)), .val (.int (own_len p4)), .val (.ref b90), .val (.ref b131), .val (.int (own_neg (own_len p0))), .unset, .unset]) rfl ?_
    show Steps p.tables e below (T148.setTop (mkF m 100 #[.val (.int p0), .val (.int p1), .val (.int p2), .val (.int p3), .val (.int p4), .val (.int p5), .val (.ref b77), .val (.int (own_len p0)), .val (.int (own_len p2)), .val (.int (own_len p4)), .val (.ref b90), .val (.ref b131), .val (.int (own_neg (own_len p0))), .unset, .unset] [])) _
    refine XS.aload X148.here hx rfl (hb hby at_100) rfl rfl ?_
    show Steps p.tables e below (T148.setTop (mkF m 102 #[.val (.int p0), .val (.int p1), .val (.int p2), .val (.int p3), .val (.int p4), .val (.int p5), .val (.ref b77), .val (.int (own_len p0)), .val (.int (own_len p2)), .val (.int (own_len p4)), .val (.ref b90), .val (.ref b131), .val (.int (own_neg (own_len p0))), .unset, .unset] [(.ref b131)])) _
    refine XS.iconst X148.here hx rfl (hb hby at_102) ?_
    exact k)
  obtain ⟨cq151, kq151, q151a, q151b, q151c⟩ := isOf hZ eq148 F145
  obtain ⟨_, _, ⟨T151, L151, kc151, ks151⟩, -, X151, ⟨Lc151, hQ151, l151, y151, z151⟩, st151⟩ := X148.virtualBack hx (y := (⟨"com/example/wakelog/wakelog/log/RawRow", "isNull", "(I)Z"⟩ : MethodName)) (z := (⟨"com/example/wakelog/wakelog/log/RawRow", "isNull", "(I)Z"⟩ : MethodName)) hown (mvT hZ (hw _ (List.mem_of_getElem? (i := 23) rfl))) (mvT hZ (hw _ (List.mem_of_getElem? (i := 24) rfl))) (notFace_of_selects (args := #[]) (mvT hZ (hw _ (List.mem_of_getElem? (i := 26) rfl)))) (mvT hZ (hw _ (List.mem_of_getElem? (i := 26) rfl))) (mvT hZ (hw _ (List.mem_of_getElem? (i := 25) rfl))) (by decide) (backOf (W := 0) (rm5 l Z a0 hw [] b131 (1 : Int32) b90 c90 _ (own_len p2) T141.heap n0 Z142 Fx141 F144 ⟨by decide, by decide⟩ rfl) hZ (hw _ (List.mem_of_getElem? (i := 27) rfl)) (hw _ (List.mem_of_getElem? (i := 12) rfl)) (by decide) (by decide)) q151a q151c (g := (mkF m 103 #[.val (.int p0), .val (.int p1), .val (.int p2), .val (.int p3), .val (.int p4), .val (.int p5), .val (.ref b77), .val (.int (own_len p0)), .val (.int (own_len p2)), .val (.int (own_len p4)), .val (.ref b90), .val (.ref b131), .val (.int (own_neg (own_len p0))), .unset, .unset] [(.int (1 : Int32)), (.ref b131)])) rfl (by rw [hml]; rfl) (Steps.refl _) (argsL := [(.int (1 : Int32))]) (rest := []) (lenOf pd_3 rfl) rfl (by show 2 * 0 + _ ≤ _; exact Nat.le_of_eq rfl) (hb hby at_103) (fun _ _ => ⟨rfl, eq148, (by decide : 3 + 0 ≤ _), (by decide : 12 + 0 ≤ _)⟩)
  dsimp only [Pt.U, Pt.locs, Pt.cells, Pt.slots] at X151 l151 y151 z151 st151 hQ151
  subst l151 y151 z151
  obtain ⟨rfl, Nq151, eq151⟩ := hQ151
  have N151 := Fr.app N148 Nq151
  have k152 : ∀ t, Steps p.tables e below (T151.setTop (mkF m 106 #[.val (.int p0), .val (.int p1), .val (.int p2), .val (.int p3), .val (.int p4), .val (.int p5), .val (.ref b77), .val (.int (own_len p0)), .val (.int (own_len p2)), .val (.int (own_len p4)), .val (.ref b90), .val (.ref b131), .val (.int (own_neg (own_len p0))), .unset, .unset] [(.int (own_neg (own_len p2)))])) t → Steps p.tables e below (s₁.setTop (entryFrame m #[(.int p0), (.int p1), (.int p2), (.int p3), (.int p4), (.int p5)] maxLocals)) t := fun t k => k150 t (st151.trans k)
  have k153 : ∀ t, Steps p.tables e below (T151.setTop (mkF m 111 #[.val (.int p0), .val (.int p1), .val (.int p2), .val (.int p3), .val (.int p4), .val (.int p5), .val (.ref b77), .val (.int (own_len p0)), .val (.int (own_len p2)), .val (.int (own_len p4)), .val (.ref b90), .val (.ref b131), .val (.int (own_neg (own_len p0))), .val (.int (own_neg (own_len p2))), .unset] [(.int (2 : Int32)), (.ref b131)])) t → Steps p.tables e below (s₁.setTop (entryFrame m #[(.int p0), (.int p1), (.int p2), (.int p3), (.int p4), (.int p5)] maxLocals)) t := fun t k => k152 t (by
    show Steps p.tables e below (T151.setTop (mkF m 106 #[.val (.int p0), .val (.int p1), .val (.int p2), .val (.int p3), .val (.int p4), .val (.int p5), .val (.ref b77), .val (.int (own_len p0)), .val (.int (own_len p2)), .val (.int (own_len p4)), .val (.ref b90), .val (.ref b131), .val (.int (own_neg (own_len p0))), .unset, .unset] [(.int (own_neg (own_len p2)))])) _
    refine XS.istore X151.here hx rfl (hb hby at_106) rfl (l' := #[.val (.int p0), .val (.int p1), .val (.int p2), .val (.int p3), .val (.int p4), .val (.int p5), .val (.ref b77), .val (.int (own_len p0)), .val (.int (own_len p2)), .val (.int (own_len p4)), .val (.ref b90), .val (.ref b131), .val (.int (own_neg (own_len p0))), .val (.int (own_neg (own_len p2))), .unset]) rfl ?_
    show Steps p.tables e below (T151.setTop (mkF m 108 #[.val (.int p0), .val (.int p1), .val (.int p2), .val (.int p3), .val (.int p4), .val (.int p5), .val (.ref b77), .val (.int (own_len p0)), .val (.int (own_len p2)), .val (.int (own_len p4)), .val (.ref b90), .val (.ref b131), .val (.int (own_neg (own_len p0))), .val (.int (own_neg (own_len p2))), .unset] [])) _
    refine XS.aload X151.here hx rfl (hb hby at_108) rfl rfl ?_
    show Steps p.tables e below (T151.setTop (mkF m 110 #[.val (.int p0), .val (.int p1), .val (.int p2), .val (.int p3), .val (.int p4), .val (.int p5), .val (.ref b77), .val (.int (own_len p0)), .val (.int (own_len p2)), .val (.int (own_len p4)), .val (.ref b90), .val (.ref b131), .val (.int (own_neg (own_len p0))), .val (.int (own_neg (own_len p2))), .unset] [(.ref b131)])) _
    refine XS.iconst X151.here hx rfl (hb hby at_110) ?_
    exact k)
  obtain ⟨cq154, kq154, q154a, q154b, q154c⟩ := isOf hZ eq151 F145
  obtain ⟨_, _, ⟨T154, L154, kc154, ks154⟩, -, X154, ⟨Lc154, hQ154, l154, y154, z154⟩, st154⟩ := X151.virtualBack hx (y := (⟨"com/example/wakelog/wakelog/log/RawRow", "isNull", "(I)Z"⟩ : MethodName)) (z := (⟨"com/example/wakelog/wakelog/log/RawRow", "isNull", "(I)Z"⟩ : MethodName)) hown (mvT hZ (hw _ (List.mem_of_getElem? (i := 23) rfl))) (mvT hZ (hw _ (List.mem_of_getElem? (i := 24) rfl))) (notFace_of_selects (args := #[]) (mvT hZ (hw _ (List.mem_of_getElem? (i := 26) rfl)))) (mvT hZ (hw _ (List.mem_of_getElem? (i := 26) rfl))) (mvT hZ (hw _ (List.mem_of_getElem? (i := 25) rfl))) (by decide) (backOf (W := 0) (rm5 l Z a0 hw [] b131 (2 : Int32) b90 c90 _ (own_len p4) T141.heap n0 Z142 Fx141 F144 ⟨by decide, by decide⟩ rfl) hZ (hw _ (List.mem_of_getElem? (i := 27) rfl)) (hw _ (List.mem_of_getElem? (i := 12) rfl)) (by decide) (by decide)) q154a q154c (g := (mkF m 111 #[.val (.int p0), .val (.int p1), .val (.int p2), .val (.int p3), .val (.int p4), .val (.int p5), .val (.ref b77), .val (.int (own_len p0)), .val (.int (own_len p2)), .val (.int (own_len p4)), .val (.ref b90), .val (.ref b131), .val (.int (own_neg (own_len p0))), .val (.int (own_neg (own_len p2))), .unset] [(.int (2 : Int32)), (.ref b131)])) rfl (by rw [hml]; rfl) (Steps.refl _) (argsL := [(.int (2 : Int32))]) (rest := []) (lenOf pd_3 rfl) rfl (by show 2 * 0 + _ ≤ _; exact Nat.le_of_eq rfl) (hb hby at_111) (fun _ _ => ⟨rfl, eq151, (by decide : 3 + 0 ≤ _), (by decide : 12 + 0 ≤ _)⟩)
  dsimp only [Pt.U, Pt.locs, Pt.cells, Pt.slots] at X154 l154 y154 z154 st154 hQ154
  subst l154 y154 z154
  obtain ⟨rfl, Nq154, eq154⟩ := hQ154
  have N154 := Fr.app N151 Nq154
  have k155 : ∀ t, Steps p.tables e below (T154.setTop (mkF m 114 #[.val (.int p0), .val (.int p1), .val (.int p2), .val (.int p3), .val (.int p4), .val (.int p5), .val (.ref b77), .val (.int (own_len p0)), .val (.int (own_len p2)), .val (.int (own_len p4)), .val (.ref b90), .val (.ref b131), .val (.int (own_neg (own_len p0))), .val (.int (own_neg (own_len p2))), .unset] [(.int (own_neg (own_len p4)))])) t → Steps p.tables e below (s₁.setTop (entryFrame m #[(.int p0), (.int p1), (.int p2), (.int p3), (.int p4), (.int p5)] maxLocals)) t := fun t k => k153 t (st154.trans k)
  have k156 : ∀ t, Steps p.tables e below (T154.setTop (mkF m 120 #[.val (.int p0), .val (.int p1), .val (.int p2), .val (.int p3), .val (.int p4), .val (.int p5), .val (.ref b77), .val (.int (own_len p0)), .val (.int (own_len p2)), .val (.int (own_len p4)), .val (.ref b90), .val (.ref b131), .val (.int (own_neg (own_len p0))), .val (.int (own_neg (own_len p2))), .val (.int (own_neg (own_len p4)))] [(.int (own_len p0)), (.int (own_neg (own_len p0)))])) t → Steps p.tables e below (s₁.setTop (entryFrame m #[(.int p0), (.int p1), (.int p2), (.int p3), (.int p4), (.int p5)] maxLocals)) t := fun t k => k155 t (by
    show Steps p.tables e below (T154.setTop (mkF m 114 #[.val (.int p0), .val (.int p1), .val (.int p2), .val (.int p3), .val (.int p4), .val (.int p5), .val (.ref b77), .val (.int (own_len p0)), .val (.int (own_len p2)), .val (.int (own_len p4)), .val (.ref b90), .val (.ref b131), .val (.int (own_neg (own_len p0))), .val (.int (own_neg (own_len p2))), .unset] [(.int (own_neg (own_len p4)))])) _
    refine XS.istore X154.here hx rfl (hb hby at_114) rfl (l' := #[.val (.int p0), .val (.int p1), .val (.int p2), .val (.int p3), .val (.int p4), .val (.int p5), .val (.ref b77), .val (.int (own_len p0)), .val (.int (own_len p2)), .val (.int (own_len p4)), .val (.ref b90), .val (.ref b131), .val (.int (own_neg (own_len p0))), .val (.int (own_neg (own_len p2))), .val (.int (own_neg (own_len p4)))]) rfl ?_
    show Steps p.tables e below (T154.setTop (mkF m 116 #[.val (.int p0), .val (.int p1), .val (.int p2), .val (.int p3), .val (.int p4), .val (.int p5), .val (.ref b77), .val (.int (own_len p0)), .val (.int (own_len p2)), .val (.int (own_len p4)), .val (.ref b90), .val (.ref b131), .val (.int (own_neg (own_len p0))), .val (.int (own_neg (own_len p2))), .val (.int (own_neg (own_len p4)))] [])) _
    refine XS.iload X154.here hx rfl (hb hby at_116) rfl ?_
    show Steps p.tables e below (T154.setTop (mkF m 118 #[.val (.int p0), .val (.int p1), .val (.int p2), .val (.int p3), .val (.int p4), .val (.int p5), .val (.ref b77), .val (.int (own_len p0)), .val (.int (own_len p2)), .val (.int (own_len p4)), .val (.ref b90), .val (.ref b131), .val (.int (own_neg (own_len p0))), .val (.int (own_neg (own_len p2))), .val (.int (own_neg (own_len p4)))] [(.int (own_neg (own_len p0)))])) _
    refine XS.iload X154.here hx rfl (hb hby at_118) rfl ?_
    exact k)
  have k158 : ∀ t, Steps p.tables e below (T154.setTop (mkF m 128 #[.val (.int p0), .val (.int p1), .val (.int p2), .val (.int p3), .val (.int p4), .val (.int p5), .val (.ref b77), .val (.int (own_len p0)), .val (.int (own_len p2)), .val (.int (own_len p4)), .val (.ref b90), .val (.ref b131), .val (.int (own_neg (own_len p0))), .val (.int (own_neg (own_len p2))), .val (.int (own_neg (own_len p4)))] [(.int (if (own_len p0) < (0 : Int32) then (1 : Int32) else (0 : Int32))), (.int (own_neg (own_len p0)))])) t → Steps p.tables e below (s₁.setTop (entryFrame m #[(.int p0), (.int p1), (.int p2), (.int p3), (.int p4), (.int p5)] maxLocals)) t := fun t k => k156 t (by
    by_cases hq157 : (own_len p0) < (0 : Int32)
    · simp only [if_pos hq157] at k
      show Steps p.tables e below (T154.setTop (mkF m 120 #[.val (.int p0), .val (.int p1), .val (.int p2), .val (.int p3), .val (.int p4), .val (.int p5), .val (.ref b77), .val (.int (own_len p0)), .val (.int (own_len p2)), .val (.int (own_len p4)), .val (.ref b90), .val (.ref b131), .val (.int (own_neg (own_len p0))), .val (.int (own_neg (own_len p2))), .val (.int (own_neg (own_len p4)))] [(.int (own_len p0)), (.int (own_neg (own_len p0)))])) _
      refine XS.ifNo X154.here hx rfl (hb hby at_120) rfl ((if0 _ _).trans (tlt hq157).2.1) ?_
      show Steps p.tables e below (T154.setTop (mkF m 123 #[.val (.int p0), .val (.int p1), .val (.int p2), .val (.int p3), .val (.int p4), .val (.int p5), .val (.ref b77), .val (.int (own_len p0)), .val (.int (own_len p2)), .val (.int (own_len p4)), .val (.ref b90), .val (.ref b131), .val (.int (own_neg (own_len p0))), .val (.int (own_neg (own_len p2))), .val (.int (own_neg (own_len p4)))] [(.int (own_neg (own_len p0)))])) _
      refine XS.iconst X154.here hx rfl (hb hby at_123) ?_
      show Steps p.tables e below (T154.setTop (mkF m 124 #[.val (.int p0), .val (.int p1), .val (.int p2), .val (.int p3), .val (.int p4), .val (.int p5), .val (.ref b77), .val (.int (own_len p0)), .val (.int (own_len p2)), .val (.int (own_len p4)), .val (.ref b90), .val (.ref b131), .val (.int (own_neg (own_len p0))), .val (.int (own_neg (own_len p2))), .val (.int (own_neg (own_len p4)))] [(.int (1 : Int32)), (.int (own_neg (own_len p0)))])) _
      refine XS.goto X154.here hx rfl (pc0 := 124) (pc' := 128) rfl (hb hby at_124) (by decide) (by decide) ?_
      exact k
    · simp only [if_neg hq157] at k
      show Steps p.tables e below (T154.setTop (mkF m 120 #[.val (.int p0), .val (.int p1), .val (.int p2), .val (.int p3), .val (.int p4), .val (.int p5), .val (.ref b77), .val (.int (own_len p0)), .val (.int (own_len p2)), .val (.int (own_len p4)), .val (.ref b90), .val (.ref b131), .val (.int (own_neg (own_len p0))), .val (.int (own_neg (own_len p2))), .val (.int (own_neg (own_len p4)))] [(.int (own_len p0)), (.int (own_neg (own_len p0)))])) _
      refine XS.ifYes X154.here hx rfl (pc0 := 120) (pc' := 127) rfl (hb hby at_120) rfl ((if0 _ _).trans (flt hq157).2.1) (by decide) (by decide) ?_
      show Steps p.tables e below (T154.setTop (mkF m 127 #[.val (.int p0), .val (.int p1), .val (.int p2), .val (.int p3), .val (.int p4), .val (.int p5), .val (.ref b77), .val (.int (own_len p0)), .val (.int (own_len p2)), .val (.int (own_len p4)), .val (.ref b90), .val (.ref b131), .val (.int (own_neg (own_len p0))), .val (.int (own_neg (own_len p2))), .val (.int (own_neg (own_len p4)))] [(.int (own_neg (own_len p0)))])) _
      refine XS.iconst X154.here hx rfl (hb hby at_127) ?_
      exact k)
  have k159 : ∀ t, Steps p.tables e below (T154.setTop (mkF m 135 #[.val (.int p0), .val (.int p1), .val (.int p2), .val (.int p3), .val (.int p4), .val (.int p5), .val (.ref b77), .val (.int (own_len p0)), .val (.int (own_len p2)), .val (.int (own_len p4)), .val (.ref b90), .val (.ref b131), .val (.int (own_neg (own_len p0))), .val (.int (own_neg (own_len p2))), .val (.int (own_neg (own_len p4)))] [(.int (own_len p2)), (.int (own_neg (own_len p2)))])) t → Steps p.tables e below (s₁.setTop (entryFrame m #[(.int p0), (.int p1), (.int p2), (.int p3), (.int p4), (.int p5)] maxLocals)) t := fun t k => k158 t (by
    show Steps p.tables e below (T154.setTop (mkF m 128 #[.val (.int p0), .val (.int p1), .val (.int p2), .val (.int p3), .val (.int p4), .val (.int p5), .val (.ref b77), .val (.int (own_len p0)), .val (.int (own_len p2)), .val (.int (own_len p4)), .val (.ref b90), .val (.ref b131), .val (.int (own_neg (own_len p0))), .val (.int (own_neg (own_len p2))), .val (.int (own_neg (own_len p4)))] [(.int (if (own_len p0) < (0 : Int32) then (1 : Int32) else (0 : Int32))), (.int (own_neg (own_len p0)))])) _
    refine XS.icmpNo X154.here hx rfl (hb hby at_128) rfl (teq (rfl : (own_neg (own_len p0)) = (if (own_len p0) < (0 : Int32) then (1 : Int32) else (0 : Int32)))).2 ?_
    show Steps p.tables e below (T154.setTop (mkF m 131 #[.val (.int p0), .val (.int p1), .val (.int p2), .val (.int p3), .val (.int p4), .val (.int p5), .val (.ref b77), .val (.int (own_len p0)), .val (.int (own_len p2)), .val (.int (own_len p4)), .val (.ref b90), .val (.ref b131), .val (.int (own_neg (own_len p0))), .val (.int (own_neg (own_len p2))), .val (.int (own_neg (own_len p4)))] [])) _
    refine XS.iload X154.here hx rfl (hb hby at_131) rfl ?_
    show Steps p.tables e below (T154.setTop (mkF m 133 #[.val (.int p0), .val (.int p1), .val (.int p2), .val (.int p3), .val (.int p4), .val (.int p5), .val (.ref b77), .val (.int (own_len p0)), .val (.int (own_len p2)), .val (.int (own_len p4)), .val (.ref b90), .val (.ref b131), .val (.int (own_neg (own_len p0))), .val (.int (own_neg (own_len p2))), .val (.int (own_neg (own_len p4)))] [(.int (own_neg (own_len p2)))])) _
    refine XS.iload X154.here hx rfl (hb hby at_133) rfl ?_
    exact k)
  have k161 : ∀ t, Steps p.tables e below (T154.setTop (mkF m 143 #[.val (.int p0), .val (.int p1), .val (.int p2), .val (.int p3), .val (.int p4), .val (.int p5), .val (.ref b77), .val (.int (own_len p0)), .val (.int (own_len p2)), .val (.int (own_len p4)), .val (.ref b90), .val (.ref b131), .val (.int (own_neg (own_len p0))), .val (.int (own_neg (own_len p2))), .val (.int (own_neg (own_len p4)))] [(.int (if (own_len p2) < (0 : Int32) then (1 : Int32) else (0 : Int32))), (.int (own_neg (own_len p2)))])) t → Steps p.tables e below (s₁.setTop (entryFrame m #[(.int p0), (.int p1), (.int p2), (.int p3), (.int p4), (.int p5)] maxLocals)) t := fun t k => k159 t (by
    by_cases hq160 : (own_len p2) < (0 : Int32)
    · simp only [if_pos hq160] at k
      show Steps p.tables e below (T154.setTop (mkF m 135 #[.val (.int p0), .val (.int p1), .val (.int p2), .val (.int p3), .val (.int p4), .val (.int p5), .val (.ref b77), .val (.int (own_len p0)), .val (.int (own_len p2)), .val (.int (own_len p4)), .val (.ref b90), .val (.ref b131), .val (.int (own_neg (own_len p0))), .val (.int (own_neg (own_len p2))), .val (.int (own_neg (own_len p4)))] [(.int (own_len p2)), (.int (own_neg (own_len p2)))])) _
      refine XS.ifNo X154.here hx rfl (hb hby at_135) rfl ((if0 _ _).trans (tlt hq160).2.1) ?_
      show Steps p.tables e below (T154.setTop (mkF m 138 #[.val (.int p0), .val (.int p1), .val (.int p2), .val (.int p3), .val (.int p4), .val (.int p5), .val (.ref b77), .val (.int (own_len p0)), .val (.int (own_len p2)), .val (.int (own_len p4)), .val (.ref b90), .val (.ref b131), .val (.int (own_neg (own_len p0))), .val (.int (own_neg (own_len p2))), .val (.int (own_neg (own_len p4)))] [(.int (own_neg (own_len p2)))])) _
      refine XS.iconst X154.here hx rfl (hb hby at_138) ?_
      show Steps p.tables e below (T154.setTop (mkF m 139 #[.val (.int p0), .val (.int p1), .val (.int p2), .val (.int p3), .val (.int p4), .val (.int p5), .val (.ref b77), .val (.int (own_len p0)), .val (.int (own_len p2)), .val (.int (own_len p4)), .val (.ref b90), .val (.ref b131), .val (.int (own_neg (own_len p0))), .val (.int (own_neg (own_len p2))), .val (.int (own_neg (own_len p4)))] [(.int (1 : Int32)), (.int (own_neg (own_len p2)))])) _
      refine XS.goto X154.here hx rfl (pc0 := 139) (pc' := 143) rfl (hb hby at_139) (by decide) (by decide) ?_
      exact k
    · simp only [if_neg hq160] at k
      show Steps p.tables e below (T154.setTop (mkF m 135 #[.val (.int p0), .val (.int p1), .val (.int p2), .val (.int p3), .val (.int p4), .val (.int p5), .val (.ref b77), .val (.int (own_len p0)), .val (.int (own_len p2)), .val (.int (own_len p4)), .val (.ref b90), .val (.ref b131), .val (.int (own_neg (own_len p0))), .val (.int (own_neg (own_len p2))), .val (.int (own_neg (own_len p4)))] [(.int (own_len p2)), (.int (own_neg (own_len p2)))])) _
      refine XS.ifYes X154.here hx rfl (pc0 := 135) (pc' := 142) rfl (hb hby at_135) rfl ((if0 _ _).trans (flt hq160).2.1) (by decide) (by decide) ?_
      show Steps p.tables e below (T154.setTop (mkF m 142 #[.val (.int p0), .val (.int p1), .val (.int p2), .val (.int p3), .val (.int p4), .val (.int p5), .val (.ref b77), .val (.int (own_len p0)), .val (.int (own_len p2)), .val (.int (own_len p4)), .val (.ref b90), .val (.ref b131), .val (.int (own_neg (own_len p0))), .val (.int (own_neg (own_len p2))), .val (.int (own_neg (own_len p4)))] [(.int (own_neg (own_len p2)))])) _
      refine XS.iconst X154.here hx rfl (hb hby at_142) ?_
      exact k)
  have k162 : ∀ t, Steps p.tables e below (T154.setTop (mkF m 150 #[.val (.int p0), .val (.int p1), .val (.int p2), .val (.int p3), .val (.int p4), .val (.int p5), .val (.ref b77), .val (.int (own_len p0)), .val (.int (own_len p2)), .val (.int (own_len p4)), .val (.ref b90), .val (.ref b131), .val (.int (own_neg (own_len p0))), .val (.int (own_neg (own_len p2))), .val (.int (own_neg (own_len p4)))] [(.int (own_len p4)), (.int (own_neg (own_len p4)))])) t → Steps p.tables e below (s₁.setTop (entryFrame m #[(.int p0), (.int p1), (.int p2), (.int p3), (.int p4), (.int p5)] maxLocals)) t := fun t k => k161 t (by
    show Steps p.tables e below (T154.setTop (mkF m 143 #[.val (.int p0), .val (.int p1), .val (.int p2), .val (.int p3), .val (.int p4), .val (.int p5), .val (.ref b77), .val (.int (own_len p0)), .val (.int (own_len p2)), .val (.int (own_len p4)), .val (.ref b90), .val (.ref b131), .val (.int (own_neg (own_len p0))), .val (.int (own_neg (own_len p2))), .val (.int (own_neg (own_len p4)))] [(.int (if (own_len p2) < (0 : Int32) then (1 : Int32) else (0 : Int32))), (.int (own_neg (own_len p2)))])) _
    refine XS.icmpNo X154.here hx rfl (hb hby at_143) rfl (teq (rfl : (own_neg (own_len p2)) = (if (own_len p2) < (0 : Int32) then (1 : Int32) else (0 : Int32)))).2 ?_
    show Steps p.tables e below (T154.setTop (mkF m 146 #[.val (.int p0), .val (.int p1), .val (.int p2), .val (.int p3), .val (.int p4), .val (.int p5), .val (.ref b77), .val (.int (own_len p0)), .val (.int (own_len p2)), .val (.int (own_len p4)), .val (.ref b90), .val (.ref b131), .val (.int (own_neg (own_len p0))), .val (.int (own_neg (own_len p2))), .val (.int (own_neg (own_len p4)))] [])) _
    refine XS.iload X154.here hx rfl (hb hby at_146) rfl ?_
    show Steps p.tables e below (T154.setTop (mkF m 148 #[.val (.int p0), .val (.int p1), .val (.int p2), .val (.int p3), .val (.int p4), .val (.int p5), .val (.ref b77), .val (.int (own_len p0)), .val (.int (own_len p2)), .val (.int (own_len p4)), .val (.ref b90), .val (.ref b131), .val (.int (own_neg (own_len p0))), .val (.int (own_neg (own_len p2))), .val (.int (own_neg (own_len p4)))] [(.int (own_neg (own_len p4)))])) _
    refine XS.iload X154.here hx rfl (hb hby at_148) rfl ?_
    exact k)
  have k164 : ∀ t, Steps p.tables e below (T154.setTop (mkF m 158 #[.val (.int p0), .val (.int p1), .val (.int p2), .val (.int p3), .val (.int p4), .val (.int p5), .val (.ref b77), .val (.int (own_len p0)), .val (.int (own_len p2)), .val (.int (own_len p4)), .val (.ref b90), .val (.ref b131), .val (.int (own_neg (own_len p0))), .val (.int (own_neg (own_len p2))), .val (.int (own_neg (own_len p4)))] [(.int (if (own_len p4) < (0 : Int32) then (1 : Int32) else (0 : Int32))), (.int (own_neg (own_len p4)))])) t → Steps p.tables e below (s₁.setTop (entryFrame m #[(.int p0), (.int p1), (.int p2), (.int p3), (.int p4), (.int p5)] maxLocals)) t := fun t k => k162 t (by
    by_cases hq163 : (own_len p4) < (0 : Int32)
    · simp only [if_pos hq163] at k
      show Steps p.tables e below (T154.setTop (mkF m 150 #[.val (.int p0), .val (.int p1), .val (.int p2), .val (.int p3), .val (.int p4), .val (.int p5), .val (.ref b77), .val (.int (own_len p0)), .val (.int (own_len p2)), .val (.int (own_len p4)), .val (.ref b90), .val (.ref b131), .val (.int (own_neg (own_len p0))), .val (.int (own_neg (own_len p2))), .val (.int (own_neg (own_len p4)))] [(.int (own_len p4)), (.int (own_neg (own_len p4)))])) _
      refine XS.ifNo X154.here hx rfl (hb hby at_150) rfl ((if0 _ _).trans (tlt hq163).2.1) ?_
      show Steps p.tables e below (T154.setTop (mkF m 153 #[.val (.int p0), .val (.int p1), .val (.int p2), .val (.int p3), .val (.int p4), .val (.int p5), .val (.ref b77), .val (.int (own_len p0)), .val (.int (own_len p2)), .val (.int (own_len p4)), .val (.ref b90), .val (.ref b131), .val (.int (own_neg (own_len p0))), .val (.int (own_neg (own_len p2))), .val (.int (own_neg (own_len p4)))] [(.int (own_neg (own_len p4)))])) _
      refine XS.iconst X154.here hx rfl (hb hby at_153) ?_
      show Steps p.tables e below (T154.setTop (mkF m 154 #[.val (.int p0), .val (.int p1), .val (.int p2), .val (.int p3), .val (.int p4), .val (.int p5), .val (.ref b77), .val (.int (own_len p0)), .val (.int (own_len p2)), .val (.int (own_len p4)), .val (.ref b90), .val (.ref b131), .val (.int (own_neg (own_len p0))), .val (.int (own_neg (own_len p2))), .val (.int (own_neg (own_len p4)))] [(.int (1 : Int32)), (.int (own_neg (own_len p4)))])) _
      refine XS.goto X154.here hx rfl (pc0 := 154) (pc' := 158) rfl (hb hby at_154) (by decide) (by decide) ?_
      exact k
    · simp only [if_neg hq163] at k
      show Steps p.tables e below (T154.setTop (mkF m 150 #[.val (.int p0), .val (.int p1), .val (.int p2), .val (.int p3), .val (.int p4), .val (.int p5), .val (.ref b77), .val (.int (own_len p0)), .val (.int (own_len p2)), .val (.int (own_len p4)), .val (.ref b90), .val (.ref b131), .val (.int (own_neg (own_len p0))), .val (.int (own_neg (own_len p2))), .val (.int (own_neg (own_len p4)))] [(.int (own_len p4)), (.int (own_neg (own_len p4)))])) _
      refine XS.ifYes X154.here hx rfl (pc0 := 150) (pc' := 157) rfl (hb hby at_150) rfl ((if0 _ _).trans (flt hq163).2.1) (by decide) (by decide) ?_
      show Steps p.tables e below (T154.setTop (mkF m 157 #[.val (.int p0), .val (.int p1), .val (.int p2), .val (.int p3), .val (.int p4), .val (.int p5), .val (.ref b77), .val (.int (own_len p0)), .val (.int (own_len p2)), .val (.int (own_len p4)), .val (.ref b90), .val (.ref b131), .val (.int (own_neg (own_len p0))), .val (.int (own_neg (own_len p2))), .val (.int (own_neg (own_len p4)))] [(.int (own_neg (own_len p4)))])) _
      refine XS.iconst X154.here hx rfl (hb hby at_157) ?_
      exact k)
  have k165 : ∀ t, Steps p.tables e below (T154.setTop (mkF m 166 #[.val (.int p0), .val (.int p1), .val (.int p2), .val (.int p3), .val (.int p4), .val (.int p5), .val (.ref b77), .val (.int (own_len p0)), .val (.int (own_len p2)), .val (.int (own_len p4)), .val (.ref b90), .val (.ref b131), .val (.int (own_neg (own_len p0))), .val (.int (own_neg (own_len p2))), .val (.int (own_neg (own_len p4)))] [(.int (1 : Int32))])) t → Steps p.tables e below (s₁.setTop (entryFrame m #[(.int p0), (.int p1), (.int p2), (.int p3), (.int p4), (.int p5)] maxLocals)) t := fun t k => k164 t (by
    show Steps p.tables e below (T154.setTop (mkF m 158 #[.val (.int p0), .val (.int p1), .val (.int p2), .val (.int p3), .val (.int p4), .val (.int p5), .val (.ref b77), .val (.int (own_len p0)), .val (.int (own_len p2)), .val (.int (own_len p4)), .val (.ref b90), .val (.ref b131), .val (.int (own_neg (own_len p0))), .val (.int (own_neg (own_len p2))), .val (.int (own_neg (own_len p4)))] [(.int (if (own_len p4) < (0 : Int32) then (1 : Int32) else (0 : Int32))), (.int (own_neg (own_len p4)))])) _
    refine XS.icmpNo X154.here hx rfl (hb hby at_158) rfl (teq (rfl : (own_neg (own_len p4)) = (if (own_len p4) < (0 : Int32) then (1 : Int32) else (0 : Int32)))).2 ?_
    show Steps p.tables e below (T154.setTop (mkF m 161 #[.val (.int p0), .val (.int p1), .val (.int p2), .val (.int p3), .val (.int p4), .val (.int p5), .val (.ref b77), .val (.int (own_len p0)), .val (.int (own_len p2)), .val (.int (own_len p4)), .val (.ref b90), .val (.ref b131), .val (.int (own_neg (own_len p0))), .val (.int (own_neg (own_len p2))), .val (.int (own_neg (own_len p4)))] [])) _
    refine XS.iconst X154.here hx rfl (hb hby at_161) ?_
    show Steps p.tables e below (T154.setTop (mkF m 162 #[.val (.int p0), .val (.int p1), .val (.int p2), .val (.int p3), .val (.int p4), .val (.int p5), .val (.ref b77), .val (.int (own_len p0)), .val (.int (own_len p2)), .val (.int (own_len p4)), .val (.ref b90), .val (.ref b131), .val (.int (own_neg (own_len p0))), .val (.int (own_neg (own_len p2))), .val (.int (own_neg (own_len p4)))] [(.int (1 : Int32))])) _
    refine XS.goto X154.here hx rfl (pc0 := 162) (pc' := 166) rfl (hb hby at_162) (by decide) (by decide) ?_
    exact k)
  obtain ⟨fs, hr, hrun, hended, hW, hsame⟩ := X154.leave (v := some (.int (1 : Int32))) (fun h => by rw [Bd.returns] at h; cases h)
  refine ⟨_, _, k165 _ ?_, hrun, hended, _, _, rfl, ?_, ⟨_, rfl⟩, hW, hsame.mono (by decide) (by decide)⟩
  · show Steps p.tables e below (T154.setTop (mkF m 166 #[.val (.int p0), .val (.int p1), .val (.int p2), .val (.int p3), .val (.int p4), .val (.int p5), .val (.ref b77), .val (.int (own_len p0)), .val (.int (own_len p2)), .val (.int (own_len p4)), .val (.ref b90), .val (.ref b131), .val (.int (own_neg (own_len p0))), .val (.int (own_neg (own_len p2))), .val (.int (own_neg (own_len p4)))] [(.int (1 : Int32))])) _
    exact retN X154 hx (t := .boolean) Bd.returns (by simp) (hb hby at_166) hr
  · show Q0 Z p0 p1 p2 p3 p4 p5 h0 n0 _ T154.heap _
    rw [eq154]
    exact ⟨rfl, N154⟩
set_option maxRecDepth 65536 in
set_option maxHeartbeats 40000000 in
theorem comes_1 {Post : Tables → Env → Array Value → State → Outcome → State → Prop} (hpost : ∀ tb e args s v u, (limb_1_1.after args s (.returned v) u = true ∧ limb_1_2.after args s (.returned v) u = true ∧ True) → FrameEnd s (.returned v) u (Jvm.fieldLocs frame_1_writes args s ++ Jvm.arrayLocs frame_1_arrays args s ++ Jvm.staticLocs frame_1_statics s) 16 128 → Post tb e args s (.returned v) u) :
    ArmFor flags0 classFile x code maxLocals ret World_1 tables_1 room_1 Calls_1 rest_1 Pre_1 Post := by
  intro l hfl _ _ p e ha hc hk s m args below hf hA hF happ hP
  obtain ⟨hcalls, hrest, hpre⟩ := hP
  obtain ⟨-, -, -, hnamed, -, -, -, hat⟩ := (Spec.applies_iff hf).mp happ
  obtain ⟨hg, hn⟩ := and_e (Cond.before_iff.mp (show (Jvm.Cond.and given_1 narrow_1).before args s = true from hpre))
  obtain ⟨g1, g2⟩ := and_e hg
  obtain ⟨g3, g4⟩ := and_e g2
  obtain ⟨g5, g6⟩ := and_e g4
  obtain ⟨g7, g8⟩ := and_e g6
  obtain ⟨g9, g10⟩ := and_e g8
  obtain ⟨g11, g12⟩ := and_e g10
  obtain ⟨w0, w1, w2, w3, w4, w5, rfl⟩ : ∃ w0 w1 w2 w3 w4 w5 : Value, args = #[w0, w1, w2, w3, w4, w5] := by
    have hs : args.size = 6 := by simpa [Cond.value, given_1] using g1
    obtain ⟨L⟩ := args
    match L, hs with
    | [w0, w1, w2, w3, w4, w5], _ => exact ⟨w0, w1, w2, w3, w4, w5, rfl⟩
  have hw := fun d (hd : d ∈ tables_1) => atoms_spec (ws := Jvm.Cond.code x code maxLocals ret :: tables_1) hat d (List.mem_cons_of_mem _ hd)
  have hfit : Fit s := fun {y c} hc i hi => by
    obtain ⟨ha, rfl⟩ := Array.getElem?_eq_some_iff.mp hc
    have q := List.all_eq_true.mp ((Array.all_eq_true_iff_forall_mem.mp hF) _ (Array.getElem_mem ha)) i (List.mem_range.mpr hi)
    simpa [Array.getElem?_eq_getElem hi] using q
  obtain ⟨i0, ei0⟩ := is_v g3
  obtain rfl : w0 = (.int i0) := Option.some.inj ei0
  obtain ⟨i1, ei1⟩ := is_v g5
  obtain rfl : w1 = (.int i1) := Option.some.inj ei1
  obtain ⟨i2, ei2⟩ := is_v g7
  obtain rfl : w2 = (.int i2) := Option.some.inj ei2
  obtain ⟨i3, ei3⟩ := is_v g9
  obtain rfl : w3 = (.int i3) := Option.some.inj ei3
  obtain ⟨i4, ei4⟩ := is_v g11
  obtain rfl : w4 = (.int i4) := Option.some.inj ei4
  obtain ⟨i5, ei5⟩ := is_v g12
  obtain rfl : w5 = (.int i5) := Option.some.inj ei5
  obtain ⟨n, o, h1, h2, h3, _, L, rfl, ⟨rfl, N⟩, hq⟩ := rm0 l s _ hw tables_1 i0 i1 i2 i3 i4 i5 s.heap s.heap.size (Nat.le_refl _)  p e ha hc hk s m _ below hf ((Spec.applies_iff_loose hf).mp happ).1 ⟨rfl, State.Warmed39.refl s, rfl⟩ trivial
  refine ⟨n, _, h1, h2, h3, hpost _ _ _ _ _ _ ⟨Cond.after_iff.mpr rfl, Cond.after_iff.mpr (eq_i res_at (Term.int_eval (1)) rfl), trivial⟩ ⟨hq.1, hq.2.1, (hq.2.2.sift fun y hy => Or.inr (N y hy)).mono (by decide) (by decide)⟩⟩
theorem main_1_1 : Claimed_1_1 := comes_1 fun _ _ _ _ _ _ h hF => ⟨h.1, hF⟩
theorem main_1_2 : Claimed_1_2 := comes_1 fun _ _ _ _ _ _ h hF => ⟨h.2.1, hF⟩
end Jvm.Pilot.@@N@@
namespace Jvm.Pilot.@@N@@
open Jvm Jvm.ClassFile Sem Op Lib Jvm.Free Jvm.Stand Jvm.Pilot.@@N@@.Jvm.D
/-! MADE BY PROGRAM (witnessworld.py) out of the Statement's table words and the real class files: 9 classes; the members and pool entries that the words name. The judged class is class 1, her method 3. -/
namespace start1
open Jvm.ClassFile
def u (s : String) : CpInfo := .utf8 (stringToUtf16 s)
/-- a pool by its gaps: so many unusable entries, then the entry; so many at the end -/
def gap : Nat → List CpInfo → List CpInfo
  | 0, r => r
  | n + 1, r => .unusable :: gap n r
def poolList (es : List (Nat × CpInfo)) (last : Nat) : List CpInfo := es.foldr (fun e r => gap e.1 (e.2 :: r)) (gap last [])
def pool (es : List (Nat × CpInfo)) (last : Nat) : Array CpInfo := ⟨poolList es last⟩
def fileOf (pool : Array CpInfo) (this : Nat) (attrs : Array Attribute := #[]) (ms : Array MethodInfo := #[]) (fl : Nat := 33) (sup : Nat := 0) (ifs : Array Nat := #[]) (fds : Array FieldInfo := #[]) : ClassFile where
  minorVersion := 0
  majorVersion := 65
  constantPool := pool
  accessFlags := fl
  thisClass := this
  superClass := sup
  interfaces := ifs
  fields := fds
  methods := ms
  attributes := attrs
def plain (name : String) (sup : Option ClassId) : Class where
  name := name
  kind := .ordinary
  loader := none
  accessFlags := 33
  super := sup
  interfaces := #[]
  cf := none
  fields := #[]
  methods := #[]
  instanceTypes := #[]
  staticTypes := #[]
  resolved := #[]
  callSites := []
  init := .initialized
  statics := none
  mirror := none

def pool0 : Array CpInfo := pool [(5, u "<init>"), (0, u "()V"), (1, .class_ 10), (1, u "java/lang/Object")] 113

def k0c0 : Code := { maxStack := 0, maxLocals := 1, code := object_method_1_code, exceptionTable := #[], attributes := #[] }
def k0m0 : Method := { name := "<init>", desc := "()V", sig := { parameters := [], returnType := none }, accessFlags := 1, code := some k0c0 }
/-- java/lang/Object -/
def k0 : Class := { plain "java/lang/Object" none with
  accessFlags := 33
  interfaces := #[]
  cf := some (fileOf pool0 8 #[] #[{ accessFlags := 1, nameIndex := 5, descriptorIndex := 6, attributes := #[] }] 33 0 #[] #[])
  fields := #[]
  methods := #[k0m0]
  instanceTypes := #[]
  staticTypes := #[]
  resolved := Array.replicate 124 none
  statics := none }

def pool1 : Array CpInfo := pool [(2, .class_ 4), (1, u "java/lang/Object"), (0, u "<init>"), (0, u "()V"), (0, .integer 2147483647), (0, .methodref 9 10), (0, .class_ 11), (0, .nameAndType 12 13), (0, u "com/example/wakelog/wakelog/log/RawRowIsNullPinLaw"), (0, u "len"), (0, u "(I)I"), (0, .methodref 9 15), (0, .nameAndType 16 17), (0, u "off"), (0, u "(II)I"), (0, .class_ 19), (0, u "com/example/wakelog/wakelog/log/RawRow"), (0, .methodref 18 21), (0, .nameAndType 5 22), (0, u "([B[I)V"), (0, .methodref 18 24), (0, .nameAndType 25 26), (0, u "isNull"), (0, u "(I)Z"), (3, u "law"), (0, u "(IIIIII)Z")] 6

def k1m0 : Method := { name := "<init>", desc := "()V", sig := { parameters := [], returnType := none }, accessFlags := 1, code := none }
def k1c1 : Code := { maxStack := 2, maxLocals := 1, code := method_2_code, exceptionTable := #[], attributes := #[] }
def k1m1 : Method := { name := "len", desc := "(I)I", sig := { parameters := [.int], returnType := some .int }, accessFlags := 10, code := some k1c1 }
def k1c2 : Code := { maxStack := 3, maxLocals := 2, code := method_3_code, exceptionTable := #[], attributes := #[] }
def k1m2 : Method := { name := "off", desc := "(II)I", sig := { parameters := [.int, .int], returnType := some .int }, accessFlags := 10, code := some k1c2 }
def k1c3 : Code := { maxStack := 4, maxLocals := 15, code := code, exceptionTable := #[], attributes := #[] }
def k1m3 : Method := { name := "law", desc := "(IIIIII)Z", sig := { parameters := [.int, .int, .int, .int, .int, .int], returnType := some .boolean }, accessFlags := 9, code := some k1c3 }
/-- com/example/wakelog/wakelog/log/RawRowIsNullPinLaw -/
def k1 : Class := { plain "com/example/wakelog/wakelog/log/RawRowIsNullPinLaw" (some 0) with
  accessFlags := 49
  interfaces := #[]
  cf := some (fileOf pool1 9 #[] #[{ accessFlags := 1, nameIndex := 5, descriptorIndex := 6, attributes := #[] }, { accessFlags := 10, nameIndex := 12, descriptorIndex := 13, attributes := #[] }, { accessFlags := 10, nameIndex := 16, descriptorIndex := 17, attributes := #[] }, { accessFlags := 9, nameIndex := 30, descriptorIndex := 31, attributes := #[] }] 49 2 #[] #[])
  fields := #[]
  methods := #[k1m0, k1m1, k1m2, k1m3]
  instanceTypes := #[]
  staticTypes := #[]
  resolved := Array.replicate 38 none
  statics := none }

def pool2 : Array CpInfo := pool [(1, .methodref 2 3), (0, .class_ 4), (0, .nameAndType 5 6), (0, u "java/lang/Object"), (0, u "<init>"), (0, u "()V"), (12, .fieldref 20 21), (0, .class_ 22), (0, .nameAndType 23 24), (0, u "com/example/wakelog/wakelog/log/RawRow"), (0, u "bytes"), (0, u "[B"), (0, .fieldref 20 26), (0, .nameAndType 27 28), (0, u "spans"), (0, u "[I"), (31, u "([B[I)V"), (27, u "isNull"), (0, u "(I)Z")] 50

def k2c0 : Code := { maxStack := 5, maxLocals := 4, code := prog_67_method_1_code, exceptionTable := #[], attributes := #[] }
def k2m0 : Method := { name := "<init>", desc := "([B[I)V", sig := { parameters := [(.array .byte), (.array .int)], returnType := none }, accessFlags := 1, code := some k2c0 }
def k2c1 : Code := { maxStack := 3, maxLocals := 2, code := prog_67_method_4_code, exceptionTable := #[], attributes := #[] }
def k2m1 : Method := { name := "isNull", desc := "(I)Z", sig := { parameters := [.int], returnType := some .boolean }, accessFlags := 1, code := some k2c1 }
/-- com/example/wakelog/wakelog/log/RawRow -/
def k2 : Class := { plain "com/example/wakelog/wakelog/log/RawRow" (some 0) with
  accessFlags := 49
  interfaces := #[]
  cf := some (fileOf pool2 20 #[] #[{ accessFlags := 1, nameIndex := 5, descriptorIndex := 60, attributes := #[] }, { accessFlags := 1, nameIndex := 88, descriptorIndex := 89, attributes := #[] }] 49 2 #[] #[{ accessFlags := 18, nameIndex := 23, descriptorIndex := 24, attributes := #[] }, { accessFlags := 18, nameIndex := 27, descriptorIndex := 28, attributes := #[] }])
  fields := #[{ name := "bytes", type := (.array .byte), accessFlags := 18, slot := 0, constantValue := 0 }, { name := "spans", type := (.array .int), accessFlags := 18, slot := 1, constantValue := 0 }]
  methods := #[k2m0, k2m1]
  instanceTypes := #[(.array .byte), (.array .int)]
  staticTypes := #[]
  resolved := Array.replicate 140 none
  statics := none }

def pool3 : Array CpInfo := pool [(1, u "java/lang/Cloneable"), (0, .class_ 1), (0, u "java/lang/Object"), (0, .class_ 3)] 3

/-- java/lang/Cloneable -/
def k3 : Class := { plain "java/lang/Cloneable" (some 0) with
  accessFlags := 1537
  interfaces := #[]
  cf := some (fileOf pool3 2 #[] #[] 1537 4 #[] #[])
  fields := #[]
  methods := #[]
  instanceTypes := #[]
  staticTypes := #[]
  resolved := Array.replicate 8 none
  statics := none }

def pool4 : Array CpInfo := pool [(1, u "java/io/Serializable"), (0, .class_ 1), (0, u "java/lang/Object"), (0, .class_ 3)] 3

/-- java/io/Serializable -/
def k4 : Class := { plain "java/io/Serializable" (some 0) with
  accessFlags := 1537
  interfaces := #[]
  cf := some (fileOf pool4 2 #[] #[] 1537 4 #[] #[])
  fields := #[]
  methods := #[]
  instanceTypes := #[]
  staticTypes := #[]
  resolved := Array.replicate 8 none
  statics := none }

/-- the primitive byte -/
def k5 : Class := { plain "byte" none with kind := .primitive 'B', accessFlags := 0x411 }
/-- [B -/
def k6 : Class := { plain "[B" (some 0) with kind := .array 5 .byte, interfaces := #[3, 4], accessFlags := 1041 }

/-- the primitive int -/
def k7 : Class := { plain "int" none with kind := .primitive 'I', accessFlags := 0x411 }
/-- [I -/
def k8 : Class := { plain "[I" (some 0) with kind := .array 7 .int, interfaces := #[3, 4], accessFlags := 1041 }

def heap : Heap := #[]
def classes : Array Class := #[k0, k1, k2, k3, k4, k5, k6, k7, k8]
def interned : List (Array UInt16 × Addr) := []
def slotsUsed : Nat := 0
def theMethod : MethodId := ⟨1, 3⟩
def args0 : Array Value := #[.int 5, .int 5, .int 5, .int 5, .int 5, .int 5]
def aboutOver (below : List Frame) : State where
  vm := { classes := classes, interned := interned.toArray }
  heap := heap
  slotsUsed := slotsUsed
  threads := #[{ frames := .invoking theMethod args0 :: below }]
def below0 : List Frame := [.native { method := ⟨0, 0⟩, args := #[] }]
def about1 : State := aboutOver below0
def p0 : Program := .bare "" "" ""
def e0 : Env := launch0.env 0 0 0
theorem w_frames : about1.frames = Frame.invoking theMethod args0 :: below0 := rfl
set_option maxRecDepth 65536 in
theorem w_args : argsFit about1.vm theMethod args0 = true := by decide +kernel
set_option maxRecDepth 65536 in
theorem w_heap : heapFits about1 = true := by decide +kernel
set_option maxRecDepth 65536 in
theorem w_runnable : about1.curStatus? = some .runnable := by decide +kernel
set_option maxRecDepth 65536 in
theorem w_alone : about1.alone = true := by decide +kernel
set_option maxRecDepth 65536 in
theorem w_named : about1.methodNamed? x = some theMethod := by decide +kernel
set_option maxRecDepth 65536 in
theorem w_hears : about1.hears theMethod below0 = true := by decide +kernel
set_option maxRecDepth 65536 in
theorem w_ripe : about1.ripe theMethod args0 below0 = true := by decide +kernel
theorem w_running : about1.status = .running := rfl
set_option maxRecDepth 65536 in
theorem w_room : about1.hasRoom e0.platform room_1 = true :=
  launch0.hasRoom_least _ room_1 (by decide +kernel) (by decide +kernel) (by decide +kernel) (by decide +kernel) (by decide +kernel) (by decide +kernel)
theorem allAtoms_all (ts : List Jvm.Cond) (a : Array Jvm.Value) (st : Jvm.State) : (allAtoms ts).before a st = ts.all (fun c => c.before a st) := by
  induction ts with
  | nil => rfl
  | cons c t ih =>
    show (Jvm.Cond.and c (allAtoms t)).before a st = _
    rw [Jvm.Cond.before_and, ih, List.all_cons]
def words1 : List Jvm.Cond := Jvm.Cond.code x code maxLocals ret :: tables_1
/-- a 'code' word, met by the world's own term for the bytes: nothing is compared byte by byte -/
theorem code_word {y : MethodName} {bytes : ByteArray} {mx : Nat} {rt : Option FieldType} {a : Array Value} {s : State} {m : MethodId} {meth : Method} {c : Code} (h1 : s.methodNamed? y = some m) (h2 : s.vm.method? m = some meth) (h3 : meth.code = some c) (h4 : c.code = bytes)
    (h5 : (c.maxLocals == mx && c.exceptionTable.isEmpty && decide (c.maxStack ≤ mostOperands) && decide (meth.sig.returnType = rt) && !meth.locks && decide (parseMethodDescriptor y.desc = some meth.sig)) = true) : (Jvm.Cond.code y bytes mx rt).before a s = true := by
  simp only [Bool.and_eq_true, beq_iff_eq, Bool.not_eq_true', decide_eq_true_eq] at h5
  obtain ⟨⟨⟨⟨⟨g1, g2⟩, g3⟩, g4⟩, g5⟩, g6⟩ := h5
  simp [Cond.before, Cond.holds, Cond.value, h1, h2, h3, h4, g1, g2, g3, g4, g5, g6]
def isCode : Jvm.Cond → Bool
  | .code _ _ _ _ => true
  | _ => false
theorem all_split {L : List Jvm.Cond} {P : Jvm.Cond → Bool} (h1 : L.all (fun c => isCode c || P c) = true) (h2 : ∀ c ∈ L.filter isCode, P c = true) : L.all P = true := by
  refine List.all_eq_true.mpr fun c hc => ?_
  have h := List.all_eq_true.mp h1 c hc
  rcases Bool.eq_false_or_eq_true (isCode c) with hi | hi
  · exact h2 c (List.mem_filter.mpr ⟨hc, hi⟩)
  · simpa [hi] using h
set_option maxRecDepth 65536 in
theorem w_c0 : (Jvm.Cond.code x code maxLocals ret).before args0 about1 = true := code_word (m := ⟨1, 3⟩) (meth := k1m3) (c := k1c3) (by decide +kernel) rfl rfl rfl (by decide +kernel)
set_option maxRecDepth 65536 in
theorem w_c1 : (Jvm.Cond.code ({ cls := "com/example/wakelog/wakelog/log/RawRowIsNullPinLaw", name := "len", desc := "(I)I" } : Jvm.MethodName) method_2_code (1 : Nat) (Option.some Jvm.ClassFile.FieldType.int)).before args0 about1 = true := code_word (m := ⟨1, 1⟩) (meth := k1m1) (c := k1c1) (by decide +kernel) rfl rfl rfl (by decide +kernel)
set_option maxRecDepth 65536 in
theorem w_c2 : (Jvm.Cond.code ({ cls := "com/example/wakelog/wakelog/log/RawRowIsNullPinLaw", name := "off", desc := "(II)I" } : Jvm.MethodName) method_3_code (2 : Nat) (Option.some Jvm.ClassFile.FieldType.int)).before args0 about1 = true := code_word (m := ⟨1, 2⟩) (meth := k1m2) (c := k1c2) (by decide +kernel) rfl rfl rfl (by decide +kernel)
set_option maxRecDepth 65536 in
theorem w_c3 : (Jvm.Cond.code ({ cls := "com/example/wakelog/wakelog/log/RawRow", name := "<init>", desc := "([B[I)V" } : Jvm.MethodName) prog_67_method_1_code (4 : Nat) (Option.none : Option Jvm.ClassFile.FieldType)).before args0 about1 = true := code_word (m := ⟨2, 0⟩) (meth := k2m0) (c := k2c0) (by decide +kernel) rfl rfl rfl (by decide +kernel)
set_option maxRecDepth 65536 in
theorem w_c4 : (Jvm.Cond.code ({ cls := "java/lang/Object", name := "<init>", desc := "()V" } : Jvm.MethodName) object_method_1_code (1 : Nat) (Option.none : Option Jvm.ClassFile.FieldType)).before args0 about1 = true := code_word (m := ⟨0, 0⟩) (meth := k0m0) (c := k0c0) (by decide +kernel) rfl rfl rfl (by decide +kernel)
set_option maxRecDepth 65536 in
theorem w_c5 : (Jvm.Cond.code ({ cls := "com/example/wakelog/wakelog/log/RawRow", name := "isNull", desc := "(I)Z" } : Jvm.MethodName) prog_67_method_4_code (2 : Nat) (Option.some Jvm.ClassFile.FieldType.boolean)).before args0 about1 = true := code_word (m := ⟨2, 1⟩) (meth := k2m1) (c := k2c1) (by decide +kernel) rfl rfl rfl (by decide +kernel)
def codes1 : List Jvm.Cond := [Jvm.Cond.code x code maxLocals ret, Jvm.Cond.code ({ cls := "com/example/wakelog/wakelog/log/RawRowIsNullPinLaw", name := "len", desc := "(I)I" } : Jvm.MethodName) method_2_code (1 : Nat) (Option.some Jvm.ClassFile.FieldType.int), Jvm.Cond.code ({ cls := "com/example/wakelog/wakelog/log/RawRowIsNullPinLaw", name := "off", desc := "(II)I" } : Jvm.MethodName) method_3_code (2 : Nat) (Option.some Jvm.ClassFile.FieldType.int), Jvm.Cond.code ({ cls := "com/example/wakelog/wakelog/log/RawRow", name := "<init>", desc := "([B[I)V" } : Jvm.MethodName) prog_67_method_1_code (4 : Nat) (Option.none : Option Jvm.ClassFile.FieldType), Jvm.Cond.code ({ cls := "java/lang/Object", name := "<init>", desc := "()V" } : Jvm.MethodName) object_method_1_code (1 : Nat) (Option.none : Option Jvm.ClassFile.FieldType), Jvm.Cond.code ({ cls := "com/example/wakelog/wakelog/log/RawRow", name := "isNull", desc := "(I)Z" } : Jvm.MethodName) prog_67_method_4_code (2 : Nat) (Option.some Jvm.ClassFile.FieldType.boolean)]
set_option maxRecDepth 65536 in
theorem codes_eq : words1.filter isCode = codes1 := rfl
theorem w_codes : ∀ c ∈ words1.filter isCode, c.before args0 about1 = true := by
  rw [codes_eq]
  intro c hc
  simp only [codes1, List.mem_cons, List.not_mem_nil, or_false] at hc
  rcases hc with rfl | rfl | rfl | rfl | rfl | rfl
  · exact w_c0
  · exact w_c1
  · exact w_c2
  · exact w_c3
  · exact w_c4
  · exact w_c5
set_option maxRecDepth 65536 in
theorem w_t1 : (words1.take 24).all (fun c => isCode c || c.before args0 about1) = true := by decide +kernel
set_option maxRecDepth 65536 in
theorem w_t2 : (words1.drop 24).all (fun c => isCode c || c.before args0 about1) = true := by decide +kernel
theorem w_tables : (allAtoms (Jvm.Cond.code x code maxLocals ret :: tables_1)).before args0 about1 = true := by
  rw [allAtoms_all]
  show words1.all (fun c => c.before args0 about1) = true
  refine all_split ?_ w_codes
  rw [← List.take_append_drop 24 words1, List.all_append, w_t1, w_t2]
  rfl
set_option maxRecDepth 65536 in
theorem w_case : (Jvm.Cond.and given_1 narrow_1).before args0 about1 = true := by decide +kernel
theorem w_applies : (headSpec (Jvm.Cond.code x code maxLocals ret :: tables_1) room_1).applies x e0.platform about1 = true :=
  (Spec.applies_iff w_frames).mpr ⟨w_running, w_runnable, w_alone, w_named, w_hears, w_ripe, w_room, w_tables⟩
theorem atStart : AtStart classFile x code maxLocals ret World_1 tables_1 room_1 Calls_1 rest_1 Pre_1 launch0 p0 e0 about1 theMethod args0 below0 :=
  ⟨lists_1, trivial, launch0.admits_env _ _ _, launch0.least_env, fairChoices_fair.cas, fairChoices_fair.clock, w_frames, w_args, w_heap, w_applies, trivial, trivial, w_case⟩
end start1
theorem witness_1 : WitnessClaimed_1 := ⟨start1.p0, start1.e0, start1.about1, start1.theMethod, start1.args0, start1.below0, start1.atStart⟩
end Jvm.Pilot.@@N@@
