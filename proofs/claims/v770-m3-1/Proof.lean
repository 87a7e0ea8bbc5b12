import JvmDerived
import JvmDerived.Pilot.@@N@@Statement
import JvmDerived.Pilot.@@N@@Code
set_option linter.unusedVariables false
set_option linter.unusedSimpArgs false
namespace Jvm.RoadKit
open Sem ClassFile Op Lib Jvm.Stand Jvm.Free Jvm.LawKit
section New
variable {p : Program} {l : Launch} {e : Env} {R : Room} {s : State} {m : MethodId} {args : Array Value} {below : List Frame} {meth : Method} {c : Code} {T : State} {locs : List Loc} {cells slots : Nat}
theorem retI (X : Stand p l e R s m args below meth c T locs cells slots) (hx : p.tables.exec = Jvm.exec) {pc : Nat} {Ls : Array Slot} {z : Int32} {rest : List Value} (hret : meth.sig.returnType = some .int) (hd : decode c.code pc = .ok (.ireturn, 1)) {fs : List Frame}
    (hl : ∀ (f : JFrame) (acts : List Action), f.method = m → f.locked = none → f.entered = [] → (doReturn e (T.setTop f) acts (some (.int z))).1 = T.setFrames fs) : Steps p.tables e below (T.setTop (mkF m pc Ls (.int z :: rest))) (T.setFrames fs) :=
  retOut X hx hret rfl (Or.inl ⟨rfl, Or.inl rfl, z, rfl⟩) hd hl
theorem own_hide {n0 : Nat} (X : Stand p l e R s m args below meth c T locs cells slots) (N : Fr n0 locs) : ∃ L, Stand p l e R s m args below meth c T L cells slots ∧ Fr n0 L := ⟨_, X, N⟩
theorem own_catR {v : Value} (h : v.isRef = true) : v.category = 1 := by rcases ref_cases h with rfl | ⟨a, rfl⟩ <;> rfl
theorem own_iteR (P : Prop) [Decidable P] {a b : Value} (ha : a.isRef = true) (hb : b.isRef = true) : (if P then a else b).isRef = true := by
  by_cases h : P
  · rw [if_pos h]; exact ha
  · rw [if_neg h]; exact hb
end New
end Jvm.RoadKit
namespace Jvm.Pilot.@@N@@
open Jvm Jvm.ClassFile Sem Op Lib Jvm.Free Jvm.Stand Jvm.LawKit Jvm.RoadKit Bundle Jvm.Pilot.@@N@@.Jvm.D
theorem eq_ints_own {args : Array Value} {s : State} {a b : Term} {x y : Int32} (ha : a.eval args s none [] s = some (.int x)) (hb : b.eval args s none [] s = some (.int y)) : (Jvm.Cond.eq a b).value args s none s [] = some (decide (x = y)) := by simp [Cond.value, ha, hb]
theorem own_feq {args : Array Value} {s : State} {t : Term} {x : Addr} {C n d : String} {k : Int32} (ht : t.eval args s none [] s = some (.ref x)) (h : (Jvm.Cond.eq (.field t C n d) (.int k)).value args s none s [] = some true) : s.fieldOf? x C n d = some (.int k) := by
  obtain ⟨u, v, h1, h2, -, k2⟩ := cmp_v (Or.inl h)
  have e2 : v = .int k := Option.some.inj (h2.symm.trans (Term.int_eval k))
  subst e2
  obtain ⟨z, rfl⟩ := k2
  rw [fld_at ht] at h1
  rw [h1]
  have e := gotT (eq_ints_own (by rw [fld_at ht]; exact h1) (Term.int_eval k)) h
  rw [e]
def own_lo (k : Nat) : Int32 := ([0, 4, 1, 0, 2, 1, 0, 2, 1, 0, 1, 0, 0, 0, 0, 0, 0, 0, 0, 0] : List Int32).getD k 0
def own_hi (k : Nat) : Int32 := ([7, 11, 2, 5, 7, 5, 2, 5, 3, 2, 3, 4, 2, 3, 4, 3, 1, 3, 1, 1] : List Int32).getD k 0
def own_h (v o t : Int32) : Int32 := if v < o then 0 else if t < v then 0 else 1
theorem own_20 (x : Int32) : ∃ k : Nat, k < 20 ∧ ((x &&& (2147483647 : Int32)) % (20 : Int32)) = Int32.ofNat k := by
  have h1 := c_mask x 2147483647 31 (by decide) (by decide)
  have h2 := (c_irem (x &&& 2147483647) 20 20 rfl).1 (by rw [h1]; omega)
  refine ⟨((x &&& (2147483647 : Int32)) % (20 : Int32)).toInt.toNat, by rw [h2]; omega, ?_⟩
  apply Int32.toInt_inj.mp
  rw [Int32.toInt_ofNat_of_lt (by rw [h2]; omega)]
  rw [h2]; omega
theorem own_cases {k : Nat} (h : k < 20) : k = 0 ∨ k = 1 ∨ k = 2 ∨ k = 3 ∨ k = 4 ∨ k = 5 ∨ k = 6 ∨ k = 7 ∨ k = 8 ∨ k = 9 ∨ k = 10 ∨ k = 11 ∨ k = 12 ∨ k = 13 ∨ k = 14 ∨ k = 15 ∨ k = 16 ∨ k = 17 ∨ k = 18 ∨ k = 19 := by omega
theorem own_nat {k : Nat} (h : k < 20) : (Int32.ofNat k).toNatClampNeg = k := by
  have q : (Int32.ofNat k).toInt = k := Int32.toInt_ofNat_of_lt (by omega)
  simp only [Int32.toNatClampNeg, q]; rfl
theorem own_in {k : Nat} (h : k < 20) : ¬ (Int32.ofNat k) < 0 ∧ (Int32.ofNat k) < (20 : Int32) := by
  have q : (Int32.ofNat k).toInt = k := Int32.toInt_ofNat_of_lt (by omega)
  have z0 : (0 : Int32).toInt = 0 := rfl
  have z1 : (20 : Int32).toInt = 20 := rfl
  constructor
  · rw [Int32.lt_iff_toInt_lt]; omega
  · rw [Int32.lt_iff_toInt_lt]; omega
theorem own_atlo {k : Nat} (h : k < 20) : ([(.int (0 : Int32)), (.int (4 : Int32)), (.int (1 : Int32)), (.int (0 : Int32)), (.int (2 : Int32)), (.int (1 : Int32)), (.int (0 : Int32)), (.int (2 : Int32)), (.int (1 : Int32)), (.int (0 : Int32)), (.int (1 : Int32)), (.int (0 : Int32)), (.int (0 : Int32)), (.int (0 : Int32)), (.int (0 : Int32)), (.int (0 : Int32)), (.int (0 : Int32)), (.int (0 : Int32)), (.int (0 : Int32)), (.int (0 : Int32))] : List Value).getD (Int32.ofNat k).toNatClampNeg (.int (0 : Int32)) = .int (own_lo k) := by
  rw [own_nat h]
  rcases own_cases h with rfl | rfl | rfl | rfl | rfl | rfl | rfl | rfl | rfl | rfl | rfl | rfl | rfl | rfl | rfl | rfl | rfl | rfl | rfl | rfl <;> rfl
theorem own_athi {k : Nat} (h : k < 20) : ([(.int (7 : Int32)), (.int (11 : Int32)), (.int (2 : Int32)), (.int (5 : Int32)), (.int (7 : Int32)), (.int (5 : Int32)), (.int (2 : Int32)), (.int (5 : Int32)), (.int (3 : Int32)), (.int (2 : Int32)), (.int (3 : Int32)), (.int (4 : Int32)), (.int (2 : Int32)), (.int (3 : Int32)), (.int (4 : Int32)), (.int (3 : Int32)), (.int (1 : Int32)), (.int (3 : Int32)), (.int (1 : Int32)), (.int (1 : Int32))] : List Value).getD (Int32.ofNat k).toNatClampNeg (.int (0 : Int32)) = .int (own_hi k) := by
  rw [own_nat h]
  rcases own_cases h with rfl | rfl | rfl | rfl | rfl | rfl | rfl | rfl | rfl | rfl | rfl | rfl | rfl | rfl | rfl | rfl | rfl | rfl | rfl | rfl <;> rfl
theorem d1_0 : decode method_3_code 0 = .ok (.iload_n 0, 1) := by decide +kernel
theorem d1_1 : decode method_3_code 1 = .ok (.tableswitch 167 0 18 #[91, 95, 99, 103, 107, 111, 115, 119, 123, 127, 131, 135, 139, 143, 147, 151, 155, 159, 163], 91) := by decide +kernel
theorem d1_92 : decode method_3_code 92 = .ok (.getstatic 20, 3) := by decide +kernel
theorem d1_95 : decode method_3_code 95 = .ok (.areturn, 1) := by decide +kernel
theorem d1_96 : decode method_3_code 96 = .ok (.getstatic 24, 3) := by decide +kernel
theorem d1_99 : decode method_3_code 99 = .ok (.areturn, 1) := by decide +kernel
theorem d1_100 : decode method_3_code 100 = .ok (.getstatic 27, 3) := by decide +kernel
theorem d1_103 : decode method_3_code 103 = .ok (.areturn, 1) := by decide +kernel
theorem d1_104 : decode method_3_code 104 = .ok (.getstatic 30, 3) := by decide +kernel
theorem d1_107 : decode method_3_code 107 = .ok (.areturn, 1) := by decide +kernel
theorem d1_108 : decode method_3_code 108 = .ok (.getstatic 33, 3) := by decide +kernel
theorem d1_111 : decode method_3_code 111 = .ok (.areturn, 1) := by decide +kernel
theorem d1_112 : decode method_3_code 112 = .ok (.getstatic 36, 3) := by decide +kernel
theorem d1_115 : decode method_3_code 115 = .ok (.areturn, 1) := by decide +kernel
theorem d1_116 : decode method_3_code 116 = .ok (.getstatic 39, 3) := by decide +kernel
theorem d1_119 : decode method_3_code 119 = .ok (.areturn, 1) := by decide +kernel
theorem d1_120 : decode method_3_code 120 = .ok (.getstatic 42, 3) := by decide +kernel
theorem d1_123 : decode method_3_code 123 = .ok (.areturn, 1) := by decide +kernel
theorem d1_124 : decode method_3_code 124 = .ok (.getstatic 45, 3) := by decide +kernel
theorem d1_127 : decode method_3_code 127 = .ok (.areturn, 1) := by decide +kernel
theorem d1_128 : decode method_3_code 128 = .ok (.getstatic 48, 3) := by decide +kernel
theorem d1_131 : decode method_3_code 131 = .ok (.areturn, 1) := by decide +kernel
theorem d1_132 : decode method_3_code 132 = .ok (.getstatic 51, 3) := by decide +kernel
theorem d1_135 : decode method_3_code 135 = .ok (.areturn, 1) := by decide +kernel
theorem d1_136 : decode method_3_code 136 = .ok (.getstatic 54, 3) := by decide +kernel
theorem d1_139 : decode method_3_code 139 = .ok (.areturn, 1) := by decide +kernel
theorem d1_140 : decode method_3_code 140 = .ok (.getstatic 57, 3) := by decide +kernel
theorem d1_143 : decode method_3_code 143 = .ok (.areturn, 1) := by decide +kernel
theorem d1_144 : decode method_3_code 144 = .ok (.getstatic 60, 3) := by decide +kernel
theorem d1_147 : decode method_3_code 147 = .ok (.areturn, 1) := by decide +kernel
theorem d1_148 : decode method_3_code 148 = .ok (.getstatic 63, 3) := by decide +kernel
theorem d1_151 : decode method_3_code 151 = .ok (.areturn, 1) := by decide +kernel
theorem d1_152 : decode method_3_code 152 = .ok (.getstatic 66, 3) := by decide +kernel
theorem d1_155 : decode method_3_code 155 = .ok (.areturn, 1) := by decide +kernel
theorem d1_156 : decode method_3_code 156 = .ok (.getstatic 69, 3) := by decide +kernel
theorem d1_159 : decode method_3_code 159 = .ok (.areturn, 1) := by decide +kernel
theorem d1_160 : decode method_3_code 160 = .ok (.getstatic 72, 3) := by decide +kernel
theorem d1_163 : decode method_3_code 163 = .ok (.areturn, 1) := by decide +kernel
theorem d1_164 : decode method_3_code 164 = .ok (.getstatic 75, 3) := by decide +kernel
theorem d1_167 : decode method_3_code 167 = .ok (.areturn, 1) := by decide +kernel
theorem d1_168 : decode method_3_code 168 = .ok (.getstatic 78, 3) := by decide +kernel
theorem d1_171 : decode method_3_code 171 = .ok (.areturn, 1) := by decide +kernel
theorem pn_0 : plainName "com/example/waxwing/waxwing/protocol/ApiKeyHandlesPinLaw" = true := by first | (simp [plainName, overriddenIn]; done) | decide +kernel
theorem ef_1 (m : MethodId) (x0 : Int32) : entryFrame m #[(.int x0)] 1 = mkF m 0 #[.val (.int x0)] [] := by first | (simp [entryFrame, mkF, argsToLocals, Value.category]; done) | rfl
def Q1 (Z : State) (kx : Nat) (f : Nat → Addr) (h0 : Heap) (n0 : Nat) (v : Option Value) (h : Heap) (L : List Loc) : Prop := v = some (.ref (f kx)) ∧ Fr n0 L ∧ h = h0
set_option maxRecDepth 65536 in
set_option maxHeartbeats 40000000 in
theorem rm1 (l : Launch) (Z : State) (a0 : Array Value) (hw : ∀ d ∈ tables_1, d.before a0 Z = true) (ws : List Jvm.Cond) (kx : Nat) (f : Nat → Addr) (h0 : Heap) (n0 : Nat) (Z0 : n0 ≤ h0.size) (hk : kx < 20) (S_0 : Sta Z h0 "com/example/waxwing/waxwing/protocol/ApiKey" "PRODUCE" "Lcom/example/waxwing/waxwing/protocol/ApiKey;" (.ref (f 0))) (S_1 : Sta Z h0 "com/example/waxwing/waxwing/protocol/ApiKey" "FETCH" "Lcom/example/waxwing/waxwing/protocol/ApiKey;" (.ref (f 1))) (S_2 : Sta Z h0 "com/example/waxwing/waxwing/protocol/ApiKey" "LIST_OFFSETS" "Lcom/example/waxwing/waxwing/protocol/ApiKey;" (.ref (f 2))) (S_3 : Sta Z h0 "com/example/waxwing/waxwing/protocol/ApiKey" "METADATA" "Lcom/example/waxwing/waxwing/protocol/ApiKey;" (.ref (f 3))) (S_4 : Sta Z h0 "com/example/waxwing/waxwing/protocol/ApiKey" "OFFSET_COMMIT" "Lcom/example/waxwing/waxwing/protocol/ApiKey;" (.ref (f 4))) (S_5 : Sta Z h0 "com/example/waxwing/waxwing/protocol/ApiKey" "OFFSET_FETCH" "Lcom/example/waxwing/waxwing/protocol/ApiKey;" (.ref (f 5))) (S_6 : Sta Z h0 "com/example/waxwing/waxwing/protocol/ApiKey" "FIND_COORDINATOR" "Lcom/example/waxwing/waxwing/protocol/ApiKey;" (.ref (f 6))) (S_7 : Sta Z h0 "com/example/waxwing/waxwing/protocol/ApiKey" "JOIN_GROUP" "Lcom/example/waxwing/waxwing/protocol/ApiKey;" (.ref (f 7))) (S_8 : Sta Z h0 "com/example/waxwing/waxwing/protocol/ApiKey" "HEARTBEAT" "Lcom/example/waxwing/waxwing/protocol/ApiKey;" (.ref (f 8))) (S_9 : Sta Z h0 "com/example/waxwing/waxwing/protocol/ApiKey" "LEAVE_GROUP" "Lcom/example/waxwing/waxwing/protocol/ApiKey;" (.ref (f 9))) (S_10 : Sta Z h0 "com/example/waxwing/waxwing/protocol/ApiKey" "SYNC_GROUP" "Lcom/example/waxwing/waxwing/protocol/ApiKey;" (.ref (f 10))) (S_11 : Sta Z h0 "com/example/waxwing/waxwing/protocol/ApiKey" "DESCRIBE_GROUPS" "Lcom/example/waxwing/waxwing/protocol/ApiKey;" (.ref (f 11))) (S_12 : Sta Z h0 "com/example/waxwing/waxwing/protocol/ApiKey" "LIST_GROUPS" "Lcom/example/waxwing/waxwing/protocol/ApiKey;" (.ref (f 12))) (S_13 : Sta Z h0 "com/example/waxwing/waxwing/protocol/ApiKey" "API_VERSIONS" "Lcom/example/waxwing/waxwing/protocol/ApiKey;" (.ref (f 13))) (S_14 : Sta Z h0 "com/example/waxwing/waxwing/protocol/ApiKey" "CREATE_TOPICS" "Lcom/example/waxwing/waxwing/protocol/ApiKey;" (.ref (f 14))) (S_15 : Sta Z h0 "com/example/waxwing/waxwing/protocol/ApiKey" "DELETE_TOPICS" "Lcom/example/waxwing/waxwing/protocol/ApiKey;" (.ref (f 15))) (S_16 : Sta Z h0 "com/example/waxwing/waxwing/protocol/ApiKey" "INIT_PRODUCER_ID" "Lcom/example/waxwing/waxwing/protocol/ApiKey;" (.ref (f 16))) (S_17 : Sta Z h0 "com/example/waxwing/waxwing/protocol/ApiKey" "DESCRIBE_CONFIGS" "Lcom/example/waxwing/waxwing/protocol/ApiKey;" (.ref (f 17))) (S_18 : Sta Z h0 "com/example/waxwing/waxwing/protocol/ApiKey" "CREATE_PARTITIONS" "Lcom/example/waxwing/waxwing/protocol/ApiKey;" (.ref (f 18))) (S_19 : Sta Z h0 "com/example/waxwing/waxwing/protocol/ApiKey" "DELETE_GROUPS" "Lcom/example/waxwing/waxwing/protocol/ApiKey;" (.ref (f 19))) :
    MetFree l (⟨"com/example/waxwing/waxwing/protocol/ApiKeyHandlesPinLaw", "pick", "(I)Lcom/example/waxwing/waxwing/protocol/ApiKey;"⟩ : MethodName) (head1 (Jvm.Cond.code (⟨"com/example/waxwing/waxwing/protocol/ApiKeyHandlesPinLaw", "pick", "(I)Lcom/example/waxwing/waxwing/protocol/ApiKey;"⟩ : MethodName) method_3_code 1 (some (.object "com/example/waxwing/waxwing/protocol/ApiKey")) :: ws) ({ frames := 0, cells := 0, slots := 0, locals := 0 } : Room)) (fun aa U => aa = #[(.int (Int32.ofNat kx))] ∧ Z.Warmed39 U.vm ∧ U.heap = h0) (fun _ _ _ _ _ => True) (fun _ U o U' => ∃ v L, o = .returned v ∧ Q1 Z kx f h0 n0 v U'.heap L ∧ FrameEnd U o U' L ({ frames := 0, cells := 0, slots := 0, locals := 0 } : Room).cells ({ frames := 0, cells := 0, slots := 0, locals := 0 } : Room).slots) := by
  refine MetFree.of_bodySF (plainFor_of_name pn_0) hisR ?_
  intro p e s m args below meth c s₁ Bd hml0 hP hK
  obtain ⟨rfl, hZ, hh⟩ := hP
  have hx := Bd.exec
  have hby := Bd.bytes
  have hml : c.maxLocals = 1 := hml0
  have hown : s.vm.findClass "com/example/waxwing/waxwing/protocol/ApiKeyHandlesPinLaw" = some m.cls := findClass_of_methodNamed Bd.named
  have hnm := (name_of_methodNamed Bd.named Bd.method).1
  have X0 : Stand p l e ({ frames := 0, cells := 0, slots := 0, locals := 0 } : Room) s m #[(.int (Int32.ofNat kx))] below meth c s₁ [] 0 0 := Stand.of_body Bd
  have e0 : s₁.heap = h0 := by rw [← hh, Bd.state]; rfl
  have N0 := Fr.nil n0
  have pre0 : ∀ t, Steps p.tables e below (s₁.setTop (mkF m 0 #[.val (.int (Int32.ofNat kx))] [])) t → Steps p.tables e below (s₁.setTop (entryFrame m #[(.int (Int32.ofNat kx))] 1)) t := fun t k => castTop (ef_1 m (Int32.ofNat kx)) k
  have k1 : ∀ t, Steps p.tables e below (s₁.setTop (mkF m 1 #[.val (.int (Int32.ofNat kx))] [(.int (Int32.ofNat kx))])) t → Steps p.tables e below (s₁.setTop (entryFrame m #[(.int (Int32.ofNat kx))] 1)) t := fun t k => pre0 t (by
    show Steps p.tables e below (s₁.setTop (mkF m 0 #[.val (.int (Int32.ofNat kx))] [])) _
    refine XS.iloadN X0.here hx rfl (hb hby d1_0) rfl ?_
    exact k)
  rcases own_cases hk with hp | hp | hp | hp | hp | hp | hp | hp | hp | hp | hp | hp | hp | hp | hp | hp | hp | hp | hp | hp
  · have k2 : ∀ t, Steps p.tables e below (s₁.setTop (mkF m 92 #[.val (.int (Int32.ofNat kx))] [])) t → Steps p.tables e below (s₁.setTop (entryFrame m #[(.int (Int32.ofNat kx))] 1)) t := fun t k => k1 t (by
      show Steps p.tables e below (s₁.setTop (mkF m 1 #[.val (.int (Int32.ofNat kx))] [(.int (Int32.ofNat kx))])) _
      refine XS.tswIn X0.here hx rfl (pc0 := 1) (pc' := 92) (o := 91) rfl (hb hby d1_1) rfl (by rw [hp]; decide) (by rw [hp]; rfl) (by decide) (by decide) ?_
      exact k)
    obtain ⟨T3, X3, e3, st3⟩ := getS (host := "") X0 hx hZ hown (hw _ (List.mem_of_getElem? (i := 6) rfl)) Via.refl e0 S_0 (g := (mkF m 92 #[.val (.int (Int32.ofNat kx))] [])) rfl (hb hby d1_92)
    have k4 : ∀ t, Steps p.tables e below (T3.setTop (mkF m 95 #[.val (.int (Int32.ofNat kx))] [(.ref (f 0))])) t → Steps p.tables e below (s₁.setTop (entryFrame m #[(.int (Int32.ofNat kx))] 1)) t := fun t k => k2 t (st3 t k)
    obtain ⟨fs, hr, hrun, hended, hW, hsame⟩ := X3.leave (v := some (.ref (f 0))) (fun h => by rw [Bd.returns] at h; cases h)
    refine ⟨_, _, k4 _ ?_, hrun, hended, _, _, rfl, ?_, ⟨_, rfl⟩, hW, hsame.mono (by decide) (by decide)⟩
    · show Steps p.tables e below (T3.setTop (mkF m 95 #[.val (.int (Int32.ofNat kx))] [(.ref (f 0))])) _
      exact retOut X3 hx Bd.returns rfl (Or.inr (Or.inr (Or.inr (Or.inr ⟨rfl, rfl, rfl⟩)))) (hb hby d1_95) hr
    · show Q1 Z kx f h0 n0 _ T3.heap _
      rw [e3]
      exact ⟨by rw [hp], N0, rfl⟩
  · have k6 : ∀ t, Steps p.tables e below (s₁.setTop (mkF m 96 #[.val (.int (Int32.ofNat kx))] [])) t → Steps p.tables e below (s₁.setTop (entryFrame m #[(.int (Int32.ofNat kx))] 1)) t := fun t k => k1 t (by
      show Steps p.tables e below (s₁.setTop (mkF m 1 #[.val (.int (Int32.ofNat kx))] [(.int (Int32.ofNat kx))])) _
      refine XS.tswIn X0.here hx rfl (pc0 := 1) (pc' := 96) (o := 95) rfl (hb hby d1_1) rfl (by rw [hp]; decide) (by rw [hp]; rfl) (by decide) (by decide) ?_
      exact k)
    obtain ⟨T7, X7, e7, st7⟩ := getS (host := "") X0 hx hZ hown (hw _ (List.mem_of_getElem? (i := 18) rfl)) Via.refl e0 S_1 (g := (mkF m 96 #[.val (.int (Int32.ofNat kx))] [])) rfl (hb hby d1_96)
    have k8 : ∀ t, Steps p.tables e below (T7.setTop (mkF m 99 #[.val (.int (Int32.ofNat kx))] [(.ref (f 1))])) t → Steps p.tables e below (s₁.setTop (entryFrame m #[(.int (Int32.ofNat kx))] 1)) t := fun t k => k6 t (st7 t k)
    obtain ⟨fs, hr, hrun, hended, hW, hsame⟩ := X7.leave (v := some (.ref (f 1))) (fun h => by rw [Bd.returns] at h; cases h)
    refine ⟨_, _, k8 _ ?_, hrun, hended, _, _, rfl, ?_, ⟨_, rfl⟩, hW, hsame.mono (by decide) (by decide)⟩
    · show Steps p.tables e below (T7.setTop (mkF m 99 #[.val (.int (Int32.ofNat kx))] [(.ref (f 1))])) _
      exact retOut X7 hx Bd.returns rfl (Or.inr (Or.inr (Or.inr (Or.inr ⟨rfl, rfl, rfl⟩)))) (hb hby d1_99) hr
    · show Q1 Z kx f h0 n0 _ T7.heap _
      rw [e7]
      exact ⟨by rw [hp], N0, rfl⟩
  · have k10 : ∀ t, Steps p.tables e below (s₁.setTop (mkF m 100 #[.val (.int (Int32.ofNat kx))] [])) t → Steps p.tables e below (s₁.setTop (entryFrame m #[(.int (Int32.ofNat kx))] 1)) t := fun t k => k1 t (by
      show Steps p.tables e below (s₁.setTop (mkF m 1 #[.val (.int (Int32.ofNat kx))] [(.int (Int32.ofNat kx))])) _
      refine XS.tswIn X0.here hx rfl (pc0 := 1) (pc' := 100) (o := 99) rfl (hb hby d1_1) rfl (by rw [hp]; decide) (by rw [hp]; rfl) (by decide) (by decide) ?_
      exact k)
    obtain ⟨T11, X11, e11, st11⟩ := getS (host := "") X0 hx hZ hown (hw _ (List.mem_of_getElem? (i := 38) rfl)) Via.refl e0 S_2 (g := (mkF m 100 #[.val (.int (Int32.ofNat kx))] [])) rfl (hb hby d1_100)
    have k12 : ∀ t, Steps p.tables e below (T11.setTop (mkF m 103 #[.val (.int (Int32.ofNat kx))] [(.ref (f 2))])) t → Steps p.tables e below (s₁.setTop (entryFrame m #[(.int (Int32.ofNat kx))] 1)) t := fun t k => k10 t (st11 t k)
    obtain ⟨fs, hr, hrun, hended, hW, hsame⟩ := X11.leave (v := some (.ref (f 2))) (fun h => by rw [Bd.returns] at h; cases h)
    refine ⟨_, _, k12 _ ?_, hrun, hended, _, _, rfl, ?_, ⟨_, rfl⟩, hW, hsame.mono (by decide) (by decide)⟩
    · show Steps p.tables e below (T11.setTop (mkF m 103 #[.val (.int (Int32.ofNat kx))] [(.ref (f 2))])) _
      exact retOut X11 hx Bd.returns rfl (Or.inr (Or.inr (Or.inr (Or.inr ⟨rfl, rfl, rfl⟩)))) (hb hby d1_103) hr
    · show Q1 Z kx f h0 n0 _ T11.heap _
      rw [e11]
      exact ⟨by rw [hp], N0, rfl⟩
  · have k14 : ∀ t, Steps p.tables e below (s₁.setTop (mkF m 104 #[.val (.int (Int32.ofNat kx))] [])) t → Steps p.tables e below (s₁.setTop (entryFrame m #[(.int (Int32.ofNat kx))] 1)) t := fun t k => k1 t (by
      show Steps p.tables e below (s₁.setTop (mkF m 1 #[.val (.int (Int32.ofNat kx))] [(.int (Int32.ofNat kx))])) _
      refine XS.tswIn X0.here hx rfl (pc0 := 1) (pc' := 104) (o := 103) rfl (hb hby d1_1) rfl (by rw [hp]; decide) (by rw [hp]; rfl) (by decide) (by decide) ?_
      exact k)
    obtain ⟨T15, X15, e15, st15⟩ := getS (host := "") X0 hx hZ hown (hw _ (List.mem_of_getElem? (i := 28) rfl)) Via.refl e0 S_3 (g := (mkF m 104 #[.val (.int (Int32.ofNat kx))] [])) rfl (hb hby d1_104)
    have k16 : ∀ t, Steps p.tables e below (T15.setTop (mkF m 107 #[.val (.int (Int32.ofNat kx))] [(.ref (f 3))])) t → Steps p.tables e below (s₁.setTop (entryFrame m #[(.int (Int32.ofNat kx))] 1)) t := fun t k => k14 t (st15 t k)
    obtain ⟨fs, hr, hrun, hended, hW, hsame⟩ := X15.leave (v := some (.ref (f 3))) (fun h => by rw [Bd.returns] at h; cases h)
    refine ⟨_, _, k16 _ ?_, hrun, hended, _, _, rfl, ?_, ⟨_, rfl⟩, hW, hsame.mono (by decide) (by decide)⟩
    · show Steps p.tables e below (T15.setTop (mkF m 107 #[.val (.int (Int32.ofNat kx))] [(.ref (f 3))])) _
      exact retOut X15 hx Bd.returns rfl (Or.inr (Or.inr (Or.inr (Or.inr ⟨rfl, rfl, rfl⟩)))) (hb hby d1_107) hr
    · show Q1 Z kx f h0 n0 _ T15.heap _
      rw [e15]
      exact ⟨by rw [hp], N0, rfl⟩
  · have k18 : ∀ t, Steps p.tables e below (s₁.setTop (mkF m 108 #[.val (.int (Int32.ofNat kx))] [])) t → Steps p.tables e below (s₁.setTop (entryFrame m #[(.int (Int32.ofNat kx))] 1)) t := fun t k => k1 t (by
      show Steps p.tables e below (s₁.setTop (mkF m 1 #[.val (.int (Int32.ofNat kx))] [(.int (Int32.ofNat kx))])) _
      refine XS.tswIn X0.here hx rfl (pc0 := 1) (pc' := 108) (o := 107) rfl (hb hby d1_1) rfl (by rw [hp]; decide) (by rw [hp]; rfl) (by decide) (by decide) ?_
      exact k)
    obtain ⟨T19, X19, e19, st19⟩ := getS (host := "") X0 hx hZ hown (hw _ (List.mem_of_getElem? (i := 20) rfl)) Via.refl e0 S_4 (g := (mkF m 108 #[.val (.int (Int32.ofNat kx))] [])) rfl (hb hby d1_108)
    have k20 : ∀ t, Steps p.tables e below (T19.setTop (mkF m 111 #[.val (.int (Int32.ofNat kx))] [(.ref (f 4))])) t → Steps p.tables e below (s₁.setTop (entryFrame m #[(.int (Int32.ofNat kx))] 1)) t := fun t k => k18 t (st19 t k)
    obtain ⟨fs, hr, hrun, hended, hW, hsame⟩ := X19.leave (v := some (.ref (f 4))) (fun h => by rw [Bd.returns] at h; cases h)
    refine ⟨_, _, k20 _ ?_, hrun, hended, _, _, rfl, ?_, ⟨_, rfl⟩, hW, hsame.mono (by decide) (by decide)⟩
    · show Steps p.tables e below (T19.setTop (mkF m 111 #[.val (.int (Int32.ofNat kx))] [(.ref (f 4))])) _
      exact retOut X19 hx Bd.returns rfl (Or.inr (Or.inr (Or.inr (Or.inr ⟨rfl, rfl, rfl⟩)))) (hb hby d1_111) hr
    · show Q1 Z kx f h0 n0 _ T19.heap _
      rw [e19]
      exact ⟨by rw [hp], N0, rfl⟩
  · have k22 : ∀ t, Steps p.tables e below (s₁.setTop (mkF m 112 #[.val (.int (Int32.ofNat kx))] [])) t → Steps p.tables e below (s₁.setTop (entryFrame m #[(.int (Int32.ofNat kx))] 1)) t := fun t k => k1 t (by
      show Steps p.tables e below (s₁.setTop (mkF m 1 #[.val (.int (Int32.ofNat kx))] [(.int (Int32.ofNat kx))])) _
      refine XS.tswIn X0.here hx rfl (pc0 := 1) (pc' := 112) (o := 111) rfl (hb hby d1_1) rfl (by rw [hp]; decide) (by rw [hp]; rfl) (by decide) (by decide) ?_
      exact k)
    obtain ⟨T23, X23, e23, st23⟩ := getS (host := "") X0 hx hZ hown (hw _ (List.mem_of_getElem? (i := 46) rfl)) Via.refl e0 S_5 (g := (mkF m 112 #[.val (.int (Int32.ofNat kx))] [])) rfl (hb hby d1_112)
    have k24 : ∀ t, Steps p.tables e below (T23.setTop (mkF m 115 #[.val (.int (Int32.ofNat kx))] [(.ref (f 5))])) t → Steps p.tables e below (s₁.setTop (entryFrame m #[(.int (Int32.ofNat kx))] 1)) t := fun t k => k22 t (st23 t k)
    obtain ⟨fs, hr, hrun, hended, hW, hsame⟩ := X23.leave (v := some (.ref (f 5))) (fun h => by rw [Bd.returns] at h; cases h)
    refine ⟨_, _, k24 _ ?_, hrun, hended, _, _, rfl, ?_, ⟨_, rfl⟩, hW, hsame.mono (by decide) (by decide)⟩
    · show Steps p.tables e below (T23.setTop (mkF m 115 #[.val (.int (Int32.ofNat kx))] [(.ref (f 5))])) _
      exact retOut X23 hx Bd.returns rfl (Or.inr (Or.inr (Or.inr (Or.inr ⟨rfl, rfl, rfl⟩)))) (hb hby d1_115) hr
    · show Q1 Z kx f h0 n0 _ T23.heap _
      rw [e23]
      exact ⟨by rw [hp], N0, rfl⟩
  · have k26 : ∀ t, Steps p.tables e below (s₁.setTop (mkF m 116 #[.val (.int (Int32.ofNat kx))] [])) t → Steps p.tables e below (s₁.setTop (entryFrame m #[(.int (Int32.ofNat kx))] 1)) t := fun t k => k1 t (by
      show Steps p.tables e below (s₁.setTop (mkF m 1 #[.val (.int (Int32.ofNat kx))] [(.int (Int32.ofNat kx))])) _
      refine XS.tswIn X0.here hx rfl (pc0 := 1) (pc' := 116) (o := 115) rfl (hb hby d1_1) rfl (by rw [hp]; decide) (by rw [hp]; rfl) (by decide) (by decide) ?_
      exact k)
    obtain ⟨T27, X27, e27, st27⟩ := getS (host := "") X0 hx hZ hown (hw _ (List.mem_of_getElem? (i := 42) rfl)) Via.refl e0 S_6 (g := (mkF m 116 #[.val (.int (Int32.ofNat kx))] [])) rfl (hb hby d1_116)
    have k28 : ∀ t, Steps p.tables e below (T27.setTop (mkF m 119 #[.val (.int (Int32.ofNat kx))] [(.ref (f 6))])) t → Steps p.tables e below (s₁.setTop (entryFrame m #[(.int (Int32.ofNat kx))] 1)) t := fun t k => k26 t (st27 t k)
    obtain ⟨fs, hr, hrun, hended, hW, hsame⟩ := X27.leave (v := some (.ref (f 6))) (fun h => by rw [Bd.returns] at h; cases h)
    refine ⟨_, _, k28 _ ?_, hrun, hended, _, _, rfl, ?_, ⟨_, rfl⟩, hW, hsame.mono (by decide) (by decide)⟩
    · show Steps p.tables e below (T27.setTop (mkF m 119 #[.val (.int (Int32.ofNat kx))] [(.ref (f 6))])) _
      exact retOut X27 hx Bd.returns rfl (Or.inr (Or.inr (Or.inr (Or.inr ⟨rfl, rfl, rfl⟩)))) (hb hby d1_119) hr
    · show Q1 Z kx f h0 n0 _ T27.heap _
      rw [e27]
      exact ⟨by rw [hp], N0, rfl⟩
  · have k30 : ∀ t, Steps p.tables e below (s₁.setTop (mkF m 120 #[.val (.int (Int32.ofNat kx))] [])) t → Steps p.tables e below (s₁.setTop (entryFrame m #[(.int (Int32.ofNat kx))] 1)) t := fun t k => k1 t (by
      show Steps p.tables e below (s₁.setTop (mkF m 1 #[.val (.int (Int32.ofNat kx))] [(.int (Int32.ofNat kx))])) _
      refine XS.tswIn X0.here hx rfl (pc0 := 1) (pc' := 120) (o := 119) rfl (hb hby d1_1) rfl (by rw [hp]; decide) (by rw [hp]; rfl) (by decide) (by decide) ?_
      exact k)
    obtain ⟨T31, X31, e31, st31⟩ := getS (host := "") X0 hx hZ hown (hw _ (List.mem_of_getElem? (i := 50) rfl)) Via.refl e0 S_7 (g := (mkF m 120 #[.val (.int (Int32.ofNat kx))] [])) rfl (hb hby d1_120)
    have k32 : ∀ t, Steps p.tables e below (T31.setTop (mkF m 123 #[.val (.int (Int32.ofNat kx))] [(.ref (f 7))])) t → Steps p.tables e below (s₁.setTop (entryFrame m #[(.int (Int32.ofNat kx))] 1)) t := fun t k => k30 t (st31 t k)
    obtain ⟨fs, hr, hrun, hended, hW, hsame⟩ := X31.leave (v := some (.ref (f 7))) (fun h => by rw [Bd.returns] at h; cases h)
    refine ⟨_, _, k32 _ ?_, hrun, hended, _, _, rfl, ?_, ⟨_, rfl⟩, hW, hsame.mono (by decide) (by decide)⟩
    · show Steps p.tables e below (T31.setTop (mkF m 123 #[.val (.int (Int32.ofNat kx))] [(.ref (f 7))])) _
      exact retOut X31 hx Bd.returns rfl (Or.inr (Or.inr (Or.inr (Or.inr ⟨rfl, rfl, rfl⟩)))) (hb hby d1_123) hr
    · show Q1 Z kx f h0 n0 _ T31.heap _
      rw [e31]
      exact ⟨by rw [hp], N0, rfl⟩
  · have k34 : ∀ t, Steps p.tables e below (s₁.setTop (mkF m 124 #[.val (.int (Int32.ofNat kx))] [])) t → Steps p.tables e below (s₁.setTop (entryFrame m #[(.int (Int32.ofNat kx))] 1)) t := fun t k => k1 t (by
      show Steps p.tables e below (s₁.setTop (mkF m 1 #[.val (.int (Int32.ofNat kx))] [(.int (Int32.ofNat kx))])) _
      refine XS.tswIn X0.here hx rfl (pc0 := 1) (pc' := 124) (o := 123) rfl (hb hby d1_1) rfl (by rw [hp]; decide) (by rw [hp]; rfl) (by decide) (by decide) ?_
      exact k)
    obtain ⟨T35, X35, e35, st35⟩ := getS (host := "") X0 hx hZ hown (hw _ (List.mem_of_getElem? (i := 24) rfl)) Via.refl e0 S_8 (g := (mkF m 124 #[.val (.int (Int32.ofNat kx))] [])) rfl (hb hby d1_124)
    have k36 : ∀ t, Steps p.tables e below (T35.setTop (mkF m 127 #[.val (.int (Int32.ofNat kx))] [(.ref (f 8))])) t → Steps p.tables e below (s₁.setTop (entryFrame m #[(.int (Int32.ofNat kx))] 1)) t := fun t k => k34 t (st35 t k)
    obtain ⟨fs, hr, hrun, hended, hW, hsame⟩ := X35.leave (v := some (.ref (f 8))) (fun h => by rw [Bd.returns] at h; cases h)
    refine ⟨_, _, k36 _ ?_, hrun, hended, _, _, rfl, ?_, ⟨_, rfl⟩, hW, hsame.mono (by decide) (by decide)⟩
    · show Steps p.tables e below (T35.setTop (mkF m 127 #[.val (.int (Int32.ofNat kx))] [(.ref (f 8))])) _
      exact retOut X35 hx Bd.returns rfl (Or.inr (Or.inr (Or.inr (Or.inr ⟨rfl, rfl, rfl⟩)))) (hb hby d1_127) hr
    · show Q1 Z kx f h0 n0 _ T35.heap _
      rw [e35]
      exact ⟨by rw [hp], N0, rfl⟩
  · have k38 : ∀ t, Steps p.tables e below (s₁.setTop (mkF m 128 #[.val (.int (Int32.ofNat kx))] [])) t → Steps p.tables e below (s₁.setTop (entryFrame m #[(.int (Int32.ofNat kx))] 1)) t := fun t k => k1 t (by
      show Steps p.tables e below (s₁.setTop (mkF m 1 #[.val (.int (Int32.ofNat kx))] [(.int (Int32.ofNat kx))])) _
      refine XS.tswIn X0.here hx rfl (pc0 := 1) (pc' := 128) (o := 127) rfl (hb hby d1_1) rfl (by rw [hp]; decide) (by rw [hp]; rfl) (by decide) (by decide) ?_
      exact k)
    obtain ⟨T39, X39, e39, st39⟩ := getS (host := "") X0 hx hZ hown (hw _ (List.mem_of_getElem? (i := 36) rfl)) Via.refl e0 S_9 (g := (mkF m 128 #[.val (.int (Int32.ofNat kx))] [])) rfl (hb hby d1_128)
    have k40 : ∀ t, Steps p.tables e below (T39.setTop (mkF m 131 #[.val (.int (Int32.ofNat kx))] [(.ref (f 9))])) t → Steps p.tables e below (s₁.setTop (entryFrame m #[(.int (Int32.ofNat kx))] 1)) t := fun t k => k38 t (st39 t k)
    obtain ⟨fs, hr, hrun, hended, hW, hsame⟩ := X39.leave (v := some (.ref (f 9))) (fun h => by rw [Bd.returns] at h; cases h)
    refine ⟨_, _, k40 _ ?_, hrun, hended, _, _, rfl, ?_, ⟨_, rfl⟩, hW, hsame.mono (by decide) (by decide)⟩
    · show Steps p.tables e below (T39.setTop (mkF m 131 #[.val (.int (Int32.ofNat kx))] [(.ref (f 9))])) _
      exact retOut X39 hx Bd.returns rfl (Or.inr (Or.inr (Or.inr (Or.inr ⟨rfl, rfl, rfl⟩)))) (hb hby d1_131) hr
    · show Q1 Z kx f h0 n0 _ T39.heap _
      rw [e39]
      exact ⟨by rw [hp], N0, rfl⟩
  · have k42 : ∀ t, Steps p.tables e below (s₁.setTop (mkF m 132 #[.val (.int (Int32.ofNat kx))] [])) t → Steps p.tables e below (s₁.setTop (entryFrame m #[(.int (Int32.ofNat kx))] 1)) t := fun t k => k1 t (by
      show Steps p.tables e below (s₁.setTop (mkF m 1 #[.val (.int (Int32.ofNat kx))] [(.int (Int32.ofNat kx))])) _
      refine XS.tswIn X0.here hx rfl (pc0 := 1) (pc' := 132) (o := 131) rfl (hb hby d1_1) rfl (by rw [hp]; decide) (by rw [hp]; rfl) (by decide) (by decide) ?_
      exact k)
    obtain ⟨T43, X43, e43, st43⟩ := getS (host := "") X0 hx hZ hown (hw _ (List.mem_of_getElem? (i := 30) rfl)) Via.refl e0 S_10 (g := (mkF m 132 #[.val (.int (Int32.ofNat kx))] [])) rfl (hb hby d1_132)
    have k44 : ∀ t, Steps p.tables e below (T43.setTop (mkF m 135 #[.val (.int (Int32.ofNat kx))] [(.ref (f 10))])) t → Steps p.tables e below (s₁.setTop (entryFrame m #[(.int (Int32.ofNat kx))] 1)) t := fun t k => k42 t (st43 t k)
    obtain ⟨fs, hr, hrun, hended, hW, hsame⟩ := X43.leave (v := some (.ref (f 10))) (fun h => by rw [Bd.returns] at h; cases h)
    refine ⟨_, _, k44 _ ?_, hrun, hended, _, _, rfl, ?_, ⟨_, rfl⟩, hW, hsame.mono (by decide) (by decide)⟩
    · show Steps p.tables e below (T43.setTop (mkF m 135 #[.val (.int (Int32.ofNat kx))] [(.ref (f 10))])) _
      exact retOut X43 hx Bd.returns rfl (Or.inr (Or.inr (Or.inr (Or.inr ⟨rfl, rfl, rfl⟩)))) (hb hby d1_135) hr
    · show Q1 Z kx f h0 n0 _ T43.heap _
      rw [e43]
      exact ⟨by rw [hp], N0, rfl⟩
  · have k46 : ∀ t, Steps p.tables e below (s₁.setTop (mkF m 136 #[.val (.int (Int32.ofNat kx))] [])) t → Steps p.tables e below (s₁.setTop (entryFrame m #[(.int (Int32.ofNat kx))] 1)) t := fun t k => k1 t (by
      show Steps p.tables e below (s₁.setTop (mkF m 1 #[.val (.int (Int32.ofNat kx))] [(.int (Int32.ofNat kx))])) _
      refine XS.tswIn X0.here hx rfl (pc0 := 1) (pc' := 136) (o := 135) rfl (hb hby d1_1) rfl (by rw [hp]; decide) (by rw [hp]; rfl) (by decide) (by decide) ?_
      exact k)
    obtain ⟨T47, X47, e47, st47⟩ := getS (host := "") X0 hx hZ hown (hw _ (List.mem_of_getElem? (i := 40) rfl)) Via.refl e0 S_11 (g := (mkF m 136 #[.val (.int (Int32.ofNat kx))] [])) rfl (hb hby d1_136)
    have k48 : ∀ t, Steps p.tables e below (T47.setTop (mkF m 139 #[.val (.int (Int32.ofNat kx))] [(.ref (f 11))])) t → Steps p.tables e below (s₁.setTop (entryFrame m #[(.int (Int32.ofNat kx))] 1)) t := fun t k => k46 t (st47 t k)
    obtain ⟨fs, hr, hrun, hended, hW, hsame⟩ := X47.leave (v := some (.ref (f 11))) (fun h => by rw [Bd.returns] at h; cases h)
    refine ⟨_, _, k48 _ ?_, hrun, hended, _, _, rfl, ?_, ⟨_, rfl⟩, hW, hsame.mono (by decide) (by decide)⟩
    · show Steps p.tables e below (T47.setTop (mkF m 139 #[.val (.int (Int32.ofNat kx))] [(.ref (f 11))])) _
      exact retOut X47 hx Bd.returns rfl (Or.inr (Or.inr (Or.inr (Or.inr ⟨rfl, rfl, rfl⟩)))) (hb hby d1_139) hr
    · show Q1 Z kx f h0 n0 _ T47.heap _
      rw [e47]
      exact ⟨by rw [hp], N0, rfl⟩
  · have k50 : ∀ t, Steps p.tables e below (s₁.setTop (mkF m 140 #[.val (.int (Int32.ofNat kx))] [])) t → Steps p.tables e below (s₁.setTop (entryFrame m #[(.int (Int32.ofNat kx))] 1)) t := fun t k => k1 t (by
      show Steps p.tables e below (s₁.setTop (mkF m 1 #[.val (.int (Int32.ofNat kx))] [(.int (Int32.ofNat kx))])) _
      refine XS.tswIn X0.here hx rfl (pc0 := 1) (pc' := 140) (o := 139) rfl (hb hby d1_1) rfl (by rw [hp]; decide) (by rw [hp]; rfl) (by decide) (by decide) ?_
      exact k)
    obtain ⟨T51, X51, e51, st51⟩ := getS (host := "") X0 hx hZ hown (hw _ (List.mem_of_getElem? (i := 54) rfl)) Via.refl e0 S_12 (g := (mkF m 140 #[.val (.int (Int32.ofNat kx))] [])) rfl (hb hby d1_140)
    have k52 : ∀ t, Steps p.tables e below (T51.setTop (mkF m 143 #[.val (.int (Int32.ofNat kx))] [(.ref (f 12))])) t → Steps p.tables e below (s₁.setTop (entryFrame m #[(.int (Int32.ofNat kx))] 1)) t := fun t k => k50 t (st51 t k)
    obtain ⟨fs, hr, hrun, hended, hW, hsame⟩ := X51.leave (v := some (.ref (f 12))) (fun h => by rw [Bd.returns] at h; cases h)
    refine ⟨_, _, k52 _ ?_, hrun, hended, _, _, rfl, ?_, ⟨_, rfl⟩, hW, hsame.mono (by decide) (by decide)⟩
    · show Steps p.tables e below (T51.setTop (mkF m 143 #[.val (.int (Int32.ofNat kx))] [(.ref (f 12))])) _
      exact retOut X51 hx Bd.returns rfl (Or.inr (Or.inr (Or.inr (Or.inr ⟨rfl, rfl, rfl⟩)))) (hb hby d1_143) hr
    · show Q1 Z kx f h0 n0 _ T51.heap _
      rw [e51]
      exact ⟨by rw [hp], N0, rfl⟩
  · have k54 : ∀ t, Steps p.tables e below (s₁.setTop (mkF m 144 #[.val (.int (Int32.ofNat kx))] [])) t → Steps p.tables e below (s₁.setTop (entryFrame m #[(.int (Int32.ofNat kx))] 1)) t := fun t k => k1 t (by
      show Steps p.tables e below (s₁.setTop (mkF m 1 #[.val (.int (Int32.ofNat kx))] [(.int (Int32.ofNat kx))])) _
      refine XS.tswIn X0.here hx rfl (pc0 := 1) (pc' := 144) (o := 143) rfl (hb hby d1_1) rfl (by rw [hp]; decide) (by rw [hp]; rfl) (by decide) (by decide) ?_
      exact k)
    obtain ⟨T55, X55, e55, st55⟩ := getS (host := "") X0 hx hZ hown (hw _ (List.mem_of_getElem? (i := 44) rfl)) Via.refl e0 S_13 (g := (mkF m 144 #[.val (.int (Int32.ofNat kx))] [])) rfl (hb hby d1_144)
    have k56 : ∀ t, Steps p.tables e below (T55.setTop (mkF m 147 #[.val (.int (Int32.ofNat kx))] [(.ref (f 13))])) t → Steps p.tables e below (s₁.setTop (entryFrame m #[(.int (Int32.ofNat kx))] 1)) t := fun t k => k54 t (st55 t k)
    obtain ⟨fs, hr, hrun, hended, hW, hsame⟩ := X55.leave (v := some (.ref (f 13))) (fun h => by rw [Bd.returns] at h; cases h)
    refine ⟨_, _, k56 _ ?_, hrun, hended, _, _, rfl, ?_, ⟨_, rfl⟩, hW, hsame.mono (by decide) (by decide)⟩
    · show Steps p.tables e below (T55.setTop (mkF m 147 #[.val (.int (Int32.ofNat kx))] [(.ref (f 13))])) _
      exact retOut X55 hx Bd.returns rfl (Or.inr (Or.inr (Or.inr (Or.inr ⟨rfl, rfl, rfl⟩)))) (hb hby d1_147) hr
    · show Q1 Z kx f h0 n0 _ T55.heap _
      rw [e55]
      exact ⟨by rw [hp], N0, rfl⟩
  · have k58 : ∀ t, Steps p.tables e below (s₁.setTop (mkF m 148 #[.val (.int (Int32.ofNat kx))] [])) t → Steps p.tables e below (s₁.setTop (entryFrame m #[(.int (Int32.ofNat kx))] 1)) t := fun t k => k1 t (by
      show Steps p.tables e below (s₁.setTop (mkF m 1 #[.val (.int (Int32.ofNat kx))] [(.int (Int32.ofNat kx))])) _
      refine XS.tswIn X0.here hx rfl (pc0 := 1) (pc' := 148) (o := 147) rfl (hb hby d1_1) rfl (by rw [hp]; decide) (by rw [hp]; rfl) (by decide) (by decide) ?_
      exact k)
    obtain ⟨T59, X59, e59, st59⟩ := getS (host := "") X0 hx hZ hown (hw _ (List.mem_of_getElem? (i := 26) rfl)) Via.refl e0 S_14 (g := (mkF m 148 #[.val (.int (Int32.ofNat kx))] [])) rfl (hb hby d1_148)
    have k60 : ∀ t, Steps p.tables e below (T59.setTop (mkF m 151 #[.val (.int (Int32.ofNat kx))] [(.ref (f 14))])) t → Steps p.tables e below (s₁.setTop (entryFrame m #[(.int (Int32.ofNat kx))] 1)) t := fun t k => k58 t (st59 t k)
    obtain ⟨fs, hr, hrun, hended, hW, hsame⟩ := X59.leave (v := some (.ref (f 14))) (fun h => by rw [Bd.returns] at h; cases h)
    refine ⟨_, _, k60 _ ?_, hrun, hended, _, _, rfl, ?_, ⟨_, rfl⟩, hW, hsame.mono (by decide) (by decide)⟩
    · show Steps p.tables e below (T59.setTop (mkF m 151 #[.val (.int (Int32.ofNat kx))] [(.ref (f 14))])) _
      exact retOut X59 hx Bd.returns rfl (Or.inr (Or.inr (Or.inr (Or.inr ⟨rfl, rfl, rfl⟩)))) (hb hby d1_151) hr
    · show Q1 Z kx f h0 n0 _ T59.heap _
      rw [e59]
      exact ⟨by rw [hp], N0, rfl⟩
  · have k62 : ∀ t, Steps p.tables e below (s₁.setTop (mkF m 152 #[.val (.int (Int32.ofNat kx))] [])) t → Steps p.tables e below (s₁.setTop (entryFrame m #[(.int (Int32.ofNat kx))] 1)) t := fun t k => k1 t (by
      show Steps p.tables e below (s₁.setTop (mkF m 1 #[.val (.int (Int32.ofNat kx))] [(.int (Int32.ofNat kx))])) _
      refine XS.tswIn X0.here hx rfl (pc0 := 1) (pc' := 152) (o := 151) rfl (hb hby d1_1) rfl (by rw [hp]; decide) (by rw [hp]; rfl) (by decide) (by decide) ?_
      exact k)
    obtain ⟨T63, X63, e63, st63⟩ := getS (host := "") X0 hx hZ hown (hw _ (List.mem_of_getElem? (i := 22) rfl)) Via.refl e0 S_15 (g := (mkF m 152 #[.val (.int (Int32.ofNat kx))] [])) rfl (hb hby d1_152)
    have k64 : ∀ t, Steps p.tables e below (T63.setTop (mkF m 155 #[.val (.int (Int32.ofNat kx))] [(.ref (f 15))])) t → Steps p.tables e below (s₁.setTop (entryFrame m #[(.int (Int32.ofNat kx))] 1)) t := fun t k => k62 t (st63 t k)
    obtain ⟨fs, hr, hrun, hended, hW, hsame⟩ := X63.leave (v := some (.ref (f 15))) (fun h => by rw [Bd.returns] at h; cases h)
    refine ⟨_, _, k64 _ ?_, hrun, hended, _, _, rfl, ?_, ⟨_, rfl⟩, hW, hsame.mono (by decide) (by decide)⟩
    · show Steps p.tables e below (T63.setTop (mkF m 155 #[.val (.int (Int32.ofNat kx))] [(.ref (f 15))])) _
      exact retOut X63 hx Bd.returns rfl (Or.inr (Or.inr (Or.inr (Or.inr ⟨rfl, rfl, rfl⟩)))) (hb hby d1_155) hr
    · show Q1 Z kx f h0 n0 _ T63.heap _
      rw [e63]
      exact ⟨by rw [hp], N0, rfl⟩
  · have k66 : ∀ t, Steps p.tables e below (s₁.setTop (mkF m 156 #[.val (.int (Int32.ofNat kx))] [])) t → Steps p.tables e below (s₁.setTop (entryFrame m #[(.int (Int32.ofNat kx))] 1)) t := fun t k => k1 t (by
      show Steps p.tables e below (s₁.setTop (mkF m 1 #[.val (.int (Int32.ofNat kx))] [(.int (Int32.ofNat kx))])) _
      refine XS.tswIn X0.here hx rfl (pc0 := 1) (pc' := 156) (o := 155) rfl (hb hby d1_1) rfl (by rw [hp]; decide) (by rw [hp]; rfl) (by decide) (by decide) ?_
      exact k)
    obtain ⟨T67, X67, e67, st67⟩ := getS (host := "") X0 hx hZ hown (hw _ (List.mem_of_getElem? (i := 32) rfl)) Via.refl e0 S_16 (g := (mkF m 156 #[.val (.int (Int32.ofNat kx))] [])) rfl (hb hby d1_156)
    have k68 : ∀ t, Steps p.tables e below (T67.setTop (mkF m 159 #[.val (.int (Int32.ofNat kx))] [(.ref (f 16))])) t → Steps p.tables e below (s₁.setTop (entryFrame m #[(.int (Int32.ofNat kx))] 1)) t := fun t k => k66 t (st67 t k)
    obtain ⟨fs, hr, hrun, hended, hW, hsame⟩ := X67.leave (v := some (.ref (f 16))) (fun h => by rw [Bd.returns] at h; cases h)
    refine ⟨_, _, k68 _ ?_, hrun, hended, _, _, rfl, ?_, ⟨_, rfl⟩, hW, hsame.mono (by decide) (by decide)⟩
    · show Steps p.tables e below (T67.setTop (mkF m 159 #[.val (.int (Int32.ofNat kx))] [(.ref (f 16))])) _
      exact retOut X67 hx Bd.returns rfl (Or.inr (Or.inr (Or.inr (Or.inr ⟨rfl, rfl, rfl⟩)))) (hb hby d1_159) hr
    · show Q1 Z kx f h0 n0 _ T67.heap _
      rw [e67]
      exact ⟨by rw [hp], N0, rfl⟩
  · have k70 : ∀ t, Steps p.tables e below (s₁.setTop (mkF m 160 #[.val (.int (Int32.ofNat kx))] [])) t → Steps p.tables e below (s₁.setTop (entryFrame m #[(.int (Int32.ofNat kx))] 1)) t := fun t k => k1 t (by
      show Steps p.tables e below (s₁.setTop (mkF m 1 #[.val (.int (Int32.ofNat kx))] [(.int (Int32.ofNat kx))])) _
      refine XS.tswIn X0.here hx rfl (pc0 := 1) (pc' := 160) (o := 159) rfl (hb hby d1_1) rfl (by rw [hp]; decide) (by rw [hp]; rfl) (by decide) (by decide) ?_
      exact k)
    obtain ⟨T71, X71, e71, st71⟩ := getS (host := "") X0 hx hZ hown (hw _ (List.mem_of_getElem? (i := 34) rfl)) Via.refl e0 S_17 (g := (mkF m 160 #[.val (.int (Int32.ofNat kx))] [])) rfl (hb hby d1_160)
    have k72 : ∀ t, Steps p.tables e below (T71.setTop (mkF m 163 #[.val (.int (Int32.ofNat kx))] [(.ref (f 17))])) t → Steps p.tables e below (s₁.setTop (entryFrame m #[(.int (Int32.ofNat kx))] 1)) t := fun t k => k70 t (st71 t k)
    obtain ⟨fs, hr, hrun, hended, hW, hsame⟩ := X71.leave (v := some (.ref (f 17))) (fun h => by rw [Bd.returns] at h; cases h)
    refine ⟨_, _, k72 _ ?_, hrun, hended, _, _, rfl, ?_, ⟨_, rfl⟩, hW, hsame.mono (by decide) (by decide)⟩
    · show Steps p.tables e below (T71.setTop (mkF m 163 #[.val (.int (Int32.ofNat kx))] [(.ref (f 17))])) _
      exact retOut X71 hx Bd.returns rfl (Or.inr (Or.inr (Or.inr (Or.inr ⟨rfl, rfl, rfl⟩)))) (hb hby d1_163) hr
    · show Q1 Z kx f h0 n0 _ T71.heap _
      rw [e71]
      exact ⟨by rw [hp], N0, rfl⟩
  · have k74 : ∀ t, Steps p.tables e below (s₁.setTop (mkF m 164 #[.val (.int (Int32.ofNat kx))] [])) t → Steps p.tables e below (s₁.setTop (entryFrame m #[(.int (Int32.ofNat kx))] 1)) t := fun t k => k1 t (by
      show Steps p.tables e below (s₁.setTop (mkF m 1 #[.val (.int (Int32.ofNat kx))] [(.int (Int32.ofNat kx))])) _
      refine XS.tswIn X0.here hx rfl (pc0 := 1) (pc' := 164) (o := 163) rfl (hb hby d1_1) rfl (by rw [hp]; decide) (by rw [hp]; rfl) (by decide) (by decide) ?_
      exact k)
    obtain ⟨T75, X75, e75, st75⟩ := getS (host := "") X0 hx hZ hown (hw _ (List.mem_of_getElem? (i := 48) rfl)) Via.refl e0 S_18 (g := (mkF m 164 #[.val (.int (Int32.ofNat kx))] [])) rfl (hb hby d1_164)
    have k76 : ∀ t, Steps p.tables e below (T75.setTop (mkF m 167 #[.val (.int (Int32.ofNat kx))] [(.ref (f 18))])) t → Steps p.tables e below (s₁.setTop (entryFrame m #[(.int (Int32.ofNat kx))] 1)) t := fun t k => k74 t (st75 t k)
    obtain ⟨fs, hr, hrun, hended, hW, hsame⟩ := X75.leave (v := some (.ref (f 18))) (fun h => by rw [Bd.returns] at h; cases h)
    refine ⟨_, _, k76 _ ?_, hrun, hended, _, _, rfl, ?_, ⟨_, rfl⟩, hW, hsame.mono (by decide) (by decide)⟩
    · show Steps p.tables e below (T75.setTop (mkF m 167 #[.val (.int (Int32.ofNat kx))] [(.ref (f 18))])) _
      exact retOut X75 hx Bd.returns rfl (Or.inr (Or.inr (Or.inr (Or.inr ⟨rfl, rfl, rfl⟩)))) (hb hby d1_167) hr
    · show Q1 Z kx f h0 n0 _ T75.heap _
      rw [e75]
      exact ⟨by rw [hp], N0, rfl⟩
  · have k78 : ∀ t, Steps p.tables e below (s₁.setTop (mkF m 168 #[.val (.int (Int32.ofNat kx))] [])) t → Steps p.tables e below (s₁.setTop (entryFrame m #[(.int (Int32.ofNat kx))] 1)) t := fun t k => k1 t (by
      show Steps p.tables e below (s₁.setTop (mkF m 1 #[.val (.int (Int32.ofNat kx))] [(.int (Int32.ofNat kx))])) _
      refine XS.tswOut X0.here hx rfl (pc0 := 1) (pc' := 168) rfl (hb hby d1_1) rfl (by rw [hp]; decide) (by decide) (by decide) ?_
      exact k)
    obtain ⟨T79, X79, e79, st79⟩ := getS (host := "") X0 hx hZ hown (hw _ (List.mem_of_getElem? (i := 52) rfl)) Via.refl e0 S_19 (g := (mkF m 168 #[.val (.int (Int32.ofNat kx))] [])) rfl (hb hby d1_168)
    have k80 : ∀ t, Steps p.tables e below (T79.setTop (mkF m 171 #[.val (.int (Int32.ofNat kx))] [(.ref (f 19))])) t → Steps p.tables e below (s₁.setTop (entryFrame m #[(.int (Int32.ofNat kx))] 1)) t := fun t k => k78 t (st79 t k)
    obtain ⟨fs, hr, hrun, hended, hW, hsame⟩ := X79.leave (v := some (.ref (f 19))) (fun h => by rw [Bd.returns] at h; cases h)
    refine ⟨_, _, k80 _ ?_, hrun, hended, _, _, rfl, ?_, ⟨_, rfl⟩, hW, hsame.mono (by decide) (by decide)⟩
    · show Steps p.tables e below (T79.setTop (mkF m 171 #[.val (.int (Int32.ofNat kx))] [(.ref (f 19))])) _
      exact retOut X79 hx Bd.returns rfl (Or.inr (Or.inr (Or.inr (Or.inr ⟨rfl, rfl, rfl⟩)))) (hb hby d1_171) hr
    · show Q1 Z kx f h0 n0 _ T79.heap _
      rw [e79]
      exact ⟨by rw [hp], N0, rfl⟩
theorem d2_0 : decode prog_22_method_10_code 0 = .ok (.iload_n 1, 1) := by decide +kernel
theorem d2_1 : decode prog_22_method_10_code 1 = .ok (.aload_n 0, 1) := by decide +kernel
theorem d2_2 : decode prog_22_method_10_code 2 = .ok (.getfield 92, 3) := by decide +kernel
theorem d2_5 : decode prog_22_method_10_code 5 = .ok (.if_icmp .lt 15, 3) := by decide +kernel
theorem d2_8 : decode prog_22_method_10_code 8 = .ok (.iload_n 1, 1) := by decide +kernel
theorem d2_9 : decode prog_22_method_10_code 9 = .ok (.aload_n 0, 1) := by decide +kernel
theorem d2_10 : decode prog_22_method_10_code 10 = .ok (.getfield 95, 3) := by decide +kernel
theorem d2_13 : decode prog_22_method_10_code 13 = .ok (.if_icmp .gt 7, 3) := by decide +kernel
theorem d2_16 : decode prog_22_method_10_code 16 = .ok (.iconst 1, 1) := by decide +kernel
theorem d2_17 : decode prog_22_method_10_code 17 = .ok (.goto 4, 3) := by decide +kernel
theorem d2_20 : decode prog_22_method_10_code 20 = .ok (.iconst 0, 1) := by decide +kernel
theorem d2_21 : decode prog_22_method_10_code 21 = .ok (.ireturn, 1) := by decide +kernel
theorem pn_1 : plainName "com/example/waxwing/waxwing/protocol/ApiKey" = true := by first | (simp [plainName, overriddenIn]; done) | decide +kernel
theorem ef_2 (m : MethodId) (x0 : Addr) (x1 : Int32) : entryFrame m #[(.ref x0), (.int x1)] 2 = mkF m 0 #[.val (.ref x0), .val (.int x1)] [] := by first | (simp [entryFrame, mkF, argsToLocals, Value.category]; done) | rfl
def Q2 (Z : State) (a : Addr) (p1 : Int32) (ov : Int32) (tv : Int32) (h0 : Heap) (n0 : Nat) (v : Option Value) (h : Heap) (L : List Loc) : Prop := v = some (.int (own_h p1 ov tv)) ∧ Fr n0 L ∧ h = h0
set_option maxRecDepth 65536 in
set_option maxHeartbeats 40000000 in
theorem rm2 (l : Launch) (Z : State) (a0 : Array Value) (hw : ∀ d ∈ tables_1, d.before a0 Z = true) (ws : List Jvm.Cond) (a : Addr) (p1 : Int32) (ov : Int32) (tv : Int32) (h0 : Heap) (n0 : Nat) (Z0 : n0 ≤ h0.size) (F1 : Fld Z h0 a "com/example/waxwing/waxwing/protocol/ApiKey" "oldestVersion" "S" (.int ov)) (F2 : Fld Z h0 a "com/example/waxwing/waxwing/protocol/ApiKey" "latestVersion" "S" (.int tv)) :
    MetFree l (⟨"com/example/waxwing/waxwing/protocol/ApiKey", "handles", "(S)Z"⟩ : MethodName) (head1 (Jvm.Cond.code (⟨"com/example/waxwing/waxwing/protocol/ApiKey", "handles", "(S)Z"⟩ : MethodName) prog_22_method_10_code 2 (some .boolean) :: ws) ({ frames := 0, cells := 0, slots := 0, locals := 0 } : Room)) (fun aa U => aa = #[(.ref a), (.int p1)] ∧ Z.Warmed39 U.vm ∧ U.heap = h0) (fun _ _ _ _ _ => True) (fun _ U o U' => ∃ v L, o = .returned v ∧ Q2 Z a p1 ov tv h0 n0 v U'.heap L ∧ FrameEnd U o U' L ({ frames := 0, cells := 0, slots := 0, locals := 0 } : Room).cells ({ frames := 0, cells := 0, slots := 0, locals := 0 } : Room).slots) := by
  refine MetFree.of_bodySF (plainFor_of_name pn_1) hisR ?_
  intro p e s m args below meth c s₁ Bd hml0 hP hK
  obtain ⟨rfl, hZ, hh⟩ := hP
  have hx := Bd.exec
  have hby := Bd.bytes
  have hml : c.maxLocals = 2 := hml0
  have hown : s.vm.findClass "com/example/waxwing/waxwing/protocol/ApiKey" = some m.cls := findClass_of_methodNamed Bd.named
  have hnm := (name_of_methodNamed Bd.named Bd.method).1
  have X0 : Stand p l e ({ frames := 0, cells := 0, slots := 0, locals := 0 } : Room) s m #[(.ref a), (.int p1)] below meth c s₁ [] 0 0 := Stand.of_body Bd
  have e0 : s₁.heap = h0 := by rw [← hh, Bd.state]; rfl
  have N0 := Fr.nil n0
  have pre0 : ∀ t, Steps p.tables e below (s₁.setTop (mkF m 0 #[.val (.ref a), .val (.int p1)] [])) t → Steps p.tables e below (s₁.setTop (entryFrame m #[(.ref a), (.int p1)] 2)) t := fun t k => castTop (ef_2 m a p1) k
  have k82 : ∀ t, Steps p.tables e below (s₁.setTop (mkF m 2 #[.val (.ref a), .val (.int p1)] [(.ref a), (.int p1)])) t → Steps p.tables e below (s₁.setTop (entryFrame m #[(.ref a), (.int p1)] 2)) t := fun t k => pre0 t (by
    show Steps p.tables e below (s₁.setTop (mkF m 0 #[.val (.ref a), .val (.int p1)] [])) _
    refine XS.iloadN X0.here hx rfl (hb hby d2_0) rfl ?_
    show Steps p.tables e below (s₁.setTop (mkF m 1 #[.val (.ref a), .val (.int p1)] [(.int p1)])) _
    refine XS.aloadN X0.here hx rfl (hb hby d2_1) rfl rfl ?_
    exact k)
  obtain ⟨T83, X83, e83, st83⟩ := getF X0 hx hZ hown (host := "") (Or.inl (hw _ (List.mem_of_getElem? (i := 14) rfl))) Via.refl e0 F1 (g := (mkF m 2 #[.val (.ref a), .val (.int p1)] [(.ref a), (.int p1)])) rfl rfl (hb hby d2_2)
  have k84 : ∀ t, Steps p.tables e below (T83.setTop (mkF m 5 #[.val (.ref a), .val (.int p1)] [(.int ov), (.int p1)])) t → Steps p.tables e below (s₁.setTop (entryFrame m #[(.ref a), (.int p1)] 2)) t := fun t k => k82 t (st83 t k)
  by_cases hc85 : p1 < ov
  · have k86 : ∀ t, Steps p.tables e below (T83.setTop (mkF m 21 #[.val (.ref a), .val (.int p1)] [(.int (0 : Int32))])) t → Steps p.tables e below (s₁.setTop (entryFrame m #[(.ref a), (.int p1)] 2)) t := fun t k => k84 t (by
      show Steps p.tables e below (T83.setTop (mkF m 5 #[.val (.ref a), .val (.int p1)] [(.int ov), (.int p1)])) _
      refine XS.icmpYes X83.here hx rfl (pc0 := 5) (pc' := 20) rfl (hb hby d2_5) rfl (tlt hc85).1 (by decide) (by decide) ?_
      show Steps p.tables e below (T83.setTop (mkF m 20 #[.val (.ref a), .val (.int p1)] [])) _
      refine XS.iconst X83.here hx rfl (hb hby d2_20) ?_
      exact k)
    obtain ⟨fs, hr, hrun, hended, hW, hsame⟩ := X83.leave (v := some (.int (0 : Int32))) (fun h => by rw [Bd.returns] at h; cases h)
    refine ⟨_, _, k86 _ ?_, hrun, hended, _, _, rfl, ?_, ⟨_, rfl⟩, hW, hsame.mono (by decide) (by decide)⟩
    · show Steps p.tables e below (T83.setTop (mkF m 21 #[.val (.ref a), .val (.int p1)] [(.int (0 : Int32))])) _
      exact retN X83 hx (t := .boolean) Bd.returns (by simp) (hb hby d2_21) hr
    · show Q2 Z a p1 ov tv h0 n0 _ T83.heap _
      rw [e83]
      exact ⟨congrArg (fun z => some (Value.int z)) (show ((0 : Int32) : Int32) = own_h p1 ov tv by unfold own_h; simp only [if_pos hc85]), N0, rfl⟩
  · have k88 : ∀ t, Steps p.tables e below (T83.setTop (mkF m 10 #[.val (.ref a), .val (.int p1)] [(.ref a), (.int p1)])) t → Steps p.tables e below (s₁.setTop (entryFrame m #[(.ref a), (.int p1)] 2)) t := fun t k => k84 t (by
      show Steps p.tables e below (T83.setTop (mkF m 5 #[.val (.ref a), .val (.int p1)] [(.int ov), (.int p1)])) _
      refine XS.icmpNo X83.here hx rfl (hb hby d2_5) rfl (flt hc85).1 ?_
      show Steps p.tables e below (T83.setTop (mkF m 8 #[.val (.ref a), .val (.int p1)] [])) _
      refine XS.iloadN X83.here hx rfl (hb hby d2_8) rfl ?_
      show Steps p.tables e below (T83.setTop (mkF m 9 #[.val (.ref a), .val (.int p1)] [(.int p1)])) _
      refine XS.aloadN X83.here hx rfl (hb hby d2_9) rfl rfl ?_
      exact k)
    obtain ⟨T89, X89, e89, st89⟩ := getF X83 hx hZ hown (host := "") (Or.inl (hw _ (List.mem_of_getElem? (i := 16) rfl))) Via.refl e83 F2 (g := (mkF m 10 #[.val (.ref a), .val (.int p1)] [(.ref a), (.int p1)])) rfl rfl (hb hby d2_10)
    have k90 : ∀ t, Steps p.tables e below (T89.setTop (mkF m 13 #[.val (.ref a), .val (.int p1)] [(.int tv), (.int p1)])) t → Steps p.tables e below (s₁.setTop (entryFrame m #[(.ref a), (.int p1)] 2)) t := fun t k => k88 t (st89 t k)
    by_cases hc91 : tv < p1
    · have k92 : ∀ t, Steps p.tables e below (T89.setTop (mkF m 21 #[.val (.ref a), .val (.int p1)] [(.int (0 : Int32))])) t → Steps p.tables e below (s₁.setTop (entryFrame m #[(.ref a), (.int p1)] 2)) t := fun t k => k90 t (by
        show Steps p.tables e below (T89.setTop (mkF m 13 #[.val (.ref a), .val (.int p1)] [(.int tv), (.int p1)])) _
        refine XS.icmpYes X89.here hx rfl (pc0 := 13) (pc' := 20) rfl (hb hby d2_13) rfl (tlt hc91).2.2.1 (by decide) (by decide) ?_
        show Steps p.tables e below (T89.setTop (mkF m 20 #[.val (.ref a), .val (.int p1)] [])) _
        refine XS.iconst X89.here hx rfl (hb hby d2_20) ?_
        exact k)
      obtain ⟨fs, hr, hrun, hended, hW, hsame⟩ := X89.leave (v := some (.int (0 : Int32))) (fun h => by rw [Bd.returns] at h; cases h)
      refine ⟨_, _, k92 _ ?_, hrun, hended, _, _, rfl, ?_, ⟨_, rfl⟩, hW, hsame.mono (by decide) (by decide)⟩
      · show Steps p.tables e below (T89.setTop (mkF m 21 #[.val (.ref a), .val (.int p1)] [(.int (0 : Int32))])) _
        exact retN X89 hx (t := .boolean) Bd.returns (by simp) (hb hby d2_21) hr
      · show Q2 Z a p1 ov tv h0 n0 _ T89.heap _
        rw [e89]
        exact ⟨congrArg (fun z => some (Value.int z)) (show ((0 : Int32) : Int32) = own_h p1 ov tv by unfold own_h; simp only [if_neg hc85, if_pos hc91]), N0, rfl⟩
    · have k94 : ∀ t, Steps p.tables e below (T89.setTop (mkF m 21 #[.val (.ref a), .val (.int p1)] [(.int (1 : Int32))])) t → Steps p.tables e below (s₁.setTop (entryFrame m #[(.ref a), (.int p1)] 2)) t := fun t k => k90 t (by
        show Steps p.tables e below (T89.setTop (mkF m 13 #[.val (.ref a), .val (.int p1)] [(.int tv), (.int p1)])) _
        refine XS.icmpNo X89.here hx rfl (hb hby d2_13) rfl (flt hc91).2.2.1 ?_
        show Steps p.tables e below (T89.setTop (mkF m 16 #[.val (.ref a), .val (.int p1)] [])) _
        refine XS.iconst X89.here hx rfl (hb hby d2_16) ?_
        show Steps p.tables e below (T89.setTop (mkF m 17 #[.val (.ref a), .val (.int p1)] [(.int (1 : Int32))])) _
        refine XS.goto X89.here hx rfl (pc0 := 17) (pc' := 21) rfl (hb hby d2_17) (by decide) (by decide) ?_
        exact k)
      obtain ⟨fs, hr, hrun, hended, hW, hsame⟩ := X89.leave (v := some (.int (1 : Int32))) (fun h => by rw [Bd.returns] at h; cases h)
      refine ⟨_, _, k94 _ ?_, hrun, hended, _, _, rfl, ?_, ⟨_, rfl⟩, hW, hsame.mono (by decide) (by decide)⟩
      · show Steps p.tables e below (T89.setTop (mkF m 21 #[.val (.ref a), .val (.int p1)] [(.int (1 : Int32))])) _
        exact retN X89 hx (t := .boolean) Bd.returns (by simp) (hb hby d2_21) hr
      · show Q2 Z a p1 ov tv h0 n0 _ T89.heap _
        rw [e89]
        exact ⟨congrArg (fun z => some (Value.int z)) (show ((1 : Int32) : Int32) = own_h p1 ov tv by unfold own_h; simp only [if_neg hc85, if_neg hc91]), N0, rfl⟩
theorem pd_0 : parseMethodDescriptor "(I)Lcom/example/waxwing/waxwing/protocol/ApiKey;" = some ⟨[.int], some (.object "com/example/waxwing/waxwing/protocol/ApiKey")⟩ := by decide +kernel
theorem pd_1 : parseMethodDescriptor "(S)Z" = some ⟨[.short], some .boolean⟩ := by decide +kernel
theorem ef_0 (m : MethodId) (x0 : Int32) (x1 : Int32) (x2 : Int32) : entryFrame m #[(.int x0), (.int x1), (.int x2)] maxLocals = mkF m 0 #[.val (.int x0), .val (.int x1), .val (.int x2), .unset, .unset, .unset, .unset, .unset, .unset, .unset, .unset, .unset] [] := by first | (simp [entryFrame, mkF, argsToLocals, Value.category, maxLocals]; done) | rfl
def Q0 (Z : State) (p0 : Int32) (p1 : Int32) (p2 : Int32) (f : Nat → Addr) (h0 : Heap) (n0 : Nat) (v : Option Value) (h : Heap) (L : List Loc) : Prop := v = some (.int 1) ∧ Fr n0 L
set_option maxRecDepth 65536 in
set_option maxHeartbeats 40000000 in
theorem rm0 (l : Launch) (Z : State) (a0 : Array Value) (hw : ∀ d ∈ tables_1, d.before a0 Z = true) (ws : List Jvm.Cond) (p0 : Int32) (p1 : Int32) (p2 : Int32) (f : Nat → Addr) (h0 : Heap) (n0 : Nat) (Z0 : n0 ≤ h0.size) (O0 : Old Z n0 h0) (S_0 : Sta Z Z.heap "com/example/waxwing/waxwing/protocol/ApiKey" "PRODUCE" "Lcom/example/waxwing/waxwing/protocol/ApiKey;" (.ref (f 0))) (S_1 : Sta Z Z.heap "com/example/waxwing/waxwing/protocol/ApiKey" "FETCH" "Lcom/example/waxwing/waxwing/protocol/ApiKey;" (.ref (f 1))) (S_2 : Sta Z Z.heap "com/example/waxwing/waxwing/protocol/ApiKey" "LIST_OFFSETS" "Lcom/example/waxwing/waxwing/protocol/ApiKey;" (.ref (f 2))) (S_3 : Sta Z Z.heap "com/example/waxwing/waxwing/protocol/ApiKey" "METADATA" "Lcom/example/waxwing/waxwing/protocol/ApiKey;" (.ref (f 3))) (S_4 : Sta Z Z.heap "com/example/waxwing/waxwing/protocol/ApiKey" "OFFSET_COMMIT" "Lcom/example/waxwing/waxwing/protocol/ApiKey;" (.ref (f 4))) (S_5 : Sta Z Z.heap "com/example/waxwing/waxwing/protocol/ApiKey" "OFFSET_FETCH" "Lcom/example/waxwing/waxwing/protocol/ApiKey;" (.ref (f 5))) (S_6 : Sta Z Z.heap "com/example/waxwing/waxwing/protocol/ApiKey" "FIND_COORDINATOR" "Lcom/example/waxwing/waxwing/protocol/ApiKey;" (.ref (f 6))) (S_7 : Sta Z Z.heap "com/example/waxwing/waxwing/protocol/ApiKey" "JOIN_GROUP" "Lcom/example/waxwing/waxwing/protocol/ApiKey;" (.ref (f 7))) (S_8 : Sta Z Z.heap "com/example/waxwing/waxwing/protocol/ApiKey" "HEARTBEAT" "Lcom/example/waxwing/waxwing/protocol/ApiKey;" (.ref (f 8))) (S_9 : Sta Z Z.heap "com/example/waxwing/waxwing/protocol/ApiKey" "LEAVE_GROUP" "Lcom/example/waxwing/waxwing/protocol/ApiKey;" (.ref (f 9))) (S_10 : Sta Z Z.heap "com/example/waxwing/waxwing/protocol/ApiKey" "SYNC_GROUP" "Lcom/example/waxwing/waxwing/protocol/ApiKey;" (.ref (f 10))) (S_11 : Sta Z Z.heap "com/example/waxwing/waxwing/protocol/ApiKey" "DESCRIBE_GROUPS" "Lcom/example/waxwing/waxwing/protocol/ApiKey;" (.ref (f 11))) (S_12 : Sta Z Z.heap "com/example/waxwing/waxwing/protocol/ApiKey" "LIST_GROUPS" "Lcom/example/waxwing/waxwing/protocol/ApiKey;" (.ref (f 12))) (S_13 : Sta Z Z.heap "com/example/waxwing/waxwing/protocol/ApiKey" "API_VERSIONS" "Lcom/example/waxwing/waxwing/protocol/ApiKey;" (.ref (f 13))) (S_14 : Sta Z Z.heap "com/example/waxwing/waxwing/protocol/ApiKey" "CREATE_TOPICS" "Lcom/example/waxwing/waxwing/protocol/ApiKey;" (.ref (f 14))) (S_15 : Sta Z Z.heap "com/example/waxwing/waxwing/protocol/ApiKey" "DELETE_TOPICS" "Lcom/example/waxwing/waxwing/protocol/ApiKey;" (.ref (f 15))) (S_16 : Sta Z Z.heap "com/example/waxwing/waxwing/protocol/ApiKey" "INIT_PRODUCER_ID" "Lcom/example/waxwing/waxwing/protocol/ApiKey;" (.ref (f 16))) (S_17 : Sta Z Z.heap "com/example/waxwing/waxwing/protocol/ApiKey" "DESCRIBE_CONFIGS" "Lcom/example/waxwing/waxwing/protocol/ApiKey;" (.ref (f 17))) (S_18 : Sta Z Z.heap "com/example/waxwing/waxwing/protocol/ApiKey" "CREATE_PARTITIONS" "Lcom/example/waxwing/waxwing/protocol/ApiKey;" (.ref (f 18))) (S_19 : Sta Z Z.heap "com/example/waxwing/waxwing/protocol/ApiKey" "DELETE_GROUPS" "Lcom/example/waxwing/waxwing/protocol/ApiKey;" (.ref (f 19))) (E0 : ∀ k, k < 20 → Exa Z Z.heap (f k) "com/example/waxwing/waxwing/protocol/ApiKey") (F01 : ∀ k, k < 20 → Fld Z Z.heap (f k) "com/example/waxwing/waxwing/protocol/ApiKey" "oldestVersion" "S" (.int (own_lo k))) (F02 : ∀ k, k < 20 → Fld Z Z.heap (f k) "com/example/waxwing/waxwing/protocol/ApiKey" "latestVersion" "S" (.int (own_hi k))) :
    MetFree l x (head1 (Jvm.Cond.code x code maxLocals ret :: ws) room_1) (fun aa U => aa = #[(.int p0), (.int p1), (.int p2)] ∧ Z.Warmed39 U.vm ∧ U.heap = h0) (fun _ _ _ _ _ => True) (fun _ U o U' => ∃ v L, o = .returned v ∧ Q0 Z p0 p1 p2 f h0 n0 v U'.heap L ∧ FrameEnd U o U' L room_1.cells room_1.slots) := by
  refine MetFree.of_bodySF (plainFor_of_name pn_0) hisR ?_
  intro p e s m args below meth c s₁ Bd hml0 hP hK
  obtain ⟨rfl, hZ, hh⟩ := hP
  have hx := Bd.exec
  have hby := Bd.bytes
  have hml : c.maxLocals = 12 := hml0
  have hown : s.vm.findClass "com/example/waxwing/waxwing/protocol/ApiKeyHandlesPinLaw" = some m.cls := findClass_of_methodNamed Bd.named
  have hnm := (name_of_methodNamed Bd.named Bd.method).1
  have X0 : Stand p l e room_1 s m #[(.int p0), (.int p1), (.int p2)] below meth c s₁ [] 0 0 := Stand.of_body Bd
  have e0 : s₁.heap = h0 := by rw [← hh, Bd.state]; rfl
  have N0 := Fr.nil n0
  have pre0 : ∀ t, Steps p.tables e below (s₁.setTop (mkF m 0 #[.val (.int p0), .val (.int p1), .val (.int p2), .unset, .unset, .unset, .unset, .unset, .unset, .unset, .unset, .unset] [])) t → Steps p.tables e below (s₁.setTop (entryFrame m #[(.int p0), (.int p1), (.int p2)] maxLocals)) t := fun t k => castTop (ef_0 m p0 p1 p2) k
  have k96 : ∀ t, Steps p.tables e below (s₁.setTop (mkF m 2 #[.val (.int p0), .val (.int p1), .val (.int p2), .unset, .unset, .unset, .unset, .unset, .unset, .unset, .unset, .unset] [(.int (20 : Int32))])) t → Steps p.tables e below (s₁.setTop (entryFrame m #[(.int p0), (.int p1), (.int p2)] maxLocals)) t := fun t k => pre0 t (by
    show Steps p.tables e below (s₁.setTop (mkF m 0 #[.val (.int p0), .val (.int p1), .val (.int p2), .unset, .unset, .unset, .unset, .unset, .unset, .unset, .unset, .unset] [])) _
    refine XS.bipush X0.here hx rfl (hb hby at_0) ?_
    exact k)
  obtain ⟨T97, h97, c97, X97, e97, E97, A97, st97⟩ := newP X0 hx hZ (hw _ (List.mem_of_getElem? (i := 0) rfl)) e0 (g := (mkF m 2 #[.val (.int p0), .val (.int p1), .val (.int p2), .unset, .unset, .unset, .unset, .unset, .unset, .unset, .unset, .unset] [(.int (20 : Int32))])) rfl (hb hby at_2) rfl (by decide) (cap := 20) (by decide) (by decide) (by decide) (by decide)
  obtain ⟨b97, g97⟩ : ∃ z, z = h0.size := ⟨_, rfl⟩
  rw [← g97] at A97 st97
  have g_b97 : n0 ≤ b97 := Nat.le_trans Z0 (Nat.le_of_eq g97.symm)
  have Z98 : n0 ≤ h97.size := Nat.le_trans Z0 E97.1
  have F99 : Old Z n0 h97 := Old.ext O0 E97
  have V97 : Arv Z h97 b97 c97 .int (20 : Int32) [(.int (0 : Int32)), (.int (0 : Int32)), (.int (0 : Int32)), (.int (0 : Int32)), (.int (0 : Int32)), (.int (0 : Int32)), (.int (0 : Int32)), (.int (0 : Int32)), (.int (0 : Int32)), (.int (0 : Int32)), (.int (0 : Int32)), (.int (0 : Int32)), (.int (0 : Int32)), (.int (0 : Int32)), (.int (0 : Int32)), (.int (0 : Int32)), (.int (0 : Int32)), (.int (0 : Int32)), (.int (0 : Int32)), (.int (0 : Int32))] (.int (0 : Int32)) := (Arv.new A97 (by decide)).pad (pad_rep [] (.int (0 : Int32)) 20)
  have k100 : ∀ t, Steps p.tables e below (T97.setTop (mkF m 4 #[.val (.int p0), .val (.int p1), .val (.int p2), .unset, .unset, .unset, .unset, .unset, .unset, .unset, .unset, .unset] [(.ref b97)])) t → Steps p.tables e below (s₁.setTop (entryFrame m #[(.int p0), (.int p1), (.int p2)] maxLocals)) t := fun t k => k96 t (st97 t k)
  have k101 : ∀ t, Steps p.tables e below (T97.setTop (mkF m 7 #[.val (.int p0), .val (.int p1), .val (.int p2), .unset, .unset, .unset, .unset, .unset, .unset, .unset, .unset, .unset] [(.int (0 : Int32)), (.int (0 : Int32)), (.ref b97), (.ref b97)])) t → Steps p.tables e below (s₁.setTop (entryFrame m #[(.int p0), (.int p1), (.int p2)] maxLocals)) t := fun t k => k100 t (by
    show Steps p.tables e below (T97.setTop (mkF m 4 #[.val (.int p0), .val (.int p1), .val (.int p2), .unset, .unset, .unset, .unset, .unset, .unset, .unset, .unset, .unset] [(.ref b97)])) _
    refine XS.dup X97.here hx rfl (hb hby at_4) rfl rfl ?_
    show Steps p.tables e below (T97.setTop (mkF m 5 #[.val (.int p0), .val (.int p1), .val (.int p2), .unset, .unset, .unset, .unset, .unset, .unset, .unset, .unset, .unset] [(.ref b97), (.ref b97)])) _
    refine XS.iconst X97.here hx rfl (hb hby at_5) ?_
    show Steps p.tables e below (T97.setTop (mkF m 6 #[.val (.int p0), .val (.int p1), .val (.int p2), .unset, .unset, .unset, .unset, .unset, .unset, .unset, .unset, .unset] [(.int (0 : Int32)), (.ref b97), (.ref b97)])) _
    refine XS.iconst X97.here hx rfl (hb hby at_6) ?_
    exact k)
  obtain ⟨cl102, Ar102, qq102, S102, M102, H102, G102⟩ := V97
  have hin102 : ¬ ((0 : Int32) < 0 ∨ cl102.slots.size ≤ ((0 : Int32)).toNatClampNeg) := inb_of S102 ⟨by decide, by decide⟩
  obtain ⟨T102, h102, X102, e102, W102, st102⟩ := stI X97 hx hZ e97 Ar102 (j := (0 : Int32)) hin102 (g := (mkF m 7 #[.val (.int p0), .val (.int p1), .val (.int p2), .unset, .unset, .unset, .unset, .unset, .unset, .unset, .unset, .unset] [(.int (0 : Int32)), (.int (0 : Int32)), (.ref b97), (.ref b97)])) rfl rfl (hb hby at_7)
  have V102 : Arv Z h102 b97 c97 .int (20 : Int32) [(.int (0 : Int32)), (.int (0 : Int32)), (.int (0 : Int32)), (.int (0 : Int32)), (.int (0 : Int32)), (.int (0 : Int32)), (.int (0 : Int32)), (.int (0 : Int32)), (.int (0 : Int32)), (.int (0 : Int32)), (.int (0 : Int32)), (.int (0 : Int32)), (.int (0 : Int32)), (.int (0 : Int32)), (.int (0 : Int32)), (.int (0 : Int32)), (.int (0 : Int32)), (.int (0 : Int32)), (.int (0 : Int32)), (.int (0 : Int32))] (.int (0 : Int32)) := Arv.set Ar102 qq102 S102 M102 H102 G102 rfl W102 0 rfl (Nat.le_of_ble_eq_true rfl)
  have N102 := Fr.snoc X102 N0 g_b97
  obtain ⟨LH102, XH102, NH102⟩ := own_hide X102 N102
  clear X102 N102
  have Z103 : n0 ≤ h102.size := Nat.le_trans Z98 (Nat.le_of_eq W102.size.symm)
  have F104 : Old Z n0 h102 := Old.wr F99 W102 g_b97
  have k105 : ∀ t, Steps p.tables e below (T102.setTop (mkF m 8 #[.val (.int p0), .val (.int p1), .val (.int p2), .unset, .unset, .unset, .unset, .unset, .unset, .unset, .unset, .unset] [(.ref b97)])) t → Steps p.tables e below (s₁.setTop (entryFrame m #[(.int p0), (.int p1), (.int p2)] maxLocals)) t := fun t k => k101 t (st102 t k)
  have k106 : ∀ t, Steps p.tables e below (T102.setTop (mkF m 11 #[.val (.int p0), .val (.int p1), .val (.int p2), .unset, .unset, .unset, .unset, .unset, .unset, .unset, .unset, .unset] [(.int (4 : Int32)), (.int (1 : Int32)), (.ref b97), (.ref b97)])) t → Steps p.tables e below (s₁.setTop (entryFrame m #[(.int p0), (.int p1), (.int p2)] maxLocals)) t := fun t k => k105 t (by
    show Steps p.tables e below (T102.setTop (mkF m 8 #[.val (.int p0), .val (.int p1), .val (.int p2), .unset, .unset, .unset, .unset, .unset, .unset, .unset, .unset, .unset] [(.ref b97)])) _
    refine XS.dup XH102.here hx rfl (hb hby at_8) rfl rfl ?_
    show Steps p.tables e below (T102.setTop (mkF m 9 #[.val (.int p0), .val (.int p1), .val (.int p2), .unset, .unset, .unset, .unset, .unset, .unset, .unset, .unset, .unset] [(.ref b97), (.ref b97)])) _
    refine XS.iconst XH102.here hx rfl (hb hby at_9) ?_
    show Steps p.tables e below (T102.setTop (mkF m 10 #[.val (.int p0), .val (.int p1), .val (.int p2), .unset, .unset, .unset, .unset, .unset, .unset, .unset, .unset, .unset] [(.int (1 : Int32)), (.ref b97), (.ref b97)])) _
    refine XS.iconst XH102.here hx rfl (hb hby at_10) ?_
    exact k)
  obtain ⟨cl107, Ar107, qq107, S107, M107, H107, G107⟩ := V102
  have hin107 : ¬ ((1 : Int32) < 0 ∨ cl107.slots.size ≤ ((1 : Int32)).toNatClampNeg) := inb_of S107 ⟨by decide, by decide⟩
  obtain ⟨T107, h107, X107, e107, W107, st107⟩ := stI XH102 hx hZ e102 Ar107 (j := (1 : Int32)) hin107 (g := (mkF m 11 #[.val (.int p0), .val (.int p1), .val (.int p2), .unset, .unset, .unset, .unset, .unset, .unset, .unset, .unset, .unset] [(.int (4 : Int32)), (.int (1 : Int32)), (.ref b97), (.ref b97)])) rfl rfl (hb hby at_11)
  have V107 : Arv Z h107 b97 c97 .int (20 : Int32) [(.int (0 : Int32)), (.int (4 : Int32)), (.int (0 : Int32)), (.int (0 : Int32)), (.int (0 : Int32)), (.int (0 : Int32)), (.int (0 : Int32)), (.int (0 : Int32)), (.int (0 : Int32)), (.int (0 : Int32)), (.int (0 : Int32)), (.int (0 : Int32)), (.int (0 : Int32)), (.int (0 : Int32)), (.int (0 : Int32)), (.int (0 : Int32)), (.int (0 : Int32)), (.int (0 : Int32)), (.int (0 : Int32)), (.int (0 : Int32))] (.int (0 : Int32)) := Arv.set Ar107 qq107 S107 M107 H107 G107 rfl W107 1 rfl (Nat.le_of_ble_eq_true rfl)
  have N107 := Fr.snoc X107 NH102 g_b97
  obtain ⟨LH107, XH107, NH107⟩ := own_hide X107 N107
  clear X107 N107
  have Z108 : n0 ≤ h107.size := Nat.le_trans Z103 (Nat.le_of_eq W107.size.symm)
  have F109 : Old Z n0 h107 := Old.wr F104 W107 g_b97
  have k110 : ∀ t, Steps p.tables e below (T107.setTop (mkF m 12 #[.val (.int p0), .val (.int p1), .val (.int p2), .unset, .unset, .unset, .unset, .unset, .unset, .unset, .unset, .unset] [(.ref b97)])) t → Steps p.tables e below (s₁.setTop (entryFrame m #[(.int p0), (.int p1), (.int p2)] maxLocals)) t := fun t k => k106 t (st107 t k)
  have k111 : ∀ t, Steps p.tables e below (T107.setTop (mkF m 15 #[.val (.int p0), .val (.int p1), .val (.int p2), .unset, .unset, .unset, .unset, .unset, .unset, .unset, .unset, .unset] [(.int (1 : Int32)), (.int (2 : Int32)), (.ref b97), (.ref b97)])) t → Steps p.tables e below (s₁.setTop (entryFrame m #[(.int p0), (.int p1), (.int p2)] maxLocals)) t := fun t k => k110 t (by
    show Steps p.tables e below (T107.setTop (mkF m 12 #[.val (.int p0), .val (.int p1), .val (.int p2), .unset, .unset, .unset, .unset, .unset, .unset, .unset, .unset, .unset] [(.ref b97)])) _
    refine XS.dup XH107.here hx rfl (hb hby at_12) rfl rfl ?_
    show Steps p.tables e below (T107.setTop (mkF m 13 #[.val (.int p0), .val (.int p1), .val (.int p2), .unset, .unset, .unset, .unset, .unset, .unset, .unset, .unset, .unset] [(.ref b97), (.ref b97)])) _
    refine XS.iconst XH107.here hx rfl (hb hby at_13) ?_
    show Steps p.tables e below (T107.setTop (mkF m 14 #[.val (.int p0), .val (.int p1), .val (.int p2), .unset, .unset, .unset, .unset, .unset, .unset, .unset, .unset, .unset] [(.int (2 : Int32)), (.ref b97), (.ref b97)])) _
    refine XS.iconst XH107.here hx rfl (hb hby at_14) ?_
    exact k)
  obtain ⟨cl112, Ar112, qq112, S112, M112, H112, G112⟩ := V107
  have hin112 : ¬ ((2 : Int32) < 0 ∨ cl112.slots.size ≤ ((2 : Int32)).toNatClampNeg) := inb_of S112 ⟨by decide, by decide⟩
  obtain ⟨T112, h112, X112, e112, W112, st112⟩ := stI XH107 hx hZ e107 Ar112 (j := (2 : Int32)) hin112 (g := (mkF m 15 #[.val (.int p0), .val (.int p1), .val (.int p2), .unset, .unset, .unset, .unset, .unset, .unset, .unset, .unset, .unset] [(.int (1 : Int32)), (.int (2 : Int32)), (.ref b97), (.ref b97)])) rfl rfl (hb hby at_15)
  have V112 : Arv Z h112 b97 c97 .int (20 : Int32) [(.int (0 : Int32)), (.int (4 : Int32)), (.int (1 : Int32)), (.int (0 : Int32)), (.int (0 : Int32)), (.int (0 : Int32)), (.int (0 : Int32)), (.int (0 : Int32)), (.int (0 : Int32)), (.int (0 : Int32)), (.int (0 : Int32)), (.int (0 : Int32)), (.int (0 : Int32)), (.int (0 : Int32)), (.int (0 : Int32)), (.int (0 : Int32)), (.int (0 : Int32)), (.int (0 : Int32)), (.int (0 : Int32)), (.int (0 : Int32))] (.int (0 : Int32)) := Arv.set Ar112 qq112 S112 M112 H112 G112 rfl W112 2 rfl (Nat.le_of_ble_eq_true rfl)
  have N112 := Fr.snoc X112 NH107 g_b97
  obtain ⟨LH112, XH112, NH112⟩ := own_hide X112 N112
  clear X112 N112
  have Z113 : n0 ≤ h112.size := Nat.le_trans Z108 (Nat.le_of_eq W112.size.symm)
  have F114 : Old Z n0 h112 := Old.wr F109 W112 g_b97
  have k115 : ∀ t, Steps p.tables e below (T112.setTop (mkF m 16 #[.val (.int p0), .val (.int p1), .val (.int p2), .unset, .unset, .unset, .unset, .unset, .unset, .unset, .unset, .unset] [(.ref b97)])) t → Steps p.tables e below (s₁.setTop (entryFrame m #[(.int p0), (.int p1), (.int p2)] maxLocals)) t := fun t k => k111 t (st112 t k)
  have k116 : ∀ t, Steps p.tables e below (T112.setTop (mkF m 19 #[.val (.int p0), .val (.int p1), .val (.int p2), .unset, .unset, .unset, .unset, .unset, .unset, .unset, .unset, .unset] [(.int (0 : Int32)), (.int (3 : Int32)), (.ref b97), (.ref b97)])) t → Steps p.tables e below (s₁.setTop (entryFrame m #[(.int p0), (.int p1), (.int p2)] maxLocals)) t := fun t k => k115 t (by
    show Steps p.tables e below (T112.setTop (mkF m 16 #[.val (.int p0), .val (.int p1), .val (.int p2), .unset, .unset, .unset, .unset, .unset, .unset, .unset, .unset, .unset] [(.ref b97)])) _
    refine XS.dup XH112.here hx rfl (hb hby at_16) rfl rfl ?_
    show Steps p.tables e below (T112.setTop (mkF m 17 #[.val (.int p0), .val (.int p1), .val (.int p2), .unset, .unset, .unset, .unset, .unset, .unset, .unset, .unset, .unset] [(.ref b97), (.ref b97)])) _
    refine XS.iconst XH112.here hx rfl (hb hby at_17) ?_
    show Steps p.tables e below (T112.setTop (mkF m 18 #[.val (.int p0), .val (.int p1), .val (.int p2), .unset, .unset, .unset, .unset, .unset, .unset, .unset, .unset, .unset] [(.int (3 : Int32)), (.ref b97), (.ref b97)])) _
    refine XS.iconst XH112.here hx rfl (hb hby at_18) ?_
    exact k)
  obtain ⟨cl117, Ar117, qq117, S117, M117, H117, G117⟩ := V112
  have hin117 : ¬ ((3 : Int32) < 0 ∨ cl117.slots.size ≤ ((3 : Int32)).toNatClampNeg) := inb_of S117 ⟨by decide, by decide⟩
  obtain ⟨T117, h117, X117, e117, W117, st117⟩ := stI XH112 hx hZ e112 Ar117 (j := (3 : Int32)) hin117 (g := (mkF m 19 #[.val (.int p0), .val (.int p1), .val (.int p2), .unset, .unset, .unset, .unset, .unset, .unset, .unset, .unset, .unset] [(.int (0 : Int32)), (.int (3 : Int32)), (.ref b97), (.ref b97)])) rfl rfl (hb hby at_19)
  have V117 : Arv Z h117 b97 c97 .int (20 : Int32) [(.int (0 : Int32)), (.int (4 : Int32)), (.int (1 : Int32)), (.int (0 : Int32)), (.int (0 : Int32)), (.int (0 : Int32)), (.int (0 : Int32)), (.int (0 : Int32)), (.int (0 : Int32)), (.int (0 : Int32)), (.int (0 : Int32)), (.int (0 : Int32)), (.int (0 : Int32)), (.int (0 : Int32)), (.int (0 : Int32)), (.int (0 : Int32)), (.int (0 : Int32)), (.int (0 : Int32)), (.int (0 : Int32)), (.int (0 : Int32))] (.int (0 : Int32)) := Arv.set Ar117 qq117 S117 M117 H117 G117 rfl W117 3 rfl (Nat.le_of_ble_eq_true rfl)
  have N117 := Fr.snoc X117 NH112 g_b97
  obtain ⟨LH117, XH117, NH117⟩ := own_hide X117 N117
  clear X117 N117
  have Z118 : n0 ≤ h117.size := Nat.le_trans Z113 (Nat.le_of_eq W117.size.symm)
  have F119 : Old Z n0 h117 := Old.wr F114 W117 g_b97
  have k120 : ∀ t, Steps p.tables e below (T117.setTop (mkF m 20 #[.val (.int p0), .val (.int p1), .val (.int p2), .unset, .unset, .unset, .unset, .unset, .unset, .unset, .unset, .unset] [(.ref b97)])) t → Steps p.tables e below (s₁.setTop (entryFrame m #[(.int p0), (.int p1), (.int p2)] maxLocals)) t := fun t k => k116 t (st117 t k)
  have k121 : ∀ t, Steps p.tables e below (T117.setTop (mkF m 23 #[.val (.int p0), .val (.int p1), .val (.int p2), .unset, .unset, .unset, .unset, .unset, .unset, .unset, .unset, .unset] [(.int (2 : Int32)), (.int (4 : Int32)), (.ref b97), (.ref b97)])) t → Steps p.tables e below (s₁.setTop (entryFrame m #[(.int p0), (.int p1), (.int p2)] maxLocals)) t := fun t k => k120 t (by
    show Steps p.tables e below (T117.setTop (mkF m 20 #[.val (.int p0), .val (.int p1), .val (.int p2), .unset, .unset, .unset, .unset, .unset, .unset, .unset, .unset, .unset] [(.ref b97)])) _
    refine XS.dup XH117.here hx rfl (hb hby at_20) rfl rfl ?_
    show Steps p.tables e below (T117.setTop (mkF m 21 #[.val (.int p0), .val (.int p1), .val (.int p2), .unset, .unset, .unset, .unset, .unset, .unset, .unset, .unset, .unset] [(.ref b97), (.ref b97)])) _
    refine XS.iconst XH117.here hx rfl (hb hby at_21) ?_
    show Steps p.tables e below (T117.setTop (mkF m 22 #[.val (.int p0), .val (.int p1), .val (.int p2), .unset, .unset, .unset, .unset, .unset, .unset, .unset, .unset, .unset] [(.int (4 : Int32)), (.ref b97), (.ref b97)])) _
    refine XS.iconst XH117.here hx rfl (hb hby at_22) ?_
    exact k)
  obtain ⟨cl122, Ar122, qq122, S122, M122, H122, G122⟩ := V117
  have hin122 : ¬ ((4 : Int32) < 0 ∨ cl122.slots.size ≤ ((4 : Int32)).toNatClampNeg) := inb_of S122 ⟨by decide, by decide⟩
  obtain ⟨T122, h122, X122, e122, W122, st122⟩ := stI XH117 hx hZ e117 Ar122 (j := (4 : Int32)) hin122 (g := (mkF m 23 #[.val (.int p0), .val (.int p1), .val (.int p2), .unset, .unset, .unset, .unset, .unset, .unset, .unset, .unset, .unset] [(.int (2 : Int32)), (.int (4 : Int32)), (.ref b97), (.ref b97)])) rfl rfl (hb hby at_23)
  have V122 : Arv Z h122 b97 c97 .int (20 : Int32) [(.int (0 : Int32)), (.int (4 : Int32)), (.int (1 : Int32)), (.int (0 : Int32)), (.int (2 : Int32)), (.int (0 : Int32)), (.int (0 : Int32)), (.int (0 : Int32)), (.int (0 : Int32)), (.int (0 : Int32)), (.int (0 : Int32)), (.int (0 : Int32)), (.int (0 : Int32)), (.int (0 : Int32)), (.int (0 : Int32)), (.int (0 : Int32)), (.int (0 : Int32)), (.int (0 : Int32)), (.int (0 : Int32)), (.int (0 : Int32))] (.int (0 : Int32)) := Arv.set Ar122 qq122 S122 M122 H122 G122 rfl W122 4 rfl (Nat.le_of_ble_eq_true rfl)
  have N122 := Fr.snoc X122 NH117 g_b97
  obtain ⟨LH122, XH122, NH122⟩ := own_hide X122 N122
  clear X122 N122
  have Z123 : n0 ≤ h122.size := Nat.le_trans Z118 (Nat.le_of_eq W122.size.symm)
  have F124 : Old Z n0 h122 := Old.wr F119 W122 g_b97
  have k125 : ∀ t, Steps p.tables e below (T122.setTop (mkF m 24 #[.val (.int p0), .val (.int p1), .val (.int p2), .unset, .unset, .unset, .unset, .unset, .unset, .unset, .unset, .unset] [(.ref b97)])) t → Steps p.tables e below (s₁.setTop (entryFrame m #[(.int p0), (.int p1), (.int p2)] maxLocals)) t := fun t k => k121 t (st122 t k)
  have k126 : ∀ t, Steps p.tables e below (T122.setTop (mkF m 27 #[.val (.int p0), .val (.int p1), .val (.int p2), .unset, .unset, .unset, .unset, .unset, .unset, .unset, .unset, .unset] [(.int (1 : Int32)), (.int (5 : Int32)), (.ref b97), (.ref b97)])) t → Steps p.tables e below (s₁.setTop (entryFrame m #[(.int p0), (.int p1), (.int p2)] maxLocals)) t := fun t k => k125 t (by
    show Steps p.tables e below (T122.setTop (mkF m 24 #[.val (.int p0), .val (.int p1), .val (.int p2), .unset, .unset, .unset, .unset, .unset, .unset, .unset, .unset, .unset] [(.ref b97)])) _
    refine XS.dup XH122.here hx rfl (hb hby at_24) rfl rfl ?_
    show Steps p.tables e below (T122.setTop (mkF m 25 #[.val (.int p0), .val (.int p1), .val (.int p2), .unset, .unset, .unset, .unset, .unset, .unset, .unset, .unset, .unset] [(.ref b97), (.ref b97)])) _
    refine XS.iconst XH122.here hx rfl (hb hby at_25) ?_
    show Steps p.tables e below (T122.setTop (mkF m 26 #[.val (.int p0), .val (.int p1), .val (.int p2), .unset, .unset, .unset, .unset, .unset, .unset, .unset, .unset, .unset] [(.int (5 : Int32)), (.ref b97), (.ref b97)])) _
    refine XS.iconst XH122.here hx rfl (hb hby at_26) ?_
    exact k)
  obtain ⟨cl127, Ar127, qq127, S127, M127, H127, G127⟩ := V122
  have hin127 : ¬ ((5 : Int32) < 0 ∨ cl127.slots.size ≤ ((5 : Int32)).toNatClampNeg) := inb_of S127 ⟨by decide, by decide⟩
  obtain ⟨T127, h127, X127, e127, W127, st127⟩ := stI XH122 hx hZ e122 Ar127 (j := (5 : Int32)) hin127 (g := (mkF m 27 #[.val (.int p0), .val (.int p1), .val (.int p2), .unset, .unset, .unset, .unset, .unset, .unset, .unset, .unset, .unset] [(.int (1 : Int32)), (.int (5 : Int32)), (.ref b97), (.ref b97)])) rfl rfl (hb hby at_27)
  have V127 : Arv Z h127 b97 c97 .int (20 : Int32) [(.int (0 : Int32)), (.int (4 : Int32)), (.int (1 : Int32)), (.int (0 : Int32)), (.int (2 : Int32)), (.int (1 : Int32)), (.int (0 : Int32)), (.int (0 : Int32)), (.int (0 : Int32)), (.int (0 : Int32)), (.int (0 : Int32)), (.int (0 : Int32)), (.int (0 : Int32)), (.int (0 : Int32)), (.int (0 : Int32)), (.int (0 : Int32)), (.int (0 : Int32)), (.int (0 : Int32)), (.int (0 : Int32)), (.int (0 : Int32))] (.int (0 : Int32)) := Arv.set Ar127 qq127 S127 M127 H127 G127 rfl W127 5 rfl (Nat.le_of_ble_eq_true rfl)
  have N127 := Fr.snoc X127 NH122 g_b97
  obtain ⟨LH127, XH127, NH127⟩ := own_hide X127 N127
  clear X127 N127
  have Z128 : n0 ≤ h127.size := Nat.le_trans Z123 (Nat.le_of_eq W127.size.symm)
  have F129 : Old Z n0 h127 := Old.wr F124 W127 g_b97
  have k130 : ∀ t, Steps p.tables e below (T127.setTop (mkF m 28 #[.val (.int p0), .val (.int p1), .val (.int p2), .unset, .unset, .unset, .unset, .unset, .unset, .unset, .unset, .unset] [(.ref b97)])) t → Steps p.tables e below (s₁.setTop (entryFrame m #[(.int p0), (.int p1), (.int p2)] maxLocals)) t := fun t k => k126 t (st127 t k)
  have k131 : ∀ t, Steps p.tables e below (T127.setTop (mkF m 32 #[.val (.int p0), .val (.int p1), .val (.int p2), .unset, .unset, .unset, .unset, .unset, .unset, .unset, .unset, .unset] [(.int (0 : Int32)), (.int (6 : Int32)), (.ref b97), (.ref b97)])) t → Steps p.tables e below (s₁.setTop (entryFrame m #[(.int p0), (.int p1), (.int p2)] maxLocals)) t := fun t k => k130 t (by
    show Steps p.tables e below (T127.setTop (mkF m 28 #[.val (.int p0), .val (.int p1), .val (.int p2), .unset, .unset, .unset, .unset, .unset, .unset, .unset, .unset, .unset] [(.ref b97)])) _
    refine XS.dup XH127.here hx rfl (hb hby at_28) rfl rfl ?_
    show Steps p.tables e below (T127.setTop (mkF m 29 #[.val (.int p0), .val (.int p1), .val (.int p2), .unset, .unset, .unset, .unset, .unset, .unset, .unset, .unset, .unset] [(.ref b97), (.ref b97)])) _
    refine XS.bipush XH127.here hx rfl (hb hby at_29) ?_
    show Steps p.tables e below (T127.setTop (mkF m 31 #[.val (.int p0), .val (.int p1), .val (.int p2), .unset, .unset, .unset, .unset, .unset, .unset, .unset, .unset, .unset] [(.int (6 : Int32)), (.ref b97), (.ref b97)])) _
    refine XS.iconst XH127.here hx rfl (hb hby at_31) ?_
    exact k)
  obtain ⟨cl132, Ar132, qq132, S132, M132, H132, G132⟩ := V127
  have hin132 : ¬ ((6 : Int32) < 0 ∨ cl132.slots.size ≤ ((6 : Int32)).toNatClampNeg) := inb_of S132 ⟨by decide, by decide⟩
  obtain ⟨T132, h132, X132, e132, W132, st132⟩ := stI XH127 hx hZ e127 Ar132 (j := (6 : Int32)) hin132 (g := (mkF m 32 #[.val (.int p0), .val (.int p1), .val (.int p2), .unset, .unset, .unset, .unset, .unset, .unset, .unset, .unset, .unset] [(.int (0 : Int32)), (.int (6 : Int32)), (.ref b97), (.ref b97)])) rfl rfl (hb hby at_32)
  have V132 : Arv Z h132 b97 c97 .int (20 : Int32) [(.int (0 : Int32)), (.int (4 : Int32)), (.int (1 : Int32)), (.int (0 : Int32)), (.int (2 : Int32)), (.int (1 : Int32)), (.int (0 : Int32)), (.int (0 : Int32)), (.int (0 : Int32)), (.int (0 : Int32)), (.int (0 : Int32)), (.int (0 : Int32)), (.int (0 : Int32)), (.int (0 : Int32)), (.int (0 : Int32)), (.int (0 : Int32)), (.int (0 : Int32)), (.int (0 : Int32)), (.int (0 : Int32)), (.int (0 : Int32))] (.int (0 : Int32)) := Arv.set Ar132 qq132 S132 M132 H132 G132 rfl W132 6 rfl (Nat.le_of_ble_eq_true rfl)
  have N132 := Fr.snoc X132 NH127 g_b97
  obtain ⟨LH132, XH132, NH132⟩ := own_hide X132 N132
  clear X132 N132
  have Z133 : n0 ≤ h132.size := Nat.le_trans Z128 (Nat.le_of_eq W132.size.symm)
  have F134 : Old Z n0 h132 := Old.wr F129 W132 g_b97
  have k135 : ∀ t, Steps p.tables e below (T132.setTop (mkF m 33 #[.val (.int p0), .val (.int p1), .val (.int p2), .unset, .unset, .unset, .unset, .unset, .unset, .unset, .unset, .unset] [(.ref b97)])) t → Steps p.tables e below (s₁.setTop (entryFrame m #[(.int p0), (.int p1), (.int p2)] maxLocals)) t := fun t k => k131 t (st132 t k)
  have k136 : ∀ t, Steps p.tables e below (T132.setTop (mkF m 37 #[.val (.int p0), .val (.int p1), .val (.int p2), .unset, .unset, .unset, .unset, .unset, .unset, .unset, .unset, .unset] [(.int (2 : Int32)), (.int (7 : Int32)), (.ref b97), (.ref b97)])) t → Steps p.tables e below (s₁.setTop (entryFrame m #[(.int p0), (.int p1), (.int p2)] maxLocals)) t := fun t k => k135 t (by
    show Steps p.tables e below (T132.setTop (mkF m 33 #[.val (.int p0), .val (.int p1), .val (.int p2), .unset, .unset, .unset, .unset, .unset, .unset, .unset, .unset, .unset] [(.ref b97)])) _
    refine XS.dup XH132.here hx rfl (hb hby at_33) rfl rfl ?_
    show Steps p.tables e below (T132.setTop (mkF m 34 #[.val (.int p0), .val (.int p1), .val (.int p2), .unset, .unset, .unset, .unset, .unset, .unset, .unset, .unset, .unset] [(.ref b97), (.ref b97)])) _
    refine XS.bipush XH132.here hx rfl (hb hby at_34) ?_
    show Steps p.tables e below (T132.setTop (mkF m 36 #[.val (.int p0), .val (.int p1), .val (.int p2), .unset, .unset, .unset, .unset, .unset, .unset, .unset, .unset, .unset] [(.int (7 : Int32)), (.ref b97), (.ref b97)])) _
    refine XS.iconst XH132.here hx rfl (hb hby at_36) ?_
    exact k)
  obtain ⟨cl137, Ar137, qq137, S137, M137, H137, G137⟩ := V132
  have hin137 : ¬ ((7 : Int32) < 0 ∨ cl137.slots.size ≤ ((7 : Int32)).toNatClampNeg) := inb_of S137 ⟨by decide, by decide⟩
  obtain ⟨T137, h137, X137, e137, W137, st137⟩ := stI XH132 hx hZ e132 Ar137 (j := (7 : Int32)) hin137 (g := (mkF m 37 #[.val (.int p0), .val (.int p1), .val (.int p2), .unset, .unset, .unset, .unset, .unset, .unset, .unset, .unset, .unset] [(.int (2 : Int32)), (.int (7 : Int32)), (.ref b97), (.ref b97)])) rfl rfl (hb hby at_37)
  have V137 : Arv Z h137 b97 c97 .int (20 : Int32) [(.int (0 : Int32)), (.int (4 : Int32)), (.int (1 : Int32)), (.int (0 : Int32)), (.int (2 : Int32)), (.int (1 : Int32)), (.int (0 : Int32)), (.int (2 : Int32)), (.int (0 : Int32)), (.int (0 : Int32)), (.int (0 : Int32)), (.int (0 : Int32)), (.int (0 : Int32)), (.int (0 : Int32)), (.int (0 : Int32)), (.int (0 : Int32)), (.int (0 : Int32)), (.int (0 : Int32)), (.int (0 : Int32)), (.int (0 : Int32))] (.int (0 : Int32)) := Arv.set Ar137 qq137 S137 M137 H137 G137 rfl W137 7 rfl (Nat.le_of_ble_eq_true rfl)
  have N137 := Fr.snoc X137 NH132 g_b97
  obtain ⟨LH137, XH137, NH137⟩ := own_hide X137 N137
  clear X137 N137
  have Z138 : n0 ≤ h137.size := Nat.le_trans Z133 (Nat.le_of_eq W137.size.symm)
  have F139 : Old Z n0 h137 := Old.wr F134 W137 g_b97
  have k140 : ∀ t, Steps p.tables e below (T137.setTop (mkF m 38 #[.val (.int p0), .val (.int p1), .val (.int p2), .unset, .unset, .unset, .unset, .unset, .unset, .unset, .unset, .unset] [(.ref b97)])) t → Steps p.tables e below (s₁.setTop (entryFrame m #[(.int p0), (.int p1), (.int p2)] maxLocals)) t := fun t k => k136 t (st137 t k)
  have k141 : ∀ t, Steps p.tables e below (T137.setTop (mkF m 42 #[.val (.int p0), .val (.int p1), .val (.int p2), .unset, .unset, .unset, .unset, .unset, .unset, .unset, .unset, .unset] [(.int (1 : Int32)), (.int (8 : Int32)), (.ref b97), (.ref b97)])) t → Steps p.tables e below (s₁.setTop (entryFrame m #[(.int p0), (.int p1), (.int p2)] maxLocals)) t := fun t k => k140 t (by
    show Steps p.tables e below (T137.setTop (mkF m 38 #[.val (.int p0), .val (.int p1), .val (.int p2), .unset, .unset, .unset, .unset, .unset, .unset, .unset, .unset, .unset] [(.ref b97)])) _
    refine XS.dup XH137.here hx rfl (hb hby at_38) rfl rfl ?_
    show Steps p.tables e below (T137.setTop (mkF m 39 #[.val (.int p0), .val (.int p1), .val (.int p2), .unset, .unset, .unset, .unset, .unset, .unset, .unset, .unset, .unset] [(.ref b97), (.ref b97)])) _
    refine XS.bipush XH137.here hx rfl (hb hby at_39) ?_
    show Steps p.tables e below (T137.setTop (mkF m 41 #[.val (.int p0), .val (.int p1), .val (.int p2), .unset, .unset, .unset, .unset, .unset, .unset, .unset, .unset, .unset] [(.int (8 : Int32)), (.ref b97), (.ref b97)])) _
    refine XS.iconst XH137.here hx rfl (hb hby at_41) ?_
    exact k)
  obtain ⟨cl142, Ar142, qq142, S142, M142, H142, G142⟩ := V137
  have hin142 : ¬ ((8 : Int32) < 0 ∨ cl142.slots.size ≤ ((8 : Int32)).toNatClampNeg) := inb_of S142 ⟨by decide, by decide⟩
  obtain ⟨T142, h142, X142, e142, W142, st142⟩ := stI XH137 hx hZ e137 Ar142 (j := (8 : Int32)) hin142 (g := (mkF m 42 #[.val (.int p0), .val (.int p1), .val (.int p2), .unset, .unset, .unset, .unset, .unset, .unset, .unset, .unset, .unset] [(.int (1 : Int32)), (.int (8 : Int32)), (.ref b97), (.ref b97)])) rfl rfl (hb hby at_42)
  have V142 : Arv Z h142 b97 c97 .int (20 : Int32) [(.int (0 : Int32)), (.int (4 : Int32)), (.int (1 : Int32)), (.int (0 : Int32)), (.int (2 : Int32)), (.int (1 : Int32)), (.int (0 : Int32)), (.int (2 : Int32)), (.int (1 : Int32)), (.int (0 : Int32)), (.int (0 : Int32)), (.int (0 : Int32)), (.int (0 : Int32)), (.int (0 : Int32)), (.int (0 : Int32)), (.int (0 : Int32)), (.int (0 : Int32)), (.int (0 : Int32)), (.int (0 : Int32)), (.int (0 : Int32))] (.int (0 : Int32)) := Arv.set Ar142 qq142 S142 M142 H142 G142 rfl W142 8 rfl (Nat.le_of_ble_eq_true rfl)
  have N142 := Fr.snoc X142 NH137 g_b97
  obtain ⟨LH142, XH142, NH142⟩ := own_hide X142 N142
  clear X142 N142
  have Z143 : n0 ≤ h142.size := Nat.le_trans Z138 (Nat.le_of_eq W142.size.symm)
  have F144 : Old Z n0 h142 := Old.wr F139 W142 g_b97
  have k145 : ∀ t, Steps p.tables e below (T142.setTop (mkF m 43 #[.val (.int p0), .val (.int p1), .val (.int p2), .unset, .unset, .unset, .unset, .unset, .unset, .unset, .unset, .unset] [(.ref b97)])) t → Steps p.tables e below (s₁.setTop (entryFrame m #[(.int p0), (.int p1), (.int p2)] maxLocals)) t := fun t k => k141 t (st142 t k)
  have k146 : ∀ t, Steps p.tables e below (T142.setTop (mkF m 47 #[.val (.int p0), .val (.int p1), .val (.int p2), .unset, .unset, .unset, .unset, .unset, .unset, .unset, .unset, .unset] [(.int (0 : Int32)), (.int (9 : Int32)), (.ref b97), (.ref b97)])) t → Steps p.tables e below (s₁.setTop (entryFrame m #[(.int p0), (.int p1), (.int p2)] maxLocals)) t := fun t k => k145 t (by
    show Steps p.tables e below (T142.setTop (mkF m 43 #[.val (.int p0), .val (.int p1), .val (.int p2), .unset, .unset, .unset, .unset, .unset, .unset, .unset, .unset, .unset] [(.ref b97)])) _
    refine XS.dup XH142.here hx rfl (hb hby at_43) rfl rfl ?_
    show Steps p.tables e below (T142.setTop (mkF m 44 #[.val (.int p0), .val (.int p1), .val (.int p2), .unset, .unset, .unset, .unset, .unset, .unset, .unset, .unset, .unset] [(.ref b97), (.ref b97)])) _
    refine XS.bipush XH142.here hx rfl (hb hby at_44) ?_
    show Steps p.tables e below (T142.setTop (mkF m 46 #[.val (.int p0), .val (.int p1), .val (.int p2), .unset, .unset, .unset, .unset, .unset, .unset, .unset, .unset, .unset] [(.int (9 : Int32)), (.ref b97), (.ref b97)])) _
    refine XS.iconst XH142.here hx rfl (hb hby at_46) ?_
    exact k)
  obtain ⟨cl147, Ar147, qq147, S147, M147, H147, G147⟩ := V142
  have hin147 : ¬ ((9 : Int32) < 0 ∨ cl147.slots.size ≤ ((9 : Int32)).toNatClampNeg) := inb_of S147 ⟨by decide, by decide⟩
  obtain ⟨T147, h147, X147, e147, W147, st147⟩ := stI XH142 hx hZ e142 Ar147 (j := (9 : Int32)) hin147 (g := (mkF m 47 #[.val (.int p0), .val (.int p1), .val (.int p2), .unset, .unset, .unset, .unset, .unset, .unset, .unset, .unset, .unset] [(.int (0 : Int32)), (.int (9 : Int32)), (.ref b97), (.ref b97)])) rfl rfl (hb hby at_47)
  have V147 : Arv Z h147 b97 c97 .int (20 : Int32) [(.int (0 : Int32)), (.int (4 : Int32)), (.int (1 : Int32)), (.int (0 : Int32)), (.int (2 : Int32)), (.int (1 : Int32)), (.int (0 : Int32)), (.int (2 : Int32)), (.int (1 : Int32)), (.int (0 : Int32)), (.int (0 : Int32)), (.int (0 : Int32)), (.int (0 : Int32)), (.int (0 : Int32)), (.int (0 : Int32)), (.int (0 : Int32)), (.int (0 : Int32)), (.int (0 : Int32)), (.int (0 : Int32)), (.int (0 : Int32))] (.int (0 : Int32)) := Arv.set Ar147 qq147 S147 M147 H147 G147 rfl W147 9 rfl (Nat.le_of_ble_eq_true rfl)
  have N147 := Fr.snoc X147 NH142 g_b97
  obtain ⟨LH147, XH147, NH147⟩ := own_hide X147 N147
  clear X147 N147
  have Z148 : n0 ≤ h147.size := Nat.le_trans Z143 (Nat.le_of_eq W147.size.symm)
  have F149 : Old Z n0 h147 := Old.wr F144 W147 g_b97
  have k150 : ∀ t, Steps p.tables e below (T147.setTop (mkF m 48 #[.val (.int p0), .val (.int p1), .val (.int p2), .unset, .unset, .unset, .unset, .unset, .unset, .unset, .unset, .unset] [(.ref b97)])) t → Steps p.tables e below (s₁.setTop (entryFrame m #[(.int p0), (.int p1), (.int p2)] maxLocals)) t := fun t k => k146 t (st147 t k)
  have k151 : ∀ t, Steps p.tables e below (T147.setTop (mkF m 52 #[.val (.int p0), .val (.int p1), .val (.int p2), .unset, .unset, .unset, .unset, .unset, .unset, .unset, .unset, .unset] [(.int (1 : Int32)), (.int (10 : Int32)), (.ref b97), (.ref b97)])) t → Steps p.tables e below (s₁.setTop (entryFrame m #[(.int p0), (.int p1), (.int p2)] maxLocals)) t := fun t k => k150 t (by
    show Steps p.tables e below (T147.setTop (mkF m 48 #[.val (.int p0), .val (.int p1), .val (.int p2), .unset, .unset, .unset, .unset, .unset, .unset, .unset, .unset, .unset] [(.ref b97)])) _
    refine XS.dup XH147.here hx rfl (hb hby at_48) rfl rfl ?_
    show Steps p.tables e below (T147.setTop (mkF m 49 #[.val (.int p0), .val (.int p1), .val (.int p2), .unset, .unset, .unset, .unset, .unset, .unset, .unset, .unset, .unset] [(.ref b97), (.ref b97)])) _
    refine XS.bipush XH147.here hx rfl (hb hby at_49) ?_
    show Steps p.tables e below (T147.setTop (mkF m 51 #[.val (.int p0), .val (.int p1), .val (.int p2), .unset, .unset, .unset, .unset, .unset, .unset, .unset, .unset, .unset] [(.int (10 : Int32)), (.ref b97), (.ref b97)])) _
    refine XS.iconst XH147.here hx rfl (hb hby at_51) ?_
    exact k)
  obtain ⟨cl152, Ar152, qq152, S152, M152, H152, G152⟩ := V147
  have hin152 : ¬ ((10 : Int32) < 0 ∨ cl152.slots.size ≤ ((10 : Int32)).toNatClampNeg) := inb_of S152 ⟨by decide, by decide⟩
  obtain ⟨T152, h152, X152, e152, W152, st152⟩ := stI XH147 hx hZ e147 Ar152 (j := (10 : Int32)) hin152 (g := (mkF m 52 #[.val (.int p0), .val (.int p1), .val (.int p2), .unset, .unset, .unset, .unset, .unset, .unset, .unset, .unset, .unset] [(.int (1 : Int32)), (.int (10 : Int32)), (.ref b97), (.ref b97)])) rfl rfl (hb hby at_52)
  have V152 : Arv Z h152 b97 c97 .int (20 : Int32) [(.int (0 : Int32)), (.int (4 : Int32)), (.int (1 : Int32)), (.int (0 : Int32)), (.int (2 : Int32)), (.int (1 : Int32)), (.int (0 : Int32)), (.int (2 : Int32)), (.int (1 : Int32)), (.int (0 : Int32)), (.int (1 : Int32)), (.int (0 : Int32)), (.int (0 : Int32)), (.int (0 : Int32)), (.int (0 : Int32)), (.int (0 : Int32)), (.int (0 : Int32)), (.int (0 : Int32)), (.int (0 : Int32)), (.int (0 : Int32))] (.int (0 : Int32)) := Arv.set Ar152 qq152 S152 M152 H152 G152 rfl W152 10 rfl (Nat.le_of_ble_eq_true rfl)
  have N152 := Fr.snoc X152 NH147 g_b97
  obtain ⟨LH152, XH152, NH152⟩ := own_hide X152 N152
  clear X152 N152
  have Z153 : n0 ≤ h152.size := Nat.le_trans Z148 (Nat.le_of_eq W152.size.symm)
  have F154 : Old Z n0 h152 := Old.wr F149 W152 g_b97
  have k155 : ∀ t, Steps p.tables e below (T152.setTop (mkF m 53 #[.val (.int p0), .val (.int p1), .val (.int p2), .unset, .unset, .unset, .unset, .unset, .unset, .unset, .unset, .unset] [(.ref b97)])) t → Steps p.tables e below (s₁.setTop (entryFrame m #[(.int p0), (.int p1), (.int p2)] maxLocals)) t := fun t k => k151 t (st152 t k)
  have k156 : ∀ t, Steps p.tables e below (T152.setTop (mkF m 57 #[.val (.int p0), .val (.int p1), .val (.int p2), .unset, .unset, .unset, .unset, .unset, .unset, .unset, .unset, .unset] [(.int (0 : Int32)), (.int (11 : Int32)), (.ref b97), (.ref b97)])) t → Steps p.tables e below (s₁.setTop (entryFrame m #[(.int p0), (.int p1), (.int p2)] maxLocals)) t := fun t k => k155 t (by
    show Steps p.tables e below (T152.setTop (mkF m 53 #[.val (.int p0), .val (.int p1), .val (.int p2), .unset, .unset, .unset, .unset, .unset, .unset, .unset, .unset, .unset] [(.ref b97)])) _
    refine XS.dup XH152.here hx rfl (hb hby at_53) rfl rfl ?_
    show Steps p.tables e below (T152.setTop (mkF m 54 #[.val (.int p0), .val (.int p1), .val (.int p2), .unset, .unset, .unset, .unset, .unset, .unset, .unset, .unset, .unset] [(.ref b97), (.ref b97)])) _
    refine XS.bipush XH152.here hx rfl (hb hby at_54) ?_
    show Steps p.tables e below (T152.setTop (mkF m 56 #[.val (.int p0), .val (.int p1), .val (.int p2), .unset, .unset, .unset, .unset, .unset, .unset, .unset, .unset, .unset] [(.int (11 : Int32)), (.ref b97), (.ref b97)])) _
    refine XS.iconst XH152.here hx rfl (hb hby at_56) ?_
    exact k)
  obtain ⟨cl157, Ar157, qq157, S157, M157, H157, G157⟩ := V152
  have hin157 : ¬ ((11 : Int32) < 0 ∨ cl157.slots.size ≤ ((11 : Int32)).toNatClampNeg) := inb_of S157 ⟨by decide, by decide⟩
  obtain ⟨T157, h157, X157, e157, W157, st157⟩ := stI XH152 hx hZ e152 Ar157 (j := (11 : Int32)) hin157 (g := (mkF m 57 #[.val (.int p0), .val (.int p1), .val (.int p2), .unset, .unset, .unset, .unset, .unset, .unset, .unset, .unset, .unset] [(.int (0 : Int32)), (.int (11 : Int32)), (.ref b97), (.ref b97)])) rfl rfl (hb hby at_57)
  have V157 : Arv Z h157 b97 c97 .int (20 : Int32) [(.int (0 : Int32)), (.int (4 : Int32)), (.int (1 : Int32)), (.int (0 : Int32)), (.int (2 : Int32)), (.int (1 : Int32)), (.int (0 : Int32)), (.int (2 : Int32)), (.int (1 : Int32)), (.int (0 : Int32)), (.int (1 : Int32)), (.int (0 : Int32)), (.int (0 : Int32)), (.int (0 : Int32)), (.int (0 : Int32)), (.int (0 : Int32)), (.int (0 : Int32)), (.int (0 : Int32)), (.int (0 : Int32)), (.int (0 : Int32))] (.int (0 : Int32)) := Arv.set Ar157 qq157 S157 M157 H157 G157 rfl W157 11 rfl (Nat.le_of_ble_eq_true rfl)
  have N157 := Fr.snoc X157 NH152 g_b97
  obtain ⟨LH157, XH157, NH157⟩ := own_hide X157 N157
  clear X157 N157
  have Z158 : n0 ≤ h157.size := Nat.le_trans Z153 (Nat.le_of_eq W157.size.symm)
  have F159 : Old Z n0 h157 := Old.wr F154 W157 g_b97
  have k160 : ∀ t, Steps p.tables e below (T157.setTop (mkF m 58 #[.val (.int p0), .val (.int p1), .val (.int p2), .unset, .unset, .unset, .unset, .unset, .unset, .unset, .unset, .unset] [(.ref b97)])) t → Steps p.tables e below (s₁.setTop (entryFrame m #[(.int p0), (.int p1), (.int p2)] maxLocals)) t := fun t k => k156 t (st157 t k)
  have k161 : ∀ t, Steps p.tables e below (T157.setTop (mkF m 62 #[.val (.int p0), .val (.int p1), .val (.int p2), .unset, .unset, .unset, .unset, .unset, .unset, .unset, .unset, .unset] [(.int (0 : Int32)), (.int (12 : Int32)), (.ref b97), (.ref b97)])) t → Steps p.tables e below (s₁.setTop (entryFrame m #[(.int p0), (.int p1), (.int p2)] maxLocals)) t := fun t k => k160 t (by
    show Steps p.tables e below (T157.setTop (mkF m 58 #[.val (.int p0), .val (.int p1), .val (.int p2), .unset, .unset, .unset, .unset, .unset, .unset, .unset, .unset, .unset] [(.ref b97)])) _
    refine XS.dup XH157.here hx rfl (hb hby at_58) rfl rfl ?_
    show Steps p.tables e below (T157.setTop (mkF m 59 #[.val (.int p0), .val (.int p1), .val (.int p2), .unset, .unset, .unset, .unset, .unset, .unset, .unset, .unset, .unset] [(.ref b97), (.ref b97)])) _
    refine XS.bipush XH157.here hx rfl (hb hby at_59) ?_
    show Steps p.tables e below (T157.setTop (mkF m 61 #[.val (.int p0), .val (.int p1), .val (.int p2), .unset, .unset, .unset, .unset, .unset, .unset, .unset, .unset, .unset] [(.int (12 : Int32)), (.ref b97), (.ref b97)])) _
    refine XS.iconst XH157.here hx rfl (hb hby at_61) ?_
    exact k)
  obtain ⟨cl162, Ar162, qq162, S162, M162, H162, G162⟩ := V157
  have hin162 : ¬ ((12 : Int32) < 0 ∨ cl162.slots.size ≤ ((12 : Int32)).toNatClampNeg) := inb_of S162 ⟨by decide, by decide⟩
  obtain ⟨T162, h162, X162, e162, W162, st162⟩ := stI XH157 hx hZ e157 Ar162 (j := (12 : Int32)) hin162 (g := (mkF m 62 #[.val (.int p0), .val (.int p1), .val (.int p2), .unset, .unset, .unset, .unset, .unset, .unset, .unset, .unset, .unset] [(.int (0 : Int32)), (.int (12 : Int32)), (.ref b97), (.ref b97)])) rfl rfl (hb hby at_62)
  have V162 : Arv Z h162 b97 c97 .int (20 : Int32) [(.int (0 : Int32)), (.int (4 : Int32)), (.int (1 : Int32)), (.int (0 : Int32)), (.int (2 : Int32)), (.int (1 : Int32)), (.int (0 : Int32)), (.int (2 : Int32)), (.int (1 : Int32)), (.int (0 : Int32)), (.int (1 : Int32)), (.int (0 : Int32)), (.int (0 : Int32)), (.int (0 : Int32)), (.int (0 : Int32)), (.int (0 : Int32)), (.int (0 : Int32)), (.int (0 : Int32)), (.int (0 : Int32)), (.int (0 : Int32))] (.int (0 : Int32)) := Arv.set Ar162 qq162 S162 M162 H162 G162 rfl W162 12 rfl (Nat.le_of_ble_eq_true rfl)
  have N162 := Fr.snoc X162 NH157 g_b97
  obtain ⟨LH162, XH162, NH162⟩ := own_hide X162 N162
  clear X162 N162
  have Z163 : n0 ≤ h162.size := Nat.le_trans Z158 (Nat.le_of_eq W162.size.symm)
  have F164 : Old Z n0 h162 := Old.wr F159 W162 g_b97
  have k165 : ∀ t, Steps p.tables e below (T162.setTop (mkF m 63 #[.val (.int p0), .val (.int p1), .val (.int p2), .unset, .unset, .unset, .unset, .unset, .unset, .unset, .unset, .unset] [(.ref b97)])) t → Steps p.tables e below (s₁.setTop (entryFrame m #[(.int p0), (.int p1), (.int p2)] maxLocals)) t := fun t k => k161 t (st162 t k)
  have k166 : ∀ t, Steps p.tables e below (T162.setTop (mkF m 67 #[.val (.int p0), .val (.int p1), .val (.int p2), .unset, .unset, .unset, .unset, .unset, .unset, .unset, .unset, .unset] [(.int (0 : Int32)), (.int (13 : Int32)), (.ref b97), (.ref b97)])) t → Steps p.tables e below (s₁.setTop (entryFrame m #[(.int p0), (.int p1), (.int p2)] maxLocals)) t := fun t k => k165 t (by
    show Steps p.tables e below (T162.setTop (mkF m 63 #[.val (.int p0), .val (.int p1), .val (.int p2), .unset, .unset, .unset, .unset, .unset, .unset, .unset, .unset, .unset] [(.ref b97)])) _
    refine XS.dup XH162.here hx rfl (hb hby at_63) rfl rfl ?_
    show Steps p.tables e below (T162.setTop (mkF m 64 #[.val (.int p0), .val (.int p1), .val (.int p2), .unset, .unset, .unset, .unset, .unset, .unset, .unset, .unset, .unset] [(.ref b97), (.ref b97)])) _
    refine XS.bipush XH162.here hx rfl (hb hby at_64) ?_
    show Steps p.tables e below (T162.setTop (mkF m 66 #[.val (.int p0), .val (.int p1), .val (.int p2), .unset, .unset, .unset, .unset, .unset, .unset, .unset, .unset, .unset] [(.int (13 : Int32)), (.ref b97), (.ref b97)])) _
    refine XS.iconst XH162.here hx rfl (hb hby at_66) ?_
    exact k)
  obtain ⟨cl167, Ar167, qq167, S167, M167, H167, G167⟩ := V162
  have hin167 : ¬ ((13 : Int32) < 0 ∨ cl167.slots.size ≤ ((13 : Int32)).toNatClampNeg) := inb_of S167 ⟨by decide, by decide⟩
  obtain ⟨T167, h167, X167, e167, W167, st167⟩ := stI XH162 hx hZ e162 Ar167 (j := (13 : Int32)) hin167 (g := (mkF m 67 #[.val (.int p0), .val (.int p1), .val (.int p2), .unset, .unset, .unset, .unset, .unset, .unset, .unset, .unset, .unset] [(.int (0 : Int32)), (.int (13 : Int32)), (.ref b97), (.ref b97)])) rfl rfl (hb hby at_67)
  have V167 : Arv Z h167 b97 c97 .int (20 : Int32) [(.int (0 : Int32)), (.int (4 : Int32)), (.int (1 : Int32)), (.int (0 : Int32)), (.int (2 : Int32)), (.int (1 : Int32)), (.int (0 : Int32)), (.int (2 : Int32)), (.int (1 : Int32)), (.int (0 : Int32)), (.int (1 : Int32)), (.int (0 : Int32)), (.int (0 : Int32)), (.int (0 : Int32)), (.int (0 : Int32)), (.int (0 : Int32)), (.int (0 : Int32)), (.int (0 : Int32)), (.int (0 : Int32)), (.int (0 : Int32))] (.int (0 : Int32)) := Arv.set Ar167 qq167 S167 M167 H167 G167 rfl W167 13 rfl (Nat.le_of_ble_eq_true rfl)
  have N167 := Fr.snoc X167 NH162 g_b97
  obtain ⟨LH167, XH167, NH167⟩ := own_hide X167 N167
  clear X167 N167
  have Z168 : n0 ≤ h167.size := Nat.le_trans Z163 (Nat.le_of_eq W167.size.symm)
  have F169 : Old Z n0 h167 := Old.wr F164 W167 g_b97
  have k170 : ∀ t, Steps p.tables e below (T167.setTop (mkF m 68 #[.val (.int p0), .val (.int p1), .val (.int p2), .unset, .unset, .unset, .unset, .unset, .unset, .unset, .unset, .unset] [(.ref b97)])) t → Steps p.tables e below (s₁.setTop (entryFrame m #[(.int p0), (.int p1), (.int p2)] maxLocals)) t := fun t k => k166 t (st167 t k)
  have k171 : ∀ t, Steps p.tables e below (T167.setTop (mkF m 72 #[.val (.int p0), .val (.int p1), .val (.int p2), .unset, .unset, .unset, .unset, .unset, .unset, .unset, .unset, .unset] [(.int (0 : Int32)), (.int (14 : Int32)), (.ref b97), (.ref b97)])) t → Steps p.tables e below (s₁.setTop (entryFrame m #[(.int p0), (.int p1), (.int p2)] maxLocals)) t := fun t k => k170 t (by
    show Steps p.tables e below (T167.setTop (mkF m 68 #[.val (.int p0), .val (.int p1), .val (.int p2), .unset, .unset, .unset, .unset, .unset, .unset, .unset, .unset, .unset] [(.ref b97)])) _
    refine XS.dup XH167.here hx rfl (hb hby at_68) rfl rfl ?_
    show Steps p.tables e below (T167.setTop (mkF m 69 #[.val (.int p0), .val (.int p1), .val (.int p2), .unset, .unset, .unset, .unset, .unset, .unset, .unset, .unset, .unset] [(.ref b97), (.ref b97)])) _
    refine XS.bipush XH167.here hx rfl (hb hby at_69) ?_
    show Steps p.tables e below (T167.setTop (mkF m 71 #[.val (.int p0), .val (.int p1), .val (.int p2), .unset, .unset, .unset, .unset, .unset, .unset, .unset, .unset, .unset] [(.int (14 : Int32)), (.ref b97), (.ref b97)])) _
    refine XS.iconst XH167.here hx rfl (hb hby at_71) ?_
    exact k)
  obtain ⟨cl172, Ar172, qq172, S172, M172, H172, G172⟩ := V167
  have hin172 : ¬ ((14 : Int32) < 0 ∨ cl172.slots.size ≤ ((14 : Int32)).toNatClampNeg) := inb_of S172 ⟨by decide, by decide⟩
  obtain ⟨T172, h172, X172, e172, W172, st172⟩ := stI XH167 hx hZ e167 Ar172 (j := (14 : Int32)) hin172 (g := (mkF m 72 #[.val (.int p0), .val (.int p1), .val (.int p2), .unset, .unset, .unset, .unset, .unset, .unset, .unset, .unset, .unset] [(.int (0 : Int32)), (.int (14 : Int32)), (.ref b97), (.ref b97)])) rfl rfl (hb hby at_72)
  have V172 : Arv Z h172 b97 c97 .int (20 : Int32) [(.int (0 : Int32)), (.int (4 : Int32)), (.int (1 : Int32)), (.int (0 : Int32)), (.int (2 : Int32)), (.int (1 : Int32)), (.int (0 : Int32)), (.int (2 : Int32)), (.int (1 : Int32)), (.int (0 : Int32)), (.int (1 : Int32)), (.int (0 : Int32)), (.int (0 : Int32)), (.int (0 : Int32)), (.int (0 : Int32)), (.int (0 : Int32)), (.int (0 : Int32)), (.int (0 : Int32)), (.int (0 : Int32)), (.int (0 : Int32))] (.int (0 : Int32)) := Arv.set Ar172 qq172 S172 M172 H172 G172 rfl W172 14 rfl (Nat.le_of_ble_eq_true rfl)
  have N172 := Fr.snoc X172 NH167 g_b97
  obtain ⟨LH172, XH172, NH172⟩ := own_hide X172 N172
  clear X172 N172
  have Z173 : n0 ≤ h172.size := Nat.le_trans Z168 (Nat.le_of_eq W172.size.symm)
  have F174 : Old Z n0 h172 := Old.wr F169 W172 g_b97
  have k175 : ∀ t, Steps p.tables e below (T172.setTop (mkF m 73 #[.val (.int p0), .val (.int p1), .val (.int p2), .unset, .unset, .unset, .unset, .unset, .unset, .unset, .unset, .unset] [(.ref b97)])) t → Steps p.tables e below (s₁.setTop (entryFrame m #[(.int p0), (.int p1), (.int p2)] maxLocals)) t := fun t k => k171 t (st172 t k)
  have k176 : ∀ t, Steps p.tables e below (T172.setTop (mkF m 77 #[.val (.int p0), .val (.int p1), .val (.int p2), .unset, .unset, .unset, .unset, .unset, .unset, .unset, .unset, .unset] [(.int (0 : Int32)), (.int (15 : Int32)), (.ref b97), (.ref b97)])) t → Steps p.tables e below (s₁.setTop (entryFrame m #[(.int p0), (.int p1), (.int p2)] maxLocals)) t := fun t k => k175 t (by
    show Steps p.tables e below (T172.setTop (mkF m 73 #[.val (.int p0), .val (.int p1), .val (.int p2), .unset, .unset, .unset, .unset, .unset, .unset, .unset, .unset, .unset] [(.ref b97)])) _
    refine XS.dup XH172.here hx rfl (hb hby at_73) rfl rfl ?_
    show Steps p.tables e below (T172.setTop (mkF m 74 #[.val (.int p0), .val (.int p1), .val (.int p2), .unset, .unset, .unset, .unset, .unset, .unset, .unset, .unset, .unset] [(.ref b97), (.ref b97)])) _
    refine XS.bipush XH172.here hx rfl (hb hby at_74) ?_
    show Steps p.tables e below (T172.setTop (mkF m 76 #[.val (.int p0), .val (.int p1), .val (.int p2), .unset, .unset, .unset, .unset, .unset, .unset, .unset, .unset, .unset] [(.int (15 : Int32)), (.ref b97), (.ref b97)])) _
    refine XS.iconst XH172.here hx rfl (hb hby at_76) ?_
    exact k)
  obtain ⟨cl177, Ar177, qq177, S177, M177, H177, G177⟩ := V172
  have hin177 : ¬ ((15 : Int32) < 0 ∨ cl177.slots.size ≤ ((15 : Int32)).toNatClampNeg) := inb_of S177 ⟨by decide, by decide⟩
  obtain ⟨T177, h177, X177, e177, W177, st177⟩ := stI XH172 hx hZ e172 Ar177 (j := (15 : Int32)) hin177 (g := (mkF m 77 #[.val (.int p0), .val (.int p1), .val (.int p2), .unset, .unset, .unset, .unset, .unset, .unset, .unset, .unset, .unset] [(.int (0 : Int32)), (.int (15 : Int32)), (.ref b97), (.ref b97)])) rfl rfl (hb hby at_77)
  have V177 : Arv Z h177 b97 c97 .int (20 : Int32) [(.int (0 : Int32)), (.int (4 : Int32)), (.int (1 : Int32)), (.int (0 : Int32)), (.int (2 : Int32)), (.int (1 : Int32)), (.int (0 : Int32)), (.int (2 : Int32)), (.int (1 : Int32)), (.int (0 : Int32)), (.int (1 : Int32)), (.int (0 : Int32)), (.int (0 : Int32)), (.int (0 : Int32)), (.int (0 : Int32)), (.int (0 : Int32)), (.int (0 : Int32)), (.int (0 : Int32)), (.int (0 : Int32)), (.int (0 : Int32))] (.int (0 : Int32)) := Arv.set Ar177 qq177 S177 M177 H177 G177 rfl W177 15 rfl (Nat.le_of_ble_eq_true rfl)
  have N177 := Fr.snoc X177 NH172 g_b97
  obtain ⟨LH177, XH177, NH177⟩ := own_hide X177 N177
  clear X177 N177
  have Z178 : n0 ≤ h177.size := Nat.le_trans Z173 (Nat.le_of_eq W177.size.symm)
  have F179 : Old Z n0 h177 := Old.wr F174 W177 g_b97
  have k180 : ∀ t, Steps p.tables e below (T177.setTop (mkF m 78 #[.val (.int p0), .val (.int p1), .val (.int p2), .unset, .unset, .unset, .unset, .unset, .unset, .unset, .unset, .unset] [(.ref b97)])) t → Steps p.tables e below (s₁.setTop (entryFrame m #[(.int p0), (.int p1), (.int p2)] maxLocals)) t := fun t k => k176 t (st177 t k)
  have k181 : ∀ t, Steps p.tables e below (T177.setTop (mkF m 82 #[.val (.int p0), .val (.int p1), .val (.int p2), .unset, .unset, .unset, .unset, .unset, .unset, .unset, .unset, .unset] [(.int (0 : Int32)), (.int (16 : Int32)), (.ref b97), (.ref b97)])) t → Steps p.tables e below (s₁.setTop (entryFrame m #[(.int p0), (.int p1), (.int p2)] maxLocals)) t := fun t k => k180 t (by
    show Steps p.tables e below (T177.setTop (mkF m 78 #[.val (.int p0), .val (.int p1), .val (.int p2), .unset, .unset, .unset, .unset, .unset, .unset, .unset, .unset, .unset] [(.ref b97)])) _
    refine XS.dup XH177.here hx rfl (hb hby at_78) rfl rfl ?_
    show Steps p.tables e below (T177.setTop (mkF m 79 #[.val (.int p0), .val (.int p1), .val (.int p2), .unset, .unset, .unset, .unset, .unset, .unset, .unset, .unset, .unset] [(.ref b97), (.ref b97)])) _
    refine XS.bipush XH177.here hx rfl (hb hby at_79) ?_
    show Steps p.tables e below (T177.setTop (mkF m 81 #[.val (.int p0), .val (.int p1), .val (.int p2), .unset, .unset, .unset, .unset, .unset, .unset, .unset, .unset, .unset] [(.int (16 : Int32)), (.ref b97), (.ref b97)])) _
    refine XS.iconst XH177.here hx rfl (hb hby at_81) ?_
    exact k)
  obtain ⟨cl182, Ar182, qq182, S182, M182, H182, G182⟩ := V177
  have hin182 : ¬ ((16 : Int32) < 0 ∨ cl182.slots.size ≤ ((16 : Int32)).toNatClampNeg) := inb_of S182 ⟨by decide, by decide⟩
  obtain ⟨T182, h182, X182, e182, W182, st182⟩ := stI XH177 hx hZ e177 Ar182 (j := (16 : Int32)) hin182 (g := (mkF m 82 #[.val (.int p0), .val (.int p1), .val (.int p2), .unset, .unset, .unset, .unset, .unset, .unset, .unset, .unset, .unset] [(.int (0 : Int32)), (.int (16 : Int32)), (.ref b97), (.ref b97)])) rfl rfl (hb hby at_82)
  have V182 : Arv Z h182 b97 c97 .int (20 : Int32) [(.int (0 : Int32)), (.int (4 : Int32)), (.int (1 : Int32)), (.int (0 : Int32)), (.int (2 : Int32)), (.int (1 : Int32)), (.int (0 : Int32)), (.int (2 : Int32)), (.int (1 : Int32)), (.int (0 : Int32)), (.int (1 : Int32)), (.int (0 : Int32)), (.int (0 : Int32)), (.int (0 : Int32)), (.int (0 : Int32)), (.int (0 : Int32)), (.int (0 : Int32)), (.int (0 : Int32)), (.int (0 : Int32)), (.int (0 : Int32))] (.int (0 : Int32)) := Arv.set Ar182 qq182 S182 M182 H182 G182 rfl W182 16 rfl (Nat.le_of_ble_eq_true rfl)
  have N182 := Fr.snoc X182 NH177 g_b97
  obtain ⟨LH182, XH182, NH182⟩ := own_hide X182 N182
  clear X182 N182
  have Z183 : n0 ≤ h182.size := Nat.le_trans Z178 (Nat.le_of_eq W182.size.symm)
  have F184 : Old Z n0 h182 := Old.wr F179 W182 g_b97
  have k185 : ∀ t, Steps p.tables e below (T182.setTop (mkF m 83 #[.val (.int p0), .val (.int p1), .val (.int p2), .unset, .unset, .unset, .unset, .unset, .unset, .unset, .unset, .unset] [(.ref b97)])) t → Steps p.tables e below (s₁.setTop (entryFrame m #[(.int p0), (.int p1), (.int p2)] maxLocals)) t := fun t k => k181 t (st182 t k)
  have k186 : ∀ t, Steps p.tables e below (T182.setTop (mkF m 87 #[.val (.int p0), .val (.int p1), .val (.int p2), .unset, .unset, .unset, .unset, .unset, .unset, .unset, .unset, .unset] [(.int (0 : Int32)), (.int (17 : Int32)), (.ref b97), (.ref b97)])) t → Steps p.tables e below (s₁.setTop (entryFrame m #[(.int p0), (.int p1), (.int p2)] maxLocals)) t := fun t k => k185 t (by
    show Steps p.tables e below (T182.setTop (mkF m 83 #[.val (.int p0), .val (.int p1), .val (.int p2), .unset, .unset, .unset, .unset, .unset, .unset, .unset, .unset, .unset] [(.ref b97)])) _
    refine XS.dup XH182.here hx rfl (hb hby at_83) rfl rfl ?_
    show Steps p.tables e below (T182.setTop (mkF m 84 #[.val (.int p0), .val (.int p1), .val (.int p2), .unset, .unset, .unset, .unset, .unset, .unset, .unset, .unset, .unset] [(.ref b97), (.ref b97)])) _
    refine XS.bipush XH182.here hx rfl (hb hby at_84) ?_
    show Steps p.tables e below (T182.setTop (mkF m 86 #[.val (.int p0), .val (.int p1), .val (.int p2), .unset, .unset, .unset, .unset, .unset, .unset, .unset, .unset, .unset] [(.int (17 : Int32)), (.ref b97), (.ref b97)])) _
    refine XS.iconst XH182.here hx rfl (hb hby at_86) ?_
    exact k)
  obtain ⟨cl187, Ar187, qq187, S187, M187, H187, G187⟩ := V182
  have hin187 : ¬ ((17 : Int32) < 0 ∨ cl187.slots.size ≤ ((17 : Int32)).toNatClampNeg) := inb_of S187 ⟨by decide, by decide⟩
  obtain ⟨T187, h187, X187, e187, W187, st187⟩ := stI XH182 hx hZ e182 Ar187 (j := (17 : Int32)) hin187 (g := (mkF m 87 #[.val (.int p0), .val (.int p1), .val (.int p2), .unset, .unset, .unset, .unset, .unset, .unset, .unset, .unset, .unset] [(.int (0 : Int32)), (.int (17 : Int32)), (.ref b97), (.ref b97)])) rfl rfl (hb hby at_87)
  have V187 : Arv Z h187 b97 c97 .int (20 : Int32) [(.int (0 : Int32)), (.int (4 : Int32)), (.int (1 : Int32)), (.int (0 : Int32)), (.int (2 : Int32)), (.int (1 : Int32)), (.int (0 : Int32)), (.int (2 : Int32)), (.int (1 : Int32)), (.int (0 : Int32)), (.int (1 : Int32)), (.int (0 : Int32)), (.int (0 : Int32)), (.int (0 : Int32)), (.int (0 : Int32)), (.int (0 : Int32)), (.int (0 : Int32)), (.int (0 : Int32)), (.int (0 : Int32)), (.int (0 : Int32))] (.int (0 : Int32)) := Arv.set Ar187 qq187 S187 M187 H187 G187 rfl W187 17 rfl (Nat.le_of_ble_eq_true rfl)
  have N187 := Fr.snoc X187 NH182 g_b97
  obtain ⟨LH187, XH187, NH187⟩ := own_hide X187 N187
  clear X187 N187
  have Z188 : n0 ≤ h187.size := Nat.le_trans Z183 (Nat.le_of_eq W187.size.symm)
  have F189 : Old Z n0 h187 := Old.wr F184 W187 g_b97
  have k190 : ∀ t, Steps p.tables e below (T187.setTop (mkF m 88 #[.val (.int p0), .val (.int p1), .val (.int p2), .unset, .unset, .unset, .unset, .unset, .unset, .unset, .unset, .unset] [(.ref b97)])) t → Steps p.tables e below (s₁.setTop (entryFrame m #[(.int p0), (.int p1), (.int p2)] maxLocals)) t := fun t k => k186 t (st187 t k)
  have k191 : ∀ t, Steps p.tables e below (T187.setTop (mkF m 92 #[.val (.int p0), .val (.int p1), .val (.int p2), .unset, .unset, .unset, .unset, .unset, .unset, .unset, .unset, .unset] [(.int (0 : Int32)), (.int (18 : Int32)), (.ref b97), (.ref b97)])) t → Steps p.tables e below (s₁.setTop (entryFrame m #[(.int p0), (.int p1), (.int p2)] maxLocals)) t := fun t k => k190 t (by
    show Steps p.tables e below (T187.setTop (mkF m 88 #[.val (.int p0), .val (.int p1), .val (.int p2), .unset, .unset, .unset, .unset, .unset, .unset, .unset, .unset, .unset] [(.ref b97)])) _
    refine XS.dup XH187.here hx rfl (hb hby at_88) rfl rfl ?_
    show Steps p.tables e below (T187.setTop (mkF m 89 #[.val (.int p0), .val (.int p1), .val (.int p2), .unset, .unset, .unset, .unset, .unset, .unset, .unset, .unset, .unset] [(.ref b97), (.ref b97)])) _
    refine XS.bipush XH187.here hx rfl (hb hby at_89) ?_
    show Steps p.tables e below (T187.setTop (mkF m 91 #[.val (.int p0), .val (.int p1), .val (.int p2), .unset, .unset, .unset, .unset, .unset, .unset, .unset, .unset, .unset] [(.int (18 : Int32)), (.ref b97), (.ref b97)])) _
    refine XS.iconst XH187.here hx rfl (hb hby at_91) ?_
    exact k)
  obtain ⟨cl192, Ar192, qq192, S192, M192, H192, G192⟩ := V187
  have hin192 : ¬ ((18 : Int32) < 0 ∨ cl192.slots.size ≤ ((18 : Int32)).toNatClampNeg) := inb_of S192 ⟨by decide, by decide⟩
  obtain ⟨T192, h192, X192, e192, W192, st192⟩ := stI XH187 hx hZ e187 Ar192 (j := (18 : Int32)) hin192 (g := (mkF m 92 #[.val (.int p0), .val (.int p1), .val (.int p2), .unset, .unset, .unset, .unset, .unset, .unset, .unset, .unset, .unset] [(.int (0 : Int32)), (.int (18 : Int32)), (.ref b97), (.ref b97)])) rfl rfl (hb hby at_92)
  have V192 : Arv Z h192 b97 c97 .int (20 : Int32) [(.int (0 : Int32)), (.int (4 : Int32)), (.int (1 : Int32)), (.int (0 : Int32)), (.int (2 : Int32)), (.int (1 : Int32)), (.int (0 : Int32)), (.int (2 : Int32)), (.int (1 : Int32)), (.int (0 : Int32)), (.int (1 : Int32)), (.int (0 : Int32)), (.int (0 : Int32)), (.int (0 : Int32)), (.int (0 : Int32)), (.int (0 : Int32)), (.int (0 : Int32)), (.int (0 : Int32)), (.int (0 : Int32)), (.int (0 : Int32))] (.int (0 : Int32)) := Arv.set Ar192 qq192 S192 M192 H192 G192 rfl W192 18 rfl (Nat.le_of_ble_eq_true rfl)
  have N192 := Fr.snoc X192 NH187 g_b97
  obtain ⟨LH192, XH192, NH192⟩ := own_hide X192 N192
  clear X192 N192
  have Z193 : n0 ≤ h192.size := Nat.le_trans Z188 (Nat.le_of_eq W192.size.symm)
  have F194 : Old Z n0 h192 := Old.wr F189 W192 g_b97
  have k195 : ∀ t, Steps p.tables e below (T192.setTop (mkF m 93 #[.val (.int p0), .val (.int p1), .val (.int p2), .unset, .unset, .unset, .unset, .unset, .unset, .unset, .unset, .unset] [(.ref b97)])) t → Steps p.tables e below (s₁.setTop (entryFrame m #[(.int p0), (.int p1), (.int p2)] maxLocals)) t := fun t k => k191 t (st192 t k)
  have k196 : ∀ t, Steps p.tables e below (T192.setTop (mkF m 97 #[.val (.int p0), .val (.int p1), .val (.int p2), .unset, .unset, .unset, .unset, .unset, .unset, .unset, .unset, .unset] [(.int (0 : Int32)), (.int (19 : Int32)), (.ref b97), (.ref b97)])) t → Steps p.tables e below (s₁.setTop (entryFrame m #[(.int p0), (.int p1), (.int p2)] maxLocals)) t := fun t k => k195 t (by
    show Steps p.tables e below (T192.setTop (mkF m 93 #[.val (.int p0), .val (.int p1), .val (.int p2), .unset, .unset, .unset, .unset, .unset, .unset, .unset, .unset, .unset] [(.ref b97)])) _
    refine XS.dup XH192.here hx rfl (hb hby at_93) rfl rfl ?_
    show Steps p.tables e below (T192.setTop (mkF m 94 #[.val (.int p0), .val (.int p1), .val (.int p2), .unset, .unset, .unset, .unset, .unset, .unset, .unset, .unset, .unset] [(.ref b97), (.ref b97)])) _
    refine XS.bipush XH192.here hx rfl (hb hby at_94) ?_
    show Steps p.tables e below (T192.setTop (mkF m 96 #[.val (.int p0), .val (.int p1), .val (.int p2), .unset, .unset, .unset, .unset, .unset, .unset, .unset, .unset, .unset] [(.int (19 : Int32)), (.ref b97), (.ref b97)])) _
    refine XS.iconst XH192.here hx rfl (hb hby at_96) ?_
    exact k)
  obtain ⟨cl197, Ar197, qq197, S197, M197, H197, G197⟩ := V192
  have hin197 : ¬ ((19 : Int32) < 0 ∨ cl197.slots.size ≤ ((19 : Int32)).toNatClampNeg) := inb_of S197 ⟨by decide, by decide⟩
  obtain ⟨T197, h197, X197, e197, W197, st197⟩ := stI XH192 hx hZ e192 Ar197 (j := (19 : Int32)) hin197 (g := (mkF m 97 #[.val (.int p0), .val (.int p1), .val (.int p2), .unset, .unset, .unset, .unset, .unset, .unset, .unset, .unset, .unset] [(.int (0 : Int32)), (.int (19 : Int32)), (.ref b97), (.ref b97)])) rfl rfl (hb hby at_97)
  have V197 : Arv Z h197 b97 c97 .int (20 : Int32) [(.int (0 : Int32)), (.int (4 : Int32)), (.int (1 : Int32)), (.int (0 : Int32)), (.int (2 : Int32)), (.int (1 : Int32)), (.int (0 : Int32)), (.int (2 : Int32)), (.int (1 : Int32)), (.int (0 : Int32)), (.int (1 : Int32)), (.int (0 : Int32)), (.int (0 : Int32)), (.int (0 : Int32)), (.int (0 : Int32)), (.int (0 : Int32)), (.int (0 : Int32)), (.int (0 : Int32)), (.int (0 : Int32)), (.int (0 : Int32))] (.int (0 : Int32)) := Arv.set Ar197 qq197 S197 M197 H197 G197 rfl W197 19 rfl (Nat.le_of_ble_eq_true rfl)
  have N197 := Fr.snoc X197 NH192 g_b97
  obtain ⟨LH197, XH197, NH197⟩ := own_hide X197 N197
  clear X197 N197
  have Z198 : n0 ≤ h197.size := Nat.le_trans Z193 (Nat.le_of_eq W197.size.symm)
  have F199 : Old Z n0 h197 := Old.wr F194 W197 g_b97
  have k200 : ∀ t, Steps p.tables e below (T197.setTop (mkF m 98 #[.val (.int p0), .val (.int p1), .val (.int p2), .unset, .unset, .unset, .unset, .unset, .unset, .unset, .unset, .unset] [(.ref b97)])) t → Steps p.tables e below (s₁.setTop (entryFrame m #[(.int p0), (.int p1), (.int p2)] maxLocals)) t := fun t k => k196 t (st197 t k)
  have k201 : ∀ t, Steps p.tables e below (T197.setTop (mkF m 101 #[.val (.int p0), .val (.int p1), .val (.int p2), .val (.ref b97), .unset, .unset, .unset, .unset, .unset, .unset, .unset, .unset] [(.int (20 : Int32))])) t → Steps p.tables e below (s₁.setTop (entryFrame m #[(.int p0), (.int p1), (.int p2)] maxLocals)) t := fun t k => k200 t (by
    show Steps p.tables e below (T197.setTop (mkF m 98 #[.val (.int p0), .val (.int p1), .val (.int p2), .unset, .unset, .unset, .unset, .unset, .unset, .unset, .unset, .unset] [(.ref b97)])) _
    refine XS.astoreN XH197.here hx rfl (hb hby at_98) rfl rfl (l' := #[.val (.int p0), .val (.int p1), .val (.int p2), .val (.ref b97), .unset, .unset, .unset, .unset, .unset, .unset, .unset, .unset]) rfl ?_
    show Steps p.tables e below (T197.setTop (mkF m 99 #[.val (.int p0), .val (.int p1), .val (.int p2), .val (.ref b97), .unset, .unset, .unset, .unset, .unset, .unset, .unset, .unset] [])) _
    refine XS.bipush XH197.here hx rfl (hb hby at_99) ?_
    exact k)
  obtain ⟨T202, h202, c202, X202, e202, E202, A202, st202⟩ := newP XH197 hx hZ (hw _ (List.mem_of_getElem? (i := 0) rfl)) e197 (g := (mkF m 101 #[.val (.int p0), .val (.int p1), .val (.int p2), .val (.ref b97), .unset, .unset, .unset, .unset, .unset, .unset, .unset, .unset] [(.int (20 : Int32))])) rfl (hb hby at_101) rfl (by decide) (cap := 20) (by decide) (by decide) (by decide) (by decide)
  obtain ⟨b202, g202⟩ : ∃ z, z = h197.size := ⟨_, rfl⟩
  rw [← g202] at A202 st202
  have ne203 : b97 ≠ b202 := Nat.ne_of_lt (Nat.lt_of_lt_of_le (V197).lt (Nat.le_of_eq g202.symm))
  have g_b202 : n0 ≤ b202 := Nat.le_trans Z198 (Nat.le_of_eq g202.symm)
  have Z204 : n0 ≤ h202.size := Nat.le_trans Z198 E202.1
  have F205 : Old Z n0 h202 := Old.ext F199 E202
  have F206 : Arv Z h202 b97 c97 .int (20 : Int32) [(.int (0 : Int32)), (.int (4 : Int32)), (.int (1 : Int32)), (.int (0 : Int32)), (.int (2 : Int32)), (.int (1 : Int32)), (.int (0 : Int32)), (.int (2 : Int32)), (.int (1 : Int32)), (.int (0 : Int32)), (.int (1 : Int32)), (.int (0 : Int32)), (.int (0 : Int32)), (.int (0 : Int32)), (.int (0 : Int32)), (.int (0 : Int32)), (.int (0 : Int32)), (.int (0 : Int32)), (.int (0 : Int32)), (.int (0 : Int32))] (.int (0 : Int32)) := (V197).ext E202
  have V202 : Arv Z h202 b202 c202 .int (20 : Int32) [(.int (0 : Int32)), (.int (0 : Int32)), (.int (0 : Int32)), (.int (0 : Int32)), (.int (0 : Int32)), (.int (0 : Int32)), (.int (0 : Int32)), (.int (0 : Int32)), (.int (0 : Int32)), (.int (0 : Int32)), (.int (0 : Int32)), (.int (0 : Int32)), (.int (0 : Int32)), (.int (0 : Int32)), (.int (0 : Int32)), (.int (0 : Int32)), (.int (0 : Int32)), (.int (0 : Int32)), (.int (0 : Int32)), (.int (0 : Int32))] (.int (0 : Int32)) := (Arv.new A202 (by decide)).pad (pad_rep [] (.int (0 : Int32)) 20)
  have k207 : ∀ t, Steps p.tables e below (T202.setTop (mkF m 103 #[.val (.int p0), .val (.int p1), .val (.int p2), .val (.ref b97), .unset, .unset, .unset, .unset, .unset, .unset, .unset, .unset] [(.ref b202)])) t → Steps p.tables e below (s₁.setTop (entryFrame m #[(.int p0), (.int p1), (.int p2)] maxLocals)) t := fun t k => k201 t (st202 t k)
  have k208 : ∀ t, Steps p.tables e below (T202.setTop (mkF m 107 #[.val (.int p0), .val (.int p1), .val (.int p2), .val (.ref b97), .unset, .unset, .unset, .unset, .unset, .unset, .unset, .unset] [(.int (7 : Int32)), (.int (0 : Int32)), (.ref b202), (.ref b202)])) t → Steps p.tables e below (s₁.setTop (entryFrame m #[(.int p0), (.int p1), (.int p2)] maxLocals)) t := fun t k => k207 t (by
    show Steps p.tables e below (T202.setTop (mkF m 103 #[.val (.int p0), .val (.int p1), .val (.int p2), .val (.ref b97), .unset, .unset, .unset, .unset, .unset, .unset, .unset, .unset] [(.ref b202)])) _
    refine XS.dup X202.here hx rfl (hb hby at_103) rfl rfl ?_
    show Steps p.tables e below (T202.setTop (mkF m 104 #[.val (.int p0), .val (.int p1), .val (.int p2), .val (.ref b97), .unset, .unset, .unset, .unset, .unset, .unset, .unset, .unset] [(.ref b202), (.ref b202)])) _
    refine XS.iconst X202.here hx rfl (hb hby at_104) ?_
    show Steps p.tables e below (T202.setTop (mkF m 105 #[.val (.int p0), .val (.int p1), .val (.int p2), .val (.ref b97), .unset, .unset, .unset, .unset, .unset, .unset, .unset, .unset] [(.int (0 : Int32)), (.ref b202), (.ref b202)])) _
    refine XS.bipush X202.here hx rfl (hb hby at_105) ?_
    exact k)
  obtain ⟨cl209, Ar209, qq209, S209, M209, H209, G209⟩ := V202
  have hin209 : ¬ ((0 : Int32) < 0 ∨ cl209.slots.size ≤ ((0 : Int32)).toNatClampNeg) := inb_of S209 ⟨by decide, by decide⟩
  obtain ⟨T209, h209, X209, e209, W209, st209⟩ := stI X202 hx hZ e202 Ar209 (j := (0 : Int32)) hin209 (g := (mkF m 107 #[.val (.int p0), .val (.int p1), .val (.int p2), .val (.ref b97), .unset, .unset, .unset, .unset, .unset, .unset, .unset, .unset] [(.int (7 : Int32)), (.int (0 : Int32)), (.ref b202), (.ref b202)])) rfl rfl (hb hby at_107)
  have V209 : Arv Z h209 b202 c202 .int (20 : Int32) [(.int (7 : Int32)), (.int (0 : Int32)), (.int (0 : Int32)), (.int (0 : Int32)), (.int (0 : Int32)), (.int (0 : Int32)), (.int (0 : Int32)), (.int (0 : Int32)), (.int (0 : Int32)), (.int (0 : Int32)), (.int (0 : Int32)), (.int (0 : Int32)), (.int (0 : Int32)), (.int (0 : Int32)), (.int (0 : Int32)), (.int (0 : Int32)), (.int (0 : Int32)), (.int (0 : Int32)), (.int (0 : Int32)), (.int (0 : Int32))] (.int (0 : Int32)) := Arv.set Ar209 qq209 S209 M209 H209 G209 rfl W209 0 rfl (Nat.le_of_ble_eq_true rfl)
  have N209 := Fr.snoc X209 NH197 g_b202
  obtain ⟨LH209, XH209, NH209⟩ := own_hide X209 N209
  clear X209 N209
  have Z210 : n0 ≤ h209.size := Nat.le_trans Z204 (Nat.le_of_eq W209.size.symm)
  have F211 : Old Z n0 h209 := Old.wr F205 W209 g_b202
  have F212 : Arv Z h209 b97 c97 .int (20 : Int32) [(.int (0 : Int32)), (.int (4 : Int32)), (.int (1 : Int32)), (.int (0 : Int32)), (.int (2 : Int32)), (.int (1 : Int32)), (.int (0 : Int32)), (.int (2 : Int32)), (.int (1 : Int32)), (.int (0 : Int32)), (.int (1 : Int32)), (.int (0 : Int32)), (.int (0 : Int32)), (.int (0 : Int32)), (.int (0 : Int32)), (.int (0 : Int32)), (.int (0 : Int32)), (.int (0 : Int32)), (.int (0 : Int32)), (.int (0 : Int32))] (.int (0 : Int32)) := (F206).other W209 ne203
  have k213 : ∀ t, Steps p.tables e below (T209.setTop (mkF m 108 #[.val (.int p0), .val (.int p1), .val (.int p2), .val (.ref b97), .unset, .unset, .unset, .unset, .unset, .unset, .unset, .unset] [(.ref b202)])) t → Steps p.tables e below (s₁.setTop (entryFrame m #[(.int p0), (.int p1), (.int p2)] maxLocals)) t := fun t k => k208 t (st209 t k)
  have k214 : ∀ t, Steps p.tables e below (T209.setTop (mkF m 112 #[.val (.int p0), .val (.int p1), .val (.int p2), .val (.ref b97), .unset, .unset, .unset, .unset, .unset, .unset, .unset, .unset] [(.int (11 : Int32)), (.int (1 : Int32)), (.ref b202), (.ref b202)])) t → Steps p.tables e below (s₁.setTop (entryFrame m #[(.int p0), (.int p1), (.int p2)] maxLocals)) t := fun t k => k213 t (by
    show Steps p.tables e below (T209.setTop (mkF m 108 #[.val (.int p0), .val (.int p1), .val (.int p2), .val (.ref b97), .unset, .unset, .unset, .unset, .unset, .unset, .unset, .unset] [(.ref b202)])) _
    refine XS.dup XH209.here hx rfl (hb hby at_108) rfl rfl ?_
    show Steps p.tables e below (T209.setTop (mkF m 109 #[.val (.int p0), .val (.int p1), .val (.int p2), .val (.ref b97), .unset, .unset, .unset, .unset, .unset, .unset, .unset, .unset] [(.ref b202), (.ref b202)])) _
    refine XS.iconst XH209.here hx rfl (hb hby at_109) ?_
    show Steps p.tables e below (T209.setTop (mkF m 110 #[.val (.int p0), .val (.int p1), .val (.int p2), .val (.ref b97), .unset, .unset, .unset, .unset, .unset, .unset, .unset, .unset] [(.int (1 : Int32)), (.ref b202), (.ref b202)])) _
    refine XS.bipush XH209.here hx rfl (hb hby at_110) ?_
    exact k)
  obtain ⟨cl215, Ar215, qq215, S215, M215, H215, G215⟩ := V209
  have hin215 : ¬ ((1 : Int32) < 0 ∨ cl215.slots.size ≤ ((1 : Int32)).toNatClampNeg) := inb_of S215 ⟨by decide, by decide⟩
  obtain ⟨T215, h215, X215, e215, W215, st215⟩ := stI XH209 hx hZ e209 Ar215 (j := (1 : Int32)) hin215 (g := (mkF m 112 #[.val (.int p0), .val (.int p1), .val (.int p2), .val (.ref b97), .unset, .unset, .unset, .unset, .unset, .unset, .unset, .unset] [(.int (11 : Int32)), (.int (1 : Int32)), (.ref b202), (.ref b202)])) rfl rfl (hb hby at_112)
  have V215 : Arv Z h215 b202 c202 .int (20 : Int32) [(.int (7 : Int32)), (.int (11 : Int32)), (.int (0 : Int32)), (.int (0 : Int32)), (.int (0 : Int32)), (.int (0 : Int32)), (.int (0 : Int32)), (.int (0 : Int32)), (.int (0 : Int32)), (.int (0 : Int32)), (.int (0 : Int32)), (.int (0 : Int32)), (.int (0 : Int32)), (.int (0 : Int32)), (.int (0 : Int32)), (.int (0 : Int32)), (.int (0 : Int32)), (.int (0 : Int32)), (.int (0 : Int32)), (.int (0 : Int32))] (.int (0 : Int32)) := Arv.set Ar215 qq215 S215 M215 H215 G215 rfl W215 1 rfl (Nat.le_of_ble_eq_true rfl)
  have N215 := Fr.snoc X215 NH209 g_b202
  obtain ⟨LH215, XH215, NH215⟩ := own_hide X215 N215
  clear X215 N215
  have Z216 : n0 ≤ h215.size := Nat.le_trans Z210 (Nat.le_of_eq W215.size.symm)
  have F217 : Old Z n0 h215 := Old.wr F211 W215 g_b202
  have F218 : Arv Z h215 b97 c97 .int (20 : Int32) [(.int (0 : Int32)), (.int (4 : Int32)), (.int (1 : Int32)), (.int (0 : Int32)), (.int (2 : Int32)), (.int (1 : Int32)), (.int (0 : Int32)), (.int (2 : Int32)), (.int (1 : Int32)), (.int (0 : Int32)), (.int (1 : Int32)), (.int (0 : Int32)), (.int (0 : Int32)), (.int (0 : Int32)), (.int (0 : Int32)), (.int (0 : Int32)), (.int (0 : Int32)), (.int (0 : Int32)), (.int (0 : Int32)), (.int (0 : Int32))] (.int (0 : Int32)) := (F212).other W215 ne203
  have k219 : ∀ t, Steps p.tables e below (T215.setTop (mkF m 113 #[.val (.int p0), .val (.int p1), .val (.int p2), .val (.ref b97), .unset, .unset, .unset, .unset, .unset, .unset, .unset, .unset] [(.ref b202)])) t → Steps p.tables e below (s₁.setTop (entryFrame m #[(.int p0), (.int p1), (.int p2)] maxLocals)) t := fun t k => k214 t (st215 t k)
  have k220 : ∀ t, Steps p.tables e below (T215.setTop (mkF m 116 #[.val (.int p0), .val (.int p1), .val (.int p2), .val (.ref b97), .unset, .unset, .unset, .unset, .unset, .unset, .unset, .unset] [(.int (2 : Int32)), (.int (2 : Int32)), (.ref b202), (.ref b202)])) t → Steps p.tables e below (s₁.setTop (entryFrame m #[(.int p0), (.int p1), (.int p2)] maxLocals)) t := fun t k => k219 t (by
    show Steps p.tables e below (T215.setTop (mkF m 113 #[.val (.int p0), .val (.int p1), .val (.int p2), .val (.ref b97), .unset, .unset, .unset, .unset, .unset, .unset, .unset, .unset] [(.ref b202)])) _
    refine XS.dup XH215.here hx rfl (hb hby at_113) rfl rfl ?_
    show Steps p.tables e below (T215.setTop (mkF m 114 #[.val (.int p0), .val (.int p1), .val (.int p2), .val (.ref b97), .unset, .unset, .unset, .unset, .unset, .unset, .unset, .unset] [(.ref b202), (.ref b202)])) _
    refine XS.iconst XH215.here hx rfl (hb hby at_114) ?_
    show Steps p.tables e below (T215.setTop (mkF m 115 #[.val (.int p0), .val (.int p1), .val (.int p2), .val (.ref b97), .unset, .unset, .unset, .unset, .unset, .unset, .unset, .unset] [(.int (2 : Int32)), (.ref b202), (.ref b202)])) _
    refine XS.iconst XH215.here hx rfl (hb hby at_115) ?_
    exact k)
  obtain ⟨cl221, Ar221, qq221, S221, M221, H221, G221⟩ := V215
  have hin221 : ¬ ((2 : Int32) < 0 ∨ cl221.slots.size ≤ ((2 : Int32)).toNatClampNeg) := inb_of S221 ⟨by decide, by decide⟩
  obtain ⟨T221, h221, X221, e221, W221, st221⟩ := stI XH215 hx hZ e215 Ar221 (j := (2 : Int32)) hin221 (g := (mkF m 116 #[.val (.int p0), .val (.int p1), .val (.int p2), .val (.ref b97), .unset, .unset, .unset, .unset, .unset, .unset, .unset, .unset] [(.int (2 : Int32)), (.int (2 : Int32)), (.ref b202), (.ref b202)])) rfl rfl (hb hby at_116)
  have V221 : Arv Z h221 b202 c202 .int (20 : Int32) [(.int (7 : Int32)), (.int (11 : Int32)), (.int (2 : Int32)), (.int (0 : Int32)), (.int (0 : Int32)), (.int (0 : Int32)), (.int (0 : Int32)), (.int (0 : Int32)), (.int (0 : Int32)), (.int (0 : Int32)), (.int (0 : Int32)), (.int (0 : Int32)), (.int (0 : Int32)), (.int (0 : Int32)), (.int (0 : Int32)), (.int (0 : Int32)), (.int (0 : Int32)), (.int (0 : Int32)), (.int (0 : Int32)), (.int (0 : Int32))] (.int (0 : Int32)) := Arv.set Ar221 qq221 S221 M221 H221 G221 rfl W221 2 rfl (Nat.le_of_ble_eq_true rfl)
  have N221 := Fr.snoc X221 NH215 g_b202
  obtain ⟨LH221, XH221, NH221⟩ := own_hide X221 N221
  clear X221 N221
  have Z222 : n0 ≤ h221.size := Nat.le_trans Z216 (Nat.le_of_eq W221.size.symm)
  have F223 : Old Z n0 h221 := Old.wr F217 W221 g_b202
  have F224 : Arv Z h221 b97 c97 .int (20 : Int32) [(.int (0 : Int32)), (.int (4 : Int32)), (.int (1 : Int32)), (.int (0 : Int32)), (.int (2 : Int32)), (.int (1 : Int32)), (.int (0 : Int32)), (.int (2 : Int32)), (.int (1 : Int32)), (.int (0 : Int32)), (.int (1 : Int32)), (.int (0 : Int32)), (.int (0 : Int32)), (.int (0 : Int32)), (.int (0 : Int32)), (.int (0 : Int32)), (.int (0 : Int32)), (.int (0 : Int32)), (.int (0 : Int32)), (.int (0 : Int32))] (.int (0 : Int32)) := (F218).other W221 ne203
  have k225 : ∀ t, Steps p.tables e below (T221.setTop (mkF m 117 #[.val (.int p0), .val (.int p1), .val (.int p2), .val (.ref b97), .unset, .unset, .unset, .unset, .unset, .unset, .unset, .unset] [(.ref b202)])) t → Steps p.tables e below (s₁.setTop (entryFrame m #[(.int p0), (.int p1), (.int p2)] maxLocals)) t := fun t k => k220 t (st221 t k)
  have k226 : ∀ t, Steps p.tables e below (T221.setTop (mkF m 120 #[.val (.int p0), .val (.int p1), .val (.int p2), .val (.ref b97), .unset, .unset, .unset, .unset, .unset, .unset, .unset, .unset] [(.int (5 : Int32)), (.int (3 : Int32)), (.ref b202), (.ref b202)])) t → Steps p.tables e below (s₁.setTop (entryFrame m #[(.int p0), (.int p1), (.int p2)] maxLocals)) t := fun t k => k225 t (by
    show Steps p.tables e below (T221.setTop (mkF m 117 #[.val (.int p0), .val (.int p1), .val (.int p2), .val (.ref b97), .unset, .unset, .unset, .unset, .unset, .unset, .unset, .unset] [(.ref b202)])) _
    refine XS.dup XH221.here hx rfl (hb hby at_117) rfl rfl ?_
    show Steps p.tables e below (T221.setTop (mkF m 118 #[.val (.int p0), .val (.int p1), .val (.int p2), .val (.ref b97), .unset, .unset, .unset, .unset, .unset, .unset, .unset, .unset] [(.ref b202), (.ref b202)])) _
    refine XS.iconst XH221.here hx rfl (hb hby at_118) ?_
    show Steps p.tables e below (T221.setTop (mkF m 119 #[.val (.int p0), .val (.int p1), .val (.int p2), .val (.ref b97), .unset, .unset, .unset, .unset, .unset, .unset, .unset, .unset] [(.int (3 : Int32)), (.ref b202), (.ref b202)])) _
    refine XS.iconst XH221.here hx rfl (hb hby at_119) ?_
    exact k)
  obtain ⟨cl227, Ar227, qq227, S227, M227, H227, G227⟩ := V221
  have hin227 : ¬ ((3 : Int32) < 0 ∨ cl227.slots.size ≤ ((3 : Int32)).toNatClampNeg) := inb_of S227 ⟨by decide, by decide⟩
  obtain ⟨T227, h227, X227, e227, W227, st227⟩ := stI XH221 hx hZ e221 Ar227 (j := (3 : Int32)) hin227 (g := (mkF m 120 #[.val (.int p0), .val (.int p1), .val (.int p2), .val (.ref b97), .unset, .unset, .unset, .unset, .unset, .unset, .unset, .unset] [(.int (5 : Int32)), (.int (3 : Int32)), (.ref b202), (.ref b202)])) rfl rfl (hb hby at_120)
  have V227 : Arv Z h227 b202 c202 .int (20 : Int32) [(.int (7 : Int32)), (.int (11 : Int32)), (.int (2 : Int32)), (.int (5 : Int32)), (.int (0 : Int32)), (.int (0 : Int32)), (.int (0 : Int32)), (.int (0 : Int32)), (.int (0 : Int32)), (.int (0 : Int32)), (.int (0 : Int32)), (.int (0 : Int32)), (.int (0 : Int32)), (.int (0 : Int32)), (.int (0 : Int32)), (.int (0 : Int32)), (.int (0 : Int32)), (.int (0 : Int32)), (.int (0 : Int32)), (.int (0 : Int32))] (.int (0 : Int32)) := Arv.set Ar227 qq227 S227 M227 H227 G227 rfl W227 3 rfl (Nat.le_of_ble_eq_true rfl)
  have N227 := Fr.snoc X227 NH221 g_b202
  obtain ⟨LH227, XH227, NH227⟩ := own_hide X227 N227
  clear X227 N227
  have Z228 : n0 ≤ h227.size := Nat.le_trans Z222 (Nat.le_of_eq W227.size.symm)
  have F229 : Old Z n0 h227 := Old.wr F223 W227 g_b202
  have F230 : Arv Z h227 b97 c97 .int (20 : Int32) [(.int (0 : Int32)), (.int (4 : Int32)), (.int (1 : Int32)), (.int (0 : Int32)), (.int (2 : Int32)), (.int (1 : Int32)), (.int (0 : Int32)), (.int (2 : Int32)), (.int (1 : Int32)), (.int (0 : Int32)), (.int (1 : Int32)), (.int (0 : Int32)), (.int (0 : Int32)), (.int (0 : Int32)), (.int (0 : Int32)), (.int (0 : Int32)), (.int (0 : Int32)), (.int (0 : Int32)), (.int (0 : Int32)), (.int (0 : Int32))] (.int (0 : Int32)) := (F224).other W227 ne203
  have k231 : ∀ t, Steps p.tables e below (T227.setTop (mkF m 121 #[.val (.int p0), .val (.int p1), .val (.int p2), .val (.ref b97), .unset, .unset, .unset, .unset, .unset, .unset, .unset, .unset] [(.ref b202)])) t → Steps p.tables e below (s₁.setTop (entryFrame m #[(.int p0), (.int p1), (.int p2)] maxLocals)) t := fun t k => k226 t (st227 t k)
  have k232 : ∀ t, Steps p.tables e below (T227.setTop (mkF m 125 #[.val (.int p0), .val (.int p1), .val (.int p2), .val (.ref b97), .unset, .unset, .unset, .unset, .unset, .unset, .unset, .unset] [(.int (7 : Int32)), (.int (4 : Int32)), (.ref b202), (.ref b202)])) t → Steps p.tables e below (s₁.setTop (entryFrame m #[(.int p0), (.int p1), (.int p2)] maxLocals)) t := fun t k => k231 t (by
    show Steps p.tables e below (T227.setTop (mkF m 121 #[.val (.int p0), .val (.int p1), .val (.int p2), .val (.ref b97), .unset, .unset, .unset, .unset, .unset, .unset, .unset, .unset] [(.ref b202)])) _
    refine XS.dup XH227.here hx rfl (hb hby at_121) rfl rfl ?_
    show Steps p.tables e below (T227.setTop (mkF m 122 #[.val (.int p0), .val (.int p1), .val (.int p2), .val (.ref b97), .unset, .unset, .unset, .unset, .unset, .unset, .unset, .unset] [(.ref b202), (.ref b202)])) _
    refine XS.iconst XH227.here hx rfl (hb hby at_122) ?_
    show Steps p.tables e below (T227.setTop (mkF m 123 #[.val (.int p0), .val (.int p1), .val (.int p2), .val (.ref b97), .unset, .unset, .unset, .unset, .unset, .unset, .unset, .unset] [(.int (4 : Int32)), (.ref b202), (.ref b202)])) _
    refine XS.bipush XH227.here hx rfl (hb hby at_123) ?_
    exact k)
  obtain ⟨cl233, Ar233, qq233, S233, M233, H233, G233⟩ := V227
  have hin233 : ¬ ((4 : Int32) < 0 ∨ cl233.slots.size ≤ ((4 : Int32)).toNatClampNeg) := inb_of S233 ⟨by decide, by decide⟩
  obtain ⟨T233, h233, X233, e233, W233, st233⟩ := stI XH227 hx hZ e227 Ar233 (j := (4 : Int32)) hin233 (g := (mkF m 125 #[.val (.int p0), .val (.int p1), .val (.int p2), .val (.ref b97), .unset, .unset, .unset, .unset, .unset, .unset, .unset, .unset] [(.int (7 : Int32)), (.int (4 : Int32)), (.ref b202), (.ref b202)])) rfl rfl (hb hby at_125)
  have V233 : Arv Z h233 b202 c202 .int (20 : Int32) [(.int (7 : Int32)), (.int (11 : Int32)), (.int (2 : Int32)), (.int (5 : Int32)), (.int (7 : Int32)), (.int (0 : Int32)), (.int (0 : Int32)), (.int (0 : Int32)), (.int (0 : Int32)), (.int (0 : Int32)), (.int (0 : Int32)), (.int (0 : Int32)), (.int (0 : Int32)), (.int (0 : Int32)), (.int (0 : Int32)), (.int (0 : Int32)), (.int (0 : Int32)), (.int (0 : Int32)), (.int (0 : Int32)), (.int (0 : Int32))] (.int (0 : Int32)) := Arv.set Ar233 qq233 S233 M233 H233 G233 rfl W233 4 rfl (Nat.le_of_ble_eq_true rfl)
  have N233 := Fr.snoc X233 NH227 g_b202
  obtain ⟨LH233, XH233, NH233⟩ := own_hide X233 N233
  clear X233 N233
  have Z234 : n0 ≤ h233.size := Nat.le_trans Z228 (Nat.le_of_eq W233.size.symm)
  have F235 : Old Z n0 h233 := Old.wr F229 W233 g_b202
  have F236 : Arv Z h233 b97 c97 .int (20 : Int32) [(.int (0 : Int32)), (.int (4 : Int32)), (.int (1 : Int32)), (.int (0 : Int32)), (.int (2 : Int32)), (.int (1 : Int32)), (.int (0 : Int32)), (.int (2 : Int32)), (.int (1 : Int32)), (.int (0 : Int32)), (.int (1 : Int32)), (.int (0 : Int32)), (.int (0 : Int32)), (.int (0 : Int32)), (.int (0 : Int32)), (.int (0 : Int32)), (.int (0 : Int32)), (.int (0 : Int32)), (.int (0 : Int32)), (.int (0 : Int32))] (.int (0 : Int32)) := (F230).other W233 ne203
  have k237 : ∀ t, Steps p.tables e below (T233.setTop (mkF m 126 #[.val (.int p0), .val (.int p1), .val (.int p2), .val (.ref b97), .unset, .unset, .unset, .unset, .unset, .unset, .unset, .unset] [(.ref b202)])) t → Steps p.tables e below (s₁.setTop (entryFrame m #[(.int p0), (.int p1), (.int p2)] maxLocals)) t := fun t k => k232 t (st233 t k)
  have k238 : ∀ t, Steps p.tables e below (T233.setTop (mkF m 129 #[.val (.int p0), .val (.int p1), .val (.int p2), .val (.ref b97), .unset, .unset, .unset, .unset, .unset, .unset, .unset, .unset] [(.int (5 : Int32)), (.int (5 : Int32)), (.ref b202), (.ref b202)])) t → Steps p.tables e below (s₁.setTop (entryFrame m #[(.int p0), (.int p1), (.int p2)] maxLocals)) t := fun t k => k237 t (by
    show Steps p.tables e below (T233.setTop (mkF m 126 #[.val (.int p0), .val (.int p1), .val (.int p2), .val (.ref b97), .unset, .unset, .unset, .unset, .unset, .unset, .unset, .unset] [(.ref b202)])) _
    refine XS.dup XH233.here hx rfl (hb hby at_126) rfl rfl ?_
    show Steps p.tables e below (T233.setTop (mkF m 127 #[.val (.int p0), .val (.int p1), .val (.int p2), .val (.ref b97), .unset, .unset, .unset, .unset, .unset, .unset, .unset, .unset] [(.ref b202), (.ref b202)])) _
    refine XS.iconst XH233.here hx rfl (hb hby at_127) ?_
    show Steps p.tables e below (T233.setTop (mkF m 128 #[.val (.int p0), .val (.int p1), .val (.int p2), .val (.ref b97), .unset, .unset, .unset, .unset, .unset, .unset, .unset, .unset] [(.int (5 : Int32)), (.ref b202), (.ref b202)])) _
    refine XS.iconst XH233.here hx rfl (hb hby at_128) ?_
    exact k)
  obtain ⟨cl239, Ar239, qq239, S239, M239, H239, G239⟩ := V233
  have hin239 : ¬ ((5 : Int32) < 0 ∨ cl239.slots.size ≤ ((5 : Int32)).toNatClampNeg) := inb_of S239 ⟨by decide, by decide⟩
  obtain ⟨T239, h239, X239, e239, W239, st239⟩ := stI XH233 hx hZ e233 Ar239 (j := (5 : Int32)) hin239 (g := (mkF m 129 #[.val (.int p0), .val (.int p1), .val (.int p2), .val (.ref b97), .unset, .unset, .unset, .unset, .unset, .unset, .unset, .unset] [(.int (5 : Int32)), (.int (5 : Int32)), (.ref b202), (.ref b202)])) rfl rfl (hb hby at_129)
  have V239 : Arv Z h239 b202 c202 .int (20 : Int32) [(.int (7 : Int32)), (.int (11 : Int32)), (.int (2 : Int32)), (.int (5 : Int32)), (.int (7 : Int32)), (.int (5 : Int32)), (.int (0 : Int32)), (.int (0 : Int32)), (.int (0 : Int32)), (.int (0 : Int32)), (.int (0 : Int32)), (.int (0 : Int32)), (.int (0 : Int32)), (.int (0 : Int32)), (.int (0 : Int32)), (.int (0 : Int32)), (.int (0 : Int32)), (.int (0 : Int32)), (.int (0 : Int32)), (.int (0 : Int32))] (.int (0 : Int32)) := Arv.set Ar239 qq239 S239 M239 H239 G239 rfl W239 5 rfl (Nat.le_of_ble_eq_true rfl)
  have N239 := Fr.snoc X239 NH233 g_b202
  obtain ⟨LH239, XH239, NH239⟩ := own_hide X239 N239
  clear X239 N239
  have Z240 : n0 ≤ h239.size := Nat.le_trans Z234 (Nat.le_of_eq W239.size.symm)
  have F241 : Old Z n0 h239 := Old.wr F235 W239 g_b202
  have F242 : Arv Z h239 b97 c97 .int (20 : Int32) [(.int (0 : Int32)), (.int (4 : Int32)), (.int (1 : Int32)), (.int (0 : Int32)), (.int (2 : Int32)), (.int (1 : Int32)), (.int (0 : Int32)), (.int (2 : Int32)), (.int (1 : Int32)), (.int (0 : Int32)), (.int (1 : Int32)), (.int (0 : Int32)), (.int (0 : Int32)), (.int (0 : Int32)), (.int (0 : Int32)), (.int (0 : Int32)), (.int (0 : Int32)), (.int (0 : Int32)), (.int (0 : Int32)), (.int (0 : Int32))] (.int (0 : Int32)) := (F236).other W239 ne203
  have k243 : ∀ t, Steps p.tables e below (T239.setTop (mkF m 130 #[.val (.int p0), .val (.int p1), .val (.int p2), .val (.ref b97), .unset, .unset, .unset, .unset, .unset, .unset, .unset, .unset] [(.ref b202)])) t → Steps p.tables e below (s₁.setTop (entryFrame m #[(.int p0), (.int p1), (.int p2)] maxLocals)) t := fun t k => k238 t (st239 t k)
  have k244 : ∀ t, Steps p.tables e below (T239.setTop (mkF m 134 #[.val (.int p0), .val (.int p1), .val (.int p2), .val (.ref b97), .unset, .unset, .unset, .unset, .unset, .unset, .unset, .unset] [(.int (2 : Int32)), (.int (6 : Int32)), (.ref b202), (.ref b202)])) t → Steps p.tables e below (s₁.setTop (entryFrame m #[(.int p0), (.int p1), (.int p2)] maxLocals)) t := fun t k => k243 t (by
    show Steps p.tables e below (T239.setTop (mkF m 130 #[.val (.int p0), .val (.int p1), .val (.int p2), .val (.ref b97), .unset, .unset, .unset, .unset, .unset, .unset, .unset, .unset] [(.ref b202)])) _
    refine XS.dup XH239.here hx rfl (hb hby at_130) rfl rfl ?_
    show Steps p.tables e below (T239.setTop (mkF m 131 #[.val (.int p0), .val (.int p1), .val (.int p2), .val (.ref b97), .unset, .unset, .unset, .unset, .unset, .unset, .unset, .unset] [(.ref b202), (.ref b202)])) _
    refine XS.bipush XH239.here hx rfl (hb hby at_131) ?_
    show Steps p.tables e below (T239.setTop (mkF m 133 #[.val (.int p0), .val (.int p1), .val (.int p2), .val (.ref b97), .unset, .unset, .unset, .unset, .unset, .unset, .unset, .unset] [(.int (6 : Int32)), (.ref b202), (.ref b202)])) _
    refine XS.iconst XH239.here hx rfl (hb hby at_133) ?_
    exact k)
  obtain ⟨cl245, Ar245, qq245, S245, M245, H245, G245⟩ := V239
  have hin245 : ¬ ((6 : Int32) < 0 ∨ cl245.slots.size ≤ ((6 : Int32)).toNatClampNeg) := inb_of S245 ⟨by decide, by decide⟩
  obtain ⟨T245, h245, X245, e245, W245, st245⟩ := stI XH239 hx hZ e239 Ar245 (j := (6 : Int32)) hin245 (g := (mkF m 134 #[.val (.int p0), .val (.int p1), .val (.int p2), .val (.ref b97), .unset, .unset, .unset, .unset, .unset, .unset, .unset, .unset] [(.int (2 : Int32)), (.int (6 : Int32)), (.ref b202), (.ref b202)])) rfl rfl (hb hby at_134)
  have V245 : Arv Z h245 b202 c202 .int (20 : Int32) [(.int (7 : Int32)), (.int (11 : Int32)), (.int (2 : Int32)), (.int (5 : Int32)), (.int (7 : Int32)), (.int (5 : Int32)), (.int (2 : Int32)), (.int (0 : Int32)), (.int (0 : Int32)), (.int (0 : Int32)), (.int (0 : Int32)), (.int (0 : Int32)), (.int (0 : Int32)), (.int (0 : Int32)), (.int (0 : Int32)), (.int (0 : Int32)), (.int (0 : Int32)), (.int (0 : Int32)), (.int (0 : Int32)), (.int (0 : Int32))] (.int (0 : Int32)) := Arv.set Ar245 qq245 S245 M245 H245 G245 rfl W245 6 rfl (Nat.le_of_ble_eq_true rfl)
  have N245 := Fr.snoc X245 NH239 g_b202
  obtain ⟨LH245, XH245, NH245⟩ := own_hide X245 N245
  clear X245 N245
  have Z246 : n0 ≤ h245.size := Nat.le_trans Z240 (Nat.le_of_eq W245.size.symm)
  have F247 : Old Z n0 h245 := Old.wr F241 W245 g_b202
  have F248 : Arv Z h245 b97 c97 .int (20 : Int32) [(.int (0 : Int32)), (.int (4 : Int32)), (.int (1 : Int32)), (.int (0 : Int32)), (.int (2 : Int32)), (.int (1 : Int32)), (.int (0 : Int32)), (.int (2 : Int32)), (.int (1 : Int32)), (.int (0 : Int32)), (.int (1 : Int32)), (.int (0 : Int32)), (.int (0 : Int32)), (.int (0 : Int32)), (.int (0 : Int32)), (.int (0 : Int32)), (.int (0 : Int32)), (.int (0 : Int32)), (.int (0 : Int32)), (.int (0 : Int32))] (.int (0 : Int32)) := (F242).other W245 ne203
  have k249 : ∀ t, Steps p.tables e below (T245.setTop (mkF m 135 #[.val (.int p0), .val (.int p1), .val (.int p2), .val (.ref b97), .unset, .unset, .unset, .unset, .unset, .unset, .unset, .unset] [(.ref b202)])) t → Steps p.tables e below (s₁.setTop (entryFrame m #[(.int p0), (.int p1), (.int p2)] maxLocals)) t := fun t k => k244 t (st245 t k)
  have k250 : ∀ t, Steps p.tables e below (T245.setTop (mkF m 139 #[.val (.int p0), .val (.int p1), .val (.int p2), .val (.ref b97), .unset, .unset, .unset, .unset, .unset, .unset, .unset, .unset] [(.int (5 : Int32)), (.int (7 : Int32)), (.ref b202), (.ref b202)])) t → Steps p.tables e below (s₁.setTop (entryFrame m #[(.int p0), (.int p1), (.int p2)] maxLocals)) t := fun t k => k249 t (by
    show Steps p.tables e below (T245.setTop (mkF m 135 #[.val (.int p0), .val (.int p1), .val (.int p2), .val (.ref b97), .unset, .unset, .unset, .unset, .unset, .unset, .unset, .unset] [(.ref b202)])) _
    refine XS.dup XH245.here hx rfl (hb hby at_135) rfl rfl ?_
    show Steps p.tables e below (T245.setTop (mkF m 136 #[.val (.int p0), .val (.int p1), .val (.int p2), .val (.ref b97), .unset, .unset, .unset, .unset, .unset, .unset, .unset, .unset] [(.ref b202), (.ref b202)])) _
    refine XS.bipush XH245.here hx rfl (hb hby at_136) ?_
    show Steps p.tables e below (T245.setTop (mkF m 138 #[.val (.int p0), .val (.int p1), .val (.int p2), .val (.ref b97), .unset, .unset, .unset, .unset, .unset, .unset, .unset, .unset] [(.int (7 : Int32)), (.ref b202), (.ref b202)])) _
    refine XS.iconst XH245.here hx rfl (hb hby at_138) ?_
    exact k)
  obtain ⟨cl251, Ar251, qq251, S251, M251, H251, G251⟩ := V245
  have hin251 : ¬ ((7 : Int32) < 0 ∨ cl251.slots.size ≤ ((7 : Int32)).toNatClampNeg) := inb_of S251 ⟨by decide, by decide⟩
  obtain ⟨T251, h251, X251, e251, W251, st251⟩ := stI XH245 hx hZ e245 Ar251 (j := (7 : Int32)) hin251 (g := (mkF m 139 #[.val (.int p0), .val (.int p1), .val (.int p2), .val (.ref b97), .unset, .unset, .unset, .unset, .unset, .unset, .unset, .unset] [(.int (5 : Int32)), (.int (7 : Int32)), (.ref b202), (.ref b202)])) rfl rfl (hb hby at_139)
  have V251 : Arv Z h251 b202 c202 .int (20 : Int32) [(.int (7 : Int32)), (.int (11 : Int32)), (.int (2 : Int32)), (.int (5 : Int32)), (.int (7 : Int32)), (.int (5 : Int32)), (.int (2 : Int32)), (.int (5 : Int32)), (.int (0 : Int32)), (.int (0 : Int32)), (.int (0 : Int32)), (.int (0 : Int32)), (.int (0 : Int32)), (.int (0 : Int32)), (.int (0 : Int32)), (.int (0 : Int32)), (.int (0 : Int32)), (.int (0 : Int32)), (.int (0 : Int32)), (.int (0 : Int32))] (.int (0 : Int32)) := Arv.set Ar251 qq251 S251 M251 H251 G251 rfl W251 7 rfl (Nat.le_of_ble_eq_true rfl)
  have N251 := Fr.snoc X251 NH245 g_b202
  obtain ⟨LH251, XH251, NH251⟩ := own_hide X251 N251
  clear X251 N251
  have Z252 : n0 ≤ h251.size := Nat.le_trans Z246 (Nat.le_of_eq W251.size.symm)
  have F253 : Old Z n0 h251 := Old.wr F247 W251 g_b202
  have F254 : Arv Z h251 b97 c97 .int (20 : Int32) [(.int (0 : Int32)), (.int (4 : Int32)), (.int (1 : Int32)), (.int (0 : Int32)), (.int (2 : Int32)), (.int (1 : Int32)), (.int (0 : Int32)), (.int (2 : Int32)), (.int (1 : Int32)), (.int (0 : Int32)), (.int (1 : Int32)), (.int (0 : Int32)), (.int (0 : Int32)), (.int (0 : Int32)), (.int (0 : Int32)), (.int (0 : Int32)), (.int (0 : Int32)), (.int (0 : Int32)), (.int (0 : Int32)), (.int (0 : Int32))] (.int (0 : Int32)) := (F248).other W251 ne203
  have k255 : ∀ t, Steps p.tables e below (T251.setTop (mkF m 140 #[.val (.int p0), .val (.int p1), .val (.int p2), .val (.ref b97), .unset, .unset, .unset, .unset, .unset, .unset, .unset, .unset] [(.ref b202)])) t → Steps p.tables e below (s₁.setTop (entryFrame m #[(.int p0), (.int p1), (.int p2)] maxLocals)) t := fun t k => k250 t (st251 t k)
  have k256 : ∀ t, Steps p.tables e below (T251.setTop (mkF m 144 #[.val (.int p0), .val (.int p1), .val (.int p2), .val (.ref b97), .unset, .unset, .unset, .unset, .unset, .unset, .unset, .unset] [(.int (3 : Int32)), (.int (8 : Int32)), (.ref b202), (.ref b202)])) t → Steps p.tables e below (s₁.setTop (entryFrame m #[(.int p0), (.int p1), (.int p2)] maxLocals)) t := fun t k => k255 t (by
    show Steps p.tables e below (T251.setTop (mkF m 140 #[.val (.int p0), .val (.int p1), .val (.int p2), .val (.ref b97), .unset, .unset, .unset, .unset, .unset, .unset, .unset, .unset] [(.ref b202)])) _
    refine XS.dup XH251.here hx rfl (hb hby at_140) rfl rfl ?_
    show Steps p.tables e below (T251.setTop (mkF m 141 #[.val (.int p0), .val (.int p1), .val (.int p2), .val (.ref b97), .unset, .unset, .unset, .unset, .unset, .unset, .unset, .unset] [(.ref b202), (.ref b202)])) _
    refine XS.bipush XH251.here hx rfl (hb hby at_141) ?_
    show Steps p.tables e below (T251.setTop (mkF m 143 #[.val (.int p0), .val (.int p1), .val (.int p2), .val (.ref b97), .unset, .unset, .unset, .unset, .unset, .unset, .unset, .unset] [(.int (8 : Int32)), (.ref b202), (.ref b202)])) _
    refine XS.iconst XH251.here hx rfl (hb hby at_143) ?_
    exact k)
  obtain ⟨cl257, Ar257, qq257, S257, M257, H257, G257⟩ := V251
  have hin257 : ¬ ((8 : Int32) < 0 ∨ cl257.slots.size ≤ ((8 : Int32)).toNatClampNeg) := inb_of S257 ⟨by decide, by decide⟩
  obtain ⟨T257, h257, X257, e257, W257, st257⟩ := stI XH251 hx hZ e251 Ar257 (j := (8 : Int32)) hin257 (g := (mkF m 144 #[.val (.int p0), .val (.int p1), .val (.int p2), .val (.ref b97), .unset, .unset, .unset, .unset, .unset, .unset, .unset, .unset] [(.int (3 : Int32)), (.int (8 : Int32)), (.ref b202), (.ref b202)])) rfl rfl (hb hby at_144)
  have V257 : Arv Z h257 b202 c202 .int (20 : Int32) [(.int (7 : Int32)), (.int (11 : Int32)), (.int (2 : Int32)), (.int (5 : Int32)), (.int (7 : Int32)), (.int (5 : Int32)), (.int (2 : Int32)), (.int (5 : Int32)), (.int (3 : Int32)), (.int (0 : Int32)), (.int (0 : Int32)), (.int (0 : Int32)), (.int (0 : Int32)), (.int (0 : Int32)), (.int (0 : Int32)), (.int (0 : Int32)), (.int (0 : Int32)), (.int (0 : Int32)), (.int (0 : Int32)), (.int (0 : Int32))] (.int (0 : Int32)) := Arv.set Ar257 qq257 S257 M257 H257 G257 rfl W257 8 rfl (Nat.le_of_ble_eq_true rfl)
  have N257 := Fr.snoc X257 NH251 g_b202
  obtain ⟨LH257, XH257, NH257⟩ := own_hide X257 N257
  clear X257 N257
  have Z258 : n0 ≤ h257.size := Nat.le_trans Z252 (Nat.le_of_eq W257.size.symm)
  have F259 : Old Z n0 h257 := Old.wr F253 W257 g_b202
  have F260 : Arv Z h257 b97 c97 .int (20 : Int32) [(.int (0 : Int32)), (.int (4 : Int32)), (.int (1 : Int32)), (.int (0 : Int32)), (.int (2 : Int32)), (.int (1 : Int32)), (.int (0 : Int32)), (.int (2 : Int32)), (.int (1 : Int32)), (.int (0 : Int32)), (.int (1 : Int32)), (.int (0 : Int32)), (.int (0 : Int32)), (.int (0 : Int32)), (.int (0 : Int32)), (.int (0 : Int32)), (.int (0 : Int32)), (.int (0 : Int32)), (.int (0 : Int32)), (.int (0 : Int32))] (.int (0 : Int32)) := (F254).other W257 ne203
  have k261 : ∀ t, Steps p.tables e below (T257.setTop (mkF m 145 #[.val (.int p0), .val (.int p1), .val (.int p2), .val (.ref b97), .unset, .unset, .unset, .unset, .unset, .unset, .unset, .unset] [(.ref b202)])) t → Steps p.tables e below (s₁.setTop (entryFrame m #[(.int p0), (.int p1), (.int p2)] maxLocals)) t := fun t k => k256 t (st257 t k)
  have k262 : ∀ t, Steps p.tables e below (T257.setTop (mkF m 149 #[.val (.int p0), .val (.int p1), .val (.int p2), .val (.ref b97), .unset, .unset, .unset, .unset, .unset, .unset, .unset, .unset] [(.int (2 : Int32)), (.int (9 : Int32)), (.ref b202), (.ref b202)])) t → Steps p.tables e below (s₁.setTop (entryFrame m #[(.int p0), (.int p1), (.int p2)] maxLocals)) t := fun t k => k261 t (by
    show Steps p.tables e below (T257.setTop (mkF m 145 #[.val (.int p0), .val (.int p1), .val (.int p2), .val (.ref b97), .unset, .unset, .unset, .unset, .unset, .unset, .unset, .unset] [(.ref b202)])) _
    refine XS.dup XH257.here hx rfl (hb hby at_145) rfl rfl ?_
    show Steps p.tables e below (T257.setTop (mkF m 146 #[.val (.int p0), .val (.int p1), .val (.int p2), .val (.ref b97), .unset, .unset, .unset, .unset, .unset, .unset, .unset, .unset] [(.ref b202), (.ref b202)])) _
    refine XS.bipush XH257.here hx rfl (hb hby at_146) ?_
    show Steps p.tables e below (T257.setTop (mkF m 148 #[.val (.int p0), .val (.int p1), .val (.int p2), .val (.ref b97), .unset, .unset, .unset, .unset, .unset, .unset, .unset, .unset] [(.int (9 : Int32)), (.ref b202), (.ref b202)])) _
    refine XS.iconst XH257.here hx rfl (hb hby at_148) ?_
    exact k)
  obtain ⟨cl263, Ar263, qq263, S263, M263, H263, G263⟩ := V257
  have hin263 : ¬ ((9 : Int32) < 0 ∨ cl263.slots.size ≤ ((9 : Int32)).toNatClampNeg) := inb_of S263 ⟨by decide, by decide⟩
  obtain ⟨T263, h263, X263, e263, W263, st263⟩ := stI XH257 hx hZ e257 Ar263 (j := (9 : Int32)) hin263 (g := (mkF m 149 #[.val (.int p0), .val (.int p1), .val (.int p2), .val (.ref b97), .unset, .unset, .unset, .unset, .unset, .unset, .unset, .unset] [(.int (2 : Int32)), (.int (9 : Int32)), (.ref b202), (.ref b202)])) rfl rfl (hb hby at_149)
  have V263 : Arv Z h263 b202 c202 .int (20 : Int32) [(.int (7 : Int32)), (.int (11 : Int32)), (.int (2 : Int32)), (.int (5 : Int32)), (.int (7 : Int32)), (.int (5 : Int32)), (.int (2 : Int32)), (.int (5 : Int32)), (.int (3 : Int32)), (.int (2 : Int32)), (.int (0 : Int32)), (.int (0 : Int32)), (.int (0 : Int32)), (.int (0 : Int32)), (.int (0 : Int32)), (.int (0 : Int32)), (.int (0 : Int32)), (.int (0 : Int32)), (.int (0 : Int32)), (.int (0 : Int32))] (.int (0 : Int32)) := Arv.set Ar263 qq263 S263 M263 H263 G263 rfl W263 9 rfl (Nat.le_of_ble_eq_true rfl)
  have N263 := Fr.snoc X263 NH257 g_b202
  obtain ⟨LH263, XH263, NH263⟩ := own_hide X263 N263
  clear X263 N263
  have Z264 : n0 ≤ h263.size := Nat.le_trans Z258 (Nat.le_of_eq W263.size.symm)
  have F265 : Old Z n0 h263 := Old.wr F259 W263 g_b202
  have F266 : Arv Z h263 b97 c97 .int (20 : Int32) [(.int (0 : Int32)), (.int (4 : Int32)), (.int (1 : Int32)), (.int (0 : Int32)), (.int (2 : Int32)), (.int (1 : Int32)), (.int (0 : Int32)), (.int (2 : Int32)), (.int (1 : Int32)), (.int (0 : Int32)), (.int (1 : Int32)), (.int (0 : Int32)), (.int (0 : Int32)), (.int (0 : Int32)), (.int (0 : Int32)), (.int (0 : Int32)), (.int (0 : Int32)), (.int (0 : Int32)), (.int (0 : Int32)), (.int (0 : Int32))] (.int (0 : Int32)) := (F260).other W263 ne203
  have k267 : ∀ t, Steps p.tables e below (T263.setTop (mkF m 150 #[.val (.int p0), .val (.int p1), .val (.int p2), .val (.ref b97), .unset, .unset, .unset, .unset, .unset, .unset, .unset, .unset] [(.ref b202)])) t → Steps p.tables e below (s₁.setTop (entryFrame m #[(.int p0), (.int p1), (.int p2)] maxLocals)) t := fun t k => k262 t (st263 t k)
  have k268 : ∀ t, Steps p.tables e below (T263.setTop (mkF m 154 #[.val (.int p0), .val (.int p1), .val (.int p2), .val (.ref b97), .unset, .unset, .unset, .unset, .unset, .unset, .unset, .unset] [(.int (3 : Int32)), (.int (10 : Int32)), (.ref b202), (.ref b202)])) t → Steps p.tables e below (s₁.setTop (entryFrame m #[(.int p0), (.int p1), (.int p2)] maxLocals)) t := fun t k => k267 t (by
    show Steps p.tables e below (T263.setTop (mkF m 150 #[.val (.int p0), .val (.int p1), .val (.int p2), .val (.ref b97), .unset, .unset, .unset, .unset, .unset, .unset, .unset, .unset] [(.ref b202)])) _
    refine XS.dup XH263.here hx rfl (hb hby at_150) rfl rfl ?_
    show Steps p.tables e below (T263.setTop (mkF m 151 #[.val (.int p0), .val (.int p1), .val (.int p2), .val (.ref b97), .unset, .unset, .unset, .unset, .unset, .unset, .unset, .unset] [(.ref b202), (.ref b202)])) _
    refine XS.bipush XH263.here hx rfl (hb hby at_151) ?_
    show Steps p.tables e below (T263.setTop (mkF m 153 #[.val (.int p0), .val (.int p1), .val (.int p2), .val (.ref b97), .unset, .unset, .unset, .unset, .unset, .unset, .unset, .unset] [(.int (10 : Int32)), (.ref b202), (.ref b202)])) _
    refine XS.iconst XH263.here hx rfl (hb hby at_153) ?_
    exact k)
  obtain ⟨cl269, Ar269, qq269, S269, M269, H269, G269⟩ := V263
  have hin269 : ¬ ((10 : Int32) < 0 ∨ cl269.slots.size ≤ ((10 : Int32)).toNatClampNeg) := inb_of S269 ⟨by decide, by decide⟩
  obtain ⟨T269, h269, X269, e269, W269, st269⟩ := stI XH263 hx hZ e263 Ar269 (j := (10 : Int32)) hin269 (g := (mkF m 154 #[.val (.int p0), .val (.int p1), .val (.int p2), .val (.ref b97), .unset, .unset, .unset, .unset, .unset, .unset, .unset, .unset] [(.int (3 : Int32)), (.int (10 : Int32)), (.ref b202), (.ref b202)])) rfl rfl (hb hby at_154)
  have V269 : Arv Z h269 b202 c202 .int (20 : Int32) [(.int (7 : Int32)), (.int (11 : Int32)), (.int (2 : Int32)), (.int (5 : Int32)), (.int (7 : Int32)), (.int (5 : Int32)), (.int (2 : Int32)), (.int (5 : Int32)), (.int (3 : Int32)), (.int (2 : Int32)), (.int (3 : Int32)), (.int (0 : Int32)), (.int (0 : Int32)), (.int (0 : Int32)), (.int (0 : Int32)), (.int (0 : Int32)), (.int (0 : Int32)), (.int (0 : Int32)), (.int (0 : Int32)), (.int (0 : Int32))] (.int (0 : Int32)) := Arv.set Ar269 qq269 S269 M269 H269 G269 rfl W269 10 rfl (Nat.le_of_ble_eq_true rfl)
  have N269 := Fr.snoc X269 NH263 g_b202
  obtain ⟨LH269, XH269, NH269⟩ := own_hide X269 N269
  clear X269 N269
  have Z270 : n0 ≤ h269.size := Nat.le_trans Z264 (Nat.le_of_eq W269.size.symm)
  have F271 : Old Z n0 h269 := Old.wr F265 W269 g_b202
  have F272 : Arv Z h269 b97 c97 .int (20 : Int32) [(.int (0 : Int32)), (.int (4 : Int32)), (.int (1 : Int32)), (.int (0 : Int32)), (.int (2 : Int32)), (.int (1 : Int32)), (.int (0 : Int32)), (.int (2 : Int32)), (.int (1 : Int32)), (.int (0 : Int32)), (.int (1 : Int32)), (.int (0 : Int32)), (.int (0 : Int32)), (.int (0 : Int32)), (.int (0 : Int32)), (.int (0 : Int32)), (.int (0 : Int32)), (.int (0 : Int32)), (.int (0 : Int32)), (.int (0 : Int32))] (.int (0 : Int32)) := (F266).other W269 ne203
  have k273 : ∀ t, Steps p.tables e below (T269.setTop (mkF m 155 #[.val (.int p0), .val (.int p1), .val (.int p2), .val (.ref b97), .unset, .unset, .unset, .unset, .unset, .unset, .unset, .unset] [(.ref b202)])) t → Steps p.tables e below (s₁.setTop (entryFrame m #[(.int p0), (.int p1), (.int p2)] maxLocals)) t := fun t k => k268 t (st269 t k)
  have k274 : ∀ t, Steps p.tables e below (T269.setTop (mkF m 159 #[.val (.int p0), .val (.int p1), .val (.int p2), .val (.ref b97), .unset, .unset, .unset, .unset, .unset, .unset, .unset, .unset] [(.int (4 : Int32)), (.int (11 : Int32)), (.ref b202), (.ref b202)])) t → Steps p.tables e below (s₁.setTop (entryFrame m #[(.int p0), (.int p1), (.int p2)] maxLocals)) t := fun t k => k273 t (by
    show Steps p.tables e below (T269.setTop (mkF m 155 #[.val (.int p0), .val (.int p1), .val (.int p2), .val (.ref b97), .unset, .unset, .unset, .unset, .unset, .unset, .unset, .unset] [(.ref b202)])) _
    refine XS.dup XH269.here hx rfl (hb hby at_155) rfl rfl ?_
    show Steps p.tables e below (T269.setTop (mkF m 156 #[.val (.int p0), .val (.int p1), .val (.int p2), .val (.ref b97), .unset, .unset, .unset, .unset, .unset, .unset, .unset, .unset] [(.ref b202), (.ref b202)])) _
    refine XS.bipush XH269.here hx rfl (hb hby at_156) ?_
    show Steps p.tables e below (T269.setTop (mkF m 158 #[.val (.int p0), .val (.int p1), .val (.int p2), .val (.ref b97), .unset, .unset, .unset, .unset, .unset, .unset, .unset, .unset] [(.int (11 : Int32)), (.ref b202), (.ref b202)])) _
    refine XS.iconst XH269.here hx rfl (hb hby at_158) ?_
    exact k)
  obtain ⟨cl275, Ar275, qq275, S275, M275, H275, G275⟩ := V269
  have hin275 : ¬ ((11 : Int32) < 0 ∨ cl275.slots.size ≤ ((11 : Int32)).toNatClampNeg) := inb_of S275 ⟨by decide, by decide⟩
  obtain ⟨T275, h275, X275, e275, W275, st275⟩ := stI XH269 hx hZ e269 Ar275 (j := (11 : Int32)) hin275 (g := (mkF m 159 #[.val (.int p0), .val (.int p1), .val (.int p2), .val (.ref b97), .unset, .unset, .unset, .unset, .unset, .unset, .unset, .unset] [(.int (4 : Int32)), (.int (11 : Int32)), (.ref b202), (.ref b202)])) rfl rfl (hb hby at_159)
  have V275 : Arv Z h275 b202 c202 .int (20 : Int32) [(.int (7 : Int32)), (.int (11 : Int32)), (.int (2 : Int32)), (.int (5 : Int32)), (.int (7 : Int32)), (.int (5 : Int32)), (.int (2 : Int32)), (.int (5 : Int32)), (.int (3 : Int32)), (.int (2 : Int32)), (.int (3 : Int32)), (.int (4 : Int32)), (.int (0 : Int32)), (.int (0 : Int32)), (.int (0 : Int32)), (.int (0 : Int32)), (.int (0 : Int32)), (.int (0 : Int32)), (.int (0 : Int32)), (.int (0 : Int32))] (.int (0 : Int32)) := Arv.set Ar275 qq275 S275 M275 H275 G275 rfl W275 11 rfl (Nat.le_of_ble_eq_true rfl)
  have N275 := Fr.snoc X275 NH269 g_b202
  obtain ⟨LH275, XH275, NH275⟩ := own_hide X275 N275
  clear X275 N275
  have Z276 : n0 ≤ h275.size := Nat.le_trans Z270 (Nat.le_of_eq W275.size.symm)
  have F277 : Old Z n0 h275 := Old.wr F271 W275 g_b202
  have F278 : Arv Z h275 b97 c97 .int (20 : Int32) [(.int (0 : Int32)), (.int (4 : Int32)), (.int (1 : Int32)), (.int (0 : Int32)), (.int (2 : Int32)), (.int (1 : Int32)), (.int (0 : Int32)), (.int (2 : Int32)), (.int (1 : Int32)), (.int (0 : Int32)), (.int (1 : Int32)), (.int (0 : Int32)), (.int (0 : Int32)), (.int (0 : Int32)), (.int (0 : Int32)), (.int (0 : Int32)), (.int (0 : Int32)), (.int (0 : Int32)), (.int (0 : Int32)), (.int (0 : Int32))] (.int (0 : Int32)) := (F272).other W275 ne203
  have k279 : ∀ t, Steps p.tables e below (T275.setTop (mkF m 160 #[.val (.int p0), .val (.int p1), .val (.int p2), .val (.ref b97), .unset, .unset, .unset, .unset, .unset, .unset, .unset, .unset] [(.ref b202)])) t → Steps p.tables e below (s₁.setTop (entryFrame m #[(.int p0), (.int p1), (.int p2)] maxLocals)) t := fun t k => k274 t (st275 t k)
  have k280 : ∀ t, Steps p.tables e below (T275.setTop (mkF m 164 #[.val (.int p0), .val (.int p1), .val (.int p2), .val (.ref b97), .unset, .unset, .unset, .unset, .unset, .unset, .unset, .unset] [(.int (2 : Int32)), (.int (12 : Int32)), (.ref b202), (.ref b202)])) t → Steps p.tables e below (s₁.setTop (entryFrame m #[(.int p0), (.int p1), (.int p2)] maxLocals)) t := fun t k => k279 t (by
    show Steps p.tables e below (T275.setTop (mkF m 160 #[.val (.int p0), .val (.int p1), .val (.int p2), .val (.ref b97), .unset, .unset, .unset, .unset, .unset, .unset, .unset, .unset] [(.ref b202)])) _
    refine XS.dup XH275.here hx rfl (hb hby at_160) rfl rfl ?_
    show Steps p.tables e below (T275.setTop (mkF m 161 #[.val (.int p0), .val (.int p1), .val (.int p2), .val (.ref b97), .unset, .unset, .unset, .unset, .unset, .unset, .unset, .unset] [(.ref b202), (.ref b202)])) _
    refine XS.bipush XH275.here hx rfl (hb hby at_161) ?_
    show Steps p.tables e below (T275.setTop (mkF m 163 #[.val (.int p0), .val (.int p1), .val (.int p2), .val (.ref b97), .unset, .unset, .unset, .unset, .unset, .unset, .unset, .unset] [(.int (12 : Int32)), (.ref b202), (.ref b202)])) _
    refine XS.iconst XH275.here hx rfl (hb hby at_163) ?_
    exact k)
  obtain ⟨cl281, Ar281, qq281, S281, M281, H281, G281⟩ := V275
  have hin281 : ¬ ((12 : Int32) < 0 ∨ cl281.slots.size ≤ ((12 : Int32)).toNatClampNeg) := inb_of S281 ⟨by decide, by decide⟩
  obtain ⟨T281, h281, X281, e281, W281, st281⟩ := stI XH275 hx hZ e275 Ar281 (j := (12 : Int32)) hin281 (g := (mkF m 164 #[.val (.int p0), .val (.int p1), .val (.int p2), .val (.ref b97), .unset, .unset, .unset, .unset, .unset, .unset, .unset, .unset] [(.int (2 : Int32)), (.int (12 : Int32)), (.ref b202), (.ref b202)])) rfl rfl (hb hby at_164)
  have V281 : Arv Z h281 b202 c202 .int (20 : Int32) [(.int (7 : Int32)), (.int (11 : Int32)), (.int (2 : Int32)), (.int (5 : Int32)), (.int (7 : Int32)), (.int (5 : Int32)), (.int (2 : Int32)), (.int (5 : Int32)), (.int (3 : Int32)), (.int (2 : Int32)), (.int (3 : Int32)), (.int (4 : Int32)), (.int (2 : Int32)), (.int (0 : Int32)), (.int (0 : Int32)), (.int (0 : Int32)), (.int (0 : Int32)), (.int (0 : Int32)), (.int (0 : Int32)), (.int (0 : Int32))] (.int (0 : Int32)) := Arv.set Ar281 qq281 S281 M281 H281 G281 rfl W281 12 rfl (Nat.le_of_ble_eq_true rfl)
  have N281 := Fr.snoc X281 NH275 g_b202
  obtain ⟨LH281, XH281, NH281⟩ := own_hide X281 N281
  clear X281 N281
  have Z282 : n0 ≤ h281.size := Nat.le_trans Z276 (Nat.le_of_eq W281.size.symm)
  have F283 : Old Z n0 h281 := Old.wr F277 W281 g_b202
  have F284 : Arv Z h281 b97 c97 .int (20 : Int32) [(.int (0 : Int32)), (.int (4 : Int32)), (.int (1 : Int32)), (.int (0 : Int32)), (.int (2 : Int32)), (.int (1 : Int32)), (.int (0 : Int32)), (.int (2 : Int32)), (.int (1 : Int32)), (.int (0 : Int32)), (.int (1 : Int32)), (.int (0 : Int32)), (.int (0 : Int32)), (.int (0 : Int32)), (.int (0 : Int32)), (.int (0 : Int32)), (.int (0 : Int32)), (.int (0 : Int32)), (.int (0 : Int32)), (.int (0 : Int32))] (.int (0 : Int32)) := (F278).other W281 ne203
  have k285 : ∀ t, Steps p.tables e below (T281.setTop (mkF m 165 #[.val (.int p0), .val (.int p1), .val (.int p2), .val (.ref b97), .unset, .unset, .unset, .unset, .unset, .unset, .unset, .unset] [(.ref b202)])) t → Steps p.tables e below (s₁.setTop (entryFrame m #[(.int p0), (.int p1), (.int p2)] maxLocals)) t := fun t k => k280 t (st281 t k)
  have k286 : ∀ t, Steps p.tables e below (T281.setTop (mkF m 169 #[.val (.int p0), .val (.int p1), .val (.int p2), .val (.ref b97), .unset, .unset, .unset, .unset, .unset, .unset, .unset, .unset] [(.int (3 : Int32)), (.int (13 : Int32)), (.ref b202), (.ref b202)])) t → Steps p.tables e below (s₁.setTop (entryFrame m #[(.int p0), (.int p1), (.int p2)] maxLocals)) t := fun t k => k285 t (by
    show Steps p.tables e below (T281.setTop (mkF m 165 #[.val (.int p0), .val (.int p1), .val (.int p2), .val (.ref b97), .unset, .unset, .unset, .unset, .unset, .unset, .unset, .unset] [(.ref b202)])) _
    refine XS.dup XH281.here hx rfl (hb hby at_165) rfl rfl ?_
    show Steps p.tables e below (T281.setTop (mkF m 166 #[.val (.int p0), .val (.int p1), .val (.int p2), .val (.ref b97), .unset, .unset, .unset, .unset, .unset, .unset, .unset, .unset] [(.ref b202), (.ref b202)])) _
    refine XS.bipush XH281.here hx rfl (hb hby at_166) ?_
    show Steps p.tables e below (T281.setTop (mkF m 168 #[.val (.int p0), .val (.int p1), .val (.int p2), .val (.ref b97), .unset, .unset, .unset, .unset, .unset, .unset, .unset, .unset] [(.int (13 : Int32)), (.ref b202), (.ref b202)])) _
    refine XS.iconst XH281.here hx rfl (hb hby at_168) ?_
    exact k)
  obtain ⟨cl287, Ar287, qq287, S287, M287, H287, G287⟩ := V281
  have hin287 : ¬ ((13 : Int32) < 0 ∨ cl287.slots.size ≤ ((13 : Int32)).toNatClampNeg) := inb_of S287 ⟨by decide, by decide⟩
  obtain ⟨T287, h287, X287, e287, W287, st287⟩ := stI XH281 hx hZ e281 Ar287 (j := (13 : Int32)) hin287 (g := (mkF m 169 #[.val (.int p0), .val (.int p1), .val (.int p2), .val (.ref b97), .unset, .unset, .unset, .unset, .unset, .unset, .unset, .unset] [(.int (3 : Int32)), (.int (13 : Int32)), (.ref b202), (.ref b202)])) rfl rfl (hb hby at_169)
  have V287 : Arv Z h287 b202 c202 .int (20 : Int32) [(.int (7 : Int32)), (.int (11 : Int32)), (.int (2 : Int32)), (.int (5 : Int32)), (.int (7 : Int32)), (.int (5 : Int32)), (.int (2 : Int32)), (.int (5 : Int32)), (.int (3 : Int32)), (.int (2 : Int32)), (.int (3 : Int32)), (.int (4 : Int32)), (.int (2 : Int32)), (.int (3 : Int32)), (.int (0 : Int32)), (.int (0 : Int32)), (.int (0 : Int32)), (.int (0 : Int32)), (.int (0 : Int32)), (.int (0 : Int32))] (.int (0 : Int32)) := Arv.set Ar287 qq287 S287 M287 H287 G287 rfl W287 13 rfl (Nat.le_of_ble_eq_true rfl)
  have N287 := Fr.snoc X287 NH281 g_b202
  obtain ⟨LH287, XH287, NH287⟩ := own_hide X287 N287
  clear X287 N287
  have Z288 : n0 ≤ h287.size := Nat.le_trans Z282 (Nat.le_of_eq W287.size.symm)
  have F289 : Old Z n0 h287 := Old.wr F283 W287 g_b202
  have F290 : Arv Z h287 b97 c97 .int (20 : Int32) [(.int (0 : Int32)), (.int (4 : Int32)), (.int (1 : Int32)), (.int (0 : Int32)), (.int (2 : Int32)), (.int (1 : Int32)), (.int (0 : Int32)), (.int (2 : Int32)), (.int (1 : Int32)), (.int (0 : Int32)), (.int (1 : Int32)), (.int (0 : Int32)), (.int (0 : Int32)), (.int (0 : Int32)), (.int (0 : Int32)), (.int (0 : Int32)), (.int (0 : Int32)), (.int (0 : Int32)), (.int (0 : Int32)), (.int (0 : Int32))] (.int (0 : Int32)) := (F284).other W287 ne203
  have k291 : ∀ t, Steps p.tables e below (T287.setTop (mkF m 170 #[.val (.int p0), .val (.int p1), .val (.int p2), .val (.ref b97), .unset, .unset, .unset, .unset, .unset, .unset, .unset, .unset] [(.ref b202)])) t → Steps p.tables e below (s₁.setTop (entryFrame m #[(.int p0), (.int p1), (.int p2)] maxLocals)) t := fun t k => k286 t (st287 t k)
  have k292 : ∀ t, Steps p.tables e below (T287.setTop (mkF m 174 #[.val (.int p0), .val (.int p1), .val (.int p2), .val (.ref b97), .unset, .unset, .unset, .unset, .unset, .unset, .unset, .unset] [(.int (4 : Int32)), (.int (14 : Int32)), (.ref b202), (.ref b202)])) t → Steps p.tables e below (s₁.setTop (entryFrame m #[(.int p0), (.int p1), (.int p2)] maxLocals)) t := fun t k => k291 t (by
    show Steps p.tables e below (T287.setTop (mkF m 170 #[.val (.int p0), .val (.int p1), .val (.int p2), .val (.ref b97), .unset, .unset, .unset, .unset, .unset, .unset, .unset, .unset] [(.ref b202)])) _
    refine XS.dup XH287.here hx rfl (hb hby at_170) rfl rfl ?_
    show Steps p.tables e below (T287.setTop (mkF m 171 #[.val (.int p0), .val (.int p1), .val (.int p2), .val (.ref b97), .unset, .unset, .unset, .unset, .unset, .unset, .unset, .unset] [(.ref b202), (.ref b202)])) _
    refine XS.bipush XH287.here hx rfl (hb hby at_171) ?_
    show Steps p.tables e below (T287.setTop (mkF m 173 #[.val (.int p0), .val (.int p1), .val (.int p2), .val (.ref b97), .unset, .unset, .unset, .unset, .unset, .unset, .unset, .unset] [(.int (14 : Int32)), (.ref b202), (.ref b202)])) _
    refine XS.iconst XH287.here hx rfl (hb hby at_173) ?_
    exact k)
  obtain ⟨cl293, Ar293, qq293, S293, M293, H293, G293⟩ := V287
  have hin293 : ¬ ((14 : Int32) < 0 ∨ cl293.slots.size ≤ ((14 : Int32)).toNatClampNeg) := inb_of S293 ⟨by decide, by decide⟩
  obtain ⟨T293, h293, X293, e293, W293, st293⟩ := stI XH287 hx hZ e287 Ar293 (j := (14 : Int32)) hin293 (g := (mkF m 174 #[.val (.int p0), .val (.int p1), .val (.int p2), .val (.ref b97), .unset, .unset, .unset, .unset, .unset, .unset, .unset, .unset] [(.int (4 : Int32)), (.int (14 : Int32)), (.ref b202), (.ref b202)])) rfl rfl (hb hby at_174)
  have V293 : Arv Z h293 b202 c202 .int (20 : Int32) [(.int (7 : Int32)), (.int (11 : Int32)), (.int (2 : Int32)), (.int (5 : Int32)), (.int (7 : Int32)), (.int (5 : Int32)), (.int (2 : Int32)), (.int (5 : Int32)), (.int (3 : Int32)), (.int (2 : Int32)), (.int (3 : Int32)), (.int (4 : Int32)), (.int (2 : Int32)), (.int (3 : Int32)), (.int (4 : Int32)), (.int (0 : Int32)), (.int (0 : Int32)), (.int (0 : Int32)), (.int (0 : Int32)), (.int (0 : Int32))] (.int (0 : Int32)) := Arv.set Ar293 qq293 S293 M293 H293 G293 rfl W293 14 rfl (Nat.le_of_ble_eq_true rfl)
  have N293 := Fr.snoc X293 NH287 g_b202
  obtain ⟨LH293, XH293, NH293⟩ := own_hide X293 N293
  clear X293 N293
  have Z294 : n0 ≤ h293.size := Nat.le_trans Z288 (Nat.le_of_eq W293.size.symm)
  have F295 : Old Z n0 h293 := Old.wr F289 W293 g_b202
  have F296 : Arv Z h293 b97 c97 .int (20 : Int32) [(.int (0 : Int32)), (.int (4 : Int32)), (.int (1 : Int32)), (.int (0 : Int32)), (.int (2 : Int32)), (.int (1 : Int32)), (.int (0 : Int32)), (.int (2 : Int32)), (.int (1 : Int32)), (.int (0 : Int32)), (.int (1 : Int32)), (.int (0 : Int32)), (.int (0 : Int32)), (.int (0 : Int32)), (.int (0 : Int32)), (.int (0 : Int32)), (.int (0 : Int32)), (.int (0 : Int32)), (.int (0 : Int32)), (.int (0 : Int32))] (.int (0 : Int32)) := (F290).other W293 ne203
  have k297 : ∀ t, Steps p.tables e below (T293.setTop (mkF m 175 #[.val (.int p0), .val (.int p1), .val (.int p2), .val (.ref b97), .unset, .unset, .unset, .unset, .unset, .unset, .unset, .unset] [(.ref b202)])) t → Steps p.tables e below (s₁.setTop (entryFrame m #[(.int p0), (.int p1), (.int p2)] maxLocals)) t := fun t k => k292 t (st293 t k)
  have k298 : ∀ t, Steps p.tables e below (T293.setTop (mkF m 179 #[.val (.int p0), .val (.int p1), .val (.int p2), .val (.ref b97), .unset, .unset, .unset, .unset, .unset, .unset, .unset, .unset] [(.int (3 : Int32)), (.int (15 : Int32)), (.ref b202), (.ref b202)])) t → Steps p.tables e below (s₁.setTop (entryFrame m #[(.int p0), (.int p1), (.int p2)] maxLocals)) t := fun t k => k297 t (by
    show Steps p.tables e below (T293.setTop (mkF m 175 #[.val (.int p0), .val (.int p1), .val (.int p2), .val (.ref b97), .unset, .unset, .unset, .unset, .unset, .unset, .unset, .unset] [(.ref b202)])) _
    refine XS.dup XH293.here hx rfl (hb hby at_175) rfl rfl ?_
    show Steps p.tables e below (T293.setTop (mkF m 176 #[.val (.int p0), .val (.int p1), .val (.int p2), .val (.ref b97), .unset, .unset, .unset, .unset, .unset, .unset, .unset, .unset] [(.ref b202), (.ref b202)])) _
    refine XS.bipush XH293.here hx rfl (hb hby at_176) ?_
    show Steps p.tables e below (T293.setTop (mkF m 178 #[.val (.int p0), .val (.int p1), .val (.int p2), .val (.ref b97), .unset, .unset, .unset, .unset, .unset, .unset, .unset, .unset] [(.int (15 : Int32)), (.ref b202), (.ref b202)])) _
    refine XS.iconst XH293.here hx rfl (hb hby at_178) ?_
    exact k)
  obtain ⟨cl299, Ar299, qq299, S299, M299, H299, G299⟩ := V293
  have hin299 : ¬ ((15 : Int32) < 0 ∨ cl299.slots.size ≤ ((15 : Int32)).toNatClampNeg) := inb_of S299 ⟨by decide, by decide⟩
  obtain ⟨T299, h299, X299, e299, W299, st299⟩ := stI XH293 hx hZ e293 Ar299 (j := (15 : Int32)) hin299 (g := (mkF m 179 #[.val (.int p0), .val (.int p1), .val (.int p2), .val (.ref b97), .unset, .unset, .unset, .unset, .unset, .unset, .unset, .unset] [(.int (3 : Int32)), (.int (15 : Int32)), (.ref b202), (.ref b202)])) rfl rfl (hb hby at_179)
  have V299 : Arv Z h299 b202 c202 .int (20 : Int32) [(.int (7 : Int32)), (.int (11 : Int32)), (.int (2 : Int32)), (.int (5 : Int32)), (.int (7 : Int32)), (.int (5 : Int32)), (.int (2 : Int32)), (.int (5 : Int32)), (.int (3 : Int32)), (.int (2 : Int32)), (.int (3 : Int32)), (.int (4 : Int32)), (.int (2 : Int32)), (.int (3 : Int32)), (.int (4 : Int32)), (.int (3 : Int32)), (.int (0 : Int32)), (.int (0 : Int32)), (.int (0 : Int32)), (.int (0 : Int32))] (.int (0 : Int32)) := Arv.set Ar299 qq299 S299 M299 H299 G299 rfl W299 15 rfl (Nat.le_of_ble_eq_true rfl)
  have N299 := Fr.snoc X299 NH293 g_b202
  obtain ⟨LH299, XH299, NH299⟩ := own_hide X299 N299
  clear X299 N299
  have Z300 : n0 ≤ h299.size := Nat.le_trans Z294 (Nat.le_of_eq W299.size.symm)
  have F301 : Old Z n0 h299 := Old.wr F295 W299 g_b202
  have F302 : Arv Z h299 b97 c97 .int (20 : Int32) [(.int (0 : Int32)), (.int (4 : Int32)), (.int (1 : Int32)), (.int (0 : Int32)), (.int (2 : Int32)), (.int (1 : Int32)), (.int (0 : Int32)), (.int (2 : Int32)), (.int (1 : Int32)), (.int (0 : Int32)), (.int (1 : Int32)), (.int (0 : Int32)), (.int (0 : Int32)), (.int (0 : Int32)), (.int (0 : Int32)), (.int (0 : Int32)), (.int (0 : Int32)), (.int (0 : Int32)), (.int (0 : Int32)), (.int (0 : Int32))] (.int (0 : Int32)) := (F296).other W299 ne203
  have k303 : ∀ t, Steps p.tables e below (T299.setTop (mkF m 180 #[.val (.int p0), .val (.int p1), .val (.int p2), .val (.ref b97), .unset, .unset, .unset, .unset, .unset, .unset, .unset, .unset] [(.ref b202)])) t → Steps p.tables e below (s₁.setTop (entryFrame m #[(.int p0), (.int p1), (.int p2)] maxLocals)) t := fun t k => k298 t (st299 t k)
  have k304 : ∀ t, Steps p.tables e below (T299.setTop (mkF m 184 #[.val (.int p0), .val (.int p1), .val (.int p2), .val (.ref b97), .unset, .unset, .unset, .unset, .unset, .unset, .unset, .unset] [(.int (1 : Int32)), (.int (16 : Int32)), (.ref b202), (.ref b202)])) t → Steps p.tables e below (s₁.setTop (entryFrame m #[(.int p0), (.int p1), (.int p2)] maxLocals)) t := fun t k => k303 t (by
    show Steps p.tables e below (T299.setTop (mkF m 180 #[.val (.int p0), .val (.int p1), .val (.int p2), .val (.ref b97), .unset, .unset, .unset, .unset, .unset, .unset, .unset, .unset] [(.ref b202)])) _
    refine XS.dup XH299.here hx rfl (hb hby at_180) rfl rfl ?_
    show Steps p.tables e below (T299.setTop (mkF m 181 #[.val (.int p0), .val (.int p1), .val (.int p2), .val (.ref b97), .unset, .unset, .unset, .unset, .unset, .unset, .unset, .unset] [(.ref b202), (.ref b202)])) _
    refine XS.bipush XH299.here hx rfl (hb hby at_181) ?_
    show Steps p.tables e below (T299.setTop (mkF m 183 #[.val (.int p0), .val (.int p1), .val (.int p2), .val (.ref b97), .unset, .unset, .unset, .unset, .unset, .unset, .unset, .unset] [(.int (16 : Int32)), (.ref b202), (.ref b202)])) _
    refine XS.iconst XH299.here hx rfl (hb hby at_183) ?_
    exact k)
  obtain ⟨cl305, Ar305, qq305, S305, M305, H305, G305⟩ := V299
  have hin305 : ¬ ((16 : Int32) < 0 ∨ cl305.slots.size ≤ ((16 : Int32)).toNatClampNeg) := inb_of S305 ⟨by decide, by decide⟩
  obtain ⟨T305, h305, X305, e305, W305, st305⟩ := stI XH299 hx hZ e299 Ar305 (j := (16 : Int32)) hin305 (g := (mkF m 184 #[.val (.int p0), .val (.int p1), .val (.int p2), .val (.ref b97), .unset, .unset, .unset, .unset, .unset, .unset, .unset, .unset] [(.int (1 : Int32)), (.int (16 : Int32)), (.ref b202), (.ref b202)])) rfl rfl (hb hby at_184)
  have V305 : Arv Z h305 b202 c202 .int (20 : Int32) [(.int (7 : Int32)), (.int (11 : Int32)), (.int (2 : Int32)), (.int (5 : Int32)), (.int (7 : Int32)), (.int (5 : Int32)), (.int (2 : Int32)), (.int (5 : Int32)), (.int (3 : Int32)), (.int (2 : Int32)), (.int (3 : Int32)), (.int (4 : Int32)), (.int (2 : Int32)), (.int (3 : Int32)), (.int (4 : Int32)), (.int (3 : Int32)), (.int (1 : Int32)), (.int (0 : Int32)), (.int (0 : Int32)), (.int (0 : Int32))] (.int (0 : Int32)) := Arv.set Ar305 qq305 S305 M305 H305 G305 rfl W305 16 rfl (Nat.le_of_ble_eq_true rfl)
  have N305 := Fr.snoc X305 NH299 g_b202
  obtain ⟨LH305, XH305, NH305⟩ := own_hide X305 N305
  clear X305 N305
  have Z306 : n0 ≤ h305.size := Nat.le_trans Z300 (Nat.le_of_eq W305.size.symm)
  have F307 : Old Z n0 h305 := Old.wr F301 W305 g_b202
  have F308 : Arv Z h305 b97 c97 .int (20 : Int32) [(.int (0 : Int32)), (.int (4 : Int32)), (.int (1 : Int32)), (.int (0 : Int32)), (.int (2 : Int32)), (.int (1 : Int32)), (.int (0 : Int32)), (.int (2 : Int32)), (.int (1 : Int32)), (.int (0 : Int32)), (.int (1 : Int32)), (.int (0 : Int32)), (.int (0 : Int32)), (.int (0 : Int32)), (.int (0 : Int32)), (.int (0 : Int32)), (.int (0 : Int32)), (.int (0 : Int32)), (.int (0 : Int32)), (.int (0 : Int32))] (.int (0 : Int32)) := (F302).other W305 ne203
  have k309 : ∀ t, Steps p.tables e below (T305.setTop (mkF m 185 #[.val (.int p0), .val (.int p1), .val (.int p2), .val (.ref b97), .unset, .unset, .unset, .unset, .unset, .unset, .unset, .unset] [(.ref b202)])) t → Steps p.tables e below (s₁.setTop (entryFrame m #[(.int p0), (.int p1), (.int p2)] maxLocals)) t := fun t k => k304 t (st305 t k)
  have k310 : ∀ t, Steps p.tables e below (T305.setTop (mkF m 189 #[.val (.int p0), .val (.int p1), .val (.int p2), .val (.ref b97), .unset, .unset, .unset, .unset, .unset, .unset, .unset, .unset] [(.int (3 : Int32)), (.int (17 : Int32)), (.ref b202), (.ref b202)])) t → Steps p.tables e below (s₁.setTop (entryFrame m #[(.int p0), (.int p1), (.int p2)] maxLocals)) t := fun t k => k309 t (by
    show Steps p.tables e below (T305.setTop (mkF m 185 #[.val (.int p0), .val (.int p1), .val (.int p2), .val (.ref b97), .unset, .unset, .unset, .unset, .unset, .unset, .unset, .unset] [(.ref b202)])) _
    refine XS.dup XH305.here hx rfl (hb hby at_185) rfl rfl ?_
    show Steps p.tables e below (T305.setTop (mkF m 186 #[.val (.int p0), .val (.int p1), .val (.int p2), .val (.ref b97), .unset, .unset, .unset, .unset, .unset, .unset, .unset, .unset] [(.ref b202), (.ref b202)])) _
    refine XS.bipush XH305.here hx rfl (hb hby at_186) ?_
    show Steps p.tables e below (T305.setTop (mkF m 188 #[.val (.int p0), .val (.int p1), .val (.int p2), .val (.ref b97), .unset, .unset, .unset, .unset, .unset, .unset, .unset, .unset] [(.int (17 : Int32)), (.ref b202), (.ref b202)])) _
    refine XS.iconst XH305.here hx rfl (hb hby at_188) ?_
    exact k)
  obtain ⟨cl311, Ar311, qq311, S311, M311, H311, G311⟩ := V305
  have hin311 : ¬ ((17 : Int32) < 0 ∨ cl311.slots.size ≤ ((17 : Int32)).toNatClampNeg) := inb_of S311 ⟨by decide, by decide⟩
  obtain ⟨T311, h311, X311, e311, W311, st311⟩ := stI XH305 hx hZ e305 Ar311 (j := (17 : Int32)) hin311 (g := (mkF m 189 #[.val (.int p0), .val (.int p1), .val (.int p2), .val (.ref b97), .unset, .unset, .unset, .unset, .unset, .unset, .unset, .unset] [(.int (3 : Int32)), (.int (17 : Int32)), (.ref b202), (.ref b202)])) rfl rfl (hb hby at_189)
  have V311 : Arv Z h311 b202 c202 .int (20 : Int32) [(.int (7 : Int32)), (.int (11 : Int32)), (.int (2 : Int32)), (.int (5 : Int32)), (.int (7 : Int32)), (.int (5 : Int32)), (.int (2 : Int32)), (.int (5 : Int32)), (.int (3 : Int32)), (.int (2 : Int32)), (.int (3 : Int32)), (.int (4 : Int32)), (.int (2 : Int32)), (.int (3 : Int32)), (.int (4 : Int32)), (.int (3 : Int32)), (.int (1 : Int32)), (.int (3 : Int32)), (.int (0 : Int32)), (.int (0 : Int32))] (.int (0 : Int32)) := Arv.set Ar311 qq311 S311 M311 H311 G311 rfl W311 17 rfl (Nat.le_of_ble_eq_true rfl)
  have N311 := Fr.snoc X311 NH305 g_b202
  obtain ⟨LH311, XH311, NH311⟩ := own_hide X311 N311
  clear X311 N311
  have Z312 : n0 ≤ h311.size := Nat.le_trans Z306 (Nat.le_of_eq W311.size.symm)
  have F313 : Old Z n0 h311 := Old.wr F307 W311 g_b202
  have F314 : Arv Z h311 b97 c97 .int (20 : Int32) [(.int (0 : Int32)), (.int (4 : Int32)), (.int (1 : Int32)), (.int (0 : Int32)), (.int (2 : Int32)), (.int (1 : Int32)), (.int (0 : Int32)), (.int (2 : Int32)), (.int (1 : Int32)), (.int (0 : Int32)), (.int (1 : Int32)), (.int (0 : Int32)), (.int (0 : Int32)), (.int (0 : Int32)), (.int (0 : Int32)), (.int (0 : Int32)), (.int (0 : Int32)), (.int (0 : Int32)), (.int (0 : Int32)), (.int (0 : Int32))] (.int (0 : Int32)) := (F308).other W311 ne203
  have k315 : ∀ t, Steps p.tables e below (T311.setTop (mkF m 190 #[.val (.int p0), .val (.int p1), .val (.int p2), .val (.ref b97), .unset, .unset, .unset, .unset, .unset, .unset, .unset, .unset] [(.ref b202)])) t → Steps p.tables e below (s₁.setTop (entryFrame m #[(.int p0), (.int p1), (.int p2)] maxLocals)) t := fun t k => k310 t (st311 t k)
  have k316 : ∀ t, Steps p.tables e below (T311.setTop (mkF m 194 #[.val (.int p0), .val (.int p1), .val (.int p2), .val (.ref b97), .unset, .unset, .unset, .unset, .unset, .unset, .unset, .unset] [(.int (1 : Int32)), (.int (18 : Int32)), (.ref b202), (.ref b202)])) t → Steps p.tables e below (s₁.setTop (entryFrame m #[(.int p0), (.int p1), (.int p2)] maxLocals)) t := fun t k => k315 t (by
    show Steps p.tables e below (T311.setTop (mkF m 190 #[.val (.int p0), .val (.int p1), .val (.int p2), .val (.ref b97), .unset, .unset, .unset, .unset, .unset, .unset, .unset, .unset] [(.ref b202)])) _
    refine XS.dup XH311.here hx rfl (hb hby at_190) rfl rfl ?_
    show Steps p.tables e below (T311.setTop (mkF m 191 #[.val (.int p0), .val (.int p1), .val (.int p2), .val (.ref b97), .unset, .unset, .unset, .unset, .unset, .unset, .unset, .unset] [(.ref b202), (.ref b202)])) _
    refine XS.bipush XH311.here hx rfl (hb hby at_191) ?_
    show Steps p.tables e below (T311.setTop (mkF m 193 #[.val (.int p0), .val (.int p1), .val (.int p2), .val (.ref b97), .unset, .unset, .unset, .unset, .unset, .unset, .unset, .unset] [(.int (18 : Int32)), (.ref b202), (.ref b202)])) _
    refine XS.iconst XH311.here hx rfl (hb hby at_193) ?_
    exact k)
  obtain ⟨cl317, Ar317, qq317, S317, M317, H317, G317⟩ := V311
  have hin317 : ¬ ((18 : Int32) < 0 ∨ cl317.slots.size ≤ ((18 : Int32)).toNatClampNeg) := inb_of S317 ⟨by decide, by decide⟩
  obtain ⟨T317, h317, X317, e317, W317, st317⟩ := stI XH311 hx hZ e311 Ar317 (j := (18 : Int32)) hin317 (g := (mkF m 194 #[.val (.int p0), .val (.int p1), .val (.int p2), .val (.ref b97), .unset, .unset, .unset, .unset, .unset, .unset, .unset, .unset] [(.int (1 : Int32)), (.int (18 : Int32)), (.ref b202), (.ref b202)])) rfl rfl (hb hby at_194)
  have V317 : Arv Z h317 b202 c202 .int (20 : Int32) [(.int (7 : Int32)), (.int (11 : Int32)), (.int (2 : Int32)), (.int (5 : Int32)), (.int (7 : Int32)), (.int (5 : Int32)), (.int (2 : Int32)), (.int (5 : Int32)), (.int (3 : Int32)), (.int (2 : Int32)), (.int (3 : Int32)), (.int (4 : Int32)), (.int (2 : Int32)), (.int (3 : Int32)), (.int (4 : Int32)), (.int (3 : Int32)), (.int (1 : Int32)), (.int (3 : Int32)), (.int (1 : Int32)), (.int (0 : Int32))] (.int (0 : Int32)) := Arv.set Ar317 qq317 S317 M317 H317 G317 rfl W317 18 rfl (Nat.le_of_ble_eq_true rfl)
  have N317 := Fr.snoc X317 NH311 g_b202
  obtain ⟨LH317, XH317, NH317⟩ := own_hide X317 N317
  clear X317 N317
  have Z318 : n0 ≤ h317.size := Nat.le_trans Z312 (Nat.le_of_eq W317.size.symm)
  have F319 : Old Z n0 h317 := Old.wr F313 W317 g_b202
  have F320 : Arv Z h317 b97 c97 .int (20 : Int32) [(.int (0 : Int32)), (.int (4 : Int32)), (.int (1 : Int32)), (.int (0 : Int32)), (.int (2 : Int32)), (.int (1 : Int32)), (.int (0 : Int32)), (.int (2 : Int32)), (.int (1 : Int32)), (.int (0 : Int32)), (.int (1 : Int32)), (.int (0 : Int32)), (.int (0 : Int32)), (.int (0 : Int32)), (.int (0 : Int32)), (.int (0 : Int32)), (.int (0 : Int32)), (.int (0 : Int32)), (.int (0 : Int32)), (.int (0 : Int32))] (.int (0 : Int32)) := (F314).other W317 ne203
  have k321 : ∀ t, Steps p.tables e below (T317.setTop (mkF m 195 #[.val (.int p0), .val (.int p1), .val (.int p2), .val (.ref b97), .unset, .unset, .unset, .unset, .unset, .unset, .unset, .unset] [(.ref b202)])) t → Steps p.tables e below (s₁.setTop (entryFrame m #[(.int p0), (.int p1), (.int p2)] maxLocals)) t := fun t k => k316 t (st317 t k)
  have k322 : ∀ t, Steps p.tables e below (T317.setTop (mkF m 199 #[.val (.int p0), .val (.int p1), .val (.int p2), .val (.ref b97), .unset, .unset, .unset, .unset, .unset, .unset, .unset, .unset] [(.int (1 : Int32)), (.int (19 : Int32)), (.ref b202), (.ref b202)])) t → Steps p.tables e below (s₁.setTop (entryFrame m #[(.int p0), (.int p1), (.int p2)] maxLocals)) t := fun t k => k321 t (by
    show Steps p.tables e below (T317.setTop (mkF m 195 #[.val (.int p0), .val (.int p1), .val (.int p2), .val (.ref b97), .unset, .unset, .unset, .unset, .unset, .unset, .unset, .unset] [(.ref b202)])) _
    refine XS.dup XH317.here hx rfl (hb hby at_195) rfl rfl ?_
    show Steps p.tables e below (T317.setTop (mkF m 196 #[.val (.int p0), .val (.int p1), .val (.int p2), .val (.ref b97), .unset, .unset, .unset, .unset, .unset, .unset, .unset, .unset] [(.ref b202), (.ref b202)])) _
    refine XS.bipush XH317.here hx rfl (hb hby at_196) ?_
    show Steps p.tables e below (T317.setTop (mkF m 198 #[.val (.int p0), .val (.int p1), .val (.int p2), .val (.ref b97), .unset, .unset, .unset, .unset, .unset, .unset, .unset, .unset] [(.int (19 : Int32)), (.ref b202), (.ref b202)])) _
    refine XS.iconst XH317.here hx rfl (hb hby at_198) ?_
    exact k)
  obtain ⟨cl323, Ar323, qq323, S323, M323, H323, G323⟩ := V317
  have hin323 : ¬ ((19 : Int32) < 0 ∨ cl323.slots.size ≤ ((19 : Int32)).toNatClampNeg) := inb_of S323 ⟨by decide, by decide⟩
  obtain ⟨T323, h323, X323, e323, W323, st323⟩ := stI XH317 hx hZ e317 Ar323 (j := (19 : Int32)) hin323 (g := (mkF m 199 #[.val (.int p0), .val (.int p1), .val (.int p2), .val (.ref b97), .unset, .unset, .unset, .unset, .unset, .unset, .unset, .unset] [(.int (1 : Int32)), (.int (19 : Int32)), (.ref b202), (.ref b202)])) rfl rfl (hb hby at_199)
  have V323 : Arv Z h323 b202 c202 .int (20 : Int32) [(.int (7 : Int32)), (.int (11 : Int32)), (.int (2 : Int32)), (.int (5 : Int32)), (.int (7 : Int32)), (.int (5 : Int32)), (.int (2 : Int32)), (.int (5 : Int32)), (.int (3 : Int32)), (.int (2 : Int32)), (.int (3 : Int32)), (.int (4 : Int32)), (.int (2 : Int32)), (.int (3 : Int32)), (.int (4 : Int32)), (.int (3 : Int32)), (.int (1 : Int32)), (.int (3 : Int32)), (.int (1 : Int32)), (.int (1 : Int32))] (.int (0 : Int32)) := Arv.set Ar323 qq323 S323 M323 H323 G323 rfl W323 19 rfl (Nat.le_of_ble_eq_true rfl)
  have N323 := Fr.snoc X323 NH317 g_b202
  obtain ⟨LH323, XH323, NH323⟩ := own_hide X323 N323
  clear X323 N323
  have Z324 : n0 ≤ h323.size := Nat.le_trans Z318 (Nat.le_of_eq W323.size.symm)
  have F325 : Old Z n0 h323 := Old.wr F319 W323 g_b202
  have F326 : Arv Z h323 b97 c97 .int (20 : Int32) [(.int (0 : Int32)), (.int (4 : Int32)), (.int (1 : Int32)), (.int (0 : Int32)), (.int (2 : Int32)), (.int (1 : Int32)), (.int (0 : Int32)), (.int (2 : Int32)), (.int (1 : Int32)), (.int (0 : Int32)), (.int (1 : Int32)), (.int (0 : Int32)), (.int (0 : Int32)), (.int (0 : Int32)), (.int (0 : Int32)), (.int (0 : Int32)), (.int (0 : Int32)), (.int (0 : Int32)), (.int (0 : Int32)), (.int (0 : Int32))] (.int (0 : Int32)) := (F320).other W323 ne203
  have k327 : ∀ t, Steps p.tables e below (T323.setTop (mkF m 200 #[.val (.int p0), .val (.int p1), .val (.int p2), .val (.ref b97), .unset, .unset, .unset, .unset, .unset, .unset, .unset, .unset] [(.ref b202)])) t → Steps p.tables e below (s₁.setTop (entryFrame m #[(.int p0), (.int p1), (.int p2)] maxLocals)) t := fun t k => k322 t (st323 t k)
  have k328 : ∀ t, Steps p.tables e below (T323.setTop (mkF m 211 #[.val (.int p0), .val (.int p1), .val (.int p2), .val (.ref b97), .val (.ref b202), .val (.int ((p0 &&& (2147483647 : Int32)) % (20 : Int32))), .unset, .unset, .unset, .unset, .unset, .unset] [])) t → Steps p.tables e below (s₁.setTop (entryFrame m #[(.int p0), (.int p1), (.int p2)] maxLocals)) t := fun t k => k327 t (by
    show Steps p.tables e below (T323.setTop (mkF m 200 #[.val (.int p0), .val (.int p1), .val (.int p2), .val (.ref b97), .unset, .unset, .unset, .unset, .unset, .unset, .unset, .unset] [(.ref b202)])) _
    refine XS.astore XH323.here hx rfl (hb hby at_200) rfl rfl (l' := #[.val (.int p0), .val (.int p1), .val (.int p2), .val (.ref b97), .val (.ref b202), .unset, .unset, .unset, .unset, .unset, .unset, .unset]) rfl ?_
    show Steps p.tables e below (T323.setTop (mkF m 202 #[.val (.int p0), .val (.int p1), .val (.int p2), .val (.ref b97), .val (.ref b202), .unset, .unset, .unset, .unset, .unset, .unset, .unset] [])) _
    refine XS.iloadN XH323.here hx rfl (hb hby at_202) rfl ?_
    show Steps p.tables e below (T323.setTop (mkF m 203 #[.val (.int p0), .val (.int p1), .val (.int p2), .val (.ref b97), .val (.ref b202), .unset, .unset, .unset, .unset, .unset, .unset, .unset] [(.int p0)])) _
    refine XH323.ldcInt hx hown (mvT hZ (hw _ (List.mem_of_getElem? (i := 1) rfl))) (g := (mkF m 203 #[.val (.int p0), .val (.int p1), .val (.int p2), .val (.ref b97), .val (.ref b202), .unset, .unset, .unset, .unset, .unset, .unset, .unset] [(.int p0)])) rfl (hb hby at_203) _ ?_
    show Steps p.tables e below (T323.setTop (mkF m 205 #[.val (.int p0), .val (.int p1), .val (.int p2), .val (.ref b97), .val (.ref b202), .unset, .unset, .unset, .unset, .unset, .unset, .unset] [(.int (2147483647 : Int32)), (.int p0)])) _
    refine XS.iand XH323.here hx rfl (hb hby at_205) rfl ?_
    show Steps p.tables e below (T323.setTop (mkF m 206 #[.val (.int p0), .val (.int p1), .val (.int p2), .val (.ref b97), .val (.ref b202), .unset, .unset, .unset, .unset, .unset, .unset, .unset] [(.int (p0 &&& (2147483647 : Int32)))])) _
    refine XS.bipush XH323.here hx rfl (hb hby at_206) ?_
    show Steps p.tables e below (T323.setTop (mkF m 208 #[.val (.int p0), .val (.int p1), .val (.int p2), .val (.ref b97), .val (.ref b202), .unset, .unset, .unset, .unset, .unset, .unset, .unset] [(.int (20 : Int32)), (.int (p0 &&& (2147483647 : Int32)))])) _
    refine iremM (g := (mkF m 208 #[.val (.int p0), .val (.int p1), .val (.int p2), .val (.ref b97), .val (.ref b202), .unset, .unset, .unset, .unset, .unset, .unset, .unset] [(.int (20 : Int32)), (.int (p0 &&& (2147483647 : Int32)))])) XH323 hx rfl (hb hby at_208) rfl (by decide) ?_
    show Steps p.tables e below (T323.setTop (mkF m 209 #[.val (.int p0), .val (.int p1), .val (.int p2), .val (.ref b97), .val (.ref b202), .unset, .unset, .unset, .unset, .unset, .unset, .unset] [(.int ((p0 &&& (2147483647 : Int32)) % (20 : Int32)))])) _
    refine XS.istore XH323.here hx rfl (hb hby at_209) rfl (l' := #[.val (.int p0), .val (.int p1), .val (.int p2), .val (.ref b97), .val (.ref b202), .val (.int ((p0 &&& (2147483647 : Int32)) % (20 : Int32))), .unset, .unset, .unset, .unset, .unset, .unset]) rfl ?_
    exact k)
  obtain ⟨kx, hk, ek⟩ := own_20 p0
  rw [ek] at k328
  have k330 : ∀ t, Steps p.tables e below (T323.setTop (mkF m 213 #[.val (.int p0), .val (.int p1), .val (.int p2), .val (.ref b97), .val (.ref b202), .val (.int (Int32.ofNat kx)), .unset, .unset, .unset, .unset, .unset, .unset] [(.int (Int32.ofNat kx))])) t → Steps p.tables e below (s₁.setTop (entryFrame m #[(.int p0), (.int p1), (.int p2)] maxLocals)) t := fun t k => k328 t (by
    show Steps p.tables e below (T323.setTop (mkF m 211 #[.val (.int p0), .val (.int p1), .val (.int p2), .val (.ref b97), .val (.ref b202), .val (.int (Int32.ofNat kx)), .unset, .unset, .unset, .unset, .unset, .unset] [])) _
    refine XS.iload XH323.here hx rfl (hb hby at_211) rfl ?_
    exact k)
  obtain ⟨_, _, ⟨T331, L331, kc331, ks331⟩, -, X331, ⟨Lc331, hQ331, l331, y331, z331⟩, st331⟩ := Jvm.LawKit.callS XH323 hx (y := (⟨"com/example/waxwing/waxwing/protocol/ApiKeyHandlesPinLaw", "pick", "(I)Lcom/example/waxwing/waxwing/protocol/ApiKey;"⟩ : MethodName)) hown (mvT hZ (hw _ (List.mem_of_getElem? (i := 2) rfl))) (mvT hZ (hw _ (List.mem_of_getElem? (i := 3) rfl))) (mvT hZ (hw _ (List.mem_of_getElem? (i := 4) rfl))) (mvT hZ (hw _ (List.mem_of_getElem? (i := 5) rfl))) (by decide) (backOf (W := 0) (rm1 l Z a0 hw [] kx f h323 n0 Z324 hk (Sta.ext F325.2 S_0) (Sta.ext F325.2 S_1) (Sta.ext F325.2 S_2) (Sta.ext F325.2 S_3) (Sta.ext F325.2 S_4) (Sta.ext F325.2 S_5) (Sta.ext F325.2 S_6) (Sta.ext F325.2 S_7) (Sta.ext F325.2 S_8) (Sta.ext F325.2 S_9) (Sta.ext F325.2 S_10) (Sta.ext F325.2 S_11) (Sta.ext F325.2 S_12) (Sta.ext F325.2 S_13) (Sta.ext F325.2 S_14) (Sta.ext F325.2 S_15) (Sta.ext F325.2 S_16) (Sta.ext F325.2 S_17) (Sta.ext F325.2 S_18) (Sta.ext F325.2 S_19)) hZ (hw _ (List.mem_of_getElem? (i := 5) rfl)) (hw _ (List.mem_of_getElem? (i := 4) rfl)) (by decide) (by decide)) (g := (mkF m 213 #[.val (.int p0), .val (.int p1), .val (.int p2), .val (.ref b97), .val (.ref b202), .val (.int (Int32.ofNat kx)), .unset, .unset, .unset, .unset, .unset, .unset] [(.int (Int32.ofNat kx))])) rfl (by rw [hml]; rfl) (argsL := [(.int (Int32.ofNat kx))]) (rest := []) (lenOf pd_0 rfl) rfl (by show 2 * 0 + _ ≤ _; exact Nat.le_of_eq rfl) (hb hby at_213) (fun _ _ => ⟨rfl, e323, (by decide : 2 + 0 ≤ _), (by decide : 40 + 0 ≤ _)⟩)
  dsimp only [Pt.U, Pt.locs, Pt.cells, Pt.slots] at X331 l331 y331 z331 st331 hQ331
  subst l331 y331 z331
  obtain ⟨rfl, Nq331, eq331⟩ := hQ331
  have N331 := Fr.app NH323 Nq331
  obtain ⟨LH331, XH331, NH331⟩ := own_hide X331 N331
  clear X331 N331
  have k332 : ∀ t, Steps p.tables e below (T331.setTop (mkF m 216 #[.val (.int p0), .val (.int p1), .val (.int p2), .val (.ref b97), .val (.ref b202), .val (.int (Int32.ofNat kx)), .unset, .unset, .unset, .unset, .unset, .unset] [(.ref (f kx))])) t → Steps p.tables e below (s₁.setTop (entryFrame m #[(.int p0), (.int p1), (.int p2)] maxLocals)) t := fun t k => k330 t (st331 t k)
  have EK := (E0 kx hk).ext F325.2
  have F1 := (F01 kx hk).ext F325.2
  have F2 := (F02 kx hk).ext F325.2
  have k335 : ∀ t, Steps p.tables e below (T331.setTop (mkF m 239 #[.val (.int p0), .val (.int p1), .val (.int p2), .val (.ref b97), .val (.ref b202), .val (.int (Int32.ofNat kx)), .val (.ref (f kx)), .val (.int (own_lo kx)), .val (.int (own_hi kx)), .val (.int (p1 &&& (7 : Int32))), .unset, .unset] [(.int (p1 &&& (7 : Int32)))])) t → Steps p.tables e below (s₁.setTop (entryFrame m #[(.int p0), (.int p1), (.int p2)] maxLocals)) t := fun t k => k332 t (by
    show Steps p.tables e below (T331.setTop (mkF m 216 #[.val (.int p0), .val (.int p1), .val (.int p2), .val (.ref b97), .val (.ref b202), .val (.int (Int32.ofNat kx)), .unset, .unset, .unset, .unset, .unset, .unset] [(.ref (f kx))])) _
    refine XS.astore XH331.here hx rfl (hb hby at_216) rfl rfl (l' := #[.val (.int p0), .val (.int p1), .val (.int p2), .val (.ref b97), .val (.ref b202), .val (.int (Int32.ofNat kx)), .val (.ref (f kx)), .unset, .unset, .unset, .unset, .unset]) rfl ?_
    show Steps p.tables e below (T331.setTop (mkF m 218 #[.val (.int p0), .val (.int p1), .val (.int p2), .val (.ref b97), .val (.ref b202), .val (.int (Int32.ofNat kx)), .val (.ref (f kx)), .unset, .unset, .unset, .unset, .unset] [])) _
    refine XS.aloadN XH331.here hx rfl (hb hby at_218) rfl rfl ?_
    show Steps p.tables e below (T331.setTop (mkF m 219 #[.val (.int p0), .val (.int p1), .val (.int p2), .val (.ref b97), .val (.ref b202), .val (.int (Int32.ofNat kx)), .val (.ref (f kx)), .unset, .unset, .unset, .unset, .unset] [(.ref b97)])) _
    refine XS.iload XH331.here hx rfl (hb hby at_219) rfl ?_
    show Steps p.tables e below (T331.setTop (mkF m 221 #[.val (.int p0), .val (.int p1), .val (.int p2), .val (.ref b97), .val (.ref b202), .val (.int (Int32.ofNat kx)), .val (.ref (f kx)), .unset, .unset, .unset, .unset, .unset] [(.int (Int32.ofNat kx)), (.ref b97)])) _
    obtain ⟨clq333, Arq333, -, Sq333, Nq333, Hq333, Gq333⟩ := id F326
    have hinq333 := inb_of (j := (Int32.ofNat kx)) Sq333 (own_in hk)
    refine XH331.iaload hx (j := (Int32.ofNat kx)) (v := (.int (own_lo kx))) (by rw [eq331]; exact Arq333.1) (State.isArrayOf_alike hZ.alike Arq333.2.1) Arq333.2.2 hinq333 (Has.at Hq333 hinq333 (own_atlo hk)) (g := (mkF m 221 #[.val (.int p0), .val (.int p1), .val (.int p2), .val (.ref b97), .val (.ref b202), .val (.int (Int32.ofNat kx)), .val (.ref (f kx)), .unset, .unset, .unset, .unset, .unset] [(.int (Int32.ofNat kx)), (.ref b97)])) rfl rfl (hb hby at_221) _ ?_
    show Steps p.tables e below (T331.setTop (mkF m 222 #[.val (.int p0), .val (.int p1), .val (.int p2), .val (.ref b97), .val (.ref b202), .val (.int (Int32.ofNat kx)), .val (.ref (f kx)), .unset, .unset, .unset, .unset, .unset] [(.int (own_lo kx))])) _
    refine XS.istore XH331.here hx rfl (hb hby at_222) rfl (l' := #[.val (.int p0), .val (.int p1), .val (.int p2), .val (.ref b97), .val (.ref b202), .val (.int (Int32.ofNat kx)), .val (.ref (f kx)), .val (.int (own_lo kx)), .unset, .unset, .unset, .unset]) rfl ?_
    show Steps p.tables e below (T331.setTop (mkF m 224 #[.val (.int p0), .val (.int p1), .val (.int p2), .val (.ref b97), .val (.ref b202), .val (.int (Int32.ofNat kx)), .val (.ref (f kx)), .val (.int (own_lo kx)), .unset, .unset, .unset, .unset] [])) _
    refine XS.aload XH331.here hx rfl (hb hby at_224) rfl rfl ?_
    show Steps p.tables e below (T331.setTop (mkF m 226 #[.val (.int p0), .val (.int p1), .val (.int p2), .val (.ref b97), .val (.ref b202), .val (.int (Int32.ofNat kx)), .val (.ref (f kx)), .val (.int (own_lo kx)), .unset, .unset, .unset, .unset] [(.ref b202)])) _
    refine XS.iload XH331.here hx rfl (hb hby at_226) rfl ?_
    show Steps p.tables e below (T331.setTop (mkF m 228 #[.val (.int p0), .val (.int p1), .val (.int p2), .val (.ref b97), .val (.ref b202), .val (.int (Int32.ofNat kx)), .val (.ref (f kx)), .val (.int (own_lo kx)), .unset, .unset, .unset, .unset] [(.int (Int32.ofNat kx)), (.ref b202)])) _
    obtain ⟨clq334, Arq334, -, Sq334, Nq334, Hq334, Gq334⟩ := id V323
    have hinq334 := inb_of (j := (Int32.ofNat kx)) Sq334 (own_in hk)
    refine XH331.iaload hx (j := (Int32.ofNat kx)) (v := (.int (own_hi kx))) (by rw [eq331]; exact Arq334.1) (State.isArrayOf_alike hZ.alike Arq334.2.1) Arq334.2.2 hinq334 (Has.at Hq334 hinq334 (own_athi hk)) (g := (mkF m 228 #[.val (.int p0), .val (.int p1), .val (.int p2), .val (.ref b97), .val (.ref b202), .val (.int (Int32.ofNat kx)), .val (.ref (f kx)), .val (.int (own_lo kx)), .unset, .unset, .unset, .unset] [(.int (Int32.ofNat kx)), (.ref b202)])) rfl rfl (hb hby at_228) _ ?_
    show Steps p.tables e below (T331.setTop (mkF m 229 #[.val (.int p0), .val (.int p1), .val (.int p2), .val (.ref b97), .val (.ref b202), .val (.int (Int32.ofNat kx)), .val (.ref (f kx)), .val (.int (own_lo kx)), .unset, .unset, .unset, .unset] [(.int (own_hi kx))])) _
    refine XS.istore XH331.here hx rfl (hb hby at_229) rfl (l' := #[.val (.int p0), .val (.int p1), .val (.int p2), .val (.ref b97), .val (.ref b202), .val (.int (Int32.ofNat kx)), .val (.ref (f kx)), .val (.int (own_lo kx)), .val (.int (own_hi kx)), .unset, .unset, .unset]) rfl ?_
    show Steps p.tables e below (T331.setTop (mkF m 231 #[.val (.int p0), .val (.int p1), .val (.int p2), .val (.ref b97), .val (.ref b202), .val (.int (Int32.ofNat kx)), .val (.ref (f kx)), .val (.int (own_lo kx)), .val (.int (own_hi kx)), .unset, .unset, .unset] [])) _
    refine XS.iloadN XH331.here hx rfl (hb hby at_231) rfl ?_
    show Steps p.tables e below (T331.setTop (mkF m 232 #[.val (.int p0), .val (.int p1), .val (.int p2), .val (.ref b97), .val (.ref b202), .val (.int (Int32.ofNat kx)), .val (.ref (f kx)), .val (.int (own_lo kx)), .val (.int (own_hi kx)), .unset, .unset, .unset] [(.int p1)])) _
    refine XS.bipush XH331.here hx rfl (hb hby at_232) ?_
    show Steps p.tables e below (T331.setTop (mkF m 234 #[.val (.int p0), .val (.int p1), .val (.int p2), .val (.ref b97), .val (.ref b202), .val (.int (Int32.ofNat kx)), .val (.ref (f kx)), .val (.int (own_lo kx)), .val (.int (own_hi kx)), .unset, .unset, .unset] [(.int (7 : Int32)), (.int p1)])) _
    refine XS.iand XH331.here hx rfl (hb hby at_234) rfl ?_
    show Steps p.tables e below (T331.setTop (mkF m 235 #[.val (.int p0), .val (.int p1), .val (.int p2), .val (.ref b97), .val (.ref b202), .val (.int (Int32.ofNat kx)), .val (.ref (f kx)), .val (.int (own_lo kx)), .val (.int (own_hi kx)), .unset, .unset, .unset] [(.int (p1 &&& (7 : Int32)))])) _
    refine XS.istore XH331.here hx rfl (hb hby at_235) rfl (l' := #[.val (.int p0), .val (.int p1), .val (.int p2), .val (.ref b97), .val (.ref b202), .val (.int (Int32.ofNat kx)), .val (.ref (f kx)), .val (.int (own_lo kx)), .val (.int (own_hi kx)), .val (.int (p1 &&& (7 : Int32))), .unset, .unset]) rfl ?_
    show Steps p.tables e below (T331.setTop (mkF m 237 #[.val (.int p0), .val (.int p1), .val (.int p2), .val (.ref b97), .val (.ref b202), .val (.int (Int32.ofNat kx)), .val (.ref (f kx)), .val (.int (own_lo kx)), .val (.int (own_hi kx)), .val (.int (p1 &&& (7 : Int32))), .unset, .unset] [])) _
    refine XS.iload XH331.here hx rfl (hb hby at_237) rfl ?_
    exact k)
  have k342 : ∀ t, Steps p.tables e below (T331.setTop (mkF m 328 #[.val (.int p0), .val (.int p1), .val (.int p2), .val (.ref b97), .val (.ref b202), .val (.int (Int32.ofNat kx)), .val (.ref (f kx)), .val (.int (own_lo kx)), .val (.int (own_hi kx)), .val (.int (p1 &&& (7 : Int32))), .val (.int (if (p1 &&& (7 : Int32)) = (0 : Int32) then (((own_lo kx) - (1 : Int32)).toInt16.toInt32) else (if (p1 &&& (7 : Int32)) = (1 : Int32) then ((own_lo kx).toInt16.toInt32) else (if (p1 &&& (7 : Int32)) = (2 : Int32) then ((own_hi kx).toInt16.toInt32) else (if (p1 &&& (7 : Int32)) = (3 : Int32) then (((own_hi kx) + (1 : Int32)).toInt16.toInt32) else (if (p1 &&& (7 : Int32)) = (4 : Int32) then (-32768 : Int32) else (if (p1 &&& (7 : Int32)) = (5 : Int32) then (32767 : Int32) else (p2.toInt16.toInt32)))))))), .unset] [])) t → Steps p.tables e below (s₁.setTop (entryFrame m #[(.int p0), (.int p1), (.int p2)] maxLocals)) t := fun t k => k335 t (by
    by_cases hq336 : (p1 &&& (7 : Int32)) = (0 : Int32)
    · simp only [if_pos hq336] at k
      show Steps p.tables e below (T331.setTop (mkF m 239 #[.val (.int p0), .val (.int p1), .val (.int p2), .val (.ref b97), .val (.ref b202), .val (.int (Int32.ofNat kx)), .val (.ref (f kx)), .val (.int (own_lo kx)), .val (.int (own_hi kx)), .val (.int (p1 &&& (7 : Int32))), .unset, .unset] [(.int (p1 &&& (7 : Int32)))])) _
      refine XS.ifNo XH331.here hx rfl (hb hby at_239) rfl ((if0 _ _).trans (teq hq336).2) ?_
      show Steps p.tables e below (T331.setTop (mkF m 242 #[.val (.int p0), .val (.int p1), .val (.int p2), .val (.ref b97), .val (.ref b202), .val (.int (Int32.ofNat kx)), .val (.ref (f kx)), .val (.int (own_lo kx)), .val (.int (own_hi kx)), .val (.int (p1 &&& (7 : Int32))), .unset, .unset] [])) _
      refine XS.iload XH331.here hx rfl (hb hby at_242) rfl ?_
      show Steps p.tables e below (T331.setTop (mkF m 244 #[.val (.int p0), .val (.int p1), .val (.int p2), .val (.ref b97), .val (.ref b202), .val (.int (Int32.ofNat kx)), .val (.ref (f kx)), .val (.int (own_lo kx)), .val (.int (own_hi kx)), .val (.int (p1 &&& (7 : Int32))), .unset, .unset] [(.int (own_lo kx))])) _
      refine XS.iconst XH331.here hx rfl (hb hby at_244) ?_
      show Steps p.tables e below (T331.setTop (mkF m 245 #[.val (.int p0), .val (.int p1), .val (.int p2), .val (.ref b97), .val (.ref b202), .val (.int (Int32.ofNat kx)), .val (.ref (f kx)), .val (.int (own_lo kx)), .val (.int (own_hi kx)), .val (.int (p1 &&& (7 : Int32))), .unset, .unset] [(.int (1 : Int32)), (.int (own_lo kx))])) _
      refine XS.isub XH331.here hx rfl (hb hby at_245) rfl ?_
      show Steps p.tables e below (T331.setTop (mkF m 246 #[.val (.int p0), .val (.int p1), .val (.int p2), .val (.ref b97), .val (.ref b202), .val (.int (Int32.ofNat kx)), .val (.ref (f kx)), .val (.int (own_lo kx)), .val (.int (own_hi kx)), .val (.int (p1 &&& (7 : Int32))), .unset, .unset] [(.int ((own_lo kx) - (1 : Int32)))])) _
      refine XS.i2s XH331.here hx rfl (hb hby at_246) rfl ?_
      show Steps p.tables e below (T331.setTop (mkF m 247 #[.val (.int p0), .val (.int p1), .val (.int p2), .val (.ref b97), .val (.ref b202), .val (.int (Int32.ofNat kx)), .val (.ref (f kx)), .val (.int (own_lo kx)), .val (.int (own_hi kx)), .val (.int (p1 &&& (7 : Int32))), .unset, .unset] [(.int (((own_lo kx) - (1 : Int32)).toInt16.toInt32))])) _
      refine XS.istore XH331.here hx rfl (hb hby at_247) rfl (l' := #[.val (.int p0), .val (.int p1), .val (.int p2), .val (.ref b97), .val (.ref b202), .val (.int (Int32.ofNat kx)), .val (.ref (f kx)), .val (.int (own_lo kx)), .val (.int (own_hi kx)), .val (.int (p1 &&& (7 : Int32))), .val (.int (((own_lo kx) - (1 : Int32)).toInt16.toInt32)), .unset]) rfl ?_
      show Steps p.tables e below (T331.setTop (mkF m 249 #[.val (.int p0), .val (.int p1), .val (.int p2), .val (.ref b97), .val (.ref b202), .val (.int (Int32.ofNat kx)), .val (.ref (f kx)), .val (.int (own_lo kx)), .val (.int (own_hi kx)), .val (.int (p1 &&& (7 : Int32))), .val (.int (((own_lo kx) - (1 : Int32)).toInt16.toInt32)), .unset] [])) _
      refine XS.goto XH331.here hx rfl (pc0 := 249) (pc' := 328) rfl (hb hby at_249) (by decide) (by decide) ?_
      exact k
    · simp only [if_neg hq336] at k
      show Steps p.tables e below (T331.setTop (mkF m 239 #[.val (.int p0), .val (.int p1), .val (.int p2), .val (.ref b97), .val (.ref b202), .val (.int (Int32.ofNat kx)), .val (.ref (f kx)), .val (.int (own_lo kx)), .val (.int (own_hi kx)), .val (.int (p1 &&& (7 : Int32))), .unset, .unset] [(.int (p1 &&& (7 : Int32)))])) _
      refine XS.ifYes XH331.here hx rfl (pc0 := 239) (pc' := 252) rfl (hb hby at_239) rfl ((if0 _ _).trans (feq hq336).2) (by decide) (by decide) ?_
      show Steps p.tables e below (T331.setTop (mkF m 252 #[.val (.int p0), .val (.int p1), .val (.int p2), .val (.ref b97), .val (.ref b202), .val (.int (Int32.ofNat kx)), .val (.ref (f kx)), .val (.int (own_lo kx)), .val (.int (own_hi kx)), .val (.int (p1 &&& (7 : Int32))), .unset, .unset] [])) _
      refine XS.iload XH331.here hx rfl (hb hby at_252) rfl ?_
      show Steps p.tables e below (T331.setTop (mkF m 254 #[.val (.int p0), .val (.int p1), .val (.int p2), .val (.ref b97), .val (.ref b202), .val (.int (Int32.ofNat kx)), .val (.ref (f kx)), .val (.int (own_lo kx)), .val (.int (own_hi kx)), .val (.int (p1 &&& (7 : Int32))), .unset, .unset] [(.int (p1 &&& (7 : Int32)))])) _
      refine XS.iconst XH331.here hx rfl (hb hby at_254) ?_
      by_cases hq337 : (p1 &&& (7 : Int32)) = (1 : Int32)
      · simp only [if_pos hq337] at k
        show Steps p.tables e below (T331.setTop (mkF m 255 #[.val (.int p0), .val (.int p1), .val (.int p2), .val (.ref b97), .val (.ref b202), .val (.int (Int32.ofNat kx)), .val (.ref (f kx)), .val (.int (own_lo kx)), .val (.int (own_hi kx)), .val (.int (p1 &&& (7 : Int32))), .unset, .unset] [(.int (1 : Int32)), (.int (p1 &&& (7 : Int32)))])) _
        refine XS.icmpNo XH331.here hx rfl (hb hby at_255) rfl (teq hq337).2 ?_
        show Steps p.tables e below (T331.setTop (mkF m 258 #[.val (.int p0), .val (.int p1), .val (.int p2), .val (.ref b97), .val (.ref b202), .val (.int (Int32.ofNat kx)), .val (.ref (f kx)), .val (.int (own_lo kx)), .val (.int (own_hi kx)), .val (.int (p1 &&& (7 : Int32))), .unset, .unset] [])) _
        refine XS.iload XH331.here hx rfl (hb hby at_258) rfl ?_
        show Steps p.tables e below (T331.setTop (mkF m 260 #[.val (.int p0), .val (.int p1), .val (.int p2), .val (.ref b97), .val (.ref b202), .val (.int (Int32.ofNat kx)), .val (.ref (f kx)), .val (.int (own_lo kx)), .val (.int (own_hi kx)), .val (.int (p1 &&& (7 : Int32))), .unset, .unset] [(.int (own_lo kx))])) _
        refine XS.i2s XH331.here hx rfl (hb hby at_260) rfl ?_
        show Steps p.tables e below (T331.setTop (mkF m 261 #[.val (.int p0), .val (.int p1), .val (.int p2), .val (.ref b97), .val (.ref b202), .val (.int (Int32.ofNat kx)), .val (.ref (f kx)), .val (.int (own_lo kx)), .val (.int (own_hi kx)), .val (.int (p1 &&& (7 : Int32))), .unset, .unset] [(.int ((own_lo kx).toInt16.toInt32))])) _
        refine XS.istore XH331.here hx rfl (hb hby at_261) rfl (l' := #[.val (.int p0), .val (.int p1), .val (.int p2), .val (.ref b97), .val (.ref b202), .val (.int (Int32.ofNat kx)), .val (.ref (f kx)), .val (.int (own_lo kx)), .val (.int (own_hi kx)), .val (.int (p1 &&& (7 : Int32))), .val (.int ((own_lo kx).toInt16.toInt32)), .unset]) rfl ?_
        show Steps p.tables e below (T331.setTop (mkF m 263 #[.val (.int p0), .val (.int p1), .val (.int p2), .val (.ref b97), .val (.ref b202), .val (.int (Int32.ofNat kx)), .val (.ref (f kx)), .val (.int (own_lo kx)), .val (.int (own_hi kx)), .val (.int (p1 &&& (7 : Int32))), .val (.int ((own_lo kx).toInt16.toInt32)), .unset] [])) _
        refine XS.goto XH331.here hx rfl (pc0 := 263) (pc' := 328) rfl (hb hby at_263) (by decide) (by decide) ?_
        exact k
      · simp only [if_neg hq337] at k
        show Steps p.tables e below (T331.setTop (mkF m 255 #[.val (.int p0), .val (.int p1), .val (.int p2), .val (.ref b97), .val (.ref b202), .val (.int (Int32.ofNat kx)), .val (.ref (f kx)), .val (.int (own_lo kx)), .val (.int (own_hi kx)), .val (.int (p1 &&& (7 : Int32))), .unset, .unset] [(.int (1 : Int32)), (.int (p1 &&& (7 : Int32)))])) _
        refine XS.icmpYes XH331.here hx rfl (pc0 := 255) (pc' := 266) rfl (hb hby at_255) rfl (feq hq337).2 (by decide) (by decide) ?_
        show Steps p.tables e below (T331.setTop (mkF m 266 #[.val (.int p0), .val (.int p1), .val (.int p2), .val (.ref b97), .val (.ref b202), .val (.int (Int32.ofNat kx)), .val (.ref (f kx)), .val (.int (own_lo kx)), .val (.int (own_hi kx)), .val (.int (p1 &&& (7 : Int32))), .unset, .unset] [])) _
        refine XS.iload XH331.here hx rfl (hb hby at_266) rfl ?_
        show Steps p.tables e below (T331.setTop (mkF m 268 #[.val (.int p0), .val (.int p1), .val (.int p2), .val (.ref b97), .val (.ref b202), .val (.int (Int32.ofNat kx)), .val (.ref (f kx)), .val (.int (own_lo kx)), .val (.int (own_hi kx)), .val (.int (p1 &&& (7 : Int32))), .unset, .unset] [(.int (p1 &&& (7 : Int32)))])) _
        refine XS.iconst XH331.here hx rfl (hb hby at_268) ?_
        by_cases hq338 : (p1 &&& (7 : Int32)) = (2 : Int32)
        · simp only [if_pos hq338] at k
          show Steps p.tables e below (T331.setTop (mkF m 269 #[.val (.int p0), .val (.int p1), .val (.int p2), .val (.ref b97), .val (.ref b202), .val (.int (Int32.ofNat kx)), .val (.ref (f kx)), .val (.int (own_lo kx)), .val (.int (own_hi kx)), .val (.int (p1 &&& (7 : Int32))), .unset, .unset] [(.int (2 : Int32)), (.int (p1 &&& (7 : Int32)))])) _
          refine XS.icmpNo XH331.here hx rfl (hb hby at_269) rfl (teq hq338).2 ?_
          show Steps p.tables e below (T331.setTop (mkF m 272 #[.val (.int p0), .val (.int p1), .val (.int p2), .val (.ref b97), .val (.ref b202), .val (.int (Int32.ofNat kx)), .val (.ref (f kx)), .val (.int (own_lo kx)), .val (.int (own_hi kx)), .val (.int (p1 &&& (7 : Int32))), .unset, .unset] [])) _
          refine XS.iload XH331.here hx rfl (hb hby at_272) rfl ?_
          show Steps p.tables e below (T331.setTop (mkF m 274 #[.val (.int p0), .val (.int p1), .val (.int p2), .val (.ref b97), .val (.ref b202), .val (.int (Int32.ofNat kx)), .val (.ref (f kx)), .val (.int (own_lo kx)), .val (.int (own_hi kx)), .val (.int (p1 &&& (7 : Int32))), .unset, .unset] [(.int (own_hi kx))])) _
          refine XS.i2s XH331.here hx rfl (hb hby at_274) rfl ?_
          show Steps p.tables e below (T331.setTop (mkF m 275 #[.val (.int p0), .val (.int p1), .val (.int p2), .val (.ref b97), .val (.ref b202), .val (.int (Int32.ofNat kx)), .val (.ref (f kx)), .val (.int (own_lo kx)), .val (.int (own_hi kx)), .val (.int (p1 &&& (7 : Int32))), .unset, .unset] [(.int ((own_hi kx).toInt16.toInt32))])) _
          refine XS.istore XH331.here hx rfl (hb hby at_275) rfl (l' := #[.val (.int p0), .val (.int p1), .val (.int p2), .val (.ref b97), .val (.ref b202), .val (.int (Int32.ofNat kx)), .val (.ref (f kx)), .val (.int (own_lo kx)), .val (.int (own_hi kx)), .val (.int (p1 &&& (7 : Int32))), .val (.int ((own_hi kx).toInt16.toInt32)), .unset]) rfl ?_
          show Steps p.tables e below (T331.setTop (mkF m 277 #[.val (.int p0), .val (.int p1), .val (.int p2), .val (.ref b97), .val (.ref b202), .val (.int (Int32.ofNat kx)), .val (.ref (f kx)), .val (.int (own_lo kx)), .val (.int (own_hi kx)), .val (.int (p1 &&& (7 : Int32))), .val (.int ((own_hi kx).toInt16.toInt32)), .unset] [])) _
          refine XS.goto XH331.here hx rfl (pc0 := 277) (pc' := 328) rfl (hb hby at_277) (by decide) (by decide) ?_
          exact k
        · simp only [if_neg hq338] at k
          show Steps p.tables e below (T331.setTop (mkF m 269 #[.val (.int p0), .val (.int p1), .val (.int p2), .val (.ref b97), .val (.ref b202), .val (.int (Int32.ofNat kx)), .val (.ref (f kx)), .val (.int (own_lo kx)), .val (.int (own_hi kx)), .val (.int (p1 &&& (7 : Int32))), .unset, .unset] [(.int (2 : Int32)), (.int (p1 &&& (7 : Int32)))])) _
          refine XS.icmpYes XH331.here hx rfl (pc0 := 269) (pc' := 280) rfl (hb hby at_269) rfl (feq hq338).2 (by decide) (by decide) ?_
          show Steps p.tables e below (T331.setTop (mkF m 280 #[.val (.int p0), .val (.int p1), .val (.int p2), .val (.ref b97), .val (.ref b202), .val (.int (Int32.ofNat kx)), .val (.ref (f kx)), .val (.int (own_lo kx)), .val (.int (own_hi kx)), .val (.int (p1 &&& (7 : Int32))), .unset, .unset] [])) _
          refine XS.iload XH331.here hx rfl (hb hby at_280) rfl ?_
          show Steps p.tables e below (T331.setTop (mkF m 282 #[.val (.int p0), .val (.int p1), .val (.int p2), .val (.ref b97), .val (.ref b202), .val (.int (Int32.ofNat kx)), .val (.ref (f kx)), .val (.int (own_lo kx)), .val (.int (own_hi kx)), .val (.int (p1 &&& (7 : Int32))), .unset, .unset] [(.int (p1 &&& (7 : Int32)))])) _
          refine XS.iconst XH331.here hx rfl (hb hby at_282) ?_
          by_cases hq339 : (p1 &&& (7 : Int32)) = (3 : Int32)
          · simp only [if_pos hq339] at k
            show Steps p.tables e below (T331.setTop (mkF m 283 #[.val (.int p0), .val (.int p1), .val (.int p2), .val (.ref b97), .val (.ref b202), .val (.int (Int32.ofNat kx)), .val (.ref (f kx)), .val (.int (own_lo kx)), .val (.int (own_hi kx)), .val (.int (p1 &&& (7 : Int32))), .unset, .unset] [(.int (3 : Int32)), (.int (p1 &&& (7 : Int32)))])) _
            refine XS.icmpNo XH331.here hx rfl (hb hby at_283) rfl (teq hq339).2 ?_
            show Steps p.tables e below (T331.setTop (mkF m 286 #[.val (.int p0), .val (.int p1), .val (.int p2), .val (.ref b97), .val (.ref b202), .val (.int (Int32.ofNat kx)), .val (.ref (f kx)), .val (.int (own_lo kx)), .val (.int (own_hi kx)), .val (.int (p1 &&& (7 : Int32))), .unset, .unset] [])) _
            refine XS.iload XH331.here hx rfl (hb hby at_286) rfl ?_
            show Steps p.tables e below (T331.setTop (mkF m 288 #[.val (.int p0), .val (.int p1), .val (.int p2), .val (.ref b97), .val (.ref b202), .val (.int (Int32.ofNat kx)), .val (.ref (f kx)), .val (.int (own_lo kx)), .val (.int (own_hi kx)), .val (.int (p1 &&& (7 : Int32))), .unset, .unset] [(.int (own_hi kx))])) _
            refine XS.iconst XH331.here hx rfl (hb hby at_288) ?_
            show Steps p.tables e below (T331.setTop (mkF m 289 #[.val (.int p0), .val (.int p1), .val (.int p2), .val (.ref b97), .val (.ref b202), .val (.int (Int32.ofNat kx)), .val (.ref (f kx)), .val (.int (own_lo kx)), .val (.int (own_hi kx)), .val (.int (p1 &&& (7 : Int32))), .unset, .unset] [(.int (1 : Int32)), (.int (own_hi kx))])) _
            refine XS.iadd XH331.here hx rfl (hb hby at_289) rfl ?_
            show Steps p.tables e below (T331.setTop (mkF m 290 #[.val (.int p0), .val (.int p1), .val (.int p2), .val (.ref b97), .val (.ref b202), .val (.int (Int32.ofNat kx)), .val (.ref (f kx)), .val (.int (own_lo kx)), .val (.int (own_hi kx)), .val (.int (p1 &&& (7 : Int32))), .unset, .unset] [(.int ((own_hi kx) + (1 : Int32)))])) _
            refine XS.i2s XH331.here hx rfl (hb hby at_290) rfl ?_
            show Steps p.tables e below (T331.setTop (mkF m 291 #[.val (.int p0), .val (.int p1), .val (.int p2), .val (.ref b97), .val (.ref b202), .val (.int (Int32.ofNat kx)), .val (.ref (f kx)), .val (.int (own_lo kx)), .val (.int (own_hi kx)), .val (.int (p1 &&& (7 : Int32))), .unset, .unset] [(.int (((own_hi kx) + (1 : Int32)).toInt16.toInt32))])) _
            refine XS.istore XH331.here hx rfl (hb hby at_291) rfl (l' := #[.val (.int p0), .val (.int p1), .val (.int p2), .val (.ref b97), .val (.ref b202), .val (.int (Int32.ofNat kx)), .val (.ref (f kx)), .val (.int (own_lo kx)), .val (.int (own_hi kx)), .val (.int (p1 &&& (7 : Int32))), .val (.int (((own_hi kx) + (1 : Int32)).toInt16.toInt32)), .unset]) rfl ?_
            show Steps p.tables e below (T331.setTop (mkF m 293 #[.val (.int p0), .val (.int p1), .val (.int p2), .val (.ref b97), .val (.ref b202), .val (.int (Int32.ofNat kx)), .val (.ref (f kx)), .val (.int (own_lo kx)), .val (.int (own_hi kx)), .val (.int (p1 &&& (7 : Int32))), .val (.int (((own_hi kx) + (1 : Int32)).toInt16.toInt32)), .unset] [])) _
            refine XS.goto XH331.here hx rfl (pc0 := 293) (pc' := 328) rfl (hb hby at_293) (by decide) (by decide) ?_
            exact k
          · simp only [if_neg hq339] at k
            show Steps p.tables e below (T331.setTop (mkF m 283 #[.val (.int p0), .val (.int p1), .val (.int p2), .val (.ref b97), .val (.ref b202), .val (.int (Int32.ofNat kx)), .val (.ref (f kx)), .val (.int (own_lo kx)), .val (.int (own_hi kx)), .val (.int (p1 &&& (7 : Int32))), .unset, .unset] [(.int (3 : Int32)), (.int (p1 &&& (7 : Int32)))])) _
            refine XS.icmpYes XH331.here hx rfl (pc0 := 283) (pc' := 296) rfl (hb hby at_283) rfl (feq hq339).2 (by decide) (by decide) ?_
            show Steps p.tables e below (T331.setTop (mkF m 296 #[.val (.int p0), .val (.int p1), .val (.int p2), .val (.ref b97), .val (.ref b202), .val (.int (Int32.ofNat kx)), .val (.ref (f kx)), .val (.int (own_lo kx)), .val (.int (own_hi kx)), .val (.int (p1 &&& (7 : Int32))), .unset, .unset] [])) _
            refine XS.iload XH331.here hx rfl (hb hby at_296) rfl ?_
            show Steps p.tables e below (T331.setTop (mkF m 298 #[.val (.int p0), .val (.int p1), .val (.int p2), .val (.ref b97), .val (.ref b202), .val (.int (Int32.ofNat kx)), .val (.ref (f kx)), .val (.int (own_lo kx)), .val (.int (own_hi kx)), .val (.int (p1 &&& (7 : Int32))), .unset, .unset] [(.int (p1 &&& (7 : Int32)))])) _
            refine XS.iconst XH331.here hx rfl (hb hby at_298) ?_
            by_cases hq340 : (p1 &&& (7 : Int32)) = (4 : Int32)
            · simp only [if_pos hq340] at k
              show Steps p.tables e below (T331.setTop (mkF m 299 #[.val (.int p0), .val (.int p1), .val (.int p2), .val (.ref b97), .val (.ref b202), .val (.int (Int32.ofNat kx)), .val (.ref (f kx)), .val (.int (own_lo kx)), .val (.int (own_hi kx)), .val (.int (p1 &&& (7 : Int32))), .unset, .unset] [(.int (4 : Int32)), (.int (p1 &&& (7 : Int32)))])) _
              refine XS.icmpNo XH331.here hx rfl (hb hby at_299) rfl (teq hq340).2 ?_
              show Steps p.tables e below (T331.setTop (mkF m 302 #[.val (.int p0), .val (.int p1), .val (.int p2), .val (.ref b97), .val (.ref b202), .val (.int (Int32.ofNat kx)), .val (.ref (f kx)), .val (.int (own_lo kx)), .val (.int (own_hi kx)), .val (.int (p1 &&& (7 : Int32))), .unset, .unset] [])) _
              refine XS.sipush XH331.here hx rfl (hb hby at_302) ?_
              show Steps p.tables e below (T331.setTop (mkF m 305 #[.val (.int p0), .val (.int p1), .val (.int p2), .val (.ref b97), .val (.ref b202), .val (.int (Int32.ofNat kx)), .val (.ref (f kx)), .val (.int (own_lo kx)), .val (.int (own_hi kx)), .val (.int (p1 &&& (7 : Int32))), .unset, .unset] [(.int (-32768 : Int32))])) _
              refine XS.istore XH331.here hx rfl (hb hby at_305) rfl (l' := #[.val (.int p0), .val (.int p1), .val (.int p2), .val (.ref b97), .val (.ref b202), .val (.int (Int32.ofNat kx)), .val (.ref (f kx)), .val (.int (own_lo kx)), .val (.int (own_hi kx)), .val (.int (p1 &&& (7 : Int32))), .val (.int (-32768 : Int32)), .unset]) rfl ?_
              show Steps p.tables e below (T331.setTop (mkF m 307 #[.val (.int p0), .val (.int p1), .val (.int p2), .val (.ref b97), .val (.ref b202), .val (.int (Int32.ofNat kx)), .val (.ref (f kx)), .val (.int (own_lo kx)), .val (.int (own_hi kx)), .val (.int (p1 &&& (7 : Int32))), .val (.int (-32768 : Int32)), .unset] [])) _
              refine XS.goto XH331.here hx rfl (pc0 := 307) (pc' := 328) rfl (hb hby at_307) (by decide) (by decide) ?_
              exact k
            · simp only [if_neg hq340] at k
              show Steps p.tables e below (T331.setTop (mkF m 299 #[.val (.int p0), .val (.int p1), .val (.int p2), .val (.ref b97), .val (.ref b202), .val (.int (Int32.ofNat kx)), .val (.ref (f kx)), .val (.int (own_lo kx)), .val (.int (own_hi kx)), .val (.int (p1 &&& (7 : Int32))), .unset, .unset] [(.int (4 : Int32)), (.int (p1 &&& (7 : Int32)))])) _
              refine XS.icmpYes XH331.here hx rfl (pc0 := 299) (pc' := 310) rfl (hb hby at_299) rfl (feq hq340).2 (by decide) (by decide) ?_
              show Steps p.tables e below (T331.setTop (mkF m 310 #[.val (.int p0), .val (.int p1), .val (.int p2), .val (.ref b97), .val (.ref b202), .val (.int (Int32.ofNat kx)), .val (.ref (f kx)), .val (.int (own_lo kx)), .val (.int (own_hi kx)), .val (.int (p1 &&& (7 : Int32))), .unset, .unset] [])) _
              refine XS.iload XH331.here hx rfl (hb hby at_310) rfl ?_
              show Steps p.tables e below (T331.setTop (mkF m 312 #[.val (.int p0), .val (.int p1), .val (.int p2), .val (.ref b97), .val (.ref b202), .val (.int (Int32.ofNat kx)), .val (.ref (f kx)), .val (.int (own_lo kx)), .val (.int (own_hi kx)), .val (.int (p1 &&& (7 : Int32))), .unset, .unset] [(.int (p1 &&& (7 : Int32)))])) _
              refine XS.iconst XH331.here hx rfl (hb hby at_312) ?_
              by_cases hq341 : (p1 &&& (7 : Int32)) = (5 : Int32)
              · simp only [if_pos hq341] at k
                show Steps p.tables e below (T331.setTop (mkF m 313 #[.val (.int p0), .val (.int p1), .val (.int p2), .val (.ref b97), .val (.ref b202), .val (.int (Int32.ofNat kx)), .val (.ref (f kx)), .val (.int (own_lo kx)), .val (.int (own_hi kx)), .val (.int (p1 &&& (7 : Int32))), .unset, .unset] [(.int (5 : Int32)), (.int (p1 &&& (7 : Int32)))])) _
                refine XS.icmpNo XH331.here hx rfl (hb hby at_313) rfl (teq hq341).2 ?_
                show Steps p.tables e below (T331.setTop (mkF m 316 #[.val (.int p0), .val (.int p1), .val (.int p2), .val (.ref b97), .val (.ref b202), .val (.int (Int32.ofNat kx)), .val (.ref (f kx)), .val (.int (own_lo kx)), .val (.int (own_hi kx)), .val (.int (p1 &&& (7 : Int32))), .unset, .unset] [])) _
                refine XS.sipush XH331.here hx rfl (hb hby at_316) ?_
                show Steps p.tables e below (T331.setTop (mkF m 319 #[.val (.int p0), .val (.int p1), .val (.int p2), .val (.ref b97), .val (.ref b202), .val (.int (Int32.ofNat kx)), .val (.ref (f kx)), .val (.int (own_lo kx)), .val (.int (own_hi kx)), .val (.int (p1 &&& (7 : Int32))), .unset, .unset] [(.int (32767 : Int32))])) _
                refine XS.istore XH331.here hx rfl (hb hby at_319) rfl (l' := #[.val (.int p0), .val (.int p1), .val (.int p2), .val (.ref b97), .val (.ref b202), .val (.int (Int32.ofNat kx)), .val (.ref (f kx)), .val (.int (own_lo kx)), .val (.int (own_hi kx)), .val (.int (p1 &&& (7 : Int32))), .val (.int (32767 : Int32)), .unset]) rfl ?_
                show Steps p.tables e below (T331.setTop (mkF m 321 #[.val (.int p0), .val (.int p1), .val (.int p2), .val (.ref b97), .val (.ref b202), .val (.int (Int32.ofNat kx)), .val (.ref (f kx)), .val (.int (own_lo kx)), .val (.int (own_hi kx)), .val (.int (p1 &&& (7 : Int32))), .val (.int (32767 : Int32)), .unset] [])) _
                refine XS.goto XH331.here hx rfl (pc0 := 321) (pc' := 328) rfl (hb hby at_321) (by decide) (by decide) ?_
                exact k
              · simp only [if_neg hq341] at k
                show Steps p.tables e below (T331.setTop (mkF m 313 #[.val (.int p0), .val (.int p1), .val (.int p2), .val (.ref b97), .val (.ref b202), .val (.int (Int32.ofNat kx)), .val (.ref (f kx)), .val (.int (own_lo kx)), .val (.int (own_hi kx)), .val (.int (p1 &&& (7 : Int32))), .unset, .unset] [(.int (5 : Int32)), (.int (p1 &&& (7 : Int32)))])) _
                refine XS.icmpYes XH331.here hx rfl (pc0 := 313) (pc' := 324) rfl (hb hby at_313) rfl (feq hq341).2 (by decide) (by decide) ?_
                show Steps p.tables e below (T331.setTop (mkF m 324 #[.val (.int p0), .val (.int p1), .val (.int p2), .val (.ref b97), .val (.ref b202), .val (.int (Int32.ofNat kx)), .val (.ref (f kx)), .val (.int (own_lo kx)), .val (.int (own_hi kx)), .val (.int (p1 &&& (7 : Int32))), .unset, .unset] [])) _
                refine XS.iloadN XH331.here hx rfl (hb hby at_324) rfl ?_
                show Steps p.tables e below (T331.setTop (mkF m 325 #[.val (.int p0), .val (.int p1), .val (.int p2), .val (.ref b97), .val (.ref b202), .val (.int (Int32.ofNat kx)), .val (.ref (f kx)), .val (.int (own_lo kx)), .val (.int (own_hi kx)), .val (.int (p1 &&& (7 : Int32))), .unset, .unset] [(.int p2)])) _
                refine XS.i2s XH331.here hx rfl (hb hby at_325) rfl ?_
                show Steps p.tables e below (T331.setTop (mkF m 326 #[.val (.int p0), .val (.int p1), .val (.int p2), .val (.ref b97), .val (.ref b202), .val (.int (Int32.ofNat kx)), .val (.ref (f kx)), .val (.int (own_lo kx)), .val (.int (own_hi kx)), .val (.int (p1 &&& (7 : Int32))), .unset, .unset] [(.int (p2.toInt16.toInt32))])) _
                refine XS.istore XH331.here hx rfl (hb hby at_326) rfl (l' := #[.val (.int p0), .val (.int p1), .val (.int p2), .val (.ref b97), .val (.ref b202), .val (.int (Int32.ofNat kx)), .val (.ref (f kx)), .val (.int (own_lo kx)), .val (.int (own_hi kx)), .val (.int (p1 &&& (7 : Int32))), .val (.int (p2.toInt16.toInt32)), .unset]) rfl ?_
                exact k)
  have k343 : ∀ t, Steps p.tables e below (T331.setTop (mkF m 332 #[.val (.int p0), .val (.int p1), .val (.int p2), .val (.ref b97), .val (.ref b202), .val (.int (Int32.ofNat kx)), .val (.ref (f kx)), .val (.int (own_lo kx)), .val (.int (own_hi kx)), .val (.int (p1 &&& (7 : Int32))), .val (.int (if (p1 &&& (7 : Int32)) = (0 : Int32) then (((own_lo kx) - (1 : Int32)).toInt16.toInt32) else (if (p1 &&& (7 : Int32)) = (1 : Int32) then ((own_lo kx).toInt16.toInt32) else (if (p1 &&& (7 : Int32)) = (2 : Int32) then ((own_hi kx).toInt16.toInt32) else (if (p1 &&& (7 : Int32)) = (3 : Int32) then (((own_hi kx) + (1 : Int32)).toInt16.toInt32) else (if (p1 &&& (7 : Int32)) = (4 : Int32) then (-32768 : Int32) else (if (p1 &&& (7 : Int32)) = (5 : Int32) then (32767 : Int32) else (p2.toInt16.toInt32)))))))), .unset] [(.int (own_lo kx)), (.int (if (p1 &&& (7 : Int32)) = (0 : Int32) then (((own_lo kx) - (1 : Int32)).toInt16.toInt32) else (if (p1 &&& (7 : Int32)) = (1 : Int32) then ((own_lo kx).toInt16.toInt32) else (if (p1 &&& (7 : Int32)) = (2 : Int32) then ((own_hi kx).toInt16.toInt32) else (if (p1 &&& (7 : Int32)) = (3 : Int32) then (((own_hi kx) + (1 : Int32)).toInt16.toInt32) else (if (p1 &&& (7 : Int32)) = (4 : Int32) then (-32768 : Int32) else (if (p1 &&& (7 : Int32)) = (5 : Int32) then (32767 : Int32) else (p2.toInt16.toInt32))))))))])) t → Steps p.tables e below (s₁.setTop (entryFrame m #[(.int p0), (.int p1), (.int p2)] maxLocals)) t := fun t k => k342 t (by
    show Steps p.tables e below (T331.setTop (mkF m 328 #[.val (.int p0), .val (.int p1), .val (.int p2), .val (.ref b97), .val (.ref b202), .val (.int (Int32.ofNat kx)), .val (.ref (f kx)), .val (.int (own_lo kx)), .val (.int (own_hi kx)), .val (.int (p1 &&& (7 : Int32))), .val (.int (if (p1 &&& (7 : Int32)) = (0 : Int32) then (((own_lo kx) - (1 : Int32)).toInt16.toInt32) else (if (p1 &&& (7 : Int32)) = (1 : Int32) then ((own_lo kx).toInt16.toInt32) else (if (p1 &&& (7 : Int32)) = (2 : Int32) then ((own_hi kx).toInt16.toInt32) else (if (p1 &&& (7 : Int32)) = (3 : Int32) then (((own_hi kx) + (1 : Int32)).toInt16.toInt32) else (if (p1 &&& (7 : Int32)) = (4 : Int32) then (-32768 : Int32) else (if (p1 &&& (7 : Int32)) = (5 : Int32) then (32767 : Int32) else (p2.toInt16.toInt32)))))))), .unset] [])) _
    refine XS.iload XH331.here hx rfl (hb hby at_328) rfl ?_
    show Steps p.tables e below (T331.setTop (mkF m 330 #[.val (.int p0), .val (.int p1), .val (.int p2), .val (.ref b97), .val (.ref b202), .val (.int (Int32.ofNat kx)), .val (.ref (f kx)), .val (.int (own_lo kx)), .val (.int (own_hi kx)), .val (.int (p1 &&& (7 : Int32))), .val (.int (if (p1 &&& (7 : Int32)) = (0 : Int32) then (((own_lo kx) - (1 : Int32)).toInt16.toInt32) else (if (p1 &&& (7 : Int32)) = (1 : Int32) then ((own_lo kx).toInt16.toInt32) else (if (p1 &&& (7 : Int32)) = (2 : Int32) then ((own_hi kx).toInt16.toInt32) else (if (p1 &&& (7 : Int32)) = (3 : Int32) then (((own_hi kx) + (1 : Int32)).toInt16.toInt32) else (if (p1 &&& (7 : Int32)) = (4 : Int32) then (-32768 : Int32) else (if (p1 &&& (7 : Int32)) = (5 : Int32) then (32767 : Int32) else (p2.toInt16.toInt32)))))))), .unset] [(.int (if (p1 &&& (7 : Int32)) = (0 : Int32) then (((own_lo kx) - (1 : Int32)).toInt16.toInt32) else (if (p1 &&& (7 : Int32)) = (1 : Int32) then ((own_lo kx).toInt16.toInt32) else (if (p1 &&& (7 : Int32)) = (2 : Int32) then ((own_hi kx).toInt16.toInt32) else (if (p1 &&& (7 : Int32)) = (3 : Int32) then (((own_hi kx) + (1 : Int32)).toInt16.toInt32) else (if (p1 &&& (7 : Int32)) = (4 : Int32) then (-32768 : Int32) else (if (p1 &&& (7 : Int32)) = (5 : Int32) then (32767 : Int32) else (p2.toInt16.toInt32))))))))])) _
    refine XS.iload XH331.here hx rfl (hb hby at_330) rfl ?_
    exact k)
  have k346 : ∀ t, Steps p.tables e below (T331.setTop (mkF m 347 #[.val (.int p0), .val (.int p1), .val (.int p2), .val (.ref b97), .val (.ref b202), .val (.int (Int32.ofNat kx)), .val (.ref (f kx)), .val (.int (own_lo kx)), .val (.int (own_hi kx)), .val (.int (p1 &&& (7 : Int32))), .val (.int (if (p1 &&& (7 : Int32)) = (0 : Int32) then (((own_lo kx) - (1 : Int32)).toInt16.toInt32) else (if (p1 &&& (7 : Int32)) = (1 : Int32) then ((own_lo kx).toInt16.toInt32) else (if (p1 &&& (7 : Int32)) = (2 : Int32) then ((own_hi kx).toInt16.toInt32) else (if (p1 &&& (7 : Int32)) = (3 : Int32) then (((own_hi kx) + (1 : Int32)).toInt16.toInt32) else (if (p1 &&& (7 : Int32)) = (4 : Int32) then (-32768 : Int32) else (if (p1 &&& (7 : Int32)) = (5 : Int32) then (32767 : Int32) else (p2.toInt16.toInt32)))))))), .unset] [(.int (if (if (p1 &&& (7 : Int32)) = (0 : Int32) then (((own_lo kx) - (1 : Int32)).toInt16.toInt32) else (if (p1 &&& (7 : Int32)) = (1 : Int32) then ((own_lo kx).toInt16.toInt32) else (if (p1 &&& (7 : Int32)) = (2 : Int32) then ((own_hi kx).toInt16.toInt32) else (if (p1 &&& (7 : Int32)) = (3 : Int32) then (((own_hi kx) + (1 : Int32)).toInt16.toInt32) else (if (p1 &&& (7 : Int32)) = (4 : Int32) then (-32768 : Int32) else (if (p1 &&& (7 : Int32)) = (5 : Int32) then (32767 : Int32) else (p2.toInt16.toInt32))))))) < (own_lo kx) then (0 : Int32) else (if (own_hi kx) < (if (p1 &&& (7 : Int32)) = (0 : Int32) then (((own_lo kx) - (1 : Int32)).toInt16.toInt32) else (if (p1 &&& (7 : Int32)) = (1 : Int32) then ((own_lo kx).toInt16.toInt32) else (if (p1 &&& (7 : Int32)) = (2 : Int32) then ((own_hi kx).toInt16.toInt32) else (if (p1 &&& (7 : Int32)) = (3 : Int32) then (((own_hi kx) + (1 : Int32)).toInt16.toInt32) else (if (p1 &&& (7 : Int32)) = (4 : Int32) then (-32768 : Int32) else (if (p1 &&& (7 : Int32)) = (5 : Int32) then (32767 : Int32) else (p2.toInt16.toInt32))))))) then (0 : Int32) else (1 : Int32))))])) t → Steps p.tables e below (s₁.setTop (entryFrame m #[(.int p0), (.int p1), (.int p2)] maxLocals)) t := fun t k => k343 t (by
    by_cases hq344 : (if (p1 &&& (7 : Int32)) = (0 : Int32) then (((own_lo kx) - (1 : Int32)).toInt16.toInt32) else (if (p1 &&& (7 : Int32)) = (1 : Int32) then ((own_lo kx).toInt16.toInt32) else (if (p1 &&& (7 : Int32)) = (2 : Int32) then ((own_hi kx).toInt16.toInt32) else (if (p1 &&& (7 : Int32)) = (3 : Int32) then (((own_hi kx) + (1 : Int32)).toInt16.toInt32) else (if (p1 &&& (7 : Int32)) = (4 : Int32) then (-32768 : Int32) else (if (p1 &&& (7 : Int32)) = (5 : Int32) then (32767 : Int32) else (p2.toInt16.toInt32))))))) < (own_lo kx)
    · simp only [if_pos hq344] at k
      show Steps p.tables e below (T331.setTop (mkF m 332 #[.val (.int p0), .val (.int p1), .val (.int p2), .val (.ref b97), .val (.ref b202), .val (.int (Int32.ofNat kx)), .val (.ref (f kx)), .val (.int (own_lo kx)), .val (.int (own_hi kx)), .val (.int (p1 &&& (7 : Int32))), .val (.int (if (p1 &&& (7 : Int32)) = (0 : Int32) then (((own_lo kx) - (1 : Int32)).toInt16.toInt32) else (if (p1 &&& (7 : Int32)) = (1 : Int32) then ((own_lo kx).toInt16.toInt32) else (if (p1 &&& (7 : Int32)) = (2 : Int32) then ((own_hi kx).toInt16.toInt32) else (if (p1 &&& (7 : Int32)) = (3 : Int32) then (((own_hi kx) + (1 : Int32)).toInt16.toInt32) else (if (p1 &&& (7 : Int32)) = (4 : Int32) then (-32768 : Int32) else (if (p1 &&& (7 : Int32)) = (5 : Int32) then (32767 : Int32) else (p2.toInt16.toInt32)))))))), .unset] [(.int (own_lo kx)), (.int (if (p1 &&& (7 : Int32)) = (0 : Int32) then (((own_lo kx) - (1 : Int32)).toInt16.toInt32) else (if (p1 &&& (7 : Int32)) = (1 : Int32) then ((own_lo kx).toInt16.toInt32) else (if (p1 &&& (7 : Int32)) = (2 : Int32) then ((own_hi kx).toInt16.toInt32) else (if (p1 &&& (7 : Int32)) = (3 : Int32) then (((own_hi kx) + (1 : Int32)).toInt16.toInt32) else (if (p1 &&& (7 : Int32)) = (4 : Int32) then (-32768 : Int32) else (if (p1 &&& (7 : Int32)) = (5 : Int32) then (32767 : Int32) else (p2.toInt16.toInt32))))))))])) _
      refine XS.icmpYes XH331.here hx rfl (pc0 := 332) (pc' := 346) rfl (hb hby at_332) rfl (tlt hq344).1 (by decide) (by decide) ?_
      show Steps p.tables e below (T331.setTop (mkF m 346 #[.val (.int p0), .val (.int p1), .val (.int p2), .val (.ref b97), .val (.ref b202), .val (.int (Int32.ofNat kx)), .val (.ref (f kx)), .val (.int (own_lo kx)), .val (.int (own_hi kx)), .val (.int (p1 &&& (7 : Int32))), .val (.int (if (p1 &&& (7 : Int32)) = (0 : Int32) then (((own_lo kx) - (1 : Int32)).toInt16.toInt32) else (if (p1 &&& (7 : Int32)) = (1 : Int32) then ((own_lo kx).toInt16.toInt32) else (if (p1 &&& (7 : Int32)) = (2 : Int32) then ((own_hi kx).toInt16.toInt32) else (if (p1 &&& (7 : Int32)) = (3 : Int32) then (((own_hi kx) + (1 : Int32)).toInt16.toInt32) else (if (p1 &&& (7 : Int32)) = (4 : Int32) then (-32768 : Int32) else (if (p1 &&& (7 : Int32)) = (5 : Int32) then (32767 : Int32) else (p2.toInt16.toInt32)))))))), .unset] [])) _
      refine XS.iconst XH331.here hx rfl (hb hby at_346) ?_
      exact k
    · simp only [if_neg hq344] at k
      show Steps p.tables e below (T331.setTop (mkF m 332 #[.val (.int p0), .val (.int p1), .val (.int p2), .val (.ref b97), .val (.ref b202), .val (.int (Int32.ofNat kx)), .val (.ref (f kx)), .val (.int (own_lo kx)), .val (.int (own_hi kx)), .val (.int (p1 &&& (7 : Int32))), .val (.int (if (p1 &&& (7 : Int32)) = (0 : Int32) then (((own_lo kx) - (1 : Int32)).toInt16.toInt32) else (if (p1 &&& (7 : Int32)) = (1 : Int32) then ((own_lo kx).toInt16.toInt32) else (if (p1 &&& (7 : Int32)) = (2 : Int32) then ((own_hi kx).toInt16.toInt32) else (if (p1 &&& (7 : Int32)) = (3 : Int32) then (((own_hi kx) + (1 : Int32)).toInt16.toInt32) else (if (p1 &&& (7 : Int32)) = (4 : Int32) then (-32768 : Int32) else (if (p1 &&& (7 : Int32)) = (5 : Int32) then (32767 : Int32) else (p2.toInt16.toInt32)))))))), .unset] [(.int (own_lo kx)), (.int (if (p1 &&& (7 : Int32)) = (0 : Int32) then (((own_lo kx) - (1 : Int32)).toInt16.toInt32) else (if (p1 &&& (7 : Int32)) = (1 : Int32) then ((own_lo kx).toInt16.toInt32) else (if (p1 &&& (7 : Int32)) = (2 : Int32) then ((own_hi kx).toInt16.toInt32) else (if (p1 &&& (7 : Int32)) = (3 : Int32) then (((own_hi kx) + (1 : Int32)).toInt16.toInt32) else (if (p1 &&& (7 : Int32)) = (4 : Int32) then (-32768 : Int32) else (if (p1 &&& (7 : Int32)) = (5 : Int32) then (32767 : Int32) else (p2.toInt16.toInt32))))))))])) _
      refine XS.icmpNo XH331.here hx rfl (hb hby at_332) rfl (flt hq344).1 ?_
      show Steps p.tables e below (T331.setTop (mkF m 335 #[.val (.int p0), .val (.int p1), .val (.int p2), .val (.ref b97), .val (.ref b202), .val (.int (Int32.ofNat kx)), .val (.ref (f kx)), .val (.int (own_lo kx)), .val (.int (own_hi kx)), .val (.int (p1 &&& (7 : Int32))), .val (.int (if (p1 &&& (7 : Int32)) = (0 : Int32) then (((own_lo kx) - (1 : Int32)).toInt16.toInt32) else (if (p1 &&& (7 : Int32)) = (1 : Int32) then ((own_lo kx).toInt16.toInt32) else (if (p1 &&& (7 : Int32)) = (2 : Int32) then ((own_hi kx).toInt16.toInt32) else (if (p1 &&& (7 : Int32)) = (3 : Int32) then (((own_hi kx) + (1 : Int32)).toInt16.toInt32) else (if (p1 &&& (7 : Int32)) = (4 : Int32) then (-32768 : Int32) else (if (p1 &&& (7 : Int32)) = (5 : Int32) then (32767 : Int32) else (p2.toInt16.toInt32)))))))), .unset] [])) _
      refine XS.iload XH331.here hx rfl (hb hby at_335) rfl ?_
      show Steps p.tables e below (T331.setTop (mkF m 337 #[.val (.int p0), .val (.int p1), .val (.int p2), .val (.ref b97), .val (.ref b202), .val (.int (Int32.ofNat kx)), .val (.ref (f kx)), .val (.int (own_lo kx)), .val (.int (own_hi kx)), .val (.int (p1 &&& (7 : Int32))), .val (.int (if (p1 &&& (7 : Int32)) = (0 : Int32) then (((own_lo kx) - (1 : Int32)).toInt16.toInt32) else (if (p1 &&& (7 : Int32)) = (1 : Int32) then ((own_lo kx).toInt16.toInt32) else (if (p1 &&& (7 : Int32)) = (2 : Int32) then ((own_hi kx).toInt16.toInt32) else (if (p1 &&& (7 : Int32)) = (3 : Int32) then (((own_hi kx) + (1 : Int32)).toInt16.toInt32) else (if (p1 &&& (7 : Int32)) = (4 : Int32) then (-32768 : Int32) else (if (p1 &&& (7 : Int32)) = (5 : Int32) then (32767 : Int32) else (p2.toInt16.toInt32)))))))), .unset] [(.int (if (p1 &&& (7 : Int32)) = (0 : Int32) then (((own_lo kx) - (1 : Int32)).toInt16.toInt32) else (if (p1 &&& (7 : Int32)) = (1 : Int32) then ((own_lo kx).toInt16.toInt32) else (if (p1 &&& (7 : Int32)) = (2 : Int32) then ((own_hi kx).toInt16.toInt32) else (if (p1 &&& (7 : Int32)) = (3 : Int32) then (((own_hi kx) + (1 : Int32)).toInt16.toInt32) else (if (p1 &&& (7 : Int32)) = (4 : Int32) then (-32768 : Int32) else (if (p1 &&& (7 : Int32)) = (5 : Int32) then (32767 : Int32) else (p2.toInt16.toInt32))))))))])) _
      refine XS.iload XH331.here hx rfl (hb hby at_337) rfl ?_
      by_cases hq345 : (own_hi kx) < (if (p1 &&& (7 : Int32)) = (0 : Int32) then (((own_lo kx) - (1 : Int32)).toInt16.toInt32) else (if (p1 &&& (7 : Int32)) = (1 : Int32) then ((own_lo kx).toInt16.toInt32) else (if (p1 &&& (7 : Int32)) = (2 : Int32) then ((own_hi kx).toInt16.toInt32) else (if (p1 &&& (7 : Int32)) = (3 : Int32) then (((own_hi kx) + (1 : Int32)).toInt16.toInt32) else (if (p1 &&& (7 : Int32)) = (4 : Int32) then (-32768 : Int32) else (if (p1 &&& (7 : Int32)) = (5 : Int32) then (32767 : Int32) else (p2.toInt16.toInt32)))))))
      · simp only [if_pos hq345] at k
        show Steps p.tables e below (T331.setTop (mkF m 339 #[.val (.int p0), .val (.int p1), .val (.int p2), .val (.ref b97), .val (.ref b202), .val (.int (Int32.ofNat kx)), .val (.ref (f kx)), .val (.int (own_lo kx)), .val (.int (own_hi kx)), .val (.int (p1 &&& (7 : Int32))), .val (.int (if (p1 &&& (7 : Int32)) = (0 : Int32) then (((own_lo kx) - (1 : Int32)).toInt16.toInt32) else (if (p1 &&& (7 : Int32)) = (1 : Int32) then ((own_lo kx).toInt16.toInt32) else (if (p1 &&& (7 : Int32)) = (2 : Int32) then ((own_hi kx).toInt16.toInt32) else (if (p1 &&& (7 : Int32)) = (3 : Int32) then (((own_hi kx) + (1 : Int32)).toInt16.toInt32) else (if (p1 &&& (7 : Int32)) = (4 : Int32) then (-32768 : Int32) else (if (p1 &&& (7 : Int32)) = (5 : Int32) then (32767 : Int32) else (p2.toInt16.toInt32)))))))), .unset] [(.int (own_hi kx)), (.int (if (p1 &&& (7 : Int32)) = (0 : Int32) then (((own_lo kx) - (1 : Int32)).toInt16.toInt32) else (if (p1 &&& (7 : Int32)) = (1 : Int32) then ((own_lo kx).toInt16.toInt32) else (if (p1 &&& (7 : Int32)) = (2 : Int32) then ((own_hi kx).toInt16.toInt32) else (if (p1 &&& (7 : Int32)) = (3 : Int32) then (((own_hi kx) + (1 : Int32)).toInt16.toInt32) else (if (p1 &&& (7 : Int32)) = (4 : Int32) then (-32768 : Int32) else (if (p1 &&& (7 : Int32)) = (5 : Int32) then (32767 : Int32) else (p2.toInt16.toInt32))))))))])) _
        refine XS.icmpYes XH331.here hx rfl (pc0 := 339) (pc' := 346) rfl (hb hby at_339) rfl (tlt hq345).2.2.1 (by decide) (by decide) ?_
        show Steps p.tables e below (T331.setTop (mkF m 346 #[.val (.int p0), .val (.int p1), .val (.int p2), .val (.ref b97), .val (.ref b202), .val (.int (Int32.ofNat kx)), .val (.ref (f kx)), .val (.int (own_lo kx)), .val (.int (own_hi kx)), .val (.int (p1 &&& (7 : Int32))), .val (.int (if (p1 &&& (7 : Int32)) = (0 : Int32) then (((own_lo kx) - (1 : Int32)).toInt16.toInt32) else (if (p1 &&& (7 : Int32)) = (1 : Int32) then ((own_lo kx).toInt16.toInt32) else (if (p1 &&& (7 : Int32)) = (2 : Int32) then ((own_hi kx).toInt16.toInt32) else (if (p1 &&& (7 : Int32)) = (3 : Int32) then (((own_hi kx) + (1 : Int32)).toInt16.toInt32) else (if (p1 &&& (7 : Int32)) = (4 : Int32) then (-32768 : Int32) else (if (p1 &&& (7 : Int32)) = (5 : Int32) then (32767 : Int32) else (p2.toInt16.toInt32)))))))), .unset] [])) _
        refine XS.iconst XH331.here hx rfl (hb hby at_346) ?_
        exact k
      · simp only [if_neg hq345] at k
        show Steps p.tables e below (T331.setTop (mkF m 339 #[.val (.int p0), .val (.int p1), .val (.int p2), .val (.ref b97), .val (.ref b202), .val (.int (Int32.ofNat kx)), .val (.ref (f kx)), .val (.int (own_lo kx)), .val (.int (own_hi kx)), .val (.int (p1 &&& (7 : Int32))), .val (.int (if (p1 &&& (7 : Int32)) = (0 : Int32) then (((own_lo kx) - (1 : Int32)).toInt16.toInt32) else (if (p1 &&& (7 : Int32)) = (1 : Int32) then ((own_lo kx).toInt16.toInt32) else (if (p1 &&& (7 : Int32)) = (2 : Int32) then ((own_hi kx).toInt16.toInt32) else (if (p1 &&& (7 : Int32)) = (3 : Int32) then (((own_hi kx) + (1 : Int32)).toInt16.toInt32) else (if (p1 &&& (7 : Int32)) = (4 : Int32) then (-32768 : Int32) else (if (p1 &&& (7 : Int32)) = (5 : Int32) then (32767 : Int32) else (p2.toInt16.toInt32)))))))), .unset] [(.int (own_hi kx)), (.int (if (p1 &&& (7 : Int32)) = (0 : Int32) then (((own_lo kx) - (1 : Int32)).toInt16.toInt32) else (if (p1 &&& (7 : Int32)) = (1 : Int32) then ((own_lo kx).toInt16.toInt32) else (if (p1 &&& (7 : Int32)) = (2 : Int32) then ((own_hi kx).toInt16.toInt32) else (if (p1 &&& (7 : Int32)) = (3 : Int32) then (((own_hi kx) + (1 : Int32)).toInt16.toInt32) else (if (p1 &&& (7 : Int32)) = (4 : Int32) then (-32768 : Int32) else (if (p1 &&& (7 : Int32)) = (5 : Int32) then (32767 : Int32) else (p2.toInt16.toInt32))))))))])) _
        refine XS.icmpNo XH331.here hx rfl (hb hby at_339) rfl (flt hq345).2.2.1 ?_
        show Steps p.tables e below (T331.setTop (mkF m 342 #[.val (.int p0), .val (.int p1), .val (.int p2), .val (.ref b97), .val (.ref b202), .val (.int (Int32.ofNat kx)), .val (.ref (f kx)), .val (.int (own_lo kx)), .val (.int (own_hi kx)), .val (.int (p1 &&& (7 : Int32))), .val (.int (if (p1 &&& (7 : Int32)) = (0 : Int32) then (((own_lo kx) - (1 : Int32)).toInt16.toInt32) else (if (p1 &&& (7 : Int32)) = (1 : Int32) then ((own_lo kx).toInt16.toInt32) else (if (p1 &&& (7 : Int32)) = (2 : Int32) then ((own_hi kx).toInt16.toInt32) else (if (p1 &&& (7 : Int32)) = (3 : Int32) then (((own_hi kx) + (1 : Int32)).toInt16.toInt32) else (if (p1 &&& (7 : Int32)) = (4 : Int32) then (-32768 : Int32) else (if (p1 &&& (7 : Int32)) = (5 : Int32) then (32767 : Int32) else (p2.toInt16.toInt32)))))))), .unset] [])) _
        refine XS.iconst XH331.here hx rfl (hb hby at_342) ?_
        show Steps p.tables e below (T331.setTop (mkF m 343 #[.val (.int p0), .val (.int p1), .val (.int p2), .val (.ref b97), .val (.ref b202), .val (.int (Int32.ofNat kx)), .val (.ref (f kx)), .val (.int (own_lo kx)), .val (.int (own_hi kx)), .val (.int (p1 &&& (7 : Int32))), .val (.int (if (p1 &&& (7 : Int32)) = (0 : Int32) then (((own_lo kx) - (1 : Int32)).toInt16.toInt32) else (if (p1 &&& (7 : Int32)) = (1 : Int32) then ((own_lo kx).toInt16.toInt32) else (if (p1 &&& (7 : Int32)) = (2 : Int32) then ((own_hi kx).toInt16.toInt32) else (if (p1 &&& (7 : Int32)) = (3 : Int32) then (((own_hi kx) + (1 : Int32)).toInt16.toInt32) else (if (p1 &&& (7 : Int32)) = (4 : Int32) then (-32768 : Int32) else (if (p1 &&& (7 : Int32)) = (5 : Int32) then (32767 : Int32) else (p2.toInt16.toInt32)))))))), .unset] [(.int (1 : Int32))])) _
        refine XS.goto XH331.here hx rfl (pc0 := 343) (pc' := 347) rfl (hb hby at_343) (by decide) (by decide) ?_
        exact k)
  have k347 : ∀ t, Steps p.tables e below (T331.setTop (mkF m 353 #[.val (.int p0), .val (.int p1), .val (.int p2), .val (.ref b97), .val (.ref b202), .val (.int (Int32.ofNat kx)), .val (.ref (f kx)), .val (.int (own_lo kx)), .val (.int (own_hi kx)), .val (.int (p1 &&& (7 : Int32))), .val (.int (if (p1 &&& (7 : Int32)) = (0 : Int32) then (((own_lo kx) - (1 : Int32)).toInt16.toInt32) else (if (p1 &&& (7 : Int32)) = (1 : Int32) then ((own_lo kx).toInt16.toInt32) else (if (p1 &&& (7 : Int32)) = (2 : Int32) then ((own_hi kx).toInt16.toInt32) else (if (p1 &&& (7 : Int32)) = (3 : Int32) then (((own_hi kx) + (1 : Int32)).toInt16.toInt32) else (if (p1 &&& (7 : Int32)) = (4 : Int32) then (-32768 : Int32) else (if (p1 &&& (7 : Int32)) = (5 : Int32) then (32767 : Int32) else (p2.toInt16.toInt32)))))))), .val (.int (if (if (p1 &&& (7 : Int32)) = (0 : Int32) then (((own_lo kx) - (1 : Int32)).toInt16.toInt32) else (if (p1 &&& (7 : Int32)) = (1 : Int32) then ((own_lo kx).toInt16.toInt32) else (if (p1 &&& (7 : Int32)) = (2 : Int32) then ((own_hi kx).toInt16.toInt32) else (if (p1 &&& (7 : Int32)) = (3 : Int32) then (((own_hi kx) + (1 : Int32)).toInt16.toInt32) else (if (p1 &&& (7 : Int32)) = (4 : Int32) then (-32768 : Int32) else (if (p1 &&& (7 : Int32)) = (5 : Int32) then (32767 : Int32) else (p2.toInt16.toInt32))))))) < (own_lo kx) then (0 : Int32) else (if (own_hi kx) < (if (p1 &&& (7 : Int32)) = (0 : Int32) then (((own_lo kx) - (1 : Int32)).toInt16.toInt32) else (if (p1 &&& (7 : Int32)) = (1 : Int32) then ((own_lo kx).toInt16.toInt32) else (if (p1 &&& (7 : Int32)) = (2 : Int32) then ((own_hi kx).toInt16.toInt32) else (if (p1 &&& (7 : Int32)) = (3 : Int32) then (((own_hi kx) + (1 : Int32)).toInt16.toInt32) else (if (p1 &&& (7 : Int32)) = (4 : Int32) then (-32768 : Int32) else (if (p1 &&& (7 : Int32)) = (5 : Int32) then (32767 : Int32) else (p2.toInt16.toInt32))))))) then (0 : Int32) else (1 : Int32))))] [(.int (if (p1 &&& (7 : Int32)) = (0 : Int32) then (((own_lo kx) - (1 : Int32)).toInt16.toInt32) else (if (p1 &&& (7 : Int32)) = (1 : Int32) then ((own_lo kx).toInt16.toInt32) else (if (p1 &&& (7 : Int32)) = (2 : Int32) then ((own_hi kx).toInt16.toInt32) else (if (p1 &&& (7 : Int32)) = (3 : Int32) then (((own_hi kx) + (1 : Int32)).toInt16.toInt32) else (if (p1 &&& (7 : Int32)) = (4 : Int32) then (-32768 : Int32) else (if (p1 &&& (7 : Int32)) = (5 : Int32) then (32767 : Int32) else (p2.toInt16.toInt32)))))))), (.ref (f kx))])) t → Steps p.tables e below (s₁.setTop (entryFrame m #[(.int p0), (.int p1), (.int p2)] maxLocals)) t := fun t k => k346 t (by
    show Steps p.tables e below (T331.setTop (mkF m 347 #[.val (.int p0), .val (.int p1), .val (.int p2), .val (.ref b97), .val (.ref b202), .val (.int (Int32.ofNat kx)), .val (.ref (f kx)), .val (.int (own_lo kx)), .val (.int (own_hi kx)), .val (.int (p1 &&& (7 : Int32))), .val (.int (if (p1 &&& (7 : Int32)) = (0 : Int32) then (((own_lo kx) - (1 : Int32)).toInt16.toInt32) else (if (p1 &&& (7 : Int32)) = (1 : Int32) then ((own_lo kx).toInt16.toInt32) else (if (p1 &&& (7 : Int32)) = (2 : Int32) then ((own_hi kx).toInt16.toInt32) else (if (p1 &&& (7 : Int32)) = (3 : Int32) then (((own_hi kx) + (1 : Int32)).toInt16.toInt32) else (if (p1 &&& (7 : Int32)) = (4 : Int32) then (-32768 : Int32) else (if (p1 &&& (7 : Int32)) = (5 : Int32) then (32767 : Int32) else (p2.toInt16.toInt32)))))))), .unset] [(.int (if (if (p1 &&& (7 : Int32)) = (0 : Int32) then (((own_lo kx) - (1 : Int32)).toInt16.toInt32) else (if (p1 &&& (7 : Int32)) = (1 : Int32) then ((own_lo kx).toInt16.toInt32) else (if (p1 &&& (7 : Int32)) = (2 : Int32) then ((own_hi kx).toInt16.toInt32) else (if (p1 &&& (7 : Int32)) = (3 : Int32) then (((own_hi kx) + (1 : Int32)).toInt16.toInt32) else (if (p1 &&& (7 : Int32)) = (4 : Int32) then (-32768 : Int32) else (if (p1 &&& (7 : Int32)) = (5 : Int32) then (32767 : Int32) else (p2.toInt16.toInt32))))))) < (own_lo kx) then (0 : Int32) else (if (own_hi kx) < (if (p1 &&& (7 : Int32)) = (0 : Int32) then (((own_lo kx) - (1 : Int32)).toInt16.toInt32) else (if (p1 &&& (7 : Int32)) = (1 : Int32) then ((own_lo kx).toInt16.toInt32) else (if (p1 &&& (7 : Int32)) = (2 : Int32) then ((own_hi kx).toInt16.toInt32) else (if (p1 &&& (7 : Int32)) = (3 : Int32) then (((own_hi kx) + (1 : Int32)).toInt16.toInt32) else (if (p1 &&& (7 : Int32)) = (4 : Int32) then (-32768 : Int32) else (if (p1 &&& (7 : Int32)) = (5 : Int32) then (32767 : Int32) else (p2.toInt16.toInt32))))))) then (0 : Int32) else (1 : Int32))))])) _
    refine XS.istore XH331.here hx rfl (hb hby at_347) rfl (l' := #[.val (.int p0), .val (.int p1), .val (.int p2), .val (.ref b97), .val (.ref b202), .val (.int (Int32.ofNat kx)), .val (.ref (f kx)), .val (.int (own_lo kx)), .val (.int (own_hi kx)), .val (.int (p1 &&& (7 : Int32))), .val (.int (if (p1 &&& (7 : Int32)) = (0 : Int32) then (((own_lo kx) - (1 : Int32)).toInt16.toInt32) else (if (p1 &&& (7 : Int32)) = (1 : Int32) then ((own_lo kx).toInt16.toInt32) else (if (p1 &&& (7 : Int32)) = (2 : Int32) then ((own_hi kx).toInt16.toInt32) else (if (p1 &&& (7 : Int32)) = (3 : Int32) then (((own_hi kx) + (1 : Int32)).toInt16.toInt32) else (if (p1 &&& (7 : Int32)) = (4 : Int32) then (-32768 : Int32) else (if (p1 &&& (7 : Int32)) = (5 : Int32) then (32767 : Int32) else (p2.toInt16.toInt32)))))))), .val (.int (if (if (p1 &&& (7 : Int32)) = (0 : Int32) then (((own_lo kx) - (1 : Int32)).toInt16.toInt32) else (if (p1 &&& (7 : Int32)) = (1 : Int32) then ((own_lo kx).toInt16.toInt32) else (if (p1 &&& (7 : Int32)) = (2 : Int32) then ((own_hi kx).toInt16.toInt32) else (if (p1 &&& (7 : Int32)) = (3 : Int32) then (((own_hi kx) + (1 : Int32)).toInt16.toInt32) else (if (p1 &&& (7 : Int32)) = (4 : Int32) then (-32768 : Int32) else (if (p1 &&& (7 : Int32)) = (5 : Int32) then (32767 : Int32) else (p2.toInt16.toInt32))))))) < (own_lo kx) then (0 : Int32) else (if (own_hi kx) < (if (p1 &&& (7 : Int32)) = (0 : Int32) then (((own_lo kx) - (1 : Int32)).toInt16.toInt32) else (if (p1 &&& (7 : Int32)) = (1 : Int32) then ((own_lo kx).toInt16.toInt32) else (if (p1 &&& (7 : Int32)) = (2 : Int32) then ((own_hi kx).toInt16.toInt32) else (if (p1 &&& (7 : Int32)) = (3 : Int32) then (((own_hi kx) + (1 : Int32)).toInt16.toInt32) else (if (p1 &&& (7 : Int32)) = (4 : Int32) then (-32768 : Int32) else (if (p1 &&& (7 : Int32)) = (5 : Int32) then (32767 : Int32) else (p2.toInt16.toInt32))))))) then (0 : Int32) else (1 : Int32))))]) rfl ?_
    show Steps p.tables e below (T331.setTop (mkF m 349 #[.val (.int p0), .val (.int p1), .val (.int p2), .val (.ref b97), .val (.ref b202), .val (.int (Int32.ofNat kx)), .val (.ref (f kx)), .val (.int (own_lo kx)), .val (.int (own_hi kx)), .val (.int (p1 &&& (7 : Int32))), .val (.int (if (p1 &&& (7 : Int32)) = (0 : Int32) then (((own_lo kx) - (1 : Int32)).toInt16.toInt32) else (if (p1 &&& (7 : Int32)) = (1 : Int32) then ((own_lo kx).toInt16.toInt32) else (if (p1 &&& (7 : Int32)) = (2 : Int32) then ((own_hi kx).toInt16.toInt32) else (if (p1 &&& (7 : Int32)) = (3 : Int32) then (((own_hi kx) + (1 : Int32)).toInt16.toInt32) else (if (p1 &&& (7 : Int32)) = (4 : Int32) then (-32768 : Int32) else (if (p1 &&& (7 : Int32)) = (5 : Int32) then (32767 : Int32) else (p2.toInt16.toInt32)))))))), .val (.int (if (if (p1 &&& (7 : Int32)) = (0 : Int32) then (((own_lo kx) - (1 : Int32)).toInt16.toInt32) else (if (p1 &&& (7 : Int32)) = (1 : Int32) then ((own_lo kx).toInt16.toInt32) else (if (p1 &&& (7 : Int32)) = (2 : Int32) then ((own_hi kx).toInt16.toInt32) else (if (p1 &&& (7 : Int32)) = (3 : Int32) then (((own_hi kx) + (1 : Int32)).toInt16.toInt32) else (if (p1 &&& (7 : Int32)) = (4 : Int32) then (-32768 : Int32) else (if (p1 &&& (7 : Int32)) = (5 : Int32) then (32767 : Int32) else (p2.toInt16.toInt32))))))) < (own_lo kx) then (0 : Int32) else (if (own_hi kx) < (if (p1 &&& (7 : Int32)) = (0 : Int32) then (((own_lo kx) - (1 : Int32)).toInt16.toInt32) else (if (p1 &&& (7 : Int32)) = (1 : Int32) then ((own_lo kx).toInt16.toInt32) else (if (p1 &&& (7 : Int32)) = (2 : Int32) then ((own_hi kx).toInt16.toInt32) else (if (p1 &&& (7 : Int32)) = (3 : Int32) then (((own_hi kx) + (1 : Int32)).toInt16.toInt32) else (if (p1 &&& (7 : Int32)) = (4 : Int32) then (-32768 : Int32) else (if (p1 &&& (7 : Int32)) = (5 : Int32) then (32767 : Int32) else (p2.toInt16.toInt32))))))) then (0 : Int32) else (1 : Int32))))] [])) _
    refine XS.aload XH331.here hx rfl (hb hby at_349) rfl rfl ?_
    show Steps p.tables e below (T331.setTop (mkF m 351 #[.val (.int p0), .val (.int p1), .val (.int p2), .val (.ref b97), .val (.ref b202), .val (.int (Int32.ofNat kx)), .val (.ref (f kx)), .val (.int (own_lo kx)), .val (.int (own_hi kx)), .val (.int (p1 &&& (7 : Int32))), .val (.int (if (p1 &&& (7 : Int32)) = (0 : Int32) then (((own_lo kx) - (1 : Int32)).toInt16.toInt32) else (if (p1 &&& (7 : Int32)) = (1 : Int32) then ((own_lo kx).toInt16.toInt32) else (if (p1 &&& (7 : Int32)) = (2 : Int32) then ((own_hi kx).toInt16.toInt32) else (if (p1 &&& (7 : Int32)) = (3 : Int32) then (((own_hi kx) + (1 : Int32)).toInt16.toInt32) else (if (p1 &&& (7 : Int32)) = (4 : Int32) then (-32768 : Int32) else (if (p1 &&& (7 : Int32)) = (5 : Int32) then (32767 : Int32) else (p2.toInt16.toInt32)))))))), .val (.int (if (if (p1 &&& (7 : Int32)) = (0 : Int32) then (((own_lo kx) - (1 : Int32)).toInt16.toInt32) else (if (p1 &&& (7 : Int32)) = (1 : Int32) then ((own_lo kx).toInt16.toInt32) else (if (p1 &&& (7 : Int32)) = (2 : Int32) then ((own_hi kx).toInt16.toInt32) else (if (p1 &&& (7 : Int32)) = (3 : Int32) then (((own_hi kx) + (1 : Int32)).toInt16.toInt32) else (if (p1 &&& (7 : Int32)) = (4 : Int32) then (-32768 : Int32) else (if (p1 &&& (7 : Int32)) = (5 : Int32) then (32767 : Int32) else (p2.toInt16.toInt32))))))) < (own_lo kx) then (0 : Int32) else (if (own_hi kx) < (if (p1 &&& (7 : Int32)) = (0 : Int32) then (((own_lo kx) - (1 : Int32)).toInt16.toInt32) else (if (p1 &&& (7 : Int32)) = (1 : Int32) then ((own_lo kx).toInt16.toInt32) else (if (p1 &&& (7 : Int32)) = (2 : Int32) then ((own_hi kx).toInt16.toInt32) else (if (p1 &&& (7 : Int32)) = (3 : Int32) then (((own_hi kx) + (1 : Int32)).toInt16.toInt32) else (if (p1 &&& (7 : Int32)) = (4 : Int32) then (-32768 : Int32) else (if (p1 &&& (7 : Int32)) = (5 : Int32) then (32767 : Int32) else (p2.toInt16.toInt32))))))) then (0 : Int32) else (1 : Int32))))] [(.ref (f kx))])) _
    refine XS.iload XH331.here hx rfl (hb hby at_351) rfl ?_
    exact k)
  obtain ⟨cq348, kq348, q348a, q348b, q348c⟩ := isOf hZ eq331 EK
  obtain ⟨_, _, ⟨T348, L348, kc348, ks348⟩, -, X348, ⟨Lc348, hQ348, l348, y348, z348⟩, st348⟩ := XH331.virtualBack hx (y := (⟨"com/example/waxwing/waxwing/protocol/ApiKey", "handles", "(S)Z"⟩ : MethodName)) (z := (⟨"com/example/waxwing/waxwing/protocol/ApiKey", "handles", "(S)Z"⟩ : MethodName)) hown (mvT hZ (hw _ (List.mem_of_getElem? (i := 9) rfl))) (mvT hZ (hw _ (List.mem_of_getElem? (i := 10) rfl))) (notFace_of_selects (args := #[]) (mvT hZ (hw _ (List.mem_of_getElem? (i := 12) rfl)))) (mvT hZ (hw _ (List.mem_of_getElem? (i := 12) rfl))) (mvT hZ (hw _ (List.mem_of_getElem? (i := 11) rfl))) (by decide) (backOf (W := 0) (rm2 l Z a0 hw [] (f kx) (if (p1 &&& (7 : Int32)) = (0 : Int32) then (((own_lo kx) - (1 : Int32)).toInt16.toInt32) else (if (p1 &&& (7 : Int32)) = (1 : Int32) then ((own_lo kx).toInt16.toInt32) else (if (p1 &&& (7 : Int32)) = (2 : Int32) then ((own_hi kx).toInt16.toInt32) else (if (p1 &&& (7 : Int32)) = (3 : Int32) then (((own_hi kx) + (1 : Int32)).toInt16.toInt32) else (if (p1 &&& (7 : Int32)) = (4 : Int32) then (-32768 : Int32) else (if (p1 &&& (7 : Int32)) = (5 : Int32) then (32767 : Int32) else (p2.toInt16.toInt32))))))) (own_lo kx) (own_hi kx) h323 n0 Z324 F1 F2) hZ (hw _ (List.mem_of_getElem? (i := 13) rfl)) (hw _ (List.mem_of_getElem? (i := 7) rfl)) (by decide) (by decide)) q348a q348c (g := (mkF m 353 #[.val (.int p0), .val (.int p1), .val (.int p2), .val (.ref b97), .val (.ref b202), .val (.int (Int32.ofNat kx)), .val (.ref (f kx)), .val (.int (own_lo kx)), .val (.int (own_hi kx)), .val (.int (p1 &&& (7 : Int32))), .val (.int (if (p1 &&& (7 : Int32)) = (0 : Int32) then (((own_lo kx) - (1 : Int32)).toInt16.toInt32) else (if (p1 &&& (7 : Int32)) = (1 : Int32) then ((own_lo kx).toInt16.toInt32) else (if (p1 &&& (7 : Int32)) = (2 : Int32) then ((own_hi kx).toInt16.toInt32) else (if (p1 &&& (7 : Int32)) = (3 : Int32) then (((own_hi kx) + (1 : Int32)).toInt16.toInt32) else (if (p1 &&& (7 : Int32)) = (4 : Int32) then (-32768 : Int32) else (if (p1 &&& (7 : Int32)) = (5 : Int32) then (32767 : Int32) else (p2.toInt16.toInt32)))))))), .val (.int (if (if (p1 &&& (7 : Int32)) = (0 : Int32) then (((own_lo kx) - (1 : Int32)).toInt16.toInt32) else (if (p1 &&& (7 : Int32)) = (1 : Int32) then ((own_lo kx).toInt16.toInt32) else (if (p1 &&& (7 : Int32)) = (2 : Int32) then ((own_hi kx).toInt16.toInt32) else (if (p1 &&& (7 : Int32)) = (3 : Int32) then (((own_hi kx) + (1 : Int32)).toInt16.toInt32) else (if (p1 &&& (7 : Int32)) = (4 : Int32) then (-32768 : Int32) else (if (p1 &&& (7 : Int32)) = (5 : Int32) then (32767 : Int32) else (p2.toInt16.toInt32))))))) < (own_lo kx) then (0 : Int32) else (if (own_hi kx) < (if (p1 &&& (7 : Int32)) = (0 : Int32) then (((own_lo kx) - (1 : Int32)).toInt16.toInt32) else (if (p1 &&& (7 : Int32)) = (1 : Int32) then ((own_lo kx).toInt16.toInt32) else (if (p1 &&& (7 : Int32)) = (2 : Int32) then ((own_hi kx).toInt16.toInt32) else (if (p1 &&& (7 : Int32)) = (3 : Int32) then (((own_hi kx) + (1 : Int32)).toInt16.toInt32) else (if (p1 &&& (7 : Int32)) = (4 : Int32) then (-32768 : Int32) else (if (p1 &&& (7 : Int32)) = (5 : Int32) then (32767 : Int32) else (p2.toInt16.toInt32))))))) then (0 : Int32) else (1 : Int32))))] [(.int (if (p1 &&& (7 : Int32)) = (0 : Int32) then (((own_lo kx) - (1 : Int32)).toInt16.toInt32) else (if (p1 &&& (7 : Int32)) = (1 : Int32) then ((own_lo kx).toInt16.toInt32) else (if (p1 &&& (7 : Int32)) = (2 : Int32) then ((own_hi kx).toInt16.toInt32) else (if (p1 &&& (7 : Int32)) = (3 : Int32) then (((own_hi kx) + (1 : Int32)).toInt16.toInt32) else (if (p1 &&& (7 : Int32)) = (4 : Int32) then (-32768 : Int32) else (if (p1 &&& (7 : Int32)) = (5 : Int32) then (32767 : Int32) else (p2.toInt16.toInt32)))))))), (.ref (f kx))])) rfl (by rw [hml]; rfl) (Steps.refl _) (argsL := [(.int (if (p1 &&& (7 : Int32)) = (0 : Int32) then (((own_lo kx) - (1 : Int32)).toInt16.toInt32) else (if (p1 &&& (7 : Int32)) = (1 : Int32) then ((own_lo kx).toInt16.toInt32) else (if (p1 &&& (7 : Int32)) = (2 : Int32) then ((own_hi kx).toInt16.toInt32) else (if (p1 &&& (7 : Int32)) = (3 : Int32) then (((own_hi kx) + (1 : Int32)).toInt16.toInt32) else (if (p1 &&& (7 : Int32)) = (4 : Int32) then (-32768 : Int32) else (if (p1 &&& (7 : Int32)) = (5 : Int32) then (32767 : Int32) else (p2.toInt16.toInt32))))))))]) (rest := []) (lenOf pd_1 rfl) rfl (by show 2 * 0 + _ ≤ _; exact Nat.le_of_eq rfl) (hb hby at_353) (fun _ _ => ⟨rfl, eq331, (by decide : 2 + 0 ≤ _), (by decide : 40 + 0 ≤ _)⟩)
  dsimp only [Pt.U, Pt.locs, Pt.cells, Pt.slots] at X348 l348 y348 z348 st348 hQ348
  subst l348 y348 z348
  obtain ⟨rfl, Nq348, eq348⟩ := hQ348
  have N348 := Fr.app NH331 Nq348
  obtain ⟨LH348, XH348, NH348⟩ := own_hide X348 N348
  clear X348 N348
  have k349 : ∀ t, Steps p.tables e below (T348.setTop (mkF m 356 #[.val (.int p0), .val (.int p1), .val (.int p2), .val (.ref b97), .val (.ref b202), .val (.int (Int32.ofNat kx)), .val (.ref (f kx)), .val (.int (own_lo kx)), .val (.int (own_hi kx)), .val (.int (p1 &&& (7 : Int32))), .val (.int (if (p1 &&& (7 : Int32)) = (0 : Int32) then (((own_lo kx) - (1 : Int32)).toInt16.toInt32) else (if (p1 &&& (7 : Int32)) = (1 : Int32) then ((own_lo kx).toInt16.toInt32) else (if (p1 &&& (7 : Int32)) = (2 : Int32) then ((own_hi kx).toInt16.toInt32) else (if (p1 &&& (7 : Int32)) = (3 : Int32) then (((own_hi kx) + (1 : Int32)).toInt16.toInt32) else (if (p1 &&& (7 : Int32)) = (4 : Int32) then (-32768 : Int32) else (if (p1 &&& (7 : Int32)) = (5 : Int32) then (32767 : Int32) else (p2.toInt16.toInt32)))))))), .val (.int (if (if (p1 &&& (7 : Int32)) = (0 : Int32) then (((own_lo kx) - (1 : Int32)).toInt16.toInt32) else (if (p1 &&& (7 : Int32)) = (1 : Int32) then ((own_lo kx).toInt16.toInt32) else (if (p1 &&& (7 : Int32)) = (2 : Int32) then ((own_hi kx).toInt16.toInt32) else (if (p1 &&& (7 : Int32)) = (3 : Int32) then (((own_hi kx) + (1 : Int32)).toInt16.toInt32) else (if (p1 &&& (7 : Int32)) = (4 : Int32) then (-32768 : Int32) else (if (p1 &&& (7 : Int32)) = (5 : Int32) then (32767 : Int32) else (p2.toInt16.toInt32))))))) < (own_lo kx) then (0 : Int32) else (if (own_hi kx) < (if (p1 &&& (7 : Int32)) = (0 : Int32) then (((own_lo kx) - (1 : Int32)).toInt16.toInt32) else (if (p1 &&& (7 : Int32)) = (1 : Int32) then ((own_lo kx).toInt16.toInt32) else (if (p1 &&& (7 : Int32)) = (2 : Int32) then ((own_hi kx).toInt16.toInt32) else (if (p1 &&& (7 : Int32)) = (3 : Int32) then (((own_hi kx) + (1 : Int32)).toInt16.toInt32) else (if (p1 &&& (7 : Int32)) = (4 : Int32) then (-32768 : Int32) else (if (p1 &&& (7 : Int32)) = (5 : Int32) then (32767 : Int32) else (p2.toInt16.toInt32))))))) then (0 : Int32) else (1 : Int32))))] [(.int (own_h (if (p1 &&& (7 : Int32)) = (0 : Int32) then (((own_lo kx) - (1 : Int32)).toInt16.toInt32) else (if (p1 &&& (7 : Int32)) = (1 : Int32) then ((own_lo kx).toInt16.toInt32) else (if (p1 &&& (7 : Int32)) = (2 : Int32) then ((own_hi kx).toInt16.toInt32) else (if (p1 &&& (7 : Int32)) = (3 : Int32) then (((own_hi kx) + (1 : Int32)).toInt16.toInt32) else (if (p1 &&& (7 : Int32)) = (4 : Int32) then (-32768 : Int32) else (if (p1 &&& (7 : Int32)) = (5 : Int32) then (32767 : Int32) else (p2.toInt16.toInt32))))))) (own_lo kx) (own_hi kx)))])) t → Steps p.tables e below (s₁.setTop (entryFrame m #[(.int p0), (.int p1), (.int p2)] maxLocals)) t := fun t k => k347 t (st348.trans k)
  have k350 : ∀ t, Steps p.tables e below (T348.setTop (mkF m 366 #[.val (.int p0), .val (.int p1), .val (.int p2), .val (.ref b97), .val (.ref b202), .val (.int (Int32.ofNat kx)), .val (.ref (f kx)), .val (.int (own_lo kx)), .val (.int (own_hi kx)), .val (.int (p1 &&& (7 : Int32))), .val (.int (if (p1 &&& (7 : Int32)) = (0 : Int32) then (((own_lo kx) - (1 : Int32)).toInt16.toInt32) else (if (p1 &&& (7 : Int32)) = (1 : Int32) then ((own_lo kx).toInt16.toInt32) else (if (p1 &&& (7 : Int32)) = (2 : Int32) then ((own_hi kx).toInt16.toInt32) else (if (p1 &&& (7 : Int32)) = (3 : Int32) then (((own_hi kx) + (1 : Int32)).toInt16.toInt32) else (if (p1 &&& (7 : Int32)) = (4 : Int32) then (-32768 : Int32) else (if (p1 &&& (7 : Int32)) = (5 : Int32) then (32767 : Int32) else (p2.toInt16.toInt32)))))))), .val (.int (if (if (p1 &&& (7 : Int32)) = (0 : Int32) then (((own_lo kx) - (1 : Int32)).toInt16.toInt32) else (if (p1 &&& (7 : Int32)) = (1 : Int32) then ((own_lo kx).toInt16.toInt32) else (if (p1 &&& (7 : Int32)) = (2 : Int32) then ((own_hi kx).toInt16.toInt32) else (if (p1 &&& (7 : Int32)) = (3 : Int32) then (((own_hi kx) + (1 : Int32)).toInt16.toInt32) else (if (p1 &&& (7 : Int32)) = (4 : Int32) then (-32768 : Int32) else (if (p1 &&& (7 : Int32)) = (5 : Int32) then (32767 : Int32) else (p2.toInt16.toInt32))))))) < (own_lo kx) then (0 : Int32) else (if (own_hi kx) < (if (p1 &&& (7 : Int32)) = (0 : Int32) then (((own_lo kx) - (1 : Int32)).toInt16.toInt32) else (if (p1 &&& (7 : Int32)) = (1 : Int32) then ((own_lo kx).toInt16.toInt32) else (if (p1 &&& (7 : Int32)) = (2 : Int32) then ((own_hi kx).toInt16.toInt32) else (if (p1 &&& (7 : Int32)) = (3 : Int32) then (((own_hi kx) + (1 : Int32)).toInt16.toInt32) else (if (p1 &&& (7 : Int32)) = (4 : Int32) then (-32768 : Int32) else (if (p1 &&& (7 : Int32)) = (5 : Int32) then (32767 : Int32) else (p2.toInt16.toInt32))))))) then (0 : Int32) else (1 : Int32))))] [(.int (1 : Int32))])) t → Steps p.tables e below (s₁.setTop (entryFrame m #[(.int p0), (.int p1), (.int p2)] maxLocals)) t := fun t k => k349 t (by
    show Steps p.tables e below (T348.setTop (mkF m 356 #[.val (.int p0), .val (.int p1), .val (.int p2), .val (.ref b97), .val (.ref b202), .val (.int (Int32.ofNat kx)), .val (.ref (f kx)), .val (.int (own_lo kx)), .val (.int (own_hi kx)), .val (.int (p1 &&& (7 : Int32))), .val (.int (if (p1 &&& (7 : Int32)) = (0 : Int32) then (((own_lo kx) - (1 : Int32)).toInt16.toInt32) else (if (p1 &&& (7 : Int32)) = (1 : Int32) then ((own_lo kx).toInt16.toInt32) else (if (p1 &&& (7 : Int32)) = (2 : Int32) then ((own_hi kx).toInt16.toInt32) else (if (p1 &&& (7 : Int32)) = (3 : Int32) then (((own_hi kx) + (1 : Int32)).toInt16.toInt32) else (if (p1 &&& (7 : Int32)) = (4 : Int32) then (-32768 : Int32) else (if (p1 &&& (7 : Int32)) = (5 : Int32) then (32767 : Int32) else (p2.toInt16.toInt32)))))))), .val (.int (if (if (p1 &&& (7 : Int32)) = (0 : Int32) then (((own_lo kx) - (1 : Int32)).toInt16.toInt32) else (if (p1 &&& (7 : Int32)) = (1 : Int32) then ((own_lo kx).toInt16.toInt32) else (if (p1 &&& (7 : Int32)) = (2 : Int32) then ((own_hi kx).toInt16.toInt32) else (if (p1 &&& (7 : Int32)) = (3 : Int32) then (((own_hi kx) + (1 : Int32)).toInt16.toInt32) else (if (p1 &&& (7 : Int32)) = (4 : Int32) then (-32768 : Int32) else (if (p1 &&& (7 : Int32)) = (5 : Int32) then (32767 : Int32) else (p2.toInt16.toInt32))))))) < (own_lo kx) then (0 : Int32) else (if (own_hi kx) < (if (p1 &&& (7 : Int32)) = (0 : Int32) then (((own_lo kx) - (1 : Int32)).toInt16.toInt32) else (if (p1 &&& (7 : Int32)) = (1 : Int32) then ((own_lo kx).toInt16.toInt32) else (if (p1 &&& (7 : Int32)) = (2 : Int32) then ((own_hi kx).toInt16.toInt32) else (if (p1 &&& (7 : Int32)) = (3 : Int32) then (((own_hi kx) + (1 : Int32)).toInt16.toInt32) else (if (p1 &&& (7 : Int32)) = (4 : Int32) then (-32768 : Int32) else (if (p1 &&& (7 : Int32)) = (5 : Int32) then (32767 : Int32) else (p2.toInt16.toInt32))))))) then (0 : Int32) else (1 : Int32))))] [(.int (own_h (if (p1 &&& (7 : Int32)) = (0 : Int32) then (((own_lo kx) - (1 : Int32)).toInt16.toInt32) else (if (p1 &&& (7 : Int32)) = (1 : Int32) then ((own_lo kx).toInt16.toInt32) else (if (p1 &&& (7 : Int32)) = (2 : Int32) then ((own_hi kx).toInt16.toInt32) else (if (p1 &&& (7 : Int32)) = (3 : Int32) then (((own_hi kx) + (1 : Int32)).toInt16.toInt32) else (if (p1 &&& (7 : Int32)) = (4 : Int32) then (-32768 : Int32) else (if (p1 &&& (7 : Int32)) = (5 : Int32) then (32767 : Int32) else (p2.toInt16.toInt32))))))) (own_lo kx) (own_hi kx)))])) _
    refine XS.iload XH348.here hx rfl (hb hby at_356) rfl ?_
    show Steps p.tables e below (T348.setTop (mkF m 358 #[.val (.int p0), .val (.int p1), .val (.int p2), .val (.ref b97), .val (.ref b202), .val (.int (Int32.ofNat kx)), .val (.ref (f kx)), .val (.int (own_lo kx)), .val (.int (own_hi kx)), .val (.int (p1 &&& (7 : Int32))), .val (.int (if (p1 &&& (7 : Int32)) = (0 : Int32) then (((own_lo kx) - (1 : Int32)).toInt16.toInt32) else (if (p1 &&& (7 : Int32)) = (1 : Int32) then ((own_lo kx).toInt16.toInt32) else (if (p1 &&& (7 : Int32)) = (2 : Int32) then ((own_hi kx).toInt16.toInt32) else (if (p1 &&& (7 : Int32)) = (3 : Int32) then (((own_hi kx) + (1 : Int32)).toInt16.toInt32) else (if (p1 &&& (7 : Int32)) = (4 : Int32) then (-32768 : Int32) else (if (p1 &&& (7 : Int32)) = (5 : Int32) then (32767 : Int32) else (p2.toInt16.toInt32)))))))), .val (.int (if (if (p1 &&& (7 : Int32)) = (0 : Int32) then (((own_lo kx) - (1 : Int32)).toInt16.toInt32) else (if (p1 &&& (7 : Int32)) = (1 : Int32) then ((own_lo kx).toInt16.toInt32) else (if (p1 &&& (7 : Int32)) = (2 : Int32) then ((own_hi kx).toInt16.toInt32) else (if (p1 &&& (7 : Int32)) = (3 : Int32) then (((own_hi kx) + (1 : Int32)).toInt16.toInt32) else (if (p1 &&& (7 : Int32)) = (4 : Int32) then (-32768 : Int32) else (if (p1 &&& (7 : Int32)) = (5 : Int32) then (32767 : Int32) else (p2.toInt16.toInt32))))))) < (own_lo kx) then (0 : Int32) else (if (own_hi kx) < (if (p1 &&& (7 : Int32)) = (0 : Int32) then (((own_lo kx) - (1 : Int32)).toInt16.toInt32) else (if (p1 &&& (7 : Int32)) = (1 : Int32) then ((own_lo kx).toInt16.toInt32) else (if (p1 &&& (7 : Int32)) = (2 : Int32) then ((own_hi kx).toInt16.toInt32) else (if (p1 &&& (7 : Int32)) = (3 : Int32) then (((own_hi kx) + (1 : Int32)).toInt16.toInt32) else (if (p1 &&& (7 : Int32)) = (4 : Int32) then (-32768 : Int32) else (if (p1 &&& (7 : Int32)) = (5 : Int32) then (32767 : Int32) else (p2.toInt16.toInt32))))))) then (0 : Int32) else (1 : Int32))))] [(.int (if (if (p1 &&& (7 : Int32)) = (0 : Int32) then (((own_lo kx) - (1 : Int32)).toInt16.toInt32) else (if (p1 &&& (7 : Int32)) = (1 : Int32) then ((own_lo kx).toInt16.toInt32) else (if (p1 &&& (7 : Int32)) = (2 : Int32) then ((own_hi kx).toInt16.toInt32) else (if (p1 &&& (7 : Int32)) = (3 : Int32) then (((own_hi kx) + (1 : Int32)).toInt16.toInt32) else (if (p1 &&& (7 : Int32)) = (4 : Int32) then (-32768 : Int32) else (if (p1 &&& (7 : Int32)) = (5 : Int32) then (32767 : Int32) else (p2.toInt16.toInt32))))))) < (own_lo kx) then (0 : Int32) else (if (own_hi kx) < (if (p1 &&& (7 : Int32)) = (0 : Int32) then (((own_lo kx) - (1 : Int32)).toInt16.toInt32) else (if (p1 &&& (7 : Int32)) = (1 : Int32) then ((own_lo kx).toInt16.toInt32) else (if (p1 &&& (7 : Int32)) = (2 : Int32) then ((own_hi kx).toInt16.toInt32) else (if (p1 &&& (7 : Int32)) = (3 : Int32) then (((own_hi kx) + (1 : Int32)).toInt16.toInt32) else (if (p1 &&& (7 : Int32)) = (4 : Int32) then (-32768 : Int32) else (if (p1 &&& (7 : Int32)) = (5 : Int32) then (32767 : Int32) else (p2.toInt16.toInt32))))))) then (0 : Int32) else (1 : Int32)))), (.int (own_h (if (p1 &&& (7 : Int32)) = (0 : Int32) then (((own_lo kx) - (1 : Int32)).toInt16.toInt32) else (if (p1 &&& (7 : Int32)) = (1 : Int32) then ((own_lo kx).toInt16.toInt32) else (if (p1 &&& (7 : Int32)) = (2 : Int32) then ((own_hi kx).toInt16.toInt32) else (if (p1 &&& (7 : Int32)) = (3 : Int32) then (((own_hi kx) + (1 : Int32)).toInt16.toInt32) else (if (p1 &&& (7 : Int32)) = (4 : Int32) then (-32768 : Int32) else (if (p1 &&& (7 : Int32)) = (5 : Int32) then (32767 : Int32) else (p2.toInt16.toInt32))))))) (own_lo kx) (own_hi kx)))])) _
    refine XS.icmpNo XH348.here hx rfl (hb hby at_358) rfl (teq (rfl : (own_h (if (p1 &&& (7 : Int32)) = (0 : Int32) then (((own_lo kx) - (1 : Int32)).toInt16.toInt32) else (if (p1 &&& (7 : Int32)) = (1 : Int32) then ((own_lo kx).toInt16.toInt32) else (if (p1 &&& (7 : Int32)) = (2 : Int32) then ((own_hi kx).toInt16.toInt32) else (if (p1 &&& (7 : Int32)) = (3 : Int32) then (((own_hi kx) + (1 : Int32)).toInt16.toInt32) else (if (p1 &&& (7 : Int32)) = (4 : Int32) then (-32768 : Int32) else (if (p1 &&& (7 : Int32)) = (5 : Int32) then (32767 : Int32) else (p2.toInt16.toInt32))))))) (own_lo kx) (own_hi kx)) = (if (if (p1 &&& (7 : Int32)) = (0 : Int32) then (((own_lo kx) - (1 : Int32)).toInt16.toInt32) else (if (p1 &&& (7 : Int32)) = (1 : Int32) then ((own_lo kx).toInt16.toInt32) else (if (p1 &&& (7 : Int32)) = (2 : Int32) then ((own_hi kx).toInt16.toInt32) else (if (p1 &&& (7 : Int32)) = (3 : Int32) then (((own_hi kx) + (1 : Int32)).toInt16.toInt32) else (if (p1 &&& (7 : Int32)) = (4 : Int32) then (-32768 : Int32) else (if (p1 &&& (7 : Int32)) = (5 : Int32) then (32767 : Int32) else (p2.toInt16.toInt32))))))) < (own_lo kx) then (0 : Int32) else (if (own_hi kx) < (if (p1 &&& (7 : Int32)) = (0 : Int32) then (((own_lo kx) - (1 : Int32)).toInt16.toInt32) else (if (p1 &&& (7 : Int32)) = (1 : Int32) then ((own_lo kx).toInt16.toInt32) else (if (p1 &&& (7 : Int32)) = (2 : Int32) then ((own_hi kx).toInt16.toInt32) else (if (p1 &&& (7 : Int32)) = (3 : Int32) then (((own_hi kx) + (1 : Int32)).toInt16.toInt32) else (if (p1 &&& (7 : Int32)) = (4 : Int32) then (-32768 : Int32) else (if (p1 &&& (7 : Int32)) = (5 : Int32) then (32767 : Int32) else (p2.toInt16.toInt32))))))) then (0 : Int32) else (1 : Int32))))).2 ?_
    show Steps p.tables e below (T348.setTop (mkF m 361 #[.val (.int p0), .val (.int p1), .val (.int p2), .val (.ref b97), .val (.ref b202), .val (.int (Int32.ofNat kx)), .val (.ref (f kx)), .val (.int (own_lo kx)), .val (.int (own_hi kx)), .val (.int (p1 &&& (7 : Int32))), .val (.int (if (p1 &&& (7 : Int32)) = (0 : Int32) then (((own_lo kx) - (1 : Int32)).toInt16.toInt32) else (if (p1 &&& (7 : Int32)) = (1 : Int32) then ((own_lo kx).toInt16.toInt32) else (if (p1 &&& (7 : Int32)) = (2 : Int32) then ((own_hi kx).toInt16.toInt32) else (if (p1 &&& (7 : Int32)) = (3 : Int32) then (((own_hi kx) + (1 : Int32)).toInt16.toInt32) else (if (p1 &&& (7 : Int32)) = (4 : Int32) then (-32768 : Int32) else (if (p1 &&& (7 : Int32)) = (5 : Int32) then (32767 : Int32) else (p2.toInt16.toInt32)))))))), .val (.int (if (if (p1 &&& (7 : Int32)) = (0 : Int32) then (((own_lo kx) - (1 : Int32)).toInt16.toInt32) else (if (p1 &&& (7 : Int32)) = (1 : Int32) then ((own_lo kx).toInt16.toInt32) else (if (p1 &&& (7 : Int32)) = (2 : Int32) then ((own_hi kx).toInt16.toInt32) else (if (p1 &&& (7 : Int32)) = (3 : Int32) then (((own_hi kx) + (1 : Int32)).toInt16.toInt32) else (if (p1 &&& (7 : Int32)) = (4 : Int32) then (-32768 : Int32) else (if (p1 &&& (7 : Int32)) = (5 : Int32) then (32767 : Int32) else (p2.toInt16.toInt32))))))) < (own_lo kx) then (0 : Int32) else (if (own_hi kx) < (if (p1 &&& (7 : Int32)) = (0 : Int32) then (((own_lo kx) - (1 : Int32)).toInt16.toInt32) else (if (p1 &&& (7 : Int32)) = (1 : Int32) then ((own_lo kx).toInt16.toInt32) else (if (p1 &&& (7 : Int32)) = (2 : Int32) then ((own_hi kx).toInt16.toInt32) else (if (p1 &&& (7 : Int32)) = (3 : Int32) then (((own_hi kx) + (1 : Int32)).toInt16.toInt32) else (if (p1 &&& (7 : Int32)) = (4 : Int32) then (-32768 : Int32) else (if (p1 &&& (7 : Int32)) = (5 : Int32) then (32767 : Int32) else (p2.toInt16.toInt32))))))) then (0 : Int32) else (1 : Int32))))] [])) _
    refine XS.iconst XH348.here hx rfl (hb hby at_361) ?_
    show Steps p.tables e below (T348.setTop (mkF m 362 #[.val (.int p0), .val (.int p1), .val (.int p2), .val (.ref b97), .val (.ref b202), .val (.int (Int32.ofNat kx)), .val (.ref (f kx)), .val (.int (own_lo kx)), .val (.int (own_hi kx)), .val (.int (p1 &&& (7 : Int32))), .val (.int (if (p1 &&& (7 : Int32)) = (0 : Int32) then (((own_lo kx) - (1 : Int32)).toInt16.toInt32) else (if (p1 &&& (7 : Int32)) = (1 : Int32) then ((own_lo kx).toInt16.toInt32) else (if (p1 &&& (7 : Int32)) = (2 : Int32) then ((own_hi kx).toInt16.toInt32) else (if (p1 &&& (7 : Int32)) = (3 : Int32) then (((own_hi kx) + (1 : Int32)).toInt16.toInt32) else (if (p1 &&& (7 : Int32)) = (4 : Int32) then (-32768 : Int32) else (if (p1 &&& (7 : Int32)) = (5 : Int32) then (32767 : Int32) else (p2.toInt16.toInt32)))))))), .val (.int (if (if (p1 &&& (7 : Int32)) = (0 : Int32) then (((own_lo kx) - (1 : Int32)).toInt16.toInt32) else (if (p1 &&& (7 : Int32)) = (1 : Int32) then ((own_lo kx).toInt16.toInt32) else (if (p1 &&& (7 : Int32)) = (2 : Int32) then ((own_hi kx).toInt16.toInt32) else (if (p1 &&& (7 : Int32)) = (3 : Int32) then (((own_hi kx) + (1 : Int32)).toInt16.toInt32) else (if (p1 &&& (7 : Int32)) = (4 : Int32) then (-32768 : Int32) else (if (p1 &&& (7 : Int32)) = (5 : Int32) then (32767 : Int32) else (p2.toInt16.toInt32))))))) < (own_lo kx) then (0 : Int32) else (if (own_hi kx) < (if (p1 &&& (7 : Int32)) = (0 : Int32) then (((own_lo kx) - (1 : Int32)).toInt16.toInt32) else (if (p1 &&& (7 : Int32)) = (1 : Int32) then ((own_lo kx).toInt16.toInt32) else (if (p1 &&& (7 : Int32)) = (2 : Int32) then ((own_hi kx).toInt16.toInt32) else (if (p1 &&& (7 : Int32)) = (3 : Int32) then (((own_hi kx) + (1 : Int32)).toInt16.toInt32) else (if (p1 &&& (7 : Int32)) = (4 : Int32) then (-32768 : Int32) else (if (p1 &&& (7 : Int32)) = (5 : Int32) then (32767 : Int32) else (p2.toInt16.toInt32))))))) then (0 : Int32) else (1 : Int32))))] [(.int (1 : Int32))])) _
    refine XS.goto XH348.here hx rfl (pc0 := 362) (pc' := 366) rfl (hb hby at_362) (by decide) (by decide) ?_
    exact k)
  obtain ⟨fs, hr, hrun, hended, hW, hsame⟩ := XH348.leave (v := some (.int (1 : Int32))) (fun h => by rw [Bd.returns] at h; cases h)
  refine ⟨_, _, k350 _ ?_, hrun, hended, _, _, rfl, ?_, ⟨_, rfl⟩, hW, hsame.mono (by decide) (by decide)⟩
  · show Steps p.tables e below (T348.setTop (mkF m 366 #[.val (.int p0), .val (.int p1), .val (.int p2), .val (.ref b97), .val (.ref b202), .val (.int (Int32.ofNat kx)), .val (.ref (f kx)), .val (.int (own_lo kx)), .val (.int (own_hi kx)), .val (.int (p1 &&& (7 : Int32))), .val (.int (if (p1 &&& (7 : Int32)) = (0 : Int32) then (((own_lo kx) - (1 : Int32)).toInt16.toInt32) else (if (p1 &&& (7 : Int32)) = (1 : Int32) then ((own_lo kx).toInt16.toInt32) else (if (p1 &&& (7 : Int32)) = (2 : Int32) then ((own_hi kx).toInt16.toInt32) else (if (p1 &&& (7 : Int32)) = (3 : Int32) then (((own_hi kx) + (1 : Int32)).toInt16.toInt32) else (if (p1 &&& (7 : Int32)) = (4 : Int32) then (-32768 : Int32) else (if (p1 &&& (7 : Int32)) = (5 : Int32) then (32767 : Int32) else (p2.toInt16.toInt32)))))))), .val (.int (if (if (p1 &&& (7 : Int32)) = (0 : Int32) then (((own_lo kx) - (1 : Int32)).toInt16.toInt32) else (if (p1 &&& (7 : Int32)) = (1 : Int32) then ((own_lo kx).toInt16.toInt32) else (if (p1 &&& (7 : Int32)) = (2 : Int32) then ((own_hi kx).toInt16.toInt32) else (if (p1 &&& (7 : Int32)) = (3 : Int32) then (((own_hi kx) + (1 : Int32)).toInt16.toInt32) else (if (p1 &&& (7 : Int32)) = (4 : Int32) then (-32768 : Int32) else (if (p1 &&& (7 : Int32)) = (5 : Int32) then (32767 : Int32) else (p2.toInt16.toInt32))))))) < (own_lo kx) then (0 : Int32) else (if (own_hi kx) < (if (p1 &&& (7 : Int32)) = (0 : Int32) then (((own_lo kx) - (1 : Int32)).toInt16.toInt32) else (if (p1 &&& (7 : Int32)) = (1 : Int32) then ((own_lo kx).toInt16.toInt32) else (if (p1 &&& (7 : Int32)) = (2 : Int32) then ((own_hi kx).toInt16.toInt32) else (if (p1 &&& (7 : Int32)) = (3 : Int32) then (((own_hi kx) + (1 : Int32)).toInt16.toInt32) else (if (p1 &&& (7 : Int32)) = (4 : Int32) then (-32768 : Int32) else (if (p1 &&& (7 : Int32)) = (5 : Int32) then (32767 : Int32) else (p2.toInt16.toInt32))))))) then (0 : Int32) else (1 : Int32))))] [(.int (1 : Int32))])) _
    exact retN XH348 hx (t := .boolean) Bd.returns (by simp) (hb hby at_366) hr
  · show Q0 Z p0 p1 p2 f h0 n0 _ T348.heap _
    rw [eq348]
    exact ⟨rfl, NH348⟩
set_option maxRecDepth 65536 in
set_option maxHeartbeats 40000000 in
theorem comes_1 {Post : Tables → Env → Array Value → State → Outcome → State → Prop} (hpost : ∀ tb e args s v u, (limb_1_1.after args s (.returned v) u = true ∧ limb_1_2.after args s (.returned v) u = true ∧ True) → FrameEnd s (.returned v) u (Jvm.fieldLocs frame_1_writes args s ++ Jvm.arrayLocs frame_1_arrays args s ++ Jvm.staticLocs frame_1_statics s) 16 192 → Post tb e args s (.returned v) u) :
    ArmFor flags0 classFile x code maxLocals ret World_1 tables_1 room_1 Calls_1 rest_1 Pre_1 Post := by
  intro l hfl _ _ p e ha hc hk s m args below hf hA hF happ hP
  obtain ⟨hcalls, hrest, hpre⟩ := hP
  obtain ⟨-, -, -, hnamed, -, -, -, hat⟩ := (Spec.applies_iff hf).mp happ
  obtain ⟨hg, hn⟩ := and_e (Cond.before_iff.mp (show (Jvm.Cond.and given_1 narrow_1).before args s = true from hpre))
  obtain ⟨g1, g2⟩ := and_e hg
  obtain ⟨g3, g4⟩ := and_e g2
  obtain ⟨g5, g6⟩ := and_e g4
  obtain ⟨w0, w1, w2, rfl⟩ : ∃ w0 w1 w2 : Value, args = #[w0, w1, w2] := by
    have hs : args.size = 3 := by simpa [Cond.value, given_1] using g1
    obtain ⟨L⟩ := args
    match L, hs with
    | [w0, w1, w2], _ => exact ⟨w0, w1, w2, rfl⟩
  have hw := fun d (hd : d ∈ tables_1) => atoms_spec (ws := Jvm.Cond.code x code maxLocals ret :: tables_1) hat d (List.mem_cons_of_mem _ hd)
  have hfit : Fit s := fun {y c} hc i hi => by
    obtain ⟨ha, rfl⟩ := Array.getElem?_eq_some_iff.mp hc
    have q := List.all_eq_true.mp ((Array.all_eq_true_iff_forall_mem.mp hF) _ (Array.getElem_mem ha)) i (List.mem_range.mpr hi)
    simpa [Array.getElem?_eq_getElem hi] using q
  obtain ⟨i0, ei0⟩ := is_v g3
  obtain rfl : w0 = (.int i0) := Option.some.inj ei0
  obtain ⟨i1, ei1⟩ := is_v g5
  obtain rfl : w1 = (.int i1) := Option.some.inj ei1
  obtain ⟨i2, ei2⟩ := is_v g6
  obtain rfl : w2 = (.int i2) := Option.some.inj ei2
  obtain ⟨c0, r0⟩ := and_e hn
  obtain ⟨c1, r1⟩ := and_e r0
  obtain ⟨c2, r2⟩ := and_e r1
  obtain ⟨c3, r3⟩ := and_e r2
  obtain ⟨c4, r4⟩ := and_e r3
  obtain ⟨c5, r5⟩ := and_e r4
  obtain ⟨c6, r6⟩ := and_e r5
  obtain ⟨c7, r7⟩ := and_e r6
  obtain ⟨c8, r8⟩ := and_e r7
  obtain ⟨c9, r9⟩ := and_e r8
  obtain ⟨c10, r10⟩ := and_e r9
  obtain ⟨c11, r11⟩ := and_e r10
  obtain ⟨c12, r12⟩ := and_e r11
  obtain ⟨c13, r13⟩ := and_e r12
  obtain ⟨c14, r14⟩ := and_e r13
  obtain ⟨c15, r15⟩ := and_e r14
  obtain ⟨c16, r16⟩ := and_e r15
  obtain ⟨c17, r17⟩ := and_e r16
  obtain ⟨c18, r18⟩ := and_e r17
  obtain ⟨c19, r19⟩ := and_e r18
  obtain ⟨c20, r20⟩ := and_e r19
  obtain ⟨c21, r21⟩ := and_e r20
  obtain ⟨c22, r22⟩ := and_e r21
  obtain ⟨c23, r23⟩ := and_e r22
  obtain ⟨c24, r24⟩ := and_e r23
  obtain ⟨c25, r25⟩ := and_e r24
  obtain ⟨c26, r26⟩ := and_e r25
  obtain ⟨c27, r27⟩ := and_e r26
  obtain ⟨c28, r28⟩ := and_e r27
  obtain ⟨c29, r29⟩ := and_e r28
  obtain ⟨c30, r30⟩ := and_e r29
  obtain ⟨c31, r31⟩ := and_e r30
  obtain ⟨c32, r32⟩ := and_e r31
  obtain ⟨c33, r33⟩ := and_e r32
  obtain ⟨c34, r34⟩ := and_e r33
  obtain ⟨c35, r35⟩ := and_e r34
  obtain ⟨c36, r36⟩ := and_e r35
  obtain ⟨c37, r37⟩ := and_e r36
  obtain ⟨c38, r38⟩ := and_e r37
  obtain ⟨c39, r39⟩ := and_e r38
  obtain ⟨c40, r40⟩ := and_e r39
  obtain ⟨c41, r41⟩ := and_e r40
  obtain ⟨c42, r42⟩ := and_e r41
  obtain ⟨c43, r43⟩ := and_e r42
  obtain ⟨c44, r44⟩ := and_e r43
  obtain ⟨c45, r45⟩ := and_e r44
  obtain ⟨c46, r46⟩ := and_e r45
  obtain ⟨c47, r47⟩ := and_e r46
  obtain ⟨c48, r48⟩ := and_e r47
  obtain ⟨c49, r49⟩ := and_e r48
  obtain ⟨c50, r50⟩ := and_e r49
  obtain ⟨c51, r51⟩ := and_e r50
  obtain ⟨c52, r52⟩ := and_e r51
  obtain ⟨c53, r53⟩ := and_e r52
  obtain ⟨c54, r54⟩ := and_e r53
  obtain ⟨c55, r55⟩ := and_e r54
  obtain ⟨c56, r56⟩ := and_e r55
  obtain ⟨c57, r57⟩ := and_e r56
  obtain ⟨c58, r58⟩ := and_e r57
  have c59 := r58
  obtain ⟨a_PRODUCE, ev_PRODUCE⟩ := exa_v c0
  have S_PRODUCE := Sta.start ev_PRODUCE (Or.inr ⟨(hw _ (List.mem_of_getElem? (i := 7) rfl)), (hw _ (List.mem_of_getElem? (i := 8) rfl))⟩)
  have E_PRODUCE := Exa.start ev_PRODUCE c0
  obtain ⟨a_FETCH, ev_FETCH⟩ := exa_v c3
  have S_FETCH := Sta.start ev_FETCH (Or.inr ⟨(hw _ (List.mem_of_getElem? (i := 7) rfl)), (hw _ (List.mem_of_getElem? (i := 19) rfl))⟩)
  have E_FETCH := Exa.start ev_FETCH c3
  obtain ⟨a_OFFSET_COMMIT, ev_OFFSET_COMMIT⟩ := exa_v c5
  have S_OFFSET_COMMIT := Sta.start ev_OFFSET_COMMIT (Or.inr ⟨(hw _ (List.mem_of_getElem? (i := 7) rfl)), (hw _ (List.mem_of_getElem? (i := 21) rfl))⟩)
  have E_OFFSET_COMMIT := Exa.start ev_OFFSET_COMMIT c5
  obtain ⟨a_DELETE_TOPICS, ev_DELETE_TOPICS⟩ := exa_v c8
  have S_DELETE_TOPICS := Sta.start ev_DELETE_TOPICS (Or.inr ⟨(hw _ (List.mem_of_getElem? (i := 7) rfl)), (hw _ (List.mem_of_getElem? (i := 23) rfl))⟩)
  have E_DELETE_TOPICS := Exa.start ev_DELETE_TOPICS c8
  obtain ⟨a_HEARTBEAT, ev_HEARTBEAT⟩ := exa_v c10
  have S_HEARTBEAT := Sta.start ev_HEARTBEAT (Or.inr ⟨(hw _ (List.mem_of_getElem? (i := 7) rfl)), (hw _ (List.mem_of_getElem? (i := 25) rfl))⟩)
  have E_HEARTBEAT := Exa.start ev_HEARTBEAT c10
  obtain ⟨a_CREATE_TOPICS, ev_CREATE_TOPICS⟩ := exa_v c12
  have S_CREATE_TOPICS := Sta.start ev_CREATE_TOPICS (Or.inr ⟨(hw _ (List.mem_of_getElem? (i := 7) rfl)), (hw _ (List.mem_of_getElem? (i := 27) rfl))⟩)
  have E_CREATE_TOPICS := Exa.start ev_CREATE_TOPICS c12
  obtain ⟨a_METADATA, ev_METADATA⟩ := exa_v c16
  have S_METADATA := Sta.start ev_METADATA (Or.inr ⟨(hw _ (List.mem_of_getElem? (i := 7) rfl)), (hw _ (List.mem_of_getElem? (i := 29) rfl))⟩)
  have E_METADATA := Exa.start ev_METADATA c16
  obtain ⟨a_SYNC_GROUP, ev_SYNC_GROUP⟩ := exa_v c19
  have S_SYNC_GROUP := Sta.start ev_SYNC_GROUP (Or.inr ⟨(hw _ (List.mem_of_getElem? (i := 7) rfl)), (hw _ (List.mem_of_getElem? (i := 31) rfl))⟩)
  have E_SYNC_GROUP := Exa.start ev_SYNC_GROUP c19
  obtain ⟨a_INIT_PRODUCER_ID, ev_INIT_PRODUCER_ID⟩ := exa_v c22
  have S_INIT_PRODUCER_ID := Sta.start ev_INIT_PRODUCER_ID (Or.inr ⟨(hw _ (List.mem_of_getElem? (i := 7) rfl)), (hw _ (List.mem_of_getElem? (i := 33) rfl))⟩)
  have E_INIT_PRODUCER_ID := Exa.start ev_INIT_PRODUCER_ID c22
  obtain ⟨a_DESCRIBE_CONFIGS, ev_DESCRIBE_CONFIGS⟩ := exa_v c25
  have S_DESCRIBE_CONFIGS := Sta.start ev_DESCRIBE_CONFIGS (Or.inr ⟨(hw _ (List.mem_of_getElem? (i := 7) rfl)), (hw _ (List.mem_of_getElem? (i := 35) rfl))⟩)
  have E_DESCRIBE_CONFIGS := Exa.start ev_DESCRIBE_CONFIGS c25
  obtain ⟨a_LEAVE_GROUP, ev_LEAVE_GROUP⟩ := exa_v c29
  have S_LEAVE_GROUP := Sta.start ev_LEAVE_GROUP (Or.inr ⟨(hw _ (List.mem_of_getElem? (i := 7) rfl)), (hw _ (List.mem_of_getElem? (i := 37) rfl))⟩)
  have E_LEAVE_GROUP := Exa.start ev_LEAVE_GROUP c29
  obtain ⟨a_LIST_OFFSETS, ev_LIST_OFFSETS⟩ := exa_v c32
  have S_LIST_OFFSETS := Sta.start ev_LIST_OFFSETS (Or.inr ⟨(hw _ (List.mem_of_getElem? (i := 7) rfl)), (hw _ (List.mem_of_getElem? (i := 39) rfl))⟩)
  have E_LIST_OFFSETS := Exa.start ev_LIST_OFFSETS c32
  obtain ⟨a_DESCRIBE_GROUPS, ev_DESCRIBE_GROUPS⟩ := exa_v c34
  have S_DESCRIBE_GROUPS := Sta.start ev_DESCRIBE_GROUPS (Or.inr ⟨(hw _ (List.mem_of_getElem? (i := 7) rfl)), (hw _ (List.mem_of_getElem? (i := 41) rfl))⟩)
  have E_DESCRIBE_GROUPS := Exa.start ev_DESCRIBE_GROUPS c34
  obtain ⟨a_FIND_COORDINATOR, ev_FIND_COORDINATOR⟩ := exa_v c37
  have S_FIND_COORDINATOR := Sta.start ev_FIND_COORDINATOR (Or.inr ⟨(hw _ (List.mem_of_getElem? (i := 7) rfl)), (hw _ (List.mem_of_getElem? (i := 43) rfl))⟩)
  have E_FIND_COORDINATOR := Exa.start ev_FIND_COORDINATOR c37
  obtain ⟨a_API_VERSIONS, ev_API_VERSIONS⟩ := exa_v c39
  have S_API_VERSIONS := Sta.start ev_API_VERSIONS (Or.inr ⟨(hw _ (List.mem_of_getElem? (i := 7) rfl)), (hw _ (List.mem_of_getElem? (i := 45) rfl))⟩)
  have E_API_VERSIONS := Exa.start ev_API_VERSIONS c39
  obtain ⟨a_OFFSET_FETCH, ev_OFFSET_FETCH⟩ := exa_v c41
  have S_OFFSET_FETCH := Sta.start ev_OFFSET_FETCH (Or.inr ⟨(hw _ (List.mem_of_getElem? (i := 7) rfl)), (hw _ (List.mem_of_getElem? (i := 47) rfl))⟩)
  have E_OFFSET_FETCH := Exa.start ev_OFFSET_FETCH c41
  obtain ⟨a_CREATE_PARTITIONS, ev_CREATE_PARTITIONS⟩ := exa_v c46
  have S_CREATE_PARTITIONS := Sta.start ev_CREATE_PARTITIONS (Or.inr ⟨(hw _ (List.mem_of_getElem? (i := 7) rfl)), (hw _ (List.mem_of_getElem? (i := 49) rfl))⟩)
  have E_CREATE_PARTITIONS := Exa.start ev_CREATE_PARTITIONS c46
  obtain ⟨a_JOIN_GROUP, ev_JOIN_GROUP⟩ := exa_v c50
  have S_JOIN_GROUP := Sta.start ev_JOIN_GROUP (Or.inr ⟨(hw _ (List.mem_of_getElem? (i := 7) rfl)), (hw _ (List.mem_of_getElem? (i := 51) rfl))⟩)
  have E_JOIN_GROUP := Exa.start ev_JOIN_GROUP c50
  obtain ⟨a_DELETE_GROUPS, ev_DELETE_GROUPS⟩ := exa_v c54
  have S_DELETE_GROUPS := Sta.start ev_DELETE_GROUPS (Or.inr ⟨(hw _ (List.mem_of_getElem? (i := 7) rfl)), (hw _ (List.mem_of_getElem? (i := 53) rfl))⟩)
  have E_DELETE_GROUPS := Exa.start ev_DELETE_GROUPS c54
  obtain ⟨a_LIST_GROUPS, ev_LIST_GROUPS⟩ := exa_v c57
  have S_LIST_GROUPS := Sta.start ev_LIST_GROUPS (Or.inr ⟨(hw _ (List.mem_of_getElem? (i := 7) rfl)), (hw _ (List.mem_of_getElem? (i := 55) rfl))⟩)
  have E_LIST_GROUPS := Exa.start ev_LIST_GROUPS c57
  have F_PRODUCE_oldestVersion := Fld.start (own_feq ev_PRODUCE c1)
  have F_PRODUCE_latestVersion := Fld.start (own_feq ev_PRODUCE c2)
  have F_FETCH_oldestVersion := Fld.start (own_feq ev_FETCH c4)
  have F_OFFSET_COMMIT_oldestVersion := Fld.start (own_feq ev_OFFSET_COMMIT c6)
  have F_OFFSET_COMMIT_latestVersion := Fld.start (own_feq ev_OFFSET_COMMIT c7)
  have F_DELETE_TOPICS_oldestVersion := Fld.start (own_feq ev_DELETE_TOPICS c9)
  have F_HEARTBEAT_oldestVersion := Fld.start (own_feq ev_HEARTBEAT c11)
  have F_CREATE_TOPICS_oldestVersion := Fld.start (own_feq ev_CREATE_TOPICS c13)
  have F_HEARTBEAT_latestVersion := Fld.start (own_feq ev_HEARTBEAT c14)
  have F_DELETE_TOPICS_latestVersion := Fld.start (own_feq ev_DELETE_TOPICS c15)
  have F_METADATA_oldestVersion := Fld.start (own_feq ev_METADATA c17)
  have F_METADATA_latestVersion := Fld.start (own_feq ev_METADATA c18)
  have F_SYNC_GROUP_oldestVersion := Fld.start (own_feq ev_SYNC_GROUP c20)
  have F_SYNC_GROUP_latestVersion := Fld.start (own_feq ev_SYNC_GROUP c21)
  have F_INIT_PRODUCER_ID_oldestVersion := Fld.start (own_feq ev_INIT_PRODUCER_ID c23)
  have F_INIT_PRODUCER_ID_latestVersion := Fld.start (own_feq ev_INIT_PRODUCER_ID c24)
  have F_DESCRIBE_CONFIGS_oldestVersion := Fld.start (own_feq ev_DESCRIBE_CONFIGS c26)
  have F_DESCRIBE_CONFIGS_latestVersion := Fld.start (own_feq ev_DESCRIBE_CONFIGS c27)
  have F_FETCH_latestVersion := Fld.start (own_feq ev_FETCH c28)
  have F_LEAVE_GROUP_oldestVersion := Fld.start (own_feq ev_LEAVE_GROUP c30)
  have F_LEAVE_GROUP_latestVersion := Fld.start (own_feq ev_LEAVE_GROUP c31)
  have F_LIST_OFFSETS_oldestVersion := Fld.start (own_feq ev_LIST_OFFSETS c33)
  have F_DESCRIBE_GROUPS_oldestVersion := Fld.start (own_feq ev_DESCRIBE_GROUPS c35)
  have F_LIST_OFFSETS_latestVersion := Fld.start (own_feq ev_LIST_OFFSETS c36)
  have F_FIND_COORDINATOR_oldestVersion := Fld.start (own_feq ev_FIND_COORDINATOR c38)
  have F_API_VERSIONS_oldestVersion := Fld.start (own_feq ev_API_VERSIONS c40)
  have F_OFFSET_FETCH_oldestVersion := Fld.start (own_feq ev_OFFSET_FETCH c42)
  have F_OFFSET_FETCH_latestVersion := Fld.start (own_feq ev_OFFSET_FETCH c43)
  have F_CREATE_TOPICS_latestVersion := Fld.start (own_feq ev_CREATE_TOPICS c44)
  have F_DESCRIBE_GROUPS_latestVersion := Fld.start (own_feq ev_DESCRIBE_GROUPS c45)
  have F_CREATE_PARTITIONS_oldestVersion := Fld.start (own_feq ev_CREATE_PARTITIONS c47)
  have F_CREATE_PARTITIONS_latestVersion := Fld.start (own_feq ev_CREATE_PARTITIONS c48)
  have F_FIND_COORDINATOR_latestVersion := Fld.start (own_feq ev_FIND_COORDINATOR c49)
  have F_JOIN_GROUP_oldestVersion := Fld.start (own_feq ev_JOIN_GROUP c51)
  have F_API_VERSIONS_latestVersion := Fld.start (own_feq ev_API_VERSIONS c52)
  have F_JOIN_GROUP_latestVersion := Fld.start (own_feq ev_JOIN_GROUP c53)
  have F_DELETE_GROUPS_oldestVersion := Fld.start (own_feq ev_DELETE_GROUPS c55)
  have F_DELETE_GROUPS_latestVersion := Fld.start (own_feq ev_DELETE_GROUPS c56)
  have F_LIST_GROUPS_oldestVersion := Fld.start (own_feq ev_LIST_GROUPS c58)
  have F_LIST_GROUPS_latestVersion := Fld.start (own_feq ev_LIST_GROUPS c59)
  obtain ⟨f, hf0⟩ : ∃ f : Nat → Addr, f = fun k => ([a_PRODUCE, a_FETCH, a_LIST_OFFSETS, a_METADATA, a_OFFSET_COMMIT, a_OFFSET_FETCH, a_FIND_COORDINATOR, a_JOIN_GROUP, a_HEARTBEAT, a_LEAVE_GROUP, a_SYNC_GROUP, a_DESCRIBE_GROUPS, a_LIST_GROUPS, a_API_VERSIONS, a_CREATE_TOPICS, a_DELETE_TOPICS, a_INIT_PRODUCER_ID, a_DESCRIBE_CONFIGS, a_CREATE_PARTITIONS, a_DELETE_GROUPS] : List Addr).getD k 0 := ⟨_, rfl⟩
  have q_0 : f 0 = a_PRODUCE := by rw [hf0]; rfl
  have q_1 : f 1 = a_FETCH := by rw [hf0]; rfl
  have q_2 : f 2 = a_LIST_OFFSETS := by rw [hf0]; rfl
  have q_3 : f 3 = a_METADATA := by rw [hf0]; rfl
  have q_4 : f 4 = a_OFFSET_COMMIT := by rw [hf0]; rfl
  have q_5 : f 5 = a_OFFSET_FETCH := by rw [hf0]; rfl
  have q_6 : f 6 = a_FIND_COORDINATOR := by rw [hf0]; rfl
  have q_7 : f 7 = a_JOIN_GROUP := by rw [hf0]; rfl
  have q_8 : f 8 = a_HEARTBEAT := by rw [hf0]; rfl
  have q_9 : f 9 = a_LEAVE_GROUP := by rw [hf0]; rfl
  have q_10 : f 10 = a_SYNC_GROUP := by rw [hf0]; rfl
  have q_11 : f 11 = a_DESCRIBE_GROUPS := by rw [hf0]; rfl
  have q_12 : f 12 = a_LIST_GROUPS := by rw [hf0]; rfl
  have q_13 : f 13 = a_API_VERSIONS := by rw [hf0]; rfl
  have q_14 : f 14 = a_CREATE_TOPICS := by rw [hf0]; rfl
  have q_15 : f 15 = a_DELETE_TOPICS := by rw [hf0]; rfl
  have q_16 : f 16 = a_INIT_PRODUCER_ID := by rw [hf0]; rfl
  have q_17 : f 17 = a_DESCRIBE_CONFIGS := by rw [hf0]; rfl
  have q_18 : f 18 = a_CREATE_PARTITIONS := by rw [hf0]; rfl
  have q_19 : f 19 = a_DELETE_GROUPS := by rw [hf0]; rfl
  have E0 : ∀ k, k < 20 → Exa s s.heap (f k) "com/example/waxwing/waxwing/protocol/ApiKey" := fun k hk => by
    rcases own_cases hk with rfl | rfl | rfl | rfl | rfl | rfl | rfl | rfl | rfl | rfl | rfl | rfl | rfl | rfl | rfl | rfl | rfl | rfl | rfl | rfl
    · rw [q_0]; exact E_PRODUCE
    · rw [q_1]; exact E_FETCH
    · rw [q_2]; exact E_LIST_OFFSETS
    · rw [q_3]; exact E_METADATA
    · rw [q_4]; exact E_OFFSET_COMMIT
    · rw [q_5]; exact E_OFFSET_FETCH
    · rw [q_6]; exact E_FIND_COORDINATOR
    · rw [q_7]; exact E_JOIN_GROUP
    · rw [q_8]; exact E_HEARTBEAT
    · rw [q_9]; exact E_LEAVE_GROUP
    · rw [q_10]; exact E_SYNC_GROUP
    · rw [q_11]; exact E_DESCRIBE_GROUPS
    · rw [q_12]; exact E_LIST_GROUPS
    · rw [q_13]; exact E_API_VERSIONS
    · rw [q_14]; exact E_CREATE_TOPICS
    · rw [q_15]; exact E_DELETE_TOPICS
    · rw [q_16]; exact E_INIT_PRODUCER_ID
    · rw [q_17]; exact E_DESCRIBE_CONFIGS
    · rw [q_18]; exact E_CREATE_PARTITIONS
    · rw [q_19]; exact E_DELETE_GROUPS
  have F01 : ∀ k, k < 20 → Fld s s.heap (f k) "com/example/waxwing/waxwing/protocol/ApiKey" "oldestVersion" "S" (.int (own_lo k)) := fun k hk => by
    rcases own_cases hk with rfl | rfl | rfl | rfl | rfl | rfl | rfl | rfl | rfl | rfl | rfl | rfl | rfl | rfl | rfl | rfl | rfl | rfl | rfl | rfl
    · rw [q_0]; exact F_PRODUCE_oldestVersion
    · rw [q_1]; exact F_FETCH_oldestVersion
    · rw [q_2]; exact F_LIST_OFFSETS_oldestVersion
    · rw [q_3]; exact F_METADATA_oldestVersion
    · rw [q_4]; exact F_OFFSET_COMMIT_oldestVersion
    · rw [q_5]; exact F_OFFSET_FETCH_oldestVersion
    · rw [q_6]; exact F_FIND_COORDINATOR_oldestVersion
    · rw [q_7]; exact F_JOIN_GROUP_oldestVersion
    · rw [q_8]; exact F_HEARTBEAT_oldestVersion
    · rw [q_9]; exact F_LEAVE_GROUP_oldestVersion
    · rw [q_10]; exact F_SYNC_GROUP_oldestVersion
    · rw [q_11]; exact F_DESCRIBE_GROUPS_oldestVersion
    · rw [q_12]; exact F_LIST_GROUPS_oldestVersion
    · rw [q_13]; exact F_API_VERSIONS_oldestVersion
    · rw [q_14]; exact F_CREATE_TOPICS_oldestVersion
    · rw [q_15]; exact F_DELETE_TOPICS_oldestVersion
    · rw [q_16]; exact F_INIT_PRODUCER_ID_oldestVersion
    · rw [q_17]; exact F_DESCRIBE_CONFIGS_oldestVersion
    · rw [q_18]; exact F_CREATE_PARTITIONS_oldestVersion
    · rw [q_19]; exact F_DELETE_GROUPS_oldestVersion
  have F02 : ∀ k, k < 20 → Fld s s.heap (f k) "com/example/waxwing/waxwing/protocol/ApiKey" "latestVersion" "S" (.int (own_hi k)) := fun k hk => by
    rcases own_cases hk with rfl | rfl | rfl | rfl | rfl | rfl | rfl | rfl | rfl | rfl | rfl | rfl | rfl | rfl | rfl | rfl | rfl | rfl | rfl | rfl
    · rw [q_0]; exact F_PRODUCE_latestVersion
    · rw [q_1]; exact F_FETCH_latestVersion
    · rw [q_2]; exact F_LIST_OFFSETS_latestVersion
    · rw [q_3]; exact F_METADATA_latestVersion
    · rw [q_4]; exact F_OFFSET_COMMIT_latestVersion
    · rw [q_5]; exact F_OFFSET_FETCH_latestVersion
    · rw [q_6]; exact F_FIND_COORDINATOR_latestVersion
    · rw [q_7]; exact F_JOIN_GROUP_latestVersion
    · rw [q_8]; exact F_HEARTBEAT_latestVersion
    · rw [q_9]; exact F_LEAVE_GROUP_latestVersion
    · rw [q_10]; exact F_SYNC_GROUP_latestVersion
    · rw [q_11]; exact F_DESCRIBE_GROUPS_latestVersion
    · rw [q_12]; exact F_LIST_GROUPS_latestVersion
    · rw [q_13]; exact F_API_VERSIONS_latestVersion
    · rw [q_14]; exact F_CREATE_TOPICS_latestVersion
    · rw [q_15]; exact F_DELETE_TOPICS_latestVersion
    · rw [q_16]; exact F_INIT_PRODUCER_ID_latestVersion
    · rw [q_17]; exact F_DESCRIBE_CONFIGS_latestVersion
    · rw [q_18]; exact F_CREATE_PARTITIONS_latestVersion
    · rw [q_19]; exact F_DELETE_GROUPS_latestVersion
  obtain ⟨n, o, h1, h2, h3, _, L, rfl, ⟨rfl, N⟩, hq⟩ := rm0 l s _ hw tables_1 i0 i1 i2 f s.heap s.heap.size (Nat.le_refl _) (Old.start s) (q_0.symm ▸ S_PRODUCE) (q_1.symm ▸ S_FETCH) (q_2.symm ▸ S_LIST_OFFSETS) (q_3.symm ▸ S_METADATA) (q_4.symm ▸ S_OFFSET_COMMIT) (q_5.symm ▸ S_OFFSET_FETCH) (q_6.symm ▸ S_FIND_COORDINATOR) (q_7.symm ▸ S_JOIN_GROUP) (q_8.symm ▸ S_HEARTBEAT) (q_9.symm ▸ S_LEAVE_GROUP) (q_10.symm ▸ S_SYNC_GROUP) (q_11.symm ▸ S_DESCRIBE_GROUPS) (q_12.symm ▸ S_LIST_GROUPS) (q_13.symm ▸ S_API_VERSIONS) (q_14.symm ▸ S_CREATE_TOPICS) (q_15.symm ▸ S_DELETE_TOPICS) (q_16.symm ▸ S_INIT_PRODUCER_ID) (q_17.symm ▸ S_DESCRIBE_CONFIGS) (q_18.symm ▸ S_CREATE_PARTITIONS) (q_19.symm ▸ S_DELETE_GROUPS) E0 F01 F02 p e ha hc hk s m _ below hf ((Spec.applies_iff_loose hf).mp happ).1 ⟨rfl, State.Warmed39.refl s, rfl⟩ trivial
  refine ⟨n, _, h1, h2, h3, hpost _ _ _ _ _ _ ⟨Cond.after_iff.mpr rfl, Cond.after_iff.mpr (eq_i res_at (Term.int_eval (1)) rfl), trivial⟩ ⟨hq.1, hq.2.1, (hq.2.2.sift fun y hy => Or.inr (N y hy)).mono (by decide) (by decide)⟩⟩
theorem main_1_1 : Claimed_1_1 := comes_1 fun _ _ _ _ _ _ h hF => ⟨h.1, hF⟩
theorem main_1_2 : Claimed_1_2 := comes_1 fun _ _ _ _ _ _ h hF => ⟨h.2.1, hF⟩
end Jvm.Pilot.@@N@@
namespace Jvm.Pilot.@@N@@
open Jvm Jvm.ClassFile Sem Op Lib Jvm.Free Jvm.Stand Jvm.Pilot.@@N@@.Jvm.D
/-! MADE BY PROGRAM (witnessworld.py) out of the Statement's table words and the real class files: 12 classes; the members and pool entries that the words name. The judged class is class 1, her method 1. -/
namespace start1
open Jvm.ClassFile
def u (s : String) : CpInfo := .utf8 (stringToUtf16 s)
/-- a pool by its gaps: so many unusable entries, then the entry; so many at the end -/
def gap : Nat → List CpInfo → List CpInfo
  | 0, r => r
  | n + 1, r => .unusable :: gap n r
def poolList (es : List (Nat × CpInfo)) (last : Nat) : List CpInfo := es.foldr (fun e r => gap e.1 (e.2 :: r)) (gap last [])
def pool (es : List (Nat × CpInfo)) (last : Nat) : Array CpInfo := ⟨poolList es last⟩
def fileOf (pool : Array CpInfo) (this : Nat) (attrs : Array Attribute := #[]) (ms : Array MethodInfo := #[]) (fl : Nat := 33) (sup : Nat := 0) (ifs : Array Nat := #[]) (fds : Array FieldInfo := #[]) : ClassFile where
  minorVersion := 0
  majorVersion := 65
  constantPool := pool
  accessFlags := fl
  thisClass := this
  superClass := sup
  interfaces := ifs
  fields := fds
  methods := ms
  attributes := attrs
def plain (name : String) (sup : Option ClassId) : Class where
  name := name
  kind := .ordinary
  loader := none
  accessFlags := 33
  super := sup
  interfaces := #[]
  cf := none
  fields := #[]
  methods := #[]
  instanceTypes := #[]
  staticTypes := #[]
  resolved := #[]
  callSites := []
  init := .initialized
  statics := none
  mirror := none

def pool0 : Array CpInfo := pool [(5, u "<init>"), (0, u "()V"), (1, .class_ 10), (1, u "java/lang/Object")] 113

def k0m0 : Method := { name := "<init>", desc := "()V", sig := { parameters := [], returnType := none }, accessFlags := 1, code := none }
/-- java/lang/Object -/
def k0 : Class := { plain "java/lang/Object" none with
  accessFlags := 33
  interfaces := #[]
  cf := some (fileOf pool0 8 #[] #[{ accessFlags := 1, nameIndex := 5, descriptorIndex := 6, attributes := #[] }] 33 0 #[] #[])
  fields := #[]
  methods := #[k0m0]
  instanceTypes := #[]
  staticTypes := #[]
  resolved := Array.replicate 124 none
  statics := none }

def pool1 : Array CpInfo := pool [(2, .class_ 4), (1, u "java/lang/Object"), (0, u "<init>"), (0, u "()V"), (0, .integer 2147483647), (0, .methodref 9 10), (0, .class_ 11), (0, .nameAndType 12 13), (0, u "com/example/waxwing/waxwing/protocol/ApiKeyHandlesPinLaw"), (0, u "pick"), (0, u "(I)Lcom/example/waxwing/waxwing/protocol/ApiKey;"), (0, .methodref 15 16), (0, .class_ 17), (0, .nameAndType 18 19), (0, u "com/example/waxwing/waxwing/protocol/ApiKey"), (0, u "handles"), (0, u "(S)Z"), (0, .fieldref 15 21), (0, .nameAndType 22 23), (0, u "PRODUCE"), (0, u "Lcom/example/waxwing/waxwing/protocol/ApiKey;"), (0, .fieldref 15 25), (0, .nameAndType 26 23), (0, u "FETCH"), (0, .fieldref 15 28), (0, .nameAndType 29 23), (0, u "LIST_OFFSETS"), (0, .fieldref 15 31), (0, .nameAndType 32 23), (0, u "METADATA"), (0, .fieldref 15 34), (0, .nameAndType 35 23), (0, u "OFFSET_COMMIT"), (0, .fieldref 15 37), (0, .nameAndType 38 23), (0, u "OFFSET_FETCH"), (0, .fieldref 15 40), (0, .nameAndType 41 23), (0, u "FIND_COORDINATOR"), (0, .fieldref 15 43), (0, .nameAndType 44 23), (0, u "JOIN_GROUP"), (0, .fieldref 15 46), (0, .nameAndType 47 23), (0, u "HEARTBEAT"), (0, .fieldref 15 49), (0, .nameAndType 50 23), (0, u "LEAVE_GROUP"), (0, .fieldref 15 52), (0, .nameAndType 53 23), (0, u "SYNC_GROUP"), (0, .fieldref 15 55), (0, .nameAndType 56 23), (0, u "DESCRIBE_GROUPS"), (0, .fieldref 15 58), (0, .nameAndType 59 23), (0, u "LIST_GROUPS"), (0, .fieldref 15 61), (0, .nameAndType 62 23), (0, u "API_VERSIONS"), (0, .fieldref 15 64), (0, .nameAndType 65 23), (0, u "CREATE_TOPICS"), (0, .fieldref 15 67), (0, .nameAndType 68 23), (0, u "DELETE_TOPICS"), (0, .fieldref 15 70), (0, .nameAndType 71 23), (0, u "INIT_PRODUCER_ID"), (0, .fieldref 15 73), (0, .nameAndType 74 23), (0, u "DESCRIBE_CONFIGS"), (0, .fieldref 15 76), (0, .nameAndType 77 23), (0, u "CREATE_PARTITIONS"), (0, .fieldref 15 79), (0, .nameAndType 80 23), (0, u "DELETE_GROUPS"), (2, u "law"), (0, u "(III)Z")] 5

def k1m0 : Method := { name := "<init>", desc := "()V", sig := { parameters := [], returnType := none }, accessFlags := 1, code := none }
def k1c1 : Code := { maxStack := 4, maxLocals := 12, code := code, exceptionTable := #[], attributes := #[] }
def k1m1 : Method := { name := "law", desc := "(III)Z", sig := { parameters := [.int, .int, .int], returnType := some .boolean }, accessFlags := 9, code := some k1c1 }
def k1c2 : Code := { maxStack := 1, maxLocals := 1, code := method_3_code, exceptionTable := #[], attributes := #[] }
def k1m2 : Method := { name := "pick", desc := "(I)Lcom/example/waxwing/waxwing/protocol/ApiKey;", sig := { parameters := [.int], returnType := some (.object "com/example/waxwing/waxwing/protocol/ApiKey") }, accessFlags := 10, code := some k1c2 }
/-- com/example/waxwing/waxwing/protocol/ApiKeyHandlesPinLaw -/
def k1 : Class := { plain "com/example/waxwing/waxwing/protocol/ApiKeyHandlesPinLaw" (some 0) with
  accessFlags := 49
  interfaces := #[]
  cf := some (fileOf pool1 9 #[] #[{ accessFlags := 1, nameIndex := 5, descriptorIndex := 6, attributes := #[] }, { accessFlags := 9, nameIndex := 83, descriptorIndex := 84, attributes := #[] }, { accessFlags := 10, nameIndex := 12, descriptorIndex := 13, attributes := #[] }] 49 2 #[] #[])
  fields := #[]
  methods := #[k1m0, k1m1, k1m2]
  instanceTypes := #[]
  staticTypes := #[]
  resolved := Array.replicate 90 none
  statics := none }

def pool2 : Array CpInfo := pool [(1, .class_ 2), (0, u "java/lang/constant/Constable"), (0, .class_ 4), (0, u "java/lang/Object")] 6

/-- java/lang/constant/Constable -/
def k2 : Class := { plain "java/lang/constant/Constable" (some 0) with
  accessFlags := 1537
  interfaces := #[]
  cf := some (fileOf pool2 1 #[] #[] 1537 3 #[] #[])
  fields := #[]
  methods := #[]
  instanceTypes := #[]
  staticTypes := #[]
  resolved := Array.replicate 11 none
  statics := none }

def pool3 : Array CpInfo := pool [(1, .class_ 2), (0, u "java/lang/Comparable"), (0, .class_ 4), (0, u "java/lang/Object")] 7

/-- java/lang/Comparable -/
def k3 : Class := { plain "java/lang/Comparable" (some 0) with
  accessFlags := 1537
  interfaces := #[]
  cf := some (fileOf pool3 1 #[] #[] 1537 3 #[] #[])
  fields := #[]
  methods := #[]
  instanceTypes := #[]
  staticTypes := #[]
  resolved := Array.replicate 12 none
  statics := none }

def pool4 : Array CpInfo := pool [(1, .class_ 2), (0, u "java/io/Serializable"), (0, .class_ 4), (0, u "java/lang/Object")] 2

/-- java/io/Serializable -/
def k4 : Class := { plain "java/io/Serializable" (some 0) with
  accessFlags := 1537
  interfaces := #[]
  cf := some (fileOf pool4 1 #[] #[] 1537 3 #[] #[])
  fields := #[]
  methods := #[]
  instanceTypes := #[]
  staticTypes := #[]
  resolved := Array.replicate 7 none
  statics := none }

def pool5 : Array CpInfo := pool [(2, .class_ 4), (1, u "java/lang/Enum"), (0, u "name"), (0, u "Ljava/lang/String;"), (2, u "ordinal"), (0, u "I"), (1, .class_ 14), (1, u "java/lang/Object"), (4, u "hash"), (86, .class_ 108), (1, u "java/lang/Enum$EnumDesc"), (2, .class_ 112), (0, u "java/lang/constant/Constable"), (0, .class_ 114), (0, u "java/lang/Comparable"), (0, .class_ 116), (0, u "java/io/Serializable")] 87

/-- java/lang/Enum -/
def k5 : Class := { plain "java/lang/Enum" (some 0) with
  accessFlags := 1057
  interfaces := #[2, 3, 4]
  cf := some (fileOf pool5 2 #[.nestMembers #[106]] #[] 1057 12 #[111, 113, 115] #[{ accessFlags := 18, nameIndex := 5, descriptorIndex := 6, attributes := #[] }, { accessFlags := 18, nameIndex := 9, descriptorIndex := 10, attributes := #[] }, { accessFlags := 2, nameIndex := 19, descriptorIndex := 10, attributes := #[] }])
  fields := #[{ name := "name", type := (.object "java/lang/String"), accessFlags := 18, slot := 0, constantValue := 0 }, { name := "ordinal", type := .int, accessFlags := 18, slot := 1, constantValue := 0 }, { name := "hash", type := .int, accessFlags := 2, slot := 2, constantValue := 0 }]
  methods := #[]
  instanceTypes := #[(.object "java/lang/String"), .int, .int]
  staticTypes := #[]
  resolved := Array.replicate 204 none
  statics := none }

def pool6 : Array CpInfo := pool [(3, .class_ 4), (0, u "com/example/waxwing/waxwing/protocol/ApiKey"), (2, u "PRODUCE"), (0, u "Lcom/example/waxwing/waxwing/protocol/ApiKey;"), (2, u "FETCH"), (2, u "LIST_OFFSETS"), (2, u "METADATA"), (2, u "OFFSET_COMMIT"), (2, u "OFFSET_FETCH"), (2, u "FIND_COORDINATOR"), (2, u "JOIN_GROUP"), (2, u "HEARTBEAT"), (2, u "LEAVE_GROUP"), (2, u "SYNC_GROUP"), (2, u "DESCRIBE_GROUPS"), (2, u "LIST_GROUPS"), (2, u "API_VERSIONS"), (2, u "CREATE_TOPICS"), (2, u "DELETE_TOPICS"), (2, u "INIT_PRODUCER_ID"), (2, u "DESCRIBE_CONFIGS"), (2, u "CREATE_PARTITIONS"), (2, u "DELETE_GROUPS"), (2, u "$VALUES"), (0, u "[Lcom/example/waxwing/waxwing/protocol/ApiKey;"), (6, .class_ 78), (1, u "java/lang/Enum"), (11, u "id"), (0, u "S"), (0, .fieldref 3 93), (0, .nameAndType 94 91), (0, u "oldestVersion"), (0, .fieldref 3 96), (0, .nameAndType 97 91), (0, u "latestVersion"), (2, u "firstFlexibleVersion"), (2, u "BY_ID"), (39, u "NONE_FLEXIBLE"), (13, u "handles"), (0, u "(S)Z")] 6

def k6c0 : Code := { maxStack := 2, maxLocals := 2, code := prog_22_method_10_code, exceptionTable := #[], attributes := #[] }
def k6m0 : Method := { name := "handles", desc := "(S)Z", sig := { parameters := [.short], returnType := some .boolean }, accessFlags := 1, code := some k6c0 }
/-- com/example/waxwing/waxwing/protocol/ApiKey -/
def k6 : Class := { plain "com/example/waxwing/waxwing/protocol/ApiKey" (some 5) with
  accessFlags := 16433
  interfaces := #[]
  cf := some (fileOf pool6 3 #[] #[{ accessFlags := 1, nameIndex := 157, descriptorIndex := 158, attributes := #[] }] 16433 76 #[] #[{ accessFlags := 16409, nameIndex := 7, descriptorIndex := 8, attributes := #[] }, { accessFlags := 16409, nameIndex := 11, descriptorIndex := 8, attributes := #[] }, { accessFlags := 16409, nameIndex := 14, descriptorIndex := 8, attributes := #[] }, { accessFlags := 16409, nameIndex := 17, descriptorIndex := 8, attributes := #[] }, { accessFlags := 16409, nameIndex := 20, descriptorIndex := 8, attributes := #[] }, { accessFlags := 16409, nameIndex := 23, descriptorIndex := 8, attributes := #[] }, { accessFlags := 16409, nameIndex := 26, descriptorIndex := 8, attributes := #[] }, { accessFlags := 16409, nameIndex := 29, descriptorIndex := 8, attributes := #[] }, { accessFlags := 16409, nameIndex := 32, descriptorIndex := 8, attributes := #[] }, { accessFlags := 16409, nameIndex := 35, descriptorIndex := 8, attributes := #[] }, { accessFlags := 16409, nameIndex := 38, descriptorIndex := 8, attributes := #[] }, { accessFlags := 16409, nameIndex := 41, descriptorIndex := 8, attributes := #[] }, { accessFlags := 16409, nameIndex := 44, descriptorIndex := 8, attributes := #[] }, { accessFlags := 16409, nameIndex := 47, descriptorIndex := 8, attributes := #[] }, { accessFlags := 16409, nameIndex := 50, descriptorIndex := 8, attributes := #[] }, { accessFlags := 16409, nameIndex := 53, descriptorIndex := 8, attributes := #[] }, { accessFlags := 16409, nameIndex := 56, descriptorIndex := 8, attributes := #[] }, { accessFlags := 16409, nameIndex := 59, descriptorIndex := 8, attributes := #[] }, { accessFlags := 16409, nameIndex := 62, descriptorIndex := 8, attributes := #[] }, { accessFlags := 16409, nameIndex := 65, descriptorIndex := 8, attributes := #[] }, { accessFlags := 26, nameIndex := 143, descriptorIndex := 91, attributes := #[] }, { accessFlags := 26, nameIndex := 103, descriptorIndex := 69, attributes := #[] }, { accessFlags := 18, nameIndex := 90, descriptorIndex := 91, attributes := #[] }, { accessFlags := 18, nameIndex := 94, descriptorIndex := 91, attributes := #[] }, { accessFlags := 18, nameIndex := 97, descriptorIndex := 91, attributes := #[] }, { accessFlags := 18, nameIndex := 100, descriptorIndex := 91, attributes := #[] }, { accessFlags := 4122, nameIndex := 68, descriptorIndex := 69, attributes := #[] }])
  fields := #[{ name := "PRODUCE", type := (.object "com/example/waxwing/waxwing/protocol/ApiKey"), accessFlags := 16409, slot := 0, constantValue := 0 }, { name := "FETCH", type := (.object "com/example/waxwing/waxwing/protocol/ApiKey"), accessFlags := 16409, slot := 1, constantValue := 0 }, { name := "LIST_OFFSETS", type := (.object "com/example/waxwing/waxwing/protocol/ApiKey"), accessFlags := 16409, slot := 2, constantValue := 0 }, { name := "METADATA", type := (.object "com/example/waxwing/waxwing/protocol/ApiKey"), accessFlags := 16409, slot := 3, constantValue := 0 }, { name := "OFFSET_COMMIT", type := (.object "com/example/waxwing/waxwing/protocol/ApiKey"), accessFlags := 16409, slot := 4, constantValue := 0 }, { name := "OFFSET_FETCH", type := (.object "com/example/waxwing/waxwing/protocol/ApiKey"), accessFlags := 16409, slot := 5, constantValue := 0 }, { name := "FIND_COORDINATOR", type := (.object "com/example/waxwing/waxwing/protocol/ApiKey"), accessFlags := 16409, slot := 6, constantValue := 0 }, { name := "JOIN_GROUP", type := (.object "com/example/waxwing/waxwing/protocol/ApiKey"), accessFlags := 16409, slot := 7, constantValue := 0 }, { name := "HEARTBEAT", type := (.object "com/example/waxwing/waxwing/protocol/ApiKey"), accessFlags := 16409, slot := 8, constantValue := 0 }, { name := "LEAVE_GROUP", type := (.object "com/example/waxwing/waxwing/protocol/ApiKey"), accessFlags := 16409, slot := 9, constantValue := 0 }, { name := "SYNC_GROUP", type := (.object "com/example/waxwing/waxwing/protocol/ApiKey"), accessFlags := 16409, slot := 10, constantValue := 0 }, { name := "DESCRIBE_GROUPS", type := (.object "com/example/waxwing/waxwing/protocol/ApiKey"), accessFlags := 16409, slot := 11, constantValue := 0 }, { name := "LIST_GROUPS", type := (.object "com/example/waxwing/waxwing/protocol/ApiKey"), accessFlags := 16409, slot := 12, constantValue := 0 }, { name := "API_VERSIONS", type := (.object "com/example/waxwing/waxwing/protocol/ApiKey"), accessFlags := 16409, slot := 13, constantValue := 0 }, { name := "CREATE_TOPICS", type := (.object "com/example/waxwing/waxwing/protocol/ApiKey"), accessFlags := 16409, slot := 14, constantValue := 0 }, { name := "DELETE_TOPICS", type := (.object "com/example/waxwing/waxwing/protocol/ApiKey"), accessFlags := 16409, slot := 15, constantValue := 0 }, { name := "INIT_PRODUCER_ID", type := (.object "com/example/waxwing/waxwing/protocol/ApiKey"), accessFlags := 16409, slot := 16, constantValue := 0 }, { name := "DESCRIBE_CONFIGS", type := (.object "com/example/waxwing/waxwing/protocol/ApiKey"), accessFlags := 16409, slot := 17, constantValue := 0 }, { name := "CREATE_PARTITIONS", type := (.object "com/example/waxwing/waxwing/protocol/ApiKey"), accessFlags := 16409, slot := 18, constantValue := 0 }, { name := "DELETE_GROUPS", type := (.object "com/example/waxwing/waxwing/protocol/ApiKey"), accessFlags := 16409, slot := 19, constantValue := 0 }, { name := "NONE_FLEXIBLE", type := .short, accessFlags := 26, slot := 20, constantValue := 0 }, { name := "BY_ID", type := (.array (.object "com/example/waxwing/waxwing/protocol/ApiKey")), accessFlags := 26, slot := 21, constantValue := 0 }, { name := "id", type := .short, accessFlags := 18, slot := 3, constantValue := 0 }, { name := "oldestVersion", type := .short, accessFlags := 18, slot := 4, constantValue := 0 }, { name := "latestVersion", type := .short, accessFlags := 18, slot := 5, constantValue := 0 }, { name := "firstFlexibleVersion", type := .short, accessFlags := 18, slot := 6, constantValue := 0 }, { name := "$VALUES", type := (.array (.object "com/example/waxwing/waxwing/protocol/ApiKey")), accessFlags := 4122, slot := 22, constantValue := 0 }]
  methods := #[k6m0]
  instanceTypes := #[(.object "java/lang/String"), .int, .int, .short, .short, .short, .short]
  staticTypes := #[(.object "com/example/waxwing/waxwing/protocol/ApiKey"), (.object "com/example/waxwing/waxwing/protocol/ApiKey"), (.object "com/example/waxwing/waxwing/protocol/ApiKey"), (.object "com/example/waxwing/waxwing/protocol/ApiKey"), (.object "com/example/waxwing/waxwing/protocol/ApiKey"), (.object "com/example/waxwing/waxwing/protocol/ApiKey"), (.object "com/example/waxwing/waxwing/protocol/ApiKey"), (.object "com/example/waxwing/waxwing/protocol/ApiKey"), (.object "com/example/waxwing/waxwing/protocol/ApiKey"), (.object "com/example/waxwing/waxwing/protocol/ApiKey"), (.object "com/example/waxwing/waxwing/protocol/ApiKey"), (.object "com/example/waxwing/waxwing/protocol/ApiKey"), (.object "com/example/waxwing/waxwing/protocol/ApiKey"), (.object "com/example/waxwing/waxwing/protocol/ApiKey"), (.object "com/example/waxwing/waxwing/protocol/ApiKey"), (.object "com/example/waxwing/waxwing/protocol/ApiKey"), (.object "com/example/waxwing/waxwing/protocol/ApiKey"), (.object "com/example/waxwing/waxwing/protocol/ApiKey"), (.object "com/example/waxwing/waxwing/protocol/ApiKey"), (.object "com/example/waxwing/waxwing/protocol/ApiKey"), .short, (.array (.object "com/example/waxwing/waxwing/protocol/ApiKey")), (.array (.object "com/example/waxwing/waxwing/protocol/ApiKey"))]
  resolved := Array.replicate 165 none
  statics := some 0 }

def pool7 : Array CpInfo := pool [(1, u "java/lang/Cloneable"), (0, .class_ 1), (0, u "java/lang/Object"), (0, .class_ 3)] 3

/-- java/lang/Cloneable -/
def k7 : Class := { plain "java/lang/Cloneable" (some 0) with
  accessFlags := 1537
  interfaces := #[]
  cf := some (fileOf pool7 2 #[] #[] 1537 4 #[] #[])
  fields := #[]
  methods := #[]
  instanceTypes := #[]
  staticTypes := #[]
  resolved := Array.replicate 8 none
  statics := none }

/-- the primitive byte -/
def k8 : Class := { plain "byte" none with kind := .primitive 'B', accessFlags := 0x411 }
/-- [B -/
def k9 : Class := { plain "[B" (some 0) with kind := .array 8 .byte, interfaces := #[7, 4], accessFlags := 1041 }

/-- the primitive int -/
def k10 : Class := { plain "int" none with kind := .primitive 'I', accessFlags := 0x411 }
/-- [I -/
def k11 : Class := { plain "[I" (some 0) with kind := .array 10 .int, interfaces := #[7, 4], accessFlags := 1041 }

def heap : Heap := #[{ cls := 6, slots := #[.ref 1, .ref 2, .ref 3, .ref 4, .ref 5, .ref 6, .ref 7, .ref 8, .ref 9, .ref 10, .ref 11, .ref 12, .ref 13, .ref 14, .ref 15, .ref 16, .ref 17, .ref 18, .ref 19, .ref 20, .int 0, .null, .null], vm := .statics 6 },
  { cls := 6, slots := #[.null, .int 0, .int 0, .int 0, .int 0, .int 7, .int 0], vm := .none },
  { cls := 6, slots := #[.null, .int 1, .int 0, .int 1, .int 4, .int 11, .int 0], vm := .none },
  { cls := 6, slots := #[.null, .int 2, .int 0, .int 2, .int 1, .int 2, .int 0], vm := .none },
  { cls := 6, slots := #[.null, .int 3, .int 0, .int 3, .int 0, .int 5, .int 0], vm := .none },
  { cls := 6, slots := #[.null, .int 4, .int 0, .int 8, .int 2, .int 7, .int 0], vm := .none },
  { cls := 6, slots := #[.null, .int 5, .int 0, .int 9, .int 1, .int 5, .int 0], vm := .none },
  { cls := 6, slots := #[.null, .int 6, .int 0, .int 10, .int 0, .int 2, .int 0], vm := .none },
  { cls := 6, slots := #[.null, .int 7, .int 0, .int 11, .int 2, .int 5, .int 0], vm := .none },
  { cls := 6, slots := #[.null, .int 8, .int 0, .int 12, .int 1, .int 3, .int 0], vm := .none },
  { cls := 6, slots := #[.null, .int 9, .int 0, .int 13, .int 0, .int 2, .int 0], vm := .none },
  { cls := 6, slots := #[.null, .int 10, .int 0, .int 14, .int 1, .int 3, .int 0], vm := .none },
  { cls := 6, slots := #[.null, .int 11, .int 0, .int 15, .int 0, .int 4, .int 0], vm := .none },
  { cls := 6, slots := #[.null, .int 12, .int 0, .int 16, .int 0, .int 2, .int 0], vm := .none },
  { cls := 6, slots := #[.null, .int 13, .int 0, .int 18, .int 0, .int 3, .int 0], vm := .none },
  { cls := 6, slots := #[.null, .int 14, .int 0, .int 19, .int 0, .int 4, .int 0], vm := .none },
  { cls := 6, slots := #[.null, .int 15, .int 0, .int 20, .int 0, .int 3, .int 0], vm := .none },
  { cls := 6, slots := #[.null, .int 16, .int 0, .int 22, .int 0, .int 1, .int 0], vm := .none },
  { cls := 6, slots := #[.null, .int 17, .int 0, .int 32, .int 0, .int 3, .int 0], vm := .none },
  { cls := 6, slots := #[.null, .int 18, .int 0, .int 37, .int 0, .int 1, .int 0], vm := .none },
  { cls := 6, slots := #[.null, .int 19, .int 0, .int 42, .int 0, .int 1, .int 0], vm := .none }]
def classes : Array Class := #[k0, k1, k2, k3, k4, k5, k6, k7, k8, k9, k10, k11]
def interned : List (Array UInt16 × Addr) := []
def slotsUsed : Nat := 163
def theMethod : MethodId := ⟨1, 1⟩
def args0 : Array Value := #[.int 5, .int 5, .int 5]
def aboutOver (below : List Frame) : State where
  vm := { classes := classes, interned := interned.toArray }
  heap := heap
  slotsUsed := slotsUsed
  threads := #[{ frames := .invoking theMethod args0 :: below }]
def below0 : List Frame := [.native { method := ⟨0, 0⟩, args := #[] }]
def about1 : State := aboutOver below0
def p0 : Program := .bare "" "" ""
def e0 : Env := launch0.env 0 0 0
theorem w_frames : about1.frames = Frame.invoking theMethod args0 :: below0 := rfl
set_option maxRecDepth 65536 in
theorem w_args : argsFit about1.vm theMethod args0 = true := by decide +kernel
set_option maxRecDepth 65536 in
theorem w_heap : heapFits about1 = true := by decide +kernel
set_option maxRecDepth 65536 in
theorem w_runnable : about1.curStatus? = some .runnable := by decide +kernel
set_option maxRecDepth 65536 in
theorem w_alone : about1.alone = true := by decide +kernel
set_option maxRecDepth 65536 in
theorem w_named : about1.methodNamed? x = some theMethod := by decide +kernel
set_option maxRecDepth 65536 in
theorem w_hears : about1.hears theMethod below0 = true := by decide +kernel
set_option maxRecDepth 65536 in
theorem w_ripe : about1.ripe theMethod args0 below0 = true := by decide +kernel
theorem w_running : about1.status = .running := rfl
set_option maxRecDepth 65536 in
theorem w_room : about1.hasRoom e0.platform room_1 = true :=
  launch0.hasRoom_least _ room_1 (by decide +kernel) (by decide +kernel) (by decide +kernel) (by decide +kernel) (by decide +kernel) (by decide +kernel)
theorem allAtoms_all (ts : List Jvm.Cond) (a : Array Jvm.Value) (st : Jvm.State) : (allAtoms ts).before a st = ts.all (fun c => c.before a st) := by
  induction ts with
  | nil => rfl
  | cons c t ih =>
    show (Jvm.Cond.and c (allAtoms t)).before a st = _
    rw [Jvm.Cond.before_and, ih, List.all_cons]
def words1 : List Jvm.Cond := Jvm.Cond.code x code maxLocals ret :: tables_1
/-- a 'code' word, met by the world's own term for the bytes: nothing is compared byte by byte -/
theorem code_word {y : MethodName} {bytes : ByteArray} {mx : Nat} {rt : Option FieldType} {a : Array Value} {s : State} {m : MethodId} {meth : Method} {c : Code} (h1 : s.methodNamed? y = some m) (h2 : s.vm.method? m = some meth) (h3 : meth.code = some c) (h4 : c.code = bytes)
    (h5 : (c.maxLocals == mx && c.exceptionTable.isEmpty && decide (c.maxStack ≤ mostOperands) && decide (meth.sig.returnType = rt) && !meth.locks && decide (parseMethodDescriptor y.desc = some meth.sig)) = true) : (Jvm.Cond.code y bytes mx rt).before a s = true := by
  simp only [Bool.and_eq_true, beq_iff_eq, Bool.not_eq_true', decide_eq_true_eq] at h5
  obtain ⟨⟨⟨⟨⟨g1, g2⟩, g3⟩, g4⟩, g5⟩, g6⟩ := h5
  simp [Cond.before, Cond.holds, Cond.value, h1, h2, h3, h4, g1, g2, g3, g4, g5, g6]
def isCode : Jvm.Cond → Bool
  | .code _ _ _ _ => true
  | _ => false
theorem all_split {L : List Jvm.Cond} {P : Jvm.Cond → Bool} (h1 : L.all (fun c => isCode c || P c) = true) (h2 : ∀ c ∈ L.filter isCode, P c = true) : L.all P = true := by
  refine List.all_eq_true.mpr fun c hc => ?_
  have h := List.all_eq_true.mp h1 c hc
  rcases Bool.eq_false_or_eq_true (isCode c) with hi | hi
  · exact h2 c (List.mem_filter.mpr ⟨hc, hi⟩)
  · simpa [hi] using h
set_option maxRecDepth 65536 in
theorem w_c0 : (Jvm.Cond.code x code maxLocals ret).before args0 about1 = true := code_word (m := ⟨1, 1⟩) (meth := k1m1) (c := k1c1) (by decide +kernel) rfl rfl rfl (by decide +kernel)
set_option maxRecDepth 65536 in
theorem w_c1 : (Jvm.Cond.code ({ cls := "com/example/waxwing/waxwing/protocol/ApiKeyHandlesPinLaw", name := "pick", desc := "(I)Lcom/example/waxwing/waxwing/protocol/ApiKey;" } : Jvm.MethodName) method_3_code (1 : Nat) (Option.some (Jvm.ClassFile.FieldType.object "com/example/waxwing/waxwing/protocol/ApiKey"))).before args0 about1 = true := code_word (m := ⟨1, 2⟩) (meth := k1m2) (c := k1c2) (by decide +kernel) rfl rfl rfl (by decide +kernel)
set_option maxRecDepth 65536 in
theorem w_c2 : (Jvm.Cond.code ({ cls := "com/example/waxwing/waxwing/protocol/ApiKey", name := "handles", desc := "(S)Z" } : Jvm.MethodName) prog_22_method_10_code (2 : Nat) (Option.some Jvm.ClassFile.FieldType.boolean)).before args0 about1 = true := code_word (m := ⟨6, 0⟩) (meth := k6m0) (c := k6c0) (by decide +kernel) rfl rfl rfl (by decide +kernel)
def codes1 : List Jvm.Cond := [Jvm.Cond.code x code maxLocals ret, Jvm.Cond.code ({ cls := "com/example/waxwing/waxwing/protocol/ApiKeyHandlesPinLaw", name := "pick", desc := "(I)Lcom/example/waxwing/waxwing/protocol/ApiKey;" } : Jvm.MethodName) method_3_code (1 : Nat) (Option.some (Jvm.ClassFile.FieldType.object "com/example/waxwing/waxwing/protocol/ApiKey")), Jvm.Cond.code ({ cls := "com/example/waxwing/waxwing/protocol/ApiKey", name := "handles", desc := "(S)Z" } : Jvm.MethodName) prog_22_method_10_code (2 : Nat) (Option.some Jvm.ClassFile.FieldType.boolean)]
set_option maxRecDepth 65536 in
theorem codes_eq : words1.filter isCode = codes1 := rfl
theorem w_codes : ∀ c ∈ words1.filter isCode, c.before args0 about1 = true := by
  rw [codes_eq]
  intro c hc
  simp only [codes1, List.mem_cons, List.not_mem_nil, or_false] at hc
  rcases hc with rfl | rfl | rfl
  · exact w_c0
  · exact w_c1
  · exact w_c2
set_option maxRecDepth 65536 in
theorem w_t1 : (words1.take 24).all (fun c => isCode c || c.before args0 about1) = true := by decide +kernel
set_option maxRecDepth 65536 in
theorem w_t2 : ((words1.drop 24).take 24).all (fun c => isCode c || c.before args0 about1) = true := by decide +kernel
set_option maxRecDepth 65536 in
theorem w_t3 : ((words1.drop 24).drop 24).all (fun c => isCode c || c.before args0 about1) = true := by decide +kernel
theorem w_tables : (allAtoms (Jvm.Cond.code x code maxLocals ret :: tables_1)).before args0 about1 = true := by
  rw [allAtoms_all]
  show words1.all (fun c => c.before args0 about1) = true
  refine all_split ?_ w_codes
  rw [← List.take_append_drop 24 words1, List.all_append, w_t1, ← List.take_append_drop 24 (words1.drop 24), List.all_append, w_t2, w_t3]
  rfl
set_option maxRecDepth 65536 in
theorem w_case : (Jvm.Cond.and given_1 narrow_1).before args0 about1 = true := by decide +kernel
theorem w_applies : (headSpec (Jvm.Cond.code x code maxLocals ret :: tables_1) room_1).applies x e0.platform about1 = true :=
  (Spec.applies_iff w_frames).mpr ⟨w_running, w_runnable, w_alone, w_named, w_hears, w_ripe, w_room, w_tables⟩
theorem atStart : AtStart classFile x code maxLocals ret World_1 tables_1 room_1 Calls_1 rest_1 Pre_1 launch0 p0 e0 about1 theMethod args0 below0 :=
  ⟨lists_1, trivial, launch0.admits_env _ _ _, launch0.least_env, fairChoices_fair.cas, fairChoices_fair.clock, w_frames, w_args, w_heap, w_applies, trivial, trivial, w_case⟩
end start1
theorem witness_1 : WitnessClaimed_1 := ⟨start1.p0, start1.e0, start1.about1, start1.theMethod, start1.args0, start1.below0, start1.atStart⟩
end Jvm.Pilot.@@N@@
