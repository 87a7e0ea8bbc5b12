import JvmDerived
import JvmDerived.Pilot.@@N@@Statement
import JvmDerived.Pilot.@@N@@Code
set_option linter.unusedVariables false
set_option linter.unusedSimpArgs false
namespace Jvm.RoadKit
open Sem ClassFile Op Lib Jvm.Stand Jvm.Free Jvm.LawKit
section New
variable {p : Program} {l : Launch} {e : Env} {R : Room} {s : State} {m : MethodId} {args : Array Value} {below : List Frame} {meth : Method} {c : Code} {T : State} {locs : List Loc} {cells slots : Nat}
theorem retI (X : Stand p l e R s m args below meth c T locs cells slots) (hx : p.tables.exec = Jvm.exec) {pc : Nat} {Ls : Array Slot} {z : Int32} {rest : List Value} (hret : meth.sig.returnType = some .int) (hd : decode c.code pc = .ok (.ireturn, 1)) {fs : List Frame}
    (hl : ∀ (f : JFrame) (acts : List Action), f.method = m → f.locked = none → f.entered = [] → (doReturn e (T.setTop f) acts (some (.int z))).1 = T.setFrames fs) : Steps p.tables e below (T.setTop (mkF m pc Ls (.int z :: rest))) (T.setFrames fs) :=
  retOut X hx hret rfl (Or.inl ⟨rfl, Or.inl rfl, z, rfl⟩) hd hl
theorem own_catR {v : Value} (h : v.isRef = true) : v.category = 1 := by rcases ref_cases h with rfl | ⟨a, rfl⟩ <;> rfl
theorem own_iteR (P : Prop) [Decidable P] {a b : Value} (ha : a.isRef = true) (hb : b.isRef = true) : (if P then a else b).isRef = true := by
  by_cases h : P
  · rw [if_pos h]; exact ha
  · rw [if_neg h]; exact hb
end New
end Jvm.RoadKit
/- laws to paste: Road.backV (cut by pick.py; bodies as the Statement names them) -/
namespace Jvm.Pilot.@@N@@
namespace StrChars
open Jvm Sem ClassFile Op Lib Jvm.Stand Jvm.Free.XT Jvm.Free.ALB Jvm.Free.JM Jvm.Free
open Jvm.Lib.Cold (StaticIs)
/-- a char array whose places are chars -/
def Ch (a : Addr) (A : Cell) (U : State) : Prop := Arr .char a A U ∧ Typed .char A
theorem Ch.mv {a : Addr} {A : Cell} {U U' : State} (h : Ch a A U) (hal : U.vm.Alike U'.vm) (hh : U'.heap = U.heap) : Ch a A U' := ⟨h.1.mv hal hh, h.2⟩
theorem Ch.keep {a : Addr} {A : Cell} {U U' : State} (h : Ch a A U) (hal : U.vm.Alike U'.vm) (hk : U'.heap[a]? = some A) : Ch a A U' := ⟨h.1.keep hal hk, h.2⟩
/-- what place i of a char[]'s cell holds -/
def cv (A : Cell) (i : Nat) : Int32 := match A.slots[i]? with | some (.int x) => x | _ => 0
theorem Ch.get {a : Addr} {A : Cell} {U : State} (h : Ch a A U) {i : Nat} (hi : i < A.slots.size) : A.slots[i]? = some (.int (cv A i)) := by
  have e := Array.getElem?_eq_getElem hi
  have f := h.2 i _ e
  unfold cv; rw [e]
  generalize A.slots[i] = v at f
  cases v <;> simp [fits] at f ⊢
/-- the byte that i2b leaves of a char -/
def lo8 (x : Int32) : Int32 := x.toInt8.toInt32
theorem fits_lo8 (y : Int32) : fits .byte (.int (lo8 y)) = true := by
  have h1 := y.toInt8.le_toInt
  have h2 := y.toInt8.toInt_lt
  simp only [lo8, fits, Bool.and_eq_true, decide_eq_true_eq, Int32.le_iff_toInt_le, Int8.toInt_toInt32, show (-128 : Int32).toInt = -128 from by decide, show (127 : Int32).toInt = 127 from by decide]
  omega
/-- A' is A but that each place j of lo .. hi - 1 holds f j -/
def Laid (A A' : Cell) (lo hi : Nat) (f : Nat → Value) : Prop := A'.cls = A.cls ∧ A'.vm = A.vm ∧ A'.slots.size = A.slots.size ∧ ∀ i, A'.slots[i]? = if lo ≤ i ∧ i < hi then some (f i) else A.slots[i]?
theorem Laid.zero (A : Cell) (lo : Nat) (f : Nat → Value) : Laid A A lo (lo + 0) f := ⟨rfl, rfl, rfl, fun i => by rw [if_neg (by omega)]⟩
theorem Laid.step {A Ak : Cell} {lo k : Nat} {f : Nat → Value} {v : Value} (h : Laid A Ak lo k f) (hlo : lo ≤ k) (hk : k < Ak.slots.size) (hv : v = f k) : Laid A (Ak.setSlot k v) lo (k + 1) f := by
  refine ⟨h.1, h.2.1, by simpa [Cell.setSlot] using h.2.2.1, fun i => ?_⟩
  by_cases e : k = i
  · subst e; rw [Cell.slots_setSlot_self v hk, if_pos (by omega), hv]
  · rw [Cell.slots_setSlot_ne v e, h.2.2.2 i]
    by_cases q : lo ≤ i ∧ i < k
    · rw [if_pos q, if_pos (by omega)]
    · rw [if_neg q, if_neg (by omega)]
def U16 : String := "java/lang/StringUTF16"
namespace Cmp5
def yN : MethodName := ⟨"java/lang/StringUTF16", "compress", "([CI[BII)I"⟩
abbrev yB : ByteArray := jdk_52_method_21_code
theorem d0 : decode yB 0 = .ok (.iconst 0, 1) := by decide +kernel
theorem d1 : decode yB 1 = .ok (.istore 5, 2) := by decide +kernel
theorem d3 : decode yB 3 = .ok (.iload 5, 2) := by decide +kernel
theorem d5 : decode yB 5 = .ok (.iload 4, 2) := by decide +kernel
theorem d7 : decode yB 7 = .ok (.if_icmp (.ge) 37, 3) := by decide +kernel
theorem d10 : decode yB 10 = .ok (.aload_n 0, 1) := by decide +kernel
theorem d11 : decode yB 11 = .ok (.iload_n 1, 1) := by decide +kernel
theorem d12 : decode yB 12 = .ok (.caload, 1) := by decide +kernel
theorem d13 : decode yB 13 = .ok (.istore 6, 2) := by decide +kernel
theorem d15 : decode yB 15 = .ok (.iload 6, 2) := by decide +kernel
theorem d17 : decode yB 17 = .ok (.sipush 255, 3) := by decide +kernel
theorem d20 : decode yB 20 = .ok (.if_icmp (.le) 6, 3) := by decide +kernel
theorem d26 : decode yB 26 = .ok (.aload_n 2, 1) := by decide +kernel
theorem d27 : decode yB 27 = .ok (.iload_n 3, 1) := by decide +kernel
theorem d28 : decode yB 28 = .ok (.iload 6, 2) := by decide +kernel
theorem d30 : decode yB 30 = .ok (.i2b, 1) := by decide +kernel
theorem d31 : decode yB 31 = .ok (.bastore, 1) := by decide +kernel
theorem d32 : decode yB 32 = .ok (.iinc 1 1, 3) := by decide +kernel
theorem d35 : decode yB 35 = .ok (.iinc 3 1, 3) := by decide +kernel
theorem d38 : decode yB 38 = .ok (.iinc 5 1, 3) := by decide +kernel
theorem d41 : decode yB 41 = .ok (.goto (-38), 3) := by decide +kernel
theorem d44 : decode yB 44 = .ok (.iload 4, 2) := by decide +kernel
theorem d46 : decode yB 46 = .ok (.ireturn, 1) := by decide +kernel
def site : List Cond := []
def tab : Cond := tabOf yN yB 7 (some .int) site
def P (b : Addr) (A : Cell) (d : Addr) (B : Cell) (o q len : Nat) (args : Array Value) (s : State) : Prop := args = #[.ref b, .int (Int32.ofNat o), .ref d, .int (Int32.ofNat q), .int (Int32.ofNat len)] ∧ Ch b A s ∧ Arr .byte d B s ∧ b ≠ d ∧ o + len ≤ A.slots.size ∧ q + len ≤ B.slots.size ∧ ∀ i, i < len → ¬ 255 < cv A (o + i)
def E (b : Addr) (A : Cell) (d : Addr) (B : Cell) (o q len : Nat) (r : Option Value) (s u : State) : Prop := r = some (.int (Int32.ofNat len)) ∧ ∃ B', Put d B' s u ∧ Laid B B' q (q + len) (fun j => Value.int (lo8 (cv A (o + (j - q)))))
/-- no char of the range above 255: len; the places written hold each char's low byte -/
theorem law (l : Launch) (b : Addr) (A : Cell) (d : Addr) (B : Cell) (o q len : Nat) : Law l yN 5 5 0 0 yB 7 (some .int) site (P b A d B o q len) (E b A d B o q len) (copyLocs d q len) 0 0 := by
  refine Law.of_walk (plainFor_of_name (by decide +kernel)) (by decide +kernel) (by decide +kernel) (by decide) (fun _ _ h => by rw [h.1]; rfl) (fun _ U U' hal hh h => ⟨h.1, h.2.1.mv hal hh, h.2.2.1.mv hal hh, h.2.2.2⟩) (fun r U U' V V' h1 hal h2 h => ⟨h.1, h.2.elim fun B' q => ⟨B', q.1.mv h1 h2, q.2⟩⟩) ?_
  intro p e s m args below meth c s₁ X0 hexec hbytes hml hret hlk hnm hown hh0 W hP
  obtain ⟨rfl, hA, hB, hne, l1, l2, hp⟩ := hP
  have c1 : Steps p.tables e below (s₁.setTop (entryFrame m #[.ref b, .int (Int32.ofNat o), .ref d, .int (Int32.ofNat q), .int (Int32.ofNat len)] 7)) (s₁.setTop (mkF m 0 #[.val (.ref b), .val (.int (Int32.ofNat o)), .val (.ref d), .val (.int (Int32.ofNat q)), .val (.int (Int32.ofNat len)), .unset, .unset] [])) := entry rfl
  have hA0 := hA.1.mv X0.warmed.alike hh0
  have hB0 := hB.mv X0.warmed.alike hh0
  have a31 := hA.1.2.2.2
  have c2 : Steps p.tables e below (s₁.setTop (entryFrame m #[.ref b, .int (Int32.ofNat o), .ref d, .int (Int32.ofNat q), .int (Int32.ofNat len)] 7)) (s₁.setTop (mkF m 3 #[.val (.ref b), .val (.int (Int32.ofNat o)), .val (.ref d), .val (.int (Int32.ofNat q)), .val (.int (Int32.ofNat len)), .val (.int 0), .unset] [])) := c1.trans (by
    refine iconstV X0.here hexec rfl 0 (hb hbytes d0) (by decide) ?_
    refine XS.istore X0.here hexec rfl (hb hbytes d1) rfl rfl ?_
    exact Steps.refl _)
  have loop : ∀ (r i : Nat), i + r = len → ∀ (z : Slot), (z = .unset ∨ ∃ w, z = .val w ∧ w.category = 1) → ∀ (Tl : State) (Bk : Cell), Stand p l e { frames := 0, locals := 0, cells := 0, slots := 0 } s m #[.ref b, .int (Int32.ofNat o), .ref d, .int (Int32.ofNat q), .int (Int32.ofNat len)] below meth c Tl ([] ++ copyLocs d q i) 0 0 → Put d Bk s₁ Tl → Laid B Bk q (q + i) (fun j => Value.int (lo8 (cv A (o + (j - q))))) →
      Steps p.tables e below (s₁.setTop (entryFrame m #[.ref b, .int (Int32.ofNat o), .ref d, .int (Int32.ofNat q), .int (Int32.ofNat len)] 7)) (Tl.setTop (mkF m 3 #[.val (.ref b), .val (.int (Int32.ofNat (o + i))), .val (.ref d), .val (.int (Int32.ofNat (q + i))), .val (.int (Int32.ofNat len)), .val (.int (Int32.ofNat i)), z] [])) → ∃ (T' : State) (B' : Cell) (z' : Slot), Stand p l e { frames := 0, locals := 0, cells := 0, slots := 0 } s m #[.ref b, .int (Int32.ofNat o), .ref d, .int (Int32.ofNat q), .int (Int32.ofNat len)] below meth c T' ([] ++ copyLocs d q len) 0 0 ∧ Put d B' s₁ T' ∧ Laid B B' q (q + len) (fun j => Value.int (lo8 (cv A (o + (j - q))))) ∧
      Steps p.tables e below (s₁.setTop (entryFrame m #[.ref b, .int (Int32.ofNat o), .ref d, .int (Int32.ofNat q), .int (Int32.ofNat len)] 7)) (T'.setTop (mkF m 3 #[.val (.ref b), .val (.int (Int32.ofNat (o + len))), .val (.ref d), .val (.int (Int32.ofNat (q + len))), .val (.int (Int32.ofNat len)), .val (.int (Int32.ofNat len)), z'] [])) := by
    intro r
    induction r with
    | zero =>
      intro i hi z hz Tl Bk Xl pl fl cl
      have hil : i = len := by omega
      rw [hil] at Xl fl cl
      exact ⟨Tl, Bk, z, Xl, pl, fl, cl⟩
    | succ r ih =>
      intro i hi z hz Tl Bk Xl pl fl cl
      have all := X0.warmed.alike.symm.trans Xl.warmed.alike
      have hAl := hA0.keep all (pl.other hne hA0.1)
      have hBk := hB0.like all pl.1 fl.1 fl.2.1 fl.2.2.1
      have hlt : q + i < Bk.slots.size := by rw [fl.2.2.1]; omega
      have c3 : Steps p.tables e below (s₁.setTop (entryFrame m #[.ref b, .int (Int32.ofNat o), .ref d, .int (Int32.ofNat q), .int (Int32.ofNat len)] 7)) (Tl.setTop (mkF m 12 #[.val (.ref b), .val (.int (Int32.ofNat (o + i))), .val (.ref d), .val (.int (Int32.ofNat (q + i))), .val (.int (Int32.ofNat len)), .val (.int (Int32.ofNat i)), z] [.int (Int32.ofNat (o + i)), .ref b])) := cl.trans (by
        refine XS.iload Xl.here hexec rfl (hb hbytes d3) rfl ?_
        refine XS.iload Xl.here hexec rfl (hb hbytes d5) rfl ?_
        refine XS.icmpNo Xl.here hexec rfl (hb hbytes d7) rfl (ii_ge_f (lt32 (by omega) (by omega))) ?_
        refine XS.aloadN Xl.here hexec rfl (hb hbytes d10) rfl rfl ?_
        refine XS.iloadN Xl.here hexec rfl (hb hbytes d11) rfl ?_
        exact Steps.refl _)
      have c4 : Steps p.tables e below (s₁.setTop (entryFrame m #[.ref b, .int (Int32.ofNat o), .ref d, .int (Int32.ofNat q), .int (Int32.ofNat len)] 7)) (Tl.setTop (mkF m 13 #[.val (.ref b), .val (.int (Int32.ofNat (o + i))), .val (.ref d), .val (.int (Int32.ofNat (q + i))), .val (.int (Int32.ofNat len)), .val (.int (Int32.ofNat i)), z] [.int (cv A (o + i))])) := c3.trans (by
        refine Xl.aget hexec hAl rfl (hA.get (i := o + i) (by omega)) rfl rfl (hb hbytes d12) ?_
        exact Steps.refl _)
      have c5 : Steps p.tables e below (s₁.setTop (entryFrame m #[.ref b, .int (Int32.ofNat o), .ref d, .int (Int32.ofNat q), .int (Int32.ofNat len)] 7)) (Tl.setTop (mkF m 15 #[.val (.ref b), .val (.int (Int32.ofNat (o + i))), .val (.ref d), .val (.int (Int32.ofNat (q + i))), .val (.int (Int32.ofNat len)), .val (.int (Int32.ofNat i)), .val (.int (cv A (o + i)))] [])) := c4.trans (by
        refine XS.istoreS Xl.here hexec rfl (hb hbytes d13) rfl rfl hz ?_
        exact Steps.refl _)
      have c6 : Steps p.tables e below (s₁.setTop (entryFrame m #[.ref b, .int (Int32.ofNat o), .ref d, .int (Int32.ofNat q), .int (Int32.ofNat len)] 7)) (Tl.setTop (mkF m 31 #[.val (.ref b), .val (.int (Int32.ofNat (o + i))), .val (.ref d), .val (.int (Int32.ofNat (q + i))), .val (.int (Int32.ofNat len)), .val (.int (Int32.ofNat i)), .val (.int (cv A (o + i)))] [.int (lo8 (cv A (o + i))), .int (Int32.ofNat (q + i)), .ref d])) := c5.trans (by
        refine XS.iload Xl.here hexec rfl (hb hbytes d15) rfl ?_
        refine sipushV Xl.here hexec rfl 255 (hb hbytes d17) (by decide) ?_
        refine XS.icmpYes Xl.here hexec rfl (pc0 := 20) rfl (hb hbytes d20) rfl (ii_le_t (hp i (by omega))) (by decide) rfl ?_
        refine XS.aloadN Xl.here hexec rfl (hb hbytes d26) rfl rfl ?_
        refine XS.iloadN Xl.here hexec rfl (hb hbytes d27) rfl ?_
        refine XS.iload Xl.here hexec rfl (hb hbytes d28) rfl ?_
        refine i2b Xl.here hexec rfl (hb hbytes d30) rfl ?_
        exact Steps.refl _)
      obtain ⟨T7, X7, p7, st7⟩ := Xl.aput hexec hBk rfl hlt rfl (fits_lo8 (cv A (o + i))) (g := (mkF m 31 #[.val (.ref b), .val (.int (Int32.ofNat (o + i))), .val (.ref d), .val (.int (Int32.ofNat (q + i))), .val (.int (Int32.ofNat len)), .val (.int (Int32.ofNat i)), .val (.int (cv A (o + i)))] [.int (lo8 (cv A (o + i))), .int (Int32.ofNat (q + i)), .ref d])) rfl (rest := []) rfl (hb hbytes d31)
      have c8 : Steps p.tables e below (s₁.setTop (entryFrame m #[.ref b, .int (Int32.ofNat o), .ref d, .int (Int32.ofNat q), .int (Int32.ofNat len)] 7)) (T7.setTop (mkF m 32 #[.val (.ref b), .val (.int (Int32.ofNat (o + i))), .val (.ref d), .val (.int (Int32.ofNat (q + i))), .val (.int (Int32.ofNat len)), .val (.int (Int32.ofNat i)), .val (.int (cv A (o + i)))] [])) := c6.trans (st7 _ (Steps.refl _))
      have c9 : Steps p.tables e below (s₁.setTop (entryFrame m #[.ref b, .int (Int32.ofNat o), .ref d, .int (Int32.ofNat q), .int (Int32.ofNat len)] 7)) (T7.setTop (mkF m 3 #[.val (.ref b), .val (.int (Int32.ofNat (o + i) + 1)), .val (.ref d), .val (.int (Int32.ofNat (q + i) + 1)), .val (.int (Int32.ofNat len)), .val (.int (Int32.ofNat i + 1)), .val (.int (cv A (o + i)))] [])) := c8.trans (by
        refine iincV X7.here hexec rfl 1 (hb hbytes d32) (by decide) rfl rfl ?_
        refine iincV X7.here hexec rfl 1 (hb hbytes d35) (by decide) rfl rfl ?_
        refine iincV X7.here hexec rfl 1 (hb hbytes d38) (by decide) rfl rfl ?_
        refine XS.goto X7.here hexec rfl (pc0 := 41) rfl (hb hbytes d41) (by decide) rfl ?_
        exact Steps.refl _)
      have c10 : Steps p.tables e below (s₁.setTop (entryFrame m #[.ref b, .int (Int32.ofNat o), .ref d, .int (Int32.ofNat q), .int (Int32.ofNat len)] 7)) (T7.setTop (mkF m 3 #[.val (.ref b), .val (.int (Int32.ofNat (o + (i + 1)))), .val (.ref d), .val (.int (Int32.ofNat (q + (i + 1)))), .val (.int (Int32.ofNat len)), .val (.int (Int32.ofNat (i + 1))), .val (.int (cv A (o + i)))] [])) := by
        have := c9
        rw [succ32, succ32, succ32] at this
        exact this
      exact ih (i + 1) (by omega) _ (Or.inr ⟨_, rfl, rfl⟩) T7 _ (by rw [copyLocs_step, ← List.append_assoc]; exact X7) (pl.trans p7) (fl.step (by omega) hlt (by simp)) c10
  obtain ⟨T9, B9, z9, X9, p9, f9, g9⟩ := loop len 0 (by omega) .unset (Or.inl rfl) s₁ B (by simpa [copyLocs] using X0) ⟨hB0.1, fun _ _ => rfl, rfl⟩ (Laid.zero _ _ _) c2
  have c11 : Steps p.tables e below (s₁.setTop (entryFrame m #[.ref b, .int (Int32.ofNat o), .ref d, .int (Int32.ofNat q), .int (Int32.ofNat len)] 7)) (T9.setTop (mkF m 46 #[.val (.ref b), .val (.int (Int32.ofNat (o + len))), .val (.ref d), .val (.int (Int32.ofNat (q + len))), .val (.int (Int32.ofNat len)), .val (.int (Int32.ofNat len)), z9] [.int (Int32.ofNat len)])) := g9.trans (by
    refine XS.iload X9.here hexec rfl (hb hbytes d3) rfl ?_
    refine XS.iload X9.here hexec rfl (hb hbytes d5) rfl ?_
    refine XS.icmpYes X9.here hexec rfl (pc0 := 7) rfl (hb hbytes d7) rfl (ii_ge_t (nlt32 (by omega) (Nat.le_refl _))) (by decide) rfl ?_
    refine XS.iload X9.here hexec rfl (hb hbytes d44) rfl ?_
    exact Steps.refl _)
  exact ⟨T9, some (.int (Int32.ofNat len)), _, _, _, X9, by simp, rfl, rfl, (fun h => by cases h), ⟨rfl, B9, p9.from hh0, f9⟩, fun fs hl => c11.trans (X9.ireturnOut hexec hret rfl (Or.inl rfl) (hb hbytes d46) hl)⟩
end Cmp5
namespace Cmp3
def yN : MethodName := ⟨"java/lang/StringUTF16", "compress", "([CII)[B"⟩
abbrev yB : ByteArray := jdk_52_method_16_code
theorem d0 : decode yB 0 = .ok (.iload_n 2, 1) := by decide +kernel
theorem d1 : decode yB 1 = .ok (.newarray .byte, 2) := by decide +kernel
theorem d3 : decode yB 3 = .ok (.astore_n 3, 1) := by decide +kernel
theorem d4 : decode yB 4 = .ok (.aload_n 0, 1) := by decide +kernel
theorem d5 : decode yB 5 = .ok (.iload_n 1, 1) := by decide +kernel
theorem d6 : decode yB 6 = .ok (.aload_n 3, 1) := by decide +kernel
theorem d7 : decode yB 7 = .ok (.iconst 0, 1) := by decide +kernel
theorem d8 : decode yB 8 = .ok (.iload_n 2, 1) := by decide +kernel
theorem d9 : decode yB 9 = .ok (.invokestatic 115, 3) := by decide +kernel
theorem d12 : decode yB 12 = .ok (.istore 4, 2) := by decide +kernel
theorem d14 : decode yB 14 = .ok (.iload 4, 2) := by decide +kernel
theorem d16 : decode yB 16 = .ok (.iload_n 2, 1) := by decide +kernel
theorem d17 : decode yB 17 = .ok (.if_icmp (.eq) 40, 3) := by decide +kernel
theorem d57 : decode yB 57 = .ok (.aload_n 3, 1) := by decide +kernel
theorem d58 : decode yB 58 = .ok (.areturn, 1) := by decide +kernel
def site : List Cond := [.arrayClass .byte, Cmp5.tab] ++ staticW U16 115 Cmp5.yN
def tab : Cond := tabOf yN yB 6 (some (.array .byte)) site
def P (b : Addr) (A : Cell) (o len : Nat) (args : Array Value) (s : State) : Prop := args = #[.ref b, .int (Int32.ofNat o), .int (Int32.ofNat len)] ∧ Ch b A s ∧ o + len ≤ A.slots.size ∧ len ≤ 536870912 ∧ ∀ i, i < len → ¬ 255 < cv A (o + i)
def E (b : Addr) (A : Cell) (o len : Nat) (r : Option Value) (s u : State) : Prop := NewArr .byte "[B" len (fun j => .int (lo8 (cv A (o + j)))) r s u ∧ u.heap.size = s.heap.size + 1
/-- no char of the range above 255: a new byte[] of their low bytes -/
theorem law (l : Launch) (b : Addr) (A : Cell) (o len : Nat) : Law l yN 3 3 1 18 yB 6 (some (.array .byte)) site (P b A o len) (E b A o len) [] 1 len := by
  refine Law.of_walk (plainFor_of_name (by decide +kernel)) (by decide +kernel) (by decide +kernel) (by decide) (fun _ _ h => by rw [h.1]; rfl) (fun _ U U' hal hh h => ⟨h.1, h.2.1.mv hal hh, h.2.2⟩) (fun r U U' V V' h1 hal h2 h => ⟨NewArr.mv r U U' V V' h1 hal h2 h.1, by rw [h1, h2]; exact h.2⟩) ?_
  intro p e s m args below meth c s₁ X0 hexec hbytes hml hret hlk hnm hown hh0 W hP
  obtain ⟨rfl, hA, l1, l2, hp⟩ := hP
  have a31 := hA.1.2.2.2
  have c1 : Steps p.tables e below (s₁.setTop (entryFrame m #[.ref b, .int (Int32.ofNat o), .int (Int32.ofNat len)] 6)) (s₁.setTop (mkF m 0 #[.val (.ref b), .val (.int (Int32.ofNat o)), .val (.int (Int32.ofNat len)), .unset, .unset, .unset] [])) := entry rfl
  have c2 : Steps p.tables e below (s₁.setTop (entryFrame m #[.ref b, .int (Int32.ofNat o), .int (Int32.ofNat len)] 6)) (s₁.setTop (mkF m 1 #[.val (.ref b), .val (.int (Int32.ofNat o)), .val (.int (Int32.ofNat len)), .unset, .unset, .unset] [.int (Int32.ofNat len)])) := c1.trans (by
    refine XS.iloadN X0.here hexec rfl (hb hbytes d0) rfl ?_
    exact Steps.refl _)
  obtain ⟨T3, B3, X3, ba3, bs3, bv3, bh3, bf3, st3⟩ := X0.anew hexec (atype := .byte) (wk W (.arrayClass .byte)) rfl (by show len * 1 ≤ _; omega) (by omega) (g := (mkF m 1 #[.val (.ref b), .val (.int (Int32.ofNat o)), .val (.int (Int32.ofNat len)), .unset, .unset, .unset] [.int (Int32.ofNat len)])) rfl (hb hbytes d1) (rest := []) rfl (Nat.le_refl _) (by show 0 + len ≤ len; omega)
  rw [hh0] at ba3 st3
  have kp3 : XT.Kept s T3 := (XT.Kept.of_eq hh0).push bh3
  have hA3 := hA.keep X3.warmed.alike (kp3 _ _ hA.1.1)
  have hne : b ≠ s.heap.size := hA.1.ne
  have c4 : Steps p.tables e below (s₁.setTop (entryFrame m #[.ref b, .int (Int32.ofNat o), .int (Int32.ofNat len)] 6)) (T3.setTop (mkF m 3 #[.val (.ref b), .val (.int (Int32.ofNat o)), .val (.int (Int32.ofNat len)), .unset, .unset, .unset] [.ref s.heap.size])) := c2.trans (st3 _ (Steps.refl _))
  have c5 : Steps p.tables e below (s₁.setTop (entryFrame m #[.ref b, .int (Int32.ofNat o), .int (Int32.ofNat len)] 6)) (T3.setTop (mkF m 9 #[.val (.ref b), .val (.int (Int32.ofNat o)), .val (.int (Int32.ofNat len)), .val (.ref s.heap.size), .unset, .unset] [.int (Int32.ofNat len), .int 0, .ref s.heap.size, .int (Int32.ofNat o), .ref b])) := c4.trans (by
    refine XS.astoreN X3.here hexec rfl (hb hbytes d3) rfl rfl rfl ?_
    refine XS.aloadN X3.here hexec rfl (hb hbytes d4) rfl rfl ?_
    refine XS.iloadN X3.here hexec rfl (hb hbytes d5) rfl ?_
    refine XS.aloadN X3.here hexec rfl (hb hbytes d6) rfl rfl ?_
    refine iconstV X3.here hexec rfl 0 (hb hbytes d7) (by decide) ?_
    refine XS.iloadN X3.here hexec rfl (hb hbytes d8) rfl ?_
    exact Steps.refl _)
  obtain ⟨v6, T6, X6, E6, g6⟩ := X3.callS hexec (Cmp5.law l b A s.heap.size B3 o 0 len) hown (wks W (staticW U16 115 Cmp5.yN)) (wk W Cmp5.tab) (W := 0) (Nat.le_of_ble_eq_true rfl) (Nat.le_of_ble_eq_true rfl) (Nat.le_refl _) (by show 0 + len + 0 ≤ len; omega) (g := (mkF m 9 #[.val (.ref b), .val (.int (Int32.ofNat o)), .val (.int (Int32.ofNat len)), .val (.ref s.heap.size), .unset, .unset] [.int (Int32.ofNat len), .int (Int32.ofNat 0), .ref s.heap.size, .int (Int32.ofNat o), .ref b])) rfl (by rw [hml]; rfl) c5 (argsL := [.ref b, .int (Int32.ofNat o), .ref s.heap.size, .int (Int32.ofNat 0), .int (Int32.ofNat len)]) (rest := []) rfl rfl (by show 2 * 0 + 0 ≤ _; decide) (hb hbytes d9) (⟨rfl, hA3, ba3, hne, l1, by rw [bs3]; simp, hp⟩)
  obtain ⟨rfl, B6, p6, f6⟩ := E6
  have c7 : Steps p.tables e below (s₁.setTop (entryFrame m #[.ref b, .int (Int32.ofNat o), .int (Int32.ofNat len)] 6)) (T6.setTop (mkF m 12 #[.val (.ref b), .val (.int (Int32.ofNat o)), .val (.int (Int32.ofNat len)), .val (.ref s.heap.size), .unset, .unset] [.int (Int32.ofNat len)])) := g6
  have c8 : Steps p.tables e below (s₁.setTop (entryFrame m #[.ref b, .int (Int32.ofNat o), .int (Int32.ofNat len)] 6)) (T6.setTop (mkF m 58 #[.val (.ref b), .val (.int (Int32.ofNat o)), .val (.int (Int32.ofNat len)), .val (.ref s.heap.size), .val (.int (Int32.ofNat len)), .unset] [.ref s.heap.size])) := c7.trans (by
    refine XS.istore X6.here hexec rfl (hb hbytes d12) rfl rfl ?_
    refine XS.iload X6.here hexec rfl (hb hbytes d14) rfl ?_
    refine XS.iloadN X6.here hexec rfl (hb hbytes d16) rfl ?_
    refine XS.icmpYes X6.here hexec rfl (pc0 := 17) rfl (hb hbytes d17) rfl (ii_eq_t rfl) (by decide) rfl ?_
    refine XS.aloadN X6.here hexec rfl (hb hbytes d57) rfl rfl ?_
    exact Steps.refl _)
  have X8 := X6.wide (L' := []) (cells' := 1) (slots' := len) (fun x hx hlt => by
    simp only [List.nil_append, copyLocs, List.mem_map, List.mem_range] at hx
    obtain ⟨i, -, rfl⟩ := hx
    exact absurd hlt (Nat.lt_irrefl _)) (Nat.le_refl _) (by omega)
  exact ⟨T6, some (.ref s.heap.size), _, _, _, X8, rfl, rfl, rfl, (fun h => by cases h), ⟨⟨rfl, B6, ba3.like (X3.warmed.alike.symm.trans X6.warmed.alike) p6.1 f6.1 f6.2.1 f6.2.2.1, f6.2.1.trans bv3, by rw [X6.warmed.alike.findClass, f6.1]; exact bf3, by rw [f6.2.2.1, bs3]; simp, fun j hj => by rw [f6.2.2.2 j, if_pos (by omega)]; rfl, kp3.put p6 (Nat.le_refl _)⟩, by rw [p6.2.2, bh3, hh0]; simp⟩, fun fs hl => c8.trans (X8.areturnOut hexec rfl hret rfl (hb hbytes d58) hl)⟩
end Cmp3
namespace CodL
def yN : MethodName := ⟨"java/lang/StringUTF16", "coderFromArrayLen", "([BI)B"⟩
abbrev yB : ByteArray := jdk_52_method_15_code
theorem d0 : decode yB 0 = .ok (.iload_n 1, 1) := by decide +kernel
theorem d1 : decode yB 1 = .ok (.aload_n 0, 1) := by decide +kernel
theorem d2 : decode yB 2 = .ok (.arraylength, 1) := by decide +kernel
theorem d3 : decode yB 3 = .ok (.isub, 1) := by decide +kernel
theorem d4 : decode yB 4 = .ok (.bipush 31, 2) := by decide +kernel
theorem d6 : decode yB 6 = .ok (.iushr, 1) := by decide +kernel
theorem d7 : decode yB 7 = .ok (.i2b, 1) := by decide +kernel
theorem d8 : decode yB 8 = .ok (.ireturn, 1) := by decide +kernel
def site : List Cond := []
def tab : Cond := tabOf yN yB 2 (some .byte) site
def P (d : Addr) (B : Cell) (args : Array Value) (s : State) : Prop := args = #[.ref d, .int (Int32.ofNat B.slots.size)] ∧ Arr .byte d B s
def E (r : Option Value) (s u : State) : Prop := XT.PureE (some (.int 0)) r s u
/-- an array as long as the number of chars: LATIN1 -/
theorem law (l : Launch) (d : Addr) (B : Cell) : Law l yN 2 2 0 0 yB 2 (some .byte) site (P d B) E [] 0 0 := by
  refine Law.of_walk (plainFor_of_name (by decide +kernel)) (by decide +kernel) (by decide +kernel) (by decide) (fun _ _ h => by rw [h.1]; rfl) (fun _ U U' hal hh h => ⟨h.1, h.2.mv hal hh⟩) (fun r U U' V V' h1 hal h2 h => XT.PureE.mv r U U' V V' h1 hal h2 h) ?_
  intro p e s m args below meth c s₁ X0 hexec hbytes hml hret hlk hnm hown hh0 W hP
  obtain ⟨rfl, hB⟩ := hP
  have hB0 := hB.mv X0.warmed.alike hh0
  have c1 : Steps p.tables e below (s₁.setTop (entryFrame m #[.ref d, .int (Int32.ofNat B.slots.size)] 2)) (s₁.setTop (mkF m 0 #[.val (.ref d), .val (.int (Int32.ofNat B.slots.size))] [])) := entry rfl
  have c2 : Steps p.tables e below (s₁.setTop (entryFrame m #[.ref d, .int (Int32.ofNat B.slots.size)] 2)) (s₁.setTop (mkF m 2 #[.val (.ref d), .val (.int (Int32.ofNat B.slots.size))] [.ref d, .int (Int32.ofNat B.slots.size)])) := c1.trans (by
    refine XS.iloadN X0.here hexec rfl (hb hbytes d0) rfl ?_
    refine XS.aloadN X0.here hexec rfl (hb hbytes d1) rfl rfl ?_
    exact Steps.refl _)
  have c3 : Steps p.tables e below (s₁.setTop (entryFrame m #[.ref d, .int (Int32.ofNat B.slots.size)] 2)) (s₁.setTop (mkF m 8 #[.val (.ref d), .val (.int (Int32.ofNat B.slots.size))] [.int (lo8 (ushr (Int32.ofNat B.slots.size - Int32.ofNat B.slots.size) 31))])) := c2.trans (by
    refine X0.alen hexec hB0 rfl rfl (hb hbytes d2) ?_
    refine XS.isub X0.here hexec rfl (hb hbytes d3) rfl ?_
    refine bipushV X0.here hexec rfl 31 (hb hbytes d4) (by decide) ?_
    refine iushr X0.here hexec rfl (hb hbytes d6) rfl ?_
    refine i2b X0.here hexec rfl (hb hbytes d7) rfl ?_
    exact Steps.refl _)
  have e0 : lo8 (ushr (Int32.ofNat B.slots.size - Int32.ofNat B.slots.size) 31) = 0 := by rw [Int32.sub_self]; decide
  rw [e0] at c3
  exact ⟨s₁, some (.int 0), _, _, _, X0, rfl, rfl, rfl, (fun h => by cases h), ⟨rfl, hh0⟩, fun fs hl => c3.trans (X0.ireturnOut hexec hret rfl (Or.inr (Or.inr (Or.inl rfl))) (hb hbytes d8) hl)⟩
end CodL
/-- the String at a is Latin-1 over a new byte[] (the heap's one new cell): the low bytes of the len chars of A from o on; every cell but a is kept -/
def Got (a : Addr) (D : Cell) (fV fC : Field) (A : Cell) (o len : Nat) (r : Option Value) (s u : State) : Prop := r = none ∧ ∃ D' V : Cell, Blank "java/lang/String" a D' u ∧ Same D D' [fV.slot, fC.slot] ∧ D'.slots[fV.slot]? = some (.ref s.heap.size) ∧ D'.slots[fC.slot]? = some (.int 0) ∧ Arr .byte s.heap.size V u ∧ V.vm = .none ∧ u.vm.findClass "[B" = some V.cls ∧ V.slots.size = len ∧ (∀ j, j < len → V.slots[j]? = some (.int (lo8 (cv A (o + j))))) ∧ (∀ (y : Addr) (c : Cell), y ≠ a → s.heap[y]? = some c → u.heap[y]? = some c) ∧ u.heap.size = s.heap.size + 1
theorem Got.mv {a : Addr} {D A : Cell} {fV fC : Field} {o len : Nat} : ∀ r (U U' V V' : State), U'.heap = U.heap → V.vm.Alike V'.vm → V'.heap = V.heap → Got a D fV fC A o len r U V → Got a D fV fC A o len r U' V' :=
  fun r U U' V V' h1 hal h2 ⟨e0, D', X, a1, a2, a3, a4, a5, a6, a7, a8, a9, a10, a11⟩ => ⟨e0, D', X, a1.mv hal h2, a2, by rw [h1]; exact a3, a4, by rw [h1]; exact a5.mv hal h2, a6, by rw [hal.findClass]; exact a7, a8, a9, by rw [h1, h2]; exact a10, by rw [h1, h2]; exact a11⟩
namespace New4
def yN : MethodName := ⟨"java/lang/String", "<init>", "([CIILjava/lang/Void;)V"⟩
abbrev yB : ByteArray := jdk_42_method_149_code
theorem d0 : decode yB 0 = .ok (.aload_n 0, 1) := by decide +kernel
theorem d1 : decode yB 1 = .ok (.invokespecial 1, 3) := by decide +kernel
theorem d4 : decode yB 4 = .ok (.iload_n 3, 1) := by decide +kernel
theorem d5 : decode yB 5 = .ok (.ifCond (.ne) 22, 3) := by decide +kernel
theorem d27 : decode yB 27 = .ok (.getstatic 38, 3) := by decide +kernel
theorem d30 : decode yB 30 = .ok (.ifCond (.eq) 28, 3) := by decide +kernel
theorem d33 : decode yB 33 = .ok (.aload_n 1, 1) := by decide +kernel
theorem d34 : decode yB 34 = .ok (.iload_n 2, 1) := by decide +kernel
theorem d35 : decode yB 35 = .ok (.iload_n 3, 1) := by decide +kernel
theorem d36 : decode yB 36 = .ok (.invokestatic 177, 3) := by decide +kernel
theorem d39 : decode yB 39 = .ok (.astore 5, 2) := by decide +kernel
theorem d41 : decode yB 41 = .ok (.aload_n 0, 1) := by decide +kernel
theorem d42 : decode yB 42 = .ok (.aload 5, 2) := by decide +kernel
theorem d44 : decode yB 44 = .ok (.iload_n 3, 1) := by decide +kernel
theorem d45 : decode yB 45 = .ok (.invokestatic 47, 3) := by decide +kernel
theorem d48 : decode yB 48 = .ok (.putfield 15, 3) := by decide +kernel
theorem d51 : decode yB 51 = .ok (.aload_n 0, 1) := by decide +kernel
theorem d52 : decode yB 52 = .ok (.aload 5, 2) := by decide +kernel
theorem d54 : decode yB 54 = .ok (.putfield 9, 3) := by decide +kernel
theorem d57 : decode yB 57 = .ok (.return_, 1) := by decide +kernel
def site : List Cond := [.fieldLink "java/lang/String" 38 "java/lang/String" "COMPACT_STRINGS" "Z", Cmp3.tab, CodL.tab, .laysFinal "java/lang/String" "java/lang/String" "value" "[B", .fieldLink "java/lang/String" 9 "java/lang/String" "value" "[B", .laysFinal "java/lang/String" "java/lang/String" "coder" "B", .fieldLink "java/lang/String" 15 "java/lang/String" "coder" "B"] ++ objW "java/lang/String" 1 ++ staticW "java/lang/String" 177 Cmp3.yN ++ staticW "java/lang/String" 47 CodL.yN
def tab : Cond := tabOf yN yB 6 none site
def P (a : Addr) (D : Cell) (fV fC : Field) (b : Addr) (A : Cell) (z : Int32) (o len : Nat) (args : Array Value) (s : State) : Prop := args = #[.ref a, .ref b, .int (Int32.ofNat o), .int (Int32.ofNat len), .null] ∧ Blank "java/lang/String" a D s ∧ Found "java/lang/String" "value" "[B" fV s ∧ Found "java/lang/String" "coder" "B" fC s ∧ Ch b A s ∧ StaticIs s "java/lang/String" "COMPACT_STRINGS" "Z" (.int z) ∧ ¬ z = 0 ∧ 0 < len ∧ o + len ≤ A.slots.size ∧ len ≤ 536870912 ∧ ∀ i, i < len → ¬ 255 < cv A (o + i)
def E (a : Addr) (D : Cell) (fV fC : Field) (A : Cell) (o len : Nat) (r : Option Value) (s u : State) : Prop := Got a D fV fC A o len r s u
/-- len > 0, no char of the range above 255: a Latin-1 String of their low bytes -/
theorem law (l : Launch) (a : Addr) (D : Cell) (fV fC : Field) (b : Addr) (A : Cell) (z : Int32) (o len : Nat) : Law l yN 5 4 2 35 yB 6 none site (P a D fV fC b A z o len) (E a D fV fC A o len) [⟨a, fC.slot⟩, ⟨a, fV.slot⟩] 1 len := by
  refine Law.of_walk (plainFor_of_name (by decide +kernel)) (by decide +kernel) (by decide +kernel) (by decide) (fun _ _ h => by rw [h.1]; rfl) (fun _ U U' hal hh h => ⟨h.1, h.2.1.mv hal hh, h.2.2.1.al hal, h.2.2.2.1.al hal, h.2.2.2.2.1.mv hal hh, h.2.2.2.2.2.1.there hal hh, h.2.2.2.2.2.2⟩) (fun r U U' V V' h1 hal h2 h => Got.mv r U U' V V' h1 hal h2 h) ?_
  intro p e s m args below meth c s₁ X0 hexec hbytes hml hret hlk hnm hown hh0 W hP
  obtain ⟨rfl, hB, f1, f2, hA, s1, hz, l0, l1, l2, hp⟩ := hP
  have a31 := hA.1.2.2.2
  have c1 : Steps p.tables e below (s₁.setTop (entryFrame m #[.ref a, .ref b, .int (Int32.ofNat o), .int (Int32.ofNat len), .null] 6)) (s₁.setTop (mkF m 0 #[.val (.ref a), .val (.ref b), .val (.int (Int32.ofNat o)), .val (.int (Int32.ofNat len)), .val .null, .unset] [])) := entry rfl
  have c2 : Steps p.tables e below (s₁.setTop (entryFrame m #[.ref a, .ref b, .int (Int32.ofNat o), .int (Int32.ofNat len), .null] 6)) (s₁.setTop (mkF m 1 #[.val (.ref a), .val (.ref b), .val (.int (Int32.ofNat o)), .val (.int (Int32.ofNat len)), .val .null, .unset] [.ref a])) := c1.trans (by
    refine XS.aloadN X0.here hexec rfl (hb hbytes d0) rfl rfl ?_
    exact Steps.refl _)
  obtain ⟨T3, X3, q3, st3⟩ := X0.oinit hexec hown (wks W (objW "java/lang/String" 1)) (g := (mkF m 1 #[.val (.ref a), .val (.ref b), .val (.int (Int32.ofNat o)), .val (.int (Int32.ofNat len)), .val .null, .unset] [.ref a])) rfl (by rw [hml]; rfl) (rest := []) rfl (hb hbytes d1) (W := 0) (by show 2 * 0 + 0 ≤ _; decide) (Nat.le_of_ble_eq_true rfl) (Nat.le_of_ble_eq_true rfl)
  have hh3 := q3.trans hh0
  have c4 : Steps p.tables e below (s₁.setTop (entryFrame m #[.ref a, .ref b, .int (Int32.ofNat o), .int (Int32.ofNat len), .null] 6)) (T3.setTop (mkF m 27 #[.val (.ref a), .val (.ref b), .val (.int (Int32.ofNat o)), .val (.int (Int32.ofNat len)), .val .null, .unset] [])) := (c2.trans (st3 _ (Steps.refl _))).trans (by
    refine XS.iloadN X3.here hexec rfl (hb hbytes d4) rfl ?_
    refine XS.ifYes X3.here hexec rfl (pc0 := 5) rfl (hb hbytes d5) rfl (i0_ne_t (nz32 (by omega) l0)) (by decide) rfl ?_
    exact Steps.refl _)
  obtain ⟨T5, X5, q5, st5⟩ := X3.sget hexec hown (wk W (.fieldLink "java/lang/String" 38 "java/lang/String" "COMPACT_STRINGS" "Z")) s1 (fun _ _ h => by rw [hh3]; exact h) (g := (mkF m 27 #[.val (.ref a), .val (.ref b), .val (.int (Int32.ofNat o)), .val (.int (Int32.ofNat len)), .val .null, .unset] [])) rfl (hb hbytes d27)
  have hh5 := q5.trans hh3
  have c6 : Steps p.tables e below (s₁.setTop (entryFrame m #[.ref a, .ref b, .int (Int32.ofNat o), .int (Int32.ofNat len), .null] 6)) (T5.setTop (mkF m 30 #[.val (.ref a), .val (.ref b), .val (.int (Int32.ofNat o)), .val (.int (Int32.ofNat len)), .val .null, .unset] [.int z])) := c4.trans (st5 _ (Steps.refl _))
  have c7 : Steps p.tables e below (s₁.setTop (entryFrame m #[.ref a, .ref b, .int (Int32.ofNat o), .int (Int32.ofNat len), .null] 6)) (T5.setTop (mkF m 36 #[.val (.ref a), .val (.ref b), .val (.int (Int32.ofNat o)), .val (.int (Int32.ofNat len)), .val .null, .unset] [.int (Int32.ofNat len), .int (Int32.ofNat o), .ref b])) := c6.trans (by
    refine XS.ifNo X5.here hexec rfl (hb hbytes d30) rfl (i0_eq_f hz) ?_
    refine XS.aloadN X5.here hexec rfl (hb hbytes d33) rfl rfl ?_
    refine XS.iloadN X5.here hexec rfl (hb hbytes d34) rfl ?_
    refine XS.iloadN X5.here hexec rfl (hb hbytes d35) rfl ?_
    exact Steps.refl _)
  obtain ⟨v8, T8, X8, E8, g8⟩ := X5.callS hexec (Cmp3.law l b A o len) hown (wks W (staticW "java/lang/String" 177 Cmp3.yN)) (wk W Cmp3.tab) (W := 0) (Nat.le_of_ble_eq_true rfl) (Nat.le_of_ble_eq_true rfl) (Nat.le_refl _) (by show 0 + len ≤ len; omega) (g := (mkF m 36 #[.val (.ref a), .val (.ref b), .val (.int (Int32.ofNat o)), .val (.int (Int32.ofNat len)), .val .null, .unset] [.int (Int32.ofNat len), .int (Int32.ofNat o), .ref b])) rfl (by rw [hml]; rfl) c7 (argsL := [.ref b, .int (Int32.ofNat o), .int (Int32.ofNat len)]) (rest := []) rfl rfl (by show 2 * 0 + 0 ≤ _; decide) (hb hbytes d36) (⟨rfl, hA.mv X5.warmed.alike hh5, l1, l2, hp⟩)
  obtain ⟨e8, z8⟩ := E8
  obtain ⟨rfl, N, n1, n2, n3, n4, n5, n6⟩ := NewArr.mv _ T5 s _ _ hh5.symm (Vm.Alike.refl _) rfl e8
  rw [hh5] at z8
  have hB1 := hB.keep X8.warmed.alike (n6 _ _ hB.1)
  have hne : s.heap.size ≠ a := (Nat.ne_of_lt (Array.getElem?_eq_some_iff.mp hB.1).1).symm
  have c9 : Steps p.tables e below (s₁.setTop (entryFrame m #[.ref a, .ref b, .int (Int32.ofNat o), .int (Int32.ofNat len), .null] 6)) (T8.setTop (mkF m 39 #[.val (.ref a), .val (.ref b), .val (.int (Int32.ofNat o)), .val (.int (Int32.ofNat len)), .val .null, .unset] [.ref s.heap.size])) := g8
  have c10 : Steps p.tables e below (s₁.setTop (entryFrame m #[.ref a, .ref b, .int (Int32.ofNat o), .int (Int32.ofNat len), .null] 6)) (T8.setTop (mkF m 45 #[.val (.ref a), .val (.ref b), .val (.int (Int32.ofNat o)), .val (.int (Int32.ofNat len)), .val .null, .val (.ref s.heap.size)] [.int (Int32.ofNat N.slots.size), .ref s.heap.size, .ref a])) := by
    have hc : Steps p.tables e below (s₁.setTop (entryFrame m #[.ref a, .ref b, .int (Int32.ofNat o), .int (Int32.ofNat len), .null] 6)) (T8.setTop (mkF m 45 #[.val (.ref a), .val (.ref b), .val (.int (Int32.ofNat o)), .val (.int (Int32.ofNat len)), .val .null, .val (.ref s.heap.size)] [.int (Int32.ofNat len), .ref s.heap.size, .ref a])) := c9.trans (by
      refine XS.astore X8.here hexec rfl (hb hbytes d39) rfl rfl rfl ?_
      refine XS.aloadN X8.here hexec rfl (hb hbytes d41) rfl rfl ?_
      refine XS.aload X8.here hexec rfl (hb hbytes d42) rfl rfl ?_
      refine XS.iloadN X8.here hexec rfl (hb hbytes d44) rfl ?_
      exact Steps.refl _)
    rw [n4]; exact hc
  obtain ⟨v11, T11, X11, E11, g11⟩ := X8.callS hexec (CodL.law l s.heap.size N) hown (wks W (staticW "java/lang/String" 47 CodL.yN)) (wk W CodL.tab) (W := 1) (Nat.le_of_ble_eq_true rfl) (Nat.le_of_ble_eq_true rfl) (Nat.le_refl _) (by show 0 + len + 0 ≤ len; omega) (g := (mkF m 45 #[.val (.ref a), .val (.ref b), .val (.int (Int32.ofNat o)), .val (.int (Int32.ofNat len)), .val .null, .val (.ref s.heap.size)] [.int (Int32.ofNat N.slots.size), .ref s.heap.size, .ref a])) rfl (by rw [hml]; rfl) c10 (argsL := [.ref s.heap.size, .int (Int32.ofNat N.slots.size)]) (rest := [.ref a]) rfl rfl (by show 2 * 0 + (1 + 0) ≤ _; decide) (hb hbytes d45) (⟨rfl, n1⟩)
  obtain ⟨rfl, q11⟩ := E11
  have hB11 := hB1.mv (X8.warmed.alike.symm.trans X11.warmed.alike) q11
  have c12 : Steps p.tables e below (s₁.setTop (entryFrame m #[.ref a, .ref b, .int (Int32.ofNat o), .int (Int32.ofNat len), .null] 6)) (T11.setTop (mkF m 48 #[.val (.ref a), .val (.ref b), .val (.int (Int32.ofNat o)), .val (.int (Int32.ofNat len)), .val .null, .val (.ref s.heap.size)] [.int 0, .ref a])) := g11
  obtain ⟨T13, X13, p13, bl13, sl13, st13⟩ := X11.finit hexec hown (wk W (.fieldLink "java/lang/String" 15 "java/lang/String" "coder" "B")) (Or.inr ⟨_, (wk W (.laysFinal "java/lang/String" "java/lang/String" "coder" "B"))⟩) (Or.inl ⟨rfl, hnm⟩) f2 (Or.inl rfl) hB11 (t := .byte) (by decide +kernel) rfl (g := (mkF m 48 #[.val (.ref a), .val (.ref b), .val (.int (Int32.ofNat o)), .val (.int (Int32.ofNat len)), .val .null, .val (.ref s.heap.size)] [.int 0, .ref a])) rfl (rest := []) rfl (hb hbytes d48)
  have c14 : Steps p.tables e below (s₁.setTop (entryFrame m #[.ref a, .ref b, .int (Int32.ofNat o), .int (Int32.ofNat len), .null] 6)) (T13.setTop (mkF m 54 #[.val (.ref a), .val (.ref b), .val (.int (Int32.ofNat o)), .val (.int (Int32.ofNat len)), .val .null, .val (.ref s.heap.size)] [.ref s.heap.size, .ref a])) := (c12.trans (st13 _ (Steps.refl _))).trans (by
    refine XS.aloadN X13.here hexec rfl (hb hbytes d51) rfl rfl ?_
    refine XS.aload X13.here hexec rfl (hb hbytes d52) rfl rfl ?_
    exact Steps.refl _)
  obtain ⟨T15, X15, p15, bl15, sl15, st15⟩ := X13.finit hexec hown (wk W (.fieldLink "java/lang/String" 9 "java/lang/String" "value" "[B")) (Or.inr ⟨_, (wk W (.laysFinal "java/lang/String" "java/lang/String" "value" "[B"))⟩) (Or.inl ⟨rfl, hnm⟩) f1 (Or.inl rfl) bl13 (t := (.array .byte)) (by decide +kernel) rfl (g := (mkF m 54 #[.val (.ref a), .val (.ref b), .val (.int (Int32.ofNat o)), .val (.int (Int32.ofNat len)), .val .null, .val (.ref s.heap.size)] [.ref s.heap.size, .ref a])) rfl (rest := []) rfl (hb hbytes d54)
  have c16 : Steps p.tables e below (s₁.setTop (entryFrame m #[.ref a, .ref b, .int (Int32.ofNat o), .int (Int32.ofNat len), .null] 6)) (T15.setTop (mkF m 57 #[.val (.ref a), .val (.ref b), .val (.int (Int32.ofNat o)), .val (.int (Int32.ofNat len)), .val .null, .val (.ref s.heap.size)] [])) := c14.trans (st15 _ (Steps.refl _))
  have ap := apart (Or.inr ⟨_, (wk W (.laysFinal "java/lang/String" "java/lang/String" "value" "[B"))⟩) (Or.inr ⟨_, (wk W (.laysFinal "java/lang/String" "java/lang/String" "coder" "B"))⟩) f1 f2 (t₁ := .array .byte) (t₂ := .byte) (by decide +kernel) (by decide +kernel) (by decide)
  have al := X8.warmed.alike.symm.trans X15.warmed.alike
  have n7 : T11.heap[s.heap.size]? = some N := by rw [q11]; exact n1.1
  exact ⟨T15, none, _, _, _, X15, by simp, rfl, by omega, (fun _ => rfl), ⟨rfl, _, N, bl15, ((Same.refl D _).set _ (by simp)).set _ (by simp), sl15, (Cell.slots_setSlot_ne _ ap).trans sl13, n1.keep al (p15.other hne (p13.other hne n7)), n2, by rw [al.findClass]; exact n3, n4, n5, fun y c h1 h2 => p15.other h1 (p13.other h1 (by rw [q11]; exact n6 y c h2)), by rw [p15.2.2, p13.2.2, q11]; exact z8⟩, fun fs hl => c16.trans (X15.returnOut hexec hret (hb hbytes d57) hl)⟩
end New4
namespace New1
def yN : MethodName := ⟨"java/lang/String", "<init>", "([C)V"⟩
abbrev yB : ByteArray := jdk_42_method_3_code
theorem d0 : decode yB 0 = .ok (.aload_n 0, 1) := by decide +kernel
theorem d1 : decode yB 1 = .ok (.aload_n 1, 1) := by decide +kernel
theorem d2 : decode yB 2 = .ok (.iconst 0, 1) := by decide +kernel
theorem d3 : decode yB 3 = .ok (.aload_n 1, 1) := by decide +kernel
theorem d4 : decode yB 4 = .ok (.arraylength, 1) := by decide +kernel
theorem d5 : decode yB 5 = .ok (.aconst_null, 1) := by decide +kernel
theorem d6 : decode yB 6 = .ok (.invokespecial 27, 3) := by decide +kernel
theorem d9 : decode yB 9 = .ok (.return_, 1) := by decide +kernel
def site : List Cond := [New4.tab] ++ initW "java/lang/String" 27 New4.yN
def tab : Cond := tabOf yN yB 2 none site
def P (a : Addr) (D : Cell) (fV fC : Field) (b : Addr) (A : Cell) (z : Int32) (args : Array Value) (s : State) : Prop := args = #[.ref a, .ref b] ∧ Blank "java/lang/String" a D s ∧ Found "java/lang/String" "value" "[B" fV s ∧ Found "java/lang/String" "coder" "B" fC s ∧ Ch b A s ∧ StaticIs s "java/lang/String" "COMPACT_STRINGS" "Z" (.int z) ∧ ¬ z = 0 ∧ 0 < A.slots.size ∧ A.slots.size ≤ 536870912 ∧ ∀ i, i < A.slots.size → ¬ 255 < cv A i
def E (a : Addr) (D : Cell) (fV fC : Field) (A : Cell) (r : Option Value) (s u : State) : Prop := Got a D fV fC A 0 A.slots.size r s u
/-- new String(chars), not empty, no char above 255: a Latin-1 String of their low bytes -/
theorem law (l : Launch) (a : Addr) (D : Cell) (fV fC : Field) (b : Addr) (A : Cell) (z : Int32) : Law l yN 2 1 3 52 yB 2 none site (P a D fV fC b A z) (E a D fV fC A) [⟨a, fC.slot⟩, ⟨a, fV.slot⟩] 1 A.slots.size := by
  refine Law.of_walk (plainFor_of_name (by decide +kernel)) (by decide +kernel) (by decide +kernel) (by decide) (fun _ _ h => by rw [h.1]; rfl) (fun _ U U' hal hh h => ⟨h.1, h.2.1.mv hal hh, h.2.2.1.al hal, h.2.2.2.1.al hal, h.2.2.2.2.1.mv hal hh, h.2.2.2.2.2.1.there hal hh, h.2.2.2.2.2.2⟩) (fun r U U' V V' h1 hal h2 h => Got.mv r U U' V V' h1 hal h2 h) ?_
  intro p e s m args below meth c s₁ X0 hexec hbytes hml hret hlk hnm hown hh0 W hP
  obtain ⟨rfl, hB, f1, f2, hA, s1, hz, l0, l2, hp⟩ := hP
  have c1 : Steps p.tables e below (s₁.setTop (entryFrame m #[.ref a, .ref b] 2)) (s₁.setTop (mkF m 0 #[.val (.ref a), .val (.ref b)] [])) := entry rfl
  have c2 : Steps p.tables e below (s₁.setTop (entryFrame m #[.ref a, .ref b] 2)) (s₁.setTop (mkF m 6 #[.val (.ref a), .val (.ref b)] [.null, .int (Int32.ofNat A.slots.size), .int 0, .ref b, .ref a])) := c1.trans (by
    refine XS.aloadN X0.here hexec rfl (hb hbytes d0) rfl rfl ?_
    refine XS.aloadN X0.here hexec rfl (hb hbytes d1) rfl rfl ?_
    refine iconstV X0.here hexec rfl 0 (hb hbytes d2) (by decide) ?_
    refine XS.aloadN X0.here hexec rfl (hb hbytes d3) rfl rfl ?_
    refine X0.alen hexec (hA.1.mv X0.warmed.alike hh0) rfl rfl (hb hbytes d4) ?_
    refine XS.aconstNull X0.here hexec rfl (hb hbytes d5) ?_
    exact Steps.refl _)
  obtain ⟨v3, T3, X3, E3, g3⟩ := X0.callN hexec (New4.law l a D fV fC b A z 0 A.slots.size) rfl hown (wks W (initW "java/lang/String" 27 New4.yN)) (W New4.tab (by simp only [site, List.mem_cons, List.mem_append, true_or, or_true])) (W := 0) (Nat.le_of_ble_eq_true rfl) (Nat.le_of_ble_eq_true rfl) (Nat.le_refl _) (by show 0 + A.slots.size ≤ A.slots.size; omega) (g := (mkF m 6 #[.val (.ref a), .val (.ref b)] [.null, .int (Int32.ofNat A.slots.size), .int (Int32.ofNat 0), .ref b, .ref a])) rfl (by rw [hml]; rfl) c2 (argsL := [.ref b, .int (Int32.ofNat 0), .int (Int32.ofNat A.slots.size), .null]) (rest := []) rfl rfl (by show 2 * 0 + 0 ≤ _; decide) (hb hbytes d6) (⟨rfl, hB.mv X0.warmed.alike hh0, f1.al X0.warmed.alike, f2.al X0.warmed.alike, hA.mv X0.warmed.alike hh0, s1.there X0.warmed.alike hh0, hz, l0, by omega, l2, fun i hi => by rw [Nat.zero_add]; exact hp i hi⟩)
  have e0 := Got.mv _ s₁ s _ _ hh0.symm (Vm.Alike.refl _) rfl E3
  obtain rfl := e0.1
  have c4 : Steps p.tables e below (s₁.setTop (entryFrame m #[.ref a, .ref b] 2)) (T3.setTop (mkF m 9 #[.val (.ref a), .val (.ref b)] [])) := g3
  exact ⟨T3, none, _, _, _, X3, by simp, rfl, by omega, (fun _ => rfl), e0, fun fs hl => c4.trans (X3.returnOut hexec hret (hb hbytes d9) hl)⟩
theorem pays {l : Launch} {R : Room} {p : Program} {e : Env} {below : List Frame} {s : State} {sargs : Array Value} {len W : Nat} (a : Addr) (D : Cell) (fV fC : Field) (b : Addr) (A : Cell) (z : Int32) (htab : tab.before sargs s = true) (hfr : 4 ≤ R.frames) (hlo : W + 65 ≤ R.locals) :
    Back l R p e below s sargs yN len W (fun A₁ a₁ => A₁.cells + 1 ≤ R.cells ∧ A₁.slots + A.slots.size ≤ R.slots ∧ P a D fV fC b A z a₁ A₁.U) (fun A₁ _ v₁ B₁ => E a D fV fC A v₁ A₁.U B₁.U ∧ B₁.locs = A₁.locs ++ [⟨a, fC.slot⟩, ⟨a, fV.slot⟩] ∧ B₁.cells = A₁.cells + 1 ∧ B₁.slots = A₁.slots + A.slots.size) :=
  (law l a D fV fC b A z).pays htab hfr (by omega)
end New1
end StrChars
namespace StrChars.Road
open Jvm Sem ClassFile Op Lib Jvm.Stand Jvm.Free Jvm.Free.XT
open Jvm.Lib.Cold (StaticIs)
abbrev ST : String := "java/lang/String"
/-- every table word that New1's law asks, flat -/
abbrev words : List Jvm.Cond := [.code New1.yN New1.yB 2 none, .initialized ST, .methodLink ST 27 New4.yN, .instanceMethod New4.yN,
  .code New4.yN New4.yB 6 none, .fieldLink ST 38 ST "COMPACT_STRINGS" "Z", .laysFinal ST ST "value" "[B", .fieldLink ST 9 ST "value" "[B", .laysFinal ST ST "coder" "B", .fieldLink ST 15 ST "coder" "B",
  .methodLink ST 1 Lib.objectInit, .instanceMethod Lib.objectInit, .code Lib.objectInit ⟨#[0xb1]⟩ 1 none, .methodLink ST 177 Cmp3.yN, .static Cmp3.yN, .methodLink ST 47 CodL.yN, .static CodL.yN,
  .code Cmp3.yN Cmp3.yB 6 (some (.array .byte)), .initialized U16, .arrayClass .byte, .methodLink U16 115 Cmp5.yN, .static Cmp5.yN, .code Cmp5.yN Cmp5.yB 7 (some .int), .code CodL.yN CodL.yB 2 (some .byte)]
theorem tab_of {a : Array Value} {s : State} (h : ∀ w ∈ words, w.before a s = true) : New1.tab.before a s = true := by
  have h5 : Cmp5.tab.before a s = true := unparts (wk h (.code Cmp5.yN Cmp5.yB 7 (some .int))) (wks h (.initialized Cmp5.yN.cls :: Cmp5.site))
  have hc : CodL.tab.before a s = true := unparts (wk h (.code CodL.yN CodL.yB 2 (some .byte))) (wks h (.initialized CodL.yN.cls :: CodL.site))
  have q5 : ∀ w ∈ Cmp5.tab :: words, w.before a s = true := fun w hw => (List.mem_cons.mp hw).elim (fun e => e ▸ h5) (h w)
  have h3 : Cmp3.tab.before a s = true := unparts (wk q5 (.code Cmp3.yN Cmp3.yB 6 (some (.array .byte)))) (wks q5 (.initialized Cmp3.yN.cls :: Cmp3.site))
  have q3 : ∀ w ∈ Cmp3.tab :: CodL.tab :: words, w.before a s = true := fun w hw => (List.mem_cons.mp hw).elim (fun e => e ▸ h3) fun hw => (List.mem_cons.mp hw).elim (fun e => e ▸ hc) (h w)
  have h4 : New4.tab.before a s = true := unparts (wk q3 (.code New4.yN New4.yB 6 none)) (wks q3 (.initialized New4.yN.cls :: New4.site))
  have q4 : ∀ w ∈ New4.tab :: words, w.before a s = true := fun w hw => (List.mem_cons.mp hw).elim (fun e => e ▸ h4) (h w)
  exact unparts (wk q4 (.code New1.yN New1.yB 2 none)) (wks q4 (.initialized New1.yN.cls :: New1.site))
/-- the words ride from the start Z to the walk's own state -/
theorem moved {Z s : State} {a0 args : Array Value} (hZ : Z.Warmed39 s.vm) (hw : ∀ d ∈ words, d.before a0 Z = true) : ∀ d ∈ words, d.before args s = true := fun d hd => by
  have q := hw d hd
  have t : ∀ d ∈ words, d = .arrayClass .byte ∨ (d.onTables && d.keepsFace) = true := by decide +kernel
  rcases t d hd with rfl | t
  · exact RoadKit.mvA hZ q
  · exact RoadKit.mv hZ q t
/-- WHAT COMES BACK, over the tables of the start Z: h the heap at the call, h' behind it -/
def Q (Z : State) (x : Addr) (A : Cell) (h : Heap) (v : Option Value) (h' : Heap) (L : List Loc) : Prop := v = none ∧ (∀ y ∈ L, y.base = x) ∧ RoadKit.Keep h h' [x] ∧ h'.size = h.size + 1 ∧ RoadKit.Exa Z h' x ST ∧ RoadKit.Fld Z h' x ST "value" "[B" (.ref h.size) ∧ RoadKit.Fld Z h' x ST "coder" "B" (.int 0) ∧
  (∃ V : Cell, RoadKit.Arr Z h' h.size V .byte ∧ V.vm = .none ∧ Z.vm.findClass "[B" = some V.cls ∧ V.slots.size = A.slots.size ∧ ∀ j, j < A.slots.size → V.slots[j]? = some (.int (lo8 (cv A j)))) ∧
  ∀ (O n d : String) (w : Value), RoadKit.Fld Z h x O n d w → RoadKit.slotOf Z O n d ≠ RoadKit.slotOf Z ST "value" "[B" → RoadKit.slotOf Z O n d ≠ RoadKit.slotOf Z ST "coder" "B" → RoadKit.Fld Z h' x O n d w
/-- **new String(chars) AT A CALL, IN THE ROAD'S FORM**: for specialBack behind newO: x the fresh String, b the char[] with the cell A -/
theorem back {p : Program} {l : Launch} {e : Env} {R : Room} {s : State} {args : Array Value} {below : List Frame} {len W : Nat} {Z : State} {a0 : Array Value} {h : Heap} (hZ : Z.Warmed39 s.vm) (hw : ∀ d ∈ words, d.before a0 Z = true) {kI : Nat} (wi : (Jvm.Cond.instantiable ST kI).before a0 Z = true)
    {x b : Addr} {A : Cell} {z : Int32} {v0 c0 : Value} (E : RoadKit.Exa Z h x ST) (V : RoadKit.Fld Z h x ST "value" "[B" v0) (C : RoadKit.Fld Z h x ST "coder" "B" c0) (K : RoadKit.Arr Z h b A .char) (hty : Typed .char A) (S : RoadKit.Sta Z h ST "COMPACT_STRINGS" "Z" (.int z)) (hz : ¬ z = 0)
    (l0 : 0 < A.slots.size) (l2 : A.slots.size ≤ 536870912) (hp : ∀ i, i < A.slots.size → ¬ 255 < cv A i) (hfr : 4 ≤ R.frames) (hlo : W + 65 ≤ R.locals) :
    Back l R p e below s args New1.yN len W (fun P a => a = #[.ref x, .ref b] ∧ P.U.heap = h ∧ P.cells + 1 ≤ R.cells ∧ P.slots + A.slots.size ≤ R.slots)
      (fun P _ v B => ∃ L, Q Z x A h v B.U.heap L ∧ B.locs = P.locs ++ L ∧ B.cells = P.cells + 1 ∧ B.slots = P.slots + A.slots.size) := by
  intro m meth c P g ig mk a X hg hsize hdg hW hn hp'
  obtain ⟨rfl, rfl, r1, r2⟩ := hp'
  have al : Z.vm.Alike P.U.vm := hZ.alike.trans X.warmed.alike
  obtain ⟨D, cfV, kV, iV, fV, hD, gV, stV, knV, obV, asV, slV⟩ := id V
  obtain ⟨D', cfC, kC, iC, fC, hD', gC, stC, -, -, asC, slC⟩ := id C
  cases hD.symm.trans hD'
  obtain ⟨D2, kD, e1, e2, e3, e4, e5⟩ := id E
  cases hD.symm.trans e1
  obtain ⟨c2, k2, i1, i2, i3, -⟩ := Cond.instantiable_spec wi
  cases e2.symm.trans i1
  cases e3.symm.trans i2
  obtain ⟨kU, u1, u2⟩ := al.2.2 _ _ e3
  have hB : Blank ST x D P.U := ⟨hD, ⟨knV, fun q hq => by rw [hq] at obV; cases obV⟩, by rw [al.findClass]; exact e2, kU, u1, by rw [u2]; exact i3, by rw [u2]; exact e5 i3⟩
  have F1 : Found ST "value" "[B" fV P.U := ⟨SBG.found_only al ⟨cfV, kV, iV, gV⟩, stV⟩
  have F2 : Found ST "coder" "B" fC P.U := ⟨SBG.found_only al ⟨cfC, kC, iC, gC⟩, stC⟩
  have hA : Ch b A P.U := ⟨⟨K.1, State.isArrayOf_alike al K.2.1, K.2.2, by omega⟩, hty⟩
  have hS : StaticIs P.U ST "COMPACT_STRINGS" "Z" (.int z) := by
    obtain ⟨cfS, iS, kS, fS, st, cS, t1, t2, t3, t4, t5, t6, t7⟩ := S
    exact StaticIs.there (s := { Z with heap := P.U.heap }) ⟨cfS, iS, kS, fS, st, cS, t1, t2, t3, t4, t5, (fun q => by rw [q] at t6; cases t6), t7⟩ al rfl
  obtain ⟨v, B, X', ⟨⟨hv, E', V', q1, q2, q3, q4, q5, q6, q7, q8, q9, q10, q11⟩, hl, hc, hs⟩, st⟩ := New1.pays x D fV fC b A z (tab_of (moved hZ hw)) hfr hlo m meth c P g ig mk _ X hg hsize hdg hW hn ⟨r1, r2, rfl, hB, F1, F2, hA, hS, hz, l0, l2, hp⟩
  have al' : Z.vm.Alike B.U.vm := hZ.alike.trans X'.warmed.alike
  have hsz : E'.slots.size = D.slots.size := by
    obtain ⟨-, -, -, kB, w1, w2, w3⟩ := q1
    obtain ⟨kB', y1, y2⟩ := al'.2.2 _ _ e3
    rw [q2.2.1] at w1
    cases w1.symm.trans y1
    rw [w3, e5 i3, y2]
  refine ⟨v, B, X', ⟨_, ⟨hv, ?_, ⟨by omega, fun y cy hy hn' => q10 y cy (by simpa using hn') hy, fun y cy hy => ?_⟩, q11, ⟨E', _, q1.1, by rw [q2.2.1]; exact e2, by rw [q2.2.1]; exact e3, by rw [q2.1]; exact obV, fun _ => by rw [hsz]; exact e5 i3⟩,
    ⟨E', cfV, kV, iV, fV, q1.1, gV, stV, by rw [q2.1]; exact knV, by rw [q2.1]; exact obV, by rw [q2.2.1]; exact asV, q3⟩, ⟨E', cfC, kC, iC, fC, q1.1, gC, stC, by rw [q2.1]; exact knV, by rw [q2.1]; exact obV, by rw [q2.2.1]; exact asC, q4⟩,
    ⟨V', ⟨q5.1, State.isArrayOf_alike al'.symm q5.2.1, q5.2.2.1⟩, q6, by rw [← al'.findClass]; exact q7, q8, fun j hj => by have := q9 j hj; rwa [Nat.zero_add] at this⟩, fun O n d w F n1 n2 => ?_⟩, hl, hc, hs⟩, st⟩
  · intro y hy
    simp only [List.mem_cons, List.not_mem_nil, or_false] at hy
    rcases hy with rfl | rfl <;> rfl
  · by_cases q : y = x
    · subst q
      cases hD.symm.trans hy
      exact ⟨E', q1.1, q2.2.1, q2.1, hsz⟩
    · exact ⟨cy, q10 y cy q hy, rfl, rfl, rfl⟩
  · obtain ⟨D3, cf, k, i, f, g1, g2, g3, g4, g5, g6, g7⟩ := F
    cases hD.symm.trans g1
    simp only [RoadKit.slotOf, g2, gV, gC, Option.map_some, Option.getD_some] at n1 n2
    exact ⟨E', cf, k, i, f, q1.1, g2, g3, by rw [q2.1]; exact g4, by rw [q2.1]; exact g5, by rw [q2.2.1]; exact g6, by rw [q2.2.2 f.slot (by simp [n1, n2])]; exact g7⟩
end StrChars.Road
namespace StrChars.Road
open Jvm Sem ClassFile Op Lib Jvm.Stand Jvm.Free Jvm.Free.XT
/-- WHAT COMES BACK, the byte[] as a list of values -/
def QA (Z : State) (x : Addr) (zn : Int32) (cs : List Int32) (h : Heap) (v : Option Value) (h' : Heap) (L : List Loc) : Prop := v = none ∧ (∀ y ∈ L, y.base = x) ∧ RoadKit.Keep h h' [x] ∧ h'.size = h.size + 1 ∧ RoadKit.Exa Z h' x ST ∧ RoadKit.Fld Z h' x ST "value" "[B" (.ref h.size) ∧ RoadKit.Fld Z h' x ST "coder" "B" (.int 0) ∧
  (∃ kb, Z.vm.findClass "[B" = some kb ∧ RoadKit.Arv Z h' h.size kb .byte zn (cs.map fun c => .int (lo8 c)) (.int 0)) ∧
  ∀ (O n d : String) (w : Value), RoadKit.Fld Z h x O n d w → RoadKit.slotOf Z O n d ≠ RoadKit.slotOf Z ST "value" "[B" → RoadKit.slotOf Z O n d ≠ RoadKit.slotOf Z ST "coder" "B" → RoadKit.Fld Z h' x O n d w
/-- **new String(chars) AT A CALL, THE ARRAYS AS LISTS**: the char[] at b holds cs, not empty, no char above 255 -/
theorem backArv {p : Program} {l : Launch} {e : Env} {R : Room} {s : State} {args : Array Value} {below : List Frame} {len W : Nat} {Z : State} {a0 : Array Value} {h : Heap} (hZ : Z.Warmed39 s.vm) (hw : ∀ d ∈ words, d.before a0 Z = true) {kI : Nat} (wi : (Jvm.Cond.instantiable ST kI).before a0 Z = true)
    {x b : Addr} {k : ClassId} {zn z : Int32} {cs : List Int32} {dv v0 c0 : Value} (E : RoadKit.Exa Z h x ST) (V : RoadKit.Fld Z h x ST "value" "[B" v0) (C : RoadKit.Fld Z h x ST "coder" "B" c0) (K : RoadKit.Arv Z h b k .char zn (cs.map Value.int) dv) (S : RoadKit.Sta Z h ST "COMPACT_STRINGS" "Z" (.int z)) (hz : ¬ z = 0)
    (hlen : zn.toNatClampNeg = cs.length) (h0 : 0 < cs.length) (hbig : cs.length ≤ 536870912) (hall : ∀ c ∈ cs, ¬ 255 < c) (hfr : 4 ≤ R.frames) (hlo : W + 65 ≤ R.locals) :
    Back l R p e below s args New1.yN len W (fun P a => a = #[.ref x, .ref b] ∧ P.U.heap = h ∧ P.cells + 1 ≤ R.cells ∧ P.slots + cs.length ≤ R.slots)
      (fun P _ v B => ∃ L, QA Z x zn cs h v B.U.heap L ∧ B.locs = P.locs ++ L ∧ B.cells = P.cells + 1 ∧ B.slots = P.slots + cs.length) := by
  obtain ⟨A, K1, K2, K3, K4, K5, K6⟩ := K
  have e : A.slots.size = cs.length := K3.trans hlen
  have hat : ∀ (i : Nat) (hi : i < cs.length), A.slots[i]? = some (.int cs[i]) := fun i hi => by rw [K5 i (by omega)]; simp [List.getD_eq_getElem?_getD, hi]
  have hcv : ∀ (i : Nat) (hi : i < cs.length), cv A i = cs[i] := fun i hi => by unfold cv; rw [hat i hi]
  have hty : Typed .char A := fun i v hv => by
    have hi : i < A.slots.size := (Array.getElem?_eq_some_iff.mp hv).1
    have q := K5 i hi
    rw [hv] at q
    rw [Option.some.inj q]
    exact K6 i hi
  refine Back.mono (back hZ hw wi E V C K1 hty S hz (by omega) (by omega) (fun i hi => by rw [hcv i (by omega)]; exact hall _ (List.getElem_mem _)) hfr hlo) (fun P a hp => ⟨hp.1, hp.2.1, hp.2.2.1, by rw [e]; exact hp.2.2.2⟩) (fun P a v B hp hq => ?_)
  obtain ⟨L, ⟨q1, q2, q3, q4, q5, q6, q7, ⟨V', v1, v2, v3, v4, v5⟩, q9⟩, hl, hc, hs⟩ := hq
  refine ⟨L, ⟨q1, q2, q3, q4, q5, q6, q7, ⟨V'.cls, v3, V', v1, rfl, by rw [v4, e, hlen], K4, fun i hi => ?_, fun i hi => ?_⟩, q9⟩, hl, hc, by rw [hs, e]⟩
  · have hi' : i < cs.length := by omega
    rw [v5 i (by omega), hcv i hi']; simp [List.getD_eq_getElem?_getD, hi']
  · have hi' : i < cs.length := by omega
    simp only [List.getD_eq_getElem?_getD, List.getElem?_map, List.getElem?_eq_getElem hi', Option.map_some, Option.getD_some]
    exact fits_lo8 _
end StrChars.Road
namespace StrChars.Road
open Jvm Sem ClassFile Op Lib Jvm.Stand Jvm.Free Jvm.Free.XT
/-- WHAT COMES BACK, in the writer's own shape -/
def QV (Z : State) (x : Addr) (N : Int32) (bs : List Int32) (h : Heap) (n0 : Nat) (v : Option Value) (h' : Heap) (L : List Loc) : Prop := v = none ∧ RoadKit.Fr n0 L ∧ RoadKit.Keep h h' [x] ∧ RoadKit.Exa Z h' x ST ∧ RoadKit.Fld Z h' x ST "coder" "B" (.int 0) ∧
  ∃ (t : Addr) (kb : ClassId), n0 ≤ t ∧ h.size ≤ t ∧ ¬ t = x ∧ RoadKit.Fld Z h' x ST "value" "[B" (.ref t) ∧ RoadKit.Arv Z h' t kb .byte N (bs.map Value.int) (.int 0)
/-- **new String(chars) AT A CALL, FOR THE WRITER**: a char[] of n known ints, each 0 to 255 -/
theorem backV {p : Program} {l : Launch} {e : Env} {R : Room} {s : State} {args : Array Value} {below : List Frame} {len W : Nat} {Z : State} {a0 : Array Value} {h : Heap} (hZ : Z.Warmed39 s.vm) (hw : ∀ d ∈ words, d.before a0 Z = true) {kI : Nat} (wi : (Jvm.Cond.instantiable ST kI).before a0 Z = true)
    {x b : Addr} {kC : ClassId} {cs bs : List Int32} {d v0 c0 : Value} {z N : Int32} {n n0 : Nat} (hx0 : n0 ≤ x) (hh0 : n0 ≤ h.size) (E : RoadKit.Exa Z h x ST) (V : RoadKit.Fld Z h x ST "value" "[B" v0) (C : RoadKit.Fld Z h x ST "coder" "B" c0) (K : RoadKit.Arv Z h b kC .char N (cs.map Value.int) d) (S : RoadKit.Sta Z h ST "COMPACT_STRINGS" "Z" (.int z)) (hz : ¬ z = 0)
    (hn : cs.length = n) (hN : N = Int32.ofNat n) (l0 : 0 < n) (l2 : n ≤ 4000) (hp : ∀ c ∈ cs, ¬ c < 0 ∧ ¬ (255 : Int32) < c) (hb : bs = cs.map (fun c => c.toInt8.toInt32)) (hfr : 4 ≤ R.frames) (hlo : W + 65 ≤ R.locals) :
    Back l R p e below s args (⟨"java/lang/String", "<init>", "([C)V"⟩ : MethodName) len W (fun P a => a = #[.ref x, .ref b] ∧ P.U.heap = h ∧ P.cells + 1 ≤ R.cells ∧ P.slots + n ≤ R.slots)
      (fun P _ v B => ∃ L, QV Z x N bs h n0 v B.U.heap L ∧ B.locs = P.locs ++ L ∧ B.cells = P.cells + 1 ∧ B.slots = P.slots + n) := by
  subst hn hN hb
  refine Back.mono (backArv hZ hw wi E V C K S hz (n32 (by omega)) l0 (by omega) (fun c hc => (hp c hc).2) hfr hlo) (fun P a hp => hp) (fun P a v B hp hq => ?_)
  obtain ⟨L, ⟨q1, q2, q3, q4, q5, q6, q7, ⟨kb, v1, v2⟩, q9⟩, hl, hc, hs⟩ := hq
  exact ⟨L, ⟨q1, fun y hy => by rw [q2 y hy]; exact hx0, q3, q5, q7, h.size, kb, hh0, Nat.le_refl _, Nat.ne_of_gt E.lt, q6, by rw [List.map_map]; exact v2⟩, hl, hc, hs⟩
end StrChars.Road
end Jvm.Pilot.@@N@@
namespace Jvm.Pilot.@@N@@
open Jvm Jvm.ClassFile Sem Op Lib Jvm.Free Jvm.Stand Jvm.LawKit Jvm.RoadKit Bundle Jvm.Pilot.@@N@@.Jvm.D
theorem own_nb {d : Int32} (h : d = 0 ∨ d = 1) : narrow .boolean (.int d) = .int d ∧ fits .boolean (.int d) = true := by rcases h with rfl | rfl <;> exact ⟨rfl, rfl⟩
theorem own_chr (x : Int32) : ¬ (nar .char ((x &&& (255 : Int32)).toUInt32.toUInt16.toUInt32.toInt32)) < 0 ∧ ¬ (255 : Int32) < (nar .char ((x &&& (255 : Int32)).toUInt32.toUInt16.toUInt32.toInt32)) := by
  have e : nar .char ((x &&& (255 : Int32)).toUInt32.toUInt16.toUInt32.toInt32) = x &&& 255 := by
    show ((x &&& (255 : Int32)).toUInt32.toUInt16.toUInt32.toInt32).toUInt32.toUInt16.toUInt32.toInt32 = x &&& 255
    rw [i2c_mask, i2c_mask]
  rw [e]
  have h1 := c_mask x 255 8 (by decide) (by decide)
  have z0 : (0 : Int32).toInt = 0 := rfl
  have z1 : (255 : Int32).toInt = 255 := rfl
  simp only [Int32.lt_iff_toInt_lt, z0, z1, h1]
  omega
theorem own_01 (P : Prop) [Decidable P] : (if P then (0 : Int32) else (1 : Int32)) = 0 ∨ (if P then (0 : Int32) else (1 : Int32)) = 1 := by
  by_cases h : P
  · left; rw [if_pos h]
  · right; rw [if_neg h]
theorem d8_0 : decode jdk_30_method_1_code 0 = .ok (.aload_n 0, 1) := by decide +kernel
theorem d8_1 : decode jdk_30_method_1_code 1 = .ok (.invokespecial 1, 3) := by decide +kernel
theorem d8_4 : decode jdk_30_method_1_code 4 = .ok (.return_, 1) := by decide +kernel
theorem pn_0 : plainName "java/lang/Record" = true := by first | (simp [plainName, overriddenIn]; done) | decide +kernel
theorem ef_8 (m : MethodId) (x0 : Addr) : entryFrame m #[(.ref x0)] 1 = mkF m 0 #[.val (.ref x0)] [] := by first | (simp [entryFrame, mkF, argsToLocals, Value.category]; done) | rfl
def Q8 (Z : State) (a : Addr) (h0 : Heap) (n0 : Nat) (v : Option Value) (h : Heap) (L : List Loc) : Prop := v = none ∧ Fr n0 L ∧ h = h0
set_option maxRecDepth 65536 in
set_option maxHeartbeats 40000000 in
theorem rm8 (l : Launch) (Z : State) (a0 : Array Value) (hw : ∀ d ∈ tables_1, d.before a0 Z = true) (ws : List Jvm.Cond) (a : Addr) (h0 : Heap) (n0 : Nat) (Z0 : n0 ≤ h0.size) :
    MetFree l (⟨"java/lang/Record", "<init>", "()V"⟩ : MethodName) (head1 (Jvm.Cond.code (⟨"java/lang/Record", "<init>", "()V"⟩ : MethodName) jdk_30_method_1_code 1 none :: ws) ({ frames := 1, cells := 0, slots := 0, locals := 12 } : Room)) (fun aa U => aa = #[(.ref a)] ∧ Z.Warmed39 U.vm ∧ U.heap = h0) (fun _ _ _ _ _ => True) (fun _ U o U' => ∃ v L, o = .returned v ∧ Q8 Z a h0 n0 v U'.heap L ∧ FrameEnd U o U' L ({ frames := 1, cells := 0, slots := 0, locals := 12 } : Room).cells ({ frames := 1, cells := 0, slots := 0, locals := 12 } : Room).slots) := by
  refine MetFree.of_bodySF (plainFor_of_name pn_0) hisR ?_
  intro p e s m args below meth c s₁ Bd hml0 hP hK
  obtain ⟨rfl, hZ, hh⟩ := hP
  have hx := Bd.exec
  have hby := Bd.bytes
  have hml : c.maxLocals = 1 := hml0
  have hown : s.vm.findClass "java/lang/Record" = some m.cls := findClass_of_methodNamed Bd.named
  have hnm := (name_of_methodNamed Bd.named Bd.method).1
  have X0 : Stand p l e ({ frames := 1, cells := 0, slots := 0, locals := 12 } : Room) s m #[(.ref a)] below meth c s₁ [] 0 0 := Stand.of_body Bd
  have e0 : s₁.heap = h0 := by rw [← hh, Bd.state]; rfl
  have N0 := Fr.nil n0
  have pre0 : ∀ t, Steps p.tables e below (s₁.setTop (mkF m 0 #[.val (.ref a)] [])) t → Steps p.tables e below (s₁.setTop (entryFrame m #[(.ref a)] 1)) t := fun t k => castTop (ef_8 m a) k
  have k1 : ∀ t, Steps p.tables e below (s₁.setTop (mkF m 1 #[.val (.ref a)] [(.ref a)])) t → Steps p.tables e below (s₁.setTop (entryFrame m #[(.ref a)] 1)) t := fun t k => pre0 t (by
    show Steps p.tables e below (s₁.setTop (mkF m 0 #[.val (.ref a)] [])) _
    refine XS.aloadN X0.here hx rfl (hb hby d8_0) rfl rfl ?_
    exact k)
  obtain ⟨T2, X2, e2, st2⟩ := initO X0 hx hZ hown (hw _ (List.mem_of_getElem? (i := 44) rfl)) (hw _ (List.mem_of_getElem? (i := 12) rfl)) (hw _ (List.mem_of_getElem? (i := 13) rfl)) e0 (g := (mkF m 1 #[.val (.ref a)] [(.ref a)])) rfl (by rw [hml]; rfl) rfl (hb hby d8_1) (by decide) (W := 0) (by show 2 * 0 + _ ≤ _; exact Nat.le_of_eq rfl) (by decide)
  have k3 : ∀ t, Steps p.tables e below (T2.setTop (mkF m 4 #[.val (.ref a)] [])) t → Steps p.tables e below (s₁.setTop (entryFrame m #[(.ref a)] 1)) t := fun t k => k1 t (st2 t k)
  obtain ⟨fs, hr, hrun, hended, hW, hsame⟩ := X2.leave (v := none) (fun _ => rfl)
  refine ⟨_, _, k3 _ ?_, hrun, hended, _, _, rfl, ?_, ⟨_, rfl⟩, hW, hsame.mono (by decide) (by decide)⟩
  · show Steps p.tables e below (T2.setTop (mkF m 4 #[.val (.ref a)] [])) _
    exact X2.returnOut hx Bd.returns (hb hby d8_4) hr
  · show Q8 Z a h0 n0 _ T2.heap _
    rw [e2]
    exact ⟨rfl, N0, rfl⟩
theorem d9_0 : decode prog_34_method_1_code 0 = .ok (.aload_n 0, 1) := by decide +kernel
theorem d9_1 : decode prog_34_method_1_code 1 = .ok (.invokespecial 1, 3) := by decide +kernel
theorem d9_4 : decode prog_34_method_1_code 4 = .ok (.aload_n 0, 1) := by decide +kernel
theorem d9_5 : decode prog_34_method_1_code 5 = .ok (.aload_n 1, 1) := by decide +kernel
theorem d9_6 : decode prog_34_method_1_code 6 = .ok (.putfield 7, 3) := by decide +kernel
theorem d9_9 : decode prog_34_method_1_code 9 = .ok (.aload_n 0, 1) := by decide +kernel
theorem d9_10 : decode prog_34_method_1_code 10 = .ok (.aload_n 2, 1) := by decide +kernel
theorem d9_11 : decode prog_34_method_1_code 11 = .ok (.putfield 13, 3) := by decide +kernel
theorem d9_14 : decode prog_34_method_1_code 14 = .ok (.aload_n 0, 1) := by decide +kernel
theorem d9_15 : decode prog_34_method_1_code 15 = .ok (.aload_n 3, 1) := by decide +kernel
theorem d9_16 : decode prog_34_method_1_code 16 = .ok (.putfield 17, 3) := by decide +kernel
theorem d9_19 : decode prog_34_method_1_code 19 = .ok (.aload_n 0, 1) := by decide +kernel
theorem d9_20 : decode prog_34_method_1_code 20 = .ok (.aload 4, 2) := by decide +kernel
theorem d9_22 : decode prog_34_method_1_code 22 = .ok (.putfield 21, 3) := by decide +kernel
theorem d9_25 : decode prog_34_method_1_code 25 = .ok (.aload_n 0, 1) := by decide +kernel
theorem d9_26 : decode prog_34_method_1_code 26 = .ok (.lload 5, 2) := by decide +kernel
theorem d9_28 : decode prog_34_method_1_code 28 = .ok (.putfield 25, 3) := by decide +kernel
theorem d9_31 : decode prog_34_method_1_code 31 = .ok (.aload_n 0, 1) := by decide +kernel
theorem d9_32 : decode prog_34_method_1_code 32 = .ok (.aload 7, 2) := by decide +kernel
theorem d9_34 : decode prog_34_method_1_code 34 = .ok (.putfield 29, 3) := by decide +kernel
theorem d9_37 : decode prog_34_method_1_code 37 = .ok (.aload_n 0, 1) := by decide +kernel
theorem d9_38 : decode prog_34_method_1_code 38 = .ok (.iload 8, 2) := by decide +kernel
theorem d9_40 : decode prog_34_method_1_code 40 = .ok (.putfield 33, 3) := by decide +kernel
theorem d9_43 : decode prog_34_method_1_code 43 = .ok (.aload_n 0, 1) := by decide +kernel
theorem d9_44 : decode prog_34_method_1_code 44 = .ok (.lload 9, 2) := by decide +kernel
theorem d9_46 : decode prog_34_method_1_code 46 = .ok (.putfield 37, 3) := by decide +kernel
theorem d9_49 : decode prog_34_method_1_code 49 = .ok (.return_, 1) := by decide +kernel
theorem pn_1 : plainName "com/example/pen_over_wire/penoverwire/model/User" = true := by first | (simp [plainName, overriddenIn]; done) | decide +kernel
theorem pd_0 : parseMethodDescriptor "()V" = some ⟨[], none⟩ := by decide +kernel
theorem ef_9 (m : MethodId) (x0 : Addr) (x1 : Value) (hx1 : x1.isRef = true) (x2 : Value) (hx2 : x2.isRef = true) (x3 : Value) (hx3 : x3.isRef = true) (x4 : Value) (hx4 : x4.isRef = true) (x5 : Int64) (x6 : Value) (hx6 : x6.isRef = true) (x7 : Int32) (x8 : Int64) : entryFrame m #[(.ref x0), x1, x2, x3, x4, (.long x5), x6, (.int x7), (.long x8)] 11 = mkF m 0 #[.val (.ref x0), .val x1, .val x2, .val x3, .val x4, .val (.long x5), .second, .val x6, .val (.int x7), .val (.long x8), .second] [] := by rcases ref_cases hx1 with rfl | ⟨y1, rfl⟩ <;> rcases ref_cases hx2 with rfl | ⟨y2, rfl⟩ <;> rcases ref_cases hx3 with rfl | ⟨y3, rfl⟩ <;> rcases ref_cases hx4 with rfl | ⟨y4, rfl⟩ <;> rcases ref_cases hx6 with rfl | ⟨y6, rfl⟩ <;> (first | (simp [entryFrame, mkF, argsToLocals, Value.category]; done) | rfl)
def Q9 (Z : State) (a : Addr) (v1 : Value) (v2 : Value) (v3 : Value) (v4 : Value) (q5 : Int64) (v6 : Value) (d7 : Int32) (q8 : Int64) (h0 : Heap) (n0 : Nat) (v : Option Value) (h : Heap) (L : List Loc) : Prop := v = none ∧ Fr n0 L ∧ Keep h0 h [a] ∧ Exa Z h a "com/example/pen_over_wire/penoverwire/model/User" ∧ Fld Z h a "com/example/pen_over_wire/penoverwire/model/User" "name" "Ljava/lang/String;" v1 ∧ Fld Z h a "com/example/pen_over_wire/penoverwire/model/User" "role" "Lcom/example/pen_over_wire/penoverwire/model/Role;" v2 ∧ Fld Z h a "com/example/pen_over_wire/penoverwire/model/User" "password" "Lcom/example/pen_over_wire/penoverwire/crypto/PasswordHash;" v3 ∧ Fld Z h a "com/example/pen_over_wire/penoverwire/model/User" "totpSecret" "[B" v4 ∧ Fld Z h a "com/example/pen_over_wire/penoverwire/model/User" "lastOtpStep" "J" (.long q5) ∧ Fld Z h a "com/example/pen_over_wire/penoverwire/model/User" "failedLogins" "Lcom/example/pen_over_wire/penoverwire/model/FailedAttempts;" v6 ∧ Fld Z h a "com/example/pen_over_wire/penoverwire/model/User" "disabled" "Z" (.int d7) ∧ Fld Z h a "com/example/pen_over_wire/penoverwire/model/User" "sessionEpoch" "J" (.long q8)
set_option maxRecDepth 65536 in
set_option maxHeartbeats 40000000 in
theorem rm9 (l : Launch) (Z : State) (a0 : Array Value) (hw : ∀ d ∈ tables_1, d.before a0 Z = true) (ws : List Jvm.Cond) (a : Addr) (v1 : Value) (v2 : Value) (v3 : Value) (v4 : Value) (q5 : Int64) (v6 : Value) (d7 : Int32) (q8 : Int64) (h0 : Heap) (n0 : Nat) (Z0 : n0 ≤ h0.size) (r1 : v1.isRef = true) (r2 : v2.isRef = true) (r3 : v3.isRef = true) (r4 : v4.isRef = true) (r6 : v6.isRef = true) (hd7 : d7 = 0 ∨ d7 = 1) (F1 : Fld Z h0 a "com/example/pen_over_wire/penoverwire/model/User" "name" "Ljava/lang/String;" .null) (F2 : Fld Z h0 a "com/example/pen_over_wire/penoverwire/model/User" "role" "Lcom/example/pen_over_wire/penoverwire/model/Role;" .null) (F3 : Fld Z h0 a "com/example/pen_over_wire/penoverwire/model/User" "password" "Lcom/example/pen_over_wire/penoverwire/crypto/PasswordHash;" .null) (F4 : Fld Z h0 a "com/example/pen_over_wire/penoverwire/model/User" "totpSecret" "[B" .null) (F5 : Fld Z h0 a "com/example/pen_over_wire/penoverwire/model/User" "lastOtpStep" "J" (.long (0 : Int64))) (F6 : Fld Z h0 a "com/example/pen_over_wire/penoverwire/model/User" "failedLogins" "Lcom/example/pen_over_wire/penoverwire/model/FailedAttempts;" .null) (F7 : Fld Z h0 a "com/example/pen_over_wire/penoverwire/model/User" "disabled" "Z" (.int (0 : Int32))) (F8 : Fld Z h0 a "com/example/pen_over_wire/penoverwire/model/User" "sessionEpoch" "J" (.long (0 : Int64))) (Ea : Exa Z h0 a "com/example/pen_over_wire/penoverwire/model/User") (g_a : n0 ≤ a) :
    MetFree l (⟨"com/example/pen_over_wire/penoverwire/model/User", "<init>", "(Ljava/lang/String;Lcom/example/pen_over_wire/penoverwire/model/Role;Lcom/example/pen_over_wire/penoverwire/crypto/PasswordHash;[BJLcom/example/pen_over_wire/penoverwire/model/FailedAttempts;ZJ)V"⟩ : MethodName) (head1 (Jvm.Cond.code (⟨"com/example/pen_over_wire/penoverwire/model/User", "<init>", "(Ljava/lang/String;Lcom/example/pen_over_wire/penoverwire/model/Role;Lcom/example/pen_over_wire/penoverwire/crypto/PasswordHash;[BJLcom/example/pen_over_wire/penoverwire/model/FailedAttempts;ZJ)V"⟩ : MethodName) prog_34_method_1_code 11 none :: ws) ({ frames := 2, cells := 0, slots := 0, locals := 24 } : Room)) (fun aa U => aa = #[(.ref a), v1, v2, v3, v4, (.long q5), v6, (.int d7), (.long q8)] ∧ Z.Warmed39 U.vm ∧ U.heap = h0) (fun _ _ _ _ _ => True) (fun _ U o U' => ∃ v L, o = .returned v ∧ Q9 Z a v1 v2 v3 v4 q5 v6 d7 q8 h0 n0 v U'.heap L ∧ FrameEnd U o U' L ({ frames := 2, cells := 0, slots := 0, locals := 24 } : Room).cells ({ frames := 2, cells := 0, slots := 0, locals := 24 } : Room).slots) := by
  refine MetFree.of_bodySF (plainFor_of_name pn_1) hisR ?_
  intro p e s m args below meth c s₁ Bd hml0 hP hK
  obtain ⟨rfl, hZ, hh⟩ := hP
  have hx := Bd.exec
  have hby := Bd.bytes
  have hml : c.maxLocals = 11 := hml0
  have hown : s.vm.findClass "com/example/pen_over_wire/penoverwire/model/User" = some m.cls := findClass_of_methodNamed Bd.named
  have hnm := (name_of_methodNamed Bd.named Bd.method).1
  have X0 : Stand p l e ({ frames := 2, cells := 0, slots := 0, locals := 24 } : Room) s m #[(.ref a), v1, v2, v3, v4, (.long q5), v6, (.int d7), (.long q8)] below meth c s₁ [] 0 0 := Stand.of_body Bd
  have e0 : s₁.heap = h0 := by rw [← hh, Bd.state]; rfl
  have N0 := Fr.nil n0
  have pre0 : ∀ t, Steps p.tables e below (s₁.setTop (mkF m 0 #[.val (.ref a), .val v1, .val v2, .val v3, .val v4, .val (.long q5), .second, .val v6, .val (.int d7), .val (.long q8), .second] [])) t → Steps p.tables e below (s₁.setTop (entryFrame m #[(.ref a), v1, v2, v3, v4, (.long q5), v6, (.int d7), (.long q8)] 11)) t := fun t k => castTop (ef_9 m a v1 (r1) v2 (r2) v3 (r3) v4 (r4) q5 v6 (r6) d7 q8) k
  have KR : Keep h0 h0 [a] := Keep.refl _ _
  have k5 : ∀ t, Steps p.tables e below (s₁.setTop (mkF m 1 #[.val (.ref a), .val v1, .val v2, .val v3, .val v4, .val (.long q5), .second, .val v6, .val (.int d7), .val (.long q8), .second] [(.ref a)])) t → Steps p.tables e below (s₁.setTop (entryFrame m #[(.ref a), v1, v2, v3, v4, (.long q5), v6, (.int d7), (.long q8)] 11)) t := fun t k => pre0 t (by
    show Steps p.tables e below (s₁.setTop (mkF m 0 #[.val (.ref a), .val v1, .val v2, .val v3, .val v4, .val (.long q5), .second, .val v6, .val (.int d7), .val (.long q8), .second] [])) _
    refine XS.aloadN X0.here hx rfl (hb hby d9_0) rfl rfl ?_
    exact k)
  obtain ⟨_, _, ⟨T6, L6, kc6, ks6⟩, -, X6, ⟨Lc6, hQ6, l6, y6, z6⟩, st6⟩ := X0.specialBack hx (y := (⟨"java/lang/Record", "<init>", "()V"⟩ : MethodName)) rfl hown (mvT hZ (hw _ (List.mem_of_getElem? (i := 55) rfl))) (mvT hZ (hw _ (List.mem_of_getElem? (i := 40) rfl))) (mvT hZ (hw _ (List.mem_of_getElem? (i := 43) rfl))) (by decide) (backOf (W := 0) (rm8 l Z a0 hw [] a h0 n0 Z0) hZ (hw _ (List.mem_of_getElem? (i := 43) rfl)) (hw _ (List.mem_of_getElem? (i := 42) rfl)) (by decide) (by decide)) (g := (mkF m 1 #[.val (.ref a), .val v1, .val v2, .val v3, .val v4, .val (.long q5), .second, .val v6, .val (.int d7), .val (.long q8), .second] [(.ref a)])) rfl (by rw [hml]; rfl) (Steps.refl _) (a := a) (argsL := []) (rest := []) (lenOf pd_0 rfl) rfl (by show 2 * 0 + _ ≤ _; exact Nat.le_of_eq rfl) (hb hby d9_1) (fun _ _ => ⟨rfl, e0, (by decide : 0 + 0 ≤ _), (by decide : 0 + 0 ≤ _)⟩)
  dsimp only [Pt.U, Pt.locs, Pt.cells, Pt.slots] at X6 l6 y6 z6 st6 hQ6
  subst l6 y6 z6
  obtain ⟨rfl, Nq6, eq6⟩ := hQ6
  have N6 := Fr.app N0 Nq6
  have k7 : ∀ t, Steps p.tables e below (T6.setTop (mkF m 4 #[.val (.ref a), .val v1, .val v2, .val v3, .val v4, .val (.long q5), .second, .val v6, .val (.int d7), .val (.long q8), .second] [])) t → Steps p.tables e below (s₁.setTop (entryFrame m #[(.ref a), v1, v2, v3, v4, (.long q5), v6, (.int d7), (.long q8)] 11)) t := fun t k => k5 t (st6.trans k)
  have k8 : ∀ t, Steps p.tables e below (T6.setTop (mkF m 6 #[.val (.ref a), .val v1, .val v2, .val v3, .val v4, .val (.long q5), .second, .val v6, .val (.int d7), .val (.long q8), .second] [v1, (.ref a)])) t → Steps p.tables e below (s₁.setTop (entryFrame m #[(.ref a), v1, v2, v3, v4, (.long q5), v6, (.int d7), (.long q8)] 11)) t := fun t k => k7 t (by
    show Steps p.tables e below (T6.setTop (mkF m 4 #[.val (.ref a), .val v1, .val v2, .val v3, .val v4, .val (.long q5), .second, .val v6, .val (.int d7), .val (.long q8), .second] [])) _
    refine XS.aloadN X6.here hx rfl (hb hby d9_4) rfl rfl ?_
    show Steps p.tables e below (T6.setTop (mkF m 5 #[.val (.ref a), .val v1, .val v2, .val v3, .val v4, .val (.long q5), .second, .val v6, .val (.int d7), .val (.long q8), .second] [(.ref a)])) _
    refine XS.aloadN X6.here hx rfl (hb hby d9_5) rfl r1 ?_
    exact k)
  obtain ⟨T9, h9, X9, e9, W9, st9⟩ := putF X6 hx hZ hown (host := "") (Or.inl (hw _ (List.mem_of_getElem? (i := 56) rfl))) Via.refl eq6 F1 Ea (Or.inr ⟨(hw _ (List.mem_of_getElem? (i := 57) rfl)), rfl, hnm⟩) (hw _ (List.mem_of_getElem? (i := 50) rfl)) (ty := (.object "java/lang/String")) (by decide) (by rcases ref_cases (r1) with q | ⟨b, q⟩ <;> rw [q] <;> rfl) (by rcases ref_cases (r1) with q | ⟨b, q⟩ <;> rw [q] <;> rfl) (g := (mkF m 6 #[.val (.ref a), .val v1, .val v2, .val v3, .val v4, .val (.long q5), .second, .val v6, .val (.int d7), .val (.long q8), .second] [v1, (.ref a)])) rfl rfl (hb hby d9_6)
  have N9 := Fr.snoc X9 N6 g_a
  have Z10 : n0 ≤ h9.size := Nat.le_trans Z0 (Nat.le_of_eq W9.size.symm)
  have K11 : Keep h0 h9 [a] := KR.wr W9 (Or.inl (List.mem_of_getElem? (i := 0) rfl))
  have F12 : Fld Z h9 a "com/example/pen_over_wire/penoverwire/model/User" "role" "Lcom/example/pen_over_wire/penoverwire/model/Role;" .null := Fld.other W9 F2 (Or.inr (slot_ne (Or.inr (hw _ (List.mem_of_getElem? (i := 59) rfl))) (Or.inr (hw _ (List.mem_of_getElem? (i := 57) rfl))) (by decide) (t := (.object "com/example/pen_over_wire/penoverwire/model/Role")) (t' := (.object "java/lang/String")) (by decide) (by decide)))
  have F13 : Fld Z h9 a "com/example/pen_over_wire/penoverwire/model/User" "password" "Lcom/example/pen_over_wire/penoverwire/crypto/PasswordHash;" .null := Fld.other W9 F3 (Or.inr (slot_ne (Or.inr (hw _ (List.mem_of_getElem? (i := 61) rfl))) (Or.inr (hw _ (List.mem_of_getElem? (i := 57) rfl))) (by decide) (t := (.object "com/example/pen_over_wire/penoverwire/crypto/PasswordHash")) (t' := (.object "java/lang/String")) (by decide) (by decide)))
  have F14 : Fld Z h9 a "com/example/pen_over_wire/penoverwire/model/User" "totpSecret" "[B" .null := Fld.other W9 F4 (Or.inr (slot_ne (Or.inr (hw _ (List.mem_of_getElem? (i := 63) rfl))) (Or.inr (hw _ (List.mem_of_getElem? (i := 57) rfl))) (by decide) (t := (.array .byte)) (t' := (.object "java/lang/String")) (by decide) (by decide)))
  have F15 : Fld Z h9 a "com/example/pen_over_wire/penoverwire/model/User" "lastOtpStep" "J" (.long (0 : Int64)) := Fld.other W9 F5 (Or.inr (slot_ne (Or.inr (hw _ (List.mem_of_getElem? (i := 65) rfl))) (Or.inr (hw _ (List.mem_of_getElem? (i := 57) rfl))) (by decide) (t := .long) (t' := (.object "java/lang/String")) (by decide) (by decide)))
  have F16 : Fld Z h9 a "com/example/pen_over_wire/penoverwire/model/User" "failedLogins" "Lcom/example/pen_over_wire/penoverwire/model/FailedAttempts;" .null := Fld.other W9 F6 (Or.inr (slot_ne (Or.inr (hw _ (List.mem_of_getElem? (i := 67) rfl))) (Or.inr (hw _ (List.mem_of_getElem? (i := 57) rfl))) (by decide) (t := (.object "com/example/pen_over_wire/penoverwire/model/FailedAttempts")) (t' := (.object "java/lang/String")) (by decide) (by decide)))
  have F17 : Fld Z h9 a "com/example/pen_over_wire/penoverwire/model/User" "disabled" "Z" (.int (0 : Int32)) := Fld.other W9 F7 (Or.inr (slot_ne (Or.inr (hw _ (List.mem_of_getElem? (i := 69) rfl))) (Or.inr (hw _ (List.mem_of_getElem? (i := 57) rfl))) (by decide) (t := .boolean) (t' := (.object "java/lang/String")) (by decide) (by decide)))
  have F18 : Fld Z h9 a "com/example/pen_over_wire/penoverwire/model/User" "sessionEpoch" "J" (.long (0 : Int64)) := Fld.other W9 F8 (Or.inr (slot_ne (Or.inr (hw _ (List.mem_of_getElem? (i := 71) rfl))) (Or.inr (hw _ (List.mem_of_getElem? (i := 57) rfl))) (by decide) (t := .long) (t' := (.object "java/lang/String")) (by decide) (by decide)))
  have F19 : Exa Z h9 a "com/example/pen_over_wire/penoverwire/model/User" := Exa.wr W9 Ea
  have F20 : Fld Z h9 a "com/example/pen_over_wire/penoverwire/model/User" "name" "Ljava/lang/String;" v1 := Fld.same W9 F1
  have k21 : ∀ t, Steps p.tables e below (T9.setTop (mkF m 9 #[.val (.ref a), .val v1, .val v2, .val v3, .val v4, .val (.long q5), .second, .val v6, .val (.int d7), .val (.long q8), .second] [])) t → Steps p.tables e below (s₁.setTop (entryFrame m #[(.ref a), v1, v2, v3, v4, (.long q5), v6, (.int d7), (.long q8)] 11)) t := fun t k => k8 t (st9 t k)
  have k22 : ∀ t, Steps p.tables e below (T9.setTop (mkF m 11 #[.val (.ref a), .val v1, .val v2, .val v3, .val v4, .val (.long q5), .second, .val v6, .val (.int d7), .val (.long q8), .second] [v2, (.ref a)])) t → Steps p.tables e below (s₁.setTop (entryFrame m #[(.ref a), v1, v2, v3, v4, (.long q5), v6, (.int d7), (.long q8)] 11)) t := fun t k => k21 t (by
    show Steps p.tables e below (T9.setTop (mkF m 9 #[.val (.ref a), .val v1, .val v2, .val v3, .val v4, .val (.long q5), .second, .val v6, .val (.int d7), .val (.long q8), .second] [])) _
    refine XS.aloadN X9.here hx rfl (hb hby d9_9) rfl rfl ?_
    show Steps p.tables e below (T9.setTop (mkF m 10 #[.val (.ref a), .val v1, .val v2, .val v3, .val v4, .val (.long q5), .second, .val v6, .val (.int d7), .val (.long q8), .second] [(.ref a)])) _
    refine XS.aloadN X9.here hx rfl (hb hby d9_10) rfl r2 ?_
    exact k)
  obtain ⟨T23, h23, X23, e23, W23, st23⟩ := putF X9 hx hZ hown (host := "") (Or.inl (hw _ (List.mem_of_getElem? (i := 58) rfl))) Via.refl e9 F12 F19 (Or.inr ⟨(hw _ (List.mem_of_getElem? (i := 59) rfl)), rfl, hnm⟩) (hw _ (List.mem_of_getElem? (i := 50) rfl)) (ty := (.object "com/example/pen_over_wire/penoverwire/model/Role")) (by decide) (by rcases ref_cases (r2) with q | ⟨b, q⟩ <;> rw [q] <;> rfl) (by rcases ref_cases (r2) with q | ⟨b, q⟩ <;> rw [q] <;> rfl) (g := (mkF m 11 #[.val (.ref a), .val v1, .val v2, .val v3, .val v4, .val (.long q5), .second, .val v6, .val (.int d7), .val (.long q8), .second] [v2, (.ref a)])) rfl rfl (hb hby d9_11)
  have N23 := Fr.snoc X23 N9 g_a
  have Z24 : n0 ≤ h23.size := Nat.le_trans Z10 (Nat.le_of_eq W23.size.symm)
  have K25 : Keep h0 h23 [a] := K11.wr W23 (Or.inl (List.mem_of_getElem? (i := 0) rfl))
  have F26 : Fld Z h23 a "com/example/pen_over_wire/penoverwire/model/User" "password" "Lcom/example/pen_over_wire/penoverwire/crypto/PasswordHash;" .null := Fld.other W23 F13 (Or.inr (slot_ne (Or.inr (hw _ (List.mem_of_getElem? (i := 61) rfl))) (Or.inr (hw _ (List.mem_of_getElem? (i := 59) rfl))) (by decide) (t := (.object "com/example/pen_over_wire/penoverwire/crypto/PasswordHash")) (t' := (.object "com/example/pen_over_wire/penoverwire/model/Role")) (by decide) (by decide)))
  have F27 : Fld Z h23 a "com/example/pen_over_wire/penoverwire/model/User" "totpSecret" "[B" .null := Fld.other W23 F14 (Or.inr (slot_ne (Or.inr (hw _ (List.mem_of_getElem? (i := 63) rfl))) (Or.inr (hw _ (List.mem_of_getElem? (i := 59) rfl))) (by decide) (t := (.array .byte)) (t' := (.object "com/example/pen_over_wire/penoverwire/model/Role")) (by decide) (by decide)))
  have F28 : Fld Z h23 a "com/example/pen_over_wire/penoverwire/model/User" "lastOtpStep" "J" (.long (0 : Int64)) := Fld.other W23 F15 (Or.inr (slot_ne (Or.inr (hw _ (List.mem_of_getElem? (i := 65) rfl))) (Or.inr (hw _ (List.mem_of_getElem? (i := 59) rfl))) (by decide) (t := .long) (t' := (.object "com/example/pen_over_wire/penoverwire/model/Role")) (by decide) (by decide)))
  have F29 : Fld Z h23 a "com/example/pen_over_wire/penoverwire/model/User" "failedLogins" "Lcom/example/pen_over_wire/penoverwire/model/FailedAttempts;" .null := Fld.other W23 F16 (Or.inr (slot_ne (Or.inr (hw _ (List.mem_of_getElem? (i := 67) rfl))) (Or.inr (hw _ (List.mem_of_getElem? (i := 59) rfl))) (by decide) (t := (.object "com/example/pen_over_wire/penoverwire/model/FailedAttempts")) (t' := (.object "com/example/pen_over_wire/penoverwire/model/Role")) (by decide) (by decide)))
  have F30 : Fld Z h23 a "com/example/pen_over_wire/penoverwire/model/User" "disabled" "Z" (.int (0 : Int32)) := Fld.other W23 F17 (Or.inr (slot_ne (Or.inr (hw _ (List.mem_of_getElem? (i := 69) rfl))) (Or.inr (hw _ (List.mem_of_getElem? (i := 59) rfl))) (by decide) (t := .boolean) (t' := (.object "com/example/pen_over_wire/penoverwire/model/Role")) (by decide) (by decide)))
  have F31 : Fld Z h23 a "com/example/pen_over_wire/penoverwire/model/User" "sessionEpoch" "J" (.long (0 : Int64)) := Fld.other W23 F18 (Or.inr (slot_ne (Or.inr (hw _ (List.mem_of_getElem? (i := 71) rfl))) (Or.inr (hw _ (List.mem_of_getElem? (i := 59) rfl))) (by decide) (t := .long) (t' := (.object "com/example/pen_over_wire/penoverwire/model/Role")) (by decide) (by decide)))
  have F32 : Exa Z h23 a "com/example/pen_over_wire/penoverwire/model/User" := Exa.wr W23 F19
  have F33 : Fld Z h23 a "com/example/pen_over_wire/penoverwire/model/User" "name" "Ljava/lang/String;" v1 := Fld.other W23 F20 (Or.inr (slot_ne (Or.inr (hw _ (List.mem_of_getElem? (i := 57) rfl))) (Or.inr (hw _ (List.mem_of_getElem? (i := 59) rfl))) (by decide) (t := (.object "java/lang/String")) (t' := (.object "com/example/pen_over_wire/penoverwire/model/Role")) (by decide) (by decide)))
  have F34 : Fld Z h23 a "com/example/pen_over_wire/penoverwire/model/User" "role" "Lcom/example/pen_over_wire/penoverwire/model/Role;" v2 := Fld.same W23 F12
  have k35 : ∀ t, Steps p.tables e below (T23.setTop (mkF m 14 #[.val (.ref a), .val v1, .val v2, .val v3, .val v4, .val (.long q5), .second, .val v6, .val (.int d7), .val (.long q8), .second] [])) t → Steps p.tables e below (s₁.setTop (entryFrame m #[(.ref a), v1, v2, v3, v4, (.long q5), v6, (.int d7), (.long q8)] 11)) t := fun t k => k22 t (st23 t k)
  have k36 : ∀ t, Steps p.tables e below (T23.setTop (mkF m 16 #[.val (.ref a), .val v1, .val v2, .val v3, .val v4, .val (.long q5), .second, .val v6, .val (.int d7), .val (.long q8), .second] [v3, (.ref a)])) t → Steps p.tables e below (s₁.setTop (entryFrame m #[(.ref a), v1, v2, v3, v4, (.long q5), v6, (.int d7), (.long q8)] 11)) t := fun t k => k35 t (by
    show Steps p.tables e below (T23.setTop (mkF m 14 #[.val (.ref a), .val v1, .val v2, .val v3, .val v4, .val (.long q5), .second, .val v6, .val (.int d7), .val (.long q8), .second] [])) _
    refine XS.aloadN X23.here hx rfl (hb hby d9_14) rfl rfl ?_
    show Steps p.tables e below (T23.setTop (mkF m 15 #[.val (.ref a), .val v1, .val v2, .val v3, .val v4, .val (.long q5), .second, .val v6, .val (.int d7), .val (.long q8), .second] [(.ref a)])) _
    refine XS.aloadN X23.here hx rfl (hb hby d9_15) rfl r3 ?_
    exact k)
  obtain ⟨T37, h37, X37, e37, W37, st37⟩ := putF X23 hx hZ hown (host := "") (Or.inl (hw _ (List.mem_of_getElem? (i := 60) rfl))) Via.refl e23 F26 F32 (Or.inr ⟨(hw _ (List.mem_of_getElem? (i := 61) rfl)), rfl, hnm⟩) (hw _ (List.mem_of_getElem? (i := 50) rfl)) (ty := (.object "com/example/pen_over_wire/penoverwire/crypto/PasswordHash")) (by decide) (by rcases ref_cases (r3) with q | ⟨b, q⟩ <;> rw [q] <;> rfl) (by rcases ref_cases (r3) with q | ⟨b, q⟩ <;> rw [q] <;> rfl) (g := (mkF m 16 #[.val (.ref a), .val v1, .val v2, .val v3, .val v4, .val (.long q5), .second, .val v6, .val (.int d7), .val (.long q8), .second] [v3, (.ref a)])) rfl rfl (hb hby d9_16)
  have N37 := Fr.snoc X37 N23 g_a
  have Z38 : n0 ≤ h37.size := Nat.le_trans Z24 (Nat.le_of_eq W37.size.symm)
  have K39 : Keep h0 h37 [a] := K25.wr W37 (Or.inl (List.mem_of_getElem? (i := 0) rfl))
  have F40 : Fld Z h37 a "com/example/pen_over_wire/penoverwire/model/User" "totpSecret" "[B" .null := Fld.other W37 F27 (Or.inr (slot_ne (Or.inr (hw _ (List.mem_of_getElem? (i := 63) rfl))) (Or.inr (hw _ (List.mem_of_getElem? (i := 61) rfl))) (by decide) (t := (.array .byte)) (t' := (.object "com/example/pen_over_wire/penoverwire/crypto/PasswordHash")) (by decide) (by decide)))
  have F41 : Fld Z h37 a "com/example/pen_over_wire/penoverwire/model/User" "lastOtpStep" "J" (.long (0 : Int64)) := Fld.other W37 F28 (Or.inr (slot_ne (Or.inr (hw _ (List.mem_of_getElem? (i := 65) rfl))) (Or.inr (hw _ (List.mem_of_getElem? (i := 61) rfl))) (by decide) (t := .long) (t' := (.object "com/example/pen_over_wire/penoverwire/crypto/PasswordHash")) (by decide) (by decide)))
  have F42 : Fld Z h37 a "com/example/pen_over_wire/penoverwire/model/User" "failedLogins" "Lcom/example/pen_over_wire/penoverwire/model/FailedAttempts;" .null := Fld.other W37 F29 (Or.inr (slot_ne (Or.inr (hw _ (List.mem_of_getElem? (i := 67) rfl))) (Or.inr (hw _ (List.mem_of_getElem? (i := 61) rfl))) (by decide) (t := (.object "com/example/pen_over_wire/penoverwire/model/FailedAttempts")) (t' := (.object "com/example/pen_over_wire/penoverwire/crypto/PasswordHash")) (by decide) (by decide)))
  have F43 : Fld Z h37 a "com/example/pen_over_wire/penoverwire/model/User" "disabled" "Z" (.int (0 : Int32)) := Fld.other W37 F30 (Or.inr (slot_ne (Or.inr (hw _ (List.mem_of_getElem? (i := 69) rfl))) (Or.inr (hw _ (List.mem_of_getElem? (i := 61) rfl))) (by decide) (t := .boolean) (t' := (.object "com/example/pen_over_wire/penoverwire/crypto/PasswordHash")) (by decide) (by decide)))
  have F44 : Fld Z h37 a "com/example/pen_over_wire/penoverwire/model/User" "sessionEpoch" "J" (.long (0 : Int64)) := Fld.other W37 F31 (Or.inr (slot_ne (Or.inr (hw _ (List.mem_of_getElem? (i := 71) rfl))) (Or.inr (hw _ (List.mem_of_getElem? (i := 61) rfl))) (by decide) (t := .long) (t' := (.object "com/example/pen_over_wire/penoverwire/crypto/PasswordHash")) (by decide) (by decide)))
  have F45 : Exa Z h37 a "com/example/pen_over_wire/penoverwire/model/User" := Exa.wr W37 F32
  have F46 : Fld Z h37 a "com/example/pen_over_wire/penoverwire/model/User" "name" "Ljava/lang/String;" v1 := Fld.other W37 F33 (Or.inr (slot_ne (Or.inr (hw _ (List.mem_of_getElem? (i := 57) rfl))) (Or.inr (hw _ (List.mem_of_getElem? (i := 61) rfl))) (by decide) (t := (.object "java/lang/String")) (t' := (.object "com/example/pen_over_wire/penoverwire/crypto/PasswordHash")) (by decide) (by decide)))
  have F47 : Fld Z h37 a "com/example/pen_over_wire/penoverwire/model/User" "role" "Lcom/example/pen_over_wire/penoverwire/model/Role;" v2 := Fld.other W37 F34 (Or.inr (slot_ne (Or.inr (hw _ (List.mem_of_getElem? (i := 59) rfl))) (Or.inr (hw _ (List.mem_of_getElem? (i := 61) rfl))) (by decide) (t := (.object "com/example/pen_over_wire/penoverwire/model/Role")) (t' := (.object "com/example/pen_over_wire/penoverwire/crypto/PasswordHash")) (by decide) (by decide)))
  have F48 : Fld Z h37 a "com/example/pen_over_wire/penoverwire/model/User" "password" "Lcom/example/pen_over_wire/penoverwire/crypto/PasswordHash;" v3 := Fld.same W37 F26
  have k49 : ∀ t, Steps p.tables e below (T37.setTop (mkF m 19 #[.val (.ref a), .val v1, .val v2, .val v3, .val v4, .val (.long q5), .second, .val v6, .val (.int d7), .val (.long q8), .second] [])) t → Steps p.tables e below (s₁.setTop (entryFrame m #[(.ref a), v1, v2, v3, v4, (.long q5), v6, (.int d7), (.long q8)] 11)) t := fun t k => k36 t (st37 t k)
  have k50 : ∀ t, Steps p.tables e below (T37.setTop (mkF m 22 #[.val (.ref a), .val v1, .val v2, .val v3, .val v4, .val (.long q5), .second, .val v6, .val (.int d7), .val (.long q8), .second] [v4, (.ref a)])) t → Steps p.tables e below (s₁.setTop (entryFrame m #[(.ref a), v1, v2, v3, v4, (.long q5), v6, (.int d7), (.long q8)] 11)) t := fun t k => k49 t (by
    show Steps p.tables e below (T37.setTop (mkF m 19 #[.val (.ref a), .val v1, .val v2, .val v3, .val v4, .val (.long q5), .second, .val v6, .val (.int d7), .val (.long q8), .second] [])) _
    refine XS.aloadN X37.here hx rfl (hb hby d9_19) rfl rfl ?_
    show Steps p.tables e below (T37.setTop (mkF m 20 #[.val (.ref a), .val v1, .val v2, .val v3, .val v4, .val (.long q5), .second, .val v6, .val (.int d7), .val (.long q8), .second] [(.ref a)])) _
    refine XS.aload X37.here hx rfl (hb hby d9_20) rfl r4 ?_
    exact k)
  obtain ⟨T51, h51, X51, e51, W51, st51⟩ := putF X37 hx hZ hown (host := "") (Or.inl (hw _ (List.mem_of_getElem? (i := 62) rfl))) Via.refl e37 F40 F45 (Or.inr ⟨(hw _ (List.mem_of_getElem? (i := 63) rfl)), rfl, hnm⟩) (hw _ (List.mem_of_getElem? (i := 50) rfl)) (ty := (.array .byte)) (by decide) (by rcases ref_cases (r4) with q | ⟨b, q⟩ <;> rw [q] <;> rfl) (by rcases ref_cases (r4) with q | ⟨b, q⟩ <;> rw [q] <;> rfl) (g := (mkF m 22 #[.val (.ref a), .val v1, .val v2, .val v3, .val v4, .val (.long q5), .second, .val v6, .val (.int d7), .val (.long q8), .second] [v4, (.ref a)])) rfl rfl (hb hby d9_22)
  have N51 := Fr.snoc X51 N37 g_a
  have Z52 : n0 ≤ h51.size := Nat.le_trans Z38 (Nat.le_of_eq W51.size.symm)
  have K53 : Keep h0 h51 [a] := K39.wr W51 (Or.inl (List.mem_of_getElem? (i := 0) rfl))
  have F54 : Fld Z h51 a "com/example/pen_over_wire/penoverwire/model/User" "lastOtpStep" "J" (.long (0 : Int64)) := Fld.other W51 F41 (Or.inr (slot_ne (Or.inr (hw _ (List.mem_of_getElem? (i := 65) rfl))) (Or.inr (hw _ (List.mem_of_getElem? (i := 63) rfl))) (by decide) (t := .long) (t' := (.array .byte)) (by decide) (by decide)))
  have F55 : Fld Z h51 a "com/example/pen_over_wire/penoverwire/model/User" "failedLogins" "Lcom/example/pen_over_wire/penoverwire/model/FailedAttempts;" .null := Fld.other W51 F42 (Or.inr (slot_ne (Or.inr (hw _ (List.mem_of_getElem? (i := 67) rfl))) (Or.inr (hw _ (List.mem_of_getElem? (i := 63) rfl))) (by decide) (t := (.object "com/example/pen_over_wire/penoverwire/model/FailedAttempts")) (t' := (.array .byte)) (by decide) (by decide)))
  have F56 : Fld Z h51 a "com/example/pen_over_wire/penoverwire/model/User" "disabled" "Z" (.int (0 : Int32)) := Fld.other W51 F43 (Or.inr (slot_ne (Or.inr (hw _ (List.mem_of_getElem? (i := 69) rfl))) (Or.inr (hw _ (List.mem_of_getElem? (i := 63) rfl))) (by decide) (t := .boolean) (t' := (.array .byte)) (by decide) (by decide)))
  have F57 : Fld Z h51 a "com/example/pen_over_wire/penoverwire/model/User" "sessionEpoch" "J" (.long (0 : Int64)) := Fld.other W51 F44 (Or.inr (slot_ne (Or.inr (hw _ (List.mem_of_getElem? (i := 71) rfl))) (Or.inr (hw _ (List.mem_of_getElem? (i := 63) rfl))) (by decide) (t := .long) (t' := (.array .byte)) (by decide) (by decide)))
  have F58 : Exa Z h51 a "com/example/pen_over_wire/penoverwire/model/User" := Exa.wr W51 F45
  have F59 : Fld Z h51 a "com/example/pen_over_wire/penoverwire/model/User" "name" "Ljava/lang/String;" v1 := Fld.other W51 F46 (Or.inr (slot_ne (Or.inr (hw _ (List.mem_of_getElem? (i := 57) rfl))) (Or.inr (hw _ (List.mem_of_getElem? (i := 63) rfl))) (by decide) (t := (.object "java/lang/String")) (t' := (.array .byte)) (by decide) (by decide)))
  have F60 : Fld Z h51 a "com/example/pen_over_wire/penoverwire/model/User" "role" "Lcom/example/pen_over_wire/penoverwire/model/Role;" v2 := Fld.other W51 F47 (Or.inr (slot_ne (Or.inr (hw _ (List.mem_of_getElem? (i := 59) rfl))) (Or.inr (hw _ (List.mem_of_getElem? (i := 63) rfl))) (by decide) (t := (.object "com/example/pen_over_wire/penoverwire/model/Role")) (t' := (.array .byte)) (by decide) (by decide)))
  have F61 : Fld Z h51 a "com/example/pen_over_wire/penoverwire/model/User" "password" "Lcom/example/pen_over_wire/penoverwire/crypto/PasswordHash;" v3 := Fld.other W51 F48 (Or.inr (slot_ne (Or.inr (hw _ (List.mem_of_getElem? (i := 61) rfl))) (Or.inr (hw _ (List.mem_of_getElem? (i := 63) rfl))) (by decide) (t := (.object "com/example/pen_over_wire/penoverwire/crypto/PasswordHash")) (t' := (.array .byte)) (by decide) (by decide)))
  have F62 : Fld Z h51 a "com/example/pen_over_wire/penoverwire/model/User" "totpSecret" "[B" v4 := Fld.same W51 F40
  have k63 : ∀ t, Steps p.tables e below (T51.setTop (mkF m 25 #[.val (.ref a), .val v1, .val v2, .val v3, .val v4, .val (.long q5), .second, .val v6, .val (.int d7), .val (.long q8), .second] [])) t → Steps p.tables e below (s₁.setTop (entryFrame m #[(.ref a), v1, v2, v3, v4, (.long q5), v6, (.int d7), (.long q8)] 11)) t := fun t k => k50 t (st51 t k)
  have k64 : ∀ t, Steps p.tables e below (T51.setTop (mkF m 28 #[.val (.ref a), .val v1, .val v2, .val v3, .val v4, .val (.long q5), .second, .val v6, .val (.int d7), .val (.long q8), .second] [(.long q5), (.ref a)])) t → Steps p.tables e below (s₁.setTop (entryFrame m #[(.ref a), v1, v2, v3, v4, (.long q5), v6, (.int d7), (.long q8)] 11)) t := fun t k => k63 t (by
    show Steps p.tables e below (T51.setTop (mkF m 25 #[.val (.ref a), .val v1, .val v2, .val v3, .val v4, .val (.long q5), .second, .val v6, .val (.int d7), .val (.long q8), .second] [])) _
    refine XS.aloadN X51.here hx rfl (hb hby d9_25) rfl rfl ?_
    show Steps p.tables e below (T51.setTop (mkF m 26 #[.val (.ref a), .val v1, .val v2, .val v3, .val v4, .val (.long q5), .second, .val v6, .val (.int d7), .val (.long q8), .second] [(.ref a)])) _
    refine XS.lload X51.here hx rfl (hb hby d9_26) rfl ?_
    exact k)
  obtain ⟨T65, h65, X65, e65, W65, st65⟩ := putF X51 hx hZ hown (host := "") (Or.inl (hw _ (List.mem_of_getElem? (i := 64) rfl))) Via.refl e51 F54 F58 (Or.inr ⟨(hw _ (List.mem_of_getElem? (i := 65) rfl)), rfl, hnm⟩) (hw _ (List.mem_of_getElem? (i := 50) rfl)) (ty := .long) (by decide) rfl rfl (g := (mkF m 28 #[.val (.ref a), .val v1, .val v2, .val v3, .val v4, .val (.long q5), .second, .val v6, .val (.int d7), .val (.long q8), .second] [(.long q5), (.ref a)])) rfl rfl (hb hby d9_28)
  have N65 := Fr.snoc X65 N51 g_a
  have Z66 : n0 ≤ h65.size := Nat.le_trans Z52 (Nat.le_of_eq W65.size.symm)
  have K67 : Keep h0 h65 [a] := K53.wr W65 (Or.inl (List.mem_of_getElem? (i := 0) rfl))
  have F68 : Fld Z h65 a "com/example/pen_over_wire/penoverwire/model/User" "failedLogins" "Lcom/example/pen_over_wire/penoverwire/model/FailedAttempts;" .null := Fld.other W65 F55 (Or.inr (slot_ne (Or.inr (hw _ (List.mem_of_getElem? (i := 67) rfl))) (Or.inr (hw _ (List.mem_of_getElem? (i := 65) rfl))) (by decide) (t := (.object "com/example/pen_over_wire/penoverwire/model/FailedAttempts")) (t' := .long) (by decide) (by decide)))
  have F69 : Fld Z h65 a "com/example/pen_over_wire/penoverwire/model/User" "disabled" "Z" (.int (0 : Int32)) := Fld.other W65 F56 (Or.inr (slot_ne (Or.inr (hw _ (List.mem_of_getElem? (i := 69) rfl))) (Or.inr (hw _ (List.mem_of_getElem? (i := 65) rfl))) (by decide) (t := .boolean) (t' := .long) (by decide) (by decide)))
  have F70 : Fld Z h65 a "com/example/pen_over_wire/penoverwire/model/User" "sessionEpoch" "J" (.long (0 : Int64)) := Fld.other W65 F57 (Or.inr (slot_ne (Or.inr (hw _ (List.mem_of_getElem? (i := 71) rfl))) (Or.inr (hw _ (List.mem_of_getElem? (i := 65) rfl))) (by decide) (t := .long) (t' := .long) (by decide) (by decide)))
  have F71 : Exa Z h65 a "com/example/pen_over_wire/penoverwire/model/User" := Exa.wr W65 F58
  have F72 : Fld Z h65 a "com/example/pen_over_wire/penoverwire/model/User" "name" "Ljava/lang/String;" v1 := Fld.other W65 F59 (Or.inr (slot_ne (Or.inr (hw _ (List.mem_of_getElem? (i := 57) rfl))) (Or.inr (hw _ (List.mem_of_getElem? (i := 65) rfl))) (by decide) (t := (.object "java/lang/String")) (t' := .long) (by decide) (by decide)))
  have F73 : Fld Z h65 a "com/example/pen_over_wire/penoverwire/model/User" "role" "Lcom/example/pen_over_wire/penoverwire/model/Role;" v2 := Fld.other W65 F60 (Or.inr (slot_ne (Or.inr (hw _ (List.mem_of_getElem? (i := 59) rfl))) (Or.inr (hw _ (List.mem_of_getElem? (i := 65) rfl))) (by decide) (t := (.object "com/example/pen_over_wire/penoverwire/model/Role")) (t' := .long) (by decide) (by decide)))
  have F74 : Fld Z h65 a "com/example/pen_over_wire/penoverwire/model/User" "password" "Lcom/example/pen_over_wire/penoverwire/crypto/PasswordHash;" v3 := Fld.other W65 F61 (Or.inr (slot_ne (Or.inr (hw _ (List.mem_of_getElem? (i := 61) rfl))) (Or.inr (hw _ (List.mem_of_getElem? (i := 65) rfl))) (by decide) (t := (.object "com/example/pen_over_wire/penoverwire/crypto/PasswordHash")) (t' := .long) (by decide) (by decide)))
  have F75 : Fld Z h65 a "com/example/pen_over_wire/penoverwire/model/User" "totpSecret" "[B" v4 := Fld.other W65 F62 (Or.inr (slot_ne (Or.inr (hw _ (List.mem_of_getElem? (i := 63) rfl))) (Or.inr (hw _ (List.mem_of_getElem? (i := 65) rfl))) (by decide) (t := (.array .byte)) (t' := .long) (by decide) (by decide)))
  have F76 : Fld Z h65 a "com/example/pen_over_wire/penoverwire/model/User" "lastOtpStep" "J" (.long q5) := Fld.same W65 F54
  have k77 : ∀ t, Steps p.tables e below (T65.setTop (mkF m 31 #[.val (.ref a), .val v1, .val v2, .val v3, .val v4, .val (.long q5), .second, .val v6, .val (.int d7), .val (.long q8), .second] [])) t → Steps p.tables e below (s₁.setTop (entryFrame m #[(.ref a), v1, v2, v3, v4, (.long q5), v6, (.int d7), (.long q8)] 11)) t := fun t k => k64 t (st65 t k)
  have k78 : ∀ t, Steps p.tables e below (T65.setTop (mkF m 34 #[.val (.ref a), .val v1, .val v2, .val v3, .val v4, .val (.long q5), .second, .val v6, .val (.int d7), .val (.long q8), .second] [v6, (.ref a)])) t → Steps p.tables e below (s₁.setTop (entryFrame m #[(.ref a), v1, v2, v3, v4, (.long q5), v6, (.int d7), (.long q8)] 11)) t := fun t k => k77 t (by
    show Steps p.tables e below (T65.setTop (mkF m 31 #[.val (.ref a), .val v1, .val v2, .val v3, .val v4, .val (.long q5), .second, .val v6, .val (.int d7), .val (.long q8), .second] [])) _
    refine XS.aloadN X65.here hx rfl (hb hby d9_31) rfl rfl ?_
    show Steps p.tables e below (T65.setTop (mkF m 32 #[.val (.ref a), .val v1, .val v2, .val v3, .val v4, .val (.long q5), .second, .val v6, .val (.int d7), .val (.long q8), .second] [(.ref a)])) _
    refine XS.aload X65.here hx rfl (hb hby d9_32) rfl r6 ?_
    exact k)
  obtain ⟨T79, h79, X79, e79, W79, st79⟩ := putF X65 hx hZ hown (host := "") (Or.inl (hw _ (List.mem_of_getElem? (i := 66) rfl))) Via.refl e65 F68 F71 (Or.inr ⟨(hw _ (List.mem_of_getElem? (i := 67) rfl)), rfl, hnm⟩) (hw _ (List.mem_of_getElem? (i := 50) rfl)) (ty := (.object "com/example/pen_over_wire/penoverwire/model/FailedAttempts")) (by decide) (by rcases ref_cases (r6) with q | ⟨b, q⟩ <;> rw [q] <;> rfl) (by rcases ref_cases (r6) with q | ⟨b, q⟩ <;> rw [q] <;> rfl) (g := (mkF m 34 #[.val (.ref a), .val v1, .val v2, .val v3, .val v4, .val (.long q5), .second, .val v6, .val (.int d7), .val (.long q8), .second] [v6, (.ref a)])) rfl rfl (hb hby d9_34)
  have N79 := Fr.snoc X79 N65 g_a
  have Z80 : n0 ≤ h79.size := Nat.le_trans Z66 (Nat.le_of_eq W79.size.symm)
  have K81 : Keep h0 h79 [a] := K67.wr W79 (Or.inl (List.mem_of_getElem? (i := 0) rfl))
  have F82 : Fld Z h79 a "com/example/pen_over_wire/penoverwire/model/User" "disabled" "Z" (.int (0 : Int32)) := Fld.other W79 F69 (Or.inr (slot_ne (Or.inr (hw _ (List.mem_of_getElem? (i := 69) rfl))) (Or.inr (hw _ (List.mem_of_getElem? (i := 67) rfl))) (by decide) (t := .boolean) (t' := (.object "com/example/pen_over_wire/penoverwire/model/FailedAttempts")) (by decide) (by decide)))
  have F83 : Fld Z h79 a "com/example/pen_over_wire/penoverwire/model/User" "sessionEpoch" "J" (.long (0 : Int64)) := Fld.other W79 F70 (Or.inr (slot_ne (Or.inr (hw _ (List.mem_of_getElem? (i := 71) rfl))) (Or.inr (hw _ (List.mem_of_getElem? (i := 67) rfl))) (by decide) (t := .long) (t' := (.object "com/example/pen_over_wire/penoverwire/model/FailedAttempts")) (by decide) (by decide)))
  have F84 : Exa Z h79 a "com/example/pen_over_wire/penoverwire/model/User" := Exa.wr W79 F71
  have F85 : Fld Z h79 a "com/example/pen_over_wire/penoverwire/model/User" "name" "Ljava/lang/String;" v1 := Fld.other W79 F72 (Or.inr (slot_ne (Or.inr (hw _ (List.mem_of_getElem? (i := 57) rfl))) (Or.inr (hw _ (List.mem_of_getElem? (i := 67) rfl))) (by decide) (t := (.object "java/lang/String")) (t' := (.object "com/example/pen_over_wire/penoverwire/model/FailedAttempts")) (by decide) (by decide)))
  have F86 : Fld Z h79 a "com/example/pen_over_wire/penoverwire/model/User" "role" "Lcom/example/pen_over_wire/penoverwire/model/Role;" v2 := Fld.other W79 F73 (Or.inr (slot_ne (Or.inr (hw _ (List.mem_of_getElem? (i := 59) rfl))) (Or.inr (hw _ (List.mem_of_getElem? (i := 67) rfl))) (by decide) (t := (.object "com/example/pen_over_wire/penoverwire/model/Role")) (t' := (.object "com/example/pen_over_wire/penoverwire/model/FailedAttempts")) (by decide) (by decide)))
  have F87 : Fld Z h79 a "com/example/pen_over_wire/penoverwire/model/User" "password" "Lcom/example/pen_over_wire/penoverwire/crypto/PasswordHash;" v3 := Fld.other W79 F74 (Or.inr (slot_ne (Or.inr (hw _ (List.mem_of_getElem? (i := 61) rfl))) (Or.inr (hw _ (List.mem_of_getElem? (i := 67) rfl))) (by decide) (t := (.object "com/example/pen_over_wire/penoverwire/crypto/PasswordHash")) (t' := (.object "com/example/pen_over_wire/penoverwire/model/FailedAttempts")) (by decide) (by decide)))
  have F88 : Fld Z h79 a "com/example/pen_over_wire/penoverwire/model/User" "totpSecret" "[B" v4 := Fld.other W79 F75 (Or.inr (slot_ne (Or.inr (hw _ (List.mem_of_getElem? (i := 63) rfl))) (Or.inr (hw _ (List.mem_of_getElem? (i := 67) rfl))) (by decide) (t := (.array .byte)) (t' := (.object "com/example/pen_over_wire/penoverwire/model/FailedAttempts")) (by decide) (by decide)))
  have F89 : Fld Z h79 a "com/example/pen_over_wire/penoverwire/model/User" "lastOtpStep" "J" (.long q5) := Fld.other W79 F76 (Or.inr (slot_ne (Or.inr (hw _ (List.mem_of_getElem? (i := 65) rfl))) (Or.inr (hw _ (List.mem_of_getElem? (i := 67) rfl))) (by decide) (t := .long) (t' := (.object "com/example/pen_over_wire/penoverwire/model/FailedAttempts")) (by decide) (by decide)))
  have F90 : Fld Z h79 a "com/example/pen_over_wire/penoverwire/model/User" "failedLogins" "Lcom/example/pen_over_wire/penoverwire/model/FailedAttempts;" v6 := Fld.same W79 F68
  have k91 : ∀ t, Steps p.tables e below (T79.setTop (mkF m 37 #[.val (.ref a), .val v1, .val v2, .val v3, .val v4, .val (.long q5), .second, .val v6, .val (.int d7), .val (.long q8), .second] [])) t → Steps p.tables e below (s₁.setTop (entryFrame m #[(.ref a), v1, v2, v3, v4, (.long q5), v6, (.int d7), (.long q8)] 11)) t := fun t k => k78 t (st79 t k)
  have k92 : ∀ t, Steps p.tables e below (T79.setTop (mkF m 40 #[.val (.ref a), .val v1, .val v2, .val v3, .val v4, .val (.long q5), .second, .val v6, .val (.int d7), .val (.long q8), .second] [(.int d7), (.ref a)])) t → Steps p.tables e below (s₁.setTop (entryFrame m #[(.ref a), v1, v2, v3, v4, (.long q5), v6, (.int d7), (.long q8)] 11)) t := fun t k => k91 t (by
    show Steps p.tables e below (T79.setTop (mkF m 37 #[.val (.ref a), .val v1, .val v2, .val v3, .val v4, .val (.long q5), .second, .val v6, .val (.int d7), .val (.long q8), .second] [])) _
    refine XS.aloadN X79.here hx rfl (hb hby d9_37) rfl rfl ?_
    show Steps p.tables e below (T79.setTop (mkF m 38 #[.val (.ref a), .val v1, .val v2, .val v3, .val v4, .val (.long q5), .second, .val v6, .val (.int d7), .val (.long q8), .second] [(.ref a)])) _
    refine XS.iload X79.here hx rfl (hb hby d9_38) rfl ?_
    exact k)
  obtain ⟨T93, h93, X93, e93, W93, st93⟩ := putFN X79 hx hZ hown (hw _ (List.mem_of_getElem? (i := 68) rfl)) Via.refl e79 F82 F84 (Or.inr ⟨(hw _ (List.mem_of_getElem? (i := 69) rfl)), rfl, hnm⟩) (hw _ (List.mem_of_getElem? (i := 50) rfl)) (ty := .boolean) (v' := (Value.int d7)) (by decide) (own_nb hd7).1 (own_nb hd7).2 (g := (mkF m 40 #[.val (.ref a), .val v1, .val v2, .val v3, .val v4, .val (.long q5), .second, .val v6, .val (.int d7), .val (.long q8), .second] [(.int d7), (.ref a)])) rfl rfl (hb hby d9_40)
  have N93 := Fr.snoc X93 N79 g_a
  have Z94 : n0 ≤ h93.size := Nat.le_trans Z80 (Nat.le_of_eq W93.size.symm)
  have K95 : Keep h0 h93 [a] := K81.wr W93 (Or.inl (List.mem_of_getElem? (i := 0) rfl))
  have F96 : Fld Z h93 a "com/example/pen_over_wire/penoverwire/model/User" "sessionEpoch" "J" (.long (0 : Int64)) := Fld.other W93 F83 (Or.inr (slot_ne (Or.inr (hw _ (List.mem_of_getElem? (i := 71) rfl))) (Or.inr (hw _ (List.mem_of_getElem? (i := 69) rfl))) (by decide) (t := .long) (t' := .boolean) (by decide) (by decide)))
  have F97 : Exa Z h93 a "com/example/pen_over_wire/penoverwire/model/User" := Exa.wr W93 F84
  have F98 : Fld Z h93 a "com/example/pen_over_wire/penoverwire/model/User" "name" "Ljava/lang/String;" v1 := Fld.other W93 F85 (Or.inr (slot_ne (Or.inr (hw _ (List.mem_of_getElem? (i := 57) rfl))) (Or.inr (hw _ (List.mem_of_getElem? (i := 69) rfl))) (by decide) (t := (.object "java/lang/String")) (t' := .boolean) (by decide) (by decide)))
  have F99 : Fld Z h93 a "com/example/pen_over_wire/penoverwire/model/User" "role" "Lcom/example/pen_over_wire/penoverwire/model/Role;" v2 := Fld.other W93 F86 (Or.inr (slot_ne (Or.inr (hw _ (List.mem_of_getElem? (i := 59) rfl))) (Or.inr (hw _ (List.mem_of_getElem? (i := 69) rfl))) (by decide) (t := (.object "com/example/pen_over_wire/penoverwire/model/Role")) (t' := .boolean) (by decide) (by decide)))
  have F100 : Fld Z h93 a "com/example/pen_over_wire/penoverwire/model/User" "password" "Lcom/example/pen_over_wire/penoverwire/crypto/PasswordHash;" v3 := Fld.other W93 F87 (Or.inr (slot_ne (Or.inr (hw _ (List.mem_of_getElem? (i := 61) rfl))) (Or.inr (hw _ (List.mem_of_getElem? (i := 69) rfl))) (by decide) (t := (.object "com/example/pen_over_wire/penoverwire/crypto/PasswordHash")) (t' := .boolean) (by decide) (by decide)))
  have F101 : Fld Z h93 a "com/example/pen_over_wire/penoverwire/model/User" "totpSecret" "[B" v4 := Fld.other W93 F88 (Or.inr (slot_ne (Or.inr (hw _ (List.mem_of_getElem? (i := 63) rfl))) (Or.inr (hw _ (List.mem_of_getElem? (i := 69) rfl))) (by decide) (t := (.array .byte)) (t' := .boolean) (by decide) (by decide)))
  have F102 : Fld Z h93 a "com/example/pen_over_wire/penoverwire/model/User" "lastOtpStep" "J" (.long q5) := Fld.other W93 F89 (Or.inr (slot_ne (Or.inr (hw _ (List.mem_of_getElem? (i := 65) rfl))) (Or.inr (hw _ (List.mem_of_getElem? (i := 69) rfl))) (by decide) (t := .long) (t' := .boolean) (by decide) (by decide)))
  have F103 : Fld Z h93 a "com/example/pen_over_wire/penoverwire/model/User" "failedLogins" "Lcom/example/pen_over_wire/penoverwire/model/FailedAttempts;" v6 := Fld.other W93 F90 (Or.inr (slot_ne (Or.inr (hw _ (List.mem_of_getElem? (i := 67) rfl))) (Or.inr (hw _ (List.mem_of_getElem? (i := 69) rfl))) (by decide) (t := (.object "com/example/pen_over_wire/penoverwire/model/FailedAttempts")) (t' := .boolean) (by decide) (by decide)))
  have F104 : Fld Z h93 a "com/example/pen_over_wire/penoverwire/model/User" "disabled" "Z" (.int d7) := Fld.same W93 F82
  have k105 : ∀ t, Steps p.tables e below (T93.setTop (mkF m 43 #[.val (.ref a), .val v1, .val v2, .val v3, .val v4, .val (.long q5), .second, .val v6, .val (.int d7), .val (.long q8), .second] [])) t → Steps p.tables e below (s₁.setTop (entryFrame m #[(.ref a), v1, v2, v3, v4, (.long q5), v6, (.int d7), (.long q8)] 11)) t := fun t k => k92 t (st93 t k)
  have k106 : ∀ t, Steps p.tables e below (T93.setTop (mkF m 46 #[.val (.ref a), .val v1, .val v2, .val v3, .val v4, .val (.long q5), .second, .val v6, .val (.int d7), .val (.long q8), .second] [(.long q8), (.ref a)])) t → Steps p.tables e below (s₁.setTop (entryFrame m #[(.ref a), v1, v2, v3, v4, (.long q5), v6, (.int d7), (.long q8)] 11)) t := fun t k => k105 t (by
    show Steps p.tables e below (T93.setTop (mkF m 43 #[.val (.ref a), .val v1, .val v2, .val v3, .val v4, .val (.long q5), .second, .val v6, .val (.int d7), .val (.long q8), .second] [])) _
    refine XS.aloadN X93.here hx rfl (hb hby d9_43) rfl rfl ?_
    show Steps p.tables e below (T93.setTop (mkF m 44 #[.val (.ref a), .val v1, .val v2, .val v3, .val v4, .val (.long q5), .second, .val v6, .val (.int d7), .val (.long q8), .second] [(.ref a)])) _
    refine XS.lload X93.here hx rfl (hb hby d9_44) rfl ?_
    exact k)
  obtain ⟨T107, h107, X107, e107, W107, st107⟩ := putF X93 hx hZ hown (host := "") (Or.inl (hw _ (List.mem_of_getElem? (i := 70) rfl))) Via.refl e93 F96 F97 (Or.inr ⟨(hw _ (List.mem_of_getElem? (i := 71) rfl)), rfl, hnm⟩) (hw _ (List.mem_of_getElem? (i := 50) rfl)) (ty := .long) (by decide) rfl rfl (g := (mkF m 46 #[.val (.ref a), .val v1, .val v2, .val v3, .val v4, .val (.long q5), .second, .val v6, .val (.int d7), .val (.long q8), .second] [(.long q8), (.ref a)])) rfl rfl (hb hby d9_46)
  have N107 := Fr.snoc X107 N93 g_a
  have Z108 : n0 ≤ h107.size := Nat.le_trans Z94 (Nat.le_of_eq W107.size.symm)
  have K109 : Keep h0 h107 [a] := K95.wr W107 (Or.inl (List.mem_of_getElem? (i := 0) rfl))
  have F110 : Exa Z h107 a "com/example/pen_over_wire/penoverwire/model/User" := Exa.wr W107 F97
  have F111 : Fld Z h107 a "com/example/pen_over_wire/penoverwire/model/User" "name" "Ljava/lang/String;" v1 := Fld.other W107 F98 (Or.inr (slot_ne (Or.inr (hw _ (List.mem_of_getElem? (i := 57) rfl))) (Or.inr (hw _ (List.mem_of_getElem? (i := 71) rfl))) (by decide) (t := (.object "java/lang/String")) (t' := .long) (by decide) (by decide)))
  have F112 : Fld Z h107 a "com/example/pen_over_wire/penoverwire/model/User" "role" "Lcom/example/pen_over_wire/penoverwire/model/Role;" v2 := Fld.other W107 F99 (Or.inr (slot_ne (Or.inr (hw _ (List.mem_of_getElem? (i := 59) rfl))) (Or.inr (hw _ (List.mem_of_getElem? (i := 71) rfl))) (by decide) (t := (.object "com/example/pen_over_wire/penoverwire/model/Role")) (t' := .long) (by decide) (by decide)))
  have F113 : Fld Z h107 a "com/example/pen_over_wire/penoverwire/model/User" "password" "Lcom/example/pen_over_wire/penoverwire/crypto/PasswordHash;" v3 := Fld.other W107 F100 (Or.inr (slot_ne (Or.inr (hw _ (List.mem_of_getElem? (i := 61) rfl))) (Or.inr (hw _ (List.mem_of_getElem? (i := 71) rfl))) (by decide) (t := (.object "com/example/pen_over_wire/penoverwire/crypto/PasswordHash")) (t' := .long) (by decide) (by decide)))
  have F114 : Fld Z h107 a "com/example/pen_over_wire/penoverwire/model/User" "totpSecret" "[B" v4 := Fld.other W107 F101 (Or.inr (slot_ne (Or.inr (hw _ (List.mem_of_getElem? (i := 63) rfl))) (Or.inr (hw _ (List.mem_of_getElem? (i := 71) rfl))) (by decide) (t := (.array .byte)) (t' := .long) (by decide) (by decide)))
  have F115 : Fld Z h107 a "com/example/pen_over_wire/penoverwire/model/User" "lastOtpStep" "J" (.long q5) := Fld.other W107 F102 (Or.inr (slot_ne (Or.inr (hw _ (List.mem_of_getElem? (i := 65) rfl))) (Or.inr (hw _ (List.mem_of_getElem? (i := 71) rfl))) (by decide) (t := .long) (t' := .long) (by decide) (by decide)))
  have F116 : Fld Z h107 a "com/example/pen_over_wire/penoverwire/model/User" "failedLogins" "Lcom/example/pen_over_wire/penoverwire/model/FailedAttempts;" v6 := Fld.other W107 F103 (Or.inr (slot_ne (Or.inr (hw _ (List.mem_of_getElem? (i := 67) rfl))) (Or.inr (hw _ (List.mem_of_getElem? (i := 71) rfl))) (by decide) (t := (.object "com/example/pen_over_wire/penoverwire/model/FailedAttempts")) (t' := .long) (by decide) (by decide)))
  have F117 : Fld Z h107 a "com/example/pen_over_wire/penoverwire/model/User" "disabled" "Z" (.int d7) := Fld.other W107 F104 (Or.inr (slot_ne (Or.inr (hw _ (List.mem_of_getElem? (i := 69) rfl))) (Or.inr (hw _ (List.mem_of_getElem? (i := 71) rfl))) (by decide) (t := .boolean) (t' := .long) (by decide) (by decide)))
  have F118 : Fld Z h107 a "com/example/pen_over_wire/penoverwire/model/User" "sessionEpoch" "J" (.long q8) := Fld.same W107 F96
  have k119 : ∀ t, Steps p.tables e below (T107.setTop (mkF m 49 #[.val (.ref a), .val v1, .val v2, .val v3, .val v4, .val (.long q5), .second, .val v6, .val (.int d7), .val (.long q8), .second] [])) t → Steps p.tables e below (s₁.setTop (entryFrame m #[(.ref a), v1, v2, v3, v4, (.long q5), v6, (.int d7), (.long q8)] 11)) t := fun t k => k106 t (st107 t k)
  obtain ⟨fs, hr, hrun, hended, hW, hsame⟩ := X107.leave (v := none) (fun _ => rfl)
  refine ⟨_, _, k119 _ ?_, hrun, hended, _, _, rfl, ?_, ⟨_, rfl⟩, hW, hsame.mono (by decide) (by decide)⟩
  · show Steps p.tables e below (T107.setTop (mkF m 49 #[.val (.ref a), .val v1, .val v2, .val v3, .val v4, .val (.long q5), .second, .val v6, .val (.int d7), .val (.long q8), .second] [])) _
    exact X107.returnOut hx Bd.returns (hb hby d9_49) hr
  · show Q9 Z a v1 v2 v3 v4 q5 v6 d7 q8 h0 n0 _ T107.heap _
    rw [e107]
    exact ⟨rfl, N107, K109, F110, F111, F112, F113, F114, F115, F116, F117, F118⟩
theorem d10_0 : decode prog_34_method_4_code 0 = .ok (.new 8, 3) := by decide +kernel
theorem d10_3 : decode prog_34_method_4_code 3 = .ok (.dup, 1) := by decide +kernel
theorem d10_4 : decode prog_34_method_4_code 4 = .ok (.aload_n 0, 1) := by decide +kernel
theorem d10_5 : decode prog_34_method_4_code 5 = .ok (.getfield 7, 3) := by decide +kernel
theorem d10_8 : decode prog_34_method_4_code 8 = .ok (.aload_n 0, 1) := by decide +kernel
theorem d10_9 : decode prog_34_method_4_code 9 = .ok (.getfield 13, 3) := by decide +kernel
theorem d10_12 : decode prog_34_method_4_code 12 = .ok (.aload_n 0, 1) := by decide +kernel
theorem d10_13 : decode prog_34_method_4_code 13 = .ok (.getfield 17, 3) := by decide +kernel
theorem d10_16 : decode prog_34_method_4_code 16 = .ok (.aload_n 0, 1) := by decide +kernel
theorem d10_17 : decode prog_34_method_4_code 17 = .ok (.getfield 21, 3) := by decide +kernel
theorem d10_20 : decode prog_34_method_4_code 20 = .ok (.aload_n 0, 1) := by decide +kernel
theorem d10_21 : decode prog_34_method_4_code 21 = .ok (.getfield 25, 3) := by decide +kernel
theorem d10_24 : decode prog_34_method_4_code 24 = .ok (.aload_n 0, 1) := by decide +kernel
theorem d10_25 : decode prog_34_method_4_code 25 = .ok (.getfield 29, 3) := by decide +kernel
theorem d10_28 : decode prog_34_method_4_code 28 = .ok (.iconst 1, 1) := by decide +kernel
theorem d10_29 : decode prog_34_method_4_code 29 = .ok (.aload_n 0, 1) := by decide +kernel
theorem d10_30 : decode prog_34_method_4_code 30 = .ok (.getfield 37, 3) := by decide +kernel
theorem d10_33 : decode prog_34_method_4_code 33 = .ok (.lconst 1, 1) := by decide +kernel
theorem d10_34 : decode prog_34_method_4_code 34 = .ok (.ladd, 1) := by decide +kernel
theorem d10_35 : decode prog_34_method_4_code 35 = .ok (.invokespecial 40, 3) := by decide +kernel
theorem d10_38 : decode prog_34_method_4_code 38 = .ok (.areturn, 1) := by decide +kernel
theorem pd_1 : parseMethodDescriptor "(Ljava/lang/String;Lcom/example/pen_over_wire/penoverwire/model/Role;Lcom/example/pen_over_wire/penoverwire/crypto/PasswordHash;[BJLcom/example/pen_over_wire/penoverwire/model/FailedAttempts;ZJ)V" = some ⟨[(.object "java/lang/String"), (.object "com/example/pen_over_wire/penoverwire/model/Role"), (.object "com/example/pen_over_wire/penoverwire/crypto/PasswordHash"), (.array .byte), .long, (.object "com/example/pen_over_wire/penoverwire/model/FailedAttempts"), .boolean, .long], none⟩ := by decide +kernel
theorem ef_10 (m : MethodId) (x0 : Addr) : entryFrame m #[(.ref x0)] 1 = mkF m 0 #[.val (.ref x0)] [] := by first | (simp [entryFrame, mkF, argsToLocals, Value.category]; done) | rfl
def Q10 (Z : State) (a : Addr) (b : Addr) (v1 : Value) (v2 : Value) (v3 : Value) (v4 : Value) (q5 : Int64) (v6 : Value) (d7 : Int32) (q8 : Int64) (h0 : Heap) (n0 : Nat) (v : Option Value) (h : Heap) (L : List Loc) : Prop := v = some (.ref b) ∧ Fr n0 L ∧ Keep h0 h [] ∧ Exa Z h b "com/example/pen_over_wire/penoverwire/model/User" ∧ Fld Z h b "com/example/pen_over_wire/penoverwire/model/User" "name" "Ljava/lang/String;" v1 ∧ Fld Z h b "com/example/pen_over_wire/penoverwire/model/User" "role" "Lcom/example/pen_over_wire/penoverwire/model/Role;" v2 ∧ Fld Z h b "com/example/pen_over_wire/penoverwire/model/User" "password" "Lcom/example/pen_over_wire/penoverwire/crypto/PasswordHash;" v3 ∧ Fld Z h b "com/example/pen_over_wire/penoverwire/model/User" "totpSecret" "[B" v4 ∧ Fld Z h b "com/example/pen_over_wire/penoverwire/model/User" "lastOtpStep" "J" (.long q5) ∧ Fld Z h b "com/example/pen_over_wire/penoverwire/model/User" "failedLogins" "Lcom/example/pen_over_wire/penoverwire/model/FailedAttempts;" v6 ∧ Fld Z h b "com/example/pen_over_wire/penoverwire/model/User" "disabled" "Z" (.int (1 : Int32)) ∧ Fld Z h b "com/example/pen_over_wire/penoverwire/model/User" "sessionEpoch" "J" (.long (q8 + (1 : Int64)))
set_option maxRecDepth 65536 in
set_option maxHeartbeats 40000000 in
theorem rm10 (l : Launch) (Z : State) (a0 : Array Value) (hw : ∀ d ∈ tables_1, d.before a0 Z = true) (ws : List Jvm.Cond) (a : Addr) (b : Addr) (v1 : Value) (v2 : Value) (v3 : Value) (v4 : Value) (q5 : Int64) (v6 : Value) (d7 : Int32) (q8 : Int64) (h0 : Heap) (n0 : Nat) (Z0 : n0 ≤ h0.size) (r1 : v1.isRef = true) (r2 : v2.isRef = true) (r3 : v3.isRef = true) (r4 : v4.isRef = true) (r6 : v6.isRef = true) (F1 : Fld Z h0 a "com/example/pen_over_wire/penoverwire/model/User" "name" "Ljava/lang/String;" v1) (F2 : Fld Z h0 a "com/example/pen_over_wire/penoverwire/model/User" "role" "Lcom/example/pen_over_wire/penoverwire/model/Role;" v2) (F3 : Fld Z h0 a "com/example/pen_over_wire/penoverwire/model/User" "password" "Lcom/example/pen_over_wire/penoverwire/crypto/PasswordHash;" v3) (F4 : Fld Z h0 a "com/example/pen_over_wire/penoverwire/model/User" "totpSecret" "[B" v4) (F5 : Fld Z h0 a "com/example/pen_over_wire/penoverwire/model/User" "lastOtpStep" "J" (.long q5)) (F6 : Fld Z h0 a "com/example/pen_over_wire/penoverwire/model/User" "failedLogins" "Lcom/example/pen_over_wire/penoverwire/model/FailedAttempts;" v6) (F7 : Fld Z h0 a "com/example/pen_over_wire/penoverwire/model/User" "disabled" "Z" (.int d7)) (F8 : Fld Z h0 a "com/example/pen_over_wire/penoverwire/model/User" "sessionEpoch" "J" (.long q8)) (Ea : Exa Z h0 a "com/example/pen_over_wire/penoverwire/model/User") (gb : b = h0.size) :
    MetFree l (⟨"com/example/pen_over_wire/penoverwire/model/User", "disable", "()Lcom/example/pen_over_wire/penoverwire/model/User;"⟩ : MethodName) (head1 (Jvm.Cond.code (⟨"com/example/pen_over_wire/penoverwire/model/User", "disable", "()Lcom/example/pen_over_wire/penoverwire/model/User;"⟩ : MethodName) prog_34_method_4_code 1 (some (.object "com/example/pen_over_wire/penoverwire/model/User")) :: ws) ({ frames := 3, cells := 1, slots := 8, locals := 47 } : Room)) (fun aa U => aa = #[(.ref a)] ∧ Z.Warmed39 U.vm ∧ U.heap = h0) (fun _ _ _ _ _ => True) (fun _ U o U' => ∃ v L, o = .returned v ∧ Q10 Z a b v1 v2 v3 v4 q5 v6 d7 q8 h0 n0 v U'.heap L ∧ FrameEnd U o U' L ({ frames := 3, cells := 1, slots := 8, locals := 47 } : Room).cells ({ frames := 3, cells := 1, slots := 8, locals := 47 } : Room).slots) := by
  refine MetFree.of_bodySF (plainFor_of_name pn_1) hisR ?_
  intro p e s m args below meth c s₁ Bd hml0 hP hK
  obtain ⟨rfl, hZ, hh⟩ := hP
  have hx := Bd.exec
  have hby := Bd.bytes
  have hml : c.maxLocals = 1 := hml0
  have hown : s.vm.findClass "com/example/pen_over_wire/penoverwire/model/User" = some m.cls := findClass_of_methodNamed Bd.named
  have hnm := (name_of_methodNamed Bd.named Bd.method).1
  have X0 : Stand p l e ({ frames := 3, cells := 1, slots := 8, locals := 47 } : Room) s m #[(.ref a)] below meth c s₁ [] 0 0 := Stand.of_body Bd
  have e0 : s₁.heap = h0 := by rw [← hh, Bd.state]; rfl
  have N0 := Fr.nil n0
  have pre0 : ∀ t, Steps p.tables e below (s₁.setTop (mkF m 0 #[.val (.ref a)] [])) t → Steps p.tables e below (s₁.setTop (entryFrame m #[(.ref a)] 1)) t := fun t k => castTop (ef_10 m a) k
  have KR : Keep h0 h0 [] := Keep.refl _ _
  obtain ⟨T121, h121, X121, e121, E121, A121, D121, -, st121⟩ := newO X0 hx hZ hown (hw _ (List.mem_of_getElem? (i := 77) rfl)) (hw _ (List.mem_of_getElem? (i := 50) rfl)) (hw _ (List.mem_of_getElem? (i := 51) rfl)) e0 (g := (mkF m 0 #[.val (.ref a)] [])) rfl (hb hby d10_0) (by decide) (by decide)
  rw [← gb] at A121 D121 st121
  have ne122 : a ≠ b := Nat.ne_of_lt (Nat.lt_of_lt_of_le (F1).lt (Nat.le_of_eq gb.symm))
  have g_b : n0 ≤ b := Nat.le_trans Z0 (Nat.le_of_eq gb.symm)
  have sz_b : h0.size ≤ b := Nat.le_trans KR.1 (Nat.le_of_eq gb.symm)
  have Z123 : n0 ≤ h121.size := Nat.le_trans Z0 E121.1
  have K124 : Keep h0 h121 [] := KR.ext E121
  have F125 : Fld Z h121 a "com/example/pen_over_wire/penoverwire/model/User" "name" "Ljava/lang/String;" v1 := (F1).ext E121
  have F126 : Fld Z h121 a "com/example/pen_over_wire/penoverwire/model/User" "role" "Lcom/example/pen_over_wire/penoverwire/model/Role;" v2 := (F2).ext E121
  have F127 : Fld Z h121 a "com/example/pen_over_wire/penoverwire/model/User" "password" "Lcom/example/pen_over_wire/penoverwire/crypto/PasswordHash;" v3 := (F3).ext E121
  have F128 : Fld Z h121 a "com/example/pen_over_wire/penoverwire/model/User" "totpSecret" "[B" v4 := (F4).ext E121
  have F129 : Fld Z h121 a "com/example/pen_over_wire/penoverwire/model/User" "lastOtpStep" "J" (.long q5) := (F5).ext E121
  have F130 : Fld Z h121 a "com/example/pen_over_wire/penoverwire/model/User" "failedLogins" "Lcom/example/pen_over_wire/penoverwire/model/FailedAttempts;" v6 := (F6).ext E121
  have F131 : Fld Z h121 a "com/example/pen_over_wire/penoverwire/model/User" "disabled" "Z" (.int d7) := (F7).ext E121
  have F132 : Fld Z h121 a "com/example/pen_over_wire/penoverwire/model/User" "sessionEpoch" "J" (.long q8) := (F8).ext E121
  have F133 : Exa Z h121 a "com/example/pen_over_wire/penoverwire/model/User" := (Ea).ext E121
  have F134 : Fld Z h121 b "com/example/pen_over_wire/penoverwire/model/User" "name" "Ljava/lang/String;" .null := D121 (Or.inr (hw _ (List.mem_of_getElem? (i := 57) rfl))) (ty := (.object "java/lang/String")) (by decide)
  have F135 : Fld Z h121 b "com/example/pen_over_wire/penoverwire/model/User" "role" "Lcom/example/pen_over_wire/penoverwire/model/Role;" .null := D121 (Or.inr (hw _ (List.mem_of_getElem? (i := 59) rfl))) (ty := (.object "com/example/pen_over_wire/penoverwire/model/Role")) (by decide)
  have F136 : Fld Z h121 b "com/example/pen_over_wire/penoverwire/model/User" "password" "Lcom/example/pen_over_wire/penoverwire/crypto/PasswordHash;" .null := D121 (Or.inr (hw _ (List.mem_of_getElem? (i := 61) rfl))) (ty := (.object "com/example/pen_over_wire/penoverwire/crypto/PasswordHash")) (by decide)
  have F137 : Fld Z h121 b "com/example/pen_over_wire/penoverwire/model/User" "totpSecret" "[B" .null := D121 (Or.inr (hw _ (List.mem_of_getElem? (i := 63) rfl))) (ty := (.array .byte)) (by decide)
  have F138 : Fld Z h121 b "com/example/pen_over_wire/penoverwire/model/User" "lastOtpStep" "J" (.long (0 : Int64)) := D121 (Or.inr (hw _ (List.mem_of_getElem? (i := 65) rfl))) (ty := .long) (by decide)
  have F139 : Fld Z h121 b "com/example/pen_over_wire/penoverwire/model/User" "failedLogins" "Lcom/example/pen_over_wire/penoverwire/model/FailedAttempts;" .null := D121 (Or.inr (hw _ (List.mem_of_getElem? (i := 67) rfl))) (ty := (.object "com/example/pen_over_wire/penoverwire/model/FailedAttempts")) (by decide)
  have F140 : Fld Z h121 b "com/example/pen_over_wire/penoverwire/model/User" "disabled" "Z" (.int (0 : Int32)) := D121 (Or.inr (hw _ (List.mem_of_getElem? (i := 69) rfl))) (ty := .boolean) (by decide)
  have F141 : Fld Z h121 b "com/example/pen_over_wire/penoverwire/model/User" "sessionEpoch" "J" (.long (0 : Int64)) := D121 (Or.inr (hw _ (List.mem_of_getElem? (i := 71) rfl))) (ty := .long) (by decide)
  have k142 : ∀ t, Steps p.tables e below (T121.setTop (mkF m 3 #[.val (.ref a)] [(.ref b)])) t → Steps p.tables e below (s₁.setTop (entryFrame m #[(.ref a)] 1)) t := fun t k => pre0 t (st121 t k)
  have k143 : ∀ t, Steps p.tables e below (T121.setTop (mkF m 5 #[.val (.ref a)] [(.ref a), (.ref b), (.ref b)])) t → Steps p.tables e below (s₁.setTop (entryFrame m #[(.ref a)] 1)) t := fun t k => k142 t (by
    show Steps p.tables e below (T121.setTop (mkF m 3 #[.val (.ref a)] [(.ref b)])) _
    refine XS.dup X121.here hx rfl (hb hby d10_3) rfl rfl ?_
    show Steps p.tables e below (T121.setTop (mkF m 4 #[.val (.ref a)] [(.ref b), (.ref b)])) _
    refine XS.aloadN X121.here hx rfl (hb hby d10_4) rfl rfl ?_
    exact k)
  obtain ⟨T144, X144, e144, st144⟩ := getF X121 hx hZ hown (host := "") (Or.inl (hw _ (List.mem_of_getElem? (i := 56) rfl))) Via.refl e121 F125 (g := (mkF m 5 #[.val (.ref a)] [(.ref a), (.ref b), (.ref b)])) rfl rfl (hb hby d10_5)
  have k145 : ∀ t, Steps p.tables e below (T144.setTop (mkF m 8 #[.val (.ref a)] [v1, (.ref b), (.ref b)])) t → Steps p.tables e below (s₁.setTop (entryFrame m #[(.ref a)] 1)) t := fun t k => k143 t (st144 t k)
  have k146 : ∀ t, Steps p.tables e below (T144.setTop (mkF m 9 #[.val (.ref a)] [(.ref a), v1, (.ref b), (.ref b)])) t → Steps p.tables e below (s₁.setTop (entryFrame m #[(.ref a)] 1)) t := fun t k => k145 t (by
    show Steps p.tables e below (T144.setTop (mkF m 8 #[.val (.ref a)] [v1, (.ref b), (.ref b)])) _
    refine XS.aloadN X144.here hx rfl (hb hby d10_8) rfl rfl ?_
    exact k)
  obtain ⟨T147, X147, e147, st147⟩ := getF X144 hx hZ hown (host := "") (Or.inl (hw _ (List.mem_of_getElem? (i := 58) rfl))) Via.refl e144 F126 (g := (mkF m 9 #[.val (.ref a)] [(.ref a), v1, (.ref b), (.ref b)])) rfl rfl (hb hby d10_9)
  have k148 : ∀ t, Steps p.tables e below (T147.setTop (mkF m 12 #[.val (.ref a)] [v2, v1, (.ref b), (.ref b)])) t → Steps p.tables e below (s₁.setTop (entryFrame m #[(.ref a)] 1)) t := fun t k => k146 t (st147 t k)
  have k149 : ∀ t, Steps p.tables e below (T147.setTop (mkF m 13 #[.val (.ref a)] [(.ref a), v2, v1, (.ref b), (.ref b)])) t → Steps p.tables e below (s₁.setTop (entryFrame m #[(.ref a)] 1)) t := fun t k => k148 t (by
    show Steps p.tables e below (T147.setTop (mkF m 12 #[.val (.ref a)] [v2, v1, (.ref b), (.ref b)])) _
    refine XS.aloadN X147.here hx rfl (hb hby d10_12) rfl rfl ?_
    exact k)
  obtain ⟨T150, X150, e150, st150⟩ := getF X147 hx hZ hown (host := "") (Or.inl (hw _ (List.mem_of_getElem? (i := 60) rfl))) Via.refl e147 F127 (g := (mkF m 13 #[.val (.ref a)] [(.ref a), v2, v1, (.ref b), (.ref b)])) rfl rfl (hb hby d10_13)
  have k151 : ∀ t, Steps p.tables e below (T150.setTop (mkF m 16 #[.val (.ref a)] [v3, v2, v1, (.ref b), (.ref b)])) t → Steps p.tables e below (s₁.setTop (entryFrame m #[(.ref a)] 1)) t := fun t k => k149 t (st150 t k)
  have k152 : ∀ t, Steps p.tables e below (T150.setTop (mkF m 17 #[.val (.ref a)] [(.ref a), v3, v2, v1, (.ref b), (.ref b)])) t → Steps p.tables e below (s₁.setTop (entryFrame m #[(.ref a)] 1)) t := fun t k => k151 t (by
    show Steps p.tables e below (T150.setTop (mkF m 16 #[.val (.ref a)] [v3, v2, v1, (.ref b), (.ref b)])) _
    refine XS.aloadN X150.here hx rfl (hb hby d10_16) rfl rfl ?_
    exact k)
  obtain ⟨T153, X153, e153, st153⟩ := getF X150 hx hZ hown (host := "") (Or.inl (hw _ (List.mem_of_getElem? (i := 62) rfl))) Via.refl e150 F128 (g := (mkF m 17 #[.val (.ref a)] [(.ref a), v3, v2, v1, (.ref b), (.ref b)])) rfl rfl (hb hby d10_17)
  have k154 : ∀ t, Steps p.tables e below (T153.setTop (mkF m 20 #[.val (.ref a)] [v4, v3, v2, v1, (.ref b), (.ref b)])) t → Steps p.tables e below (s₁.setTop (entryFrame m #[(.ref a)] 1)) t := fun t k => k152 t (st153 t k)
  have k155 : ∀ t, Steps p.tables e below (T153.setTop (mkF m 21 #[.val (.ref a)] [(.ref a), v4, v3, v2, v1, (.ref b), (.ref b)])) t → Steps p.tables e below (s₁.setTop (entryFrame m #[(.ref a)] 1)) t := fun t k => k154 t (by
    show Steps p.tables e below (T153.setTop (mkF m 20 #[.val (.ref a)] [v4, v3, v2, v1, (.ref b), (.ref b)])) _
    refine XS.aloadN X153.here hx rfl (hb hby d10_20) rfl rfl ?_
    exact k)
  obtain ⟨T156, X156, e156, st156⟩ := getF X153 hx hZ hown (host := "") (Or.inl (hw _ (List.mem_of_getElem? (i := 64) rfl))) Via.refl e153 F129 (g := (mkF m 21 #[.val (.ref a)] [(.ref a), v4, v3, v2, v1, (.ref b), (.ref b)])) rfl rfl (hb hby d10_21)
  have k157 : ∀ t, Steps p.tables e below (T156.setTop (mkF m 24 #[.val (.ref a)] [(.long q5), v4, v3, v2, v1, (.ref b), (.ref b)])) t → Steps p.tables e below (s₁.setTop (entryFrame m #[(.ref a)] 1)) t := fun t k => k155 t (st156 t k)
  have k158 : ∀ t, Steps p.tables e below (T156.setTop (mkF m 25 #[.val (.ref a)] [(.ref a), (.long q5), v4, v3, v2, v1, (.ref b), (.ref b)])) t → Steps p.tables e below (s₁.setTop (entryFrame m #[(.ref a)] 1)) t := fun t k => k157 t (by
    show Steps p.tables e below (T156.setTop (mkF m 24 #[.val (.ref a)] [(.long q5), v4, v3, v2, v1, (.ref b), (.ref b)])) _
    refine XS.aloadN X156.here hx rfl (hb hby d10_24) rfl rfl ?_
    exact k)
  obtain ⟨T159, X159, e159, st159⟩ := getF X156 hx hZ hown (host := "") (Or.inl (hw _ (List.mem_of_getElem? (i := 66) rfl))) Via.refl e156 F130 (g := (mkF m 25 #[.val (.ref a)] [(.ref a), (.long q5), v4, v3, v2, v1, (.ref b), (.ref b)])) rfl rfl (hb hby d10_25)
  have k160 : ∀ t, Steps p.tables e below (T159.setTop (mkF m 28 #[.val (.ref a)] [v6, (.long q5), v4, v3, v2, v1, (.ref b), (.ref b)])) t → Steps p.tables e below (s₁.setTop (entryFrame m #[(.ref a)] 1)) t := fun t k => k158 t (st159 t k)
  have k161 : ∀ t, Steps p.tables e below (T159.setTop (mkF m 30 #[.val (.ref a)] [(.ref a), (.int (1 : Int32)), v6, (.long q5), v4, v3, v2, v1, (.ref b), (.ref b)])) t → Steps p.tables e below (s₁.setTop (entryFrame m #[(.ref a)] 1)) t := fun t k => k160 t (by
    show Steps p.tables e below (T159.setTop (mkF m 28 #[.val (.ref a)] [v6, (.long q5), v4, v3, v2, v1, (.ref b), (.ref b)])) _
    refine XS.iconst X159.here hx rfl (hb hby d10_28) ?_
    show Steps p.tables e below (T159.setTop (mkF m 29 #[.val (.ref a)] [(.int (1 : Int32)), v6, (.long q5), v4, v3, v2, v1, (.ref b), (.ref b)])) _
    refine XS.aloadN X159.here hx rfl (hb hby d10_29) rfl rfl ?_
    exact k)
  obtain ⟨T162, X162, e162, st162⟩ := getF X159 hx hZ hown (host := "") (Or.inl (hw _ (List.mem_of_getElem? (i := 70) rfl))) Via.refl e159 F132 (g := (mkF m 30 #[.val (.ref a)] [(.ref a), (.int (1 : Int32)), v6, (.long q5), v4, v3, v2, v1, (.ref b), (.ref b)])) rfl rfl (hb hby d10_30)
  have k163 : ∀ t, Steps p.tables e below (T162.setTop (mkF m 33 #[.val (.ref a)] [(.long q8), (.int (1 : Int32)), v6, (.long q5), v4, v3, v2, v1, (.ref b), (.ref b)])) t → Steps p.tables e below (s₁.setTop (entryFrame m #[(.ref a)] 1)) t := fun t k => k161 t (st162 t k)
  have k164 : ∀ t, Steps p.tables e below (T162.setTop (mkF m 35 #[.val (.ref a)] [(.long (q8 + (1 : Int64))), (.int (1 : Int32)), v6, (.long q5), v4, v3, v2, v1, (.ref b), (.ref b)])) t → Steps p.tables e below (s₁.setTop (entryFrame m #[(.ref a)] 1)) t := fun t k => k163 t (by
    show Steps p.tables e below (T162.setTop (mkF m 33 #[.val (.ref a)] [(.long q8), (.int (1 : Int32)), v6, (.long q5), v4, v3, v2, v1, (.ref b), (.ref b)])) _
    refine XS.lconst X162.here hx rfl (hb hby d10_33) ?_
    show Steps p.tables e below (T162.setTop (mkF m 34 #[.val (.ref a)] [(.long (1 : Int64)), (.long q8), (.int (1 : Int32)), v6, (.long q5), v4, v3, v2, v1, (.ref b), (.ref b)])) _
    refine XS.ladd X162.here hx rfl (hb hby d10_34) rfl ?_
    exact k)
  obtain ⟨_, _, ⟨T165, L165, kc165, ks165⟩, -, X165, ⟨Lc165, hQ165, l165, y165, z165⟩, st165⟩ := X162.specialBack hx (y := (⟨"com/example/pen_over_wire/penoverwire/model/User", "<init>", "(Ljava/lang/String;Lcom/example/pen_over_wire/penoverwire/model/Role;Lcom/example/pen_over_wire/penoverwire/crypto/PasswordHash;[BJLcom/example/pen_over_wire/penoverwire/model/FailedAttempts;ZJ)V"⟩ : MethodName)) rfl hown (mvT hZ (hw _ (List.mem_of_getElem? (i := 78) rfl))) (mvT hZ (hw _ (List.mem_of_getElem? (i := 53) rfl))) (mvT hZ (hw _ (List.mem_of_getElem? (i := 54) rfl))) (by decide) (backOf (W := 1) (rm9 l Z a0 hw [] b v1 v2 v3 v4 q5 v6 (1 : Int32) (q8 + (1 : Int64)) h121 n0 Z123 r1 r2 r3 r4 r6 (Or.inr rfl) F134 F135 F136 F137 F138 F139 F140 F141 A121 g_b) hZ (hw _ (List.mem_of_getElem? (i := 54) rfl)) (hw _ (List.mem_of_getElem? (i := 51) rfl)) (by decide) (by decide)) (g := (mkF m 35 #[.val (.ref a)] [(.long (q8 + (1 : Int64))), (.int (1 : Int32)), v6, (.long q5), v4, v3, v2, v1, (.ref b), (.ref b)])) rfl (by rw [hml]; rfl) (Steps.refl _) (a := b) (argsL := [v1, v2, v3, v4, (.long q5), v6, (.int (1 : Int32)), (.long (q8 + (1 : Int64)))]) (rest := [(.ref b)]) (lenOf pd_1 rfl) rfl (by show 2 * 0 + _ ≤ _; exact Nat.le_of_eq rfl) (hb hby d10_35) (fun _ _ => ⟨rfl, e162, (by decide : 1 + 0 ≤ _), (by decide : 8 + 0 ≤ _)⟩)
  dsimp only [Pt.U, Pt.locs, Pt.cells, Pt.slots] at X165 l165 y165 z165 st165 hQ165
  subst l165 y165 z165
  obtain ⟨rfl, Nq165, K165, Ax165, Fx165_0, Fx165_1, Fx165_2, Fx165_3, Fx165_4, Fx165_5, Fx165_6, Fx165_7⟩ := hQ165
  have N165 := Fr.app N0 Nq165
  have Z166 : n0 ≤ T165.heap.size := Nat.le_trans Z123 K165.1
  have K167 : Keep h0 T165.heap [] := K124.trans K165 (allS (Or.inr sz_b) all0)
  have F168 : Fld Z T165.heap a "com/example/pen_over_wire/penoverwire/model/User" "name" "Ljava/lang/String;" v1 := (F125).keep K165 (ninS ne122 nin0)
  have F169 : Fld Z T165.heap a "com/example/pen_over_wire/penoverwire/model/User" "role" "Lcom/example/pen_over_wire/penoverwire/model/Role;" v2 := (F126).keep K165 (ninS ne122 nin0)
  have F170 : Fld Z T165.heap a "com/example/pen_over_wire/penoverwire/model/User" "password" "Lcom/example/pen_over_wire/penoverwire/crypto/PasswordHash;" v3 := (F127).keep K165 (ninS ne122 nin0)
  have F171 : Fld Z T165.heap a "com/example/pen_over_wire/penoverwire/model/User" "totpSecret" "[B" v4 := (F128).keep K165 (ninS ne122 nin0)
  have F172 : Fld Z T165.heap a "com/example/pen_over_wire/penoverwire/model/User" "lastOtpStep" "J" (.long q5) := (F129).keep K165 (ninS ne122 nin0)
  have F173 : Fld Z T165.heap a "com/example/pen_over_wire/penoverwire/model/User" "failedLogins" "Lcom/example/pen_over_wire/penoverwire/model/FailedAttempts;" v6 := (F130).keep K165 (ninS ne122 nin0)
  have F174 : Fld Z T165.heap a "com/example/pen_over_wire/penoverwire/model/User" "disabled" "Z" (.int d7) := (F131).keep K165 (ninS ne122 nin0)
  have F175 : Fld Z T165.heap a "com/example/pen_over_wire/penoverwire/model/User" "sessionEpoch" "J" (.long q8) := (F132).keep K165 (ninS ne122 nin0)
  have F176 : Exa Z T165.heap a "com/example/pen_over_wire/penoverwire/model/User" := (F133).keep K165
  have F177 : Exa Z T165.heap b "com/example/pen_over_wire/penoverwire/model/User" := (A121).keep K165
  have k178 : ∀ t, Steps p.tables e below (T165.setTop (mkF m 38 #[.val (.ref a)] [(.ref b)])) t → Steps p.tables e below (s₁.setTop (entryFrame m #[(.ref a)] 1)) t := fun t k => k164 t (st165.trans k)
  obtain ⟨fs, hr, hrun, hended, hW, hsame⟩ := X165.leave (v := some (.ref b)) (fun h => by rw [Bd.returns] at h; cases h)
  refine ⟨_, _, k178 _ ?_, hrun, hended, _, _, rfl, ?_, ⟨_, rfl⟩, hW, hsame.mono (by decide) (by decide)⟩
  · show Steps p.tables e below (T165.setTop (mkF m 38 #[.val (.ref a)] [(.ref b)])) _
    exact retOut X165 hx Bd.returns rfl (Or.inr (Or.inr (Or.inr (Or.inr ⟨rfl, rfl, rfl⟩)))) (hb hby d10_38) hr
  · show Q10 Z a b v1 v2 v3 v4 q5 v6 d7 q8 h0 n0 _ T165.heap _
    exact ⟨rfl, N165, K167, F177, Fx165_0, Fx165_1, Fx165_2, Fx165_3, Fx165_4, Fx165_5, Fx165_6, Fx165_7⟩
theorem d7_0 : decode prog_29_method_1_code 0 = .ok (.aload_n 0, 1) := by decide +kernel
theorem d7_1 : decode prog_29_method_1_code 1 = .ok (.invokespecial 1, 3) := by decide +kernel
theorem d7_4 : decode prog_29_method_1_code 4 = .ok (.aload_n 0, 1) := by decide +kernel
theorem d7_5 : decode prog_29_method_1_code 5 = .ok (.iload_n 1, 1) := by decide +kernel
theorem d7_6 : decode prog_29_method_1_code 6 = .ok (.putfield 7, 3) := by decide +kernel
theorem d7_9 : decode prog_29_method_1_code 9 = .ok (.aload_n 0, 1) := by decide +kernel
theorem d7_10 : decode prog_29_method_1_code 10 = .ok (.iload_n 2, 1) := by decide +kernel
theorem d7_11 : decode prog_29_method_1_code 11 = .ok (.putfield 13, 3) := by decide +kernel
theorem d7_14 : decode prog_29_method_1_code 14 = .ok (.return_, 1) := by decide +kernel
theorem pn_2 : plainName "com/example/pen_over_wire/penoverwire/model/FailedAttempts" = true := by first | (simp [plainName, overriddenIn]; done) | decide +kernel
theorem ef_7 (m : MethodId) (x0 : Addr) (x1 : Int32) (x2 : Int32) : entryFrame m #[(.ref x0), (.int x1), (.int x2)] 3 = mkF m 0 #[.val (.ref x0), .val (.int x1), .val (.int x2)] [] := by first | (simp [entryFrame, mkF, argsToLocals, Value.category]; done) | rfl
def Q7 (Z : State) (a : Addr) (p1 : Int32) (p2 : Int32) (h0 : Heap) (n0 : Nat) (v : Option Value) (h : Heap) (L : List Loc) : Prop := v = none ∧ Fr n0 L ∧ Keep h0 h [a]
set_option maxRecDepth 65536 in
set_option maxHeartbeats 40000000 in
theorem rm7 (l : Launch) (Z : State) (a0 : Array Value) (hw : ∀ d ∈ tables_1, d.before a0 Z = true) (ws : List Jvm.Cond) (a : Addr) (p1 : Int32) (p2 : Int32) (h0 : Heap) (n0 : Nat) (Z0 : n0 ≤ h0.size) (F1 : Fld Z h0 a "com/example/pen_over_wire/penoverwire/model/FailedAttempts" "count" "I" (.int (0 : Int32))) (F2 : Fld Z h0 a "com/example/pen_over_wire/penoverwire/model/FailedAttempts" "lockRecorded" "Z" (.int (0 : Int32))) (Ea : Exa Z h0 a "com/example/pen_over_wire/penoverwire/model/FailedAttempts") (g_a : n0 ≤ a) (hd : p2 = 0 ∨ p2 = 1) :
    MetFree l (⟨"com/example/pen_over_wire/penoverwire/model/FailedAttempts", "<init>", "(IZ)V"⟩ : MethodName) (head1 (Jvm.Cond.code (⟨"com/example/pen_over_wire/penoverwire/model/FailedAttempts", "<init>", "(IZ)V"⟩ : MethodName) prog_29_method_1_code 3 none :: ws) ({ frames := 2, cells := 0, slots := 0, locals := 24 } : Room)) (fun aa U => aa = #[(.ref a), (.int p1), (.int p2)] ∧ Z.Warmed39 U.vm ∧ U.heap = h0) (fun _ _ _ _ _ => True) (fun _ U o U' => ∃ v L, o = .returned v ∧ Q7 Z a p1 p2 h0 n0 v U'.heap L ∧ FrameEnd U o U' L ({ frames := 2, cells := 0, slots := 0, locals := 24 } : Room).cells ({ frames := 2, cells := 0, slots := 0, locals := 24 } : Room).slots) := by
  refine MetFree.of_bodySF (plainFor_of_name pn_2) hisR ?_
  intro p e s m args below meth c s₁ Bd hml0 hP hK
  obtain ⟨rfl, hZ, hh⟩ := hP
  have hx := Bd.exec
  have hby := Bd.bytes
  have hml : c.maxLocals = 3 := hml0
  have hown : s.vm.findClass "com/example/pen_over_wire/penoverwire/model/FailedAttempts" = some m.cls := findClass_of_methodNamed Bd.named
  have hnm := (name_of_methodNamed Bd.named Bd.method).1
  have X0 : Stand p l e ({ frames := 2, cells := 0, slots := 0, locals := 24 } : Room) s m #[(.ref a), (.int p1), (.int p2)] below meth c s₁ [] 0 0 := Stand.of_body Bd
  have e0 : s₁.heap = h0 := by rw [← hh, Bd.state]; rfl
  have N0 := Fr.nil n0
  have pre0 : ∀ t, Steps p.tables e below (s₁.setTop (mkF m 0 #[.val (.ref a), .val (.int p1), .val (.int p2)] [])) t → Steps p.tables e below (s₁.setTop (entryFrame m #[(.ref a), (.int p1), (.int p2)] 3)) t := fun t k => castTop (ef_7 m a p1 p2) k
  have KR : Keep h0 h0 [a] := Keep.refl _ _
  have k180 : ∀ t, Steps p.tables e below (s₁.setTop (mkF m 1 #[.val (.ref a), .val (.int p1), .val (.int p2)] [(.ref a)])) t → Steps p.tables e below (s₁.setTop (entryFrame m #[(.ref a), (.int p1), (.int p2)] 3)) t := fun t k => pre0 t (by
    show Steps p.tables e below (s₁.setTop (mkF m 0 #[.val (.ref a), .val (.int p1), .val (.int p2)] [])) _
    refine XS.aloadN X0.here hx rfl (hb hby d7_0) rfl rfl ?_
    exact k)
  obtain ⟨_, _, ⟨T181, L181, kc181, ks181⟩, -, X181, ⟨Lc181, hQ181, l181, y181, z181⟩, st181⟩ := X0.specialBack hx (y := (⟨"java/lang/Record", "<init>", "()V"⟩ : MethodName)) rfl hown (mvT hZ (hw _ (List.mem_of_getElem? (i := 39) rfl))) (mvT hZ (hw _ (List.mem_of_getElem? (i := 40) rfl))) (mvT hZ (hw _ (List.mem_of_getElem? (i := 43) rfl))) (by decide) (backOf (W := 0) (rm8 l Z a0 hw [] a h0 n0 Z0) hZ (hw _ (List.mem_of_getElem? (i := 43) rfl)) (hw _ (List.mem_of_getElem? (i := 42) rfl)) (by decide) (by decide)) (g := (mkF m 1 #[.val (.ref a), .val (.int p1), .val (.int p2)] [(.ref a)])) rfl (by rw [hml]; rfl) (Steps.refl _) (a := a) (argsL := []) (rest := []) (lenOf pd_0 rfl) rfl (by show 2 * 0 + _ ≤ _; exact Nat.le_of_eq rfl) (hb hby d7_1) (fun _ _ => ⟨rfl, e0, (by decide : 0 + 0 ≤ _), (by decide : 0 + 0 ≤ _)⟩)
  dsimp only [Pt.U, Pt.locs, Pt.cells, Pt.slots] at X181 l181 y181 z181 st181 hQ181
  subst l181 y181 z181
  obtain ⟨rfl, Nq181, eq181⟩ := hQ181
  have N181 := Fr.app N0 Nq181
  have k182 : ∀ t, Steps p.tables e below (T181.setTop (mkF m 4 #[.val (.ref a), .val (.int p1), .val (.int p2)] [])) t → Steps p.tables e below (s₁.setTop (entryFrame m #[(.ref a), (.int p1), (.int p2)] 3)) t := fun t k => k180 t (st181.trans k)
  have k183 : ∀ t, Steps p.tables e below (T181.setTop (mkF m 6 #[.val (.ref a), .val (.int p1), .val (.int p2)] [(.int p1), (.ref a)])) t → Steps p.tables e below (s₁.setTop (entryFrame m #[(.ref a), (.int p1), (.int p2)] 3)) t := fun t k => k182 t (by
    show Steps p.tables e below (T181.setTop (mkF m 4 #[.val (.ref a), .val (.int p1), .val (.int p2)] [])) _
    refine XS.aloadN X181.here hx rfl (hb hby d7_4) rfl rfl ?_
    show Steps p.tables e below (T181.setTop (mkF m 5 #[.val (.ref a), .val (.int p1), .val (.int p2)] [(.ref a)])) _
    refine XS.iloadN X181.here hx rfl (hb hby d7_5) rfl ?_
    exact k)
  obtain ⟨T184, h184, X184, e184, W184, st184⟩ := putF X181 hx hZ hown (host := "") (Or.inl (hw _ (List.mem_of_getElem? (i := 45) rfl))) Via.refl eq181 F1 Ea (Or.inr ⟨(hw _ (List.mem_of_getElem? (i := 46) rfl)), rfl, hnm⟩) (hw _ (List.mem_of_getElem? (i := 34) rfl)) (ty := .int) (by decide) rfl rfl (g := (mkF m 6 #[.val (.ref a), .val (.int p1), .val (.int p2)] [(.int p1), (.ref a)])) rfl rfl (hb hby d7_6)
  have N184 := Fr.snoc X184 N181 g_a
  have Z185 : n0 ≤ h184.size := Nat.le_trans Z0 (Nat.le_of_eq W184.size.symm)
  have K186 : Keep h0 h184 [a] := KR.wr W184 (Or.inl (List.mem_of_getElem? (i := 0) rfl))
  have F187 : Fld Z h184 a "com/example/pen_over_wire/penoverwire/model/FailedAttempts" "lockRecorded" "Z" (.int (0 : Int32)) := Fld.other W184 F2 (Or.inr (slot_ne (Or.inr (hw _ (List.mem_of_getElem? (i := 48) rfl))) (Or.inr (hw _ (List.mem_of_getElem? (i := 46) rfl))) (by decide) (t := .boolean) (t' := .int) (by decide) (by decide)))
  have F188 : Exa Z h184 a "com/example/pen_over_wire/penoverwire/model/FailedAttempts" := Exa.wr W184 Ea
  have F189 : Fld Z h184 a "com/example/pen_over_wire/penoverwire/model/FailedAttempts" "count" "I" (.int p1) := Fld.same W184 F1
  have k190 : ∀ t, Steps p.tables e below (T184.setTop (mkF m 9 #[.val (.ref a), .val (.int p1), .val (.int p2)] [])) t → Steps p.tables e below (s₁.setTop (entryFrame m #[(.ref a), (.int p1), (.int p2)] 3)) t := fun t k => k183 t (st184 t k)
  have k191 : ∀ t, Steps p.tables e below (T184.setTop (mkF m 11 #[.val (.ref a), .val (.int p1), .val (.int p2)] [(.int p2), (.ref a)])) t → Steps p.tables e below (s₁.setTop (entryFrame m #[(.ref a), (.int p1), (.int p2)] 3)) t := fun t k => k190 t (by
    show Steps p.tables e below (T184.setTop (mkF m 9 #[.val (.ref a), .val (.int p1), .val (.int p2)] [])) _
    refine XS.aloadN X184.here hx rfl (hb hby d7_9) rfl rfl ?_
    show Steps p.tables e below (T184.setTop (mkF m 10 #[.val (.ref a), .val (.int p1), .val (.int p2)] [(.ref a)])) _
    refine XS.iloadN X184.here hx rfl (hb hby d7_10) rfl ?_
    exact k)
  obtain ⟨T192, h192, X192, e192, W192, st192⟩ := putFN X184 hx hZ hown (hw _ (List.mem_of_getElem? (i := 47) rfl)) Via.refl e184 F187 F188 (Or.inr ⟨(hw _ (List.mem_of_getElem? (i := 48) rfl)), rfl, hnm⟩) (hw _ (List.mem_of_getElem? (i := 34) rfl)) (ty := .boolean) (v' := (Value.int p2)) (by decide) (own_nb hd).1 (own_nb hd).2 (g := (mkF m 11 #[.val (.ref a), .val (.int p1), .val (.int p2)] [(.int p2), (.ref a)])) rfl rfl (hb hby d7_11)
  have N192 := Fr.snoc X192 N184 g_a
  have Z193 : n0 ≤ h192.size := Nat.le_trans Z185 (Nat.le_of_eq W192.size.symm)
  have K194 : Keep h0 h192 [a] := K186.wr W192 (Or.inl (List.mem_of_getElem? (i := 0) rfl))
  have F195 : Exa Z h192 a "com/example/pen_over_wire/penoverwire/model/FailedAttempts" := Exa.wr W192 F188
  have F196 : Fld Z h192 a "com/example/pen_over_wire/penoverwire/model/FailedAttempts" "count" "I" (.int p1) := Fld.other W192 F189 (Or.inr (slot_ne (Or.inr (hw _ (List.mem_of_getElem? (i := 46) rfl))) (Or.inr (hw _ (List.mem_of_getElem? (i := 48) rfl))) (by decide) (t := .int) (t' := .boolean) (by decide) (by decide)))
  have F197 : Fld Z h192 a "com/example/pen_over_wire/penoverwire/model/FailedAttempts" "lockRecorded" "Z" (.int p2) := Fld.same W192 F187
  have k198 : ∀ t, Steps p.tables e below (T192.setTop (mkF m 14 #[.val (.ref a), .val (.int p1), .val (.int p2)] [])) t → Steps p.tables e below (s₁.setTop (entryFrame m #[(.ref a), (.int p1), (.int p2)] 3)) t := fun t k => k191 t (st192 t k)
  obtain ⟨fs, hr, hrun, hended, hW, hsame⟩ := X192.leave (v := none) (fun _ => rfl)
  refine ⟨_, _, k198 _ ?_, hrun, hended, _, _, rfl, ?_, ⟨_, rfl⟩, hW, hsame.mono (by decide) (by decide)⟩
  · show Steps p.tables e below (T192.setTop (mkF m 14 #[.val (.ref a), .val (.int p1), .val (.int p2)] [])) _
    exact X192.returnOut hx Bd.returns (hb hby d7_14) hr
  · show Q7 Z a p1 p2 h0 n0 _ T192.heap _
    rw [e192]
    exact ⟨rfl, N192, K194⟩
theorem d11_0 : decode prog_34_method_11_code 0 = .ok (.aload_n 0, 1) := by decide +kernel
theorem d11_1 : decode prog_34_method_11_code 1 = .ok (.getfield 7, 3) := by decide +kernel
theorem d11_4 : decode prog_34_method_11_code 4 = .ok (.areturn, 1) := by decide +kernel
theorem ef_11 (m : MethodId) (x0 : Addr) : entryFrame m #[(.ref x0)] 1 = mkF m 0 #[.val (.ref x0)] [] := by first | (simp [entryFrame, mkF, argsToLocals, Value.category]; done) | rfl
def Q11 (Z : State) (a : Addr) (v1 : Value) (h0 : Heap) (n0 : Nat) (v : Option Value) (h : Heap) (L : List Loc) : Prop := v = some v1 ∧ Fr n0 L ∧ h = h0
set_option maxRecDepth 65536 in
set_option maxHeartbeats 40000000 in
theorem rm11 (l : Launch) (Z : State) (a0 : Array Value) (hw : ∀ d ∈ tables_1, d.before a0 Z = true) (ws : List Jvm.Cond) (a : Addr) (v1 : Value) (h0 : Heap) (n0 : Nat) (Z0 : n0 ≤ h0.size) (r1 : v1.isRef = true) (F1 : Fld Z h0 a "com/example/pen_over_wire/penoverwire/model/User" "name" "Ljava/lang/String;" v1) :
    MetFree l (⟨"com/example/pen_over_wire/penoverwire/model/User", "name", "()Ljava/lang/String;"⟩ : MethodName) (head1 (Jvm.Cond.code (⟨"com/example/pen_over_wire/penoverwire/model/User", "name", "()Ljava/lang/String;"⟩ : MethodName) prog_34_method_11_code 1 (some (.object "java/lang/String")) :: ws) ({ frames := 0, cells := 0, slots := 0, locals := 0 } : Room)) (fun aa U => aa = #[(.ref a)] ∧ Z.Warmed39 U.vm ∧ U.heap = h0) (fun _ _ _ _ _ => True) (fun _ U o U' => ∃ v L, o = .returned v ∧ Q11 Z a v1 h0 n0 v U'.heap L ∧ FrameEnd U o U' L ({ frames := 0, cells := 0, slots := 0, locals := 0 } : Room).cells ({ frames := 0, cells := 0, slots := 0, locals := 0 } : Room).slots) := by
  refine MetFree.of_bodySF (plainFor_of_name pn_1) hisR ?_
  intro p e s m args below meth c s₁ Bd hml0 hP hK
  obtain ⟨rfl, hZ, hh⟩ := hP
  have hx := Bd.exec
  have hby := Bd.bytes
  have hml : c.maxLocals = 1 := hml0
  have hown : s.vm.findClass "com/example/pen_over_wire/penoverwire/model/User" = some m.cls := findClass_of_methodNamed Bd.named
  have hnm := (name_of_methodNamed Bd.named Bd.method).1
  have X0 : Stand p l e ({ frames := 0, cells := 0, slots := 0, locals := 0 } : Room) s m #[(.ref a)] below meth c s₁ [] 0 0 := Stand.of_body Bd
  have e0 : s₁.heap = h0 := by rw [← hh, Bd.state]; rfl
  have N0 := Fr.nil n0
  have pre0 : ∀ t, Steps p.tables e below (s₁.setTop (mkF m 0 #[.val (.ref a)] [])) t → Steps p.tables e below (s₁.setTop (entryFrame m #[(.ref a)] 1)) t := fun t k => castTop (ef_11 m a) k
  have k200 : ∀ t, Steps p.tables e below (s₁.setTop (mkF m 1 #[.val (.ref a)] [(.ref a)])) t → Steps p.tables e below (s₁.setTop (entryFrame m #[(.ref a)] 1)) t := fun t k => pre0 t (by
    show Steps p.tables e below (s₁.setTop (mkF m 0 #[.val (.ref a)] [])) _
    refine XS.aloadN X0.here hx rfl (hb hby d11_0) rfl rfl ?_
    exact k)
  obtain ⟨T201, X201, e201, st201⟩ := getF X0 hx hZ hown (host := "") (Or.inl (hw _ (List.mem_of_getElem? (i := 56) rfl))) Via.refl e0 F1 (g := (mkF m 1 #[.val (.ref a)] [(.ref a)])) rfl rfl (hb hby d11_1)
  have k202 : ∀ t, Steps p.tables e below (T201.setTop (mkF m 4 #[.val (.ref a)] [v1])) t → Steps p.tables e below (s₁.setTop (entryFrame m #[(.ref a)] 1)) t := fun t k => k200 t (st201 t k)
  obtain ⟨fs, hr, hrun, hended, hW, hsame⟩ := X201.leave (v := some v1) (fun h => by rw [Bd.returns] at h; cases h)
  refine ⟨_, _, k202 _ ?_, hrun, hended, _, _, rfl, ?_, ⟨_, rfl⟩, hW, hsame.mono (by decide) (by decide)⟩
  · show Steps p.tables e below (T201.setTop (mkF m 4 #[.val (.ref a)] [v1])) _
    exact retOut X201 hx Bd.returns (by rcases ref_cases (r1) with q | ⟨b, q⟩ <;> rw [q] <;> rfl) (Or.inr (Or.inr (Or.inr (Or.inr ⟨rfl, rfl, r1⟩)))) (hb hby d11_4) hr
  · show Q11 Z a v1 h0 n0 _ T201.heap _
    rw [e201]
    exact ⟨rfl, N0, rfl⟩
theorem d12_0 : decode prog_34_method_12_code 0 = .ok (.aload_n 0, 1) := by decide +kernel
theorem d12_1 : decode prog_34_method_12_code 1 = .ok (.getfield 13, 3) := by decide +kernel
theorem d12_4 : decode prog_34_method_12_code 4 = .ok (.areturn, 1) := by decide +kernel
theorem ef_12 (m : MethodId) (x0 : Addr) : entryFrame m #[(.ref x0)] 1 = mkF m 0 #[.val (.ref x0)] [] := by first | (simp [entryFrame, mkF, argsToLocals, Value.category]; done) | rfl
def Q12 (Z : State) (a : Addr) (v2 : Value) (h0 : Heap) (n0 : Nat) (v : Option Value) (h : Heap) (L : List Loc) : Prop := v = some v2 ∧ Fr n0 L ∧ h = h0
set_option maxRecDepth 65536 in
set_option maxHeartbeats 40000000 in
theorem rm12 (l : Launch) (Z : State) (a0 : Array Value) (hw : ∀ d ∈ tables_1, d.before a0 Z = true) (ws : List Jvm.Cond) (a : Addr) (v2 : Value) (h0 : Heap) (n0 : Nat) (Z0 : n0 ≤ h0.size) (r2 : v2.isRef = true) (F1 : Fld Z h0 a "com/example/pen_over_wire/penoverwire/model/User" "role" "Lcom/example/pen_over_wire/penoverwire/model/Role;" v2) :
    MetFree l (⟨"com/example/pen_over_wire/penoverwire/model/User", "role", "()Lcom/example/pen_over_wire/penoverwire/model/Role;"⟩ : MethodName) (head1 (Jvm.Cond.code (⟨"com/example/pen_over_wire/penoverwire/model/User", "role", "()Lcom/example/pen_over_wire/penoverwire/model/Role;"⟩ : MethodName) prog_34_method_12_code 1 (some (.object "com/example/pen_over_wire/penoverwire/model/Role")) :: ws) ({ frames := 0, cells := 0, slots := 0, locals := 0 } : Room)) (fun aa U => aa = #[(.ref a)] ∧ Z.Warmed39 U.vm ∧ U.heap = h0) (fun _ _ _ _ _ => True) (fun _ U o U' => ∃ v L, o = .returned v ∧ Q12 Z a v2 h0 n0 v U'.heap L ∧ FrameEnd U o U' L ({ frames := 0, cells := 0, slots := 0, locals := 0 } : Room).cells ({ frames := 0, cells := 0, slots := 0, locals := 0 } : Room).slots) := by
  refine MetFree.of_bodySF (plainFor_of_name pn_1) hisR ?_
  intro p e s m args below meth c s₁ Bd hml0 hP hK
  obtain ⟨rfl, hZ, hh⟩ := hP
  have hx := Bd.exec
  have hby := Bd.bytes
  have hml : c.maxLocals = 1 := hml0
  have hown : s.vm.findClass "com/example/pen_over_wire/penoverwire/model/User" = some m.cls := findClass_of_methodNamed Bd.named
  have hnm := (name_of_methodNamed Bd.named Bd.method).1
  have X0 : Stand p l e ({ frames := 0, cells := 0, slots := 0, locals := 0 } : Room) s m #[(.ref a)] below meth c s₁ [] 0 0 := Stand.of_body Bd
  have e0 : s₁.heap = h0 := by rw [← hh, Bd.state]; rfl
  have N0 := Fr.nil n0
  have pre0 : ∀ t, Steps p.tables e below (s₁.setTop (mkF m 0 #[.val (.ref a)] [])) t → Steps p.tables e below (s₁.setTop (entryFrame m #[(.ref a)] 1)) t := fun t k => castTop (ef_12 m a) k
  have k204 : ∀ t, Steps p.tables e below (s₁.setTop (mkF m 1 #[.val (.ref a)] [(.ref a)])) t → Steps p.tables e below (s₁.setTop (entryFrame m #[(.ref a)] 1)) t := fun t k => pre0 t (by
    show Steps p.tables e below (s₁.setTop (mkF m 0 #[.val (.ref a)] [])) _
    refine XS.aloadN X0.here hx rfl (hb hby d12_0) rfl rfl ?_
    exact k)
  obtain ⟨T205, X205, e205, st205⟩ := getF X0 hx hZ hown (host := "") (Or.inl (hw _ (List.mem_of_getElem? (i := 58) rfl))) Via.refl e0 F1 (g := (mkF m 1 #[.val (.ref a)] [(.ref a)])) rfl rfl (hb hby d12_1)
  have k206 : ∀ t, Steps p.tables e below (T205.setTop (mkF m 4 #[.val (.ref a)] [v2])) t → Steps p.tables e below (s₁.setTop (entryFrame m #[(.ref a)] 1)) t := fun t k => k204 t (st205 t k)
  obtain ⟨fs, hr, hrun, hended, hW, hsame⟩ := X205.leave (v := some v2) (fun h => by rw [Bd.returns] at h; cases h)
  refine ⟨_, _, k206 _ ?_, hrun, hended, _, _, rfl, ?_, ⟨_, rfl⟩, hW, hsame.mono (by decide) (by decide)⟩
  · show Steps p.tables e below (T205.setTop (mkF m 4 #[.val (.ref a)] [v2])) _
    exact retOut X205 hx Bd.returns (by rcases ref_cases (r2) with q | ⟨b, q⟩ <;> rw [q] <;> rfl) (Or.inr (Or.inr (Or.inr (Or.inr ⟨rfl, rfl, r2⟩)))) (hb hby d12_4) hr
  · show Q12 Z a v2 h0 n0 _ T205.heap _
    rw [e205]
    exact ⟨rfl, N0, rfl⟩
theorem d13_0 : decode prog_34_method_13_code 0 = .ok (.aload_n 0, 1) := by decide +kernel
theorem d13_1 : decode prog_34_method_13_code 1 = .ok (.getfield 17, 3) := by decide +kernel
theorem d13_4 : decode prog_34_method_13_code 4 = .ok (.areturn, 1) := by decide +kernel
theorem ef_13 (m : MethodId) (x0 : Addr) : entryFrame m #[(.ref x0)] 1 = mkF m 0 #[.val (.ref x0)] [] := by first | (simp [entryFrame, mkF, argsToLocals, Value.category]; done) | rfl
def Q13 (Z : State) (a : Addr) (v3 : Value) (h0 : Heap) (n0 : Nat) (v : Option Value) (h : Heap) (L : List Loc) : Prop := v = some v3 ∧ Fr n0 L ∧ h = h0
set_option maxRecDepth 65536 in
set_option maxHeartbeats 40000000 in
theorem rm13 (l : Launch) (Z : State) (a0 : Array Value) (hw : ∀ d ∈ tables_1, d.before a0 Z = true) (ws : List Jvm.Cond) (a : Addr) (v3 : Value) (h0 : Heap) (n0 : Nat) (Z0 : n0 ≤ h0.size) (r3 : v3.isRef = true) (F1 : Fld Z h0 a "com/example/pen_over_wire/penoverwire/model/User" "password" "Lcom/example/pen_over_wire/penoverwire/crypto/PasswordHash;" v3) :
    MetFree l (⟨"com/example/pen_over_wire/penoverwire/model/User", "password", "()Lcom/example/pen_over_wire/penoverwire/crypto/PasswordHash;"⟩ : MethodName) (head1 (Jvm.Cond.code (⟨"com/example/pen_over_wire/penoverwire/model/User", "password", "()Lcom/example/pen_over_wire/penoverwire/crypto/PasswordHash;"⟩ : MethodName) prog_34_method_13_code 1 (some (.object "com/example/pen_over_wire/penoverwire/crypto/PasswordHash")) :: ws) ({ frames := 0, cells := 0, slots := 0, locals := 0 } : Room)) (fun aa U => aa = #[(.ref a)] ∧ Z.Warmed39 U.vm ∧ U.heap = h0) (fun _ _ _ _ _ => True) (fun _ U o U' => ∃ v L, o = .returned v ∧ Q13 Z a v3 h0 n0 v U'.heap L ∧ FrameEnd U o U' L ({ frames := 0, cells := 0, slots := 0, locals := 0 } : Room).cells ({ frames := 0, cells := 0, slots := 0, locals := 0 } : Room).slots) := by
  refine MetFree.of_bodySF (plainFor_of_name pn_1) hisR ?_
  intro p e s m args below meth c s₁ Bd hml0 hP hK
  obtain ⟨rfl, hZ, hh⟩ := hP
  have hx := Bd.exec
  have hby := Bd.bytes
  have hml : c.maxLocals = 1 := hml0
  have hown : s.vm.findClass "com/example/pen_over_wire/penoverwire/model/User" = some m.cls := findClass_of_methodNamed Bd.named
  have hnm := (name_of_methodNamed Bd.named Bd.method).1
  have X0 : Stand p l e ({ frames := 0, cells := 0, slots := 0, locals := 0 } : Room) s m #[(.ref a)] below meth c s₁ [] 0 0 := Stand.of_body Bd
  have e0 : s₁.heap = h0 := by rw [← hh, Bd.state]; rfl
  have N0 := Fr.nil n0
  have pre0 : ∀ t, Steps p.tables e below (s₁.setTop (mkF m 0 #[.val (.ref a)] [])) t → Steps p.tables e below (s₁.setTop (entryFrame m #[(.ref a)] 1)) t := fun t k => castTop (ef_13 m a) k
  have k208 : ∀ t, Steps p.tables e below (s₁.setTop (mkF m 1 #[.val (.ref a)] [(.ref a)])) t → Steps p.tables e below (s₁.setTop (entryFrame m #[(.ref a)] 1)) t := fun t k => pre0 t (by
    show Steps p.tables e below (s₁.setTop (mkF m 0 #[.val (.ref a)] [])) _
    refine XS.aloadN X0.here hx rfl (hb hby d13_0) rfl rfl ?_
    exact k)
  obtain ⟨T209, X209, e209, st209⟩ := getF X0 hx hZ hown (host := "") (Or.inl (hw _ (List.mem_of_getElem? (i := 60) rfl))) Via.refl e0 F1 (g := (mkF m 1 #[.val (.ref a)] [(.ref a)])) rfl rfl (hb hby d13_1)
  have k210 : ∀ t, Steps p.tables e below (T209.setTop (mkF m 4 #[.val (.ref a)] [v3])) t → Steps p.tables e below (s₁.setTop (entryFrame m #[(.ref a)] 1)) t := fun t k => k208 t (st209 t k)
  obtain ⟨fs, hr, hrun, hended, hW, hsame⟩ := X209.leave (v := some v3) (fun h => by rw [Bd.returns] at h; cases h)
  refine ⟨_, _, k210 _ ?_, hrun, hended, _, _, rfl, ?_, ⟨_, rfl⟩, hW, hsame.mono (by decide) (by decide)⟩
  · show Steps p.tables e below (T209.setTop (mkF m 4 #[.val (.ref a)] [v3])) _
    exact retOut X209 hx Bd.returns (by rcases ref_cases (r3) with q | ⟨b, q⟩ <;> rw [q] <;> rfl) (Or.inr (Or.inr (Or.inr (Or.inr ⟨rfl, rfl, r3⟩)))) (hb hby d13_4) hr
  · show Q13 Z a v3 h0 n0 _ T209.heap _
    rw [e209]
    exact ⟨rfl, N0, rfl⟩
theorem d14_0 : decode prog_34_method_14_code 0 = .ok (.aload_n 0, 1) := by decide +kernel
theorem d14_1 : decode prog_34_method_14_code 1 = .ok (.getfield 21, 3) := by decide +kernel
theorem d14_4 : decode prog_34_method_14_code 4 = .ok (.areturn, 1) := by decide +kernel
theorem ef_14 (m : MethodId) (x0 : Addr) : entryFrame m #[(.ref x0)] 1 = mkF m 0 #[.val (.ref x0)] [] := by first | (simp [entryFrame, mkF, argsToLocals, Value.category]; done) | rfl
def Q14 (Z : State) (a : Addr) (v4 : Value) (h0 : Heap) (n0 : Nat) (v : Option Value) (h : Heap) (L : List Loc) : Prop := v = some v4 ∧ Fr n0 L ∧ h = h0
set_option maxRecDepth 65536 in
set_option maxHeartbeats 40000000 in
theorem rm14 (l : Launch) (Z : State) (a0 : Array Value) (hw : ∀ d ∈ tables_1, d.before a0 Z = true) (ws : List Jvm.Cond) (a : Addr) (v4 : Value) (h0 : Heap) (n0 : Nat) (Z0 : n0 ≤ h0.size) (r4 : v4.isRef = true) (F1 : Fld Z h0 a "com/example/pen_over_wire/penoverwire/model/User" "totpSecret" "[B" v4) :
    MetFree l (⟨"com/example/pen_over_wire/penoverwire/model/User", "totpSecret", "()[B"⟩ : MethodName) (head1 (Jvm.Cond.code (⟨"com/example/pen_over_wire/penoverwire/model/User", "totpSecret", "()[B"⟩ : MethodName) prog_34_method_14_code 1 (some (.array .byte)) :: ws) ({ frames := 0, cells := 0, slots := 0, locals := 0 } : Room)) (fun aa U => aa = #[(.ref a)] ∧ Z.Warmed39 U.vm ∧ U.heap = h0) (fun _ _ _ _ _ => True) (fun _ U o U' => ∃ v L, o = .returned v ∧ Q14 Z a v4 h0 n0 v U'.heap L ∧ FrameEnd U o U' L ({ frames := 0, cells := 0, slots := 0, locals := 0 } : Room).cells ({ frames := 0, cells := 0, slots := 0, locals := 0 } : Room).slots) := by
  refine MetFree.of_bodySF (plainFor_of_name pn_1) hisR ?_
  intro p e s m args below meth c s₁ Bd hml0 hP hK
  obtain ⟨rfl, hZ, hh⟩ := hP
  have hx := Bd.exec
  have hby := Bd.bytes
  have hml : c.maxLocals = 1 := hml0
  have hown : s.vm.findClass "com/example/pen_over_wire/penoverwire/model/User" = some m.cls := findClass_of_methodNamed Bd.named
  have hnm := (name_of_methodNamed Bd.named Bd.method).1
  have X0 : Stand p l e ({ frames := 0, cells := 0, slots := 0, locals := 0 } : Room) s m #[(.ref a)] below meth c s₁ [] 0 0 := Stand.of_body Bd
  have e0 : s₁.heap = h0 := by rw [← hh, Bd.state]; rfl
  have N0 := Fr.nil n0
  have pre0 : ∀ t, Steps p.tables e below (s₁.setTop (mkF m 0 #[.val (.ref a)] [])) t → Steps p.tables e below (s₁.setTop (entryFrame m #[(.ref a)] 1)) t := fun t k => castTop (ef_14 m a) k
  have k212 : ∀ t, Steps p.tables e below (s₁.setTop (mkF m 1 #[.val (.ref a)] [(.ref a)])) t → Steps p.tables e below (s₁.setTop (entryFrame m #[(.ref a)] 1)) t := fun t k => pre0 t (by
    show Steps p.tables e below (s₁.setTop (mkF m 0 #[.val (.ref a)] [])) _
    refine XS.aloadN X0.here hx rfl (hb hby d14_0) rfl rfl ?_
    exact k)
  obtain ⟨T213, X213, e213, st213⟩ := getF X0 hx hZ hown (host := "") (Or.inl (hw _ (List.mem_of_getElem? (i := 62) rfl))) Via.refl e0 F1 (g := (mkF m 1 #[.val (.ref a)] [(.ref a)])) rfl rfl (hb hby d14_1)
  have k214 : ∀ t, Steps p.tables e below (T213.setTop (mkF m 4 #[.val (.ref a)] [v4])) t → Steps p.tables e below (s₁.setTop (entryFrame m #[(.ref a)] 1)) t := fun t k => k212 t (st213 t k)
  obtain ⟨fs, hr, hrun, hended, hW, hsame⟩ := X213.leave (v := some v4) (fun h => by rw [Bd.returns] at h; cases h)
  refine ⟨_, _, k214 _ ?_, hrun, hended, _, _, rfl, ?_, ⟨_, rfl⟩, hW, hsame.mono (by decide) (by decide)⟩
  · show Steps p.tables e below (T213.setTop (mkF m 4 #[.val (.ref a)] [v4])) _
    exact retOut X213 hx Bd.returns (by rcases ref_cases (r4) with q | ⟨b, q⟩ <;> rw [q] <;> rfl) (Or.inr (Or.inr (Or.inr (Or.inr ⟨rfl, rfl, r4⟩)))) (hb hby d14_4) hr
  · show Q14 Z a v4 h0 n0 _ T213.heap _
    rw [e213]
    exact ⟨rfl, N0, rfl⟩
theorem d15_0 : decode prog_34_method_15_code 0 = .ok (.aload_n 0, 1) := by decide +kernel
theorem d15_1 : decode prog_34_method_15_code 1 = .ok (.getfield 25, 3) := by decide +kernel
theorem d15_4 : decode prog_34_method_15_code 4 = .ok (.lreturn, 1) := by decide +kernel
theorem ef_15 (m : MethodId) (x0 : Addr) : entryFrame m #[(.ref x0)] 1 = mkF m 0 #[.val (.ref x0)] [] := by first | (simp [entryFrame, mkF, argsToLocals, Value.category]; done) | rfl
def Q15 (Z : State) (a : Addr) (q5 : Int64) (h0 : Heap) (n0 : Nat) (v : Option Value) (h : Heap) (L : List Loc) : Prop := v = some (.long q5) ∧ Fr n0 L ∧ h = h0
set_option maxRecDepth 65536 in
set_option maxHeartbeats 40000000 in
theorem rm15 (l : Launch) (Z : State) (a0 : Array Value) (hw : ∀ d ∈ tables_1, d.before a0 Z = true) (ws : List Jvm.Cond) (a : Addr) (q5 : Int64) (h0 : Heap) (n0 : Nat) (Z0 : n0 ≤ h0.size) (F1 : Fld Z h0 a "com/example/pen_over_wire/penoverwire/model/User" "lastOtpStep" "J" (.long q5)) :
    MetFree l (⟨"com/example/pen_over_wire/penoverwire/model/User", "lastOtpStep", "()J"⟩ : MethodName) (head1 (Jvm.Cond.code (⟨"com/example/pen_over_wire/penoverwire/model/User", "lastOtpStep", "()J"⟩ : MethodName) prog_34_method_15_code 1 (some .long) :: ws) ({ frames := 0, cells := 0, slots := 0, locals := 0 } : Room)) (fun aa U => aa = #[(.ref a)] ∧ Z.Warmed39 U.vm ∧ U.heap = h0) (fun _ _ _ _ _ => True) (fun _ U o U' => ∃ v L, o = .returned v ∧ Q15 Z a q5 h0 n0 v U'.heap L ∧ FrameEnd U o U' L ({ frames := 0, cells := 0, slots := 0, locals := 0 } : Room).cells ({ frames := 0, cells := 0, slots := 0, locals := 0 } : Room).slots) := by
  refine MetFree.of_bodySF (plainFor_of_name pn_1) hisR ?_
  intro p e s m args below meth c s₁ Bd hml0 hP hK
  obtain ⟨rfl, hZ, hh⟩ := hP
  have hx := Bd.exec
  have hby := Bd.bytes
  have hml : c.maxLocals = 1 := hml0
  have hown : s.vm.findClass "com/example/pen_over_wire/penoverwire/model/User" = some m.cls := findClass_of_methodNamed Bd.named
  have hnm := (name_of_methodNamed Bd.named Bd.method).1
  have X0 : Stand p l e ({ frames := 0, cells := 0, slots := 0, locals := 0 } : Room) s m #[(.ref a)] below meth c s₁ [] 0 0 := Stand.of_body Bd
  have e0 : s₁.heap = h0 := by rw [← hh, Bd.state]; rfl
  have N0 := Fr.nil n0
  have pre0 : ∀ t, Steps p.tables e below (s₁.setTop (mkF m 0 #[.val (.ref a)] [])) t → Steps p.tables e below (s₁.setTop (entryFrame m #[(.ref a)] 1)) t := fun t k => castTop (ef_15 m a) k
  have k216 : ∀ t, Steps p.tables e below (s₁.setTop (mkF m 1 #[.val (.ref a)] [(.ref a)])) t → Steps p.tables e below (s₁.setTop (entryFrame m #[(.ref a)] 1)) t := fun t k => pre0 t (by
    show Steps p.tables e below (s₁.setTop (mkF m 0 #[.val (.ref a)] [])) _
    refine XS.aloadN X0.here hx rfl (hb hby d15_0) rfl rfl ?_
    exact k)
  obtain ⟨T217, X217, e217, st217⟩ := getF X0 hx hZ hown (host := "") (Or.inl (hw _ (List.mem_of_getElem? (i := 64) rfl))) Via.refl e0 F1 (g := (mkF m 1 #[.val (.ref a)] [(.ref a)])) rfl rfl (hb hby d15_1)
  have k218 : ∀ t, Steps p.tables e below (T217.setTop (mkF m 4 #[.val (.ref a)] [(.long q5)])) t → Steps p.tables e below (s₁.setTop (entryFrame m #[(.ref a)] 1)) t := fun t k => k216 t (st217 t k)
  obtain ⟨fs, hr, hrun, hended, hW, hsame⟩ := X217.leave (v := some (.long q5)) (fun h => by rw [Bd.returns] at h; cases h)
  refine ⟨_, _, k218 _ ?_, hrun, hended, _, _, rfl, ?_, ⟨_, rfl⟩, hW, hsame.mono (by decide) (by decide)⟩
  · show Steps p.tables e below (T217.setTop (mkF m 4 #[.val (.ref a)] [(.long q5)])) _
    exact retOut X217 hx Bd.returns rfl (Or.inr (Or.inl ⟨rfl, rfl, _, rfl⟩)) (hb hby d15_4) hr
  · show Q15 Z a q5 h0 n0 _ T217.heap _
    rw [e217]
    exact ⟨rfl, N0, rfl⟩
theorem d16_0 : decode prog_34_method_16_code 0 = .ok (.aload_n 0, 1) := by decide +kernel
theorem d16_1 : decode prog_34_method_16_code 1 = .ok (.getfield 29, 3) := by decide +kernel
theorem d16_4 : decode prog_34_method_16_code 4 = .ok (.areturn, 1) := by decide +kernel
theorem ef_16 (m : MethodId) (x0 : Addr) : entryFrame m #[(.ref x0)] 1 = mkF m 0 #[.val (.ref x0)] [] := by first | (simp [entryFrame, mkF, argsToLocals, Value.category]; done) | rfl
def Q16 (Z : State) (a : Addr) (v6 : Value) (h0 : Heap) (n0 : Nat) (v : Option Value) (h : Heap) (L : List Loc) : Prop := v = some v6 ∧ Fr n0 L ∧ h = h0
set_option maxRecDepth 65536 in
set_option maxHeartbeats 40000000 in
theorem rm16 (l : Launch) (Z : State) (a0 : Array Value) (hw : ∀ d ∈ tables_1, d.before a0 Z = true) (ws : List Jvm.Cond) (a : Addr) (v6 : Value) (h0 : Heap) (n0 : Nat) (Z0 : n0 ≤ h0.size) (r6 : v6.isRef = true) (F1 : Fld Z h0 a "com/example/pen_over_wire/penoverwire/model/User" "failedLogins" "Lcom/example/pen_over_wire/penoverwire/model/FailedAttempts;" v6) :
    MetFree l (⟨"com/example/pen_over_wire/penoverwire/model/User", "failedLogins", "()Lcom/example/pen_over_wire/penoverwire/model/FailedAttempts;"⟩ : MethodName) (head1 (Jvm.Cond.code (⟨"com/example/pen_over_wire/penoverwire/model/User", "failedLogins", "()Lcom/example/pen_over_wire/penoverwire/model/FailedAttempts;"⟩ : MethodName) prog_34_method_16_code 1 (some (.object "com/example/pen_over_wire/penoverwire/model/FailedAttempts")) :: ws) ({ frames := 0, cells := 0, slots := 0, locals := 0 } : Room)) (fun aa U => aa = #[(.ref a)] ∧ Z.Warmed39 U.vm ∧ U.heap = h0) (fun _ _ _ _ _ => True) (fun _ U o U' => ∃ v L, o = .returned v ∧ Q16 Z a v6 h0 n0 v U'.heap L ∧ FrameEnd U o U' L ({ frames := 0, cells := 0, slots := 0, locals := 0 } : Room).cells ({ frames := 0, cells := 0, slots := 0, locals := 0 } : Room).slots) := by
  refine MetFree.of_bodySF (plainFor_of_name pn_1) hisR ?_
  intro p e s m args below meth c s₁ Bd hml0 hP hK
  obtain ⟨rfl, hZ, hh⟩ := hP
  have hx := Bd.exec
  have hby := Bd.bytes
  have hml : c.maxLocals = 1 := hml0
  have hown : s.vm.findClass "com/example/pen_over_wire/penoverwire/model/User" = some m.cls := findClass_of_methodNamed Bd.named
  have hnm := (name_of_methodNamed Bd.named Bd.method).1
  have X0 : Stand p l e ({ frames := 0, cells := 0, slots := 0, locals := 0 } : Room) s m #[(.ref a)] below meth c s₁ [] 0 0 := Stand.of_body Bd
  have e0 : s₁.heap = h0 := by rw [← hh, Bd.state]; rfl
  have N0 := Fr.nil n0
  have pre0 : ∀ t, Steps p.tables e below (s₁.setTop (mkF m 0 #[.val (.ref a)] [])) t → Steps p.tables e below (s₁.setTop (entryFrame m #[(.ref a)] 1)) t := fun t k => castTop (ef_16 m a) k
  have k220 : ∀ t, Steps p.tables e below (s₁.setTop (mkF m 1 #[.val (.ref a)] [(.ref a)])) t → Steps p.tables e below (s₁.setTop (entryFrame m #[(.ref a)] 1)) t := fun t k => pre0 t (by
    show Steps p.tables e below (s₁.setTop (mkF m 0 #[.val (.ref a)] [])) _
    refine XS.aloadN X0.here hx rfl (hb hby d16_0) rfl rfl ?_
    exact k)
  obtain ⟨T221, X221, e221, st221⟩ := getF X0 hx hZ hown (host := "") (Or.inl (hw _ (List.mem_of_getElem? (i := 66) rfl))) Via.refl e0 F1 (g := (mkF m 1 #[.val (.ref a)] [(.ref a)])) rfl rfl (hb hby d16_1)
  have k222 : ∀ t, Steps p.tables e below (T221.setTop (mkF m 4 #[.val (.ref a)] [v6])) t → Steps p.tables e below (s₁.setTop (entryFrame m #[(.ref a)] 1)) t := fun t k => k220 t (st221 t k)
  obtain ⟨fs, hr, hrun, hended, hW, hsame⟩ := X221.leave (v := some v6) (fun h => by rw [Bd.returns] at h; cases h)
  refine ⟨_, _, k222 _ ?_, hrun, hended, _, _, rfl, ?_, ⟨_, rfl⟩, hW, hsame.mono (by decide) (by decide)⟩
  · show Steps p.tables e below (T221.setTop (mkF m 4 #[.val (.ref a)] [v6])) _
    exact retOut X221 hx Bd.returns (by rcases ref_cases (r6) with q | ⟨b, q⟩ <;> rw [q] <;> rfl) (Or.inr (Or.inr (Or.inr (Or.inr ⟨rfl, rfl, r6⟩)))) (hb hby d16_4) hr
  · show Q16 Z a v6 h0 n0 _ T221.heap _
    rw [e221]
    exact ⟨rfl, N0, rfl⟩
theorem d17_0 : decode prog_34_method_17_code 0 = .ok (.aload_n 0, 1) := by decide +kernel
theorem d17_1 : decode prog_34_method_17_code 1 = .ok (.getfield 33, 3) := by decide +kernel
theorem d17_4 : decode prog_34_method_17_code 4 = .ok (.ireturn, 1) := by decide +kernel
theorem ef_17 (m : MethodId) (x0 : Addr) : entryFrame m #[(.ref x0)] 1 = mkF m 0 #[.val (.ref x0)] [] := by first | (simp [entryFrame, mkF, argsToLocals, Value.category]; done) | rfl
def Q17 (Z : State) (a : Addr) (d7 : Int32) (h0 : Heap) (n0 : Nat) (v : Option Value) (h : Heap) (L : List Loc) : Prop := v = some (.int d7) ∧ Fr n0 L ∧ h = h0
set_option maxRecDepth 65536 in
set_option maxHeartbeats 40000000 in
theorem rm17 (l : Launch) (Z : State) (a0 : Array Value) (hw : ∀ d ∈ tables_1, d.before a0 Z = true) (ws : List Jvm.Cond) (a : Addr) (d7 : Int32) (h0 : Heap) (n0 : Nat) (Z0 : n0 ≤ h0.size) (hd7 : d7 = 0 ∨ d7 = 1) (F1 : Fld Z h0 a "com/example/pen_over_wire/penoverwire/model/User" "disabled" "Z" (.int d7)) :
    MetFree l (⟨"com/example/pen_over_wire/penoverwire/model/User", "disabled", "()Z"⟩ : MethodName) (head1 (Jvm.Cond.code (⟨"com/example/pen_over_wire/penoverwire/model/User", "disabled", "()Z"⟩ : MethodName) prog_34_method_17_code 1 (some .boolean) :: ws) ({ frames := 0, cells := 0, slots := 0, locals := 0 } : Room)) (fun aa U => aa = #[(.ref a)] ∧ Z.Warmed39 U.vm ∧ U.heap = h0) (fun _ _ _ _ _ => True) (fun _ U o U' => ∃ v L, o = .returned v ∧ Q17 Z a d7 h0 n0 v U'.heap L ∧ FrameEnd U o U' L ({ frames := 0, cells := 0, slots := 0, locals := 0 } : Room).cells ({ frames := 0, cells := 0, slots := 0, locals := 0 } : Room).slots) := by
  refine MetFree.of_bodySF (plainFor_of_name pn_1) hisR ?_
  intro p e s m args below meth c s₁ Bd hml0 hP hK
  obtain ⟨rfl, hZ, hh⟩ := hP
  have hx := Bd.exec
  have hby := Bd.bytes
  have hml : c.maxLocals = 1 := hml0
  have hown : s.vm.findClass "com/example/pen_over_wire/penoverwire/model/User" = some m.cls := findClass_of_methodNamed Bd.named
  have hnm := (name_of_methodNamed Bd.named Bd.method).1
  have X0 : Stand p l e ({ frames := 0, cells := 0, slots := 0, locals := 0 } : Room) s m #[(.ref a)] below meth c s₁ [] 0 0 := Stand.of_body Bd
  have e0 : s₁.heap = h0 := by rw [← hh, Bd.state]; rfl
  have N0 := Fr.nil n0
  have pre0 : ∀ t, Steps p.tables e below (s₁.setTop (mkF m 0 #[.val (.ref a)] [])) t → Steps p.tables e below (s₁.setTop (entryFrame m #[(.ref a)] 1)) t := fun t k => castTop (ef_17 m a) k
  have k224 : ∀ t, Steps p.tables e below (s₁.setTop (mkF m 1 #[.val (.ref a)] [(.ref a)])) t → Steps p.tables e below (s₁.setTop (entryFrame m #[(.ref a)] 1)) t := fun t k => pre0 t (by
    show Steps p.tables e below (s₁.setTop (mkF m 0 #[.val (.ref a)] [])) _
    refine XS.aloadN X0.here hx rfl (hb hby d17_0) rfl rfl ?_
    exact k)
  obtain ⟨T225, X225, e225, st225⟩ := getF X0 hx hZ hown (host := "") (Or.inl (hw _ (List.mem_of_getElem? (i := 68) rfl))) Via.refl e0 F1 (g := (mkF m 1 #[.val (.ref a)] [(.ref a)])) rfl rfl (hb hby d17_1)
  have k226 : ∀ t, Steps p.tables e below (T225.setTop (mkF m 4 #[.val (.ref a)] [(.int d7)])) t → Steps p.tables e below (s₁.setTop (entryFrame m #[(.ref a)] 1)) t := fun t k => k224 t (st225 t k)
  obtain ⟨fs, hr, hrun, hended, hW, hsame⟩ := X225.leave (v := some (.int d7)) (fun h => by rw [Bd.returns] at h; cases h)
  refine ⟨_, _, k226 _ ?_, hrun, hended, _, _, rfl, ?_, ⟨_, rfl⟩, hW, hsame.mono (by decide) (by decide)⟩
  · show Steps p.tables e below (T225.setTop (mkF m 4 #[.val (.ref a)] [(.int d7)])) _
    exact retN X225 hx (t := .boolean) Bd.returns (by simp) (hb hby d17_4) (by rw [((by rcases hd7 with rfl | rfl <;> rfl) : nar .boolean d7 = d7)]; exact hr)
  · show Q17 Z a d7 h0 n0 _ T225.heap _
    rw [e225]
    exact ⟨rfl, N0, rfl⟩
theorem d18_0 : decode prog_34_method_18_code 0 = .ok (.aload_n 0, 1) := by decide +kernel
theorem d18_1 : decode prog_34_method_18_code 1 = .ok (.getfield 37, 3) := by decide +kernel
theorem d18_4 : decode prog_34_method_18_code 4 = .ok (.lreturn, 1) := by decide +kernel
theorem ef_18 (m : MethodId) (x0 : Addr) : entryFrame m #[(.ref x0)] 1 = mkF m 0 #[.val (.ref x0)] [] := by first | (simp [entryFrame, mkF, argsToLocals, Value.category]; done) | rfl
def Q18 (Z : State) (a : Addr) (q8 : Int64) (h0 : Heap) (n0 : Nat) (v : Option Value) (h : Heap) (L : List Loc) : Prop := v = some (.long q8) ∧ Fr n0 L ∧ h = h0
set_option maxRecDepth 65536 in
set_option maxHeartbeats 40000000 in
theorem rm18 (l : Launch) (Z : State) (a0 : Array Value) (hw : ∀ d ∈ tables_1, d.before a0 Z = true) (ws : List Jvm.Cond) (a : Addr) (q8 : Int64) (h0 : Heap) (n0 : Nat) (Z0 : n0 ≤ h0.size) (F1 : Fld Z h0 a "com/example/pen_over_wire/penoverwire/model/User" "sessionEpoch" "J" (.long q8)) :
    MetFree l (⟨"com/example/pen_over_wire/penoverwire/model/User", "sessionEpoch", "()J"⟩ : MethodName) (head1 (Jvm.Cond.code (⟨"com/example/pen_over_wire/penoverwire/model/User", "sessionEpoch", "()J"⟩ : MethodName) prog_34_method_18_code 1 (some .long) :: ws) ({ frames := 0, cells := 0, slots := 0, locals := 0 } : Room)) (fun aa U => aa = #[(.ref a)] ∧ Z.Warmed39 U.vm ∧ U.heap = h0) (fun _ _ _ _ _ => True) (fun _ U o U' => ∃ v L, o = .returned v ∧ Q18 Z a q8 h0 n0 v U'.heap L ∧ FrameEnd U o U' L ({ frames := 0, cells := 0, slots := 0, locals := 0 } : Room).cells ({ frames := 0, cells := 0, slots := 0, locals := 0 } : Room).slots) := by
  refine MetFree.of_bodySF (plainFor_of_name pn_1) hisR ?_
  intro p e s m args below meth c s₁ Bd hml0 hP hK
  obtain ⟨rfl, hZ, hh⟩ := hP
  have hx := Bd.exec
  have hby := Bd.bytes
  have hml : c.maxLocals = 1 := hml0
  have hown : s.vm.findClass "com/example/pen_over_wire/penoverwire/model/User" = some m.cls := findClass_of_methodNamed Bd.named
  have hnm := (name_of_methodNamed Bd.named Bd.method).1
  have X0 : Stand p l e ({ frames := 0, cells := 0, slots := 0, locals := 0 } : Room) s m #[(.ref a)] below meth c s₁ [] 0 0 := Stand.of_body Bd
  have e0 : s₁.heap = h0 := by rw [← hh, Bd.state]; rfl
  have N0 := Fr.nil n0
  have pre0 : ∀ t, Steps p.tables e below (s₁.setTop (mkF m 0 #[.val (.ref a)] [])) t → Steps p.tables e below (s₁.setTop (entryFrame m #[(.ref a)] 1)) t := fun t k => castTop (ef_18 m a) k
  have k228 : ∀ t, Steps p.tables e below (s₁.setTop (mkF m 1 #[.val (.ref a)] [(.ref a)])) t → Steps p.tables e below (s₁.setTop (entryFrame m #[(.ref a)] 1)) t := fun t k => pre0 t (by
    show Steps p.tables e below (s₁.setTop (mkF m 0 #[.val (.ref a)] [])) _
    refine XS.aloadN X0.here hx rfl (hb hby d18_0) rfl rfl ?_
    exact k)
  obtain ⟨T229, X229, e229, st229⟩ := getF X0 hx hZ hown (host := "") (Or.inl (hw _ (List.mem_of_getElem? (i := 70) rfl))) Via.refl e0 F1 (g := (mkF m 1 #[.val (.ref a)] [(.ref a)])) rfl rfl (hb hby d18_1)
  have k230 : ∀ t, Steps p.tables e below (T229.setTop (mkF m 4 #[.val (.ref a)] [(.long q8)])) t → Steps p.tables e below (s₁.setTop (entryFrame m #[(.ref a)] 1)) t := fun t k => k228 t (st229 t k)
  obtain ⟨fs, hr, hrun, hended, hW, hsame⟩ := X229.leave (v := some (.long q8)) (fun h => by rw [Bd.returns] at h; cases h)
  refine ⟨_, _, k230 _ ?_, hrun, hended, _, _, rfl, ?_, ⟨_, rfl⟩, hW, hsame.mono (by decide) (by decide)⟩
  · show Steps p.tables e below (T229.setTop (mkF m 4 #[.val (.ref a)] [(.long q8)])) _
    exact retOut X229 hx Bd.returns rfl (Or.inr (Or.inl ⟨rfl, rfl, _, rfl⟩)) (hb hby d18_4) hr
  · show Q18 Z a q8 h0 n0 _ T229.heap _
    rw [e229]
    exact ⟨rfl, N0, rfl⟩
theorem pn_3 : plainName "com/example/pen_over_wire/penoverwire/model/UserDisablePinLaw" = true := by first | (simp [plainName, overriddenIn]; done) | decide +kernel
theorem pd_2 : parseMethodDescriptor "([C)V" = some ⟨[(.array .char)], none⟩ := by decide +kernel
theorem pd_3 : parseMethodDescriptor "(IZ)V" = some ⟨[.int, .boolean], none⟩ := by decide +kernel
theorem pd_4 : parseMethodDescriptor "()Lcom/example/pen_over_wire/penoverwire/model/User;" = some ⟨[], some (.object "com/example/pen_over_wire/penoverwire/model/User")⟩ := by decide +kernel
theorem pd_5 : parseMethodDescriptor "()Ljava/lang/String;" = some ⟨[], some (.object "java/lang/String")⟩ := by decide +kernel
theorem pd_6 : parseMethodDescriptor "()Lcom/example/pen_over_wire/penoverwire/model/Role;" = some ⟨[], some (.object "com/example/pen_over_wire/penoverwire/model/Role")⟩ := by decide +kernel
theorem pd_7 : parseMethodDescriptor "()Lcom/example/pen_over_wire/penoverwire/crypto/PasswordHash;" = some ⟨[], some (.object "com/example/pen_over_wire/penoverwire/crypto/PasswordHash")⟩ := by decide +kernel
theorem pd_8 : parseMethodDescriptor "()[B" = some ⟨[], some (.array .byte)⟩ := by decide +kernel
theorem pd_9 : parseMethodDescriptor "()J" = some ⟨[], some .long⟩ := by decide +kernel
theorem pd_10 : parseMethodDescriptor "()Lcom/example/pen_over_wire/penoverwire/model/FailedAttempts;" = some ⟨[], some (.object "com/example/pen_over_wire/penoverwire/model/FailedAttempts")⟩ := by decide +kernel
theorem pd_11 : parseMethodDescriptor "()Z" = some ⟨[], some .boolean⟩ := by decide +kernel
theorem ef_0 (m : MethodId) (x0 : Int32) (x1 : Int32) (x2 : Int64) (x3 : Int32) (x4 : Int64) : entryFrame m #[(.int x0), (.int x1), (.long x2), (.int x3), (.long x4)] maxLocals = mkF m 0 #[.val (.int x0), .val (.int x1), .val (.long x2), .second, .val (.int x3), .val (.long x4), .second, .unset, .unset, .unset, .unset, .unset, .unset, .unset, .unset, .unset, .unset] [] := by first | (simp [entryFrame, mkF, argsToLocals, Value.category, maxLocals]; done) | rfl
def Q0 (Z : State) (p0 : Int32) (p1 : Int32) (p2 : Int64) (p3 : Int32) (p4 : Int64) (G1 : Int32) (aS : Addr) (aA : Addr) (aU : Addr) (h0 : Heap) (n0 : Nat) (v : Option Value) (h : Heap) (L : List Loc) : Prop := v = some (.int 1) ∧ Fr n0 L
set_option maxRecDepth 65536 in
set_option maxHeartbeats 40000000 in
theorem rm0 (l : Launch) (Z : State) (a0 : Array Value) (hw : ∀ d ∈ tables_1, d.before a0 Z = true) (ws : List Jvm.Cond) (p0 : Int32) (p1 : Int32) (p2 : Int64) (p3 : Int32) (p4 : Int64) (G1 : Int32) (aS : Addr) (aA : Addr) (aU : Addr) (h0 : Heap) (n0 : Nat) (Z0 : n0 ≤ h0.size) (O0 : Old Z n0 h0) (O2 : Sta Z Z.heap "java/lang/String" "COMPACT_STRINGS" "Z" (.int G1)) (P5 : ¬ (G1 = (0 : Int32))) (S_aS : Sta Z Z.heap "com/example/pen_over_wire/penoverwire/model/Role" "SIGNER" "Lcom/example/pen_over_wire/penoverwire/model/Role;" (.ref aS)) (S_aA : Sta Z Z.heap "com/example/pen_over_wire/penoverwire/model/Role" "ADMIN" "Lcom/example/pen_over_wire/penoverwire/model/Role;" (.ref aA)) (S_aU : Sta Z Z.heap "com/example/pen_over_wire/penoverwire/model/Role" "AUDITOR" "Lcom/example/pen_over_wire/penoverwire/model/Role;" (.ref aU)) :
    MetFree l x (head1 (Jvm.Cond.code x code maxLocals ret :: ws) room_1) (fun aa U => aa = #[(.int p0), (.int p1), (.long p2), (.int p3), (.long p4)] ∧ Z.Warmed39 U.vm ∧ U.heap = h0) (fun _ _ _ _ _ => True) (fun _ U o U' => ∃ v L, o = .returned v ∧ Q0 Z p0 p1 p2 p3 p4 G1 aS aA aU h0 n0 v U'.heap L ∧ FrameEnd U o U' L room_1.cells room_1.slots) := by
  refine MetFree.of_bodySF (plainFor_of_name pn_3) hisR ?_
  intro p e s m args below meth c s₁ Bd hml0 hP hK
  obtain ⟨rfl, hZ, hh⟩ := hP
  have hx := Bd.exec
  have hby := Bd.bytes
  have hml : c.maxLocals = 17 := hml0
  have hown : s.vm.findClass "com/example/pen_over_wire/penoverwire/model/UserDisablePinLaw" = some m.cls := findClass_of_methodNamed Bd.named
  have hnm := (name_of_methodNamed Bd.named Bd.method).1
  have X0 : Stand p l e room_1 s m #[(.int p0), (.int p1), (.long p2), (.int p3), (.long p4)] below meth c s₁ [] 0 0 := Stand.of_body Bd
  have e0 : s₁.heap = h0 := by rw [← hh, Bd.state]; rfl
  have N0 := Fr.nil n0
  have pre0 : ∀ t, Steps p.tables e below (s₁.setTop (mkF m 0 #[.val (.int p0), .val (.int p1), .val (.long p2), .second, .val (.int p3), .val (.long p4), .second, .unset, .unset, .unset, .unset, .unset, .unset, .unset, .unset, .unset, .unset] [])) t → Steps p.tables e below (s₁.setTop (entryFrame m #[(.int p0), (.int p1), (.long p2), (.int p3), (.long p4)] maxLocals)) t := fun t k => castTop (ef_0 m p0 p1 p2 p3 p4) k
  have k232 : ∀ t, Steps p.tables e below (s₁.setTop (mkF m 1 #[.val (.int p0), .val (.int p1), .val (.long p2), .second, .val (.int p3), .val (.long p4), .second, .unset, .unset, .unset, .unset, .unset, .unset, .unset, .unset, .unset, .unset] [(.int (2 : Int32))])) t → Steps p.tables e below (s₁.setTop (entryFrame m #[(.int p0), (.int p1), (.long p2), (.int p3), (.long p4)] maxLocals)) t := fun t k => pre0 t (by
    show Steps p.tables e below (s₁.setTop (mkF m 0 #[.val (.int p0), .val (.int p1), .val (.long p2), .second, .val (.int p3), .val (.long p4), .second, .unset, .unset, .unset, .unset, .unset, .unset, .unset, .unset, .unset, .unset] [])) _
    refine XS.iconst X0.here hx rfl (hb hby at_0) ?_
    exact k)
  obtain ⟨T233, h233, c233, X233, e233, E233, A233, st233⟩ := newP X0 hx hZ (hw _ (List.mem_of_getElem? (i := 0) rfl)) e0 (g := (mkF m 1 #[.val (.int p0), .val (.int p1), .val (.long p2), .second, .val (.int p3), .val (.long p4), .second, .unset, .unset, .unset, .unset, .unset, .unset, .unset, .unset, .unset, .unset] [(.int (2 : Int32))])) rfl (hb hby at_1) rfl (by decide) (cap := 2) (by decide) (by decide) (by decide) (by decide)
  obtain ⟨b233, g233⟩ : ∃ z, z = h0.size := ⟨_, rfl⟩
  rw [← g233] at A233 st233
  have g_b233 : n0 ≤ b233 := Nat.le_trans Z0 (Nat.le_of_eq g233.symm)
  have Z234 : n0 ≤ h233.size := Nat.le_trans Z0 E233.1
  have F235 : Old Z n0 h233 := Old.ext O0 E233
  have V233 : Arv Z h233 b233 c233 .char (2 : Int32) [(.int (0 : Int32)), (.int (0 : Int32))] (.int (0 : Int32)) := (Arv.new A233 (by decide)).pad (pad_rep [] (.int (0 : Int32)) 2)
  have k236 : ∀ t, Steps p.tables e below (T233.setTop (mkF m 3 #[.val (.int p0), .val (.int p1), .val (.long p2), .second, .val (.int p3), .val (.long p4), .second, .unset, .unset, .unset, .unset, .unset, .unset, .unset, .unset, .unset, .unset] [(.ref b233)])) t → Steps p.tables e below (s₁.setTop (entryFrame m #[(.int p0), (.int p1), (.long p2), (.int p3), (.long p4)] maxLocals)) t := fun t k => k232 t (st233 t k)
  have k237 : ∀ t, Steps p.tables e below (T233.setTop (mkF m 14 #[.val (.int p0), .val (.int p1), .val (.long p2), .second, .val (.int p3), .val (.long p4), .second, .val (.ref b233), .unset, .unset, .unset, .unset, .unset, .unset, .unset, .unset, .unset] [(.int ((p0 &&& (255 : Int32)).toUInt32.toUInt16.toUInt32.toInt32)), (.int (0 : Int32)), (.ref b233)])) t → Steps p.tables e below (s₁.setTop (entryFrame m #[(.int p0), (.int p1), (.long p2), (.int p3), (.long p4)] maxLocals)) t := fun t k => k236 t (by
    show Steps p.tables e below (T233.setTop (mkF m 3 #[.val (.int p0), .val (.int p1), .val (.long p2), .second, .val (.int p3), .val (.long p4), .second, .unset, .unset, .unset, .unset, .unset, .unset, .unset, .unset, .unset, .unset] [(.ref b233)])) _
    refine XS.astore X233.here hx rfl (hb hby at_3) rfl rfl (l' := #[.val (.int p0), .val (.int p1), .val (.long p2), .second, .val (.int p3), .val (.long p4), .second, .val (.ref b233), .unset, .unset, .unset, .unset, .unset, .unset, .unset, .unset, .unset]) rfl ?_
    show Steps p.tables e below (T233.setTop (mkF m 5 #[.val (.int p0), .val (.int p1), .val (.long p2), .second, .val (.int p3), .val (.long p4), .second, .val (.ref b233), .unset, .unset, .unset, .unset, .unset, .unset, .unset, .unset, .unset] [])) _
    refine XS.aload X233.here hx rfl (hb hby at_5) rfl rfl ?_
    show Steps p.tables e below (T233.setTop (mkF m 7 #[.val (.int p0), .val (.int p1), .val (.long p2), .second, .val (.int p3), .val (.long p4), .second, .val (.ref b233), .unset, .unset, .unset, .unset, .unset, .unset, .unset, .unset, .unset] [(.ref b233)])) _
    refine XS.iconst X233.here hx rfl (hb hby at_7) ?_
    show Steps p.tables e below (T233.setTop (mkF m 8 #[.val (.int p0), .val (.int p1), .val (.long p2), .second, .val (.int p3), .val (.long p4), .second, .val (.ref b233), .unset, .unset, .unset, .unset, .unset, .unset, .unset, .unset, .unset] [(.int (0 : Int32)), (.ref b233)])) _
    refine XS.iloadN X233.here hx rfl (hb hby at_8) rfl ?_
    show Steps p.tables e below (T233.setTop (mkF m 9 #[.val (.int p0), .val (.int p1), .val (.long p2), .second, .val (.int p3), .val (.long p4), .second, .val (.ref b233), .unset, .unset, .unset, .unset, .unset, .unset, .unset, .unset, .unset] [(.int p0), (.int (0 : Int32)), (.ref b233)])) _
    refine XS.sipush X233.here hx rfl (hb hby at_9) ?_
    show Steps p.tables e below (T233.setTop (mkF m 12 #[.val (.int p0), .val (.int p1), .val (.long p2), .second, .val (.int p3), .val (.long p4), .second, .val (.ref b233), .unset, .unset, .unset, .unset, .unset, .unset, .unset, .unset, .unset] [(.int (255 : Int32)), (.int p0), (.int (0 : Int32)), (.ref b233)])) _
    refine XS.iand X233.here hx rfl (hb hby at_12) rfl ?_
    show Steps p.tables e below (T233.setTop (mkF m 13 #[.val (.int p0), .val (.int p1), .val (.long p2), .second, .val (.int p3), .val (.long p4), .second, .val (.ref b233), .unset, .unset, .unset, .unset, .unset, .unset, .unset, .unset, .unset] [(.int (p0 &&& (255 : Int32))), (.int (0 : Int32)), (.ref b233)])) _
    refine XS.i2c X233.here hx rfl (hb hby at_13) rfl ?_
    exact k)
  obtain ⟨cl238, Ar238, qq238, S238, M238, H238, G238⟩ := V233
  have hin238 : ¬ ((0 : Int32) < 0 ∨ cl238.slots.size ≤ ((0 : Int32)).toNatClampNeg) := inb_of S238 ⟨by decide, by decide⟩
  obtain ⟨T238, h238, X238, e238, W238, st238⟩ := stC X233 hx hZ e233 Ar238 (j := (0 : Int32)) hin238 (g := (mkF m 14 #[.val (.int p0), .val (.int p1), .val (.long p2), .second, .val (.int p3), .val (.long p4), .second, .val (.ref b233), .unset, .unset, .unset, .unset, .unset, .unset, .unset, .unset, .unset] [(.int ((p0 &&& (255 : Int32)).toUInt32.toUInt16.toUInt32.toInt32)), (.int (0 : Int32)), (.ref b233)])) rfl rfl (hb hby at_14)
  have V238 : Arv Z h238 b233 c233 .char (2 : Int32) [(.int (nar .char ((p0 &&& (255 : Int32)).toUInt32.toUInt16.toUInt32.toInt32))), (.int (0 : Int32))] (.int (0 : Int32)) := Arv.set Ar238 qq238 S238 M238 H238 G238 (fits_nar_char _) W238 0 rfl (Nat.le_of_ble_eq_true rfl)
  have N238 := Fr.snoc X238 N0 g_b233
  have Z239 : n0 ≤ h238.size := Nat.le_trans Z234 (Nat.le_of_eq W238.size.symm)
  have F240 : Old Z n0 h238 := Old.wr F235 W238 g_b233
  have k241 : ∀ t, Steps p.tables e below (T238.setTop (mkF m 15 #[.val (.int p0), .val (.int p1), .val (.long p2), .second, .val (.int p3), .val (.long p4), .second, .val (.ref b233), .unset, .unset, .unset, .unset, .unset, .unset, .unset, .unset, .unset] [])) t → Steps p.tables e below (s₁.setTop (entryFrame m #[(.int p0), (.int p1), (.long p2), (.int p3), (.long p4)] maxLocals)) t := fun t k => k237 t (st238 t k)
  have k242 : ∀ t, Steps p.tables e below (T238.setTop (mkF m 27 #[.val (.int p0), .val (.int p1), .val (.long p2), .second, .val (.int p3), .val (.long p4), .second, .val (.ref b233), .unset, .unset, .unset, .unset, .unset, .unset, .unset, .unset, .unset] [(.int ((((p0.toUInt32 >>> ((8 : Int32) &&& 31).toUInt32).toInt32) &&& (255 : Int32)).toUInt32.toUInt16.toUInt32.toInt32)), (.int (1 : Int32)), (.ref b233)])) t → Steps p.tables e below (s₁.setTop (entryFrame m #[(.int p0), (.int p1), (.long p2), (.int p3), (.long p4)] maxLocals)) t := fun t k => k241 t (by
    show Steps p.tables e below (T238.setTop (mkF m 15 #[.val (.int p0), .val (.int p1), .val (.long p2), .second, .val (.int p3), .val (.long p4), .second, .val (.ref b233), .unset, .unset, .unset, .unset, .unset, .unset, .unset, .unset, .unset] [])) _
    refine XS.aload X238.here hx rfl (hb hby at_15) rfl rfl ?_
    show Steps p.tables e below (T238.setTop (mkF m 17 #[.val (.int p0), .val (.int p1), .val (.long p2), .second, .val (.int p3), .val (.long p4), .second, .val (.ref b233), .unset, .unset, .unset, .unset, .unset, .unset, .unset, .unset, .unset] [(.ref b233)])) _
    refine XS.iconst X238.here hx rfl (hb hby at_17) ?_
    show Steps p.tables e below (T238.setTop (mkF m 18 #[.val (.int p0), .val (.int p1), .val (.long p2), .second, .val (.int p3), .val (.long p4), .second, .val (.ref b233), .unset, .unset, .unset, .unset, .unset, .unset, .unset, .unset, .unset] [(.int (1 : Int32)), (.ref b233)])) _
    refine XS.iloadN X238.here hx rfl (hb hby at_18) rfl ?_
    show Steps p.tables e below (T238.setTop (mkF m 19 #[.val (.int p0), .val (.int p1), .val (.long p2), .second, .val (.int p3), .val (.long p4), .second, .val (.ref b233), .unset, .unset, .unset, .unset, .unset, .unset, .unset, .unset, .unset] [(.int p0), (.int (1 : Int32)), (.ref b233)])) _
    refine XS.bipush X238.here hx rfl (hb hby at_19) ?_
    show Steps p.tables e below (T238.setTop (mkF m 21 #[.val (.int p0), .val (.int p1), .val (.long p2), .second, .val (.int p3), .val (.long p4), .second, .val (.ref b233), .unset, .unset, .unset, .unset, .unset, .unset, .unset, .unset, .unset] [(.int (8 : Int32)), (.int p0), (.int (1 : Int32)), (.ref b233)])) _
    refine XS.iushr X238.here hx rfl (hb hby at_21) rfl ?_
    show Steps p.tables e below (T238.setTop (mkF m 22 #[.val (.int p0), .val (.int p1), .val (.long p2), .second, .val (.int p3), .val (.long p4), .second, .val (.ref b233), .unset, .unset, .unset, .unset, .unset, .unset, .unset, .unset, .unset] [(.int ((p0.toUInt32 >>> ((8 : Int32) &&& 31).toUInt32).toInt32)), (.int (1 : Int32)), (.ref b233)])) _
    refine XS.sipush X238.here hx rfl (hb hby at_22) ?_
    show Steps p.tables e below (T238.setTop (mkF m 25 #[.val (.int p0), .val (.int p1), .val (.long p2), .second, .val (.int p3), .val (.long p4), .second, .val (.ref b233), .unset, .unset, .unset, .unset, .unset, .unset, .unset, .unset, .unset] [(.int (255 : Int32)), (.int ((p0.toUInt32 >>> ((8 : Int32) &&& 31).toUInt32).toInt32)), (.int (1 : Int32)), (.ref b233)])) _
    refine XS.iand X238.here hx rfl (hb hby at_25) rfl ?_
    show Steps p.tables e below (T238.setTop (mkF m 26 #[.val (.int p0), .val (.int p1), .val (.long p2), .second, .val (.int p3), .val (.long p4), .second, .val (.ref b233), .unset, .unset, .unset, .unset, .unset, .unset, .unset, .unset, .unset] [(.int (((p0.toUInt32 >>> ((8 : Int32) &&& 31).toUInt32).toInt32) &&& (255 : Int32))), (.int (1 : Int32)), (.ref b233)])) _
    refine XS.i2c X238.here hx rfl (hb hby at_26) rfl ?_
    exact k)
  obtain ⟨cl243, Ar243, qq243, S243, M243, H243, G243⟩ := V238
  have hin243 : ¬ ((1 : Int32) < 0 ∨ cl243.slots.size ≤ ((1 : Int32)).toNatClampNeg) := inb_of S243 ⟨by decide, by decide⟩
  obtain ⟨T243, h243, X243, e243, W243, st243⟩ := stC X238 hx hZ e238 Ar243 (j := (1 : Int32)) hin243 (g := (mkF m 27 #[.val (.int p0), .val (.int p1), .val (.long p2), .second, .val (.int p3), .val (.long p4), .second, .val (.ref b233), .unset, .unset, .unset, .unset, .unset, .unset, .unset, .unset, .unset] [(.int ((((p0.toUInt32 >>> ((8 : Int32) &&& 31).toUInt32).toInt32) &&& (255 : Int32)).toUInt32.toUInt16.toUInt32.toInt32)), (.int (1 : Int32)), (.ref b233)])) rfl rfl (hb hby at_27)
  have V243 : Arv Z h243 b233 c233 .char (2 : Int32) [(.int (nar .char ((p0 &&& (255 : Int32)).toUInt32.toUInt16.toUInt32.toInt32))), (.int (nar .char ((((p0.toUInt32 >>> ((8 : Int32) &&& 31).toUInt32).toInt32) &&& (255 : Int32)).toUInt32.toUInt16.toUInt32.toInt32)))] (.int (0 : Int32)) := Arv.set Ar243 qq243 S243 M243 H243 G243 (fits_nar_char _) W243 1 rfl (Nat.le_of_ble_eq_true rfl)
  have N243 := Fr.snoc X243 N238 g_b233
  have Z244 : n0 ≤ h243.size := Nat.le_trans Z239 (Nat.le_of_eq W243.size.symm)
  have F245 : Old Z n0 h243 := Old.wr F240 W243 g_b233
  have k246 : ∀ t, Steps p.tables e below (T243.setTop (mkF m 28 #[.val (.int p0), .val (.int p1), .val (.long p2), .second, .val (.int p3), .val (.long p4), .second, .val (.ref b233), .unset, .unset, .unset, .unset, .unset, .unset, .unset, .unset, .unset] [])) t → Steps p.tables e below (s₁.setTop (entryFrame m #[(.int p0), (.int p1), (.long p2), (.int p3), (.long p4)] maxLocals)) t := fun t k => k242 t (st243 t k)
  obtain ⟨T247, h247, X247, e247, E247, A247, D247, -, st247⟩ := newO X243 hx hZ hown (hw _ (List.mem_of_getElem? (i := 1) rfl)) (hw _ (List.mem_of_getElem? (i := 2) rfl)) (hw _ (List.mem_of_getElem? (i := 3) rfl)) e243 (g := (mkF m 28 #[.val (.int p0), .val (.int p1), .val (.long p2), .second, .val (.int p3), .val (.long p4), .second, .val (.ref b233), .unset, .unset, .unset, .unset, .unset, .unset, .unset, .unset, .unset] [])) rfl (hb hby at_28) (by decide) (by decide)
  obtain ⟨b247, g247⟩ : ∃ z, z = h243.size := ⟨_, rfl⟩
  rw [← g247] at A247 D247 st247
  have ne248 : b233 ≠ b247 := Nat.ne_of_lt (Nat.lt_of_lt_of_le (V243).lt (Nat.le_of_eq g247.symm))
  have g_b247 : n0 ≤ b247 := Nat.le_trans Z244 (Nat.le_of_eq g247.symm)
  have Z249 : n0 ≤ h247.size := Nat.le_trans Z244 E247.1
  have F250 : Old Z n0 h247 := Old.ext F245 E247
  have F251 : Arv Z h247 b233 c233 .char (2 : Int32) [(.int (nar .char ((p0 &&& (255 : Int32)).toUInt32.toUInt16.toUInt32.toInt32))), (.int (nar .char ((((p0.toUInt32 >>> ((8 : Int32) &&& 31).toUInt32).toInt32) &&& (255 : Int32)).toUInt32.toUInt16.toUInt32.toInt32)))] (.int (0 : Int32)) := (V243).ext E247
  have F252 : Fld Z h247 b247 "java/lang/String" "coder" "B" (.int (0 : Int32)) := D247 (Or.inr (hw _ (List.mem_of_getElem? (i := 27) rfl))) (ty := .byte) (by decide)
  have F253 : Fld Z h247 b247 "java/lang/String" "value" "[B" .null := D247 (Or.inr (hw _ (List.mem_of_getElem? (i := 29) rfl))) (ty := (.array .byte)) (by decide)
  have k254 : ∀ t, Steps p.tables e below (T247.setTop (mkF m 31 #[.val (.int p0), .val (.int p1), .val (.long p2), .second, .val (.int p3), .val (.long p4), .second, .val (.ref b233), .unset, .unset, .unset, .unset, .unset, .unset, .unset, .unset, .unset] [(.ref b247)])) t → Steps p.tables e below (s₁.setTop (entryFrame m #[(.int p0), (.int p1), (.long p2), (.int p3), (.long p4)] maxLocals)) t := fun t k => k246 t (st247 t k)
  have k255 : ∀ t, Steps p.tables e below (T247.setTop (mkF m 34 #[.val (.int p0), .val (.int p1), .val (.long p2), .second, .val (.int p3), .val (.long p4), .second, .val (.ref b233), .unset, .unset, .unset, .unset, .unset, .unset, .unset, .unset, .unset] [(.ref b233), (.ref b247), (.ref b247)])) t → Steps p.tables e below (s₁.setTop (entryFrame m #[(.int p0), (.int p1), (.long p2), (.int p3), (.long p4)] maxLocals)) t := fun t k => k254 t (by
    show Steps p.tables e below (T247.setTop (mkF m 31 #[.val (.int p0), .val (.int p1), .val (.long p2), .second, .val (.int p3), .val (.long p4), .second, .val (.ref b233), .unset, .unset, .unset, .unset, .unset, .unset, .unset, .unset, .unset] [(.ref b247)])) _
    refine XS.dup X247.here hx rfl (hb hby at_31) rfl rfl ?_
    show Steps p.tables e below (T247.setTop (mkF m 32 #[.val (.int p0), .val (.int p1), .val (.long p2), .second, .val (.int p3), .val (.long p4), .second, .val (.ref b233), .unset, .unset, .unset, .unset, .unset, .unset, .unset, .unset, .unset] [(.ref b247), (.ref b247)])) _
    refine XS.aload X247.here hx rfl (hb hby at_32) rfl rfl ?_
    exact k)
  have hws : ∀ d ∈ StrChars.Road.words, d.before a0 Z = true := fun d hd => hw d ((by decide +kernel : ∀ d ∈ StrChars.Road.words, d ∈ tables_1) d hd)
  have hp : ∀ c ∈ ([(nar .char ((p0 &&& (255 : Int32)).toUInt32.toUInt16.toUInt32.toInt32)), (nar .char ((((p0.toUInt32 >>> ((8 : Int32) &&& 31).toUInt32).toInt32) &&& (255 : Int32)).toUInt32.toUInt16.toUInt32.toInt32))] : List Int32), ¬ c < 0 ∧ ¬ (255 : Int32) < c := by
    intro c hc
    simp only [List.mem_cons, List.not_mem_nil, or_false] at hc
    rcases hc with rfl | rfl
    · exact own_chr _
    · exact own_chr _
  obtain ⟨_, _, ⟨T256, L256, kc256, ks256⟩, -, X256, ⟨Lc256, hQ256, l256, y256, z256⟩, st256⟩ := X247.specialBack hx (y := (⟨"java/lang/String", "<init>", "([C)V"⟩ : MethodName)) rfl hown (mvT hZ (hw _ (List.mem_of_getElem? (i := 4) rfl))) (mvT hZ (hw _ (List.mem_of_getElem? (i := 5) rfl))) (mvT hZ (hw _ (List.mem_of_getElem? (i := 6) rfl))) (by decide) (StrChars.Road.backV (W := 1) hZ hws (kI := 4) (hw _ (List.mem_of_getElem? (i := 2) rfl)) (cs := ([(nar .char ((p0 &&& (255 : Int32)).toUInt32.toUInt16.toUInt32.toInt32)), (nar .char ((((p0.toUInt32 >>> ((8 : Int32) &&& 31).toUInt32).toInt32) &&& (255 : Int32)).toUInt32.toUInt16.toUInt32.toInt32))] : List Int32)) (bs := (([(nar .char ((p0 &&& (255 : Int32)).toUInt32.toUInt16.toUInt32.toInt32)), (nar .char ((((p0.toUInt32 >>> ((8 : Int32) &&& 31).toUInt32).toInt32) &&& (255 : Int32)).toUInt32.toUInt16.toUInt32.toInt32))] : List Int32)).map (fun c => c.toInt8.toInt32)) (n := 2) g_b247 Z249 A247 F253 F252 F251 (Sta.ext F250.2 O2) P5 rfl rfl (by decide) (by decide) hp rfl (by decide) (by decide)) (g := (mkF m 34 #[.val (.int p0), .val (.int p1), .val (.long p2), .second, .val (.int p3), .val (.long p4), .second, .val (.ref b233), .unset, .unset, .unset, .unset, .unset, .unset, .unset, .unset, .unset] [(.ref b233), (.ref b247), (.ref b247)])) rfl (by rw [hml]; rfl) (Steps.refl _) (a := b247) (argsL := [(.ref b233)]) (rest := [(.ref b247)]) (lenOf pd_2 rfl) rfl (by show 2 * 0 + _ ≤ _; exact Nat.le_of_eq rfl) (hb hby at_34) (fun _ _ => ⟨rfl, e247, (by decide : 2 + 1 ≤ _), (by decide : 6 + 2 ≤ _)⟩)
  dsimp only [Pt.U, Pt.locs, Pt.cells, Pt.slots] at X256 l256 y256 z256 st256 hQ256
  subst l256 y256 z256
  obtain ⟨rfl, Nq256, K256, -⟩ := hQ256
  have N256 := Fr.app N243 Nq256
  have Z257 : n0 ≤ T256.heap.size := Nat.le_trans Z249 K256.1
  have F258 : Old Z n0 T256.heap := Old.keep F250 K256 (allS g_b247 all0)
  have F259 : Exa Z T256.heap b247 "java/lang/String" := (A247).keep K256
  have k260 : ∀ t, Steps p.tables e below (T256.setTop (mkF m 37 #[.val (.int p0), .val (.int p1), .val (.long p2), .second, .val (.int p3), .val (.long p4), .second, .val (.ref b233), .unset, .unset, .unset, .unset, .unset, .unset, .unset, .unset, .unset] [(.ref b247)])) t → Steps p.tables e below (s₁.setTop (entryFrame m #[(.int p0), (.int p1), (.long p2), (.int p3), (.long p4)] maxLocals)) t := fun t k => k255 t (st256.trans k)
  have k261 : ∀ t, Steps p.tables e below (T256.setTop (mkF m 50 #[.val (.int p0), .val (.int p1), .val (.long p2), .second, .val (.int p3), .val (.long p4), .second, .val (.ref b233), .val (.ref b247), .val (.int ((p1 &&& (255 : Int32)) % (3 : Int32))), .unset, .unset, .unset, .unset, .unset, .unset, .unset] [(.int ((p1 &&& (255 : Int32)) % (3 : Int32)))])) t → Steps p.tables e below (s₁.setTop (entryFrame m #[(.int p0), (.int p1), (.long p2), (.int p3), (.long p4)] maxLocals)) t := fun t k => k260 t (by
    show Steps p.tables e below (T256.setTop (mkF m 37 #[.val (.int p0), .val (.int p1), .val (.long p2), .second, .val (.int p3), .val (.long p4), .second, .val (.ref b233), .unset, .unset, .unset, .unset, .unset, .unset, .unset, .unset, .unset] [(.ref b247)])) _
    refine XS.astore X256.here hx rfl (hb hby at_37) rfl rfl (l' := #[.val (.int p0), .val (.int p1), .val (.long p2), .second, .val (.int p3), .val (.long p4), .second, .val (.ref b233), .val (.ref b247), .unset, .unset, .unset, .unset, .unset, .unset, .unset, .unset]) rfl ?_
    show Steps p.tables e below (T256.setTop (mkF m 39 #[.val (.int p0), .val (.int p1), .val (.long p2), .second, .val (.int p3), .val (.long p4), .second, .val (.ref b233), .val (.ref b247), .unset, .unset, .unset, .unset, .unset, .unset, .unset, .unset] [])) _
    refine XS.iloadN X256.here hx rfl (hb hby at_39) rfl ?_
    show Steps p.tables e below (T256.setTop (mkF m 40 #[.val (.int p0), .val (.int p1), .val (.long p2), .second, .val (.int p3), .val (.long p4), .second, .val (.ref b233), .val (.ref b247), .unset, .unset, .unset, .unset, .unset, .unset, .unset, .unset] [(.int p1)])) _
    refine XS.sipush X256.here hx rfl (hb hby at_40) ?_
    show Steps p.tables e below (T256.setTop (mkF m 43 #[.val (.int p0), .val (.int p1), .val (.long p2), .second, .val (.int p3), .val (.long p4), .second, .val (.ref b233), .val (.ref b247), .unset, .unset, .unset, .unset, .unset, .unset, .unset, .unset] [(.int (255 : Int32)), (.int p1)])) _
    refine XS.iand X256.here hx rfl (hb hby at_43) rfl ?_
    show Steps p.tables e below (T256.setTop (mkF m 44 #[.val (.int p0), .val (.int p1), .val (.long p2), .second, .val (.int p3), .val (.long p4), .second, .val (.ref b233), .val (.ref b247), .unset, .unset, .unset, .unset, .unset, .unset, .unset, .unset] [(.int (p1 &&& (255 : Int32)))])) _
    refine XS.iconst X256.here hx rfl (hb hby at_44) ?_
    show Steps p.tables e below (T256.setTop (mkF m 45 #[.val (.int p0), .val (.int p1), .val (.long p2), .second, .val (.int p3), .val (.long p4), .second, .val (.ref b233), .val (.ref b247), .unset, .unset, .unset, .unset, .unset, .unset, .unset, .unset] [(.int (3 : Int32)), (.int (p1 &&& (255 : Int32)))])) _
    refine iremM (g := (mkF m 45 #[.val (.int p0), .val (.int p1), .val (.long p2), .second, .val (.int p3), .val (.long p4), .second, .val (.ref b233), .val (.ref b247), .unset, .unset, .unset, .unset, .unset, .unset, .unset, .unset] [(.int (3 : Int32)), (.int (p1 &&& (255 : Int32)))])) X256 hx rfl (hb hby at_45) rfl (by decide) ?_
    show Steps p.tables e below (T256.setTop (mkF m 46 #[.val (.int p0), .val (.int p1), .val (.long p2), .second, .val (.int p3), .val (.long p4), .second, .val (.ref b233), .val (.ref b247), .unset, .unset, .unset, .unset, .unset, .unset, .unset, .unset] [(.int ((p1 &&& (255 : Int32)) % (3 : Int32)))])) _
    refine XS.istore X256.here hx rfl (hb hby at_46) rfl (l' := #[.val (.int p0), .val (.int p1), .val (.long p2), .second, .val (.int p3), .val (.long p4), .second, .val (.ref b233), .val (.ref b247), .val (.int ((p1 &&& (255 : Int32)) % (3 : Int32))), .unset, .unset, .unset, .unset, .unset, .unset, .unset]) rfl ?_
    show Steps p.tables e below (T256.setTop (mkF m 48 #[.val (.int p0), .val (.int p1), .val (.long p2), .second, .val (.int p3), .val (.long p4), .second, .val (.ref b233), .val (.ref b247), .val (.int ((p1 &&& (255 : Int32)) % (3 : Int32))), .unset, .unset, .unset, .unset, .unset, .unset, .unset] [])) _
    refine XS.iload X256.here hx rfl (hb hby at_48) rfl ?_
    exact k)
  by_cases hc262 : ((p1 &&& (255 : Int32)) % (3 : Int32)) = (0 : Int32)
  · have k263 : ∀ t, Steps p.tables e below (T256.setTop (mkF m 53 #[.val (.int p0), .val (.int p1), .val (.long p2), .second, .val (.int p3), .val (.long p4), .second, .val (.ref b233), .val (.ref b247), .val (.int ((p1 &&& (255 : Int32)) % (3 : Int32))), .unset, .unset, .unset, .unset, .unset, .unset, .unset] [])) t → Steps p.tables e below (s₁.setTop (entryFrame m #[(.int p0), (.int p1), (.long p2), (.int p3), (.long p4)] maxLocals)) t := fun t k => k261 t (by
      show Steps p.tables e below (T256.setTop (mkF m 50 #[.val (.int p0), .val (.int p1), .val (.long p2), .second, .val (.int p3), .val (.long p4), .second, .val (.ref b233), .val (.ref b247), .val (.int ((p1 &&& (255 : Int32)) % (3 : Int32))), .unset, .unset, .unset, .unset, .unset, .unset, .unset] [(.int ((p1 &&& (255 : Int32)) % (3 : Int32)))])) _
      refine XS.ifNo X256.here hx rfl (hb hby at_50) rfl ((if0 _ _).trans (teq hc262).2) ?_
      exact k)
    have SS_aS := Sta.ext F258.2 S_aS
    obtain ⟨T264, X264, e264, st264⟩ := getS (host := "") X256 hx hZ hown (hw _ (List.mem_of_getElem? (i := 30) rfl)) Via.refl rfl SS_aS (g := (mkF m 53 #[.val (.int p0), .val (.int p1), .val (.long p2), .second, .val (.int p3), .val (.long p4), .second, .val (.ref b233), .val (.ref b247), .val (.int ((p1 &&& (255 : Int32)) % (3 : Int32))), .unset, .unset, .unset, .unset, .unset, .unset, .unset] [])) rfl (hb hby at_53)
    have k265 : ∀ t, Steps p.tables e below (T264.setTop (mkF m 56 #[.val (.int p0), .val (.int p1), .val (.long p2), .second, .val (.int p3), .val (.long p4), .second, .val (.ref b233), .val (.ref b247), .val (.int ((p1 &&& (255 : Int32)) % (3 : Int32))), .unset, .unset, .unset, .unset, .unset, .unset, .unset] [(.ref aS)])) t → Steps p.tables e below (s₁.setTop (entryFrame m #[(.int p0), (.int p1), (.long p2), (.int p3), (.long p4)] maxLocals)) t := fun t k => k263 t (st264 t k)
    have k266 : ∀ t, Steps p.tables e below (T264.setTop (mkF m 77 #[.val (.int p0), .val (.int p1), .val (.long p2), .second, .val (.int p3), .val (.long p4), .second, .val (.ref b233), .val (.ref b247), .val (.int ((p1 &&& (255 : Int32)) % (3 : Int32))), .val (.ref aS), .unset, .unset, .unset, .unset, .unset, .unset] [(.int (1 : Int32))])) t → Steps p.tables e below (s₁.setTop (entryFrame m #[(.int p0), (.int p1), (.long p2), (.int p3), (.long p4)] maxLocals)) t := fun t k => k265 t (by
      show Steps p.tables e below (T264.setTop (mkF m 56 #[.val (.int p0), .val (.int p1), .val (.long p2), .second, .val (.int p3), .val (.long p4), .second, .val (.ref b233), .val (.ref b247), .val (.int ((p1 &&& (255 : Int32)) % (3 : Int32))), .unset, .unset, .unset, .unset, .unset, .unset, .unset] [(.ref aS)])) _
      refine XS.goto X264.here hx rfl (pc0 := 56) (pc' := 74) rfl (hb hby at_56) (by decide) (by decide) ?_
      show Steps p.tables e below (T264.setTop (mkF m 74 #[.val (.int p0), .val (.int p1), .val (.long p2), .second, .val (.int p3), .val (.long p4), .second, .val (.ref b233), .val (.ref b247), .val (.int ((p1 &&& (255 : Int32)) % (3 : Int32))), .unset, .unset, .unset, .unset, .unset, .unset, .unset] [(.ref aS)])) _
      refine XS.astore X264.here hx rfl (hb hby at_74) rfl rfl (l' := #[.val (.int p0), .val (.int p1), .val (.long p2), .second, .val (.int p3), .val (.long p4), .second, .val (.ref b233), .val (.ref b247), .val (.int ((p1 &&& (255 : Int32)) % (3 : Int32))), .val (.ref aS), .unset, .unset, .unset, .unset, .unset, .unset]) rfl ?_
      show Steps p.tables e below (T264.setTop (mkF m 76 #[.val (.int p0), .val (.int p1), .val (.long p2), .second, .val (.int p3), .val (.long p4), .second, .val (.ref b233), .val (.ref b247), .val (.int ((p1 &&& (255 : Int32)) % (3 : Int32))), .val (.ref aS), .unset, .unset, .unset, .unset, .unset, .unset] [])) _
      refine XS.iconst X264.here hx rfl (hb hby at_76) ?_
      exact k)
    obtain ⟨T267, h267, c267, X267, e267, E267, A267, st267⟩ := newP X264 hx hZ (hw _ (List.mem_of_getElem? (i := 19) rfl)) e264 (g := (mkF m 77 #[.val (.int p0), .val (.int p1), .val (.long p2), .second, .val (.int p3), .val (.long p4), .second, .val (.ref b233), .val (.ref b247), .val (.int ((p1 &&& (255 : Int32)) % (3 : Int32))), .val (.ref aS), .unset, .unset, .unset, .unset, .unset, .unset] [(.int (1 : Int32))])) rfl (hb hby at_77) rfl (by decide) (cap := 1) (by decide) (by decide) (by decide) (by decide)
    obtain ⟨b267, g267⟩ : ∃ z, z = T256.heap.size := ⟨_, rfl⟩
    rw [← g267] at A267 st267
    have ne268 : b247 ≠ b267 := Nat.ne_of_lt (Nat.lt_of_lt_of_le (F259).lt (Nat.le_of_eq g267.symm))
    have g_b267 : n0 ≤ b267 := Nat.le_trans Z257 (Nat.le_of_eq g267.symm)
    have Z269 : n0 ≤ h267.size := Nat.le_trans Z257 E267.1
    have F270 : Old Z n0 h267 := Old.ext F258 E267
    have F271 : Exa Z h267 b247 "java/lang/String" := (F259).ext E267
    have F272 : Sta Z h267 "com/example/pen_over_wire/penoverwire/model/Role" "SIGNER" "Lcom/example/pen_over_wire/penoverwire/model/Role;" (.ref aS) := Sta.ext E267 SS_aS
    have V267 : Arv Z h267 b267 c267 .byte (1 : Int32) [(.int (0 : Int32))] (.int (0 : Int32)) := (Arv.new A267 (by decide)).pad (pad_rep [] (.int (0 : Int32)) 1)
    have k273 : ∀ t, Steps p.tables e below (T267.setTop (mkF m 79 #[.val (.int p0), .val (.int p1), .val (.long p2), .second, .val (.int p3), .val (.long p4), .second, .val (.ref b233), .val (.ref b247), .val (.int ((p1 &&& (255 : Int32)) % (3 : Int32))), .val (.ref aS), .unset, .unset, .unset, .unset, .unset, .unset] [(.ref b267)])) t → Steps p.tables e below (s₁.setTop (entryFrame m #[(.int p0), (.int p1), (.long p2), (.int p3), (.long p4)] maxLocals)) t := fun t k => k266 t (st267 t k)
    have k274 : ∀ t, Steps p.tables e below (T267.setTop (mkF m 89 #[.val (.int p0), .val (.int p1), .val (.long p2), .second, .val (.int p3), .val (.long p4), .second, .val (.ref b233), .val (.ref b247), .val (.int ((p1 &&& (255 : Int32)) % (3 : Int32))), .val (.ref aS), .val (.ref b267), .unset, .unset, .unset, .unset, .unset] [(.int (((p0.toUInt32 >>> ((16 : Int32) &&& 31).toUInt32).toInt32).toInt8.toInt32)), (.int (0 : Int32)), (.ref b267)])) t → Steps p.tables e below (s₁.setTop (entryFrame m #[(.int p0), (.int p1), (.long p2), (.int p3), (.long p4)] maxLocals)) t := fun t k => k273 t (by
      show Steps p.tables e below (T267.setTop (mkF m 79 #[.val (.int p0), .val (.int p1), .val (.long p2), .second, .val (.int p3), .val (.long p4), .second, .val (.ref b233), .val (.ref b247), .val (.int ((p1 &&& (255 : Int32)) % (3 : Int32))), .val (.ref aS), .unset, .unset, .unset, .unset, .unset, .unset] [(.ref b267)])) _
      refine XS.astore X267.here hx rfl (hb hby at_79) rfl rfl (l' := #[.val (.int p0), .val (.int p1), .val (.long p2), .second, .val (.int p3), .val (.long p4), .second, .val (.ref b233), .val (.ref b247), .val (.int ((p1 &&& (255 : Int32)) % (3 : Int32))), .val (.ref aS), .val (.ref b267), .unset, .unset, .unset, .unset, .unset]) rfl ?_
      show Steps p.tables e below (T267.setTop (mkF m 81 #[.val (.int p0), .val (.int p1), .val (.long p2), .second, .val (.int p3), .val (.long p4), .second, .val (.ref b233), .val (.ref b247), .val (.int ((p1 &&& (255 : Int32)) % (3 : Int32))), .val (.ref aS), .val (.ref b267), .unset, .unset, .unset, .unset, .unset] [])) _
      refine XS.aload X267.here hx rfl (hb hby at_81) rfl rfl ?_
      show Steps p.tables e below (T267.setTop (mkF m 83 #[.val (.int p0), .val (.int p1), .val (.long p2), .second, .val (.int p3), .val (.long p4), .second, .val (.ref b233), .val (.ref b247), .val (.int ((p1 &&& (255 : Int32)) % (3 : Int32))), .val (.ref aS), .val (.ref b267), .unset, .unset, .unset, .unset, .unset] [(.ref b267)])) _
      refine XS.iconst X267.here hx rfl (hb hby at_83) ?_
      show Steps p.tables e below (T267.setTop (mkF m 84 #[.val (.int p0), .val (.int p1), .val (.long p2), .second, .val (.int p3), .val (.long p4), .second, .val (.ref b233), .val (.ref b247), .val (.int ((p1 &&& (255 : Int32)) % (3 : Int32))), .val (.ref aS), .val (.ref b267), .unset, .unset, .unset, .unset, .unset] [(.int (0 : Int32)), (.ref b267)])) _
      refine XS.iloadN X267.here hx rfl (hb hby at_84) rfl ?_
      show Steps p.tables e below (T267.setTop (mkF m 85 #[.val (.int p0), .val (.int p1), .val (.long p2), .second, .val (.int p3), .val (.long p4), .second, .val (.ref b233), .val (.ref b247), .val (.int ((p1 &&& (255 : Int32)) % (3 : Int32))), .val (.ref aS), .val (.ref b267), .unset, .unset, .unset, .unset, .unset] [(.int p0), (.int (0 : Int32)), (.ref b267)])) _
      refine XS.bipush X267.here hx rfl (hb hby at_85) ?_
      show Steps p.tables e below (T267.setTop (mkF m 87 #[.val (.int p0), .val (.int p1), .val (.long p2), .second, .val (.int p3), .val (.long p4), .second, .val (.ref b233), .val (.ref b247), .val (.int ((p1 &&& (255 : Int32)) % (3 : Int32))), .val (.ref aS), .val (.ref b267), .unset, .unset, .unset, .unset, .unset] [(.int (16 : Int32)), (.int p0), (.int (0 : Int32)), (.ref b267)])) _
      refine XS.iushr X267.here hx rfl (hb hby at_87) rfl ?_
      show Steps p.tables e below (T267.setTop (mkF m 88 #[.val (.int p0), .val (.int p1), .val (.long p2), .second, .val (.int p3), .val (.long p4), .second, .val (.ref b233), .val (.ref b247), .val (.int ((p1 &&& (255 : Int32)) % (3 : Int32))), .val (.ref aS), .val (.ref b267), .unset, .unset, .unset, .unset, .unset] [(.int ((p0.toUInt32 >>> ((16 : Int32) &&& 31).toUInt32).toInt32)), (.int (0 : Int32)), (.ref b267)])) _
      refine XS.i2b X267.here hx rfl (hb hby at_88) rfl ?_
      exact k)
    obtain ⟨cl275, Ar275, qq275, S275, M275, H275, G275⟩ := V267
    have hin275 : ¬ ((0 : Int32) < 0 ∨ cl275.slots.size ≤ ((0 : Int32)).toNatClampNeg) := inb_of S275 ⟨by decide, by decide⟩
    obtain ⟨T275, h275, X275, e275, W275, st275⟩ := stB X267 hx hZ e267 Ar275 (j := (0 : Int32)) hin275 (g := (mkF m 89 #[.val (.int p0), .val (.int p1), .val (.long p2), .second, .val (.int p3), .val (.long p4), .second, .val (.ref b233), .val (.ref b247), .val (.int ((p1 &&& (255 : Int32)) % (3 : Int32))), .val (.ref aS), .val (.ref b267), .unset, .unset, .unset, .unset, .unset] [(.int (((p0.toUInt32 >>> ((16 : Int32) &&& 31).toUInt32).toInt32).toInt8.toInt32)), (.int (0 : Int32)), (.ref b267)])) rfl rfl (hb hby at_89)
    have V275 : Arv Z h275 b267 c267 .byte (1 : Int32) [(.int (nar .byte (((p0.toUInt32 >>> ((16 : Int32) &&& 31).toUInt32).toInt32).toInt8.toInt32)))] (.int (0 : Int32)) := Arv.set Ar275 qq275 S275 M275 H275 G275 (fits_nar_byte _) W275 0 rfl (Nat.le_of_ble_eq_true rfl)
    have N275 := Fr.snoc X275 N256 g_b267
    have Z276 : n0 ≤ h275.size := Nat.le_trans Z269 (Nat.le_of_eq W275.size.symm)
    have F277 : Old Z n0 h275 := Old.wr F270 W275 g_b267
    have F278 : Exa Z h275 b247 "java/lang/String" := Exa.wr W275 F271
    have F279 : Sta Z h275 "com/example/pen_over_wire/penoverwire/model/Role" "SIGNER" "Lcom/example/pen_over_wire/penoverwire/model/Role;" (.ref aS) := Sta.wr W275 F272
    have k280 : ∀ t, Steps p.tables e below (T275.setTop (mkF m 90 #[.val (.int p0), .val (.int p1), .val (.long p2), .second, .val (.int p3), .val (.long p4), .second, .val (.ref b233), .val (.ref b247), .val (.int ((p1 &&& (255 : Int32)) % (3 : Int32))), .val (.ref aS), .val (.ref b267), .unset, .unset, .unset, .unset, .unset] [])) t → Steps p.tables e below (s₁.setTop (entryFrame m #[(.int p0), (.int p1), (.long p2), (.int p3), (.long p4)] maxLocals)) t := fun t k => k274 t (st275 t k)
    have k281 : ∀ t, Steps p.tables e below (T275.setTop (mkF m 96 #[.val (.int p0), .val (.int p1), .val (.long p2), .second, .val (.int p3), .val (.long p4), .second, .val (.ref b233), .val (.ref b247), .val (.int ((p1 &&& (255 : Int32)) % (3 : Int32))), .val (.ref aS), .val (.ref b267), .unset, .unset, .unset, .unset, .unset] [(.int (((p1.toUInt32 >>> ((8 : Int32) &&& 31).toUInt32).toInt32) &&& (1 : Int32)))])) t → Steps p.tables e below (s₁.setTop (entryFrame m #[(.int p0), (.int p1), (.long p2), (.int p3), (.long p4)] maxLocals)) t := fun t k => k280 t (by
      show Steps p.tables e below (T275.setTop (mkF m 90 #[.val (.int p0), .val (.int p1), .val (.long p2), .second, .val (.int p3), .val (.long p4), .second, .val (.ref b233), .val (.ref b247), .val (.int ((p1 &&& (255 : Int32)) % (3 : Int32))), .val (.ref aS), .val (.ref b267), .unset, .unset, .unset, .unset, .unset] [])) _
      refine XS.iloadN X275.here hx rfl (hb hby at_90) rfl ?_
      show Steps p.tables e below (T275.setTop (mkF m 91 #[.val (.int p0), .val (.int p1), .val (.long p2), .second, .val (.int p3), .val (.long p4), .second, .val (.ref b233), .val (.ref b247), .val (.int ((p1 &&& (255 : Int32)) % (3 : Int32))), .val (.ref aS), .val (.ref b267), .unset, .unset, .unset, .unset, .unset] [(.int p1)])) _
      refine XS.bipush X275.here hx rfl (hb hby at_91) ?_
      show Steps p.tables e below (T275.setTop (mkF m 93 #[.val (.int p0), .val (.int p1), .val (.long p2), .second, .val (.int p3), .val (.long p4), .second, .val (.ref b233), .val (.ref b247), .val (.int ((p1 &&& (255 : Int32)) % (3 : Int32))), .val (.ref aS), .val (.ref b267), .unset, .unset, .unset, .unset, .unset] [(.int (8 : Int32)), (.int p1)])) _
      refine XS.iushr X275.here hx rfl (hb hby at_93) rfl ?_
      show Steps p.tables e below (T275.setTop (mkF m 94 #[.val (.int p0), .val (.int p1), .val (.long p2), .second, .val (.int p3), .val (.long p4), .second, .val (.ref b233), .val (.ref b247), .val (.int ((p1 &&& (255 : Int32)) % (3 : Int32))), .val (.ref aS), .val (.ref b267), .unset, .unset, .unset, .unset, .unset] [(.int ((p1.toUInt32 >>> ((8 : Int32) &&& 31).toUInt32).toInt32))])) _
      refine XS.iconst X275.here hx rfl (hb hby at_94) ?_
      show Steps p.tables e below (T275.setTop (mkF m 95 #[.val (.int p0), .val (.int p1), .val (.long p2), .second, .val (.int p3), .val (.long p4), .second, .val (.ref b233), .val (.ref b247), .val (.int ((p1 &&& (255 : Int32)) % (3 : Int32))), .val (.ref aS), .val (.ref b267), .unset, .unset, .unset, .unset, .unset] [(.int (1 : Int32)), (.int ((p1.toUInt32 >>> ((8 : Int32) &&& 31).toUInt32).toInt32))])) _
      refine XS.iand X275.here hx rfl (hb hby at_95) rfl ?_
      exact k)
    have k283 : ∀ t, Steps p.tables e below (T275.setTop (mkF m 104 #[.val (.int p0), .val (.int p1), .val (.long p2), .second, .val (.int p3), .val (.long p4), .second, .val (.ref b233), .val (.ref b247), .val (.int ((p1 &&& (255 : Int32)) % (3 : Int32))), .val (.ref aS), .val (.ref b267), .unset, .unset, .unset, .unset, .unset] [(.int (if (((p1.toUInt32 >>> ((8 : Int32) &&& 31).toUInt32).toInt32) &&& (1 : Int32)) = (0 : Int32) then (0 : Int32) else (1 : Int32)))])) t → Steps p.tables e below (s₁.setTop (entryFrame m #[(.int p0), (.int p1), (.long p2), (.int p3), (.long p4)] maxLocals)) t := fun t k => k281 t (by
      by_cases hq282 : (((p1.toUInt32 >>> ((8 : Int32) &&& 31).toUInt32).toInt32) &&& (1 : Int32)) = (0 : Int32)
      · simp only [if_pos hq282] at k
        show Steps p.tables e below (T275.setTop (mkF m 96 #[.val (.int p0), .val (.int p1), .val (.long p2), .second, .val (.int p3), .val (.long p4), .second, .val (.ref b233), .val (.ref b247), .val (.int ((p1 &&& (255 : Int32)) % (3 : Int32))), .val (.ref aS), .val (.ref b267), .unset, .unset, .unset, .unset, .unset] [(.int (((p1.toUInt32 >>> ((8 : Int32) &&& 31).toUInt32).toInt32) &&& (1 : Int32)))])) _
        refine XS.ifYes X275.here hx rfl (pc0 := 96) (pc' := 103) rfl (hb hby at_96) rfl ((if0 _ _).trans (teq hq282).1) (by decide) (by decide) ?_
        show Steps p.tables e below (T275.setTop (mkF m 103 #[.val (.int p0), .val (.int p1), .val (.long p2), .second, .val (.int p3), .val (.long p4), .second, .val (.ref b233), .val (.ref b247), .val (.int ((p1 &&& (255 : Int32)) % (3 : Int32))), .val (.ref aS), .val (.ref b267), .unset, .unset, .unset, .unset, .unset] [])) _
        refine XS.iconst X275.here hx rfl (hb hby at_103) ?_
        exact k
      · simp only [if_neg hq282] at k
        show Steps p.tables e below (T275.setTop (mkF m 96 #[.val (.int p0), .val (.int p1), .val (.long p2), .second, .val (.int p3), .val (.long p4), .second, .val (.ref b233), .val (.ref b247), .val (.int ((p1 &&& (255 : Int32)) % (3 : Int32))), .val (.ref aS), .val (.ref b267), .unset, .unset, .unset, .unset, .unset] [(.int (((p1.toUInt32 >>> ((8 : Int32) &&& 31).toUInt32).toInt32) &&& (1 : Int32)))])) _
        refine XS.ifNo X275.here hx rfl (hb hby at_96) rfl ((if0 _ _).trans (feq hq282).1) ?_
        show Steps p.tables e below (T275.setTop (mkF m 99 #[.val (.int p0), .val (.int p1), .val (.long p2), .second, .val (.int p3), .val (.long p4), .second, .val (.ref b233), .val (.ref b247), .val (.int ((p1 &&& (255 : Int32)) % (3 : Int32))), .val (.ref aS), .val (.ref b267), .unset, .unset, .unset, .unset, .unset] [])) _
        refine XS.iconst X275.here hx rfl (hb hby at_99) ?_
        show Steps p.tables e below (T275.setTop (mkF m 100 #[.val (.int p0), .val (.int p1), .val (.long p2), .second, .val (.int p3), .val (.long p4), .second, .val (.ref b233), .val (.ref b247), .val (.int ((p1 &&& (255 : Int32)) % (3 : Int32))), .val (.ref aS), .val (.ref b267), .unset, .unset, .unset, .unset, .unset] [(.int (1 : Int32))])) _
        refine XS.goto X275.here hx rfl (pc0 := 100) (pc' := 104) rfl (hb hby at_100) (by decide) (by decide) ?_
        exact k)
    have k284 : ∀ t, Steps p.tables e below (T275.setTop (mkF m 106 #[.val (.int p0), .val (.int p1), .val (.long p2), .second, .val (.int p3), .val (.long p4), .second, .val (.ref b233), .val (.ref b247), .val (.int ((p1 &&& (255 : Int32)) % (3 : Int32))), .val (.ref aS), .val (.ref b267), .val (.int (if (((p1.toUInt32 >>> ((8 : Int32) &&& 31).toUInt32).toInt32) &&& (1 : Int32)) = (0 : Int32) then (0 : Int32) else (1 : Int32))), .unset, .unset, .unset, .unset] [])) t → Steps p.tables e below (s₁.setTop (entryFrame m #[(.int p0), (.int p1), (.long p2), (.int p3), (.long p4)] maxLocals)) t := fun t k => k283 t (by
      show Steps p.tables e below (T275.setTop (mkF m 104 #[.val (.int p0), .val (.int p1), .val (.long p2), .second, .val (.int p3), .val (.long p4), .second, .val (.ref b233), .val (.ref b247), .val (.int ((p1 &&& (255 : Int32)) % (3 : Int32))), .val (.ref aS), .val (.ref b267), .unset, .unset, .unset, .unset, .unset] [(.int (if (((p1.toUInt32 >>> ((8 : Int32) &&& 31).toUInt32).toInt32) &&& (1 : Int32)) = (0 : Int32) then (0 : Int32) else (1 : Int32)))])) _
      refine XS.istore X275.here hx rfl (hb hby at_104) rfl (l' := #[.val (.int p0), .val (.int p1), .val (.long p2), .second, .val (.int p3), .val (.long p4), .second, .val (.ref b233), .val (.ref b247), .val (.int ((p1 &&& (255 : Int32)) % (3 : Int32))), .val (.ref aS), .val (.ref b267), .val (.int (if (((p1.toUInt32 >>> ((8 : Int32) &&& 31).toUInt32).toInt32) &&& (1 : Int32)) = (0 : Int32) then (0 : Int32) else (1 : Int32))), .unset, .unset, .unset, .unset]) rfl ?_
      exact k)
    obtain ⟨d12, e_d12⟩ : ∃ z, z = (if (((p1.toUInt32 >>> ((8 : Int32) &&& 31).toUInt32).toInt32) &&& (1 : Int32)) = (0 : Int32) then (0 : Int32) else (1 : Int32)) := ⟨_, rfl⟩
    rw [← e_d12] at k284
    have h_d12 : d12 = 0 ∨ d12 = 1 := by rw [e_d12]; exact own_01 _
    have k285 : ∀ t, Steps p.tables e below (T275.setTop (mkF m 112 #[.val (.int p0), .val (.int p1), .val (.long p2), .second, .val (.int p3), .val (.long p4), .second, .val (.ref b233), .val (.ref b247), .val (.int ((p1 &&& (255 : Int32)) % (3 : Int32))), .val (.ref aS), .val (.ref b267), .val (.int d12), .unset, .unset, .unset, .unset] [(.int (((p1.toUInt32 >>> ((9 : Int32) &&& 31).toUInt32).toInt32) &&& (1 : Int32)))])) t → Steps p.tables e below (s₁.setTop (entryFrame m #[(.int p0), (.int p1), (.long p2), (.int p3), (.long p4)] maxLocals)) t := fun t k => k284 t (by
      show Steps p.tables e below (T275.setTop (mkF m 106 #[.val (.int p0), .val (.int p1), .val (.long p2), .second, .val (.int p3), .val (.long p4), .second, .val (.ref b233), .val (.ref b247), .val (.int ((p1 &&& (255 : Int32)) % (3 : Int32))), .val (.ref aS), .val (.ref b267), .val (.int d12), .unset, .unset, .unset, .unset] [])) _
      refine XS.iloadN X275.here hx rfl (hb hby at_106) rfl ?_
      show Steps p.tables e below (T275.setTop (mkF m 107 #[.val (.int p0), .val (.int p1), .val (.long p2), .second, .val (.int p3), .val (.long p4), .second, .val (.ref b233), .val (.ref b247), .val (.int ((p1 &&& (255 : Int32)) % (3 : Int32))), .val (.ref aS), .val (.ref b267), .val (.int d12), .unset, .unset, .unset, .unset] [(.int p1)])) _
      refine XS.bipush X275.here hx rfl (hb hby at_107) ?_
      show Steps p.tables e below (T275.setTop (mkF m 109 #[.val (.int p0), .val (.int p1), .val (.long p2), .second, .val (.int p3), .val (.long p4), .second, .val (.ref b233), .val (.ref b247), .val (.int ((p1 &&& (255 : Int32)) % (3 : Int32))), .val (.ref aS), .val (.ref b267), .val (.int d12), .unset, .unset, .unset, .unset] [(.int (9 : Int32)), (.int p1)])) _
      refine XS.iushr X275.here hx rfl (hb hby at_109) rfl ?_
      show Steps p.tables e below (T275.setTop (mkF m 110 #[.val (.int p0), .val (.int p1), .val (.long p2), .second, .val (.int p3), .val (.long p4), .second, .val (.ref b233), .val (.ref b247), .val (.int ((p1 &&& (255 : Int32)) % (3 : Int32))), .val (.ref aS), .val (.ref b267), .val (.int d12), .unset, .unset, .unset, .unset] [(.int ((p1.toUInt32 >>> ((9 : Int32) &&& 31).toUInt32).toInt32))])) _
      refine XS.iconst X275.here hx rfl (hb hby at_110) ?_
      show Steps p.tables e below (T275.setTop (mkF m 111 #[.val (.int p0), .val (.int p1), .val (.long p2), .second, .val (.int p3), .val (.long p4), .second, .val (.ref b233), .val (.ref b247), .val (.int ((p1 &&& (255 : Int32)) % (3 : Int32))), .val (.ref aS), .val (.ref b267), .val (.int d12), .unset, .unset, .unset, .unset] [(.int (1 : Int32)), (.int ((p1.toUInt32 >>> ((9 : Int32) &&& 31).toUInt32).toInt32))])) _
      refine XS.iand X275.here hx rfl (hb hby at_111) rfl ?_
      exact k)
    have k287 : ∀ t, Steps p.tables e below (T275.setTop (mkF m 120 #[.val (.int p0), .val (.int p1), .val (.long p2), .second, .val (.int p3), .val (.long p4), .second, .val (.ref b233), .val (.ref b247), .val (.int ((p1 &&& (255 : Int32)) % (3 : Int32))), .val (.ref aS), .val (.ref b267), .val (.int d12), .unset, .unset, .unset, .unset] [(.int (if (((p1.toUInt32 >>> ((9 : Int32) &&& 31).toUInt32).toInt32) &&& (1 : Int32)) = (0 : Int32) then (0 : Int32) else (1 : Int32)))])) t → Steps p.tables e below (s₁.setTop (entryFrame m #[(.int p0), (.int p1), (.long p2), (.int p3), (.long p4)] maxLocals)) t := fun t k => k285 t (by
      by_cases hq286 : (((p1.toUInt32 >>> ((9 : Int32) &&& 31).toUInt32).toInt32) &&& (1 : Int32)) = (0 : Int32)
      · simp only [if_pos hq286] at k
        show Steps p.tables e below (T275.setTop (mkF m 112 #[.val (.int p0), .val (.int p1), .val (.long p2), .second, .val (.int p3), .val (.long p4), .second, .val (.ref b233), .val (.ref b247), .val (.int ((p1 &&& (255 : Int32)) % (3 : Int32))), .val (.ref aS), .val (.ref b267), .val (.int d12), .unset, .unset, .unset, .unset] [(.int (((p1.toUInt32 >>> ((9 : Int32) &&& 31).toUInt32).toInt32) &&& (1 : Int32)))])) _
        refine XS.ifYes X275.here hx rfl (pc0 := 112) (pc' := 119) rfl (hb hby at_112) rfl ((if0 _ _).trans (teq hq286).1) (by decide) (by decide) ?_
        show Steps p.tables e below (T275.setTop (mkF m 119 #[.val (.int p0), .val (.int p1), .val (.long p2), .second, .val (.int p3), .val (.long p4), .second, .val (.ref b233), .val (.ref b247), .val (.int ((p1 &&& (255 : Int32)) % (3 : Int32))), .val (.ref aS), .val (.ref b267), .val (.int d12), .unset, .unset, .unset, .unset] [])) _
        refine XS.iconst X275.here hx rfl (hb hby at_119) ?_
        exact k
      · simp only [if_neg hq286] at k
        show Steps p.tables e below (T275.setTop (mkF m 112 #[.val (.int p0), .val (.int p1), .val (.long p2), .second, .val (.int p3), .val (.long p4), .second, .val (.ref b233), .val (.ref b247), .val (.int ((p1 &&& (255 : Int32)) % (3 : Int32))), .val (.ref aS), .val (.ref b267), .val (.int d12), .unset, .unset, .unset, .unset] [(.int (((p1.toUInt32 >>> ((9 : Int32) &&& 31).toUInt32).toInt32) &&& (1 : Int32)))])) _
        refine XS.ifNo X275.here hx rfl (hb hby at_112) rfl ((if0 _ _).trans (feq hq286).1) ?_
        show Steps p.tables e below (T275.setTop (mkF m 115 #[.val (.int p0), .val (.int p1), .val (.long p2), .second, .val (.int p3), .val (.long p4), .second, .val (.ref b233), .val (.ref b247), .val (.int ((p1 &&& (255 : Int32)) % (3 : Int32))), .val (.ref aS), .val (.ref b267), .val (.int d12), .unset, .unset, .unset, .unset] [])) _
        refine XS.iconst X275.here hx rfl (hb hby at_115) ?_
        show Steps p.tables e below (T275.setTop (mkF m 116 #[.val (.int p0), .val (.int p1), .val (.long p2), .second, .val (.int p3), .val (.long p4), .second, .val (.ref b233), .val (.ref b247), .val (.int ((p1 &&& (255 : Int32)) % (3 : Int32))), .val (.ref aS), .val (.ref b267), .val (.int d12), .unset, .unset, .unset, .unset] [(.int (1 : Int32))])) _
        refine XS.goto X275.here hx rfl (pc0 := 116) (pc' := 120) rfl (hb hby at_116) (by decide) (by decide) ?_
        exact k)
    have k288 : ∀ t, Steps p.tables e below (T275.setTop (mkF m 122 #[.val (.int p0), .val (.int p1), .val (.long p2), .second, .val (.int p3), .val (.long p4), .second, .val (.ref b233), .val (.ref b247), .val (.int ((p1 &&& (255 : Int32)) % (3 : Int32))), .val (.ref aS), .val (.ref b267), .val (.int d12), .val (.int (if (((p1.toUInt32 >>> ((9 : Int32) &&& 31).toUInt32).toInt32) &&& (1 : Int32)) = (0 : Int32) then (0 : Int32) else (1 : Int32))), .unset, .unset, .unset] [])) t → Steps p.tables e below (s₁.setTop (entryFrame m #[(.int p0), (.int p1), (.long p2), (.int p3), (.long p4)] maxLocals)) t := fun t k => k287 t (by
      show Steps p.tables e below (T275.setTop (mkF m 120 #[.val (.int p0), .val (.int p1), .val (.long p2), .second, .val (.int p3), .val (.long p4), .second, .val (.ref b233), .val (.ref b247), .val (.int ((p1 &&& (255 : Int32)) % (3 : Int32))), .val (.ref aS), .val (.ref b267), .val (.int d12), .unset, .unset, .unset, .unset] [(.int (if (((p1.toUInt32 >>> ((9 : Int32) &&& 31).toUInt32).toInt32) &&& (1 : Int32)) = (0 : Int32) then (0 : Int32) else (1 : Int32)))])) _
      refine XS.istore X275.here hx rfl (hb hby at_120) rfl (l' := #[.val (.int p0), .val (.int p1), .val (.long p2), .second, .val (.int p3), .val (.long p4), .second, .val (.ref b233), .val (.ref b247), .val (.int ((p1 &&& (255 : Int32)) % (3 : Int32))), .val (.ref aS), .val (.ref b267), .val (.int d12), .val (.int (if (((p1.toUInt32 >>> ((9 : Int32) &&& 31).toUInt32).toInt32) &&& (1 : Int32)) = (0 : Int32) then (0 : Int32) else (1 : Int32))), .unset, .unset, .unset]) rfl ?_
      exact k)
    obtain ⟨d13, e_d13⟩ : ∃ z, z = (if (((p1.toUInt32 >>> ((9 : Int32) &&& 31).toUInt32).toInt32) &&& (1 : Int32)) = (0 : Int32) then (0 : Int32) else (1 : Int32)) := ⟨_, rfl⟩
    rw [← e_d13] at k288
    have h_d13 : d13 = 0 ∨ d13 = 1 := by rw [e_d13]; exact own_01 _
    obtain ⟨T289, h289, X289, e289, E289, A289, D289, -, st289⟩ := newO X275 hx hZ hown (hw _ (List.mem_of_getElem? (i := 33) rfl)) (hw _ (List.mem_of_getElem? (i := 34) rfl)) (hw _ (List.mem_of_getElem? (i := 35) rfl)) e275 (g := (mkF m 122 #[.val (.int p0), .val (.int p1), .val (.long p2), .second, .val (.int p3), .val (.long p4), .second, .val (.ref b233), .val (.ref b247), .val (.int ((p1 &&& (255 : Int32)) % (3 : Int32))), .val (.ref aS), .val (.ref b267), .val (.int d12), .val (.int d13), .unset, .unset, .unset] [])) rfl (hb hby at_122) (by decide) (by decide)
    obtain ⟨b289, g289⟩ : ∃ z, z = h275.size := ⟨_, rfl⟩
    rw [← g289] at A289 D289 st289
    have ne290 : b247 ≠ b289 := Nat.ne_of_lt (Nat.lt_of_lt_of_le (F278).lt (Nat.le_of_eq g289.symm))
    have ne291 : b267 ≠ b289 := Nat.ne_of_lt (Nat.lt_of_lt_of_le (V275).lt (Nat.le_of_eq g289.symm))
    have g_b289 : n0 ≤ b289 := Nat.le_trans Z276 (Nat.le_of_eq g289.symm)
    have Z292 : n0 ≤ h289.size := Nat.le_trans Z276 E289.1
    have F293 : Old Z n0 h289 := Old.ext F277 E289
    have F294 : Exa Z h289 b247 "java/lang/String" := (F278).ext E289
    have F295 : Sta Z h289 "com/example/pen_over_wire/penoverwire/model/Role" "SIGNER" "Lcom/example/pen_over_wire/penoverwire/model/Role;" (.ref aS) := Sta.ext E289 F279
    have F296 : Arv Z h289 b267 c267 .byte (1 : Int32) [(.int (nar .byte (((p0.toUInt32 >>> ((16 : Int32) &&& 31).toUInt32).toInt32).toInt8.toInt32)))] (.int (0 : Int32)) := (V275).ext E289
    have F297 : Fld Z h289 b289 "com/example/pen_over_wire/penoverwire/model/FailedAttempts" "count" "I" (.int (0 : Int32)) := D289 (Or.inr (hw _ (List.mem_of_getElem? (i := 46) rfl))) (ty := .int) (by decide)
    have F298 : Fld Z h289 b289 "com/example/pen_over_wire/penoverwire/model/FailedAttempts" "lockRecorded" "Z" (.int (0 : Int32)) := D289 (Or.inr (hw _ (List.mem_of_getElem? (i := 48) rfl))) (ty := .boolean) (by decide)
    have k299 : ∀ t, Steps p.tables e below (T289.setTop (mkF m 125 #[.val (.int p0), .val (.int p1), .val (.long p2), .second, .val (.int p3), .val (.long p4), .second, .val (.ref b233), .val (.ref b247), .val (.int ((p1 &&& (255 : Int32)) % (3 : Int32))), .val (.ref aS), .val (.ref b267), .val (.int d12), .val (.int d13), .unset, .unset, .unset] [(.ref b289)])) t → Steps p.tables e below (s₁.setTop (entryFrame m #[(.int p0), (.int p1), (.long p2), (.int p3), (.long p4)] maxLocals)) t := fun t k => k288 t (st289 t k)
    have k300 : ∀ t, Steps p.tables e below (T289.setTop (mkF m 130 #[.val (.int p0), .val (.int p1), .val (.long p2), .second, .val (.int p3), .val (.long p4), .second, .val (.ref b233), .val (.ref b247), .val (.int ((p1 &&& (255 : Int32)) % (3 : Int32))), .val (.ref aS), .val (.ref b267), .val (.int d12), .val (.int d13), .unset, .unset, .unset] [(.int d13), (.int p3), (.ref b289), (.ref b289)])) t → Steps p.tables e below (s₁.setTop (entryFrame m #[(.int p0), (.int p1), (.long p2), (.int p3), (.long p4)] maxLocals)) t := fun t k => k299 t (by
      show Steps p.tables e below (T289.setTop (mkF m 125 #[.val (.int p0), .val (.int p1), .val (.long p2), .second, .val (.int p3), .val (.long p4), .second, .val (.ref b233), .val (.ref b247), .val (.int ((p1 &&& (255 : Int32)) % (3 : Int32))), .val (.ref aS), .val (.ref b267), .val (.int d12), .val (.int d13), .unset, .unset, .unset] [(.ref b289)])) _
      refine XS.dup X289.here hx rfl (hb hby at_125) rfl rfl ?_
      show Steps p.tables e below (T289.setTop (mkF m 126 #[.val (.int p0), .val (.int p1), .val (.long p2), .second, .val (.int p3), .val (.long p4), .second, .val (.ref b233), .val (.ref b247), .val (.int ((p1 &&& (255 : Int32)) % (3 : Int32))), .val (.ref aS), .val (.ref b267), .val (.int d12), .val (.int d13), .unset, .unset, .unset] [(.ref b289), (.ref b289)])) _
      refine XS.iload X289.here hx rfl (hb hby at_126) rfl ?_
      show Steps p.tables e below (T289.setTop (mkF m 128 #[.val (.int p0), .val (.int p1), .val (.long p2), .second, .val (.int p3), .val (.long p4), .second, .val (.ref b233), .val (.ref b247), .val (.int ((p1 &&& (255 : Int32)) % (3 : Int32))), .val (.ref aS), .val (.ref b267), .val (.int d12), .val (.int d13), .unset, .unset, .unset] [(.int p3), (.ref b289), (.ref b289)])) _
      refine XS.iload X289.here hx rfl (hb hby at_128) rfl ?_
      exact k)
    obtain ⟨_, _, ⟨T301, L301, kc301, ks301⟩, -, X301, ⟨Lc301, hQ301, l301, y301, z301⟩, st301⟩ := X289.specialBack hx (y := (⟨"com/example/pen_over_wire/penoverwire/model/FailedAttempts", "<init>", "(IZ)V"⟩ : MethodName)) rfl hown (mvT hZ (hw _ (List.mem_of_getElem? (i := 36) rfl))) (mvT hZ (hw _ (List.mem_of_getElem? (i := 37) rfl))) (mvT hZ (hw _ (List.mem_of_getElem? (i := 38) rfl))) (by decide) (backOf (W := 1) (rm7 l Z a0 hw [] b289 p3 d13 h289 n0 Z292 F297 F298 A289 g_b289 h_d13) hZ (hw _ (List.mem_of_getElem? (i := 38) rfl)) (hw _ (List.mem_of_getElem? (i := 35) rfl)) (by decide) (by decide)) (g := (mkF m 130 #[.val (.int p0), .val (.int p1), .val (.long p2), .second, .val (.int p3), .val (.long p4), .second, .val (.ref b233), .val (.ref b247), .val (.int ((p1 &&& (255 : Int32)) % (3 : Int32))), .val (.ref aS), .val (.ref b267), .val (.int d12), .val (.int d13), .unset, .unset, .unset] [(.int d13), (.int p3), (.ref b289), (.ref b289)])) rfl (by rw [hml]; rfl) (Steps.refl _) (a := b289) (argsL := [(.int p3), (.int d13)]) (rest := [(.ref b289)]) (lenOf pd_3 rfl) rfl (by show 2 * 0 + _ ≤ _; exact Nat.le_of_eq rfl) (hb hby at_130) (fun _ _ => ⟨rfl, e289, (by decide : 5 + 0 ≤ _), (by decide : 11 + 0 ≤ _)⟩)
    dsimp only [Pt.U, Pt.locs, Pt.cells, Pt.slots] at X301 l301 y301 z301 st301 hQ301
    subst l301 y301 z301
    obtain ⟨rfl, Nq301, K301⟩ := hQ301
    have N301 := Fr.app N275 Nq301
    have Z302 : n0 ≤ T301.heap.size := Nat.le_trans Z292 K301.1
    have F303 : Old Z n0 T301.heap := Old.keep F293 K301 (allS g_b289 all0)
    have F304 : Exa Z T301.heap b247 "java/lang/String" := (F294).keep K301
    have F305 : Arv Z T301.heap b267 c267 .byte (1 : Int32) [(.int (nar .byte (((p0.toUInt32 >>> ((16 : Int32) &&& 31).toUInt32).toInt32).toInt8.toInt32)))] (.int (0 : Int32)) := (F296).keep K301 (ninS ne291 nin0)
    have F306 : Exa Z T301.heap b289 "com/example/pen_over_wire/penoverwire/model/FailedAttempts" := (A289).keep K301
    have k307 : ∀ t, Steps p.tables e below (T301.setTop (mkF m 133 #[.val (.int p0), .val (.int p1), .val (.long p2), .second, .val (.int p3), .val (.long p4), .second, .val (.ref b233), .val (.ref b247), .val (.int ((p1 &&& (255 : Int32)) % (3 : Int32))), .val (.ref aS), .val (.ref b267), .val (.int d12), .val (.int d13), .unset, .unset, .unset] [(.ref b289)])) t → Steps p.tables e below (s₁.setTop (entryFrame m #[(.int p0), (.int p1), (.long p2), (.int p3), (.long p4)] maxLocals)) t := fun t k => k300 t (st301.trans k)
    have k308 : ∀ t, Steps p.tables e below (T301.setTop (mkF m 135 #[.val (.int p0), .val (.int p1), .val (.long p2), .second, .val (.int p3), .val (.long p4), .second, .val (.ref b233), .val (.ref b247), .val (.int ((p1 &&& (255 : Int32)) % (3 : Int32))), .val (.ref aS), .val (.ref b267), .val (.int d12), .val (.int d13), .val (.ref b289), .unset, .unset] [])) t → Steps p.tables e below (s₁.setTop (entryFrame m #[(.int p0), (.int p1), (.long p2), (.int p3), (.long p4)] maxLocals)) t := fun t k => k307 t (by
      show Steps p.tables e below (T301.setTop (mkF m 133 #[.val (.int p0), .val (.int p1), .val (.long p2), .second, .val (.int p3), .val (.long p4), .second, .val (.ref b233), .val (.ref b247), .val (.int ((p1 &&& (255 : Int32)) % (3 : Int32))), .val (.ref aS), .val (.ref b267), .val (.int d12), .val (.int d13), .unset, .unset, .unset] [(.ref b289)])) _
      refine XS.astore X301.here hx rfl (hb hby at_133) rfl rfl (l' := #[.val (.int p0), .val (.int p1), .val (.long p2), .second, .val (.int p3), .val (.long p4), .second, .val (.ref b233), .val (.ref b247), .val (.int ((p1 &&& (255 : Int32)) % (3 : Int32))), .val (.ref aS), .val (.ref b267), .val (.int d12), .val (.int d13), .val (.ref b289), .unset, .unset]) rfl ?_
      exact k)
    obtain ⟨T309, h309, X309, e309, E309, A309, D309, -, st309⟩ := newO X301 hx hZ hown (hw _ (List.mem_of_getElem? (i := 49) rfl)) (hw _ (List.mem_of_getElem? (i := 50) rfl)) (hw _ (List.mem_of_getElem? (i := 51) rfl)) rfl (g := (mkF m 135 #[.val (.int p0), .val (.int p1), .val (.long p2), .second, .val (.int p3), .val (.long p4), .second, .val (.ref b233), .val (.ref b247), .val (.int ((p1 &&& (255 : Int32)) % (3 : Int32))), .val (.ref aS), .val (.ref b267), .val (.int d12), .val (.int d13), .val (.ref b289), .unset, .unset] [])) rfl (hb hby at_135) (by decide) (by decide)
    obtain ⟨b309, g309⟩ : ∃ z, z = T301.heap.size := ⟨_, rfl⟩
    rw [← g309] at A309 D309 st309
    have ne310 : b247 ≠ b309 := Nat.ne_of_lt (Nat.lt_of_lt_of_le (F304).lt (Nat.le_of_eq g309.symm))
    have ne311 : b267 ≠ b309 := Nat.ne_of_lt (Nat.lt_of_lt_of_le (F305).lt (Nat.le_of_eq g309.symm))
    have ne312 : b289 ≠ b309 := Nat.ne_of_lt (Nat.lt_of_lt_of_le (F306).lt (Nat.le_of_eq g309.symm))
    have g_b309 : n0 ≤ b309 := Nat.le_trans Z302 (Nat.le_of_eq g309.symm)
    have Z313 : n0 ≤ h309.size := Nat.le_trans Z302 E309.1
    have F314 : Old Z n0 h309 := Old.ext F303 E309
    have F315 : Exa Z h309 b247 "java/lang/String" := (F304).ext E309
    have F316 : Arv Z h309 b267 c267 .byte (1 : Int32) [(.int (nar .byte (((p0.toUInt32 >>> ((16 : Int32) &&& 31).toUInt32).toInt32).toInt8.toInt32)))] (.int (0 : Int32)) := (F305).ext E309
    have F317 : Exa Z h309 b289 "com/example/pen_over_wire/penoverwire/model/FailedAttempts" := (F306).ext E309
    have F318 : Fld Z h309 b309 "com/example/pen_over_wire/penoverwire/model/User" "name" "Ljava/lang/String;" .null := D309 (Or.inr (hw _ (List.mem_of_getElem? (i := 57) rfl))) (ty := (.object "java/lang/String")) (by decide)
    have F319 : Fld Z h309 b309 "com/example/pen_over_wire/penoverwire/model/User" "role" "Lcom/example/pen_over_wire/penoverwire/model/Role;" .null := D309 (Or.inr (hw _ (List.mem_of_getElem? (i := 59) rfl))) (ty := (.object "com/example/pen_over_wire/penoverwire/model/Role")) (by decide)
    have F320 : Fld Z h309 b309 "com/example/pen_over_wire/penoverwire/model/User" "password" "Lcom/example/pen_over_wire/penoverwire/crypto/PasswordHash;" .null := D309 (Or.inr (hw _ (List.mem_of_getElem? (i := 61) rfl))) (ty := (.object "com/example/pen_over_wire/penoverwire/crypto/PasswordHash")) (by decide)
    have F321 : Fld Z h309 b309 "com/example/pen_over_wire/penoverwire/model/User" "totpSecret" "[B" .null := D309 (Or.inr (hw _ (List.mem_of_getElem? (i := 63) rfl))) (ty := (.array .byte)) (by decide)
    have F322 : Fld Z h309 b309 "com/example/pen_over_wire/penoverwire/model/User" "lastOtpStep" "J" (.long (0 : Int64)) := D309 (Or.inr (hw _ (List.mem_of_getElem? (i := 65) rfl))) (ty := .long) (by decide)
    have F323 : Fld Z h309 b309 "com/example/pen_over_wire/penoverwire/model/User" "failedLogins" "Lcom/example/pen_over_wire/penoverwire/model/FailedAttempts;" .null := D309 (Or.inr (hw _ (List.mem_of_getElem? (i := 67) rfl))) (ty := (.object "com/example/pen_over_wire/penoverwire/model/FailedAttempts")) (by decide)
    have F324 : Fld Z h309 b309 "com/example/pen_over_wire/penoverwire/model/User" "disabled" "Z" (.int (0 : Int32)) := D309 (Or.inr (hw _ (List.mem_of_getElem? (i := 69) rfl))) (ty := .boolean) (by decide)
    have F325 : Fld Z h309 b309 "com/example/pen_over_wire/penoverwire/model/User" "sessionEpoch" "J" (.long (0 : Int64)) := D309 (Or.inr (hw _ (List.mem_of_getElem? (i := 71) rfl))) (ty := .long) (by decide)
    have k326 : ∀ t, Steps p.tables e below (T309.setTop (mkF m 138 #[.val (.int p0), .val (.int p1), .val (.long p2), .second, .val (.int p3), .val (.long p4), .second, .val (.ref b233), .val (.ref b247), .val (.int ((p1 &&& (255 : Int32)) % (3 : Int32))), .val (.ref aS), .val (.ref b267), .val (.int d12), .val (.int d13), .val (.ref b289), .unset, .unset] [(.ref b309)])) t → Steps p.tables e below (s₁.setTop (entryFrame m #[(.int p0), (.int p1), (.long p2), (.int p3), (.long p4)] maxLocals)) t := fun t k => k308 t (st309 t k)
    have k327 : ∀ t, Steps p.tables e below (T309.setTop (mkF m 153 #[.val (.int p0), .val (.int p1), .val (.long p2), .second, .val (.int p3), .val (.long p4), .second, .val (.ref b233), .val (.ref b247), .val (.int ((p1 &&& (255 : Int32)) % (3 : Int32))), .val (.ref aS), .val (.ref b267), .val (.int d12), .val (.int d13), .val (.ref b289), .unset, .unset] [(.long p4), (.int d12), (.ref b289), (.long p2), (.ref b267), .null, (.ref aS), (.ref b247), (.ref b309), (.ref b309)])) t → Steps p.tables e below (s₁.setTop (entryFrame m #[(.int p0), (.int p1), (.long p2), (.int p3), (.long p4)] maxLocals)) t := fun t k => k326 t (by
      show Steps p.tables e below (T309.setTop (mkF m 138 #[.val (.int p0), .val (.int p1), .val (.long p2), .second, .val (.int p3), .val (.long p4), .second, .val (.ref b233), .val (.ref b247), .val (.int ((p1 &&& (255 : Int32)) % (3 : Int32))), .val (.ref aS), .val (.ref b267), .val (.int d12), .val (.int d13), .val (.ref b289), .unset, .unset] [(.ref b309)])) _
      refine XS.dup X309.here hx rfl (hb hby at_138) rfl rfl ?_
      show Steps p.tables e below (T309.setTop (mkF m 139 #[.val (.int p0), .val (.int p1), .val (.long p2), .second, .val (.int p3), .val (.long p4), .second, .val (.ref b233), .val (.ref b247), .val (.int ((p1 &&& (255 : Int32)) % (3 : Int32))), .val (.ref aS), .val (.ref b267), .val (.int d12), .val (.int d13), .val (.ref b289), .unset, .unset] [(.ref b309), (.ref b309)])) _
      refine XS.aload X309.here hx rfl (hb hby at_139) rfl rfl ?_
      show Steps p.tables e below (T309.setTop (mkF m 141 #[.val (.int p0), .val (.int p1), .val (.long p2), .second, .val (.int p3), .val (.long p4), .second, .val (.ref b233), .val (.ref b247), .val (.int ((p1 &&& (255 : Int32)) % (3 : Int32))), .val (.ref aS), .val (.ref b267), .val (.int d12), .val (.int d13), .val (.ref b289), .unset, .unset] [(.ref b247), (.ref b309), (.ref b309)])) _
      refine XS.aload X309.here hx rfl (hb hby at_141) rfl rfl ?_
      show Steps p.tables e below (T309.setTop (mkF m 143 #[.val (.int p0), .val (.int p1), .val (.long p2), .second, .val (.int p3), .val (.long p4), .second, .val (.ref b233), .val (.ref b247), .val (.int ((p1 &&& (255 : Int32)) % (3 : Int32))), .val (.ref aS), .val (.ref b267), .val (.int d12), .val (.int d13), .val (.ref b289), .unset, .unset] [(.ref aS), (.ref b247), (.ref b309), (.ref b309)])) _
      refine XS.aconstNull X309.here hx rfl (hb hby at_143) ?_
      show Steps p.tables e below (T309.setTop (mkF m 144 #[.val (.int p0), .val (.int p1), .val (.long p2), .second, .val (.int p3), .val (.long p4), .second, .val (.ref b233), .val (.ref b247), .val (.int ((p1 &&& (255 : Int32)) % (3 : Int32))), .val (.ref aS), .val (.ref b267), .val (.int d12), .val (.int d13), .val (.ref b289), .unset, .unset] [.null, (.ref aS), (.ref b247), (.ref b309), (.ref b309)])) _
      refine XS.aload X309.here hx rfl (hb hby at_144) rfl rfl ?_
      show Steps p.tables e below (T309.setTop (mkF m 146 #[.val (.int p0), .val (.int p1), .val (.long p2), .second, .val (.int p3), .val (.long p4), .second, .val (.ref b233), .val (.ref b247), .val (.int ((p1 &&& (255 : Int32)) % (3 : Int32))), .val (.ref aS), .val (.ref b267), .val (.int d12), .val (.int d13), .val (.ref b289), .unset, .unset] [(.ref b267), .null, (.ref aS), (.ref b247), (.ref b309), (.ref b309)])) _
      refine XS.lloadN X309.here hx rfl (hb hby at_146) rfl ?_
      show Steps p.tables e below (T309.setTop (mkF m 147 #[.val (.int p0), .val (.int p1), .val (.long p2), .second, .val (.int p3), .val (.long p4), .second, .val (.ref b233), .val (.ref b247), .val (.int ((p1 &&& (255 : Int32)) % (3 : Int32))), .val (.ref aS), .val (.ref b267), .val (.int d12), .val (.int d13), .val (.ref b289), .unset, .unset] [(.long p2), (.ref b267), .null, (.ref aS), (.ref b247), (.ref b309), (.ref b309)])) _
      refine XS.aload X309.here hx rfl (hb hby at_147) rfl rfl ?_
      show Steps p.tables e below (T309.setTop (mkF m 149 #[.val (.int p0), .val (.int p1), .val (.long p2), .second, .val (.int p3), .val (.long p4), .second, .val (.ref b233), .val (.ref b247), .val (.int ((p1 &&& (255 : Int32)) % (3 : Int32))), .val (.ref aS), .val (.ref b267), .val (.int d12), .val (.int d13), .val (.ref b289), .unset, .unset] [(.ref b289), (.long p2), (.ref b267), .null, (.ref aS), (.ref b247), (.ref b309), (.ref b309)])) _
      refine XS.iload X309.here hx rfl (hb hby at_149) rfl ?_
      show Steps p.tables e below (T309.setTop (mkF m 151 #[.val (.int p0), .val (.int p1), .val (.long p2), .second, .val (.int p3), .val (.long p4), .second, .val (.ref b233), .val (.ref b247), .val (.int ((p1 &&& (255 : Int32)) % (3 : Int32))), .val (.ref aS), .val (.ref b267), .val (.int d12), .val (.int d13), .val (.ref b289), .unset, .unset] [(.int d12), (.ref b289), (.long p2), (.ref b267), .null, (.ref aS), (.ref b247), (.ref b309), (.ref b309)])) _
      refine XS.lload X309.here hx rfl (hb hby at_151) rfl ?_
      exact k)
    obtain ⟨_, _, ⟨T328, L328, kc328, ks328⟩, -, X328, ⟨Lc328, hQ328, l328, y328, z328⟩, st328⟩ := X309.specialBack hx (y := (⟨"com/example/pen_over_wire/penoverwire/model/User", "<init>", "(Ljava/lang/String;Lcom/example/pen_over_wire/penoverwire/model/Role;Lcom/example/pen_over_wire/penoverwire/crypto/PasswordHash;[BJLcom/example/pen_over_wire/penoverwire/model/FailedAttempts;ZJ)V"⟩ : MethodName)) rfl hown (mvT hZ (hw _ (List.mem_of_getElem? (i := 52) rfl))) (mvT hZ (hw _ (List.mem_of_getElem? (i := 53) rfl))) (mvT hZ (hw _ (List.mem_of_getElem? (i := 54) rfl))) (by decide) (backOf (W := 1) (rm9 l Z a0 hw [] b309 (Value.ref b247) (Value.ref aS) Value.null (Value.ref b267) p2 (Value.ref b289) d12 p4 h309 n0 Z313 rfl rfl rfl rfl rfl h_d12 F318 F319 F320 F321 F322 F323 F324 F325 A309 g_b309) hZ (hw _ (List.mem_of_getElem? (i := 54) rfl)) (hw _ (List.mem_of_getElem? (i := 51) rfl)) (by decide) (by decide)) (g := (mkF m 153 #[.val (.int p0), .val (.int p1), .val (.long p2), .second, .val (.int p3), .val (.long p4), .second, .val (.ref b233), .val (.ref b247), .val (.int ((p1 &&& (255 : Int32)) % (3 : Int32))), .val (.ref aS), .val (.ref b267), .val (.int d12), .val (.int d13), .val (.ref b289), .unset, .unset] [(.long p4), (.int d12), (.ref b289), (.long p2), (.ref b267), .null, (.ref aS), (.ref b247), (.ref b309), (.ref b309)])) rfl (by rw [hml]; rfl) (Steps.refl _) (a := b309) (argsL := [(.ref b247), (.ref aS), .null, (.ref b267), (.long p2), (.ref b289), (.int d12), (.long p4)]) (rest := [(.ref b309)]) (lenOf pd_1 rfl) rfl (by show 2 * 0 + _ ≤ _; exact Nat.le_of_eq rfl) (hb hby at_153) (fun _ _ => ⟨rfl, e309, (by decide : 6 + 0 ≤ _), (by decide : 19 + 0 ≤ _)⟩)
    dsimp only [Pt.U, Pt.locs, Pt.cells, Pt.slots] at X328 l328 y328 z328 st328 hQ328
    subst l328 y328 z328
    obtain ⟨rfl, Nq328, K328, Ax328, Fx328_0, Fx328_1, Fx328_2, Fx328_3, Fx328_4, Fx328_5, Fx328_6, Fx328_7⟩ := hQ328
    have N328 := Fr.app N301 Nq328
    have Z329 : n0 ≤ T328.heap.size := Nat.le_trans Z313 K328.1
    have F330 : Old Z n0 T328.heap := Old.keep F314 K328 (allS g_b309 all0)
    have F331 : Exa Z T328.heap b247 "java/lang/String" := (F315).keep K328
    have F332 : Arv Z T328.heap b267 c267 .byte (1 : Int32) [(.int (nar .byte (((p0.toUInt32 >>> ((16 : Int32) &&& 31).toUInt32).toInt32).toInt8.toInt32)))] (.int (0 : Int32)) := (F316).keep K328 (ninS ne311 nin0)
    have F333 : Exa Z T328.heap b289 "com/example/pen_over_wire/penoverwire/model/FailedAttempts" := (F317).keep K328
    have F334 : Exa Z T328.heap b309 "com/example/pen_over_wire/penoverwire/model/User" := (A309).keep K328
    have k335 : ∀ t, Steps p.tables e below (T328.setTop (mkF m 156 #[.val (.int p0), .val (.int p1), .val (.long p2), .second, .val (.int p3), .val (.long p4), .second, .val (.ref b233), .val (.ref b247), .val (.int ((p1 &&& (255 : Int32)) % (3 : Int32))), .val (.ref aS), .val (.ref b267), .val (.int d12), .val (.int d13), .val (.ref b289), .unset, .unset] [(.ref b309)])) t → Steps p.tables e below (s₁.setTop (entryFrame m #[(.int p0), (.int p1), (.long p2), (.int p3), (.long p4)] maxLocals)) t := fun t k => k327 t (st328.trans k)
    have k336 : ∀ t, Steps p.tables e below (T328.setTop (mkF m 160 #[.val (.int p0), .val (.int p1), .val (.long p2), .second, .val (.int p3), .val (.long p4), .second, .val (.ref b233), .val (.ref b247), .val (.int ((p1 &&& (255 : Int32)) % (3 : Int32))), .val (.ref aS), .val (.ref b267), .val (.int d12), .val (.int d13), .val (.ref b289), .val (.ref b309), .unset] [(.ref b309)])) t → Steps p.tables e below (s₁.setTop (entryFrame m #[(.int p0), (.int p1), (.long p2), (.int p3), (.long p4)] maxLocals)) t := fun t k => k335 t (by
      show Steps p.tables e below (T328.setTop (mkF m 156 #[.val (.int p0), .val (.int p1), .val (.long p2), .second, .val (.int p3), .val (.long p4), .second, .val (.ref b233), .val (.ref b247), .val (.int ((p1 &&& (255 : Int32)) % (3 : Int32))), .val (.ref aS), .val (.ref b267), .val (.int d12), .val (.int d13), .val (.ref b289), .unset, .unset] [(.ref b309)])) _
      refine XS.astore X328.here hx rfl (hb hby at_156) rfl rfl (l' := #[.val (.int p0), .val (.int p1), .val (.long p2), .second, .val (.int p3), .val (.long p4), .second, .val (.ref b233), .val (.ref b247), .val (.int ((p1 &&& (255 : Int32)) % (3 : Int32))), .val (.ref aS), .val (.ref b267), .val (.int d12), .val (.int d13), .val (.ref b289), .val (.ref b309), .unset]) rfl ?_
      show Steps p.tables e below (T328.setTop (mkF m 158 #[.val (.int p0), .val (.int p1), .val (.long p2), .second, .val (.int p3), .val (.long p4), .second, .val (.ref b233), .val (.ref b247), .val (.int ((p1 &&& (255 : Int32)) % (3 : Int32))), .val (.ref aS), .val (.ref b267), .val (.int d12), .val (.int d13), .val (.ref b289), .val (.ref b309), .unset] [])) _
      refine XS.aload X328.here hx rfl (hb hby at_158) rfl rfl ?_
      exact k)
    obtain ⟨b337, g337⟩ : ∃ z, z = T328.heap.size := ⟨_, rfl⟩
    have ne338 : b247 ≠ b337 := Nat.ne_of_lt (Nat.lt_of_lt_of_le (F331).lt (Nat.le_of_eq g337.symm))
    have ne339 : b267 ≠ b337 := Nat.ne_of_lt (Nat.lt_of_lt_of_le (F332).lt (Nat.le_of_eq g337.symm))
    have ne340 : b289 ≠ b337 := Nat.ne_of_lt (Nat.lt_of_lt_of_le (F333).lt (Nat.le_of_eq g337.symm))
    have ne341 : b309 ≠ b337 := Nat.ne_of_lt (Nat.lt_of_lt_of_le (F334).lt (Nat.le_of_eq g337.symm))
    have g_b337 : n0 ≤ b337 := Nat.le_trans Z329 (Nat.le_of_eq g337.symm)
    obtain ⟨cq342, kq342, q342a, q342b, q342c⟩ := isOf hZ rfl F334
    obtain ⟨_, _, ⟨T342, L342, kc342, ks342⟩, -, X342, ⟨Lc342, hQ342, l342, y342, z342⟩, st342⟩ := X328.virtualBack hx (y := (⟨"com/example/pen_over_wire/penoverwire/model/User", "disable", "()Lcom/example/pen_over_wire/penoverwire/model/User;"⟩ : MethodName)) (z := (⟨"com/example/pen_over_wire/penoverwire/model/User", "disable", "()Lcom/example/pen_over_wire/penoverwire/model/User;"⟩ : MethodName)) hown (mvT hZ (hw _ (List.mem_of_getElem? (i := 72) rfl))) (mvT hZ (hw _ (List.mem_of_getElem? (i := 73) rfl))) (notFace_of_selects (args := #[]) (mvT hZ (hw _ (List.mem_of_getElem? (i := 75) rfl)))) (mvT hZ (hw _ (List.mem_of_getElem? (i := 75) rfl))) (mvT hZ (hw _ (List.mem_of_getElem? (i := 74) rfl))) (by decide) (backOf (W := 0) (rm10 l Z a0 hw [] b309 b337 (Value.ref b247) (Value.ref aS) Value.null (Value.ref b267) p2 (Value.ref b289) d12 p4 T328.heap n0 Z329 rfl rfl rfl rfl rfl Fx328_0 Fx328_1 Fx328_2 Fx328_3 Fx328_4 Fx328_5 Fx328_6 Fx328_7 F334 g337) hZ (hw _ (List.mem_of_getElem? (i := 76) rfl)) (hw _ (List.mem_of_getElem? (i := 51) rfl)) (by decide) (by decide)) q342a q342c (g := (mkF m 160 #[.val (.int p0), .val (.int p1), .val (.long p2), .second, .val (.int p3), .val (.long p4), .second, .val (.ref b233), .val (.ref b247), .val (.int ((p1 &&& (255 : Int32)) % (3 : Int32))), .val (.ref aS), .val (.ref b267), .val (.int d12), .val (.int d13), .val (.ref b289), .val (.ref b309), .unset] [(.ref b309)])) rfl (by rw [hml]; rfl) (Steps.refl _) (argsL := []) (rest := []) (lenOf pd_4 rfl) rfl (by show 2 * 0 + _ ≤ _; exact Nat.le_of_eq rfl) (hb hby at_160) (fun _ _ => ⟨rfl, rfl, (by decide : 6 + 1 ≤ _), (by decide : 19 + 8 ≤ _)⟩)
    dsimp only [Pt.U, Pt.locs, Pt.cells, Pt.slots] at X342 l342 y342 z342 st342 hQ342
    subst l342 y342 z342
    obtain ⟨rfl, Nq342, K342, Ax342, Fx342_0, Fx342_1, Fx342_2, Fx342_3, Fx342_4, Fx342_5, Fx342_6, Fx342_7⟩ := hQ342
    have N342 := Fr.app N328 Nq342
    have Z343 : n0 ≤ T342.heap.size := Nat.le_trans Z329 K342.1
    have F344 : Old Z n0 T342.heap := Old.keep F330 K342 all0
    have F345 : Exa Z T342.heap b247 "java/lang/String" := (F331).keep K342
    have F346 : Arv Z T342.heap b267 c267 .byte (1 : Int32) [(.int (nar .byte (((p0.toUInt32 >>> ((16 : Int32) &&& 31).toUInt32).toInt32).toInt8.toInt32)))] (.int (0 : Int32)) := (F332).keep K342 nin0
    have F347 : Exa Z T342.heap b289 "com/example/pen_over_wire/penoverwire/model/FailedAttempts" := (F333).keep K342
    have F348 : Exa Z T342.heap b309 "com/example/pen_over_wire/penoverwire/model/User" := (F334).keep K342
    have F349 : Fld Z T342.heap b309 "com/example/pen_over_wire/penoverwire/model/User" "name" "Ljava/lang/String;" (.ref b247) := (Fx328_0).keep K342 nin0
    have F350 : Fld Z T342.heap b309 "com/example/pen_over_wire/penoverwire/model/User" "role" "Lcom/example/pen_over_wire/penoverwire/model/Role;" (.ref aS) := (Fx328_1).keep K342 nin0
    have F351 : Fld Z T342.heap b309 "com/example/pen_over_wire/penoverwire/model/User" "password" "Lcom/example/pen_over_wire/penoverwire/crypto/PasswordHash;" .null := (Fx328_2).keep K342 nin0
    have F352 : Fld Z T342.heap b309 "com/example/pen_over_wire/penoverwire/model/User" "totpSecret" "[B" (.ref b267) := (Fx328_3).keep K342 nin0
    have F353 : Fld Z T342.heap b309 "com/example/pen_over_wire/penoverwire/model/User" "lastOtpStep" "J" (.long p2) := (Fx328_4).keep K342 nin0
    have F354 : Fld Z T342.heap b309 "com/example/pen_over_wire/penoverwire/model/User" "failedLogins" "Lcom/example/pen_over_wire/penoverwire/model/FailedAttempts;" (.ref b289) := (Fx328_5).keep K342 nin0
    have F355 : Fld Z T342.heap b309 "com/example/pen_over_wire/penoverwire/model/User" "disabled" "Z" (.int d12) := (Fx328_6).keep K342 nin0
    have F356 : Fld Z T342.heap b309 "com/example/pen_over_wire/penoverwire/model/User" "sessionEpoch" "J" (.long p4) := (Fx328_7).keep K342 nin0
    have k357 : ∀ t, Steps p.tables e below (T342.setTop (mkF m 163 #[.val (.int p0), .val (.int p1), .val (.long p2), .second, .val (.int p3), .val (.long p4), .second, .val (.ref b233), .val (.ref b247), .val (.int ((p1 &&& (255 : Int32)) % (3 : Int32))), .val (.ref aS), .val (.ref b267), .val (.int d12), .val (.int d13), .val (.ref b289), .val (.ref b309), .unset] [(.ref b337)])) t → Steps p.tables e below (s₁.setTop (entryFrame m #[(.int p0), (.int p1), (.long p2), (.int p3), (.long p4)] maxLocals)) t := fun t k => k336 t (st342.trans k)
    have k358 : ∀ t, Steps p.tables e below (T342.setTop (mkF m 167 #[.val (.int p0), .val (.int p1), .val (.long p2), .second, .val (.int p3), .val (.long p4), .second, .val (.ref b233), .val (.ref b247), .val (.int ((p1 &&& (255 : Int32)) % (3 : Int32))), .val (.ref aS), .val (.ref b267), .val (.int d12), .val (.int d13), .val (.ref b289), .val (.ref b309), .val (.ref b337)] [(.ref b337)])) t → Steps p.tables e below (s₁.setTop (entryFrame m #[(.int p0), (.int p1), (.long p2), (.int p3), (.long p4)] maxLocals)) t := fun t k => k357 t (by
      show Steps p.tables e below (T342.setTop (mkF m 163 #[.val (.int p0), .val (.int p1), .val (.long p2), .second, .val (.int p3), .val (.long p4), .second, .val (.ref b233), .val (.ref b247), .val (.int ((p1 &&& (255 : Int32)) % (3 : Int32))), .val (.ref aS), .val (.ref b267), .val (.int d12), .val (.int d13), .val (.ref b289), .val (.ref b309), .unset] [(.ref b337)])) _
      refine XS.astore X342.here hx rfl (hb hby at_163) rfl rfl (l' := #[.val (.int p0), .val (.int p1), .val (.long p2), .second, .val (.int p3), .val (.long p4), .second, .val (.ref b233), .val (.ref b247), .val (.int ((p1 &&& (255 : Int32)) % (3 : Int32))), .val (.ref aS), .val (.ref b267), .val (.int d12), .val (.int d13), .val (.ref b289), .val (.ref b309), .val (.ref b337)]) rfl ?_
      show Steps p.tables e below (T342.setTop (mkF m 165 #[.val (.int p0), .val (.int p1), .val (.long p2), .second, .val (.int p3), .val (.long p4), .second, .val (.ref b233), .val (.ref b247), .val (.int ((p1 &&& (255 : Int32)) % (3 : Int32))), .val (.ref aS), .val (.ref b267), .val (.int d12), .val (.int d13), .val (.ref b289), .val (.ref b309), .val (.ref b337)] [])) _
      refine XS.aload X342.here hx rfl (hb hby at_165) rfl rfl ?_
      exact k)
    obtain ⟨cq359, kq359, q359a, q359b, q359c⟩ := isOf hZ rfl Ax342
    obtain ⟨_, _, ⟨T359, L359, kc359, ks359⟩, -, X359, ⟨Lc359, hQ359, l359, y359, z359⟩, st359⟩ := X342.virtualBack hx (y := (⟨"com/example/pen_over_wire/penoverwire/model/User", "name", "()Ljava/lang/String;"⟩ : MethodName)) (z := (⟨"com/example/pen_over_wire/penoverwire/model/User", "name", "()Ljava/lang/String;"⟩ : MethodName)) hown (mvT hZ (hw _ (List.mem_of_getElem? (i := 79) rfl))) (mvT hZ (hw _ (List.mem_of_getElem? (i := 80) rfl))) (notFace_of_selects (args := #[]) (mvT hZ (hw _ (List.mem_of_getElem? (i := 82) rfl)))) (mvT hZ (hw _ (List.mem_of_getElem? (i := 82) rfl))) (mvT hZ (hw _ (List.mem_of_getElem? (i := 81) rfl))) (by decide) (backOf (W := 0) (rm11 l Z a0 hw [] b337 (Value.ref b247) T342.heap n0 Z343 rfl Fx342_0) hZ (hw _ (List.mem_of_getElem? (i := 83) rfl)) (hw _ (List.mem_of_getElem? (i := 51) rfl)) (by decide) (by decide)) q359a q359c (g := (mkF m 167 #[.val (.int p0), .val (.int p1), .val (.long p2), .second, .val (.int p3), .val (.long p4), .second, .val (.ref b233), .val (.ref b247), .val (.int ((p1 &&& (255 : Int32)) % (3 : Int32))), .val (.ref aS), .val (.ref b267), .val (.int d12), .val (.int d13), .val (.ref b289), .val (.ref b309), .val (.ref b337)] [(.ref b337)])) rfl (by rw [hml]; rfl) (Steps.refl _) (argsL := []) (rest := []) (lenOf pd_5 rfl) rfl (by show 2 * 0 + _ ≤ _; exact Nat.le_of_eq rfl) (hb hby at_167) (fun _ _ => ⟨rfl, rfl, (by decide : 7 + 0 ≤ _), (by decide : 27 + 0 ≤ _)⟩)
    dsimp only [Pt.U, Pt.locs, Pt.cells, Pt.slots] at X359 l359 y359 z359 st359 hQ359
    subst l359 y359 z359
    obtain ⟨rfl, Nq359, eq359⟩ := hQ359
    have N359 := Fr.app N342 Nq359
    have k360 : ∀ t, Steps p.tables e below (T359.setTop (mkF m 170 #[.val (.int p0), .val (.int p1), .val (.long p2), .second, .val (.int p3), .val (.long p4), .second, .val (.ref b233), .val (.ref b247), .val (.int ((p1 &&& (255 : Int32)) % (3 : Int32))), .val (.ref aS), .val (.ref b267), .val (.int d12), .val (.int d13), .val (.ref b289), .val (.ref b309), .val (.ref b337)] [(.ref b247)])) t → Steps p.tables e below (s₁.setTop (entryFrame m #[(.int p0), (.int p1), (.long p2), (.int p3), (.long p4)] maxLocals)) t := fun t k => k358 t (st359.trans k)
    have k361 : ∀ t, Steps p.tables e below (T359.setTop (mkF m 177 #[.val (.int p0), .val (.int p1), .val (.long p2), .second, .val (.int p3), .val (.long p4), .second, .val (.ref b233), .val (.ref b247), .val (.int ((p1 &&& (255 : Int32)) % (3 : Int32))), .val (.ref aS), .val (.ref b267), .val (.int d12), .val (.int d13), .val (.ref b289), .val (.ref b309), .val (.ref b337)] [(.ref b337)])) t → Steps p.tables e below (s₁.setTop (entryFrame m #[(.int p0), (.int p1), (.long p2), (.int p3), (.long p4)] maxLocals)) t := fun t k => k360 t (by
      show Steps p.tables e below (T359.setTop (mkF m 170 #[.val (.int p0), .val (.int p1), .val (.long p2), .second, .val (.int p3), .val (.long p4), .second, .val (.ref b233), .val (.ref b247), .val (.int ((p1 &&& (255 : Int32)) % (3 : Int32))), .val (.ref aS), .val (.ref b267), .val (.int d12), .val (.int d13), .val (.ref b289), .val (.ref b309), .val (.ref b337)] [(.ref b247)])) _
      refine XS.aload X359.here hx rfl (hb hby at_170) rfl rfl ?_
      show Steps p.tables e below (T359.setTop (mkF m 172 #[.val (.int p0), .val (.int p1), .val (.long p2), .second, .val (.int p3), .val (.long p4), .second, .val (.ref b233), .val (.ref b247), .val (.int ((p1 &&& (255 : Int32)) % (3 : Int32))), .val (.ref aS), .val (.ref b267), .val (.int d12), .val (.int d13), .val (.ref b289), .val (.ref b309), .val (.ref b337)] [(.ref b247), (.ref b247)])) _
      refine Jvm.RoadKit.acmp (g := (mkF m 172 #[.val (.int p0), .val (.int p1), .val (.long p2), .second, .val (.int p3), .val (.long p4), .second, .val (.ref b233), .val (.ref b247), .val (.int ((p1 &&& (255 : Int32)) % (3 : Int32))), .val (.ref aS), .val (.ref b267), .val (.int d12), .val (.int d13), .val (.ref b289), .val (.ref b309), .val (.ref b337)] [(.ref b247), (.ref b247)])) X359 hx rfl rfl rfl (pc0 := 172) (pc' := 175) (same := true) rfl (hb hby at_172) rfl (decide_eq_true (congrArg Value.ref (rfl : b247 = b247))) (by decide) (by decide) ?_
      show Steps p.tables e below (T359.setTop (mkF m 175 #[.val (.int p0), .val (.int p1), .val (.long p2), .second, .val (.int p3), .val (.long p4), .second, .val (.ref b233), .val (.ref b247), .val (.int ((p1 &&& (255 : Int32)) % (3 : Int32))), .val (.ref aS), .val (.ref b267), .val (.int d12), .val (.int d13), .val (.ref b289), .val (.ref b309), .val (.ref b337)] [])) _
      refine XS.aload X359.here hx rfl (hb hby at_175) rfl rfl ?_
      exact k)
    obtain ⟨cq362, kq362, q362a, q362b, q362c⟩ := isOf hZ eq359 Ax342
    obtain ⟨_, _, ⟨T362, L362, kc362, ks362⟩, -, X362, ⟨Lc362, hQ362, l362, y362, z362⟩, st362⟩ := X359.virtualBack hx (y := (⟨"com/example/pen_over_wire/penoverwire/model/User", "role", "()Lcom/example/pen_over_wire/penoverwire/model/Role;"⟩ : MethodName)) (z := (⟨"com/example/pen_over_wire/penoverwire/model/User", "role", "()Lcom/example/pen_over_wire/penoverwire/model/Role;"⟩ : MethodName)) hown (mvT hZ (hw _ (List.mem_of_getElem? (i := 84) rfl))) (mvT hZ (hw _ (List.mem_of_getElem? (i := 85) rfl))) (notFace_of_selects (args := #[]) (mvT hZ (hw _ (List.mem_of_getElem? (i := 87) rfl)))) (mvT hZ (hw _ (List.mem_of_getElem? (i := 87) rfl))) (mvT hZ (hw _ (List.mem_of_getElem? (i := 86) rfl))) (by decide) (backOf (W := 0) (rm12 l Z a0 hw [] b337 (Value.ref aS) T342.heap n0 Z343 rfl Fx342_1) hZ (hw _ (List.mem_of_getElem? (i := 88) rfl)) (hw _ (List.mem_of_getElem? (i := 51) rfl)) (by decide) (by decide)) q362a q362c (g := (mkF m 177 #[.val (.int p0), .val (.int p1), .val (.long p2), .second, .val (.int p3), .val (.long p4), .second, .val (.ref b233), .val (.ref b247), .val (.int ((p1 &&& (255 : Int32)) % (3 : Int32))), .val (.ref aS), .val (.ref b267), .val (.int d12), .val (.int d13), .val (.ref b289), .val (.ref b309), .val (.ref b337)] [(.ref b337)])) rfl (by rw [hml]; rfl) (Steps.refl _) (argsL := []) (rest := []) (lenOf pd_6 rfl) rfl (by show 2 * 0 + _ ≤ _; exact Nat.le_of_eq rfl) (hb hby at_177) (fun _ _ => ⟨rfl, eq359, (by decide : 7 + 0 ≤ _), (by decide : 27 + 0 ≤ _)⟩)
    dsimp only [Pt.U, Pt.locs, Pt.cells, Pt.slots] at X362 l362 y362 z362 st362 hQ362
    subst l362 y362 z362
    obtain ⟨rfl, Nq362, eq362⟩ := hQ362
    have N362 := Fr.app N359 Nq362
    have k363 : ∀ t, Steps p.tables e below (T362.setTop (mkF m 180 #[.val (.int p0), .val (.int p1), .val (.long p2), .second, .val (.int p3), .val (.long p4), .second, .val (.ref b233), .val (.ref b247), .val (.int ((p1 &&& (255 : Int32)) % (3 : Int32))), .val (.ref aS), .val (.ref b267), .val (.int d12), .val (.int d13), .val (.ref b289), .val (.ref b309), .val (.ref b337)] [(.ref aS)])) t → Steps p.tables e below (s₁.setTop (entryFrame m #[(.int p0), (.int p1), (.long p2), (.int p3), (.long p4)] maxLocals)) t := fun t k => k361 t (st362.trans k)
    have k364 : ∀ t, Steps p.tables e below (T362.setTop (mkF m 187 #[.val (.int p0), .val (.int p1), .val (.long p2), .second, .val (.int p3), .val (.long p4), .second, .val (.ref b233), .val (.ref b247), .val (.int ((p1 &&& (255 : Int32)) % (3 : Int32))), .val (.ref aS), .val (.ref b267), .val (.int d12), .val (.int d13), .val (.ref b289), .val (.ref b309), .val (.ref b337)] [(.ref b337)])) t → Steps p.tables e below (s₁.setTop (entryFrame m #[(.int p0), (.int p1), (.long p2), (.int p3), (.long p4)] maxLocals)) t := fun t k => k363 t (by
      show Steps p.tables e below (T362.setTop (mkF m 180 #[.val (.int p0), .val (.int p1), .val (.long p2), .second, .val (.int p3), .val (.long p4), .second, .val (.ref b233), .val (.ref b247), .val (.int ((p1 &&& (255 : Int32)) % (3 : Int32))), .val (.ref aS), .val (.ref b267), .val (.int d12), .val (.int d13), .val (.ref b289), .val (.ref b309), .val (.ref b337)] [(.ref aS)])) _
      refine XS.aload X362.here hx rfl (hb hby at_180) rfl rfl ?_
      show Steps p.tables e below (T362.setTop (mkF m 182 #[.val (.int p0), .val (.int p1), .val (.long p2), .second, .val (.int p3), .val (.long p4), .second, .val (.ref b233), .val (.ref b247), .val (.int ((p1 &&& (255 : Int32)) % (3 : Int32))), .val (.ref aS), .val (.ref b267), .val (.int d12), .val (.int d13), .val (.ref b289), .val (.ref b309), .val (.ref b337)] [(.ref aS), (.ref aS)])) _
      refine Jvm.RoadKit.acmp (g := (mkF m 182 #[.val (.int p0), .val (.int p1), .val (.long p2), .second, .val (.int p3), .val (.long p4), .second, .val (.ref b233), .val (.ref b247), .val (.int ((p1 &&& (255 : Int32)) % (3 : Int32))), .val (.ref aS), .val (.ref b267), .val (.int d12), .val (.int d13), .val (.ref b289), .val (.ref b309), .val (.ref b337)] [(.ref aS), (.ref aS)])) X362 hx rfl rfl rfl (pc0 := 182) (pc' := 185) (same := true) rfl (hb hby at_182) rfl (decide_eq_true (congrArg Value.ref (rfl : aS = aS))) (by decide) (by decide) ?_
      show Steps p.tables e below (T362.setTop (mkF m 185 #[.val (.int p0), .val (.int p1), .val (.long p2), .second, .val (.int p3), .val (.long p4), .second, .val (.ref b233), .val (.ref b247), .val (.int ((p1 &&& (255 : Int32)) % (3 : Int32))), .val (.ref aS), .val (.ref b267), .val (.int d12), .val (.int d13), .val (.ref b289), .val (.ref b309), .val (.ref b337)] [])) _
      refine XS.aload X362.here hx rfl (hb hby at_185) rfl rfl ?_
      exact k)
    obtain ⟨cq365, kq365, q365a, q365b, q365c⟩ := isOf hZ eq362 Ax342
    obtain ⟨_, _, ⟨T365, L365, kc365, ks365⟩, -, X365, ⟨Lc365, hQ365, l365, y365, z365⟩, st365⟩ := X362.virtualBack hx (y := (⟨"com/example/pen_over_wire/penoverwire/model/User", "password", "()Lcom/example/pen_over_wire/penoverwire/crypto/PasswordHash;"⟩ : MethodName)) (z := (⟨"com/example/pen_over_wire/penoverwire/model/User", "password", "()Lcom/example/pen_over_wire/penoverwire/crypto/PasswordHash;"⟩ : MethodName)) hown (mvT hZ (hw _ (List.mem_of_getElem? (i := 89) rfl))) (mvT hZ (hw _ (List.mem_of_getElem? (i := 90) rfl))) (notFace_of_selects (args := #[]) (mvT hZ (hw _ (List.mem_of_getElem? (i := 92) rfl)))) (mvT hZ (hw _ (List.mem_of_getElem? (i := 92) rfl))) (mvT hZ (hw _ (List.mem_of_getElem? (i := 91) rfl))) (by decide) (backOf (W := 0) (rm13 l Z a0 hw [] b337 Value.null T342.heap n0 Z343 rfl Fx342_2) hZ (hw _ (List.mem_of_getElem? (i := 93) rfl)) (hw _ (List.mem_of_getElem? (i := 51) rfl)) (by decide) (by decide)) q365a q365c (g := (mkF m 187 #[.val (.int p0), .val (.int p1), .val (.long p2), .second, .val (.int p3), .val (.long p4), .second, .val (.ref b233), .val (.ref b247), .val (.int ((p1 &&& (255 : Int32)) % (3 : Int32))), .val (.ref aS), .val (.ref b267), .val (.int d12), .val (.int d13), .val (.ref b289), .val (.ref b309), .val (.ref b337)] [(.ref b337)])) rfl (by rw [hml]; rfl) (Steps.refl _) (argsL := []) (rest := []) (lenOf pd_7 rfl) rfl (by show 2 * 0 + _ ≤ _; exact Nat.le_of_eq rfl) (hb hby at_187) (fun _ _ => ⟨rfl, eq362, (by decide : 7 + 0 ≤ _), (by decide : 27 + 0 ≤ _)⟩)
    dsimp only [Pt.U, Pt.locs, Pt.cells, Pt.slots] at X365 l365 y365 z365 st365 hQ365
    subst l365 y365 z365
    obtain ⟨rfl, Nq365, eq365⟩ := hQ365
    have N365 := Fr.app N362 Nq365
    have k366 : ∀ t, Steps p.tables e below (T365.setTop (mkF m 190 #[.val (.int p0), .val (.int p1), .val (.long p2), .second, .val (.int p3), .val (.long p4), .second, .val (.ref b233), .val (.ref b247), .val (.int ((p1 &&& (255 : Int32)) % (3 : Int32))), .val (.ref aS), .val (.ref b267), .val (.int d12), .val (.int d13), .val (.ref b289), .val (.ref b309), .val (.ref b337)] [.null])) t → Steps p.tables e below (s₁.setTop (entryFrame m #[(.int p0), (.int p1), (.long p2), (.int p3), (.long p4)] maxLocals)) t := fun t k => k364 t (st365.trans k)
    have k367 : ∀ t, Steps p.tables e below (T365.setTop (mkF m 195 #[.val (.int p0), .val (.int p1), .val (.long p2), .second, .val (.int p3), .val (.long p4), .second, .val (.ref b233), .val (.ref b247), .val (.int ((p1 &&& (255 : Int32)) % (3 : Int32))), .val (.ref aS), .val (.ref b267), .val (.int d12), .val (.int d13), .val (.ref b289), .val (.ref b309), .val (.ref b337)] [(.ref b337)])) t → Steps p.tables e below (s₁.setTop (entryFrame m #[(.int p0), (.int p1), (.long p2), (.int p3), (.long p4)] maxLocals)) t := fun t k => k366 t (by
      show Steps p.tables e below (T365.setTop (mkF m 190 #[.val (.int p0), .val (.int p1), .val (.long p2), .second, .val (.int p3), .val (.long p4), .second, .val (.ref b233), .val (.ref b247), .val (.int ((p1 &&& (255 : Int32)) % (3 : Int32))), .val (.ref aS), .val (.ref b267), .val (.int d12), .val (.int d13), .val (.ref b289), .val (.ref b309), .val (.ref b337)] [.null])) _
      refine XS.ifnonnullNo X365.here hx rfl (hb hby at_190) rfl ?_
      show Steps p.tables e below (T365.setTop (mkF m 193 #[.val (.int p0), .val (.int p1), .val (.long p2), .second, .val (.int p3), .val (.long p4), .second, .val (.ref b233), .val (.ref b247), .val (.int ((p1 &&& (255 : Int32)) % (3 : Int32))), .val (.ref aS), .val (.ref b267), .val (.int d12), .val (.int d13), .val (.ref b289), .val (.ref b309), .val (.ref b337)] [])) _
      refine XS.aload X365.here hx rfl (hb hby at_193) rfl rfl ?_
      exact k)
    obtain ⟨cq368, kq368, q368a, q368b, q368c⟩ := isOf hZ eq365 Ax342
    obtain ⟨_, _, ⟨T368, L368, kc368, ks368⟩, -, X368, ⟨Lc368, hQ368, l368, y368, z368⟩, st368⟩ := X365.virtualBack hx (y := (⟨"com/example/pen_over_wire/penoverwire/model/User", "totpSecret", "()[B"⟩ : MethodName)) (z := (⟨"com/example/pen_over_wire/penoverwire/model/User", "totpSecret", "()[B"⟩ : MethodName)) hown (mvT hZ (hw _ (List.mem_of_getElem? (i := 94) rfl))) (mvT hZ (hw _ (List.mem_of_getElem? (i := 95) rfl))) (notFace_of_selects (args := #[]) (mvT hZ (hw _ (List.mem_of_getElem? (i := 97) rfl)))) (mvT hZ (hw _ (List.mem_of_getElem? (i := 97) rfl))) (mvT hZ (hw _ (List.mem_of_getElem? (i := 96) rfl))) (by decide) (backOf (W := 0) (rm14 l Z a0 hw [] b337 (Value.ref b267) T342.heap n0 Z343 rfl Fx342_3) hZ (hw _ (List.mem_of_getElem? (i := 98) rfl)) (hw _ (List.mem_of_getElem? (i := 51) rfl)) (by decide) (by decide)) q368a q368c (g := (mkF m 195 #[.val (.int p0), .val (.int p1), .val (.long p2), .second, .val (.int p3), .val (.long p4), .second, .val (.ref b233), .val (.ref b247), .val (.int ((p1 &&& (255 : Int32)) % (3 : Int32))), .val (.ref aS), .val (.ref b267), .val (.int d12), .val (.int d13), .val (.ref b289), .val (.ref b309), .val (.ref b337)] [(.ref b337)])) rfl (by rw [hml]; rfl) (Steps.refl _) (argsL := []) (rest := []) (lenOf pd_8 rfl) rfl (by show 2 * 0 + _ ≤ _; exact Nat.le_of_eq rfl) (hb hby at_195) (fun _ _ => ⟨rfl, eq365, (by decide : 7 + 0 ≤ _), (by decide : 27 + 0 ≤ _)⟩)
    dsimp only [Pt.U, Pt.locs, Pt.cells, Pt.slots] at X368 l368 y368 z368 st368 hQ368
    subst l368 y368 z368
    obtain ⟨rfl, Nq368, eq368⟩ := hQ368
    have N368 := Fr.app N365 Nq368
    have k369 : ∀ t, Steps p.tables e below (T368.setTop (mkF m 198 #[.val (.int p0), .val (.int p1), .val (.long p2), .second, .val (.int p3), .val (.long p4), .second, .val (.ref b233), .val (.ref b247), .val (.int ((p1 &&& (255 : Int32)) % (3 : Int32))), .val (.ref aS), .val (.ref b267), .val (.int d12), .val (.int d13), .val (.ref b289), .val (.ref b309), .val (.ref b337)] [(.ref b267)])) t → Steps p.tables e below (s₁.setTop (entryFrame m #[(.int p0), (.int p1), (.long p2), (.int p3), (.long p4)] maxLocals)) t := fun t k => k367 t (st368.trans k)
    have k370 : ∀ t, Steps p.tables e below (T368.setTop (mkF m 205 #[.val (.int p0), .val (.int p1), .val (.long p2), .second, .val (.int p3), .val (.long p4), .second, .val (.ref b233), .val (.ref b247), .val (.int ((p1 &&& (255 : Int32)) % (3 : Int32))), .val (.ref aS), .val (.ref b267), .val (.int d12), .val (.int d13), .val (.ref b289), .val (.ref b309), .val (.ref b337)] [(.ref b337)])) t → Steps p.tables e below (s₁.setTop (entryFrame m #[(.int p0), (.int p1), (.long p2), (.int p3), (.long p4)] maxLocals)) t := fun t k => k369 t (by
      show Steps p.tables e below (T368.setTop (mkF m 198 #[.val (.int p0), .val (.int p1), .val (.long p2), .second, .val (.int p3), .val (.long p4), .second, .val (.ref b233), .val (.ref b247), .val (.int ((p1 &&& (255 : Int32)) % (3 : Int32))), .val (.ref aS), .val (.ref b267), .val (.int d12), .val (.int d13), .val (.ref b289), .val (.ref b309), .val (.ref b337)] [(.ref b267)])) _
      refine XS.aload X368.here hx rfl (hb hby at_198) rfl rfl ?_
      show Steps p.tables e below (T368.setTop (mkF m 200 #[.val (.int p0), .val (.int p1), .val (.long p2), .second, .val (.int p3), .val (.long p4), .second, .val (.ref b233), .val (.ref b247), .val (.int ((p1 &&& (255 : Int32)) % (3 : Int32))), .val (.ref aS), .val (.ref b267), .val (.int d12), .val (.int d13), .val (.ref b289), .val (.ref b309), .val (.ref b337)] [(.ref b267), (.ref b267)])) _
      refine Jvm.RoadKit.acmp (g := (mkF m 200 #[.val (.int p0), .val (.int p1), .val (.long p2), .second, .val (.int p3), .val (.long p4), .second, .val (.ref b233), .val (.ref b247), .val (.int ((p1 &&& (255 : Int32)) % (3 : Int32))), .val (.ref aS), .val (.ref b267), .val (.int d12), .val (.int d13), .val (.ref b289), .val (.ref b309), .val (.ref b337)] [(.ref b267), (.ref b267)])) X368 hx rfl rfl rfl (pc0 := 200) (pc' := 203) (same := true) rfl (hb hby at_200) rfl (decide_eq_true (congrArg Value.ref (rfl : b267 = b267))) (by decide) (by decide) ?_
      show Steps p.tables e below (T368.setTop (mkF m 203 #[.val (.int p0), .val (.int p1), .val (.long p2), .second, .val (.int p3), .val (.long p4), .second, .val (.ref b233), .val (.ref b247), .val (.int ((p1 &&& (255 : Int32)) % (3 : Int32))), .val (.ref aS), .val (.ref b267), .val (.int d12), .val (.int d13), .val (.ref b289), .val (.ref b309), .val (.ref b337)] [])) _
      refine XS.aload X368.here hx rfl (hb hby at_203) rfl rfl ?_
      exact k)
    obtain ⟨cq371, kq371, q371a, q371b, q371c⟩ := isOf hZ eq368 Ax342
    obtain ⟨_, _, ⟨T371, L371, kc371, ks371⟩, -, X371, ⟨Lc371, hQ371, l371, y371, z371⟩, st371⟩ := X368.virtualBack hx (y := (⟨"com/example/pen_over_wire/penoverwire/model/User", "lastOtpStep", "()J"⟩ : MethodName)) (z := (⟨"com/example/pen_over_wire/penoverwire/model/User", "lastOtpStep", "()J"⟩ : MethodName)) hown (mvT hZ (hw _ (List.mem_of_getElem? (i := 99) rfl))) (mvT hZ (hw _ (List.mem_of_getElem? (i := 100) rfl))) (notFace_of_selects (args := #[]) (mvT hZ (hw _ (List.mem_of_getElem? (i := 102) rfl)))) (mvT hZ (hw _ (List.mem_of_getElem? (i := 102) rfl))) (mvT hZ (hw _ (List.mem_of_getElem? (i := 101) rfl))) (by decide) (backOf (W := 0) (rm15 l Z a0 hw [] b337 p2 T342.heap n0 Z343  Fx342_4) hZ (hw _ (List.mem_of_getElem? (i := 103) rfl)) (hw _ (List.mem_of_getElem? (i := 51) rfl)) (by decide) (by decide)) q371a q371c (g := (mkF m 205 #[.val (.int p0), .val (.int p1), .val (.long p2), .second, .val (.int p3), .val (.long p4), .second, .val (.ref b233), .val (.ref b247), .val (.int ((p1 &&& (255 : Int32)) % (3 : Int32))), .val (.ref aS), .val (.ref b267), .val (.int d12), .val (.int d13), .val (.ref b289), .val (.ref b309), .val (.ref b337)] [(.ref b337)])) rfl (by rw [hml]; rfl) (Steps.refl _) (argsL := []) (rest := []) (lenOf pd_9 rfl) rfl (by show 2 * 0 + _ ≤ _; exact Nat.le_of_eq rfl) (hb hby at_205) (fun _ _ => ⟨rfl, eq368, (by decide : 7 + 0 ≤ _), (by decide : 27 + 0 ≤ _)⟩)
    dsimp only [Pt.U, Pt.locs, Pt.cells, Pt.slots] at X371 l371 y371 z371 st371 hQ371
    subst l371 y371 z371
    obtain ⟨rfl, Nq371, eq371⟩ := hQ371
    have N371 := Fr.app N368 Nq371
    have k372 : ∀ t, Steps p.tables e below (T371.setTop (mkF m 208 #[.val (.int p0), .val (.int p1), .val (.long p2), .second, .val (.int p3), .val (.long p4), .second, .val (.ref b233), .val (.ref b247), .val (.int ((p1 &&& (255 : Int32)) % (3 : Int32))), .val (.ref aS), .val (.ref b267), .val (.int d12), .val (.int d13), .val (.ref b289), .val (.ref b309), .val (.ref b337)] [(.long p2)])) t → Steps p.tables e below (s₁.setTop (entryFrame m #[(.int p0), (.int p1), (.long p2), (.int p3), (.long p4)] maxLocals)) t := fun t k => k370 t (st371.trans k)
    have k373 : ∀ t, Steps p.tables e below (T371.setTop (mkF m 215 #[.val (.int p0), .val (.int p1), .val (.long p2), .second, .val (.int p3), .val (.long p4), .second, .val (.ref b233), .val (.ref b247), .val (.int ((p1 &&& (255 : Int32)) % (3 : Int32))), .val (.ref aS), .val (.ref b267), .val (.int d12), .val (.int d13), .val (.ref b289), .val (.ref b309), .val (.ref b337)] [(.ref b337)])) t → Steps p.tables e below (s₁.setTop (entryFrame m #[(.int p0), (.int p1), (.long p2), (.int p3), (.long p4)] maxLocals)) t := fun t k => k372 t (by
      show Steps p.tables e below (T371.setTop (mkF m 208 #[.val (.int p0), .val (.int p1), .val (.long p2), .second, .val (.int p3), .val (.long p4), .second, .val (.ref b233), .val (.ref b247), .val (.int ((p1 &&& (255 : Int32)) % (3 : Int32))), .val (.ref aS), .val (.ref b267), .val (.int d12), .val (.int d13), .val (.ref b289), .val (.ref b309), .val (.ref b337)] [(.long p2)])) _
      refine XS.lloadN X371.here hx rfl (hb hby at_208) rfl ?_
      show Steps p.tables e below (T371.setTop (mkF m 209 #[.val (.int p0), .val (.int p1), .val (.long p2), .second, .val (.int p3), .val (.long p4), .second, .val (.ref b233), .val (.ref b247), .val (.int ((p1 &&& (255 : Int32)) % (3 : Int32))), .val (.ref aS), .val (.ref b267), .val (.int d12), .val (.int d13), .val (.ref b289), .val (.ref b309), .val (.ref b337)] [(.long p2), (.long p2)])) _
      refine XS.lcmp X371.here hx rfl (hb hby at_209) rfl ?_
      show Steps p.tables e below (T371.setTop (mkF m 210 #[.val (.int p0), .val (.int p1), .val (.long p2), .second, .val (.int p3), .val (.long p4), .second, .val (.ref b233), .val (.ref b247), .val (.int ((p1 &&& (255 : Int32)) % (3 : Int32))), .val (.ref aS), .val (.ref b267), .val (.int d12), .val (.int d13), .val (.ref b289), .val (.ref b309), .val (.ref b337)] [(.int (lcmpW p2 p2))])) _
      refine XS.ifNo X371.here hx rfl (hb hby at_210) rfl ((if0 _ _).trans (teq ((lw_eq _ _).mpr rfl)).2) ?_
      show Steps p.tables e below (T371.setTop (mkF m 213 #[.val (.int p0), .val (.int p1), .val (.long p2), .second, .val (.int p3), .val (.long p4), .second, .val (.ref b233), .val (.ref b247), .val (.int ((p1 &&& (255 : Int32)) % (3 : Int32))), .val (.ref aS), .val (.ref b267), .val (.int d12), .val (.int d13), .val (.ref b289), .val (.ref b309), .val (.ref b337)] [])) _
      refine XS.aload X371.here hx rfl (hb hby at_213) rfl rfl ?_
      exact k)
    obtain ⟨cq374, kq374, q374a, q374b, q374c⟩ := isOf hZ eq371 Ax342
    obtain ⟨_, _, ⟨T374, L374, kc374, ks374⟩, -, X374, ⟨Lc374, hQ374, l374, y374, z374⟩, st374⟩ := X371.virtualBack hx (y := (⟨"com/example/pen_over_wire/penoverwire/model/User", "failedLogins", "()Lcom/example/pen_over_wire/penoverwire/model/FailedAttempts;"⟩ : MethodName)) (z := (⟨"com/example/pen_over_wire/penoverwire/model/User", "failedLogins", "()Lcom/example/pen_over_wire/penoverwire/model/FailedAttempts;"⟩ : MethodName)) hown (mvT hZ (hw _ (List.mem_of_getElem? (i := 104) rfl))) (mvT hZ (hw _ (List.mem_of_getElem? (i := 105) rfl))) (notFace_of_selects (args := #[]) (mvT hZ (hw _ (List.mem_of_getElem? (i := 107) rfl)))) (mvT hZ (hw _ (List.mem_of_getElem? (i := 107) rfl))) (mvT hZ (hw _ (List.mem_of_getElem? (i := 106) rfl))) (by decide) (backOf (W := 0) (rm16 l Z a0 hw [] b337 (Value.ref b289) T342.heap n0 Z343 rfl Fx342_5) hZ (hw _ (List.mem_of_getElem? (i := 108) rfl)) (hw _ (List.mem_of_getElem? (i := 51) rfl)) (by decide) (by decide)) q374a q374c (g := (mkF m 215 #[.val (.int p0), .val (.int p1), .val (.long p2), .second, .val (.int p3), .val (.long p4), .second, .val (.ref b233), .val (.ref b247), .val (.int ((p1 &&& (255 : Int32)) % (3 : Int32))), .val (.ref aS), .val (.ref b267), .val (.int d12), .val (.int d13), .val (.ref b289), .val (.ref b309), .val (.ref b337)] [(.ref b337)])) rfl (by rw [hml]; rfl) (Steps.refl _) (argsL := []) (rest := []) (lenOf pd_10 rfl) rfl (by show 2 * 0 + _ ≤ _; exact Nat.le_of_eq rfl) (hb hby at_215) (fun _ _ => ⟨rfl, eq371, (by decide : 7 + 0 ≤ _), (by decide : 27 + 0 ≤ _)⟩)
    dsimp only [Pt.U, Pt.locs, Pt.cells, Pt.slots] at X374 l374 y374 z374 st374 hQ374
    subst l374 y374 z374
    obtain ⟨rfl, Nq374, eq374⟩ := hQ374
    have N374 := Fr.app N371 Nq374
    have k375 : ∀ t, Steps p.tables e below (T374.setTop (mkF m 218 #[.val (.int p0), .val (.int p1), .val (.long p2), .second, .val (.int p3), .val (.long p4), .second, .val (.ref b233), .val (.ref b247), .val (.int ((p1 &&& (255 : Int32)) % (3 : Int32))), .val (.ref aS), .val (.ref b267), .val (.int d12), .val (.int d13), .val (.ref b289), .val (.ref b309), .val (.ref b337)] [(.ref b289)])) t → Steps p.tables e below (s₁.setTop (entryFrame m #[(.int p0), (.int p1), (.long p2), (.int p3), (.long p4)] maxLocals)) t := fun t k => k373 t (st374.trans k)
    have k376 : ∀ t, Steps p.tables e below (T374.setTop (mkF m 225 #[.val (.int p0), .val (.int p1), .val (.long p2), .second, .val (.int p3), .val (.long p4), .second, .val (.ref b233), .val (.ref b247), .val (.int ((p1 &&& (255 : Int32)) % (3 : Int32))), .val (.ref aS), .val (.ref b267), .val (.int d12), .val (.int d13), .val (.ref b289), .val (.ref b309), .val (.ref b337)] [(.ref b337)])) t → Steps p.tables e below (s₁.setTop (entryFrame m #[(.int p0), (.int p1), (.long p2), (.int p3), (.long p4)] maxLocals)) t := fun t k => k375 t (by
      show Steps p.tables e below (T374.setTop (mkF m 218 #[.val (.int p0), .val (.int p1), .val (.long p2), .second, .val (.int p3), .val (.long p4), .second, .val (.ref b233), .val (.ref b247), .val (.int ((p1 &&& (255 : Int32)) % (3 : Int32))), .val (.ref aS), .val (.ref b267), .val (.int d12), .val (.int d13), .val (.ref b289), .val (.ref b309), .val (.ref b337)] [(.ref b289)])) _
      refine XS.aload X374.here hx rfl (hb hby at_218) rfl rfl ?_
      show Steps p.tables e below (T374.setTop (mkF m 220 #[.val (.int p0), .val (.int p1), .val (.long p2), .second, .val (.int p3), .val (.long p4), .second, .val (.ref b233), .val (.ref b247), .val (.int ((p1 &&& (255 : Int32)) % (3 : Int32))), .val (.ref aS), .val (.ref b267), .val (.int d12), .val (.int d13), .val (.ref b289), .val (.ref b309), .val (.ref b337)] [(.ref b289), (.ref b289)])) _
      refine Jvm.RoadKit.acmp (g := (mkF m 220 #[.val (.int p0), .val (.int p1), .val (.long p2), .second, .val (.int p3), .val (.long p4), .second, .val (.ref b233), .val (.ref b247), .val (.int ((p1 &&& (255 : Int32)) % (3 : Int32))), .val (.ref aS), .val (.ref b267), .val (.int d12), .val (.int d13), .val (.ref b289), .val (.ref b309), .val (.ref b337)] [(.ref b289), (.ref b289)])) X374 hx rfl rfl rfl (pc0 := 220) (pc' := 223) (same := true) rfl (hb hby at_220) rfl (decide_eq_true (congrArg Value.ref (rfl : b289 = b289))) (by decide) (by decide) ?_
      show Steps p.tables e below (T374.setTop (mkF m 223 #[.val (.int p0), .val (.int p1), .val (.long p2), .second, .val (.int p3), .val (.long p4), .second, .val (.ref b233), .val (.ref b247), .val (.int ((p1 &&& (255 : Int32)) % (3 : Int32))), .val (.ref aS), .val (.ref b267), .val (.int d12), .val (.int d13), .val (.ref b289), .val (.ref b309), .val (.ref b337)] [])) _
      refine XS.aload X374.here hx rfl (hb hby at_223) rfl rfl ?_
      exact k)
    obtain ⟨cq377, kq377, q377a, q377b, q377c⟩ := isOf hZ eq374 Ax342
    obtain ⟨_, _, ⟨T377, L377, kc377, ks377⟩, -, X377, ⟨Lc377, hQ377, l377, y377, z377⟩, st377⟩ := X374.virtualBack hx (y := (⟨"com/example/pen_over_wire/penoverwire/model/User", "disabled", "()Z"⟩ : MethodName)) (z := (⟨"com/example/pen_over_wire/penoverwire/model/User", "disabled", "()Z"⟩ : MethodName)) hown (mvT hZ (hw _ (List.mem_of_getElem? (i := 109) rfl))) (mvT hZ (hw _ (List.mem_of_getElem? (i := 110) rfl))) (notFace_of_selects (args := #[]) (mvT hZ (hw _ (List.mem_of_getElem? (i := 112) rfl)))) (mvT hZ (hw _ (List.mem_of_getElem? (i := 112) rfl))) (mvT hZ (hw _ (List.mem_of_getElem? (i := 111) rfl))) (by decide) (backOf (W := 0) (rm17 l Z a0 hw [] b337 (1 : Int32) T342.heap n0 Z343 (Or.inr rfl) Fx342_6) hZ (hw _ (List.mem_of_getElem? (i := 113) rfl)) (hw _ (List.mem_of_getElem? (i := 51) rfl)) (by decide) (by decide)) q377a q377c (g := (mkF m 225 #[.val (.int p0), .val (.int p1), .val (.long p2), .second, .val (.int p3), .val (.long p4), .second, .val (.ref b233), .val (.ref b247), .val (.int ((p1 &&& (255 : Int32)) % (3 : Int32))), .val (.ref aS), .val (.ref b267), .val (.int d12), .val (.int d13), .val (.ref b289), .val (.ref b309), .val (.ref b337)] [(.ref b337)])) rfl (by rw [hml]; rfl) (Steps.refl _) (argsL := []) (rest := []) (lenOf pd_11 rfl) rfl (by show 2 * 0 + _ ≤ _; exact Nat.le_of_eq rfl) (hb hby at_225) (fun _ _ => ⟨rfl, eq374, (by decide : 7 + 0 ≤ _), (by decide : 27 + 0 ≤ _)⟩)
    dsimp only [Pt.U, Pt.locs, Pt.cells, Pt.slots] at X377 l377 y377 z377 st377 hQ377
    subst l377 y377 z377
    obtain ⟨rfl, Nq377, eq377⟩ := hQ377
    have N377 := Fr.app N374 Nq377
    have k378 : ∀ t, Steps p.tables e below (T377.setTop (mkF m 228 #[.val (.int p0), .val (.int p1), .val (.long p2), .second, .val (.int p3), .val (.long p4), .second, .val (.ref b233), .val (.ref b247), .val (.int ((p1 &&& (255 : Int32)) % (3 : Int32))), .val (.ref aS), .val (.ref b267), .val (.int d12), .val (.int d13), .val (.ref b289), .val (.ref b309), .val (.ref b337)] [(.int (1 : Int32))])) t → Steps p.tables e below (s₁.setTop (entryFrame m #[(.int p0), (.int p1), (.long p2), (.int p3), (.long p4)] maxLocals)) t := fun t k => k376 t (st377.trans k)
    have k379 : ∀ t, Steps p.tables e below (T377.setTop (mkF m 233 #[.val (.int p0), .val (.int p1), .val (.long p2), .second, .val (.int p3), .val (.long p4), .second, .val (.ref b233), .val (.ref b247), .val (.int ((p1 &&& (255 : Int32)) % (3 : Int32))), .val (.ref aS), .val (.ref b267), .val (.int d12), .val (.int d13), .val (.ref b289), .val (.ref b309), .val (.ref b337)] [(.ref b337)])) t → Steps p.tables e below (s₁.setTop (entryFrame m #[(.int p0), (.int p1), (.long p2), (.int p3), (.long p4)] maxLocals)) t := fun t k => k378 t (by
      show Steps p.tables e below (T377.setTop (mkF m 228 #[.val (.int p0), .val (.int p1), .val (.long p2), .second, .val (.int p3), .val (.long p4), .second, .val (.ref b233), .val (.ref b247), .val (.int ((p1 &&& (255 : Int32)) % (3 : Int32))), .val (.ref aS), .val (.ref b267), .val (.int d12), .val (.int d13), .val (.ref b289), .val (.ref b309), .val (.ref b337)] [(.int (1 : Int32))])) _
      refine XS.ifNo X377.here hx rfl (hb hby at_228) rfl ((if0 _ _).trans (feq (by decide : ¬ ((1 : Int32) = (0 : Int32)))).1) ?_
      show Steps p.tables e below (T377.setTop (mkF m 231 #[.val (.int p0), .val (.int p1), .val (.long p2), .second, .val (.int p3), .val (.long p4), .second, .val (.ref b233), .val (.ref b247), .val (.int ((p1 &&& (255 : Int32)) % (3 : Int32))), .val (.ref aS), .val (.ref b267), .val (.int d12), .val (.int d13), .val (.ref b289), .val (.ref b309), .val (.ref b337)] [])) _
      refine XS.aload X377.here hx rfl (hb hby at_231) rfl rfl ?_
      exact k)
    obtain ⟨cq380, kq380, q380a, q380b, q380c⟩ := isOf hZ eq377 Ax342
    obtain ⟨_, _, ⟨T380, L380, kc380, ks380⟩, -, X380, ⟨Lc380, hQ380, l380, y380, z380⟩, st380⟩ := X377.virtualBack hx (y := (⟨"com/example/pen_over_wire/penoverwire/model/User", "sessionEpoch", "()J"⟩ : MethodName)) (z := (⟨"com/example/pen_over_wire/penoverwire/model/User", "sessionEpoch", "()J"⟩ : MethodName)) hown (mvT hZ (hw _ (List.mem_of_getElem? (i := 114) rfl))) (mvT hZ (hw _ (List.mem_of_getElem? (i := 115) rfl))) (notFace_of_selects (args := #[]) (mvT hZ (hw _ (List.mem_of_getElem? (i := 117) rfl)))) (mvT hZ (hw _ (List.mem_of_getElem? (i := 117) rfl))) (mvT hZ (hw _ (List.mem_of_getElem? (i := 116) rfl))) (by decide) (backOf (W := 0) (rm18 l Z a0 hw [] b337 (p4 + (1 : Int64)) T342.heap n0 Z343  Fx342_7) hZ (hw _ (List.mem_of_getElem? (i := 118) rfl)) (hw _ (List.mem_of_getElem? (i := 51) rfl)) (by decide) (by decide)) q380a q380c (g := (mkF m 233 #[.val (.int p0), .val (.int p1), .val (.long p2), .second, .val (.int p3), .val (.long p4), .second, .val (.ref b233), .val (.ref b247), .val (.int ((p1 &&& (255 : Int32)) % (3 : Int32))), .val (.ref aS), .val (.ref b267), .val (.int d12), .val (.int d13), .val (.ref b289), .val (.ref b309), .val (.ref b337)] [(.ref b337)])) rfl (by rw [hml]; rfl) (Steps.refl _) (argsL := []) (rest := []) (lenOf pd_9 rfl) rfl (by show 2 * 0 + _ ≤ _; exact Nat.le_of_eq rfl) (hb hby at_233) (fun _ _ => ⟨rfl, eq377, (by decide : 7 + 0 ≤ _), (by decide : 27 + 0 ≤ _)⟩)
    dsimp only [Pt.U, Pt.locs, Pt.cells, Pt.slots] at X380 l380 y380 z380 st380 hQ380
    subst l380 y380 z380
    obtain ⟨rfl, Nq380, eq380⟩ := hQ380
    have N380 := Fr.app N377 Nq380
    have k381 : ∀ t, Steps p.tables e below (T380.setTop (mkF m 236 #[.val (.int p0), .val (.int p1), .val (.long p2), .second, .val (.int p3), .val (.long p4), .second, .val (.ref b233), .val (.ref b247), .val (.int ((p1 &&& (255 : Int32)) % (3 : Int32))), .val (.ref aS), .val (.ref b267), .val (.int d12), .val (.int d13), .val (.ref b289), .val (.ref b309), .val (.ref b337)] [(.long (p4 + (1 : Int64)))])) t → Steps p.tables e below (s₁.setTop (entryFrame m #[(.int p0), (.int p1), (.long p2), (.int p3), (.long p4)] maxLocals)) t := fun t k => k379 t (st380.trans k)
    have k382 : ∀ t, Steps p.tables e below (T380.setTop (mkF m 249 #[.val (.int p0), .val (.int p1), .val (.long p2), .second, .val (.int p3), .val (.long p4), .second, .val (.ref b233), .val (.ref b247), .val (.int ((p1 &&& (255 : Int32)) % (3 : Int32))), .val (.ref aS), .val (.ref b267), .val (.int d12), .val (.int d13), .val (.ref b289), .val (.ref b309), .val (.ref b337)] [(.int (1 : Int32))])) t → Steps p.tables e below (s₁.setTop (entryFrame m #[(.int p0), (.int p1), (.long p2), (.int p3), (.long p4)] maxLocals)) t := fun t k => k381 t (by
      show Steps p.tables e below (T380.setTop (mkF m 236 #[.val (.int p0), .val (.int p1), .val (.long p2), .second, .val (.int p3), .val (.long p4), .second, .val (.ref b233), .val (.ref b247), .val (.int ((p1 &&& (255 : Int32)) % (3 : Int32))), .val (.ref aS), .val (.ref b267), .val (.int d12), .val (.int d13), .val (.ref b289), .val (.ref b309), .val (.ref b337)] [(.long (p4 + (1 : Int64)))])) _
      refine XS.lload X380.here hx rfl (hb hby at_236) rfl ?_
      show Steps p.tables e below (T380.setTop (mkF m 238 #[.val (.int p0), .val (.int p1), .val (.long p2), .second, .val (.int p3), .val (.long p4), .second, .val (.ref b233), .val (.ref b247), .val (.int ((p1 &&& (255 : Int32)) % (3 : Int32))), .val (.ref aS), .val (.ref b267), .val (.int d12), .val (.int d13), .val (.ref b289), .val (.ref b309), .val (.ref b337)] [(.long p4), (.long (p4 + (1 : Int64)))])) _
      refine XS.lconst X380.here hx rfl (hb hby at_238) ?_
      show Steps p.tables e below (T380.setTop (mkF m 239 #[.val (.int p0), .val (.int p1), .val (.long p2), .second, .val (.int p3), .val (.long p4), .second, .val (.ref b233), .val (.ref b247), .val (.int ((p1 &&& (255 : Int32)) % (3 : Int32))), .val (.ref aS), .val (.ref b267), .val (.int d12), .val (.int d13), .val (.ref b289), .val (.ref b309), .val (.ref b337)] [(.long (1 : Int64)), (.long p4), (.long (p4 + (1 : Int64)))])) _
      refine XS.ladd X380.here hx rfl (hb hby at_239) rfl ?_
      show Steps p.tables e below (T380.setTop (mkF m 240 #[.val (.int p0), .val (.int p1), .val (.long p2), .second, .val (.int p3), .val (.long p4), .second, .val (.ref b233), .val (.ref b247), .val (.int ((p1 &&& (255 : Int32)) % (3 : Int32))), .val (.ref aS), .val (.ref b267), .val (.int d12), .val (.int d13), .val (.ref b289), .val (.ref b309), .val (.ref b337)] [(.long (p4 + (1 : Int64))), (.long (p4 + (1 : Int64)))])) _
      refine XS.lcmp X380.here hx rfl (hb hby at_240) rfl ?_
      show Steps p.tables e below (T380.setTop (mkF m 241 #[.val (.int p0), .val (.int p1), .val (.long p2), .second, .val (.int p3), .val (.long p4), .second, .val (.ref b233), .val (.ref b247), .val (.int ((p1 &&& (255 : Int32)) % (3 : Int32))), .val (.ref aS), .val (.ref b267), .val (.int d12), .val (.int d13), .val (.ref b289), .val (.ref b309), .val (.ref b337)] [(.int (lcmpW (p4 + (1 : Int64)) (p4 + (1 : Int64))))])) _
      refine XS.ifNo X380.here hx rfl (hb hby at_241) rfl ((if0 _ _).trans (teq ((lw_eq _ _).mpr rfl)).2) ?_
      show Steps p.tables e below (T380.setTop (mkF m 244 #[.val (.int p0), .val (.int p1), .val (.long p2), .second, .val (.int p3), .val (.long p4), .second, .val (.ref b233), .val (.ref b247), .val (.int ((p1 &&& (255 : Int32)) % (3 : Int32))), .val (.ref aS), .val (.ref b267), .val (.int d12), .val (.int d13), .val (.ref b289), .val (.ref b309), .val (.ref b337)] [])) _
      refine XS.iconst X380.here hx rfl (hb hby at_244) ?_
      show Steps p.tables e below (T380.setTop (mkF m 245 #[.val (.int p0), .val (.int p1), .val (.long p2), .second, .val (.int p3), .val (.long p4), .second, .val (.ref b233), .val (.ref b247), .val (.int ((p1 &&& (255 : Int32)) % (3 : Int32))), .val (.ref aS), .val (.ref b267), .val (.int d12), .val (.int d13), .val (.ref b289), .val (.ref b309), .val (.ref b337)] [(.int (1 : Int32))])) _
      refine XS.goto X380.here hx rfl (pc0 := 245) (pc' := 249) rfl (hb hby at_245) (by decide) (by decide) ?_
      exact k)
    obtain ⟨fs, hr, hrun, hended, hW, hsame⟩ := X380.leave (v := some (.int (1 : Int32))) (fun h => by rw [Bd.returns] at h; cases h)
    refine ⟨_, _, k382 _ ?_, hrun, hended, _, _, rfl, ?_, ⟨_, rfl⟩, hW, hsame.mono (by decide) (by decide)⟩
    · show Steps p.tables e below (T380.setTop (mkF m 249 #[.val (.int p0), .val (.int p1), .val (.long p2), .second, .val (.int p3), .val (.long p4), .second, .val (.ref b233), .val (.ref b247), .val (.int ((p1 &&& (255 : Int32)) % (3 : Int32))), .val (.ref aS), .val (.ref b267), .val (.int d12), .val (.int d13), .val (.ref b289), .val (.ref b309), .val (.ref b337)] [(.int (1 : Int32))])) _
      exact retN X380 hx (t := .boolean) Bd.returns (by simp) (hb hby at_249) hr
    · show Q0 Z p0 p1 p2 p3 p4 G1 aS aA aU h0 n0 _ T380.heap _
      rw [eq380]
      exact ⟨rfl, N380⟩
  · have k384 : ∀ t, Steps p.tables e below (T256.setTop (mkF m 62 #[.val (.int p0), .val (.int p1), .val (.long p2), .second, .val (.int p3), .val (.long p4), .second, .val (.ref b233), .val (.ref b247), .val (.int ((p1 &&& (255 : Int32)) % (3 : Int32))), .unset, .unset, .unset, .unset, .unset, .unset, .unset] [(.int (1 : Int32)), (.int ((p1 &&& (255 : Int32)) % (3 : Int32)))])) t → Steps p.tables e below (s₁.setTop (entryFrame m #[(.int p0), (.int p1), (.long p2), (.int p3), (.long p4)] maxLocals)) t := fun t k => k261 t (by
      show Steps p.tables e below (T256.setTop (mkF m 50 #[.val (.int p0), .val (.int p1), .val (.long p2), .second, .val (.int p3), .val (.long p4), .second, .val (.ref b233), .val (.ref b247), .val (.int ((p1 &&& (255 : Int32)) % (3 : Int32))), .unset, .unset, .unset, .unset, .unset, .unset, .unset] [(.int ((p1 &&& (255 : Int32)) % (3 : Int32)))])) _
      refine XS.ifYes X256.here hx rfl (pc0 := 50) (pc' := 59) rfl (hb hby at_50) rfl ((if0 _ _).trans (feq hc262).2) (by decide) (by decide) ?_
      show Steps p.tables e below (T256.setTop (mkF m 59 #[.val (.int p0), .val (.int p1), .val (.long p2), .second, .val (.int p3), .val (.long p4), .second, .val (.ref b233), .val (.ref b247), .val (.int ((p1 &&& (255 : Int32)) % (3 : Int32))), .unset, .unset, .unset, .unset, .unset, .unset, .unset] [])) _
      refine XS.iload X256.here hx rfl (hb hby at_59) rfl ?_
      show Steps p.tables e below (T256.setTop (mkF m 61 #[.val (.int p0), .val (.int p1), .val (.long p2), .second, .val (.int p3), .val (.long p4), .second, .val (.ref b233), .val (.ref b247), .val (.int ((p1 &&& (255 : Int32)) % (3 : Int32))), .unset, .unset, .unset, .unset, .unset, .unset, .unset] [(.int ((p1 &&& (255 : Int32)) % (3 : Int32)))])) _
      refine XS.iconst X256.here hx rfl (hb hby at_61) ?_
      exact k)
    by_cases hc385 : ((p1 &&& (255 : Int32)) % (3 : Int32)) = (1 : Int32)
    · have k386 : ∀ t, Steps p.tables e below (T256.setTop (mkF m 65 #[.val (.int p0), .val (.int p1), .val (.long p2), .second, .val (.int p3), .val (.long p4), .second, .val (.ref b233), .val (.ref b247), .val (.int ((p1 &&& (255 : Int32)) % (3 : Int32))), .unset, .unset, .unset, .unset, .unset, .unset, .unset] [])) t → Steps p.tables e below (s₁.setTop (entryFrame m #[(.int p0), (.int p1), (.long p2), (.int p3), (.long p4)] maxLocals)) t := fun t k => k384 t (by
        show Steps p.tables e below (T256.setTop (mkF m 62 #[.val (.int p0), .val (.int p1), .val (.long p2), .second, .val (.int p3), .val (.long p4), .second, .val (.ref b233), .val (.ref b247), .val (.int ((p1 &&& (255 : Int32)) % (3 : Int32))), .unset, .unset, .unset, .unset, .unset, .unset, .unset] [(.int (1 : Int32)), (.int ((p1 &&& (255 : Int32)) % (3 : Int32)))])) _
        refine XS.icmpNo X256.here hx rfl (hb hby at_62) rfl (teq hc385).2 ?_
        exact k)
      have SS_aA := Sta.ext F258.2 S_aA
      obtain ⟨T387, X387, e387, st387⟩ := getS (host := "") X256 hx hZ hown (hw _ (List.mem_of_getElem? (i := 121) rfl)) Via.refl rfl SS_aA (g := (mkF m 65 #[.val (.int p0), .val (.int p1), .val (.long p2), .second, .val (.int p3), .val (.long p4), .second, .val (.ref b233), .val (.ref b247), .val (.int ((p1 &&& (255 : Int32)) % (3 : Int32))), .unset, .unset, .unset, .unset, .unset, .unset, .unset] [])) rfl (hb hby at_65)
      have k388 : ∀ t, Steps p.tables e below (T387.setTop (mkF m 68 #[.val (.int p0), .val (.int p1), .val (.long p2), .second, .val (.int p3), .val (.long p4), .second, .val (.ref b233), .val (.ref b247), .val (.int ((p1 &&& (255 : Int32)) % (3 : Int32))), .unset, .unset, .unset, .unset, .unset, .unset, .unset] [(.ref aA)])) t → Steps p.tables e below (s₁.setTop (entryFrame m #[(.int p0), (.int p1), (.long p2), (.int p3), (.long p4)] maxLocals)) t := fun t k => k386 t (st387 t k)
      have k389 : ∀ t, Steps p.tables e below (T387.setTop (mkF m 77 #[.val (.int p0), .val (.int p1), .val (.long p2), .second, .val (.int p3), .val (.long p4), .second, .val (.ref b233), .val (.ref b247), .val (.int ((p1 &&& (255 : Int32)) % (3 : Int32))), .val (.ref aA), .unset, .unset, .unset, .unset, .unset, .unset] [(.int (1 : Int32))])) t → Steps p.tables e below (s₁.setTop (entryFrame m #[(.int p0), (.int p1), (.long p2), (.int p3), (.long p4)] maxLocals)) t := fun t k => k388 t (by
        show Steps p.tables e below (T387.setTop (mkF m 68 #[.val (.int p0), .val (.int p1), .val (.long p2), .second, .val (.int p3), .val (.long p4), .second, .val (.ref b233), .val (.ref b247), .val (.int ((p1 &&& (255 : Int32)) % (3 : Int32))), .unset, .unset, .unset, .unset, .unset, .unset, .unset] [(.ref aA)])) _
        refine XS.goto X387.here hx rfl (pc0 := 68) (pc' := 74) rfl (hb hby at_68) (by decide) (by decide) ?_
        show Steps p.tables e below (T387.setTop (mkF m 74 #[.val (.int p0), .val (.int p1), .val (.long p2), .second, .val (.int p3), .val (.long p4), .second, .val (.ref b233), .val (.ref b247), .val (.int ((p1 &&& (255 : Int32)) % (3 : Int32))), .unset, .unset, .unset, .unset, .unset, .unset, .unset] [(.ref aA)])) _
        refine XS.astore X387.here hx rfl (hb hby at_74) rfl rfl (l' := #[.val (.int p0), .val (.int p1), .val (.long p2), .second, .val (.int p3), .val (.long p4), .second, .val (.ref b233), .val (.ref b247), .val (.int ((p1 &&& (255 : Int32)) % (3 : Int32))), .val (.ref aA), .unset, .unset, .unset, .unset, .unset, .unset]) rfl ?_
        show Steps p.tables e below (T387.setTop (mkF m 76 #[.val (.int p0), .val (.int p1), .val (.long p2), .second, .val (.int p3), .val (.long p4), .second, .val (.ref b233), .val (.ref b247), .val (.int ((p1 &&& (255 : Int32)) % (3 : Int32))), .val (.ref aA), .unset, .unset, .unset, .unset, .unset, .unset] [])) _
        refine XS.iconst X387.here hx rfl (hb hby at_76) ?_
        exact k)
      obtain ⟨T390, h390, c390, X390, e390, E390, A390, st390⟩ := newP X387 hx hZ (hw _ (List.mem_of_getElem? (i := 19) rfl)) e387 (g := (mkF m 77 #[.val (.int p0), .val (.int p1), .val (.long p2), .second, .val (.int p3), .val (.long p4), .second, .val (.ref b233), .val (.ref b247), .val (.int ((p1 &&& (255 : Int32)) % (3 : Int32))), .val (.ref aA), .unset, .unset, .unset, .unset, .unset, .unset] [(.int (1 : Int32))])) rfl (hb hby at_77) rfl (by decide) (cap := 1) (by decide) (by decide) (by decide) (by decide)
      obtain ⟨b390, g390⟩ : ∃ z, z = T256.heap.size := ⟨_, rfl⟩
      rw [← g390] at A390 st390
      have ne391 : b247 ≠ b390 := Nat.ne_of_lt (Nat.lt_of_lt_of_le (F259).lt (Nat.le_of_eq g390.symm))
      have g_b390 : n0 ≤ b390 := Nat.le_trans Z257 (Nat.le_of_eq g390.symm)
      have Z392 : n0 ≤ h390.size := Nat.le_trans Z257 E390.1
      have F393 : Old Z n0 h390 := Old.ext F258 E390
      have F394 : Exa Z h390 b247 "java/lang/String" := (F259).ext E390
      have F395 : Sta Z h390 "com/example/pen_over_wire/penoverwire/model/Role" "ADMIN" "Lcom/example/pen_over_wire/penoverwire/model/Role;" (.ref aA) := Sta.ext E390 SS_aA
      have V390 : Arv Z h390 b390 c390 .byte (1 : Int32) [(.int (0 : Int32))] (.int (0 : Int32)) := (Arv.new A390 (by decide)).pad (pad_rep [] (.int (0 : Int32)) 1)
      have k396 : ∀ t, Steps p.tables e below (T390.setTop (mkF m 79 #[.val (.int p0), .val (.int p1), .val (.long p2), .second, .val (.int p3), .val (.long p4), .second, .val (.ref b233), .val (.ref b247), .val (.int ((p1 &&& (255 : Int32)) % (3 : Int32))), .val (.ref aA), .unset, .unset, .unset, .unset, .unset, .unset] [(.ref b390)])) t → Steps p.tables e below (s₁.setTop (entryFrame m #[(.int p0), (.int p1), (.long p2), (.int p3), (.long p4)] maxLocals)) t := fun t k => k389 t (st390 t k)
      have k397 : ∀ t, Steps p.tables e below (T390.setTop (mkF m 89 #[.val (.int p0), .val (.int p1), .val (.long p2), .second, .val (.int p3), .val (.long p4), .second, .val (.ref b233), .val (.ref b247), .val (.int ((p1 &&& (255 : Int32)) % (3 : Int32))), .val (.ref aA), .val (.ref b390), .unset, .unset, .unset, .unset, .unset] [(.int (((p0.toUInt32 >>> ((16 : Int32) &&& 31).toUInt32).toInt32).toInt8.toInt32)), (.int (0 : Int32)), (.ref b390)])) t → Steps p.tables e below (s₁.setTop (entryFrame m #[(.int p0), (.int p1), (.long p2), (.int p3), (.long p4)] maxLocals)) t := fun t k => k396 t (by
        show Steps p.tables e below (T390.setTop (mkF m 79 #[.val (.int p0), .val (.int p1), .val (.long p2), .second, .val (.int p3), .val (.long p4), .second, .val (.ref b233), .val (.ref b247), .val (.int ((p1 &&& (255 : Int32)) % (3 : Int32))), .val (.ref aA), .unset, .unset, .unset, .unset, .unset, .unset] [(.ref b390)])) _
        refine XS.astore X390.here hx rfl (hb hby at_79) rfl rfl (l' := #[.val (.int p0), .val (.int p1), .val (.long p2), .second, .val (.int p3), .val (.long p4), .second, .val (.ref b233), .val (.ref b247), .val (.int ((p1 &&& (255 : Int32)) % (3 : Int32))), .val (.ref aA), .val (.ref b390), .unset, .unset, .unset, .unset, .unset]) rfl ?_
        show Steps p.tables e below (T390.setTop (mkF m 81 #[.val (.int p0), .val (.int p1), .val (.long p2), .second, .val (.int p3), .val (.long p4), .second, .val (.ref b233), .val (.ref b247), .val (.int ((p1 &&& (255 : Int32)) % (3 : Int32))), .val (.ref aA), .val (.ref b390), .unset, .unset, .unset, .unset, .unset] [])) _
        refine XS.aload X390.here hx rfl (hb hby at_81) rfl rfl ?_
        show Steps p.tables e below (T390.setTop (mkF m 83 #[.val (.int p0), .val (.int p1), .val (.long p2), .second, .val (.int p3), .val (.long p4), .second, .val (.ref b233), .val (.ref b247), .val (.int ((p1 &&& (255 : Int32)) % (3 : Int32))), .val (.ref aA), .val (.ref b390), .unset, .unset, .unset, .unset, .unset] [(.ref b390)])) _
        refine XS.iconst X390.here hx rfl (hb hby at_83) ?_
        show Steps p.tables e below (T390.setTop (mkF m 84 #[.val (.int p0), .val (.int p1), .val (.long p2), .second, .val (.int p3), .val (.long p4), .second, .val (.ref b233), .val (.ref b247), .val (.int ((p1 &&& (255 : Int32)) % (3 : Int32))), .val (.ref aA), .val (.ref b390), .unset, .unset, .unset, .unset, .unset] [(.int (0 : Int32)), (.ref b390)])) _
        refine XS.iloadN X390.here hx rfl (hb hby at_84) rfl ?_
        show Steps p.tables e below (T390.setTop (mkF m 85 #[.val (.int p0), .val (.int p1), .val (.long p2), .second, .val (.int p3), .val (.long p4), .second, .val (.ref b233), .val (.ref b247), .val (.int ((p1 &&& (255 : Int32)) % (3 : Int32))), .val (.ref aA), .val (.ref b390), .unset, .unset, .unset, .unset, .unset] [(.int p0), (.int (0 : Int32)), (.ref b390)])) _
        refine XS.bipush X390.here hx rfl (hb hby at_85) ?_
        show Steps p.tables e below (T390.setTop (mkF m 87 #[.val (.int p0), .val (.int p1), .val (.long p2), .second, .val (.int p3), .val (.long p4), .second, .val (.ref b233), .val (.ref b247), .val (.int ((p1 &&& (255 : Int32)) % (3 : Int32))), .val (.ref aA), .val (.ref b390), .unset, .unset, .unset, .unset, .unset] [(.int (16 : Int32)), (.int p0), (.int (0 : Int32)), (.ref b390)])) _
        refine XS.iushr X390.here hx rfl (hb hby at_87) rfl ?_
        show Steps p.tables e below (T390.setTop (mkF m 88 #[.val (.int p0), .val (.int p1), .val (.long p2), .second, .val (.int p3), .val (.long p4), .second, .val (.ref b233), .val (.ref b247), .val (.int ((p1 &&& (255 : Int32)) % (3 : Int32))), .val (.ref aA), .val (.ref b390), .unset, .unset, .unset, .unset, .unset] [(.int ((p0.toUInt32 >>> ((16 : Int32) &&& 31).toUInt32).toInt32)), (.int (0 : Int32)), (.ref b390)])) _
        refine XS.i2b X390.here hx rfl (hb hby at_88) rfl ?_
        exact k)
      obtain ⟨cl398, Ar398, qq398, S398, M398, H398, G398⟩ := V390
      have hin398 : ¬ ((0 : Int32) < 0 ∨ cl398.slots.size ≤ ((0 : Int32)).toNatClampNeg) := inb_of S398 ⟨by decide, by decide⟩
      obtain ⟨T398, h398, X398, e398, W398, st398⟩ := stB X390 hx hZ e390 Ar398 (j := (0 : Int32)) hin398 (g := (mkF m 89 #[.val (.int p0), .val (.int p1), .val (.long p2), .second, .val (.int p3), .val (.long p4), .second, .val (.ref b233), .val (.ref b247), .val (.int ((p1 &&& (255 : Int32)) % (3 : Int32))), .val (.ref aA), .val (.ref b390), .unset, .unset, .unset, .unset, .unset] [(.int (((p0.toUInt32 >>> ((16 : Int32) &&& 31).toUInt32).toInt32).toInt8.toInt32)), (.int (0 : Int32)), (.ref b390)])) rfl rfl (hb hby at_89)
      have V398 : Arv Z h398 b390 c390 .byte (1 : Int32) [(.int (nar .byte (((p0.toUInt32 >>> ((16 : Int32) &&& 31).toUInt32).toInt32).toInt8.toInt32)))] (.int (0 : Int32)) := Arv.set Ar398 qq398 S398 M398 H398 G398 (fits_nar_byte _) W398 0 rfl (Nat.le_of_ble_eq_true rfl)
      have N398 := Fr.snoc X398 N256 g_b390
      have Z399 : n0 ≤ h398.size := Nat.le_trans Z392 (Nat.le_of_eq W398.size.symm)
      have F400 : Old Z n0 h398 := Old.wr F393 W398 g_b390
      have F401 : Exa Z h398 b247 "java/lang/String" := Exa.wr W398 F394
      have F402 : Sta Z h398 "com/example/pen_over_wire/penoverwire/model/Role" "ADMIN" "Lcom/example/pen_over_wire/penoverwire/model/Role;" (.ref aA) := Sta.wr W398 F395
      have k403 : ∀ t, Steps p.tables e below (T398.setTop (mkF m 90 #[.val (.int p0), .val (.int p1), .val (.long p2), .second, .val (.int p3), .val (.long p4), .second, .val (.ref b233), .val (.ref b247), .val (.int ((p1 &&& (255 : Int32)) % (3 : Int32))), .val (.ref aA), .val (.ref b390), .unset, .unset, .unset, .unset, .unset] [])) t → Steps p.tables e below (s₁.setTop (entryFrame m #[(.int p0), (.int p1), (.long p2), (.int p3), (.long p4)] maxLocals)) t := fun t k => k397 t (st398 t k)
      have k404 : ∀ t, Steps p.tables e below (T398.setTop (mkF m 96 #[.val (.int p0), .val (.int p1), .val (.long p2), .second, .val (.int p3), .val (.long p4), .second, .val (.ref b233), .val (.ref b247), .val (.int ((p1 &&& (255 : Int32)) % (3 : Int32))), .val (.ref aA), .val (.ref b390), .unset, .unset, .unset, .unset, .unset] [(.int (((p1.toUInt32 >>> ((8 : Int32) &&& 31).toUInt32).toInt32) &&& (1 : Int32)))])) t → Steps p.tables e below (s₁.setTop (entryFrame m #[(.int p0), (.int p1), (.long p2), (.int p3), (.long p4)] maxLocals)) t := fun t k => k403 t (by
        show Steps p.tables e below (T398.setTop (mkF m 90 #[.val (.int p0), .val (.int p1), .val (.long p2), .second, .val (.int p3), .val (.long p4), .second, .val (.ref b233), .val (.ref b247), .val (.int ((p1 &&& (255 : Int32)) % (3 : Int32))), .val (.ref aA), .val (.ref b390), .unset, .unset, .unset, .unset, .unset] [])) _
        refine XS.iloadN X398.here hx rfl (hb hby at_90) rfl ?_
        show Steps p.tables e below (T398.setTop (mkF m 91 #[.val (.int p0), .val (.int p1), .val (.long p2), .second, .val (.int p3), .val (.long p4), .second, .val (.ref b233), .val (.ref b247), .val (.int ((p1 &&& (255 : Int32)) % (3 : Int32))), .val (.ref aA), .val (.ref b390), .unset, .unset, .unset, .unset, .unset] [(.int p1)])) _
        refine XS.bipush X398.here hx rfl (hb hby at_91) ?_
        show Steps p.tables e below (T398.setTop (mkF m 93 #[.val (.int p0), .val (.int p1), .val (.long p2), .second, .val (.int p3), .val (.long p4), .second, .val (.ref b233), .val (.ref b247), .val (.int ((p1 &&& (255 : Int32)) % (3 : Int32))), .val (.ref aA), .val (.ref b390), .unset, .unset, .unset, .unset, .unset] [(.int (8 : Int32)), (.int p1)])) _
        refine XS.iushr X398.here hx rfl (hb hby at_93) rfl ?_
        show Steps p.tables e below (T398.setTop (mkF m 94 #[.val (.int p0), .val (.int p1), .val (.long p2), .second, .val (.int p3), .val (.long p4), .second, .val (.ref b233), .val (.ref b247), .val (.int ((p1 &&& (255 : Int32)) % (3 : Int32))), .val (.ref aA), .val (.ref b390), .unset, .unset, .unset, .unset, .unset] [(.int ((p1.toUInt32 >>> ((8 : Int32) &&& 31).toUInt32).toInt32))])) _
        refine XS.iconst X398.here hx rfl (hb hby at_94) ?_
        show Steps p.tables e below (T398.setTop (mkF m 95 #[.val (.int p0), .val (.int p1), .val (.long p2), .second, .val (.int p3), .val (.long p4), .second, .val (.ref b233), .val (.ref b247), .val (.int ((p1 &&& (255 : Int32)) % (3 : Int32))), .val (.ref aA), .val (.ref b390), .unset, .unset, .unset, .unset, .unset] [(.int (1 : Int32)), (.int ((p1.toUInt32 >>> ((8 : Int32) &&& 31).toUInt32).toInt32))])) _
        refine XS.iand X398.here hx rfl (hb hby at_95) rfl ?_
        exact k)
      have k406 : ∀ t, Steps p.tables e below (T398.setTop (mkF m 104 #[.val (.int p0), .val (.int p1), .val (.long p2), .second, .val (.int p3), .val (.long p4), .second, .val (.ref b233), .val (.ref b247), .val (.int ((p1 &&& (255 : Int32)) % (3 : Int32))), .val (.ref aA), .val (.ref b390), .unset, .unset, .unset, .unset, .unset] [(.int (if (((p1.toUInt32 >>> ((8 : Int32) &&& 31).toUInt32).toInt32) &&& (1 : Int32)) = (0 : Int32) then (0 : Int32) else (1 : Int32)))])) t → Steps p.tables e below (s₁.setTop (entryFrame m #[(.int p0), (.int p1), (.long p2), (.int p3), (.long p4)] maxLocals)) t := fun t k => k404 t (by
        by_cases hq405 : (((p1.toUInt32 >>> ((8 : Int32) &&& 31).toUInt32).toInt32) &&& (1 : Int32)) = (0 : Int32)
        · simp only [if_pos hq405] at k
          show Steps p.tables e below (T398.setTop (mkF m 96 #[.val (.int p0), .val (.int p1), .val (.long p2), .second, .val (.int p3), .val (.long p4), .second, .val (.ref b233), .val (.ref b247), .val (.int ((p1 &&& (255 : Int32)) % (3 : Int32))), .val (.ref aA), .val (.ref b390), .unset, .unset, .unset, .unset, .unset] [(.int (((p1.toUInt32 >>> ((8 : Int32) &&& 31).toUInt32).toInt32) &&& (1 : Int32)))])) _
          refine XS.ifYes X398.here hx rfl (pc0 := 96) (pc' := 103) rfl (hb hby at_96) rfl ((if0 _ _).trans (teq hq405).1) (by decide) (by decide) ?_
          show Steps p.tables e below (T398.setTop (mkF m 103 #[.val (.int p0), .val (.int p1), .val (.long p2), .second, .val (.int p3), .val (.long p4), .second, .val (.ref b233), .val (.ref b247), .val (.int ((p1 &&& (255 : Int32)) % (3 : Int32))), .val (.ref aA), .val (.ref b390), .unset, .unset, .unset, .unset, .unset] [])) _
          refine XS.iconst X398.here hx rfl (hb hby at_103) ?_
          exact k
        · simp only [if_neg hq405] at k
          show Steps p.tables e below (T398.setTop (mkF m 96 #[.val (.int p0), .val (.int p1), .val (.long p2), .second, .val (.int p3), .val (.long p4), .second, .val (.ref b233), .val (.ref b247), .val (.int ((p1 &&& (255 : Int32)) % (3 : Int32))), .val (.ref aA), .val (.ref b390), .unset, .unset, .unset, .unset, .unset] [(.int (((p1.toUInt32 >>> ((8 : Int32) &&& 31).toUInt32).toInt32) &&& (1 : Int32)))])) _
          refine XS.ifNo X398.here hx rfl (hb hby at_96) rfl ((if0 _ _).trans (feq hq405).1) ?_
          show Steps p.tables e below (T398.setTop (mkF m 99 #[.val (.int p0), .val (.int p1), .val (.long p2), .second, .val (.int p3), .val (.long p4), .second, .val (.ref b233), .val (.ref b247), .val (.int ((p1 &&& (255 : Int32)) % (3 : Int32))), .val (.ref aA), .val (.ref b390), .unset, .unset, .unset, .unset, .unset] [])) _
          refine XS.iconst X398.here hx rfl (hb hby at_99) ?_
          show Steps p.tables e below (T398.setTop (mkF m 100 #[.val (.int p0), .val (.int p1), .val (.long p2), .second, .val (.int p3), .val (.long p4), .second, .val (.ref b233), .val (.ref b247), .val (.int ((p1 &&& (255 : Int32)) % (3 : Int32))), .val (.ref aA), .val (.ref b390), .unset, .unset, .unset, .unset, .unset] [(.int (1 : Int32))])) _
          refine XS.goto X398.here hx rfl (pc0 := 100) (pc' := 104) rfl (hb hby at_100) (by decide) (by decide) ?_
          exact k)
      have k407 : ∀ t, Steps p.tables e below (T398.setTop (mkF m 106 #[.val (.int p0), .val (.int p1), .val (.long p2), .second, .val (.int p3), .val (.long p4), .second, .val (.ref b233), .val (.ref b247), .val (.int ((p1 &&& (255 : Int32)) % (3 : Int32))), .val (.ref aA), .val (.ref b390), .val (.int (if (((p1.toUInt32 >>> ((8 : Int32) &&& 31).toUInt32).toInt32) &&& (1 : Int32)) = (0 : Int32) then (0 : Int32) else (1 : Int32))), .unset, .unset, .unset, .unset] [])) t → Steps p.tables e below (s₁.setTop (entryFrame m #[(.int p0), (.int p1), (.long p2), (.int p3), (.long p4)] maxLocals)) t := fun t k => k406 t (by
        show Steps p.tables e below (T398.setTop (mkF m 104 #[.val (.int p0), .val (.int p1), .val (.long p2), .second, .val (.int p3), .val (.long p4), .second, .val (.ref b233), .val (.ref b247), .val (.int ((p1 &&& (255 : Int32)) % (3 : Int32))), .val (.ref aA), .val (.ref b390), .unset, .unset, .unset, .unset, .unset] [(.int (if (((p1.toUInt32 >>> ((8 : Int32) &&& 31).toUInt32).toInt32) &&& (1 : Int32)) = (0 : Int32) then (0 : Int32) else (1 : Int32)))])) _
        refine XS.istore X398.here hx rfl (hb hby at_104) rfl (l' := #[.val (.int p0), .val (.int p1), .val (.long p2), .second, .val (.int p3), .val (.long p4), .second, .val (.ref b233), .val (.ref b247), .val (.int ((p1 &&& (255 : Int32)) % (3 : Int32))), .val (.ref aA), .val (.ref b390), .val (.int (if (((p1.toUInt32 >>> ((8 : Int32) &&& 31).toUInt32).toInt32) &&& (1 : Int32)) = (0 : Int32) then (0 : Int32) else (1 : Int32))), .unset, .unset, .unset, .unset]) rfl ?_
        exact k)
      obtain ⟨d12, e_d12⟩ : ∃ z, z = (if (((p1.toUInt32 >>> ((8 : Int32) &&& 31).toUInt32).toInt32) &&& (1 : Int32)) = (0 : Int32) then (0 : Int32) else (1 : Int32)) := ⟨_, rfl⟩
      rw [← e_d12] at k407
      have h_d12 : d12 = 0 ∨ d12 = 1 := by rw [e_d12]; exact own_01 _
      have k408 : ∀ t, Steps p.tables e below (T398.setTop (mkF m 112 #[.val (.int p0), .val (.int p1), .val (.long p2), .second, .val (.int p3), .val (.long p4), .second, .val (.ref b233), .val (.ref b247), .val (.int ((p1 &&& (255 : Int32)) % (3 : Int32))), .val (.ref aA), .val (.ref b390), .val (.int d12), .unset, .unset, .unset, .unset] [(.int (((p1.toUInt32 >>> ((9 : Int32) &&& 31).toUInt32).toInt32) &&& (1 : Int32)))])) t → Steps p.tables e below (s₁.setTop (entryFrame m #[(.int p0), (.int p1), (.long p2), (.int p3), (.long p4)] maxLocals)) t := fun t k => k407 t (by
        show Steps p.tables e below (T398.setTop (mkF m 106 #[.val (.int p0), .val (.int p1), .val (.long p2), .second, .val (.int p3), .val (.long p4), .second, .val (.ref b233), .val (.ref b247), .val (.int ((p1 &&& (255 : Int32)) % (3 : Int32))), .val (.ref aA), .val (.ref b390), .val (.int d12), .unset, .unset, .unset, .unset] [])) _
        refine XS.iloadN X398.here hx rfl (hb hby at_106) rfl ?_
        show Steps p.tables e below (T398.setTop (mkF m 107 #[.val (.int p0), .val (.int p1), .val (.long p2), .second, .val (.int p3), .val (.long p4), .second, .val (.ref b233), .val (.ref b247), .val (.int ((p1 &&& (255 : Int32)) % (3 : Int32))), .val (.ref aA), .val (.ref b390), .val (.int d12), .unset, .unset, .unset, .unset] [(.int p1)])) _
        refine XS.bipush X398.here hx rfl (hb hby at_107) ?_
        show Steps p.tables e below (T398.setTop (mkF m 109 #[.val (.int p0), .val (.int p1), .val (.long p2), .second, .val (.int p3), .val (.long p4), .second, .val (.ref b233), .val (.ref b247), .val (.int ((p1 &&& (255 : Int32)) % (3 : Int32))), .val (.ref aA), .val (.ref b390), .val (.int d12), .unset, .unset, .unset, .unset] [(.int (9 : Int32)), (.int p1)])) _
        refine XS.iushr X398.here hx rfl (hb hby at_109) rfl ?_
        show Steps p.tables e below (T398.setTop (mkF m 110 #[.val (.int p0), .val (.int p1), .val (.long p2), .second, .val (.int p3), .val (.long p4), .second, .val (.ref b233), .val (.ref b247), .val (.int ((p1 &&& (255 : Int32)) % (3 : Int32))), .val (.ref aA), .val (.ref b390), .val (.int d12), .unset, .unset, .unset, .unset] [(.int ((p1.toUInt32 >>> ((9 : Int32) &&& 31).toUInt32).toInt32))])) _
        refine XS.iconst X398.here hx rfl (hb hby at_110) ?_
        show Steps p.tables e below (T398.setTop (mkF m 111 #[.val (.int p0), .val (.int p1), .val (.long p2), .second, .val (.int p3), .val (.long p4), .second, .val (.ref b233), .val (.ref b247), .val (.int ((p1 &&& (255 : Int32)) % (3 : Int32))), .val (.ref aA), .val (.ref b390), .val (.int d12), .unset, .unset, .unset, .unset] [(.int (1 : Int32)), (.int ((p1.toUInt32 >>> ((9 : Int32) &&& 31).toUInt32).toInt32))])) _
        refine XS.iand X398.here hx rfl (hb hby at_111) rfl ?_
        exact k)
      have k410 : ∀ t, Steps p.tables e below (T398.setTop (mkF m 120 #[.val (.int p0), .val (.int p1), .val (.long p2), .second, .val (.int p3), .val (.long p4), .second, .val (.ref b233), .val (.ref b247), .val (.int ((p1 &&& (255 : Int32)) % (3 : Int32))), .val (.ref aA), .val (.ref b390), .val (.int d12), .unset, .unset, .unset, .unset] [(.int (if (((p1.toUInt32 >>> ((9 : Int32) &&& 31).toUInt32).toInt32) &&& (1 : Int32)) = (0 : Int32) then (0 : Int32) else (1 : Int32)))])) t → Steps p.tables e below (s₁.setTop (entryFrame m #[(.int p0), (.int p1), (.long p2), (.int p3), (.long p4)] maxLocals)) t := fun t k => k408 t (by
        by_cases hq409 : (((p1.toUInt32 >>> ((9 : Int32) &&& 31).toUInt32).toInt32) &&& (1 : Int32)) = (0 : Int32)
        · simp only [if_pos hq409] at k
          show Steps p.tables e below (T398.setTop (mkF m 112 #[.val (.int p0), .val (.int p1), .val (.long p2), .second, .val (.int p3), .val (.long p4), .second, .val (.ref b233), .val (.ref b247), .val (.int ((p1 &&& (255 : Int32)) % (3 : Int32))), .val (.ref aA), .val (.ref b390), .val (.int d12), .unset, .unset, .unset, .unset] [(.int (((p1.toUInt32 >>> ((9 : Int32) &&& 31).toUInt32).toInt32) &&& (1 : Int32)))])) _
          refine XS.ifYes X398.here hx rfl (pc0 := 112) (pc' := 119) rfl (hb hby at_112) rfl ((if0 _ _).trans (teq hq409).1) (by decide) (by decide) ?_
          show Steps p.tables e below (T398.setTop (mkF m 119 #[.val (.int p0), .val (.int p1), .val (.long p2), .second, .val (.int p3), .val (.long p4), .second, .val (.ref b233), .val (.ref b247), .val (.int ((p1 &&& (255 : Int32)) % (3 : Int32))), .val (.ref aA), .val (.ref b390), .val (.int d12), .unset, .unset, .unset, .unset] [])) _
          refine XS.iconst X398.here hx rfl (hb hby at_119) ?_
          exact k
        · simp only [if_neg hq409] at k
          show Steps p.tables e below (T398.setTop (mkF m 112 #[.val (.int p0), .val (.int p1), .val (.long p2), .second, .val (.int p3), .val (.long p4), .second, .val (.ref b233), .val (.ref b247), .val (.int ((p1 &&& (255 : Int32)) % (3 : Int32))), .val (.ref aA), .val (.ref b390), .val (.int d12), .unset, .unset, .unset, .unset] [(.int (((p1.toUInt32 >>> ((9 : Int32) &&& 31).toUInt32).toInt32) &&& (1 : Int32)))])) _
          refine XS.ifNo X398.here hx rfl (hb hby at_112) rfl ((if0 _ _).trans (feq hq409).1) ?_
          show Steps p.tables e below (T398.setTop (mkF m 115 #[.val (.int p0), .val (.int p1), .val (.long p2), .second, .val (.int p3), .val (.long p4), .second, .val (.ref b233), .val (.ref b247), .val (.int ((p1 &&& (255 : Int32)) % (3 : Int32))), .val (.ref aA), .val (.ref b390), .val (.int d12), .unset, .unset, .unset, .unset] [])) _
          refine XS.iconst X398.here hx rfl (hb hby at_115) ?_
          show Steps p.tables e below (T398.setTop (mkF m 116 #[.val (.int p0), .val (.int p1), .val (.long p2), .second, .val (.int p3), .val (.long p4), .second, .val (.ref b233), .val (.ref b247), .val (.int ((p1 &&& (255 : Int32)) % (3 : Int32))), .val (.ref aA), .val (.ref b390), .val (.int d12), .unset, .unset, .unset, .unset] [(.int (1 : Int32))])) _
          refine XS.goto X398.here hx rfl (pc0 := 116) (pc' := 120) rfl (hb hby at_116) (by decide) (by decide) ?_
          exact k)
      have k411 : ∀ t, Steps p.tables e below (T398.setTop (mkF m 122 #[.val (.int p0), .val (.int p1), .val (.long p2), .second, .val (.int p3), .val (.long p4), .second, .val (.ref b233), .val (.ref b247), .val (.int ((p1 &&& (255 : Int32)) % (3 : Int32))), .val (.ref aA), .val (.ref b390), .val (.int d12), .val (.int (if (((p1.toUInt32 >>> ((9 : Int32) &&& 31).toUInt32).toInt32) &&& (1 : Int32)) = (0 : Int32) then (0 : Int32) else (1 : Int32))), .unset, .unset, .unset] [])) t → Steps p.tables e below (s₁.setTop (entryFrame m #[(.int p0), (.int p1), (.long p2), (.int p3), (.long p4)] maxLocals)) t := fun t k => k410 t (by
        show Steps p.tables e below (T398.setTop (mkF m 120 #[.val (.int p0), .val (.int p1), .val (.long p2), .second, .val (.int p3), .val (.long p4), .second, .val (.ref b233), .val (.ref b247), .val (.int ((p1 &&& (255 : Int32)) % (3 : Int32))), .val (.ref aA), .val (.ref b390), .val (.int d12), .unset, .unset, .unset, .unset] [(.int (if (((p1.toUInt32 >>> ((9 : Int32) &&& 31).toUInt32).toInt32) &&& (1 : Int32)) = (0 : Int32) then (0 : Int32) else (1 : Int32)))])) _
        refine XS.istore X398.here hx rfl (hb hby at_120) rfl (l' := #[.val (.int p0), .val (.int p1), .val (.long p2), .second, .val (.int p3), .val (.long p4), .second, .val (.ref b233), .val (.ref b247), .val (.int ((p1 &&& (255 : Int32)) % (3 : Int32))), .val (.ref aA), .val (.ref b390), .val (.int d12), .val (.int (if (((p1.toUInt32 >>> ((9 : Int32) &&& 31).toUInt32).toInt32) &&& (1 : Int32)) = (0 : Int32) then (0 : Int32) else (1 : Int32))), .unset, .unset, .unset]) rfl ?_
        exact k)
      obtain ⟨d13, e_d13⟩ : ∃ z, z = (if (((p1.toUInt32 >>> ((9 : Int32) &&& 31).toUInt32).toInt32) &&& (1 : Int32)) = (0 : Int32) then (0 : Int32) else (1 : Int32)) := ⟨_, rfl⟩
      rw [← e_d13] at k411
      have h_d13 : d13 = 0 ∨ d13 = 1 := by rw [e_d13]; exact own_01 _
      obtain ⟨T412, h412, X412, e412, E412, A412, D412, -, st412⟩ := newO X398 hx hZ hown (hw _ (List.mem_of_getElem? (i := 33) rfl)) (hw _ (List.mem_of_getElem? (i := 34) rfl)) (hw _ (List.mem_of_getElem? (i := 35) rfl)) e398 (g := (mkF m 122 #[.val (.int p0), .val (.int p1), .val (.long p2), .second, .val (.int p3), .val (.long p4), .second, .val (.ref b233), .val (.ref b247), .val (.int ((p1 &&& (255 : Int32)) % (3 : Int32))), .val (.ref aA), .val (.ref b390), .val (.int d12), .val (.int d13), .unset, .unset, .unset] [])) rfl (hb hby at_122) (by decide) (by decide)
      obtain ⟨b412, g412⟩ : ∃ z, z = h398.size := ⟨_, rfl⟩
      rw [← g412] at A412 D412 st412
      have ne413 : b247 ≠ b412 := Nat.ne_of_lt (Nat.lt_of_lt_of_le (F401).lt (Nat.le_of_eq g412.symm))
      have ne414 : b390 ≠ b412 := Nat.ne_of_lt (Nat.lt_of_lt_of_le (V398).lt (Nat.le_of_eq g412.symm))
      have g_b412 : n0 ≤ b412 := Nat.le_trans Z399 (Nat.le_of_eq g412.symm)
      have Z415 : n0 ≤ h412.size := Nat.le_trans Z399 E412.1
      have F416 : Old Z n0 h412 := Old.ext F400 E412
      have F417 : Exa Z h412 b247 "java/lang/String" := (F401).ext E412
      have F418 : Sta Z h412 "com/example/pen_over_wire/penoverwire/model/Role" "ADMIN" "Lcom/example/pen_over_wire/penoverwire/model/Role;" (.ref aA) := Sta.ext E412 F402
      have F419 : Arv Z h412 b390 c390 .byte (1 : Int32) [(.int (nar .byte (((p0.toUInt32 >>> ((16 : Int32) &&& 31).toUInt32).toInt32).toInt8.toInt32)))] (.int (0 : Int32)) := (V398).ext E412
      have F420 : Fld Z h412 b412 "com/example/pen_over_wire/penoverwire/model/FailedAttempts" "count" "I" (.int (0 : Int32)) := D412 (Or.inr (hw _ (List.mem_of_getElem? (i := 46) rfl))) (ty := .int) (by decide)
      have F421 : Fld Z h412 b412 "com/example/pen_over_wire/penoverwire/model/FailedAttempts" "lockRecorded" "Z" (.int (0 : Int32)) := D412 (Or.inr (hw _ (List.mem_of_getElem? (i := 48) rfl))) (ty := .boolean) (by decide)
      have k422 : ∀ t, Steps p.tables e below (T412.setTop (mkF m 125 #[.val (.int p0), .val (.int p1), .val (.long p2), .second, .val (.int p3), .val (.long p4), .second, .val (.ref b233), .val (.ref b247), .val (.int ((p1 &&& (255 : Int32)) % (3 : Int32))), .val (.ref aA), .val (.ref b390), .val (.int d12), .val (.int d13), .unset, .unset, .unset] [(.ref b412)])) t → Steps p.tables e below (s₁.setTop (entryFrame m #[(.int p0), (.int p1), (.long p2), (.int p3), (.long p4)] maxLocals)) t := fun t k => k411 t (st412 t k)
      have k423 : ∀ t, Steps p.tables e below (T412.setTop (mkF m 130 #[.val (.int p0), .val (.int p1), .val (.long p2), .second, .val (.int p3), .val (.long p4), .second, .val (.ref b233), .val (.ref b247), .val (.int ((p1 &&& (255 : Int32)) % (3 : Int32))), .val (.ref aA), .val (.ref b390), .val (.int d12), .val (.int d13), .unset, .unset, .unset] [(.int d13), (.int p3), (.ref b412), (.ref b412)])) t → Steps p.tables e below (s₁.setTop (entryFrame m #[(.int p0), (.int p1), (.long p2), (.int p3), (.long p4)] maxLocals)) t := fun t k => k422 t (by
        show Steps p.tables e below (T412.setTop (mkF m 125 #[.val (.int p0), .val (.int p1), .val (.long p2), .second, .val (.int p3), .val (.long p4), .second, .val (.ref b233), .val (.ref b247), .val (.int ((p1 &&& (255 : Int32)) % (3 : Int32))), .val (.ref aA), .val (.ref b390), .val (.int d12), .val (.int d13), .unset, .unset, .unset] [(.ref b412)])) _
        refine XS.dup X412.here hx rfl (hb hby at_125) rfl rfl ?_
        show Steps p.tables e below (T412.setTop (mkF m 126 #[.val (.int p0), .val (.int p1), .val (.long p2), .second, .val (.int p3), .val (.long p4), .second, .val (.ref b233), .val (.ref b247), .val (.int ((p1 &&& (255 : Int32)) % (3 : Int32))), .val (.ref aA), .val (.ref b390), .val (.int d12), .val (.int d13), .unset, .unset, .unset] [(.ref b412), (.ref b412)])) _
        refine XS.iload X412.here hx rfl (hb hby at_126) rfl ?_
        show Steps p.tables e below (T412.setTop (mkF m 128 #[.val (.int p0), .val (.int p1), .val (.long p2), .second, .val (.int p3), .val (.long p4), .second, .val (.ref b233), .val (.ref b247), .val (.int ((p1 &&& (255 : Int32)) % (3 : Int32))), .val (.ref aA), .val (.ref b390), .val (.int d12), .val (.int d13), .unset, .unset, .unset] [(.int p3), (.ref b412), (.ref b412)])) _
        refine XS.iload X412.here hx rfl (hb hby at_128) rfl ?_
        exact k)
      obtain ⟨_, _, ⟨T424, L424, kc424, ks424⟩, -, X424, ⟨Lc424, hQ424, l424, y424, z424⟩, st424⟩ := X412.specialBack hx (y := (⟨"com/example/pen_over_wire/penoverwire/model/FailedAttempts", "<init>", "(IZ)V"⟩ : MethodName)) rfl hown (mvT hZ (hw _ (List.mem_of_getElem? (i := 36) rfl))) (mvT hZ (hw _ (List.mem_of_getElem? (i := 37) rfl))) (mvT hZ (hw _ (List.mem_of_getElem? (i := 38) rfl))) (by decide) (backOf (W := 1) (rm7 l Z a0 hw [] b412 p3 d13 h412 n0 Z415 F420 F421 A412 g_b412 h_d13) hZ (hw _ (List.mem_of_getElem? (i := 38) rfl)) (hw _ (List.mem_of_getElem? (i := 35) rfl)) (by decide) (by decide)) (g := (mkF m 130 #[.val (.int p0), .val (.int p1), .val (.long p2), .second, .val (.int p3), .val (.long p4), .second, .val (.ref b233), .val (.ref b247), .val (.int ((p1 &&& (255 : Int32)) % (3 : Int32))), .val (.ref aA), .val (.ref b390), .val (.int d12), .val (.int d13), .unset, .unset, .unset] [(.int d13), (.int p3), (.ref b412), (.ref b412)])) rfl (by rw [hml]; rfl) (Steps.refl _) (a := b412) (argsL := [(.int p3), (.int d13)]) (rest := [(.ref b412)]) (lenOf pd_3 rfl) rfl (by show 2 * 0 + _ ≤ _; exact Nat.le_of_eq rfl) (hb hby at_130) (fun _ _ => ⟨rfl, e412, (by decide : 5 + 0 ≤ _), (by decide : 11 + 0 ≤ _)⟩)
      dsimp only [Pt.U, Pt.locs, Pt.cells, Pt.slots] at X424 l424 y424 z424 st424 hQ424
      subst l424 y424 z424
      obtain ⟨rfl, Nq424, K424⟩ := hQ424
      have N424 := Fr.app N398 Nq424
      have Z425 : n0 ≤ T424.heap.size := Nat.le_trans Z415 K424.1
      have F426 : Old Z n0 T424.heap := Old.keep F416 K424 (allS g_b412 all0)
      have F427 : Exa Z T424.heap b247 "java/lang/String" := (F417).keep K424
      have F428 : Arv Z T424.heap b390 c390 .byte (1 : Int32) [(.int (nar .byte (((p0.toUInt32 >>> ((16 : Int32) &&& 31).toUInt32).toInt32).toInt8.toInt32)))] (.int (0 : Int32)) := (F419).keep K424 (ninS ne414 nin0)
      have F429 : Exa Z T424.heap b412 "com/example/pen_over_wire/penoverwire/model/FailedAttempts" := (A412).keep K424
      have k430 : ∀ t, Steps p.tables e below (T424.setTop (mkF m 133 #[.val (.int p0), .val (.int p1), .val (.long p2), .second, .val (.int p3), .val (.long p4), .second, .val (.ref b233), .val (.ref b247), .val (.int ((p1 &&& (255 : Int32)) % (3 : Int32))), .val (.ref aA), .val (.ref b390), .val (.int d12), .val (.int d13), .unset, .unset, .unset] [(.ref b412)])) t → Steps p.tables e below (s₁.setTop (entryFrame m #[(.int p0), (.int p1), (.long p2), (.int p3), (.long p4)] maxLocals)) t := fun t k => k423 t (st424.trans k)
      have k431 : ∀ t, Steps p.tables e below (T424.setTop (mkF m 135 #[.val (.int p0), .val (.int p1), .val (.long p2), .second, .val (.int p3), .val (.long p4), .second, .val (.ref b233), .val (.ref b247), .val (.int ((p1 &&& (255 : Int32)) % (3 : Int32))), .val (.ref aA), .val (.ref b390), .val (.int d12), .val (.int d13), .val (.ref b412), .unset, .unset] [])) t → Steps p.tables e below (s₁.setTop (entryFrame m #[(.int p0), (.int p1), (.long p2), (.int p3), (.long p4)] maxLocals)) t := fun t k => k430 t (by
        show Steps p.tables e below (T424.setTop (mkF m 133 #[.val (.int p0), .val (.int p1), .val (.long p2), .second, .val (.int p3), .val (.long p4), .second, .val (.ref b233), .val (.ref b247), .val (.int ((p1 &&& (255 : Int32)) % (3 : Int32))), .val (.ref aA), .val (.ref b390), .val (.int d12), .val (.int d13), .unset, .unset, .unset] [(.ref b412)])) _
        refine XS.astore X424.here hx rfl (hb hby at_133) rfl rfl (l' := #[.val (.int p0), .val (.int p1), .val (.long p2), .second, .val (.int p3), .val (.long p4), .second, .val (.ref b233), .val (.ref b247), .val (.int ((p1 &&& (255 : Int32)) % (3 : Int32))), .val (.ref aA), .val (.ref b390), .val (.int d12), .val (.int d13), .val (.ref b412), .unset, .unset]) rfl ?_
        exact k)
      obtain ⟨T432, h432, X432, e432, E432, A432, D432, -, st432⟩ := newO X424 hx hZ hown (hw _ (List.mem_of_getElem? (i := 49) rfl)) (hw _ (List.mem_of_getElem? (i := 50) rfl)) (hw _ (List.mem_of_getElem? (i := 51) rfl)) rfl (g := (mkF m 135 #[.val (.int p0), .val (.int p1), .val (.long p2), .second, .val (.int p3), .val (.long p4), .second, .val (.ref b233), .val (.ref b247), .val (.int ((p1 &&& (255 : Int32)) % (3 : Int32))), .val (.ref aA), .val (.ref b390), .val (.int d12), .val (.int d13), .val (.ref b412), .unset, .unset] [])) rfl (hb hby at_135) (by decide) (by decide)
      obtain ⟨b432, g432⟩ : ∃ z, z = T424.heap.size := ⟨_, rfl⟩
      rw [← g432] at A432 D432 st432
      have ne433 : b247 ≠ b432 := Nat.ne_of_lt (Nat.lt_of_lt_of_le (F427).lt (Nat.le_of_eq g432.symm))
      have ne434 : b390 ≠ b432 := Nat.ne_of_lt (Nat.lt_of_lt_of_le (F428).lt (Nat.le_of_eq g432.symm))
      have ne435 : b412 ≠ b432 := Nat.ne_of_lt (Nat.lt_of_lt_of_le (F429).lt (Nat.le_of_eq g432.symm))
      have g_b432 : n0 ≤ b432 := Nat.le_trans Z425 (Nat.le_of_eq g432.symm)
      have Z436 : n0 ≤ h432.size := Nat.le_trans Z425 E432.1
      have F437 : Old Z n0 h432 := Old.ext F426 E432
      have F438 : Exa Z h432 b247 "java/lang/String" := (F427).ext E432
      have F439 : Arv Z h432 b390 c390 .byte (1 : Int32) [(.int (nar .byte (((p0.toUInt32 >>> ((16 : Int32) &&& 31).toUInt32).toInt32).toInt8.toInt32)))] (.int (0 : Int32)) := (F428).ext E432
      have F440 : Exa Z h432 b412 "com/example/pen_over_wire/penoverwire/model/FailedAttempts" := (F429).ext E432
      have F441 : Fld Z h432 b432 "com/example/pen_over_wire/penoverwire/model/User" "name" "Ljava/lang/String;" .null := D432 (Or.inr (hw _ (List.mem_of_getElem? (i := 57) rfl))) (ty := (.object "java/lang/String")) (by decide)
      have F442 : Fld Z h432 b432 "com/example/pen_over_wire/penoverwire/model/User" "role" "Lcom/example/pen_over_wire/penoverwire/model/Role;" .null := D432 (Or.inr (hw _ (List.mem_of_getElem? (i := 59) rfl))) (ty := (.object "com/example/pen_over_wire/penoverwire/model/Role")) (by decide)
      have F443 : Fld Z h432 b432 "com/example/pen_over_wire/penoverwire/model/User" "password" "Lcom/example/pen_over_wire/penoverwire/crypto/PasswordHash;" .null := D432 (Or.inr (hw _ (List.mem_of_getElem? (i := 61) rfl))) (ty := (.object "com/example/pen_over_wire/penoverwire/crypto/PasswordHash")) (by decide)
      have F444 : Fld Z h432 b432 "com/example/pen_over_wire/penoverwire/model/User" "totpSecret" "[B" .null := D432 (Or.inr (hw _ (List.mem_of_getElem? (i := 63) rfl))) (ty := (.array .byte)) (by decide)
      have F445 : Fld Z h432 b432 "com/example/pen_over_wire/penoverwire/model/User" "lastOtpStep" "J" (.long (0 : Int64)) := D432 (Or.inr (hw _ (List.mem_of_getElem? (i := 65) rfl))) (ty := .long) (by decide)
      have F446 : Fld Z h432 b432 "com/example/pen_over_wire/penoverwire/model/User" "failedLogins" "Lcom/example/pen_over_wire/penoverwire/model/FailedAttempts;" .null := D432 (Or.inr (hw _ (List.mem_of_getElem? (i := 67) rfl))) (ty := (.object "com/example/pen_over_wire/penoverwire/model/FailedAttempts")) (by decide)
      have F447 : Fld Z h432 b432 "com/example/pen_over_wire/penoverwire/model/User" "disabled" "Z" (.int (0 : Int32)) := D432 (Or.inr (hw _ (List.mem_of_getElem? (i := 69) rfl))) (ty := .boolean) (by decide)
      have F448 : Fld Z h432 b432 "com/example/pen_over_wire/penoverwire/model/User" "sessionEpoch" "J" (.long (0 : Int64)) := D432 (Or.inr (hw _ (List.mem_of_getElem? (i := 71) rfl))) (ty := .long) (by decide)
      have k449 : ∀ t, Steps p.tables e below (T432.setTop (mkF m 138 #[.val (.int p0), .val (.int p1), .val (.long p2), .second, .val (.int p3), .val (.long p4), .second, .val (.ref b233), .val (.ref b247), .val (.int ((p1 &&& (255 : Int32)) % (3 : Int32))), .val (.ref aA), .val (.ref b390), .val (.int d12), .val (.int d13), .val (.ref b412), .unset, .unset] [(.ref b432)])) t → Steps p.tables e below (s₁.setTop (entryFrame m #[(.int p0), (.int p1), (.long p2), (.int p3), (.long p4)] maxLocals)) t := fun t k => k431 t (st432 t k)
      have k450 : ∀ t, Steps p.tables e below (T432.setTop (mkF m 153 #[.val (.int p0), .val (.int p1), .val (.long p2), .second, .val (.int p3), .val (.long p4), .second, .val (.ref b233), .val (.ref b247), .val (.int ((p1 &&& (255 : Int32)) % (3 : Int32))), .val (.ref aA), .val (.ref b390), .val (.int d12), .val (.int d13), .val (.ref b412), .unset, .unset] [(.long p4), (.int d12), (.ref b412), (.long p2), (.ref b390), .null, (.ref aA), (.ref b247), (.ref b432), (.ref b432)])) t → Steps p.tables e below (s₁.setTop (entryFrame m #[(.int p0), (.int p1), (.long p2), (.int p3), (.long p4)] maxLocals)) t := fun t k => k449 t (by
        show Steps p.tables e below (T432.setTop (mkF m 138 #[.val (.int p0), .val (.int p1), .val (.long p2), .second, .val (.int p3), .val (.long p4), .second, .val (.ref b233), .val (.ref b247), .val (.int ((p1 &&& (255 : Int32)) % (3 : Int32))), .val (.ref aA), .val (.ref b390), .val (.int d12), .val (.int d13), .val (.ref b412), .unset, .unset] [(.ref b432)])) _
        refine XS.dup X432.here hx rfl (hb hby at_138) rfl rfl ?_
        show Steps p.tables e below (T432.setTop (mkF m 139 #[.val (.int p0), .val (.int p1), .val (.long p2), .second, .val (.int p3), .val (.long p4), .second, .val (.ref b233), .val (.ref b247), .val (.int ((p1 &&& (255 : Int32)) % (3 : Int32))), .val (.ref aA), .val (.ref b390), .val (.int d12), .val (.int d13), .val (.ref b412), .unset, .unset] [(.ref b432), (.ref b432)])) _
        refine XS.aload X432.here hx rfl (hb hby at_139) rfl rfl ?_
        show Steps p.tables e below (T432.setTop (mkF m 141 #[.val (.int p0), .val (.int p1), .val (.long p2), .second, .val (.int p3), .val (.long p4), .second, .val (.ref b233), .val (.ref b247), .val (.int ((p1 &&& (255 : Int32)) % (3 : Int32))), .val (.ref aA), .val (.ref b390), .val (.int d12), .val (.int d13), .val (.ref b412), .unset, .unset] [(.ref b247), (.ref b432), (.ref b432)])) _
        refine XS.aload X432.here hx rfl (hb hby at_141) rfl rfl ?_
        show Steps p.tables e below (T432.setTop (mkF m 143 #[.val (.int p0), .val (.int p1), .val (.long p2), .second, .val (.int p3), .val (.long p4), .second, .val (.ref b233), .val (.ref b247), .val (.int ((p1 &&& (255 : Int32)) % (3 : Int32))), .val (.ref aA), .val (.ref b390), .val (.int d12), .val (.int d13), .val (.ref b412), .unset, .unset] [(.ref aA), (.ref b247), (.ref b432), (.ref b432)])) _
        refine XS.aconstNull X432.here hx rfl (hb hby at_143) ?_
        show Steps p.tables e below (T432.setTop (mkF m 144 #[.val (.int p0), .val (.int p1), .val (.long p2), .second, .val (.int p3), .val (.long p4), .second, .val (.ref b233), .val (.ref b247), .val (.int ((p1 &&& (255 : Int32)) % (3 : Int32))), .val (.ref aA), .val (.ref b390), .val (.int d12), .val (.int d13), .val (.ref b412), .unset, .unset] [.null, (.ref aA), (.ref b247), (.ref b432), (.ref b432)])) _
        refine XS.aload X432.here hx rfl (hb hby at_144) rfl rfl ?_
        show Steps p.tables e below (T432.setTop (mkF m 146 #[.val (.int p0), .val (.int p1), .val (.long p2), .second, .val (.int p3), .val (.long p4), .second, .val (.ref b233), .val (.ref b247), .val (.int ((p1 &&& (255 : Int32)) % (3 : Int32))), .val (.ref aA), .val (.ref b390), .val (.int d12), .val (.int d13), .val (.ref b412), .unset, .unset] [(.ref b390), .null, (.ref aA), (.ref b247), (.ref b432), (.ref b432)])) _
        refine XS.lloadN X432.here hx rfl (hb hby at_146) rfl ?_
        show Steps p.tables e below (T432.setTop (mkF m 147 #[.val (.int p0), .val (.int p1), .val (.long p2), .second, .val (.int p3), .val (.long p4), .second, .val (.ref b233), .val (.ref b247), .val (.int ((p1 &&& (255 : Int32)) % (3 : Int32))), .val (.ref aA), .val (.ref b390), .val (.int d12), .val (.int d13), .val (.ref b412), .unset, .unset] [(.long p2), (.ref b390), .null, (.ref aA), (.ref b247), (.ref b432), (.ref b432)])) _
        refine XS.aload X432.here hx rfl (hb hby at_147) rfl rfl ?_
        show Steps p.tables e below (T432.setTop (mkF m 149 #[.val (.int p0), .val (.int p1), .val (.long p2), .second, .val (.int p3), .val (.long p4), .second, .val (.ref b233), .val (.ref b247), .val (.int ((p1 &&& (255 : Int32)) % (3 : Int32))), .val (.ref aA), .val (.ref b390), .val (.int d12), .val (.int d13), .val (.ref b412), .unset, .unset] [(.ref b412), (.long p2), (.ref b390), .null, (.ref aA), (.ref b247), (.ref b432), (.ref b432)])) _
        refine XS.iload X432.here hx rfl (hb hby at_149) rfl ?_
        show Steps p.tables e below (T432.setTop (mkF m 151 #[.val (.int p0), .val (.int p1), .val (.long p2), .second, .val (.int p3), .val (.long p4), .second, .val (.ref b233), .val (.ref b247), .val (.int ((p1 &&& (255 : Int32)) % (3 : Int32))), .val (.ref aA), .val (.ref b390), .val (.int d12), .val (.int d13), .val (.ref b412), .unset, .unset] [(.int d12), (.ref b412), (.long p2), (.ref b390), .null, (.ref aA), (.ref b247), (.ref b432), (.ref b432)])) _
        refine XS.lload X432.here hx rfl (hb hby at_151) rfl ?_
        exact k)
      obtain ⟨_, _, ⟨T451, L451, kc451, ks451⟩, -, X451, ⟨Lc451, hQ451, l451, y451, z451⟩, st451⟩ := X432.specialBack hx (y := (⟨"com/example/pen_over_wire/penoverwire/model/User", "<init>", "(Ljava/lang/String;Lcom/example/pen_over_wire/penoverwire/model/Role;Lcom/example/pen_over_wire/penoverwire/crypto/PasswordHash;[BJLcom/example/pen_over_wire/penoverwire/model/FailedAttempts;ZJ)V"⟩ : MethodName)) rfl hown (mvT hZ (hw _ (List.mem_of_getElem? (i := 52) rfl))) (mvT hZ (hw _ (List.mem_of_getElem? (i := 53) rfl))) (mvT hZ (hw _ (List.mem_of_getElem? (i := 54) rfl))) (by decide) (backOf (W := 1) (rm9 l Z a0 hw [] b432 (Value.ref b247) (Value.ref aA) Value.null (Value.ref b390) p2 (Value.ref b412) d12 p4 h432 n0 Z436 rfl rfl rfl rfl rfl h_d12 F441 F442 F443 F444 F445 F446 F447 F448 A432 g_b432) hZ (hw _ (List.mem_of_getElem? (i := 54) rfl)) (hw _ (List.mem_of_getElem? (i := 51) rfl)) (by decide) (by decide)) (g := (mkF m 153 #[.val (.int p0), .val (.int p1), .val (.long p2), .second, .val (.int p3), .val (.long p4), .second, .val (.ref b233), .val (.ref b247), .val (.int ((p1 &&& (255 : Int32)) % (3 : Int32))), .val (.ref aA), .val (.ref b390), .val (.int d12), .val (.int d13), .val (.ref b412), .unset, .unset] [(.long p4), (.int d12), (.ref b412), (.long p2), (.ref b390), .null, (.ref aA), (.ref b247), (.ref b432), (.ref b432)])) rfl (by rw [hml]; rfl) (Steps.refl _) (a := b432) (argsL := [(.ref b247), (.ref aA), .null, (.ref b390), (.long p2), (.ref b412), (.int d12), (.long p4)]) (rest := [(.ref b432)]) (lenOf pd_1 rfl) rfl (by show 2 * 0 + _ ≤ _; exact Nat.le_of_eq rfl) (hb hby at_153) (fun _ _ => ⟨rfl, e432, (by decide : 6 + 0 ≤ _), (by decide : 19 + 0 ≤ _)⟩)
      dsimp only [Pt.U, Pt.locs, Pt.cells, Pt.slots] at X451 l451 y451 z451 st451 hQ451
      subst l451 y451 z451
      obtain ⟨rfl, Nq451, K451, Ax451, Fx451_0, Fx451_1, Fx451_2, Fx451_3, Fx451_4, Fx451_5, Fx451_6, Fx451_7⟩ := hQ451
      have N451 := Fr.app N424 Nq451
      have Z452 : n0 ≤ T451.heap.size := Nat.le_trans Z436 K451.1
      have F453 : Old Z n0 T451.heap := Old.keep F437 K451 (allS g_b432 all0)
      have F454 : Exa Z T451.heap b247 "java/lang/String" := (F438).keep K451
      have F455 : Arv Z T451.heap b390 c390 .byte (1 : Int32) [(.int (nar .byte (((p0.toUInt32 >>> ((16 : Int32) &&& 31).toUInt32).toInt32).toInt8.toInt32)))] (.int (0 : Int32)) := (F439).keep K451 (ninS ne434 nin0)
      have F456 : Exa Z T451.heap b412 "com/example/pen_over_wire/penoverwire/model/FailedAttempts" := (F440).keep K451
      have F457 : Exa Z T451.heap b432 "com/example/pen_over_wire/penoverwire/model/User" := (A432).keep K451
      have k458 : ∀ t, Steps p.tables e below (T451.setTop (mkF m 156 #[.val (.int p0), .val (.int p1), .val (.long p2), .second, .val (.int p3), .val (.long p4), .second, .val (.ref b233), .val (.ref b247), .val (.int ((p1 &&& (255 : Int32)) % (3 : Int32))), .val (.ref aA), .val (.ref b390), .val (.int d12), .val (.int d13), .val (.ref b412), .unset, .unset] [(.ref b432)])) t → Steps p.tables e below (s₁.setTop (entryFrame m #[(.int p0), (.int p1), (.long p2), (.int p3), (.long p4)] maxLocals)) t := fun t k => k450 t (st451.trans k)
      have k459 : ∀ t, Steps p.tables e below (T451.setTop (mkF m 160 #[.val (.int p0), .val (.int p1), .val (.long p2), .second, .val (.int p3), .val (.long p4), .second, .val (.ref b233), .val (.ref b247), .val (.int ((p1 &&& (255 : Int32)) % (3 : Int32))), .val (.ref aA), .val (.ref b390), .val (.int d12), .val (.int d13), .val (.ref b412), .val (.ref b432), .unset] [(.ref b432)])) t → Steps p.tables e below (s₁.setTop (entryFrame m #[(.int p0), (.int p1), (.long p2), (.int p3), (.long p4)] maxLocals)) t := fun t k => k458 t (by
        show Steps p.tables e below (T451.setTop (mkF m 156 #[.val (.int p0), .val (.int p1), .val (.long p2), .second, .val (.int p3), .val (.long p4), .second, .val (.ref b233), .val (.ref b247), .val (.int ((p1 &&& (255 : Int32)) % (3 : Int32))), .val (.ref aA), .val (.ref b390), .val (.int d12), .val (.int d13), .val (.ref b412), .unset, .unset] [(.ref b432)])) _
        refine XS.astore X451.here hx rfl (hb hby at_156) rfl rfl (l' := #[.val (.int p0), .val (.int p1), .val (.long p2), .second, .val (.int p3), .val (.long p4), .second, .val (.ref b233), .val (.ref b247), .val (.int ((p1 &&& (255 : Int32)) % (3 : Int32))), .val (.ref aA), .val (.ref b390), .val (.int d12), .val (.int d13), .val (.ref b412), .val (.ref b432), .unset]) rfl ?_
        show Steps p.tables e below (T451.setTop (mkF m 158 #[.val (.int p0), .val (.int p1), .val (.long p2), .second, .val (.int p3), .val (.long p4), .second, .val (.ref b233), .val (.ref b247), .val (.int ((p1 &&& (255 : Int32)) % (3 : Int32))), .val (.ref aA), .val (.ref b390), .val (.int d12), .val (.int d13), .val (.ref b412), .val (.ref b432), .unset] [])) _
        refine XS.aload X451.here hx rfl (hb hby at_158) rfl rfl ?_
        exact k)
      obtain ⟨b460, g460⟩ : ∃ z, z = T451.heap.size := ⟨_, rfl⟩
      have ne461 : b247 ≠ b460 := Nat.ne_of_lt (Nat.lt_of_lt_of_le (F454).lt (Nat.le_of_eq g460.symm))
      have ne462 : b390 ≠ b460 := Nat.ne_of_lt (Nat.lt_of_lt_of_le (F455).lt (Nat.le_of_eq g460.symm))
      have ne463 : b412 ≠ b460 := Nat.ne_of_lt (Nat.lt_of_lt_of_le (F456).lt (Nat.le_of_eq g460.symm))
      have ne464 : b432 ≠ b460 := Nat.ne_of_lt (Nat.lt_of_lt_of_le (F457).lt (Nat.le_of_eq g460.symm))
      have g_b460 : n0 ≤ b460 := Nat.le_trans Z452 (Nat.le_of_eq g460.symm)
      obtain ⟨cq465, kq465, q465a, q465b, q465c⟩ := isOf hZ rfl F457
      obtain ⟨_, _, ⟨T465, L465, kc465, ks465⟩, -, X465, ⟨Lc465, hQ465, l465, y465, z465⟩, st465⟩ := X451.virtualBack hx (y := (⟨"com/example/pen_over_wire/penoverwire/model/User", "disable", "()Lcom/example/pen_over_wire/penoverwire/model/User;"⟩ : MethodName)) (z := (⟨"com/example/pen_over_wire/penoverwire/model/User", "disable", "()Lcom/example/pen_over_wire/penoverwire/model/User;"⟩ : MethodName)) hown (mvT hZ (hw _ (List.mem_of_getElem? (i := 72) rfl))) (mvT hZ (hw _ (List.mem_of_getElem? (i := 73) rfl))) (notFace_of_selects (args := #[]) (mvT hZ (hw _ (List.mem_of_getElem? (i := 75) rfl)))) (mvT hZ (hw _ (List.mem_of_getElem? (i := 75) rfl))) (mvT hZ (hw _ (List.mem_of_getElem? (i := 74) rfl))) (by decide) (backOf (W := 0) (rm10 l Z a0 hw [] b432 b460 (Value.ref b247) (Value.ref aA) Value.null (Value.ref b390) p2 (Value.ref b412) d12 p4 T451.heap n0 Z452 rfl rfl rfl rfl rfl Fx451_0 Fx451_1 Fx451_2 Fx451_3 Fx451_4 Fx451_5 Fx451_6 Fx451_7 F457 g460) hZ (hw _ (List.mem_of_getElem? (i := 76) rfl)) (hw _ (List.mem_of_getElem? (i := 51) rfl)) (by decide) (by decide)) q465a q465c (g := (mkF m 160 #[.val (.int p0), .val (.int p1), .val (.long p2), .second, .val (.int p3), .val (.long p4), .second, .val (.ref b233), .val (.ref b247), .val (.int ((p1 &&& (255 : Int32)) % (3 : Int32))), .val (.ref aA), .val (.ref b390), .val (.int d12), .val (.int d13), .val (.ref b412), .val (.ref b432), .unset] [(.ref b432)])) rfl (by rw [hml]; rfl) (Steps.refl _) (argsL := []) (rest := []) (lenOf pd_4 rfl) rfl (by show 2 * 0 + _ ≤ _; exact Nat.le_of_eq rfl) (hb hby at_160) (fun _ _ => ⟨rfl, rfl, (by decide : 6 + 1 ≤ _), (by decide : 19 + 8 ≤ _)⟩)
      dsimp only [Pt.U, Pt.locs, Pt.cells, Pt.slots] at X465 l465 y465 z465 st465 hQ465
      subst l465 y465 z465
      obtain ⟨rfl, Nq465, K465, Ax465, Fx465_0, Fx465_1, Fx465_2, Fx465_3, Fx465_4, Fx465_5, Fx465_6, Fx465_7⟩ := hQ465
      have N465 := Fr.app N451 Nq465
      have Z466 : n0 ≤ T465.heap.size := Nat.le_trans Z452 K465.1
      have F467 : Old Z n0 T465.heap := Old.keep F453 K465 all0
      have F468 : Exa Z T465.heap b247 "java/lang/String" := (F454).keep K465
      have F469 : Arv Z T465.heap b390 c390 .byte (1 : Int32) [(.int (nar .byte (((p0.toUInt32 >>> ((16 : Int32) &&& 31).toUInt32).toInt32).toInt8.toInt32)))] (.int (0 : Int32)) := (F455).keep K465 nin0
      have F470 : Exa Z T465.heap b412 "com/example/pen_over_wire/penoverwire/model/FailedAttempts" := (F456).keep K465
      have F471 : Exa Z T465.heap b432 "com/example/pen_over_wire/penoverwire/model/User" := (F457).keep K465
      have F472 : Fld Z T465.heap b432 "com/example/pen_over_wire/penoverwire/model/User" "name" "Ljava/lang/String;" (.ref b247) := (Fx451_0).keep K465 nin0
      have F473 : Fld Z T465.heap b432 "com/example/pen_over_wire/penoverwire/model/User" "role" "Lcom/example/pen_over_wire/penoverwire/model/Role;" (.ref aA) := (Fx451_1).keep K465 nin0
      have F474 : Fld Z T465.heap b432 "com/example/pen_over_wire/penoverwire/model/User" "password" "Lcom/example/pen_over_wire/penoverwire/crypto/PasswordHash;" .null := (Fx451_2).keep K465 nin0
      have F475 : Fld Z T465.heap b432 "com/example/pen_over_wire/penoverwire/model/User" "totpSecret" "[B" (.ref b390) := (Fx451_3).keep K465 nin0
      have F476 : Fld Z T465.heap b432 "com/example/pen_over_wire/penoverwire/model/User" "lastOtpStep" "J" (.long p2) := (Fx451_4).keep K465 nin0
      have F477 : Fld Z T465.heap b432 "com/example/pen_over_wire/penoverwire/model/User" "failedLogins" "Lcom/example/pen_over_wire/penoverwire/model/FailedAttempts;" (.ref b412) := (Fx451_5).keep K465 nin0
      have F478 : Fld Z T465.heap b432 "com/example/pen_over_wire/penoverwire/model/User" "disabled" "Z" (.int d12) := (Fx451_6).keep K465 nin0
      have F479 : Fld Z T465.heap b432 "com/example/pen_over_wire/penoverwire/model/User" "sessionEpoch" "J" (.long p4) := (Fx451_7).keep K465 nin0
      have k480 : ∀ t, Steps p.tables e below (T465.setTop (mkF m 163 #[.val (.int p0), .val (.int p1), .val (.long p2), .second, .val (.int p3), .val (.long p4), .second, .val (.ref b233), .val (.ref b247), .val (.int ((p1 &&& (255 : Int32)) % (3 : Int32))), .val (.ref aA), .val (.ref b390), .val (.int d12), .val (.int d13), .val (.ref b412), .val (.ref b432), .unset] [(.ref b460)])) t → Steps p.tables e below (s₁.setTop (entryFrame m #[(.int p0), (.int p1), (.long p2), (.int p3), (.long p4)] maxLocals)) t := fun t k => k459 t (st465.trans k)
      have k481 : ∀ t, Steps p.tables e below (T465.setTop (mkF m 167 #[.val (.int p0), .val (.int p1), .val (.long p2), .second, .val (.int p3), .val (.long p4), .second, .val (.ref b233), .val (.ref b247), .val (.int ((p1 &&& (255 : Int32)) % (3 : Int32))), .val (.ref aA), .val (.ref b390), .val (.int d12), .val (.int d13), .val (.ref b412), .val (.ref b432), .val (.ref b460)] [(.ref b460)])) t → Steps p.tables e below (s₁.setTop (entryFrame m #[(.int p0), (.int p1), (.long p2), (.int p3), (.long p4)] maxLocals)) t := fun t k => k480 t (by
        show Steps p.tables e below (T465.setTop (mkF m 163 #[.val (.int p0), .val (.int p1), .val (.long p2), .second, .val (.int p3), .val (.long p4), .second, .val (.ref b233), .val (.ref b247), .val (.int ((p1 &&& (255 : Int32)) % (3 : Int32))), .val (.ref aA), .val (.ref b390), .val (.int d12), .val (.int d13), .val (.ref b412), .val (.ref b432), .unset] [(.ref b460)])) _
        refine XS.astore X465.here hx rfl (hb hby at_163) rfl rfl (l' := #[.val (.int p0), .val (.int p1), .val (.long p2), .second, .val (.int p3), .val (.long p4), .second, .val (.ref b233), .val (.ref b247), .val (.int ((p1 &&& (255 : Int32)) % (3 : Int32))), .val (.ref aA), .val (.ref b390), .val (.int d12), .val (.int d13), .val (.ref b412), .val (.ref b432), .val (.ref b460)]) rfl ?_
        show Steps p.tables e below (T465.setTop (mkF m 165 #[.val (.int p0), .val (.int p1), .val (.long p2), .second, .val (.int p3), .val (.long p4), .second, .val (.ref b233), .val (.ref b247), .val (.int ((p1 &&& (255 : Int32)) % (3 : Int32))), .val (.ref aA), .val (.ref b390), .val (.int d12), .val (.int d13), .val (.ref b412), .val (.ref b432), .val (.ref b460)] [])) _
        refine XS.aload X465.here hx rfl (hb hby at_165) rfl rfl ?_
        exact k)
      obtain ⟨cq482, kq482, q482a, q482b, q482c⟩ := isOf hZ rfl Ax465
      obtain ⟨_, _, ⟨T482, L482, kc482, ks482⟩, -, X482, ⟨Lc482, hQ482, l482, y482, z482⟩, st482⟩ := X465.virtualBack hx (y := (⟨"com/example/pen_over_wire/penoverwire/model/User", "name", "()Ljava/lang/String;"⟩ : MethodName)) (z := (⟨"com/example/pen_over_wire/penoverwire/model/User", "name", "()Ljava/lang/String;"⟩ : MethodName)) hown (mvT hZ (hw _ (List.mem_of_getElem? (i := 79) rfl))) (mvT hZ (hw _ (List.mem_of_getElem? (i := 80) rfl))) (notFace_of_selects (args := #[]) (mvT hZ (hw _ (List.mem_of_getElem? (i := 82) rfl)))) (mvT hZ (hw _ (List.mem_of_getElem? (i := 82) rfl))) (mvT hZ (hw _ (List.mem_of_getElem? (i := 81) rfl))) (by decide) (backOf (W := 0) (rm11 l Z a0 hw [] b460 (Value.ref b247) T465.heap n0 Z466 rfl Fx465_0) hZ (hw _ (List.mem_of_getElem? (i := 83) rfl)) (hw _ (List.mem_of_getElem? (i := 51) rfl)) (by decide) (by decide)) q482a q482c (g := (mkF m 167 #[.val (.int p0), .val (.int p1), .val (.long p2), .second, .val (.int p3), .val (.long p4), .second, .val (.ref b233), .val (.ref b247), .val (.int ((p1 &&& (255 : Int32)) % (3 : Int32))), .val (.ref aA), .val (.ref b390), .val (.int d12), .val (.int d13), .val (.ref b412), .val (.ref b432), .val (.ref b460)] [(.ref b460)])) rfl (by rw [hml]; rfl) (Steps.refl _) (argsL := []) (rest := []) (lenOf pd_5 rfl) rfl (by show 2 * 0 + _ ≤ _; exact Nat.le_of_eq rfl) (hb hby at_167) (fun _ _ => ⟨rfl, rfl, (by decide : 7 + 0 ≤ _), (by decide : 27 + 0 ≤ _)⟩)
      dsimp only [Pt.U, Pt.locs, Pt.cells, Pt.slots] at X482 l482 y482 z482 st482 hQ482
      subst l482 y482 z482
      obtain ⟨rfl, Nq482, eq482⟩ := hQ482
      have N482 := Fr.app N465 Nq482
      have k483 : ∀ t, Steps p.tables e below (T482.setTop (mkF m 170 #[.val (.int p0), .val (.int p1), .val (.long p2), .second, .val (.int p3), .val (.long p4), .second, .val (.ref b233), .val (.ref b247), .val (.int ((p1 &&& (255 : Int32)) % (3 : Int32))), .val (.ref aA), .val (.ref b390), .val (.int d12), .val (.int d13), .val (.ref b412), .val (.ref b432), .val (.ref b460)] [(.ref b247)])) t → Steps p.tables e below (s₁.setTop (entryFrame m #[(.int p0), (.int p1), (.long p2), (.int p3), (.long p4)] maxLocals)) t := fun t k => k481 t (st482.trans k)
      have k484 : ∀ t, Steps p.tables e below (T482.setTop (mkF m 177 #[.val (.int p0), .val (.int p1), .val (.long p2), .second, .val (.int p3), .val (.long p4), .second, .val (.ref b233), .val (.ref b247), .val (.int ((p1 &&& (255 : Int32)) % (3 : Int32))), .val (.ref aA), .val (.ref b390), .val (.int d12), .val (.int d13), .val (.ref b412), .val (.ref b432), .val (.ref b460)] [(.ref b460)])) t → Steps p.tables e below (s₁.setTop (entryFrame m #[(.int p0), (.int p1), (.long p2), (.int p3), (.long p4)] maxLocals)) t := fun t k => k483 t (by
        show Steps p.tables e below (T482.setTop (mkF m 170 #[.val (.int p0), .val (.int p1), .val (.long p2), .second, .val (.int p3), .val (.long p4), .second, .val (.ref b233), .val (.ref b247), .val (.int ((p1 &&& (255 : Int32)) % (3 : Int32))), .val (.ref aA), .val (.ref b390), .val (.int d12), .val (.int d13), .val (.ref b412), .val (.ref b432), .val (.ref b460)] [(.ref b247)])) _
        refine XS.aload X482.here hx rfl (hb hby at_170) rfl rfl ?_
        show Steps p.tables e below (T482.setTop (mkF m 172 #[.val (.int p0), .val (.int p1), .val (.long p2), .second, .val (.int p3), .val (.long p4), .second, .val (.ref b233), .val (.ref b247), .val (.int ((p1 &&& (255 : Int32)) % (3 : Int32))), .val (.ref aA), .val (.ref b390), .val (.int d12), .val (.int d13), .val (.ref b412), .val (.ref b432), .val (.ref b460)] [(.ref b247), (.ref b247)])) _
        refine Jvm.RoadKit.acmp (g := (mkF m 172 #[.val (.int p0), .val (.int p1), .val (.long p2), .second, .val (.int p3), .val (.long p4), .second, .val (.ref b233), .val (.ref b247), .val (.int ((p1 &&& (255 : Int32)) % (3 : Int32))), .val (.ref aA), .val (.ref b390), .val (.int d12), .val (.int d13), .val (.ref b412), .val (.ref b432), .val (.ref b460)] [(.ref b247), (.ref b247)])) X482 hx rfl rfl rfl (pc0 := 172) (pc' := 175) (same := true) rfl (hb hby at_172) rfl (decide_eq_true (congrArg Value.ref (rfl : b247 = b247))) (by decide) (by decide) ?_
        show Steps p.tables e below (T482.setTop (mkF m 175 #[.val (.int p0), .val (.int p1), .val (.long p2), .second, .val (.int p3), .val (.long p4), .second, .val (.ref b233), .val (.ref b247), .val (.int ((p1 &&& (255 : Int32)) % (3 : Int32))), .val (.ref aA), .val (.ref b390), .val (.int d12), .val (.int d13), .val (.ref b412), .val (.ref b432), .val (.ref b460)] [])) _
        refine XS.aload X482.here hx rfl (hb hby at_175) rfl rfl ?_
        exact k)
      obtain ⟨cq485, kq485, q485a, q485b, q485c⟩ := isOf hZ eq482 Ax465
      obtain ⟨_, _, ⟨T485, L485, kc485, ks485⟩, -, X485, ⟨Lc485, hQ485, l485, y485, z485⟩, st485⟩ := X482.virtualBack hx (y := (⟨"com/example/pen_over_wire/penoverwire/model/User", "role", "()Lcom/example/pen_over_wire/penoverwire/model/Role;"⟩ : MethodName)) (z := (⟨"com/example/pen_over_wire/penoverwire/model/User", "role", "()Lcom/example/pen_over_wire/penoverwire/model/Role;"⟩ : MethodName)) hown (mvT hZ (hw _ (List.mem_of_getElem? (i := 84) rfl))) (mvT hZ (hw _ (List.mem_of_getElem? (i := 85) rfl))) (notFace_of_selects (args := #[]) (mvT hZ (hw _ (List.mem_of_getElem? (i := 87) rfl)))) (mvT hZ (hw _ (List.mem_of_getElem? (i := 87) rfl))) (mvT hZ (hw _ (List.mem_of_getElem? (i := 86) rfl))) (by decide) (backOf (W := 0) (rm12 l Z a0 hw [] b460 (Value.ref aA) T465.heap n0 Z466 rfl Fx465_1) hZ (hw _ (List.mem_of_getElem? (i := 88) rfl)) (hw _ (List.mem_of_getElem? (i := 51) rfl)) (by decide) (by decide)) q485a q485c (g := (mkF m 177 #[.val (.int p0), .val (.int p1), .val (.long p2), .second, .val (.int p3), .val (.long p4), .second, .val (.ref b233), .val (.ref b247), .val (.int ((p1 &&& (255 : Int32)) % (3 : Int32))), .val (.ref aA), .val (.ref b390), .val (.int d12), .val (.int d13), .val (.ref b412), .val (.ref b432), .val (.ref b460)] [(.ref b460)])) rfl (by rw [hml]; rfl) (Steps.refl _) (argsL := []) (rest := []) (lenOf pd_6 rfl) rfl (by show 2 * 0 + _ ≤ _; exact Nat.le_of_eq rfl) (hb hby at_177) (fun _ _ => ⟨rfl, eq482, (by decide : 7 + 0 ≤ _), (by decide : 27 + 0 ≤ _)⟩)
      dsimp only [Pt.U, Pt.locs, Pt.cells, Pt.slots] at X485 l485 y485 z485 st485 hQ485
      subst l485 y485 z485
      obtain ⟨rfl, Nq485, eq485⟩ := hQ485
      have N485 := Fr.app N482 Nq485
      have k486 : ∀ t, Steps p.tables e below (T485.setTop (mkF m 180 #[.val (.int p0), .val (.int p1), .val (.long p2), .second, .val (.int p3), .val (.long p4), .second, .val (.ref b233), .val (.ref b247), .val (.int ((p1 &&& (255 : Int32)) % (3 : Int32))), .val (.ref aA), .val (.ref b390), .val (.int d12), .val (.int d13), .val (.ref b412), .val (.ref b432), .val (.ref b460)] [(.ref aA)])) t → Steps p.tables e below (s₁.setTop (entryFrame m #[(.int p0), (.int p1), (.long p2), (.int p3), (.long p4)] maxLocals)) t := fun t k => k484 t (st485.trans k)
      have k487 : ∀ t, Steps p.tables e below (T485.setTop (mkF m 187 #[.val (.int p0), .val (.int p1), .val (.long p2), .second, .val (.int p3), .val (.long p4), .second, .val (.ref b233), .val (.ref b247), .val (.int ((p1 &&& (255 : Int32)) % (3 : Int32))), .val (.ref aA), .val (.ref b390), .val (.int d12), .val (.int d13), .val (.ref b412), .val (.ref b432), .val (.ref b460)] [(.ref b460)])) t → Steps p.tables e below (s₁.setTop (entryFrame m #[(.int p0), (.int p1), (.long p2), (.int p3), (.long p4)] maxLocals)) t := fun t k => k486 t (by
        show Steps p.tables e below (T485.setTop (mkF m 180 #[.val (.int p0), .val (.int p1), .val (.long p2), .second, .val (.int p3), .val (.long p4), .second, .val (.ref b233), .val (.ref b247), .val (.int ((p1 &&& (255 : Int32)) % (3 : Int32))), .val (.ref aA), .val (.ref b390), .val (.int d12), .val (.int d13), .val (.ref b412), .val (.ref b432), .val (.ref b460)] [(.ref aA)])) _
        refine XS.aload X485.here hx rfl (hb hby at_180) rfl rfl ?_
        show Steps p.tables e below (T485.setTop (mkF m 182 #[.val (.int p0), .val (.int p1), .val (.long p2), .second, .val (.int p3), .val (.long p4), .second, .val (.ref b233), .val (.ref b247), .val (.int ((p1 &&& (255 : Int32)) % (3 : Int32))), .val (.ref aA), .val (.ref b390), .val (.int d12), .val (.int d13), .val (.ref b412), .val (.ref b432), .val (.ref b460)] [(.ref aA), (.ref aA)])) _
        refine Jvm.RoadKit.acmp (g := (mkF m 182 #[.val (.int p0), .val (.int p1), .val (.long p2), .second, .val (.int p3), .val (.long p4), .second, .val (.ref b233), .val (.ref b247), .val (.int ((p1 &&& (255 : Int32)) % (3 : Int32))), .val (.ref aA), .val (.ref b390), .val (.int d12), .val (.int d13), .val (.ref b412), .val (.ref b432), .val (.ref b460)] [(.ref aA), (.ref aA)])) X485 hx rfl rfl rfl (pc0 := 182) (pc' := 185) (same := true) rfl (hb hby at_182) rfl (decide_eq_true (congrArg Value.ref (rfl : aA = aA))) (by decide) (by decide) ?_
        show Steps p.tables e below (T485.setTop (mkF m 185 #[.val (.int p0), .val (.int p1), .val (.long p2), .second, .val (.int p3), .val (.long p4), .second, .val (.ref b233), .val (.ref b247), .val (.int ((p1 &&& (255 : Int32)) % (3 : Int32))), .val (.ref aA), .val (.ref b390), .val (.int d12), .val (.int d13), .val (.ref b412), .val (.ref b432), .val (.ref b460)] [])) _
        refine XS.aload X485.here hx rfl (hb hby at_185) rfl rfl ?_
        exact k)
      obtain ⟨cq488, kq488, q488a, q488b, q488c⟩ := isOf hZ eq485 Ax465
      obtain ⟨_, _, ⟨T488, L488, kc488, ks488⟩, -, X488, ⟨Lc488, hQ488, l488, y488, z488⟩, st488⟩ := X485.virtualBack hx (y := (⟨"com/example/pen_over_wire/penoverwire/model/User", "password", "()Lcom/example/pen_over_wire/penoverwire/crypto/PasswordHash;"⟩ : MethodName)) (z := (⟨"com/example/pen_over_wire/penoverwire/model/User", "password", "()Lcom/example/pen_over_wire/penoverwire/crypto/PasswordHash;"⟩ : MethodName)) hown (mvT hZ (hw _ (List.mem_of_getElem? (i := 89) rfl))) (mvT hZ (hw _ (List.mem_of_getElem? (i := 90) rfl))) (notFace_of_selects (args := #[]) (mvT hZ (hw _ (List.mem_of_getElem? (i := 92) rfl)))) (mvT hZ (hw _ (List.mem_of_getElem? (i := 92) rfl))) (mvT hZ (hw _ (List.mem_of_getElem? (i := 91) rfl))) (by decide) (backOf (W := 0) (rm13 l Z a0 hw [] b460 Value.null T465.heap n0 Z466 rfl Fx465_2) hZ (hw _ (List.mem_of_getElem? (i := 93) rfl)) (hw _ (List.mem_of_getElem? (i := 51) rfl)) (by decide) (by decide)) q488a q488c (g := (mkF m 187 #[.val (.int p0), .val (.int p1), .val (.long p2), .second, .val (.int p3), .val (.long p4), .second, .val (.ref b233), .val (.ref b247), .val (.int ((p1 &&& (255 : Int32)) % (3 : Int32))), .val (.ref aA), .val (.ref b390), .val (.int d12), .val (.int d13), .val (.ref b412), .val (.ref b432), .val (.ref b460)] [(.ref b460)])) rfl (by rw [hml]; rfl) (Steps.refl _) (argsL := []) (rest := []) (lenOf pd_7 rfl) rfl (by show 2 * 0 + _ ≤ _; exact Nat.le_of_eq rfl) (hb hby at_187) (fun _ _ => ⟨rfl, eq485, (by decide : 7 + 0 ≤ _), (by decide : 27 + 0 ≤ _)⟩)
      dsimp only [Pt.U, Pt.locs, Pt.cells, Pt.slots] at X488 l488 y488 z488 st488 hQ488
      subst l488 y488 z488
      obtain ⟨rfl, Nq488, eq488⟩ := hQ488
      have N488 := Fr.app N485 Nq488
      have k489 : ∀ t, Steps p.tables e below (T488.setTop (mkF m 190 #[.val (.int p0), .val (.int p1), .val (.long p2), .second, .val (.int p3), .val (.long p4), .second, .val (.ref b233), .val (.ref b247), .val (.int ((p1 &&& (255 : Int32)) % (3 : Int32))), .val (.ref aA), .val (.ref b390), .val (.int d12), .val (.int d13), .val (.ref b412), .val (.ref b432), .val (.ref b460)] [.null])) t → Steps p.tables e below (s₁.setTop (entryFrame m #[(.int p0), (.int p1), (.long p2), (.int p3), (.long p4)] maxLocals)) t := fun t k => k487 t (st488.trans k)
      have k490 : ∀ t, Steps p.tables e below (T488.setTop (mkF m 195 #[.val (.int p0), .val (.int p1), .val (.long p2), .second, .val (.int p3), .val (.long p4), .second, .val (.ref b233), .val (.ref b247), .val (.int ((p1 &&& (255 : Int32)) % (3 : Int32))), .val (.ref aA), .val (.ref b390), .val (.int d12), .val (.int d13), .val (.ref b412), .val (.ref b432), .val (.ref b460)] [(.ref b460)])) t → Steps p.tables e below (s₁.setTop (entryFrame m #[(.int p0), (.int p1), (.long p2), (.int p3), (.long p4)] maxLocals)) t := fun t k => k489 t (by
        show Steps p.tables e below (T488.setTop (mkF m 190 #[.val (.int p0), .val (.int p1), .val (.long p2), .second, .val (.int p3), .val (.long p4), .second, .val (.ref b233), .val (.ref b247), .val (.int ((p1 &&& (255 : Int32)) % (3 : Int32))), .val (.ref aA), .val (.ref b390), .val (.int d12), .val (.int d13), .val (.ref b412), .val (.ref b432), .val (.ref b460)] [.null])) _
        refine XS.ifnonnullNo X488.here hx rfl (hb hby at_190) rfl ?_
        show Steps p.tables e below (T488.setTop (mkF m 193 #[.val (.int p0), .val (.int p1), .val (.long p2), .second, .val (.int p3), .val (.long p4), .second, .val (.ref b233), .val (.ref b247), .val (.int ((p1 &&& (255 : Int32)) % (3 : Int32))), .val (.ref aA), .val (.ref b390), .val (.int d12), .val (.int d13), .val (.ref b412), .val (.ref b432), .val (.ref b460)] [])) _
        refine XS.aload X488.here hx rfl (hb hby at_193) rfl rfl ?_
        exact k)
      obtain ⟨cq491, kq491, q491a, q491b, q491c⟩ := isOf hZ eq488 Ax465
      obtain ⟨_, _, ⟨T491, L491, kc491, ks491⟩, -, X491, ⟨Lc491, hQ491, l491, y491, z491⟩, st491⟩ := X488.virtualBack hx (y := (⟨"com/example/pen_over_wire/penoverwire/model/User", "totpSecret", "()[B"⟩ : MethodName)) (z := (⟨"com/example/pen_over_wire/penoverwire/model/User", "totpSecret", "()[B"⟩ : MethodName)) hown (mvT hZ (hw _ (List.mem_of_getElem? (i := 94) rfl))) (mvT hZ (hw _ (List.mem_of_getElem? (i := 95) rfl))) (notFace_of_selects (args := #[]) (mvT hZ (hw _ (List.mem_of_getElem? (i := 97) rfl)))) (mvT hZ (hw _ (List.mem_of_getElem? (i := 97) rfl))) (mvT hZ (hw _ (List.mem_of_getElem? (i := 96) rfl))) (by decide) (backOf (W := 0) (rm14 l Z a0 hw [] b460 (Value.ref b390) T465.heap n0 Z466 rfl Fx465_3) hZ (hw _ (List.mem_of_getElem? (i := 98) rfl)) (hw _ (List.mem_of_getElem? (i := 51) rfl)) (by decide) (by decide)) q491a q491c (g := (mkF m 195 #[.val (.int p0), .val (.int p1), .val (.long p2), .second, .val (.int p3), .val (.long p4), .second, .val (.ref b233), .val (.ref b247), .val (.int ((p1 &&& (255 : Int32)) % (3 : Int32))), .val (.ref aA), .val (.ref b390), .val (.int d12), .val (.int d13), .val (.ref b412), .val (.ref b432), .val (.ref b460)] [(.ref b460)])) rfl (by rw [hml]; rfl) (Steps.refl _) (argsL := []) (rest := []) (lenOf pd_8 rfl) rfl (by show 2 * 0 + _ ≤ _; exact Nat.le_of_eq rfl) (hb hby at_195) (fun _ _ => ⟨rfl, eq488, (by decide : 7 + 0 ≤ _), (by decide : 27 + 0 ≤ _)⟩)
      dsimp only [Pt.U, Pt.locs, Pt.cells, Pt.slots] at X491 l491 y491 z491 st491 hQ491
      subst l491 y491 z491
      obtain ⟨rfl, Nq491, eq491⟩ := hQ491
      have N491 := Fr.app N488 Nq491
      have k492 : ∀ t, Steps p.tables e below (T491.setTop (mkF m 198 #[.val (.int p0), .val (.int p1), .val (.long p2), .second, .val (.int p3), .val (.long p4), .second, .val (.ref b233), .val (.ref b247), .val (.int ((p1 &&& (255 : Int32)) % (3 : Int32))), .val (.ref aA), .val (.ref b390), .val (.int d12), .val (.int d13), .val (.ref b412), .val (.ref b432), .val (.ref b460)] [(.ref b390)])) t → Steps p.tables e below (s₁.setTop (entryFrame m #[(.int p0), (.int p1), (.long p2), (.int p3), (.long p4)] maxLocals)) t := fun t k => k490 t (st491.trans k)
      have k493 : ∀ t, Steps p.tables e below (T491.setTop (mkF m 205 #[.val (.int p0), .val (.int p1), .val (.long p2), .second, .val (.int p3), .val (.long p4), .second, .val (.ref b233), .val (.ref b247), .val (.int ((p1 &&& (255 : Int32)) % (3 : Int32))), .val (.ref aA), .val (.ref b390), .val (.int d12), .val (.int d13), .val (.ref b412), .val (.ref b432), .val (.ref b460)] [(.ref b460)])) t → Steps p.tables e below (s₁.setTop (entryFrame m #[(.int p0), (.int p1), (.long p2), (.int p3), (.long p4)] maxLocals)) t := fun t k => k492 t (by
        show Steps p.tables e below (T491.setTop (mkF m 198 #[.val (.int p0), .val (.int p1), .val (.long p2), .second, .val (.int p3), .val (.long p4), .second, .val (.ref b233), .val (.ref b247), .val (.int ((p1 &&& (255 : Int32)) % (3 : Int32))), .val (.ref aA), .val (.ref b390), .val (.int d12), .val (.int d13), .val (.ref b412), .val (.ref b432), .val (.ref b460)] [(.ref b390)])) _
        refine XS.aload X491.here hx rfl (hb hby at_198) rfl rfl ?_
        show Steps p.tables e below (T491.setTop (mkF m 200 #[.val (.int p0), .val (.int p1), .val (.long p2), .second, .val (.int p3), .val (.long p4), .second, .val (.ref b233), .val (.ref b247), .val (.int ((p1 &&& (255 : Int32)) % (3 : Int32))), .val (.ref aA), .val (.ref b390), .val (.int d12), .val (.int d13), .val (.ref b412), .val (.ref b432), .val (.ref b460)] [(.ref b390), (.ref b390)])) _
        refine Jvm.RoadKit.acmp (g := (mkF m 200 #[.val (.int p0), .val (.int p1), .val (.long p2), .second, .val (.int p3), .val (.long p4), .second, .val (.ref b233), .val (.ref b247), .val (.int ((p1 &&& (255 : Int32)) % (3 : Int32))), .val (.ref aA), .val (.ref b390), .val (.int d12), .val (.int d13), .val (.ref b412), .val (.ref b432), .val (.ref b460)] [(.ref b390), (.ref b390)])) X491 hx rfl rfl rfl (pc0 := 200) (pc' := 203) (same := true) rfl (hb hby at_200) rfl (decide_eq_true (congrArg Value.ref (rfl : b390 = b390))) (by decide) (by decide) ?_
        show Steps p.tables e below (T491.setTop (mkF m 203 #[.val (.int p0), .val (.int p1), .val (.long p2), .second, .val (.int p3), .val (.long p4), .second, .val (.ref b233), .val (.ref b247), .val (.int ((p1 &&& (255 : Int32)) % (3 : Int32))), .val (.ref aA), .val (.ref b390), .val (.int d12), .val (.int d13), .val (.ref b412), .val (.ref b432), .val (.ref b460)] [])) _
        refine XS.aload X491.here hx rfl (hb hby at_203) rfl rfl ?_
        exact k)
      obtain ⟨cq494, kq494, q494a, q494b, q494c⟩ := isOf hZ eq491 Ax465
      obtain ⟨_, _, ⟨T494, L494, kc494, ks494⟩, -, X494, ⟨Lc494, hQ494, l494, y494, z494⟩, st494⟩ := X491.virtualBack hx (y := (⟨"com/example/pen_over_wire/penoverwire/model/User", "lastOtpStep", "()J"⟩ : MethodName)) (z := (⟨"com/example/pen_over_wire/penoverwire/model/User", "lastOtpStep", "()J"⟩ : MethodName)) hown (mvT hZ (hw _ (List.mem_of_getElem? (i := 99) rfl))) (mvT hZ (hw _ (List.mem_of_getElem? (i := 100) rfl))) (notFace_of_selects (args := #[]) (mvT hZ (hw _ (List.mem_of_getElem? (i := 102) rfl)))) (mvT hZ (hw _ (List.mem_of_getElem? (i := 102) rfl))) (mvT hZ (hw _ (List.mem_of_getElem? (i := 101) rfl))) (by decide) (backOf (W := 0) (rm15 l Z a0 hw [] b460 p2 T465.heap n0 Z466  Fx465_4) hZ (hw _ (List.mem_of_getElem? (i := 103) rfl)) (hw _ (List.mem_of_getElem? (i := 51) rfl)) (by decide) (by decide)) q494a q494c (g := (mkF m 205 #[.val (.int p0), .val (.int p1), .val (.long p2), .second, .val (.int p3), .val (.long p4), .second, .val (.ref b233), .val (.ref b247), .val (.int ((p1 &&& (255 : Int32)) % (3 : Int32))), .val (.ref aA), .val (.ref b390), .val (.int d12), .val (.int d13), .val (.ref b412), .val (.ref b432), .val (.ref b460)] [(.ref b460)])) rfl (by rw [hml]; rfl) (Steps.refl _) (argsL := []) (rest := []) (lenOf pd_9 rfl) rfl (by show 2 * 0 + _ ≤ _; exact Nat.le_of_eq rfl) (hb hby at_205) (fun _ _ => ⟨rfl, eq491, (by decide : 7 + 0 ≤ _), (by decide : 27 + 0 ≤ _)⟩)
      dsimp only [Pt.U, Pt.locs, Pt.cells, Pt.slots] at X494 l494 y494 z494 st494 hQ494
      subst l494 y494 z494
      obtain ⟨rfl, Nq494, eq494⟩ := hQ494
      have N494 := Fr.app N491 Nq494
      have k495 : ∀ t, Steps p.tables e below (T494.setTop (mkF m 208 #[.val (.int p0), .val (.int p1), .val (.long p2), .second, .val (.int p3), .val (.long p4), .second, .val (.ref b233), .val (.ref b247), .val (.int ((p1 &&& (255 : Int32)) % (3 : Int32))), .val (.ref aA), .val (.ref b390), .val (.int d12), .val (.int d13), .val (.ref b412), .val (.ref b432), .val (.ref b460)] [(.long p2)])) t → Steps p.tables e below (s₁.setTop (entryFrame m #[(.int p0), (.int p1), (.long p2), (.int p3), (.long p4)] maxLocals)) t := fun t k => k493 t (st494.trans k)
      have k496 : ∀ t, Steps p.tables e below (T494.setTop (mkF m 215 #[.val (.int p0), .val (.int p1), .val (.long p2), .second, .val (.int p3), .val (.long p4), .second, .val (.ref b233), .val (.ref b247), .val (.int ((p1 &&& (255 : Int32)) % (3 : Int32))), .val (.ref aA), .val (.ref b390), .val (.int d12), .val (.int d13), .val (.ref b412), .val (.ref b432), .val (.ref b460)] [(.ref b460)])) t → Steps p.tables e below (s₁.setTop (entryFrame m #[(.int p0), (.int p1), (.long p2), (.int p3), (.long p4)] maxLocals)) t := fun t k => k495 t (by
        show Steps p.tables e below (T494.setTop (mkF m 208 #[.val (.int p0), .val (.int p1), .val (.long p2), .second, .val (.int p3), .val (.long p4), .second, .val (.ref b233), .val (.ref b247), .val (.int ((p1 &&& (255 : Int32)) % (3 : Int32))), .val (.ref aA), .val (.ref b390), .val (.int d12), .val (.int d13), .val (.ref b412), .val (.ref b432), .val (.ref b460)] [(.long p2)])) _
        refine XS.lloadN X494.here hx rfl (hb hby at_208) rfl ?_
        show Steps p.tables e below (T494.setTop (mkF m 209 #[.val (.int p0), .val (.int p1), .val (.long p2), .second, .val (.int p3), .val (.long p4), .second, .val (.ref b233), .val (.ref b247), .val (.int ((p1 &&& (255 : Int32)) % (3 : Int32))), .val (.ref aA), .val (.ref b390), .val (.int d12), .val (.int d13), .val (.ref b412), .val (.ref b432), .val (.ref b460)] [(.long p2), (.long p2)])) _
        refine XS.lcmp X494.here hx rfl (hb hby at_209) rfl ?_
        show Steps p.tables e below (T494.setTop (mkF m 210 #[.val (.int p0), .val (.int p1), .val (.long p2), .second, .val (.int p3), .val (.long p4), .second, .val (.ref b233), .val (.ref b247), .val (.int ((p1 &&& (255 : Int32)) % (3 : Int32))), .val (.ref aA), .val (.ref b390), .val (.int d12), .val (.int d13), .val (.ref b412), .val (.ref b432), .val (.ref b460)] [(.int (lcmpW p2 p2))])) _
        refine XS.ifNo X494.here hx rfl (hb hby at_210) rfl ((if0 _ _).trans (teq ((lw_eq _ _).mpr rfl)).2) ?_
        show Steps p.tables e below (T494.setTop (mkF m 213 #[.val (.int p0), .val (.int p1), .val (.long p2), .second, .val (.int p3), .val (.long p4), .second, .val (.ref b233), .val (.ref b247), .val (.int ((p1 &&& (255 : Int32)) % (3 : Int32))), .val (.ref aA), .val (.ref b390), .val (.int d12), .val (.int d13), .val (.ref b412), .val (.ref b432), .val (.ref b460)] [])) _
        refine XS.aload X494.here hx rfl (hb hby at_213) rfl rfl ?_
        exact k)
      obtain ⟨cq497, kq497, q497a, q497b, q497c⟩ := isOf hZ eq494 Ax465
      obtain ⟨_, _, ⟨T497, L497, kc497, ks497⟩, -, X497, ⟨Lc497, hQ497, l497, y497, z497⟩, st497⟩ := X494.virtualBack hx (y := (⟨"com/example/pen_over_wire/penoverwire/model/User", "failedLogins", "()Lcom/example/pen_over_wire/penoverwire/model/FailedAttempts;"⟩ : MethodName)) (z := (⟨"com/example/pen_over_wire/penoverwire/model/User", "failedLogins", "()Lcom/example/pen_over_wire/penoverwire/model/FailedAttempts;"⟩ : MethodName)) hown (mvT hZ (hw _ (List.mem_of_getElem? (i := 104) rfl))) (mvT hZ (hw _ (List.mem_of_getElem? (i := 105) rfl))) (notFace_of_selects (args := #[]) (mvT hZ (hw _ (List.mem_of_getElem? (i := 107) rfl)))) (mvT hZ (hw _ (List.mem_of_getElem? (i := 107) rfl))) (mvT hZ (hw _ (List.mem_of_getElem? (i := 106) rfl))) (by decide) (backOf (W := 0) (rm16 l Z a0 hw [] b460 (Value.ref b412) T465.heap n0 Z466 rfl Fx465_5) hZ (hw _ (List.mem_of_getElem? (i := 108) rfl)) (hw _ (List.mem_of_getElem? (i := 51) rfl)) (by decide) (by decide)) q497a q497c (g := (mkF m 215 #[.val (.int p0), .val (.int p1), .val (.long p2), .second, .val (.int p3), .val (.long p4), .second, .val (.ref b233), .val (.ref b247), .val (.int ((p1 &&& (255 : Int32)) % (3 : Int32))), .val (.ref aA), .val (.ref b390), .val (.int d12), .val (.int d13), .val (.ref b412), .val (.ref b432), .val (.ref b460)] [(.ref b460)])) rfl (by rw [hml]; rfl) (Steps.refl _) (argsL := []) (rest := []) (lenOf pd_10 rfl) rfl (by show 2 * 0 + _ ≤ _; exact Nat.le_of_eq rfl) (hb hby at_215) (fun _ _ => ⟨rfl, eq494, (by decide : 7 + 0 ≤ _), (by decide : 27 + 0 ≤ _)⟩)
      dsimp only [Pt.U, Pt.locs, Pt.cells, Pt.slots] at X497 l497 y497 z497 st497 hQ497
      subst l497 y497 z497
      obtain ⟨rfl, Nq497, eq497⟩ := hQ497
      have N497 := Fr.app N494 Nq497
      have k498 : ∀ t, Steps p.tables e below (T497.setTop (mkF m 218 #[.val (.int p0), .val (.int p1), .val (.long p2), .second, .val (.int p3), .val (.long p4), .second, .val (.ref b233), .val (.ref b247), .val (.int ((p1 &&& (255 : Int32)) % (3 : Int32))), .val (.ref aA), .val (.ref b390), .val (.int d12), .val (.int d13), .val (.ref b412), .val (.ref b432), .val (.ref b460)] [(.ref b412)])) t → Steps p.tables e below (s₁.setTop (entryFrame m #[(.int p0), (.int p1), (.long p2), (.int p3), (.long p4)] maxLocals)) t := fun t k => k496 t (st497.trans k)
      have k499 : ∀ t, Steps p.tables e below (T497.setTop (mkF m 225 #[.val (.int p0), .val (.int p1), .val (.long p2), .second, .val (.int p3), .val (.long p4), .second, .val (.ref b233), .val (.ref b247), .val (.int ((p1 &&& (255 : Int32)) % (3 : Int32))), .val (.ref aA), .val (.ref b390), .val (.int d12), .val (.int d13), .val (.ref b412), .val (.ref b432), .val (.ref b460)] [(.ref b460)])) t → Steps p.tables e below (s₁.setTop (entryFrame m #[(.int p0), (.int p1), (.long p2), (.int p3), (.long p4)] maxLocals)) t := fun t k => k498 t (by
        show Steps p.tables e below (T497.setTop (mkF m 218 #[.val (.int p0), .val (.int p1), .val (.long p2), .second, .val (.int p3), .val (.long p4), .second, .val (.ref b233), .val (.ref b247), .val (.int ((p1 &&& (255 : Int32)) % (3 : Int32))), .val (.ref aA), .val (.ref b390), .val (.int d12), .val (.int d13), .val (.ref b412), .val (.ref b432), .val (.ref b460)] [(.ref b412)])) _
        refine XS.aload X497.here hx rfl (hb hby at_218) rfl rfl ?_
        show Steps p.tables e below (T497.setTop (mkF m 220 #[.val (.int p0), .val (.int p1), .val (.long p2), .second, .val (.int p3), .val (.long p4), .second, .val (.ref b233), .val (.ref b247), .val (.int ((p1 &&& (255 : Int32)) % (3 : Int32))), .val (.ref aA), .val (.ref b390), .val (.int d12), .val (.int d13), .val (.ref b412), .val (.ref b432), .val (.ref b460)] [(.ref b412), (.ref b412)])) _
        refine Jvm.RoadKit.acmp (g := (mkF m 220 #[.val (.int p0), .val (.int p1), .val (.long p2), .second, .val (.int p3), .val (.long p4), .second, .val (.ref b233), .val (.ref b247), .val (.int ((p1 &&& (255 : Int32)) % (3 : Int32))), .val (.ref aA), .val (.ref b390), .val (.int d12), .val (.int d13), .val (.ref b412), .val (.ref b432), .val (.ref b460)] [(.ref b412), (.ref b412)])) X497 hx rfl rfl rfl (pc0 := 220) (pc' := 223) (same := true) rfl (hb hby at_220) rfl (decide_eq_true (congrArg Value.ref (rfl : b412 = b412))) (by decide) (by decide) ?_
        show Steps p.tables e below (T497.setTop (mkF m 223 #[.val (.int p0), .val (.int p1), .val (.long p2), .second, .val (.int p3), .val (.long p4), .second, .val (.ref b233), .val (.ref b247), .val (.int ((p1 &&& (255 : Int32)) % (3 : Int32))), .val (.ref aA), .val (.ref b390), .val (.int d12), .val (.int d13), .val (.ref b412), .val (.ref b432), .val (.ref b460)] [])) _
        refine XS.aload X497.here hx rfl (hb hby at_223) rfl rfl ?_
        exact k)
      obtain ⟨cq500, kq500, q500a, q500b, q500c⟩ := isOf hZ eq497 Ax465
      obtain ⟨_, _, ⟨T500, L500, kc500, ks500⟩, -, X500, ⟨Lc500, hQ500, l500, y500, z500⟩, st500⟩ := X497.virtualBack hx (y := (⟨"com/example/pen_over_wire/penoverwire/model/User", "disabled", "()Z"⟩ : MethodName)) (z := (⟨"com/example/pen_over_wire/penoverwire/model/User", "disabled", "()Z"⟩ : MethodName)) hown (mvT hZ (hw _ (List.mem_of_getElem? (i := 109) rfl))) (mvT hZ (hw _ (List.mem_of_getElem? (i := 110) rfl))) (notFace_of_selects (args := #[]) (mvT hZ (hw _ (List.mem_of_getElem? (i := 112) rfl)))) (mvT hZ (hw _ (List.mem_of_getElem? (i := 112) rfl))) (mvT hZ (hw _ (List.mem_of_getElem? (i := 111) rfl))) (by decide) (backOf (W := 0) (rm17 l Z a0 hw [] b460 (1 : Int32) T465.heap n0 Z466 (Or.inr rfl) Fx465_6) hZ (hw _ (List.mem_of_getElem? (i := 113) rfl)) (hw _ (List.mem_of_getElem? (i := 51) rfl)) (by decide) (by decide)) q500a q500c (g := (mkF m 225 #[.val (.int p0), .val (.int p1), .val (.long p2), .second, .val (.int p3), .val (.long p4), .second, .val (.ref b233), .val (.ref b247), .val (.int ((p1 &&& (255 : Int32)) % (3 : Int32))), .val (.ref aA), .val (.ref b390), .val (.int d12), .val (.int d13), .val (.ref b412), .val (.ref b432), .val (.ref b460)] [(.ref b460)])) rfl (by rw [hml]; rfl) (Steps.refl _) (argsL := []) (rest := []) (lenOf pd_11 rfl) rfl (by show 2 * 0 + _ ≤ _; exact Nat.le_of_eq rfl) (hb hby at_225) (fun _ _ => ⟨rfl, eq497, (by decide : 7 + 0 ≤ _), (by decide : 27 + 0 ≤ _)⟩)
      dsimp only [Pt.U, Pt.locs, Pt.cells, Pt.slots] at X500 l500 y500 z500 st500 hQ500
      subst l500 y500 z500
      obtain ⟨rfl, Nq500, eq500⟩ := hQ500
      have N500 := Fr.app N497 Nq500
      have k501 : ∀ t, Steps p.tables e below (T500.setTop (mkF m 228 #[.val (.int p0), .val (.int p1), .val (.long p2), .second, .val (.int p3), .val (.long p4), .second, .val (.ref b233), .val (.ref b247), .val (.int ((p1 &&& (255 : Int32)) % (3 : Int32))), .val (.ref aA), .val (.ref b390), .val (.int d12), .val (.int d13), .val (.ref b412), .val (.ref b432), .val (.ref b460)] [(.int (1 : Int32))])) t → Steps p.tables e below (s₁.setTop (entryFrame m #[(.int p0), (.int p1), (.long p2), (.int p3), (.long p4)] maxLocals)) t := fun t k => k499 t (st500.trans k)
      have k502 : ∀ t, Steps p.tables e below (T500.setTop (mkF m 233 #[.val (.int p0), .val (.int p1), .val (.long p2), .second, .val (.int p3), .val (.long p4), .second, .val (.ref b233), .val (.ref b247), .val (.int ((p1 &&& (255 : Int32)) % (3 : Int32))), .val (.ref aA), .val (.ref b390), .val (.int d12), .val (.int d13), .val (.ref b412), .val (.ref b432), .val (.ref b460)] [(.ref b460)])) t → Steps p.tables e below (s₁.setTop (entryFrame m #[(.int p0), (.int p1), (.long p2), (.int p3), (.long p4)] maxLocals)) t := fun t k => k501 t (by
        show Steps p.tables e below (T500.setTop (mkF m 228 #[.val (.int p0), .val (.int p1), .val (.long p2), .second, .val (.int p3), .val (.long p4), .second, .val (.ref b233), .val (.ref b247), .val (.int ((p1 &&& (255 : Int32)) % (3 : Int32))), .val (.ref aA), .val (.ref b390), .val (.int d12), .val (.int d13), .val (.ref b412), .val (.ref b432), .val (.ref b460)] [(.int (1 : Int32))])) _
        refine XS.ifNo X500.here hx rfl (hb hby at_228) rfl ((if0 _ _).trans (feq (by decide : ¬ ((1 : Int32) = (0 : Int32)))).1) ?_
        show Steps p.tables e below (T500.setTop (mkF m 231 #[.val (.int p0), .val (.int p1), .val (.long p2), .second, .val (.int p3), .val (.long p4), .second, .val (.ref b233), .val (.ref b247), .val (.int ((p1 &&& (255 : Int32)) % (3 : Int32))), .val (.ref aA), .val (.ref b390), .val (.int d12), .val (.int d13), .val (.ref b412), .val (.ref b432), .val (.ref b460)] [])) _
        refine XS.aload X500.here hx rfl (hb hby at_231) rfl rfl ?_
        exact k)
      obtain ⟨cq503, kq503, q503a, q503b, q503c⟩ := isOf hZ eq500 Ax465
      obtain ⟨_, _, ⟨T503, L503, kc503, ks503⟩, -, X503, ⟨Lc503, hQ503, l503, y503, z503⟩, st503⟩ := X500.virtualBack hx (y := (⟨"com/example/pen_over_wire/penoverwire/model/User", "sessionEpoch", "()J"⟩ : MethodName)) (z := (⟨"com/example/pen_over_wire/penoverwire/model/User", "sessionEpoch", "()J"⟩ : MethodName)) hown (mvT hZ (hw _ (List.mem_of_getElem? (i := 114) rfl))) (mvT hZ (hw _ (List.mem_of_getElem? (i := 115) rfl))) (notFace_of_selects (args := #[]) (mvT hZ (hw _ (List.mem_of_getElem? (i := 117) rfl)))) (mvT hZ (hw _ (List.mem_of_getElem? (i := 117) rfl))) (mvT hZ (hw _ (List.mem_of_getElem? (i := 116) rfl))) (by decide) (backOf (W := 0) (rm18 l Z a0 hw [] b460 (p4 + (1 : Int64)) T465.heap n0 Z466  Fx465_7) hZ (hw _ (List.mem_of_getElem? (i := 118) rfl)) (hw _ (List.mem_of_getElem? (i := 51) rfl)) (by decide) (by decide)) q503a q503c (g := (mkF m 233 #[.val (.int p0), .val (.int p1), .val (.long p2), .second, .val (.int p3), .val (.long p4), .second, .val (.ref b233), .val (.ref b247), .val (.int ((p1 &&& (255 : Int32)) % (3 : Int32))), .val (.ref aA), .val (.ref b390), .val (.int d12), .val (.int d13), .val (.ref b412), .val (.ref b432), .val (.ref b460)] [(.ref b460)])) rfl (by rw [hml]; rfl) (Steps.refl _) (argsL := []) (rest := []) (lenOf pd_9 rfl) rfl (by show 2 * 0 + _ ≤ _; exact Nat.le_of_eq rfl) (hb hby at_233) (fun _ _ => ⟨rfl, eq500, (by decide : 7 + 0 ≤ _), (by decide : 27 + 0 ≤ _)⟩)
      dsimp only [Pt.U, Pt.locs, Pt.cells, Pt.slots] at X503 l503 y503 z503 st503 hQ503
      subst l503 y503 z503
      obtain ⟨rfl, Nq503, eq503⟩ := hQ503
      have N503 := Fr.app N500 Nq503
      have k504 : ∀ t, Steps p.tables e below (T503.setTop (mkF m 236 #[.val (.int p0), .val (.int p1), .val (.long p2), .second, .val (.int p3), .val (.long p4), .second, .val (.ref b233), .val (.ref b247), .val (.int ((p1 &&& (255 : Int32)) % (3 : Int32))), .val (.ref aA), .val (.ref b390), .val (.int d12), .val (.int d13), .val (.ref b412), .val (.ref b432), .val (.ref b460)] [(.long (p4 + (1 : Int64)))])) t → Steps p.tables e below (s₁.setTop (entryFrame m #[(.int p0), (.int p1), (.long p2), (.int p3), (.long p4)] maxLocals)) t := fun t k => k502 t (st503.trans k)
      have k505 : ∀ t, Steps p.tables e below (T503.setTop (mkF m 249 #[.val (.int p0), .val (.int p1), .val (.long p2), .second, .val (.int p3), .val (.long p4), .second, .val (.ref b233), .val (.ref b247), .val (.int ((p1 &&& (255 : Int32)) % (3 : Int32))), .val (.ref aA), .val (.ref b390), .val (.int d12), .val (.int d13), .val (.ref b412), .val (.ref b432), .val (.ref b460)] [(.int (1 : Int32))])) t → Steps p.tables e below (s₁.setTop (entryFrame m #[(.int p0), (.int p1), (.long p2), (.int p3), (.long p4)] maxLocals)) t := fun t k => k504 t (by
        show Steps p.tables e below (T503.setTop (mkF m 236 #[.val (.int p0), .val (.int p1), .val (.long p2), .second, .val (.int p3), .val (.long p4), .second, .val (.ref b233), .val (.ref b247), .val (.int ((p1 &&& (255 : Int32)) % (3 : Int32))), .val (.ref aA), .val (.ref b390), .val (.int d12), .val (.int d13), .val (.ref b412), .val (.ref b432), .val (.ref b460)] [(.long (p4 + (1 : Int64)))])) _
        refine XS.lload X503.here hx rfl (hb hby at_236) rfl ?_
        show Steps p.tables e below (T503.setTop (mkF m 238 #[.val (.int p0), .val (.int p1), .val (.long p2), .second, .val (.int p3), .val (.long p4), .second, .val (.ref b233), .val (.ref b247), .val (.int ((p1 &&& (255 : Int32)) % (3 : Int32))), .val (.ref aA), .val (.ref b390), .val (.int d12), .val (.int d13), .val (.ref b412), .val (.ref b432), .val (.ref b460)] [(.long p4), (.long (p4 + (1 : Int64)))])) _
        refine XS.lconst X503.here hx rfl (hb hby at_238) ?_
        show Steps p.tables e below (T503.setTop (mkF m 239 #[.val (.int p0), .val (.int p1), .val (.long p2), .second, .val (.int p3), .val (.long p4), .second, .val (.ref b233), .val (.ref b247), .val (.int ((p1 &&& (255 : Int32)) % (3 : Int32))), .val (.ref aA), .val (.ref b390), .val (.int d12), .val (.int d13), .val (.ref b412), .val (.ref b432), .val (.ref b460)] [(.long (1 : Int64)), (.long p4), (.long (p4 + (1 : Int64)))])) _
        refine XS.ladd X503.here hx rfl (hb hby at_239) rfl ?_
        show Steps p.tables e below (T503.setTop (mkF m 240 #[.val (.int p0), .val (.int p1), .val (.long p2), .second, .val (.int p3), .val (.long p4), .second, .val (.ref b233), .val (.ref b247), .val (.int ((p1 &&& (255 : Int32)) % (3 : Int32))), .val (.ref aA), .val (.ref b390), .val (.int d12), .val (.int d13), .val (.ref b412), .val (.ref b432), .val (.ref b460)] [(.long (p4 + (1 : Int64))), (.long (p4 + (1 : Int64)))])) _
        refine XS.lcmp X503.here hx rfl (hb hby at_240) rfl ?_
        show Steps p.tables e below (T503.setTop (mkF m 241 #[.val (.int p0), .val (.int p1), .val (.long p2), .second, .val (.int p3), .val (.long p4), .second, .val (.ref b233), .val (.ref b247), .val (.int ((p1 &&& (255 : Int32)) % (3 : Int32))), .val (.ref aA), .val (.ref b390), .val (.int d12), .val (.int d13), .val (.ref b412), .val (.ref b432), .val (.ref b460)] [(.int (lcmpW (p4 + (1 : Int64)) (p4 + (1 : Int64))))])) _
        refine XS.ifNo X503.here hx rfl (hb hby at_241) rfl ((if0 _ _).trans (teq ((lw_eq _ _).mpr rfl)).2) ?_
        show Steps p.tables e below (T503.setTop (mkF m 244 #[.val (.int p0), .val (.int p1), .val (.long p2), .second, .val (.int p3), .val (.long p4), .second, .val (.ref b233), .val (.ref b247), .val (.int ((p1 &&& (255 : Int32)) % (3 : Int32))), .val (.ref aA), .val (.ref b390), .val (.int d12), .val (.int d13), .val (.ref b412), .val (.ref b432), .val (.ref b460)] [])) _
        refine XS.iconst X503.here hx rfl (hb hby at_244) ?_
        show Steps p.tables e below (T503.setTop (mkF m 245 #[.val (.int p0), .val (.int p1), .val (.long p2), .second, .val (.int p3), .val (.long p4), .second, .val (.ref b233), .val (.ref b247), .val (.int ((p1 &&& (255 : Int32)) % (3 : Int32))), .val (.ref aA), .val (.ref b390), .val (.int d12), .val (.int d13), .val (.ref b412), .val (.ref b432), .val (.ref b460)] [(.int (1 : Int32))])) _
        refine XS.goto X503.here hx rfl (pc0 := 245) (pc' := 249) rfl (hb hby at_245) (by decide) (by decide) ?_
        exact k)
      obtain ⟨fs, hr, hrun, hended, hW, hsame⟩ := X503.leave (v := some (.int (1 : Int32))) (fun h => by rw [Bd.returns] at h; cases h)
      refine ⟨_, _, k505 _ ?_, hrun, hended, _, _, rfl, ?_, ⟨_, rfl⟩, hW, hsame.mono (by decide) (by decide)⟩
      · show Steps p.tables e below (T503.setTop (mkF m 249 #[.val (.int p0), .val (.int p1), .val (.long p2), .second, .val (.int p3), .val (.long p4), .second, .val (.ref b233), .val (.ref b247), .val (.int ((p1 &&& (255 : Int32)) % (3 : Int32))), .val (.ref aA), .val (.ref b390), .val (.int d12), .val (.int d13), .val (.ref b412), .val (.ref b432), .val (.ref b460)] [(.int (1 : Int32))])) _
        exact retN X503 hx (t := .boolean) Bd.returns (by simp) (hb hby at_249) hr
      · show Q0 Z p0 p1 p2 p3 p4 G1 aS aA aU h0 n0 _ T503.heap _
        rw [eq503]
        exact ⟨rfl, N503⟩
    · have k507 : ∀ t, Steps p.tables e below (T256.setTop (mkF m 71 #[.val (.int p0), .val (.int p1), .val (.long p2), .second, .val (.int p3), .val (.long p4), .second, .val (.ref b233), .val (.ref b247), .val (.int ((p1 &&& (255 : Int32)) % (3 : Int32))), .unset, .unset, .unset, .unset, .unset, .unset, .unset] [])) t → Steps p.tables e below (s₁.setTop (entryFrame m #[(.int p0), (.int p1), (.long p2), (.int p3), (.long p4)] maxLocals)) t := fun t k => k384 t (by
        show Steps p.tables e below (T256.setTop (mkF m 62 #[.val (.int p0), .val (.int p1), .val (.long p2), .second, .val (.int p3), .val (.long p4), .second, .val (.ref b233), .val (.ref b247), .val (.int ((p1 &&& (255 : Int32)) % (3 : Int32))), .unset, .unset, .unset, .unset, .unset, .unset, .unset] [(.int (1 : Int32)), (.int ((p1 &&& (255 : Int32)) % (3 : Int32)))])) _
        refine XS.icmpYes X256.here hx rfl (pc0 := 62) (pc' := 71) rfl (hb hby at_62) rfl (feq hc385).2 (by decide) (by decide) ?_
        exact k)
      have SS_aU := Sta.ext F258.2 S_aU
      obtain ⟨T508, X508, e508, st508⟩ := getS (host := "") X256 hx hZ hown (hw _ (List.mem_of_getElem? (i := 119) rfl)) Via.refl rfl SS_aU (g := (mkF m 71 #[.val (.int p0), .val (.int p1), .val (.long p2), .second, .val (.int p3), .val (.long p4), .second, .val (.ref b233), .val (.ref b247), .val (.int ((p1 &&& (255 : Int32)) % (3 : Int32))), .unset, .unset, .unset, .unset, .unset, .unset, .unset] [])) rfl (hb hby at_71)
      have k509 : ∀ t, Steps p.tables e below (T508.setTop (mkF m 74 #[.val (.int p0), .val (.int p1), .val (.long p2), .second, .val (.int p3), .val (.long p4), .second, .val (.ref b233), .val (.ref b247), .val (.int ((p1 &&& (255 : Int32)) % (3 : Int32))), .unset, .unset, .unset, .unset, .unset, .unset, .unset] [(.ref aU)])) t → Steps p.tables e below (s₁.setTop (entryFrame m #[(.int p0), (.int p1), (.long p2), (.int p3), (.long p4)] maxLocals)) t := fun t k => k507 t (st508 t k)
      have k510 : ∀ t, Steps p.tables e below (T508.setTop (mkF m 77 #[.val (.int p0), .val (.int p1), .val (.long p2), .second, .val (.int p3), .val (.long p4), .second, .val (.ref b233), .val (.ref b247), .val (.int ((p1 &&& (255 : Int32)) % (3 : Int32))), .val (.ref aU), .unset, .unset, .unset, .unset, .unset, .unset] [(.int (1 : Int32))])) t → Steps p.tables e below (s₁.setTop (entryFrame m #[(.int p0), (.int p1), (.long p2), (.int p3), (.long p4)] maxLocals)) t := fun t k => k509 t (by
        show Steps p.tables e below (T508.setTop (mkF m 74 #[.val (.int p0), .val (.int p1), .val (.long p2), .second, .val (.int p3), .val (.long p4), .second, .val (.ref b233), .val (.ref b247), .val (.int ((p1 &&& (255 : Int32)) % (3 : Int32))), .unset, .unset, .unset, .unset, .unset, .unset, .unset] [(.ref aU)])) _
        refine XS.astore X508.here hx rfl (hb hby at_74) rfl rfl (l' := #[.val (.int p0), .val (.int p1), .val (.long p2), .second, .val (.int p3), .val (.long p4), .second, .val (.ref b233), .val (.ref b247), .val (.int ((p1 &&& (255 : Int32)) % (3 : Int32))), .val (.ref aU), .unset, .unset, .unset, .unset, .unset, .unset]) rfl ?_
        show Steps p.tables e below (T508.setTop (mkF m 76 #[.val (.int p0), .val (.int p1), .val (.long p2), .second, .val (.int p3), .val (.long p4), .second, .val (.ref b233), .val (.ref b247), .val (.int ((p1 &&& (255 : Int32)) % (3 : Int32))), .val (.ref aU), .unset, .unset, .unset, .unset, .unset, .unset] [])) _
        refine XS.iconst X508.here hx rfl (hb hby at_76) ?_
        exact k)
      obtain ⟨T511, h511, c511, X511, e511, E511, A511, st511⟩ := newP X508 hx hZ (hw _ (List.mem_of_getElem? (i := 19) rfl)) e508 (g := (mkF m 77 #[.val (.int p0), .val (.int p1), .val (.long p2), .second, .val (.int p3), .val (.long p4), .second, .val (.ref b233), .val (.ref b247), .val (.int ((p1 &&& (255 : Int32)) % (3 : Int32))), .val (.ref aU), .unset, .unset, .unset, .unset, .unset, .unset] [(.int (1 : Int32))])) rfl (hb hby at_77) rfl (by decide) (cap := 1) (by decide) (by decide) (by decide) (by decide)
      obtain ⟨b511, g511⟩ : ∃ z, z = T256.heap.size := ⟨_, rfl⟩
      rw [← g511] at A511 st511
      have ne512 : b247 ≠ b511 := Nat.ne_of_lt (Nat.lt_of_lt_of_le (F259).lt (Nat.le_of_eq g511.symm))
      have g_b511 : n0 ≤ b511 := Nat.le_trans Z257 (Nat.le_of_eq g511.symm)
      have Z513 : n0 ≤ h511.size := Nat.le_trans Z257 E511.1
      have F514 : Old Z n0 h511 := Old.ext F258 E511
      have F515 : Exa Z h511 b247 "java/lang/String" := (F259).ext E511
      have F516 : Sta Z h511 "com/example/pen_over_wire/penoverwire/model/Role" "AUDITOR" "Lcom/example/pen_over_wire/penoverwire/model/Role;" (.ref aU) := Sta.ext E511 SS_aU
      have V511 : Arv Z h511 b511 c511 .byte (1 : Int32) [(.int (0 : Int32))] (.int (0 : Int32)) := (Arv.new A511 (by decide)).pad (pad_rep [] (.int (0 : Int32)) 1)
      have k517 : ∀ t, Steps p.tables e below (T511.setTop (mkF m 79 #[.val (.int p0), .val (.int p1), .val (.long p2), .second, .val (.int p3), .val (.long p4), .second, .val (.ref b233), .val (.ref b247), .val (.int ((p1 &&& (255 : Int32)) % (3 : Int32))), .val (.ref aU), .unset, .unset, .unset, .unset, .unset, .unset] [(.ref b511)])) t → Steps p.tables e below (s₁.setTop (entryFrame m #[(.int p0), (.int p1), (.long p2), (.int p3), (.long p4)] maxLocals)) t := fun t k => k510 t (st511 t k)
      have k518 : ∀ t, Steps p.tables e below (T511.setTop (mkF m 89 #[.val (.int p0), .val (.int p1), .val (.long p2), .second, .val (.int p3), .val (.long p4), .second, .val (.ref b233), .val (.ref b247), .val (.int ((p1 &&& (255 : Int32)) % (3 : Int32))), .val (.ref aU), .val (.ref b511), .unset, .unset, .unset, .unset, .unset] [(.int (((p0.toUInt32 >>> ((16 : Int32) &&& 31).toUInt32).toInt32).toInt8.toInt32)), (.int (0 : Int32)), (.ref b511)])) t → Steps p.tables e below (s₁.setTop (entryFrame m #[(.int p0), (.int p1), (.long p2), (.int p3), (.long p4)] maxLocals)) t := fun t k => k517 t (by
        show Steps p.tables e below (T511.setTop (mkF m 79 #[.val (.int p0), .val (.int p1), .val (.long p2), .second, .val (.int p3), .val (.long p4), .second, .val (.ref b233), .val (.ref b247), .val (.int ((p1 &&& (255 : Int32)) % (3 : Int32))), .val (.ref aU), .unset, .unset, .unset, .unset, .unset, .unset] [(.ref b511)])) _
        refine XS.astore X511.here hx rfl (hb hby at_79) rfl rfl (l' := #[.val (.int p0), .val (.int p1), .val (.long p2), .second, .val (.int p3), .val (.long p4), .second, .val (.ref b233), .val (.ref b247), .val (.int ((p1 &&& (255 : Int32)) % (3 : Int32))), .val (.ref aU), .val (.ref b511), .unset, .unset, .unset, .unset, .unset]) rfl ?_
        show Steps p.tables e below (T511.setTop (mkF m 81 #[.val (.int p0), .val (.int p1), .val (.long p2), .second, .val (.int p3), .val (.long p4), .second, .val (.ref b233), .val (.ref b247), .val (.int ((p1 &&& (255 : Int32)) % (3 : Int32))), .val (.ref aU), .val (.ref b511), .unset, .unset, .unset, .unset, .unset] [])) _
        refine XS.aload X511.here hx rfl (hb hby at_81) rfl rfl ?_
        show Steps p.tables e below (T511.setTop (mkF m 83 #[.val (.int p0), .val (.int p1), .val (.long p2), .second, .val (.int p3), .val (.long p4), .second, .val (.ref b233), .val (.ref b247), .val (.int ((p1 &&& (255 : Int32)) % (3 : Int32))), .val (.ref aU), .val (.ref b511), .unset, .unset, .unset, .unset, .unset] [(.ref b511)])) _
        refine XS.iconst X511.here hx rfl (hb hby at_83) ?_
        show Steps p.tables e below (T511.setTop (mkF m 84 #[.val (.int p0), .val (.int p1), .val (.long p2), .second, .val (.int p3), .val (.long p4), .second, .val (.ref b233), .val (.ref b247), .val (.int ((p1 &&& (255 : Int32)) % (3 : Int32))), .val (.ref aU), .val (.ref b511), .unset, .unset, .unset, .unset, .unset] [(.int (0 : Int32)), (.ref b511)])) _
        refine XS.iloadN X511.here hx rfl (hb hby at_84) rfl ?_
        show Steps p.tables e below (T511.setTop (mkF m 85 #[.val (.int p0), .val (.int p1), .val (.long p2), .second, .val (.int p3), .val (.long p4), .second, .val (.ref b233), .val (.ref b247), .val (.int ((p1 &&& (255 : Int32)) % (3 : Int32))), .val (.ref aU), .val (.ref b511), .unset, .unset, .unset, .unset, .unset] [(.int p0), (.int (0 : Int32)), (.ref b511)])) _
        refine XS.bipush X511.here hx rfl (hb hby at_85) ?_
        show Steps p.tables e below (T511.setTop (mkF m 87 #[.val (.int p0), .val (.int p1), .val (.long p2), .second, .val (.int p3), .val (.long p4), .second, .val (.ref b233), .val (.ref b247), .val (.int ((p1 &&& (255 : Int32)) % (3 : Int32))), .val (.ref aU), .val (.ref b511), .unset, .unset, .unset, .unset, .unset] [(.int (16 : Int32)), (.int p0), (.int (0 : Int32)), (.ref b511)])) _
        refine XS.iushr X511.here hx rfl (hb hby at_87) rfl ?_
        show Steps p.tables e below (T511.setTop (mkF m 88 #[.val (.int p0), .val (.int p1), .val (.long p2), .second, .val (.int p3), .val (.long p4), .second, .val (.ref b233), .val (.ref b247), .val (.int ((p1 &&& (255 : Int32)) % (3 : Int32))), .val (.ref aU), .val (.ref b511), .unset, .unset, .unset, .unset, .unset] [(.int ((p0.toUInt32 >>> ((16 : Int32) &&& 31).toUInt32).toInt32)), (.int (0 : Int32)), (.ref b511)])) _
        refine XS.i2b X511.here hx rfl (hb hby at_88) rfl ?_
        exact k)
      obtain ⟨cl519, Ar519, qq519, S519, M519, H519, G519⟩ := V511
      have hin519 : ¬ ((0 : Int32) < 0 ∨ cl519.slots.size ≤ ((0 : Int32)).toNatClampNeg) := inb_of S519 ⟨by decide, by decide⟩
      obtain ⟨T519, h519, X519, e519, W519, st519⟩ := stB X511 hx hZ e511 Ar519 (j := (0 : Int32)) hin519 (g := (mkF m 89 #[.val (.int p0), .val (.int p1), .val (.long p2), .second, .val (.int p3), .val (.long p4), .second, .val (.ref b233), .val (.ref b247), .val (.int ((p1 &&& (255 : Int32)) % (3 : Int32))), .val (.ref aU), .val (.ref b511), .unset, .unset, .unset, .unset, .unset] [(.int (((p0.toUInt32 >>> ((16 : Int32) &&& 31).toUInt32).toInt32).toInt8.toInt32)), (.int (0 : Int32)), (.ref b511)])) rfl rfl (hb hby at_89)
      have V519 : Arv Z h519 b511 c511 .byte (1 : Int32) [(.int (nar .byte (((p0.toUInt32 >>> ((16 : Int32) &&& 31).toUInt32).toInt32).toInt8.toInt32)))] (.int (0 : Int32)) := Arv.set Ar519 qq519 S519 M519 H519 G519 (fits_nar_byte _) W519 0 rfl (Nat.le_of_ble_eq_true rfl)
      have N519 := Fr.snoc X519 N256 g_b511
      have Z520 : n0 ≤ h519.size := Nat.le_trans Z513 (Nat.le_of_eq W519.size.symm)
      have F521 : Old Z n0 h519 := Old.wr F514 W519 g_b511
      have F522 : Exa Z h519 b247 "java/lang/String" := Exa.wr W519 F515
      have F523 : Sta Z h519 "com/example/pen_over_wire/penoverwire/model/Role" "AUDITOR" "Lcom/example/pen_over_wire/penoverwire/model/Role;" (.ref aU) := Sta.wr W519 F516
      have k524 : ∀ t, Steps p.tables e below (T519.setTop (mkF m 90 #[.val (.int p0), .val (.int p1), .val (.long p2), .second, .val (.int p3), .val (.long p4), .second, .val (.ref b233), .val (.ref b247), .val (.int ((p1 &&& (255 : Int32)) % (3 : Int32))), .val (.ref aU), .val (.ref b511), .unset, .unset, .unset, .unset, .unset] [])) t → Steps p.tables e below (s₁.setTop (entryFrame m #[(.int p0), (.int p1), (.long p2), (.int p3), (.long p4)] maxLocals)) t := fun t k => k518 t (st519 t k)
      have k525 : ∀ t, Steps p.tables e below (T519.setTop (mkF m 96 #[.val (.int p0), .val (.int p1), .val (.long p2), .second, .val (.int p3), .val (.long p4), .second, .val (.ref b233), .val (.ref b247), .val (.int ((p1 &&& (255 : Int32)) % (3 : Int32))), .val (.ref aU), .val (.ref b511), .unset, .unset, .unset, .unset, .unset] [(.int (((p1.toUInt32 >>> ((8 : Int32) &&& 31).toUInt32).toInt32) &&& (1 : Int32)))])) t → Steps p.tables e below (s₁.setTop (entryFrame m #[(.int p0), (.int p1), (.long p2), (.int p3), (.long p4)] maxLocals)) t := fun t k => k524 t (by
        show Steps p.tables e below (T519.setTop (mkF m 90 #[.val (.int p0), .val (.int p1), .val (.long p2), .second, .val (.int p3), .val (.long p4), .second, .val (.ref b233), .val (.ref b247), .val (.int ((p1 &&& (255 : Int32)) % (3 : Int32))), .val (.ref aU), .val (.ref b511), .unset, .unset, .unset, .unset, .unset] [])) _
        refine XS.iloadN X519.here hx rfl (hb hby at_90) rfl ?_
        show Steps p.tables e below (T519.setTop (mkF m 91 #[.val (.int p0), .val (.int p1), .val (.long p2), .second, .val (.int p3), .val (.long p4), .second, .val (.ref b233), .val (.ref b247), .val (.int ((p1 &&& (255 : Int32)) % (3 : Int32))), .val (.ref aU), .val (.ref b511), .unset, .unset, .unset, .unset, .unset] [(.int p1)])) _
        refine XS.bipush X519.here hx rfl (hb hby at_91) ?_
        show Steps p.tables e below (T519.setTop (mkF m 93 #[.val (.int p0), .val (.int p1), .val (.long p2), .second, .val (.int p3), .val (.long p4), .second, .val (.ref b233), .val (.ref b247), .val (.int ((p1 &&& (255 : Int32)) % (3 : Int32))), .val (.ref aU), .val (.ref b511), .unset, .unset, .unset, .unset, .unset] [(.int (8 : Int32)), (.int p1)])) _
        refine XS.iushr X519.here hx rfl (hb hby at_93) rfl ?_
        show Steps p.tables e below (T519.setTop (mkF m 94 #[.val (.int p0), .val (.int p1), .val (.long p2), .second, .val (.int p3), .val (.long p4), .second, .val (.ref b233), .val (.ref b247), .val (.int ((p1 &&& (255 : Int32)) % (3 : Int32))), .val (.ref aU), .val (.ref b511), .unset, .unset, .unset, .unset, .unset] [(.int ((p1.toUInt32 >>> ((8 : Int32) &&& 31).toUInt32).toInt32))])) _
        refine XS.iconst X519.here hx rfl (hb hby at_94) ?_
        show Steps p.tables e below (T519.setTop (mkF m 95 #[.val (.int p0), .val (.int p1), .val (.long p2), .second, .val (.int p3), .val (.long p4), .second, .val (.ref b233), .val (.ref b247), .val (.int ((p1 &&& (255 : Int32)) % (3 : Int32))), .val (.ref aU), .val (.ref b511), .unset, .unset, .unset, .unset, .unset] [(.int (1 : Int32)), (.int ((p1.toUInt32 >>> ((8 : Int32) &&& 31).toUInt32).toInt32))])) _
        refine XS.iand X519.here hx rfl (hb hby at_95) rfl ?_
        exact k)
      have k527 : ∀ t, Steps p.tables e below (T519.setTop (mkF m 104 #[.val (.int p0), .val (.int p1), .val (.long p2), .second, .val (.int p3), .val (.long p4), .second, .val (.ref b233), .val (.ref b247), .val (.int ((p1 &&& (255 : Int32)) % (3 : Int32))), .val (.ref aU), .val (.ref b511), .unset, .unset, .unset, .unset, .unset] [(.int (if (((p1.toUInt32 >>> ((8 : Int32) &&& 31).toUInt32).toInt32) &&& (1 : Int32)) = (0 : Int32) then (0 : Int32) else (1 : Int32)))])) t → Steps p.tables e below (s₁.setTop (entryFrame m #[(.int p0), (.int p1), (.long p2), (.int p3), (.long p4)] maxLocals)) t := fun t k => k525 t (by
        by_cases hq526 : (((p1.toUInt32 >>> ((8 : Int32) &&& 31).toUInt32).toInt32) &&& (1 : Int32)) = (0 : Int32)
        · simp only [if_pos hq526] at k
          show Steps p.tables e below (T519.setTop (mkF m 96 #[.val (.int p0), .val (.int p1), .val (.long p2), .second, .val (.int p3), .val (.long p4), .second, .val (.ref b233), .val (.ref b247), .val (.int ((p1 &&& (255 : Int32)) % (3 : Int32))), .val (.ref aU), .val (.ref b511), .unset, .unset, .unset, .unset, .unset] [(.int (((p1.toUInt32 >>> ((8 : Int32) &&& 31).toUInt32).toInt32) &&& (1 : Int32)))])) _
          refine XS.ifYes X519.here hx rfl (pc0 := 96) (pc' := 103) rfl (hb hby at_96) rfl ((if0 _ _).trans (teq hq526).1) (by decide) (by decide) ?_
          show Steps p.tables e below (T519.setTop (mkF m 103 #[.val (.int p0), .val (.int p1), .val (.long p2), .second, .val (.int p3), .val (.long p4), .second, .val (.ref b233), .val (.ref b247), .val (.int ((p1 &&& (255 : Int32)) % (3 : Int32))), .val (.ref aU), .val (.ref b511), .unset, .unset, .unset, .unset, .unset] [])) _
          refine XS.iconst X519.here hx rfl (hb hby at_103) ?_
          exact k
        · simp only [if_neg hq526] at k
          show Steps p.tables e below (T519.setTop (mkF m 96 #[.val (.int p0), .val (.int p1), .val (.long p2), .second, .val (.int p3), .val (.long p4), .second, .val (.ref b233), .val (.ref b247), .val (.int ((p1 &&& (255 : Int32)) % (3 : Int32))), .val (.ref aU), .val (.ref b511), .unset, .unset, .unset, .unset, .unset] [(.int (((p1.toUInt32 >>> ((8 : Int32) &&& 31).toUInt32).toInt32) &&& (1 : Int32)))])) _
          refine XS.ifNo X519.here hx rfl (hb hby at_96) rfl ((if0 _ _).trans (feq hq526).1) ?_
          show Steps p.tables e below (T519.setTop (mkF m 99 #[.val (.int p0), .val (.int p1), .val (.long p2), .second, .val (.int p3), .val (.long p4), .second, .val (.ref b233), .val (.ref b247), .val (.int ((p1 &&& (255 : Int32)) % (3 : Int32))), .val (.ref aU), .val (.ref b511), .unset, .unset, .unset, .unset, .unset] [])) _
          refine XS.iconst X519.here hx rfl (hb hby at_99) ?_
          show Steps p.tables e below (T519.setTop (mkF m 100 #[.val (.int p0), .val (.int p1), .val (.long p2), .second, .val (.int p3), .val (.long p4), .second, .val (.ref b233), .val (.ref b247), .val (.int ((p1 &&& (255 : Int32)) % (3 : Int32))), .val (.ref aU), .val (.ref b511), .unset, .unset, .unset, .unset, .unset] [(.int (1 : Int32))])) _
          refine XS.goto X519.here hx rfl (pc0 := 100) (pc' := 104) rfl (hb hby at_100) (by decide) (by decide) ?_
          exact k)
      have k528 : ∀ t, Steps p.tables e below (T519.setTop (mkF m 106 #[.val (.int p0), .val (.int p1), .val (.long p2), .second, .val (.int p3), .val (.long p4), .second, .val (.ref b233), .val (.ref b247), .val (.int ((p1 &&& (255 : Int32)) % (3 : Int32))), .val (.ref aU), .val (.ref b511), .val (.int (if (((p1.toUInt32 >>> ((8 : Int32) &&& 31).toUInt32).toInt32) &&& (1 : Int32)) = (0 : Int32) then (0 : Int32) else (1 : Int32))), .unset, .unset, .unset, .unset] [])) t → Steps p.tables e below (s₁.setTop (entryFrame m #[(.int p0), (.int p1), (.long p2), (.int p3), (.long p4)] maxLocals)) t := fun t k => k527 t (by
        show Steps p.tables e below (T519.setTop (mkF m 104 #[.val (.int p0), .val (.int p1), .val (.long p2), .second, .val (.int p3), .val (.long p4), .second, .val (.ref b233), .val (.ref b247), .val (.int ((p1 &&& (255 : Int32)) % (3 : Int32))), .val (.ref aU), .val (.ref b511), .unset, .unset, .unset, .unset, .unset] [(.int (if (((p1.toUInt32 >>> ((8 : Int32) &&& 31).toUInt32).toInt32) &&& (1 : Int32)) = (0 : Int32) then (0 : Int32) else (1 : Int32)))])) _
        refine XS.istore X519.here hx rfl (hb hby at_104) rfl (l' := #[.val (.int p0), .val (.int p1), .val (.long p2), .second, .val (.int p3), .val (.long p4), .second, .val (.ref b233), .val (.ref b247), .val (.int ((p1 &&& (255 : Int32)) % (3 : Int32))), .val (.ref aU), .val (.ref b511), .val (.int (if (((p1.toUInt32 >>> ((8 : Int32) &&& 31).toUInt32).toInt32) &&& (1 : Int32)) = (0 : Int32) then (0 : Int32) else (1 : Int32))), .unset, .unset, .unset, .unset]) rfl ?_
        exact k)
      obtain ⟨d12, e_d12⟩ : ∃ z, z = (if (((p1.toUInt32 >>> ((8 : Int32) &&& 31).toUInt32).toInt32) &&& (1 : Int32)) = (0 : Int32) then (0 : Int32) else (1 : Int32)) := ⟨_, rfl⟩
      rw [← e_d12] at k528
      have h_d12 : d12 = 0 ∨ d12 = 1 := by rw [e_d12]; exact own_01 _
      have k529 : ∀ t, Steps p.tables e below (T519.setTop (mkF m 112 #[.val (.int p0), .val (.int p1), .val (.long p2), .second, .val (.int p3), .val (.long p4), .second, .val (.ref b233), .val (.ref b247), .val (.int ((p1 &&& (255 : Int32)) % (3 : Int32))), .val (.ref aU), .val (.ref b511), .val (.int d12), .unset, .unset, .unset, .unset] [(.int (((p1.toUInt32 >>> ((9 : Int32) &&& 31).toUInt32).toInt32) &&& (1 : Int32)))])) t → Steps p.tables e below (s₁.setTop (entryFrame m #[(.int p0), (.int p1), (.long p2), (.int p3), (.long p4)] maxLocals)) t := fun t k => k528 t (by
        show Steps p.tables e below (T519.setTop (mkF m 106 #[.val (.int p0), .val (.int p1), .val (.long p2), .second, .val (.int p3), .val (.long p4), .second, .val (.ref b233), .val (.ref b247), .val (.int ((p1 &&& (255 : Int32)) % (3 : Int32))), .val (.ref aU), .val (.ref b511), .val (.int d12), .unset, .unset, .unset, .unset] [])) _
        refine XS.iloadN X519.here hx rfl (hb hby at_106) rfl ?_
        show Steps p.tables e below (T519.setTop (mkF m 107 #[.val (.int p0), .val (.int p1), .val (.long p2), .second, .val (.int p3), .val (.long p4), .second, .val (.ref b233), .val (.ref b247), .val (.int ((p1 &&& (255 : Int32)) % (3 : Int32))), .val (.ref aU), .val (.ref b511), .val (.int d12), .unset, .unset, .unset, .unset] [(.int p1)])) _
        refine XS.bipush X519.here hx rfl (hb hby at_107) ?_
        show Steps p.tables e below (T519.setTop (mkF m 109 #[.val (.int p0), .val (.int p1), .val (.long p2), .second, .val (.int p3), .val (.long p4), .second, .val (.ref b233), .val (.ref b247), .val (.int ((p1 &&& (255 : Int32)) % (3 : Int32))), .val (.ref aU), .val (.ref b511), .val (.int d12), .unset, .unset, .unset, .unset] [(.int (9 : Int32)), (.int p1)])) _
        refine XS.iushr X519.here hx rfl (hb hby at_109) rfl ?_
        show Steps p.tables e below (T519.setTop (mkF m 110 #[.val (.int p0), .val (.int p1), .val (.long p2), .second, .val (.int p3), .val (.long p4), .second, .val (.ref b233), .val (.ref b247), .val (.int ((p1 &&& (255 : Int32)) % (3 : Int32))), .val (.ref aU), .val (.ref b511), .val (.int d12), .unset, .unset, .unset, .unset] [(.int ((p1.toUInt32 >>> ((9 : Int32) &&& 31).toUInt32).toInt32))])) _
        refine XS.iconst X519.here hx rfl (hb hby at_110) ?_
        show Steps p.tables e below (T519.setTop (mkF m 111 #[.val (.int p0), .val (.int p1), .val (.long p2), .second, .val (.int p3), .val (.long p4), .second, .val (.ref b233), .val (.ref b247), .val (.int ((p1 &&& (255 : Int32)) % (3 : Int32))), .val (.ref aU), .val (.ref b511), .val (.int d12), .unset, .unset, .unset, .unset] [(.int (1 : Int32)), (.int ((p1.toUInt32 >>> ((9 : Int32) &&& 31).toUInt32).toInt32))])) _
        refine XS.iand X519.here hx rfl (hb hby at_111) rfl ?_
        exact k)
      have k531 : ∀ t, Steps p.tables e below (T519.setTop (mkF m 120 #[.val (.int p0), .val (.int p1), .val (.long p2), .second, .val (.int p3), .val (.long p4), .second, .val (.ref b233), .val (.ref b247), .val (.int ((p1 &&& (255 : Int32)) % (3 : Int32))), .val (.ref aU), .val (.ref b511), .val (.int d12), .unset, .unset, .unset, .unset] [(.int (if (((p1.toUInt32 >>> ((9 : Int32) &&& 31).toUInt32).toInt32) &&& (1 : Int32)) = (0 : Int32) then (0 : Int32) else (1 : Int32)))])) t → Steps p.tables e below (s₁.setTop (entryFrame m #[(.int p0), (.int p1), (.long p2), (.int p3), (.long p4)] maxLocals)) t := fun t k => k529 t (by
        by_cases hq530 : (((p1.toUInt32 >>> ((9 : Int32) &&& 31).toUInt32).toInt32) &&& (1 : Int32)) = (0 : Int32)
        · simp only [if_pos hq530] at k
          show Steps p.tables e below (T519.setTop (mkF m 112 #[.val (.int p0), .val (.int p1), .val (.long p2), .second, .val (.int p3), .val (.long p4), .second, .val (.ref b233), .val (.ref b247), .val (.int ((p1 &&& (255 : Int32)) % (3 : Int32))), .val (.ref aU), .val (.ref b511), .val (.int d12), .unset, .unset, .unset, .unset] [(.int (((p1.toUInt32 >>> ((9 : Int32) &&& 31).toUInt32).toInt32) &&& (1 : Int32)))])) _
          refine XS.ifYes X519.here hx rfl (pc0 := 112) (pc' := 119) rfl (hb hby at_112) rfl ((if0 _ _).trans (teq hq530).1) (by decide) (by decide) ?_
          show Steps p.tables e below (T519.setTop (mkF m 119 #[.val (.int p0), .val (.int p1), .val (.long p2), .second, .val (.int p3), .val (.long p4), .second, .val (.ref b233), .val (.ref b247), .val (.int ((p1 &&& (255 : Int32)) % (3 : Int32))), .val (.ref aU), .val (.ref b511), .val (.int d12), .unset, .unset, .unset, .unset] [])) _
          refine XS.iconst X519.here hx rfl (hb hby at_119) ?_
          exact k
        · simp only [if_neg hq530] at k
          show Steps p.tables e below (T519.setTop (mkF m 112 #[.val (.int p0), .val (.int p1), .val (.long p2), .second, .val (.int p3), .val (.long p4), .second, .val (.ref b233), .val (.ref b247), .val (.int ((p1 &&& (255 : Int32)) % (3 : Int32))), .val (.ref aU), .val (.ref b511), .val (.int d12), .unset, .unset, .unset, .unset] [(.int (((p1.toUInt32 >>> ((9 : Int32) &&& 31).toUInt32).toInt32) &&& (1 : Int32)))])) _
          refine XS.ifNo X519.here hx rfl (hb hby at_112) rfl ((if0 _ _).trans (feq hq530).1) ?_
          show Steps p.tables e below (T519.setTop (mkF m 115 #[.val (.int p0), .val (.int p1), .val (.long p2), .second, .val (.int p3), .val (.long p4), .second, .val (.ref b233), .val (.ref b247), .val (.int ((p1 &&& (255 : Int32)) % (3 : Int32))), .val (.ref aU), .val (.ref b511), .val (.int d12), .unset, .unset, .unset, .unset] [])) _
          refine XS.iconst X519.here hx rfl (hb hby at_115) ?_
          show Steps p.tables e below (T519.setTop (mkF m 116 #[.val (.int p0), .val (.int p1), .val (.long p2), .second, .val (.int p3), .val (.long p4), .second, .val (.ref b233), .val (.ref b247), .val (.int ((p1 &&& (255 : Int32)) % (3 : Int32))), .val (.ref aU), .val (.ref b511), .val (.int d12), .unset, .unset, .unset, .unset] [(.int (1 : Int32))])) _
          refine XS.goto X519.here hx rfl (pc0 := 116) (pc' := 120) rfl (hb hby at_116) (by decide) (by decide) ?_
          exact k)
      have k532 : ∀ t, Steps p.tables e below (T519.setTop (mkF m 122 #[.val (.int p0), .val (.int p1), .val (.long p2), .second, .val (.int p3), .val (.long p4), .second, .val (.ref b233), .val (.ref b247), .val (.int ((p1 &&& (255 : Int32)) % (3 : Int32))), .val (.ref aU), .val (.ref b511), .val (.int d12), .val (.int (if (((p1.toUInt32 >>> ((9 : Int32) &&& 31).toUInt32).toInt32) &&& (1 : Int32)) = (0 : Int32) then (0 : Int32) else (1 : Int32))), .unset, .unset, .unset] [])) t → Steps p.tables e below (s₁.setTop (entryFrame m #[(.int p0), (.int p1), (.long p2), (.int p3), (.long p4)] maxLocals)) t := fun t k => k531 t (by
        show Steps p.tables e below (T519.setTop (mkF m 120 #[.val (.int p0), .val (.int p1), .val (.long p2), .second, .val (.int p3), .val (.long p4), .second, .val (.ref b233), .val (.ref b247), .val (.int ((p1 &&& (255 : Int32)) % (3 : Int32))), .val (.ref aU), .val (.ref b511), .val (.int d12), .unset, .unset, .unset, .unset] [(.int (if (((p1.toUInt32 >>> ((9 : Int32) &&& 31).toUInt32).toInt32) &&& (1 : Int32)) = (0 : Int32) then (0 : Int32) else (1 : Int32)))])) _
        refine XS.istore X519.here hx rfl (hb hby at_120) rfl (l' := #[.val (.int p0), .val (.int p1), .val (.long p2), .second, .val (.int p3), .val (.long p4), .second, .val (.ref b233), .val (.ref b247), .val (.int ((p1 &&& (255 : Int32)) % (3 : Int32))), .val (.ref aU), .val (.ref b511), .val (.int d12), .val (.int (if (((p1.toUInt32 >>> ((9 : Int32) &&& 31).toUInt32).toInt32) &&& (1 : Int32)) = (0 : Int32) then (0 : Int32) else (1 : Int32))), .unset, .unset, .unset]) rfl ?_
        exact k)
      obtain ⟨d13, e_d13⟩ : ∃ z, z = (if (((p1.toUInt32 >>> ((9 : Int32) &&& 31).toUInt32).toInt32) &&& (1 : Int32)) = (0 : Int32) then (0 : Int32) else (1 : Int32)) := ⟨_, rfl⟩
      rw [← e_d13] at k532
      have h_d13 : d13 = 0 ∨ d13 = 1 := by rw [e_d13]; exact own_01 _
      obtain ⟨T533, h533, X533, e533, E533, A533, D533, -, st533⟩ := newO X519 hx hZ hown (hw _ (List.mem_of_getElem? (i := 33) rfl)) (hw _ (List.mem_of_getElem? (i := 34) rfl)) (hw _ (List.mem_of_getElem? (i := 35) rfl)) e519 (g := (mkF m 122 #[.val (.int p0), .val (.int p1), .val (.long p2), .second, .val (.int p3), .val (.long p4), .second, .val (.ref b233), .val (.ref b247), .val (.int ((p1 &&& (255 : Int32)) % (3 : Int32))), .val (.ref aU), .val (.ref b511), .val (.int d12), .val (.int d13), .unset, .unset, .unset] [])) rfl (hb hby at_122) (by decide) (by decide)
      obtain ⟨b533, g533⟩ : ∃ z, z = h519.size := ⟨_, rfl⟩
      rw [← g533] at A533 D533 st533
      have ne534 : b247 ≠ b533 := Nat.ne_of_lt (Nat.lt_of_lt_of_le (F522).lt (Nat.le_of_eq g533.symm))
      have ne535 : b511 ≠ b533 := Nat.ne_of_lt (Nat.lt_of_lt_of_le (V519).lt (Nat.le_of_eq g533.symm))
      have g_b533 : n0 ≤ b533 := Nat.le_trans Z520 (Nat.le_of_eq g533.symm)
      have Z536 : n0 ≤ h533.size := Nat.le_trans Z520 E533.1
      have F537 : Old Z n0 h533 := Old.ext F521 E533
      have F538 : Exa Z h533 b247 "java/lang/String" := (F522).ext E533
      have F539 : Sta Z h533 "com/example/pen_over_wire/penoverwire/model/Role" "AUDITOR" "Lcom/example/pen_over_wire/penoverwire/model/Role;" (.ref aU) := Sta.ext E533 F523
      have F540 : Arv Z h533 b511 c511 .byte (1 : Int32) [(.int (nar .byte (((p0.toUInt32 >>> ((16 : Int32) &&& 31).toUInt32).toInt32).toInt8.toInt32)))] (.int (0 : Int32)) := (V519).ext E533
      have F541 : Fld Z h533 b533 "com/example/pen_over_wire/penoverwire/model/FailedAttempts" "count" "I" (.int (0 : Int32)) := D533 (Or.inr (hw _ (List.mem_of_getElem? (i := 46) rfl))) (ty := .int) (by decide)
      have F542 : Fld Z h533 b533 "com/example/pen_over_wire/penoverwire/model/FailedAttempts" "lockRecorded" "Z" (.int (0 : Int32)) := D533 (Or.inr (hw _ (List.mem_of_getElem? (i := 48) rfl))) (ty := .boolean) (by decide)
      have k543 : ∀ t, Steps p.tables e below (T533.setTop (mkF m 125 #[.val (.int p0), .val (.int p1), .val (.long p2), .second, .val (.int p3), .val (.long p4), .second, .val (.ref b233), .val (.ref b247), .val (.int ((p1 &&& (255 : Int32)) % (3 : Int32))), .val (.ref aU), .val (.ref b511), .val (.int d12), .val (.int d13), .unset, .unset, .unset] [(.ref b533)])) t → Steps p.tables e below (s₁.setTop (entryFrame m #[(.int p0), (.int p1), (.long p2), (.int p3), (.long p4)] maxLocals)) t := fun t k => k532 t (st533 t k)
      have k544 : ∀ t, Steps p.tables e below (T533.setTop (mkF m 130 #[.val (.int p0), .val (.int p1), .val (.long p2), .second, .val (.int p3), .val (.long p4), .second, .val (.ref b233), .val (.ref b247), .val (.int ((p1 &&& (255 : Int32)) % (3 : Int32))), .val (.ref aU), .val (.ref b511), .val (.int d12), .val (.int d13), .unset, .unset, .unset] [(.int d13), (.int p3), (.ref b533), (.ref b533)])) t → Steps p.tables e below (s₁.setTop (entryFrame m #[(.int p0), (.int p1), (.long p2), (.int p3), (.long p4)] maxLocals)) t := fun t k => k543 t (by
        show Steps p.tables e below (T533.setTop (mkF m 125 #[.val (.int p0), .val (.int p1), .val (.long p2), .second, .val (.int p3), .val (.long p4), .second, .val (.ref b233), .val (.ref b247), .val (.int ((p1 &&& (255 : Int32)) % (3 : Int32))), .val (.ref aU), .val (.ref b511), .val (.int d12), .val (.int d13), .unset, .unset, .unset] [(.ref b533)])) _
        refine XS.dup X533.here hx rfl (hb hby at_125) rfl rfl ?_
        show Steps p.tables e below (T533.setTop (mkF m 126 #[.val (.int p0), .val (.int p1), .val (.long p2), .second, .val (.int p3), .val (.long p4), .second, .val (.ref b233), .val (.ref b247), .val (.int ((p1 &&& (255 : Int32)) % (3 : Int32))), .val (.ref aU), .val (.ref b511), .val (.int d12), .val (.int d13), .unset, .unset, .unset] [(.ref b533), (.ref b533)])) _
        refine XS.iload X533.here hx rfl (hb hby at_126) rfl ?_
        show Steps p.tables e below (T533.setTop (mkF m 128 #[.val (.int p0), .val (.int p1), .val (.long p2), .second, .val (.int p3), .val (.long p4), .second, .val (.ref b233), .val (.ref b247), .val (.int ((p1 &&& (255 : Int32)) % (3 : Int32))), .val (.ref aU), .val (.ref b511), .val (.int d12), .val (.int d13), .unset, .unset, .unset] [(.int p3), (.ref b533), (.ref b533)])) _
        refine XS.iload X533.here hx rfl (hb hby at_128) rfl ?_
        exact k)
      obtain ⟨_, _, ⟨T545, L545, kc545, ks545⟩, -, X545, ⟨Lc545, hQ545, l545, y545, z545⟩, st545⟩ := X533.specialBack hx (y := (⟨"com/example/pen_over_wire/penoverwire/model/FailedAttempts", "<init>", "(IZ)V"⟩ : MethodName)) rfl hown (mvT hZ (hw _ (List.mem_of_getElem? (i := 36) rfl))) (mvT hZ (hw _ (List.mem_of_getElem? (i := 37) rfl))) (mvT hZ (hw _ (List.mem_of_getElem? (i := 38) rfl))) (by decide) (backOf (W := 1) (rm7 l Z a0 hw [] b533 p3 d13 h533 n0 Z536 F541 F542 A533 g_b533 h_d13) hZ (hw _ (List.mem_of_getElem? (i := 38) rfl)) (hw _ (List.mem_of_getElem? (i := 35) rfl)) (by decide) (by decide)) (g := (mkF m 130 #[.val (.int p0), .val (.int p1), .val (.long p2), .second, .val (.int p3), .val (.long p4), .second, .val (.ref b233), .val (.ref b247), .val (.int ((p1 &&& (255 : Int32)) % (3 : Int32))), .val (.ref aU), .val (.ref b511), .val (.int d12), .val (.int d13), .unset, .unset, .unset] [(.int d13), (.int p3), (.ref b533), (.ref b533)])) rfl (by rw [hml]; rfl) (Steps.refl _) (a := b533) (argsL := [(.int p3), (.int d13)]) (rest := [(.ref b533)]) (lenOf pd_3 rfl) rfl (by show 2 * 0 + _ ≤ _; exact Nat.le_of_eq rfl) (hb hby at_130) (fun _ _ => ⟨rfl, e533, (by decide : 5 + 0 ≤ _), (by decide : 11 + 0 ≤ _)⟩)
      dsimp only [Pt.U, Pt.locs, Pt.cells, Pt.slots] at X545 l545 y545 z545 st545 hQ545
      subst l545 y545 z545
      obtain ⟨rfl, Nq545, K545⟩ := hQ545
      have N545 := Fr.app N519 Nq545
      have Z546 : n0 ≤ T545.heap.size := Nat.le_trans Z536 K545.1
      have F547 : Old Z n0 T545.heap := Old.keep F537 K545 (allS g_b533 all0)
      have F548 : Exa Z T545.heap b247 "java/lang/String" := (F538).keep K545
      have F549 : Arv Z T545.heap b511 c511 .byte (1 : Int32) [(.int (nar .byte (((p0.toUInt32 >>> ((16 : Int32) &&& 31).toUInt32).toInt32).toInt8.toInt32)))] (.int (0 : Int32)) := (F540).keep K545 (ninS ne535 nin0)
      have F550 : Exa Z T545.heap b533 "com/example/pen_over_wire/penoverwire/model/FailedAttempts" := (A533).keep K545
      have k551 : ∀ t, Steps p.tables e below (T545.setTop (mkF m 133 #[.val (.int p0), .val (.int p1), .val (.long p2), .second, .val (.int p3), .val (.long p4), .second, .val (.ref b233), .val (.ref b247), .val (.int ((p1 &&& (255 : Int32)) % (3 : Int32))), .val (.ref aU), .val (.ref b511), .val (.int d12), .val (.int d13), .unset, .unset, .unset] [(.ref b533)])) t → Steps p.tables e below (s₁.setTop (entryFrame m #[(.int p0), (.int p1), (.long p2), (.int p3), (.long p4)] maxLocals)) t := fun t k => k544 t (st545.trans k)
      have k552 : ∀ t, Steps p.tables e below (T545.setTop (mkF m 135 #[.val (.int p0), .val (.int p1), .val (.long p2), .second, .val (.int p3), .val (.long p4), .second, .val (.ref b233), .val (.ref b247), .val (.int ((p1 &&& (255 : Int32)) % (3 : Int32))), .val (.ref aU), .val (.ref b511), .val (.int d12), .val (.int d13), .val (.ref b533), .unset, .unset] [])) t → Steps p.tables e below (s₁.setTop (entryFrame m #[(.int p0), (.int p1), (.long p2), (.int p3), (.long p4)] maxLocals)) t := fun t k => k551 t (by
        show Steps p.tables e below (T545.setTop (mkF m 133 #[.val (.int p0), .val (.int p1), .val (.long p2), .second, .val (.int p3), .val (.long p4), .second, .val (.ref b233), .val (.ref b247), .val (.int ((p1 &&& (255 : Int32)) % (3 : Int32))), .val (.ref aU), .val (.ref b511), .val (.int d12), .val (.int d13), .unset, .unset, .unset] [(.ref b533)])) _
        refine XS.astore X545.here hx rfl (hb hby at_133) rfl rfl (l' := #[.val (.int p0), .val (.int p1), .val (.long p2), .second, .val (.int p3), .val (.long p4), .second, .val (.ref b233), .val (.ref b247), .val (.int ((p1 &&& (255 : Int32)) % (3 : Int32))), .val (.ref aU), .val (.ref b511), .val (.int d12), .val (.int d13), .val (.ref b533), .unset, .unset]) rfl ?_
        exact k)
      obtain ⟨T553, h553, X553, e553, E553, A553, D553, -, st553⟩ := newO X545 hx hZ hown (hw _ (List.mem_of_getElem? (i := 49) rfl)) (hw _ (List.mem_of_getElem? (i := 50) rfl)) (hw _ (List.mem_of_getElem? (i := 51) rfl)) rfl (g := (mkF m 135 #[.val (.int p0), .val (.int p1), .val (.long p2), .second, .val (.int p3), .val (.long p4), .second, .val (.ref b233), .val (.ref b247), .val (.int ((p1 &&& (255 : Int32)) % (3 : Int32))), .val (.ref aU), .val (.ref b511), .val (.int d12), .val (.int d13), .val (.ref b533), .unset, .unset] [])) rfl (hb hby at_135) (by decide) (by decide)
      obtain ⟨b553, g553⟩ : ∃ z, z = T545.heap.size := ⟨_, rfl⟩
      rw [← g553] at A553 D553 st553
      have ne554 : b247 ≠ b553 := Nat.ne_of_lt (Nat.lt_of_lt_of_le (F548).lt (Nat.le_of_eq g553.symm))
      have ne555 : b511 ≠ b553 := Nat.ne_of_lt (Nat.lt_of_lt_of_le (F549).lt (Nat.le_of_eq g553.symm))
      have ne556 : b533 ≠ b553 := Nat.ne_of_lt (Nat.lt_of_lt_of_le (F550).lt (Nat.le_of_eq g553.symm))
      have g_b553 : n0 ≤ b553 := Nat.le_trans Z546 (Nat.le_of_eq g553.symm)
      have Z557 : n0 ≤ h553.size := Nat.le_trans Z546 E553.1
      have F558 : Old Z n0 h553 := Old.ext F547 E553
      have F559 : Exa Z h553 b247 "java/lang/String" := (F548).ext E553
      have F560 : Arv Z h553 b511 c511 .byte (1 : Int32) [(.int (nar .byte (((p0.toUInt32 >>> ((16 : Int32) &&& 31).toUInt32).toInt32).toInt8.toInt32)))] (.int (0 : Int32)) := (F549).ext E553
      have F561 : Exa Z h553 b533 "com/example/pen_over_wire/penoverwire/model/FailedAttempts" := (F550).ext E553
      have F562 : Fld Z h553 b553 "com/example/pen_over_wire/penoverwire/model/User" "name" "Ljava/lang/String;" .null := D553 (Or.inr (hw _ (List.mem_of_getElem? (i := 57) rfl))) (ty := (.object "java/lang/String")) (by decide)
      have F563 : Fld Z h553 b553 "com/example/pen_over_wire/penoverwire/model/User" "role" "Lcom/example/pen_over_wire/penoverwire/model/Role;" .null := D553 (Or.inr (hw _ (List.mem_of_getElem? (i := 59) rfl))) (ty := (.object "com/example/pen_over_wire/penoverwire/model/Role")) (by decide)
      have F564 : Fld Z h553 b553 "com/example/pen_over_wire/penoverwire/model/User" "password" "Lcom/example/pen_over_wire/penoverwire/crypto/PasswordHash;" .null := D553 (Or.inr (hw _ (List.mem_of_getElem? (i := 61) rfl))) (ty := (.object "com/example/pen_over_wire/penoverwire/crypto/PasswordHash")) (by decide)
      have F565 : Fld Z h553 b553 "com/example/pen_over_wire/penoverwire/model/User" "totpSecret" "[B" .null := D553 (Or.inr (hw _ (List.mem_of_getElem? (i := 63) rfl))) (ty := (.array .byte)) (by decide)
      have F566 : Fld Z h553 b553 "com/example/pen_over_wire/penoverwire/model/User" "lastOtpStep" "J" (.long (0 : Int64)) := D553 (Or.inr (hw _ (List.mem_of_getElem? (i := 65) rfl))) (ty := .long) (by decide)
      have F567 : Fld Z h553 b553 "com/example/pen_over_wire/penoverwire/model/User" "failedLogins" "Lcom/example/pen_over_wire/penoverwire/model/FailedAttempts;" .null := D553 (Or.inr (hw _ (List.mem_of_getElem? (i := 67) rfl))) (ty := (.object "com/example/pen_over_wire/penoverwire/model/FailedAttempts")) (by decide)
      have F568 : Fld Z h553 b553 "com/example/pen_over_wire/penoverwire/model/User" "disabled" "Z" (.int (0 : Int32)) := D553 (Or.inr (hw _ (List.mem_of_getElem? (i := 69) rfl))) (ty := .boolean) (by decide)
      have F569 : Fld Z h553 b553 "com/example/pen_over_wire/penoverwire/model/User" "sessionEpoch" "J" (.long (0 : Int64)) := D553 (Or.inr (hw _ (List.mem_of_getElem? (i := 71) rfl))) (ty := .long) (by decide)
      have k570 : ∀ t, Steps p.tables e below (T553.setTop (mkF m 138 #[.val (.int p0), .val (.int p1), .val (.long p2), .second, .val (.int p3), .val (.long p4), .second, .val (.ref b233), .val (.ref b247), .val (.int ((p1 &&& (255 : Int32)) % (3 : Int32))), .val (.ref aU), .val (.ref b511), .val (.int d12), .val (.int d13), .val (.ref b533), .unset, .unset] [(.ref b553)])) t → Steps p.tables e below (s₁.setTop (entryFrame m #[(.int p0), (.int p1), (.long p2), (.int p3), (.long p4)] maxLocals)) t := fun t k => k552 t (st553 t k)
      have k571 : ∀ t, Steps p.tables e below (T553.setTop (mkF m 153 #[.val (.int p0), .val (.int p1), .val (.long p2), .second, .val (.int p3), .val (.long p4), .second, .val (.ref b233), .val (.ref b247), .val (.int ((p1 &&& (255 : Int32)) % (3 : Int32))), .val (.ref aU), .val (.ref b511), .val (.int d12), .val (.int d13), .val (.ref b533), .unset, .unset] [(.long p4), (.int d12), (.ref b533), (.long p2), (.ref b511), .null, (.ref aU), (.ref b247), (.ref b553), (.ref b553)])) t → Steps p.tables e below (s₁.setTop (entryFrame m #[(.int p0), (.int p1), (.long p2), (.int p3), (.long p4)] maxLocals)) t := fun t k => k570 t (by
        show Steps p.tables e below (T553.setTop (mkF m 138 #[.val (.int p0), .val (.int p1), .val (.long p2), .second, .val (.int p3), .val (.long p4), .second, .val (.ref b233), .val (.ref b247), .val (.int ((p1 &&& (255 : Int32)) % (3 : Int32))), .val (.ref aU), .val (.ref b511), .val (.int d12), .val (.int d13), .val (.ref b533), .unset, .unset] [(.ref b553)])) _
        refine XS.dup X553.here hx rfl (hb hby at_138) rfl rfl ?_
        show Steps p.tables e below (T553.setTop (mkF m 139 #[.val (.int p0), .val (.int p1), .val (.long p2), .second, .val (.int p3), .val (.long p4), .second, .val (.ref b233), .val (.ref b247), .val (.int ((p1 &&& (255 : Int32)) % (3 : Int32))), .val (.ref aU), .val (.ref b511), .val (.int d12), .val (.int d13), .val (.ref b533), .unset, .unset] [(.ref b553), (.ref b553)])) _
        refine XS.aload X553.here hx rfl (hb hby at_139) rfl rfl ?_
        show Steps p.tables e below (T553.setTop (mkF m 141 #[.val (.int p0), .val (.int p1), .val (.long p2), .second, .val (.int p3), .val (.long p4), .second, .val (.ref b233), .val (.ref b247), .val (.int ((p1 &&& (255 : Int32)) % (3 : Int32))), .val (.ref aU), .val (.ref b511), .val (.int d12), .val (.int d13), .val (.ref b533), .unset, .unset] [(.ref b247), (.ref b553), (.ref b553)])) _
        refine XS.aload X553.here hx rfl (hb hby at_141) rfl rfl ?_
        show Steps p.tables e below (T553.setTop (mkF m 143 #[.val (.int p0), .val (.int p1), .val (.long p2), .second, .val (.int p3), .val (.long p4), .second, .val (.ref b233), .val (.ref b247), .val (.int ((p1 &&& (255 : Int32)) % (3 : Int32))), .val (.ref aU), .val (.ref b511), .val (.int d12), .val (.int d13), .val (.ref b533), .unset, .unset] [(.ref aU), (.ref b247), (.ref b553), (.ref b553)])) _
        refine XS.aconstNull X553.here hx rfl (hb hby at_143) ?_
        show Steps p.tables e below (T553.setTop (mkF m 144 #[.val (.int p0), .val (.int p1), .val (.long p2), .second, .val (.int p3), .val (.long p4), .second, .val (.ref b233), .val (.ref b247), .val (.int ((p1 &&& (255 : Int32)) % (3 : Int32))), .val (.ref aU), .val (.ref b511), .val (.int d12), .val (.int d13), .val (.ref b533), .unset, .unset] [.null, (.ref aU), (.ref b247), (.ref b553), (.ref b553)])) _
        refine XS.aload X553.here hx rfl (hb hby at_144) rfl rfl ?_
        show Steps p.tables e below (T553.setTop (mkF m 146 #[.val (.int p0), .val (.int p1), .val (.long p2), .second, .val (.int p3), .val (.long p4), .second, .val (.ref b233), .val (.ref b247), .val (.int ((p1 &&& (255 : Int32)) % (3 : Int32))), .val (.ref aU), .val (.ref b511), .val (.int d12), .val (.int d13), .val (.ref b533), .unset, .unset] [(.ref b511), .null, (.ref aU), (.ref b247), (.ref b553), (.ref b553)])) _
        refine XS.lloadN X553.here hx rfl (hb hby at_146) rfl ?_
        show Steps p.tables e below (T553.setTop (mkF m 147 #[.val (.int p0), .val (.int p1), .val (.long p2), .second, .val (.int p3), .val (.long p4), .second, .val (.ref b233), .val (.ref b247), .val (.int ((p1 &&& (255 : Int32)) % (3 : Int32))), .val (.ref aU), .val (.ref b511), .val (.int d12), .val (.int d13), .val (.ref b533), .unset, .unset] [(.long p2), (.ref b511), .null, (.ref aU), (.ref b247), (.ref b553), (.ref b553)])) _
        refine XS.aload X553.here hx rfl (hb hby at_147) rfl rfl ?_
        show Steps p.tables e below (T553.setTop (mkF m 149 #[.val (.int p0), .val (.int p1), .val (.long p2), .second, .val (.int p3), .val (.long p4), .second, .val (.ref b233), .val (.ref b247), .val (.int ((p1 &&& (255 : Int32)) % (3 : Int32))), .val (.ref aU), .val (.ref b511), .val (.int d12), .val (.int d13), .val (.ref b533), .unset, .unset] [(.ref b533), (.long p2), (.ref b511), .null, (.ref aU), (.ref b247), (.ref b553), (.ref b553)])) _
        refine XS.iload X553.here hx rfl (hb hby at_149) rfl ?_
        show Steps p.tables e below (T553.setTop (mkF m 151 #[.val (.int p0), .val (.int p1), .val (.long p2), .second, .val (.int p3), .val (.long p4), .second, .val (.ref b233), .val (.ref b247), .val (.int ((p1 &&& (255 : Int32)) % (3 : Int32))), .val (.ref aU), .val (.ref b511), .val (.int d12), .val (.int d13), .val (.ref b533), .unset, .unset] [(.int d12), (.ref b533), (.long p2), (.ref b511), .null, (.ref aU), (.ref b247), (.ref b553), (.ref b553)])) _
        refine XS.lload X553.here hx rfl (hb hby at_151) rfl ?_
        exact k)
      obtain ⟨_, _, ⟨T572, L572, kc572, ks572⟩, -, X572, ⟨Lc572, hQ572, l572, y572, z572⟩, st572⟩ := X553.specialBack hx (y := (⟨"com/example/pen_over_wire/penoverwire/model/User", "<init>", "(Ljava/lang/String;Lcom/example/pen_over_wire/penoverwire/model/Role;Lcom/example/pen_over_wire/penoverwire/crypto/PasswordHash;[BJLcom/example/pen_over_wire/penoverwire/model/FailedAttempts;ZJ)V"⟩ : MethodName)) rfl hown (mvT hZ (hw _ (List.mem_of_getElem? (i := 52) rfl))) (mvT hZ (hw _ (List.mem_of_getElem? (i := 53) rfl))) (mvT hZ (hw _ (List.mem_of_getElem? (i := 54) rfl))) (by decide) (backOf (W := 1) (rm9 l Z a0 hw [] b553 (Value.ref b247) (Value.ref aU) Value.null (Value.ref b511) p2 (Value.ref b533) d12 p4 h553 n0 Z557 rfl rfl rfl rfl rfl h_d12 F562 F563 F564 F565 F566 F567 F568 F569 A553 g_b553) hZ (hw _ (List.mem_of_getElem? (i := 54) rfl)) (hw _ (List.mem_of_getElem? (i := 51) rfl)) (by decide) (by decide)) (g := (mkF m 153 #[.val (.int p0), .val (.int p1), .val (.long p2), .second, .val (.int p3), .val (.long p4), .second, .val (.ref b233), .val (.ref b247), .val (.int ((p1 &&& (255 : Int32)) % (3 : Int32))), .val (.ref aU), .val (.ref b511), .val (.int d12), .val (.int d13), .val (.ref b533), .unset, .unset] [(.long p4), (.int d12), (.ref b533), (.long p2), (.ref b511), .null, (.ref aU), (.ref b247), (.ref b553), (.ref b553)])) rfl (by rw [hml]; rfl) (Steps.refl _) (a := b553) (argsL := [(.ref b247), (.ref aU), .null, (.ref b511), (.long p2), (.ref b533), (.int d12), (.long p4)]) (rest := [(.ref b553)]) (lenOf pd_1 rfl) rfl (by show 2 * 0 + _ ≤ _; exact Nat.le_of_eq rfl) (hb hby at_153) (fun _ _ => ⟨rfl, e553, (by decide : 6 + 0 ≤ _), (by decide : 19 + 0 ≤ _)⟩)
      dsimp only [Pt.U, Pt.locs, Pt.cells, Pt.slots] at X572 l572 y572 z572 st572 hQ572
      subst l572 y572 z572
      obtain ⟨rfl, Nq572, K572, Ax572, Fx572_0, Fx572_1, Fx572_2, Fx572_3, Fx572_4, Fx572_5, Fx572_6, Fx572_7⟩ := hQ572
      have N572 := Fr.app N545 Nq572
      have Z573 : n0 ≤ T572.heap.size := Nat.le_trans Z557 K572.1
      have F574 : Old Z n0 T572.heap := Old.keep F558 K572 (allS g_b553 all0)
      have F575 : Exa Z T572.heap b247 "java/lang/String" := (F559).keep K572
      have F576 : Arv Z T572.heap b511 c511 .byte (1 : Int32) [(.int (nar .byte (((p0.toUInt32 >>> ((16 : Int32) &&& 31).toUInt32).toInt32).toInt8.toInt32)))] (.int (0 : Int32)) := (F560).keep K572 (ninS ne555 nin0)
      have F577 : Exa Z T572.heap b533 "com/example/pen_over_wire/penoverwire/model/FailedAttempts" := (F561).keep K572
      have F578 : Exa Z T572.heap b553 "com/example/pen_over_wire/penoverwire/model/User" := (A553).keep K572
      have k579 : ∀ t, Steps p.tables e below (T572.setTop (mkF m 156 #[.val (.int p0), .val (.int p1), .val (.long p2), .second, .val (.int p3), .val (.long p4), .second, .val (.ref b233), .val (.ref b247), .val (.int ((p1 &&& (255 : Int32)) % (3 : Int32))), .val (.ref aU), .val (.ref b511), .val (.int d12), .val (.int d13), .val (.ref b533), .unset, .unset] [(.ref b553)])) t → Steps p.tables e below (s₁.setTop (entryFrame m #[(.int p0), (.int p1), (.long p2), (.int p3), (.long p4)] maxLocals)) t := fun t k => k571 t (st572.trans k)
      have k580 : ∀ t, Steps p.tables e below (T572.setTop (mkF m 160 #[.val (.int p0), .val (.int p1), .val (.long p2), .second, .val (.int p3), .val (.long p4), .second, .val (.ref b233), .val (.ref b247), .val (.int ((p1 &&& (255 : Int32)) % (3 : Int32))), .val (.ref aU), .val (.ref b511), .val (.int d12), .val (.int d13), .val (.ref b533), .val (.ref b553), .unset] [(.ref b553)])) t → Steps p.tables e below (s₁.setTop (entryFrame m #[(.int p0), (.int p1), (.long p2), (.int p3), (.long p4)] maxLocals)) t := fun t k => k579 t (by
        show Steps p.tables e below (T572.setTop (mkF m 156 #[.val (.int p0), .val (.int p1), .val (.long p2), .second, .val (.int p3), .val (.long p4), .second, .val (.ref b233), .val (.ref b247), .val (.int ((p1 &&& (255 : Int32)) % (3 : Int32))), .val (.ref aU), .val (.ref b511), .val (.int d12), .val (.int d13), .val (.ref b533), .unset, .unset] [(.ref b553)])) _
        refine XS.astore X572.here hx rfl (hb hby at_156) rfl rfl (l' := #[.val (.int p0), .val (.int p1), .val (.long p2), .second, .val (.int p3), .val (.long p4), .second, .val (.ref b233), .val (.ref b247), .val (.int ((p1 &&& (255 : Int32)) % (3 : Int32))), .val (.ref aU), .val (.ref b511), .val (.int d12), .val (.int d13), .val (.ref b533), .val (.ref b553), .unset]) rfl ?_
        show Steps p.tables e below (T572.setTop (mkF m 158 #[.val (.int p0), .val (.int p1), .val (.long p2), .second, .val (.int p3), .val (.long p4), .second, .val (.ref b233), .val (.ref b247), .val (.int ((p1 &&& (255 : Int32)) % (3 : Int32))), .val (.ref aU), .val (.ref b511), .val (.int d12), .val (.int d13), .val (.ref b533), .val (.ref b553), .unset] [])) _
        refine XS.aload X572.here hx rfl (hb hby at_158) rfl rfl ?_
        exact k)
      obtain ⟨b581, g581⟩ : ∃ z, z = T572.heap.size := ⟨_, rfl⟩
      have ne582 : b247 ≠ b581 := Nat.ne_of_lt (Nat.lt_of_lt_of_le (F575).lt (Nat.le_of_eq g581.symm))
      have ne583 : b511 ≠ b581 := Nat.ne_of_lt (Nat.lt_of_lt_of_le (F576).lt (Nat.le_of_eq g581.symm))
      have ne584 : b533 ≠ b581 := Nat.ne_of_lt (Nat.lt_of_lt_of_le (F577).lt (Nat.le_of_eq g581.symm))
      have ne585 : b553 ≠ b581 := Nat.ne_of_lt (Nat.lt_of_lt_of_le (F578).lt (Nat.le_of_eq g581.symm))
      have g_b581 : n0 ≤ b581 := Nat.le_trans Z573 (Nat.le_of_eq g581.symm)
      obtain ⟨cq586, kq586, q586a, q586b, q586c⟩ := isOf hZ rfl F578
      obtain ⟨_, _, ⟨T586, L586, kc586, ks586⟩, -, X586, ⟨Lc586, hQ586, l586, y586, z586⟩, st586⟩ := X572.virtualBack hx (y := (⟨"com/example/pen_over_wire/penoverwire/model/User", "disable", "()Lcom/example/pen_over_wire/penoverwire/model/User;"⟩ : MethodName)) (z := (⟨"com/example/pen_over_wire/penoverwire/model/User", "disable", "()Lcom/example/pen_over_wire/penoverwire/model/User;"⟩ : MethodName)) hown (mvT hZ (hw _ (List.mem_of_getElem? (i := 72) rfl))) (mvT hZ (hw _ (List.mem_of_getElem? (i := 73) rfl))) (notFace_of_selects (args := #[]) (mvT hZ (hw _ (List.mem_of_getElem? (i := 75) rfl)))) (mvT hZ (hw _ (List.mem_of_getElem? (i := 75) rfl))) (mvT hZ (hw _ (List.mem_of_getElem? (i := 74) rfl))) (by decide) (backOf (W := 0) (rm10 l Z a0 hw [] b553 b581 (Value.ref b247) (Value.ref aU) Value.null (Value.ref b511) p2 (Value.ref b533) d12 p4 T572.heap n0 Z573 rfl rfl rfl rfl rfl Fx572_0 Fx572_1 Fx572_2 Fx572_3 Fx572_4 Fx572_5 Fx572_6 Fx572_7 F578 g581) hZ (hw _ (List.mem_of_getElem? (i := 76) rfl)) (hw _ (List.mem_of_getElem? (i := 51) rfl)) (by decide) (by decide)) q586a q586c (g := (mkF m 160 #[.val (.int p0), .val (.int p1), .val (.long p2), .second, .val (.int p3), .val (.long p4), .second, .val (.ref b233), .val (.ref b247), .val (.int ((p1 &&& (255 : Int32)) % (3 : Int32))), .val (.ref aU), .val (.ref b511), .val (.int d12), .val (.int d13), .val (.ref b533), .val (.ref b553), .unset] [(.ref b553)])) rfl (by rw [hml]; rfl) (Steps.refl _) (argsL := []) (rest := []) (lenOf pd_4 rfl) rfl (by show 2 * 0 + _ ≤ _; exact Nat.le_of_eq rfl) (hb hby at_160) (fun _ _ => ⟨rfl, rfl, (by decide : 6 + 1 ≤ _), (by decide : 19 + 8 ≤ _)⟩)
      dsimp only [Pt.U, Pt.locs, Pt.cells, Pt.slots] at X586 l586 y586 z586 st586 hQ586
      subst l586 y586 z586
      obtain ⟨rfl, Nq586, K586, Ax586, Fx586_0, Fx586_1, Fx586_2, Fx586_3, Fx586_4, Fx586_5, Fx586_6, Fx586_7⟩ := hQ586
      have N586 := Fr.app N572 Nq586
      have Z587 : n0 ≤ T586.heap.size := Nat.le_trans Z573 K586.1
      have F588 : Old Z n0 T586.heap := Old.keep F574 K586 all0
      have F589 : Exa Z T586.heap b247 "java/lang/String" := (F575).keep K586
      have F590 : Arv Z T586.heap b511 c511 .byte (1 : Int32) [(.int (nar .byte (((p0.toUInt32 >>> ((16 : Int32) &&& 31).toUInt32).toInt32).toInt8.toInt32)))] (.int (0 : Int32)) := (F576).keep K586 nin0
      have F591 : Exa Z T586.heap b533 "com/example/pen_over_wire/penoverwire/model/FailedAttempts" := (F577).keep K586
      have F592 : Exa Z T586.heap b553 "com/example/pen_over_wire/penoverwire/model/User" := (F578).keep K586
      have F593 : Fld Z T586.heap b553 "com/example/pen_over_wire/penoverwire/model/User" "name" "Ljava/lang/String;" (.ref b247) := (Fx572_0).keep K586 nin0
      have F594 : Fld Z T586.heap b553 "com/example/pen_over_wire/penoverwire/model/User" "role" "Lcom/example/pen_over_wire/penoverwire/model/Role;" (.ref aU) := (Fx572_1).keep K586 nin0
      have F595 : Fld Z T586.heap b553 "com/example/pen_over_wire/penoverwire/model/User" "password" "Lcom/example/pen_over_wire/penoverwire/crypto/PasswordHash;" .null := (Fx572_2).keep K586 nin0
      have F596 : Fld Z T586.heap b553 "com/example/pen_over_wire/penoverwire/model/User" "totpSecret" "[B" (.ref b511) := (Fx572_3).keep K586 nin0
      have F597 : Fld Z T586.heap b553 "com/example/pen_over_wire/penoverwire/model/User" "lastOtpStep" "J" (.long p2) := (Fx572_4).keep K586 nin0
      have F598 : Fld Z T586.heap b553 "com/example/pen_over_wire/penoverwire/model/User" "failedLogins" "Lcom/example/pen_over_wire/penoverwire/model/FailedAttempts;" (.ref b533) := (Fx572_5).keep K586 nin0
      have F599 : Fld Z T586.heap b553 "com/example/pen_over_wire/penoverwire/model/User" "disabled" "Z" (.int d12) := (Fx572_6).keep K586 nin0
      have F600 : Fld Z T586.heap b553 "com/example/pen_over_wire/penoverwire/model/User" "sessionEpoch" "J" (.long p4) := (Fx572_7).keep K586 nin0
      have k601 : ∀ t, Steps p.tables e below (T586.setTop (mkF m 163 #[.val (.int p0), .val (.int p1), .val (.long p2), .second, .val (.int p3), .val (.long p4), .second, .val (.ref b233), .val (.ref b247), .val (.int ((p1 &&& (255 : Int32)) % (3 : Int32))), .val (.ref aU), .val (.ref b511), .val (.int d12), .val (.int d13), .val (.ref b533), .val (.ref b553), .unset] [(.ref b581)])) t → Steps p.tables e below (s₁.setTop (entryFrame m #[(.int p0), (.int p1), (.long p2), (.int p3), (.long p4)] maxLocals)) t := fun t k => k580 t (st586.trans k)
      have k602 : ∀ t, Steps p.tables e below (T586.setTop (mkF m 167 #[.val (.int p0), .val (.int p1), .val (.long p2), .second, .val (.int p3), .val (.long p4), .second, .val (.ref b233), .val (.ref b247), .val (.int ((p1 &&& (255 : Int32)) % (3 : Int32))), .val (.ref aU), .val (.ref b511), .val (.int d12), .val (.int d13), .val (.ref b533), .val (.ref b553), .val (.ref b581)] [(.ref b581)])) t → Steps p.tables e below (s₁.setTop (entryFrame m #[(.int p0), (.int p1), (.long p2), (.int p3), (.long p4)] maxLocals)) t := fun t k => k601 t (by
        show Steps p.tables e below (T586.setTop (mkF m 163 #[.val (.int p0), .val (.int p1), .val (.long p2), .second, .val (.int p3), .val (.long p4), .second, .val (.ref b233), .val (.ref b247), .val (.int ((p1 &&& (255 : Int32)) % (3 : Int32))), .val (.ref aU), .val (.ref b511), .val (.int d12), .val (.int d13), .val (.ref b533), .val (.ref b553), .unset] [(.ref b581)])) _
        refine XS.astore X586.here hx rfl (hb hby at_163) rfl rfl (l' := #[.val (.int p0), .val (.int p1), .val (.long p2), .second, .val (.int p3), .val (.long p4), .second, .val (.ref b233), .val (.ref b247), .val (.int ((p1 &&& (255 : Int32)) % (3 : Int32))), .val (.ref aU), .val (.ref b511), .val (.int d12), .val (.int d13), .val (.ref b533), .val (.ref b553), .val (.ref b581)]) rfl ?_
        show Steps p.tables e below (T586.setTop (mkF m 165 #[.val (.int p0), .val (.int p1), .val (.long p2), .second, .val (.int p3), .val (.long p4), .second, .val (.ref b233), .val (.ref b247), .val (.int ((p1 &&& (255 : Int32)) % (3 : Int32))), .val (.ref aU), .val (.ref b511), .val (.int d12), .val (.int d13), .val (.ref b533), .val (.ref b553), .val (.ref b581)] [])) _
        refine XS.aload X586.here hx rfl (hb hby at_165) rfl rfl ?_
        exact k)
      obtain ⟨cq603, kq603, q603a, q603b, q603c⟩ := isOf hZ rfl Ax586
      obtain ⟨_, _, ⟨T603, L603, kc603, ks603⟩, -, X603, ⟨Lc603, hQ603, l603, y603, z603⟩, st603⟩ := X586.virtualBack hx (y := (⟨"com/example/pen_over_wire/penoverwire/model/User", "name", "()Ljava/lang/String;"⟩ : MethodName)) (z := (⟨"com/example/pen_over_wire/penoverwire/model/User", "name", "()Ljava/lang/String;"⟩ : MethodName)) hown (mvT hZ (hw _ (List.mem_of_getElem? (i := 79) rfl))) (mvT hZ (hw _ (List.mem_of_getElem? (i := 80) rfl))) (notFace_of_selects (args := #[]) (mvT hZ (hw _ (List.mem_of_getElem? (i := 82) rfl)))) (mvT hZ (hw _ (List.mem_of_getElem? (i := 82) rfl))) (mvT hZ (hw _ (List.mem_of_getElem? (i := 81) rfl))) (by decide) (backOf (W := 0) (rm11 l Z a0 hw [] b581 (Value.ref b247) T586.heap n0 Z587 rfl Fx586_0) hZ (hw _ (List.mem_of_getElem? (i := 83) rfl)) (hw _ (List.mem_of_getElem? (i := 51) rfl)) (by decide) (by decide)) q603a q603c (g := (mkF m 167 #[.val (.int p0), .val (.int p1), .val (.long p2), .second, .val (.int p3), .val (.long p4), .second, .val (.ref b233), .val (.ref b247), .val (.int ((p1 &&& (255 : Int32)) % (3 : Int32))), .val (.ref aU), .val (.ref b511), .val (.int d12), .val (.int d13), .val (.ref b533), .val (.ref b553), .val (.ref b581)] [(.ref b581)])) rfl (by rw [hml]; rfl) (Steps.refl _) (argsL := []) (rest := []) (lenOf pd_5 rfl) rfl (by show 2 * 0 + _ ≤ _; exact Nat.le_of_eq rfl) (hb hby at_167) (fun _ _ => ⟨rfl, rfl, (by decide : 7 + 0 ≤ _), (by decide : 27 + 0 ≤ _)⟩)
      dsimp only [Pt.U, Pt.locs, Pt.cells, Pt.slots] at X603 l603 y603 z603 st603 hQ603
      subst l603 y603 z603
      obtain ⟨rfl, Nq603, eq603⟩ := hQ603
      have N603 := Fr.app N586 Nq603
      have k604 : ∀ t, Steps p.tables e below (T603.setTop (mkF m 170 #[.val (.int p0), .val (.int p1), .val (.long p2), .second, .val (.int p3), .val (.long p4), .second, .val (.ref b233), .val (.ref b247), .val (.int ((p1 &&& (255 : Int32)) % (3 : Int32))), .val (.ref aU), .val (.ref b511), .val (.int d12), .val (.int d13), .val (.ref b533), .val (.ref b553), .val (.ref b581)] [(.ref b247)])) t → Steps p.tables e below (s₁.setTop (entryFrame m #[(.int p0), (.int p1), (.long p2), (.int p3), (.long p4)] maxLocals)) t := fun t k => k602 t (st603.trans k)
      have k605 : ∀ t, Steps p.tables e below (T603.setTop (mkF m 177 #[.val (.int p0), .val (.int p1), .val (.long p2), .second, .val (.int p3), .val (.long p4), .second, .val (.ref b233), .val (.ref b247), .val (.int ((p1 &&& (255 : Int32)) % (3 : Int32))), .val (.ref aU), .val (.ref b511), .val (.int d12), .val (.int d13), .val (.ref b533), .val (.ref b553), .val (.ref b581)] [(.ref b581)])) t → Steps p.tables e below (s₁.setTop (entryFrame m #[(.int p0), (.int p1), (.long p2), (.int p3), (.long p4)] maxLocals)) t := fun t k => k604 t (by
        show Steps p.tables e below (T603.setTop (mkF m 170 #[.val (.int p0), .val (.int p1), .val (.long p2), .second, .val (.int p3), .val (.long p4), .second, .val (.ref b233), .val (.ref b247), .val (.int ((p1 &&& (255 : Int32)) % (3 : Int32))), .val (.ref aU), .val (.ref b511), .val (.int d12), .val (.int d13), .val (.ref b533), .val (.ref b553), .val (.ref b581)] [(.ref b247)])) _
        refine XS.aload X603.here hx rfl (hb hby at_170) rfl rfl ?_
        show Steps p.tables e below (T603.setTop (mkF m 172 #[.val (.int p0), .val (.int p1), .val (.long p2), .second, .val (.int p3), .val (.long p4), .second, .val (.ref b233), .val (.ref b247), .val (.int ((p1 &&& (255 : Int32)) % (3 : Int32))), .val (.ref aU), .val (.ref b511), .val (.int d12), .val (.int d13), .val (.ref b533), .val (.ref b553), .val (.ref b581)] [(.ref b247), (.ref b247)])) _
        refine Jvm.RoadKit.acmp (g := (mkF m 172 #[.val (.int p0), .val (.int p1), .val (.long p2), .second, .val (.int p3), .val (.long p4), .second, .val (.ref b233), .val (.ref b247), .val (.int ((p1 &&& (255 : Int32)) % (3 : Int32))), .val (.ref aU), .val (.ref b511), .val (.int d12), .val (.int d13), .val (.ref b533), .val (.ref b553), .val (.ref b581)] [(.ref b247), (.ref b247)])) X603 hx rfl rfl rfl (pc0 := 172) (pc' := 175) (same := true) rfl (hb hby at_172) rfl (decide_eq_true (congrArg Value.ref (rfl : b247 = b247))) (by decide) (by decide) ?_
        show Steps p.tables e below (T603.setTop (mkF m 175 #[.val (.int p0), .val (.int p1), .val (.long p2), .second, .val (.int p3), .val (.long p4), .second, .val (.ref b233), .val (.ref b247), .val (.int ((p1 &&& (255 : Int32)) % (3 : Int32))), .val (.ref aU), .val (.ref b511), .val (.int d12), .val (.int d13), .val (.ref b533), .val (.ref b553), .val (.ref b581)] [])) _
        refine XS.aload X603.here hx rfl (hb hby at_175) rfl rfl ?_
        exact k)
      obtain ⟨cq606, kq606, q606a, q606b, q606c⟩ := isOf hZ eq603 Ax586
      obtain ⟨_, _, ⟨T606, L606, kc606, ks606⟩, -, X606, ⟨Lc606, hQ606, l606, y606, z606⟩, st606⟩ := X603.virtualBack hx (y := (⟨"com/example/pen_over_wire/penoverwire/model/User", "role", "()Lcom/example/pen_over_wire/penoverwire/model/Role;"⟩ : MethodName)) (z := (⟨"com/example/pen_over_wire/penoverwire/model/User", "role", "()Lcom/example/pen_over_wire/penoverwire/model/Role;"⟩ : MethodName)) hown (mvT hZ (hw _ (List.mem_of_getElem? (i := 84) rfl))) (mvT hZ (hw _ (List.mem_of_getElem? (i := 85) rfl))) (notFace_of_selects (args := #[]) (mvT hZ (hw _ (List.mem_of_getElem? (i := 87) rfl)))) (mvT hZ (hw _ (List.mem_of_getElem? (i := 87) rfl))) (mvT hZ (hw _ (List.mem_of_getElem? (i := 86) rfl))) (by decide) (backOf (W := 0) (rm12 l Z a0 hw [] b581 (Value.ref aU) T586.heap n0 Z587 rfl Fx586_1) hZ (hw _ (List.mem_of_getElem? (i := 88) rfl)) (hw _ (List.mem_of_getElem? (i := 51) rfl)) (by decide) (by decide)) q606a q606c (g := (mkF m 177 #[.val (.int p0), .val (.int p1), .val (.long p2), .second, .val (.int p3), .val (.long p4), .second, .val (.ref b233), .val (.ref b247), .val (.int ((p1 &&& (255 : Int32)) % (3 : Int32))), .val (.ref aU), .val (.ref b511), .val (.int d12), .val (.int d13), .val (.ref b533), .val (.ref b553), .val (.ref b581)] [(.ref b581)])) rfl (by rw [hml]; rfl) (Steps.refl _) (argsL := []) (rest := []) (lenOf pd_6 rfl) rfl (by show 2 * 0 + _ ≤ _; exact Nat.le_of_eq rfl) (hb hby at_177) (fun _ _ => ⟨rfl, eq603, (by decide : 7 + 0 ≤ _), (by decide : 27 + 0 ≤ _)⟩)
      dsimp only [Pt.U, Pt.locs, Pt.cells, Pt.slots] at X606 l606 y606 z606 st606 hQ606
      subst l606 y606 z606
      obtain ⟨rfl, Nq606, eq606⟩ := hQ606
      have N606 := Fr.app N603 Nq606
      have k607 : ∀ t, Steps p.tables e below (T606.setTop (mkF m 180 #[.val (.int p0), .val (.int p1), .val (.long p2), .second, .val (.int p3), .val (.long p4), .second, .val (.ref b233), .val (.ref b247), .val (.int ((p1 &&& (255 : Int32)) % (3 : Int32))), .val (.ref aU), .val (.ref b511), .val (.int d12), .val (.int d13), .val (.ref b533), .val (.ref b553), .val (.ref b581)] [(.ref aU)])) t → Steps p.tables e below (s₁.setTop (entryFrame m #[(.int p0), (.int p1), (.long p2), (.int p3), (.long p4)] maxLocals)) t := fun t k => k605 t (st606.trans k)
      have k608 : ∀ t, Steps p.tables e below (T606.setTop (mkF m 187 #[.val (.int p0), .val (.int p1), .val (.long p2), .second, .val (.int p3), .val (.long p4), .second, .val (.ref b233), .val (.ref b247), .val (.int ((p1 &&& (255 : Int32)) % (3 : Int32))), .val (.ref aU), .val (.ref b511), .val (.int d12), .val (.int d13), .val (.ref b533), .val (.ref b553), .val (.ref b581)] [(.ref b581)])) t → Steps p.tables e below (s₁.setTop (entryFrame m #[(.int p0), (.int p1), (.long p2), (.int p3), (.long p4)] maxLocals)) t := fun t k => k607 t (by
        show Steps p.tables e below (T606.setTop (mkF m 180 #[.val (.int p0), .val (.int p1), .val (.long p2), .second, .val (.int p3), .val (.long p4), .second, .val (.ref b233), .val (.ref b247), .val (.int ((p1 &&& (255 : Int32)) % (3 : Int32))), .val (.ref aU), .val (.ref b511), .val (.int d12), .val (.int d13), .val (.ref b533), .val (.ref b553), .val (.ref b581)] [(.ref aU)])) _
        refine XS.aload X606.here hx rfl (hb hby at_180) rfl rfl ?_
        show Steps p.tables e below (T606.setTop (mkF m 182 #[.val (.int p0), .val (.int p1), .val (.long p2), .second, .val (.int p3), .val (.long p4), .second, .val (.ref b233), .val (.ref b247), .val (.int ((p1 &&& (255 : Int32)) % (3 : Int32))), .val (.ref aU), .val (.ref b511), .val (.int d12), .val (.int d13), .val (.ref b533), .val (.ref b553), .val (.ref b581)] [(.ref aU), (.ref aU)])) _
        refine Jvm.RoadKit.acmp (g := (mkF m 182 #[.val (.int p0), .val (.int p1), .val (.long p2), .second, .val (.int p3), .val (.long p4), .second, .val (.ref b233), .val (.ref b247), .val (.int ((p1 &&& (255 : Int32)) % (3 : Int32))), .val (.ref aU), .val (.ref b511), .val (.int d12), .val (.int d13), .val (.ref b533), .val (.ref b553), .val (.ref b581)] [(.ref aU), (.ref aU)])) X606 hx rfl rfl rfl (pc0 := 182) (pc' := 185) (same := true) rfl (hb hby at_182) rfl (decide_eq_true (congrArg Value.ref (rfl : aU = aU))) (by decide) (by decide) ?_
        show Steps p.tables e below (T606.setTop (mkF m 185 #[.val (.int p0), .val (.int p1), .val (.long p2), .second, .val (.int p3), .val (.long p4), .second, .val (.ref b233), .val (.ref b247), .val (.int ((p1 &&& (255 : Int32)) % (3 : Int32))), .val (.ref aU), .val (.ref b511), .val (.int d12), .val (.int d13), .val (.ref b533), .val (.ref b553), .val (.ref b581)] [])) _
        refine XS.aload X606.here hx rfl (hb hby at_185) rfl rfl ?_
        exact k)
      obtain ⟨cq609, kq609, q609a, q609b, q609c⟩ := isOf hZ eq606 Ax586
      obtain ⟨_, _, ⟨T609, L609, kc609, ks609⟩, -, X609, ⟨Lc609, hQ609, l609, y609, z609⟩, st609⟩ := X606.virtualBack hx (y := (⟨"com/example/pen_over_wire/penoverwire/model/User", "password", "()Lcom/example/pen_over_wire/penoverwire/crypto/PasswordHash;"⟩ : MethodName)) (z := (⟨"com/example/pen_over_wire/penoverwire/model/User", "password", "()Lcom/example/pen_over_wire/penoverwire/crypto/PasswordHash;"⟩ : MethodName)) hown (mvT hZ (hw _ (List.mem_of_getElem? (i := 89) rfl))) (mvT hZ (hw _ (List.mem_of_getElem? (i := 90) rfl))) (notFace_of_selects (args := #[]) (mvT hZ (hw _ (List.mem_of_getElem? (i := 92) rfl)))) (mvT hZ (hw _ (List.mem_of_getElem? (i := 92) rfl))) (mvT hZ (hw _ (List.mem_of_getElem? (i := 91) rfl))) (by decide) (backOf (W := 0) (rm13 l Z a0 hw [] b581 Value.null T586.heap n0 Z587 rfl Fx586_2) hZ (hw _ (List.mem_of_getElem? (i := 93) rfl)) (hw _ (List.mem_of_getElem? (i := 51) rfl)) (by decide) (by decide)) q609a q609c (g := (mkF m 187 #[.val (.int p0), .val (.int p1), .val (.long p2), .second, .val (.int p3), .val (.long p4), .second, .val (.ref b233), .val (.ref b247), .val (.int ((p1 &&& (255 : Int32)) % (3 : Int32))), .val (.ref aU), .val (.ref b511), .val (.int d12), .val (.int d13), .val (.ref b533), .val (.ref b553), .val (.ref b581)] [(.ref b581)])) rfl (by rw [hml]; rfl) (Steps.refl _) (argsL := []) (rest := []) (lenOf pd_7 rfl) rfl (by show 2 * 0 + _ ≤ _; exact Nat.le_of_eq rfl) (hb hby at_187) (fun _ _ => ⟨rfl, eq606, (by decide : 7 + 0 ≤ _), (by decide : 27 + 0 ≤ _)⟩)
      dsimp only [Pt.U, Pt.locs, Pt.cells, Pt.slots] at X609 l609 y609 z609 st609 hQ609
      subst l609 y609 z609
      obtain ⟨rfl, Nq609, eq609⟩ := hQ609
      have N609 := Fr.app N606 Nq609
      have k610 : ∀ t, Steps p.tables e below (T609.setTop (mkF m 190 #[.val (.int p0), .val (.int p1), .val (.long p2), .second, .val (.int p3), .val (.long p4), .second, .val (.ref b233), .val (.ref b247), .val (.int ((p1 &&& (255 : Int32)) % (3 : Int32))), .val (.ref aU), .val (.ref b511), .val (.int d12), .val (.int d13), .val (.ref b533), .val (.ref b553), .val (.ref b581)] [.null])) t → Steps p.tables e below (s₁.setTop (entryFrame m #[(.int p0), (.int p1), (.long p2), (.int p3), (.long p4)] maxLocals)) t := fun t k => k608 t (st609.trans k)
      have k611 : ∀ t, Steps p.tables e below (T609.setTop (mkF m 195 #[.val (.int p0), .val (.int p1), .val (.long p2), .second, .val (.int p3), .val (.long p4), .second, .val (.ref b233), .val (.ref b247), .val (.int ((p1 &&& (255 : Int32)) % (3 : Int32))), .val (.ref aU), .val (.ref b511), .val (.int d12), .val (.int d13), .val (.ref b533), .val (.ref b553), .val (.ref b581)] [(.ref b581)])) t → Steps p.tables e below (s₁.setTop (entryFrame m #[(.int p0), (.int p1), (.long p2), (.int p3), (.long p4)] maxLocals)) t := fun t k => k610 t (by
        show Steps p.tables e below (T609.setTop (mkF m 190 #[.val (.int p0), .val (.int p1), .val (.long p2), .second, .val (.int p3), .val (.long p4), .second, .val (.ref b233), .val (.ref b247), .val (.int ((p1 &&& (255 : Int32)) % (3 : Int32))), .val (.ref aU), .val (.ref b511), .val (.int d12), .val (.int d13), .val (.ref b533), .val (.ref b553), .val (.ref b581)] [.null])) _
        refine XS.ifnonnullNo X609.here hx rfl (hb hby at_190) rfl ?_
        show Steps p.tables e below (T609.setTop (mkF m 193 #[.val (.int p0), .val (.int p1), .val (.long p2), .second, .val (.int p3), .val (.long p4), .second, .val (.ref b233), .val (.ref b247), .val (.int ((p1 &&& (255 : Int32)) % (3 : Int32))), .val (.ref aU), .val (.ref b511), .val (.int d12), .val (.int d13), .val (.ref b533), .val (.ref b553), .val (.ref b581)] [])) _
        refine XS.aload X609.here hx rfl (hb hby at_193) rfl rfl ?_
        exact k)
      obtain ⟨cq612, kq612, q612a, q612b, q612c⟩ := isOf hZ eq609 Ax586
      obtain ⟨_, _, ⟨T612, L612, kc612, ks612⟩, -, X612, ⟨Lc612, hQ612, l612, y612, z612⟩, st612⟩ := X609.virtualBack hx (y := (⟨"com/example/pen_over_wire/penoverwire/model/User", "totpSecret", "()[B"⟩ : MethodName)) (z := (⟨"com/example/pen_over_wire/penoverwire/model/User", "totpSecret", "()[B"⟩ : MethodName)) hown (mvT hZ (hw _ (List.mem_of_getElem? (i := 94) rfl))) (mvT hZ (hw _ (List.mem_of_getElem? (i := 95) rfl))) (notFace_of_selects (args := #[]) (mvT hZ (hw _ (List.mem_of_getElem? (i := 97) rfl)))) (mvT hZ (hw _ (List.mem_of_getElem? (i := 97) rfl))) (mvT hZ (hw _ (List.mem_of_getElem? (i := 96) rfl))) (by decide) (backOf (W := 0) (rm14 l Z a0 hw [] b581 (Value.ref b511) T586.heap n0 Z587 rfl Fx586_3) hZ (hw _ (List.mem_of_getElem? (i := 98) rfl)) (hw _ (List.mem_of_getElem? (i := 51) rfl)) (by decide) (by decide)) q612a q612c (g := (mkF m 195 #[.val (.int p0), .val (.int p1), .val (.long p2), .second, .val (.int p3), .val (.long p4), .second, .val (.ref b233), .val (.ref b247), .val (.int ((p1 &&& (255 : Int32)) % (3 : Int32))), .val (.ref aU), .val (.ref b511), .val (.int d12), .val (.int d13), .val (.ref b533), .val (.ref b553), .val (.ref b581)] [(.ref b581)])) rfl (by rw [hml]; rfl) (Steps.refl _) (argsL := []) (rest := []) (lenOf pd_8 rfl) rfl (by show 2 * 0 + _ ≤ _; exact Nat.le_of_eq rfl) (hb hby at_195) (fun _ _ => ⟨rfl, eq609, (by decide : 7 + 0 ≤ _), (by decide : 27 + 0 ≤ _)⟩)
      dsimp only [Pt.U, Pt.locs, Pt.cells, Pt.slots] at X612 l612 y612 z612 st612 hQ612
      subst l612 y612 z612
      obtain ⟨rfl, Nq612, eq612⟩ := hQ612
      have N612 := Fr.app N609 Nq612
      have k613 : ∀ t, Steps p.tables e below (T612.setTop (mkF m 198 #[.val (.int p0), .val (.int p1), .val (.long p2), .second, .val (.int p3), .val (.long p4), .second, .val (.ref b233), .val (.ref b247), .val (.int ((p1 &&& (255 : Int32)) % (3 : Int32))), .val (.ref aU), .val (.ref b511), .val (.int d12), .val (.int d13), .val (.ref b533), .val (.ref b553), .val (.ref b581)] [(.ref b511)])) t → Steps p.tables e below (s₁.setTop (entryFrame m #[(.int p0), (.int p1), (.long p2), (.int p3), (.long p4)] maxLocals)) t := fun t k => k611 t (st612.trans k)
      have k614 : ∀ t, Steps p.tables e below (T612.setTop (mkF m 205 #[.val (.int p0), .val (.int p1), .val (.long p2), .second, .val (.int p3), .val (.long p4), .second, .val (.ref b233), .val (.ref b247), .val (.int ((p1 &&& (255 : Int32)) % (3 : Int32))), .val (.ref aU), .val (.ref b511), .val (.int d12), .val (.int d13), .val (.ref b533), .val (.ref b553), .val (.ref b581)] [(.ref b581)])) t → Steps p.tables e below (s₁.setTop (entryFrame m #[(.int p0), (.int p1), (.long p2), (.int p3), (.long p4)] maxLocals)) t := fun t k => k613 t (by
        show Steps p.tables e below (T612.setTop (mkF m 198 #[.val (.int p0), .val (.int p1), .val (.long p2), .second, .val (.int p3), .val (.long p4), .second, .val (.ref b233), .val (.ref b247), .val (.int ((p1 &&& (255 : Int32)) % (3 : Int32))), .val (.ref aU), .val (.ref b511), .val (.int d12), .val (.int d13), .val (.ref b533), .val (.ref b553), .val (.ref b581)] [(.ref b511)])) _
        refine XS.aload X612.here hx rfl (hb hby at_198) rfl rfl ?_
        show Steps p.tables e below (T612.setTop (mkF m 200 #[.val (.int p0), .val (.int p1), .val (.long p2), .second, .val (.int p3), .val (.long p4), .second, .val (.ref b233), .val (.ref b247), .val (.int ((p1 &&& (255 : Int32)) % (3 : Int32))), .val (.ref aU), .val (.ref b511), .val (.int d12), .val (.int d13), .val (.ref b533), .val (.ref b553), .val (.ref b581)] [(.ref b511), (.ref b511)])) _
        refine Jvm.RoadKit.acmp (g := (mkF m 200 #[.val (.int p0), .val (.int p1), .val (.long p2), .second, .val (.int p3), .val (.long p4), .second, .val (.ref b233), .val (.ref b247), .val (.int ((p1 &&& (255 : Int32)) % (3 : Int32))), .val (.ref aU), .val (.ref b511), .val (.int d12), .val (.int d13), .val (.ref b533), .val (.ref b553), .val (.ref b581)] [(.ref b511), (.ref b511)])) X612 hx rfl rfl rfl (pc0 := 200) (pc' := 203) (same := true) rfl (hb hby at_200) rfl (decide_eq_true (congrArg Value.ref (rfl : b511 = b511))) (by decide) (by decide) ?_
        show Steps p.tables e below (T612.setTop (mkF m 203 #[.val (.int p0), .val (.int p1), .val (.long p2), .second, .val (.int p3), .val (.long p4), .second, .val (.ref b233), .val (.ref b247), .val (.int ((p1 &&& (255 : Int32)) % (3 : Int32))), .val (.ref aU), .val (.ref b511), .val (.int d12), .val (.int d13), .val (.ref b533), .val (.ref b553), .val (.ref b581)] [])) _
        refine XS.aload X612.here hx rfl (hb hby at_203) rfl rfl ?_
        exact k)
      obtain ⟨cq615, kq615, q615a, q615b, q615c⟩ := isOf hZ eq612 Ax586
      obtain ⟨_, _, ⟨T615, L615, kc615, ks615⟩, -, X615, ⟨Lc615, hQ615, l615, y615, z615⟩, st615⟩ := X612.virtualBack hx (y := (⟨"com/example/pen_over_wire/penoverwire/model/User", "lastOtpStep", "()J"⟩ : MethodName)) (z := (⟨"com/example/pen_over_wire/penoverwire/model/User", "lastOtpStep", "()J"⟩ : MethodName)) hown (mvT hZ (hw _ (List.mem_of_getElem? (i := 99) rfl))) (mvT hZ (hw _ (List.mem_of_getElem? (i := 100) rfl))) (notFace_of_selects (args := #[]) (mvT hZ (hw _ (List.mem_of_getElem? (i := 102) rfl)))) (mvT hZ (hw _ (List.mem_of_getElem? (i := 102) rfl))) (mvT hZ (hw _ (List.mem_of_getElem? (i := 101) rfl))) (by decide) (backOf (W := 0) (rm15 l Z a0 hw [] b581 p2 T586.heap n0 Z587  Fx586_4) hZ (hw _ (List.mem_of_getElem? (i := 103) rfl)) (hw _ (List.mem_of_getElem? (i := 51) rfl)) (by decide) (by decide)) q615a q615c (g := (mkF m 205 #[.val (.int p0), .val (.int p1), .val (.long p2), .second, .val (.int p3), .val (.long p4), .second, .val (.ref b233), .val (.ref b247), .val (.int ((p1 &&& (255 : Int32)) % (3 : Int32))), .val (.ref aU), .val (.ref b511), .val (.int d12), .val (.int d13), .val (.ref b533), .val (.ref b553), .val (.ref b581)] [(.ref b581)])) rfl (by rw [hml]; rfl) (Steps.refl _) (argsL := []) (rest := []) (lenOf pd_9 rfl) rfl (by show 2 * 0 + _ ≤ _; exact Nat.le_of_eq rfl) (hb hby at_205) (fun _ _ => ⟨rfl, eq612, (by decide : 7 + 0 ≤ _), (by decide : 27 + 0 ≤ _)⟩)
      dsimp only [Pt.U, Pt.locs, Pt.cells, Pt.slots] at X615 l615 y615 z615 st615 hQ615
      subst l615 y615 z615
      obtain ⟨rfl, Nq615, eq615⟩ := hQ615
      have N615 := Fr.app N612 Nq615
      have k616 : ∀ t, Steps p.tables e below (T615.setTop (mkF m 208 #[.val (.int p0), .val (.int p1), .val (.long p2), .second, .val (.int p3), .val (.long p4), .second, .val (.ref b233), .val (.ref b247), .val (.int ((p1 &&& (255 : Int32)) % (3 : Int32))), .val (.ref aU), .val (.ref b511), .val (.int d12), .val (.int d13), .val (.ref b533), .val (.ref b553), .val (.ref b581)] [(.long p2)])) t → Steps p.tables e below (s₁.setTop (entryFrame m #[(.int p0), (.int p1), (.long p2), (.int p3), (.long p4)] maxLocals)) t := fun t k => k614 t (st615.trans k)
      have k617 : ∀ t, Steps p.tables e below (T615.setTop (mkF m 215 #[.val (.int p0), .val (.int p1), .val (.long p2), .second, .val (.int p3), .val (.long p4), .second, .val (.ref b233), .val (.ref b247), .val (.int ((p1 &&& (255 : Int32)) % (3 : Int32))), .val (.ref aU), .val (.ref b511), .val (.int d12), .val (.int d13), .val (.ref b533), .val (.ref b553), .val (.ref b581)] [(.ref b581)])) t → Steps p.tables e below (s₁.setTop (entryFrame m #[(.int p0), (.int p1), (.long p2), (.int p3), (.long p4)] maxLocals)) t := fun t k => k616 t (by
        show Steps p.tables e below (T615.setTop (mkF m 208 #[.val (.int p0), .val (.int p1), .val (.long p2), .second, .val (.int p3), .val (.long p4), .second, .val (.ref b233), .val (.ref b247), .val (.int ((p1 &&& (255 : Int32)) % (3 : Int32))), .val (.ref aU), .val (.ref b511), .val (.int d12), .val (.int d13), .val (.ref b533), .val (.ref b553), .val (.ref b581)] [(.long p2)])) _
        refine XS.lloadN X615.here hx rfl (hb hby at_208) rfl ?_
        show Steps p.tables e below (T615.setTop (mkF m 209 #[.val (.int p0), .val (.int p1), .val (.long p2), .second, .val (.int p3), .val (.long p4), .second, .val (.ref b233), .val (.ref b247), .val (.int ((p1 &&& (255 : Int32)) % (3 : Int32))), .val (.ref aU), .val (.ref b511), .val (.int d12), .val (.int d13), .val (.ref b533), .val (.ref b553), .val (.ref b581)] [(.long p2), (.long p2)])) _
        refine XS.lcmp X615.here hx rfl (hb hby at_209) rfl ?_
        show Steps p.tables e below (T615.setTop (mkF m 210 #[.val (.int p0), .val (.int p1), .val (.long p2), .second, .val (.int p3), .val (.long p4), .second, .val (.ref b233), .val (.ref b247), .val (.int ((p1 &&& (255 : Int32)) % (3 : Int32))), .val (.ref aU), .val (.ref b511), .val (.int d12), .val (.int d13), .val (.ref b533), .val (.ref b553), .val (.ref b581)] [(.int (lcmpW p2 p2))])) _
        refine XS.ifNo X615.here hx rfl (hb hby at_210) rfl ((if0 _ _).trans (teq ((lw_eq _ _).mpr rfl)).2) ?_
        show Steps p.tables e below (T615.setTop (mkF m 213 #[.val (.int p0), .val (.int p1), .val (.long p2), .second, .val (.int p3), .val (.long p4), .second, .val (.ref b233), .val (.ref b247), .val (.int ((p1 &&& (255 : Int32)) % (3 : Int32))), .val (.ref aU), .val (.ref b511), .val (.int d12), .val (.int d13), .val (.ref b533), .val (.ref b553), .val (.ref b581)] [])) _
        refine XS.aload X615.here hx rfl (hb hby at_213) rfl rfl ?_
        exact k)
      obtain ⟨cq618, kq618, q618a, q618b, q618c⟩ := isOf hZ eq615 Ax586
      obtain ⟨_, _, ⟨T618, L618, kc618, ks618⟩, -, X618, ⟨Lc618, hQ618, l618, y618, z618⟩, st618⟩ := X615.virtualBack hx (y := (⟨"com/example/pen_over_wire/penoverwire/model/User", "failedLogins", "()Lcom/example/pen_over_wire/penoverwire/model/FailedAttempts;"⟩ : MethodName)) (z := (⟨"com/example/pen_over_wire/penoverwire/model/User", "failedLogins", "()Lcom/example/pen_over_wire/penoverwire/model/FailedAttempts;"⟩ : MethodName)) hown (mvT hZ (hw _ (List.mem_of_getElem? (i := 104) rfl))) (mvT hZ (hw _ (List.mem_of_getElem? (i := 105) rfl))) (notFace_of_selects (args := #[]) (mvT hZ (hw _ (List.mem_of_getElem? (i := 107) rfl)))) (mvT hZ (hw _ (List.mem_of_getElem? (i := 107) rfl))) (mvT hZ (hw _ (List.mem_of_getElem? (i := 106) rfl))) (by decide) (backOf (W := 0) (rm16 l Z a0 hw [] b581 (Value.ref b533) T586.heap n0 Z587 rfl Fx586_5) hZ (hw _ (List.mem_of_getElem? (i := 108) rfl)) (hw _ (List.mem_of_getElem? (i := 51) rfl)) (by decide) (by decide)) q618a q618c (g := (mkF m 215 #[.val (.int p0), .val (.int p1), .val (.long p2), .second, .val (.int p3), .val (.long p4), .second, .val (.ref b233), .val (.ref b247), .val (.int ((p1 &&& (255 : Int32)) % (3 : Int32))), .val (.ref aU), .val (.ref b511), .val (.int d12), .val (.int d13), .val (.ref b533), .val (.ref b553), .val (.ref b581)] [(.ref b581)])) rfl (by rw [hml]; rfl) (Steps.refl _) (argsL := []) (rest := []) (lenOf pd_10 rfl) rfl (by show 2 * 0 + _ ≤ _; exact Nat.le_of_eq rfl) (hb hby at_215) (fun _ _ => ⟨rfl, eq615, (by decide : 7 + 0 ≤ _), (by decide : 27 + 0 ≤ _)⟩)
      dsimp only [Pt.U, Pt.locs, Pt.cells, Pt.slots] at X618 l618 y618 z618 st618 hQ618
      subst l618 y618 z618
      obtain ⟨rfl, Nq618, eq618⟩ := hQ618
      have N618 := Fr.app N615 Nq618
      have k619 : ∀ t, Steps p.tables e below (T618.setTop (mkF m 218 #[.val (.int p0), .val (.int p1), .val (.long p2), .second, .val (.int p3), .val (.long p4), .second, .val (.ref b233), .val (.ref b247), .val (.int ((p1 &&& (255 : Int32)) % (3 : Int32))), .val (.ref aU), .val (.ref b511), .val (.int d12), .val (.int d13), .val (.ref b533), .val (.ref b553), .val (.ref b581)] [(.ref b533)])) t → Steps p.tables e below (s₁.setTop (entryFrame m #[(.int p0), (.int p1), (.long p2), (.int p3), (.long p4)] maxLocals)) t := fun t k => k617 t (st618.trans k)
      have k620 : ∀ t, Steps p.tables e below (T618.setTop (mkF m 225 #[.val (.int p0), .val (.int p1), .val (.long p2), .second, .val (.int p3), .val (.long p4), .second, .val (.ref b233), .val (.ref b247), .val (.int ((p1 &&& (255 : Int32)) % (3 : Int32))), .val (.ref aU), .val (.ref b511), .val (.int d12), .val (.int d13), .val (.ref b533), .val (.ref b553), .val (.ref b581)] [(.ref b581)])) t → Steps p.tables e below (s₁.setTop (entryFrame m #[(.int p0), (.int p1), (.long p2), (.int p3), (.long p4)] maxLocals)) t := fun t k => k619 t (by
        show Steps p.tables e below (T618.setTop (mkF m 218 #[.val (.int p0), .val (.int p1), .val (.long p2), .second, .val (.int p3), .val (.long p4), .second, .val (.ref b233), .val (.ref b247), .val (.int ((p1 &&& (255 : Int32)) % (3 : Int32))), .val (.ref aU), .val (.ref b511), .val (.int d12), .val (.int d13), .val (.ref b533), .val (.ref b553), .val (.ref b581)] [(.ref b533)])) _
        refine XS.aload X618.here hx rfl (hb hby at_218) rfl rfl ?_
        show Steps p.tables e below (T618.setTop (mkF m 220 #[.val (.int p0), .val (.int p1), .val (.long p2), .second, .val (.int p3), .val (.long p4), .second, .val (.ref b233), .val (.ref b247), .val (.int ((p1 &&& (255 : Int32)) % (3 : Int32))), .val (.ref aU), .val (.ref b511), .val (.int d12), .val (.int d13), .val (.ref b533), .val (.ref b553), .val (.ref b581)] [(.ref b533), (.ref b533)])) _
        refine Jvm.RoadKit.acmp (g := (mkF m 220 #[.val (.int p0), .val (.int p1), .val (.long p2), .second, .val (.int p3), .val (.long p4), .second, .val (.ref b233), .val (.ref b247), .val (.int ((p1 &&& (255 : Int32)) % (3 : Int32))), .val (.ref aU), .val (.ref b511), .val (.int d12), .val (.int d13), .val (.ref b533), .val (.ref b553), .val (.ref b581)] [(.ref b533), (.ref b533)])) X618 hx rfl rfl rfl (pc0 := 220) (pc' := 223) (same := true) rfl (hb hby at_220) rfl (decide_eq_true (congrArg Value.ref (rfl : b533 = b533))) (by decide) (by decide) ?_
        show Steps p.tables e below (T618.setTop (mkF m 223 #[.val (.int p0), .val (.int p1), .val (.long p2), .second, .val (.int p3), .val (.long p4), .second, .val (.ref b233), .val (.ref b247), .val (.int ((p1 &&& (255 : Int32)) % (3 : Int32))), .val (.ref aU), .val (.ref b511), .val (.int d12), .val (.int d13), .val (.ref b533), .val (.ref b553), .val (.ref b581)] [])) _
        refine XS.aload X618.here hx rfl (hb hby at_223) rfl rfl ?_
        exact k)
      obtain ⟨cq621, kq621, q621a, q621b, q621c⟩ := isOf hZ eq618 Ax586
      obtain ⟨_, _, ⟨T621, L621, kc621, ks621⟩, -, X621, ⟨Lc621, hQ621, l621, y621, z621⟩, st621⟩ := X618.virtualBack hx (y := (⟨"com/example/pen_over_wire/penoverwire/model/User", "disabled", "()Z"⟩ : MethodName)) (z := (⟨"com/example/pen_over_wire/penoverwire/model/User", "disabled", "()Z"⟩ : MethodName)) hown (mvT hZ (hw _ (List.mem_of_getElem? (i := 109) rfl))) (mvT hZ (hw _ (List.mem_of_getElem? (i := 110) rfl))) (notFace_of_selects (args := #[]) (mvT hZ (hw _ (List.mem_of_getElem? (i := 112) rfl)))) (mvT hZ (hw _ (List.mem_of_getElem? (i := 112) rfl))) (mvT hZ (hw _ (List.mem_of_getElem? (i := 111) rfl))) (by decide) (backOf (W := 0) (rm17 l Z a0 hw [] b581 (1 : Int32) T586.heap n0 Z587 (Or.inr rfl) Fx586_6) hZ (hw _ (List.mem_of_getElem? (i := 113) rfl)) (hw _ (List.mem_of_getElem? (i := 51) rfl)) (by decide) (by decide)) q621a q621c (g := (mkF m 225 #[.val (.int p0), .val (.int p1), .val (.long p2), .second, .val (.int p3), .val (.long p4), .second, .val (.ref b233), .val (.ref b247), .val (.int ((p1 &&& (255 : Int32)) % (3 : Int32))), .val (.ref aU), .val (.ref b511), .val (.int d12), .val (.int d13), .val (.ref b533), .val (.ref b553), .val (.ref b581)] [(.ref b581)])) rfl (by rw [hml]; rfl) (Steps.refl _) (argsL := []) (rest := []) (lenOf pd_11 rfl) rfl (by show 2 * 0 + _ ≤ _; exact Nat.le_of_eq rfl) (hb hby at_225) (fun _ _ => ⟨rfl, eq618, (by decide : 7 + 0 ≤ _), (by decide : 27 + 0 ≤ _)⟩)
      dsimp only [Pt.U, Pt.locs, Pt.cells, Pt.slots] at X621 l621 y621 z621 st621 hQ621
      subst l621 y621 z621
      obtain ⟨rfl, Nq621, eq621⟩ := hQ621
      have N621 := Fr.app N618 Nq621
      have k622 : ∀ t, Steps p.tables e below (T621.setTop (mkF m 228 #[.val (.int p0), .val (.int p1), .val (.long p2), .second, .val (.int p3), .val (.long p4), .second, .val (.ref b233), .val (.ref b247), .val (.int ((p1 &&& (255 : Int32)) % (3 : Int32))), .val (.ref aU), .val (.ref b511), .val (.int d12), .val (.int d13), .val (.ref b533), .val (.ref b553), .val (.ref b581)] [(.int (1 : Int32))])) t → Steps p.tables e below (s₁.setTop (entryFrame m #[(.int p0), (.int p1), (.long p2), (.int p3), (.long p4)] maxLocals)) t := fun t k => k620 t (st621.trans k)
      have k623 : ∀ t, Steps p.tables e below (T621.setTop (mkF m 233 #[.val (.int p0), .val (.int p1), .val (.long p2), .second, .val (.int p3), .val (.long p4), .second, .val (.ref b233), .val (.ref b247), .val (.int ((p1 &&& (255 : Int32)) % (3 : Int32))), .val (.ref aU), .val (.ref b511), .val (.int d12), .val (.int d13), .val (.ref b533), .val (.ref b553), .val (.ref b581)] [(.ref b581)])) t → Steps p.tables e below (s₁.setTop (entryFrame m #[(.int p0), (.int p1), (.long p2), (.int p3), (.long p4)] maxLocals)) t := fun t k => k622 t (by
        show Steps p.tables e below (T621.setTop (mkF m 228 #[.val (.int p0), .val (.int p1), .val (.long p2), .second, .val (.int p3), .val (.long p4), .second, .val (.ref b233), .val (.ref b247), .val (.int ((p1 &&& (255 : Int32)) % (3 : Int32))), .val (.ref aU), .val (.ref b511), .val (.int d12), .val (.int d13), .val (.ref b533), .val (.ref b553), .val (.ref b581)] [(.int (1 : Int32))])) _
        refine XS.ifNo X621.here hx rfl (hb hby at_228) rfl ((if0 _ _).trans (feq (by decide : ¬ ((1 : Int32) = (0 : Int32)))).1) ?_
        show Steps p.tables e below (T621.setTop (mkF m 231 #[.val (.int p0), .val (.int p1), .val (.long p2), .second, .val (.int p3), .val (.long p4), .second, .val (.ref b233), .val (.ref b247), .val (.int ((p1 &&& (255 : Int32)) % (3 : Int32))), .val (.ref aU), .val (.ref b511), .val (.int d12), .val (.int d13), .val (.ref b533), .val (.ref b553), .val (.ref b581)] [])) _
        refine XS.aload X621.here hx rfl (hb hby at_231) rfl rfl ?_
        exact k)
      obtain ⟨cq624, kq624, q624a, q624b, q624c⟩ := isOf hZ eq621 Ax586
      obtain ⟨_, _, ⟨T624, L624, kc624, ks624⟩, -, X624, ⟨Lc624, hQ624, l624, y624, z624⟩, st624⟩ := X621.virtualBack hx (y := (⟨"com/example/pen_over_wire/penoverwire/model/User", "sessionEpoch", "()J"⟩ : MethodName)) (z := (⟨"com/example/pen_over_wire/penoverwire/model/User", "sessionEpoch", "()J"⟩ : MethodName)) hown (mvT hZ (hw _ (List.mem_of_getElem? (i := 114) rfl))) (mvT hZ (hw _ (List.mem_of_getElem? (i := 115) rfl))) (notFace_of_selects (args := #[]) (mvT hZ (hw _ (List.mem_of_getElem? (i := 117) rfl)))) (mvT hZ (hw _ (List.mem_of_getElem? (i := 117) rfl))) (mvT hZ (hw _ (List.mem_of_getElem? (i := 116) rfl))) (by decide) (backOf (W := 0) (rm18 l Z a0 hw [] b581 (p4 + (1 : Int64)) T586.heap n0 Z587  Fx586_7) hZ (hw _ (List.mem_of_getElem? (i := 118) rfl)) (hw _ (List.mem_of_getElem? (i := 51) rfl)) (by decide) (by decide)) q624a q624c (g := (mkF m 233 #[.val (.int p0), .val (.int p1), .val (.long p2), .second, .val (.int p3), .val (.long p4), .second, .val (.ref b233), .val (.ref b247), .val (.int ((p1 &&& (255 : Int32)) % (3 : Int32))), .val (.ref aU), .val (.ref b511), .val (.int d12), .val (.int d13), .val (.ref b533), .val (.ref b553), .val (.ref b581)] [(.ref b581)])) rfl (by rw [hml]; rfl) (Steps.refl _) (argsL := []) (rest := []) (lenOf pd_9 rfl) rfl (by show 2 * 0 + _ ≤ _; exact Nat.le_of_eq rfl) (hb hby at_233) (fun _ _ => ⟨rfl, eq621, (by decide : 7 + 0 ≤ _), (by decide : 27 + 0 ≤ _)⟩)
      dsimp only [Pt.U, Pt.locs, Pt.cells, Pt.slots] at X624 l624 y624 z624 st624 hQ624
      subst l624 y624 z624
      obtain ⟨rfl, Nq624, eq624⟩ := hQ624
      have N624 := Fr.app N621 Nq624
      have k625 : ∀ t, Steps p.tables e below (T624.setTop (mkF m 236 #[.val (.int p0), .val (.int p1), .val (.long p2), .second, .val (.int p3), .val (.long p4), .second, .val (.ref b233), .val (.ref b247), .val (.int ((p1 &&& (255 : Int32)) % (3 : Int32))), .val (.ref aU), .val (.ref b511), .val (.int d12), .val (.int d13), .val (.ref b533), .val (.ref b553), .val (.ref b581)] [(.long (p4 + (1 : Int64)))])) t → Steps p.tables e below (s₁.setTop (entryFrame m #[(.int p0), (.int p1), (.long p2), (.int p3), (.long p4)] maxLocals)) t := fun t k => k623 t (st624.trans k)
      have k626 : ∀ t, Steps p.tables e below (T624.setTop (mkF m 249 #[.val (.int p0), .val (.int p1), .val (.long p2), .second, .val (.int p3), .val (.long p4), .second, .val (.ref b233), .val (.ref b247), .val (.int ((p1 &&& (255 : Int32)) % (3 : Int32))), .val (.ref aU), .val (.ref b511), .val (.int d12), .val (.int d13), .val (.ref b533), .val (.ref b553), .val (.ref b581)] [(.int (1 : Int32))])) t → Steps p.tables e below (s₁.setTop (entryFrame m #[(.int p0), (.int p1), (.long p2), (.int p3), (.long p4)] maxLocals)) t := fun t k => k625 t (by
        show Steps p.tables e below (T624.setTop (mkF m 236 #[.val (.int p0), .val (.int p1), .val (.long p2), .second, .val (.int p3), .val (.long p4), .second, .val (.ref b233), .val (.ref b247), .val (.int ((p1 &&& (255 : Int32)) % (3 : Int32))), .val (.ref aU), .val (.ref b511), .val (.int d12), .val (.int d13), .val (.ref b533), .val (.ref b553), .val (.ref b581)] [(.long (p4 + (1 : Int64)))])) _
        refine XS.lload X624.here hx rfl (hb hby at_236) rfl ?_
        show Steps p.tables e below (T624.setTop (mkF m 238 #[.val (.int p0), .val (.int p1), .val (.long p2), .second, .val (.int p3), .val (.long p4), .second, .val (.ref b233), .val (.ref b247), .val (.int ((p1 &&& (255 : Int32)) % (3 : Int32))), .val (.ref aU), .val (.ref b511), .val (.int d12), .val (.int d13), .val (.ref b533), .val (.ref b553), .val (.ref b581)] [(.long p4), (.long (p4 + (1 : Int64)))])) _
        refine XS.lconst X624.here hx rfl (hb hby at_238) ?_
        show Steps p.tables e below (T624.setTop (mkF m 239 #[.val (.int p0), .val (.int p1), .val (.long p2), .second, .val (.int p3), .val (.long p4), .second, .val (.ref b233), .val (.ref b247), .val (.int ((p1 &&& (255 : Int32)) % (3 : Int32))), .val (.ref aU), .val (.ref b511), .val (.int d12), .val (.int d13), .val (.ref b533), .val (.ref b553), .val (.ref b581)] [(.long (1 : Int64)), (.long p4), (.long (p4 + (1 : Int64)))])) _
        refine XS.ladd X624.here hx rfl (hb hby at_239) rfl ?_
        show Steps p.tables e below (T624.setTop (mkF m 240 #[.val (.int p0), .val (.int p1), .val (.long p2), .second, .val (.int p3), .val (.long p4), .second, .val (.ref b233), .val (.ref b247), .val (.int ((p1 &&& (255 : Int32)) % (3 : Int32))), .val (.ref aU), .val (.ref b511), .val (.int d12), .val (.int d13), .val (.ref b533), .val (.ref b553), .val (.ref b581)] [(.long (p4 + (1 : Int64))), (.long (p4 + (1 : Int64)))])) _
        refine XS.lcmp X624.here hx rfl (hb hby at_240) rfl ?_
        show Steps p.tables e below (T624.setTop (mkF m 241 #[.val (.int p0), .val (.int p1), .val (.long p2), .second, .val (.int p3), .val (.long p4), .second, .val (.ref b233), .val (.ref b247), .val (.int ((p1 &&& (255 : Int32)) % (3 : Int32))), .val (.ref aU), .val (.ref b511), .val (.int d12), .val (.int d13), .val (.ref b533), .val (.ref b553), .val (.ref b581)] [(.int (lcmpW (p4 + (1 : Int64)) (p4 + (1 : Int64))))])) _
        refine XS.ifNo X624.here hx rfl (hb hby at_241) rfl ((if0 _ _).trans (teq ((lw_eq _ _).mpr rfl)).2) ?_
        show Steps p.tables e below (T624.setTop (mkF m 244 #[.val (.int p0), .val (.int p1), .val (.long p2), .second, .val (.int p3), .val (.long p4), .second, .val (.ref b233), .val (.ref b247), .val (.int ((p1 &&& (255 : Int32)) % (3 : Int32))), .val (.ref aU), .val (.ref b511), .val (.int d12), .val (.int d13), .val (.ref b533), .val (.ref b553), .val (.ref b581)] [])) _
        refine XS.iconst X624.here hx rfl (hb hby at_244) ?_
        show Steps p.tables e below (T624.setTop (mkF m 245 #[.val (.int p0), .val (.int p1), .val (.long p2), .second, .val (.int p3), .val (.long p4), .second, .val (.ref b233), .val (.ref b247), .val (.int ((p1 &&& (255 : Int32)) % (3 : Int32))), .val (.ref aU), .val (.ref b511), .val (.int d12), .val (.int d13), .val (.ref b533), .val (.ref b553), .val (.ref b581)] [(.int (1 : Int32))])) _
        refine XS.goto X624.here hx rfl (pc0 := 245) (pc' := 249) rfl (hb hby at_245) (by decide) (by decide) ?_
        exact k)
      obtain ⟨fs, hr, hrun, hended, hW, hsame⟩ := X624.leave (v := some (.int (1 : Int32))) (fun h => by rw [Bd.returns] at h; cases h)
      refine ⟨_, _, k626 _ ?_, hrun, hended, _, _, rfl, ?_, ⟨_, rfl⟩, hW, hsame.mono (by decide) (by decide)⟩
      · show Steps p.tables e below (T624.setTop (mkF m 249 #[.val (.int p0), .val (.int p1), .val (.long p2), .second, .val (.int p3), .val (.long p4), .second, .val (.ref b233), .val (.ref b247), .val (.int ((p1 &&& (255 : Int32)) % (3 : Int32))), .val (.ref aU), .val (.ref b511), .val (.int d12), .val (.int d13), .val (.ref b533), .val (.ref b553), .val (.ref b581)] [(.int (1 : Int32))])) _
        exact retN X624 hx (t := .boolean) Bd.returns (by simp) (hb hby at_249) hr
      · show Q0 Z p0 p1 p2 p3 p4 G1 aS aA aU h0 n0 _ T624.heap _
        rw [eq624]
        exact ⟨rfl, N624⟩
set_option maxRecDepth 65536 in
set_option maxHeartbeats 40000000 in
theorem comes_1 {Post : Tables → Env → Array Value → State → Outcome → State → Prop} (hpost : ∀ tb e args s v u, (limb_1_1.after args s (.returned v) u = true ∧ limb_1_2.after args s (.returned v) u = true ∧ True) → FrameEnd s (.returned v) u (Jvm.fieldLocs frame_1_writes args s ++ Jvm.arrayLocs frame_1_arrays args s ++ Jvm.staticLocs frame_1_statics s) 24 128 → Post tb e args s (.returned v) u) :
    ArmFor flags0 classFile x code maxLocals ret World_1 tables_1 room_1 Calls_1 rest_1 Pre_1 Post := by
  intro l hfl _ _ p e ha hc hk s m args below hf hA hF happ hP
  obtain ⟨hcalls, hrest, hpre⟩ := hP
  obtain ⟨-, -, -, hnamed, -, -, -, hat⟩ := (Spec.applies_iff hf).mp happ
  obtain ⟨hg, hn⟩ := and_e (Cond.before_iff.mp (show (Jvm.Cond.and given_1 narrow_1).before args s = true from hpre))
  obtain ⟨g1, g2⟩ := and_e hg
  obtain ⟨g3, g4⟩ := and_e g2
  obtain ⟨g5, g6⟩ := and_e g4
  obtain ⟨g7, g8⟩ := and_e g6
  obtain ⟨g9, g10⟩ := and_e g8
  obtain ⟨w0, w1, w2, w3, w4, rfl⟩ : ∃ w0 w1 w2 w3 w4 : Value, args = #[w0, w1, w2, w3, w4] := by
    have hs : args.size = 5 := by simpa [Cond.value, given_1] using g1
    obtain ⟨L⟩ := args
    match L, hs with
    | [w0, w1, w2, w3, w4], _ => exact ⟨w0, w1, w2, w3, w4, rfl⟩
  have hw := fun d (hd : d ∈ tables_1) => atoms_spec (ws := Jvm.Cond.code x code maxLocals ret :: tables_1) hat d (List.mem_cons_of_mem _ hd)
  have hfit : Fit s := fun {y c} hc i hi => by
    obtain ⟨ha, rfl⟩ := Array.getElem?_eq_some_iff.mp hc
    have q := List.all_eq_true.mp ((Array.all_eq_true_iff_forall_mem.mp hF) _ (Array.getElem_mem ha)) i (List.mem_range.mpr hi)
    simpa [Array.getElem?_eq_getElem hi] using q
  obtain ⟨hsets, hown0⟩ := atoms_of _ (rest_1_c_eq ▸ (show rest_1_c.before _ s = true from hrest))
  obtain ⟨i0, ei0⟩ := is_v g3
  obtain rfl : w0 = (.int i0) := Option.some.inj ei0
  obtain ⟨i1, ei1⟩ := is_v g5
  obtain rfl : w1 = (.int i1) := Option.some.inj ei1
  obtain ⟨i2, ei2⟩ := isL_v g7
  obtain rfl : w2 = (.long i2) := Option.some.inj ei2
  obtain ⟨i3, ei3⟩ := is_v g9
  obtain rfl : w3 = (.int i3) := Option.some.inj ei3
  obtain ⟨i4, ei4⟩ := isL_v g10
  obtain rfl : w4 = (.long i4) := Option.some.inj ei4
  obtain ⟨c0, r0⟩ := and_e hn
  obtain ⟨c1, r1⟩ := and_e r0
  have c2 := r1
  obtain ⟨a_SIGNER, ev_SIGNER⟩ := exa_v c0
  have S_SIGNER := Sta.start ev_SIGNER (Or.inr ⟨(hw _ (List.mem_of_getElem? (i := 31) rfl)), (hw _ (List.mem_of_getElem? (i := 32) rfl))⟩)
  have E_SIGNER := Exa.start ev_SIGNER c0
  obtain ⟨a_AUDITOR, ev_AUDITOR⟩ := exa_v c1
  have S_AUDITOR := Sta.start ev_AUDITOR (Or.inr ⟨(hw _ (List.mem_of_getElem? (i := 31) rfl)), (hw _ (List.mem_of_getElem? (i := 120) rfl))⟩)
  have E_AUDITOR := Exa.start ev_AUDITOR c1
  obtain ⟨a_ADMIN, ev_ADMIN⟩ := exa_v c2
  have S_ADMIN := Sta.start ev_ADMIN (Or.inr ⟨(hw _ (List.mem_of_getElem? (i := 31) rfl)), (hw _ (List.mem_of_getElem? (i := 122) rfl))⟩)
  have E_ADMIN := Exa.start ev_ADMIN c2
  have n3 := not_v (Cond.before_iff.mp (hsets _ (List.mem_of_getElem? (i := 2) rfl)))
  obtain ⟨G1, eG⟩ := is_v (Cond.before_iff.mp (hsets _ (List.mem_of_getElem? (i := 1) rfl)))
  have O2 : Sta s s.heap "java/lang/String" "COMPACT_STRINGS" "Z" (.int G1) := Sta.start eG (Or.inl (hsets _ (List.mem_of_getElem? (i := 0) rfl)))
  have P5 : ¬ (G1 = (0 : Int32)) := gotF (Cond.eq_ints eG (Term.int_eval (0))) n3
  obtain ⟨n, o, h1, h2, h3, _, L, rfl, ⟨rfl, N⟩, hq⟩ := rm0 l s _ hw tables_1 i0 i1 i2 i3 i4 G1 a_SIGNER a_ADMIN a_AUDITOR s.heap s.heap.size (Nat.le_refl _) (Old.start s) O2 P5 S_SIGNER S_ADMIN S_AUDITOR p e ha hc hk s m _ below hf ((Spec.applies_iff_loose hf).mp happ).1 ⟨rfl, State.Warmed39.refl s, rfl⟩ trivial
  refine ⟨n, _, h1, h2, h3, hpost _ _ _ _ _ _ ⟨Cond.after_iff.mpr rfl, Cond.after_iff.mpr (eq_i res_at (Term.int_eval (1)) rfl), trivial⟩ ⟨hq.1, hq.2.1, (hq.2.2.sift fun y hy => Or.inr (N y hy)).mono (by decide) (by decide)⟩⟩
theorem main_1_1 : Claimed_1_1 := comes_1 fun _ _ _ _ _ _ h hF => ⟨h.1, hF⟩
theorem main_1_2 : Claimed_1_2 := comes_1 fun _ _ _ _ _ _ h hF => ⟨h.2.1, hF⟩
end Jvm.Pilot.@@N@@
namespace Jvm.Pilot.@@N@@
open Jvm Jvm.ClassFile Sem Op Lib Jvm.Free Jvm.Stand Jvm.Pilot.@@N@@.Jvm.D
/-! MADE BY PROGRAM (witnessworld.py) out of the Statement's table words and the real class files: 24 classes; the members and pool entries that the words name. The judged class is class 1, her method 1. -/
namespace start1
open Jvm.ClassFile
def u (s : String) : CpInfo := .utf8 (stringToUtf16 s)
/-- a pool by its gaps: so many unusable entries, then the entry; so many at the end -/
def gap : Nat → List CpInfo → List CpInfo
  | 0, r => r
  | n + 1, r => .unusable :: gap n r
def poolList (es : List (Nat × CpInfo)) (last : Nat) : List CpInfo := es.foldr (fun e r => gap e.1 (e.2 :: r)) (gap last [])
def pool (es : List (Nat × CpInfo)) (last : Nat) : Array CpInfo := ⟨poolList es last⟩
def fileOf (pool : Array CpInfo) (this : Nat) (attrs : Array Attribute := #[]) (ms : Array MethodInfo := #[]) (fl : Nat := 33) (sup : Nat := 0) (ifs : Array Nat := #[]) (fds : Array FieldInfo := #[]) : ClassFile where
  minorVersion := 0
  majorVersion := 65
  constantPool := pool
  accessFlags := fl
  thisClass := this
  superClass := sup
  interfaces := ifs
  fields := fds
  methods := ms
  attributes := attrs
def plain (name : String) (sup : Option ClassId) : Class where
  name := name
  kind := .ordinary
  loader := none
  accessFlags := 33
  super := sup
  interfaces := #[]
  cf := none
  fields := #[]
  methods := #[]
  instanceTypes := #[]
  staticTypes := #[]
  resolved := #[]
  callSites := []
  init := .initialized
  statics := none
  mirror := none

def pool0 : Array CpInfo := pool [(5, u "<init>"), (0, u "()V"), (1, .class_ 10), (1, u "java/lang/Object")] 113

def k0c0 : Code := { maxStack := 0, maxLocals := 1, code := object_method_1_code, exceptionTable := #[], attributes := #[] }
def k0m0 : Method := { name := "<init>", desc := "()V", sig := { parameters := [], returnType := none }, accessFlags := 1, code := some k0c0 }
/-- java/lang/Object -/
def k0 : Class := { plain "java/lang/Object" none with
  accessFlags := 33
  interfaces := #[]
  cf := some (fileOf pool0 8 #[] #[{ accessFlags := 1, nameIndex := 5, descriptorIndex := 6, attributes := #[] }] 33 0 #[] #[])
  fields := #[]
  methods := #[k0m0]
  instanceTypes := #[]
  staticTypes := #[]
  resolved := Array.replicate 124 none
  statics := none }

def pool1 : Array CpInfo := pool [(2, .class_ 4), (1, u "java/lang/Object"), (0, u "<init>"), (0, u "()V"), (0, .class_ 8), (0, u "java/lang/String"), (0, .methodref 7 10), (0, .nameAndType 5 11), (0, u "([C)V"), (0, .fieldref 13 14), (0, .class_ 15), (0, .nameAndType 16 17), (0, u "com/example/pen_over_wire/penoverwire/model/Role"), (0, u "SIGNER"), (0, u "Lcom/example/pen_over_wire/penoverwire/model/Role;"), (0, .fieldref 13 19), (0, .nameAndType 20 17), (0, u "ADMIN"), (0, .fieldref 13 22), (0, .nameAndType 23 17), (0, u "AUDITOR"), (0, .class_ 25), (0, u "com/example/pen_over_wire/penoverwire/model/FailedAttempts"), (0, .methodref 24 27), (0, .nameAndType 5 28), (0, u "(IZ)V"), (0, .class_ 30), (0, u "com/example/pen_over_wire/penoverwire/model/User"), (0, .methodref 29 32), (0, .nameAndType 5 33), (0, u "(Ljava/lang/String;Lcom/example/pen_over_wire/penoverwire/model/Role;Lcom/example/pen_over_wire/penoverwire/crypto/PasswordHash;[BJLcom/example/pen_over_wire/penoverwire/model/FailedAttempts;ZJ)V"), (0, .methodref 29 35), (0, .nameAndType 36 37), (0, u "disable"), (0, u "()Lcom/example/pen_over_wire/penoverwire/model/User;"), (0, .methodref 29 39), (0, .nameAndType 40 41), (0, u "name"), (0, u "()Ljava/lang/String;"), (0, .methodref 29 43), (0, .nameAndType 44 45), (0, u "role"), (0, u "()Lcom/example/pen_over_wire/penoverwire/model/Role;"), (0, .methodref 29 47), (0, .nameAndType 48 49), (0, u "password"), (0, u "()Lcom/example/pen_over_wire/penoverwire/crypto/PasswordHash;"), (0, .methodref 29 51), (0, .nameAndType 52 53), (0, u "totpSecret"), (0, u "()[B"), (0, .methodref 29 55), (0, .nameAndType 56 57), (0, u "lastOtpStep"), (0, u "()J"), (0, .methodref 29 59), (0, .nameAndType 60 61), (0, u "failedLogins"), (0, u "()Lcom/example/pen_over_wire/penoverwire/model/FailedAttempts;"), (0, .methodref 29 63), (0, .nameAndType 64 65), (0, u "disabled"), (0, u "()Z"), (0, .methodref 29 67), (0, .nameAndType 68 57), (0, u "sessionEpoch"), (0, .class_ 70), (0, u "com/example/pen_over_wire/penoverwire/model/UserDisablePinLaw"), (2, u "law"), (0, u "(IIJIJ)Z")] 7

def k1m0 : Method := { name := "<init>", desc := "()V", sig := { parameters := [], returnType := none }, accessFlags := 1, code := none }
def k1c1 : Code := { maxStack := 12, maxLocals := 17, code := code, exceptionTable := #[], attributes := #[] }
def k1m1 : Method := { name := "law", desc := "(IIJIJ)Z", sig := { parameters := [.int, .int, .long, .int, .long], returnType := some .boolean }, accessFlags := 9, code := some k1c1 }
/-- com/example/pen_over_wire/penoverwire/model/UserDisablePinLaw -/
def k1 : Class := { plain "com/example/pen_over_wire/penoverwire/model/UserDisablePinLaw" (some 0) with
  accessFlags := 49
  interfaces := #[]
  cf := some (fileOf pool1 69 #[] #[{ accessFlags := 1, nameIndex := 5, descriptorIndex := 6, attributes := #[] }, { accessFlags := 9, nameIndex := 73, descriptorIndex := 74, attributes := #[] }] 49 2 #[] #[])
  fields := #[]
  methods := #[k1m0, k1m1]
  instanceTypes := #[]
  staticTypes := #[]
  resolved := Array.replicate 82 none
  statics := none }

def pool2 : Array CpInfo := pool [(1, .class_ 2), (0, u "java/io/Serializable"), (0, .class_ 4), (0, u "java/lang/Object")] 2

/-- java/io/Serializable -/
def k2 : Class := { plain "java/io/Serializable" (some 0) with
  accessFlags := 1537
  interfaces := #[]
  cf := some (fileOf pool2 1 #[] #[] 1537 3 #[] #[])
  fields := #[]
  methods := #[]
  instanceTypes := #[]
  staticTypes := #[]
  resolved := Array.replicate 7 none
  statics := none }

def pool3 : Array CpInfo := pool [(1, .class_ 2), (0, u "java/lang/Comparable"), (0, .class_ 4), (0, u "java/lang/Object")] 7

/-- java/lang/Comparable -/
def k3 : Class := { plain "java/lang/Comparable" (some 0) with
  accessFlags := 1537
  interfaces := #[]
  cf := some (fileOf pool3 1 #[] #[] 1537 3 #[] #[])
  fields := #[]
  methods := #[]
  instanceTypes := #[]
  staticTypes := #[]
  resolved := Array.replicate 12 none
  statics := none }

def pool4 : Array CpInfo := pool [(2, .class_ 4), (1, u "java/lang/CharSequence"), (42, .class_ 48), (0, u "java/lang/CharSequence$1CodePointIterator"), (10, .class_ 60), (0, u "java/lang/CharSequence$1CharIterator"), (5, .class_ 67), (0, u "java/lang/Object")] 63

/-- java/lang/CharSequence -/
def k4 : Class := { plain "java/lang/CharSequence" (some 0) with
  accessFlags := 1537
  interfaces := #[]
  cf := some (fileOf pool4 2 #[.nestMembers #[47, 59]] #[] 1537 66 #[] #[])
  fields := #[]
  methods := #[]
  instanceTypes := #[]
  staticTypes := #[]
  resolved := Array.replicate 131 none
  statics := none }

def pool5 : Array CpInfo := pool [(1, .class_ 2), (0, u "java/lang/constant/Constable"), (0, .class_ 4), (0, u "java/lang/Object")] 6

/-- java/lang/constant/Constable -/
def k5 : Class := { plain "java/lang/constant/Constable" (some 0) with
  accessFlags := 1537
  interfaces := #[]
  cf := some (fileOf pool5 1 #[] #[] 1537 3 #[] #[])
  fields := #[]
  methods := #[]
  instanceTypes := #[]
  staticTypes := #[]
  resolved := Array.replicate 11 none
  statics := none }

def pool6 : Array CpInfo := pool [(1, .class_ 2), (0, u "java/lang/constant/ConstantDesc"), (0, .class_ 4), (0, u "java/lang/Object")] 32

/-- java/lang/constant/ConstantDesc -/
def k6 : Class := { plain "java/lang/constant/ConstantDesc" (some 0) with
  accessFlags := 1537
  interfaces := #[]
  cf := some (fileOf pool6 1 #[] #[] 1537 3 #[] #[])
  fields := #[]
  methods := #[]
  instanceTypes := #[]
  staticTypes := #[]
  resolved := Array.replicate 37 none
  statics := none }

def pool7 : Array CpInfo := pool [(1, .methodref 2 3), (0, .class_ 4), (0, .nameAndType 5 6), (0, u "java/lang/Object"), (0, u "<init>"), (0, u "()V"), (2, .fieldref 10 11), (0, .class_ 12), (0, .nameAndType 13 14), (0, u "java/lang/String"), (0, u "value"), (0, u "[B"), (0, .fieldref 10 16), (0, .nameAndType 17 18), (0, u "coder"), (0, u "B"), (2, u "hash"), (0, u "I"), (2, u "hashIsZero"), (0, u "Z"), (0, .methodref 10 28), (0, .nameAndType 5 29), (0, u "([CIILjava/lang/Void;)V"), (8, .fieldref 10 39), (0, .nameAndType 40 26), (0, u "COMPACT_STRINGS"), (1, .class_ 44), (1, u "java/lang/StringUTF16"), (0, u "compress"), (1, .methodref 42 48), (0, .nameAndType 49 50), (0, u "coderFromArrayLen"), (0, u "([BI)B"), (126, .methodref 42 178), (0, .nameAndType 45 179), (0, u "([CII)[B"), (395, .class_ 576), (0, u "java/lang/CharSequence"), (22, u "CASE_INSENSITIVE_ORDER"), (0, u "Ljava/util/Comparator;"), (409, u "([C)V"), (90, u "serialPersistentFields"), (0, u "[Ljava/io/ObjectStreamField;"), (0, .class_ 1104), (0, u "java/lang/String$CaseInsensitiveComparator"), (1, .class_ 1107), (0, u "java/io/Serializable"), (0, .class_ 1109), (0, u "java/lang/Comparable"), (0, .class_ 1111), (0, u "java/lang/constant/Constable"), (0, .class_ 1113), (0, u "java/lang/constant/ConstantDesc"), (2, u "serialVersionUID"), (0, u "J"), (3, u "REPL"), (0, u "C"), (2, u "LATIN1"), (1, u "UTF16")] 323

def k7m0 : Method := { name := "<init>", desc := "()V", sig := { parameters := [], returnType := none }, accessFlags := 1, code := none }
def k7c1 : Code := { maxStack := 5, maxLocals := 2, code := jdk_42_method_3_code, exceptionTable := #[], attributes := #[] }
def k7m1 : Method := { name := "<init>", desc := "([C)V", sig := { parameters := [(.array .char)], returnType := none }, accessFlags := 1, code := some k7c1 }
def k7c2 : Code := { maxStack := 4, maxLocals := 6, code := jdk_42_method_149_code, exceptionTable := #[], attributes := #[] }
def k7m2 : Method := { name := "<init>", desc := "([CIILjava/lang/Void;)V", sig := { parameters := [(.array .char), .int, .int, (.object "java/lang/Void")], returnType := none }, accessFlags := 2, code := some k7c2 }
/-- java/lang/String -/
def k7 : Class := { plain "java/lang/String" (some 0) with
  accessFlags := 49
  interfaces := #[2, 3, 4, 5, 6]
  cf := some (fileOf pool7 10 #[.nestMembers #[1103]] #[{ accessFlags := 1, nameIndex := 5, descriptorIndex := 6, attributes := #[] }, { accessFlags := 1, nameIndex := 5, descriptorIndex := 1010, attributes := #[] }, { accessFlags := 2, nameIndex := 5, descriptorIndex := 29, attributes := #[] }] 49 2 #[1106, 1108, 575, 1110, 1112] #[{ accessFlags := 18, nameIndex := 13, descriptorIndex := 14, attributes := #[] }, { accessFlags := 18, nameIndex := 17, descriptorIndex := 18, attributes := #[] }, { accessFlags := 2, nameIndex := 21, descriptorIndex := 22, attributes := #[] }, { accessFlags := 2, nameIndex := 25, descriptorIndex := 26, attributes := #[] }, { accessFlags := 26, nameIndex := 1116, descriptorIndex := 1117, attributes := #[] }, { accessFlags := 24, nameIndex := 40, descriptorIndex := 26, attributes := #[] }, { accessFlags := 26, nameIndex := 1101, descriptorIndex := 1102, attributes := #[] }, { accessFlags := 26, nameIndex := 1121, descriptorIndex := 1122, attributes := #[] }, { accessFlags := 25, nameIndex := 599, descriptorIndex := 600, attributes := #[] }, { accessFlags := 24, nameIndex := 1125, descriptorIndex := 18, attributes := #[] }, { accessFlags := 24, nameIndex := 1127, descriptorIndex := 18, attributes := #[] }])
  fields := #[{ name := "value", type := (.array .byte), accessFlags := 18, slot := 0, constantValue := 0 }, { name := "coder", type := .byte, accessFlags := 18, slot := 1, constantValue := 0 }, { name := "hash", type := .int, accessFlags := 2, slot := 2, constantValue := 0 }, { name := "hashIsZero", type := .boolean, accessFlags := 2, slot := 3, constantValue := 0 }, { name := "serialVersionUID", type := .long, accessFlags := 26, slot := 0, constantValue := 0 }, { name := "COMPACT_STRINGS", type := .boolean, accessFlags := 24, slot := 1, constantValue := 0 }, { name := "serialPersistentFields", type := (.array (.object "java/io/ObjectStreamField")), accessFlags := 26, slot := 2, constantValue := 0 }, { name := "REPL", type := .char, accessFlags := 26, slot := 3, constantValue := 0 }, { name := "CASE_INSENSITIVE_ORDER", type := (.object "java/util/Comparator"), accessFlags := 25, slot := 4, constantValue := 0 }, { name := "LATIN1", type := .byte, accessFlags := 24, slot := 5, constantValue := 0 }, { name := "UTF16", type := .byte, accessFlags := 24, slot := 6, constantValue := 0 }]
  methods := #[k7m0, k7m1, k7m2]
  instanceTypes := #[(.array .byte), .byte, .int, .boolean]
  staticTypes := #[.long, .boolean, (.array (.object "java/io/ObjectStreamField")), .char, (.object "java/util/Comparator"), .byte, .byte]
  resolved := Array.replicate 1451 none
  statics := some 0 }

def pool8 : Array CpInfo := pool [(6, .class_ 8), (1, u "java/lang/Object"), (0, u "<init>"), (0, u "()V"), (1, .class_ 14), (1, u "java/lang/StringUTF16"), (31, u "$assertionsDisabled"), (0, u "Z"), (13, u "HI_BYTE_SHIFT"), (0, u "I"), (2, u "LO_BYTE_SHIFT"), (49, .methodref 12 116), (0, .nameAndType 117 118), (0, u "compress"), (0, u "([CI[BII)I"), (3, u "([CII)[B"), (138, u "coderFromArrayLen"), (0, u "([BI)B"), (106, .class_ 371), (1, u "java/lang/StringUTF16$LinesSpliterator"), (58, u "MAX_LENGTH"), (196, .class_ 628), (0, u "java/lang/StringUTF16$CodePointsSpliterator"), (0, .class_ 630), (0, u "java/lang/StringUTF16$CharsSpliterator")] 4

def k8m0 : Method := { name := "<init>", desc := "()V", sig := { parameters := [], returnType := none }, accessFlags := 0, code := none }
def k8c1 : Code := { maxStack := 2, maxLocals := 2, code := jdk_52_method_15_code, exceptionTable := #[], attributes := #[] }
def k8m1 : Method := { name := "coderFromArrayLen", desc := "([BI)B", sig := { parameters := [(.array .byte), .int], returnType := some .byte }, accessFlags := 8, code := some k8c1 }
def k8c2 : Code := { maxStack := 5, maxLocals := 6, code := jdk_52_method_16_code, exceptionTable := #[], attributes := #[] }
def k8m2 : Method := { name := "compress", desc := "([CII)[B", sig := { parameters := [(.array .char), .int, .int], returnType := some (.array .byte) }, accessFlags := 9, code := some k8c2 }
def k8c3 : Code := { maxStack := 3, maxLocals := 7, code := jdk_52_method_21_code, exceptionTable := #[], attributes := #[] }
def k8m3 : Method := { name := "compress", desc := "([CI[BII)I", sig := { parameters := [(.array .char), .int, (.array .byte), .int, .int], returnType := some .int }, accessFlags := 9, code := some k8c3 }
/-- java/lang/StringUTF16 -/
def k8 : Class := { plain "java/lang/StringUTF16" (some 0) with
  accessFlags := 48
  interfaces := #[]
  cf := some (fileOf pool8 12 #[.nestMembers #[627, 629, 369]] #[{ accessFlags := 0, nameIndex := 9, descriptorIndex := 10, attributes := #[] }, { accessFlags := 8, nameIndex := 261, descriptorIndex := 262, attributes := #[] }, { accessFlags := 9, nameIndex := 117, descriptorIndex := 122, attributes := #[] }, { accessFlags := 9, nameIndex := 117, descriptorIndex := 118, attributes := #[] }] 48 6 #[] #[{ accessFlags := 26, nameIndex := 61, descriptorIndex := 62, attributes := #[] }, { accessFlags := 26, nameIndex := 65, descriptorIndex := 62, attributes := #[] }, { accessFlags := 24, nameIndex := 430, descriptorIndex := 62, attributes := #[] }, { accessFlags := 4120, nameIndex := 46, descriptorIndex := 47, attributes := #[] }])
  fields := #[{ name := "HI_BYTE_SHIFT", type := .int, accessFlags := 26, slot := 0, constantValue := 0 }, { name := "LO_BYTE_SHIFT", type := .int, accessFlags := 26, slot := 1, constantValue := 0 }, { name := "MAX_LENGTH", type := .int, accessFlags := 24, slot := 2, constantValue := 0 }, { name := "$assertionsDisabled", type := .boolean, accessFlags := 4120, slot := 3, constantValue := 0 }]
  methods := #[k8m0, k8m1, k8m2, k8m3]
  instanceTypes := #[]
  staticTypes := #[.int, .int, .int, .boolean]
  resolved := Array.replicate 635 none
  statics := none }

def pool9 : Array CpInfo := pool [(2, .class_ 4), (1, u "java/lang/Enum"), (0, u "name"), (0, u "Ljava/lang/String;"), (2, u "ordinal"), (0, u "I"), (1, .class_ 14), (1, u "java/lang/Object"), (4, u "hash"), (86, .class_ 108), (1, u "java/lang/Enum$EnumDesc"), (2, .class_ 112), (0, u "java/lang/constant/Constable"), (0, .class_ 114), (0, u "java/lang/Comparable"), (0, .class_ 116), (0, u "java/io/Serializable")] 87

/-- java/lang/Enum -/
def k9 : Class := { plain "java/lang/Enum" (some 0) with
  accessFlags := 1057
  interfaces := #[5, 3, 2]
  cf := some (fileOf pool9 2 #[.nestMembers #[106]] #[] 1057 12 #[111, 113, 115] #[{ accessFlags := 18, nameIndex := 5, descriptorIndex := 6, attributes := #[] }, { accessFlags := 18, nameIndex := 9, descriptorIndex := 10, attributes := #[] }, { accessFlags := 2, nameIndex := 19, descriptorIndex := 10, attributes := #[] }])
  fields := #[{ name := "name", type := (.object "java/lang/String"), accessFlags := 18, slot := 0, constantValue := 0 }, { name := "ordinal", type := .int, accessFlags := 18, slot := 1, constantValue := 0 }, { name := "hash", type := .int, accessFlags := 2, slot := 2, constantValue := 0 }]
  methods := #[]
  instanceTypes := #[(.object "java/lang/String"), .int, .int]
  staticTypes := #[]
  resolved := Array.replicate 204 none
  statics := none }

def pool10 : Array CpInfo := pool [(1, .class_ 2), (0, u "com/example/pen_over_wire/penoverwire/model/Role"), (2, u "SIGNER"), (0, u "Lcom/example/pen_over_wire/penoverwire/model/Role;"), (2, u "ADMIN"), (2, u "AUDITOR"), (2, u "$VALUES"), (0, u "[Lcom/example/pen_over_wire/penoverwire/model/Role;"), (6, .class_ 25), (1, u "java/lang/Enum"), (8, u "label"), (0, u "Ljava/lang/String;")] 110

/-- com/example/pen_over_wire/penoverwire/model/Role -/
def k10 : Class := { plain "com/example/pen_over_wire/penoverwire/model/Role" (some 9) with
  accessFlags := 16433
  interfaces := #[]
  cf := some (fileOf pool10 1 #[] #[] 16433 23 #[] #[{ accessFlags := 16409, nameIndex := 5, descriptorIndex := 6, attributes := #[] }, { accessFlags := 16409, nameIndex := 9, descriptorIndex := 6, attributes := #[] }, { accessFlags := 16409, nameIndex := 12, descriptorIndex := 6, attributes := #[] }, { accessFlags := 18, nameIndex := 34, descriptorIndex := 35, attributes := #[] }, { accessFlags := 4122, nameIndex := 15, descriptorIndex := 16, attributes := #[] }])
  fields := #[{ name := "SIGNER", type := (.object "com/example/pen_over_wire/penoverwire/model/Role"), accessFlags := 16409, slot := 0, constantValue := 0 }, { name := "ADMIN", type := (.object "com/example/pen_over_wire/penoverwire/model/Role"), accessFlags := 16409, slot := 1, constantValue := 0 }, { name := "AUDITOR", type := (.object "com/example/pen_over_wire/penoverwire/model/Role"), accessFlags := 16409, slot := 2, constantValue := 0 }, { name := "label", type := (.object "java/lang/String"), accessFlags := 18, slot := 3, constantValue := 0 }, { name := "$VALUES", type := (.array (.object "com/example/pen_over_wire/penoverwire/model/Role")), accessFlags := 4122, slot := 3, constantValue := 0 }]
  methods := #[]
  instanceTypes := #[(.object "java/lang/String"), .int, .int, (.object "java/lang/String")]
  staticTypes := #[(.object "com/example/pen_over_wire/penoverwire/model/Role"), (.object "com/example/pen_over_wire/penoverwire/model/Role"), (.object "com/example/pen_over_wire/penoverwire/model/Role"), (.array (.object "com/example/pen_over_wire/penoverwire/model/Role"))]
  resolved := Array.replicate 146 none
  statics := some 1 }

def pool11 : Array CpInfo := pool [(1, .methodref 2 3), (0, .class_ 4), (0, .nameAndType 5 6), (0, u "java/lang/Object"), (0, u "<init>"), (0, u "()V"), (0, .class_ 8), (0, u "java/lang/Record")] 13

def k11c0 : Code := { maxStack := 1, maxLocals := 1, code := jdk_30_method_1_code, exceptionTable := #[], attributes := #[] }
def k11m0 : Method := { name := "<init>", desc := "()V", sig := { parameters := [], returnType := none }, accessFlags := 4, code := some k11c0 }
/-- java/lang/Record -/
def k11 : Class := { plain "java/lang/Record" (some 0) with
  accessFlags := 1057
  interfaces := #[]
  cf := some (fileOf pool11 7 #[] #[{ accessFlags := 4, nameIndex := 5, descriptorIndex := 6, attributes := #[] }] 1057 2 #[] #[])
  fields := #[]
  methods := #[k11m0]
  instanceTypes := #[]
  staticTypes := #[]
  resolved := Array.replicate 22 none
  statics := none }

def pool12 : Array CpInfo := pool [(1, .methodref 2 3), (0, .class_ 4), (0, .nameAndType 5 6), (0, u "java/lang/Record"), (0, u "<init>"), (0, u "()V"), (0, .fieldref 8 9), (0, .class_ 10), (0, .nameAndType 11 12), (0, u "com/example/pen_over_wire/penoverwire/model/FailedAttempts"), (0, u "count"), (0, u "I"), (0, .fieldref 8 14), (0, .nameAndType 15 16), (0, u "lockRecorded"), (0, u "Z"), (14, u "(IZ)V"), (2, u "NONE"), (0, u "Lcom/example/pen_over_wire/penoverwire/model/FailedAttempts;")] 29

def k12c0 : Code := { maxStack := 2, maxLocals := 3, code := prog_29_method_1_code, exceptionTable := #[], attributes := #[] }
def k12m0 : Method := { name := "<init>", desc := "(IZ)V", sig := { parameters := [.int, .boolean], returnType := none }, accessFlags := 1, code := some k12c0 }
/-- com/example/pen_over_wire/penoverwire/model/FailedAttempts -/
def k12 : Class := { plain "com/example/pen_over_wire/penoverwire/model/FailedAttempts" (some 11) with
  accessFlags := 49
  interfaces := #[]
  cf := some (fileOf pool12 8 #[] #[{ accessFlags := 1, nameIndex := 5, descriptorIndex := 31, attributes := #[] }] 49 2 #[] #[{ accessFlags := 18, nameIndex := 11, descriptorIndex := 12, attributes := #[] }, { accessFlags := 18, nameIndex := 15, descriptorIndex := 16, attributes := #[] }, { accessFlags := 25, nameIndex := 34, descriptorIndex := 35, attributes := #[] }])
  fields := #[{ name := "count", type := .int, accessFlags := 18, slot := 0, constantValue := 0 }, { name := "lockRecorded", type := .boolean, accessFlags := 18, slot := 1, constantValue := 0 }, { name := "NONE", type := (.object "com/example/pen_over_wire/penoverwire/model/FailedAttempts"), accessFlags := 25, slot := 0, constantValue := 0 }]
  methods := #[k12m0]
  instanceTypes := #[.int, .boolean]
  staticTypes := #[(.object "com/example/pen_over_wire/penoverwire/model/FailedAttempts")]
  resolved := Array.replicate 65 none
  statics := none }

def pool13 : Array CpInfo := pool [(1, .methodref 2 3), (0, .class_ 4), (0, .nameAndType 5 6), (0, u "java/lang/Record"), (0, u "<init>"), (0, u "()V"), (0, .fieldref 8 9), (0, .class_ 10), (0, .nameAndType 11 12), (0, u "com/example/pen_over_wire/penoverwire/model/User"), (0, u "name"), (0, u "Ljava/lang/String;"), (0, .fieldref 8 14), (0, .nameAndType 15 16), (0, u "role"), (0, u "Lcom/example/pen_over_wire/penoverwire/model/Role;"), (0, .fieldref 8 18), (0, .nameAndType 19 20), (0, u "password"), (0, u "Lcom/example/pen_over_wire/penoverwire/crypto/PasswordHash;"), (0, .fieldref 8 22), (0, .nameAndType 23 24), (0, u "totpSecret"), (0, u "[B"), (0, .fieldref 8 26), (0, .nameAndType 27 28), (0, u "lastOtpStep"), (0, u "J"), (0, .fieldref 8 30), (0, .nameAndType 31 32), (0, u "failedLogins"), (0, u "Lcom/example/pen_over_wire/penoverwire/model/FailedAttempts;"), (0, .fieldref 8 34), (0, .nameAndType 35 36), (0, u "disabled"), (0, u "Z"), (0, .fieldref 8 38), (0, .nameAndType 39 28), (0, u "sessionEpoch"), (0, .methodref 8 41), (0, .nameAndType 5 42), (0, u "(Ljava/lang/String;Lcom/example/pen_over_wire/penoverwire/model/Role;Lcom/example/pen_over_wire/penoverwire/crypto/PasswordHash;[BJLcom/example/pen_over_wire/penoverwire/model/FailedAttempts;ZJ)V"), (2, u "NAME"), (0, u "Ljava/util/regex/Pattern;"), (11, u "()Z"), (25, u "disable"), (0, u "()Lcom/example/pen_over_wire/penoverwire/model/User;"), (6, u "()Ljava/lang/String;"), (2, u "()Lcom/example/pen_over_wire/penoverwire/model/Role;"), (0, u "()Lcom/example/pen_over_wire/penoverwire/crypto/PasswordHash;"), (0, u "()[B"), (0, u "()J"), (0, u "()Lcom/example/pen_over_wire/penoverwire/model/FailedAttempts;")] 28

def k13c0 : Code := { maxStack := 3, maxLocals := 11, code := prog_34_method_1_code, exceptionTable := #[], attributes := #[] }
def k13m0 : Method := { name := "<init>", desc := "(Ljava/lang/String;Lcom/example/pen_over_wire/penoverwire/model/Role;Lcom/example/pen_over_wire/penoverwire/crypto/PasswordHash;[BJLcom/example/pen_over_wire/penoverwire/model/FailedAttempts;ZJ)V", sig := { parameters := [(.object "java/lang/String"), (.object "com/example/pen_over_wire/penoverwire/model/Role"), (.object "com/example/pen_over_wire/penoverwire/crypto/PasswordHash"), (.array .byte), .long, (.object "com/example/pen_over_wire/penoverwire/model/FailedAttempts"), .boolean, .long], returnType := none }, accessFlags := 1, code := some k13c0 }
def k13c1 : Code := { maxStack := 14, maxLocals := 1, code := prog_34_method_4_code, exceptionTable := #[], attributes := #[] }
def k13m1 : Method := { name := "disable", desc := "()Lcom/example/pen_over_wire/penoverwire/model/User;", sig := { parameters := [], returnType := some (.object "com/example/pen_over_wire/penoverwire/model/User") }, accessFlags := 1, code := some k13c1 }
def k13c2 : Code := { maxStack := 1, maxLocals := 1, code := prog_34_method_11_code, exceptionTable := #[], attributes := #[] }
def k13m2 : Method := { name := "name", desc := "()Ljava/lang/String;", sig := { parameters := [], returnType := some (.object "java/lang/String") }, accessFlags := 1, code := some k13c2 }
def k13c3 : Code := { maxStack := 1, maxLocals := 1, code := prog_34_method_12_code, exceptionTable := #[], attributes := #[] }
def k13m3 : Method := { name := "role", desc := "()Lcom/example/pen_over_wire/penoverwire/model/Role;", sig := { parameters := [], returnType := some (.object "com/example/pen_over_wire/penoverwire/model/Role") }, accessFlags := 1, code := some k13c3 }
def k13c4 : Code := { maxStack := 1, maxLocals := 1, code := prog_34_method_13_code, exceptionTable := #[], attributes := #[] }
def k13m4 : Method := { name := "password", desc := "()Lcom/example/pen_over_wire/penoverwire/crypto/PasswordHash;", sig := { parameters := [], returnType := some (.object "com/example/pen_over_wire/penoverwire/crypto/PasswordHash") }, accessFlags := 1, code := some k13c4 }
def k13c5 : Code := { maxStack := 1, maxLocals := 1, code := prog_34_method_14_code, exceptionTable := #[], attributes := #[] }
def k13m5 : Method := { name := "totpSecret", desc := "()[B", sig := { parameters := [], returnType := some (.array .byte) }, accessFlags := 1, code := some k13c5 }
def k13c6 : Code := { maxStack := 2, maxLocals := 1, code := prog_34_method_15_code, exceptionTable := #[], attributes := #[] }
def k13m6 : Method := { name := "lastOtpStep", desc := "()J", sig := { parameters := [], returnType := some .long }, accessFlags := 1, code := some k13c6 }
def k13c7 : Code := { maxStack := 1, maxLocals := 1, code := prog_34_method_16_code, exceptionTable := #[], attributes := #[] }
def k13m7 : Method := { name := "failedLogins", desc := "()Lcom/example/pen_over_wire/penoverwire/model/FailedAttempts;", sig := { parameters := [], returnType := some (.object "com/example/pen_over_wire/penoverwire/model/FailedAttempts") }, accessFlags := 1, code := some k13c7 }
def k13c8 : Code := { maxStack := 1, maxLocals := 1, code := prog_34_method_17_code, exceptionTable := #[], attributes := #[] }
def k13m8 : Method := { name := "disabled", desc := "()Z", sig := { parameters := [], returnType := some .boolean }, accessFlags := 1, code := some k13c8 }
def k13c9 : Code := { maxStack := 2, maxLocals := 1, code := prog_34_method_18_code, exceptionTable := #[], attributes := #[] }
def k13m9 : Method := { name := "sessionEpoch", desc := "()J", sig := { parameters := [], returnType := some .long }, accessFlags := 1, code := some k13c9 }
/-- com/example/pen_over_wire/penoverwire/model/User -/
def k13 : Class := { plain "com/example/pen_over_wire/penoverwire/model/User" (some 11) with
  accessFlags := 49
  interfaces := #[]
  cf := some (fileOf pool13 8 #[] #[{ accessFlags := 1, nameIndex := 5, descriptorIndex := 42, attributes := #[] }, { accessFlags := 1, nameIndex := 84, descriptorIndex := 85, attributes := #[] }, { accessFlags := 1, nameIndex := 11, descriptorIndex := 92, attributes := #[] }, { accessFlags := 1, nameIndex := 15, descriptorIndex := 95, attributes := #[] }, { accessFlags := 1, nameIndex := 19, descriptorIndex := 96, attributes := #[] }, { accessFlags := 1, nameIndex := 23, descriptorIndex := 97, attributes := #[] }, { accessFlags := 1, nameIndex := 27, descriptorIndex := 98, attributes := #[] }, { accessFlags := 1, nameIndex := 31, descriptorIndex := 99, attributes := #[] }, { accessFlags := 1, nameIndex := 35, descriptorIndex := 58, attributes := #[] }, { accessFlags := 1, nameIndex := 39, descriptorIndex := 98, attributes := #[] }] 49 2 #[] #[{ accessFlags := 18, nameIndex := 11, descriptorIndex := 12, attributes := #[] }, { accessFlags := 18, nameIndex := 15, descriptorIndex := 16, attributes := #[] }, { accessFlags := 18, nameIndex := 19, descriptorIndex := 20, attributes := #[] }, { accessFlags := 18, nameIndex := 23, descriptorIndex := 24, attributes := #[] }, { accessFlags := 18, nameIndex := 27, descriptorIndex := 28, attributes := #[] }, { accessFlags := 18, nameIndex := 31, descriptorIndex := 32, attributes := #[] }, { accessFlags := 18, nameIndex := 35, descriptorIndex := 36, attributes := #[] }, { accessFlags := 18, nameIndex := 39, descriptorIndex := 28, attributes := #[] }, { accessFlags := 26, nameIndex := 45, descriptorIndex := 46, attributes := #[] }])
  fields := #[{ name := "name", type := (.object "java/lang/String"), accessFlags := 18, slot := 0, constantValue := 0 }, { name := "role", type := (.object "com/example/pen_over_wire/penoverwire/model/Role"), accessFlags := 18, slot := 1, constantValue := 0 }, { name := "password", type := (.object "com/example/pen_over_wire/penoverwire/crypto/PasswordHash"), accessFlags := 18, slot := 2, constantValue := 0 }, { name := "totpSecret", type := (.array .byte), accessFlags := 18, slot := 3, constantValue := 0 }, { name := "lastOtpStep", type := .long, accessFlags := 18, slot := 4, constantValue := 0 }, { name := "failedLogins", type := (.object "com/example/pen_over_wire/penoverwire/model/FailedAttempts"), accessFlags := 18, slot := 5, constantValue := 0 }, { name := "disabled", type := .boolean, accessFlags := 18, slot := 6, constantValue := 0 }, { name := "sessionEpoch", type := .long, accessFlags := 18, slot := 7, constantValue := 0 }, { name := "NAME", type := (.object "java/util/regex/Pattern"), accessFlags := 26, slot := 0, constantValue := 0 }]
  methods := #[k13m0, k13m1, k13m2, k13m3, k13m4, k13m5, k13m6, k13m7, k13m8, k13m9]
  instanceTypes := #[(.object "java/lang/String"), (.object "com/example/pen_over_wire/penoverwire/model/Role"), (.object "com/example/pen_over_wire/penoverwire/crypto/PasswordHash"), (.array .byte), .long, (.object "com/example/pen_over_wire/penoverwire/model/FailedAttempts"), .boolean, .long]
  staticTypes := #[(.object "java/util/regex/Pattern")]
  resolved := Array.replicate 128 none
  statics := none }

def pool14 : Array CpInfo := pool [(4, .class_ 6), (1, u "java/lang/Object"), (0, u "<init>"), (0, u "()V"), (5, .class_ 16), (1, u "java/lang/StringLatin1"), (104, u "$assertionsDisabled"), (0, u "Z"), (98, .class_ 223), (1, u "java/lang/StringLatin1$LinesSpliterator"), (166, .class_ 391), (0, u "java/lang/StringLatin1$CharsSpliterator")] 3

def k14m0 : Method := { name := "<init>", desc := "()V", sig := { parameters := [], returnType := none }, accessFlags := 0, code := none }
/-- java/lang/StringLatin1 -/
def k14 : Class := { plain "java/lang/StringLatin1" (some 0) with
  accessFlags := 48
  interfaces := #[]
  cf := some (fileOf pool14 14 #[.nestMembers #[390, 221]] #[{ accessFlags := 0, nameIndex := 7, descriptorIndex := 8, attributes := #[] }] 48 4 #[] #[{ accessFlags := 4120, nameIndex := 121, descriptorIndex := 122, attributes := #[] }])
  fields := #[{ name := "$assertionsDisabled", type := .boolean, accessFlags := 4120, slot := 0, constantValue := 0 }]
  methods := #[k14m0]
  instanceTypes := #[]
  staticTypes := #[.boolean]
  resolved := Array.replicate 395 none
  statics := none }

def pool15 : Array CpInfo := pool [(2, .class_ 4), (1, u "java/lang/Object"), (0, u "<init>"), (0, u "()V"), (17, .class_ 26), (1, u "jdk/internal/util/Preconditions"), (28, .class_ 56), (0, u "jdk/internal/util/Preconditions$4"), (57, .class_ 115), (0, u "jdk/internal/util/Preconditions$1"), (7, u "SIOOBE_FORMATTER"), (0, u "Ljava/util/function/BiFunction;"), (0, .class_ 126), (0, u "jdk/internal/util/Preconditions$2"), (3, u "AIOOBE_FORMATTER"), (0, .class_ 132), (0, u "jdk/internal/util/Preconditions$3"), (3, u "IOOBE_FORMATTER")] 57

def k15m0 : Method := { name := "<init>", desc := "()V", sig := { parameters := [], returnType := none }, accessFlags := 1, code := none }
/-- jdk/internal/util/Preconditions -/
def k15 : Class := { plain "jdk/internal/util/Preconditions" (some 0) with
  accessFlags := 33
  interfaces := #[]
  cf := some (fileOf pool15 24 #[.nestMembers #[55, 131, 125, 114]] #[{ accessFlags := 1, nameIndex := 5, descriptorIndex := 6, attributes := #[] }] 33 2 #[] #[{ accessFlags := 25, nameIndex := 123, descriptorIndex := 124, attributes := #[] }, { accessFlags := 25, nameIndex := 130, descriptorIndex := 124, attributes := #[] }, { accessFlags := 25, nameIndex := 136, descriptorIndex := 124, attributes := #[] }])
  fields := #[{ name := "SIOOBE_FORMATTER", type := (.object "java/util/function/BiFunction"), accessFlags := 25, slot := 0, constantValue := 0 }, { name := "AIOOBE_FORMATTER", type := (.object "java/util/function/BiFunction"), accessFlags := 25, slot := 1, constantValue := 0 }, { name := "IOOBE_FORMATTER", type := (.object "java/util/function/BiFunction"), accessFlags := 25, slot := 2, constantValue := 0 }]
  methods := #[k15m0]
  instanceTypes := #[]
  staticTypes := #[(.object "java/util/function/BiFunction"), (.object "java/util/function/BiFunction"), (.object "java/util/function/BiFunction")]
  resolved := Array.replicate 194 none
  statics := some 2 }

def pool16 : Array CpInfo := pool [(9, u "<init>"), (6, .class_ 18), (1, u "java/lang/Object"), (0, u "()V"), (1, .class_ 23), (1, u "jdk/internal/util/ArraysSupport"), (0, u "LOG2_ARRAY_LONG_INDEX_SCALE"), (0, u "I"), (2, u "U"), (0, u "Ljdk/internal/misc/Unsafe;"), (8, u "BIG_ENDIAN"), (0, u "Z"), (8, u "LOG2_BYTE_BIT_SIZE"), (4, u "LOG2_ARRAY_INT_INDEX_SCALE"), (54, u "JLA"), (0, u "Ljdk/internal/access/JavaLangAccess;"), (11, u "LOG2_ARRAY_BOOLEAN_INDEX_SCALE"), (9, u "LOG2_ARRAY_BYTE_INDEX_SCALE"), (5, u "LOG2_ARRAY_CHAR_INDEX_SCALE"), (5, u "LOG2_ARRAY_SHORT_INDEX_SCALE"), (18, u "LOG2_ARRAY_FLOAT_INDEX_SCALE"), (24, u "LOG2_ARRAY_DOUBLE_INDEX_SCALE"), (89, u "T_BOOLEAN"), (2, u "T_CHAR"), (1, u "T_FLOAT"), (1, u "T_DOUBLE"), (1, u "T_BYTE"), (1, u "T_SHORT"), (1, u "T_INT"), (1, u "T_LONG"), (1, u "SOFT_MAX_ARRAY_LENGTH")] 83

def k16m0 : Method := { name := "<init>", desc := "()V", sig := { parameters := [], returnType := none }, accessFlags := 2, code := none }
/-- jdk/internal/util/ArraysSupport -/
def k16 : Class := { plain "jdk/internal/util/ArraysSupport" (some 0) with
  accessFlags := 33
  interfaces := #[]
  cf := some (fileOf pool16 21 #[] #[{ accessFlags := 2, nameIndex := 9, descriptorIndex := 19, attributes := #[] }] 33 16 #[] #[{ accessFlags := 24, nameIndex := 28, descriptorIndex := 29, attributes := #[] }, { accessFlags := 26, nameIndex := 38, descriptorIndex := 39, attributes := #[] }, { accessFlags := 25, nameIndex := 121, descriptorIndex := 25, attributes := #[] }, { accessFlags := 25, nameIndex := 131, descriptorIndex := 25, attributes := #[] }, { accessFlags := 25, nameIndex := 137, descriptorIndex := 25, attributes := #[] }, { accessFlags := 25, nameIndex := 143, descriptorIndex := 25, attributes := #[] }, { accessFlags := 25, nameIndex := 53, descriptorIndex := 25, attributes := #[] }, { accessFlags := 25, nameIndex := 24, descriptorIndex := 25, attributes := #[] }, { accessFlags := 25, nameIndex := 162, descriptorIndex := 25, attributes := #[] }, { accessFlags := 25, nameIndex := 187, descriptorIndex := 25, attributes := #[] }, { accessFlags := 26, nameIndex := 48, descriptorIndex := 25, attributes := #[] }, { accessFlags := 25, nameIndex := 277, descriptorIndex := 25, attributes := #[] }, { accessFlags := 25, nameIndex := 280, descriptorIndex := 25, attributes := #[] }, { accessFlags := 25, nameIndex := 282, descriptorIndex := 25, attributes := #[] }, { accessFlags := 25, nameIndex := 284, descriptorIndex := 25, attributes := #[] }, { accessFlags := 25, nameIndex := 286, descriptorIndex := 25, attributes := #[] }, { accessFlags := 25, nameIndex := 288, descriptorIndex := 25, attributes := #[] }, { accessFlags := 25, nameIndex := 290, descriptorIndex := 25, attributes := #[] }, { accessFlags := 25, nameIndex := 292, descriptorIndex := 25, attributes := #[] }, { accessFlags := 26, nameIndex := 108, descriptorIndex := 109, attributes := #[] }, { accessFlags := 25, nameIndex := 294, descriptorIndex := 25, attributes := #[] }])
  fields := #[{ name := "U", type := (.object "jdk/internal/misc/Unsafe"), accessFlags := 24, slot := 0, constantValue := 0 }, { name := "BIG_ENDIAN", type := .boolean, accessFlags := 26, slot := 1, constantValue := 0 }, { name := "LOG2_ARRAY_BOOLEAN_INDEX_SCALE", type := .int, accessFlags := 25, slot := 2, constantValue := 0 }, { name := "LOG2_ARRAY_BYTE_INDEX_SCALE", type := .int, accessFlags := 25, slot := 3, constantValue := 0 }, { name := "LOG2_ARRAY_CHAR_INDEX_SCALE", type := .int, accessFlags := 25, slot := 4, constantValue := 0 }, { name := "LOG2_ARRAY_SHORT_INDEX_SCALE", type := .int, accessFlags := 25, slot := 5, constantValue := 0 }, { name := "LOG2_ARRAY_INT_INDEX_SCALE", type := .int, accessFlags := 25, slot := 6, constantValue := 0 }, { name := "LOG2_ARRAY_LONG_INDEX_SCALE", type := .int, accessFlags := 25, slot := 7, constantValue := 0 }, { name := "LOG2_ARRAY_FLOAT_INDEX_SCALE", type := .int, accessFlags := 25, slot := 8, constantValue := 0 }, { name := "LOG2_ARRAY_DOUBLE_INDEX_SCALE", type := .int, accessFlags := 25, slot := 9, constantValue := 0 }, { name := "LOG2_BYTE_BIT_SIZE", type := .int, accessFlags := 26, slot := 10, constantValue := 0 }, { name := "T_BOOLEAN", type := .int, accessFlags := 25, slot := 11, constantValue := 0 }, { name := "T_CHAR", type := .int, accessFlags := 25, slot := 12, constantValue := 0 }, { name := "T_FLOAT", type := .int, accessFlags := 25, slot := 13, constantValue := 0 }, { name := "T_DOUBLE", type := .int, accessFlags := 25, slot := 14, constantValue := 0 }, { name := "T_BYTE", type := .int, accessFlags := 25, slot := 15, constantValue := 0 }, { name := "T_SHORT", type := .int, accessFlags := 25, slot := 16, constantValue := 0 }, { name := "T_INT", type := .int, accessFlags := 25, slot := 17, constantValue := 0 }, { name := "T_LONG", type := .int, accessFlags := 25, slot := 18, constantValue := 0 }, { name := "JLA", type := (.object "jdk/internal/access/JavaLangAccess"), accessFlags := 26, slot := 19, constantValue := 0 }, { name := "SOFT_MAX_ARRAY_LENGTH", type := .int, accessFlags := 25, slot := 20, constantValue := 0 }]
  methods := #[k16m0]
  instanceTypes := #[]
  staticTypes := #[(.object "jdk/internal/misc/Unsafe"), .boolean, .int, .int, .int, .int, .int, .int, .int, .int, .int, .int, .int, .int, .int, .int, .int, .int, .int, (.object "jdk/internal/access/JavaLangAccess"), .int]
  resolved := Array.replicate 378 none
  statics := none }

def pool17 : Array CpInfo := pool [(1, u "java/lang/Cloneable"), (0, .class_ 1), (0, u "java/lang/Object"), (0, .class_ 3)] 3

/-- java/lang/Cloneable -/
def k17 : Class := { plain "java/lang/Cloneable" (some 0) with
  accessFlags := 1537
  interfaces := #[]
  cf := some (fileOf pool17 2 #[] #[] 1537 4 #[] #[])
  fields := #[]
  methods := #[]
  instanceTypes := #[]
  staticTypes := #[]
  resolved := Array.replicate 8 none
  statics := none }

/-- the primitive byte -/
def k18 : Class := { plain "byte" none with kind := .primitive 'B', accessFlags := 0x411 }
/-- [B -/
def k19 : Class := { plain "[B" (some 0) with kind := .array 18 .byte, interfaces := #[17, 2], accessFlags := 1041 }

/-- the primitive char -/
def k20 : Class := { plain "char" none with kind := .primitive 'C', accessFlags := 0x411 }
/-- [C -/
def k21 : Class := { plain "[C" (some 0) with kind := .array 20 .char, interfaces := #[17, 2], accessFlags := 1041 }

/-- the primitive int -/
def k22 : Class := { plain "int" none with kind := .primitive 'I', accessFlags := 0x411 }
/-- [I -/
def k23 : Class := { plain "[I" (some 0) with kind := .array 22 .int, interfaces := #[17, 2], accessFlags := 1041 }

def heap : Heap := #[{ cls := 7, slots := #[.long 0, .int 1, .null, .int 0, .null, .int 0, .int 0], vm := .statics 7 },
  { cls := 10, slots := #[.ref 3, .ref 4, .ref 5, .null], vm := .statics 10 },
  { cls := 15, slots := #[.null, .null, .null], vm := .statics 15 },
  { cls := 10, slots := #[.null, .int 0, .int 0, .null], vm := .none },
  { cls := 10, slots := #[.null, .int 1, .int 0, .null], vm := .none },
  { cls := 10, slots := #[.null, .int 2, .int 0, .null], vm := .none }]
def classes : Array Class := #[k0, k1, k2, k3, k4, k5, k6, k7, k8, k9, k10, k11, k12, k13, k14, k15, k16, k17, k18, k19, k20, k21, k22, k23]
def interned : List (Array UInt16 × Addr) := []
def slotsUsed : Nat := 26
def theMethod : MethodId := ⟨1, 1⟩
def args0 : Array Value := #[.int 5, .int 5, .long 5, .int 5, .long 5]
def aboutOver (below : List Frame) : State where
  vm := { classes := classes, interned := interned.toArray }
  heap := heap
  slotsUsed := slotsUsed
  threads := #[{ frames := .invoking theMethod args0 :: below }]
def below0 : List Frame := [.native { method := ⟨0, 0⟩, args := #[] }]
def about1 : State := aboutOver below0
def p0 : Program := .bare "" "" ""
def e0 : Env := launch0.env 0 0 0
theorem w_frames : about1.frames = Frame.invoking theMethod args0 :: below0 := rfl
set_option maxRecDepth 65536 in
theorem w_args : argsFit about1.vm theMethod args0 = true := by decide +kernel
set_option maxRecDepth 65536 in
theorem w_heap : heapFits about1 = true := by decide +kernel
set_option maxRecDepth 65536 in
theorem w_runnable : about1.curStatus? = some .runnable := by decide +kernel
set_option maxRecDepth 65536 in
theorem w_alone : about1.alone = true := by decide +kernel
set_option maxRecDepth 65536 in
theorem w_named : about1.methodNamed? x = some theMethod := by decide +kernel
set_option maxRecDepth 65536 in
theorem w_hears : about1.hears theMethod below0 = true := by decide +kernel
set_option maxRecDepth 65536 in
theorem w_ripe : about1.ripe theMethod args0 below0 = true := by decide +kernel
theorem w_running : about1.status = .running := rfl
set_option maxRecDepth 65536 in
theorem w_room : about1.hasRoom e0.platform room_1 = true :=
  launch0.hasRoom_least _ room_1 (by decide +kernel) (by decide +kernel) (by decide +kernel) (by decide +kernel) (by decide +kernel) (by decide +kernel)
theorem allAtoms_all (ts : List Jvm.Cond) (a : Array Jvm.Value) (st : Jvm.State) : (allAtoms ts).before a st = ts.all (fun c => c.before a st) := by
  induction ts with
  | nil => rfl
  | cons c t ih =>
    show (Jvm.Cond.and c (allAtoms t)).before a st = _
    rw [Jvm.Cond.before_and, ih, List.all_cons]
def words1 : List Jvm.Cond := Jvm.Cond.code x code maxLocals ret :: tables_1
/-- a 'code' word, met by the world's own term for the bytes: nothing is compared byte by byte -/
theorem code_word {y : MethodName} {bytes : ByteArray} {mx : Nat} {rt : Option FieldType} {a : Array Value} {s : State} {m : MethodId} {meth : Method} {c : Code} (h1 : s.methodNamed? y = some m) (h2 : s.vm.method? m = some meth) (h3 : meth.code = some c) (h4 : c.code = bytes)
    (h5 : (c.maxLocals == mx && c.exceptionTable.isEmpty && decide (c.maxStack ≤ mostOperands) && decide (meth.sig.returnType = rt) && !meth.locks && decide (parseMethodDescriptor y.desc = some meth.sig)) = true) : (Jvm.Cond.code y bytes mx rt).before a s = true := by
  simp only [Bool.and_eq_true, beq_iff_eq, Bool.not_eq_true', decide_eq_true_eq] at h5
  obtain ⟨⟨⟨⟨⟨g1, g2⟩, g3⟩, g4⟩, g5⟩, g6⟩ := h5
  simp [Cond.before, Cond.holds, Cond.value, h1, h2, h3, h4, g1, g2, g3, g4, g5, g6]
def isCode : Jvm.Cond → Bool
  | .code _ _ _ _ => true
  | _ => false
theorem all_split {L : List Jvm.Cond} {P : Jvm.Cond → Bool} (h1 : L.all (fun c => isCode c || P c) = true) (h2 : ∀ c ∈ L.filter isCode, P c = true) : L.all P = true := by
  refine List.all_eq_true.mpr fun c hc => ?_
  have h := List.all_eq_true.mp h1 c hc
  rcases Bool.eq_false_or_eq_true (isCode c) with hi | hi
  · exact h2 c (List.mem_filter.mpr ⟨hc, hi⟩)
  · simpa [hi] using h
set_option maxRecDepth 65536 in
theorem w_c0 : (Jvm.Cond.code x code maxLocals ret).before args0 about1 = true := code_word (m := ⟨1, 1⟩) (meth := k1m1) (c := k1c1) (by decide +kernel) rfl rfl rfl (by decide +kernel)
set_option maxRecDepth 65536 in
theorem w_c1 : (Jvm.Cond.code ({ cls := "java/lang/String", name := "<init>", desc := "([C)V" } : Jvm.MethodName) jdk_42_method_3_code (2 : Nat) (Option.none : Option Jvm.ClassFile.FieldType)).before args0 about1 = true := code_word (m := ⟨7, 1⟩) (meth := k7m1) (c := k7c1) (by decide +kernel) rfl rfl rfl (by decide +kernel)
set_option maxRecDepth 65536 in
theorem w_c2 : (Jvm.Cond.code ({ cls := "java/lang/String", name := "<init>", desc := "([CIILjava/lang/Void;)V" } : Jvm.MethodName) jdk_42_method_149_code (6 : Nat) (Option.none : Option Jvm.ClassFile.FieldType)).before args0 about1 = true := code_word (m := ⟨7, 2⟩) (meth := k7m2) (c := k7c2) (by decide +kernel) rfl rfl rfl (by decide +kernel)
set_option maxRecDepth 65536 in
theorem w_c3 : (Jvm.Cond.code ({ cls := "java/lang/Object", name := "<init>", desc := "()V" } : Jvm.MethodName) object_method_1_code (1 : Nat) (Option.none : Option Jvm.ClassFile.FieldType)).before args0 about1 = true := code_word (m := ⟨0, 0⟩) (meth := k0m0) (c := k0c0) (by decide +kernel) rfl rfl rfl (by decide +kernel)
set_option maxRecDepth 65536 in
theorem w_c4 : (Jvm.Cond.code ({ cls := "java/lang/StringUTF16", name := "compress", desc := "([CII)[B" } : Jvm.MethodName) jdk_52_method_16_code (6 : Nat) (Option.some (Jvm.ClassFile.FieldType.array Jvm.ClassFile.FieldType.byte))).before args0 about1 = true := code_word (m := ⟨8, 2⟩) (meth := k8m2) (c := k8c2) (by decide +kernel) rfl rfl rfl (by decide +kernel)
set_option maxRecDepth 65536 in
theorem w_c5 : (Jvm.Cond.code ({ cls := "java/lang/StringUTF16", name := "compress", desc := "([CI[BII)I" } : Jvm.MethodName) jdk_52_method_21_code (7 : Nat) (Option.some Jvm.ClassFile.FieldType.int)).before args0 about1 = true := code_word (m := ⟨8, 3⟩) (meth := k8m3) (c := k8c3) (by decide +kernel) rfl rfl rfl (by decide +kernel)
set_option maxRecDepth 65536 in
theorem w_c6 : (Jvm.Cond.code ({ cls := "java/lang/StringUTF16", name := "coderFromArrayLen", desc := "([BI)B" } : Jvm.MethodName) jdk_52_method_15_code (2 : Nat) (Option.some Jvm.ClassFile.FieldType.byte)).before args0 about1 = true := code_word (m := ⟨8, 1⟩) (meth := k8m1) (c := k8c1) (by decide +kernel) rfl rfl rfl (by decide +kernel)
set_option maxRecDepth 65536 in
theorem w_c7 : (Jvm.Cond.code ({ cls := "com/example/pen_over_wire/penoverwire/model/FailedAttempts", name := "<init>", desc := "(IZ)V" } : Jvm.MethodName) prog_29_method_1_code (3 : Nat) (Option.none : Option Jvm.ClassFile.FieldType)).before args0 about1 = true := code_word (m := ⟨12, 0⟩) (meth := k12m0) (c := k12c0) (by decide +kernel) rfl rfl rfl (by decide +kernel)
set_option maxRecDepth 65536 in
theorem w_c8 : (Jvm.Cond.code ({ cls := "java/lang/Record", name := "<init>", desc := "()V" } : Jvm.MethodName) jdk_30_method_1_code (1 : Nat) (Option.none : Option Jvm.ClassFile.FieldType)).before args0 about1 = true := code_word (m := ⟨11, 0⟩) (meth := k11m0) (c := k11c0) (by decide +kernel) rfl rfl rfl (by decide +kernel)
set_option maxRecDepth 65536 in
theorem w_c9 : (Jvm.Cond.code ({ cls := "com/example/pen_over_wire/penoverwire/model/User", name := "<init>", desc := "(Ljava/lang/String;Lcom/example/pen_over_wire/penoverwire/model/Role;Lcom/example/pen_over_wire/penoverwire/crypto/PasswordHash;[BJLcom/example/pen_over_wire/penoverwire/model/FailedAttempts;ZJ)V" } : Jvm.MethodName) prog_34_method_1_code (11 : Nat) (Option.none : Option Jvm.ClassFile.FieldType)).before args0 about1 = true := code_word (m := ⟨13, 0⟩) (meth := k13m0) (c := k13c0) (by decide +kernel) rfl rfl rfl (by decide +kernel)
set_option maxRecDepth 65536 in
theorem w_c10 : (Jvm.Cond.code ({ cls := "com/example/pen_over_wire/penoverwire/model/User", name := "disable", desc := "()Lcom/example/pen_over_wire/penoverwire/model/User;" } : Jvm.MethodName) prog_34_method_4_code (1 : Nat) (Option.some (Jvm.ClassFile.FieldType.object "com/example/pen_over_wire/penoverwire/model/User"))).before args0 about1 = true := code_word (m := ⟨13, 1⟩) (meth := k13m1) (c := k13c1) (by decide +kernel) rfl rfl rfl (by decide +kernel)
set_option maxRecDepth 65536 in
theorem w_c11 : (Jvm.Cond.code ({ cls := "com/example/pen_over_wire/penoverwire/model/User", name := "name", desc := "()Ljava/lang/String;" } : Jvm.MethodName) prog_34_method_11_code (1 : Nat) (Option.some (Jvm.ClassFile.FieldType.object "java/lang/String"))).before args0 about1 = true := code_word (m := ⟨13, 2⟩) (meth := k13m2) (c := k13c2) (by decide +kernel) rfl rfl rfl (by decide +kernel)
set_option maxRecDepth 65536 in
theorem w_c12 : (Jvm.Cond.code ({ cls := "com/example/pen_over_wire/penoverwire/model/User", name := "role", desc := "()Lcom/example/pen_over_wire/penoverwire/model/Role;" } : Jvm.MethodName) prog_34_method_12_code (1 : Nat) (Option.some (Jvm.ClassFile.FieldType.object "com/example/pen_over_wire/penoverwire/model/Role"))).before args0 about1 = true := code_word (m := ⟨13, 3⟩) (meth := k13m3) (c := k13c3) (by decide +kernel) rfl rfl rfl (by decide +kernel)
set_option maxRecDepth 65536 in
theorem w_c13 : (Jvm.Cond.code ({ cls := "com/example/pen_over_wire/penoverwire/model/User", name := "password", desc := "()Lcom/example/pen_over_wire/penoverwire/crypto/PasswordHash;" } : Jvm.MethodName) prog_34_method_13_code (1 : Nat) (Option.some (Jvm.ClassFile.FieldType.object "com/example/pen_over_wire/penoverwire/crypto/PasswordHash"))).before args0 about1 = true := code_word (m := ⟨13, 4⟩) (meth := k13m4) (c := k13c4) (by decide +kernel) rfl rfl rfl (by decide +kernel)
set_option maxRecDepth 65536 in
theorem w_c14 : (Jvm.Cond.code ({ cls := "com/example/pen_over_wire/penoverwire/model/User", name := "totpSecret", desc := "()[B" } : Jvm.MethodName) prog_34_method_14_code (1 : Nat) (Option.some (Jvm.ClassFile.FieldType.array Jvm.ClassFile.FieldType.byte))).before args0 about1 = true := code_word (m := ⟨13, 5⟩) (meth := k13m5) (c := k13c5) (by decide +kernel) rfl rfl rfl (by decide +kernel)
set_option maxRecDepth 65536 in
theorem w_c15 : (Jvm.Cond.code ({ cls := "com/example/pen_over_wire/penoverwire/model/User", name := "lastOtpStep", desc := "()J" } : Jvm.MethodName) prog_34_method_15_code (1 : Nat) (Option.some Jvm.ClassFile.FieldType.long)).before args0 about1 = true := code_word (m := ⟨13, 6⟩) (meth := k13m6) (c := k13c6) (by decide +kernel) rfl rfl rfl (by decide +kernel)
set_option maxRecDepth 65536 in
theorem w_c16 : (Jvm.Cond.code ({ cls := "com/example/pen_over_wire/penoverwire/model/User", name := "failedLogins", desc := "()Lcom/example/pen_over_wire/penoverwire/model/FailedAttempts;" } : Jvm.MethodName) prog_34_method_16_code (1 : Nat) (Option.some (Jvm.ClassFile.FieldType.object "com/example/pen_over_wire/penoverwire/model/FailedAttempts"))).before args0 about1 = true := code_word (m := ⟨13, 7⟩) (meth := k13m7) (c := k13c7) (by decide +kernel) rfl rfl rfl (by decide +kernel)
set_option maxRecDepth 65536 in
theorem w_c17 : (Jvm.Cond.code ({ cls := "com/example/pen_over_wire/penoverwire/model/User", name := "disabled", desc := "()Z" } : Jvm.MethodName) prog_34_method_17_code (1 : Nat) (Option.some Jvm.ClassFile.FieldType.boolean)).before args0 about1 = true := code_word (m := ⟨13, 8⟩) (meth := k13m8) (c := k13c8) (by decide +kernel) rfl rfl rfl (by decide +kernel)
set_option maxRecDepth 65536 in
theorem w_c18 : (Jvm.Cond.code ({ cls := "com/example/pen_over_wire/penoverwire/model/User", name := "sessionEpoch", desc := "()J" } : Jvm.MethodName) prog_34_method_18_code (1 : Nat) (Option.some Jvm.ClassFile.FieldType.long)).before args0 about1 = true := code_word (m := ⟨13, 9⟩) (meth := k13m9) (c := k13c9) (by decide +kernel) rfl rfl rfl (by decide +kernel)
def codes1 : List Jvm.Cond := [Jvm.Cond.code x code maxLocals ret, Jvm.Cond.code ({ cls := "java/lang/String", name := "<init>", desc := "([C)V" } : Jvm.MethodName) jdk_42_method_3_code (2 : Nat) (Option.none : Option Jvm.ClassFile.FieldType), Jvm.Cond.code ({ cls := "java/lang/String", name := "<init>", desc := "([CIILjava/lang/Void;)V" } : Jvm.MethodName) jdk_42_method_149_code (6 : Nat) (Option.none : Option Jvm.ClassFile.FieldType), Jvm.Cond.code ({ cls := "java/lang/Object", name := "<init>", desc := "()V" } : Jvm.MethodName) object_method_1_code (1 : Nat) (Option.none : Option Jvm.ClassFile.FieldType), Jvm.Cond.code ({ cls := "java/lang/StringUTF16", name := "compress", desc := "([CII)[B" } : Jvm.MethodName) jdk_52_method_16_code (6 : Nat) (Option.some (Jvm.ClassFile.FieldType.array Jvm.ClassFile.FieldType.byte)), Jvm.Cond.code ({ cls := "java/lang/StringUTF16", name := "compress", desc := "([CI[BII)I" } : Jvm.MethodName) jdk_52_method_21_code (7 : Nat) (Option.some Jvm.ClassFile.FieldType.int), Jvm.Cond.code ({ cls := "java/lang/StringUTF16", name := "coderFromArrayLen", desc := "([BI)B" } : Jvm.MethodName) jdk_52_method_15_code (2 : Nat) (Option.some Jvm.ClassFile.FieldType.byte), Jvm.Cond.code ({ cls := "com/example/pen_over_wire/penoverwire/model/FailedAttempts", name := "<init>", desc := "(IZ)V" } : Jvm.MethodName) prog_29_method_1_code (3 : Nat) (Option.none : Option Jvm.ClassFile.FieldType), Jvm.Cond.code ({ cls := "java/lang/Record", name := "<init>", desc := "()V" } : Jvm.MethodName) jdk_30_method_1_code (1 : Nat) (Option.none : Option Jvm.ClassFile.FieldType), Jvm.Cond.code ({ cls := "com/example/pen_over_wire/penoverwire/model/User", name := "<init>", desc := "(Ljava/lang/String;Lcom/example/pen_over_wire/penoverwire/model/Role;Lcom/example/pen_over_wire/penoverwire/crypto/PasswordHash;[BJLcom/example/pen_over_wire/penoverwire/model/FailedAttempts;ZJ)V" } : Jvm.MethodName) prog_34_method_1_code (11 : Nat) (Option.none : Option Jvm.ClassFile.FieldType), Jvm.Cond.code ({ cls := "com/example/pen_over_wire/penoverwire/model/User", name := "disable", desc := "()Lcom/example/pen_over_wire/penoverwire/model/User;" } : Jvm.MethodName) prog_34_method_4_code (1 : Nat) (Option.some (Jvm.ClassFile.FieldType.object "com/example/pen_over_wire/penoverwire/model/User")), Jvm.Cond.code ({ cls := "com/example/pen_over_wire/penoverwire/model/User", name := "name", desc := "()Ljava/lang/String;" } : Jvm.MethodName) prog_34_method_11_code (1 : Nat) (Option.some (Jvm.ClassFile.FieldType.object "java/lang/String")), Jvm.Cond.code ({ cls := "com/example/pen_over_wire/penoverwire/model/User", name := "role", desc := "()Lcom/example/pen_over_wire/penoverwire/model/Role;" } : Jvm.MethodName) prog_34_method_12_code (1 : Nat) (Option.some (Jvm.ClassFile.FieldType.object "com/example/pen_over_wire/penoverwire/model/Role")), Jvm.Cond.code ({ cls := "com/example/pen_over_wire/penoverwire/model/User", name := "password", desc := "()Lcom/example/pen_over_wire/penoverwire/crypto/PasswordHash;" } : Jvm.MethodName) prog_34_method_13_code (1 : Nat) (Option.some (Jvm.ClassFile.FieldType.object "com/example/pen_over_wire/penoverwire/crypto/PasswordHash")), Jvm.Cond.code ({ cls := "com/example/pen_over_wire/penoverwire/model/User", name := "totpSecret", desc := "()[B" } : Jvm.MethodName) prog_34_method_14_code (1 : Nat) (Option.some (Jvm.ClassFile.FieldType.array Jvm.ClassFile.FieldType.byte)), Jvm.Cond.code ({ cls := "com/example/pen_over_wire/penoverwire/model/User", name := "lastOtpStep", desc := "()J" } : Jvm.MethodName) prog_34_method_15_code (1 : Nat) (Option.some Jvm.ClassFile.FieldType.long), Jvm.Cond.code ({ cls := "com/example/pen_over_wire/penoverwire/model/User", name := "failedLogins", desc := "()Lcom/example/pen_over_wire/penoverwire/model/FailedAttempts;" } : Jvm.MethodName) prog_34_method_16_code (1 : Nat) (Option.some (Jvm.ClassFile.FieldType.object "com/example/pen_over_wire/penoverwire/model/FailedAttempts")), Jvm.Cond.code ({ cls := "com/example/pen_over_wire/penoverwire/model/User", name := "disabled", desc := "()Z" } : Jvm.MethodName) prog_34_method_17_code (1 : Nat) (Option.some Jvm.ClassFile.FieldType.boolean), Jvm.Cond.code ({ cls := "com/example/pen_over_wire/penoverwire/model/User", name := "sessionEpoch", desc := "()J" } : Jvm.MethodName) prog_34_method_18_code (1 : Nat) (Option.some Jvm.ClassFile.FieldType.long)]
set_option maxRecDepth 65536 in
theorem codes_eq : words1.filter isCode = codes1 := rfl
theorem w_codes : ∀ c ∈ words1.filter isCode, c.before args0 about1 = true := by
  rw [codes_eq]
  intro c hc
  simp only [codes1, List.mem_cons, List.not_mem_nil, or_false] at hc
  rcases hc with rfl | rfl | rfl | rfl | rfl | rfl | rfl | rfl | rfl | rfl | rfl | rfl | rfl | rfl | rfl | rfl | rfl | rfl | rfl
  · exact w_c0
  · exact w_c1
  · exact w_c2
  · exact w_c3
  · exact w_c4
  · exact w_c5
  · exact w_c6
  · exact w_c7
  · exact w_c8
  · exact w_c9
  · exact w_c10
  · exact w_c11
  · exact w_c12
  · exact w_c13
  · exact w_c14
  · exact w_c15
  · exact w_c16
  · exact w_c17
  · exact w_c18
set_option maxRecDepth 65536 in
theorem w_t1 : (words1.take 24).all (fun c => isCode c || c.before args0 about1) = true := by decide +kernel
set_option maxRecDepth 65536 in
theorem w_t2 : ((words1.drop 24).take 24).all (fun c => isCode c || c.before args0 about1) = true := by decide +kernel
set_option maxRecDepth 65536 in
theorem w_t3 : (((words1.drop 24).drop 24).take 24).all (fun c => isCode c || c.before args0 about1) = true := by decide +kernel
set_option maxRecDepth 65536 in
theorem w_t4 : ((((words1.drop 24).drop 24).drop 24).take 24).all (fun c => isCode c || c.before args0 about1) = true := by decide +kernel
set_option maxRecDepth 65536 in
theorem w_t5 : (((((words1.drop 24).drop 24).drop 24).drop 24).take 24).all (fun c => isCode c || c.before args0 about1) = true := by decide +kernel
set_option maxRecDepth 65536 in
theorem w_t6 : (((((words1.drop 24).drop 24).drop 24).drop 24).drop 24).all (fun c => isCode c || c.before args0 about1) = true := by decide +kernel
theorem w_tables : (allAtoms (Jvm.Cond.code x code maxLocals ret :: tables_1)).before args0 about1 = true := by
  rw [allAtoms_all]
  show words1.all (fun c => c.before args0 about1) = true
  refine all_split ?_ w_codes
  rw [← List.take_append_drop 24 words1, List.all_append, w_t1, ← List.take_append_drop 24 (words1.drop 24), List.all_append, w_t2, ← List.take_append_drop 24 ((words1.drop 24).drop 24), List.all_append, w_t3, ← List.take_append_drop 24 (((words1.drop 24).drop 24).drop 24), List.all_append, w_t4, ← List.take_append_drop 24 ((((words1.drop 24).drop 24).drop 24).drop 24), List.all_append, w_t5, w_t6]
  rfl
set_option maxRecDepth 65536 in
theorem w_rest : rest_1_c.before args0 about1 = true := by decide +kernel
set_option maxRecDepth 65536 in
theorem w_case : (Jvm.Cond.and given_1 narrow_1).before args0 about1 = true := by decide +kernel
theorem w_applies : (headSpec (Jvm.Cond.code x code maxLocals ret :: tables_1) room_1).applies x e0.platform about1 = true :=
  (Spec.applies_iff w_frames).mpr ⟨w_running, w_runnable, w_alone, w_named, w_hears, w_ripe, w_room, w_tables⟩
theorem atStart : AtStart classFile x code maxLocals ret World_1 tables_1 room_1 Calls_1 rest_1 Pre_1 launch0 p0 e0 about1 theMethod args0 below0 :=
  ⟨lists_1, trivial, launch0.admits_env _ _ _, launch0.least_env, fairChoices_fair.cas, fairChoices_fair.clock, w_frames, w_args, w_heap, w_applies, trivial, w_rest, w_case⟩
end start1
theorem witness_1 : WitnessClaimed_1 := ⟨start1.p0, start1.e0, start1.about1, start1.theMethod, start1.args0, start1.below0, start1.atStart⟩
end Jvm.Pilot.@@N@@
