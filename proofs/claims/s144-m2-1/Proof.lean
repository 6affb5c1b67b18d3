import JvmDerived
import JvmDerived.Pilot.@@N@@Statement
import JvmDerived.Pilot.@@N@@Code
set_option linter.unusedVariables false
set_option linter.unusedSimpArgs false
namespace Jvm.RoadKit
open Sem ClassFile Op Lib Jvm.Stand Jvm.Free Jvm.LawKit
section New
variable {p : Program} {l : Launch} {e : Env} {R : Room} {s : State} {m : MethodId} {args : Array Value} {below : List Frame} {meth : Method} {c : Code} {T : State} {locs : List Loc} {cells slots : Nat}
theorem retI (X : Stand p l e R s m args below meth c T locs cells slots) (hx : p.tables.exec = Jvm.exec) {pc : Nat} {Ls : Array Slot} {z : Int32} {rest : List Value} (hret : meth.sig.returnType = some .int) (hd : decode c.code pc = .ok (.ireturn, 1)) {fs : List Frame}
    (hl : ∀ (f : JFrame) (acts : List Action), f.method = m → f.locked = none → f.entered = [] → (doReturn e (T.setTop f) acts (some (.int z))).1 = T.setFrames fs) : Steps p.tables e below (T.setTop (mkF m pc Ls (.int z :: rest))) (T.setFrames fs) := by
  have hm' : T.vm.method? m = some meth := X.method'
  have hn : narrow .int (.int z) = .int z := rfl
  show Steps p.tables e below (T.setTop { method := m, pc := pc, locals := Ls, stack := _ :: rest, locked := none }) _
  jvm_step X.here [X.here.top, hx, hd, hm', hret, hn]
  first | (intro acts; rw [hl _ acts rfl rfl rfl]) | rw [hl _ _ rfl rfl rfl]
  exact Steps.refl _
theorem retL (X : Stand p l e R s m args below meth c T locs cells slots) (hx : p.tables.exec = Jvm.exec) {pc : Nat} {Ls : Array Slot} {z : Int64} {rest : List Value} (hret : meth.sig.returnType = some .long) (hd : decode c.code pc = .ok (.lreturn, 1)) {fs : List Frame}
    (hl : ∀ (f : JFrame) (acts : List Action), f.method = m → f.locked = none → f.entered = [] → (doReturn e (T.setTop f) acts (some (.long z))).1 = T.setFrames fs) : Steps p.tables e below (T.setTop (mkF m pc Ls (.long z :: rest))) (T.setFrames fs) := by
  have hm' : T.vm.method? m = some meth := X.method'
  have hn : narrow .long (.long z) = .long z := rfl
  show Steps p.tables e below (T.setTop { method := m, pc := pc, locals := Ls, stack := _ :: rest, locked := none }) _
  jvm_step X.here [X.here.top, hx, hd, hm', hret, hn]
  first | (intro acts; rw [hl _ acts rfl rfl rfl]) | rw [hl _ _ rfl rfl rfl]
  exact Steps.refl _
theorem retA (X : Stand p l e R s m args below meth c T locs cells slots) (hx : p.tables.exec = Jvm.exec) {pc : Nat} {Ls : Array Slot} {z : Value} {ty : FieldType} {rest : List Value} (hv : z.isRef = true) (hty : ty.isReference = true) (hret : meth.sig.returnType = some ty) (hd : decode c.code pc = .ok (.areturn, 1)) {fs : List Frame}
    (hl : ∀ (f : JFrame) (acts : List Action), f.method = m → f.locked = none → f.entered = [] → (doReturn e (T.setTop f) acts (some z)).1 = T.setFrames fs) : Steps p.tables e below (T.setTop (mkF m pc Ls (z :: rest))) (T.setFrames fs) := by
  have hm' : T.vm.method? m = some meth := X.method'
  show Steps p.tables e below (T.setTop { method := m, pc := pc, locals := Ls, stack := _ :: rest, locked := none }) _
  jvm_step X.here [X.here.top, hx, hd, hm', hret, hv, hty]
  first | (intro acts; rw [hl _ acts rfl rfl rfl]) | rw [hl _ _ rfl rfl rfl]
  exact Steps.refl _
end New
theorem own_fw {tb : Tables} {e : Env} {below : List Frame} {A B : State} {P : State → Outcome → Prop} (h : ∀ t, Steps tb e below A t → Steps tb e below B t) (k : ∃ t o, Steps tb e below A t ∧ P t o) : ∃ t o, Steps tb e below B t ∧ P t o := by
  obtain ⟨t, o, h1, h2⟩ := k
  exact ⟨t, o, h t h1, h2⟩
def own_irem (x y : Int32) : Int32 := x - (x / y) * y
def own_lrem (x y : Int64) : Int64 := x - (x / y) * y
end Jvm.RoadKit
namespace Jvm.Pilot.@@N@@
open Jvm Jvm.ClassFile Sem Op Lib Jvm.Free Jvm.Stand Jvm.LawKit Jvm.RoadKit Bundle Jvm.Pilot.@@N@@.Jvm.D
theorem d1_0 : decode prog_36_method_27_code 0 = .ok (.iload_n 0, 1) := by decide +kernel
theorem d1_1 : decode prog_36_method_27_code 1 = .ok (.bipush 97, 2) := by decide +kernel
theorem d1_3 : decode prog_36_method_27_code 3 = .ok (.if_icmp .lt 20, 3) := by decide +kernel
theorem d1_6 : decode prog_36_method_27_code 6 = .ok (.iload_n 0, 1) := by decide +kernel
theorem d1_7 : decode prog_36_method_27_code 7 = .ok (.bipush 122, 2) := by decide +kernel
theorem d1_9 : decode prog_36_method_27_code 9 = .ok (.if_icmp .gt 14, 3) := by decide +kernel
theorem d1_12 : decode prog_36_method_27_code 12 = .ok (.iload_n 0, 1) := by decide +kernel
theorem d1_13 : decode prog_36_method_27_code 13 = .ok (.bipush 97, 2) := by decide +kernel
theorem d1_15 : decode prog_36_method_27_code 15 = .ok (.isub, 1) := by decide +kernel
theorem d1_16 : decode prog_36_method_27_code 16 = .ok (.bipush 65, 2) := by decide +kernel
theorem d1_18 : decode prog_36_method_27_code 18 = .ok (.iadd, 1) := by decide +kernel
theorem d1_19 : decode prog_36_method_27_code 19 = .ok (.i2c, 1) := by decide +kernel
theorem d1_20 : decode prog_36_method_27_code 20 = .ok (.goto 4, 3) := by decide +kernel
theorem d1_23 : decode prog_36_method_27_code 23 = .ok (.iload_n 0, 1) := by decide +kernel
theorem d1_24 : decode prog_36_method_27_code 24 = .ok (.ireturn, 1) := by decide +kernel
theorem pn1 : plainName "com/example/copperline/copperline/Lexer" = true := by first | (simp [plainName, overriddenIn]; done) | decide +kernel
theorem ef1 (m : MethodId) (p0 : Int32) : entryFrame m #[(.int p0)] 1 = mkF m 0 #[.val (.int p0)] [] := by first | (simp [entryFrame, mkF, argsToLocals, Value.category]; done) | rfl
def upF (p0 : Int32) : Int32 := (if p0 < (97 : Int32) then (nar .char p0) else (if (122 : Int32) < p0 then (nar .char p0) else (nar .char (((p0 - (97 : Int32)) + (65 : Int32)).toUInt32.toUInt16.toUInt32.toInt32))))
def Q1 (Z : State) (p0 : Int32) (h0 : Heap) (n0 : Nat) (v : Option Value) (h : Heap) (L : List Loc) : Prop := v = some (.int (upF p0)) ∧ Fr n0 L ∧ h = h0
set_option maxRecDepth 65536 in
set_option maxHeartbeats 40000000 in
theorem rm1 (l : Launch) (Z : State) (a0 : Array Value) (hw : ∀ d ∈ tables_1, d.before a0 Z = true) (ws : List Jvm.Cond) (p0 : Int32) (h0 : Heap) (n0 : Nat) (Z0 : n0 ≤ h0.size) :
    MetFree l (⟨"com/example/copperline/copperline/Lexer", "upperCase", "(C)C"⟩ : MethodName) (head1 (Jvm.Cond.code (⟨"com/example/copperline/copperline/Lexer", "upperCase", "(C)C"⟩ : MethodName) prog_36_method_27_code 1 (some .char) :: ws) ({ frames := 0, cells := 0, slots := 0, locals := 0 } : Room)) (fun a U => a = #[(.int p0)] ∧ Z.Warmed39 U.vm ∧ U.heap = h0) (fun _ _ _ _ _ => True) (fun _ U o U' => ∃ v L, o = .returned v ∧ Q1 Z p0 h0 n0 v U'.heap L ∧ FrameEnd U o U' L ({ frames := 0, cells := 0, slots := 0, locals := 0 } : Room).cells ({ frames := 0, cells := 0, slots := 0, locals := 0 } : Room).slots) := by
  refine MetFree.of_bodySF (plainFor_of_name pn1) hisR ?_
  intro p e s m args below meth c s₁ Bd hml0 hP hK
  obtain ⟨rfl, hZ, hh⟩ := hP
  have hx := Bd.exec
  have hby := Bd.bytes
  have hml : c.maxLocals = 1 := hml0
  have hown : s.vm.findClass "com/example/copperline/copperline/Lexer" = some m.cls := findClass_of_methodNamed Bd.named
  have hnm := (name_of_methodNamed Bd.named Bd.method).1
  have X0 : Stand p l e ({ frames := 0, cells := 0, slots := 0, locals := 0 } : Room) s m #[(.int p0)] below meth c s₁ [] 0 0 := Stand.of_body Bd
  have e0 : s₁.heap = h0 := by rw [← hh, Bd.state]; rfl
  have N0 := Fr.nil n0
  refine own_fw (A := s₁.setTop (mkF m 0 #[.val (.int p0)] [])) (fun t k => castTop (ef1 m p0) k) ?_
  refine own_fw (A := s₁.setTop (mkF m 3 #[.val (.int p0)] [(.int (97 : Int32)), (.int p0)])) (fun t k => ?_) ?_
  · show Steps p.tables e below (s₁.setTop (mkF m 0 #[.val (.int p0)] [])) t
    refine XS.iloadN X0.here hx rfl (hb hby d1_0) rfl ?_
    show Steps p.tables e below (s₁.setTop (mkF m 1 #[.val (.int p0)] [(.int p0)])) t
    refine XS.bipush X0.here hx rfl (hb hby d1_1) ?_
    exact k
  by_cases hc1_1 : p0 < (97 : Int32)
  · refine own_fw (A := s₁.setTop (mkF m 23 #[.val (.int p0)] [])) (fun t k => ?_) ?_
    · show Steps p.tables e below (s₁.setTop (mkF m 3 #[.val (.int p0)] [(.int (97 : Int32)), (.int p0)])) t
      refine XS.icmpYes X0.here hx rfl (pc0 := 3) (pc' := 23) rfl (hb hby d1_3) rfl (tlt hc1_1).1 (by decide) (by decide) ?_
      exact k
    refine own_fw (A := s₁.setTop (mkF m 24 #[.val (.int p0)] [(.int p0)])) (fun t k => ?_) ?_
    · show Steps p.tables e below (s₁.setTop (mkF m 23 #[.val (.int p0)] [])) t
      refine XS.iloadN X0.here hx rfl (hb hby d1_23) rfl ?_
      exact k
    obtain ⟨fs, hr, hrun, hended, hW, hsame⟩ := X0.leave (v := some (.int (nar .char p0))) (fun h => by rw [Bd.returns] at h; cases h)
    refine ⟨_, _, retN X0 hx (t := .char) Bd.returns (by simp) (hb hby d1_24) hr, hrun, hended, _, _, rfl, ⟨(by rw [upF, if_pos hc1_1]), N0, ?_⟩, ⟨_, rfl⟩, hW, hsame.mono (by decide) (by decide)⟩
    exact e0
  · refine own_fw (A := s₁.setTop (mkF m 6 #[.val (.int p0)] [])) (fun t k => ?_) ?_
    · show Steps p.tables e below (s₁.setTop (mkF m 3 #[.val (.int p0)] [(.int (97 : Int32)), (.int p0)])) t
      refine XS.icmpNo X0.here hx rfl (hb hby d1_3) rfl (flt hc1_1).1 ?_
      exact k
    refine own_fw (A := s₁.setTop (mkF m 9 #[.val (.int p0)] [(.int (122 : Int32)), (.int p0)])) (fun t k => ?_) ?_
    · show Steps p.tables e below (s₁.setTop (mkF m 6 #[.val (.int p0)] [])) t
      refine XS.iloadN X0.here hx rfl (hb hby d1_6) rfl ?_
      show Steps p.tables e below (s₁.setTop (mkF m 7 #[.val (.int p0)] [(.int p0)])) t
      refine XS.bipush X0.here hx rfl (hb hby d1_7) ?_
      exact k
    by_cases hc1_2 : (122 : Int32) < p0
    · refine own_fw (A := s₁.setTop (mkF m 23 #[.val (.int p0)] [])) (fun t k => ?_) ?_
      · show Steps p.tables e below (s₁.setTop (mkF m 9 #[.val (.int p0)] [(.int (122 : Int32)), (.int p0)])) t
        refine XS.icmpYes X0.here hx rfl (pc0 := 9) (pc' := 23) rfl (hb hby d1_9) rfl (tlt hc1_2).2.2.1 (by decide) (by decide) ?_
        exact k
      refine own_fw (A := s₁.setTop (mkF m 24 #[.val (.int p0)] [(.int p0)])) (fun t k => ?_) ?_
      · show Steps p.tables e below (s₁.setTop (mkF m 23 #[.val (.int p0)] [])) t
        refine XS.iloadN X0.here hx rfl (hb hby d1_23) rfl ?_
        exact k
      obtain ⟨fs, hr, hrun, hended, hW, hsame⟩ := X0.leave (v := some (.int (nar .char p0))) (fun h => by rw [Bd.returns] at h; cases h)
      refine ⟨_, _, retN X0 hx (t := .char) Bd.returns (by simp) (hb hby d1_24) hr, hrun, hended, _, _, rfl, ⟨(by rw [upF, if_neg hc1_1, if_pos hc1_2]), N0, ?_⟩, ⟨_, rfl⟩, hW, hsame.mono (by decide) (by decide)⟩
      exact e0
    · refine own_fw (A := s₁.setTop (mkF m 12 #[.val (.int p0)] [])) (fun t k => ?_) ?_
      · show Steps p.tables e below (s₁.setTop (mkF m 9 #[.val (.int p0)] [(.int (122 : Int32)), (.int p0)])) t
        refine XS.icmpNo X0.here hx rfl (hb hby d1_9) rfl (flt hc1_2).2.2.1 ?_
        exact k
      refine own_fw (A := s₁.setTop (mkF m 24 #[.val (.int p0)] [(.int (((p0 - (97 : Int32)) + (65 : Int32)).toUInt32.toUInt16.toUInt32.toInt32))])) (fun t k => ?_) ?_
      · show Steps p.tables e below (s₁.setTop (mkF m 12 #[.val (.int p0)] [])) t
        refine XS.iloadN X0.here hx rfl (hb hby d1_12) rfl ?_
        show Steps p.tables e below (s₁.setTop (mkF m 13 #[.val (.int p0)] [(.int p0)])) t
        refine XS.bipush X0.here hx rfl (hb hby d1_13) ?_
        show Steps p.tables e below (s₁.setTop (mkF m 15 #[.val (.int p0)] [(.int (97 : Int32)), (.int p0)])) t
        refine XS.isub X0.here hx rfl (hb hby d1_15) rfl ?_
        show Steps p.tables e below (s₁.setTop (mkF m 16 #[.val (.int p0)] [(.int (p0 - (97 : Int32)))])) t
        refine XS.bipush X0.here hx rfl (hb hby d1_16) ?_
        show Steps p.tables e below (s₁.setTop (mkF m 18 #[.val (.int p0)] [(.int (65 : Int32)), (.int (p0 - (97 : Int32)))])) t
        refine XS.iadd X0.here hx rfl (hb hby d1_18) rfl ?_
        show Steps p.tables e below (s₁.setTop (mkF m 19 #[.val (.int p0)] [(.int ((p0 - (97 : Int32)) + (65 : Int32)))])) t
        refine XS.i2c X0.here hx rfl (hb hby d1_19) rfl ?_
        show Steps p.tables e below (s₁.setTop (mkF m 20 #[.val (.int p0)] [(.int (((p0 - (97 : Int32)) + (65 : Int32)).toUInt32.toUInt16.toUInt32.toInt32))])) t
        refine XS.goto X0.here hx rfl (pc0 := 20) (pc' := 24) rfl (hb hby d1_20) (by decide) (by decide) ?_
        exact k
      obtain ⟨fs, hr, hrun, hended, hW, hsame⟩ := X0.leave (v := some (.int (nar .char (((p0 - (97 : Int32)) + (65 : Int32)).toUInt32.toUInt16.toUInt32.toInt32)))) (fun h => by rw [Bd.returns] at h; cases h)
      refine ⟨_, _, retN X0 hx (t := .char) Bd.returns (by simp) (hb hby d1_24) hr, hrun, hended, _, _, rfl, ⟨(by rw [upF, if_neg hc1_1, if_neg hc1_2]), N0, ?_⟩, ⟨_, rfl⟩, hW, hsame.mono (by decide) (by decide)⟩
      exact e0
theorem own_i2c (x : Int32) (h0 : 0 ≤ x.toInt) (h1 : x.toInt < 65536) : x.toUInt32.toUInt16.toUInt32.toInt32 = x := by
  have h := c_i2c x
  rw [← Int32.toInt_inj]
  omega
theorem own_idx (k : Int32) : 0 ≤ (own_irem (k &&& (2147483647 : Int32)) (26 : Int32)).toInt ∧ (own_irem (k &&& (2147483647 : Int32)) (26 : Int32)).toInt < 26 := by
  have h1 := c_and k 2147483647 (by decide)
  have h2 := (c_irem (k &&& 2147483647) 26 26 rfl).1 h1.1
  rw [own_irem, Jvm.irem_eq_mod, h2]
  omega
theorem own_upF (x : Int32) (h0 : 0 ≤ x.toInt) (h1 : x.toInt < 65536) : (upF x).toInt = if 97 ≤ x.toInt ∧ x.toInt ≤ 122 then x.toInt - 32 else x.toInt := by
  have s1 := c_isub x 97
  have r1 := rng32 (x - 97)
  have s2 := c_iadd (x - 97) 65
  have r2 := rng32 (x - 97 + 65)
  have s3 := c_i2c (x - 97 + 65)
  have s4 := c_i2c (x - 97 + 65).toUInt32.toUInt16.toUInt32.toInt32
  have s5 := c_i2c x
  rw [upF]
  simp only [nar, Int32.lt_iff_toInt_lt, Int32.reduceToInt] at *
  repeat' split
  all_goals omega
theorem own_add (a i : Int32) (ha : a.toInt = 97 ∨ a.toInt = 65) (h0 : 0 ≤ i.toInt) (h1 : i.toInt < 26) : ((a + i).toUInt32.toUInt16.toUInt32.toInt32).toInt = a.toInt + i.toInt := by
  have s1 := c_iadd a i
  have r1 := rng32 (a + i)
  have s2 := c_i2c (a + i)
  omega
theorem own_b35 (k : Int32) : upF (((97 : Int32) + (own_irem (k &&& (2147483647 : Int32)) (26 : Int32))).toUInt32.toUInt16.toUInt32.toInt32) = ((65 : Int32) + (own_irem (k &&& (2147483647 : Int32)) (26 : Int32))).toUInt32.toUInt16.toUInt32.toInt32 := by
  obtain ⟨h0, h1⟩ := own_idx k
  generalize own_irem (k &&& (2147483647 : Int32)) (26 : Int32) = i at *
  have a1 := own_add 97 i (Or.inl rfl) h0 h1
  have a2 := own_add 65 i (Or.inr rfl) h0 h1
  have z1 : (97 : Int32).toInt = 97 := rfl
  have z2 : (65 : Int32).toInt = 65 := rfl
  rw [← Int32.toInt_inj, own_upF _ (by omega) (by omega), if_pos (by omega)]
  omega
theorem own_b45 (k : Int32) : upF (((65 : Int32) + (own_irem (k &&& (2147483647 : Int32)) (26 : Int32))).toUInt32.toUInt16.toUInt32.toInt32) = ((65 : Int32) + (own_irem (k &&& (2147483647 : Int32)) (26 : Int32))).toUInt32.toUInt16.toUInt32.toInt32 := by
  obtain ⟨h0, h1⟩ := own_idx k
  generalize own_irem (k &&& (2147483647 : Int32)) (26 : Int32) = i at *
  have a2 := own_add 65 i (Or.inr rfl) h0 h1
  have z2 : (65 : Int32).toInt = 65 := rfl
  rw [← Int32.toInt_inj, own_upF _ (by omega) (by omega), if_neg (by omega)]
theorem own_b87 (c : Int32) (h0 : 0 ≤ c.toInt) (h1 : c.toInt < 65536) (g0 : ¬ (c - (97 : Int32)) < (0 : Int32)) (g1 : (c - (97 : Int32)) < (26 : Int32)) : upF c = ((65 : Int32) + (c - (97 : Int32))).toUInt32.toUInt16.toUInt32.toInt32 := by
  have s1 := c_isub c 97
  have r1 := rng32 (c - 97)
  have z1 : (97 : Int32).toInt = 97 := rfl
  have z2 : (65 : Int32).toInt = 65 := rfl
  simp only [Int32.lt_iff_toInt_lt, Int32.reduceToInt] at g0 g1
  have a2 := own_add 65 (c - 97) (Or.inr rfl) (by omega) (by omega)
  rw [← Int32.toInt_inj, own_upF _ (by omega) (by omega), if_pos (by omega)]
  omega
theorem own_b103 (c : Int32) (h0 : 0 ≤ c.toInt) (h1 : c.toInt < 65536) (g : (c - (97 : Int32)) < (0 : Int32) ∨ ¬ (c - (97 : Int32)) < (26 : Int32)) : upF c = c := by
  have s1 := c_isub c 97
  have r1 := rng32 (c - 97)
  have z1 : (97 : Int32).toInt = 97 := rfl
  simp only [Int32.lt_iff_toInt_lt, Int32.reduceToInt] at g
  rw [← Int32.toInt_inj, own_upF _ (by omega) (by omega), if_neg (by omega)]
theorem own_b120 (c : Int32) (h0 : 0 ≤ c.toInt) (h1 : c.toInt < 65536) : upF (upF c) = upF c := by
  have a := own_upF c h0 h1
  split at a
  · rw [← Int32.toInt_inj, own_upF _ (by omega) (by omega), if_neg (by omega)]
  · rw [← Int32.toInt_inj, own_upF _ (by omega) (by omega), if_neg (by omega)]
theorem pn0 : plainName "com/example/copperline/copperline/LexerUpperCasePinLaw" = true := by first | (simp [plainName, overriddenIn]; done) | decide +kernel
theorem pd0_0 : parseMethodDescriptor "(C)C" = some ⟨[.char], some .char⟩ := by decide +kernel
theorem ef0 (m : MethodId) (p0 : Int32) (p1 : Int32) : entryFrame m #[(.int p0), (.int p1)] maxLocals = mkF m 0 #[.val (.int p0), .val (.int p1), .unset, .unset, .unset, .unset, .unset, .unset, .unset, .unset, .unset] [] := by first | (simp [entryFrame, mkF, argsToLocals, Value.category, maxLocals]; done) | rfl
def Q0 (Z : State) (p0 : Int32) (p1 : Int32) (h0 : Heap) (n0 : Nat) (v : Option Value) (h : Heap) (L : List Loc) : Prop := v = some (.int 1) ∧ Fr n0 L
set_option maxRecDepth 65536 in
set_option maxHeartbeats 40000000 in
theorem rm0 (l : Launch) (Z : State) (a0 : Array Value) (hw : ∀ d ∈ tables_1, d.before a0 Z = true) (ws : List Jvm.Cond) (p0 : Int32) (p1 : Int32) (h0 : Heap) (n0 : Nat) (Z0 : n0 ≤ h0.size) :
    MetFree l x (head1 (Jvm.Cond.code x code maxLocals ret :: ws) room_1) (fun a U => a = #[(.int p0), (.int p1)] ∧ Z.Warmed39 U.vm ∧ U.heap = h0) (fun _ _ _ _ _ => True) (fun _ U o U' => ∃ v L, o = .returned v ∧ Q0 Z p0 p1 h0 n0 v U'.heap L ∧ FrameEnd U o U' L room_1.cells room_1.slots) := by
  refine MetFree.of_bodySF (plainFor_of_name pn0) hisR ?_
  intro p e s m args below meth c s₁ Bd hml0 hP hK
  obtain ⟨rfl, hZ, hh⟩ := hP
  have hx := Bd.exec
  have hby := Bd.bytes
  have hml : c.maxLocals = 11 := hml0
  have hown : s.vm.findClass "com/example/copperline/copperline/LexerUpperCasePinLaw" = some m.cls := findClass_of_methodNamed Bd.named
  have hnm := (name_of_methodNamed Bd.named Bd.method).1
  have X0 : Stand p l e room_1 s m #[(.int p0), (.int p1)] below meth c s₁ [] 0 0 := Stand.of_body Bd
  have e0 : s₁.heap = h0 := by rw [← hh, Bd.state]; rfl
  have N0 := Fr.nil n0
  refine own_fw (A := s₁.setTop (mkF m 0 #[.val (.int p0), .val (.int p1), .unset, .unset, .unset, .unset, .unset, .unset, .unset, .unset, .unset] [])) (fun t k => castTop (ef0 m p0 p1) k) ?_
  refine own_fw (A := s₁.setTop (mkF m 30 #[.val (.int p0), .val (.int p1), .val (.int ((p0 &&& (65535 : Int32)).toUInt32.toUInt16.toUInt32.toInt32)), .val (.int (own_irem (p1 &&& (2147483647 : Int32)) (26 : Int32))), .val (.int (((97 : Int32) + (own_irem (p1 &&& (2147483647 : Int32)) (26 : Int32))).toUInt32.toUInt16.toUInt32.toInt32)), .val (.int (((65 : Int32) + (own_irem (p1 &&& (2147483647 : Int32)) (26 : Int32))).toUInt32.toUInt16.toUInt32.toInt32)), .unset, .unset, .unset, .unset, .unset] [(.int (((97 : Int32) + (own_irem (p1 &&& (2147483647 : Int32)) (26 : Int32))).toUInt32.toUInt16.toUInt32.toInt32))])) (fun t k => ?_) ?_
  · show Steps p.tables e below (s₁.setTop (mkF m 0 #[.val (.int p0), .val (.int p1), .unset, .unset, .unset, .unset, .unset, .unset, .unset, .unset, .unset] [])) t
    refine XS.iloadN X0.here hx rfl (hb hby at_0) rfl ?_
    show Steps p.tables e below (s₁.setTop (mkF m 1 #[.val (.int p0), .val (.int p1), .unset, .unset, .unset, .unset, .unset, .unset, .unset, .unset, .unset] [(.int p0)])) t
    refine X0.ldcInt hx hown (mvT hZ (hw _ (List.mem_of_getElem? (i := 0) rfl))) (g := (mkF m 1 #[.val (.int p0), .val (.int p1), .unset, .unset, .unset, .unset, .unset, .unset, .unset, .unset, .unset] [(.int p0)])) rfl (hb hby at_1) _ ?_
    show Steps p.tables e below (s₁.setTop (mkF m 3 #[.val (.int p0), .val (.int p1), .unset, .unset, .unset, .unset, .unset, .unset, .unset, .unset, .unset] [(.int (65535 : Int32)), (.int p0)])) t
    refine XS.iand X0.here hx rfl (hb hby at_3) rfl ?_
    show Steps p.tables e below (s₁.setTop (mkF m 4 #[.val (.int p0), .val (.int p1), .unset, .unset, .unset, .unset, .unset, .unset, .unset, .unset, .unset] [(.int (p0 &&& (65535 : Int32)))])) t
    refine XS.i2c X0.here hx rfl (hb hby at_4) rfl ?_
    show Steps p.tables e below (s₁.setTop (mkF m 5 #[.val (.int p0), .val (.int p1), .unset, .unset, .unset, .unset, .unset, .unset, .unset, .unset, .unset] [(.int ((p0 &&& (65535 : Int32)).toUInt32.toUInt16.toUInt32.toInt32))])) t
    refine XS.istoreN X0.here hx rfl (hb hby at_5) rfl (l' := #[.val (.int p0), .val (.int p1), .val (.int ((p0 &&& (65535 : Int32)).toUInt32.toUInt16.toUInt32.toInt32)), .unset, .unset, .unset, .unset, .unset, .unset, .unset, .unset]) rfl ?_
    show Steps p.tables e below (s₁.setTop (mkF m 6 #[.val (.int p0), .val (.int p1), .val (.int ((p0 &&& (65535 : Int32)).toUInt32.toUInt16.toUInt32.toInt32)), .unset, .unset, .unset, .unset, .unset, .unset, .unset, .unset] [])) t
    refine XS.iloadN X0.here hx rfl (hb hby at_6) rfl ?_
    show Steps p.tables e below (s₁.setTop (mkF m 7 #[.val (.int p0), .val (.int p1), .val (.int ((p0 &&& (65535 : Int32)).toUInt32.toUInt16.toUInt32.toInt32)), .unset, .unset, .unset, .unset, .unset, .unset, .unset, .unset] [(.int p1)])) t
    refine X0.ldcInt hx hown (mvT hZ (hw _ (List.mem_of_getElem? (i := 1) rfl))) (g := (mkF m 7 #[.val (.int p0), .val (.int p1), .val (.int ((p0 &&& (65535 : Int32)).toUInt32.toUInt16.toUInt32.toInt32)), .unset, .unset, .unset, .unset, .unset, .unset, .unset, .unset] [(.int p1)])) rfl (hb hby at_7) _ ?_
    show Steps p.tables e below (s₁.setTop (mkF m 9 #[.val (.int p0), .val (.int p1), .val (.int ((p0 &&& (65535 : Int32)).toUInt32.toUInt16.toUInt32.toInt32)), .unset, .unset, .unset, .unset, .unset, .unset, .unset, .unset] [(.int (2147483647 : Int32)), (.int p1)])) t
    refine XS.iand X0.here hx rfl (hb hby at_9) rfl ?_
    show Steps p.tables e below (s₁.setTop (mkF m 10 #[.val (.int p0), .val (.int p1), .val (.int ((p0 &&& (65535 : Int32)).toUInt32.toUInt16.toUInt32.toInt32)), .unset, .unset, .unset, .unset, .unset, .unset, .unset, .unset] [(.int (p1 &&& (2147483647 : Int32)))])) t
    refine XS.bipush X0.here hx rfl (hb hby at_10) ?_
    show Steps p.tables e below (s₁.setTop (mkF m 12 #[.val (.int p0), .val (.int p1), .val (.int ((p0 &&& (65535 : Int32)).toUInt32.toUInt16.toUInt32.toInt32)), .unset, .unset, .unset, .unset, .unset, .unset, .unset, .unset] [(.int (26 : Int32)), (.int (p1 &&& (2147483647 : Int32)))])) t
    refine XS.irem X0.here hx rfl (hb hby at_12) rfl (by decide) ?_
    show Steps p.tables e below (s₁.setTop (mkF m 13 #[.val (.int p0), .val (.int p1), .val (.int ((p0 &&& (65535 : Int32)).toUInt32.toUInt16.toUInt32.toInt32)), .unset, .unset, .unset, .unset, .unset, .unset, .unset, .unset] [(.int (own_irem (p1 &&& (2147483647 : Int32)) (26 : Int32)))])) t
    refine XS.istoreN X0.here hx rfl (hb hby at_13) rfl (l' := #[.val (.int p0), .val (.int p1), .val (.int ((p0 &&& (65535 : Int32)).toUInt32.toUInt16.toUInt32.toInt32)), .val (.int (own_irem (p1 &&& (2147483647 : Int32)) (26 : Int32))), .unset, .unset, .unset, .unset, .unset, .unset, .unset]) rfl ?_
    show Steps p.tables e below (s₁.setTop (mkF m 14 #[.val (.int p0), .val (.int p1), .val (.int ((p0 &&& (65535 : Int32)).toUInt32.toUInt16.toUInt32.toInt32)), .val (.int (own_irem (p1 &&& (2147483647 : Int32)) (26 : Int32))), .unset, .unset, .unset, .unset, .unset, .unset, .unset] [])) t
    refine XS.bipush X0.here hx rfl (hb hby at_14) ?_
    show Steps p.tables e below (s₁.setTop (mkF m 16 #[.val (.int p0), .val (.int p1), .val (.int ((p0 &&& (65535 : Int32)).toUInt32.toUInt16.toUInt32.toInt32)), .val (.int (own_irem (p1 &&& (2147483647 : Int32)) (26 : Int32))), .unset, .unset, .unset, .unset, .unset, .unset, .unset] [(.int (97 : Int32))])) t
    refine XS.iloadN X0.here hx rfl (hb hby at_16) rfl ?_
    show Steps p.tables e below (s₁.setTop (mkF m 17 #[.val (.int p0), .val (.int p1), .val (.int ((p0 &&& (65535 : Int32)).toUInt32.toUInt16.toUInt32.toInt32)), .val (.int (own_irem (p1 &&& (2147483647 : Int32)) (26 : Int32))), .unset, .unset, .unset, .unset, .unset, .unset, .unset] [(.int (own_irem (p1 &&& (2147483647 : Int32)) (26 : Int32))), (.int (97 : Int32))])) t
    refine XS.iadd X0.here hx rfl (hb hby at_17) rfl ?_
    show Steps p.tables e below (s₁.setTop (mkF m 18 #[.val (.int p0), .val (.int p1), .val (.int ((p0 &&& (65535 : Int32)).toUInt32.toUInt16.toUInt32.toInt32)), .val (.int (own_irem (p1 &&& (2147483647 : Int32)) (26 : Int32))), .unset, .unset, .unset, .unset, .unset, .unset, .unset] [(.int ((97 : Int32) + (own_irem (p1 &&& (2147483647 : Int32)) (26 : Int32))))])) t
    refine XS.i2c X0.here hx rfl (hb hby at_18) rfl ?_
    show Steps p.tables e below (s₁.setTop (mkF m 19 #[.val (.int p0), .val (.int p1), .val (.int ((p0 &&& (65535 : Int32)).toUInt32.toUInt16.toUInt32.toInt32)), .val (.int (own_irem (p1 &&& (2147483647 : Int32)) (26 : Int32))), .unset, .unset, .unset, .unset, .unset, .unset, .unset] [(.int (((97 : Int32) + (own_irem (p1 &&& (2147483647 : Int32)) (26 : Int32))).toUInt32.toUInt16.toUInt32.toInt32))])) t
    refine XS.istore X0.here hx rfl (hb hby at_19) rfl (l' := #[.val (.int p0), .val (.int p1), .val (.int ((p0 &&& (65535 : Int32)).toUInt32.toUInt16.toUInt32.toInt32)), .val (.int (own_irem (p1 &&& (2147483647 : Int32)) (26 : Int32))), .val (.int (((97 : Int32) + (own_irem (p1 &&& (2147483647 : Int32)) (26 : Int32))).toUInt32.toUInt16.toUInt32.toInt32)), .unset, .unset, .unset, .unset, .unset, .unset]) rfl ?_
    show Steps p.tables e below (s₁.setTop (mkF m 21 #[.val (.int p0), .val (.int p1), .val (.int ((p0 &&& (65535 : Int32)).toUInt32.toUInt16.toUInt32.toInt32)), .val (.int (own_irem (p1 &&& (2147483647 : Int32)) (26 : Int32))), .val (.int (((97 : Int32) + (own_irem (p1 &&& (2147483647 : Int32)) (26 : Int32))).toUInt32.toUInt16.toUInt32.toInt32)), .unset, .unset, .unset, .unset, .unset, .unset] [])) t
    refine XS.bipush X0.here hx rfl (hb hby at_21) ?_
    show Steps p.tables e below (s₁.setTop (mkF m 23 #[.val (.int p0), .val (.int p1), .val (.int ((p0 &&& (65535 : Int32)).toUInt32.toUInt16.toUInt32.toInt32)), .val (.int (own_irem (p1 &&& (2147483647 : Int32)) (26 : Int32))), .val (.int (((97 : Int32) + (own_irem (p1 &&& (2147483647 : Int32)) (26 : Int32))).toUInt32.toUInt16.toUInt32.toInt32)), .unset, .unset, .unset, .unset, .unset, .unset] [(.int (65 : Int32))])) t
    refine XS.iloadN X0.here hx rfl (hb hby at_23) rfl ?_
    show Steps p.tables e below (s₁.setTop (mkF m 24 #[.val (.int p0), .val (.int p1), .val (.int ((p0 &&& (65535 : Int32)).toUInt32.toUInt16.toUInt32.toInt32)), .val (.int (own_irem (p1 &&& (2147483647 : Int32)) (26 : Int32))), .val (.int (((97 : Int32) + (own_irem (p1 &&& (2147483647 : Int32)) (26 : Int32))).toUInt32.toUInt16.toUInt32.toInt32)), .unset, .unset, .unset, .unset, .unset, .unset] [(.int (own_irem (p1 &&& (2147483647 : Int32)) (26 : Int32))), (.int (65 : Int32))])) t
    refine XS.iadd X0.here hx rfl (hb hby at_24) rfl ?_
    show Steps p.tables e below (s₁.setTop (mkF m 25 #[.val (.int p0), .val (.int p1), .val (.int ((p0 &&& (65535 : Int32)).toUInt32.toUInt16.toUInt32.toInt32)), .val (.int (own_irem (p1 &&& (2147483647 : Int32)) (26 : Int32))), .val (.int (((97 : Int32) + (own_irem (p1 &&& (2147483647 : Int32)) (26 : Int32))).toUInt32.toUInt16.toUInt32.toInt32)), .unset, .unset, .unset, .unset, .unset, .unset] [(.int ((65 : Int32) + (own_irem (p1 &&& (2147483647 : Int32)) (26 : Int32))))])) t
    refine XS.i2c X0.here hx rfl (hb hby at_25) rfl ?_
    show Steps p.tables e below (s₁.setTop (mkF m 26 #[.val (.int p0), .val (.int p1), .val (.int ((p0 &&& (65535 : Int32)).toUInt32.toUInt16.toUInt32.toInt32)), .val (.int (own_irem (p1 &&& (2147483647 : Int32)) (26 : Int32))), .val (.int (((97 : Int32) + (own_irem (p1 &&& (2147483647 : Int32)) (26 : Int32))).toUInt32.toUInt16.toUInt32.toInt32)), .unset, .unset, .unset, .unset, .unset, .unset] [(.int (((65 : Int32) + (own_irem (p1 &&& (2147483647 : Int32)) (26 : Int32))).toUInt32.toUInt16.toUInt32.toInt32))])) t
    refine XS.istore X0.here hx rfl (hb hby at_26) rfl (l' := #[.val (.int p0), .val (.int p1), .val (.int ((p0 &&& (65535 : Int32)).toUInt32.toUInt16.toUInt32.toInt32)), .val (.int (own_irem (p1 &&& (2147483647 : Int32)) (26 : Int32))), .val (.int (((97 : Int32) + (own_irem (p1 &&& (2147483647 : Int32)) (26 : Int32))).toUInt32.toUInt16.toUInt32.toInt32)), .val (.int (((65 : Int32) + (own_irem (p1 &&& (2147483647 : Int32)) (26 : Int32))).toUInt32.toUInt16.toUInt32.toInt32)), .unset, .unset, .unset, .unset, .unset]) rfl ?_
    show Steps p.tables e below (s₁.setTop (mkF m 28 #[.val (.int p0), .val (.int p1), .val (.int ((p0 &&& (65535 : Int32)).toUInt32.toUInt16.toUInt32.toInt32)), .val (.int (own_irem (p1 &&& (2147483647 : Int32)) (26 : Int32))), .val (.int (((97 : Int32) + (own_irem (p1 &&& (2147483647 : Int32)) (26 : Int32))).toUInt32.toUInt16.toUInt32.toInt32)), .val (.int (((65 : Int32) + (own_irem (p1 &&& (2147483647 : Int32)) (26 : Int32))).toUInt32.toUInt16.toUInt32.toInt32)), .unset, .unset, .unset, .unset, .unset] [])) t
    refine XS.iload X0.here hx rfl (hb hby at_28) rfl ?_
    exact k
  obtain ⟨_, _, ⟨T0_1, L0_1, k0_1, n0_1⟩, -, X0_1, ⟨Lc0_1, hQ0_1, l0_1, y0_1, z0_1⟩, st0_1⟩ := Jvm.LawKit.callS X0 hx (y := (⟨"com/example/copperline/copperline/Lexer", "upperCase", "(C)C"⟩ : MethodName)) hown (mvT hZ (hw _ (List.mem_of_getElem? (i := 2) rfl))) (mvT hZ (hw _ (List.mem_of_getElem? (i := 3) rfl))) (mvT hZ (hw _ (List.mem_of_getElem? (i := 4) rfl))) (mvT hZ (hw _ (List.mem_of_getElem? (i := 5) rfl))) (by decide) (backOf (W := 0) (rm1 l Z a0 hw [] ((((97 : Int32) + (own_irem (p1 &&& (2147483647 : Int32)) (26 : Int32))).toUInt32.toUInt16.toUInt32.toInt32)) h0 n0 Z0 ) hZ (hw _ (List.mem_of_getElem? (i := 5) rfl)) (hw _ (List.mem_of_getElem? (i := 4) rfl)) (by decide) (by decide)) (g := (mkF m 30 #[.val (.int p0), .val (.int p1), .val (.int ((p0 &&& (65535 : Int32)).toUInt32.toUInt16.toUInt32.toInt32)), .val (.int (own_irem (p1 &&& (2147483647 : Int32)) (26 : Int32))), .val (.int (((97 : Int32) + (own_irem (p1 &&& (2147483647 : Int32)) (26 : Int32))).toUInt32.toUInt16.toUInt32.toInt32)), .val (.int (((65 : Int32) + (own_irem (p1 &&& (2147483647 : Int32)) (26 : Int32))).toUInt32.toUInt16.toUInt32.toInt32)), .unset, .unset, .unset, .unset, .unset] [(.int (((97 : Int32) + (own_irem (p1 &&& (2147483647 : Int32)) (26 : Int32))).toUInt32.toUInt16.toUInt32.toInt32))])) rfl (by rw [hml]; rfl) (argsL := [(.int (((97 : Int32) + (own_irem (p1 &&& (2147483647 : Int32)) (26 : Int32))).toUInt32.toUInt16.toUInt32.toInt32))]) (rest := []) (lenOf pd0_0 rfl) rfl (by show 2 * 0 + _ ≤ _; exact Nat.le_of_eq rfl) (hb hby at_30) (fun _ _ => ⟨rfl, e0, (by decide : 0 + 0 ≤ _), (by decide : 0 + 0 ≤ _)⟩)
  dsimp only [Pt.U, Pt.locs, Pt.cells, Pt.slots] at X0_1 l0_1 y0_1 z0_1 st0_1 hQ0_1
  subst l0_1 y0_1 z0_1
  obtain ⟨rfl, N0_1q, e0_1⟩ := hQ0_1
  have N0_1 := Fr.app N0 N0_1q
  refine own_fw st0_1 ?_
  refine own_fw (A := T0_1.setTop (mkF m 40 #[.val (.int p0), .val (.int p1), .val (.int ((p0 &&& (65535 : Int32)).toUInt32.toUInt16.toUInt32.toInt32)), .val (.int (own_irem (p1 &&& (2147483647 : Int32)) (26 : Int32))), .val (.int (((97 : Int32) + (own_irem (p1 &&& (2147483647 : Int32)) (26 : Int32))).toUInt32.toUInt16.toUInt32.toInt32)), .val (.int (((65 : Int32) + (own_irem (p1 &&& (2147483647 : Int32)) (26 : Int32))).toUInt32.toUInt16.toUInt32.toInt32)), .unset, .unset, .unset, .unset, .unset] [(.int (((65 : Int32) + (own_irem (p1 &&& (2147483647 : Int32)) (26 : Int32))).toUInt32.toUInt16.toUInt32.toInt32))])) (fun t k => ?_) ?_
  · show Steps p.tables e below (T0_1.setTop (mkF m 33 #[.val (.int p0), .val (.int p1), .val (.int ((p0 &&& (65535 : Int32)).toUInt32.toUInt16.toUInt32.toInt32)), .val (.int (own_irem (p1 &&& (2147483647 : Int32)) (26 : Int32))), .val (.int (((97 : Int32) + (own_irem (p1 &&& (2147483647 : Int32)) (26 : Int32))).toUInt32.toUInt16.toUInt32.toInt32)), .val (.int (((65 : Int32) + (own_irem (p1 &&& (2147483647 : Int32)) (26 : Int32))).toUInt32.toUInt16.toUInt32.toInt32)), .unset, .unset, .unset, .unset, .unset] [(.int (upF (((97 : Int32) + (own_irem (p1 &&& (2147483647 : Int32)) (26 : Int32))).toUInt32.toUInt16.toUInt32.toInt32)))])) t
    refine XS.iload X0_1.here hx rfl (hb hby at_33) rfl ?_
    show Steps p.tables e below (T0_1.setTop (mkF m 35 #[.val (.int p0), .val (.int p1), .val (.int ((p0 &&& (65535 : Int32)).toUInt32.toUInt16.toUInt32.toInt32)), .val (.int (own_irem (p1 &&& (2147483647 : Int32)) (26 : Int32))), .val (.int (((97 : Int32) + (own_irem (p1 &&& (2147483647 : Int32)) (26 : Int32))).toUInt32.toUInt16.toUInt32.toInt32)), .val (.int (((65 : Int32) + (own_irem (p1 &&& (2147483647 : Int32)) (26 : Int32))).toUInt32.toUInt16.toUInt32.toInt32)), .unset, .unset, .unset, .unset, .unset] [(.int (((65 : Int32) + (own_irem (p1 &&& (2147483647 : Int32)) (26 : Int32))).toUInt32.toUInt16.toUInt32.toInt32)), (.int (upF (((97 : Int32) + (own_irem (p1 &&& (2147483647 : Int32)) (26 : Int32))).toUInt32.toUInt16.toUInt32.toInt32)))])) t
    refine XS.icmpNo X0_1.here hx rfl (hb hby at_35) rfl (teq (own_b35 p1)).2 ?_
    show Steps p.tables e below (T0_1.setTop (mkF m 38 #[.val (.int p0), .val (.int p1), .val (.int ((p0 &&& (65535 : Int32)).toUInt32.toUInt16.toUInt32.toInt32)), .val (.int (own_irem (p1 &&& (2147483647 : Int32)) (26 : Int32))), .val (.int (((97 : Int32) + (own_irem (p1 &&& (2147483647 : Int32)) (26 : Int32))).toUInt32.toUInt16.toUInt32.toInt32)), .val (.int (((65 : Int32) + (own_irem (p1 &&& (2147483647 : Int32)) (26 : Int32))).toUInt32.toUInt16.toUInt32.toInt32)), .unset, .unset, .unset, .unset, .unset] [])) t
    refine XS.iload X0_1.here hx rfl (hb hby at_38) rfl ?_
    exact k
  obtain ⟨_, _, ⟨T0_2, L0_2, k0_2, n0_2⟩, -, X0_2, ⟨Lc0_2, hQ0_2, l0_2, y0_2, z0_2⟩, st0_2⟩ := Jvm.LawKit.callS X0_1 hx (y := (⟨"com/example/copperline/copperline/Lexer", "upperCase", "(C)C"⟩ : MethodName)) hown (mvT hZ (hw _ (List.mem_of_getElem? (i := 2) rfl))) (mvT hZ (hw _ (List.mem_of_getElem? (i := 3) rfl))) (mvT hZ (hw _ (List.mem_of_getElem? (i := 4) rfl))) (mvT hZ (hw _ (List.mem_of_getElem? (i := 5) rfl))) (by decide) (backOf (W := 0) (rm1 l Z a0 hw [] ((((65 : Int32) + (own_irem (p1 &&& (2147483647 : Int32)) (26 : Int32))).toUInt32.toUInt16.toUInt32.toInt32)) h0 n0 Z0 ) hZ (hw _ (List.mem_of_getElem? (i := 5) rfl)) (hw _ (List.mem_of_getElem? (i := 4) rfl)) (by decide) (by decide)) (g := (mkF m 40 #[.val (.int p0), .val (.int p1), .val (.int ((p0 &&& (65535 : Int32)).toUInt32.toUInt16.toUInt32.toInt32)), .val (.int (own_irem (p1 &&& (2147483647 : Int32)) (26 : Int32))), .val (.int (((97 : Int32) + (own_irem (p1 &&& (2147483647 : Int32)) (26 : Int32))).toUInt32.toUInt16.toUInt32.toInt32)), .val (.int (((65 : Int32) + (own_irem (p1 &&& (2147483647 : Int32)) (26 : Int32))).toUInt32.toUInt16.toUInt32.toInt32)), .unset, .unset, .unset, .unset, .unset] [(.int (((65 : Int32) + (own_irem (p1 &&& (2147483647 : Int32)) (26 : Int32))).toUInt32.toUInt16.toUInt32.toInt32))])) rfl (by rw [hml]; rfl) (argsL := [(.int (((65 : Int32) + (own_irem (p1 &&& (2147483647 : Int32)) (26 : Int32))).toUInt32.toUInt16.toUInt32.toInt32))]) (rest := []) (lenOf pd0_0 rfl) rfl (by show 2 * 0 + _ ≤ _; exact Nat.le_of_eq rfl) (hb hby at_40) (fun _ _ => ⟨rfl, e0_1, (by decide : 0 + 0 ≤ _), (by decide : 0 + 0 ≤ _)⟩)
  dsimp only [Pt.U, Pt.locs, Pt.cells, Pt.slots] at X0_2 l0_2 y0_2 z0_2 st0_2 hQ0_2
  subst l0_2 y0_2 z0_2
  obtain ⟨rfl, N0_2q, e0_2⟩ := hQ0_2
  have N0_2 := Fr.app N0_1 N0_2q
  refine own_fw st0_2 ?_
  refine own_fw (A := T0_2.setTop (mkF m 56 #[.val (.int p0), .val (.int p1), .val (.int ((p0 &&& (65535 : Int32)).toUInt32.toUInt16.toUInt32.toInt32)), .val (.int (own_irem (p1 &&& (2147483647 : Int32)) (26 : Int32))), .val (.int (((97 : Int32) + (own_irem (p1 &&& (2147483647 : Int32)) (26 : Int32))).toUInt32.toUInt16.toUInt32.toInt32)), .val (.int (((65 : Int32) + (own_irem (p1 &&& (2147483647 : Int32)) (26 : Int32))).toUInt32.toUInt16.toUInt32.toInt32)), .val (.int (1 : Int32)), .unset, .unset, .unset, .unset] [(.int ((p0 &&& (65535 : Int32)).toUInt32.toUInt16.toUInt32.toInt32))])) (fun t k => ?_) ?_
  · show Steps p.tables e below (T0_2.setTop (mkF m 43 #[.val (.int p0), .val (.int p1), .val (.int ((p0 &&& (65535 : Int32)).toUInt32.toUInt16.toUInt32.toInt32)), .val (.int (own_irem (p1 &&& (2147483647 : Int32)) (26 : Int32))), .val (.int (((97 : Int32) + (own_irem (p1 &&& (2147483647 : Int32)) (26 : Int32))).toUInt32.toUInt16.toUInt32.toInt32)), .val (.int (((65 : Int32) + (own_irem (p1 &&& (2147483647 : Int32)) (26 : Int32))).toUInt32.toUInt16.toUInt32.toInt32)), .unset, .unset, .unset, .unset, .unset] [(.int (upF (((65 : Int32) + (own_irem (p1 &&& (2147483647 : Int32)) (26 : Int32))).toUInt32.toUInt16.toUInt32.toInt32)))])) t
    refine XS.iload X0_2.here hx rfl (hb hby at_43) rfl ?_
    show Steps p.tables e below (T0_2.setTop (mkF m 45 #[.val (.int p0), .val (.int p1), .val (.int ((p0 &&& (65535 : Int32)).toUInt32.toUInt16.toUInt32.toInt32)), .val (.int (own_irem (p1 &&& (2147483647 : Int32)) (26 : Int32))), .val (.int (((97 : Int32) + (own_irem (p1 &&& (2147483647 : Int32)) (26 : Int32))).toUInt32.toUInt16.toUInt32.toInt32)), .val (.int (((65 : Int32) + (own_irem (p1 &&& (2147483647 : Int32)) (26 : Int32))).toUInt32.toUInt16.toUInt32.toInt32)), .unset, .unset, .unset, .unset, .unset] [(.int (((65 : Int32) + (own_irem (p1 &&& (2147483647 : Int32)) (26 : Int32))).toUInt32.toUInt16.toUInt32.toInt32)), (.int (upF (((65 : Int32) + (own_irem (p1 &&& (2147483647 : Int32)) (26 : Int32))).toUInt32.toUInt16.toUInt32.toInt32)))])) t
    refine XS.icmpNo X0_2.here hx rfl (hb hby at_45) rfl (teq (own_b45 p1)).2 ?_
    show Steps p.tables e below (T0_2.setTop (mkF m 48 #[.val (.int p0), .val (.int p1), .val (.int ((p0 &&& (65535 : Int32)).toUInt32.toUInt16.toUInt32.toInt32)), .val (.int (own_irem (p1 &&& (2147483647 : Int32)) (26 : Int32))), .val (.int (((97 : Int32) + (own_irem (p1 &&& (2147483647 : Int32)) (26 : Int32))).toUInt32.toUInt16.toUInt32.toInt32)), .val (.int (((65 : Int32) + (own_irem (p1 &&& (2147483647 : Int32)) (26 : Int32))).toUInt32.toUInt16.toUInt32.toInt32)), .unset, .unset, .unset, .unset, .unset] [])) t
    refine XS.iconst X0_2.here hx rfl (hb hby at_48) ?_
    show Steps p.tables e below (T0_2.setTop (mkF m 49 #[.val (.int p0), .val (.int p1), .val (.int ((p0 &&& (65535 : Int32)).toUInt32.toUInt16.toUInt32.toInt32)), .val (.int (own_irem (p1 &&& (2147483647 : Int32)) (26 : Int32))), .val (.int (((97 : Int32) + (own_irem (p1 &&& (2147483647 : Int32)) (26 : Int32))).toUInt32.toUInt16.toUInt32.toInt32)), .val (.int (((65 : Int32) + (own_irem (p1 &&& (2147483647 : Int32)) (26 : Int32))).toUInt32.toUInt16.toUInt32.toInt32)), .unset, .unset, .unset, .unset, .unset] [(.int (1 : Int32))])) t
    refine XS.goto X0_2.here hx rfl (pc0 := 49) (pc' := 53) rfl (hb hby at_49) (by decide) (by decide) ?_
    show Steps p.tables e below (T0_2.setTop (mkF m 53 #[.val (.int p0), .val (.int p1), .val (.int ((p0 &&& (65535 : Int32)).toUInt32.toUInt16.toUInt32.toInt32)), .val (.int (own_irem (p1 &&& (2147483647 : Int32)) (26 : Int32))), .val (.int (((97 : Int32) + (own_irem (p1 &&& (2147483647 : Int32)) (26 : Int32))).toUInt32.toUInt16.toUInt32.toInt32)), .val (.int (((65 : Int32) + (own_irem (p1 &&& (2147483647 : Int32)) (26 : Int32))).toUInt32.toUInt16.toUInt32.toInt32)), .unset, .unset, .unset, .unset, .unset] [(.int (1 : Int32))])) t
    refine XS.istore X0_2.here hx rfl (hb hby at_53) rfl (l' := #[.val (.int p0), .val (.int p1), .val (.int ((p0 &&& (65535 : Int32)).toUInt32.toUInt16.toUInt32.toInt32)), .val (.int (own_irem (p1 &&& (2147483647 : Int32)) (26 : Int32))), .val (.int (((97 : Int32) + (own_irem (p1 &&& (2147483647 : Int32)) (26 : Int32))).toUInt32.toUInt16.toUInt32.toInt32)), .val (.int (((65 : Int32) + (own_irem (p1 &&& (2147483647 : Int32)) (26 : Int32))).toUInt32.toUInt16.toUInt32.toInt32)), .val (.int (1 : Int32)), .unset, .unset, .unset, .unset]) rfl ?_
    show Steps p.tables e below (T0_2.setTop (mkF m 55 #[.val (.int p0), .val (.int p1), .val (.int ((p0 &&& (65535 : Int32)).toUInt32.toUInt16.toUInt32.toInt32)), .val (.int (own_irem (p1 &&& (2147483647 : Int32)) (26 : Int32))), .val (.int (((97 : Int32) + (own_irem (p1 &&& (2147483647 : Int32)) (26 : Int32))).toUInt32.toUInt16.toUInt32.toInt32)), .val (.int (((65 : Int32) + (own_irem (p1 &&& (2147483647 : Int32)) (26 : Int32))).toUInt32.toUInt16.toUInt32.toInt32)), .val (.int (1 : Int32)), .unset, .unset, .unset, .unset] [])) t
    refine XS.iloadN X0_2.here hx rfl (hb hby at_55) rfl ?_
    exact k
  obtain ⟨_, _, ⟨T0_3, L0_3, k0_3, n0_3⟩, -, X0_3, ⟨Lc0_3, hQ0_3, l0_3, y0_3, z0_3⟩, st0_3⟩ := Jvm.LawKit.callS X0_2 hx (y := (⟨"com/example/copperline/copperline/Lexer", "upperCase", "(C)C"⟩ : MethodName)) hown (mvT hZ (hw _ (List.mem_of_getElem? (i := 2) rfl))) (mvT hZ (hw _ (List.mem_of_getElem? (i := 3) rfl))) (mvT hZ (hw _ (List.mem_of_getElem? (i := 4) rfl))) (mvT hZ (hw _ (List.mem_of_getElem? (i := 5) rfl))) (by decide) (backOf (W := 0) (rm1 l Z a0 hw [] (((p0 &&& (65535 : Int32)).toUInt32.toUInt16.toUInt32.toInt32)) h0 n0 Z0 ) hZ (hw _ (List.mem_of_getElem? (i := 5) rfl)) (hw _ (List.mem_of_getElem? (i := 4) rfl)) (by decide) (by decide)) (g := (mkF m 56 #[.val (.int p0), .val (.int p1), .val (.int ((p0 &&& (65535 : Int32)).toUInt32.toUInt16.toUInt32.toInt32)), .val (.int (own_irem (p1 &&& (2147483647 : Int32)) (26 : Int32))), .val (.int (((97 : Int32) + (own_irem (p1 &&& (2147483647 : Int32)) (26 : Int32))).toUInt32.toUInt16.toUInt32.toInt32)), .val (.int (((65 : Int32) + (own_irem (p1 &&& (2147483647 : Int32)) (26 : Int32))).toUInt32.toUInt16.toUInt32.toInt32)), .val (.int (1 : Int32)), .unset, .unset, .unset, .unset] [(.int ((p0 &&& (65535 : Int32)).toUInt32.toUInt16.toUInt32.toInt32))])) rfl (by rw [hml]; rfl) (argsL := [(.int ((p0 &&& (65535 : Int32)).toUInt32.toUInt16.toUInt32.toInt32))]) (rest := []) (lenOf pd0_0 rfl) rfl (by show 2 * 0 + _ ≤ _; exact Nat.le_of_eq rfl) (hb hby at_56) (fun _ _ => ⟨rfl, e0_2, (by decide : 0 + 0 ≤ _), (by decide : 0 + 0 ≤ _)⟩)
  dsimp only [Pt.U, Pt.locs, Pt.cells, Pt.slots] at X0_3 l0_3 y0_3 z0_3 st0_3 hQ0_3
  subst l0_3 y0_3 z0_3
  obtain ⟨rfl, N0_3q, e0_3⟩ := hQ0_3
  have N0_3 := Fr.app N0_2 N0_3q
  refine own_fw st0_3 ?_
  refine own_fw (A := T0_3.setTop (mkF m 69 #[.val (.int p0), .val (.int p1), .val (.int ((p0 &&& (65535 : Int32)).toUInt32.toUInt16.toUInt32.toInt32)), .val (.int (own_irem (p1 &&& (2147483647 : Int32)) (26 : Int32))), .val (.int (((97 : Int32) + (own_irem (p1 &&& (2147483647 : Int32)) (26 : Int32))).toUInt32.toUInt16.toUInt32.toInt32)), .val (.int (((65 : Int32) + (own_irem (p1 &&& (2147483647 : Int32)) (26 : Int32))).toUInt32.toUInt16.toUInt32.toInt32)), .val (.int (1 : Int32)), .val (.int (upF ((p0 &&& (65535 : Int32)).toUInt32.toUInt16.toUInt32.toInt32))), .val (.int (((p0 &&& (65535 : Int32)).toUInt32.toUInt16.toUInt32.toInt32) - (97 : Int32))), .unset, .unset] [(.int (((p0 &&& (65535 : Int32)).toUInt32.toUInt16.toUInt32.toInt32) - (97 : Int32)))])) (fun t k => ?_) ?_
  · show Steps p.tables e below (T0_3.setTop (mkF m 59 #[.val (.int p0), .val (.int p1), .val (.int ((p0 &&& (65535 : Int32)).toUInt32.toUInt16.toUInt32.toInt32)), .val (.int (own_irem (p1 &&& (2147483647 : Int32)) (26 : Int32))), .val (.int (((97 : Int32) + (own_irem (p1 &&& (2147483647 : Int32)) (26 : Int32))).toUInt32.toUInt16.toUInt32.toInt32)), .val (.int (((65 : Int32) + (own_irem (p1 &&& (2147483647 : Int32)) (26 : Int32))).toUInt32.toUInt16.toUInt32.toInt32)), .val (.int (1 : Int32)), .unset, .unset, .unset, .unset] [(.int (upF ((p0 &&& (65535 : Int32)).toUInt32.toUInt16.toUInt32.toInt32)))])) t
    refine XS.istore X0_3.here hx rfl (hb hby at_59) rfl (l' := #[.val (.int p0), .val (.int p1), .val (.int ((p0 &&& (65535 : Int32)).toUInt32.toUInt16.toUInt32.toInt32)), .val (.int (own_irem (p1 &&& (2147483647 : Int32)) (26 : Int32))), .val (.int (((97 : Int32) + (own_irem (p1 &&& (2147483647 : Int32)) (26 : Int32))).toUInt32.toUInt16.toUInt32.toInt32)), .val (.int (((65 : Int32) + (own_irem (p1 &&& (2147483647 : Int32)) (26 : Int32))).toUInt32.toUInt16.toUInt32.toInt32)), .val (.int (1 : Int32)), .val (.int (upF ((p0 &&& (65535 : Int32)).toUInt32.toUInt16.toUInt32.toInt32))), .unset, .unset, .unset]) rfl ?_
    show Steps p.tables e below (T0_3.setTop (mkF m 61 #[.val (.int p0), .val (.int p1), .val (.int ((p0 &&& (65535 : Int32)).toUInt32.toUInt16.toUInt32.toInt32)), .val (.int (own_irem (p1 &&& (2147483647 : Int32)) (26 : Int32))), .val (.int (((97 : Int32) + (own_irem (p1 &&& (2147483647 : Int32)) (26 : Int32))).toUInt32.toUInt16.toUInt32.toInt32)), .val (.int (((65 : Int32) + (own_irem (p1 &&& (2147483647 : Int32)) (26 : Int32))).toUInt32.toUInt16.toUInt32.toInt32)), .val (.int (1 : Int32)), .val (.int (upF ((p0 &&& (65535 : Int32)).toUInt32.toUInt16.toUInt32.toInt32))), .unset, .unset, .unset] [])) t
    refine XS.iloadN X0_3.here hx rfl (hb hby at_61) rfl ?_
    show Steps p.tables e below (T0_3.setTop (mkF m 62 #[.val (.int p0), .val (.int p1), .val (.int ((p0 &&& (65535 : Int32)).toUInt32.toUInt16.toUInt32.toInt32)), .val (.int (own_irem (p1 &&& (2147483647 : Int32)) (26 : Int32))), .val (.int (((97 : Int32) + (own_irem (p1 &&& (2147483647 : Int32)) (26 : Int32))).toUInt32.toUInt16.toUInt32.toInt32)), .val (.int (((65 : Int32) + (own_irem (p1 &&& (2147483647 : Int32)) (26 : Int32))).toUInt32.toUInt16.toUInt32.toInt32)), .val (.int (1 : Int32)), .val (.int (upF ((p0 &&& (65535 : Int32)).toUInt32.toUInt16.toUInt32.toInt32))), .unset, .unset, .unset] [(.int ((p0 &&& (65535 : Int32)).toUInt32.toUInt16.toUInt32.toInt32))])) t
    refine XS.bipush X0_3.here hx rfl (hb hby at_62) ?_
    show Steps p.tables e below (T0_3.setTop (mkF m 64 #[.val (.int p0), .val (.int p1), .val (.int ((p0 &&& (65535 : Int32)).toUInt32.toUInt16.toUInt32.toInt32)), .val (.int (own_irem (p1 &&& (2147483647 : Int32)) (26 : Int32))), .val (.int (((97 : Int32) + (own_irem (p1 &&& (2147483647 : Int32)) (26 : Int32))).toUInt32.toUInt16.toUInt32.toInt32)), .val (.int (((65 : Int32) + (own_irem (p1 &&& (2147483647 : Int32)) (26 : Int32))).toUInt32.toUInt16.toUInt32.toInt32)), .val (.int (1 : Int32)), .val (.int (upF ((p0 &&& (65535 : Int32)).toUInt32.toUInt16.toUInt32.toInt32))), .unset, .unset, .unset] [(.int (97 : Int32)), (.int ((p0 &&& (65535 : Int32)).toUInt32.toUInt16.toUInt32.toInt32))])) t
    refine XS.isub X0_3.here hx rfl (hb hby at_64) rfl ?_
    show Steps p.tables e below (T0_3.setTop (mkF m 65 #[.val (.int p0), .val (.int p1), .val (.int ((p0 &&& (65535 : Int32)).toUInt32.toUInt16.toUInt32.toInt32)), .val (.int (own_irem (p1 &&& (2147483647 : Int32)) (26 : Int32))), .val (.int (((97 : Int32) + (own_irem (p1 &&& (2147483647 : Int32)) (26 : Int32))).toUInt32.toUInt16.toUInt32.toInt32)), .val (.int (((65 : Int32) + (own_irem (p1 &&& (2147483647 : Int32)) (26 : Int32))).toUInt32.toUInt16.toUInt32.toInt32)), .val (.int (1 : Int32)), .val (.int (upF ((p0 &&& (65535 : Int32)).toUInt32.toUInt16.toUInt32.toInt32))), .unset, .unset, .unset] [(.int (((p0 &&& (65535 : Int32)).toUInt32.toUInt16.toUInt32.toInt32) - (97 : Int32)))])) t
    refine XS.istore X0_3.here hx rfl (hb hby at_65) rfl (l' := #[.val (.int p0), .val (.int p1), .val (.int ((p0 &&& (65535 : Int32)).toUInt32.toUInt16.toUInt32.toInt32)), .val (.int (own_irem (p1 &&& (2147483647 : Int32)) (26 : Int32))), .val (.int (((97 : Int32) + (own_irem (p1 &&& (2147483647 : Int32)) (26 : Int32))).toUInt32.toUInt16.toUInt32.toInt32)), .val (.int (((65 : Int32) + (own_irem (p1 &&& (2147483647 : Int32)) (26 : Int32))).toUInt32.toUInt16.toUInt32.toInt32)), .val (.int (1 : Int32)), .val (.int (upF ((p0 &&& (65535 : Int32)).toUInt32.toUInt16.toUInt32.toInt32))), .val (.int (((p0 &&& (65535 : Int32)).toUInt32.toUInt16.toUInt32.toInt32) - (97 : Int32))), .unset, .unset]) rfl ?_
    show Steps p.tables e below (T0_3.setTop (mkF m 67 #[.val (.int p0), .val (.int p1), .val (.int ((p0 &&& (65535 : Int32)).toUInt32.toUInt16.toUInt32.toInt32)), .val (.int (own_irem (p1 &&& (2147483647 : Int32)) (26 : Int32))), .val (.int (((97 : Int32) + (own_irem (p1 &&& (2147483647 : Int32)) (26 : Int32))).toUInt32.toUInt16.toUInt32.toInt32)), .val (.int (((65 : Int32) + (own_irem (p1 &&& (2147483647 : Int32)) (26 : Int32))).toUInt32.toUInt16.toUInt32.toInt32)), .val (.int (1 : Int32)), .val (.int (upF ((p0 &&& (65535 : Int32)).toUInt32.toUInt16.toUInt32.toInt32))), .val (.int (((p0 &&& (65535 : Int32)).toUInt32.toUInt16.toUInt32.toInt32) - (97 : Int32))), .unset, .unset] [])) t
    refine XS.iload X0_3.here hx rfl (hb hby at_67) rfl ?_
    exact k
  by_cases hc0_1 : (((p0 &&& (65535 : Int32)).toUInt32.toUInt16.toUInt32.toInt32) - (97 : Int32)) < (0 : Int32)
  · refine own_fw (A := T0_3.setTop (mkF m 100 #[.val (.int p0), .val (.int p1), .val (.int ((p0 &&& (65535 : Int32)).toUInt32.toUInt16.toUInt32.toInt32)), .val (.int (own_irem (p1 &&& (2147483647 : Int32)) (26 : Int32))), .val (.int (((97 : Int32) + (own_irem (p1 &&& (2147483647 : Int32)) (26 : Int32))).toUInt32.toUInt16.toUInt32.toInt32)), .val (.int (((65 : Int32) + (own_irem (p1 &&& (2147483647 : Int32)) (26 : Int32))).toUInt32.toUInt16.toUInt32.toInt32)), .val (.int (1 : Int32)), .val (.int (upF ((p0 &&& (65535 : Int32)).toUInt32.toUInt16.toUInt32.toInt32))), .val (.int (((p0 &&& (65535 : Int32)).toUInt32.toUInt16.toUInt32.toInt32) - (97 : Int32))), .unset, .unset] [])) (fun t k => ?_) ?_
    · show Steps p.tables e below (T0_3.setTop (mkF m 69 #[.val (.int p0), .val (.int p1), .val (.int ((p0 &&& (65535 : Int32)).toUInt32.toUInt16.toUInt32.toInt32)), .val (.int (own_irem (p1 &&& (2147483647 : Int32)) (26 : Int32))), .val (.int (((97 : Int32) + (own_irem (p1 &&& (2147483647 : Int32)) (26 : Int32))).toUInt32.toUInt16.toUInt32.toInt32)), .val (.int (((65 : Int32) + (own_irem (p1 &&& (2147483647 : Int32)) (26 : Int32))).toUInt32.toUInt16.toUInt32.toInt32)), .val (.int (1 : Int32)), .val (.int (upF ((p0 &&& (65535 : Int32)).toUInt32.toUInt16.toUInt32.toInt32))), .val (.int (((p0 &&& (65535 : Int32)).toUInt32.toUInt16.toUInt32.toInt32) - (97 : Int32))), .unset, .unset] [(.int (((p0 &&& (65535 : Int32)).toUInt32.toUInt16.toUInt32.toInt32) - (97 : Int32)))])) t
      refine XS.ifYes X0_3.here hx rfl (pc0 := 69) (pc' := 100) rfl (hb hby at_69) rfl ((if0 _ _).trans (tlt hc0_1).1) (by decide) (by decide) ?_
      exact k
    refine own_fw (A := T0_3.setTop (mkF m 115 #[.val (.int p0), .val (.int p1), .val (.int ((p0 &&& (65535 : Int32)).toUInt32.toUInt16.toUInt32.toInt32)), .val (.int (own_irem (p1 &&& (2147483647 : Int32)) (26 : Int32))), .val (.int (((97 : Int32) + (own_irem (p1 &&& (2147483647 : Int32)) (26 : Int32))).toUInt32.toUInt16.toUInt32.toInt32)), .val (.int (((65 : Int32) + (own_irem (p1 &&& (2147483647 : Int32)) (26 : Int32))).toUInt32.toUInt16.toUInt32.toInt32)), .val (.int (1 : Int32)), .val (.int (upF ((p0 &&& (65535 : Int32)).toUInt32.toUInt16.toUInt32.toInt32))), .val (.int (((p0 &&& (65535 : Int32)).toUInt32.toUInt16.toUInt32.toInt32) - (97 : Int32))), .val (.int (1 : Int32)), .unset] [(.int (upF ((p0 &&& (65535 : Int32)).toUInt32.toUInt16.toUInt32.toInt32)))])) (fun t k => ?_) ?_
    · show Steps p.tables e below (T0_3.setTop (mkF m 100 #[.val (.int p0), .val (.int p1), .val (.int ((p0 &&& (65535 : Int32)).toUInt32.toUInt16.toUInt32.toInt32)), .val (.int (own_irem (p1 &&& (2147483647 : Int32)) (26 : Int32))), .val (.int (((97 : Int32) + (own_irem (p1 &&& (2147483647 : Int32)) (26 : Int32))).toUInt32.toUInt16.toUInt32.toInt32)), .val (.int (((65 : Int32) + (own_irem (p1 &&& (2147483647 : Int32)) (26 : Int32))).toUInt32.toUInt16.toUInt32.toInt32)), .val (.int (1 : Int32)), .val (.int (upF ((p0 &&& (65535 : Int32)).toUInt32.toUInt16.toUInt32.toInt32))), .val (.int (((p0 &&& (65535 : Int32)).toUInt32.toUInt16.toUInt32.toInt32) - (97 : Int32))), .unset, .unset] [])) t
      refine XS.iload X0_3.here hx rfl (hb hby at_100) rfl ?_
      show Steps p.tables e below (T0_3.setTop (mkF m 102 #[.val (.int p0), .val (.int p1), .val (.int ((p0 &&& (65535 : Int32)).toUInt32.toUInt16.toUInt32.toInt32)), .val (.int (own_irem (p1 &&& (2147483647 : Int32)) (26 : Int32))), .val (.int (((97 : Int32) + (own_irem (p1 &&& (2147483647 : Int32)) (26 : Int32))).toUInt32.toUInt16.toUInt32.toInt32)), .val (.int (((65 : Int32) + (own_irem (p1 &&& (2147483647 : Int32)) (26 : Int32))).toUInt32.toUInt16.toUInt32.toInt32)), .val (.int (1 : Int32)), .val (.int (upF ((p0 &&& (65535 : Int32)).toUInt32.toUInt16.toUInt32.toInt32))), .val (.int (((p0 &&& (65535 : Int32)).toUInt32.toUInt16.toUInt32.toInt32) - (97 : Int32))), .unset, .unset] [(.int (upF ((p0 &&& (65535 : Int32)).toUInt32.toUInt16.toUInt32.toInt32)))])) t
      refine XS.iloadN X0_3.here hx rfl (hb hby at_102) rfl ?_
      show Steps p.tables e below (T0_3.setTop (mkF m 103 #[.val (.int p0), .val (.int p1), .val (.int ((p0 &&& (65535 : Int32)).toUInt32.toUInt16.toUInt32.toInt32)), .val (.int (own_irem (p1 &&& (2147483647 : Int32)) (26 : Int32))), .val (.int (((97 : Int32) + (own_irem (p1 &&& (2147483647 : Int32)) (26 : Int32))).toUInt32.toUInt16.toUInt32.toInt32)), .val (.int (((65 : Int32) + (own_irem (p1 &&& (2147483647 : Int32)) (26 : Int32))).toUInt32.toUInt16.toUInt32.toInt32)), .val (.int (1 : Int32)), .val (.int (upF ((p0 &&& (65535 : Int32)).toUInt32.toUInt16.toUInt32.toInt32))), .val (.int (((p0 &&& (65535 : Int32)).toUInt32.toUInt16.toUInt32.toInt32) - (97 : Int32))), .unset, .unset] [(.int ((p0 &&& (65535 : Int32)).toUInt32.toUInt16.toUInt32.toInt32)), (.int (upF ((p0 &&& (65535 : Int32)).toUInt32.toUInt16.toUInt32.toInt32)))])) t
      refine XS.icmpNo X0_3.here hx rfl (hb hby at_103) rfl (teq (own_b103 ((p0 &&& (65535 : Int32)).toUInt32.toUInt16.toUInt32.toInt32) (c_i2c (p0 &&& (65535 : Int32))).2.1 (c_i2c (p0 &&& (65535 : Int32))).2.2 (Or.inl hc0_1))).2 ?_
      show Steps p.tables e below (T0_3.setTop (mkF m 106 #[.val (.int p0), .val (.int p1), .val (.int ((p0 &&& (65535 : Int32)).toUInt32.toUInt16.toUInt32.toInt32)), .val (.int (own_irem (p1 &&& (2147483647 : Int32)) (26 : Int32))), .val (.int (((97 : Int32) + (own_irem (p1 &&& (2147483647 : Int32)) (26 : Int32))).toUInt32.toUInt16.toUInt32.toInt32)), .val (.int (((65 : Int32) + (own_irem (p1 &&& (2147483647 : Int32)) (26 : Int32))).toUInt32.toUInt16.toUInt32.toInt32)), .val (.int (1 : Int32)), .val (.int (upF ((p0 &&& (65535 : Int32)).toUInt32.toUInt16.toUInt32.toInt32))), .val (.int (((p0 &&& (65535 : Int32)).toUInt32.toUInt16.toUInt32.toInt32) - (97 : Int32))), .unset, .unset] [])) t
      refine XS.iconst X0_3.here hx rfl (hb hby at_106) ?_
      show Steps p.tables e below (T0_3.setTop (mkF m 107 #[.val (.int p0), .val (.int p1), .val (.int ((p0 &&& (65535 : Int32)).toUInt32.toUInt16.toUInt32.toInt32)), .val (.int (own_irem (p1 &&& (2147483647 : Int32)) (26 : Int32))), .val (.int (((97 : Int32) + (own_irem (p1 &&& (2147483647 : Int32)) (26 : Int32))).toUInt32.toUInt16.toUInt32.toInt32)), .val (.int (((65 : Int32) + (own_irem (p1 &&& (2147483647 : Int32)) (26 : Int32))).toUInt32.toUInt16.toUInt32.toInt32)), .val (.int (1 : Int32)), .val (.int (upF ((p0 &&& (65535 : Int32)).toUInt32.toUInt16.toUInt32.toInt32))), .val (.int (((p0 &&& (65535 : Int32)).toUInt32.toUInt16.toUInt32.toInt32) - (97 : Int32))), .unset, .unset] [(.int (1 : Int32))])) t
      refine XS.goto X0_3.here hx rfl (pc0 := 107) (pc' := 111) rfl (hb hby at_107) (by decide) (by decide) ?_
      show Steps p.tables e below (T0_3.setTop (mkF m 111 #[.val (.int p0), .val (.int p1), .val (.int ((p0 &&& (65535 : Int32)).toUInt32.toUInt16.toUInt32.toInt32)), .val (.int (own_irem (p1 &&& (2147483647 : Int32)) (26 : Int32))), .val (.int (((97 : Int32) + (own_irem (p1 &&& (2147483647 : Int32)) (26 : Int32))).toUInt32.toUInt16.toUInt32.toInt32)), .val (.int (((65 : Int32) + (own_irem (p1 &&& (2147483647 : Int32)) (26 : Int32))).toUInt32.toUInt16.toUInt32.toInt32)), .val (.int (1 : Int32)), .val (.int (upF ((p0 &&& (65535 : Int32)).toUInt32.toUInt16.toUInt32.toInt32))), .val (.int (((p0 &&& (65535 : Int32)).toUInt32.toUInt16.toUInt32.toInt32) - (97 : Int32))), .unset, .unset] [(.int (1 : Int32))])) t
      refine XS.istore X0_3.here hx rfl (hb hby at_111) rfl (l' := #[.val (.int p0), .val (.int p1), .val (.int ((p0 &&& (65535 : Int32)).toUInt32.toUInt16.toUInt32.toInt32)), .val (.int (own_irem (p1 &&& (2147483647 : Int32)) (26 : Int32))), .val (.int (((97 : Int32) + (own_irem (p1 &&& (2147483647 : Int32)) (26 : Int32))).toUInt32.toUInt16.toUInt32.toInt32)), .val (.int (((65 : Int32) + (own_irem (p1 &&& (2147483647 : Int32)) (26 : Int32))).toUInt32.toUInt16.toUInt32.toInt32)), .val (.int (1 : Int32)), .val (.int (upF ((p0 &&& (65535 : Int32)).toUInt32.toUInt16.toUInt32.toInt32))), .val (.int (((p0 &&& (65535 : Int32)).toUInt32.toUInt16.toUInt32.toInt32) - (97 : Int32))), .val (.int (1 : Int32)), .unset]) rfl ?_
      show Steps p.tables e below (T0_3.setTop (mkF m 113 #[.val (.int p0), .val (.int p1), .val (.int ((p0 &&& (65535 : Int32)).toUInt32.toUInt16.toUInt32.toInt32)), .val (.int (own_irem (p1 &&& (2147483647 : Int32)) (26 : Int32))), .val (.int (((97 : Int32) + (own_irem (p1 &&& (2147483647 : Int32)) (26 : Int32))).toUInt32.toUInt16.toUInt32.toInt32)), .val (.int (((65 : Int32) + (own_irem (p1 &&& (2147483647 : Int32)) (26 : Int32))).toUInt32.toUInt16.toUInt32.toInt32)), .val (.int (1 : Int32)), .val (.int (upF ((p0 &&& (65535 : Int32)).toUInt32.toUInt16.toUInt32.toInt32))), .val (.int (((p0 &&& (65535 : Int32)).toUInt32.toUInt16.toUInt32.toInt32) - (97 : Int32))), .val (.int (1 : Int32)), .unset] [])) t
      refine XS.iload X0_3.here hx rfl (hb hby at_113) rfl ?_
      exact k
    obtain ⟨_, _, ⟨T0_4, L0_4, k0_4, n0_4⟩, -, X0_4, ⟨Lc0_4, hQ0_4, l0_4, y0_4, z0_4⟩, st0_4⟩ := Jvm.LawKit.callS X0_3 hx (y := (⟨"com/example/copperline/copperline/Lexer", "upperCase", "(C)C"⟩ : MethodName)) hown (mvT hZ (hw _ (List.mem_of_getElem? (i := 2) rfl))) (mvT hZ (hw _ (List.mem_of_getElem? (i := 3) rfl))) (mvT hZ (hw _ (List.mem_of_getElem? (i := 4) rfl))) (mvT hZ (hw _ (List.mem_of_getElem? (i := 5) rfl))) (by decide) (backOf (W := 0) (rm1 l Z a0 hw [] ((upF ((p0 &&& (65535 : Int32)).toUInt32.toUInt16.toUInt32.toInt32))) h0 n0 Z0 ) hZ (hw _ (List.mem_of_getElem? (i := 5) rfl)) (hw _ (List.mem_of_getElem? (i := 4) rfl)) (by decide) (by decide)) (g := (mkF m 115 #[.val (.int p0), .val (.int p1), .val (.int ((p0 &&& (65535 : Int32)).toUInt32.toUInt16.toUInt32.toInt32)), .val (.int (own_irem (p1 &&& (2147483647 : Int32)) (26 : Int32))), .val (.int (((97 : Int32) + (own_irem (p1 &&& (2147483647 : Int32)) (26 : Int32))).toUInt32.toUInt16.toUInt32.toInt32)), .val (.int (((65 : Int32) + (own_irem (p1 &&& (2147483647 : Int32)) (26 : Int32))).toUInt32.toUInt16.toUInt32.toInt32)), .val (.int (1 : Int32)), .val (.int (upF ((p0 &&& (65535 : Int32)).toUInt32.toUInt16.toUInt32.toInt32))), .val (.int (((p0 &&& (65535 : Int32)).toUInt32.toUInt16.toUInt32.toInt32) - (97 : Int32))), .val (.int (1 : Int32)), .unset] [(.int (upF ((p0 &&& (65535 : Int32)).toUInt32.toUInt16.toUInt32.toInt32)))])) rfl (by rw [hml]; rfl) (argsL := [(.int (upF ((p0 &&& (65535 : Int32)).toUInt32.toUInt16.toUInt32.toInt32)))]) (rest := []) (lenOf pd0_0 rfl) rfl (by show 2 * 0 + _ ≤ _; exact Nat.le_of_eq rfl) (hb hby at_115) (fun _ _ => ⟨rfl, e0_3, (by decide : 0 + 0 ≤ _), (by decide : 0 + 0 ≤ _)⟩)
    dsimp only [Pt.U, Pt.locs, Pt.cells, Pt.slots] at X0_4 l0_4 y0_4 z0_4 st0_4 hQ0_4
    subst l0_4 y0_4 z0_4
    obtain ⟨rfl, N0_4q, e0_4⟩ := hQ0_4
    have N0_4 := Fr.app N0_3 N0_4q
    refine own_fw st0_4 ?_
    refine own_fw (A := T0_4.setTop (mkF m 150 #[.val (.int p0), .val (.int p1), .val (.int ((p0 &&& (65535 : Int32)).toUInt32.toUInt16.toUInt32.toInt32)), .val (.int (own_irem (p1 &&& (2147483647 : Int32)) (26 : Int32))), .val (.int (((97 : Int32) + (own_irem (p1 &&& (2147483647 : Int32)) (26 : Int32))).toUInt32.toUInt16.toUInt32.toInt32)), .val (.int (((65 : Int32) + (own_irem (p1 &&& (2147483647 : Int32)) (26 : Int32))).toUInt32.toUInt16.toUInt32.toInt32)), .val (.int (1 : Int32)), .val (.int (upF ((p0 &&& (65535 : Int32)).toUInt32.toUInt16.toUInt32.toInt32))), .val (.int (((p0 &&& (65535 : Int32)).toUInt32.toUInt16.toUInt32.toInt32) - (97 : Int32))), .val (.int (1 : Int32)), .val (.int (1 : Int32))] [(.int (1 : Int32))])) (fun t k => ?_) ?_
    · show Steps p.tables e below (T0_4.setTop (mkF m 118 #[.val (.int p0), .val (.int p1), .val (.int ((p0 &&& (65535 : Int32)).toUInt32.toUInt16.toUInt32.toInt32)), .val (.int (own_irem (p1 &&& (2147483647 : Int32)) (26 : Int32))), .val (.int (((97 : Int32) + (own_irem (p1 &&& (2147483647 : Int32)) (26 : Int32))).toUInt32.toUInt16.toUInt32.toInt32)), .val (.int (((65 : Int32) + (own_irem (p1 &&& (2147483647 : Int32)) (26 : Int32))).toUInt32.toUInt16.toUInt32.toInt32)), .val (.int (1 : Int32)), .val (.int (upF ((p0 &&& (65535 : Int32)).toUInt32.toUInt16.toUInt32.toInt32))), .val (.int (((p0 &&& (65535 : Int32)).toUInt32.toUInt16.toUInt32.toInt32) - (97 : Int32))), .val (.int (1 : Int32)), .unset] [(.int (upF (upF ((p0 &&& (65535 : Int32)).toUInt32.toUInt16.toUInt32.toInt32))))])) t
      refine XS.iload X0_4.here hx rfl (hb hby at_118) rfl ?_
      show Steps p.tables e below (T0_4.setTop (mkF m 120 #[.val (.int p0), .val (.int p1), .val (.int ((p0 &&& (65535 : Int32)).toUInt32.toUInt16.toUInt32.toInt32)), .val (.int (own_irem (p1 &&& (2147483647 : Int32)) (26 : Int32))), .val (.int (((97 : Int32) + (own_irem (p1 &&& (2147483647 : Int32)) (26 : Int32))).toUInt32.toUInt16.toUInt32.toInt32)), .val (.int (((65 : Int32) + (own_irem (p1 &&& (2147483647 : Int32)) (26 : Int32))).toUInt32.toUInt16.toUInt32.toInt32)), .val (.int (1 : Int32)), .val (.int (upF ((p0 &&& (65535 : Int32)).toUInt32.toUInt16.toUInt32.toInt32))), .val (.int (((p0 &&& (65535 : Int32)).toUInt32.toUInt16.toUInt32.toInt32) - (97 : Int32))), .val (.int (1 : Int32)), .unset] [(.int (upF ((p0 &&& (65535 : Int32)).toUInt32.toUInt16.toUInt32.toInt32))), (.int (upF (upF ((p0 &&& (65535 : Int32)).toUInt32.toUInt16.toUInt32.toInt32))))])) t
      refine XS.icmpNo X0_4.here hx rfl (hb hby at_120) rfl (teq (own_b120 ((p0 &&& (65535 : Int32)).toUInt32.toUInt16.toUInt32.toInt32) (c_i2c (p0 &&& (65535 : Int32))).2.1 (c_i2c (p0 &&& (65535 : Int32))).2.2)).2 ?_
      show Steps p.tables e below (T0_4.setTop (mkF m 123 #[.val (.int p0), .val (.int p1), .val (.int ((p0 &&& (65535 : Int32)).toUInt32.toUInt16.toUInt32.toInt32)), .val (.int (own_irem (p1 &&& (2147483647 : Int32)) (26 : Int32))), .val (.int (((97 : Int32) + (own_irem (p1 &&& (2147483647 : Int32)) (26 : Int32))).toUInt32.toUInt16.toUInt32.toInt32)), .val (.int (((65 : Int32) + (own_irem (p1 &&& (2147483647 : Int32)) (26 : Int32))).toUInt32.toUInt16.toUInt32.toInt32)), .val (.int (1 : Int32)), .val (.int (upF ((p0 &&& (65535 : Int32)).toUInt32.toUInt16.toUInt32.toInt32))), .val (.int (((p0 &&& (65535 : Int32)).toUInt32.toUInt16.toUInt32.toInt32) - (97 : Int32))), .val (.int (1 : Int32)), .unset] [])) t
      refine XS.iconst X0_4.here hx rfl (hb hby at_123) ?_
      show Steps p.tables e below (T0_4.setTop (mkF m 124 #[.val (.int p0), .val (.int p1), .val (.int ((p0 &&& (65535 : Int32)).toUInt32.toUInt16.toUInt32.toInt32)), .val (.int (own_irem (p1 &&& (2147483647 : Int32)) (26 : Int32))), .val (.int (((97 : Int32) + (own_irem (p1 &&& (2147483647 : Int32)) (26 : Int32))).toUInt32.toUInt16.toUInt32.toInt32)), .val (.int (((65 : Int32) + (own_irem (p1 &&& (2147483647 : Int32)) (26 : Int32))).toUInt32.toUInt16.toUInt32.toInt32)), .val (.int (1 : Int32)), .val (.int (upF ((p0 &&& (65535 : Int32)).toUInt32.toUInt16.toUInt32.toInt32))), .val (.int (((p0 &&& (65535 : Int32)).toUInt32.toUInt16.toUInt32.toInt32) - (97 : Int32))), .val (.int (1 : Int32)), .unset] [(.int (1 : Int32))])) t
      refine XS.goto X0_4.here hx rfl (pc0 := 124) (pc' := 128) rfl (hb hby at_124) (by decide) (by decide) ?_
      show Steps p.tables e below (T0_4.setTop (mkF m 128 #[.val (.int p0), .val (.int p1), .val (.int ((p0 &&& (65535 : Int32)).toUInt32.toUInt16.toUInt32.toInt32)), .val (.int (own_irem (p1 &&& (2147483647 : Int32)) (26 : Int32))), .val (.int (((97 : Int32) + (own_irem (p1 &&& (2147483647 : Int32)) (26 : Int32))).toUInt32.toUInt16.toUInt32.toInt32)), .val (.int (((65 : Int32) + (own_irem (p1 &&& (2147483647 : Int32)) (26 : Int32))).toUInt32.toUInt16.toUInt32.toInt32)), .val (.int (1 : Int32)), .val (.int (upF ((p0 &&& (65535 : Int32)).toUInt32.toUInt16.toUInt32.toInt32))), .val (.int (((p0 &&& (65535 : Int32)).toUInt32.toUInt16.toUInt32.toInt32) - (97 : Int32))), .val (.int (1 : Int32)), .unset] [(.int (1 : Int32))])) t
      refine XS.istore X0_4.here hx rfl (hb hby at_128) rfl (l' := #[.val (.int p0), .val (.int p1), .val (.int ((p0 &&& (65535 : Int32)).toUInt32.toUInt16.toUInt32.toInt32)), .val (.int (own_irem (p1 &&& (2147483647 : Int32)) (26 : Int32))), .val (.int (((97 : Int32) + (own_irem (p1 &&& (2147483647 : Int32)) (26 : Int32))).toUInt32.toUInt16.toUInt32.toInt32)), .val (.int (((65 : Int32) + (own_irem (p1 &&& (2147483647 : Int32)) (26 : Int32))).toUInt32.toUInt16.toUInt32.toInt32)), .val (.int (1 : Int32)), .val (.int (upF ((p0 &&& (65535 : Int32)).toUInt32.toUInt16.toUInt32.toInt32))), .val (.int (((p0 &&& (65535 : Int32)).toUInt32.toUInt16.toUInt32.toInt32) - (97 : Int32))), .val (.int (1 : Int32)), .val (.int (1 : Int32))]) rfl ?_
      show Steps p.tables e below (T0_4.setTop (mkF m 130 #[.val (.int p0), .val (.int p1), .val (.int ((p0 &&& (65535 : Int32)).toUInt32.toUInt16.toUInt32.toInt32)), .val (.int (own_irem (p1 &&& (2147483647 : Int32)) (26 : Int32))), .val (.int (((97 : Int32) + (own_irem (p1 &&& (2147483647 : Int32)) (26 : Int32))).toUInt32.toUInt16.toUInt32.toInt32)), .val (.int (((65 : Int32) + (own_irem (p1 &&& (2147483647 : Int32)) (26 : Int32))).toUInt32.toUInt16.toUInt32.toInt32)), .val (.int (1 : Int32)), .val (.int (upF ((p0 &&& (65535 : Int32)).toUInt32.toUInt16.toUInt32.toInt32))), .val (.int (((p0 &&& (65535 : Int32)).toUInt32.toUInt16.toUInt32.toInt32) - (97 : Int32))), .val (.int (1 : Int32)), .val (.int (1 : Int32))] [])) t
      refine XS.iload X0_4.here hx rfl (hb hby at_130) rfl ?_
      show Steps p.tables e below (T0_4.setTop (mkF m 132 #[.val (.int p0), .val (.int p1), .val (.int ((p0 &&& (65535 : Int32)).toUInt32.toUInt16.toUInt32.toInt32)), .val (.int (own_irem (p1 &&& (2147483647 : Int32)) (26 : Int32))), .val (.int (((97 : Int32) + (own_irem (p1 &&& (2147483647 : Int32)) (26 : Int32))).toUInt32.toUInt16.toUInt32.toInt32)), .val (.int (((65 : Int32) + (own_irem (p1 &&& (2147483647 : Int32)) (26 : Int32))).toUInt32.toUInt16.toUInt32.toInt32)), .val (.int (1 : Int32)), .val (.int (upF ((p0 &&& (65535 : Int32)).toUInt32.toUInt16.toUInt32.toInt32))), .val (.int (((p0 &&& (65535 : Int32)).toUInt32.toUInt16.toUInt32.toInt32) - (97 : Int32))), .val (.int (1 : Int32)), .val (.int (1 : Int32))] [(.int (1 : Int32))])) t
      refine XS.ifNo X0_4.here hx rfl (hb hby at_132) rfl ((if0 _ _).trans (feq (by decide : ¬ ((1 : Int32) = (0 : Int32)))).1) ?_
      show Steps p.tables e below (T0_4.setTop (mkF m 135 #[.val (.int p0), .val (.int p1), .val (.int ((p0 &&& (65535 : Int32)).toUInt32.toUInt16.toUInt32.toInt32)), .val (.int (own_irem (p1 &&& (2147483647 : Int32)) (26 : Int32))), .val (.int (((97 : Int32) + (own_irem (p1 &&& (2147483647 : Int32)) (26 : Int32))).toUInt32.toUInt16.toUInt32.toInt32)), .val (.int (((65 : Int32) + (own_irem (p1 &&& (2147483647 : Int32)) (26 : Int32))).toUInt32.toUInt16.toUInt32.toInt32)), .val (.int (1 : Int32)), .val (.int (upF ((p0 &&& (65535 : Int32)).toUInt32.toUInt16.toUInt32.toInt32))), .val (.int (((p0 &&& (65535 : Int32)).toUInt32.toUInt16.toUInt32.toInt32) - (97 : Int32))), .val (.int (1 : Int32)), .val (.int (1 : Int32))] [])) t
      refine XS.iload X0_4.here hx rfl (hb hby at_135) rfl ?_
      show Steps p.tables e below (T0_4.setTop (mkF m 137 #[.val (.int p0), .val (.int p1), .val (.int ((p0 &&& (65535 : Int32)).toUInt32.toUInt16.toUInt32.toInt32)), .val (.int (own_irem (p1 &&& (2147483647 : Int32)) (26 : Int32))), .val (.int (((97 : Int32) + (own_irem (p1 &&& (2147483647 : Int32)) (26 : Int32))).toUInt32.toUInt16.toUInt32.toInt32)), .val (.int (((65 : Int32) + (own_irem (p1 &&& (2147483647 : Int32)) (26 : Int32))).toUInt32.toUInt16.toUInt32.toInt32)), .val (.int (1 : Int32)), .val (.int (upF ((p0 &&& (65535 : Int32)).toUInt32.toUInt16.toUInt32.toInt32))), .val (.int (((p0 &&& (65535 : Int32)).toUInt32.toUInt16.toUInt32.toInt32) - (97 : Int32))), .val (.int (1 : Int32)), .val (.int (1 : Int32))] [(.int (1 : Int32))])) t
      refine XS.ifNo X0_4.here hx rfl (hb hby at_137) rfl ((if0 _ _).trans (feq (by decide : ¬ ((1 : Int32) = (0 : Int32)))).1) ?_
      show Steps p.tables e below (T0_4.setTop (mkF m 140 #[.val (.int p0), .val (.int p1), .val (.int ((p0 &&& (65535 : Int32)).toUInt32.toUInt16.toUInt32.toInt32)), .val (.int (own_irem (p1 &&& (2147483647 : Int32)) (26 : Int32))), .val (.int (((97 : Int32) + (own_irem (p1 &&& (2147483647 : Int32)) (26 : Int32))).toUInt32.toUInt16.toUInt32.toInt32)), .val (.int (((65 : Int32) + (own_irem (p1 &&& (2147483647 : Int32)) (26 : Int32))).toUInt32.toUInt16.toUInt32.toInt32)), .val (.int (1 : Int32)), .val (.int (upF ((p0 &&& (65535 : Int32)).toUInt32.toUInt16.toUInt32.toInt32))), .val (.int (((p0 &&& (65535 : Int32)).toUInt32.toUInt16.toUInt32.toInt32) - (97 : Int32))), .val (.int (1 : Int32)), .val (.int (1 : Int32))] [])) t
      refine XS.iload X0_4.here hx rfl (hb hby at_140) rfl ?_
      show Steps p.tables e below (T0_4.setTop (mkF m 142 #[.val (.int p0), .val (.int p1), .val (.int ((p0 &&& (65535 : Int32)).toUInt32.toUInt16.toUInt32.toInt32)), .val (.int (own_irem (p1 &&& (2147483647 : Int32)) (26 : Int32))), .val (.int (((97 : Int32) + (own_irem (p1 &&& (2147483647 : Int32)) (26 : Int32))).toUInt32.toUInt16.toUInt32.toInt32)), .val (.int (((65 : Int32) + (own_irem (p1 &&& (2147483647 : Int32)) (26 : Int32))).toUInt32.toUInt16.toUInt32.toInt32)), .val (.int (1 : Int32)), .val (.int (upF ((p0 &&& (65535 : Int32)).toUInt32.toUInt16.toUInt32.toInt32))), .val (.int (((p0 &&& (65535 : Int32)).toUInt32.toUInt16.toUInt32.toInt32) - (97 : Int32))), .val (.int (1 : Int32)), .val (.int (1 : Int32))] [(.int (1 : Int32))])) t
      refine XS.ifNo X0_4.here hx rfl (hb hby at_142) rfl ((if0 _ _).trans (feq (by decide : ¬ ((1 : Int32) = (0 : Int32)))).1) ?_
      show Steps p.tables e below (T0_4.setTop (mkF m 145 #[.val (.int p0), .val (.int p1), .val (.int ((p0 &&& (65535 : Int32)).toUInt32.toUInt16.toUInt32.toInt32)), .val (.int (own_irem (p1 &&& (2147483647 : Int32)) (26 : Int32))), .val (.int (((97 : Int32) + (own_irem (p1 &&& (2147483647 : Int32)) (26 : Int32))).toUInt32.toUInt16.toUInt32.toInt32)), .val (.int (((65 : Int32) + (own_irem (p1 &&& (2147483647 : Int32)) (26 : Int32))).toUInt32.toUInt16.toUInt32.toInt32)), .val (.int (1 : Int32)), .val (.int (upF ((p0 &&& (65535 : Int32)).toUInt32.toUInt16.toUInt32.toInt32))), .val (.int (((p0 &&& (65535 : Int32)).toUInt32.toUInt16.toUInt32.toInt32) - (97 : Int32))), .val (.int (1 : Int32)), .val (.int (1 : Int32))] [])) t
      refine XS.iconst X0_4.here hx rfl (hb hby at_145) ?_
      show Steps p.tables e below (T0_4.setTop (mkF m 146 #[.val (.int p0), .val (.int p1), .val (.int ((p0 &&& (65535 : Int32)).toUInt32.toUInt16.toUInt32.toInt32)), .val (.int (own_irem (p1 &&& (2147483647 : Int32)) (26 : Int32))), .val (.int (((97 : Int32) + (own_irem (p1 &&& (2147483647 : Int32)) (26 : Int32))).toUInt32.toUInt16.toUInt32.toInt32)), .val (.int (((65 : Int32) + (own_irem (p1 &&& (2147483647 : Int32)) (26 : Int32))).toUInt32.toUInt16.toUInt32.toInt32)), .val (.int (1 : Int32)), .val (.int (upF ((p0 &&& (65535 : Int32)).toUInt32.toUInt16.toUInt32.toInt32))), .val (.int (((p0 &&& (65535 : Int32)).toUInt32.toUInt16.toUInt32.toInt32) - (97 : Int32))), .val (.int (1 : Int32)), .val (.int (1 : Int32))] [(.int (1 : Int32))])) t
      refine XS.goto X0_4.here hx rfl (pc0 := 146) (pc' := 150) rfl (hb hby at_146) (by decide) (by decide) ?_
      exact k
    obtain ⟨fs, hr, hrun, hended, hW, hsame⟩ := X0_4.leave (v := some (.int (nar .boolean (1 : Int32)))) (fun h => by rw [Bd.returns] at h; cases h)
    exact ⟨_, _, retN X0_4 hx (t := .boolean) Bd.returns (by simp) (hb hby at_150) hr, hrun, hended, _, _, rfl, ⟨rfl, N0_4⟩, ⟨_, rfl⟩, hW, hsame.mono (by decide) (by decide)⟩
  · refine own_fw (A := T0_3.setTop (mkF m 72 #[.val (.int p0), .val (.int p1), .val (.int ((p0 &&& (65535 : Int32)).toUInt32.toUInt16.toUInt32.toInt32)), .val (.int (own_irem (p1 &&& (2147483647 : Int32)) (26 : Int32))), .val (.int (((97 : Int32) + (own_irem (p1 &&& (2147483647 : Int32)) (26 : Int32))).toUInt32.toUInt16.toUInt32.toInt32)), .val (.int (((65 : Int32) + (own_irem (p1 &&& (2147483647 : Int32)) (26 : Int32))).toUInt32.toUInt16.toUInt32.toInt32)), .val (.int (1 : Int32)), .val (.int (upF ((p0 &&& (65535 : Int32)).toUInt32.toUInt16.toUInt32.toInt32))), .val (.int (((p0 &&& (65535 : Int32)).toUInt32.toUInt16.toUInt32.toInt32) - (97 : Int32))), .unset, .unset] [])) (fun t k => ?_) ?_
    · show Steps p.tables e below (T0_3.setTop (mkF m 69 #[.val (.int p0), .val (.int p1), .val (.int ((p0 &&& (65535 : Int32)).toUInt32.toUInt16.toUInt32.toInt32)), .val (.int (own_irem (p1 &&& (2147483647 : Int32)) (26 : Int32))), .val (.int (((97 : Int32) + (own_irem (p1 &&& (2147483647 : Int32)) (26 : Int32))).toUInt32.toUInt16.toUInt32.toInt32)), .val (.int (((65 : Int32) + (own_irem (p1 &&& (2147483647 : Int32)) (26 : Int32))).toUInt32.toUInt16.toUInt32.toInt32)), .val (.int (1 : Int32)), .val (.int (upF ((p0 &&& (65535 : Int32)).toUInt32.toUInt16.toUInt32.toInt32))), .val (.int (((p0 &&& (65535 : Int32)).toUInt32.toUInt16.toUInt32.toInt32) - (97 : Int32))), .unset, .unset] [(.int (((p0 &&& (65535 : Int32)).toUInt32.toUInt16.toUInt32.toInt32) - (97 : Int32)))])) t
      refine XS.ifNo X0_3.here hx rfl (hb hby at_69) rfl ((if0 _ _).trans (flt hc0_1).1) ?_
      exact k
    refine own_fw (A := T0_3.setTop (mkF m 76 #[.val (.int p0), .val (.int p1), .val (.int ((p0 &&& (65535 : Int32)).toUInt32.toUInt16.toUInt32.toInt32)), .val (.int (own_irem (p1 &&& (2147483647 : Int32)) (26 : Int32))), .val (.int (((97 : Int32) + (own_irem (p1 &&& (2147483647 : Int32)) (26 : Int32))).toUInt32.toUInt16.toUInt32.toInt32)), .val (.int (((65 : Int32) + (own_irem (p1 &&& (2147483647 : Int32)) (26 : Int32))).toUInt32.toUInt16.toUInt32.toInt32)), .val (.int (1 : Int32)), .val (.int (upF ((p0 &&& (65535 : Int32)).toUInt32.toUInt16.toUInt32.toInt32))), .val (.int (((p0 &&& (65535 : Int32)).toUInt32.toUInt16.toUInt32.toInt32) - (97 : Int32))), .unset, .unset] [(.int (26 : Int32)), (.int (((p0 &&& (65535 : Int32)).toUInt32.toUInt16.toUInt32.toInt32) - (97 : Int32)))])) (fun t k => ?_) ?_
    · show Steps p.tables e below (T0_3.setTop (mkF m 72 #[.val (.int p0), .val (.int p1), .val (.int ((p0 &&& (65535 : Int32)).toUInt32.toUInt16.toUInt32.toInt32)), .val (.int (own_irem (p1 &&& (2147483647 : Int32)) (26 : Int32))), .val (.int (((97 : Int32) + (own_irem (p1 &&& (2147483647 : Int32)) (26 : Int32))).toUInt32.toUInt16.toUInt32.toInt32)), .val (.int (((65 : Int32) + (own_irem (p1 &&& (2147483647 : Int32)) (26 : Int32))).toUInt32.toUInt16.toUInt32.toInt32)), .val (.int (1 : Int32)), .val (.int (upF ((p0 &&& (65535 : Int32)).toUInt32.toUInt16.toUInt32.toInt32))), .val (.int (((p0 &&& (65535 : Int32)).toUInt32.toUInt16.toUInt32.toInt32) - (97 : Int32))), .unset, .unset] [])) t
      refine XS.iload X0_3.here hx rfl (hb hby at_72) rfl ?_
      show Steps p.tables e below (T0_3.setTop (mkF m 74 #[.val (.int p0), .val (.int p1), .val (.int ((p0 &&& (65535 : Int32)).toUInt32.toUInt16.toUInt32.toInt32)), .val (.int (own_irem (p1 &&& (2147483647 : Int32)) (26 : Int32))), .val (.int (((97 : Int32) + (own_irem (p1 &&& (2147483647 : Int32)) (26 : Int32))).toUInt32.toUInt16.toUInt32.toInt32)), .val (.int (((65 : Int32) + (own_irem (p1 &&& (2147483647 : Int32)) (26 : Int32))).toUInt32.toUInt16.toUInt32.toInt32)), .val (.int (1 : Int32)), .val (.int (upF ((p0 &&& (65535 : Int32)).toUInt32.toUInt16.toUInt32.toInt32))), .val (.int (((p0 &&& (65535 : Int32)).toUInt32.toUInt16.toUInt32.toInt32) - (97 : Int32))), .unset, .unset] [(.int (((p0 &&& (65535 : Int32)).toUInt32.toUInt16.toUInt32.toInt32) - (97 : Int32)))])) t
      refine XS.bipush X0_3.here hx rfl (hb hby at_74) ?_
      exact k
    by_cases hc0_2 : (((p0 &&& (65535 : Int32)).toUInt32.toUInt16.toUInt32.toInt32) - (97 : Int32)) < (26 : Int32)
    · refine own_fw (A := T0_3.setTop (mkF m 79 #[.val (.int p0), .val (.int p1), .val (.int ((p0 &&& (65535 : Int32)).toUInt32.toUInt16.toUInt32.toInt32)), .val (.int (own_irem (p1 &&& (2147483647 : Int32)) (26 : Int32))), .val (.int (((97 : Int32) + (own_irem (p1 &&& (2147483647 : Int32)) (26 : Int32))).toUInt32.toUInt16.toUInt32.toInt32)), .val (.int (((65 : Int32) + (own_irem (p1 &&& (2147483647 : Int32)) (26 : Int32))).toUInt32.toUInt16.toUInt32.toInt32)), .val (.int (1 : Int32)), .val (.int (upF ((p0 &&& (65535 : Int32)).toUInt32.toUInt16.toUInt32.toInt32))), .val (.int (((p0 &&& (65535 : Int32)).toUInt32.toUInt16.toUInt32.toInt32) - (97 : Int32))), .unset, .unset] [])) (fun t k => ?_) ?_
      · show Steps p.tables e below (T0_3.setTop (mkF m 76 #[.val (.int p0), .val (.int p1), .val (.int ((p0 &&& (65535 : Int32)).toUInt32.toUInt16.toUInt32.toInt32)), .val (.int (own_irem (p1 &&& (2147483647 : Int32)) (26 : Int32))), .val (.int (((97 : Int32) + (own_irem (p1 &&& (2147483647 : Int32)) (26 : Int32))).toUInt32.toUInt16.toUInt32.toInt32)), .val (.int (((65 : Int32) + (own_irem (p1 &&& (2147483647 : Int32)) (26 : Int32))).toUInt32.toUInt16.toUInt32.toInt32)), .val (.int (1 : Int32)), .val (.int (upF ((p0 &&& (65535 : Int32)).toUInt32.toUInt16.toUInt32.toInt32))), .val (.int (((p0 &&& (65535 : Int32)).toUInt32.toUInt16.toUInt32.toInt32) - (97 : Int32))), .unset, .unset] [(.int (26 : Int32)), (.int (((p0 &&& (65535 : Int32)).toUInt32.toUInt16.toUInt32.toInt32) - (97 : Int32)))])) t
        refine XS.icmpNo X0_3.here hx rfl (hb hby at_76) rfl (tlt hc0_2).2.1 ?_
        exact k
      refine own_fw (A := T0_3.setTop (mkF m 115 #[.val (.int p0), .val (.int p1), .val (.int ((p0 &&& (65535 : Int32)).toUInt32.toUInt16.toUInt32.toInt32)), .val (.int (own_irem (p1 &&& (2147483647 : Int32)) (26 : Int32))), .val (.int (((97 : Int32) + (own_irem (p1 &&& (2147483647 : Int32)) (26 : Int32))).toUInt32.toUInt16.toUInt32.toInt32)), .val (.int (((65 : Int32) + (own_irem (p1 &&& (2147483647 : Int32)) (26 : Int32))).toUInt32.toUInt16.toUInt32.toInt32)), .val (.int (1 : Int32)), .val (.int (upF ((p0 &&& (65535 : Int32)).toUInt32.toUInt16.toUInt32.toInt32))), .val (.int (((p0 &&& (65535 : Int32)).toUInt32.toUInt16.toUInt32.toInt32) - (97 : Int32))), .val (.int (1 : Int32)), .unset] [(.int (upF ((p0 &&& (65535 : Int32)).toUInt32.toUInt16.toUInt32.toInt32)))])) (fun t k => ?_) ?_
      · show Steps p.tables e below (T0_3.setTop (mkF m 79 #[.val (.int p0), .val (.int p1), .val (.int ((p0 &&& (65535 : Int32)).toUInt32.toUInt16.toUInt32.toInt32)), .val (.int (own_irem (p1 &&& (2147483647 : Int32)) (26 : Int32))), .val (.int (((97 : Int32) + (own_irem (p1 &&& (2147483647 : Int32)) (26 : Int32))).toUInt32.toUInt16.toUInt32.toInt32)), .val (.int (((65 : Int32) + (own_irem (p1 &&& (2147483647 : Int32)) (26 : Int32))).toUInt32.toUInt16.toUInt32.toInt32)), .val (.int (1 : Int32)), .val (.int (upF ((p0 &&& (65535 : Int32)).toUInt32.toUInt16.toUInt32.toInt32))), .val (.int (((p0 &&& (65535 : Int32)).toUInt32.toUInt16.toUInt32.toInt32) - (97 : Int32))), .unset, .unset] [])) t
        refine XS.iload X0_3.here hx rfl (hb hby at_79) rfl ?_
        show Steps p.tables e below (T0_3.setTop (mkF m 81 #[.val (.int p0), .val (.int p1), .val (.int ((p0 &&& (65535 : Int32)).toUInt32.toUInt16.toUInt32.toInt32)), .val (.int (own_irem (p1 &&& (2147483647 : Int32)) (26 : Int32))), .val (.int (((97 : Int32) + (own_irem (p1 &&& (2147483647 : Int32)) (26 : Int32))).toUInt32.toUInt16.toUInt32.toInt32)), .val (.int (((65 : Int32) + (own_irem (p1 &&& (2147483647 : Int32)) (26 : Int32))).toUInt32.toUInt16.toUInt32.toInt32)), .val (.int (1 : Int32)), .val (.int (upF ((p0 &&& (65535 : Int32)).toUInt32.toUInt16.toUInt32.toInt32))), .val (.int (((p0 &&& (65535 : Int32)).toUInt32.toUInt16.toUInt32.toInt32) - (97 : Int32))), .unset, .unset] [(.int (upF ((p0 &&& (65535 : Int32)).toUInt32.toUInt16.toUInt32.toInt32)))])) t
        refine XS.bipush X0_3.here hx rfl (hb hby at_81) ?_
        show Steps p.tables e below (T0_3.setTop (mkF m 83 #[.val (.int p0), .val (.int p1), .val (.int ((p0 &&& (65535 : Int32)).toUInt32.toUInt16.toUInt32.toInt32)), .val (.int (own_irem (p1 &&& (2147483647 : Int32)) (26 : Int32))), .val (.int (((97 : Int32) + (own_irem (p1 &&& (2147483647 : Int32)) (26 : Int32))).toUInt32.toUInt16.toUInt32.toInt32)), .val (.int (((65 : Int32) + (own_irem (p1 &&& (2147483647 : Int32)) (26 : Int32))).toUInt32.toUInt16.toUInt32.toInt32)), .val (.int (1 : Int32)), .val (.int (upF ((p0 &&& (65535 : Int32)).toUInt32.toUInt16.toUInt32.toInt32))), .val (.int (((p0 &&& (65535 : Int32)).toUInt32.toUInt16.toUInt32.toInt32) - (97 : Int32))), .unset, .unset] [(.int (65 : Int32)), (.int (upF ((p0 &&& (65535 : Int32)).toUInt32.toUInt16.toUInt32.toInt32)))])) t
        refine XS.iload X0_3.here hx rfl (hb hby at_83) rfl ?_
        show Steps p.tables e below (T0_3.setTop (mkF m 85 #[.val (.int p0), .val (.int p1), .val (.int ((p0 &&& (65535 : Int32)).toUInt32.toUInt16.toUInt32.toInt32)), .val (.int (own_irem (p1 &&& (2147483647 : Int32)) (26 : Int32))), .val (.int (((97 : Int32) + (own_irem (p1 &&& (2147483647 : Int32)) (26 : Int32))).toUInt32.toUInt16.toUInt32.toInt32)), .val (.int (((65 : Int32) + (own_irem (p1 &&& (2147483647 : Int32)) (26 : Int32))).toUInt32.toUInt16.toUInt32.toInt32)), .val (.int (1 : Int32)), .val (.int (upF ((p0 &&& (65535 : Int32)).toUInt32.toUInt16.toUInt32.toInt32))), .val (.int (((p0 &&& (65535 : Int32)).toUInt32.toUInt16.toUInt32.toInt32) - (97 : Int32))), .unset, .unset] [(.int (((p0 &&& (65535 : Int32)).toUInt32.toUInt16.toUInt32.toInt32) - (97 : Int32))), (.int (65 : Int32)), (.int (upF ((p0 &&& (65535 : Int32)).toUInt32.toUInt16.toUInt32.toInt32)))])) t
        refine XS.iadd X0_3.here hx rfl (hb hby at_85) rfl ?_
        show Steps p.tables e below (T0_3.setTop (mkF m 86 #[.val (.int p0), .val (.int p1), .val (.int ((p0 &&& (65535 : Int32)).toUInt32.toUInt16.toUInt32.toInt32)), .val (.int (own_irem (p1 &&& (2147483647 : Int32)) (26 : Int32))), .val (.int (((97 : Int32) + (own_irem (p1 &&& (2147483647 : Int32)) (26 : Int32))).toUInt32.toUInt16.toUInt32.toInt32)), .val (.int (((65 : Int32) + (own_irem (p1 &&& (2147483647 : Int32)) (26 : Int32))).toUInt32.toUInt16.toUInt32.toInt32)), .val (.int (1 : Int32)), .val (.int (upF ((p0 &&& (65535 : Int32)).toUInt32.toUInt16.toUInt32.toInt32))), .val (.int (((p0 &&& (65535 : Int32)).toUInt32.toUInt16.toUInt32.toInt32) - (97 : Int32))), .unset, .unset] [(.int ((65 : Int32) + (((p0 &&& (65535 : Int32)).toUInt32.toUInt16.toUInt32.toInt32) - (97 : Int32)))), (.int (upF ((p0 &&& (65535 : Int32)).toUInt32.toUInt16.toUInt32.toInt32)))])) t
        refine XS.i2c X0_3.here hx rfl (hb hby at_86) rfl ?_
        show Steps p.tables e below (T0_3.setTop (mkF m 87 #[.val (.int p0), .val (.int p1), .val (.int ((p0 &&& (65535 : Int32)).toUInt32.toUInt16.toUInt32.toInt32)), .val (.int (own_irem (p1 &&& (2147483647 : Int32)) (26 : Int32))), .val (.int (((97 : Int32) + (own_irem (p1 &&& (2147483647 : Int32)) (26 : Int32))).toUInt32.toUInt16.toUInt32.toInt32)), .val (.int (((65 : Int32) + (own_irem (p1 &&& (2147483647 : Int32)) (26 : Int32))).toUInt32.toUInt16.toUInt32.toInt32)), .val (.int (1 : Int32)), .val (.int (upF ((p0 &&& (65535 : Int32)).toUInt32.toUInt16.toUInt32.toInt32))), .val (.int (((p0 &&& (65535 : Int32)).toUInt32.toUInt16.toUInt32.toInt32) - (97 : Int32))), .unset, .unset] [(.int (((65 : Int32) + (((p0 &&& (65535 : Int32)).toUInt32.toUInt16.toUInt32.toInt32) - (97 : Int32))).toUInt32.toUInt16.toUInt32.toInt32)), (.int (upF ((p0 &&& (65535 : Int32)).toUInt32.toUInt16.toUInt32.toInt32)))])) t
        refine XS.icmpNo X0_3.here hx rfl (hb hby at_87) rfl (teq (own_b87 ((p0 &&& (65535 : Int32)).toUInt32.toUInt16.toUInt32.toInt32) (c_i2c (p0 &&& (65535 : Int32))).2.1 (c_i2c (p0 &&& (65535 : Int32))).2.2 hc0_1 hc0_2)).2 ?_
        show Steps p.tables e below (T0_3.setTop (mkF m 90 #[.val (.int p0), .val (.int p1), .val (.int ((p0 &&& (65535 : Int32)).toUInt32.toUInt16.toUInt32.toInt32)), .val (.int (own_irem (p1 &&& (2147483647 : Int32)) (26 : Int32))), .val (.int (((97 : Int32) + (own_irem (p1 &&& (2147483647 : Int32)) (26 : Int32))).toUInt32.toUInt16.toUInt32.toInt32)), .val (.int (((65 : Int32) + (own_irem (p1 &&& (2147483647 : Int32)) (26 : Int32))).toUInt32.toUInt16.toUInt32.toInt32)), .val (.int (1 : Int32)), .val (.int (upF ((p0 &&& (65535 : Int32)).toUInt32.toUInt16.toUInt32.toInt32))), .val (.int (((p0 &&& (65535 : Int32)).toUInt32.toUInt16.toUInt32.toInt32) - (97 : Int32))), .unset, .unset] [])) t
        refine XS.iconst X0_3.here hx rfl (hb hby at_90) ?_
        show Steps p.tables e below (T0_3.setTop (mkF m 91 #[.val (.int p0), .val (.int p1), .val (.int ((p0 &&& (65535 : Int32)).toUInt32.toUInt16.toUInt32.toInt32)), .val (.int (own_irem (p1 &&& (2147483647 : Int32)) (26 : Int32))), .val (.int (((97 : Int32) + (own_irem (p1 &&& (2147483647 : Int32)) (26 : Int32))).toUInt32.toUInt16.toUInt32.toInt32)), .val (.int (((65 : Int32) + (own_irem (p1 &&& (2147483647 : Int32)) (26 : Int32))).toUInt32.toUInt16.toUInt32.toInt32)), .val (.int (1 : Int32)), .val (.int (upF ((p0 &&& (65535 : Int32)).toUInt32.toUInt16.toUInt32.toInt32))), .val (.int (((p0 &&& (65535 : Int32)).toUInt32.toUInt16.toUInt32.toInt32) - (97 : Int32))), .unset, .unset] [(.int (1 : Int32))])) t
        refine XS.goto X0_3.here hx rfl (pc0 := 91) (pc' := 95) rfl (hb hby at_91) (by decide) (by decide) ?_
        show Steps p.tables e below (T0_3.setTop (mkF m 95 #[.val (.int p0), .val (.int p1), .val (.int ((p0 &&& (65535 : Int32)).toUInt32.toUInt16.toUInt32.toInt32)), .val (.int (own_irem (p1 &&& (2147483647 : Int32)) (26 : Int32))), .val (.int (((97 : Int32) + (own_irem (p1 &&& (2147483647 : Int32)) (26 : Int32))).toUInt32.toUInt16.toUInt32.toInt32)), .val (.int (((65 : Int32) + (own_irem (p1 &&& (2147483647 : Int32)) (26 : Int32))).toUInt32.toUInt16.toUInt32.toInt32)), .val (.int (1 : Int32)), .val (.int (upF ((p0 &&& (65535 : Int32)).toUInt32.toUInt16.toUInt32.toInt32))), .val (.int (((p0 &&& (65535 : Int32)).toUInt32.toUInt16.toUInt32.toInt32) - (97 : Int32))), .unset, .unset] [(.int (1 : Int32))])) t
        refine XS.istore X0_3.here hx rfl (hb hby at_95) rfl (l' := #[.val (.int p0), .val (.int p1), .val (.int ((p0 &&& (65535 : Int32)).toUInt32.toUInt16.toUInt32.toInt32)), .val (.int (own_irem (p1 &&& (2147483647 : Int32)) (26 : Int32))), .val (.int (((97 : Int32) + (own_irem (p1 &&& (2147483647 : Int32)) (26 : Int32))).toUInt32.toUInt16.toUInt32.toInt32)), .val (.int (((65 : Int32) + (own_irem (p1 &&& (2147483647 : Int32)) (26 : Int32))).toUInt32.toUInt16.toUInt32.toInt32)), .val (.int (1 : Int32)), .val (.int (upF ((p0 &&& (65535 : Int32)).toUInt32.toUInt16.toUInt32.toInt32))), .val (.int (((p0 &&& (65535 : Int32)).toUInt32.toUInt16.toUInt32.toInt32) - (97 : Int32))), .val (.int (1 : Int32)), .unset]) rfl ?_
        show Steps p.tables e below (T0_3.setTop (mkF m 97 #[.val (.int p0), .val (.int p1), .val (.int ((p0 &&& (65535 : Int32)).toUInt32.toUInt16.toUInt32.toInt32)), .val (.int (own_irem (p1 &&& (2147483647 : Int32)) (26 : Int32))), .val (.int (((97 : Int32) + (own_irem (p1 &&& (2147483647 : Int32)) (26 : Int32))).toUInt32.toUInt16.toUInt32.toInt32)), .val (.int (((65 : Int32) + (own_irem (p1 &&& (2147483647 : Int32)) (26 : Int32))).toUInt32.toUInt16.toUInt32.toInt32)), .val (.int (1 : Int32)), .val (.int (upF ((p0 &&& (65535 : Int32)).toUInt32.toUInt16.toUInt32.toInt32))), .val (.int (((p0 &&& (65535 : Int32)).toUInt32.toUInt16.toUInt32.toInt32) - (97 : Int32))), .val (.int (1 : Int32)), .unset] [])) t
        refine XS.goto X0_3.here hx rfl (pc0 := 97) (pc' := 113) rfl (hb hby at_97) (by decide) (by decide) ?_
        show Steps p.tables e below (T0_3.setTop (mkF m 113 #[.val (.int p0), .val (.int p1), .val (.int ((p0 &&& (65535 : Int32)).toUInt32.toUInt16.toUInt32.toInt32)), .val (.int (own_irem (p1 &&& (2147483647 : Int32)) (26 : Int32))), .val (.int (((97 : Int32) + (own_irem (p1 &&& (2147483647 : Int32)) (26 : Int32))).toUInt32.toUInt16.toUInt32.toInt32)), .val (.int (((65 : Int32) + (own_irem (p1 &&& (2147483647 : Int32)) (26 : Int32))).toUInt32.toUInt16.toUInt32.toInt32)), .val (.int (1 : Int32)), .val (.int (upF ((p0 &&& (65535 : Int32)).toUInt32.toUInt16.toUInt32.toInt32))), .val (.int (((p0 &&& (65535 : Int32)).toUInt32.toUInt16.toUInt32.toInt32) - (97 : Int32))), .val (.int (1 : Int32)), .unset] [])) t
        refine XS.iload X0_3.here hx rfl (hb hby at_113) rfl ?_
        exact k
      obtain ⟨_, _, ⟨T0_5, L0_5, k0_5, n0_5⟩, -, X0_5, ⟨Lc0_5, hQ0_5, l0_5, y0_5, z0_5⟩, st0_5⟩ := Jvm.LawKit.callS X0_3 hx (y := (⟨"com/example/copperline/copperline/Lexer", "upperCase", "(C)C"⟩ : MethodName)) hown (mvT hZ (hw _ (List.mem_of_getElem? (i := 2) rfl))) (mvT hZ (hw _ (List.mem_of_getElem? (i := 3) rfl))) (mvT hZ (hw _ (List.mem_of_getElem? (i := 4) rfl))) (mvT hZ (hw _ (List.mem_of_getElem? (i := 5) rfl))) (by decide) (backOf (W := 0) (rm1 l Z a0 hw [] ((upF ((p0 &&& (65535 : Int32)).toUInt32.toUInt16.toUInt32.toInt32))) h0 n0 Z0 ) hZ (hw _ (List.mem_of_getElem? (i := 5) rfl)) (hw _ (List.mem_of_getElem? (i := 4) rfl)) (by decide) (by decide)) (g := (mkF m 115 #[.val (.int p0), .val (.int p1), .val (.int ((p0 &&& (65535 : Int32)).toUInt32.toUInt16.toUInt32.toInt32)), .val (.int (own_irem (p1 &&& (2147483647 : Int32)) (26 : Int32))), .val (.int (((97 : Int32) + (own_irem (p1 &&& (2147483647 : Int32)) (26 : Int32))).toUInt32.toUInt16.toUInt32.toInt32)), .val (.int (((65 : Int32) + (own_irem (p1 &&& (2147483647 : Int32)) (26 : Int32))).toUInt32.toUInt16.toUInt32.toInt32)), .val (.int (1 : Int32)), .val (.int (upF ((p0 &&& (65535 : Int32)).toUInt32.toUInt16.toUInt32.toInt32))), .val (.int (((p0 &&& (65535 : Int32)).toUInt32.toUInt16.toUInt32.toInt32) - (97 : Int32))), .val (.int (1 : Int32)), .unset] [(.int (upF ((p0 &&& (65535 : Int32)).toUInt32.toUInt16.toUInt32.toInt32)))])) rfl (by rw [hml]; rfl) (argsL := [(.int (upF ((p0 &&& (65535 : Int32)).toUInt32.toUInt16.toUInt32.toInt32)))]) (rest := []) (lenOf pd0_0 rfl) rfl (by show 2 * 0 + _ ≤ _; exact Nat.le_of_eq rfl) (hb hby at_115) (fun _ _ => ⟨rfl, e0_3, (by decide : 0 + 0 ≤ _), (by decide : 0 + 0 ≤ _)⟩)
      dsimp only [Pt.U, Pt.locs, Pt.cells, Pt.slots] at X0_5 l0_5 y0_5 z0_5 st0_5 hQ0_5
      subst l0_5 y0_5 z0_5
      obtain ⟨rfl, N0_5q, e0_5⟩ := hQ0_5
      have N0_5 := Fr.app N0_3 N0_5q
      refine own_fw st0_5 ?_
      refine own_fw (A := T0_5.setTop (mkF m 150 #[.val (.int p0), .val (.int p1), .val (.int ((p0 &&& (65535 : Int32)).toUInt32.toUInt16.toUInt32.toInt32)), .val (.int (own_irem (p1 &&& (2147483647 : Int32)) (26 : Int32))), .val (.int (((97 : Int32) + (own_irem (p1 &&& (2147483647 : Int32)) (26 : Int32))).toUInt32.toUInt16.toUInt32.toInt32)), .val (.int (((65 : Int32) + (own_irem (p1 &&& (2147483647 : Int32)) (26 : Int32))).toUInt32.toUInt16.toUInt32.toInt32)), .val (.int (1 : Int32)), .val (.int (upF ((p0 &&& (65535 : Int32)).toUInt32.toUInt16.toUInt32.toInt32))), .val (.int (((p0 &&& (65535 : Int32)).toUInt32.toUInt16.toUInt32.toInt32) - (97 : Int32))), .val (.int (1 : Int32)), .val (.int (1 : Int32))] [(.int (1 : Int32))])) (fun t k => ?_) ?_
      · show Steps p.tables e below (T0_5.setTop (mkF m 118 #[.val (.int p0), .val (.int p1), .val (.int ((p0 &&& (65535 : Int32)).toUInt32.toUInt16.toUInt32.toInt32)), .val (.int (own_irem (p1 &&& (2147483647 : Int32)) (26 : Int32))), .val (.int (((97 : Int32) + (own_irem (p1 &&& (2147483647 : Int32)) (26 : Int32))).toUInt32.toUInt16.toUInt32.toInt32)), .val (.int (((65 : Int32) + (own_irem (p1 &&& (2147483647 : Int32)) (26 : Int32))).toUInt32.toUInt16.toUInt32.toInt32)), .val (.int (1 : Int32)), .val (.int (upF ((p0 &&& (65535 : Int32)).toUInt32.toUInt16.toUInt32.toInt32))), .val (.int (((p0 &&& (65535 : Int32)).toUInt32.toUInt16.toUInt32.toInt32) - (97 : Int32))), .val (.int (1 : Int32)), .unset] [(.int (upF (upF ((p0 &&& (65535 : Int32)).toUInt32.toUInt16.toUInt32.toInt32))))])) t
        refine XS.iload X0_5.here hx rfl (hb hby at_118) rfl ?_
        show Steps p.tables e below (T0_5.setTop (mkF m 120 #[.val (.int p0), .val (.int p1), .val (.int ((p0 &&& (65535 : Int32)).toUInt32.toUInt16.toUInt32.toInt32)), .val (.int (own_irem (p1 &&& (2147483647 : Int32)) (26 : Int32))), .val (.int (((97 : Int32) + (own_irem (p1 &&& (2147483647 : Int32)) (26 : Int32))).toUInt32.toUInt16.toUInt32.toInt32)), .val (.int (((65 : Int32) + (own_irem (p1 &&& (2147483647 : Int32)) (26 : Int32))).toUInt32.toUInt16.toUInt32.toInt32)), .val (.int (1 : Int32)), .val (.int (upF ((p0 &&& (65535 : Int32)).toUInt32.toUInt16.toUInt32.toInt32))), .val (.int (((p0 &&& (65535 : Int32)).toUInt32.toUInt16.toUInt32.toInt32) - (97 : Int32))), .val (.int (1 : Int32)), .unset] [(.int (upF ((p0 &&& (65535 : Int32)).toUInt32.toUInt16.toUInt32.toInt32))), (.int (upF (upF ((p0 &&& (65535 : Int32)).toUInt32.toUInt16.toUInt32.toInt32))))])) t
        refine XS.icmpNo X0_5.here hx rfl (hb hby at_120) rfl (teq (own_b120 ((p0 &&& (65535 : Int32)).toUInt32.toUInt16.toUInt32.toInt32) (c_i2c (p0 &&& (65535 : Int32))).2.1 (c_i2c (p0 &&& (65535 : Int32))).2.2)).2 ?_
        show Steps p.tables e below (T0_5.setTop (mkF m 123 #[.val (.int p0), .val (.int p1), .val (.int ((p0 &&& (65535 : Int32)).toUInt32.toUInt16.toUInt32.toInt32)), .val (.int (own_irem (p1 &&& (2147483647 : Int32)) (26 : Int32))), .val (.int (((97 : Int32) + (own_irem (p1 &&& (2147483647 : Int32)) (26 : Int32))).toUInt32.toUInt16.toUInt32.toInt32)), .val (.int (((65 : Int32) + (own_irem (p1 &&& (2147483647 : Int32)) (26 : Int32))).toUInt32.toUInt16.toUInt32.toInt32)), .val (.int (1 : Int32)), .val (.int (upF ((p0 &&& (65535 : Int32)).toUInt32.toUInt16.toUInt32.toInt32))), .val (.int (((p0 &&& (65535 : Int32)).toUInt32.toUInt16.toUInt32.toInt32) - (97 : Int32))), .val (.int (1 : Int32)), .unset] [])) t
        refine XS.iconst X0_5.here hx rfl (hb hby at_123) ?_
        show Steps p.tables e below (T0_5.setTop (mkF m 124 #[.val (.int p0), .val (.int p1), .val (.int ((p0 &&& (65535 : Int32)).toUInt32.toUInt16.toUInt32.toInt32)), .val (.int (own_irem (p1 &&& (2147483647 : Int32)) (26 : Int32))), .val (.int (((97 : Int32) + (own_irem (p1 &&& (2147483647 : Int32)) (26 : Int32))).toUInt32.toUInt16.toUInt32.toInt32)), .val (.int (((65 : Int32) + (own_irem (p1 &&& (2147483647 : Int32)) (26 : Int32))).toUInt32.toUInt16.toUInt32.toInt32)), .val (.int (1 : Int32)), .val (.int (upF ((p0 &&& (65535 : Int32)).toUInt32.toUInt16.toUInt32.toInt32))), .val (.int (((p0 &&& (65535 : Int32)).toUInt32.toUInt16.toUInt32.toInt32) - (97 : Int32))), .val (.int (1 : Int32)), .unset] [(.int (1 : Int32))])) t
        refine XS.goto X0_5.here hx rfl (pc0 := 124) (pc' := 128) rfl (hb hby at_124) (by decide) (by decide) ?_
        show Steps p.tables e below (T0_5.setTop (mkF m 128 #[.val (.int p0), .val (.int p1), .val (.int ((p0 &&& (65535 : Int32)).toUInt32.toUInt16.toUInt32.toInt32)), .val (.int (own_irem (p1 &&& (2147483647 : Int32)) (26 : Int32))), .val (.int (((97 : Int32) + (own_irem (p1 &&& (2147483647 : Int32)) (26 : Int32))).toUInt32.toUInt16.toUInt32.toInt32)), .val (.int (((65 : Int32) + (own_irem (p1 &&& (2147483647 : Int32)) (26 : Int32))).toUInt32.toUInt16.toUInt32.toInt32)), .val (.int (1 : Int32)), .val (.int (upF ((p0 &&& (65535 : Int32)).toUInt32.toUInt16.toUInt32.toInt32))), .val (.int (((p0 &&& (65535 : Int32)).toUInt32.toUInt16.toUInt32.toInt32) - (97 : Int32))), .val (.int (1 : Int32)), .unset] [(.int (1 : Int32))])) t
        refine XS.istore X0_5.here hx rfl (hb hby at_128) rfl (l' := #[.val (.int p0), .val (.int p1), .val (.int ((p0 &&& (65535 : Int32)).toUInt32.toUInt16.toUInt32.toInt32)), .val (.int (own_irem (p1 &&& (2147483647 : Int32)) (26 : Int32))), .val (.int (((97 : Int32) + (own_irem (p1 &&& (2147483647 : Int32)) (26 : Int32))).toUInt32.toUInt16.toUInt32.toInt32)), .val (.int (((65 : Int32) + (own_irem (p1 &&& (2147483647 : Int32)) (26 : Int32))).toUInt32.toUInt16.toUInt32.toInt32)), .val (.int (1 : Int32)), .val (.int (upF ((p0 &&& (65535 : Int32)).toUInt32.toUInt16.toUInt32.toInt32))), .val (.int (((p0 &&& (65535 : Int32)).toUInt32.toUInt16.toUInt32.toInt32) - (97 : Int32))), .val (.int (1 : Int32)), .val (.int (1 : Int32))]) rfl ?_
        show Steps p.tables e below (T0_5.setTop (mkF m 130 #[.val (.int p0), .val (.int p1), .val (.int ((p0 &&& (65535 : Int32)).toUInt32.toUInt16.toUInt32.toInt32)), .val (.int (own_irem (p1 &&& (2147483647 : Int32)) (26 : Int32))), .val (.int (((97 : Int32) + (own_irem (p1 &&& (2147483647 : Int32)) (26 : Int32))).toUInt32.toUInt16.toUInt32.toInt32)), .val (.int (((65 : Int32) + (own_irem (p1 &&& (2147483647 : Int32)) (26 : Int32))).toUInt32.toUInt16.toUInt32.toInt32)), .val (.int (1 : Int32)), .val (.int (upF ((p0 &&& (65535 : Int32)).toUInt32.toUInt16.toUInt32.toInt32))), .val (.int (((p0 &&& (65535 : Int32)).toUInt32.toUInt16.toUInt32.toInt32) - (97 : Int32))), .val (.int (1 : Int32)), .val (.int (1 : Int32))] [])) t
        refine XS.iload X0_5.here hx rfl (hb hby at_130) rfl ?_
        show Steps p.tables e below (T0_5.setTop (mkF m 132 #[.val (.int p0), .val (.int p1), .val (.int ((p0 &&& (65535 : Int32)).toUInt32.toUInt16.toUInt32.toInt32)), .val (.int (own_irem (p1 &&& (2147483647 : Int32)) (26 : Int32))), .val (.int (((97 : Int32) + (own_irem (p1 &&& (2147483647 : Int32)) (26 : Int32))).toUInt32.toUInt16.toUInt32.toInt32)), .val (.int (((65 : Int32) + (own_irem (p1 &&& (2147483647 : Int32)) (26 : Int32))).toUInt32.toUInt16.toUInt32.toInt32)), .val (.int (1 : Int32)), .val (.int (upF ((p0 &&& (65535 : Int32)).toUInt32.toUInt16.toUInt32.toInt32))), .val (.int (((p0 &&& (65535 : Int32)).toUInt32.toUInt16.toUInt32.toInt32) - (97 : Int32))), .val (.int (1 : Int32)), .val (.int (1 : Int32))] [(.int (1 : Int32))])) t
        refine XS.ifNo X0_5.here hx rfl (hb hby at_132) rfl ((if0 _ _).trans (feq (by decide : ¬ ((1 : Int32) = (0 : Int32)))).1) ?_
        show Steps p.tables e below (T0_5.setTop (mkF m 135 #[.val (.int p0), .val (.int p1), .val (.int ((p0 &&& (65535 : Int32)).toUInt32.toUInt16.toUInt32.toInt32)), .val (.int (own_irem (p1 &&& (2147483647 : Int32)) (26 : Int32))), .val (.int (((97 : Int32) + (own_irem (p1 &&& (2147483647 : Int32)) (26 : Int32))).toUInt32.toUInt16.toUInt32.toInt32)), .val (.int (((65 : Int32) + (own_irem (p1 &&& (2147483647 : Int32)) (26 : Int32))).toUInt32.toUInt16.toUInt32.toInt32)), .val (.int (1 : Int32)), .val (.int (upF ((p0 &&& (65535 : Int32)).toUInt32.toUInt16.toUInt32.toInt32))), .val (.int (((p0 &&& (65535 : Int32)).toUInt32.toUInt16.toUInt32.toInt32) - (97 : Int32))), .val (.int (1 : Int32)), .val (.int (1 : Int32))] [])) t
        refine XS.iload X0_5.here hx rfl (hb hby at_135) rfl ?_
        show Steps p.tables e below (T0_5.setTop (mkF m 137 #[.val (.int p0), .val (.int p1), .val (.int ((p0 &&& (65535 : Int32)).toUInt32.toUInt16.toUInt32.toInt32)), .val (.int (own_irem (p1 &&& (2147483647 : Int32)) (26 : Int32))), .val (.int (((97 : Int32) + (own_irem (p1 &&& (2147483647 : Int32)) (26 : Int32))).toUInt32.toUInt16.toUInt32.toInt32)), .val (.int (((65 : Int32) + (own_irem (p1 &&& (2147483647 : Int32)) (26 : Int32))).toUInt32.toUInt16.toUInt32.toInt32)), .val (.int (1 : Int32)), .val (.int (upF ((p0 &&& (65535 : Int32)).toUInt32.toUInt16.toUInt32.toInt32))), .val (.int (((p0 &&& (65535 : Int32)).toUInt32.toUInt16.toUInt32.toInt32) - (97 : Int32))), .val (.int (1 : Int32)), .val (.int (1 : Int32))] [(.int (1 : Int32))])) t
        refine XS.ifNo X0_5.here hx rfl (hb hby at_137) rfl ((if0 _ _).trans (feq (by decide : ¬ ((1 : Int32) = (0 : Int32)))).1) ?_
        show Steps p.tables e below (T0_5.setTop (mkF m 140 #[.val (.int p0), .val (.int p1), .val (.int ((p0 &&& (65535 : Int32)).toUInt32.toUInt16.toUInt32.toInt32)), .val (.int (own_irem (p1 &&& (2147483647 : Int32)) (26 : Int32))), .val (.int (((97 : Int32) + (own_irem (p1 &&& (2147483647 : Int32)) (26 : Int32))).toUInt32.toUInt16.toUInt32.toInt32)), .val (.int (((65 : Int32) + (own_irem (p1 &&& (2147483647 : Int32)) (26 : Int32))).toUInt32.toUInt16.toUInt32.toInt32)), .val (.int (1 : Int32)), .val (.int (upF ((p0 &&& (65535 : Int32)).toUInt32.toUInt16.toUInt32.toInt32))), .val (.int (((p0 &&& (65535 : Int32)).toUInt32.toUInt16.toUInt32.toInt32) - (97 : Int32))), .val (.int (1 : Int32)), .val (.int (1 : Int32))] [])) t
        refine XS.iload X0_5.here hx rfl (hb hby at_140) rfl ?_
        show Steps p.tables e below (T0_5.setTop (mkF m 142 #[.val (.int p0), .val (.int p1), .val (.int ((p0 &&& (65535 : Int32)).toUInt32.toUInt16.toUInt32.toInt32)), .val (.int (own_irem (p1 &&& (2147483647 : Int32)) (26 : Int32))), .val (.int (((97 : Int32) + (own_irem (p1 &&& (2147483647 : Int32)) (26 : Int32))).toUInt32.toUInt16.toUInt32.toInt32)), .val (.int (((65 : Int32) + (own_irem (p1 &&& (2147483647 : Int32)) (26 : Int32))).toUInt32.toUInt16.toUInt32.toInt32)), .val (.int (1 : Int32)), .val (.int (upF ((p0 &&& (65535 : Int32)).toUInt32.toUInt16.toUInt32.toInt32))), .val (.int (((p0 &&& (65535 : Int32)).toUInt32.toUInt16.toUInt32.toInt32) - (97 : Int32))), .val (.int (1 : Int32)), .val (.int (1 : Int32))] [(.int (1 : Int32))])) t
        refine XS.ifNo X0_5.here hx rfl (hb hby at_142) rfl ((if0 _ _).trans (feq (by decide : ¬ ((1 : Int32) = (0 : Int32)))).1) ?_
        show Steps p.tables e below (T0_5.setTop (mkF m 145 #[.val (.int p0), .val (.int p1), .val (.int ((p0 &&& (65535 : Int32)).toUInt32.toUInt16.toUInt32.toInt32)), .val (.int (own_irem (p1 &&& (2147483647 : Int32)) (26 : Int32))), .val (.int (((97 : Int32) + (own_irem (p1 &&& (2147483647 : Int32)) (26 : Int32))).toUInt32.toUInt16.toUInt32.toInt32)), .val (.int (((65 : Int32) + (own_irem (p1 &&& (2147483647 : Int32)) (26 : Int32))).toUInt32.toUInt16.toUInt32.toInt32)), .val (.int (1 : Int32)), .val (.int (upF ((p0 &&& (65535 : Int32)).toUInt32.toUInt16.toUInt32.toInt32))), .val (.int (((p0 &&& (65535 : Int32)).toUInt32.toUInt16.toUInt32.toInt32) - (97 : Int32))), .val (.int (1 : Int32)), .val (.int (1 : Int32))] [])) t
        refine XS.iconst X0_5.here hx rfl (hb hby at_145) ?_
        show Steps p.tables e below (T0_5.setTop (mkF m 146 #[.val (.int p0), .val (.int p1), .val (.int ((p0 &&& (65535 : Int32)).toUInt32.toUInt16.toUInt32.toInt32)), .val (.int (own_irem (p1 &&& (2147483647 : Int32)) (26 : Int32))), .val (.int (((97 : Int32) + (own_irem (p1 &&& (2147483647 : Int32)) (26 : Int32))).toUInt32.toUInt16.toUInt32.toInt32)), .val (.int (((65 : Int32) + (own_irem (p1 &&& (2147483647 : Int32)) (26 : Int32))).toUInt32.toUInt16.toUInt32.toInt32)), .val (.int (1 : Int32)), .val (.int (upF ((p0 &&& (65535 : Int32)).toUInt32.toUInt16.toUInt32.toInt32))), .val (.int (((p0 &&& (65535 : Int32)).toUInt32.toUInt16.toUInt32.toInt32) - (97 : Int32))), .val (.int (1 : Int32)), .val (.int (1 : Int32))] [(.int (1 : Int32))])) t
        refine XS.goto X0_5.here hx rfl (pc0 := 146) (pc' := 150) rfl (hb hby at_146) (by decide) (by decide) ?_
        exact k
      obtain ⟨fs, hr, hrun, hended, hW, hsame⟩ := X0_5.leave (v := some (.int (nar .boolean (1 : Int32)))) (fun h => by rw [Bd.returns] at h; cases h)
      exact ⟨_, _, retN X0_5 hx (t := .boolean) Bd.returns (by simp) (hb hby at_150) hr, hrun, hended, _, _, rfl, ⟨rfl, N0_5⟩, ⟨_, rfl⟩, hW, hsame.mono (by decide) (by decide)⟩
    · refine own_fw (A := T0_3.setTop (mkF m 100 #[.val (.int p0), .val (.int p1), .val (.int ((p0 &&& (65535 : Int32)).toUInt32.toUInt16.toUInt32.toInt32)), .val (.int (own_irem (p1 &&& (2147483647 : Int32)) (26 : Int32))), .val (.int (((97 : Int32) + (own_irem (p1 &&& (2147483647 : Int32)) (26 : Int32))).toUInt32.toUInt16.toUInt32.toInt32)), .val (.int (((65 : Int32) + (own_irem (p1 &&& (2147483647 : Int32)) (26 : Int32))).toUInt32.toUInt16.toUInt32.toInt32)), .val (.int (1 : Int32)), .val (.int (upF ((p0 &&& (65535 : Int32)).toUInt32.toUInt16.toUInt32.toInt32))), .val (.int (((p0 &&& (65535 : Int32)).toUInt32.toUInt16.toUInt32.toInt32) - (97 : Int32))), .unset, .unset] [])) (fun t k => ?_) ?_
      · show Steps p.tables e below (T0_3.setTop (mkF m 76 #[.val (.int p0), .val (.int p1), .val (.int ((p0 &&& (65535 : Int32)).toUInt32.toUInt16.toUInt32.toInt32)), .val (.int (own_irem (p1 &&& (2147483647 : Int32)) (26 : Int32))), .val (.int (((97 : Int32) + (own_irem (p1 &&& (2147483647 : Int32)) (26 : Int32))).toUInt32.toUInt16.toUInt32.toInt32)), .val (.int (((65 : Int32) + (own_irem (p1 &&& (2147483647 : Int32)) (26 : Int32))).toUInt32.toUInt16.toUInt32.toInt32)), .val (.int (1 : Int32)), .val (.int (upF ((p0 &&& (65535 : Int32)).toUInt32.toUInt16.toUInt32.toInt32))), .val (.int (((p0 &&& (65535 : Int32)).toUInt32.toUInt16.toUInt32.toInt32) - (97 : Int32))), .unset, .unset] [(.int (26 : Int32)), (.int (((p0 &&& (65535 : Int32)).toUInt32.toUInt16.toUInt32.toInt32) - (97 : Int32)))])) t
        refine XS.icmpYes X0_3.here hx rfl (pc0 := 76) (pc' := 100) rfl (hb hby at_76) rfl (flt hc0_2).2.1 (by decide) (by decide) ?_
        exact k
      refine own_fw (A := T0_3.setTop (mkF m 115 #[.val (.int p0), .val (.int p1), .val (.int ((p0 &&& (65535 : Int32)).toUInt32.toUInt16.toUInt32.toInt32)), .val (.int (own_irem (p1 &&& (2147483647 : Int32)) (26 : Int32))), .val (.int (((97 : Int32) + (own_irem (p1 &&& (2147483647 : Int32)) (26 : Int32))).toUInt32.toUInt16.toUInt32.toInt32)), .val (.int (((65 : Int32) + (own_irem (p1 &&& (2147483647 : Int32)) (26 : Int32))).toUInt32.toUInt16.toUInt32.toInt32)), .val (.int (1 : Int32)), .val (.int (upF ((p0 &&& (65535 : Int32)).toUInt32.toUInt16.toUInt32.toInt32))), .val (.int (((p0 &&& (65535 : Int32)).toUInt32.toUInt16.toUInt32.toInt32) - (97 : Int32))), .val (.int (1 : Int32)), .unset] [(.int (upF ((p0 &&& (65535 : Int32)).toUInt32.toUInt16.toUInt32.toInt32)))])) (fun t k => ?_) ?_
      · show Steps p.tables e below (T0_3.setTop (mkF m 100 #[.val (.int p0), .val (.int p1), .val (.int ((p0 &&& (65535 : Int32)).toUInt32.toUInt16.toUInt32.toInt32)), .val (.int (own_irem (p1 &&& (2147483647 : Int32)) (26 : Int32))), .val (.int (((97 : Int32) + (own_irem (p1 &&& (2147483647 : Int32)) (26 : Int32))).toUInt32.toUInt16.toUInt32.toInt32)), .val (.int (((65 : Int32) + (own_irem (p1 &&& (2147483647 : Int32)) (26 : Int32))).toUInt32.toUInt16.toUInt32.toInt32)), .val (.int (1 : Int32)), .val (.int (upF ((p0 &&& (65535 : Int32)).toUInt32.toUInt16.toUInt32.toInt32))), .val (.int (((p0 &&& (65535 : Int32)).toUInt32.toUInt16.toUInt32.toInt32) - (97 : Int32))), .unset, .unset] [])) t
        refine XS.iload X0_3.here hx rfl (hb hby at_100) rfl ?_
        show Steps p.tables e below (T0_3.setTop (mkF m 102 #[.val (.int p0), .val (.int p1), .val (.int ((p0 &&& (65535 : Int32)).toUInt32.toUInt16.toUInt32.toInt32)), .val (.int (own_irem (p1 &&& (2147483647 : Int32)) (26 : Int32))), .val (.int (((97 : Int32) + (own_irem (p1 &&& (2147483647 : Int32)) (26 : Int32))).toUInt32.toUInt16.toUInt32.toInt32)), .val (.int (((65 : Int32) + (own_irem (p1 &&& (2147483647 : Int32)) (26 : Int32))).toUInt32.toUInt16.toUInt32.toInt32)), .val (.int (1 : Int32)), .val (.int (upF ((p0 &&& (65535 : Int32)).toUInt32.toUInt16.toUInt32.toInt32))), .val (.int (((p0 &&& (65535 : Int32)).toUInt32.toUInt16.toUInt32.toInt32) - (97 : Int32))), .unset, .unset] [(.int (upF ((p0 &&& (65535 : Int32)).toUInt32.toUInt16.toUInt32.toInt32)))])) t
        refine XS.iloadN X0_3.here hx rfl (hb hby at_102) rfl ?_
        show Steps p.tables e below (T0_3.setTop (mkF m 103 #[.val (.int p0), .val (.int p1), .val (.int ((p0 &&& (65535 : Int32)).toUInt32.toUInt16.toUInt32.toInt32)), .val (.int (own_irem (p1 &&& (2147483647 : Int32)) (26 : Int32))), .val (.int (((97 : Int32) + (own_irem (p1 &&& (2147483647 : Int32)) (26 : Int32))).toUInt32.toUInt16.toUInt32.toInt32)), .val (.int (((65 : Int32) + (own_irem (p1 &&& (2147483647 : Int32)) (26 : Int32))).toUInt32.toUInt16.toUInt32.toInt32)), .val (.int (1 : Int32)), .val (.int (upF ((p0 &&& (65535 : Int32)).toUInt32.toUInt16.toUInt32.toInt32))), .val (.int (((p0 &&& (65535 : Int32)).toUInt32.toUInt16.toUInt32.toInt32) - (97 : Int32))), .unset, .unset] [(.int ((p0 &&& (65535 : Int32)).toUInt32.toUInt16.toUInt32.toInt32)), (.int (upF ((p0 &&& (65535 : Int32)).toUInt32.toUInt16.toUInt32.toInt32)))])) t
        refine XS.icmpNo X0_3.here hx rfl (hb hby at_103) rfl (teq (own_b103 ((p0 &&& (65535 : Int32)).toUInt32.toUInt16.toUInt32.toInt32) (c_i2c (p0 &&& (65535 : Int32))).2.1 (c_i2c (p0 &&& (65535 : Int32))).2.2 (Or.inr hc0_2))).2 ?_
        show Steps p.tables e below (T0_3.setTop (mkF m 106 #[.val (.int p0), .val (.int p1), .val (.int ((p0 &&& (65535 : Int32)).toUInt32.toUInt16.toUInt32.toInt32)), .val (.int (own_irem (p1 &&& (2147483647 : Int32)) (26 : Int32))), .val (.int (((97 : Int32) + (own_irem (p1 &&& (2147483647 : Int32)) (26 : Int32))).toUInt32.toUInt16.toUInt32.toInt32)), .val (.int (((65 : Int32) + (own_irem (p1 &&& (2147483647 : Int32)) (26 : Int32))).toUInt32.toUInt16.toUInt32.toInt32)), .val (.int (1 : Int32)), .val (.int (upF ((p0 &&& (65535 : Int32)).toUInt32.toUInt16.toUInt32.toInt32))), .val (.int (((p0 &&& (65535 : Int32)).toUInt32.toUInt16.toUInt32.toInt32) - (97 : Int32))), .unset, .unset] [])) t
        refine XS.iconst X0_3.here hx rfl (hb hby at_106) ?_
        show Steps p.tables e below (T0_3.setTop (mkF m 107 #[.val (.int p0), .val (.int p1), .val (.int ((p0 &&& (65535 : Int32)).toUInt32.toUInt16.toUInt32.toInt32)), .val (.int (own_irem (p1 &&& (2147483647 : Int32)) (26 : Int32))), .val (.int (((97 : Int32) + (own_irem (p1 &&& (2147483647 : Int32)) (26 : Int32))).toUInt32.toUInt16.toUInt32.toInt32)), .val (.int (((65 : Int32) + (own_irem (p1 &&& (2147483647 : Int32)) (26 : Int32))).toUInt32.toUInt16.toUInt32.toInt32)), .val (.int (1 : Int32)), .val (.int (upF ((p0 &&& (65535 : Int32)).toUInt32.toUInt16.toUInt32.toInt32))), .val (.int (((p0 &&& (65535 : Int32)).toUInt32.toUInt16.toUInt32.toInt32) - (97 : Int32))), .unset, .unset] [(.int (1 : Int32))])) t
        refine XS.goto X0_3.here hx rfl (pc0 := 107) (pc' := 111) rfl (hb hby at_107) (by decide) (by decide) ?_
        show Steps p.tables e below (T0_3.setTop (mkF m 111 #[.val (.int p0), .val (.int p1), .val (.int ((p0 &&& (65535 : Int32)).toUInt32.toUInt16.toUInt32.toInt32)), .val (.int (own_irem (p1 &&& (2147483647 : Int32)) (26 : Int32))), .val (.int (((97 : Int32) + (own_irem (p1 &&& (2147483647 : Int32)) (26 : Int32))).toUInt32.toUInt16.toUInt32.toInt32)), .val (.int (((65 : Int32) + (own_irem (p1 &&& (2147483647 : Int32)) (26 : Int32))).toUInt32.toUInt16.toUInt32.toInt32)), .val (.int (1 : Int32)), .val (.int (upF ((p0 &&& (65535 : Int32)).toUInt32.toUInt16.toUInt32.toInt32))), .val (.int (((p0 &&& (65535 : Int32)).toUInt32.toUInt16.toUInt32.toInt32) - (97 : Int32))), .unset, .unset] [(.int (1 : Int32))])) t
        refine XS.istore X0_3.here hx rfl (hb hby at_111) rfl (l' := #[.val (.int p0), .val (.int p1), .val (.int ((p0 &&& (65535 : Int32)).toUInt32.toUInt16.toUInt32.toInt32)), .val (.int (own_irem (p1 &&& (2147483647 : Int32)) (26 : Int32))), .val (.int (((97 : Int32) + (own_irem (p1 &&& (2147483647 : Int32)) (26 : Int32))).toUInt32.toUInt16.toUInt32.toInt32)), .val (.int (((65 : Int32) + (own_irem (p1 &&& (2147483647 : Int32)) (26 : Int32))).toUInt32.toUInt16.toUInt32.toInt32)), .val (.int (1 : Int32)), .val (.int (upF ((p0 &&& (65535 : Int32)).toUInt32.toUInt16.toUInt32.toInt32))), .val (.int (((p0 &&& (65535 : Int32)).toUInt32.toUInt16.toUInt32.toInt32) - (97 : Int32))), .val (.int (1 : Int32)), .unset]) rfl ?_
        show Steps p.tables e below (T0_3.setTop (mkF m 113 #[.val (.int p0), .val (.int p1), .val (.int ((p0 &&& (65535 : Int32)).toUInt32.toUInt16.toUInt32.toInt32)), .val (.int (own_irem (p1 &&& (2147483647 : Int32)) (26 : Int32))), .val (.int (((97 : Int32) + (own_irem (p1 &&& (2147483647 : Int32)) (26 : Int32))).toUInt32.toUInt16.toUInt32.toInt32)), .val (.int (((65 : Int32) + (own_irem (p1 &&& (2147483647 : Int32)) (26 : Int32))).toUInt32.toUInt16.toUInt32.toInt32)), .val (.int (1 : Int32)), .val (.int (upF ((p0 &&& (65535 : Int32)).toUInt32.toUInt16.toUInt32.toInt32))), .val (.int (((p0 &&& (65535 : Int32)).toUInt32.toUInt16.toUInt32.toInt32) - (97 : Int32))), .val (.int (1 : Int32)), .unset] [])) t
        refine XS.iload X0_3.here hx rfl (hb hby at_113) rfl ?_
        exact k
      obtain ⟨_, _, ⟨T0_6, L0_6, k0_6, n0_6⟩, -, X0_6, ⟨Lc0_6, hQ0_6, l0_6, y0_6, z0_6⟩, st0_6⟩ := Jvm.LawKit.callS X0_3 hx (y := (⟨"com/example/copperline/copperline/Lexer", "upperCase", "(C)C"⟩ : MethodName)) hown (mvT hZ (hw _ (List.mem_of_getElem? (i := 2) rfl))) (mvT hZ (hw _ (List.mem_of_getElem? (i := 3) rfl))) (mvT hZ (hw _ (List.mem_of_getElem? (i := 4) rfl))) (mvT hZ (hw _ (List.mem_of_getElem? (i := 5) rfl))) (by decide) (backOf (W := 0) (rm1 l Z a0 hw [] ((upF ((p0 &&& (65535 : Int32)).toUInt32.toUInt16.toUInt32.toInt32))) h0 n0 Z0 ) hZ (hw _ (List.mem_of_getElem? (i := 5) rfl)) (hw _ (List.mem_of_getElem? (i := 4) rfl)) (by decide) (by decide)) (g := (mkF m 115 #[.val (.int p0), .val (.int p1), .val (.int ((p0 &&& (65535 : Int32)).toUInt32.toUInt16.toUInt32.toInt32)), .val (.int (own_irem (p1 &&& (2147483647 : Int32)) (26 : Int32))), .val (.int (((97 : Int32) + (own_irem (p1 &&& (2147483647 : Int32)) (26 : Int32))).toUInt32.toUInt16.toUInt32.toInt32)), .val (.int (((65 : Int32) + (own_irem (p1 &&& (2147483647 : Int32)) (26 : Int32))).toUInt32.toUInt16.toUInt32.toInt32)), .val (.int (1 : Int32)), .val (.int (upF ((p0 &&& (65535 : Int32)).toUInt32.toUInt16.toUInt32.toInt32))), .val (.int (((p0 &&& (65535 : Int32)).toUInt32.toUInt16.toUInt32.toInt32) - (97 : Int32))), .val (.int (1 : Int32)), .unset] [(.int (upF ((p0 &&& (65535 : Int32)).toUInt32.toUInt16.toUInt32.toInt32)))])) rfl (by rw [hml]; rfl) (argsL := [(.int (upF ((p0 &&& (65535 : Int32)).toUInt32.toUInt16.toUInt32.toInt32)))]) (rest := []) (lenOf pd0_0 rfl) rfl (by show 2 * 0 + _ ≤ _; exact Nat.le_of_eq rfl) (hb hby at_115) (fun _ _ => ⟨rfl, e0_3, (by decide : 0 + 0 ≤ _), (by decide : 0 + 0 ≤ _)⟩)
      dsimp only [Pt.U, Pt.locs, Pt.cells, Pt.slots] at X0_6 l0_6 y0_6 z0_6 st0_6 hQ0_6
      subst l0_6 y0_6 z0_6
      obtain ⟨rfl, N0_6q, e0_6⟩ := hQ0_6
      have N0_6 := Fr.app N0_3 N0_6q
      refine own_fw st0_6 ?_
      refine own_fw (A := T0_6.setTop (mkF m 150 #[.val (.int p0), .val (.int p1), .val (.int ((p0 &&& (65535 : Int32)).toUInt32.toUInt16.toUInt32.toInt32)), .val (.int (own_irem (p1 &&& (2147483647 : Int32)) (26 : Int32))), .val (.int (((97 : Int32) + (own_irem (p1 &&& (2147483647 : Int32)) (26 : Int32))).toUInt32.toUInt16.toUInt32.toInt32)), .val (.int (((65 : Int32) + (own_irem (p1 &&& (2147483647 : Int32)) (26 : Int32))).toUInt32.toUInt16.toUInt32.toInt32)), .val (.int (1 : Int32)), .val (.int (upF ((p0 &&& (65535 : Int32)).toUInt32.toUInt16.toUInt32.toInt32))), .val (.int (((p0 &&& (65535 : Int32)).toUInt32.toUInt16.toUInt32.toInt32) - (97 : Int32))), .val (.int (1 : Int32)), .val (.int (1 : Int32))] [(.int (1 : Int32))])) (fun t k => ?_) ?_
      · show Steps p.tables e below (T0_6.setTop (mkF m 118 #[.val (.int p0), .val (.int p1), .val (.int ((p0 &&& (65535 : Int32)).toUInt32.toUInt16.toUInt32.toInt32)), .val (.int (own_irem (p1 &&& (2147483647 : Int32)) (26 : Int32))), .val (.int (((97 : Int32) + (own_irem (p1 &&& (2147483647 : Int32)) (26 : Int32))).toUInt32.toUInt16.toUInt32.toInt32)), .val (.int (((65 : Int32) + (own_irem (p1 &&& (2147483647 : Int32)) (26 : Int32))).toUInt32.toUInt16.toUInt32.toInt32)), .val (.int (1 : Int32)), .val (.int (upF ((p0 &&& (65535 : Int32)).toUInt32.toUInt16.toUInt32.toInt32))), .val (.int (((p0 &&& (65535 : Int32)).toUInt32.toUInt16.toUInt32.toInt32) - (97 : Int32))), .val (.int (1 : Int32)), .unset] [(.int (upF (upF ((p0 &&& (65535 : Int32)).toUInt32.toUInt16.toUInt32.toInt32))))])) t
        refine XS.iload X0_6.here hx rfl (hb hby at_118) rfl ?_
        show Steps p.tables e below (T0_6.setTop (mkF m 120 #[.val (.int p0), .val (.int p1), .val (.int ((p0 &&& (65535 : Int32)).toUInt32.toUInt16.toUInt32.toInt32)), .val (.int (own_irem (p1 &&& (2147483647 : Int32)) (26 : Int32))), .val (.int (((97 : Int32) + (own_irem (p1 &&& (2147483647 : Int32)) (26 : Int32))).toUInt32.toUInt16.toUInt32.toInt32)), .val (.int (((65 : Int32) + (own_irem (p1 &&& (2147483647 : Int32)) (26 : Int32))).toUInt32.toUInt16.toUInt32.toInt32)), .val (.int (1 : Int32)), .val (.int (upF ((p0 &&& (65535 : Int32)).toUInt32.toUInt16.toUInt32.toInt32))), .val (.int (((p0 &&& (65535 : Int32)).toUInt32.toUInt16.toUInt32.toInt32) - (97 : Int32))), .val (.int (1 : Int32)), .unset] [(.int (upF ((p0 &&& (65535 : Int32)).toUInt32.toUInt16.toUInt32.toInt32))), (.int (upF (upF ((p0 &&& (65535 : Int32)).toUInt32.toUInt16.toUInt32.toInt32))))])) t
        refine XS.icmpNo X0_6.here hx rfl (hb hby at_120) rfl (teq (own_b120 ((p0 &&& (65535 : Int32)).toUInt32.toUInt16.toUInt32.toInt32) (c_i2c (p0 &&& (65535 : Int32))).2.1 (c_i2c (p0 &&& (65535 : Int32))).2.2)).2 ?_
        show Steps p.tables e below (T0_6.setTop (mkF m 123 #[.val (.int p0), .val (.int p1), .val (.int ((p0 &&& (65535 : Int32)).toUInt32.toUInt16.toUInt32.toInt32)), .val (.int (own_irem (p1 &&& (2147483647 : Int32)) (26 : Int32))), .val (.int (((97 : Int32) + (own_irem (p1 &&& (2147483647 : Int32)) (26 : Int32))).toUInt32.toUInt16.toUInt32.toInt32)), .val (.int (((65 : Int32) + (own_irem (p1 &&& (2147483647 : Int32)) (26 : Int32))).toUInt32.toUInt16.toUInt32.toInt32)), .val (.int (1 : Int32)), .val (.int (upF ((p0 &&& (65535 : Int32)).toUInt32.toUInt16.toUInt32.toInt32))), .val (.int (((p0 &&& (65535 : Int32)).toUInt32.toUInt16.toUInt32.toInt32) - (97 : Int32))), .val (.int (1 : Int32)), .unset] [])) t
        refine XS.iconst X0_6.here hx rfl (hb hby at_123) ?_
        show Steps p.tables e below (T0_6.setTop (mkF m 124 #[.val (.int p0), .val (.int p1), .val (.int ((p0 &&& (65535 : Int32)).toUInt32.toUInt16.toUInt32.toInt32)), .val (.int (own_irem (p1 &&& (2147483647 : Int32)) (26 : Int32))), .val (.int (((97 : Int32) + (own_irem (p1 &&& (2147483647 : Int32)) (26 : Int32))).toUInt32.toUInt16.toUInt32.toInt32)), .val (.int (((65 : Int32) + (own_irem (p1 &&& (2147483647 : Int32)) (26 : Int32))).toUInt32.toUInt16.toUInt32.toInt32)), .val (.int (1 : Int32)), .val (.int (upF ((p0 &&& (65535 : Int32)).toUInt32.toUInt16.toUInt32.toInt32))), .val (.int (((p0 &&& (65535 : Int32)).toUInt32.toUInt16.toUInt32.toInt32) - (97 : Int32))), .val (.int (1 : Int32)), .unset] [(.int (1 : Int32))])) t
        refine XS.goto X0_6.here hx rfl (pc0 := 124) (pc' := 128) rfl (hb hby at_124) (by decide) (by decide) ?_
        show Steps p.tables e below (T0_6.setTop (mkF m 128 #[.val (.int p0), .val (.int p1), .val (.int ((p0 &&& (65535 : Int32)).toUInt32.toUInt16.toUInt32.toInt32)), .val (.int (own_irem (p1 &&& (2147483647 : Int32)) (26 : Int32))), .val (.int (((97 : Int32) + (own_irem (p1 &&& (2147483647 : Int32)) (26 : Int32))).toUInt32.toUInt16.toUInt32.toInt32)), .val (.int (((65 : Int32) + (own_irem (p1 &&& (2147483647 : Int32)) (26 : Int32))).toUInt32.toUInt16.toUInt32.toInt32)), .val (.int (1 : Int32)), .val (.int (upF ((p0 &&& (65535 : Int32)).toUInt32.toUInt16.toUInt32.toInt32))), .val (.int (((p0 &&& (65535 : Int32)).toUInt32.toUInt16.toUInt32.toInt32) - (97 : Int32))), .val (.int (1 : Int32)), .unset] [(.int (1 : Int32))])) t
        refine XS.istore X0_6.here hx rfl (hb hby at_128) rfl (l' := #[.val (.int p0), .val (.int p1), .val (.int ((p0 &&& (65535 : Int32)).toUInt32.toUInt16.toUInt32.toInt32)), .val (.int (own_irem (p1 &&& (2147483647 : Int32)) (26 : Int32))), .val (.int (((97 : Int32) + (own_irem (p1 &&& (2147483647 : Int32)) (26 : Int32))).toUInt32.toUInt16.toUInt32.toInt32)), .val (.int (((65 : Int32) + (own_irem (p1 &&& (2147483647 : Int32)) (26 : Int32))).toUInt32.toUInt16.toUInt32.toInt32)), .val (.int (1 : Int32)), .val (.int (upF ((p0 &&& (65535 : Int32)).toUInt32.toUInt16.toUInt32.toInt32))), .val (.int (((p0 &&& (65535 : Int32)).toUInt32.toUInt16.toUInt32.toInt32) - (97 : Int32))), .val (.int (1 : Int32)), .val (.int (1 : Int32))]) rfl ?_
        show Steps p.tables e below (T0_6.setTop (mkF m 130 #[.val (.int p0), .val (.int p1), .val (.int ((p0 &&& (65535 : Int32)).toUInt32.toUInt16.toUInt32.toInt32)), .val (.int (own_irem (p1 &&& (2147483647 : Int32)) (26 : Int32))), .val (.int (((97 : Int32) + (own_irem (p1 &&& (2147483647 : Int32)) (26 : Int32))).toUInt32.toUInt16.toUInt32.toInt32)), .val (.int (((65 : Int32) + (own_irem (p1 &&& (2147483647 : Int32)) (26 : Int32))).toUInt32.toUInt16.toUInt32.toInt32)), .val (.int (1 : Int32)), .val (.int (upF ((p0 &&& (65535 : Int32)).toUInt32.toUInt16.toUInt32.toInt32))), .val (.int (((p0 &&& (65535 : Int32)).toUInt32.toUInt16.toUInt32.toInt32) - (97 : Int32))), .val (.int (1 : Int32)), .val (.int (1 : Int32))] [])) t
        refine XS.iload X0_6.here hx rfl (hb hby at_130) rfl ?_
        show Steps p.tables e below (T0_6.setTop (mkF m 132 #[.val (.int p0), .val (.int p1), .val (.int ((p0 &&& (65535 : Int32)).toUInt32.toUInt16.toUInt32.toInt32)), .val (.int (own_irem (p1 &&& (2147483647 : Int32)) (26 : Int32))), .val (.int (((97 : Int32) + (own_irem (p1 &&& (2147483647 : Int32)) (26 : Int32))).toUInt32.toUInt16.toUInt32.toInt32)), .val (.int (((65 : Int32) + (own_irem (p1 &&& (2147483647 : Int32)) (26 : Int32))).toUInt32.toUInt16.toUInt32.toInt32)), .val (.int (1 : Int32)), .val (.int (upF ((p0 &&& (65535 : Int32)).toUInt32.toUInt16.toUInt32.toInt32))), .val (.int (((p0 &&& (65535 : Int32)).toUInt32.toUInt16.toUInt32.toInt32) - (97 : Int32))), .val (.int (1 : Int32)), .val (.int (1 : Int32))] [(.int (1 : Int32))])) t
        refine XS.ifNo X0_6.here hx rfl (hb hby at_132) rfl ((if0 _ _).trans (feq (by decide : ¬ ((1 : Int32) = (0 : Int32)))).1) ?_
        show Steps p.tables e below (T0_6.setTop (mkF m 135 #[.val (.int p0), .val (.int p1), .val (.int ((p0 &&& (65535 : Int32)).toUInt32.toUInt16.toUInt32.toInt32)), .val (.int (own_irem (p1 &&& (2147483647 : Int32)) (26 : Int32))), .val (.int (((97 : Int32) + (own_irem (p1 &&& (2147483647 : Int32)) (26 : Int32))).toUInt32.toUInt16.toUInt32.toInt32)), .val (.int (((65 : Int32) + (own_irem (p1 &&& (2147483647 : Int32)) (26 : Int32))).toUInt32.toUInt16.toUInt32.toInt32)), .val (.int (1 : Int32)), .val (.int (upF ((p0 &&& (65535 : Int32)).toUInt32.toUInt16.toUInt32.toInt32))), .val (.int (((p0 &&& (65535 : Int32)).toUInt32.toUInt16.toUInt32.toInt32) - (97 : Int32))), .val (.int (1 : Int32)), .val (.int (1 : Int32))] [])) t
        refine XS.iload X0_6.here hx rfl (hb hby at_135) rfl ?_
        show Steps p.tables e below (T0_6.setTop (mkF m 137 #[.val (.int p0), .val (.int p1), .val (.int ((p0 &&& (65535 : Int32)).toUInt32.toUInt16.toUInt32.toInt32)), .val (.int (own_irem (p1 &&& (2147483647 : Int32)) (26 : Int32))), .val (.int (((97 : Int32) + (own_irem (p1 &&& (2147483647 : Int32)) (26 : Int32))).toUInt32.toUInt16.toUInt32.toInt32)), .val (.int (((65 : Int32) + (own_irem (p1 &&& (2147483647 : Int32)) (26 : Int32))).toUInt32.toUInt16.toUInt32.toInt32)), .val (.int (1 : Int32)), .val (.int (upF ((p0 &&& (65535 : Int32)).toUInt32.toUInt16.toUInt32.toInt32))), .val (.int (((p0 &&& (65535 : Int32)).toUInt32.toUInt16.toUInt32.toInt32) - (97 : Int32))), .val (.int (1 : Int32)), .val (.int (1 : Int32))] [(.int (1 : Int32))])) t
        refine XS.ifNo X0_6.here hx rfl (hb hby at_137) rfl ((if0 _ _).trans (feq (by decide : ¬ ((1 : Int32) = (0 : Int32)))).1) ?_
        show Steps p.tables e below (T0_6.setTop (mkF m 140 #[.val (.int p0), .val (.int p1), .val (.int ((p0 &&& (65535 : Int32)).toUInt32.toUInt16.toUInt32.toInt32)), .val (.int (own_irem (p1 &&& (2147483647 : Int32)) (26 : Int32))), .val (.int (((97 : Int32) + (own_irem (p1 &&& (2147483647 : Int32)) (26 : Int32))).toUInt32.toUInt16.toUInt32.toInt32)), .val (.int (((65 : Int32) + (own_irem (p1 &&& (2147483647 : Int32)) (26 : Int32))).toUInt32.toUInt16.toUInt32.toInt32)), .val (.int (1 : Int32)), .val (.int (upF ((p0 &&& (65535 : Int32)).toUInt32.toUInt16.toUInt32.toInt32))), .val (.int (((p0 &&& (65535 : Int32)).toUInt32.toUInt16.toUInt32.toInt32) - (97 : Int32))), .val (.int (1 : Int32)), .val (.int (1 : Int32))] [])) t
        refine XS.iload X0_6.here hx rfl (hb hby at_140) rfl ?_
        show Steps p.tables e below (T0_6.setTop (mkF m 142 #[.val (.int p0), .val (.int p1), .val (.int ((p0 &&& (65535 : Int32)).toUInt32.toUInt16.toUInt32.toInt32)), .val (.int (own_irem (p1 &&& (2147483647 : Int32)) (26 : Int32))), .val (.int (((97 : Int32) + (own_irem (p1 &&& (2147483647 : Int32)) (26 : Int32))).toUInt32.toUInt16.toUInt32.toInt32)), .val (.int (((65 : Int32) + (own_irem (p1 &&& (2147483647 : Int32)) (26 : Int32))).toUInt32.toUInt16.toUInt32.toInt32)), .val (.int (1 : Int32)), .val (.int (upF ((p0 &&& (65535 : Int32)).toUInt32.toUInt16.toUInt32.toInt32))), .val (.int (((p0 &&& (65535 : Int32)).toUInt32.toUInt16.toUInt32.toInt32) - (97 : Int32))), .val (.int (1 : Int32)), .val (.int (1 : Int32))] [(.int (1 : Int32))])) t
        refine XS.ifNo X0_6.here hx rfl (hb hby at_142) rfl ((if0 _ _).trans (feq (by decide : ¬ ((1 : Int32) = (0 : Int32)))).1) ?_
        show Steps p.tables e below (T0_6.setTop (mkF m 145 #[.val (.int p0), .val (.int p1), .val (.int ((p0 &&& (65535 : Int32)).toUInt32.toUInt16.toUInt32.toInt32)), .val (.int (own_irem (p1 &&& (2147483647 : Int32)) (26 : Int32))), .val (.int (((97 : Int32) + (own_irem (p1 &&& (2147483647 : Int32)) (26 : Int32))).toUInt32.toUInt16.toUInt32.toInt32)), .val (.int (((65 : Int32) + (own_irem (p1 &&& (2147483647 : Int32)) (26 : Int32))).toUInt32.toUInt16.toUInt32.toInt32)), .val (.int (1 : Int32)), .val (.int (upF ((p0 &&& (65535 : Int32)).toUInt32.toUInt16.toUInt32.toInt32))), .val (.int (((p0 &&& (65535 : Int32)).toUInt32.toUInt16.toUInt32.toInt32) - (97 : Int32))), .val (.int (1 : Int32)), .val (.int (1 : Int32))] [])) t
        refine XS.iconst X0_6.here hx rfl (hb hby at_145) ?_
        show Steps p.tables e below (T0_6.setTop (mkF m 146 #[.val (.int p0), .val (.int p1), .val (.int ((p0 &&& (65535 : Int32)).toUInt32.toUInt16.toUInt32.toInt32)), .val (.int (own_irem (p1 &&& (2147483647 : Int32)) (26 : Int32))), .val (.int (((97 : Int32) + (own_irem (p1 &&& (2147483647 : Int32)) (26 : Int32))).toUInt32.toUInt16.toUInt32.toInt32)), .val (.int (((65 : Int32) + (own_irem (p1 &&& (2147483647 : Int32)) (26 : Int32))).toUInt32.toUInt16.toUInt32.toInt32)), .val (.int (1 : Int32)), .val (.int (upF ((p0 &&& (65535 : Int32)).toUInt32.toUInt16.toUInt32.toInt32))), .val (.int (((p0 &&& (65535 : Int32)).toUInt32.toUInt16.toUInt32.toInt32) - (97 : Int32))), .val (.int (1 : Int32)), .val (.int (1 : Int32))] [(.int (1 : Int32))])) t
        refine XS.goto X0_6.here hx rfl (pc0 := 146) (pc' := 150) rfl (hb hby at_146) (by decide) (by decide) ?_
        exact k
      obtain ⟨fs, hr, hrun, hended, hW, hsame⟩ := X0_6.leave (v := some (.int (nar .boolean (1 : Int32)))) (fun h => by rw [Bd.returns] at h; cases h)
      exact ⟨_, _, retN X0_6 hx (t := .boolean) Bd.returns (by simp) (hb hby at_150) hr, hrun, hended, _, _, rfl, ⟨rfl, N0_6⟩, ⟨_, rfl⟩, hW, hsame.mono (by decide) (by decide)⟩
set_option maxRecDepth 65536 in
set_option maxHeartbeats 40000000 in
theorem comes_1 {Post : Tables → Env → Array Value → State → Outcome → State → Prop} (hpost : ∀ tb e args s v u, (limb_1_1.after args s (.returned v) u = true ∧ limb_1_2.after args s (.returned v) u = true ∧ True) → FrameEnd s (.returned v) u (Jvm.fieldLocs frame_1_writes args s ++ Jvm.arrayLocs frame_1_arrays args s ++ Jvm.staticLocs frame_1_statics s) 0 0 → Post tb e args s (.returned v) u) :
    ArmFor flags0 classFile x code maxLocals ret World_1 tables_1 room_1 Calls_1 rest_1 Pre_1 Post := by
  intro l hfl _ _ p e ha hc hk s m args below hf hA hF happ hP
  obtain ⟨hcalls, hrest, hpre⟩ := hP
  obtain ⟨-, -, -, hnamed, -, -, -, hat⟩ := (Spec.applies_iff hf).mp happ
  obtain ⟨hg, hn⟩ := and_e (Cond.before_iff.mp (show (Jvm.Cond.and given_1 narrow_1).before args s = true from hpre))
  obtain ⟨g1, g2⟩ := and_e hg
  obtain ⟨ga0, gb0⟩ := and_e g2
  obtain ⟨w0, w1, rfl⟩ : ∃ w0 w1 : Value, args = #[w0, w1] := by
    have hs : args.size = 2 := by simpa [Cond.value, given_1] using g1
    obtain ⟨L⟩ := args
    match L, hs with
    | [w0, w1], _ => exact ⟨w0, w1, rfl⟩
  have hw := fun d (hd : d ∈ tables_1) => atoms_spec (ws := Jvm.Cond.code x code maxLocals ret :: tables_1) hat d (List.mem_cons_of_mem _ hd)
  have hfit : Fit s := fun {y c} hc i hi => by
    obtain ⟨ha, rfl⟩ := Array.getElem?_eq_some_iff.mp hc
    have q := List.all_eq_true.mp ((Array.all_eq_true_iff_forall_mem.mp hF) _ (Array.getElem_mem ha)) i (List.mem_range.mpr hi)
    simpa [Array.getElem?_eq_getElem hi] using q
  obtain ⟨i0, ei0⟩ := is_v ga0
  obtain rfl : w0 = (.int i0) := Option.some.inj ei0
  obtain ⟨i1, ei1⟩ := is_v gb0
  obtain rfl : w1 = (.int i1) := Option.some.inj ei1
  obtain ⟨n, o, h1, h2, h3, _, L, rfl, ⟨rfl, N⟩, hq⟩ := rm0 l s _ hw tables_1 i0 i1  s.heap s.heap.size (Nat.le_refl _)  p e ha hc hk s m _ below hf ((Spec.applies_iff_loose hf).mp happ).1 ⟨rfl, State.Warmed39.refl s, rfl⟩ trivial
  refine ⟨n, _, h1, h2, h3, hpost _ _ _ _ _ _ ⟨Cond.after_iff.mpr rfl, Cond.after_iff.mpr (eq_i res_at (Term.int_eval (1)) rfl), trivial⟩ ⟨hq.1, hq.2.1, (hq.2.2.sift fun y hy => Or.inr (N y hy)).mono (by decide) (by decide)⟩⟩
theorem main_1_1 : Claimed_1_1 := comes_1 fun _ _ _ _ _ _ h hF => ⟨h.1, hF⟩
theorem main_1_2 : Claimed_1_2 := comes_1 fun _ _ _ _ _ _ h hF => ⟨h.2.1, hF⟩
end Jvm.Pilot.@@N@@
namespace Jvm.Pilot.@@N@@
open Jvm Jvm.ClassFile Sem Op Lib Jvm.Free Jvm.Stand Jvm.Pilot.@@N@@.Jvm.D
/-! MADE BY PROGRAM (witnessworld.py) out of the Statement's table words and the real class files: 9 classes; the members and pool entries that the words name. The judged class is class 1, her method 1. -/
namespace start1
open Jvm.ClassFile
def u (s : String) : CpInfo := .utf8 (stringToUtf16 s)
/-- a pool by its gaps: so many unusable entries, then the entry; so many at the end -/
def gap : Nat → List CpInfo → List CpInfo
  | 0, r => r
  | n + 1, r => .unusable :: gap n r
def poolList (es : List (Nat × CpInfo)) (last : Nat) : List CpInfo := es.foldr (fun e r => gap e.1 (e.2 :: r)) (gap last [])
def pool (es : List (Nat × CpInfo)) (last : Nat) : Array CpInfo := ⟨poolList es last⟩
def fileOf (pool : Array CpInfo) (this : Nat) (attrs : Array Attribute := #[]) (ms : Array MethodInfo := #[]) (fl : Nat := 33) (sup : Nat := 0) (ifs : Array Nat := #[]) (fds : Array FieldInfo := #[]) : ClassFile where
  minorVersion := 0
  majorVersion := 65
  constantPool := pool
  accessFlags := fl
  thisClass := this
  superClass := sup
  interfaces := ifs
  fields := fds
  methods := ms
  attributes := attrs
def plain (name : String) (sup : Option ClassId) : Class where
  name := name
  kind := .ordinary
  loader := none
  accessFlags := 33
  super := sup
  interfaces := #[]
  cf := none
  fields := #[]
  methods := #[]
  instanceTypes := #[]
  staticTypes := #[]
  resolved := #[]
  callSites := []
  init := .initialized
  statics := none
  mirror := none

def pool0 : Array CpInfo := pool [(5, u "<init>"), (0, u "()V"), (1, .class_ 10), (1, u "java/lang/Object")] 113

def k0m0 : Method := { name := "<init>", desc := "()V", sig := { parameters := [], returnType := none }, accessFlags := 1, code := none }
/-- java/lang/Object -/
def k0 : Class := { plain "java/lang/Object" none with
  accessFlags := 33
  interfaces := #[]
  cf := some (fileOf pool0 8 #[] #[{ accessFlags := 1, nameIndex := 5, descriptorIndex := 6, attributes := #[] }] 33 0 #[] #[])
  fields := #[]
  methods := #[k0m0]
  instanceTypes := #[]
  staticTypes := #[]
  resolved := Array.replicate 124 none
  statics := none }

def pool1 : Array CpInfo := pool [(2, .class_ 4), (1, u "java/lang/Object"), (0, u "<init>"), (0, u "()V"), (0, .integer 65535), (0, .integer 2147483647), (0, .methodref 10 11), (0, .class_ 12), (0, .nameAndType 13 14), (0, u "com/example/copperline/copperline/Lexer"), (0, u "upperCase"), (0, u "(C)C"), (0, .class_ 16), (0, u "com/example/copperline/copperline/LexerUpperCasePinLaw"), (2, u "law"), (0, u "(II)Z")] 3

def k1m0 : Method := { name := "<init>", desc := "()V", sig := { parameters := [], returnType := none }, accessFlags := 2, code := none }
def k1c1 : Code := { maxStack := 3, maxLocals := 11, code := code, exceptionTable := #[], attributes := #[] }
def k1m1 : Method := { name := "law", desc := "(II)Z", sig := { parameters := [.int, .int], returnType := some .boolean }, accessFlags := 9, code := some k1c1 }
/-- com/example/copperline/copperline/LexerUpperCasePinLaw -/
def k1 : Class := { plain "com/example/copperline/copperline/LexerUpperCasePinLaw" (some 0) with
  accessFlags := 49
  interfaces := #[]
  cf := some (fileOf pool1 15 #[] #[{ accessFlags := 2, nameIndex := 5, descriptorIndex := 6, attributes := #[] }, { accessFlags := 9, nameIndex := 19, descriptorIndex := 20, attributes := #[] }] 49 2 #[] #[])
  fields := #[]
  methods := #[k1m0, k1m1]
  instanceTypes := #[]
  staticTypes := #[]
  resolved := Array.replicate 24 none
  statics := none }

def pool2 : Array CpInfo := pool [(2, .class_ 4), (1, u "java/lang/Object"), (3, .class_ 10), (1, u "com/example/copperline/copperline/Lexer"), (0, u "keywordPosition"), (0, u "I"), (2, u "text"), (0, u "Ljava/lang/String;"), (2, u "position"), (2, u "reading"), (0, u "Lcom/example/copperline/copperline/Lexer$Reading;"), (31, .class_ 56), (0, u "com/example/copperline/copperline/Lexer$Spelt"), (19, .class_ 78), (1, u "com/example/copperline/copperline/Lexer$Reading"), (47, u "upperCase"), (0, u "(C)C"), (38, .class_ 167), (0, u "com/example/copperline/copperline/Lexer$Number"), (114, u "keywordThere"), (0, u "Lcom/example/copperline/copperline/Lexer$Spelt;"), (6, u "END"), (2, u "SINGLE_DIGITS"), (1, u "MAX_EXPONENT")] 41

def k2c0 : Code := { maxStack := 2, maxLocals := 1, code := prog_36_method_27_code, exceptionTable := #[], attributes := #[] }
def k2m0 : Method := { name := "upperCase", desc := "(C)C", sig := { parameters := [.char], returnType := some .char }, accessFlags := 8, code := some k2c0 }
/-- com/example/copperline/copperline/Lexer -/
def k2 : Class := { plain "com/example/copperline/copperline/Lexer" (some 0) with
  accessFlags := 48
  interfaces := #[]
  cf := some (fileOf pool2 8 #[.nestMembers #[55, 166, 76]] #[{ accessFlags := 8, nameIndex := 126, descriptorIndex := 127, attributes := #[] }] 48 2 #[] #[{ accessFlags := 24, nameIndex := 290, descriptorIndex := 12, attributes := #[] }, { accessFlags := 26, nameIndex := 293, descriptorIndex := 12, attributes := #[] }, { accessFlags := 26, nameIndex := 295, descriptorIndex := 12, attributes := #[] }, { accessFlags := 18, nameIndex := 15, descriptorIndex := 16, attributes := #[] }, { accessFlags := 18, nameIndex := 22, descriptorIndex := 23, attributes := #[] }, { accessFlags := 2, nameIndex := 19, descriptorIndex := 12, attributes := #[] }, { accessFlags := 2, nameIndex := 11, descriptorIndex := 12, attributes := #[] }, { accessFlags := 2, nameIndex := 282, descriptorIndex := 283, attributes := #[] }])
  fields := #[{ name := "END", type := .int, accessFlags := 24, slot := 0, constantValue := 0 }, { name := "SINGLE_DIGITS", type := .int, accessFlags := 26, slot := 1, constantValue := 0 }, { name := "MAX_EXPONENT", type := .int, accessFlags := 26, slot := 2, constantValue := 0 }, { name := "text", type := (.object "java/lang/String"), accessFlags := 18, slot := 0, constantValue := 0 }, { name := "reading", type := (.object "com/example/copperline/copperline/Lexer$Reading"), accessFlags := 18, slot := 1, constantValue := 0 }, { name := "position", type := .int, accessFlags := 2, slot := 2, constantValue := 0 }, { name := "keywordPosition", type := .int, accessFlags := 2, slot := 3, constantValue := 0 }, { name := "keywordThere", type := (.object "com/example/copperline/copperline/Lexer$Spelt"), accessFlags := 2, slot := 4, constantValue := 0 }]
  methods := #[k2m0]
  instanceTypes := #[(.object "java/lang/String"), (.object "com/example/copperline/copperline/Lexer$Reading"), .int, .int, (.object "com/example/copperline/copperline/Lexer$Spelt")]
  staticTypes := #[.int, .int, .int]
  resolved := Array.replicate 337 none
  statics := none }

def pool3 : Array CpInfo := pool [(1, u "java/lang/Cloneable"), (0, .class_ 1), (0, u "java/lang/Object"), (0, .class_ 3)] 3

/-- java/lang/Cloneable -/
def k3 : Class := { plain "java/lang/Cloneable" (some 0) with
  accessFlags := 1537
  interfaces := #[]
  cf := some (fileOf pool3 2 #[] #[] 1537 4 #[] #[])
  fields := #[]
  methods := #[]
  instanceTypes := #[]
  staticTypes := #[]
  resolved := Array.replicate 8 none
  statics := none }

def pool4 : Array CpInfo := pool [(1, u "java/io/Serializable"), (0, .class_ 1), (0, u "java/lang/Object"), (0, .class_ 3)] 3

/-- java/io/Serializable -/
def k4 : Class := { plain "java/io/Serializable" (some 0) with
  accessFlags := 1537
  interfaces := #[]
  cf := some (fileOf pool4 2 #[] #[] 1537 4 #[] #[])
  fields := #[]
  methods := #[]
  instanceTypes := #[]
  staticTypes := #[]
  resolved := Array.replicate 8 none
  statics := none }

/-- the primitive byte -/
def k5 : Class := { plain "byte" none with kind := .primitive 'B', accessFlags := 0x411 }
/-- [B -/
def k6 : Class := { plain "[B" (some 0) with kind := .array 5 .byte, interfaces := #[3, 4], accessFlags := 1041 }

/-- the primitive int -/
def k7 : Class := { plain "int" none with kind := .primitive 'I', accessFlags := 0x411 }
/-- [I -/
def k8 : Class := { plain "[I" (some 0) with kind := .array 7 .int, interfaces := #[3, 4], accessFlags := 1041 }

def heap : Heap := #[]
def classes : Array Class := #[k0, k1, k2, k3, k4, k5, k6, k7, k8]
def interned : List (Array UInt16 × Addr) := []
def slotsUsed : Nat := 0
def theMethod : MethodId := ⟨1, 1⟩
def args0 : Array Value := #[.int 5, .int 5]
def aboutOver (below : List Frame) : State where
  vm := { classes := classes, interned := interned.toArray }
  heap := heap
  slotsUsed := slotsUsed
  threads := #[{ frames := .invoking theMethod args0 :: below }]
def below0 : List Frame := [.native { method := ⟨0, 0⟩, args := #[] }]
def about1 : State := aboutOver below0
def p0 : Program := .bare "" "" ""
def e0 : Env := launch0.env 0 0 0
theorem w_frames : about1.frames = Frame.invoking theMethod args0 :: below0 := rfl
set_option maxRecDepth 65536 in
theorem w_args : argsFit about1.vm theMethod args0 = true := by decide +kernel
set_option maxRecDepth 65536 in
theorem w_heap : heapFits about1 = true := by decide +kernel
set_option maxRecDepth 65536 in
theorem w_runnable : about1.curStatus? = some .runnable := by decide +kernel
set_option maxRecDepth 65536 in
theorem w_alone : about1.alone = true := by decide +kernel
set_option maxRecDepth 65536 in
theorem w_named : about1.methodNamed? x = some theMethod := by decide +kernel
set_option maxRecDepth 65536 in
theorem w_hears : about1.hears theMethod below0 = true := by decide +kernel
set_option maxRecDepth 65536 in
theorem w_ripe : about1.ripe theMethod args0 below0 = true := by decide +kernel
theorem w_running : about1.status = .running := rfl
set_option maxRecDepth 65536 in
theorem w_room : about1.hasRoom e0.platform room_1 = true :=
  launch0.hasRoom_least _ room_1 (by decide +kernel) (by decide +kernel) (by decide +kernel) (by decide +kernel) (by decide +kernel) (by decide +kernel)
theorem allAtoms_all (ts : List Jvm.Cond) (a : Array Jvm.Value) (st : Jvm.State) : (allAtoms ts).before a st = ts.all (fun c => c.before a st) := by
  induction ts with
  | nil => rfl
  | cons c t ih =>
    show (Jvm.Cond.and c (allAtoms t)).before a st = _
    rw [Jvm.Cond.before_and, ih, List.all_cons]
def words1 : List Jvm.Cond := Jvm.Cond.code x code maxLocals ret :: tables_1
/-- a 'code' word, met by the world's own term for the bytes: nothing is compared byte by byte -/
theorem code_word {y : MethodName} {bytes : ByteArray} {mx : Nat} {rt : Option FieldType} {a : Array Value} {s : State} {m : MethodId} {meth : Method} {c : Code} (h1 : s.methodNamed? y = some m) (h2 : s.vm.method? m = some meth) (h3 : meth.code = some c) (h4 : c.code = bytes)
    (h5 : (c.maxLocals == mx && c.exceptionTable.isEmpty && decide (c.maxStack ≤ mostOperands) && decide (meth.sig.returnType = rt) && !meth.locks && decide (parseMethodDescriptor y.desc = some meth.sig)) = true) : (Jvm.Cond.code y bytes mx rt).before a s = true := by
  simp only [Bool.and_eq_true, beq_iff_eq, Bool.not_eq_true', decide_eq_true_eq] at h5
  obtain ⟨⟨⟨⟨⟨g1, g2⟩, g3⟩, g4⟩, g5⟩, g6⟩ := h5
  simp [Cond.before, Cond.holds, Cond.value, h1, h2, h3, h4, g1, g2, g3, g4, g5, g6]
def isCode : Jvm.Cond → Bool
  | .code _ _ _ _ => true
  | _ => false
theorem all_split {L : List Jvm.Cond} {P : Jvm.Cond → Bool} (h1 : L.all (fun c => isCode c || P c) = true) (h2 : ∀ c ∈ L.filter isCode, P c = true) : L.all P = true := by
  refine List.all_eq_true.mpr fun c hc => ?_
  have h := List.all_eq_true.mp h1 c hc
  rcases Bool.eq_false_or_eq_true (isCode c) with hi | hi
  · exact h2 c (List.mem_filter.mpr ⟨hc, hi⟩)
  · simpa [hi] using h
set_option maxRecDepth 65536 in
theorem w_c0 : (Jvm.Cond.code x code maxLocals ret).before args0 about1 = true := code_word (m := ⟨1, 1⟩) (meth := k1m1) (c := k1c1) (by decide +kernel) rfl rfl rfl (by decide +kernel)
set_option maxRecDepth 65536 in
theorem w_c1 : (Jvm.Cond.code ({ cls := "com/example/copperline/copperline/Lexer", name := "upperCase", desc := "(C)C" } : Jvm.MethodName) prog_36_method_27_code (1 : Nat) (Option.some Jvm.ClassFile.FieldType.char)).before args0 about1 = true := code_word (m := ⟨2, 0⟩) (meth := k2m0) (c := k2c0) (by decide +kernel) rfl rfl rfl (by decide +kernel)
def codes1 : List Jvm.Cond := [Jvm.Cond.code x code maxLocals ret, Jvm.Cond.code ({ cls := "com/example/copperline/copperline/Lexer", name := "upperCase", desc := "(C)C" } : Jvm.MethodName) prog_36_method_27_code (1 : Nat) (Option.some Jvm.ClassFile.FieldType.char)]
set_option maxRecDepth 65536 in
theorem codes_eq : words1.filter isCode = codes1 := rfl
theorem w_codes : ∀ c ∈ words1.filter isCode, c.before args0 about1 = true := by
  rw [codes_eq]
  intro c hc
  simp only [codes1, List.mem_cons, List.not_mem_nil, or_false] at hc
  rcases hc with rfl | rfl
  · exact w_c0
  · exact w_c1
set_option maxRecDepth 65536 in
theorem w_t1 : words1.all (fun c => isCode c || c.before args0 about1) = true := by decide +kernel
theorem w_tables : (allAtoms (Jvm.Cond.code x code maxLocals ret :: tables_1)).before args0 about1 = true := by
  rw [allAtoms_all]
  show words1.all (fun c => c.before args0 about1) = true
  refine all_split ?_ w_codes
  rw [w_t1]
set_option maxRecDepth 65536 in
theorem w_case : (Jvm.Cond.and given_1 narrow_1).before args0 about1 = true := by decide +kernel
theorem w_applies : (headSpec (Jvm.Cond.code x code maxLocals ret :: tables_1) room_1).applies x e0.platform about1 = true :=
  (Spec.applies_iff w_frames).mpr ⟨w_running, w_runnable, w_alone, w_named, w_hears, w_ripe, w_room, w_tables⟩
theorem atStart : AtStart classFile x code maxLocals ret World_1 tables_1 room_1 Calls_1 rest_1 Pre_1 launch0 p0 e0 about1 theMethod args0 below0 :=
  ⟨lists_1, trivial, launch0.admits_env _ _ _, launch0.least_env, fairChoices_fair.cas, fairChoices_fair.clock, w_frames, w_args, w_heap, w_applies, trivial, trivial, w_case⟩
end start1
theorem witness_1 : WitnessClaimed_1 := ⟨start1.p0, start1.e0, start1.about1, start1.theMethod, start1.args0, start1.below0, start1.atStart⟩
end Jvm.Pilot.@@N@@
