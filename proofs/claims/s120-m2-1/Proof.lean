import JvmDerived
import JvmDerived.Pilot.@@N@@Statement
import JvmDerived.Pilot.@@N@@Code
set_option linter.unusedVariables false
set_option linter.unusedSimpArgs false
namespace Jvm.RoadKit
open Sem ClassFile Op Lib Jvm.Stand Jvm.Free Jvm.LawKit
section New
variable {p : Program} {l : Launch} {e : Env} {R : Room} {s : State} {m : MethodId} {args : Array Value} {below : List Frame} {meth : Method} {c : Code} {T : State} {locs : List Loc} {cells slots : Nat}
theorem retI (X : Stand p l e R s m args below meth c T locs cells slots) (hx : p.tables.exec = Jvm.exec) {pc : Nat} {Ls : Array Slot} {z : Int32} {rest : List Value} (hret : meth.sig.returnType = some .int) (hd : decode c.code pc = .ok (.ireturn, 1)) {fs : List Frame}
    (hl : ∀ (f : JFrame) (acts : List Action), f.method = m → f.locked = none → f.entered = [] → (doReturn e (T.setTop f) acts (some (.int z))).1 = T.setFrames fs) : Steps p.tables e below (T.setTop (mkF m pc Ls (.int z :: rest))) (T.setFrames fs) := by
  have hm' : T.vm.method? m = some meth := X.method'
  have hn : narrow .int (.int z) = .int z := rfl
  show Steps p.tables e below (T.setTop { method := m, pc := pc, locals := Ls, stack := _ :: rest, locked := none }) _
  jvm_step X.here [X.here.top, hx, hd, hm', hret, hn]
  first | (intro acts; rw [hl _ acts rfl rfl rfl]) | rw [hl _ _ rfl rfl rfl]
  exact Steps.refl _
theorem retL (X : Stand p l e R s m args below meth c T locs cells slots) (hx : p.tables.exec = Jvm.exec) {pc : Nat} {Ls : Array Slot} {z : Int64} {rest : List Value} (hret : meth.sig.returnType = some .long) (hd : decode c.code pc = .ok (.lreturn, 1)) {fs : List Frame}
    (hl : ∀ (f : JFrame) (acts : List Action), f.method = m → f.locked = none → f.entered = [] → (doReturn e (T.setTop f) acts (some (.long z))).1 = T.setFrames fs) : Steps p.tables e below (T.setTop (mkF m pc Ls (.long z :: rest))) (T.setFrames fs) := by
  have hm' : T.vm.method? m = some meth := X.method'
  have hn : narrow .long (.long z) = .long z := rfl
  show Steps p.tables e below (T.setTop { method := m, pc := pc, locals := Ls, stack := _ :: rest, locked := none }) _
  jvm_step X.here [X.here.top, hx, hd, hm', hret, hn]
  first | (intro acts; rw [hl _ acts rfl rfl rfl]) | rw [hl _ _ rfl rfl rfl]
  exact Steps.refl _
theorem retA (X : Stand p l e R s m args below meth c T locs cells slots) (hx : p.tables.exec = Jvm.exec) {pc : Nat} {Ls : Array Slot} {z : Value} {ty : FieldType} {rest : List Value} (hv : z.isRef = true) (hty : ty.isReference = true) (hret : meth.sig.returnType = some ty) (hd : decode c.code pc = .ok (.areturn, 1)) {fs : List Frame}
    (hl : ∀ (f : JFrame) (acts : List Action), f.method = m → f.locked = none → f.entered = [] → (doReturn e (T.setTop f) acts (some z)).1 = T.setFrames fs) : Steps p.tables e below (T.setTop (mkF m pc Ls (z :: rest))) (T.setFrames fs) := by
  have hm' : T.vm.method? m = some meth := X.method'
  show Steps p.tables e below (T.setTop { method := m, pc := pc, locals := Ls, stack := _ :: rest, locked := none }) _
  jvm_step X.here [X.here.top, hx, hd, hm', hret, hv, hty]
  first | (intro acts; rw [hl _ acts rfl rfl rfl]) | rw [hl _ _ rfl rfl rfl]
  exact Steps.refl _
end New
theorem own_fw {tb : Tables} {e : Env} {below : List Frame} {A B : State} {P : State → Outcome → Prop} (h : ∀ t, Steps tb e below A t → Steps tb e below B t) (k : ∃ t o, Steps tb e below A t ∧ P t o) : ∃ t o, Steps tb e below B t ∧ P t o := by
  obtain ⟨t, o, h1, h2⟩ := k
  exact ⟨t, o, h t h1, h2⟩
def own_irem (x y : Int32) : Int32 := x - (x / y) * y
def own_lrem (x y : Int64) : Int64 := x - (x / y) * y
end Jvm.RoadKit
namespace Jvm.Pilot.@@N@@
open Jvm Jvm.ClassFile Sem Op Lib Jvm.Free Jvm.Stand Jvm.LawKit Jvm.RoadKit Bundle Jvm.Pilot.@@N@@.Jvm.D
theorem d1_0 : decode prog_40_method_7_code 0 = .ok (.iload_n 0, 1) := by decide +kernel
theorem d1_1 : decode prog_40_method_7_code 1 = .ok (.sipush 208, 3) := by decide +kernel
theorem d1_4 : decode prog_40_method_7_code 4 = .ok (.if_icmp .lt 14, 3) := by decide +kernel
theorem d1_7 : decode prog_40_method_7_code 7 = .ok (.iload_n 0, 1) := by decide +kernel
theorem d1_8 : decode prog_40_method_7_code 8 = .ok (.sipush 216, 3) := by decide +kernel
theorem d1_11 : decode prog_40_method_7_code 11 = .ok (.if_icmp .ge 7, 3) := by decide +kernel
theorem d1_14 : decode prog_40_method_7_code 14 = .ok (.iconst 1, 1) := by decide +kernel
theorem d1_15 : decode prog_40_method_7_code 15 = .ok (.goto 4, 3) := by decide +kernel
theorem d1_18 : decode prog_40_method_7_code 18 = .ok (.iconst 0, 1) := by decide +kernel
theorem d1_19 : decode prog_40_method_7_code 19 = .ok (.ireturn, 1) := by decide +kernel
theorem pn1 : plainName "collotype/image/JpegSegments" = true := by first | (simp [plainName, overriddenIn]; done) | decide +kernel
theorem ef1 (m : MethodId) (p0 : Int32) : entryFrame m #[(.int p0)] 1 = mkF m 0 #[.val (.int p0)] [] := by first | (simp [entryFrame, mkF, argsToLocals, Value.category]; done) | rfl
def restF (p0 : Int32) : Int32 := (if p0 < (208 : Int32) then (nar .boolean (0 : Int32)) else (if p0 < (216 : Int32) then (nar .boolean (1 : Int32)) else (nar .boolean (0 : Int32))))
def Q1 (Z : State) (p0 : Int32) (h0 : Heap) (n0 : Nat) (v : Option Value) (h : Heap) (L : List Loc) : Prop := v = some (.int (restF p0)) ∧ Fr n0 L ∧ h = h0
set_option maxRecDepth 65536 in
set_option maxHeartbeats 40000000 in
theorem rm1 (l : Launch) (Z : State) (a0 : Array Value) (hw : ∀ d ∈ tables_1, d.before a0 Z = true) (ws : List Jvm.Cond) (p0 : Int32) (h0 : Heap) (n0 : Nat) (Z0 : n0 ≤ h0.size) :
    MetFree l (⟨"collotype/image/JpegSegments", "isRestart", "(I)Z"⟩ : MethodName) (head1 (Jvm.Cond.code (⟨"collotype/image/JpegSegments", "isRestart", "(I)Z"⟩ : MethodName) prog_40_method_7_code 1 (some .boolean) :: ws) ({ frames := 0, cells := 0, slots := 0, locals := 0 } : Room)) (fun a U => a = #[(.int p0)] ∧ Z.Warmed39 U.vm ∧ U.heap = h0) (fun _ _ _ _ _ => True) (fun _ U o U' => ∃ v L, o = .returned v ∧ Q1 Z p0 h0 n0 v U'.heap L ∧ FrameEnd U o U' L ({ frames := 0, cells := 0, slots := 0, locals := 0 } : Room).cells ({ frames := 0, cells := 0, slots := 0, locals := 0 } : Room).slots) := by
  refine MetFree.of_bodySF (plainFor_of_name pn1) hisR ?_
  intro p e s m args below meth c s₁ Bd hml0 hP hK
  obtain ⟨rfl, hZ, hh⟩ := hP
  have hx := Bd.exec
  have hby := Bd.bytes
  have hml : c.maxLocals = 1 := hml0
  have hown : s.vm.findClass "collotype/image/JpegSegments" = some m.cls := findClass_of_methodNamed Bd.named
  have hnm := (name_of_methodNamed Bd.named Bd.method).1
  have X0 : Stand p l e ({ frames := 0, cells := 0, slots := 0, locals := 0 } : Room) s m #[(.int p0)] below meth c s₁ [] 0 0 := Stand.of_body Bd
  have e0 : s₁.heap = h0 := by rw [← hh, Bd.state]; rfl
  have N0 := Fr.nil n0
  refine own_fw (A := s₁.setTop (mkF m 0 #[.val (.int p0)] [])) (fun t k => castTop (ef1 m p0) k) ?_
  refine own_fw (A := s₁.setTop (mkF m 4 #[.val (.int p0)] [(.int (208 : Int32)), (.int p0)])) (fun t k => ?_) ?_
  · show Steps p.tables e below (s₁.setTop (mkF m 0 #[.val (.int p0)] [])) t
    refine XS.iloadN X0.here hx rfl (hb hby d1_0) rfl ?_
    show Steps p.tables e below (s₁.setTop (mkF m 1 #[.val (.int p0)] [(.int p0)])) t
    refine XS.sipush X0.here hx rfl (hb hby d1_1) ?_
    exact k
  by_cases hc1_1 : p0 < (208 : Int32)
  · refine own_fw (A := s₁.setTop (mkF m 18 #[.val (.int p0)] [])) (fun t k => ?_) ?_
    · show Steps p.tables e below (s₁.setTop (mkF m 4 #[.val (.int p0)] [(.int (208 : Int32)), (.int p0)])) t
      refine XS.icmpYes X0.here hx rfl (pc0 := 4) (pc' := 18) rfl (hb hby d1_4) rfl (tlt hc1_1).1 (by decide) (by decide) ?_
      exact k
    refine own_fw (A := s₁.setTop (mkF m 19 #[.val (.int p0)] [(.int (0 : Int32))])) (fun t k => ?_) ?_
    · show Steps p.tables e below (s₁.setTop (mkF m 18 #[.val (.int p0)] [])) t
      refine XS.iconst X0.here hx rfl (hb hby d1_18) ?_
      exact k
    obtain ⟨fs, hr, hrun, hended, hW, hsame⟩ := X0.leave (v := some (.int (nar .boolean (0 : Int32)))) (fun h => by rw [Bd.returns] at h; cases h)
    refine ⟨_, _, retN X0 hx (t := .boolean) Bd.returns (by simp) (hb hby d1_19) hr, hrun, hended, _, _, rfl, ⟨(by rw [restF, if_pos hc1_1]), N0, ?_⟩, ⟨_, rfl⟩, hW, hsame.mono (by decide) (by decide)⟩
    exact e0
  · refine own_fw (A := s₁.setTop (mkF m 7 #[.val (.int p0)] [])) (fun t k => ?_) ?_
    · show Steps p.tables e below (s₁.setTop (mkF m 4 #[.val (.int p0)] [(.int (208 : Int32)), (.int p0)])) t
      refine XS.icmpNo X0.here hx rfl (hb hby d1_4) rfl (flt hc1_1).1 ?_
      exact k
    refine own_fw (A := s₁.setTop (mkF m 11 #[.val (.int p0)] [(.int (216 : Int32)), (.int p0)])) (fun t k => ?_) ?_
    · show Steps p.tables e below (s₁.setTop (mkF m 7 #[.val (.int p0)] [])) t
      refine XS.iloadN X0.here hx rfl (hb hby d1_7) rfl ?_
      show Steps p.tables e below (s₁.setTop (mkF m 8 #[.val (.int p0)] [(.int p0)])) t
      refine XS.sipush X0.here hx rfl (hb hby d1_8) ?_
      exact k
    by_cases hc1_2 : p0 < (216 : Int32)
    · refine own_fw (A := s₁.setTop (mkF m 14 #[.val (.int p0)] [])) (fun t k => ?_) ?_
      · show Steps p.tables e below (s₁.setTop (mkF m 11 #[.val (.int p0)] [(.int (216 : Int32)), (.int p0)])) t
        refine XS.icmpNo X0.here hx rfl (hb hby d1_11) rfl (tlt hc1_2).2.1 ?_
        exact k
      refine own_fw (A := s₁.setTop (mkF m 19 #[.val (.int p0)] [(.int (1 : Int32))])) (fun t k => ?_) ?_
      · show Steps p.tables e below (s₁.setTop (mkF m 14 #[.val (.int p0)] [])) t
        refine XS.iconst X0.here hx rfl (hb hby d1_14) ?_
        show Steps p.tables e below (s₁.setTop (mkF m 15 #[.val (.int p0)] [(.int (1 : Int32))])) t
        refine XS.goto X0.here hx rfl (pc0 := 15) (pc' := 19) rfl (hb hby d1_15) (by decide) (by decide) ?_
        exact k
      obtain ⟨fs, hr, hrun, hended, hW, hsame⟩ := X0.leave (v := some (.int (nar .boolean (1 : Int32)))) (fun h => by rw [Bd.returns] at h; cases h)
      refine ⟨_, _, retN X0 hx (t := .boolean) Bd.returns (by simp) (hb hby d1_19) hr, hrun, hended, _, _, rfl, ⟨(by rw [restF, if_neg hc1_1, if_pos hc1_2]), N0, ?_⟩, ⟨_, rfl⟩, hW, hsame.mono (by decide) (by decide)⟩
      exact e0
    · refine own_fw (A := s₁.setTop (mkF m 18 #[.val (.int p0)] [])) (fun t k => ?_) ?_
      · show Steps p.tables e below (s₁.setTop (mkF m 11 #[.val (.int p0)] [(.int (216 : Int32)), (.int p0)])) t
        refine XS.icmpYes X0.here hx rfl (pc0 := 11) (pc' := 18) rfl (hb hby d1_11) rfl (flt hc1_2).2.1 (by decide) (by decide) ?_
        exact k
      refine own_fw (A := s₁.setTop (mkF m 19 #[.val (.int p0)] [(.int (0 : Int32))])) (fun t k => ?_) ?_
      · show Steps p.tables e below (s₁.setTop (mkF m 18 #[.val (.int p0)] [])) t
        refine XS.iconst X0.here hx rfl (hb hby d1_18) ?_
        exact k
      obtain ⟨fs, hr, hrun, hended, hW, hsame⟩ := X0.leave (v := some (.int (nar .boolean (0 : Int32)))) (fun h => by rw [Bd.returns] at h; cases h)
      refine ⟨_, _, retN X0 hx (t := .boolean) Bd.returns (by simp) (hb hby d1_19) hr, hrun, hended, _, _, rfl, ⟨(by rw [restF, if_neg hc1_1, if_neg hc1_2]), N0, ?_⟩, ⟨_, rfl⟩, hW, hsame.mono (by decide) (by decide)⟩
      exact e0
theorem d2_0 : decode method_2_code 0 = .ok (.iload_n 0, 1) := by decide +kernel
theorem d2_1 : decode method_2_code 1 = .ok (.bipush (-8), 2) := by decide +kernel
theorem d2_3 : decode method_2_code 3 = .ok (.iand, 1) := by decide +kernel
theorem d2_4 : decode method_2_code 4 = .ok (.sipush 208, 3) := by decide +kernel
theorem d2_7 : decode method_2_code 7 = .ok (.if_icmp .ne 7, 3) := by decide +kernel
theorem d2_10 : decode method_2_code 10 = .ok (.iconst 1, 1) := by decide +kernel
theorem d2_11 : decode method_2_code 11 = .ok (.goto 4, 3) := by decide +kernel
theorem d2_14 : decode method_2_code 14 = .ok (.iconst 0, 1) := by decide +kernel
theorem d2_15 : decode method_2_code 15 = .ok (.ireturn, 1) := by decide +kernel
theorem pn2 : plainName "collotype/image/JpegSegmentsIsRestartPinLaw" = true := by first | (simp [plainName, overriddenIn]; done) | decide +kernel
theorem ef2 (m : MethodId) (p0 : Int32) : entryFrame m #[(.int p0)] 1 = mkF m 0 #[.val (.int p0)] [] := by first | (simp [entryFrame, mkF, argsToLocals, Value.category]; done) | rfl
def refF (p0 : Int32) : Int32 := (if (p0 &&& (-8 : Int32)) = (208 : Int32) then (nar .boolean (1 : Int32)) else (nar .boolean (0 : Int32)))
def Q2 (Z : State) (p0 : Int32) (h0 : Heap) (n0 : Nat) (v : Option Value) (h : Heap) (L : List Loc) : Prop := v = some (.int (refF p0)) ∧ Fr n0 L ∧ h = h0
set_option maxRecDepth 65536 in
set_option maxHeartbeats 40000000 in
theorem rm2 (l : Launch) (Z : State) (a0 : Array Value) (hw : ∀ d ∈ tables_1, d.before a0 Z = true) (ws : List Jvm.Cond) (p0 : Int32) (h0 : Heap) (n0 : Nat) (Z0 : n0 ≤ h0.size) :
    MetFree l (⟨"collotype/image/JpegSegmentsIsRestartPinLaw", "reference", "(I)Z"⟩ : MethodName) (head1 (Jvm.Cond.code (⟨"collotype/image/JpegSegmentsIsRestartPinLaw", "reference", "(I)Z"⟩ : MethodName) method_2_code 1 (some .boolean) :: ws) ({ frames := 0, cells := 0, slots := 0, locals := 0 } : Room)) (fun a U => a = #[(.int p0)] ∧ Z.Warmed39 U.vm ∧ U.heap = h0) (fun _ _ _ _ _ => True) (fun _ U o U' => ∃ v L, o = .returned v ∧ Q2 Z p0 h0 n0 v U'.heap L ∧ FrameEnd U o U' L ({ frames := 0, cells := 0, slots := 0, locals := 0 } : Room).cells ({ frames := 0, cells := 0, slots := 0, locals := 0 } : Room).slots) := by
  refine MetFree.of_bodySF (plainFor_of_name pn2) hisR ?_
  intro p e s m args below meth c s₁ Bd hml0 hP hK
  obtain ⟨rfl, hZ, hh⟩ := hP
  have hx := Bd.exec
  have hby := Bd.bytes
  have hml : c.maxLocals = 1 := hml0
  have hown : s.vm.findClass "collotype/image/JpegSegmentsIsRestartPinLaw" = some m.cls := findClass_of_methodNamed Bd.named
  have hnm := (name_of_methodNamed Bd.named Bd.method).1
  have X0 : Stand p l e ({ frames := 0, cells := 0, slots := 0, locals := 0 } : Room) s m #[(.int p0)] below meth c s₁ [] 0 0 := Stand.of_body Bd
  have e0 : s₁.heap = h0 := by rw [← hh, Bd.state]; rfl
  have N0 := Fr.nil n0
  refine own_fw (A := s₁.setTop (mkF m 0 #[.val (.int p0)] [])) (fun t k => castTop (ef2 m p0) k) ?_
  refine own_fw (A := s₁.setTop (mkF m 7 #[.val (.int p0)] [(.int (208 : Int32)), (.int (p0 &&& (-8 : Int32)))])) (fun t k => ?_) ?_
  · show Steps p.tables e below (s₁.setTop (mkF m 0 #[.val (.int p0)] [])) t
    refine XS.iloadN X0.here hx rfl (hb hby d2_0) rfl ?_
    show Steps p.tables e below (s₁.setTop (mkF m 1 #[.val (.int p0)] [(.int p0)])) t
    refine XS.bipush X0.here hx rfl (hb hby d2_1) ?_
    show Steps p.tables e below (s₁.setTop (mkF m 3 #[.val (.int p0)] [(.int (-8 : Int32)), (.int p0)])) t
    refine XS.iand X0.here hx rfl (hb hby d2_3) rfl ?_
    show Steps p.tables e below (s₁.setTop (mkF m 4 #[.val (.int p0)] [(.int (p0 &&& (-8 : Int32)))])) t
    refine XS.sipush X0.here hx rfl (hb hby d2_4) ?_
    exact k
  by_cases hc2_1 : (p0 &&& (-8 : Int32)) = (208 : Int32)
  · refine own_fw (A := s₁.setTop (mkF m 10 #[.val (.int p0)] [])) (fun t k => ?_) ?_
    · show Steps p.tables e below (s₁.setTop (mkF m 7 #[.val (.int p0)] [(.int (208 : Int32)), (.int (p0 &&& (-8 : Int32)))])) t
      refine XS.icmpNo X0.here hx rfl (hb hby d2_7) rfl (teq hc2_1).2 ?_
      exact k
    refine own_fw (A := s₁.setTop (mkF m 15 #[.val (.int p0)] [(.int (1 : Int32))])) (fun t k => ?_) ?_
    · show Steps p.tables e below (s₁.setTop (mkF m 10 #[.val (.int p0)] [])) t
      refine XS.iconst X0.here hx rfl (hb hby d2_10) ?_
      show Steps p.tables e below (s₁.setTop (mkF m 11 #[.val (.int p0)] [(.int (1 : Int32))])) t
      refine XS.goto X0.here hx rfl (pc0 := 11) (pc' := 15) rfl (hb hby d2_11) (by decide) (by decide) ?_
      exact k
    obtain ⟨fs, hr, hrun, hended, hW, hsame⟩ := X0.leave (v := some (.int (nar .boolean (1 : Int32)))) (fun h => by rw [Bd.returns] at h; cases h)
    refine ⟨_, _, retN X0 hx (t := .boolean) Bd.returns (by simp) (hb hby d2_15) hr, hrun, hended, _, _, rfl, ⟨(by rw [refF, if_pos hc2_1]), N0, ?_⟩, ⟨_, rfl⟩, hW, hsame.mono (by decide) (by decide)⟩
    exact e0
  · refine own_fw (A := s₁.setTop (mkF m 14 #[.val (.int p0)] [])) (fun t k => ?_) ?_
    · show Steps p.tables e below (s₁.setTop (mkF m 7 #[.val (.int p0)] [(.int (208 : Int32)), (.int (p0 &&& (-8 : Int32)))])) t
      refine XS.icmpYes X0.here hx rfl (pc0 := 7) (pc' := 14) rfl (hb hby d2_7) rfl (feq hc2_1).2 (by decide) (by decide) ?_
      exact k
    refine own_fw (A := s₁.setTop (mkF m 15 #[.val (.int p0)] [(.int (0 : Int32))])) (fun t k => ?_) ?_
    · show Steps p.tables e below (s₁.setTop (mkF m 14 #[.val (.int p0)] [])) t
      refine XS.iconst X0.here hx rfl (hb hby d2_14) ?_
      exact k
    obtain ⟨fs, hr, hrun, hended, hW, hsame⟩ := X0.leave (v := some (.int (nar .boolean (0 : Int32)))) (fun h => by rw [Bd.returns] at h; cases h)
    refine ⟨_, _, retN X0 hx (t := .boolean) Bd.returns (by simp) (hb hby d2_15) hr, hrun, hended, _, _, rfl, ⟨(by rw [refF, if_neg hc2_1]), N0, ?_⟩, ⟨_, rfl⟩, hW, hsame.mono (by decide) (by decide)⟩
    exact e0
theorem own_split (a : Int32) : (a &&& (-8 : Int32)) + (a &&& (7 : Int32)) = a := by
  rw [← Int32.toBitVec_inj, Int32.toBitVec_add, Int32.toBitVec_and, Int32.toBitVec_and]
  show (a.toBitVec &&& 0xfffffff8#32) + (a.toBitVec &&& 7#32) = a.toBitVec
  generalize a.toBitVec = x
  rw [BitVec.add_eq_or_of_and_eq_zero]
  · rw [← BitVec.and_or_distrib_left]
    exact BitVec.and_allOnes
  · rw [show (x &&& 4294967288#32) &&& (x &&& 7#32) = (x &&& x) &&& (4294967288#32 &&& 7#32) by ac_rfl]
    simp
theorem own_eq (a : Int32) : restF a = refF a := by
  have h1 := c_mask a 7 3 (by decide) (by decide)
  have h2 := c_iadd (a &&& (-8 : Int32)) (a &&& (7 : Int32))
  rw [own_split] at h2
  have r1 := rng32 a
  have r2 := rng32 (a &&& (-8 : Int32))
  have k1 : (a &&& (-8 : Int32)) = (208 : Int32) ↔ (a &&& (-8 : Int32)).toInt = 208 := by rw [← Int32.toInt_inj]; rfl
  have k2 : a < (208 : Int32) ↔ a.toInt < 208 := Int32.lt_iff_toInt_lt
  have k3 : a < (216 : Int32) ↔ a.toInt < 216 := Int32.lt_iff_toInt_lt
  rw [restF, refF]
  by_cases p1 : a < (208 : Int32)
  · rw [if_pos p1, if_neg (by rw [k1]; rw [k2] at p1; omega)]
  · rw [if_neg p1]
    by_cases p2 : a < (216 : Int32)
    · rw [if_pos p2, if_pos (by rw [k1]; rw [k2] at p1; rw [k3] at p2; omega)]
    · rw [if_neg p2, if_neg (by rw [k1]; rw [k2] at p1; rw [k3] at p2; omega)]
theorem pn0 : plainName "collotype/image/JpegSegmentsIsRestartPinLaw" = true := by first | (simp [plainName, overriddenIn]; done) | decide +kernel
theorem pd0_0 : parseMethodDescriptor "(I)Z" = some ⟨[.int], some .boolean⟩ := by decide +kernel
theorem ef0 (m : MethodId) (p0 : Int32) (p1 : Int32) : entryFrame m #[(.int p0), (.int p1)] maxLocals = mkF m 0 #[.val (.int p0), .val (.int p1), .unset, .unset, .unset] [] := by first | (simp [entryFrame, mkF, argsToLocals, Value.category, maxLocals]; done) | rfl
def Q0 (Z : State) (p0 : Int32) (p1 : Int32) (h0 : Heap) (n0 : Nat) (v : Option Value) (h : Heap) (L : List Loc) : Prop := v = some (.int 1) ∧ Fr n0 L
set_option maxRecDepth 65536 in
set_option maxHeartbeats 40000000 in
theorem rm0 (l : Launch) (Z : State) (a0 : Array Value) (hw : ∀ d ∈ tables_1, d.before a0 Z = true) (ws : List Jvm.Cond) (p0 : Int32) (p1 : Int32) (h0 : Heap) (n0 : Nat) (Z0 : n0 ≤ h0.size) :
    MetFree l x (head1 (Jvm.Cond.code x code maxLocals ret :: ws) room_1) (fun a U => a = #[(.int p0), (.int p1)] ∧ Z.Warmed39 U.vm ∧ U.heap = h0) (fun _ _ _ _ _ => True) (fun _ U o U' => ∃ v L, o = .returned v ∧ Q0 Z p0 p1 h0 n0 v U'.heap L ∧ FrameEnd U o U' L room_1.cells room_1.slots) := by
  refine MetFree.of_bodySF (plainFor_of_name pn0) hisR ?_
  intro p e s m args below meth c s₁ Bd hml0 hP hK
  obtain ⟨rfl, hZ, hh⟩ := hP
  have hx := Bd.exec
  have hby := Bd.bytes
  have hml : c.maxLocals = 5 := hml0
  have hown : s.vm.findClass "collotype/image/JpegSegmentsIsRestartPinLaw" = some m.cls := findClass_of_methodNamed Bd.named
  have hnm := (name_of_methodNamed Bd.named Bd.method).1
  have X0 : Stand p l e room_1 s m #[(.int p0), (.int p1)] below meth c s₁ [] 0 0 := Stand.of_body Bd
  have e0 : s₁.heap = h0 := by rw [← hh, Bd.state]; rfl
  have N0 := Fr.nil n0
  refine own_fw (A := s₁.setTop (mkF m 0 #[.val (.int p0), .val (.int p1), .unset, .unset, .unset] [])) (fun t k => castTop (ef0 m p0 p1) k) ?_
  refine own_fw (A := s₁.setTop (mkF m 10 #[.val (.int p0), .val (.int p1), .val (.int ((204 : Int32) + (p1 &&& (15 : Int32)))), .unset, .unset] [(.int p0)])) (fun t k => ?_) ?_
  · show Steps p.tables e below (s₁.setTop (mkF m 0 #[.val (.int p0), .val (.int p1), .unset, .unset, .unset] [])) t
    refine XS.sipush X0.here hx rfl (hb hby at_0) ?_
    show Steps p.tables e below (s₁.setTop (mkF m 3 #[.val (.int p0), .val (.int p1), .unset, .unset, .unset] [(.int (204 : Int32))])) t
    refine XS.iloadN X0.here hx rfl (hb hby at_3) rfl ?_
    show Steps p.tables e below (s₁.setTop (mkF m 4 #[.val (.int p0), .val (.int p1), .unset, .unset, .unset] [(.int p1), (.int (204 : Int32))])) t
    refine XS.bipush X0.here hx rfl (hb hby at_4) ?_
    show Steps p.tables e below (s₁.setTop (mkF m 6 #[.val (.int p0), .val (.int p1), .unset, .unset, .unset] [(.int (15 : Int32)), (.int p1), (.int (204 : Int32))])) t
    refine XS.iand X0.here hx rfl (hb hby at_6) rfl ?_
    show Steps p.tables e below (s₁.setTop (mkF m 7 #[.val (.int p0), .val (.int p1), .unset, .unset, .unset] [(.int (p1 &&& (15 : Int32))), (.int (204 : Int32))])) t
    refine XS.iadd X0.here hx rfl (hb hby at_7) rfl ?_
    show Steps p.tables e below (s₁.setTop (mkF m 8 #[.val (.int p0), .val (.int p1), .unset, .unset, .unset] [(.int ((204 : Int32) + (p1 &&& (15 : Int32))))])) t
    refine XS.istoreN X0.here hx rfl (hb hby at_8) rfl (l' := #[.val (.int p0), .val (.int p1), .val (.int ((204 : Int32) + (p1 &&& (15 : Int32)))), .unset, .unset]) rfl ?_
    show Steps p.tables e below (s₁.setTop (mkF m 9 #[.val (.int p0), .val (.int p1), .val (.int ((204 : Int32) + (p1 &&& (15 : Int32)))), .unset, .unset] [])) t
    refine XS.iloadN X0.here hx rfl (hb hby at_9) rfl ?_
    exact k
  obtain ⟨_, _, ⟨T0_1, L0_1, k0_1, n0_1⟩, -, X0_1, ⟨Lc0_1, hQ0_1, l0_1, y0_1, z0_1⟩, st0_1⟩ := Jvm.LawKit.callS X0 hx (y := (⟨"collotype/image/JpegSegments", "isRestart", "(I)Z"⟩ : MethodName)) hown (mvT hZ (hw _ (List.mem_of_getElem? (i := 0) rfl))) (mvT hZ (hw _ (List.mem_of_getElem? (i := 1) rfl))) (mvT hZ (hw _ (List.mem_of_getElem? (i := 2) rfl))) (mvT hZ (hw _ (List.mem_of_getElem? (i := 3) rfl))) (by decide) (backOf (W := 0) (rm1 l Z a0 hw [] (p0) h0 n0 Z0 ) hZ (hw _ (List.mem_of_getElem? (i := 3) rfl)) (hw _ (List.mem_of_getElem? (i := 2) rfl)) (by decide) (by decide)) (g := (mkF m 10 #[.val (.int p0), .val (.int p1), .val (.int ((204 : Int32) + (p1 &&& (15 : Int32)))), .unset, .unset] [(.int p0)])) rfl (by rw [hml]; rfl) (argsL := [(.int p0)]) (rest := []) (lenOf pd0_0 rfl) rfl (by show 2 * 0 + _ ≤ _; exact Nat.le_of_eq rfl) (hb hby at_10) (fun _ _ => ⟨rfl, e0, (by decide : 0 + 0 ≤ _), (by decide : 0 + 0 ≤ _)⟩)
  dsimp only [Pt.U, Pt.locs, Pt.cells, Pt.slots] at X0_1 l0_1 y0_1 z0_1 st0_1 hQ0_1
  subst l0_1 y0_1 z0_1
  obtain ⟨rfl, N0_1q, e0_1⟩ := hQ0_1
  have N0_1 := Fr.app N0 N0_1q
  refine own_fw st0_1 ?_
  refine own_fw (A := T0_1.setTop (mkF m 14 #[.val (.int p0), .val (.int p1), .val (.int ((204 : Int32) + (p1 &&& (15 : Int32)))), .unset, .unset] [(.int p0), (.int (restF p0))])) (fun t k => ?_) ?_
  · show Steps p.tables e below (T0_1.setTop (mkF m 13 #[.val (.int p0), .val (.int p1), .val (.int ((204 : Int32) + (p1 &&& (15 : Int32)))), .unset, .unset] [(.int (restF p0))])) t
    refine XS.iloadN X0_1.here hx rfl (hb hby at_13) rfl ?_
    exact k
  obtain ⟨_, _, ⟨T0_2, L0_2, k0_2, n0_2⟩, -, X0_2, ⟨Lc0_2, hQ0_2, l0_2, y0_2, z0_2⟩, st0_2⟩ := Jvm.LawKit.callS X0_1 hx (y := (⟨"collotype/image/JpegSegmentsIsRestartPinLaw", "reference", "(I)Z"⟩ : MethodName)) hown (mvT hZ (hw _ (List.mem_of_getElem? (i := 4) rfl))) (mvT hZ (hw _ (List.mem_of_getElem? (i := 5) rfl))) (mvT hZ (hw _ (List.mem_of_getElem? (i := 6) rfl))) (mvT hZ (hw _ (List.mem_of_getElem? (i := 7) rfl))) (by decide) (backOf (W := 1) (rm2 l Z a0 hw [] (p0) h0 n0 Z0 ) hZ (hw _ (List.mem_of_getElem? (i := 7) rfl)) (hw _ (List.mem_of_getElem? (i := 6) rfl)) (by decide) (by decide)) (g := (mkF m 14 #[.val (.int p0), .val (.int p1), .val (.int ((204 : Int32) + (p1 &&& (15 : Int32)))), .unset, .unset] [(.int p0), (.int (restF p0))])) rfl (by rw [hml]; rfl) (argsL := [(.int p0)]) (rest := [(.int (restF p0))]) (lenOf pd0_0 rfl) rfl (by show 2 * 0 + _ ≤ _; exact Nat.le_of_eq rfl) (hb hby at_14) (fun _ _ => ⟨rfl, e0_1, (by decide : 0 + 0 ≤ _), (by decide : 0 + 0 ≤ _)⟩)
  dsimp only [Pt.U, Pt.locs, Pt.cells, Pt.slots] at X0_2 l0_2 y0_2 z0_2 st0_2 hQ0_2
  subst l0_2 y0_2 z0_2
  obtain ⟨rfl, N0_2q, e0_2⟩ := hQ0_2
  have N0_2 := Fr.app N0_1 N0_2q
  refine own_fw st0_2 ?_
  refine own_fw (A := T0_2.setTop (mkF m 27 #[.val (.int p0), .val (.int p1), .val (.int ((204 : Int32) + (p1 &&& (15 : Int32)))), .val (.int (1 : Int32)), .unset] [(.int ((204 : Int32) + (p1 &&& (15 : Int32))))])) (fun t k => ?_) ?_
  · show Steps p.tables e below (T0_2.setTop (mkF m 17 #[.val (.int p0), .val (.int p1), .val (.int ((204 : Int32) + (p1 &&& (15 : Int32)))), .unset, .unset] [(.int (refF p0)), (.int (restF p0))])) t
    refine XS.icmpNo X0_2.here hx rfl (hb hby at_17) rfl (teq (own_eq p0)).2 ?_
    show Steps p.tables e below (T0_2.setTop (mkF m 20 #[.val (.int p0), .val (.int p1), .val (.int ((204 : Int32) + (p1 &&& (15 : Int32)))), .unset, .unset] [])) t
    refine XS.iconst X0_2.here hx rfl (hb hby at_20) ?_
    show Steps p.tables e below (T0_2.setTop (mkF m 21 #[.val (.int p0), .val (.int p1), .val (.int ((204 : Int32) + (p1 &&& (15 : Int32)))), .unset, .unset] [(.int (1 : Int32))])) t
    refine XS.goto X0_2.here hx rfl (pc0 := 21) (pc' := 25) rfl (hb hby at_21) (by decide) (by decide) ?_
    show Steps p.tables e below (T0_2.setTop (mkF m 25 #[.val (.int p0), .val (.int p1), .val (.int ((204 : Int32) + (p1 &&& (15 : Int32)))), .unset, .unset] [(.int (1 : Int32))])) t
    refine XS.istoreN X0_2.here hx rfl (hb hby at_25) rfl (l' := #[.val (.int p0), .val (.int p1), .val (.int ((204 : Int32) + (p1 &&& (15 : Int32)))), .val (.int (1 : Int32)), .unset]) rfl ?_
    show Steps p.tables e below (T0_2.setTop (mkF m 26 #[.val (.int p0), .val (.int p1), .val (.int ((204 : Int32) + (p1 &&& (15 : Int32)))), .val (.int (1 : Int32)), .unset] [])) t
    refine XS.iloadN X0_2.here hx rfl (hb hby at_26) rfl ?_
    exact k
  obtain ⟨_, _, ⟨T0_3, L0_3, k0_3, n0_3⟩, -, X0_3, ⟨Lc0_3, hQ0_3, l0_3, y0_3, z0_3⟩, st0_3⟩ := Jvm.LawKit.callS X0_2 hx (y := (⟨"collotype/image/JpegSegments", "isRestart", "(I)Z"⟩ : MethodName)) hown (mvT hZ (hw _ (List.mem_of_getElem? (i := 0) rfl))) (mvT hZ (hw _ (List.mem_of_getElem? (i := 1) rfl))) (mvT hZ (hw _ (List.mem_of_getElem? (i := 2) rfl))) (mvT hZ (hw _ (List.mem_of_getElem? (i := 3) rfl))) (by decide) (backOf (W := 0) (rm1 l Z a0 hw [] (((204 : Int32) + (p1 &&& (15 : Int32)))) h0 n0 Z0 ) hZ (hw _ (List.mem_of_getElem? (i := 3) rfl)) (hw _ (List.mem_of_getElem? (i := 2) rfl)) (by decide) (by decide)) (g := (mkF m 27 #[.val (.int p0), .val (.int p1), .val (.int ((204 : Int32) + (p1 &&& (15 : Int32)))), .val (.int (1 : Int32)), .unset] [(.int ((204 : Int32) + (p1 &&& (15 : Int32))))])) rfl (by rw [hml]; rfl) (argsL := [(.int ((204 : Int32) + (p1 &&& (15 : Int32))))]) (rest := []) (lenOf pd0_0 rfl) rfl (by show 2 * 0 + _ ≤ _; exact Nat.le_of_eq rfl) (hb hby at_27) (fun _ _ => ⟨rfl, e0_2, (by decide : 0 + 0 ≤ _), (by decide : 0 + 0 ≤ _)⟩)
  dsimp only [Pt.U, Pt.locs, Pt.cells, Pt.slots] at X0_3 l0_3 y0_3 z0_3 st0_3 hQ0_3
  subst l0_3 y0_3 z0_3
  obtain ⟨rfl, N0_3q, e0_3⟩ := hQ0_3
  have N0_3 := Fr.app N0_2 N0_3q
  refine own_fw st0_3 ?_
  refine own_fw (A := T0_3.setTop (mkF m 31 #[.val (.int p0), .val (.int p1), .val (.int ((204 : Int32) + (p1 &&& (15 : Int32)))), .val (.int (1 : Int32)), .unset] [(.int ((204 : Int32) + (p1 &&& (15 : Int32)))), (.int (restF ((204 : Int32) + (p1 &&& (15 : Int32)))))])) (fun t k => ?_) ?_
  · show Steps p.tables e below (T0_3.setTop (mkF m 30 #[.val (.int p0), .val (.int p1), .val (.int ((204 : Int32) + (p1 &&& (15 : Int32)))), .val (.int (1 : Int32)), .unset] [(.int (restF ((204 : Int32) + (p1 &&& (15 : Int32)))))])) t
    refine XS.iloadN X0_3.here hx rfl (hb hby at_30) rfl ?_
    exact k
  obtain ⟨_, _, ⟨T0_4, L0_4, k0_4, n0_4⟩, -, X0_4, ⟨Lc0_4, hQ0_4, l0_4, y0_4, z0_4⟩, st0_4⟩ := Jvm.LawKit.callS X0_3 hx (y := (⟨"collotype/image/JpegSegmentsIsRestartPinLaw", "reference", "(I)Z"⟩ : MethodName)) hown (mvT hZ (hw _ (List.mem_of_getElem? (i := 4) rfl))) (mvT hZ (hw _ (List.mem_of_getElem? (i := 5) rfl))) (mvT hZ (hw _ (List.mem_of_getElem? (i := 6) rfl))) (mvT hZ (hw _ (List.mem_of_getElem? (i := 7) rfl))) (by decide) (backOf (W := 1) (rm2 l Z a0 hw [] (((204 : Int32) + (p1 &&& (15 : Int32)))) h0 n0 Z0 ) hZ (hw _ (List.mem_of_getElem? (i := 7) rfl)) (hw _ (List.mem_of_getElem? (i := 6) rfl)) (by decide) (by decide)) (g := (mkF m 31 #[.val (.int p0), .val (.int p1), .val (.int ((204 : Int32) + (p1 &&& (15 : Int32)))), .val (.int (1 : Int32)), .unset] [(.int ((204 : Int32) + (p1 &&& (15 : Int32)))), (.int (restF ((204 : Int32) + (p1 &&& (15 : Int32)))))])) rfl (by rw [hml]; rfl) (argsL := [(.int ((204 : Int32) + (p1 &&& (15 : Int32))))]) (rest := [(.int (restF ((204 : Int32) + (p1 &&& (15 : Int32)))))]) (lenOf pd0_0 rfl) rfl (by show 2 * 0 + _ ≤ _; exact Nat.le_of_eq rfl) (hb hby at_31) (fun _ _ => ⟨rfl, e0_3, (by decide : 0 + 0 ≤ _), (by decide : 0 + 0 ≤ _)⟩)
  dsimp only [Pt.U, Pt.locs, Pt.cells, Pt.slots] at X0_4 l0_4 y0_4 z0_4 st0_4 hQ0_4
  subst l0_4 y0_4 z0_4
  obtain ⟨rfl, N0_4q, e0_4⟩ := hQ0_4
  have N0_4 := Fr.app N0_3 N0_4q
  refine own_fw st0_4 ?_
  refine own_fw (A := T0_4.setTop (mkF m 58 #[.val (.int p0), .val (.int p1), .val (.int ((204 : Int32) + (p1 &&& (15 : Int32)))), .val (.int (1 : Int32)), .val (.int (1 : Int32))] [(.int (1 : Int32))])) (fun t k => ?_) ?_
  · show Steps p.tables e below (T0_4.setTop (mkF m 34 #[.val (.int p0), .val (.int p1), .val (.int ((204 : Int32) + (p1 &&& (15 : Int32)))), .val (.int (1 : Int32)), .unset] [(.int (refF ((204 : Int32) + (p1 &&& (15 : Int32))))), (.int (restF ((204 : Int32) + (p1 &&& (15 : Int32)))))])) t
    refine XS.icmpNo X0_4.here hx rfl (hb hby at_34) rfl (teq (own_eq ((204 : Int32) + (p1 &&& (15 : Int32))))).2 ?_
    show Steps p.tables e below (T0_4.setTop (mkF m 37 #[.val (.int p0), .val (.int p1), .val (.int ((204 : Int32) + (p1 &&& (15 : Int32)))), .val (.int (1 : Int32)), .unset] [])) t
    refine XS.iconst X0_4.here hx rfl (hb hby at_37) ?_
    show Steps p.tables e below (T0_4.setTop (mkF m 38 #[.val (.int p0), .val (.int p1), .val (.int ((204 : Int32) + (p1 &&& (15 : Int32)))), .val (.int (1 : Int32)), .unset] [(.int (1 : Int32))])) t
    refine XS.goto X0_4.here hx rfl (pc0 := 38) (pc' := 42) rfl (hb hby at_38) (by decide) (by decide) ?_
    show Steps p.tables e below (T0_4.setTop (mkF m 42 #[.val (.int p0), .val (.int p1), .val (.int ((204 : Int32) + (p1 &&& (15 : Int32)))), .val (.int (1 : Int32)), .unset] [(.int (1 : Int32))])) t
    refine XS.istore X0_4.here hx rfl (hb hby at_42) rfl (l' := #[.val (.int p0), .val (.int p1), .val (.int ((204 : Int32) + (p1 &&& (15 : Int32)))), .val (.int (1 : Int32)), .val (.int (1 : Int32))]) rfl ?_
    show Steps p.tables e below (T0_4.setTop (mkF m 44 #[.val (.int p0), .val (.int p1), .val (.int ((204 : Int32) + (p1 &&& (15 : Int32)))), .val (.int (1 : Int32)), .val (.int (1 : Int32))] [])) t
    refine XS.iloadN X0_4.here hx rfl (hb hby at_44) rfl ?_
    show Steps p.tables e below (T0_4.setTop (mkF m 45 #[.val (.int p0), .val (.int p1), .val (.int ((204 : Int32) + (p1 &&& (15 : Int32)))), .val (.int (1 : Int32)), .val (.int (1 : Int32))] [(.int (1 : Int32))])) t
    refine XS.ifNo X0_4.here hx rfl (hb hby at_45) rfl ((if0 _ _).trans (feq (by decide : ¬ ((1 : Int32) = (0 : Int32)))).1) ?_
    show Steps p.tables e below (T0_4.setTop (mkF m 48 #[.val (.int p0), .val (.int p1), .val (.int ((204 : Int32) + (p1 &&& (15 : Int32)))), .val (.int (1 : Int32)), .val (.int (1 : Int32))] [])) t
    refine XS.iload X0_4.here hx rfl (hb hby at_48) rfl ?_
    show Steps p.tables e below (T0_4.setTop (mkF m 50 #[.val (.int p0), .val (.int p1), .val (.int ((204 : Int32) + (p1 &&& (15 : Int32)))), .val (.int (1 : Int32)), .val (.int (1 : Int32))] [(.int (1 : Int32))])) t
    refine XS.ifNo X0_4.here hx rfl (hb hby at_50) rfl ((if0 _ _).trans (feq (by decide : ¬ ((1 : Int32) = (0 : Int32)))).1) ?_
    show Steps p.tables e below (T0_4.setTop (mkF m 53 #[.val (.int p0), .val (.int p1), .val (.int ((204 : Int32) + (p1 &&& (15 : Int32)))), .val (.int (1 : Int32)), .val (.int (1 : Int32))] [])) t
    refine XS.iconst X0_4.here hx rfl (hb hby at_53) ?_
    show Steps p.tables e below (T0_4.setTop (mkF m 54 #[.val (.int p0), .val (.int p1), .val (.int ((204 : Int32) + (p1 &&& (15 : Int32)))), .val (.int (1 : Int32)), .val (.int (1 : Int32))] [(.int (1 : Int32))])) t
    refine XS.goto X0_4.here hx rfl (pc0 := 54) (pc' := 58) rfl (hb hby at_54) (by decide) (by decide) ?_
    exact k
  obtain ⟨fs, hr, hrun, hended, hW, hsame⟩ := X0_4.leave (v := some (.int (nar .boolean (1 : Int32)))) (fun h => by rw [Bd.returns] at h; cases h)
  exact ⟨_, _, retN X0_4 hx (t := .boolean) Bd.returns (by simp) (hb hby at_58) hr, hrun, hended, _, _, rfl, ⟨rfl, N0_4⟩, ⟨_, rfl⟩, hW, hsame.mono (by decide) (by decide)⟩
set_option maxRecDepth 65536 in
set_option maxHeartbeats 40000000 in
theorem comes_1 {Post : Tables → Env → Array Value → State → Outcome → State → Prop} (hpost : ∀ tb e args s v u, (limb_1_1.after args s (.returned v) u = true ∧ limb_1_2.after args s (.returned v) u = true ∧ True) → FrameEnd s (.returned v) u (Jvm.fieldLocs frame_1_writes args s ++ Jvm.arrayLocs frame_1_arrays args s ++ Jvm.staticLocs frame_1_statics s) 0 0 → Post tb e args s (.returned v) u) :
    ArmFor flags0 classFile x code maxLocals ret World_1 tables_1 room_1 Calls_1 rest_1 Pre_1 Post := by
  intro l hfl _ _ p e ha hc hk s m args below hf hA hF happ hP
  obtain ⟨hcalls, hrest, hpre⟩ := hP
  obtain ⟨-, -, -, hnamed, -, -, -, hat⟩ := (Spec.applies_iff hf).mp happ
  obtain ⟨hg, hn⟩ := and_e (Cond.before_iff.mp (show (Jvm.Cond.and given_1 narrow_1).before args s = true from hpre))
  obtain ⟨g1, g2⟩ := and_e hg
  obtain ⟨ga0, gb0⟩ := and_e g2
  obtain ⟨w0, w1, rfl⟩ : ∃ w0 w1 : Value, args = #[w0, w1] := by
    have hs : args.size = 2 := by simpa [Cond.value, given_1] using g1
    obtain ⟨L⟩ := args
    match L, hs with
    | [w0, w1], _ => exact ⟨w0, w1, rfl⟩
  have hw := fun d (hd : d ∈ tables_1) => atoms_spec (ws := Jvm.Cond.code x code maxLocals ret :: tables_1) hat d (List.mem_cons_of_mem _ hd)
  have hfit : Fit s := fun {y c} hc i hi => by
    obtain ⟨ha, rfl⟩ := Array.getElem?_eq_some_iff.mp hc
    have q := List.all_eq_true.mp ((Array.all_eq_true_iff_forall_mem.mp hF) _ (Array.getElem_mem ha)) i (List.mem_range.mpr hi)
    simpa [Array.getElem?_eq_getElem hi] using q
  obtain ⟨i0, ei0⟩ := is_v ga0
  obtain rfl : w0 = (.int i0) := Option.some.inj ei0
  obtain ⟨i1, ei1⟩ := is_v gb0
  obtain rfl : w1 = (.int i1) := Option.some.inj ei1
  obtain ⟨n, o, h1, h2, h3, _, L, rfl, ⟨rfl, N⟩, hq⟩ := rm0 l s _ hw tables_1 i0 i1  s.heap s.heap.size (Nat.le_refl _)  p e ha hc hk s m _ below hf ((Spec.applies_iff_loose hf).mp happ).1 ⟨rfl, State.Warmed39.refl s, rfl⟩ trivial
  refine ⟨n, _, h1, h2, h3, hpost _ _ _ _ _ _ ⟨Cond.after_iff.mpr rfl, Cond.after_iff.mpr (eq_i res_at (Term.int_eval (1)) rfl), trivial⟩ ⟨hq.1, hq.2.1, (hq.2.2.sift fun y hy => Or.inr (N y hy)).mono (by decide) (by decide)⟩⟩
theorem main_1_1 : Claimed_1_1 := comes_1 fun _ _ _ _ _ _ h hF => ⟨h.1, hF⟩
theorem main_1_2 : Claimed_1_2 := comes_1 fun _ _ _ _ _ _ h hF => ⟨h.2.1, hF⟩
end Jvm.Pilot.@@N@@
namespace Jvm.Pilot.@@N@@
open Jvm Jvm.ClassFile Sem Op Lib Jvm.Free Jvm.Stand Jvm.Pilot.@@N@@.Jvm.D
/-! MADE BY PROGRAM (witnessworld.py) out of the Statement's table words and the real class files: 9 classes; the members and pool entries that the words name. The judged class is class 1, her method 2. -/
namespace start1
open Jvm.ClassFile
def u (s : String) : CpInfo := .utf8 (stringToUtf16 s)
/-- a pool by its gaps: so many unusable entries, then the entry; so many at the end -/
def gap : Nat → List CpInfo → List CpInfo
  | 0, r => r
  | n + 1, r => .unusable :: gap n r
def poolList (es : List (Nat × CpInfo)) (last : Nat) : List CpInfo := es.foldr (fun e r => gap e.1 (e.2 :: r)) (gap last [])
def pool (es : List (Nat × CpInfo)) (last : Nat) : Array CpInfo := ⟨poolList es last⟩
def fileOf (pool : Array CpInfo) (this : Nat) (attrs : Array Attribute := #[]) (ms : Array MethodInfo := #[]) (fl : Nat := 33) (sup : Nat := 0) (ifs : Array Nat := #[]) (fds : Array FieldInfo := #[]) : ClassFile where
  minorVersion := 0
  majorVersion := 65
  constantPool := pool
  accessFlags := fl
  thisClass := this
  superClass := sup
  interfaces := ifs
  fields := fds
  methods := ms
  attributes := attrs
def plain (name : String) (sup : Option ClassId) : Class where
  name := name
  kind := .ordinary
  loader := none
  accessFlags := 33
  super := sup
  interfaces := #[]
  cf := none
  fields := #[]
  methods := #[]
  instanceTypes := #[]
  staticTypes := #[]
  resolved := #[]
  callSites := []
  init := .initialized
  statics := none
  mirror := none

def pool0 : Array CpInfo := pool [(5, u "<init>"), (0, u "()V"), (1, .class_ 10), (1, u "java/lang/Object")] 113

def k0m0 : Method := { name := "<init>", desc := "()V", sig := { parameters := [], returnType := none }, accessFlags := 1, code := none }
/-- java/lang/Object -/
def k0 : Class := { plain "java/lang/Object" none with
  accessFlags := 33
  interfaces := #[]
  cf := some (fileOf pool0 8 #[] #[{ accessFlags := 1, nameIndex := 5, descriptorIndex := 6, attributes := #[] }] 33 0 #[] #[])
  fields := #[]
  methods := #[k0m0]
  instanceTypes := #[]
  staticTypes := #[]
  resolved := Array.replicate 124 none
  statics := none }

def pool1 : Array CpInfo := pool [(2, .class_ 4), (1, u "java/lang/Object"), (0, u "<init>"), (0, u "()V"), (0, .methodref 8 9), (0, .class_ 10), (0, .nameAndType 11 12), (0, u "collotype/image/JpegSegments"), (0, u "isRestart"), (0, u "(I)Z"), (0, .methodref 14 15), (0, .class_ 16), (0, .nameAndType 17 12), (0, u "collotype/image/JpegSegmentsIsRestartPinLaw"), (0, u "reference"), (3, u "law"), (0, u "(II)Z")] 2

def k1m0 : Method := { name := "<init>", desc := "()V", sig := { parameters := [], returnType := none }, accessFlags := 1, code := none }
def k1c1 : Code := { maxStack := 2, maxLocals := 1, code := method_2_code, exceptionTable := #[], attributes := #[] }
def k1m1 : Method := { name := "reference", desc := "(I)Z", sig := { parameters := [.int], returnType := some .boolean }, accessFlags := 10, code := some k1c1 }
def k1c2 : Code := { maxStack := 3, maxLocals := 5, code := code, exceptionTable := #[], attributes := #[] }
def k1m2 : Method := { name := "law", desc := "(II)Z", sig := { parameters := [.int, .int], returnType := some .boolean }, accessFlags := 9, code := some k1c2 }
/-- collotype/image/JpegSegmentsIsRestartPinLaw -/
def k1 : Class := { plain "collotype/image/JpegSegmentsIsRestartPinLaw" (some 0) with
  accessFlags := 49
  interfaces := #[]
  cf := some (fileOf pool1 14 #[] #[{ accessFlags := 1, nameIndex := 5, descriptorIndex := 6, attributes := #[] }, { accessFlags := 10, nameIndex := 17, descriptorIndex := 12, attributes := #[] }, { accessFlags := 9, nameIndex := 21, descriptorIndex := 22, attributes := #[] }] 49 2 #[] #[])
  fields := #[]
  methods := #[k1m0, k1m1, k1m2]
  instanceTypes := #[]
  staticTypes := #[]
  resolved := Array.replicate 25 none
  statics := none }

def pool2 : Array CpInfo := pool [(2, .class_ 4), (1, u "java/lang/Object"), (3, .class_ 10), (1, u "collotype/image/JpegSegments"), (0, u "file"), (0, u "Ljavax/imageio/stream/ImageInputStream;"), (2, u "end"), (0, u "J"), (12, u "marker"), (0, u "I"), (3, u "(I)Z"), (6, u "data"), (15, u "isRestart"), (0, u "START_OF_FRAME_PROGRESSIVE"), (2, u "DEFINE_HUFFMAN_TABLES"), (1, u "RESTART"), (1, u "START_OF_IMAGE"), (1, u "END_OF_IMAGE"), (1, u "START_OF_SCAN"), (1, u "DEFINE_QUANTISATION_TABLES"), (1, u "DEFINE_RESTART_INTERVAL"), (1, u "APPLICATION"), (1, u "COMMENT"), (1, u "TEMPORARY")] 16

def k2c0 : Code := { maxStack := 2, maxLocals := 1, code := prog_40_method_7_code, exceptionTable := #[], attributes := #[] }
def k2m0 : Method := { name := "isRestart", desc := "(I)Z", sig := { parameters := [.int], returnType := some .boolean }, accessFlags := 8, code := some k2c0 }
/-- collotype/image/JpegSegments -/
def k2 : Class := { plain "collotype/image/JpegSegments" (some 0) with
  accessFlags := 48
  interfaces := #[]
  cf := some (fileOf pool2 8 #[] #[{ accessFlags := 8, nameIndex := 57, descriptorIndex := 34, attributes := #[] }] 48 2 #[] #[{ accessFlags := 24, nameIndex := 58, descriptorIndex := 30, attributes := #[] }, { accessFlags := 24, nameIndex := 61, descriptorIndex := 30, attributes := #[] }, { accessFlags := 24, nameIndex := 63, descriptorIndex := 30, attributes := #[] }, { accessFlags := 24, nameIndex := 65, descriptorIndex := 30, attributes := #[] }, { accessFlags := 24, nameIndex := 67, descriptorIndex := 30, attributes := #[] }, { accessFlags := 24, nameIndex := 69, descriptorIndex := 30, attributes := #[] }, { accessFlags := 24, nameIndex := 71, descriptorIndex := 30, attributes := #[] }, { accessFlags := 24, nameIndex := 73, descriptorIndex := 30, attributes := #[] }, { accessFlags := 24, nameIndex := 75, descriptorIndex := 30, attributes := #[] }, { accessFlags := 24, nameIndex := 77, descriptorIndex := 30, attributes := #[] }, { accessFlags := 26, nameIndex := 79, descriptorIndex := 30, attributes := #[] }, { accessFlags := 18, nameIndex := 11, descriptorIndex := 12, attributes := #[] }, { accessFlags := 2, nameIndex := 29, descriptorIndex := 30, attributes := #[] }, { accessFlags := 2, nameIndex := 41, descriptorIndex := 16, attributes := #[] }, { accessFlags := 2, nameIndex := 15, descriptorIndex := 16, attributes := #[] }])
  fields := #[{ name := "START_OF_FRAME_PROGRESSIVE", type := .int, accessFlags := 24, slot := 0, constantValue := 0 }, { name := "DEFINE_HUFFMAN_TABLES", type := .int, accessFlags := 24, slot := 1, constantValue := 0 }, { name := "RESTART", type := .int, accessFlags := 24, slot := 2, constantValue := 0 }, { name := "START_OF_IMAGE", type := .int, accessFlags := 24, slot := 3, constantValue := 0 }, { name := "END_OF_IMAGE", type := .int, accessFlags := 24, slot := 4, constantValue := 0 }, { name := "START_OF_SCAN", type := .int, accessFlags := 24, slot := 5, constantValue := 0 }, { name := "DEFINE_QUANTISATION_TABLES", type := .int, accessFlags := 24, slot := 6, constantValue := 0 }, { name := "DEFINE_RESTART_INTERVAL", type := .int, accessFlags := 24, slot := 7, constantValue := 0 }, { name := "APPLICATION", type := .int, accessFlags := 24, slot := 8, constantValue := 0 }, { name := "COMMENT", type := .int, accessFlags := 24, slot := 9, constantValue := 0 }, { name := "TEMPORARY", type := .int, accessFlags := 26, slot := 10, constantValue := 0 }, { name := "file", type := (.object "javax/imageio/stream/ImageInputStream"), accessFlags := 18, slot := 0, constantValue := 0 }, { name := "marker", type := .int, accessFlags := 2, slot := 1, constantValue := 0 }, { name := "data", type := .long, accessFlags := 2, slot := 2, constantValue := 0 }, { name := "end", type := .long, accessFlags := 2, slot := 3, constantValue := 0 }]
  methods := #[k2m0]
  instanceTypes := #[(.object "javax/imageio/stream/ImageInputStream"), .int, .long, .long]
  staticTypes := #[.int, .int, .int, .int, .int, .int, .int, .int, .int, .int, .int]
  resolved := Array.replicate 96 none
  statics := none }

def pool3 : Array CpInfo := pool [(1, u "java/lang/Cloneable"), (0, .class_ 1), (0, u "java/lang/Object"), (0, .class_ 3)] 3

/-- java/lang/Cloneable -/
def k3 : Class := { plain "java/lang/Cloneable" (some 0) with
  accessFlags := 1537
  interfaces := #[]
  cf := some (fileOf pool3 2 #[] #[] 1537 4 #[] #[])
  fields := #[]
  methods := #[]
  instanceTypes := #[]
  staticTypes := #[]
  resolved := Array.replicate 8 none
  statics := none }

def pool4 : Array CpInfo := pool [(1, u "java/io/Serializable"), (0, .class_ 1), (0, u "java/lang/Object"), (0, .class_ 3)] 3

/-- java/io/Serializable -/
def k4 : Class := { plain "java/io/Serializable" (some 0) with
  accessFlags := 1537
  interfaces := #[]
  cf := some (fileOf pool4 2 #[] #[] 1537 4 #[] #[])
  fields := #[]
  methods := #[]
  instanceTypes := #[]
  staticTypes := #[]
  resolved := Array.replicate 8 none
  statics := none }

/-- the primitive byte -/
def k5 : Class := { plain "byte" none with kind := .primitive 'B', accessFlags := 0x411 }
/-- [B -/
def k6 : Class := { plain "[B" (some 0) with kind := .array 5 .byte, interfaces := #[3, 4], accessFlags := 1041 }

/-- the primitive int -/
def k7 : Class := { plain "int" none with kind := .primitive 'I', accessFlags := 0x411 }
/-- [I -/
def k8 : Class := { plain "[I" (some 0) with kind := .array 7 .int, interfaces := #[3, 4], accessFlags := 1041 }

def heap : Heap := #[]
def classes : Array Class := #[k0, k1, k2, k3, k4, k5, k6, k7, k8]
def interned : List (Array UInt16 × Addr) := []
def slotsUsed : Nat := 0
def theMethod : MethodId := ⟨1, 2⟩
def args0 : Array Value := #[.int 5, .int 7]
def aboutOver (below : List Frame) : State where
  vm := { classes := classes, interned := interned.toArray }
  heap := heap
  slotsUsed := slotsUsed
  threads := #[{ frames := .invoking theMethod args0 :: below }]
def below0 : List Frame := [.native { method := ⟨0, 0⟩, args := #[] }]
def about1 : State := aboutOver below0
def p0 : Program := .bare "" "" ""
def e0 : Env := launch0.env 0 0 0
theorem w_frames : about1.frames = Frame.invoking theMethod args0 :: below0 := rfl
set_option maxRecDepth 65536 in
theorem w_args : argsFit about1.vm theMethod args0 = true := by decide +kernel
set_option maxRecDepth 65536 in
theorem w_heap : heapFits about1 = true := by decide +kernel
set_option maxRecDepth 65536 in
theorem w_runnable : about1.curStatus? = some .runnable := by decide +kernel
set_option maxRecDepth 65536 in
theorem w_alone : about1.alone = true := by decide +kernel
set_option maxRecDepth 65536 in
theorem w_named : about1.methodNamed? x = some theMethod := by decide +kernel
set_option maxRecDepth 65536 in
theorem w_hears : about1.hears theMethod below0 = true := by decide +kernel
set_option maxRecDepth 65536 in
theorem w_ripe : about1.ripe theMethod args0 below0 = true := by decide +kernel
theorem w_running : about1.status = .running := rfl
set_option maxRecDepth 65536 in
theorem w_room : about1.hasRoom e0.platform room_1 = true :=
  launch0.hasRoom_least _ room_1 (by decide +kernel) (by decide +kernel) (by decide +kernel) (by decide +kernel) (by decide +kernel) (by decide +kernel)
theorem allAtoms_all (ts : List Jvm.Cond) (a : Array Jvm.Value) (st : Jvm.State) : (allAtoms ts).before a st = ts.all (fun c => c.before a st) := by
  induction ts with
  | nil => rfl
  | cons c t ih =>
    show (Jvm.Cond.and c (allAtoms t)).before a st = _
    rw [Jvm.Cond.before_and, ih, List.all_cons]
def words1 : List Jvm.Cond := Jvm.Cond.code x code maxLocals ret :: tables_1
/-- a 'code' word, met by the world's own term for the bytes: nothing is compared byte by byte -/
theorem code_word {y : MethodName} {bytes : ByteArray} {mx : Nat} {rt : Option FieldType} {a : Array Value} {s : State} {m : MethodId} {meth : Method} {c : Code} (h1 : s.methodNamed? y = some m) (h2 : s.vm.method? m = some meth) (h3 : meth.code = some c) (h4 : c.code = bytes)
    (h5 : (c.maxLocals == mx && c.exceptionTable.isEmpty && decide (c.maxStack ≤ mostOperands) && decide (meth.sig.returnType = rt) && !meth.locks && decide (parseMethodDescriptor y.desc = some meth.sig)) = true) : (Jvm.Cond.code y bytes mx rt).before a s = true := by
  simp only [Bool.and_eq_true, beq_iff_eq, Bool.not_eq_true', decide_eq_true_eq] at h5
  obtain ⟨⟨⟨⟨⟨g1, g2⟩, g3⟩, g4⟩, g5⟩, g6⟩ := h5
  simp [Cond.before, Cond.holds, Cond.value, h1, h2, h3, h4, g1, g2, g3, g4, g5, g6]
def isCode : Jvm.Cond → Bool
  | .code _ _ _ _ => true
  | _ => false
theorem all_split {L : List Jvm.Cond} {P : Jvm.Cond → Bool} (h1 : L.all (fun c => isCode c || P c) = true) (h2 : ∀ c ∈ L.filter isCode, P c = true) : L.all P = true := by
  refine List.all_eq_true.mpr fun c hc => ?_
  have h := List.all_eq_true.mp h1 c hc
  rcases Bool.eq_false_or_eq_true (isCode c) with hi | hi
  · exact h2 c (List.mem_filter.mpr ⟨hc, hi⟩)
  · simpa [hi] using h
set_option maxRecDepth 65536 in
theorem w_c0 : (Jvm.Cond.code x code maxLocals ret).before args0 about1 = true := code_word (m := ⟨1, 2⟩) (meth := k1m2) (c := k1c2) (by decide +kernel) rfl rfl rfl (by decide +kernel)
set_option maxRecDepth 65536 in
theorem w_c1 : (Jvm.Cond.code ({ cls := "collotype/image/JpegSegments", name := "isRestart", desc := "(I)Z" } : Jvm.MethodName) prog_40_method_7_code (1 : Nat) (Option.some Jvm.ClassFile.FieldType.boolean)).before args0 about1 = true := code_word (m := ⟨2, 0⟩) (meth := k2m0) (c := k2c0) (by decide +kernel) rfl rfl rfl (by decide +kernel)
set_option maxRecDepth 65536 in
theorem w_c2 : (Jvm.Cond.code ({ cls := "collotype/image/JpegSegmentsIsRestartPinLaw", name := "reference", desc := "(I)Z" } : Jvm.MethodName) method_2_code (1 : Nat) (Option.some Jvm.ClassFile.FieldType.boolean)).before args0 about1 = true := code_word (m := ⟨1, 1⟩) (meth := k1m1) (c := k1c1) (by decide +kernel) rfl rfl rfl (by decide +kernel)
def codes1 : List Jvm.Cond := [Jvm.Cond.code x code maxLocals ret, Jvm.Cond.code ({ cls := "collotype/image/JpegSegments", name := "isRestart", desc := "(I)Z" } : Jvm.MethodName) prog_40_method_7_code (1 : Nat) (Option.some Jvm.ClassFile.FieldType.boolean), Jvm.Cond.code ({ cls := "collotype/image/JpegSegmentsIsRestartPinLaw", name := "reference", desc := "(I)Z" } : Jvm.MethodName) method_2_code (1 : Nat) (Option.some Jvm.ClassFile.FieldType.boolean)]
set_option maxRecDepth 65536 in
theorem codes_eq : words1.filter isCode = codes1 := rfl
theorem w_codes : ∀ c ∈ words1.filter isCode, c.before args0 about1 = true := by
  rw [codes_eq]
  intro c hc
  simp only [codes1, List.mem_cons, List.not_mem_nil, or_false] at hc
  rcases hc with rfl | rfl | rfl
  · exact w_c0
  · exact w_c1
  · exact w_c2
set_option maxRecDepth 65536 in
theorem w_t1 : words1.all (fun c => isCode c || c.before args0 about1) = true := by decide +kernel
theorem w_tables : (allAtoms (Jvm.Cond.code x code maxLocals ret :: tables_1)).before args0 about1 = true := by
  rw [allAtoms_all]
  show words1.all (fun c => c.before args0 about1) = true
  refine all_split ?_ w_codes
  rw [w_t1]
set_option maxRecDepth 65536 in
theorem w_case : (Jvm.Cond.and given_1 narrow_1).before args0 about1 = true := by decide +kernel
theorem w_applies : (headSpec (Jvm.Cond.code x code maxLocals ret :: tables_1) room_1).applies x e0.platform about1 = true :=
  (Spec.applies_iff w_frames).mpr ⟨w_running, w_runnable, w_alone, w_named, w_hears, w_ripe, w_room, w_tables⟩
theorem atStart : AtStart classFile x code maxLocals ret World_1 tables_1 room_1 Calls_1 rest_1 Pre_1 launch0 p0 e0 about1 theMethod args0 below0 :=
  ⟨lists_1, trivial, launch0.admits_env _ _ _, launch0.least_env, fairChoices_fair.cas, fairChoices_fair.clock, w_frames, w_args, w_heap, w_applies, trivial, trivial, w_case⟩
end start1
theorem witness_1 : WitnessClaimed_1 := ⟨start1.p0, start1.e0, start1.about1, start1.theMethod, start1.args0, start1.below0, start1.atStart⟩
end Jvm.Pilot.@@N@@
