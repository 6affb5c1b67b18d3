import JvmDerived
import JvmDerived.Pilot.@@N@@Statement
import JvmDerived.Pilot.@@N@@Code
set_option linter.unusedVariables false
set_option linter.unusedSimpArgs false
namespace Jvm.RoadKit
open Sem ClassFile Op Lib Jvm.Stand Jvm.Free Jvm.LawKit
section New
variable {p : Program} {l : Launch} {e : Env} {R : Room} {s : State} {m : MethodId} {args : Array Value} {below : List Frame} {meth : Method} {c : Code} {T : State} {locs : List Loc} {cells slots : Nat}
theorem retI (X : Stand p l e R s m args below meth c T locs cells slots) (hx : p.tables.exec = Jvm.exec) {pc : Nat} {Ls : Array Slot} {z : Int32} {rest : List Value} (hret : meth.sig.returnType = some .int) (hd : decode c.code pc = .ok (.ireturn, 1)) {fs : List Frame}
    (hl : ∀ (f : JFrame) (acts : List Action), f.method = m → f.locked = none → f.entered = [] → (doReturn e (T.setTop f) acts (some (.int z))).1 = T.setFrames fs) : Steps p.tables e below (T.setTop (mkF m pc Ls (.int z :: rest))) (T.setFrames fs) := by
  have hm' : T.vm.method? m = some meth := X.method'
  have hn : narrow .int (.int z) = .int z := rfl
  show Steps p.tables e below (T.setTop { method := m, pc := pc, locals := Ls, stack := _ :: rest, locked := none }) _
  jvm_step X.here [X.here.top, hx, hd, hm', hret, hn]
  first | (intro acts; rw [hl _ acts rfl rfl rfl]) | rw [hl _ _ rfl rfl rfl]
  exact Steps.refl _
theorem retL (X : Stand p l e R s m args below meth c T locs cells slots) (hx : p.tables.exec = Jvm.exec) {pc : Nat} {Ls : Array Slot} {z : Int64} {rest : List Value} (hret : meth.sig.returnType = some .long) (hd : decode c.code pc = .ok (.lreturn, 1)) {fs : List Frame}
    (hl : ∀ (f : JFrame) (acts : List Action), f.method = m → f.locked = none → f.entered = [] → (doReturn e (T.setTop f) acts (some (.long z))).1 = T.setFrames fs) : Steps p.tables e below (T.setTop (mkF m pc Ls (.long z :: rest))) (T.setFrames fs) := by
  have hm' : T.vm.method? m = some meth := X.method'
  have hn : narrow .long (.long z) = .long z := rfl
  show Steps p.tables e below (T.setTop { method := m, pc := pc, locals := Ls, stack := _ :: rest, locked := none }) _
  jvm_step X.here [X.here.top, hx, hd, hm', hret, hn]
  first | (intro acts; rw [hl _ acts rfl rfl rfl]) | rw [hl _ _ rfl rfl rfl]
  exact Steps.refl _
theorem retA (X : Stand p l e R s m args below meth c T locs cells slots) (hx : p.tables.exec = Jvm.exec) {pc : Nat} {Ls : Array Slot} {z : Value} {ty : FieldType} {rest : List Value} (hv : z.isRef = true) (hty : ty.isReference = true) (hret : meth.sig.returnType = some ty) (hd : decode c.code pc = .ok (.areturn, 1)) {fs : List Frame}
    (hl : ∀ (f : JFrame) (acts : List Action), f.method = m → f.locked = none → f.entered = [] → (doReturn e (T.setTop f) acts (some z)).1 = T.setFrames fs) : Steps p.tables e below (T.setTop (mkF m pc Ls (z :: rest))) (T.setFrames fs) := by
  have hm' : T.vm.method? m = some meth := X.method'
  show Steps p.tables e below (T.setTop { method := m, pc := pc, locals := Ls, stack := _ :: rest, locked := none }) _
  jvm_step X.here [X.here.top, hx, hd, hm', hret, hv, hty]
  first | (intro acts; rw [hl _ acts rfl rfl rfl]) | rw [hl _ _ rfl rfl rfl]
  exact Steps.refl _
end New
theorem own_fw {tb : Tables} {e : Env} {below : List Frame} {A B : State} {P : State → Outcome → Prop} (h : ∀ t, Steps tb e below A t → Steps tb e below B t) (k : ∃ t o, Steps tb e below A t ∧ P t o) : ∃ t o, Steps tb e below B t ∧ P t o := by
  obtain ⟨t, o, h1, h2⟩ := k
  exact ⟨t, o, h t h1, h2⟩
def own_irem (x y : Int32) : Int32 := x - (x / y) * y
def own_lrem (x y : Int64) : Int64 := x - (x / y) * y
end Jvm.RoadKit
namespace Jvm.Pilot.@@N@@
open Jvm Jvm.ClassFile Sem Op Lib Jvm.Free Jvm.Stand Jvm.LawKit Jvm.RoadKit Bundle Jvm.Pilot.@@N@@.Jvm.D
theorem d1_0 : decode method_3_code 0 = .ok (.iload_n 0, 1) := by decide +kernel
theorem d1_1 : decode method_3_code 1 = .ok (.iconst 2, 1) := by decide +kernel
theorem d1_2 : decode method_3_code 2 = .ok (.iload_n 3, 1) := by decide +kernel
theorem d1_3 : decode method_3_code 3 = .ok (.imul, 1) := by decide +kernel
theorem d1_4 : decode method_3_code 4 = .ok (.iushr, 1) := by decide +kernel
theorem d1_5 : decode method_3_code 5 = .ok (.iconst 3, 1) := by decide +kernel
theorem d1_6 : decode method_3_code 6 = .ok (.iand, 1) := by decide +kernel
theorem d1_7 : decode method_3_code 7 = .ok (.istore 4, 2) := by decide +kernel
theorem d1_9 : decode method_3_code 9 = .ok (.iload 4, 2) := by decide +kernel
theorem d1_11 : decode method_3_code 11 = .ok (.ifCond .ne 6, 3) := by decide +kernel
theorem d1_14 : decode method_3_code 14 = .ok (.bipush 10, 2) := by decide +kernel
theorem d1_16 : decode method_3_code 16 = .ok (.ireturn, 1) := by decide +kernel
theorem d1_17 : decode method_3_code 17 = .ok (.iload 4, 2) := by decide +kernel
theorem d1_19 : decode method_3_code 19 = .ok (.iconst 1, 1) := by decide +kernel
theorem d1_20 : decode method_3_code 20 = .ok (.if_icmp .ne 6, 3) := by decide +kernel
theorem d1_23 : decode method_3_code 23 = .ok (.bipush 13, 2) := by decide +kernel
theorem d1_25 : decode method_3_code 25 = .ok (.ireturn, 1) := by decide +kernel
theorem d1_26 : decode method_3_code 26 = .ok (.iload 4, 2) := by decide +kernel
theorem d1_28 : decode method_3_code 28 = .ok (.iconst 2, 1) := by decide +kernel
theorem d1_29 : decode method_3_code 29 = .ok (.if_icmp .ne 6, 3) := by decide +kernel
theorem d1_32 : decode method_3_code 32 = .ok (.bipush 65, 2) := by decide +kernel
theorem d1_34 : decode method_3_code 34 = .ok (.ireturn, 1) := by decide +kernel
theorem d1_35 : decode method_3_code 35 = .ok (.lload_n 1, 1) := by decide +kernel
theorem d1_36 : decode method_3_code 36 = .ok (.bipush 8, 2) := by decide +kernel
theorem d1_38 : decode method_3_code 38 = .ok (.iload_n 3, 1) := by decide +kernel
theorem d1_39 : decode method_3_code 39 = .ok (.imul, 1) := by decide +kernel
theorem d1_40 : decode method_3_code 40 = .ok (.lushr, 1) := by decide +kernel
theorem d1_41 : decode method_3_code 41 = .ok (.l2i, 1) := by decide +kernel
theorem d1_42 : decode method_3_code 42 = .ok (.i2b, 1) := by decide +kernel
theorem d1_43 : decode method_3_code 43 = .ok (.ireturn, 1) := by decide +kernel
theorem pn1 : plainName "com/example/finalmark/finalmark/RequestHeadEndPinLaw" = true := by first | (simp [plainName, overriddenIn]; done) | decide +kernel
theorem ef1 (m : MethodId) (p0 : Int32) (q1 : Int64) (p2 : Int32) : entryFrame m #[(.int p0), (.long q1), (.int p2)] 5 = mkF m 0 #[.val (.int p0), .val (.long q1), .second, .val (.int p2), .unset] [] := by first | (simp [entryFrame, mkF, argsToLocals, Value.category]; done) | rfl
def pickF (p0 : Int32) (q1 : Int64) (p2 : Int32) : Int32 := (if (((p0.toUInt32 >>> (((2 : Int32) * p2) &&& 31).toUInt32).toInt32) &&& (3 : Int32)) = (0 : Int32) then (nar .byte (10 : Int32)) else (if (((p0.toUInt32 >>> (((2 : Int32) * p2) &&& 31).toUInt32).toInt32) &&& (3 : Int32)) = (1 : Int32) then (nar .byte (13 : Int32)) else (if (((p0.toUInt32 >>> (((2 : Int32) * p2) &&& 31).toUInt32).toInt32) &&& (3 : Int32)) = (2 : Int32) then (nar .byte (65 : Int32)) else (nar .byte ((((q1.toUInt64 >>> (((8 : Int32) * p2) &&& 0x3f).toInt64.toUInt64).toInt64).toInt32).toInt8.toInt32)))))
def Q1 (Z : State) (p0 : Int32) (q1 : Int64) (p2 : Int32) (h0 : Heap) (n0 : Nat) (v : Option Value) (h : Heap) (L : List Loc) : Prop := v = some (.int (pickF p0 q1 p2)) ∧ Fr n0 L ∧ h = h0
set_option maxRecDepth 65536 in
set_option maxHeartbeats 40000000 in
theorem rm1 (l : Launch) (Z : State) (a0 : Array Value) (hw : ∀ d ∈ tables_1, d.before a0 Z = true) (ws : List Jvm.Cond) (p0 : Int32) (q1 : Int64) (p2 : Int32) (h0 : Heap) (n0 : Nat) (Z0 : n0 ≤ h0.size) :
    MetFree l (⟨"com/example/finalmark/finalmark/RequestHeadEndPinLaw", "pick", "(IJI)B"⟩ : MethodName) (head1 (Jvm.Cond.code (⟨"com/example/finalmark/finalmark/RequestHeadEndPinLaw", "pick", "(IJI)B"⟩ : MethodName) method_3_code 5 (some .byte) :: ws) ({ frames := 0, cells := 0, slots := 0, locals := 0 } : Room)) (fun a U => a = #[(.int p0), (.long q1), (.int p2)] ∧ Z.Warmed39 U.vm ∧ U.heap = h0) (fun _ _ _ _ _ => True) (fun _ U o U' => ∃ v L, o = .returned v ∧ Q1 Z p0 q1 p2 h0 n0 v U'.heap L ∧ FrameEnd U o U' L ({ frames := 0, cells := 0, slots := 0, locals := 0 } : Room).cells ({ frames := 0, cells := 0, slots := 0, locals := 0 } : Room).slots) := by
  refine MetFree.of_bodySF (plainFor_of_name pn1) hisR ?_
  intro p e s m args below meth c s₁ Bd hml0 hP hK
  obtain ⟨rfl, hZ, hh⟩ := hP
  have hx := Bd.exec
  have hby := Bd.bytes
  have hml : c.maxLocals = 5 := hml0
  have hown : s.vm.findClass "com/example/finalmark/finalmark/RequestHeadEndPinLaw" = some m.cls := findClass_of_methodNamed Bd.named
  have hnm := (name_of_methodNamed Bd.named Bd.method).1
  have X0 : Stand p l e ({ frames := 0, cells := 0, slots := 0, locals := 0 } : Room) s m #[(.int p0), (.long q1), (.int p2)] below meth c s₁ [] 0 0 := Stand.of_body Bd
  have e0 : s₁.heap = h0 := by rw [← hh, Bd.state]; rfl
  have N0 := Fr.nil n0
  refine own_fw (A := s₁.setTop (mkF m 0 #[.val (.int p0), .val (.long q1), .second, .val (.int p2), .unset] [])) (fun t k => castTop (ef1 m p0 q1 p2) k) ?_
  refine own_fw (A := s₁.setTop (mkF m 11 #[.val (.int p0), .val (.long q1), .second, .val (.int p2), .val (.int (((p0.toUInt32 >>> (((2 : Int32) * p2) &&& 31).toUInt32).toInt32) &&& (3 : Int32)))] [(.int (((p0.toUInt32 >>> (((2 : Int32) * p2) &&& 31).toUInt32).toInt32) &&& (3 : Int32)))])) (fun t k => ?_) ?_
  · show Steps p.tables e below (s₁.setTop (mkF m 0 #[.val (.int p0), .val (.long q1), .second, .val (.int p2), .unset] [])) t
    refine XS.iloadN X0.here hx rfl (hb hby d1_0) rfl ?_
    show Steps p.tables e below (s₁.setTop (mkF m 1 #[.val (.int p0), .val (.long q1), .second, .val (.int p2), .unset] [(.int p0)])) t
    refine XS.iconst X0.here hx rfl (hb hby d1_1) ?_
    show Steps p.tables e below (s₁.setTop (mkF m 2 #[.val (.int p0), .val (.long q1), .second, .val (.int p2), .unset] [(.int (2 : Int32)), (.int p0)])) t
    refine XS.iloadN X0.here hx rfl (hb hby d1_2) rfl ?_
    show Steps p.tables e below (s₁.setTop (mkF m 3 #[.val (.int p0), .val (.long q1), .second, .val (.int p2), .unset] [(.int p2), (.int (2 : Int32)), (.int p0)])) t
    refine XS.imul X0.here hx rfl (hb hby d1_3) rfl ?_
    show Steps p.tables e below (s₁.setTop (mkF m 4 #[.val (.int p0), .val (.long q1), .second, .val (.int p2), .unset] [(.int ((2 : Int32) * p2)), (.int p0)])) t
    refine XS.iushr X0.here hx rfl (hb hby d1_4) rfl ?_
    show Steps p.tables e below (s₁.setTop (mkF m 5 #[.val (.int p0), .val (.long q1), .second, .val (.int p2), .unset] [(.int ((p0.toUInt32 >>> (((2 : Int32) * p2) &&& 31).toUInt32).toInt32))])) t
    refine XS.iconst X0.here hx rfl (hb hby d1_5) ?_
    show Steps p.tables e below (s₁.setTop (mkF m 6 #[.val (.int p0), .val (.long q1), .second, .val (.int p2), .unset] [(.int (3 : Int32)), (.int ((p0.toUInt32 >>> (((2 : Int32) * p2) &&& 31).toUInt32).toInt32))])) t
    refine XS.iand X0.here hx rfl (hb hby d1_6) rfl ?_
    show Steps p.tables e below (s₁.setTop (mkF m 7 #[.val (.int p0), .val (.long q1), .second, .val (.int p2), .unset] [(.int (((p0.toUInt32 >>> (((2 : Int32) * p2) &&& 31).toUInt32).toInt32) &&& (3 : Int32)))])) t
    refine XS.istore X0.here hx rfl (hb hby d1_7) rfl (l' := #[.val (.int p0), .val (.long q1), .second, .val (.int p2), .val (.int (((p0.toUInt32 >>> (((2 : Int32) * p2) &&& 31).toUInt32).toInt32) &&& (3 : Int32)))]) rfl ?_
    show Steps p.tables e below (s₁.setTop (mkF m 9 #[.val (.int p0), .val (.long q1), .second, .val (.int p2), .val (.int (((p0.toUInt32 >>> (((2 : Int32) * p2) &&& 31).toUInt32).toInt32) &&& (3 : Int32)))] [])) t
    refine XS.iload X0.here hx rfl (hb hby d1_9) rfl ?_
    exact k
  by_cases hc1_1 : (((p0.toUInt32 >>> (((2 : Int32) * p2) &&& 31).toUInt32).toInt32) &&& (3 : Int32)) = (0 : Int32)
  · refine own_fw (A := s₁.setTop (mkF m 14 #[.val (.int p0), .val (.long q1), .second, .val (.int p2), .val (.int (((p0.toUInt32 >>> (((2 : Int32) * p2) &&& 31).toUInt32).toInt32) &&& (3 : Int32)))] [])) (fun t k => ?_) ?_
    · show Steps p.tables e below (s₁.setTop (mkF m 11 #[.val (.int p0), .val (.long q1), .second, .val (.int p2), .val (.int (((p0.toUInt32 >>> (((2 : Int32) * p2) &&& 31).toUInt32).toInt32) &&& (3 : Int32)))] [(.int (((p0.toUInt32 >>> (((2 : Int32) * p2) &&& 31).toUInt32).toInt32) &&& (3 : Int32)))])) t
      refine XS.ifNo X0.here hx rfl (hb hby d1_11) rfl ((if0 _ _).trans (teq hc1_1).2) ?_
      exact k
    refine own_fw (A := s₁.setTop (mkF m 16 #[.val (.int p0), .val (.long q1), .second, .val (.int p2), .val (.int (((p0.toUInt32 >>> (((2 : Int32) * p2) &&& 31).toUInt32).toInt32) &&& (3 : Int32)))] [(.int (10 : Int32))])) (fun t k => ?_) ?_
    · show Steps p.tables e below (s₁.setTop (mkF m 14 #[.val (.int p0), .val (.long q1), .second, .val (.int p2), .val (.int (((p0.toUInt32 >>> (((2 : Int32) * p2) &&& 31).toUInt32).toInt32) &&& (3 : Int32)))] [])) t
      refine XS.bipush X0.here hx rfl (hb hby d1_14) ?_
      exact k
    obtain ⟨fs, hr, hrun, hended, hW, hsame⟩ := X0.leave (v := some (.int (nar .byte (10 : Int32)))) (fun h => by rw [Bd.returns] at h; cases h)
    refine ⟨_, _, retN X0 hx (t := .byte) Bd.returns (by simp) (hb hby d1_16) hr, hrun, hended, _, _, rfl, ⟨(by rw [pickF, if_pos hc1_1]), N0, ?_⟩, ⟨_, rfl⟩, hW, hsame.mono (by decide) (by decide)⟩
    exact e0
  · refine own_fw (A := s₁.setTop (mkF m 17 #[.val (.int p0), .val (.long q1), .second, .val (.int p2), .val (.int (((p0.toUInt32 >>> (((2 : Int32) * p2) &&& 31).toUInt32).toInt32) &&& (3 : Int32)))] [])) (fun t k => ?_) ?_
    · show Steps p.tables e below (s₁.setTop (mkF m 11 #[.val (.int p0), .val (.long q1), .second, .val (.int p2), .val (.int (((p0.toUInt32 >>> (((2 : Int32) * p2) &&& 31).toUInt32).toInt32) &&& (3 : Int32)))] [(.int (((p0.toUInt32 >>> (((2 : Int32) * p2) &&& 31).toUInt32).toInt32) &&& (3 : Int32)))])) t
      refine XS.ifYes X0.here hx rfl (pc0 := 11) (pc' := 17) rfl (hb hby d1_11) rfl ((if0 _ _).trans (feq hc1_1).2) (by decide) (by decide) ?_
      exact k
    refine own_fw (A := s₁.setTop (mkF m 20 #[.val (.int p0), .val (.long q1), .second, .val (.int p2), .val (.int (((p0.toUInt32 >>> (((2 : Int32) * p2) &&& 31).toUInt32).toInt32) &&& (3 : Int32)))] [(.int (1 : Int32)), (.int (((p0.toUInt32 >>> (((2 : Int32) * p2) &&& 31).toUInt32).toInt32) &&& (3 : Int32)))])) (fun t k => ?_) ?_
    · show Steps p.tables e below (s₁.setTop (mkF m 17 #[.val (.int p0), .val (.long q1), .second, .val (.int p2), .val (.int (((p0.toUInt32 >>> (((2 : Int32) * p2) &&& 31).toUInt32).toInt32) &&& (3 : Int32)))] [])) t
      refine XS.iload X0.here hx rfl (hb hby d1_17) rfl ?_
      show Steps p.tables e below (s₁.setTop (mkF m 19 #[.val (.int p0), .val (.long q1), .second, .val (.int p2), .val (.int (((p0.toUInt32 >>> (((2 : Int32) * p2) &&& 31).toUInt32).toInt32) &&& (3 : Int32)))] [(.int (((p0.toUInt32 >>> (((2 : Int32) * p2) &&& 31).toUInt32).toInt32) &&& (3 : Int32)))])) t
      refine XS.iconst X0.here hx rfl (hb hby d1_19) ?_
      exact k
    by_cases hc1_2 : (((p0.toUInt32 >>> (((2 : Int32) * p2) &&& 31).toUInt32).toInt32) &&& (3 : Int32)) = (1 : Int32)
    · refine own_fw (A := s₁.setTop (mkF m 23 #[.val (.int p0), .val (.long q1), .second, .val (.int p2), .val (.int (((p0.toUInt32 >>> (((2 : Int32) * p2) &&& 31).toUInt32).toInt32) &&& (3 : Int32)))] [])) (fun t k => ?_) ?_
      · show Steps p.tables e below (s₁.setTop (mkF m 20 #[.val (.int p0), .val (.long q1), .second, .val (.int p2), .val (.int (((p0.toUInt32 >>> (((2 : Int32) * p2) &&& 31).toUInt32).toInt32) &&& (3 : Int32)))] [(.int (1 : Int32)), (.int (((p0.toUInt32 >>> (((2 : Int32) * p2) &&& 31).toUInt32).toInt32) &&& (3 : Int32)))])) t
        refine XS.icmpNo X0.here hx rfl (hb hby d1_20) rfl (teq hc1_2).2 ?_
        exact k
      refine own_fw (A := s₁.setTop (mkF m 25 #[.val (.int p0), .val (.long q1), .second, .val (.int p2), .val (.int (((p0.toUInt32 >>> (((2 : Int32) * p2) &&& 31).toUInt32).toInt32) &&& (3 : Int32)))] [(.int (13 : Int32))])) (fun t k => ?_) ?_
      · show Steps p.tables e below (s₁.setTop (mkF m 23 #[.val (.int p0), .val (.long q1), .second, .val (.int p2), .val (.int (((p0.toUInt32 >>> (((2 : Int32) * p2) &&& 31).toUInt32).toInt32) &&& (3 : Int32)))] [])) t
        refine XS.bipush X0.here hx rfl (hb hby d1_23) ?_
        exact k
      obtain ⟨fs, hr, hrun, hended, hW, hsame⟩ := X0.leave (v := some (.int (nar .byte (13 : Int32)))) (fun h => by rw [Bd.returns] at h; cases h)
      refine ⟨_, _, retN X0 hx (t := .byte) Bd.returns (by simp) (hb hby d1_25) hr, hrun, hended, _, _, rfl, ⟨(by rw [pickF, if_neg hc1_1, if_pos hc1_2]), N0, ?_⟩, ⟨_, rfl⟩, hW, hsame.mono (by decide) (by decide)⟩
      exact e0
    · refine own_fw (A := s₁.setTop (mkF m 26 #[.val (.int p0), .val (.long q1), .second, .val (.int p2), .val (.int (((p0.toUInt32 >>> (((2 : Int32) * p2) &&& 31).toUInt32).toInt32) &&& (3 : Int32)))] [])) (fun t k => ?_) ?_
      · show Steps p.tables e below (s₁.setTop (mkF m 20 #[.val (.int p0), .val (.long q1), .second, .val (.int p2), .val (.int (((p0.toUInt32 >>> (((2 : Int32) * p2) &&& 31).toUInt32).toInt32) &&& (3 : Int32)))] [(.int (1 : Int32)), (.int (((p0.toUInt32 >>> (((2 : Int32) * p2) &&& 31).toUInt32).toInt32) &&& (3 : Int32)))])) t
        refine XS.icmpYes X0.here hx rfl (pc0 := 20) (pc' := 26) rfl (hb hby d1_20) rfl (feq hc1_2).2 (by decide) (by decide) ?_
        exact k
      refine own_fw (A := s₁.setTop (mkF m 29 #[.val (.int p0), .val (.long q1), .second, .val (.int p2), .val (.int (((p0.toUInt32 >>> (((2 : Int32) * p2) &&& 31).toUInt32).toInt32) &&& (3 : Int32)))] [(.int (2 : Int32)), (.int (((p0.toUInt32 >>> (((2 : Int32) * p2) &&& 31).toUInt32).toInt32) &&& (3 : Int32)))])) (fun t k => ?_) ?_
      · show Steps p.tables e below (s₁.setTop (mkF m 26 #[.val (.int p0), .val (.long q1), .second, .val (.int p2), .val (.int (((p0.toUInt32 >>> (((2 : Int32) * p2) &&& 31).toUInt32).toInt32) &&& (3 : Int32)))] [])) t
        refine XS.iload X0.here hx rfl (hb hby d1_26) rfl ?_
        show Steps p.tables e below (s₁.setTop (mkF m 28 #[.val (.int p0), .val (.long q1), .second, .val (.int p2), .val (.int (((p0.toUInt32 >>> (((2 : Int32) * p2) &&& 31).toUInt32).toInt32) &&& (3 : Int32)))] [(.int (((p0.toUInt32 >>> (((2 : Int32) * p2) &&& 31).toUInt32).toInt32) &&& (3 : Int32)))])) t
        refine XS.iconst X0.here hx rfl (hb hby d1_28) ?_
        exact k
      by_cases hc1_3 : (((p0.toUInt32 >>> (((2 : Int32) * p2) &&& 31).toUInt32).toInt32) &&& (3 : Int32)) = (2 : Int32)
      · refine own_fw (A := s₁.setTop (mkF m 32 #[.val (.int p0), .val (.long q1), .second, .val (.int p2), .val (.int (((p0.toUInt32 >>> (((2 : Int32) * p2) &&& 31).toUInt32).toInt32) &&& (3 : Int32)))] [])) (fun t k => ?_) ?_
        · show Steps p.tables e below (s₁.setTop (mkF m 29 #[.val (.int p0), .val (.long q1), .second, .val (.int p2), .val (.int (((p0.toUInt32 >>> (((2 : Int32) * p2) &&& 31).toUInt32).toInt32) &&& (3 : Int32)))] [(.int (2 : Int32)), (.int (((p0.toUInt32 >>> (((2 : Int32) * p2) &&& 31).toUInt32).toInt32) &&& (3 : Int32)))])) t
          refine XS.icmpNo X0.here hx rfl (hb hby d1_29) rfl (teq hc1_3).2 ?_
          exact k
        refine own_fw (A := s₁.setTop (mkF m 34 #[.val (.int p0), .val (.long q1), .second, .val (.int p2), .val (.int (((p0.toUInt32 >>> (((2 : Int32) * p2) &&& 31).toUInt32).toInt32) &&& (3 : Int32)))] [(.int (65 : Int32))])) (fun t k => ?_) ?_
        · show Steps p.tables e below (s₁.setTop (mkF m 32 #[.val (.int p0), .val (.long q1), .second, .val (.int p2), .val (.int (((p0.toUInt32 >>> (((2 : Int32) * p2) &&& 31).toUInt32).toInt32) &&& (3 : Int32)))] [])) t
          refine XS.bipush X0.here hx rfl (hb hby d1_32) ?_
          exact k
        obtain ⟨fs, hr, hrun, hended, hW, hsame⟩ := X0.leave (v := some (.int (nar .byte (65 : Int32)))) (fun h => by rw [Bd.returns] at h; cases h)
        refine ⟨_, _, retN X0 hx (t := .byte) Bd.returns (by simp) (hb hby d1_34) hr, hrun, hended, _, _, rfl, ⟨(by rw [pickF, if_neg hc1_1, if_neg hc1_2, if_pos hc1_3]), N0, ?_⟩, ⟨_, rfl⟩, hW, hsame.mono (by decide) (by decide)⟩
        exact e0
      · refine own_fw (A := s₁.setTop (mkF m 35 #[.val (.int p0), .val (.long q1), .second, .val (.int p2), .val (.int (((p0.toUInt32 >>> (((2 : Int32) * p2) &&& 31).toUInt32).toInt32) &&& (3 : Int32)))] [])) (fun t k => ?_) ?_
        · show Steps p.tables e below (s₁.setTop (mkF m 29 #[.val (.int p0), .val (.long q1), .second, .val (.int p2), .val (.int (((p0.toUInt32 >>> (((2 : Int32) * p2) &&& 31).toUInt32).toInt32) &&& (3 : Int32)))] [(.int (2 : Int32)), (.int (((p0.toUInt32 >>> (((2 : Int32) * p2) &&& 31).toUInt32).toInt32) &&& (3 : Int32)))])) t
          refine XS.icmpYes X0.here hx rfl (pc0 := 29) (pc' := 35) rfl (hb hby d1_29) rfl (feq hc1_3).2 (by decide) (by decide) ?_
          exact k
        refine own_fw (A := s₁.setTop (mkF m 43 #[.val (.int p0), .val (.long q1), .second, .val (.int p2), .val (.int (((p0.toUInt32 >>> (((2 : Int32) * p2) &&& 31).toUInt32).toInt32) &&& (3 : Int32)))] [(.int ((((q1.toUInt64 >>> (((8 : Int32) * p2) &&& 0x3f).toInt64.toUInt64).toInt64).toInt32).toInt8.toInt32))])) (fun t k => ?_) ?_
        · show Steps p.tables e below (s₁.setTop (mkF m 35 #[.val (.int p0), .val (.long q1), .second, .val (.int p2), .val (.int (((p0.toUInt32 >>> (((2 : Int32) * p2) &&& 31).toUInt32).toInt32) &&& (3 : Int32)))] [])) t
          refine XS.lloadN X0.here hx rfl (hb hby d1_35) rfl ?_
          show Steps p.tables e below (s₁.setTop (mkF m 36 #[.val (.int p0), .val (.long q1), .second, .val (.int p2), .val (.int (((p0.toUInt32 >>> (((2 : Int32) * p2) &&& 31).toUInt32).toInt32) &&& (3 : Int32)))] [(.long q1)])) t
          refine XS.bipush X0.here hx rfl (hb hby d1_36) ?_
          show Steps p.tables e below (s₁.setTop (mkF m 38 #[.val (.int p0), .val (.long q1), .second, .val (.int p2), .val (.int (((p0.toUInt32 >>> (((2 : Int32) * p2) &&& 31).toUInt32).toInt32) &&& (3 : Int32)))] [(.int (8 : Int32)), (.long q1)])) t
          refine XS.iloadN X0.here hx rfl (hb hby d1_38) rfl ?_
          show Steps p.tables e below (s₁.setTop (mkF m 39 #[.val (.int p0), .val (.long q1), .second, .val (.int p2), .val (.int (((p0.toUInt32 >>> (((2 : Int32) * p2) &&& 31).toUInt32).toInt32) &&& (3 : Int32)))] [(.int p2), (.int (8 : Int32)), (.long q1)])) t
          refine XS.imul X0.here hx rfl (hb hby d1_39) rfl ?_
          show Steps p.tables e below (s₁.setTop (mkF m 40 #[.val (.int p0), .val (.long q1), .second, .val (.int p2), .val (.int (((p0.toUInt32 >>> (((2 : Int32) * p2) &&& 31).toUInt32).toInt32) &&& (3 : Int32)))] [(.int ((8 : Int32) * p2)), (.long q1)])) t
          refine XS.lushr X0.here hx rfl (hb hby d1_40) rfl ?_
          show Steps p.tables e below (s₁.setTop (mkF m 41 #[.val (.int p0), .val (.long q1), .second, .val (.int p2), .val (.int (((p0.toUInt32 >>> (((2 : Int32) * p2) &&& 31).toUInt32).toInt32) &&& (3 : Int32)))] [(.long ((q1.toUInt64 >>> (((8 : Int32) * p2) &&& 0x3f).toInt64.toUInt64).toInt64))])) t
          refine XS.l2i X0.here hx rfl (hb hby d1_41) rfl ?_
          show Steps p.tables e below (s₁.setTop (mkF m 42 #[.val (.int p0), .val (.long q1), .second, .val (.int p2), .val (.int (((p0.toUInt32 >>> (((2 : Int32) * p2) &&& 31).toUInt32).toInt32) &&& (3 : Int32)))] [(.int (((q1.toUInt64 >>> (((8 : Int32) * p2) &&& 0x3f).toInt64.toUInt64).toInt64).toInt32))])) t
          refine XS.i2b X0.here hx rfl (hb hby d1_42) rfl ?_
          exact k
        obtain ⟨fs, hr, hrun, hended, hW, hsame⟩ := X0.leave (v := some (.int (nar .byte ((((q1.toUInt64 >>> (((8 : Int32) * p2) &&& 0x3f).toInt64.toUInt64).toInt64).toInt32).toInt8.toInt32)))) (fun h => by rw [Bd.returns] at h; cases h)
        refine ⟨_, _, retN X0 hx (t := .byte) Bd.returns (by simp) (hb hby d1_43) hr, hrun, hended, _, _, rfl, ⟨(by rw [pickF, if_neg hc1_1, if_neg hc1_2, if_neg hc1_3]), N0, ?_⟩, ⟨_, rfl⟩, hW, hsame.mono (by decide) (by decide)⟩
        exact e0
theorem d4_0 : decode method_5_code 0 = .ok (.aload_n 0, 1) := by decide +kernel
theorem d4_1 : decode method_5_code 1 = .ok (.iload_n 1, 1) := by decide +kernel
theorem d4_2 : decode method_5_code 2 = .ok (.baload, 1) := by decide +kernel
theorem d4_3 : decode method_5_code 3 = .ok (.bipush 10, 2) := by decide +kernel
theorem d4_5 : decode method_5_code 5 = .ok (.if_icmp .eq 5, 3) := by decide +kernel
theorem d4_8 : decode method_5_code 8 = .ok (.iconst 0, 1) := by decide +kernel
theorem d4_9 : decode method_5_code 9 = .ok (.ireturn, 1) := by decide +kernel
theorem d4_10 : decode method_5_code 10 = .ok (.iload_n 1, 1) := by decide +kernel
theorem d4_11 : decode method_5_code 11 = .ok (.ifCond .ne 5, 3) := by decide +kernel
theorem d4_14 : decode method_5_code 14 = .ok (.iconst 1, 1) := by decide +kernel
theorem d4_15 : decode method_5_code 15 = .ok (.ireturn, 1) := by decide +kernel
theorem d4_16 : decode method_5_code 16 = .ok (.aload_n 0, 1) := by decide +kernel
theorem d4_17 : decode method_5_code 17 = .ok (.iload_n 1, 1) := by decide +kernel
theorem d4_18 : decode method_5_code 18 = .ok (.iconst 1, 1) := by decide +kernel
theorem d4_19 : decode method_5_code 19 = .ok (.isub, 1) := by decide +kernel
theorem d4_20 : decode method_5_code 20 = .ok (.baload, 1) := by decide +kernel
theorem d4_21 : decode method_5_code 21 = .ok (.bipush 10, 2) := by decide +kernel
theorem d4_23 : decode method_5_code 23 = .ok (.if_icmp .ne 5, 3) := by decide +kernel
theorem d4_26 : decode method_5_code 26 = .ok (.iconst 1, 1) := by decide +kernel
theorem d4_27 : decode method_5_code 27 = .ok (.ireturn, 1) := by decide +kernel
theorem d4_28 : decode method_5_code 28 = .ok (.aload_n 0, 1) := by decide +kernel
theorem d4_29 : decode method_5_code 29 = .ok (.iload_n 1, 1) := by decide +kernel
theorem d4_30 : decode method_5_code 30 = .ok (.iconst 1, 1) := by decide +kernel
theorem d4_31 : decode method_5_code 31 = .ok (.isub, 1) := by decide +kernel
theorem d4_32 : decode method_5_code 32 = .ok (.baload, 1) := by decide +kernel
theorem d4_33 : decode method_5_code 33 = .ok (.bipush 13, 2) := by decide +kernel
theorem d4_35 : decode method_5_code 35 = .ok (.if_icmp .eq 5, 3) := by decide +kernel
theorem d4_38 : decode method_5_code 38 = .ok (.iconst 0, 1) := by decide +kernel
theorem d4_39 : decode method_5_code 39 = .ok (.ireturn, 1) := by decide +kernel
theorem d4_40 : decode method_5_code 40 = .ok (.iload_n 1, 1) := by decide +kernel
theorem d4_41 : decode method_5_code 41 = .ok (.iconst 1, 1) := by decide +kernel
theorem d4_42 : decode method_5_code 42 = .ok (.if_icmp .ne 5, 3) := by decide +kernel
theorem d4_45 : decode method_5_code 45 = .ok (.iconst 1, 1) := by decide +kernel
theorem d4_46 : decode method_5_code 46 = .ok (.ireturn, 1) := by decide +kernel
theorem d4_47 : decode method_5_code 47 = .ok (.aload_n 0, 1) := by decide +kernel
theorem d4_48 : decode method_5_code 48 = .ok (.iload_n 1, 1) := by decide +kernel
theorem d4_49 : decode method_5_code 49 = .ok (.iconst 2, 1) := by decide +kernel
theorem d4_50 : decode method_5_code 50 = .ok (.isub, 1) := by decide +kernel
theorem d4_51 : decode method_5_code 51 = .ok (.baload, 1) := by decide +kernel
theorem d4_52 : decode method_5_code 52 = .ok (.bipush 10, 2) := by decide +kernel
theorem d4_54 : decode method_5_code 54 = .ok (.if_icmp .ne 7, 3) := by decide +kernel
theorem d4_57 : decode method_5_code 57 = .ok (.iconst 1, 1) := by decide +kernel
theorem d4_58 : decode method_5_code 58 = .ok (.goto 4, 3) := by decide +kernel
theorem d4_61 : decode method_5_code 61 = .ok (.iconst 0, 1) := by decide +kernel
theorem d4_62 : decode method_5_code 62 = .ok (.ireturn, 1) := by decide +kernel
theorem pn4 : plainName "com/example/finalmark/finalmark/RequestHeadEndPinLaw" = true := by first | (simp [plainName, overriddenIn]; done) | decide +kernel
theorem ef4 (m : MethodId) (r0 : Addr) (p1 : Int32) : entryFrame m #[(.ref r0), (.int p1)] 2 = mkF m 0 #[.val (.ref r0), .val (.int p1)] [] := by first | (simp [entryFrame, mkF, argsToLocals, Value.category]; done) | rfl
def Q4 (Z : State) (z : Int32) (h0 : Heap) (n0 : Nat) (v : Option Value) (h : Heap) (L : List Loc) : Prop := v = some (.int z) ∧ Fr n0 L ∧ h = h0
def eF0 (v0 : Int32) (v1 : Int32) (v2 : Int32) (v3 : Int32) (v4 : Int32) (v5 : Int32) : Int32 := (if v0 = (10 : Int32) then (nar .boolean (1 : Int32)) else (nar .boolean (0 : Int32)))
set_option maxRecDepth 65536 in
set_option maxHeartbeats 40000000 in
theorem rmL0 (l : Launch) (Z : State) (a0 : Array Value) (hw : ∀ d ∈ tables_1, d.before a0 Z = true) (ws : List Jvm.Cond) (r0 : Addr) (k : ClassId) (v0 : Int32) (v1 : Int32) (v2 : Int32) (v3 : Int32) (v4 : Int32) (v5 : Int32) (h0 : Heap) (n0 : Nat) (Z0 : n0 ≤ h0.size) (V_r0 : Arv Z h0 r0 k .byte (6 : Int32) [(.int v0), (.int v1), (.int v2), (.int v3), (.int v4), (.int v5)] (.int (0 : Int32))) :
    MetFree l (⟨"com/example/finalmark/finalmark/RequestHeadEndPinLaw", "emptyLineEnd", "([BI)Z"⟩ : MethodName) (head1 (Jvm.Cond.code (⟨"com/example/finalmark/finalmark/RequestHeadEndPinLaw", "emptyLineEnd", "([BI)Z"⟩ : MethodName) method_5_code 2 (some .boolean) :: ws) ({ frames := 0, cells := 0, slots := 0, locals := 0 } : Room)) (fun a U => a = #[(.ref r0), (.int (0 : Int32))] ∧ Z.Warmed39 U.vm ∧ U.heap = h0) (fun _ _ _ _ _ => True) (fun _ U o U' => ∃ v L, o = .returned v ∧ Q4 Z (eF0 v0 v1 v2 v3 v4 v5) h0 n0 v U'.heap L ∧ FrameEnd U o U' L ({ frames := 0, cells := 0, slots := 0, locals := 0 } : Room).cells ({ frames := 0, cells := 0, slots := 0, locals := 0 } : Room).slots) := by
  refine MetFree.of_bodySF (plainFor_of_name pn4) hisR ?_
  intro p e s m args below meth c s₁ Bd hml0 hP hK
  obtain ⟨rfl, hZ, hh⟩ := hP
  have hx := Bd.exec
  have hby := Bd.bytes
  have hml : c.maxLocals = 2 := hml0
  have hown : s.vm.findClass "com/example/finalmark/finalmark/RequestHeadEndPinLaw" = some m.cls := findClass_of_methodNamed Bd.named
  have hnm := (name_of_methodNamed Bd.named Bd.method).1
  have X0 : Stand p l e ({ frames := 0, cells := 0, slots := 0, locals := 0 } : Room) s m #[(.ref r0), (.int (0 : Int32))] below meth c s₁ [] 0 0 := Stand.of_body Bd
  have e0 : s₁.heap = h0 := by rw [← hh, Bd.state]; rfl
  have N0 := Fr.nil n0
  refine own_fw (A := s₁.setTop (mkF m 0 #[.val (.ref r0), .val (.int (0 : Int32))] [])) (fun t k => castTop (ef4 m r0 (0 : Int32)) k) ?_
  refine own_fw (A := s₁.setTop (mkF m 2 #[.val (.ref r0), .val (.int (0 : Int32))] [(.int (0 : Int32)), (.ref r0)])) (fun t k => ?_) ?_
  · show Steps p.tables e below (s₁.setTop (mkF m 0 #[.val (.ref r0), .val (.int (0 : Int32))] [])) t
    refine XS.aloadN X0.here hx rfl (hb hby d4_0) rfl rfl ?_
    show Steps p.tables e below (s₁.setTop (mkF m 1 #[.val (.ref r0), .val (.int (0 : Int32))] [(.ref r0)])) t
    refine XS.iloadN X0.here hx rfl (hb hby d4_1) rfl ?_
    exact k
  obtain ⟨cl4_1, Ar4_1, q4_1, S4_1, Ng4_1, Hs4_1, G4_1⟩ := id V_r0
  have hin4_1 : ¬ ((0 : Int32) < 0 ∨ cl4_1.slots.size ≤ ((0 : Int32)).toNatClampNeg) := inb_of S4_1 ⟨by decide, by decide⟩
  refine own_fw (X0.baloadBytes hx (j := (0 : Int32)) (v := (.int v0)) (by rw [e0]; exact Ar4_1.1) (State.isArrayOf_alike hZ.alike Ar4_1.2.1) Ar4_1.2.2 hin4_1 (Has.at Hs4_1 hin4_1 rfl) (g := (mkF m 2 #[.val (.ref r0), .val (.int (0 : Int32))] [(.int (0 : Int32)), (.ref r0)])) rfl rfl (hb hby d4_2)) ?_
  refine own_fw (A := s₁.setTop (mkF m 5 #[.val (.ref r0), .val (.int (0 : Int32))] [(.int (10 : Int32)), (.int v0)])) (fun t k => ?_) ?_
  · show Steps p.tables e below (s₁.setTop (mkF m 3 #[.val (.ref r0), .val (.int (0 : Int32))] [(.int v0)])) t
    refine XS.bipush X0.here hx rfl (hb hby d4_3) ?_
    exact k
  by_cases hc4_1 : v0 = (10 : Int32)
  · refine own_fw (A := s₁.setTop (mkF m 10 #[.val (.ref r0), .val (.int (0 : Int32))] [])) (fun t k => ?_) ?_
    · show Steps p.tables e below (s₁.setTop (mkF m 5 #[.val (.ref r0), .val (.int (0 : Int32))] [(.int (10 : Int32)), (.int v0)])) t
      refine XS.icmpYes X0.here hx rfl (pc0 := 5) (pc' := 10) rfl (hb hby d4_5) rfl (teq hc4_1).1 (by decide) (by decide) ?_
      exact k
    refine own_fw (A := s₁.setTop (mkF m 15 #[.val (.ref r0), .val (.int (0 : Int32))] [(.int (1 : Int32))])) (fun t k => ?_) ?_
    · show Steps p.tables e below (s₁.setTop (mkF m 10 #[.val (.ref r0), .val (.int (0 : Int32))] [])) t
      refine XS.iloadN X0.here hx rfl (hb hby d4_10) rfl ?_
      show Steps p.tables e below (s₁.setTop (mkF m 11 #[.val (.ref r0), .val (.int (0 : Int32))] [(.int (0 : Int32))])) t
      refine XS.ifNo X0.here hx rfl (hb hby d4_11) rfl ((if0 _ _).trans (teq (rfl : (0 : Int32) = (0 : Int32))).2) ?_
      show Steps p.tables e below (s₁.setTop (mkF m 14 #[.val (.ref r0), .val (.int (0 : Int32))] [])) t
      refine XS.iconst X0.here hx rfl (hb hby d4_14) ?_
      exact k
    obtain ⟨fs, hr, hrun, hended, hW, hsame⟩ := X0.leave (v := some (.int (nar .boolean (1 : Int32)))) (fun h => by rw [Bd.returns] at h; cases h)
    refine ⟨_, _, retN X0 hx (t := .boolean) Bd.returns (by simp) (hb hby d4_15) hr, hrun, hended, _, _, rfl, ?_, ⟨_, rfl⟩, hW, hsame.mono (by decide) (by decide)⟩
    have eh : (s₁.setFrames fs).heap = h0 := e0
    rw [eh]
    exact ⟨by rw [eF0, if_pos hc4_1], N0, rfl⟩
  · refine own_fw (A := s₁.setTop (mkF m 8 #[.val (.ref r0), .val (.int (0 : Int32))] [])) (fun t k => ?_) ?_
    · show Steps p.tables e below (s₁.setTop (mkF m 5 #[.val (.ref r0), .val (.int (0 : Int32))] [(.int (10 : Int32)), (.int v0)])) t
      refine XS.icmpNo X0.here hx rfl (hb hby d4_5) rfl (feq hc4_1).1 ?_
      exact k
    refine own_fw (A := s₁.setTop (mkF m 9 #[.val (.ref r0), .val (.int (0 : Int32))] [(.int (0 : Int32))])) (fun t k => ?_) ?_
    · show Steps p.tables e below (s₁.setTop (mkF m 8 #[.val (.ref r0), .val (.int (0 : Int32))] [])) t
      refine XS.iconst X0.here hx rfl (hb hby d4_8) ?_
      exact k
    obtain ⟨fs, hr, hrun, hended, hW, hsame⟩ := X0.leave (v := some (.int (nar .boolean (0 : Int32)))) (fun h => by rw [Bd.returns] at h; cases h)
    refine ⟨_, _, retN X0 hx (t := .boolean) Bd.returns (by simp) (hb hby d4_9) hr, hrun, hended, _, _, rfl, ?_, ⟨_, rfl⟩, hW, hsame.mono (by decide) (by decide)⟩
    have eh : (s₁.setFrames fs).heap = h0 := e0
    rw [eh]
    exact ⟨by rw [eF0, if_neg hc4_1], N0, rfl⟩
def eF1 (v0 : Int32) (v1 : Int32) (v2 : Int32) (v3 : Int32) (v4 : Int32) (v5 : Int32) : Int32 := (if v1 = (10 : Int32) then (if v0 = (10 : Int32) then (nar .boolean (1 : Int32)) else (if v0 = (13 : Int32) then (nar .boolean (1 : Int32)) else (nar .boolean (0 : Int32)))) else (nar .boolean (0 : Int32)))
set_option maxRecDepth 65536 in
set_option maxHeartbeats 40000000 in
theorem rmL1 (l : Launch) (Z : State) (a0 : Array Value) (hw : ∀ d ∈ tables_1, d.before a0 Z = true) (ws : List Jvm.Cond) (r0 : Addr) (k : ClassId) (v0 : Int32) (v1 : Int32) (v2 : Int32) (v3 : Int32) (v4 : Int32) (v5 : Int32) (h0 : Heap) (n0 : Nat) (Z0 : n0 ≤ h0.size) (V_r0 : Arv Z h0 r0 k .byte (6 : Int32) [(.int v0), (.int v1), (.int v2), (.int v3), (.int v4), (.int v5)] (.int (0 : Int32))) :
    MetFree l (⟨"com/example/finalmark/finalmark/RequestHeadEndPinLaw", "emptyLineEnd", "([BI)Z"⟩ : MethodName) (head1 (Jvm.Cond.code (⟨"com/example/finalmark/finalmark/RequestHeadEndPinLaw", "emptyLineEnd", "([BI)Z"⟩ : MethodName) method_5_code 2 (some .boolean) :: ws) ({ frames := 0, cells := 0, slots := 0, locals := 0 } : Room)) (fun a U => a = #[(.ref r0), (.int (1 : Int32))] ∧ Z.Warmed39 U.vm ∧ U.heap = h0) (fun _ _ _ _ _ => True) (fun _ U o U' => ∃ v L, o = .returned v ∧ Q4 Z (eF1 v0 v1 v2 v3 v4 v5) h0 n0 v U'.heap L ∧ FrameEnd U o U' L ({ frames := 0, cells := 0, slots := 0, locals := 0 } : Room).cells ({ frames := 0, cells := 0, slots := 0, locals := 0 } : Room).slots) := by
  refine MetFree.of_bodySF (plainFor_of_name pn4) hisR ?_
  intro p e s m args below meth c s₁ Bd hml0 hP hK
  obtain ⟨rfl, hZ, hh⟩ := hP
  have hx := Bd.exec
  have hby := Bd.bytes
  have hml : c.maxLocals = 2 := hml0
  have hown : s.vm.findClass "com/example/finalmark/finalmark/RequestHeadEndPinLaw" = some m.cls := findClass_of_methodNamed Bd.named
  have hnm := (name_of_methodNamed Bd.named Bd.method).1
  have X0 : Stand p l e ({ frames := 0, cells := 0, slots := 0, locals := 0 } : Room) s m #[(.ref r0), (.int (1 : Int32))] below meth c s₁ [] 0 0 := Stand.of_body Bd
  have e0 : s₁.heap = h0 := by rw [← hh, Bd.state]; rfl
  have N0 := Fr.nil n0
  refine own_fw (A := s₁.setTop (mkF m 0 #[.val (.ref r0), .val (.int (1 : Int32))] [])) (fun t k => castTop (ef4 m r0 (1 : Int32)) k) ?_
  refine own_fw (A := s₁.setTop (mkF m 2 #[.val (.ref r0), .val (.int (1 : Int32))] [(.int (1 : Int32)), (.ref r0)])) (fun t k => ?_) ?_
  · show Steps p.tables e below (s₁.setTop (mkF m 0 #[.val (.ref r0), .val (.int (1 : Int32))] [])) t
    refine XS.aloadN X0.here hx rfl (hb hby d4_0) rfl rfl ?_
    show Steps p.tables e below (s₁.setTop (mkF m 1 #[.val (.ref r0), .val (.int (1 : Int32))] [(.ref r0)])) t
    refine XS.iloadN X0.here hx rfl (hb hby d4_1) rfl ?_
    exact k
  obtain ⟨cl4_1, Ar4_1, q4_1, S4_1, Ng4_1, Hs4_1, G4_1⟩ := id V_r0
  have hin4_1 : ¬ ((1 : Int32) < 0 ∨ cl4_1.slots.size ≤ ((1 : Int32)).toNatClampNeg) := inb_of S4_1 ⟨by decide, by decide⟩
  refine own_fw (X0.baloadBytes hx (j := (1 : Int32)) (v := (.int v1)) (by rw [e0]; exact Ar4_1.1) (State.isArrayOf_alike hZ.alike Ar4_1.2.1) Ar4_1.2.2 hin4_1 (Has.at Hs4_1 hin4_1 rfl) (g := (mkF m 2 #[.val (.ref r0), .val (.int (1 : Int32))] [(.int (1 : Int32)), (.ref r0)])) rfl rfl (hb hby d4_2)) ?_
  refine own_fw (A := s₁.setTop (mkF m 5 #[.val (.ref r0), .val (.int (1 : Int32))] [(.int (10 : Int32)), (.int v1)])) (fun t k => ?_) ?_
  · show Steps p.tables e below (s₁.setTop (mkF m 3 #[.val (.ref r0), .val (.int (1 : Int32))] [(.int v1)])) t
    refine XS.bipush X0.here hx rfl (hb hby d4_3) ?_
    exact k
  by_cases hc4_1 : v1 = (10 : Int32)
  · refine own_fw (A := s₁.setTop (mkF m 10 #[.val (.ref r0), .val (.int (1 : Int32))] [])) (fun t k => ?_) ?_
    · show Steps p.tables e below (s₁.setTop (mkF m 5 #[.val (.ref r0), .val (.int (1 : Int32))] [(.int (10 : Int32)), (.int v1)])) t
      refine XS.icmpYes X0.here hx rfl (pc0 := 5) (pc' := 10) rfl (hb hby d4_5) rfl (teq hc4_1).1 (by decide) (by decide) ?_
      exact k
    refine own_fw (A := s₁.setTop (mkF m 20 #[.val (.ref r0), .val (.int (1 : Int32))] [(.int (0 : Int32)), (.ref r0)])) (fun t k => ?_) ?_
    · show Steps p.tables e below (s₁.setTop (mkF m 10 #[.val (.ref r0), .val (.int (1 : Int32))] [])) t
      refine XS.iloadN X0.here hx rfl (hb hby d4_10) rfl ?_
      show Steps p.tables e below (s₁.setTop (mkF m 11 #[.val (.ref r0), .val (.int (1 : Int32))] [(.int (1 : Int32))])) t
      refine XS.ifYes X0.here hx rfl (pc0 := 11) (pc' := 16) rfl (hb hby d4_11) rfl ((if0 _ _).trans (feq (by decide : ¬ ((1 : Int32) = (0 : Int32)))).2) (by decide) (by decide) ?_
      show Steps p.tables e below (s₁.setTop (mkF m 16 #[.val (.ref r0), .val (.int (1 : Int32))] [])) t
      refine XS.aloadN X0.here hx rfl (hb hby d4_16) rfl rfl ?_
      show Steps p.tables e below (s₁.setTop (mkF m 17 #[.val (.ref r0), .val (.int (1 : Int32))] [(.ref r0)])) t
      refine XS.iloadN X0.here hx rfl (hb hby d4_17) rfl ?_
      show Steps p.tables e below (s₁.setTop (mkF m 18 #[.val (.ref r0), .val (.int (1 : Int32))] [(.int (1 : Int32)), (.ref r0)])) t
      refine XS.iconst X0.here hx rfl (hb hby d4_18) ?_
      show Steps p.tables e below (s₁.setTop (mkF m 19 #[.val (.ref r0), .val (.int (1 : Int32))] [(.int (1 : Int32)), (.int (1 : Int32)), (.ref r0)])) t
      refine XS.isub X0.here hx rfl (hb hby d4_19) rfl ?_
      exact k
    obtain ⟨cl4_2, Ar4_2, q4_2, S4_2, Ng4_2, Hs4_2, G4_2⟩ := id V_r0
    have hin4_2 : ¬ ((0 : Int32) < 0 ∨ cl4_2.slots.size ≤ ((0 : Int32)).toNatClampNeg) := inb_of S4_2 ⟨by decide, by decide⟩
    refine own_fw (X0.baloadBytes hx (j := (0 : Int32)) (v := (.int v0)) (by rw [e0]; exact Ar4_2.1) (State.isArrayOf_alike hZ.alike Ar4_2.2.1) Ar4_2.2.2 hin4_2 (Has.at Hs4_2 hin4_2 rfl) (g := (mkF m 20 #[.val (.ref r0), .val (.int (1 : Int32))] [(.int (0 : Int32)), (.ref r0)])) rfl rfl (hb hby d4_20)) ?_
    refine own_fw (A := s₁.setTop (mkF m 23 #[.val (.ref r0), .val (.int (1 : Int32))] [(.int (10 : Int32)), (.int v0)])) (fun t k => ?_) ?_
    · show Steps p.tables e below (s₁.setTop (mkF m 21 #[.val (.ref r0), .val (.int (1 : Int32))] [(.int v0)])) t
      refine XS.bipush X0.here hx rfl (hb hby d4_21) ?_
      exact k
    by_cases hc4_2 : v0 = (10 : Int32)
    · refine own_fw (A := s₁.setTop (mkF m 26 #[.val (.ref r0), .val (.int (1 : Int32))] [])) (fun t k => ?_) ?_
      · show Steps p.tables e below (s₁.setTop (mkF m 23 #[.val (.ref r0), .val (.int (1 : Int32))] [(.int (10 : Int32)), (.int v0)])) t
        refine XS.icmpNo X0.here hx rfl (hb hby d4_23) rfl (teq hc4_2).2 ?_
        exact k
      refine own_fw (A := s₁.setTop (mkF m 27 #[.val (.ref r0), .val (.int (1 : Int32))] [(.int (1 : Int32))])) (fun t k => ?_) ?_
      · show Steps p.tables e below (s₁.setTop (mkF m 26 #[.val (.ref r0), .val (.int (1 : Int32))] [])) t
        refine XS.iconst X0.here hx rfl (hb hby d4_26) ?_
        exact k
      obtain ⟨fs, hr, hrun, hended, hW, hsame⟩ := X0.leave (v := some (.int (nar .boolean (1 : Int32)))) (fun h => by rw [Bd.returns] at h; cases h)
      refine ⟨_, _, retN X0 hx (t := .boolean) Bd.returns (by simp) (hb hby d4_27) hr, hrun, hended, _, _, rfl, ?_, ⟨_, rfl⟩, hW, hsame.mono (by decide) (by decide)⟩
      have eh : (s₁.setFrames fs).heap = h0 := e0
      rw [eh]
      exact ⟨by rw [eF1, if_pos hc4_1, if_pos hc4_2], N0, rfl⟩
    · refine own_fw (A := s₁.setTop (mkF m 28 #[.val (.ref r0), .val (.int (1 : Int32))] [])) (fun t k => ?_) ?_
      · show Steps p.tables e below (s₁.setTop (mkF m 23 #[.val (.ref r0), .val (.int (1 : Int32))] [(.int (10 : Int32)), (.int v0)])) t
        refine XS.icmpYes X0.here hx rfl (pc0 := 23) (pc' := 28) rfl (hb hby d4_23) rfl (feq hc4_2).2 (by decide) (by decide) ?_
        exact k
      refine own_fw (A := s₁.setTop (mkF m 32 #[.val (.ref r0), .val (.int (1 : Int32))] [(.int (0 : Int32)), (.ref r0)])) (fun t k => ?_) ?_
      · show Steps p.tables e below (s₁.setTop (mkF m 28 #[.val (.ref r0), .val (.int (1 : Int32))] [])) t
        refine XS.aloadN X0.here hx rfl (hb hby d4_28) rfl rfl ?_
        show Steps p.tables e below (s₁.setTop (mkF m 29 #[.val (.ref r0), .val (.int (1 : Int32))] [(.ref r0)])) t
        refine XS.iloadN X0.here hx rfl (hb hby d4_29) rfl ?_
        show Steps p.tables e below (s₁.setTop (mkF m 30 #[.val (.ref r0), .val (.int (1 : Int32))] [(.int (1 : Int32)), (.ref r0)])) t
        refine XS.iconst X0.here hx rfl (hb hby d4_30) ?_
        show Steps p.tables e below (s₁.setTop (mkF m 31 #[.val (.ref r0), .val (.int (1 : Int32))] [(.int (1 : Int32)), (.int (1 : Int32)), (.ref r0)])) t
        refine XS.isub X0.here hx rfl (hb hby d4_31) rfl ?_
        exact k
      obtain ⟨cl4_3, Ar4_3, q4_3, S4_3, Ng4_3, Hs4_3, G4_3⟩ := id V_r0
      have hin4_3 : ¬ ((0 : Int32) < 0 ∨ cl4_3.slots.size ≤ ((0 : Int32)).toNatClampNeg) := inb_of S4_3 ⟨by decide, by decide⟩
      refine own_fw (X0.baloadBytes hx (j := (0 : Int32)) (v := (.int v0)) (by rw [e0]; exact Ar4_3.1) (State.isArrayOf_alike hZ.alike Ar4_3.2.1) Ar4_3.2.2 hin4_3 (Has.at Hs4_3 hin4_3 rfl) (g := (mkF m 32 #[.val (.ref r0), .val (.int (1 : Int32))] [(.int (0 : Int32)), (.ref r0)])) rfl rfl (hb hby d4_32)) ?_
      refine own_fw (A := s₁.setTop (mkF m 35 #[.val (.ref r0), .val (.int (1 : Int32))] [(.int (13 : Int32)), (.int v0)])) (fun t k => ?_) ?_
      · show Steps p.tables e below (s₁.setTop (mkF m 33 #[.val (.ref r0), .val (.int (1 : Int32))] [(.int v0)])) t
        refine XS.bipush X0.here hx rfl (hb hby d4_33) ?_
        exact k
      by_cases hc4_3 : v0 = (13 : Int32)
      · refine own_fw (A := s₁.setTop (mkF m 40 #[.val (.ref r0), .val (.int (1 : Int32))] [])) (fun t k => ?_) ?_
        · show Steps p.tables e below (s₁.setTop (mkF m 35 #[.val (.ref r0), .val (.int (1 : Int32))] [(.int (13 : Int32)), (.int v0)])) t
          refine XS.icmpYes X0.here hx rfl (pc0 := 35) (pc' := 40) rfl (hb hby d4_35) rfl (teq hc4_3).1 (by decide) (by decide) ?_
          exact k
        refine own_fw (A := s₁.setTop (mkF m 46 #[.val (.ref r0), .val (.int (1 : Int32))] [(.int (1 : Int32))])) (fun t k => ?_) ?_
        · show Steps p.tables e below (s₁.setTop (mkF m 40 #[.val (.ref r0), .val (.int (1 : Int32))] [])) t
          refine XS.iloadN X0.here hx rfl (hb hby d4_40) rfl ?_
          show Steps p.tables e below (s₁.setTop (mkF m 41 #[.val (.ref r0), .val (.int (1 : Int32))] [(.int (1 : Int32))])) t
          refine XS.iconst X0.here hx rfl (hb hby d4_41) ?_
          show Steps p.tables e below (s₁.setTop (mkF m 42 #[.val (.ref r0), .val (.int (1 : Int32))] [(.int (1 : Int32)), (.int (1 : Int32))])) t
          refine XS.icmpNo X0.here hx rfl (hb hby d4_42) rfl (teq (rfl : (1 : Int32) = (1 : Int32))).2 ?_
          show Steps p.tables e below (s₁.setTop (mkF m 45 #[.val (.ref r0), .val (.int (1 : Int32))] [])) t
          refine XS.iconst X0.here hx rfl (hb hby d4_45) ?_
          exact k
        obtain ⟨fs, hr, hrun, hended, hW, hsame⟩ := X0.leave (v := some (.int (nar .boolean (1 : Int32)))) (fun h => by rw [Bd.returns] at h; cases h)
        refine ⟨_, _, retN X0 hx (t := .boolean) Bd.returns (by simp) (hb hby d4_46) hr, hrun, hended, _, _, rfl, ?_, ⟨_, rfl⟩, hW, hsame.mono (by decide) (by decide)⟩
        have eh : (s₁.setFrames fs).heap = h0 := e0
        rw [eh]
        exact ⟨by rw [eF1, if_pos hc4_1, if_neg hc4_2, if_pos hc4_3], N0, rfl⟩
      · refine own_fw (A := s₁.setTop (mkF m 38 #[.val (.ref r0), .val (.int (1 : Int32))] [])) (fun t k => ?_) ?_
        · show Steps p.tables e below (s₁.setTop (mkF m 35 #[.val (.ref r0), .val (.int (1 : Int32))] [(.int (13 : Int32)), (.int v0)])) t
          refine XS.icmpNo X0.here hx rfl (hb hby d4_35) rfl (feq hc4_3).1 ?_
          exact k
        refine own_fw (A := s₁.setTop (mkF m 39 #[.val (.ref r0), .val (.int (1 : Int32))] [(.int (0 : Int32))])) (fun t k => ?_) ?_
        · show Steps p.tables e below (s₁.setTop (mkF m 38 #[.val (.ref r0), .val (.int (1 : Int32))] [])) t
          refine XS.iconst X0.here hx rfl (hb hby d4_38) ?_
          exact k
        obtain ⟨fs, hr, hrun, hended, hW, hsame⟩ := X0.leave (v := some (.int (nar .boolean (0 : Int32)))) (fun h => by rw [Bd.returns] at h; cases h)
        refine ⟨_, _, retN X0 hx (t := .boolean) Bd.returns (by simp) (hb hby d4_39) hr, hrun, hended, _, _, rfl, ?_, ⟨_, rfl⟩, hW, hsame.mono (by decide) (by decide)⟩
        have eh : (s₁.setFrames fs).heap = h0 := e0
        rw [eh]
        exact ⟨by rw [eF1, if_pos hc4_1, if_neg hc4_2, if_neg hc4_3], N0, rfl⟩
  · refine own_fw (A := s₁.setTop (mkF m 8 #[.val (.ref r0), .val (.int (1 : Int32))] [])) (fun t k => ?_) ?_
    · show Steps p.tables e below (s₁.setTop (mkF m 5 #[.val (.ref r0), .val (.int (1 : Int32))] [(.int (10 : Int32)), (.int v1)])) t
      refine XS.icmpNo X0.here hx rfl (hb hby d4_5) rfl (feq hc4_1).1 ?_
      exact k
    refine own_fw (A := s₁.setTop (mkF m 9 #[.val (.ref r0), .val (.int (1 : Int32))] [(.int (0 : Int32))])) (fun t k => ?_) ?_
    · show Steps p.tables e below (s₁.setTop (mkF m 8 #[.val (.ref r0), .val (.int (1 : Int32))] [])) t
      refine XS.iconst X0.here hx rfl (hb hby d4_8) ?_
      exact k
    obtain ⟨fs, hr, hrun, hended, hW, hsame⟩ := X0.leave (v := some (.int (nar .boolean (0 : Int32)))) (fun h => by rw [Bd.returns] at h; cases h)
    refine ⟨_, _, retN X0 hx (t := .boolean) Bd.returns (by simp) (hb hby d4_9) hr, hrun, hended, _, _, rfl, ?_, ⟨_, rfl⟩, hW, hsame.mono (by decide) (by decide)⟩
    have eh : (s₁.setFrames fs).heap = h0 := e0
    rw [eh]
    exact ⟨by rw [eF1, if_neg hc4_1], N0, rfl⟩
def eF2 (v0 : Int32) (v1 : Int32) (v2 : Int32) (v3 : Int32) (v4 : Int32) (v5 : Int32) : Int32 := (if v2 = (10 : Int32) then (if v1 = (10 : Int32) then (nar .boolean (1 : Int32)) else (if v1 = (13 : Int32) then (if v0 = (10 : Int32) then (nar .boolean (1 : Int32)) else (nar .boolean (0 : Int32))) else (nar .boolean (0 : Int32)))) else (nar .boolean (0 : Int32)))
set_option maxRecDepth 65536 in
set_option maxHeartbeats 40000000 in
theorem rmL2 (l : Launch) (Z : State) (a0 : Array Value) (hw : ∀ d ∈ tables_1, d.before a0 Z = true) (ws : List Jvm.Cond) (r0 : Addr) (k : ClassId) (v0 : Int32) (v1 : Int32) (v2 : Int32) (v3 : Int32) (v4 : Int32) (v5 : Int32) (h0 : Heap) (n0 : Nat) (Z0 : n0 ≤ h0.size) (V_r0 : Arv Z h0 r0 k .byte (6 : Int32) [(.int v0), (.int v1), (.int v2), (.int v3), (.int v4), (.int v5)] (.int (0 : Int32))) :
    MetFree l (⟨"com/example/finalmark/finalmark/RequestHeadEndPinLaw", "emptyLineEnd", "([BI)Z"⟩ : MethodName) (head1 (Jvm.Cond.code (⟨"com/example/finalmark/finalmark/RequestHeadEndPinLaw", "emptyLineEnd", "([BI)Z"⟩ : MethodName) method_5_code 2 (some .boolean) :: ws) ({ frames := 0, cells := 0, slots := 0, locals := 0 } : Room)) (fun a U => a = #[(.ref r0), (.int (2 : Int32))] ∧ Z.Warmed39 U.vm ∧ U.heap = h0) (fun _ _ _ _ _ => True) (fun _ U o U' => ∃ v L, o = .returned v ∧ Q4 Z (eF2 v0 v1 v2 v3 v4 v5) h0 n0 v U'.heap L ∧ FrameEnd U o U' L ({ frames := 0, cells := 0, slots := 0, locals := 0 } : Room).cells ({ frames := 0, cells := 0, slots := 0, locals := 0 } : Room).slots) := by
  refine MetFree.of_bodySF (plainFor_of_name pn4) hisR ?_
  intro p e s m args below meth c s₁ Bd hml0 hP hK
  obtain ⟨rfl, hZ, hh⟩ := hP
  have hx := Bd.exec
  have hby := Bd.bytes
  have hml : c.maxLocals = 2 := hml0
  have hown : s.vm.findClass "com/example/finalmark/finalmark/RequestHeadEndPinLaw" = some m.cls := findClass_of_methodNamed Bd.named
  have hnm := (name_of_methodNamed Bd.named Bd.method).1
  have X0 : Stand p l e ({ frames := 0, cells := 0, slots := 0, locals := 0 } : Room) s m #[(.ref r0), (.int (2 : Int32))] below meth c s₁ [] 0 0 := Stand.of_body Bd
  have e0 : s₁.heap = h0 := by rw [← hh, Bd.state]; rfl
  have N0 := Fr.nil n0
  refine own_fw (A := s₁.setTop (mkF m 0 #[.val (.ref r0), .val (.int (2 : Int32))] [])) (fun t k => castTop (ef4 m r0 (2 : Int32)) k) ?_
  refine own_fw (A := s₁.setTop (mkF m 2 #[.val (.ref r0), .val (.int (2 : Int32))] [(.int (2 : Int32)), (.ref r0)])) (fun t k => ?_) ?_
  · show Steps p.tables e below (s₁.setTop (mkF m 0 #[.val (.ref r0), .val (.int (2 : Int32))] [])) t
    refine XS.aloadN X0.here hx rfl (hb hby d4_0) rfl rfl ?_
    show Steps p.tables e below (s₁.setTop (mkF m 1 #[.val (.ref r0), .val (.int (2 : Int32))] [(.ref r0)])) t
    refine XS.iloadN X0.here hx rfl (hb hby d4_1) rfl ?_
    exact k
  obtain ⟨cl4_1, Ar4_1, q4_1, S4_1, Ng4_1, Hs4_1, G4_1⟩ := id V_r0
  have hin4_1 : ¬ ((2 : Int32) < 0 ∨ cl4_1.slots.size ≤ ((2 : Int32)).toNatClampNeg) := inb_of S4_1 ⟨by decide, by decide⟩
  refine own_fw (X0.baloadBytes hx (j := (2 : Int32)) (v := (.int v2)) (by rw [e0]; exact Ar4_1.1) (State.isArrayOf_alike hZ.alike Ar4_1.2.1) Ar4_1.2.2 hin4_1 (Has.at Hs4_1 hin4_1 rfl) (g := (mkF m 2 #[.val (.ref r0), .val (.int (2 : Int32))] [(.int (2 : Int32)), (.ref r0)])) rfl rfl (hb hby d4_2)) ?_
  refine own_fw (A := s₁.setTop (mkF m 5 #[.val (.ref r0), .val (.int (2 : Int32))] [(.int (10 : Int32)), (.int v2)])) (fun t k => ?_) ?_
  · show Steps p.tables e below (s₁.setTop (mkF m 3 #[.val (.ref r0), .val (.int (2 : Int32))] [(.int v2)])) t
    refine XS.bipush X0.here hx rfl (hb hby d4_3) ?_
    exact k
  by_cases hc4_1 : v2 = (10 : Int32)
  · refine own_fw (A := s₁.setTop (mkF m 10 #[.val (.ref r0), .val (.int (2 : Int32))] [])) (fun t k => ?_) ?_
    · show Steps p.tables e below (s₁.setTop (mkF m 5 #[.val (.ref r0), .val (.int (2 : Int32))] [(.int (10 : Int32)), (.int v2)])) t
      refine XS.icmpYes X0.here hx rfl (pc0 := 5) (pc' := 10) rfl (hb hby d4_5) rfl (teq hc4_1).1 (by decide) (by decide) ?_
      exact k
    refine own_fw (A := s₁.setTop (mkF m 20 #[.val (.ref r0), .val (.int (2 : Int32))] [(.int (1 : Int32)), (.ref r0)])) (fun t k => ?_) ?_
    · show Steps p.tables e below (s₁.setTop (mkF m 10 #[.val (.ref r0), .val (.int (2 : Int32))] [])) t
      refine XS.iloadN X0.here hx rfl (hb hby d4_10) rfl ?_
      show Steps p.tables e below (s₁.setTop (mkF m 11 #[.val (.ref r0), .val (.int (2 : Int32))] [(.int (2 : Int32))])) t
      refine XS.ifYes X0.here hx rfl (pc0 := 11) (pc' := 16) rfl (hb hby d4_11) rfl ((if0 _ _).trans (feq (by decide : ¬ ((2 : Int32) = (0 : Int32)))).2) (by decide) (by decide) ?_
      show Steps p.tables e below (s₁.setTop (mkF m 16 #[.val (.ref r0), .val (.int (2 : Int32))] [])) t
      refine XS.aloadN X0.here hx rfl (hb hby d4_16) rfl rfl ?_
      show Steps p.tables e below (s₁.setTop (mkF m 17 #[.val (.ref r0), .val (.int (2 : Int32))] [(.ref r0)])) t
      refine XS.iloadN X0.here hx rfl (hb hby d4_17) rfl ?_
      show Steps p.tables e below (s₁.setTop (mkF m 18 #[.val (.ref r0), .val (.int (2 : Int32))] [(.int (2 : Int32)), (.ref r0)])) t
      refine XS.iconst X0.here hx rfl (hb hby d4_18) ?_
      show Steps p.tables e below (s₁.setTop (mkF m 19 #[.val (.ref r0), .val (.int (2 : Int32))] [(.int (1 : Int32)), (.int (2 : Int32)), (.ref r0)])) t
      refine XS.isub X0.here hx rfl (hb hby d4_19) rfl ?_
      exact k
    obtain ⟨cl4_2, Ar4_2, q4_2, S4_2, Ng4_2, Hs4_2, G4_2⟩ := id V_r0
    have hin4_2 : ¬ ((1 : Int32) < 0 ∨ cl4_2.slots.size ≤ ((1 : Int32)).toNatClampNeg) := inb_of S4_2 ⟨by decide, by decide⟩
    refine own_fw (X0.baloadBytes hx (j := (1 : Int32)) (v := (.int v1)) (by rw [e0]; exact Ar4_2.1) (State.isArrayOf_alike hZ.alike Ar4_2.2.1) Ar4_2.2.2 hin4_2 (Has.at Hs4_2 hin4_2 rfl) (g := (mkF m 20 #[.val (.ref r0), .val (.int (2 : Int32))] [(.int (1 : Int32)), (.ref r0)])) rfl rfl (hb hby d4_20)) ?_
    refine own_fw (A := s₁.setTop (mkF m 23 #[.val (.ref r0), .val (.int (2 : Int32))] [(.int (10 : Int32)), (.int v1)])) (fun t k => ?_) ?_
    · show Steps p.tables e below (s₁.setTop (mkF m 21 #[.val (.ref r0), .val (.int (2 : Int32))] [(.int v1)])) t
      refine XS.bipush X0.here hx rfl (hb hby d4_21) ?_
      exact k
    by_cases hc4_2 : v1 = (10 : Int32)
    · refine own_fw (A := s₁.setTop (mkF m 26 #[.val (.ref r0), .val (.int (2 : Int32))] [])) (fun t k => ?_) ?_
      · show Steps p.tables e below (s₁.setTop (mkF m 23 #[.val (.ref r0), .val (.int (2 : Int32))] [(.int (10 : Int32)), (.int v1)])) t
        refine XS.icmpNo X0.here hx rfl (hb hby d4_23) rfl (teq hc4_2).2 ?_
        exact k
      refine own_fw (A := s₁.setTop (mkF m 27 #[.val (.ref r0), .val (.int (2 : Int32))] [(.int (1 : Int32))])) (fun t k => ?_) ?_
      · show Steps p.tables e below (s₁.setTop (mkF m 26 #[.val (.ref r0), .val (.int (2 : Int32))] [])) t
        refine XS.iconst X0.here hx rfl (hb hby d4_26) ?_
        exact k
      obtain ⟨fs, hr, hrun, hended, hW, hsame⟩ := X0.leave (v := some (.int (nar .boolean (1 : Int32)))) (fun h => by rw [Bd.returns] at h; cases h)
      refine ⟨_, _, retN X0 hx (t := .boolean) Bd.returns (by simp) (hb hby d4_27) hr, hrun, hended, _, _, rfl, ?_, ⟨_, rfl⟩, hW, hsame.mono (by decide) (by decide)⟩
      have eh : (s₁.setFrames fs).heap = h0 := e0
      rw [eh]
      exact ⟨by rw [eF2, if_pos hc4_1, if_pos hc4_2], N0, rfl⟩
    · refine own_fw (A := s₁.setTop (mkF m 28 #[.val (.ref r0), .val (.int (2 : Int32))] [])) (fun t k => ?_) ?_
      · show Steps p.tables e below (s₁.setTop (mkF m 23 #[.val (.ref r0), .val (.int (2 : Int32))] [(.int (10 : Int32)), (.int v1)])) t
        refine XS.icmpYes X0.here hx rfl (pc0 := 23) (pc' := 28) rfl (hb hby d4_23) rfl (feq hc4_2).2 (by decide) (by decide) ?_
        exact k
      refine own_fw (A := s₁.setTop (mkF m 32 #[.val (.ref r0), .val (.int (2 : Int32))] [(.int (1 : Int32)), (.ref r0)])) (fun t k => ?_) ?_
      · show Steps p.tables e below (s₁.setTop (mkF m 28 #[.val (.ref r0), .val (.int (2 : Int32))] [])) t
        refine XS.aloadN X0.here hx rfl (hb hby d4_28) rfl rfl ?_
        show Steps p.tables e below (s₁.setTop (mkF m 29 #[.val (.ref r0), .val (.int (2 : Int32))] [(.ref r0)])) t
        refine XS.iloadN X0.here hx rfl (hb hby d4_29) rfl ?_
        show Steps p.tables e below (s₁.setTop (mkF m 30 #[.val (.ref r0), .val (.int (2 : Int32))] [(.int (2 : Int32)), (.ref r0)])) t
        refine XS.iconst X0.here hx rfl (hb hby d4_30) ?_
        show Steps p.tables e below (s₁.setTop (mkF m 31 #[.val (.ref r0), .val (.int (2 : Int32))] [(.int (1 : Int32)), (.int (2 : Int32)), (.ref r0)])) t
        refine XS.isub X0.here hx rfl (hb hby d4_31) rfl ?_
        exact k
      obtain ⟨cl4_3, Ar4_3, q4_3, S4_3, Ng4_3, Hs4_3, G4_3⟩ := id V_r0
      have hin4_3 : ¬ ((1 : Int32) < 0 ∨ cl4_3.slots.size ≤ ((1 : Int32)).toNatClampNeg) := inb_of S4_3 ⟨by decide, by decide⟩
      refine own_fw (X0.baloadBytes hx (j := (1 : Int32)) (v := (.int v1)) (by rw [e0]; exact Ar4_3.1) (State.isArrayOf_alike hZ.alike Ar4_3.2.1) Ar4_3.2.2 hin4_3 (Has.at Hs4_3 hin4_3 rfl) (g := (mkF m 32 #[.val (.ref r0), .val (.int (2 : Int32))] [(.int (1 : Int32)), (.ref r0)])) rfl rfl (hb hby d4_32)) ?_
      refine own_fw (A := s₁.setTop (mkF m 35 #[.val (.ref r0), .val (.int (2 : Int32))] [(.int (13 : Int32)), (.int v1)])) (fun t k => ?_) ?_
      · show Steps p.tables e below (s₁.setTop (mkF m 33 #[.val (.ref r0), .val (.int (2 : Int32))] [(.int v1)])) t
        refine XS.bipush X0.here hx rfl (hb hby d4_33) ?_
        exact k
      by_cases hc4_3 : v1 = (13 : Int32)
      · refine own_fw (A := s₁.setTop (mkF m 40 #[.val (.ref r0), .val (.int (2 : Int32))] [])) (fun t k => ?_) ?_
        · show Steps p.tables e below (s₁.setTop (mkF m 35 #[.val (.ref r0), .val (.int (2 : Int32))] [(.int (13 : Int32)), (.int v1)])) t
          refine XS.icmpYes X0.here hx rfl (pc0 := 35) (pc' := 40) rfl (hb hby d4_35) rfl (teq hc4_3).1 (by decide) (by decide) ?_
          exact k
        refine own_fw (A := s₁.setTop (mkF m 51 #[.val (.ref r0), .val (.int (2 : Int32))] [(.int (0 : Int32)), (.ref r0)])) (fun t k => ?_) ?_
        · show Steps p.tables e below (s₁.setTop (mkF m 40 #[.val (.ref r0), .val (.int (2 : Int32))] [])) t
          refine XS.iloadN X0.here hx rfl (hb hby d4_40) rfl ?_
          show Steps p.tables e below (s₁.setTop (mkF m 41 #[.val (.ref r0), .val (.int (2 : Int32))] [(.int (2 : Int32))])) t
          refine XS.iconst X0.here hx rfl (hb hby d4_41) ?_
          show Steps p.tables e below (s₁.setTop (mkF m 42 #[.val (.ref r0), .val (.int (2 : Int32))] [(.int (1 : Int32)), (.int (2 : Int32))])) t
          refine XS.icmpYes X0.here hx rfl (pc0 := 42) (pc' := 47) rfl (hb hby d4_42) rfl (feq (by decide : ¬ ((2 : Int32) = (1 : Int32)))).2 (by decide) (by decide) ?_
          show Steps p.tables e below (s₁.setTop (mkF m 47 #[.val (.ref r0), .val (.int (2 : Int32))] [])) t
          refine XS.aloadN X0.here hx rfl (hb hby d4_47) rfl rfl ?_
          show Steps p.tables e below (s₁.setTop (mkF m 48 #[.val (.ref r0), .val (.int (2 : Int32))] [(.ref r0)])) t
          refine XS.iloadN X0.here hx rfl (hb hby d4_48) rfl ?_
          show Steps p.tables e below (s₁.setTop (mkF m 49 #[.val (.ref r0), .val (.int (2 : Int32))] [(.int (2 : Int32)), (.ref r0)])) t
          refine XS.iconst X0.here hx rfl (hb hby d4_49) ?_
          show Steps p.tables e below (s₁.setTop (mkF m 50 #[.val (.ref r0), .val (.int (2 : Int32))] [(.int (2 : Int32)), (.int (2 : Int32)), (.ref r0)])) t
          refine XS.isub X0.here hx rfl (hb hby d4_50) rfl ?_
          exact k
        obtain ⟨cl4_4, Ar4_4, q4_4, S4_4, Ng4_4, Hs4_4, G4_4⟩ := id V_r0
        have hin4_4 : ¬ ((0 : Int32) < 0 ∨ cl4_4.slots.size ≤ ((0 : Int32)).toNatClampNeg) := inb_of S4_4 ⟨by decide, by decide⟩
        refine own_fw (X0.baloadBytes hx (j := (0 : Int32)) (v := (.int v0)) (by rw [e0]; exact Ar4_4.1) (State.isArrayOf_alike hZ.alike Ar4_4.2.1) Ar4_4.2.2 hin4_4 (Has.at Hs4_4 hin4_4 rfl) (g := (mkF m 51 #[.val (.ref r0), .val (.int (2 : Int32))] [(.int (0 : Int32)), (.ref r0)])) rfl rfl (hb hby d4_51)) ?_
        refine own_fw (A := s₁.setTop (mkF m 54 #[.val (.ref r0), .val (.int (2 : Int32))] [(.int (10 : Int32)), (.int v0)])) (fun t k => ?_) ?_
        · show Steps p.tables e below (s₁.setTop (mkF m 52 #[.val (.ref r0), .val (.int (2 : Int32))] [(.int v0)])) t
          refine XS.bipush X0.here hx rfl (hb hby d4_52) ?_
          exact k
        by_cases hc4_4 : v0 = (10 : Int32)
        · refine own_fw (A := s₁.setTop (mkF m 57 #[.val (.ref r0), .val (.int (2 : Int32))] [])) (fun t k => ?_) ?_
          · show Steps p.tables e below (s₁.setTop (mkF m 54 #[.val (.ref r0), .val (.int (2 : Int32))] [(.int (10 : Int32)), (.int v0)])) t
            refine XS.icmpNo X0.here hx rfl (hb hby d4_54) rfl (teq hc4_4).2 ?_
            exact k
          refine own_fw (A := s₁.setTop (mkF m 62 #[.val (.ref r0), .val (.int (2 : Int32))] [(.int (1 : Int32))])) (fun t k => ?_) ?_
          · show Steps p.tables e below (s₁.setTop (mkF m 57 #[.val (.ref r0), .val (.int (2 : Int32))] [])) t
            refine XS.iconst X0.here hx rfl (hb hby d4_57) ?_
            show Steps p.tables e below (s₁.setTop (mkF m 58 #[.val (.ref r0), .val (.int (2 : Int32))] [(.int (1 : Int32))])) t
            refine XS.goto X0.here hx rfl (pc0 := 58) (pc' := 62) rfl (hb hby d4_58) (by decide) (by decide) ?_
            exact k
          obtain ⟨fs, hr, hrun, hended, hW, hsame⟩ := X0.leave (v := some (.int (nar .boolean (1 : Int32)))) (fun h => by rw [Bd.returns] at h; cases h)
          refine ⟨_, _, retN X0 hx (t := .boolean) Bd.returns (by simp) (hb hby d4_62) hr, hrun, hended, _, _, rfl, ?_, ⟨_, rfl⟩, hW, hsame.mono (by decide) (by decide)⟩
          have eh : (s₁.setFrames fs).heap = h0 := e0
          rw [eh]
          exact ⟨by rw [eF2, if_pos hc4_1, if_neg hc4_2, if_pos hc4_3, if_pos hc4_4], N0, rfl⟩
        · refine own_fw (A := s₁.setTop (mkF m 61 #[.val (.ref r0), .val (.int (2 : Int32))] [])) (fun t k => ?_) ?_
          · show Steps p.tables e below (s₁.setTop (mkF m 54 #[.val (.ref r0), .val (.int (2 : Int32))] [(.int (10 : Int32)), (.int v0)])) t
            refine XS.icmpYes X0.here hx rfl (pc0 := 54) (pc' := 61) rfl (hb hby d4_54) rfl (feq hc4_4).2 (by decide) (by decide) ?_
            exact k
          refine own_fw (A := s₁.setTop (mkF m 62 #[.val (.ref r0), .val (.int (2 : Int32))] [(.int (0 : Int32))])) (fun t k => ?_) ?_
          · show Steps p.tables e below (s₁.setTop (mkF m 61 #[.val (.ref r0), .val (.int (2 : Int32))] [])) t
            refine XS.iconst X0.here hx rfl (hb hby d4_61) ?_
            exact k
          obtain ⟨fs, hr, hrun, hended, hW, hsame⟩ := X0.leave (v := some (.int (nar .boolean (0 : Int32)))) (fun h => by rw [Bd.returns] at h; cases h)
          refine ⟨_, _, retN X0 hx (t := .boolean) Bd.returns (by simp) (hb hby d4_62) hr, hrun, hended, _, _, rfl, ?_, ⟨_, rfl⟩, hW, hsame.mono (by decide) (by decide)⟩
          have eh : (s₁.setFrames fs).heap = h0 := e0
          rw [eh]
          exact ⟨by rw [eF2, if_pos hc4_1, if_neg hc4_2, if_pos hc4_3, if_neg hc4_4], N0, rfl⟩
      · refine own_fw (A := s₁.setTop (mkF m 38 #[.val (.ref r0), .val (.int (2 : Int32))] [])) (fun t k => ?_) ?_
        · show Steps p.tables e below (s₁.setTop (mkF m 35 #[.val (.ref r0), .val (.int (2 : Int32))] [(.int (13 : Int32)), (.int v1)])) t
          refine XS.icmpNo X0.here hx rfl (hb hby d4_35) rfl (feq hc4_3).1 ?_
          exact k
        refine own_fw (A := s₁.setTop (mkF m 39 #[.val (.ref r0), .val (.int (2 : Int32))] [(.int (0 : Int32))])) (fun t k => ?_) ?_
        · show Steps p.tables e below (s₁.setTop (mkF m 38 #[.val (.ref r0), .val (.int (2 : Int32))] [])) t
          refine XS.iconst X0.here hx rfl (hb hby d4_38) ?_
          exact k
        obtain ⟨fs, hr, hrun, hended, hW, hsame⟩ := X0.leave (v := some (.int (nar .boolean (0 : Int32)))) (fun h => by rw [Bd.returns] at h; cases h)
        refine ⟨_, _, retN X0 hx (t := .boolean) Bd.returns (by simp) (hb hby d4_39) hr, hrun, hended, _, _, rfl, ?_, ⟨_, rfl⟩, hW, hsame.mono (by decide) (by decide)⟩
        have eh : (s₁.setFrames fs).heap = h0 := e0
        rw [eh]
        exact ⟨by rw [eF2, if_pos hc4_1, if_neg hc4_2, if_neg hc4_3], N0, rfl⟩
  · refine own_fw (A := s₁.setTop (mkF m 8 #[.val (.ref r0), .val (.int (2 : Int32))] [])) (fun t k => ?_) ?_
    · show Steps p.tables e below (s₁.setTop (mkF m 5 #[.val (.ref r0), .val (.int (2 : Int32))] [(.int (10 : Int32)), (.int v2)])) t
      refine XS.icmpNo X0.here hx rfl (hb hby d4_5) rfl (feq hc4_1).1 ?_
      exact k
    refine own_fw (A := s₁.setTop (mkF m 9 #[.val (.ref r0), .val (.int (2 : Int32))] [(.int (0 : Int32))])) (fun t k => ?_) ?_
    · show Steps p.tables e below (s₁.setTop (mkF m 8 #[.val (.ref r0), .val (.int (2 : Int32))] [])) t
      refine XS.iconst X0.here hx rfl (hb hby d4_8) ?_
      exact k
    obtain ⟨fs, hr, hrun, hended, hW, hsame⟩ := X0.leave (v := some (.int (nar .boolean (0 : Int32)))) (fun h => by rw [Bd.returns] at h; cases h)
    refine ⟨_, _, retN X0 hx (t := .boolean) Bd.returns (by simp) (hb hby d4_9) hr, hrun, hended, _, _, rfl, ?_, ⟨_, rfl⟩, hW, hsame.mono (by decide) (by decide)⟩
    have eh : (s₁.setFrames fs).heap = h0 := e0
    rw [eh]
    exact ⟨by rw [eF2, if_neg hc4_1], N0, rfl⟩
def eF3 (v0 : Int32) (v1 : Int32) (v2 : Int32) (v3 : Int32) (v4 : Int32) (v5 : Int32) : Int32 := (if v3 = (10 : Int32) then (if v2 = (10 : Int32) then (nar .boolean (1 : Int32)) else (if v2 = (13 : Int32) then (if v1 = (10 : Int32) then (nar .boolean (1 : Int32)) else (nar .boolean (0 : Int32))) else (nar .boolean (0 : Int32)))) else (nar .boolean (0 : Int32)))
set_option maxRecDepth 65536 in
set_option maxHeartbeats 40000000 in
theorem rmL3 (l : Launch) (Z : State) (a0 : Array Value) (hw : ∀ d ∈ tables_1, d.before a0 Z = true) (ws : List Jvm.Cond) (r0 : Addr) (k : ClassId) (v0 : Int32) (v1 : Int32) (v2 : Int32) (v3 : Int32) (v4 : Int32) (v5 : Int32) (h0 : Heap) (n0 : Nat) (Z0 : n0 ≤ h0.size) (V_r0 : Arv Z h0 r0 k .byte (6 : Int32) [(.int v0), (.int v1), (.int v2), (.int v3), (.int v4), (.int v5)] (.int (0 : Int32))) :
    MetFree l (⟨"com/example/finalmark/finalmark/RequestHeadEndPinLaw", "emptyLineEnd", "([BI)Z"⟩ : MethodName) (head1 (Jvm.Cond.code (⟨"com/example/finalmark/finalmark/RequestHeadEndPinLaw", "emptyLineEnd", "([BI)Z"⟩ : MethodName) method_5_code 2 (some .boolean) :: ws) ({ frames := 0, cells := 0, slots := 0, locals := 0 } : Room)) (fun a U => a = #[(.ref r0), (.int (3 : Int32))] ∧ Z.Warmed39 U.vm ∧ U.heap = h0) (fun _ _ _ _ _ => True) (fun _ U o U' => ∃ v L, o = .returned v ∧ Q4 Z (eF3 v0 v1 v2 v3 v4 v5) h0 n0 v U'.heap L ∧ FrameEnd U o U' L ({ frames := 0, cells := 0, slots := 0, locals := 0 } : Room).cells ({ frames := 0, cells := 0, slots := 0, locals := 0 } : Room).slots) := by
  refine MetFree.of_bodySF (plainFor_of_name pn4) hisR ?_
  intro p e s m args below meth c s₁ Bd hml0 hP hK
  obtain ⟨rfl, hZ, hh⟩ := hP
  have hx := Bd.exec
  have hby := Bd.bytes
  have hml : c.maxLocals = 2 := hml0
  have hown : s.vm.findClass "com/example/finalmark/finalmark/RequestHeadEndPinLaw" = some m.cls := findClass_of_methodNamed Bd.named
  have hnm := (name_of_methodNamed Bd.named Bd.method).1
  have X0 : Stand p l e ({ frames := 0, cells := 0, slots := 0, locals := 0 } : Room) s m #[(.ref r0), (.int (3 : Int32))] below meth c s₁ [] 0 0 := Stand.of_body Bd
  have e0 : s₁.heap = h0 := by rw [← hh, Bd.state]; rfl
  have N0 := Fr.nil n0
  refine own_fw (A := s₁.setTop (mkF m 0 #[.val (.ref r0), .val (.int (3 : Int32))] [])) (fun t k => castTop (ef4 m r0 (3 : Int32)) k) ?_
  refine own_fw (A := s₁.setTop (mkF m 2 #[.val (.ref r0), .val (.int (3 : Int32))] [(.int (3 : Int32)), (.ref r0)])) (fun t k => ?_) ?_
  · show Steps p.tables e below (s₁.setTop (mkF m 0 #[.val (.ref r0), .val (.int (3 : Int32))] [])) t
    refine XS.aloadN X0.here hx rfl (hb hby d4_0) rfl rfl ?_
    show Steps p.tables e below (s₁.setTop (mkF m 1 #[.val (.ref r0), .val (.int (3 : Int32))] [(.ref r0)])) t
    refine XS.iloadN X0.here hx rfl (hb hby d4_1) rfl ?_
    exact k
  obtain ⟨cl4_1, Ar4_1, q4_1, S4_1, Ng4_1, Hs4_1, G4_1⟩ := id V_r0
  have hin4_1 : ¬ ((3 : Int32) < 0 ∨ cl4_1.slots.size ≤ ((3 : Int32)).toNatClampNeg) := inb_of S4_1 ⟨by decide, by decide⟩
  refine own_fw (X0.baloadBytes hx (j := (3 : Int32)) (v := (.int v3)) (by rw [e0]; exact Ar4_1.1) (State.isArrayOf_alike hZ.alike Ar4_1.2.1) Ar4_1.2.2 hin4_1 (Has.at Hs4_1 hin4_1 rfl) (g := (mkF m 2 #[.val (.ref r0), .val (.int (3 : Int32))] [(.int (3 : Int32)), (.ref r0)])) rfl rfl (hb hby d4_2)) ?_
  refine own_fw (A := s₁.setTop (mkF m 5 #[.val (.ref r0), .val (.int (3 : Int32))] [(.int (10 : Int32)), (.int v3)])) (fun t k => ?_) ?_
  · show Steps p.tables e below (s₁.setTop (mkF m 3 #[.val (.ref r0), .val (.int (3 : Int32))] [(.int v3)])) t
    refine XS.bipush X0.here hx rfl (hb hby d4_3) ?_
    exact k
  by_cases hc4_1 : v3 = (10 : Int32)
  · refine own_fw (A := s₁.setTop (mkF m 10 #[.val (.ref r0), .val (.int (3 : Int32))] [])) (fun t k => ?_) ?_
    · show Steps p.tables e below (s₁.setTop (mkF m 5 #[.val (.ref r0), .val (.int (3 : Int32))] [(.int (10 : Int32)), (.int v3)])) t
      refine XS.icmpYes X0.here hx rfl (pc0 := 5) (pc' := 10) rfl (hb hby d4_5) rfl (teq hc4_1).1 (by decide) (by decide) ?_
      exact k
    refine own_fw (A := s₁.setTop (mkF m 20 #[.val (.ref r0), .val (.int (3 : Int32))] [(.int (2 : Int32)), (.ref r0)])) (fun t k => ?_) ?_
    · show Steps p.tables e below (s₁.setTop (mkF m 10 #[.val (.ref r0), .val (.int (3 : Int32))] [])) t
      refine XS.iloadN X0.here hx rfl (hb hby d4_10) rfl ?_
      show Steps p.tables e below (s₁.setTop (mkF m 11 #[.val (.ref r0), .val (.int (3 : Int32))] [(.int (3 : Int32))])) t
      refine XS.ifYes X0.here hx rfl (pc0 := 11) (pc' := 16) rfl (hb hby d4_11) rfl ((if0 _ _).trans (feq (by decide : ¬ ((3 : Int32) = (0 : Int32)))).2) (by decide) (by decide) ?_
      show Steps p.tables e below (s₁.setTop (mkF m 16 #[.val (.ref r0), .val (.int (3 : Int32))] [])) t
      refine XS.aloadN X0.here hx rfl (hb hby d4_16) rfl rfl ?_
      show Steps p.tables e below (s₁.setTop (mkF m 17 #[.val (.ref r0), .val (.int (3 : Int32))] [(.ref r0)])) t
      refine XS.iloadN X0.here hx rfl (hb hby d4_17) rfl ?_
      show Steps p.tables e below (s₁.setTop (mkF m 18 #[.val (.ref r0), .val (.int (3 : Int32))] [(.int (3 : Int32)), (.ref r0)])) t
      refine XS.iconst X0.here hx rfl (hb hby d4_18) ?_
      show Steps p.tables e below (s₁.setTop (mkF m 19 #[.val (.ref r0), .val (.int (3 : Int32))] [(.int (1 : Int32)), (.int (3 : Int32)), (.ref r0)])) t
      refine XS.isub X0.here hx rfl (hb hby d4_19) rfl ?_
      exact k
    obtain ⟨cl4_2, Ar4_2, q4_2, S4_2, Ng4_2, Hs4_2, G4_2⟩ := id V_r0
    have hin4_2 : ¬ ((2 : Int32) < 0 ∨ cl4_2.slots.size ≤ ((2 : Int32)).toNatClampNeg) := inb_of S4_2 ⟨by decide, by decide⟩
    refine own_fw (X0.baloadBytes hx (j := (2 : Int32)) (v := (.int v2)) (by rw [e0]; exact Ar4_2.1) (State.isArrayOf_alike hZ.alike Ar4_2.2.1) Ar4_2.2.2 hin4_2 (Has.at Hs4_2 hin4_2 rfl) (g := (mkF m 20 #[.val (.ref r0), .val (.int (3 : Int32))] [(.int (2 : Int32)), (.ref r0)])) rfl rfl (hb hby d4_20)) ?_
    refine own_fw (A := s₁.setTop (mkF m 23 #[.val (.ref r0), .val (.int (3 : Int32))] [(.int (10 : Int32)), (.int v2)])) (fun t k => ?_) ?_
    · show Steps p.tables e below (s₁.setTop (mkF m 21 #[.val (.ref r0), .val (.int (3 : Int32))] [(.int v2)])) t
      refine XS.bipush X0.here hx rfl (hb hby d4_21) ?_
      exact k
    by_cases hc4_2 : v2 = (10 : Int32)
    · refine own_fw (A := s₁.setTop (mkF m 26 #[.val (.ref r0), .val (.int (3 : Int32))] [])) (fun t k => ?_) ?_
      · show Steps p.tables e below (s₁.setTop (mkF m 23 #[.val (.ref r0), .val (.int (3 : Int32))] [(.int (10 : Int32)), (.int v2)])) t
        refine XS.icmpNo X0.here hx rfl (hb hby d4_23) rfl (teq hc4_2).2 ?_
        exact k
      refine own_fw (A := s₁.setTop (mkF m 27 #[.val (.ref r0), .val (.int (3 : Int32))] [(.int (1 : Int32))])) (fun t k => ?_) ?_
      · show Steps p.tables e below (s₁.setTop (mkF m 26 #[.val (.ref r0), .val (.int (3 : Int32))] [])) t
        refine XS.iconst X0.here hx rfl (hb hby d4_26) ?_
        exact k
      obtain ⟨fs, hr, hrun, hended, hW, hsame⟩ := X0.leave (v := some (.int (nar .boolean (1 : Int32)))) (fun h => by rw [Bd.returns] at h; cases h)
      refine ⟨_, _, retN X0 hx (t := .boolean) Bd.returns (by simp) (hb hby d4_27) hr, hrun, hended, _, _, rfl, ?_, ⟨_, rfl⟩, hW, hsame.mono (by decide) (by decide)⟩
      have eh : (s₁.setFrames fs).heap = h0 := e0
      rw [eh]
      exact ⟨by rw [eF3, if_pos hc4_1, if_pos hc4_2], N0, rfl⟩
    · refine own_fw (A := s₁.setTop (mkF m 28 #[.val (.ref r0), .val (.int (3 : Int32))] [])) (fun t k => ?_) ?_
      · show Steps p.tables e below (s₁.setTop (mkF m 23 #[.val (.ref r0), .val (.int (3 : Int32))] [(.int (10 : Int32)), (.int v2)])) t
        refine XS.icmpYes X0.here hx rfl (pc0 := 23) (pc' := 28) rfl (hb hby d4_23) rfl (feq hc4_2).2 (by decide) (by decide) ?_
        exact k
      refine own_fw (A := s₁.setTop (mkF m 32 #[.val (.ref r0), .val (.int (3 : Int32))] [(.int (2 : Int32)), (.ref r0)])) (fun t k => ?_) ?_
      · show Steps p.tables e below (s₁.setTop (mkF m 28 #[.val (.ref r0), .val (.int (3 : Int32))] [])) t
        refine XS.aloadN X0.here hx rfl (hb hby d4_28) rfl rfl ?_
        show Steps p.tables e below (s₁.setTop (mkF m 29 #[.val (.ref r0), .val (.int (3 : Int32))] [(.ref r0)])) t
        refine XS.iloadN X0.here hx rfl (hb hby d4_29) rfl ?_
        show Steps p.tables e below (s₁.setTop (mkF m 30 #[.val (.ref r0), .val (.int (3 : Int32))] [(.int (3 : Int32)), (.ref r0)])) t
        refine XS.iconst X0.here hx rfl (hb hby d4_30) ?_
        show Steps p.tables e below (s₁.setTop (mkF m 31 #[.val (.ref r0), .val (.int (3 : Int32))] [(.int (1 : Int32)), (.int (3 : Int32)), (.ref r0)])) t
        refine XS.isub X0.here hx rfl (hb hby d4_31) rfl ?_
        exact k
      obtain ⟨cl4_3, Ar4_3, q4_3, S4_3, Ng4_3, Hs4_3, G4_3⟩ := id V_r0
      have hin4_3 : ¬ ((2 : Int32) < 0 ∨ cl4_3.slots.size ≤ ((2 : Int32)).toNatClampNeg) := inb_of S4_3 ⟨by decide, by decide⟩
      refine own_fw (X0.baloadBytes hx (j := (2 : Int32)) (v := (.int v2)) (by rw [e0]; exact Ar4_3.1) (State.isArrayOf_alike hZ.alike Ar4_3.2.1) Ar4_3.2.2 hin4_3 (Has.at Hs4_3 hin4_3 rfl) (g := (mkF m 32 #[.val (.ref r0), .val (.int (3 : Int32))] [(.int (2 : Int32)), (.ref r0)])) rfl rfl (hb hby d4_32)) ?_
      refine own_fw (A := s₁.setTop (mkF m 35 #[.val (.ref r0), .val (.int (3 : Int32))] [(.int (13 : Int32)), (.int v2)])) (fun t k => ?_) ?_
      · show Steps p.tables e below (s₁.setTop (mkF m 33 #[.val (.ref r0), .val (.int (3 : Int32))] [(.int v2)])) t
        refine XS.bipush X0.here hx rfl (hb hby d4_33) ?_
        exact k
      by_cases hc4_3 : v2 = (13 : Int32)
      · refine own_fw (A := s₁.setTop (mkF m 40 #[.val (.ref r0), .val (.int (3 : Int32))] [])) (fun t k => ?_) ?_
        · show Steps p.tables e below (s₁.setTop (mkF m 35 #[.val (.ref r0), .val (.int (3 : Int32))] [(.int (13 : Int32)), (.int v2)])) t
          refine XS.icmpYes X0.here hx rfl (pc0 := 35) (pc' := 40) rfl (hb hby d4_35) rfl (teq hc4_3).1 (by decide) (by decide) ?_
          exact k
        refine own_fw (A := s₁.setTop (mkF m 51 #[.val (.ref r0), .val (.int (3 : Int32))] [(.int (1 : Int32)), (.ref r0)])) (fun t k => ?_) ?_
        · show Steps p.tables e below (s₁.setTop (mkF m 40 #[.val (.ref r0), .val (.int (3 : Int32))] [])) t
          refine XS.iloadN X0.here hx rfl (hb hby d4_40) rfl ?_
          show Steps p.tables e below (s₁.setTop (mkF m 41 #[.val (.ref r0), .val (.int (3 : Int32))] [(.int (3 : Int32))])) t
          refine XS.iconst X0.here hx rfl (hb hby d4_41) ?_
          show Steps p.tables e below (s₁.setTop (mkF m 42 #[.val (.ref r0), .val (.int (3 : Int32))] [(.int (1 : Int32)), (.int (3 : Int32))])) t
          refine XS.icmpYes X0.here hx rfl (pc0 := 42) (pc' := 47) rfl (hb hby d4_42) rfl (feq (by decide : ¬ ((3 : Int32) = (1 : Int32)))).2 (by decide) (by decide) ?_
          show Steps p.tables e below (s₁.setTop (mkF m 47 #[.val (.ref r0), .val (.int (3 : Int32))] [])) t
          refine XS.aloadN X0.here hx rfl (hb hby d4_47) rfl rfl ?_
          show Steps p.tables e below (s₁.setTop (mkF m 48 #[.val (.ref r0), .val (.int (3 : Int32))] [(.ref r0)])) t
          refine XS.iloadN X0.here hx rfl (hb hby d4_48) rfl ?_
          show Steps p.tables e below (s₁.setTop (mkF m 49 #[.val (.ref r0), .val (.int (3 : Int32))] [(.int (3 : Int32)), (.ref r0)])) t
          refine XS.iconst X0.here hx rfl (hb hby d4_49) ?_
          show Steps p.tables e below (s₁.setTop (mkF m 50 #[.val (.ref r0), .val (.int (3 : Int32))] [(.int (2 : Int32)), (.int (3 : Int32)), (.ref r0)])) t
          refine XS.isub X0.here hx rfl (hb hby d4_50) rfl ?_
          exact k
        obtain ⟨cl4_4, Ar4_4, q4_4, S4_4, Ng4_4, Hs4_4, G4_4⟩ := id V_r0
        have hin4_4 : ¬ ((1 : Int32) < 0 ∨ cl4_4.slots.size ≤ ((1 : Int32)).toNatClampNeg) := inb_of S4_4 ⟨by decide, by decide⟩
        refine own_fw (X0.baloadBytes hx (j := (1 : Int32)) (v := (.int v1)) (by rw [e0]; exact Ar4_4.1) (State.isArrayOf_alike hZ.alike Ar4_4.2.1) Ar4_4.2.2 hin4_4 (Has.at Hs4_4 hin4_4 rfl) (g := (mkF m 51 #[.val (.ref r0), .val (.int (3 : Int32))] [(.int (1 : Int32)), (.ref r0)])) rfl rfl (hb hby d4_51)) ?_
        refine own_fw (A := s₁.setTop (mkF m 54 #[.val (.ref r0), .val (.int (3 : Int32))] [(.int (10 : Int32)), (.int v1)])) (fun t k => ?_) ?_
        · show Steps p.tables e below (s₁.setTop (mkF m 52 #[.val (.ref r0), .val (.int (3 : Int32))] [(.int v1)])) t
          refine XS.bipush X0.here hx rfl (hb hby d4_52) ?_
          exact k
        by_cases hc4_4 : v1 = (10 : Int32)
        · refine own_fw (A := s₁.setTop (mkF m 57 #[.val (.ref r0), .val (.int (3 : Int32))] [])) (fun t k => ?_) ?_
          · show Steps p.tables e below (s₁.setTop (mkF m 54 #[.val (.ref r0), .val (.int (3 : Int32))] [(.int (10 : Int32)), (.int v1)])) t
            refine XS.icmpNo X0.here hx rfl (hb hby d4_54) rfl (teq hc4_4).2 ?_
            exact k
          refine own_fw (A := s₁.setTop (mkF m 62 #[.val (.ref r0), .val (.int (3 : Int32))] [(.int (1 : Int32))])) (fun t k => ?_) ?_
          · show Steps p.tables e below (s₁.setTop (mkF m 57 #[.val (.ref r0), .val (.int (3 : Int32))] [])) t
            refine XS.iconst X0.here hx rfl (hb hby d4_57) ?_
            show Steps p.tables e below (s₁.setTop (mkF m 58 #[.val (.ref r0), .val (.int (3 : Int32))] [(.int (1 : Int32))])) t
            refine XS.goto X0.here hx rfl (pc0 := 58) (pc' := 62) rfl (hb hby d4_58) (by decide) (by decide) ?_
            exact k
          obtain ⟨fs, hr, hrun, hended, hW, hsame⟩ := X0.leave (v := some (.int (nar .boolean (1 : Int32)))) (fun h => by rw [Bd.returns] at h; cases h)
          refine ⟨_, _, retN X0 hx (t := .boolean) Bd.returns (by simp) (hb hby d4_62) hr, hrun, hended, _, _, rfl, ?_, ⟨_, rfl⟩, hW, hsame.mono (by decide) (by decide)⟩
          have eh : (s₁.setFrames fs).heap = h0 := e0
          rw [eh]
          exact ⟨by rw [eF3, if_pos hc4_1, if_neg hc4_2, if_pos hc4_3, if_pos hc4_4], N0, rfl⟩
        · refine own_fw (A := s₁.setTop (mkF m 61 #[.val (.ref r0), .val (.int (3 : Int32))] [])) (fun t k => ?_) ?_
          · show Steps p.tables e below (s₁.setTop (mkF m 54 #[.val (.ref r0), .val (.int (3 : Int32))] [(.int (10 : Int32)), (.int v1)])) t
            refine XS.icmpYes X0.here hx rfl (pc0 := 54) (pc' := 61) rfl (hb hby d4_54) rfl (feq hc4_4).2 (by decide) (by decide) ?_
            exact k
          refine own_fw (A := s₁.setTop (mkF m 62 #[.val (.ref r0), .val (.int (3 : Int32))] [(.int (0 : Int32))])) (fun t k => ?_) ?_
          · show Steps p.tables e below (s₁.setTop (mkF m 61 #[.val (.ref r0), .val (.int (3 : Int32))] [])) t
            refine XS.iconst X0.here hx rfl (hb hby d4_61) ?_
            exact k
          obtain ⟨fs, hr, hrun, hended, hW, hsame⟩ := X0.leave (v := some (.int (nar .boolean (0 : Int32)))) (fun h => by rw [Bd.returns] at h; cases h)
          refine ⟨_, _, retN X0 hx (t := .boolean) Bd.returns (by simp) (hb hby d4_62) hr, hrun, hended, _, _, rfl, ?_, ⟨_, rfl⟩, hW, hsame.mono (by decide) (by decide)⟩
          have eh : (s₁.setFrames fs).heap = h0 := e0
          rw [eh]
          exact ⟨by rw [eF3, if_pos hc4_1, if_neg hc4_2, if_pos hc4_3, if_neg hc4_4], N0, rfl⟩
      · refine own_fw (A := s₁.setTop (mkF m 38 #[.val (.ref r0), .val (.int (3 : Int32))] [])) (fun t k => ?_) ?_
        · show Steps p.tables e below (s₁.setTop (mkF m 35 #[.val (.ref r0), .val (.int (3 : Int32))] [(.int (13 : Int32)), (.int v2)])) t
          refine XS.icmpNo X0.here hx rfl (hb hby d4_35) rfl (feq hc4_3).1 ?_
          exact k
        refine own_fw (A := s₁.setTop (mkF m 39 #[.val (.ref r0), .val (.int (3 : Int32))] [(.int (0 : Int32))])) (fun t k => ?_) ?_
        · show Steps p.tables e below (s₁.setTop (mkF m 38 #[.val (.ref r0), .val (.int (3 : Int32))] [])) t
          refine XS.iconst X0.here hx rfl (hb hby d4_38) ?_
          exact k
        obtain ⟨fs, hr, hrun, hended, hW, hsame⟩ := X0.leave (v := some (.int (nar .boolean (0 : Int32)))) (fun h => by rw [Bd.returns] at h; cases h)
        refine ⟨_, _, retN X0 hx (t := .boolean) Bd.returns (by simp) (hb hby d4_39) hr, hrun, hended, _, _, rfl, ?_, ⟨_, rfl⟩, hW, hsame.mono (by decide) (by decide)⟩
        have eh : (s₁.setFrames fs).heap = h0 := e0
        rw [eh]
        exact ⟨by rw [eF3, if_pos hc4_1, if_neg hc4_2, if_neg hc4_3], N0, rfl⟩
  · refine own_fw (A := s₁.setTop (mkF m 8 #[.val (.ref r0), .val (.int (3 : Int32))] [])) (fun t k => ?_) ?_
    · show Steps p.tables e below (s₁.setTop (mkF m 5 #[.val (.ref r0), .val (.int (3 : Int32))] [(.int (10 : Int32)), (.int v3)])) t
      refine XS.icmpNo X0.here hx rfl (hb hby d4_5) rfl (feq hc4_1).1 ?_
      exact k
    refine own_fw (A := s₁.setTop (mkF m 9 #[.val (.ref r0), .val (.int (3 : Int32))] [(.int (0 : Int32))])) (fun t k => ?_) ?_
    · show Steps p.tables e below (s₁.setTop (mkF m 8 #[.val (.ref r0), .val (.int (3 : Int32))] [])) t
      refine XS.iconst X0.here hx rfl (hb hby d4_8) ?_
      exact k
    obtain ⟨fs, hr, hrun, hended, hW, hsame⟩ := X0.leave (v := some (.int (nar .boolean (0 : Int32)))) (fun h => by rw [Bd.returns] at h; cases h)
    refine ⟨_, _, retN X0 hx (t := .boolean) Bd.returns (by simp) (hb hby d4_9) hr, hrun, hended, _, _, rfl, ?_, ⟨_, rfl⟩, hW, hsame.mono (by decide) (by decide)⟩
    have eh : (s₁.setFrames fs).heap = h0 := e0
    rw [eh]
    exact ⟨by rw [eF3, if_neg hc4_1], N0, rfl⟩
def eF4 (v0 : Int32) (v1 : Int32) (v2 : Int32) (v3 : Int32) (v4 : Int32) (v5 : Int32) : Int32 := (if v4 = (10 : Int32) then (if v3 = (10 : Int32) then (nar .boolean (1 : Int32)) else (if v3 = (13 : Int32) then (if v2 = (10 : Int32) then (nar .boolean (1 : Int32)) else (nar .boolean (0 : Int32))) else (nar .boolean (0 : Int32)))) else (nar .boolean (0 : Int32)))
set_option maxRecDepth 65536 in
set_option maxHeartbeats 40000000 in
theorem rmL4 (l : Launch) (Z : State) (a0 : Array Value) (hw : ∀ d ∈ tables_1, d.before a0 Z = true) (ws : List Jvm.Cond) (r0 : Addr) (k : ClassId) (v0 : Int32) (v1 : Int32) (v2 : Int32) (v3 : Int32) (v4 : Int32) (v5 : Int32) (h0 : Heap) (n0 : Nat) (Z0 : n0 ≤ h0.size) (V_r0 : Arv Z h0 r0 k .byte (6 : Int32) [(.int v0), (.int v1), (.int v2), (.int v3), (.int v4), (.int v5)] (.int (0 : Int32))) :
    MetFree l (⟨"com/example/finalmark/finalmark/RequestHeadEndPinLaw", "emptyLineEnd", "([BI)Z"⟩ : MethodName) (head1 (Jvm.Cond.code (⟨"com/example/finalmark/finalmark/RequestHeadEndPinLaw", "emptyLineEnd", "([BI)Z"⟩ : MethodName) method_5_code 2 (some .boolean) :: ws) ({ frames := 0, cells := 0, slots := 0, locals := 0 } : Room)) (fun a U => a = #[(.ref r0), (.int (4 : Int32))] ∧ Z.Warmed39 U.vm ∧ U.heap = h0) (fun _ _ _ _ _ => True) (fun _ U o U' => ∃ v L, o = .returned v ∧ Q4 Z (eF4 v0 v1 v2 v3 v4 v5) h0 n0 v U'.heap L ∧ FrameEnd U o U' L ({ frames := 0, cells := 0, slots := 0, locals := 0 } : Room).cells ({ frames := 0, cells := 0, slots := 0, locals := 0 } : Room).slots) := by
  refine MetFree.of_bodySF (plainFor_of_name pn4) hisR ?_
  intro p e s m args below meth c s₁ Bd hml0 hP hK
  obtain ⟨rfl, hZ, hh⟩ := hP
  have hx := Bd.exec
  have hby := Bd.bytes
  have hml : c.maxLocals = 2 := hml0
  have hown : s.vm.findClass "com/example/finalmark/finalmark/RequestHeadEndPinLaw" = some m.cls := findClass_of_methodNamed Bd.named
  have hnm := (name_of_methodNamed Bd.named Bd.method).1
  have X0 : Stand p l e ({ frames := 0, cells := 0, slots := 0, locals := 0 } : Room) s m #[(.ref r0), (.int (4 : Int32))] below meth c s₁ [] 0 0 := Stand.of_body Bd
  have e0 : s₁.heap = h0 := by rw [← hh, Bd.state]; rfl
  have N0 := Fr.nil n0
  refine own_fw (A := s₁.setTop (mkF m 0 #[.val (.ref r0), .val (.int (4 : Int32))] [])) (fun t k => castTop (ef4 m r0 (4 : Int32)) k) ?_
  refine own_fw (A := s₁.setTop (mkF m 2 #[.val (.ref r0), .val (.int (4 : Int32))] [(.int (4 : Int32)), (.ref r0)])) (fun t k => ?_) ?_
  · show Steps p.tables e below (s₁.setTop (mkF m 0 #[.val (.ref r0), .val (.int (4 : Int32))] [])) t
    refine XS.aloadN X0.here hx rfl (hb hby d4_0) rfl rfl ?_
    show Steps p.tables e below (s₁.setTop (mkF m 1 #[.val (.ref r0), .val (.int (4 : Int32))] [(.ref r0)])) t
    refine XS.iloadN X0.here hx rfl (hb hby d4_1) rfl ?_
    exact k
  obtain ⟨cl4_1, Ar4_1, q4_1, S4_1, Ng4_1, Hs4_1, G4_1⟩ := id V_r0
  have hin4_1 : ¬ ((4 : Int32) < 0 ∨ cl4_1.slots.size ≤ ((4 : Int32)).toNatClampNeg) := inb_of S4_1 ⟨by decide, by decide⟩
  refine own_fw (X0.baloadBytes hx (j := (4 : Int32)) (v := (.int v4)) (by rw [e0]; exact Ar4_1.1) (State.isArrayOf_alike hZ.alike Ar4_1.2.1) Ar4_1.2.2 hin4_1 (Has.at Hs4_1 hin4_1 rfl) (g := (mkF m 2 #[.val (.ref r0), .val (.int (4 : Int32))] [(.int (4 : Int32)), (.ref r0)])) rfl rfl (hb hby d4_2)) ?_
  refine own_fw (A := s₁.setTop (mkF m 5 #[.val (.ref r0), .val (.int (4 : Int32))] [(.int (10 : Int32)), (.int v4)])) (fun t k => ?_) ?_
  · show Steps p.tables e below (s₁.setTop (mkF m 3 #[.val (.ref r0), .val (.int (4 : Int32))] [(.int v4)])) t
    refine XS.bipush X0.here hx rfl (hb hby d4_3) ?_
    exact k
  by_cases hc4_1 : v4 = (10 : Int32)
  · refine own_fw (A := s₁.setTop (mkF m 10 #[.val (.ref r0), .val (.int (4 : Int32))] [])) (fun t k => ?_) ?_
    · show Steps p.tables e below (s₁.setTop (mkF m 5 #[.val (.ref r0), .val (.int (4 : Int32))] [(.int (10 : Int32)), (.int v4)])) t
      refine XS.icmpYes X0.here hx rfl (pc0 := 5) (pc' := 10) rfl (hb hby d4_5) rfl (teq hc4_1).1 (by decide) (by decide) ?_
      exact k
    refine own_fw (A := s₁.setTop (mkF m 20 #[.val (.ref r0), .val (.int (4 : Int32))] [(.int (3 : Int32)), (.ref r0)])) (fun t k => ?_) ?_
    · show Steps p.tables e below (s₁.setTop (mkF m 10 #[.val (.ref r0), .val (.int (4 : Int32))] [])) t
      refine XS.iloadN X0.here hx rfl (hb hby d4_10) rfl ?_
      show Steps p.tables e below (s₁.setTop (mkF m 11 #[.val (.ref r0), .val (.int (4 : Int32))] [(.int (4 : Int32))])) t
      refine XS.ifYes X0.here hx rfl (pc0 := 11) (pc' := 16) rfl (hb hby d4_11) rfl ((if0 _ _).trans (feq (by decide : ¬ ((4 : Int32) = (0 : Int32)))).2) (by decide) (by decide) ?_
      show Steps p.tables e below (s₁.setTop (mkF m 16 #[.val (.ref r0), .val (.int (4 : Int32))] [])) t
      refine XS.aloadN X0.here hx rfl (hb hby d4_16) rfl rfl ?_
      show Steps p.tables e below (s₁.setTop (mkF m 17 #[.val (.ref r0), .val (.int (4 : Int32))] [(.ref r0)])) t
      refine XS.iloadN X0.here hx rfl (hb hby d4_17) rfl ?_
      show Steps p.tables e below (s₁.setTop (mkF m 18 #[.val (.ref r0), .val (.int (4 : Int32))] [(.int (4 : Int32)), (.ref r0)])) t
      refine XS.iconst X0.here hx rfl (hb hby d4_18) ?_
      show Steps p.tables e below (s₁.setTop (mkF m 19 #[.val (.ref r0), .val (.int (4 : Int32))] [(.int (1 : Int32)), (.int (4 : Int32)), (.ref r0)])) t
      refine XS.isub X0.here hx rfl (hb hby d4_19) rfl ?_
      exact k
    obtain ⟨cl4_2, Ar4_2, q4_2, S4_2, Ng4_2, Hs4_2, G4_2⟩ := id V_r0
    have hin4_2 : ¬ ((3 : Int32) < 0 ∨ cl4_2.slots.size ≤ ((3 : Int32)).toNatClampNeg) := inb_of S4_2 ⟨by decide, by decide⟩
    refine own_fw (X0.baloadBytes hx (j := (3 : Int32)) (v := (.int v3)) (by rw [e0]; exact Ar4_2.1) (State.isArrayOf_alike hZ.alike Ar4_2.2.1) Ar4_2.2.2 hin4_2 (Has.at Hs4_2 hin4_2 rfl) (g := (mkF m 20 #[.val (.ref r0), .val (.int (4 : Int32))] [(.int (3 : Int32)), (.ref r0)])) rfl rfl (hb hby d4_20)) ?_
    refine own_fw (A := s₁.setTop (mkF m 23 #[.val (.ref r0), .val (.int (4 : Int32))] [(.int (10 : Int32)), (.int v3)])) (fun t k => ?_) ?_
    · show Steps p.tables e below (s₁.setTop (mkF m 21 #[.val (.ref r0), .val (.int (4 : Int32))] [(.int v3)])) t
      refine XS.bipush X0.here hx rfl (hb hby d4_21) ?_
      exact k
    by_cases hc4_2 : v3 = (10 : Int32)
    · refine own_fw (A := s₁.setTop (mkF m 26 #[.val (.ref r0), .val (.int (4 : Int32))] [])) (fun t k => ?_) ?_
      · show Steps p.tables e below (s₁.setTop (mkF m 23 #[.val (.ref r0), .val (.int (4 : Int32))] [(.int (10 : Int32)), (.int v3)])) t
        refine XS.icmpNo X0.here hx rfl (hb hby d4_23) rfl (teq hc4_2).2 ?_
        exact k
      refine own_fw (A := s₁.setTop (mkF m 27 #[.val (.ref r0), .val (.int (4 : Int32))] [(.int (1 : Int32))])) (fun t k => ?_) ?_
      · show Steps p.tables e below (s₁.setTop (mkF m 26 #[.val (.ref r0), .val (.int (4 : Int32))] [])) t
        refine XS.iconst X0.here hx rfl (hb hby d4_26) ?_
        exact k
      obtain ⟨fs, hr, hrun, hended, hW, hsame⟩ := X0.leave (v := some (.int (nar .boolean (1 : Int32)))) (fun h => by rw [Bd.returns] at h; cases h)
      refine ⟨_, _, retN X0 hx (t := .boolean) Bd.returns (by simp) (hb hby d4_27) hr, hrun, hended, _, _, rfl, ?_, ⟨_, rfl⟩, hW, hsame.mono (by decide) (by decide)⟩
      have eh : (s₁.setFrames fs).heap = h0 := e0
      rw [eh]
      exact ⟨by rw [eF4, if_pos hc4_1, if_pos hc4_2], N0, rfl⟩
    · refine own_fw (A := s₁.setTop (mkF m 28 #[.val (.ref r0), .val (.int (4 : Int32))] [])) (fun t k => ?_) ?_
      · show Steps p.tables e below (s₁.setTop (mkF m 23 #[.val (.ref r0), .val (.int (4 : Int32))] [(.int (10 : Int32)), (.int v3)])) t
        refine XS.icmpYes X0.here hx rfl (pc0 := 23) (pc' := 28) rfl (hb hby d4_23) rfl (feq hc4_2).2 (by decide) (by decide) ?_
        exact k
      refine own_fw (A := s₁.setTop (mkF m 32 #[.val (.ref r0), .val (.int (4 : Int32))] [(.int (3 : Int32)), (.ref r0)])) (fun t k => ?_) ?_
      · show Steps p.tables e below (s₁.setTop (mkF m 28 #[.val (.ref r0), .val (.int (4 : Int32))] [])) t
        refine XS.aloadN X0.here hx rfl (hb hby d4_28) rfl rfl ?_
        show Steps p.tables e below (s₁.setTop (mkF m 29 #[.val (.ref r0), .val (.int (4 : Int32))] [(.ref r0)])) t
        refine XS.iloadN X0.here hx rfl (hb hby d4_29) rfl ?_
        show Steps p.tables e below (s₁.setTop (mkF m 30 #[.val (.ref r0), .val (.int (4 : Int32))] [(.int (4 : Int32)), (.ref r0)])) t
        refine XS.iconst X0.here hx rfl (hb hby d4_30) ?_
        show Steps p.tables e below (s₁.setTop (mkF m 31 #[.val (.ref r0), .val (.int (4 : Int32))] [(.int (1 : Int32)), (.int (4 : Int32)), (.ref r0)])) t
        refine XS.isub X0.here hx rfl (hb hby d4_31) rfl ?_
        exact k
      obtain ⟨cl4_3, Ar4_3, q4_3, S4_3, Ng4_3, Hs4_3, G4_3⟩ := id V_r0
      have hin4_3 : ¬ ((3 : Int32) < 0 ∨ cl4_3.slots.size ≤ ((3 : Int32)).toNatClampNeg) := inb_of S4_3 ⟨by decide, by decide⟩
      refine own_fw (X0.baloadBytes hx (j := (3 : Int32)) (v := (.int v3)) (by rw [e0]; exact Ar4_3.1) (State.isArrayOf_alike hZ.alike Ar4_3.2.1) Ar4_3.2.2 hin4_3 (Has.at Hs4_3 hin4_3 rfl) (g := (mkF m 32 #[.val (.ref r0), .val (.int (4 : Int32))] [(.int (3 : Int32)), (.ref r0)])) rfl rfl (hb hby d4_32)) ?_
      refine own_fw (A := s₁.setTop (mkF m 35 #[.val (.ref r0), .val (.int (4 : Int32))] [(.int (13 : Int32)), (.int v3)])) (fun t k => ?_) ?_
      · show Steps p.tables e below (s₁.setTop (mkF m 33 #[.val (.ref r0), .val (.int (4 : Int32))] [(.int v3)])) t
        refine XS.bipush X0.here hx rfl (hb hby d4_33) ?_
        exact k
      by_cases hc4_3 : v3 = (13 : Int32)
      · refine own_fw (A := s₁.setTop (mkF m 40 #[.val (.ref r0), .val (.int (4 : Int32))] [])) (fun t k => ?_) ?_
        · show Steps p.tables e below (s₁.setTop (mkF m 35 #[.val (.ref r0), .val (.int (4 : Int32))] [(.int (13 : Int32)), (.int v3)])) t
          refine XS.icmpYes X0.here hx rfl (pc0 := 35) (pc' := 40) rfl (hb hby d4_35) rfl (teq hc4_3).1 (by decide) (by decide) ?_
          exact k
        refine own_fw (A := s₁.setTop (mkF m 51 #[.val (.ref r0), .val (.int (4 : Int32))] [(.int (2 : Int32)), (.ref r0)])) (fun t k => ?_) ?_
        · show Steps p.tables e below (s₁.setTop (mkF m 40 #[.val (.ref r0), .val (.int (4 : Int32))] [])) t
          refine XS.iloadN X0.here hx rfl (hb hby d4_40) rfl ?_
          show Steps p.tables e below (s₁.setTop (mkF m 41 #[.val (.ref r0), .val (.int (4 : Int32))] [(.int (4 : Int32))])) t
          refine XS.iconst X0.here hx rfl (hb hby d4_41) ?_
          show Steps p.tables e below (s₁.setTop (mkF m 42 #[.val (.ref r0), .val (.int (4 : Int32))] [(.int (1 : Int32)), (.int (4 : Int32))])) t
          refine XS.icmpYes X0.here hx rfl (pc0 := 42) (pc' := 47) rfl (hb hby d4_42) rfl (feq (by decide : ¬ ((4 : Int32) = (1 : Int32)))).2 (by decide) (by decide) ?_
          show Steps p.tables e below (s₁.setTop (mkF m 47 #[.val (.ref r0), .val (.int (4 : Int32))] [])) t
          refine XS.aloadN X0.here hx rfl (hb hby d4_47) rfl rfl ?_
          show Steps p.tables e below (s₁.setTop (mkF m 48 #[.val (.ref r0), .val (.int (4 : Int32))] [(.ref r0)])) t
          refine XS.iloadN X0.here hx rfl (hb hby d4_48) rfl ?_
          show Steps p.tables e below (s₁.setTop (mkF m 49 #[.val (.ref r0), .val (.int (4 : Int32))] [(.int (4 : Int32)), (.ref r0)])) t
          refine XS.iconst X0.here hx rfl (hb hby d4_49) ?_
          show Steps p.tables e below (s₁.setTop (mkF m 50 #[.val (.ref r0), .val (.int (4 : Int32))] [(.int (2 : Int32)), (.int (4 : Int32)), (.ref r0)])) t
          refine XS.isub X0.here hx rfl (hb hby d4_50) rfl ?_
          exact k
        obtain ⟨cl4_4, Ar4_4, q4_4, S4_4, Ng4_4, Hs4_4, G4_4⟩ := id V_r0
        have hin4_4 : ¬ ((2 : Int32) < 0 ∨ cl4_4.slots.size ≤ ((2 : Int32)).toNatClampNeg) := inb_of S4_4 ⟨by decide, by decide⟩
        refine own_fw (X0.baloadBytes hx (j := (2 : Int32)) (v := (.int v2)) (by rw [e0]; exact Ar4_4.1) (State.isArrayOf_alike hZ.alike Ar4_4.2.1) Ar4_4.2.2 hin4_4 (Has.at Hs4_4 hin4_4 rfl) (g := (mkF m 51 #[.val (.ref r0), .val (.int (4 : Int32))] [(.int (2 : Int32)), (.ref r0)])) rfl rfl (hb hby d4_51)) ?_
        refine own_fw (A := s₁.setTop (mkF m 54 #[.val (.ref r0), .val (.int (4 : Int32))] [(.int (10 : Int32)), (.int v2)])) (fun t k => ?_) ?_
        · show Steps p.tables e below (s₁.setTop (mkF m 52 #[.val (.ref r0), .val (.int (4 : Int32))] [(.int v2)])) t
          refine XS.bipush X0.here hx rfl (hb hby d4_52) ?_
          exact k
        by_cases hc4_4 : v2 = (10 : Int32)
        · refine own_fw (A := s₁.setTop (mkF m 57 #[.val (.ref r0), .val (.int (4 : Int32))] [])) (fun t k => ?_) ?_
          · show Steps p.tables e below (s₁.setTop (mkF m 54 #[.val (.ref r0), .val (.int (4 : Int32))] [(.int (10 : Int32)), (.int v2)])) t
            refine XS.icmpNo X0.here hx rfl (hb hby d4_54) rfl (teq hc4_4).2 ?_
            exact k
          refine own_fw (A := s₁.setTop (mkF m 62 #[.val (.ref r0), .val (.int (4 : Int32))] [(.int (1 : Int32))])) (fun t k => ?_) ?_
          · show Steps p.tables e below (s₁.setTop (mkF m 57 #[.val (.ref r0), .val (.int (4 : Int32))] [])) t
            refine XS.iconst X0.here hx rfl (hb hby d4_57) ?_
            show Steps p.tables e below (s₁.setTop (mkF m 58 #[.val (.ref r0), .val (.int (4 : Int32))] [(.int (1 : Int32))])) t
            refine XS.goto X0.here hx rfl (pc0 := 58) (pc' := 62) rfl (hb hby d4_58) (by decide) (by decide) ?_
            exact k
          obtain ⟨fs, hr, hrun, hended, hW, hsame⟩ := X0.leave (v := some (.int (nar .boolean (1 : Int32)))) (fun h => by rw [Bd.returns] at h; cases h)
          refine ⟨_, _, retN X0 hx (t := .boolean) Bd.returns (by simp) (hb hby d4_62) hr, hrun, hended, _, _, rfl, ?_, ⟨_, rfl⟩, hW, hsame.mono (by decide) (by decide)⟩
          have eh : (s₁.setFrames fs).heap = h0 := e0
          rw [eh]
          exact ⟨by rw [eF4, if_pos hc4_1, if_neg hc4_2, if_pos hc4_3, if_pos hc4_4], N0, rfl⟩
        · refine own_fw (A := s₁.setTop (mkF m 61 #[.val (.ref r0), .val (.int (4 : Int32))] [])) (fun t k => ?_) ?_
          · show Steps p.tables e below (s₁.setTop (mkF m 54 #[.val (.ref r0), .val (.int (4 : Int32))] [(.int (10 : Int32)), (.int v2)])) t
            refine XS.icmpYes X0.here hx rfl (pc0 := 54) (pc' := 61) rfl (hb hby d4_54) rfl (feq hc4_4).2 (by decide) (by decide) ?_
            exact k
          refine own_fw (A := s₁.setTop (mkF m 62 #[.val (.ref r0), .val (.int (4 : Int32))] [(.int (0 : Int32))])) (fun t k => ?_) ?_
          · show Steps p.tables e below (s₁.setTop (mkF m 61 #[.val (.ref r0), .val (.int (4 : Int32))] [])) t
            refine XS.iconst X0.here hx rfl (hb hby d4_61) ?_
            exact k
          obtain ⟨fs, hr, hrun, hended, hW, hsame⟩ := X0.leave (v := some (.int (nar .boolean (0 : Int32)))) (fun h => by rw [Bd.returns] at h; cases h)
          refine ⟨_, _, retN X0 hx (t := .boolean) Bd.returns (by simp) (hb hby d4_62) hr, hrun, hended, _, _, rfl, ?_, ⟨_, rfl⟩, hW, hsame.mono (by decide) (by decide)⟩
          have eh : (s₁.setFrames fs).heap = h0 := e0
          rw [eh]
          exact ⟨by rw [eF4, if_pos hc4_1, if_neg hc4_2, if_pos hc4_3, if_neg hc4_4], N0, rfl⟩
      · refine own_fw (A := s₁.setTop (mkF m 38 #[.val (.ref r0), .val (.int (4 : Int32))] [])) (fun t k => ?_) ?_
        · show Steps p.tables e below (s₁.setTop (mkF m 35 #[.val (.ref r0), .val (.int (4 : Int32))] [(.int (13 : Int32)), (.int v3)])) t
          refine XS.icmpNo X0.here hx rfl (hb hby d4_35) rfl (feq hc4_3).1 ?_
          exact k
        refine own_fw (A := s₁.setTop (mkF m 39 #[.val (.ref r0), .val (.int (4 : Int32))] [(.int (0 : Int32))])) (fun t k => ?_) ?_
        · show Steps p.tables e below (s₁.setTop (mkF m 38 #[.val (.ref r0), .val (.int (4 : Int32))] [])) t
          refine XS.iconst X0.here hx rfl (hb hby d4_38) ?_
          exact k
        obtain ⟨fs, hr, hrun, hended, hW, hsame⟩ := X0.leave (v := some (.int (nar .boolean (0 : Int32)))) (fun h => by rw [Bd.returns] at h; cases h)
        refine ⟨_, _, retN X0 hx (t := .boolean) Bd.returns (by simp) (hb hby d4_39) hr, hrun, hended, _, _, rfl, ?_, ⟨_, rfl⟩, hW, hsame.mono (by decide) (by decide)⟩
        have eh : (s₁.setFrames fs).heap = h0 := e0
        rw [eh]
        exact ⟨by rw [eF4, if_pos hc4_1, if_neg hc4_2, if_neg hc4_3], N0, rfl⟩
  · refine own_fw (A := s₁.setTop (mkF m 8 #[.val (.ref r0), .val (.int (4 : Int32))] [])) (fun t k => ?_) ?_
    · show Steps p.tables e below (s₁.setTop (mkF m 5 #[.val (.ref r0), .val (.int (4 : Int32))] [(.int (10 : Int32)), (.int v4)])) t
      refine XS.icmpNo X0.here hx rfl (hb hby d4_5) rfl (feq hc4_1).1 ?_
      exact k
    refine own_fw (A := s₁.setTop (mkF m 9 #[.val (.ref r0), .val (.int (4 : Int32))] [(.int (0 : Int32))])) (fun t k => ?_) ?_
    · show Steps p.tables e below (s₁.setTop (mkF m 8 #[.val (.ref r0), .val (.int (4 : Int32))] [])) t
      refine XS.iconst X0.here hx rfl (hb hby d4_8) ?_
      exact k
    obtain ⟨fs, hr, hrun, hended, hW, hsame⟩ := X0.leave (v := some (.int (nar .boolean (0 : Int32)))) (fun h => by rw [Bd.returns] at h; cases h)
    refine ⟨_, _, retN X0 hx (t := .boolean) Bd.returns (by simp) (hb hby d4_9) hr, hrun, hended, _, _, rfl, ?_, ⟨_, rfl⟩, hW, hsame.mono (by decide) (by decide)⟩
    have eh : (s₁.setFrames fs).heap = h0 := e0
    rw [eh]
    exact ⟨by rw [eF4, if_neg hc4_1], N0, rfl⟩
def eF5 (v0 : Int32) (v1 : Int32) (v2 : Int32) (v3 : Int32) (v4 : Int32) (v5 : Int32) : Int32 := (if v5 = (10 : Int32) then (if v4 = (10 : Int32) then (nar .boolean (1 : Int32)) else (if v4 = (13 : Int32) then (if v3 = (10 : Int32) then (nar .boolean (1 : Int32)) else (nar .boolean (0 : Int32))) else (nar .boolean (0 : Int32)))) else (nar .boolean (0 : Int32)))
set_option maxRecDepth 65536 in
set_option maxHeartbeats 40000000 in
theorem rmL5 (l : Launch) (Z : State) (a0 : Array Value) (hw : ∀ d ∈ tables_1, d.before a0 Z = true) (ws : List Jvm.Cond) (r0 : Addr) (k : ClassId) (v0 : Int32) (v1 : Int32) (v2 : Int32) (v3 : Int32) (v4 : Int32) (v5 : Int32) (h0 : Heap) (n0 : Nat) (Z0 : n0 ≤ h0.size) (V_r0 : Arv Z h0 r0 k .byte (6 : Int32) [(.int v0), (.int v1), (.int v2), (.int v3), (.int v4), (.int v5)] (.int (0 : Int32))) :
    MetFree l (⟨"com/example/finalmark/finalmark/RequestHeadEndPinLaw", "emptyLineEnd", "([BI)Z"⟩ : MethodName) (head1 (Jvm.Cond.code (⟨"com/example/finalmark/finalmark/RequestHeadEndPinLaw", "emptyLineEnd", "([BI)Z"⟩ : MethodName) method_5_code 2 (some .boolean) :: ws) ({ frames := 0, cells := 0, slots := 0, locals := 0 } : Room)) (fun a U => a = #[(.ref r0), (.int (5 : Int32))] ∧ Z.Warmed39 U.vm ∧ U.heap = h0) (fun _ _ _ _ _ => True) (fun _ U o U' => ∃ v L, o = .returned v ∧ Q4 Z (eF5 v0 v1 v2 v3 v4 v5) h0 n0 v U'.heap L ∧ FrameEnd U o U' L ({ frames := 0, cells := 0, slots := 0, locals := 0 } : Room).cells ({ frames := 0, cells := 0, slots := 0, locals := 0 } : Room).slots) := by
  refine MetFree.of_bodySF (plainFor_of_name pn4) hisR ?_
  intro p e s m args below meth c s₁ Bd hml0 hP hK
  obtain ⟨rfl, hZ, hh⟩ := hP
  have hx := Bd.exec
  have hby := Bd.bytes
  have hml : c.maxLocals = 2 := hml0
  have hown : s.vm.findClass "com/example/finalmark/finalmark/RequestHeadEndPinLaw" = some m.cls := findClass_of_methodNamed Bd.named
  have hnm := (name_of_methodNamed Bd.named Bd.method).1
  have X0 : Stand p l e ({ frames := 0, cells := 0, slots := 0, locals := 0 } : Room) s m #[(.ref r0), (.int (5 : Int32))] below meth c s₁ [] 0 0 := Stand.of_body Bd
  have e0 : s₁.heap = h0 := by rw [← hh, Bd.state]; rfl
  have N0 := Fr.nil n0
  refine own_fw (A := s₁.setTop (mkF m 0 #[.val (.ref r0), .val (.int (5 : Int32))] [])) (fun t k => castTop (ef4 m r0 (5 : Int32)) k) ?_
  refine own_fw (A := s₁.setTop (mkF m 2 #[.val (.ref r0), .val (.int (5 : Int32))] [(.int (5 : Int32)), (.ref r0)])) (fun t k => ?_) ?_
  · show Steps p.tables e below (s₁.setTop (mkF m 0 #[.val (.ref r0), .val (.int (5 : Int32))] [])) t
    refine XS.aloadN X0.here hx rfl (hb hby d4_0) rfl rfl ?_
    show Steps p.tables e below (s₁.setTop (mkF m 1 #[.val (.ref r0), .val (.int (5 : Int32))] [(.ref r0)])) t
    refine XS.iloadN X0.here hx rfl (hb hby d4_1) rfl ?_
    exact k
  obtain ⟨cl4_1, Ar4_1, q4_1, S4_1, Ng4_1, Hs4_1, G4_1⟩ := id V_r0
  have hin4_1 : ¬ ((5 : Int32) < 0 ∨ cl4_1.slots.size ≤ ((5 : Int32)).toNatClampNeg) := inb_of S4_1 ⟨by decide, by decide⟩
  refine own_fw (X0.baloadBytes hx (j := (5 : Int32)) (v := (.int v5)) (by rw [e0]; exact Ar4_1.1) (State.isArrayOf_alike hZ.alike Ar4_1.2.1) Ar4_1.2.2 hin4_1 (Has.at Hs4_1 hin4_1 rfl) (g := (mkF m 2 #[.val (.ref r0), .val (.int (5 : Int32))] [(.int (5 : Int32)), (.ref r0)])) rfl rfl (hb hby d4_2)) ?_
  refine own_fw (A := s₁.setTop (mkF m 5 #[.val (.ref r0), .val (.int (5 : Int32))] [(.int (10 : Int32)), (.int v5)])) (fun t k => ?_) ?_
  · show Steps p.tables e below (s₁.setTop (mkF m 3 #[.val (.ref r0), .val (.int (5 : Int32))] [(.int v5)])) t
    refine XS.bipush X0.here hx rfl (hb hby d4_3) ?_
    exact k
  by_cases hc4_1 : v5 = (10 : Int32)
  · refine own_fw (A := s₁.setTop (mkF m 10 #[.val (.ref r0), .val (.int (5 : Int32))] [])) (fun t k => ?_) ?_
    · show Steps p.tables e below (s₁.setTop (mkF m 5 #[.val (.ref r0), .val (.int (5 : Int32))] [(.int (10 : Int32)), (.int v5)])) t
      refine XS.icmpYes X0.here hx rfl (pc0 := 5) (pc' := 10) rfl (hb hby d4_5) rfl (teq hc4_1).1 (by decide) (by decide) ?_
      exact k
    refine own_fw (A := s₁.setTop (mkF m 20 #[.val (.ref r0), .val (.int (5 : Int32))] [(.int (4 : Int32)), (.ref r0)])) (fun t k => ?_) ?_
    · show Steps p.tables e below (s₁.setTop (mkF m 10 #[.val (.ref r0), .val (.int (5 : Int32))] [])) t
      refine XS.iloadN X0.here hx rfl (hb hby d4_10) rfl ?_
      show Steps p.tables e below (s₁.setTop (mkF m 11 #[.val (.ref r0), .val (.int (5 : Int32))] [(.int (5 : Int32))])) t
      refine XS.ifYes X0.here hx rfl (pc0 := 11) (pc' := 16) rfl (hb hby d4_11) rfl ((if0 _ _).trans (feq (by decide : ¬ ((5 : Int32) = (0 : Int32)))).2) (by decide) (by decide) ?_
      show Steps p.tables e below (s₁.setTop (mkF m 16 #[.val (.ref r0), .val (.int (5 : Int32))] [])) t
      refine XS.aloadN X0.here hx rfl (hb hby d4_16) rfl rfl ?_
      show Steps p.tables e below (s₁.setTop (mkF m 17 #[.val (.ref r0), .val (.int (5 : Int32))] [(.ref r0)])) t
      refine XS.iloadN X0.here hx rfl (hb hby d4_17) rfl ?_
      show Steps p.tables e below (s₁.setTop (mkF m 18 #[.val (.ref r0), .val (.int (5 : Int32))] [(.int (5 : Int32)), (.ref r0)])) t
      refine XS.iconst X0.here hx rfl (hb hby d4_18) ?_
      show Steps p.tables e below (s₁.setTop (mkF m 19 #[.val (.ref r0), .val (.int (5 : Int32))] [(.int (1 : Int32)), (.int (5 : Int32)), (.ref r0)])) t
      refine XS.isub X0.here hx rfl (hb hby d4_19) rfl ?_
      exact k
    obtain ⟨cl4_2, Ar4_2, q4_2, S4_2, Ng4_2, Hs4_2, G4_2⟩ := id V_r0
    have hin4_2 : ¬ ((4 : Int32) < 0 ∨ cl4_2.slots.size ≤ ((4 : Int32)).toNatClampNeg) := inb_of S4_2 ⟨by decide, by decide⟩
    refine own_fw (X0.baloadBytes hx (j := (4 : Int32)) (v := (.int v4)) (by rw [e0]; exact Ar4_2.1) (State.isArrayOf_alike hZ.alike Ar4_2.2.1) Ar4_2.2.2 hin4_2 (Has.at Hs4_2 hin4_2 rfl) (g := (mkF m 20 #[.val (.ref r0), .val (.int (5 : Int32))] [(.int (4 : Int32)), (.ref r0)])) rfl rfl (hb hby d4_20)) ?_
    refine own_fw (A := s₁.setTop (mkF m 23 #[.val (.ref r0), .val (.int (5 : Int32))] [(.int (10 : Int32)), (.int v4)])) (fun t k => ?_) ?_
    · show Steps p.tables e below (s₁.setTop (mkF m 21 #[.val (.ref r0), .val (.int (5 : Int32))] [(.int v4)])) t
      refine XS.bipush X0.here hx rfl (hb hby d4_21) ?_
      exact k
    by_cases hc4_2 : v4 = (10 : Int32)
    · refine own_fw (A := s₁.setTop (mkF m 26 #[.val (.ref r0), .val (.int (5 : Int32))] [])) (fun t k => ?_) ?_
      · show Steps p.tables e below (s₁.setTop (mkF m 23 #[.val (.ref r0), .val (.int (5 : Int32))] [(.int (10 : Int32)), (.int v4)])) t
        refine XS.icmpNo X0.here hx rfl (hb hby d4_23) rfl (teq hc4_2).2 ?_
        exact k
      refine own_fw (A := s₁.setTop (mkF m 27 #[.val (.ref r0), .val (.int (5 : Int32))] [(.int (1 : Int32))])) (fun t k => ?_) ?_
      · show Steps p.tables e below (s₁.setTop (mkF m 26 #[.val (.ref r0), .val (.int (5 : Int32))] [])) t
        refine XS.iconst X0.here hx rfl (hb hby d4_26) ?_
        exact k
      obtain ⟨fs, hr, hrun, hended, hW, hsame⟩ := X0.leave (v := some (.int (nar .boolean (1 : Int32)))) (fun h => by rw [Bd.returns] at h; cases h)
      refine ⟨_, _, retN X0 hx (t := .boolean) Bd.returns (by simp) (hb hby d4_27) hr, hrun, hended, _, _, rfl, ?_, ⟨_, rfl⟩, hW, hsame.mono (by decide) (by decide)⟩
      have eh : (s₁.setFrames fs).heap = h0 := e0
      rw [eh]
      exact ⟨by rw [eF5, if_pos hc4_1, if_pos hc4_2], N0, rfl⟩
    · refine own_fw (A := s₁.setTop (mkF m 28 #[.val (.ref r0), .val (.int (5 : Int32))] [])) (fun t k => ?_) ?_
      · show Steps p.tables e below (s₁.setTop (mkF m 23 #[.val (.ref r0), .val (.int (5 : Int32))] [(.int (10 : Int32)), (.int v4)])) t
        refine XS.icmpYes X0.here hx rfl (pc0 := 23) (pc' := 28) rfl (hb hby d4_23) rfl (feq hc4_2).2 (by decide) (by decide) ?_
        exact k
      refine own_fw (A := s₁.setTop (mkF m 32 #[.val (.ref r0), .val (.int (5 : Int32))] [(.int (4 : Int32)), (.ref r0)])) (fun t k => ?_) ?_
      · show Steps p.tables e below (s₁.setTop (mkF m 28 #[.val (.ref r0), .val (.int (5 : Int32))] [])) t
        refine XS.aloadN X0.here hx rfl (hb hby d4_28) rfl rfl ?_
        show Steps p.tables e below (s₁.setTop (mkF m 29 #[.val (.ref r0), .val (.int (5 : Int32))] [(.ref r0)])) t
        refine XS.iloadN X0.here hx rfl (hb hby d4_29) rfl ?_
        show Steps p.tables e below (s₁.setTop (mkF m 30 #[.val (.ref r0), .val (.int (5 : Int32))] [(.int (5 : Int32)), (.ref r0)])) t
        refine XS.iconst X0.here hx rfl (hb hby d4_30) ?_
        show Steps p.tables e below (s₁.setTop (mkF m 31 #[.val (.ref r0), .val (.int (5 : Int32))] [(.int (1 : Int32)), (.int (5 : Int32)), (.ref r0)])) t
        refine XS.isub X0.here hx rfl (hb hby d4_31) rfl ?_
        exact k
      obtain ⟨cl4_3, Ar4_3, q4_3, S4_3, Ng4_3, Hs4_3, G4_3⟩ := id V_r0
      have hin4_3 : ¬ ((4 : Int32) < 0 ∨ cl4_3.slots.size ≤ ((4 : Int32)).toNatClampNeg) := inb_of S4_3 ⟨by decide, by decide⟩
      refine own_fw (X0.baloadBytes hx (j := (4 : Int32)) (v := (.int v4)) (by rw [e0]; exact Ar4_3.1) (State.isArrayOf_alike hZ.alike Ar4_3.2.1) Ar4_3.2.2 hin4_3 (Has.at Hs4_3 hin4_3 rfl) (g := (mkF m 32 #[.val (.ref r0), .val (.int (5 : Int32))] [(.int (4 : Int32)), (.ref r0)])) rfl rfl (hb hby d4_32)) ?_
      refine own_fw (A := s₁.setTop (mkF m 35 #[.val (.ref r0), .val (.int (5 : Int32))] [(.int (13 : Int32)), (.int v4)])) (fun t k => ?_) ?_
      · show Steps p.tables e below (s₁.setTop (mkF m 33 #[.val (.ref r0), .val (.int (5 : Int32))] [(.int v4)])) t
        refine XS.bipush X0.here hx rfl (hb hby d4_33) ?_
        exact k
      by_cases hc4_3 : v4 = (13 : Int32)
      · refine own_fw (A := s₁.setTop (mkF m 40 #[.val (.ref r0), .val (.int (5 : Int32))] [])) (fun t k => ?_) ?_
        · show Steps p.tables e below (s₁.setTop (mkF m 35 #[.val (.ref r0), .val (.int (5 : Int32))] [(.int (13 : Int32)), (.int v4)])) t
          refine XS.icmpYes X0.here hx rfl (pc0 := 35) (pc' := 40) rfl (hb hby d4_35) rfl (teq hc4_3).1 (by decide) (by decide) ?_
          exact k
        refine own_fw (A := s₁.setTop (mkF m 51 #[.val (.ref r0), .val (.int (5 : Int32))] [(.int (3 : Int32)), (.ref r0)])) (fun t k => ?_) ?_
        · show Steps p.tables e below (s₁.setTop (mkF m 40 #[.val (.ref r0), .val (.int (5 : Int32))] [])) t
          refine XS.iloadN X0.here hx rfl (hb hby d4_40) rfl ?_
          show Steps p.tables e below (s₁.setTop (mkF m 41 #[.val (.ref r0), .val (.int (5 : Int32))] [(.int (5 : Int32))])) t
          refine XS.iconst X0.here hx rfl (hb hby d4_41) ?_
          show Steps p.tables e below (s₁.setTop (mkF m 42 #[.val (.ref r0), .val (.int (5 : Int32))] [(.int (1 : Int32)), (.int (5 : Int32))])) t
          refine XS.icmpYes X0.here hx rfl (pc0 := 42) (pc' := 47) rfl (hb hby d4_42) rfl (feq (by decide : ¬ ((5 : Int32) = (1 : Int32)))).2 (by decide) (by decide) ?_
          show Steps p.tables e below (s₁.setTop (mkF m 47 #[.val (.ref r0), .val (.int (5 : Int32))] [])) t
          refine XS.aloadN X0.here hx rfl (hb hby d4_47) rfl rfl ?_
          show Steps p.tables e below (s₁.setTop (mkF m 48 #[.val (.ref r0), .val (.int (5 : Int32))] [(.ref r0)])) t
          refine XS.iloadN X0.here hx rfl (hb hby d4_48) rfl ?_
          show Steps p.tables e below (s₁.setTop (mkF m 49 #[.val (.ref r0), .val (.int (5 : Int32))] [(.int (5 : Int32)), (.ref r0)])) t
          refine XS.iconst X0.here hx rfl (hb hby d4_49) ?_
          show Steps p.tables e below (s₁.setTop (mkF m 50 #[.val (.ref r0), .val (.int (5 : Int32))] [(.int (2 : Int32)), (.int (5 : Int32)), (.ref r0)])) t
          refine XS.isub X0.here hx rfl (hb hby d4_50) rfl ?_
          exact k
        obtain ⟨cl4_4, Ar4_4, q4_4, S4_4, Ng4_4, Hs4_4, G4_4⟩ := id V_r0
        have hin4_4 : ¬ ((3 : Int32) < 0 ∨ cl4_4.slots.size ≤ ((3 : Int32)).toNatClampNeg) := inb_of S4_4 ⟨by decide, by decide⟩
        refine own_fw (X0.baloadBytes hx (j := (3 : Int32)) (v := (.int v3)) (by rw [e0]; exact Ar4_4.1) (State.isArrayOf_alike hZ.alike Ar4_4.2.1) Ar4_4.2.2 hin4_4 (Has.at Hs4_4 hin4_4 rfl) (g := (mkF m 51 #[.val (.ref r0), .val (.int (5 : Int32))] [(.int (3 : Int32)), (.ref r0)])) rfl rfl (hb hby d4_51)) ?_
        refine own_fw (A := s₁.setTop (mkF m 54 #[.val (.ref r0), .val (.int (5 : Int32))] [(.int (10 : Int32)), (.int v3)])) (fun t k => ?_) ?_
        · show Steps p.tables e below (s₁.setTop (mkF m 52 #[.val (.ref r0), .val (.int (5 : Int32))] [(.int v3)])) t
          refine XS.bipush X0.here hx rfl (hb hby d4_52) ?_
          exact k
        by_cases hc4_4 : v3 = (10 : Int32)
        · refine own_fw (A := s₁.setTop (mkF m 57 #[.val (.ref r0), .val (.int (5 : Int32))] [])) (fun t k => ?_) ?_
          · show Steps p.tables e below (s₁.setTop (mkF m 54 #[.val (.ref r0), .val (.int (5 : Int32))] [(.int (10 : Int32)), (.int v3)])) t
            refine XS.icmpNo X0.here hx rfl (hb hby d4_54) rfl (teq hc4_4).2 ?_
            exact k
          refine own_fw (A := s₁.setTop (mkF m 62 #[.val (.ref r0), .val (.int (5 : Int32))] [(.int (1 : Int32))])) (fun t k => ?_) ?_
          · show Steps p.tables e below (s₁.setTop (mkF m 57 #[.val (.ref r0), .val (.int (5 : Int32))] [])) t
            refine XS.iconst X0.here hx rfl (hb hby d4_57) ?_
            show Steps p.tables e below (s₁.setTop (mkF m 58 #[.val (.ref r0), .val (.int (5 : Int32))] [(.int (1 : Int32))])) t
            refine XS.goto X0.here hx rfl (pc0 := 58) (pc' := 62) rfl (hb hby d4_58) (by decide) (by decide) ?_
            exact k
          obtain ⟨fs, hr, hrun, hended, hW, hsame⟩ := X0.leave (v := some (.int (nar .boolean (1 : Int32)))) (fun h => by rw [Bd.returns] at h; cases h)
          refine ⟨_, _, retN X0 hx (t := .boolean) Bd.returns (by simp) (hb hby d4_62) hr, hrun, hended, _, _, rfl, ?_, ⟨_, rfl⟩, hW, hsame.mono (by decide) (by decide)⟩
          have eh : (s₁.setFrames fs).heap = h0 := e0
          rw [eh]
          exact ⟨by rw [eF5, if_pos hc4_1, if_neg hc4_2, if_pos hc4_3, if_pos hc4_4], N0, rfl⟩
        · refine own_fw (A := s₁.setTop (mkF m 61 #[.val (.ref r0), .val (.int (5 : Int32))] [])) (fun t k => ?_) ?_
          · show Steps p.tables e below (s₁.setTop (mkF m 54 #[.val (.ref r0), .val (.int (5 : Int32))] [(.int (10 : Int32)), (.int v3)])) t
            refine XS.icmpYes X0.here hx rfl (pc0 := 54) (pc' := 61) rfl (hb hby d4_54) rfl (feq hc4_4).2 (by decide) (by decide) ?_
            exact k
          refine own_fw (A := s₁.setTop (mkF m 62 #[.val (.ref r0), .val (.int (5 : Int32))] [(.int (0 : Int32))])) (fun t k => ?_) ?_
          · show Steps p.tables e below (s₁.setTop (mkF m 61 #[.val (.ref r0), .val (.int (5 : Int32))] [])) t
            refine XS.iconst X0.here hx rfl (hb hby d4_61) ?_
            exact k
          obtain ⟨fs, hr, hrun, hended, hW, hsame⟩ := X0.leave (v := some (.int (nar .boolean (0 : Int32)))) (fun h => by rw [Bd.returns] at h; cases h)
          refine ⟨_, _, retN X0 hx (t := .boolean) Bd.returns (by simp) (hb hby d4_62) hr, hrun, hended, _, _, rfl, ?_, ⟨_, rfl⟩, hW, hsame.mono (by decide) (by decide)⟩
          have eh : (s₁.setFrames fs).heap = h0 := e0
          rw [eh]
          exact ⟨by rw [eF5, if_pos hc4_1, if_neg hc4_2, if_pos hc4_3, if_neg hc4_4], N0, rfl⟩
      · refine own_fw (A := s₁.setTop (mkF m 38 #[.val (.ref r0), .val (.int (5 : Int32))] [])) (fun t k => ?_) ?_
        · show Steps p.tables e below (s₁.setTop (mkF m 35 #[.val (.ref r0), .val (.int (5 : Int32))] [(.int (13 : Int32)), (.int v4)])) t
          refine XS.icmpNo X0.here hx rfl (hb hby d4_35) rfl (feq hc4_3).1 ?_
          exact k
        refine own_fw (A := s₁.setTop (mkF m 39 #[.val (.ref r0), .val (.int (5 : Int32))] [(.int (0 : Int32))])) (fun t k => ?_) ?_
        · show Steps p.tables e below (s₁.setTop (mkF m 38 #[.val (.ref r0), .val (.int (5 : Int32))] [])) t
          refine XS.iconst X0.here hx rfl (hb hby d4_38) ?_
          exact k
        obtain ⟨fs, hr, hrun, hended, hW, hsame⟩ := X0.leave (v := some (.int (nar .boolean (0 : Int32)))) (fun h => by rw [Bd.returns] at h; cases h)
        refine ⟨_, _, retN X0 hx (t := .boolean) Bd.returns (by simp) (hb hby d4_39) hr, hrun, hended, _, _, rfl, ?_, ⟨_, rfl⟩, hW, hsame.mono (by decide) (by decide)⟩
        have eh : (s₁.setFrames fs).heap = h0 := e0
        rw [eh]
        exact ⟨by rw [eF5, if_pos hc4_1, if_neg hc4_2, if_neg hc4_3], N0, rfl⟩
  · refine own_fw (A := s₁.setTop (mkF m 8 #[.val (.ref r0), .val (.int (5 : Int32))] [])) (fun t k => ?_) ?_
    · show Steps p.tables e below (s₁.setTop (mkF m 5 #[.val (.ref r0), .val (.int (5 : Int32))] [(.int (10 : Int32)), (.int v5)])) t
      refine XS.icmpNo X0.here hx rfl (hb hby d4_5) rfl (feq hc4_1).1 ?_
      exact k
    refine own_fw (A := s₁.setTop (mkF m 9 #[.val (.ref r0), .val (.int (5 : Int32))] [(.int (0 : Int32))])) (fun t k => ?_) ?_
    · show Steps p.tables e below (s₁.setTop (mkF m 8 #[.val (.ref r0), .val (.int (5 : Int32))] [])) t
      refine XS.iconst X0.here hx rfl (hb hby d4_8) ?_
      exact k
    obtain ⟨fs, hr, hrun, hended, hW, hsame⟩ := X0.leave (v := some (.int (nar .boolean (0 : Int32)))) (fun h => by rw [Bd.returns] at h; cases h)
    refine ⟨_, _, retN X0 hx (t := .boolean) Bd.returns (by simp) (hb hby d4_9) hr, hrun, hended, _, _, rfl, ?_, ⟨_, rfl⟩, hW, hsame.mono (by decide) (by decide)⟩
    have eh : (s₁.setFrames fs).heap = h0 := e0
    rw [eh]
    exact ⟨by rw [eF5, if_neg hc4_1], N0, rfl⟩
theorem d2_0 : decode method_4_code 0 = .ok (.iload_n 1, 1) := by decide +kernel
theorem d2_1 : decode method_4_code 1 = .ok (.iload_n 2, 1) := by decide +kernel
theorem d2_2 : decode method_4_code 2 = .ok (.if_icmp .lt 20, 3) := by decide +kernel
theorem d2_5 : decode method_4_code 5 = .ok (.iload_n 1, 1) := by decide +kernel
theorem d2_6 : decode method_4_code 6 = .ok (.iload_n 3, 1) := by decide +kernel
theorem d2_7 : decode method_4_code 7 = .ok (.if_icmp .ge 15, 3) := by decide +kernel
theorem d2_10 : decode method_4_code 10 = .ok (.aload_n 0, 1) := by decide +kernel
theorem d2_11 : decode method_4_code 11 = .ok (.iload_n 1, 1) := by decide +kernel
theorem d2_12 : decode method_4_code 12 = .ok (.invokestatic 24, 3) := by decide +kernel
theorem d2_15 : decode method_4_code 15 = .ok (.ifCond .eq 7, 3) := by decide +kernel
theorem d2_18 : decode method_4_code 18 = .ok (.iconst 1, 1) := by decide +kernel
theorem d2_19 : decode method_4_code 19 = .ok (.goto 4, 3) := by decide +kernel
theorem d2_22 : decode method_4_code 22 = .ok (.iconst 0, 1) := by decide +kernel
theorem d2_23 : decode method_4_code 23 = .ok (.ireturn, 1) := by decide +kernel
theorem pn2 : plainName "com/example/finalmark/finalmark/RequestHeadEndPinLaw" = true := by first | (simp [plainName, overriddenIn]; done) | decide +kernel
theorem pd2_0 : parseMethodDescriptor "([BI)Z" = some ⟨[(.array .byte), .int], some .boolean⟩ := by decide +kernel
theorem ef2 (m : MethodId) (r0 : Addr) (p1 : Int32) (p2 : Int32) (p3 : Int32) : entryFrame m #[(.ref r0), (.int p1), (.int p2), (.int p3)] 4 = mkF m 0 #[.val (.ref r0), .val (.int p1), .val (.int p2), .val (.int p3)] [] := by first | (simp [entryFrame, mkF, argsToLocals, Value.category]; done) | rfl
def Q2 (Z : State) (z : Int32) (h0 : Heap) (n0 : Nat) (v : Option Value) (h : Heap) (L : List Loc) : Prop := v = some (.int z) ∧ Fr n0 L ∧ h = h0
def hF0 (v0 : Int32) (v1 : Int32) (v2 : Int32) (v3 : Int32) (v4 : Int32) (v5 : Int32) (p2 : Int32) (p3 : Int32) : Int32 := (if (0 : Int32) < p2 then (nar .boolean (0 : Int32)) else (if (0 : Int32) < p3 then (if (eF0 v0 v1 v2 v3 v4 v5) = (0 : Int32) then (nar .boolean (0 : Int32)) else (nar .boolean (1 : Int32))) else (nar .boolean (0 : Int32))))
set_option maxRecDepth 65536 in
set_option maxHeartbeats 40000000 in
theorem rmH0 (l : Launch) (Z : State) (a0 : Array Value) (hw : ∀ d ∈ tables_1, d.before a0 Z = true) (ws : List Jvm.Cond) (r0 : Addr) (p2 : Int32) (p3 : Int32) (k : ClassId) (v0 : Int32) (v1 : Int32) (v2 : Int32) (v3 : Int32) (v4 : Int32) (v5 : Int32) (h0 : Heap) (n0 : Nat) (Z0 : n0 ≤ h0.size) (V_r0 : Arv Z h0 r0 k .byte (6 : Int32) [(.int v0), (.int v1), (.int v2), (.int v3), (.int v4), (.int v5)] (.int (0 : Int32))) :
    MetFree l (⟨"com/example/finalmark/finalmark/RequestHeadEndPinLaw", "hit", "([BIII)Z"⟩ : MethodName) (head1 (Jvm.Cond.code (⟨"com/example/finalmark/finalmark/RequestHeadEndPinLaw", "hit", "([BIII)Z"⟩ : MethodName) method_4_code 4 (some .boolean) :: ws) ({ frames := 1, cells := 0, slots := 0, locals := 13 } : Room)) (fun a U => a = #[(.ref r0), (.int (0 : Int32)), (.int p2), (.int p3)] ∧ Z.Warmed39 U.vm ∧ U.heap = h0) (fun _ _ _ _ _ => True) (fun _ U o U' => ∃ v L, o = .returned v ∧ Q2 Z (hF0 v0 v1 v2 v3 v4 v5 p2 p3) h0 n0 v U'.heap L ∧ FrameEnd U o U' L ({ frames := 1, cells := 0, slots := 0, locals := 13 } : Room).cells ({ frames := 1, cells := 0, slots := 0, locals := 13 } : Room).slots) := by
  refine MetFree.of_bodySF (plainFor_of_name pn2) hisR ?_
  intro p e s m args below meth c s₁ Bd hml0 hP hK
  obtain ⟨rfl, hZ, hh⟩ := hP
  have hx := Bd.exec
  have hby := Bd.bytes
  have hml : c.maxLocals = 4 := hml0
  have hown : s.vm.findClass "com/example/finalmark/finalmark/RequestHeadEndPinLaw" = some m.cls := findClass_of_methodNamed Bd.named
  have hnm := (name_of_methodNamed Bd.named Bd.method).1
  have X0 : Stand p l e ({ frames := 1, cells := 0, slots := 0, locals := 13 } : Room) s m #[(.ref r0), (.int (0 : Int32)), (.int p2), (.int p3)] below meth c s₁ [] 0 0 := Stand.of_body Bd
  have e0 : s₁.heap = h0 := by rw [← hh, Bd.state]; rfl
  have N0 := Fr.nil n0
  refine own_fw (A := s₁.setTop (mkF m 0 #[.val (.ref r0), .val (.int (0 : Int32)), .val (.int p2), .val (.int p3)] [])) (fun t k => castTop (ef2 m r0 (0 : Int32) p2 p3) k) ?_
  refine own_fw (A := s₁.setTop (mkF m 2 #[.val (.ref r0), .val (.int (0 : Int32)), .val (.int p2), .val (.int p3)] [(.int p2), (.int (0 : Int32))])) (fun t k => ?_) ?_
  · show Steps p.tables e below (s₁.setTop (mkF m 0 #[.val (.ref r0), .val (.int (0 : Int32)), .val (.int p2), .val (.int p3)] [])) t
    refine XS.iloadN X0.here hx rfl (hb hby d2_0) rfl ?_
    show Steps p.tables e below (s₁.setTop (mkF m 1 #[.val (.ref r0), .val (.int (0 : Int32)), .val (.int p2), .val (.int p3)] [(.int (0 : Int32))])) t
    refine XS.iloadN X0.here hx rfl (hb hby d2_1) rfl ?_
    exact k
  by_cases hc2_1 : (0 : Int32) < p2
  · refine own_fw (A := s₁.setTop (mkF m 22 #[.val (.ref r0), .val (.int (0 : Int32)), .val (.int p2), .val (.int p3)] [])) (fun t k => ?_) ?_
    · show Steps p.tables e below (s₁.setTop (mkF m 2 #[.val (.ref r0), .val (.int (0 : Int32)), .val (.int p2), .val (.int p3)] [(.int p2), (.int (0 : Int32))])) t
      refine XS.icmpYes X0.here hx rfl (pc0 := 2) (pc' := 22) rfl (hb hby d2_2) rfl (tlt hc2_1).1 (by decide) (by decide) ?_
      exact k
    refine own_fw (A := s₁.setTop (mkF m 23 #[.val (.ref r0), .val (.int (0 : Int32)), .val (.int p2), .val (.int p3)] [(.int (0 : Int32))])) (fun t k => ?_) ?_
    · show Steps p.tables e below (s₁.setTop (mkF m 22 #[.val (.ref r0), .val (.int (0 : Int32)), .val (.int p2), .val (.int p3)] [])) t
      refine XS.iconst X0.here hx rfl (hb hby d2_22) ?_
      exact k
    obtain ⟨fs, hr, hrun, hended, hW, hsame⟩ := X0.leave (v := some (.int (nar .boolean (0 : Int32)))) (fun h => by rw [Bd.returns] at h; cases h)
    refine ⟨_, _, retN X0 hx (t := .boolean) Bd.returns (by simp) (hb hby d2_23) hr, hrun, hended, _, _, rfl, ?_, ⟨_, rfl⟩, hW, hsame.mono (by decide) (by decide)⟩
    have eh : (s₁.setFrames fs).heap = h0 := e0
    rw [eh]
    exact ⟨by rw [hF0, if_pos hc2_1], N0, rfl⟩
  · refine own_fw (A := s₁.setTop (mkF m 5 #[.val (.ref r0), .val (.int (0 : Int32)), .val (.int p2), .val (.int p3)] [])) (fun t k => ?_) ?_
    · show Steps p.tables e below (s₁.setTop (mkF m 2 #[.val (.ref r0), .val (.int (0 : Int32)), .val (.int p2), .val (.int p3)] [(.int p2), (.int (0 : Int32))])) t
      refine XS.icmpNo X0.here hx rfl (hb hby d2_2) rfl (flt hc2_1).1 ?_
      exact k
    refine own_fw (A := s₁.setTop (mkF m 7 #[.val (.ref r0), .val (.int (0 : Int32)), .val (.int p2), .val (.int p3)] [(.int p3), (.int (0 : Int32))])) (fun t k => ?_) ?_
    · show Steps p.tables e below (s₁.setTop (mkF m 5 #[.val (.ref r0), .val (.int (0 : Int32)), .val (.int p2), .val (.int p3)] [])) t
      refine XS.iloadN X0.here hx rfl (hb hby d2_5) rfl ?_
      show Steps p.tables e below (s₁.setTop (mkF m 6 #[.val (.ref r0), .val (.int (0 : Int32)), .val (.int p2), .val (.int p3)] [(.int (0 : Int32))])) t
      refine XS.iloadN X0.here hx rfl (hb hby d2_6) rfl ?_
      exact k
    by_cases hc2_2 : (0 : Int32) < p3
    · refine own_fw (A := s₁.setTop (mkF m 10 #[.val (.ref r0), .val (.int (0 : Int32)), .val (.int p2), .val (.int p3)] [])) (fun t k => ?_) ?_
      · show Steps p.tables e below (s₁.setTop (mkF m 7 #[.val (.ref r0), .val (.int (0 : Int32)), .val (.int p2), .val (.int p3)] [(.int p3), (.int (0 : Int32))])) t
        refine XS.icmpNo X0.here hx rfl (hb hby d2_7) rfl (tlt hc2_2).2.1 ?_
        exact k
      refine own_fw (A := s₁.setTop (mkF m 12 #[.val (.ref r0), .val (.int (0 : Int32)), .val (.int p2), .val (.int p3)] [(.int (0 : Int32)), (.ref r0)])) (fun t k => ?_) ?_
      · show Steps p.tables e below (s₁.setTop (mkF m 10 #[.val (.ref r0), .val (.int (0 : Int32)), .val (.int p2), .val (.int p3)] [])) t
        refine XS.aloadN X0.here hx rfl (hb hby d2_10) rfl rfl ?_
        show Steps p.tables e below (s₁.setTop (mkF m 11 #[.val (.ref r0), .val (.int (0 : Int32)), .val (.int p2), .val (.int p3)] [(.ref r0)])) t
        refine XS.iloadN X0.here hx rfl (hb hby d2_11) rfl ?_
        exact k
      obtain ⟨_, _, ⟨T2_1, L2_1, k2_1, n2_1⟩, -, X2_1, ⟨Lc2_1, hQ2_1, l2_1, y2_1, z2_1⟩, st2_1⟩ := Jvm.LawKit.callS X0 hx (y := (⟨"com/example/finalmark/finalmark/RequestHeadEndPinLaw", "emptyLineEnd", "([BI)Z"⟩ : MethodName)) hown (mvT hZ (hw _ (List.mem_of_getElem? (i := 13) rfl))) (mvT hZ (hw _ (List.mem_of_getElem? (i := 14) rfl))) (mvT hZ (hw _ (List.mem_of_getElem? (i := 3) rfl))) (mvT hZ (hw _ (List.mem_of_getElem? (i := 15) rfl))) (by decide) (backOf (W := 0) (rmL0 l Z a0 hw [] r0 k v0 v1 v2 v3 v4 v5 h0 n0 Z0 V_r0) hZ (hw _ (List.mem_of_getElem? (i := 15) rfl)) (hw _ (List.mem_of_getElem? (i := 3) rfl)) (by decide) (by decide)) (g := (mkF m 12 #[.val (.ref r0), .val (.int (0 : Int32)), .val (.int p2), .val (.int p3)] [(.int (0 : Int32)), (.ref r0)])) rfl (by rw [hml]; rfl) (argsL := [(.ref r0), (.int (0 : Int32))]) (rest := []) (lenOf pd2_0 rfl) rfl (by show 2 * 0 + _ ≤ _; exact Nat.le_of_eq rfl) (hb hby d2_12) (fun _ _ => ⟨rfl, e0, (by decide : 0 + 0 ≤ _), (by decide : 0 + 0 ≤ _)⟩)
      dsimp only [Pt.U, Pt.locs, Pt.cells, Pt.slots] at X2_1 l2_1 y2_1 z2_1 st2_1 hQ2_1
      subst l2_1 y2_1 z2_1
      obtain ⟨rfl, N2_1q, e2_1⟩ := hQ2_1
      have N2_1 := Fr.app N0 N2_1q
      refine own_fw st2_1 ?_
      by_cases hc2_3 : (eF0 v0 v1 v2 v3 v4 v5) = (0 : Int32)
      · refine own_fw (A := T2_1.setTop (mkF m 22 #[.val (.ref r0), .val (.int (0 : Int32)), .val (.int p2), .val (.int p3)] [])) (fun t k => ?_) ?_
        · show Steps p.tables e below (T2_1.setTop (mkF m 15 #[.val (.ref r0), .val (.int (0 : Int32)), .val (.int p2), .val (.int p3)] [(.int (eF0 v0 v1 v2 v3 v4 v5))])) t
          refine XS.ifYes X2_1.here hx rfl (pc0 := 15) (pc' := 22) rfl (hb hby d2_15) rfl ((if0 _ _).trans (teq hc2_3).1) (by decide) (by decide) ?_
          exact k
        refine own_fw (A := T2_1.setTop (mkF m 23 #[.val (.ref r0), .val (.int (0 : Int32)), .val (.int p2), .val (.int p3)] [(.int (0 : Int32))])) (fun t k => ?_) ?_
        · show Steps p.tables e below (T2_1.setTop (mkF m 22 #[.val (.ref r0), .val (.int (0 : Int32)), .val (.int p2), .val (.int p3)] [])) t
          refine XS.iconst X2_1.here hx rfl (hb hby d2_22) ?_
          exact k
        obtain ⟨fs, hr, hrun, hended, hW, hsame⟩ := X2_1.leave (v := some (.int (nar .boolean (0 : Int32)))) (fun h => by rw [Bd.returns] at h; cases h)
        refine ⟨_, _, retN X2_1 hx (t := .boolean) Bd.returns (by simp) (hb hby d2_23) hr, hrun, hended, _, _, rfl, ?_, ⟨_, rfl⟩, hW, hsame.mono (by decide) (by decide)⟩
        have eh : (T2_1.setFrames fs).heap = h0 := e2_1
        rw [eh]
        exact ⟨by rw [hF0, if_neg hc2_1, if_pos hc2_2, if_pos hc2_3], N2_1, rfl⟩
      · refine own_fw (A := T2_1.setTop (mkF m 18 #[.val (.ref r0), .val (.int (0 : Int32)), .val (.int p2), .val (.int p3)] [])) (fun t k => ?_) ?_
        · show Steps p.tables e below (T2_1.setTop (mkF m 15 #[.val (.ref r0), .val (.int (0 : Int32)), .val (.int p2), .val (.int p3)] [(.int (eF0 v0 v1 v2 v3 v4 v5))])) t
          refine XS.ifNo X2_1.here hx rfl (hb hby d2_15) rfl ((if0 _ _).trans (feq hc2_3).1) ?_
          exact k
        refine own_fw (A := T2_1.setTop (mkF m 23 #[.val (.ref r0), .val (.int (0 : Int32)), .val (.int p2), .val (.int p3)] [(.int (1 : Int32))])) (fun t k => ?_) ?_
        · show Steps p.tables e below (T2_1.setTop (mkF m 18 #[.val (.ref r0), .val (.int (0 : Int32)), .val (.int p2), .val (.int p3)] [])) t
          refine XS.iconst X2_1.here hx rfl (hb hby d2_18) ?_
          show Steps p.tables e below (T2_1.setTop (mkF m 19 #[.val (.ref r0), .val (.int (0 : Int32)), .val (.int p2), .val (.int p3)] [(.int (1 : Int32))])) t
          refine XS.goto X2_1.here hx rfl (pc0 := 19) (pc' := 23) rfl (hb hby d2_19) (by decide) (by decide) ?_
          exact k
        obtain ⟨fs, hr, hrun, hended, hW, hsame⟩ := X2_1.leave (v := some (.int (nar .boolean (1 : Int32)))) (fun h => by rw [Bd.returns] at h; cases h)
        refine ⟨_, _, retN X2_1 hx (t := .boolean) Bd.returns (by simp) (hb hby d2_23) hr, hrun, hended, _, _, rfl, ?_, ⟨_, rfl⟩, hW, hsame.mono (by decide) (by decide)⟩
        have eh : (T2_1.setFrames fs).heap = h0 := e2_1
        rw [eh]
        exact ⟨by rw [hF0, if_neg hc2_1, if_pos hc2_2, if_neg hc2_3], N2_1, rfl⟩
    · refine own_fw (A := s₁.setTop (mkF m 22 #[.val (.ref r0), .val (.int (0 : Int32)), .val (.int p2), .val (.int p3)] [])) (fun t k => ?_) ?_
      · show Steps p.tables e below (s₁.setTop (mkF m 7 #[.val (.ref r0), .val (.int (0 : Int32)), .val (.int p2), .val (.int p3)] [(.int p3), (.int (0 : Int32))])) t
        refine XS.icmpYes X0.here hx rfl (pc0 := 7) (pc' := 22) rfl (hb hby d2_7) rfl (flt hc2_2).2.1 (by decide) (by decide) ?_
        exact k
      refine own_fw (A := s₁.setTop (mkF m 23 #[.val (.ref r0), .val (.int (0 : Int32)), .val (.int p2), .val (.int p3)] [(.int (0 : Int32))])) (fun t k => ?_) ?_
      · show Steps p.tables e below (s₁.setTop (mkF m 22 #[.val (.ref r0), .val (.int (0 : Int32)), .val (.int p2), .val (.int p3)] [])) t
        refine XS.iconst X0.here hx rfl (hb hby d2_22) ?_
        exact k
      obtain ⟨fs, hr, hrun, hended, hW, hsame⟩ := X0.leave (v := some (.int (nar .boolean (0 : Int32)))) (fun h => by rw [Bd.returns] at h; cases h)
      refine ⟨_, _, retN X0 hx (t := .boolean) Bd.returns (by simp) (hb hby d2_23) hr, hrun, hended, _, _, rfl, ?_, ⟨_, rfl⟩, hW, hsame.mono (by decide) (by decide)⟩
      have eh : (s₁.setFrames fs).heap = h0 := e0
      rw [eh]
      exact ⟨by rw [hF0, if_neg hc2_1, if_neg hc2_2], N0, rfl⟩
def hF1 (v0 : Int32) (v1 : Int32) (v2 : Int32) (v3 : Int32) (v4 : Int32) (v5 : Int32) (p2 : Int32) (p3 : Int32) : Int32 := (if (1 : Int32) < p2 then (nar .boolean (0 : Int32)) else (if (1 : Int32) < p3 then (if (eF1 v0 v1 v2 v3 v4 v5) = (0 : Int32) then (nar .boolean (0 : Int32)) else (nar .boolean (1 : Int32))) else (nar .boolean (0 : Int32))))
set_option maxRecDepth 65536 in
set_option maxHeartbeats 40000000 in
theorem rmH1 (l : Launch) (Z : State) (a0 : Array Value) (hw : ∀ d ∈ tables_1, d.before a0 Z = true) (ws : List Jvm.Cond) (r0 : Addr) (p2 : Int32) (p3 : Int32) (k : ClassId) (v0 : Int32) (v1 : Int32) (v2 : Int32) (v3 : Int32) (v4 : Int32) (v5 : Int32) (h0 : Heap) (n0 : Nat) (Z0 : n0 ≤ h0.size) (V_r0 : Arv Z h0 r0 k .byte (6 : Int32) [(.int v0), (.int v1), (.int v2), (.int v3), (.int v4), (.int v5)] (.int (0 : Int32))) :
    MetFree l (⟨"com/example/finalmark/finalmark/RequestHeadEndPinLaw", "hit", "([BIII)Z"⟩ : MethodName) (head1 (Jvm.Cond.code (⟨"com/example/finalmark/finalmark/RequestHeadEndPinLaw", "hit", "([BIII)Z"⟩ : MethodName) method_4_code 4 (some .boolean) :: ws) ({ frames := 1, cells := 0, slots := 0, locals := 13 } : Room)) (fun a U => a = #[(.ref r0), (.int (1 : Int32)), (.int p2), (.int p3)] ∧ Z.Warmed39 U.vm ∧ U.heap = h0) (fun _ _ _ _ _ => True) (fun _ U o U' => ∃ v L, o = .returned v ∧ Q2 Z (hF1 v0 v1 v2 v3 v4 v5 p2 p3) h0 n0 v U'.heap L ∧ FrameEnd U o U' L ({ frames := 1, cells := 0, slots := 0, locals := 13 } : Room).cells ({ frames := 1, cells := 0, slots := 0, locals := 13 } : Room).slots) := by
  refine MetFree.of_bodySF (plainFor_of_name pn2) hisR ?_
  intro p e s m args below meth c s₁ Bd hml0 hP hK
  obtain ⟨rfl, hZ, hh⟩ := hP
  have hx := Bd.exec
  have hby := Bd.bytes
  have hml : c.maxLocals = 4 := hml0
  have hown : s.vm.findClass "com/example/finalmark/finalmark/RequestHeadEndPinLaw" = some m.cls := findClass_of_methodNamed Bd.named
  have hnm := (name_of_methodNamed Bd.named Bd.method).1
  have X0 : Stand p l e ({ frames := 1, cells := 0, slots := 0, locals := 13 } : Room) s m #[(.ref r0), (.int (1 : Int32)), (.int p2), (.int p3)] below meth c s₁ [] 0 0 := Stand.of_body Bd
  have e0 : s₁.heap = h0 := by rw [← hh, Bd.state]; rfl
  have N0 := Fr.nil n0
  refine own_fw (A := s₁.setTop (mkF m 0 #[.val (.ref r0), .val (.int (1 : Int32)), .val (.int p2), .val (.int p3)] [])) (fun t k => castTop (ef2 m r0 (1 : Int32) p2 p3) k) ?_
  refine own_fw (A := s₁.setTop (mkF m 2 #[.val (.ref r0), .val (.int (1 : Int32)), .val (.int p2), .val (.int p3)] [(.int p2), (.int (1 : Int32))])) (fun t k => ?_) ?_
  · show Steps p.tables e below (s₁.setTop (mkF m 0 #[.val (.ref r0), .val (.int (1 : Int32)), .val (.int p2), .val (.int p3)] [])) t
    refine XS.iloadN X0.here hx rfl (hb hby d2_0) rfl ?_
    show Steps p.tables e below (s₁.setTop (mkF m 1 #[.val (.ref r0), .val (.int (1 : Int32)), .val (.int p2), .val (.int p3)] [(.int (1 : Int32))])) t
    refine XS.iloadN X0.here hx rfl (hb hby d2_1) rfl ?_
    exact k
  by_cases hc2_1 : (1 : Int32) < p2
  · refine own_fw (A := s₁.setTop (mkF m 22 #[.val (.ref r0), .val (.int (1 : Int32)), .val (.int p2), .val (.int p3)] [])) (fun t k => ?_) ?_
    · show Steps p.tables e below (s₁.setTop (mkF m 2 #[.val (.ref r0), .val (.int (1 : Int32)), .val (.int p2), .val (.int p3)] [(.int p2), (.int (1 : Int32))])) t
      refine XS.icmpYes X0.here hx rfl (pc0 := 2) (pc' := 22) rfl (hb hby d2_2) rfl (tlt hc2_1).1 (by decide) (by decide) ?_
      exact k
    refine own_fw (A := s₁.setTop (mkF m 23 #[.val (.ref r0), .val (.int (1 : Int32)), .val (.int p2), .val (.int p3)] [(.int (0 : Int32))])) (fun t k => ?_) ?_
    · show Steps p.tables e below (s₁.setTop (mkF m 22 #[.val (.ref r0), .val (.int (1 : Int32)), .val (.int p2), .val (.int p3)] [])) t
      refine XS.iconst X0.here hx rfl (hb hby d2_22) ?_
      exact k
    obtain ⟨fs, hr, hrun, hended, hW, hsame⟩ := X0.leave (v := some (.int (nar .boolean (0 : Int32)))) (fun h => by rw [Bd.returns] at h; cases h)
    refine ⟨_, _, retN X0 hx (t := .boolean) Bd.returns (by simp) (hb hby d2_23) hr, hrun, hended, _, _, rfl, ?_, ⟨_, rfl⟩, hW, hsame.mono (by decide) (by decide)⟩
    have eh : (s₁.setFrames fs).heap = h0 := e0
    rw [eh]
    exact ⟨by rw [hF1, if_pos hc2_1], N0, rfl⟩
  · refine own_fw (A := s₁.setTop (mkF m 5 #[.val (.ref r0), .val (.int (1 : Int32)), .val (.int p2), .val (.int p3)] [])) (fun t k => ?_) ?_
    · show Steps p.tables e below (s₁.setTop (mkF m 2 #[.val (.ref r0), .val (.int (1 : Int32)), .val (.int p2), .val (.int p3)] [(.int p2), (.int (1 : Int32))])) t
      refine XS.icmpNo X0.here hx rfl (hb hby d2_2) rfl (flt hc2_1).1 ?_
      exact k
    refine own_fw (A := s₁.setTop (mkF m 7 #[.val (.ref r0), .val (.int (1 : Int32)), .val (.int p2), .val (.int p3)] [(.int p3), (.int (1 : Int32))])) (fun t k => ?_) ?_
    · show Steps p.tables e below (s₁.setTop (mkF m 5 #[.val (.ref r0), .val (.int (1 : Int32)), .val (.int p2), .val (.int p3)] [])) t
      refine XS.iloadN X0.here hx rfl (hb hby d2_5) rfl ?_
      show Steps p.tables e below (s₁.setTop (mkF m 6 #[.val (.ref r0), .val (.int (1 : Int32)), .val (.int p2), .val (.int p3)] [(.int (1 : Int32))])) t
      refine XS.iloadN X0.here hx rfl (hb hby d2_6) rfl ?_
      exact k
    by_cases hc2_2 : (1 : Int32) < p3
    · refine own_fw (A := s₁.setTop (mkF m 10 #[.val (.ref r0), .val (.int (1 : Int32)), .val (.int p2), .val (.int p3)] [])) (fun t k => ?_) ?_
      · show Steps p.tables e below (s₁.setTop (mkF m 7 #[.val (.ref r0), .val (.int (1 : Int32)), .val (.int p2), .val (.int p3)] [(.int p3), (.int (1 : Int32))])) t
        refine XS.icmpNo X0.here hx rfl (hb hby d2_7) rfl (tlt hc2_2).2.1 ?_
        exact k
      refine own_fw (A := s₁.setTop (mkF m 12 #[.val (.ref r0), .val (.int (1 : Int32)), .val (.int p2), .val (.int p3)] [(.int (1 : Int32)), (.ref r0)])) (fun t k => ?_) ?_
      · show Steps p.tables e below (s₁.setTop (mkF m 10 #[.val (.ref r0), .val (.int (1 : Int32)), .val (.int p2), .val (.int p3)] [])) t
        refine XS.aloadN X0.here hx rfl (hb hby d2_10) rfl rfl ?_
        show Steps p.tables e below (s₁.setTop (mkF m 11 #[.val (.ref r0), .val (.int (1 : Int32)), .val (.int p2), .val (.int p3)] [(.ref r0)])) t
        refine XS.iloadN X0.here hx rfl (hb hby d2_11) rfl ?_
        exact k
      obtain ⟨_, _, ⟨T2_1, L2_1, k2_1, n2_1⟩, -, X2_1, ⟨Lc2_1, hQ2_1, l2_1, y2_1, z2_1⟩, st2_1⟩ := Jvm.LawKit.callS X0 hx (y := (⟨"com/example/finalmark/finalmark/RequestHeadEndPinLaw", "emptyLineEnd", "([BI)Z"⟩ : MethodName)) hown (mvT hZ (hw _ (List.mem_of_getElem? (i := 13) rfl))) (mvT hZ (hw _ (List.mem_of_getElem? (i := 14) rfl))) (mvT hZ (hw _ (List.mem_of_getElem? (i := 3) rfl))) (mvT hZ (hw _ (List.mem_of_getElem? (i := 15) rfl))) (by decide) (backOf (W := 0) (rmL1 l Z a0 hw [] r0 k v0 v1 v2 v3 v4 v5 h0 n0 Z0 V_r0) hZ (hw _ (List.mem_of_getElem? (i := 15) rfl)) (hw _ (List.mem_of_getElem? (i := 3) rfl)) (by decide) (by decide)) (g := (mkF m 12 #[.val (.ref r0), .val (.int (1 : Int32)), .val (.int p2), .val (.int p3)] [(.int (1 : Int32)), (.ref r0)])) rfl (by rw [hml]; rfl) (argsL := [(.ref r0), (.int (1 : Int32))]) (rest := []) (lenOf pd2_0 rfl) rfl (by show 2 * 0 + _ ≤ _; exact Nat.le_of_eq rfl) (hb hby d2_12) (fun _ _ => ⟨rfl, e0, (by decide : 0 + 0 ≤ _), (by decide : 0 + 0 ≤ _)⟩)
      dsimp only [Pt.U, Pt.locs, Pt.cells, Pt.slots] at X2_1 l2_1 y2_1 z2_1 st2_1 hQ2_1
      subst l2_1 y2_1 z2_1
      obtain ⟨rfl, N2_1q, e2_1⟩ := hQ2_1
      have N2_1 := Fr.app N0 N2_1q
      refine own_fw st2_1 ?_
      by_cases hc2_3 : (eF1 v0 v1 v2 v3 v4 v5) = (0 : Int32)
      · refine own_fw (A := T2_1.setTop (mkF m 22 #[.val (.ref r0), .val (.int (1 : Int32)), .val (.int p2), .val (.int p3)] [])) (fun t k => ?_) ?_
        · show Steps p.tables e below (T2_1.setTop (mkF m 15 #[.val (.ref r0), .val (.int (1 : Int32)), .val (.int p2), .val (.int p3)] [(.int (eF1 v0 v1 v2 v3 v4 v5))])) t
          refine XS.ifYes X2_1.here hx rfl (pc0 := 15) (pc' := 22) rfl (hb hby d2_15) rfl ((if0 _ _).trans (teq hc2_3).1) (by decide) (by decide) ?_
          exact k
        refine own_fw (A := T2_1.setTop (mkF m 23 #[.val (.ref r0), .val (.int (1 : Int32)), .val (.int p2), .val (.int p3)] [(.int (0 : Int32))])) (fun t k => ?_) ?_
        · show Steps p.tables e below (T2_1.setTop (mkF m 22 #[.val (.ref r0), .val (.int (1 : Int32)), .val (.int p2), .val (.int p3)] [])) t
          refine XS.iconst X2_1.here hx rfl (hb hby d2_22) ?_
          exact k
        obtain ⟨fs, hr, hrun, hended, hW, hsame⟩ := X2_1.leave (v := some (.int (nar .boolean (0 : Int32)))) (fun h => by rw [Bd.returns] at h; cases h)
        refine ⟨_, _, retN X2_1 hx (t := .boolean) Bd.returns (by simp) (hb hby d2_23) hr, hrun, hended, _, _, rfl, ?_, ⟨_, rfl⟩, hW, hsame.mono (by decide) (by decide)⟩
        have eh : (T2_1.setFrames fs).heap = h0 := e2_1
        rw [eh]
        exact ⟨by rw [hF1, if_neg hc2_1, if_pos hc2_2, if_pos hc2_3], N2_1, rfl⟩
      · refine own_fw (A := T2_1.setTop (mkF m 18 #[.val (.ref r0), .val (.int (1 : Int32)), .val (.int p2), .val (.int p3)] [])) (fun t k => ?_) ?_
        · show Steps p.tables e below (T2_1.setTop (mkF m 15 #[.val (.ref r0), .val (.int (1 : Int32)), .val (.int p2), .val (.int p3)] [(.int (eF1 v0 v1 v2 v3 v4 v5))])) t
          refine XS.ifNo X2_1.here hx rfl (hb hby d2_15) rfl ((if0 _ _).trans (feq hc2_3).1) ?_
          exact k
        refine own_fw (A := T2_1.setTop (mkF m 23 #[.val (.ref r0), .val (.int (1 : Int32)), .val (.int p2), .val (.int p3)] [(.int (1 : Int32))])) (fun t k => ?_) ?_
        · show Steps p.tables e below (T2_1.setTop (mkF m 18 #[.val (.ref r0), .val (.int (1 : Int32)), .val (.int p2), .val (.int p3)] [])) t
          refine XS.iconst X2_1.here hx rfl (hb hby d2_18) ?_
          show Steps p.tables e below (T2_1.setTop (mkF m 19 #[.val (.ref r0), .val (.int (1 : Int32)), .val (.int p2), .val (.int p3)] [(.int (1 : Int32))])) t
          refine XS.goto X2_1.here hx rfl (pc0 := 19) (pc' := 23) rfl (hb hby d2_19) (by decide) (by decide) ?_
          exact k
        obtain ⟨fs, hr, hrun, hended, hW, hsame⟩ := X2_1.leave (v := some (.int (nar .boolean (1 : Int32)))) (fun h => by rw [Bd.returns] at h; cases h)
        refine ⟨_, _, retN X2_1 hx (t := .boolean) Bd.returns (by simp) (hb hby d2_23) hr, hrun, hended, _, _, rfl, ?_, ⟨_, rfl⟩, hW, hsame.mono (by decide) (by decide)⟩
        have eh : (T2_1.setFrames fs).heap = h0 := e2_1
        rw [eh]
        exact ⟨by rw [hF1, if_neg hc2_1, if_pos hc2_2, if_neg hc2_3], N2_1, rfl⟩
    · refine own_fw (A := s₁.setTop (mkF m 22 #[.val (.ref r0), .val (.int (1 : Int32)), .val (.int p2), .val (.int p3)] [])) (fun t k => ?_) ?_
      · show Steps p.tables e below (s₁.setTop (mkF m 7 #[.val (.ref r0), .val (.int (1 : Int32)), .val (.int p2), .val (.int p3)] [(.int p3), (.int (1 : Int32))])) t
        refine XS.icmpYes X0.here hx rfl (pc0 := 7) (pc' := 22) rfl (hb hby d2_7) rfl (flt hc2_2).2.1 (by decide) (by decide) ?_
        exact k
      refine own_fw (A := s₁.setTop (mkF m 23 #[.val (.ref r0), .val (.int (1 : Int32)), .val (.int p2), .val (.int p3)] [(.int (0 : Int32))])) (fun t k => ?_) ?_
      · show Steps p.tables e below (s₁.setTop (mkF m 22 #[.val (.ref r0), .val (.int (1 : Int32)), .val (.int p2), .val (.int p3)] [])) t
        refine XS.iconst X0.here hx rfl (hb hby d2_22) ?_
        exact k
      obtain ⟨fs, hr, hrun, hended, hW, hsame⟩ := X0.leave (v := some (.int (nar .boolean (0 : Int32)))) (fun h => by rw [Bd.returns] at h; cases h)
      refine ⟨_, _, retN X0 hx (t := .boolean) Bd.returns (by simp) (hb hby d2_23) hr, hrun, hended, _, _, rfl, ?_, ⟨_, rfl⟩, hW, hsame.mono (by decide) (by decide)⟩
      have eh : (s₁.setFrames fs).heap = h0 := e0
      rw [eh]
      exact ⟨by rw [hF1, if_neg hc2_1, if_neg hc2_2], N0, rfl⟩
def hF2 (v0 : Int32) (v1 : Int32) (v2 : Int32) (v3 : Int32) (v4 : Int32) (v5 : Int32) (p2 : Int32) (p3 : Int32) : Int32 := (if (2 : Int32) < p2 then (nar .boolean (0 : Int32)) else (if (2 : Int32) < p3 then (if (eF2 v0 v1 v2 v3 v4 v5) = (0 : Int32) then (nar .boolean (0 : Int32)) else (nar .boolean (1 : Int32))) else (nar .boolean (0 : Int32))))
set_option maxRecDepth 65536 in
set_option maxHeartbeats 40000000 in
theorem rmH2 (l : Launch) (Z : State) (a0 : Array Value) (hw : ∀ d ∈ tables_1, d.before a0 Z = true) (ws : List Jvm.Cond) (r0 : Addr) (p2 : Int32) (p3 : Int32) (k : ClassId) (v0 : Int32) (v1 : Int32) (v2 : Int32) (v3 : Int32) (v4 : Int32) (v5 : Int32) (h0 : Heap) (n0 : Nat) (Z0 : n0 ≤ h0.size) (V_r0 : Arv Z h0 r0 k .byte (6 : Int32) [(.int v0), (.int v1), (.int v2), (.int v3), (.int v4), (.int v5)] (.int (0 : Int32))) :
    MetFree l (⟨"com/example/finalmark/finalmark/RequestHeadEndPinLaw", "hit", "([BIII)Z"⟩ : MethodName) (head1 (Jvm.Cond.code (⟨"com/example/finalmark/finalmark/RequestHeadEndPinLaw", "hit", "([BIII)Z"⟩ : MethodName) method_4_code 4 (some .boolean) :: ws) ({ frames := 1, cells := 0, slots := 0, locals := 13 } : Room)) (fun a U => a = #[(.ref r0), (.int (2 : Int32)), (.int p2), (.int p3)] ∧ Z.Warmed39 U.vm ∧ U.heap = h0) (fun _ _ _ _ _ => True) (fun _ U o U' => ∃ v L, o = .returned v ∧ Q2 Z (hF2 v0 v1 v2 v3 v4 v5 p2 p3) h0 n0 v U'.heap L ∧ FrameEnd U o U' L ({ frames := 1, cells := 0, slots := 0, locals := 13 } : Room).cells ({ frames := 1, cells := 0, slots := 0, locals := 13 } : Room).slots) := by
  refine MetFree.of_bodySF (plainFor_of_name pn2) hisR ?_
  intro p e s m args below meth c s₁ Bd hml0 hP hK
  obtain ⟨rfl, hZ, hh⟩ := hP
  have hx := Bd.exec
  have hby := Bd.bytes
  have hml : c.maxLocals = 4 := hml0
  have hown : s.vm.findClass "com/example/finalmark/finalmark/RequestHeadEndPinLaw" = some m.cls := findClass_of_methodNamed Bd.named
  have hnm := (name_of_methodNamed Bd.named Bd.method).1
  have X0 : Stand p l e ({ frames := 1, cells := 0, slots := 0, locals := 13 } : Room) s m #[(.ref r0), (.int (2 : Int32)), (.int p2), (.int p3)] below meth c s₁ [] 0 0 := Stand.of_body Bd
  have e0 : s₁.heap = h0 := by rw [← hh, Bd.state]; rfl
  have N0 := Fr.nil n0
  refine own_fw (A := s₁.setTop (mkF m 0 #[.val (.ref r0), .val (.int (2 : Int32)), .val (.int p2), .val (.int p3)] [])) (fun t k => castTop (ef2 m r0 (2 : Int32) p2 p3) k) ?_
  refine own_fw (A := s₁.setTop (mkF m 2 #[.val (.ref r0), .val (.int (2 : Int32)), .val (.int p2), .val (.int p3)] [(.int p2), (.int (2 : Int32))])) (fun t k => ?_) ?_
  · show Steps p.tables e below (s₁.setTop (mkF m 0 #[.val (.ref r0), .val (.int (2 : Int32)), .val (.int p2), .val (.int p3)] [])) t
    refine XS.iloadN X0.here hx rfl (hb hby d2_0) rfl ?_
    show Steps p.tables e below (s₁.setTop (mkF m 1 #[.val (.ref r0), .val (.int (2 : Int32)), .val (.int p2), .val (.int p3)] [(.int (2 : Int32))])) t
    refine XS.iloadN X0.here hx rfl (hb hby d2_1) rfl ?_
    exact k
  by_cases hc2_1 : (2 : Int32) < p2
  · refine own_fw (A := s₁.setTop (mkF m 22 #[.val (.ref r0), .val (.int (2 : Int32)), .val (.int p2), .val (.int p3)] [])) (fun t k => ?_) ?_
    · show Steps p.tables e below (s₁.setTop (mkF m 2 #[.val (.ref r0), .val (.int (2 : Int32)), .val (.int p2), .val (.int p3)] [(.int p2), (.int (2 : Int32))])) t
      refine XS.icmpYes X0.here hx rfl (pc0 := 2) (pc' := 22) rfl (hb hby d2_2) rfl (tlt hc2_1).1 (by decide) (by decide) ?_
      exact k
    refine own_fw (A := s₁.setTop (mkF m 23 #[.val (.ref r0), .val (.int (2 : Int32)), .val (.int p2), .val (.int p3)] [(.int (0 : Int32))])) (fun t k => ?_) ?_
    · show Steps p.tables e below (s₁.setTop (mkF m 22 #[.val (.ref r0), .val (.int (2 : Int32)), .val (.int p2), .val (.int p3)] [])) t
      refine XS.iconst X0.here hx rfl (hb hby d2_22) ?_
      exact k
    obtain ⟨fs, hr, hrun, hended, hW, hsame⟩ := X0.leave (v := some (.int (nar .boolean (0 : Int32)))) (fun h => by rw [Bd.returns] at h; cases h)
    refine ⟨_, _, retN X0 hx (t := .boolean) Bd.returns (by simp) (hb hby d2_23) hr, hrun, hended, _, _, rfl, ?_, ⟨_, rfl⟩, hW, hsame.mono (by decide) (by decide)⟩
    have eh : (s₁.setFrames fs).heap = h0 := e0
    rw [eh]
    exact ⟨by rw [hF2, if_pos hc2_1], N0, rfl⟩
  · refine own_fw (A := s₁.setTop (mkF m 5 #[.val (.ref r0), .val (.int (2 : Int32)), .val (.int p2), .val (.int p3)] [])) (fun t k => ?_) ?_
    · show Steps p.tables e below (s₁.setTop (mkF m 2 #[.val (.ref r0), .val (.int (2 : Int32)), .val (.int p2), .val (.int p3)] [(.int p2), (.int (2 : Int32))])) t
      refine XS.icmpNo X0.here hx rfl (hb hby d2_2) rfl (flt hc2_1).1 ?_
      exact k
    refine own_fw (A := s₁.setTop (mkF m 7 #[.val (.ref r0), .val (.int (2 : Int32)), .val (.int p2), .val (.int p3)] [(.int p3), (.int (2 : Int32))])) (fun t k => ?_) ?_
    · show Steps p.tables e below (s₁.setTop (mkF m 5 #[.val (.ref r0), .val (.int (2 : Int32)), .val (.int p2), .val (.int p3)] [])) t
      refine XS.iloadN X0.here hx rfl (hb hby d2_5) rfl ?_
      show Steps p.tables e below (s₁.setTop (mkF m 6 #[.val (.ref r0), .val (.int (2 : Int32)), .val (.int p2), .val (.int p3)] [(.int (2 : Int32))])) t
      refine XS.iloadN X0.here hx rfl (hb hby d2_6) rfl ?_
      exact k
    by_cases hc2_2 : (2 : Int32) < p3
    · refine own_fw (A := s₁.setTop (mkF m 10 #[.val (.ref r0), .val (.int (2 : Int32)), .val (.int p2), .val (.int p3)] [])) (fun t k => ?_) ?_
      · show Steps p.tables e below (s₁.setTop (mkF m 7 #[.val (.ref r0), .val (.int (2 : Int32)), .val (.int p2), .val (.int p3)] [(.int p3), (.int (2 : Int32))])) t
        refine XS.icmpNo X0.here hx rfl (hb hby d2_7) rfl (tlt hc2_2).2.1 ?_
        exact k
      refine own_fw (A := s₁.setTop (mkF m 12 #[.val (.ref r0), .val (.int (2 : Int32)), .val (.int p2), .val (.int p3)] [(.int (2 : Int32)), (.ref r0)])) (fun t k => ?_) ?_
      · show Steps p.tables e below (s₁.setTop (mkF m 10 #[.val (.ref r0), .val (.int (2 : Int32)), .val (.int p2), .val (.int p3)] [])) t
        refine XS.aloadN X0.here hx rfl (hb hby d2_10) rfl rfl ?_
        show Steps p.tables e below (s₁.setTop (mkF m 11 #[.val (.ref r0), .val (.int (2 : Int32)), .val (.int p2), .val (.int p3)] [(.ref r0)])) t
        refine XS.iloadN X0.here hx rfl (hb hby d2_11) rfl ?_
        exact k
      obtain ⟨_, _, ⟨T2_1, L2_1, k2_1, n2_1⟩, -, X2_1, ⟨Lc2_1, hQ2_1, l2_1, y2_1, z2_1⟩, st2_1⟩ := Jvm.LawKit.callS X0 hx (y := (⟨"com/example/finalmark/finalmark/RequestHeadEndPinLaw", "emptyLineEnd", "([BI)Z"⟩ : MethodName)) hown (mvT hZ (hw _ (List.mem_of_getElem? (i := 13) rfl))) (mvT hZ (hw _ (List.mem_of_getElem? (i := 14) rfl))) (mvT hZ (hw _ (List.mem_of_getElem? (i := 3) rfl))) (mvT hZ (hw _ (List.mem_of_getElem? (i := 15) rfl))) (by decide) (backOf (W := 0) (rmL2 l Z a0 hw [] r0 k v0 v1 v2 v3 v4 v5 h0 n0 Z0 V_r0) hZ (hw _ (List.mem_of_getElem? (i := 15) rfl)) (hw _ (List.mem_of_getElem? (i := 3) rfl)) (by decide) (by decide)) (g := (mkF m 12 #[.val (.ref r0), .val (.int (2 : Int32)), .val (.int p2), .val (.int p3)] [(.int (2 : Int32)), (.ref r0)])) rfl (by rw [hml]; rfl) (argsL := [(.ref r0), (.int (2 : Int32))]) (rest := []) (lenOf pd2_0 rfl) rfl (by show 2 * 0 + _ ≤ _; exact Nat.le_of_eq rfl) (hb hby d2_12) (fun _ _ => ⟨rfl, e0, (by decide : 0 + 0 ≤ _), (by decide : 0 + 0 ≤ _)⟩)
      dsimp only [Pt.U, Pt.locs, Pt.cells, Pt.slots] at X2_1 l2_1 y2_1 z2_1 st2_1 hQ2_1
      subst l2_1 y2_1 z2_1
      obtain ⟨rfl, N2_1q, e2_1⟩ := hQ2_1
      have N2_1 := Fr.app N0 N2_1q
      refine own_fw st2_1 ?_
      by_cases hc2_3 : (eF2 v0 v1 v2 v3 v4 v5) = (0 : Int32)
      · refine own_fw (A := T2_1.setTop (mkF m 22 #[.val (.ref r0), .val (.int (2 : Int32)), .val (.int p2), .val (.int p3)] [])) (fun t k => ?_) ?_
        · show Steps p.tables e below (T2_1.setTop (mkF m 15 #[.val (.ref r0), .val (.int (2 : Int32)), .val (.int p2), .val (.int p3)] [(.int (eF2 v0 v1 v2 v3 v4 v5))])) t
          refine XS.ifYes X2_1.here hx rfl (pc0 := 15) (pc' := 22) rfl (hb hby d2_15) rfl ((if0 _ _).trans (teq hc2_3).1) (by decide) (by decide) ?_
          exact k
        refine own_fw (A := T2_1.setTop (mkF m 23 #[.val (.ref r0), .val (.int (2 : Int32)), .val (.int p2), .val (.int p3)] [(.int (0 : Int32))])) (fun t k => ?_) ?_
        · show Steps p.tables e below (T2_1.setTop (mkF m 22 #[.val (.ref r0), .val (.int (2 : Int32)), .val (.int p2), .val (.int p3)] [])) t
          refine XS.iconst X2_1.here hx rfl (hb hby d2_22) ?_
          exact k
        obtain ⟨fs, hr, hrun, hended, hW, hsame⟩ := X2_1.leave (v := some (.int (nar .boolean (0 : Int32)))) (fun h => by rw [Bd.returns] at h; cases h)
        refine ⟨_, _, retN X2_1 hx (t := .boolean) Bd.returns (by simp) (hb hby d2_23) hr, hrun, hended, _, _, rfl, ?_, ⟨_, rfl⟩, hW, hsame.mono (by decide) (by decide)⟩
        have eh : (T2_1.setFrames fs).heap = h0 := e2_1
        rw [eh]
        exact ⟨by rw [hF2, if_neg hc2_1, if_pos hc2_2, if_pos hc2_3], N2_1, rfl⟩
      · refine own_fw (A := T2_1.setTop (mkF m 18 #[.val (.ref r0), .val (.int (2 : Int32)), .val (.int p2), .val (.int p3)] [])) (fun t k => ?_) ?_
        · show Steps p.tables e below (T2_1.setTop (mkF m 15 #[.val (.ref r0), .val (.int (2 : Int32)), .val (.int p2), .val (.int p3)] [(.int (eF2 v0 v1 v2 v3 v4 v5))])) t
          refine XS.ifNo X2_1.here hx rfl (hb hby d2_15) rfl ((if0 _ _).trans (feq hc2_3).1) ?_
          exact k
        refine own_fw (A := T2_1.setTop (mkF m 23 #[.val (.ref r0), .val (.int (2 : Int32)), .val (.int p2), .val (.int p3)] [(.int (1 : Int32))])) (fun t k => ?_) ?_
        · show Steps p.tables e below (T2_1.setTop (mkF m 18 #[.val (.ref r0), .val (.int (2 : Int32)), .val (.int p2), .val (.int p3)] [])) t
          refine XS.iconst X2_1.here hx rfl (hb hby d2_18) ?_
          show Steps p.tables e below (T2_1.setTop (mkF m 19 #[.val (.ref r0), .val (.int (2 : Int32)), .val (.int p2), .val (.int p3)] [(.int (1 : Int32))])) t
          refine XS.goto X2_1.here hx rfl (pc0 := 19) (pc' := 23) rfl (hb hby d2_19) (by decide) (by decide) ?_
          exact k
        obtain ⟨fs, hr, hrun, hended, hW, hsame⟩ := X2_1.leave (v := some (.int (nar .boolean (1 : Int32)))) (fun h => by rw [Bd.returns] at h; cases h)
        refine ⟨_, _, retN X2_1 hx (t := .boolean) Bd.returns (by simp) (hb hby d2_23) hr, hrun, hended, _, _, rfl, ?_, ⟨_, rfl⟩, hW, hsame.mono (by decide) (by decide)⟩
        have eh : (T2_1.setFrames fs).heap = h0 := e2_1
        rw [eh]
        exact ⟨by rw [hF2, if_neg hc2_1, if_pos hc2_2, if_neg hc2_3], N2_1, rfl⟩
    · refine own_fw (A := s₁.setTop (mkF m 22 #[.val (.ref r0), .val (.int (2 : Int32)), .val (.int p2), .val (.int p3)] [])) (fun t k => ?_) ?_
      · show Steps p.tables e below (s₁.setTop (mkF m 7 #[.val (.ref r0), .val (.int (2 : Int32)), .val (.int p2), .val (.int p3)] [(.int p3), (.int (2 : Int32))])) t
        refine XS.icmpYes X0.here hx rfl (pc0 := 7) (pc' := 22) rfl (hb hby d2_7) rfl (flt hc2_2).2.1 (by decide) (by decide) ?_
        exact k
      refine own_fw (A := s₁.setTop (mkF m 23 #[.val (.ref r0), .val (.int (2 : Int32)), .val (.int p2), .val (.int p3)] [(.int (0 : Int32))])) (fun t k => ?_) ?_
      · show Steps p.tables e below (s₁.setTop (mkF m 22 #[.val (.ref r0), .val (.int (2 : Int32)), .val (.int p2), .val (.int p3)] [])) t
        refine XS.iconst X0.here hx rfl (hb hby d2_22) ?_
        exact k
      obtain ⟨fs, hr, hrun, hended, hW, hsame⟩ := X0.leave (v := some (.int (nar .boolean (0 : Int32)))) (fun h => by rw [Bd.returns] at h; cases h)
      refine ⟨_, _, retN X0 hx (t := .boolean) Bd.returns (by simp) (hb hby d2_23) hr, hrun, hended, _, _, rfl, ?_, ⟨_, rfl⟩, hW, hsame.mono (by decide) (by decide)⟩
      have eh : (s₁.setFrames fs).heap = h0 := e0
      rw [eh]
      exact ⟨by rw [hF2, if_neg hc2_1, if_neg hc2_2], N0, rfl⟩
def hF3 (v0 : Int32) (v1 : Int32) (v2 : Int32) (v3 : Int32) (v4 : Int32) (v5 : Int32) (p2 : Int32) (p3 : Int32) : Int32 := (if (3 : Int32) < p2 then (nar .boolean (0 : Int32)) else (if (3 : Int32) < p3 then (if (eF3 v0 v1 v2 v3 v4 v5) = (0 : Int32) then (nar .boolean (0 : Int32)) else (nar .boolean (1 : Int32))) else (nar .boolean (0 : Int32))))
set_option maxRecDepth 65536 in
set_option maxHeartbeats 40000000 in
theorem rmH3 (l : Launch) (Z : State) (a0 : Array Value) (hw : ∀ d ∈ tables_1, d.before a0 Z = true) (ws : List Jvm.Cond) (r0 : Addr) (p2 : Int32) (p3 : Int32) (k : ClassId) (v0 : Int32) (v1 : Int32) (v2 : Int32) (v3 : Int32) (v4 : Int32) (v5 : Int32) (h0 : Heap) (n0 : Nat) (Z0 : n0 ≤ h0.size) (V_r0 : Arv Z h0 r0 k .byte (6 : Int32) [(.int v0), (.int v1), (.int v2), (.int v3), (.int v4), (.int v5)] (.int (0 : Int32))) :
    MetFree l (⟨"com/example/finalmark/finalmark/RequestHeadEndPinLaw", "hit", "([BIII)Z"⟩ : MethodName) (head1 (Jvm.Cond.code (⟨"com/example/finalmark/finalmark/RequestHeadEndPinLaw", "hit", "([BIII)Z"⟩ : MethodName) method_4_code 4 (some .boolean) :: ws) ({ frames := 1, cells := 0, slots := 0, locals := 13 } : Room)) (fun a U => a = #[(.ref r0), (.int (3 : Int32)), (.int p2), (.int p3)] ∧ Z.Warmed39 U.vm ∧ U.heap = h0) (fun _ _ _ _ _ => True) (fun _ U o U' => ∃ v L, o = .returned v ∧ Q2 Z (hF3 v0 v1 v2 v3 v4 v5 p2 p3) h0 n0 v U'.heap L ∧ FrameEnd U o U' L ({ frames := 1, cells := 0, slots := 0, locals := 13 } : Room).cells ({ frames := 1, cells := 0, slots := 0, locals := 13 } : Room).slots) := by
  refine MetFree.of_bodySF (plainFor_of_name pn2) hisR ?_
  intro p e s m args below meth c s₁ Bd hml0 hP hK
  obtain ⟨rfl, hZ, hh⟩ := hP
  have hx := Bd.exec
  have hby := Bd.bytes
  have hml : c.maxLocals = 4 := hml0
  have hown : s.vm.findClass "com/example/finalmark/finalmark/RequestHeadEndPinLaw" = some m.cls := findClass_of_methodNamed Bd.named
  have hnm := (name_of_methodNamed Bd.named Bd.method).1
  have X0 : Stand p l e ({ frames := 1, cells := 0, slots := 0, locals := 13 } : Room) s m #[(.ref r0), (.int (3 : Int32)), (.int p2), (.int p3)] below meth c s₁ [] 0 0 := Stand.of_body Bd
  have e0 : s₁.heap = h0 := by rw [← hh, Bd.state]; rfl
  have N0 := Fr.nil n0
  refine own_fw (A := s₁.setTop (mkF m 0 #[.val (.ref r0), .val (.int (3 : Int32)), .val (.int p2), .val (.int p3)] [])) (fun t k => castTop (ef2 m r0 (3 : Int32) p2 p3) k) ?_
  refine own_fw (A := s₁.setTop (mkF m 2 #[.val (.ref r0), .val (.int (3 : Int32)), .val (.int p2), .val (.int p3)] [(.int p2), (.int (3 : Int32))])) (fun t k => ?_) ?_
  · show Steps p.tables e below (s₁.setTop (mkF m 0 #[.val (.ref r0), .val (.int (3 : Int32)), .val (.int p2), .val (.int p3)] [])) t
    refine XS.iloadN X0.here hx rfl (hb hby d2_0) rfl ?_
    show Steps p.tables e below (s₁.setTop (mkF m 1 #[.val (.ref r0), .val (.int (3 : Int32)), .val (.int p2), .val (.int p3)] [(.int (3 : Int32))])) t
    refine XS.iloadN X0.here hx rfl (hb hby d2_1) rfl ?_
    exact k
  by_cases hc2_1 : (3 : Int32) < p2
  · refine own_fw (A := s₁.setTop (mkF m 22 #[.val (.ref r0), .val (.int (3 : Int32)), .val (.int p2), .val (.int p3)] [])) (fun t k => ?_) ?_
    · show Steps p.tables e below (s₁.setTop (mkF m 2 #[.val (.ref r0), .val (.int (3 : Int32)), .val (.int p2), .val (.int p3)] [(.int p2), (.int (3 : Int32))])) t
      refine XS.icmpYes X0.here hx rfl (pc0 := 2) (pc' := 22) rfl (hb hby d2_2) rfl (tlt hc2_1).1 (by decide) (by decide) ?_
      exact k
    refine own_fw (A := s₁.setTop (mkF m 23 #[.val (.ref r0), .val (.int (3 : Int32)), .val (.int p2), .val (.int p3)] [(.int (0 : Int32))])) (fun t k => ?_) ?_
    · show Steps p.tables e below (s₁.setTop (mkF m 22 #[.val (.ref r0), .val (.int (3 : Int32)), .val (.int p2), .val (.int p3)] [])) t
      refine XS.iconst X0.here hx rfl (hb hby d2_22) ?_
      exact k
    obtain ⟨fs, hr, hrun, hended, hW, hsame⟩ := X0.leave (v := some (.int (nar .boolean (0 : Int32)))) (fun h => by rw [Bd.returns] at h; cases h)
    refine ⟨_, _, retN X0 hx (t := .boolean) Bd.returns (by simp) (hb hby d2_23) hr, hrun, hended, _, _, rfl, ?_, ⟨_, rfl⟩, hW, hsame.mono (by decide) (by decide)⟩
    have eh : (s₁.setFrames fs).heap = h0 := e0
    rw [eh]
    exact ⟨by rw [hF3, if_pos hc2_1], N0, rfl⟩
  · refine own_fw (A := s₁.setTop (mkF m 5 #[.val (.ref r0), .val (.int (3 : Int32)), .val (.int p2), .val (.int p3)] [])) (fun t k => ?_) ?_
    · show Steps p.tables e below (s₁.setTop (mkF m 2 #[.val (.ref r0), .val (.int (3 : Int32)), .val (.int p2), .val (.int p3)] [(.int p2), (.int (3 : Int32))])) t
      refine XS.icmpNo X0.here hx rfl (hb hby d2_2) rfl (flt hc2_1).1 ?_
      exact k
    refine own_fw (A := s₁.setTop (mkF m 7 #[.val (.ref r0), .val (.int (3 : Int32)), .val (.int p2), .val (.int p3)] [(.int p3), (.int (3 : Int32))])) (fun t k => ?_) ?_
    · show Steps p.tables e below (s₁.setTop (mkF m 5 #[.val (.ref r0), .val (.int (3 : Int32)), .val (.int p2), .val (.int p3)] [])) t
      refine XS.iloadN X0.here hx rfl (hb hby d2_5) rfl ?_
      show Steps p.tables e below (s₁.setTop (mkF m 6 #[.val (.ref r0), .val (.int (3 : Int32)), .val (.int p2), .val (.int p3)] [(.int (3 : Int32))])) t
      refine XS.iloadN X0.here hx rfl (hb hby d2_6) rfl ?_
      exact k
    by_cases hc2_2 : (3 : Int32) < p3
    · refine own_fw (A := s₁.setTop (mkF m 10 #[.val (.ref r0), .val (.int (3 : Int32)), .val (.int p2), .val (.int p3)] [])) (fun t k => ?_) ?_
      · show Steps p.tables e below (s₁.setTop (mkF m 7 #[.val (.ref r0), .val (.int (3 : Int32)), .val (.int p2), .val (.int p3)] [(.int p3), (.int (3 : Int32))])) t
        refine XS.icmpNo X0.here hx rfl (hb hby d2_7) rfl (tlt hc2_2).2.1 ?_
        exact k
      refine own_fw (A := s₁.setTop (mkF m 12 #[.val (.ref r0), .val (.int (3 : Int32)), .val (.int p2), .val (.int p3)] [(.int (3 : Int32)), (.ref r0)])) (fun t k => ?_) ?_
      · show Steps p.tables e below (s₁.setTop (mkF m 10 #[.val (.ref r0), .val (.int (3 : Int32)), .val (.int p2), .val (.int p3)] [])) t
        refine XS.aloadN X0.here hx rfl (hb hby d2_10) rfl rfl ?_
        show Steps p.tables e below (s₁.setTop (mkF m 11 #[.val (.ref r0), .val (.int (3 : Int32)), .val (.int p2), .val (.int p3)] [(.ref r0)])) t
        refine XS.iloadN X0.here hx rfl (hb hby d2_11) rfl ?_
        exact k
      obtain ⟨_, _, ⟨T2_1, L2_1, k2_1, n2_1⟩, -, X2_1, ⟨Lc2_1, hQ2_1, l2_1, y2_1, z2_1⟩, st2_1⟩ := Jvm.LawKit.callS X0 hx (y := (⟨"com/example/finalmark/finalmark/RequestHeadEndPinLaw", "emptyLineEnd", "([BI)Z"⟩ : MethodName)) hown (mvT hZ (hw _ (List.mem_of_getElem? (i := 13) rfl))) (mvT hZ (hw _ (List.mem_of_getElem? (i := 14) rfl))) (mvT hZ (hw _ (List.mem_of_getElem? (i := 3) rfl))) (mvT hZ (hw _ (List.mem_of_getElem? (i := 15) rfl))) (by decide) (backOf (W := 0) (rmL3 l Z a0 hw [] r0 k v0 v1 v2 v3 v4 v5 h0 n0 Z0 V_r0) hZ (hw _ (List.mem_of_getElem? (i := 15) rfl)) (hw _ (List.mem_of_getElem? (i := 3) rfl)) (by decide) (by decide)) (g := (mkF m 12 #[.val (.ref r0), .val (.int (3 : Int32)), .val (.int p2), .val (.int p3)] [(.int (3 : Int32)), (.ref r0)])) rfl (by rw [hml]; rfl) (argsL := [(.ref r0), (.int (3 : Int32))]) (rest := []) (lenOf pd2_0 rfl) rfl (by show 2 * 0 + _ ≤ _; exact Nat.le_of_eq rfl) (hb hby d2_12) (fun _ _ => ⟨rfl, e0, (by decide : 0 + 0 ≤ _), (by decide : 0 + 0 ≤ _)⟩)
      dsimp only [Pt.U, Pt.locs, Pt.cells, Pt.slots] at X2_1 l2_1 y2_1 z2_1 st2_1 hQ2_1
      subst l2_1 y2_1 z2_1
      obtain ⟨rfl, N2_1q, e2_1⟩ := hQ2_1
      have N2_1 := Fr.app N0 N2_1q
      refine own_fw st2_1 ?_
      by_cases hc2_3 : (eF3 v0 v1 v2 v3 v4 v5) = (0 : Int32)
      · refine own_fw (A := T2_1.setTop (mkF m 22 #[.val (.ref r0), .val (.int (3 : Int32)), .val (.int p2), .val (.int p3)] [])) (fun t k => ?_) ?_
        · show Steps p.tables e below (T2_1.setTop (mkF m 15 #[.val (.ref r0), .val (.int (3 : Int32)), .val (.int p2), .val (.int p3)] [(.int (eF3 v0 v1 v2 v3 v4 v5))])) t
          refine XS.ifYes X2_1.here hx rfl (pc0 := 15) (pc' := 22) rfl (hb hby d2_15) rfl ((if0 _ _).trans (teq hc2_3).1) (by decide) (by decide) ?_
          exact k
        refine own_fw (A := T2_1.setTop (mkF m 23 #[.val (.ref r0), .val (.int (3 : Int32)), .val (.int p2), .val (.int p3)] [(.int (0 : Int32))])) (fun t k => ?_) ?_
        · show Steps p.tables e below (T2_1.setTop (mkF m 22 #[.val (.ref r0), .val (.int (3 : Int32)), .val (.int p2), .val (.int p3)] [])) t
          refine XS.iconst X2_1.here hx rfl (hb hby d2_22) ?_
          exact k
        obtain ⟨fs, hr, hrun, hended, hW, hsame⟩ := X2_1.leave (v := some (.int (nar .boolean (0 : Int32)))) (fun h => by rw [Bd.returns] at h; cases h)
        refine ⟨_, _, retN X2_1 hx (t := .boolean) Bd.returns (by simp) (hb hby d2_23) hr, hrun, hended, _, _, rfl, ?_, ⟨_, rfl⟩, hW, hsame.mono (by decide) (by decide)⟩
        have eh : (T2_1.setFrames fs).heap = h0 := e2_1
        rw [eh]
        exact ⟨by rw [hF3, if_neg hc2_1, if_pos hc2_2, if_pos hc2_3], N2_1, rfl⟩
      · refine own_fw (A := T2_1.setTop (mkF m 18 #[.val (.ref r0), .val (.int (3 : Int32)), .val (.int p2), .val (.int p3)] [])) (fun t k => ?_) ?_
        · show Steps p.tables e below (T2_1.setTop (mkF m 15 #[.val (.ref r0), .val (.int (3 : Int32)), .val (.int p2), .val (.int p3)] [(.int (eF3 v0 v1 v2 v3 v4 v5))])) t
          refine XS.ifNo X2_1.here hx rfl (hb hby d2_15) rfl ((if0 _ _).trans (feq hc2_3).1) ?_
          exact k
        refine own_fw (A := T2_1.setTop (mkF m 23 #[.val (.ref r0), .val (.int (3 : Int32)), .val (.int p2), .val (.int p3)] [(.int (1 : Int32))])) (fun t k => ?_) ?_
        · show Steps p.tables e below (T2_1.setTop (mkF m 18 #[.val (.ref r0), .val (.int (3 : Int32)), .val (.int p2), .val (.int p3)] [])) t
          refine XS.iconst X2_1.here hx rfl (hb hby d2_18) ?_
          show Steps p.tables e below (T2_1.setTop (mkF m 19 #[.val (.ref r0), .val (.int (3 : Int32)), .val (.int p2), .val (.int p3)] [(.int (1 : Int32))])) t
          refine XS.goto X2_1.here hx rfl (pc0 := 19) (pc' := 23) rfl (hb hby d2_19) (by decide) (by decide) ?_
          exact k
        obtain ⟨fs, hr, hrun, hended, hW, hsame⟩ := X2_1.leave (v := some (.int (nar .boolean (1 : Int32)))) (fun h => by rw [Bd.returns] at h; cases h)
        refine ⟨_, _, retN X2_1 hx (t := .boolean) Bd.returns (by simp) (hb hby d2_23) hr, hrun, hended, _, _, rfl, ?_, ⟨_, rfl⟩, hW, hsame.mono (by decide) (by decide)⟩
        have eh : (T2_1.setFrames fs).heap = h0 := e2_1
        rw [eh]
        exact ⟨by rw [hF3, if_neg hc2_1, if_pos hc2_2, if_neg hc2_3], N2_1, rfl⟩
    · refine own_fw (A := s₁.setTop (mkF m 22 #[.val (.ref r0), .val (.int (3 : Int32)), .val (.int p2), .val (.int p3)] [])) (fun t k => ?_) ?_
      · show Steps p.tables e below (s₁.setTop (mkF m 7 #[.val (.ref r0), .val (.int (3 : Int32)), .val (.int p2), .val (.int p3)] [(.int p3), (.int (3 : Int32))])) t
        refine XS.icmpYes X0.here hx rfl (pc0 := 7) (pc' := 22) rfl (hb hby d2_7) rfl (flt hc2_2).2.1 (by decide) (by decide) ?_
        exact k
      refine own_fw (A := s₁.setTop (mkF m 23 #[.val (.ref r0), .val (.int (3 : Int32)), .val (.int p2), .val (.int p3)] [(.int (0 : Int32))])) (fun t k => ?_) ?_
      · show Steps p.tables e below (s₁.setTop (mkF m 22 #[.val (.ref r0), .val (.int (3 : Int32)), .val (.int p2), .val (.int p3)] [])) t
        refine XS.iconst X0.here hx rfl (hb hby d2_22) ?_
        exact k
      obtain ⟨fs, hr, hrun, hended, hW, hsame⟩ := X0.leave (v := some (.int (nar .boolean (0 : Int32)))) (fun h => by rw [Bd.returns] at h; cases h)
      refine ⟨_, _, retN X0 hx (t := .boolean) Bd.returns (by simp) (hb hby d2_23) hr, hrun, hended, _, _, rfl, ?_, ⟨_, rfl⟩, hW, hsame.mono (by decide) (by decide)⟩
      have eh : (s₁.setFrames fs).heap = h0 := e0
      rw [eh]
      exact ⟨by rw [hF3, if_neg hc2_1, if_neg hc2_2], N0, rfl⟩
def hF4 (v0 : Int32) (v1 : Int32) (v2 : Int32) (v3 : Int32) (v4 : Int32) (v5 : Int32) (p2 : Int32) (p3 : Int32) : Int32 := (if (4 : Int32) < p2 then (nar .boolean (0 : Int32)) else (if (4 : Int32) < p3 then (if (eF4 v0 v1 v2 v3 v4 v5) = (0 : Int32) then (nar .boolean (0 : Int32)) else (nar .boolean (1 : Int32))) else (nar .boolean (0 : Int32))))
set_option maxRecDepth 65536 in
set_option maxHeartbeats 40000000 in
theorem rmH4 (l : Launch) (Z : State) (a0 : Array Value) (hw : ∀ d ∈ tables_1, d.before a0 Z = true) (ws : List Jvm.Cond) (r0 : Addr) (p2 : Int32) (p3 : Int32) (k : ClassId) (v0 : Int32) (v1 : Int32) (v2 : Int32) (v3 : Int32) (v4 : Int32) (v5 : Int32) (h0 : Heap) (n0 : Nat) (Z0 : n0 ≤ h0.size) (V_r0 : Arv Z h0 r0 k .byte (6 : Int32) [(.int v0), (.int v1), (.int v2), (.int v3), (.int v4), (.int v5)] (.int (0 : Int32))) :
    MetFree l (⟨"com/example/finalmark/finalmark/RequestHeadEndPinLaw", "hit", "([BIII)Z"⟩ : MethodName) (head1 (Jvm.Cond.code (⟨"com/example/finalmark/finalmark/RequestHeadEndPinLaw", "hit", "([BIII)Z"⟩ : MethodName) method_4_code 4 (some .boolean) :: ws) ({ frames := 1, cells := 0, slots := 0, locals := 13 } : Room)) (fun a U => a = #[(.ref r0), (.int (4 : Int32)), (.int p2), (.int p3)] ∧ Z.Warmed39 U.vm ∧ U.heap = h0) (fun _ _ _ _ _ => True) (fun _ U o U' => ∃ v L, o = .returned v ∧ Q2 Z (hF4 v0 v1 v2 v3 v4 v5 p2 p3) h0 n0 v U'.heap L ∧ FrameEnd U o U' L ({ frames := 1, cells := 0, slots := 0, locals := 13 } : Room).cells ({ frames := 1, cells := 0, slots := 0, locals := 13 } : Room).slots) := by
  refine MetFree.of_bodySF (plainFor_of_name pn2) hisR ?_
  intro p e s m args below meth c s₁ Bd hml0 hP hK
  obtain ⟨rfl, hZ, hh⟩ := hP
  have hx := Bd.exec
  have hby := Bd.bytes
  have hml : c.maxLocals = 4 := hml0
  have hown : s.vm.findClass "com/example/finalmark/finalmark/RequestHeadEndPinLaw" = some m.cls := findClass_of_methodNamed Bd.named
  have hnm := (name_of_methodNamed Bd.named Bd.method).1
  have X0 : Stand p l e ({ frames := 1, cells := 0, slots := 0, locals := 13 } : Room) s m #[(.ref r0), (.int (4 : Int32)), (.int p2), (.int p3)] below meth c s₁ [] 0 0 := Stand.of_body Bd
  have e0 : s₁.heap = h0 := by rw [← hh, Bd.state]; rfl
  have N0 := Fr.nil n0
  refine own_fw (A := s₁.setTop (mkF m 0 #[.val (.ref r0), .val (.int (4 : Int32)), .val (.int p2), .val (.int p3)] [])) (fun t k => castTop (ef2 m r0 (4 : Int32) p2 p3) k) ?_
  refine own_fw (A := s₁.setTop (mkF m 2 #[.val (.ref r0), .val (.int (4 : Int32)), .val (.int p2), .val (.int p3)] [(.int p2), (.int (4 : Int32))])) (fun t k => ?_) ?_
  · show Steps p.tables e below (s₁.setTop (mkF m 0 #[.val (.ref r0), .val (.int (4 : Int32)), .val (.int p2), .val (.int p3)] [])) t
    refine XS.iloadN X0.here hx rfl (hb hby d2_0) rfl ?_
    show Steps p.tables e below (s₁.setTop (mkF m 1 #[.val (.ref r0), .val (.int (4 : Int32)), .val (.int p2), .val (.int p3)] [(.int (4 : Int32))])) t
    refine XS.iloadN X0.here hx rfl (hb hby d2_1) rfl ?_
    exact k
  by_cases hc2_1 : (4 : Int32) < p2
  · refine own_fw (A := s₁.setTop (mkF m 22 #[.val (.ref r0), .val (.int (4 : Int32)), .val (.int p2), .val (.int p3)] [])) (fun t k => ?_) ?_
    · show Steps p.tables e below (s₁.setTop (mkF m 2 #[.val (.ref r0), .val (.int (4 : Int32)), .val (.int p2), .val (.int p3)] [(.int p2), (.int (4 : Int32))])) t
      refine XS.icmpYes X0.here hx rfl (pc0 := 2) (pc' := 22) rfl (hb hby d2_2) rfl (tlt hc2_1).1 (by decide) (by decide) ?_
      exact k
    refine own_fw (A := s₁.setTop (mkF m 23 #[.val (.ref r0), .val (.int (4 : Int32)), .val (.int p2), .val (.int p3)] [(.int (0 : Int32))])) (fun t k => ?_) ?_
    · show Steps p.tables e below (s₁.setTop (mkF m 22 #[.val (.ref r0), .val (.int (4 : Int32)), .val (.int p2), .val (.int p3)] [])) t
      refine XS.iconst X0.here hx rfl (hb hby d2_22) ?_
      exact k
    obtain ⟨fs, hr, hrun, hended, hW, hsame⟩ := X0.leave (v := some (.int (nar .boolean (0 : Int32)))) (fun h => by rw [Bd.returns] at h; cases h)
    refine ⟨_, _, retN X0 hx (t := .boolean) Bd.returns (by simp) (hb hby d2_23) hr, hrun, hended, _, _, rfl, ?_, ⟨_, rfl⟩, hW, hsame.mono (by decide) (by decide)⟩
    have eh : (s₁.setFrames fs).heap = h0 := e0
    rw [eh]
    exact ⟨by rw [hF4, if_pos hc2_1], N0, rfl⟩
  · refine own_fw (A := s₁.setTop (mkF m 5 #[.val (.ref r0), .val (.int (4 : Int32)), .val (.int p2), .val (.int p3)] [])) (fun t k => ?_) ?_
    · show Steps p.tables e below (s₁.setTop (mkF m 2 #[.val (.ref r0), .val (.int (4 : Int32)), .val (.int p2), .val (.int p3)] [(.int p2), (.int (4 : Int32))])) t
      refine XS.icmpNo X0.here hx rfl (hb hby d2_2) rfl (flt hc2_1).1 ?_
      exact k
    refine own_fw (A := s₁.setTop (mkF m 7 #[.val (.ref r0), .val (.int (4 : Int32)), .val (.int p2), .val (.int p3)] [(.int p3), (.int (4 : Int32))])) (fun t k => ?_) ?_
    · show Steps p.tables e below (s₁.setTop (mkF m 5 #[.val (.ref r0), .val (.int (4 : Int32)), .val (.int p2), .val (.int p3)] [])) t
      refine XS.iloadN X0.here hx rfl (hb hby d2_5) rfl ?_
      show Steps p.tables e below (s₁.setTop (mkF m 6 #[.val (.ref r0), .val (.int (4 : Int32)), .val (.int p2), .val (.int p3)] [(.int (4 : Int32))])) t
      refine XS.iloadN X0.here hx rfl (hb hby d2_6) rfl ?_
      exact k
    by_cases hc2_2 : (4 : Int32) < p3
    · refine own_fw (A := s₁.setTop (mkF m 10 #[.val (.ref r0), .val (.int (4 : Int32)), .val (.int p2), .val (.int p3)] [])) (fun t k => ?_) ?_
      · show Steps p.tables e below (s₁.setTop (mkF m 7 #[.val (.ref r0), .val (.int (4 : Int32)), .val (.int p2), .val (.int p3)] [(.int p3), (.int (4 : Int32))])) t
        refine XS.icmpNo X0.here hx rfl (hb hby d2_7) rfl (tlt hc2_2).2.1 ?_
        exact k
      refine own_fw (A := s₁.setTop (mkF m 12 #[.val (.ref r0), .val (.int (4 : Int32)), .val (.int p2), .val (.int p3)] [(.int (4 : Int32)), (.ref r0)])) (fun t k => ?_) ?_
      · show Steps p.tables e below (s₁.setTop (mkF m 10 #[.val (.ref r0), .val (.int (4 : Int32)), .val (.int p2), .val (.int p3)] [])) t
        refine XS.aloadN X0.here hx rfl (hb hby d2_10) rfl rfl ?_
        show Steps p.tables e below (s₁.setTop (mkF m 11 #[.val (.ref r0), .val (.int (4 : Int32)), .val (.int p2), .val (.int p3)] [(.ref r0)])) t
        refine XS.iloadN X0.here hx rfl (hb hby d2_11) rfl ?_
        exact k
      obtain ⟨_, _, ⟨T2_1, L2_1, k2_1, n2_1⟩, -, X2_1, ⟨Lc2_1, hQ2_1, l2_1, y2_1, z2_1⟩, st2_1⟩ := Jvm.LawKit.callS X0 hx (y := (⟨"com/example/finalmark/finalmark/RequestHeadEndPinLaw", "emptyLineEnd", "([BI)Z"⟩ : MethodName)) hown (mvT hZ (hw _ (List.mem_of_getElem? (i := 13) rfl))) (mvT hZ (hw _ (List.mem_of_getElem? (i := 14) rfl))) (mvT hZ (hw _ (List.mem_of_getElem? (i := 3) rfl))) (mvT hZ (hw _ (List.mem_of_getElem? (i := 15) rfl))) (by decide) (backOf (W := 0) (rmL4 l Z a0 hw [] r0 k v0 v1 v2 v3 v4 v5 h0 n0 Z0 V_r0) hZ (hw _ (List.mem_of_getElem? (i := 15) rfl)) (hw _ (List.mem_of_getElem? (i := 3) rfl)) (by decide) (by decide)) (g := (mkF m 12 #[.val (.ref r0), .val (.int (4 : Int32)), .val (.int p2), .val (.int p3)] [(.int (4 : Int32)), (.ref r0)])) rfl (by rw [hml]; rfl) (argsL := [(.ref r0), (.int (4 : Int32))]) (rest := []) (lenOf pd2_0 rfl) rfl (by show 2 * 0 + _ ≤ _; exact Nat.le_of_eq rfl) (hb hby d2_12) (fun _ _ => ⟨rfl, e0, (by decide : 0 + 0 ≤ _), (by decide : 0 + 0 ≤ _)⟩)
      dsimp only [Pt.U, Pt.locs, Pt.cells, Pt.slots] at X2_1 l2_1 y2_1 z2_1 st2_1 hQ2_1
      subst l2_1 y2_1 z2_1
      obtain ⟨rfl, N2_1q, e2_1⟩ := hQ2_1
      have N2_1 := Fr.app N0 N2_1q
      refine own_fw st2_1 ?_
      by_cases hc2_3 : (eF4 v0 v1 v2 v3 v4 v5) = (0 : Int32)
      · refine own_fw (A := T2_1.setTop (mkF m 22 #[.val (.ref r0), .val (.int (4 : Int32)), .val (.int p2), .val (.int p3)] [])) (fun t k => ?_) ?_
        · show Steps p.tables e below (T2_1.setTop (mkF m 15 #[.val (.ref r0), .val (.int (4 : Int32)), .val (.int p2), .val (.int p3)] [(.int (eF4 v0 v1 v2 v3 v4 v5))])) t
          refine XS.ifYes X2_1.here hx rfl (pc0 := 15) (pc' := 22) rfl (hb hby d2_15) rfl ((if0 _ _).trans (teq hc2_3).1) (by decide) (by decide) ?_
          exact k
        refine own_fw (A := T2_1.setTop (mkF m 23 #[.val (.ref r0), .val (.int (4 : Int32)), .val (.int p2), .val (.int p3)] [(.int (0 : Int32))])) (fun t k => ?_) ?_
        · show Steps p.tables e below (T2_1.setTop (mkF m 22 #[.val (.ref r0), .val (.int (4 : Int32)), .val (.int p2), .val (.int p3)] [])) t
          refine XS.iconst X2_1.here hx rfl (hb hby d2_22) ?_
          exact k
        obtain ⟨fs, hr, hrun, hended, hW, hsame⟩ := X2_1.leave (v := some (.int (nar .boolean (0 : Int32)))) (fun h => by rw [Bd.returns] at h; cases h)
        refine ⟨_, _, retN X2_1 hx (t := .boolean) Bd.returns (by simp) (hb hby d2_23) hr, hrun, hended, _, _, rfl, ?_, ⟨_, rfl⟩, hW, hsame.mono (by decide) (by decide)⟩
        have eh : (T2_1.setFrames fs).heap = h0 := e2_1
        rw [eh]
        exact ⟨by rw [hF4, if_neg hc2_1, if_pos hc2_2, if_pos hc2_3], N2_1, rfl⟩
      · refine own_fw (A := T2_1.setTop (mkF m 18 #[.val (.ref r0), .val (.int (4 : Int32)), .val (.int p2), .val (.int p3)] [])) (fun t k => ?_) ?_
        · show Steps p.tables e below (T2_1.setTop (mkF m 15 #[.val (.ref r0), .val (.int (4 : Int32)), .val (.int p2), .val (.int p3)] [(.int (eF4 v0 v1 v2 v3 v4 v5))])) t
          refine XS.ifNo X2_1.here hx rfl (hb hby d2_15) rfl ((if0 _ _).trans (feq hc2_3).1) ?_
          exact k
        refine own_fw (A := T2_1.setTop (mkF m 23 #[.val (.ref r0), .val (.int (4 : Int32)), .val (.int p2), .val (.int p3)] [(.int (1 : Int32))])) (fun t k => ?_) ?_
        · show Steps p.tables e below (T2_1.setTop (mkF m 18 #[.val (.ref r0), .val (.int (4 : Int32)), .val (.int p2), .val (.int p3)] [])) t
          refine XS.iconst X2_1.here hx rfl (hb hby d2_18) ?_
          show Steps p.tables e below (T2_1.setTop (mkF m 19 #[.val (.ref r0), .val (.int (4 : Int32)), .val (.int p2), .val (.int p3)] [(.int (1 : Int32))])) t
          refine XS.goto X2_1.here hx rfl (pc0 := 19) (pc' := 23) rfl (hb hby d2_19) (by decide) (by decide) ?_
          exact k
        obtain ⟨fs, hr, hrun, hended, hW, hsame⟩ := X2_1.leave (v := some (.int (nar .boolean (1 : Int32)))) (fun h => by rw [Bd.returns] at h; cases h)
        refine ⟨_, _, retN X2_1 hx (t := .boolean) Bd.returns (by simp) (hb hby d2_23) hr, hrun, hended, _, _, rfl, ?_, ⟨_, rfl⟩, hW, hsame.mono (by decide) (by decide)⟩
        have eh : (T2_1.setFrames fs).heap = h0 := e2_1
        rw [eh]
        exact ⟨by rw [hF4, if_neg hc2_1, if_pos hc2_2, if_neg hc2_3], N2_1, rfl⟩
    · refine own_fw (A := s₁.setTop (mkF m 22 #[.val (.ref r0), .val (.int (4 : Int32)), .val (.int p2), .val (.int p3)] [])) (fun t k => ?_) ?_
      · show Steps p.tables e below (s₁.setTop (mkF m 7 #[.val (.ref r0), .val (.int (4 : Int32)), .val (.int p2), .val (.int p3)] [(.int p3), (.int (4 : Int32))])) t
        refine XS.icmpYes X0.here hx rfl (pc0 := 7) (pc' := 22) rfl (hb hby d2_7) rfl (flt hc2_2).2.1 (by decide) (by decide) ?_
        exact k
      refine own_fw (A := s₁.setTop (mkF m 23 #[.val (.ref r0), .val (.int (4 : Int32)), .val (.int p2), .val (.int p3)] [(.int (0 : Int32))])) (fun t k => ?_) ?_
      · show Steps p.tables e below (s₁.setTop (mkF m 22 #[.val (.ref r0), .val (.int (4 : Int32)), .val (.int p2), .val (.int p3)] [])) t
        refine XS.iconst X0.here hx rfl (hb hby d2_22) ?_
        exact k
      obtain ⟨fs, hr, hrun, hended, hW, hsame⟩ := X0.leave (v := some (.int (nar .boolean (0 : Int32)))) (fun h => by rw [Bd.returns] at h; cases h)
      refine ⟨_, _, retN X0 hx (t := .boolean) Bd.returns (by simp) (hb hby d2_23) hr, hrun, hended, _, _, rfl, ?_, ⟨_, rfl⟩, hW, hsame.mono (by decide) (by decide)⟩
      have eh : (s₁.setFrames fs).heap = h0 := e0
      rw [eh]
      exact ⟨by rw [hF4, if_neg hc2_1, if_neg hc2_2], N0, rfl⟩
def hF5 (v0 : Int32) (v1 : Int32) (v2 : Int32) (v3 : Int32) (v4 : Int32) (v5 : Int32) (p2 : Int32) (p3 : Int32) : Int32 := (if (5 : Int32) < p2 then (nar .boolean (0 : Int32)) else (if (5 : Int32) < p3 then (if (eF5 v0 v1 v2 v3 v4 v5) = (0 : Int32) then (nar .boolean (0 : Int32)) else (nar .boolean (1 : Int32))) else (nar .boolean (0 : Int32))))
set_option maxRecDepth 65536 in
set_option maxHeartbeats 40000000 in
theorem rmH5 (l : Launch) (Z : State) (a0 : Array Value) (hw : ∀ d ∈ tables_1, d.before a0 Z = true) (ws : List Jvm.Cond) (r0 : Addr) (p2 : Int32) (p3 : Int32) (k : ClassId) (v0 : Int32) (v1 : Int32) (v2 : Int32) (v3 : Int32) (v4 : Int32) (v5 : Int32) (h0 : Heap) (n0 : Nat) (Z0 : n0 ≤ h0.size) (V_r0 : Arv Z h0 r0 k .byte (6 : Int32) [(.int v0), (.int v1), (.int v2), (.int v3), (.int v4), (.int v5)] (.int (0 : Int32))) :
    MetFree l (⟨"com/example/finalmark/finalmark/RequestHeadEndPinLaw", "hit", "([BIII)Z"⟩ : MethodName) (head1 (Jvm.Cond.code (⟨"com/example/finalmark/finalmark/RequestHeadEndPinLaw", "hit", "([BIII)Z"⟩ : MethodName) method_4_code 4 (some .boolean) :: ws) ({ frames := 1, cells := 0, slots := 0, locals := 13 } : Room)) (fun a U => a = #[(.ref r0), (.int (5 : Int32)), (.int p2), (.int p3)] ∧ Z.Warmed39 U.vm ∧ U.heap = h0) (fun _ _ _ _ _ => True) (fun _ U o U' => ∃ v L, o = .returned v ∧ Q2 Z (hF5 v0 v1 v2 v3 v4 v5 p2 p3) h0 n0 v U'.heap L ∧ FrameEnd U o U' L ({ frames := 1, cells := 0, slots := 0, locals := 13 } : Room).cells ({ frames := 1, cells := 0, slots := 0, locals := 13 } : Room).slots) := by
  refine MetFree.of_bodySF (plainFor_of_name pn2) hisR ?_
  intro p e s m args below meth c s₁ Bd hml0 hP hK
  obtain ⟨rfl, hZ, hh⟩ := hP
  have hx := Bd.exec
  have hby := Bd.bytes
  have hml : c.maxLocals = 4 := hml0
  have hown : s.vm.findClass "com/example/finalmark/finalmark/RequestHeadEndPinLaw" = some m.cls := findClass_of_methodNamed Bd.named
  have hnm := (name_of_methodNamed Bd.named Bd.method).1
  have X0 : Stand p l e ({ frames := 1, cells := 0, slots := 0, locals := 13 } : Room) s m #[(.ref r0), (.int (5 : Int32)), (.int p2), (.int p3)] below meth c s₁ [] 0 0 := Stand.of_body Bd
  have e0 : s₁.heap = h0 := by rw [← hh, Bd.state]; rfl
  have N0 := Fr.nil n0
  refine own_fw (A := s₁.setTop (mkF m 0 #[.val (.ref r0), .val (.int (5 : Int32)), .val (.int p2), .val (.int p3)] [])) (fun t k => castTop (ef2 m r0 (5 : Int32) p2 p3) k) ?_
  refine own_fw (A := s₁.setTop (mkF m 2 #[.val (.ref r0), .val (.int (5 : Int32)), .val (.int p2), .val (.int p3)] [(.int p2), (.int (5 : Int32))])) (fun t k => ?_) ?_
  · show Steps p.tables e below (s₁.setTop (mkF m 0 #[.val (.ref r0), .val (.int (5 : Int32)), .val (.int p2), .val (.int p3)] [])) t
    refine XS.iloadN X0.here hx rfl (hb hby d2_0) rfl ?_
    show Steps p.tables e below (s₁.setTop (mkF m 1 #[.val (.ref r0), .val (.int (5 : Int32)), .val (.int p2), .val (.int p3)] [(.int (5 : Int32))])) t
    refine XS.iloadN X0.here hx rfl (hb hby d2_1) rfl ?_
    exact k
  by_cases hc2_1 : (5 : Int32) < p2
  · refine own_fw (A := s₁.setTop (mkF m 22 #[.val (.ref r0), .val (.int (5 : Int32)), .val (.int p2), .val (.int p3)] [])) (fun t k => ?_) ?_
    · show Steps p.tables e below (s₁.setTop (mkF m 2 #[.val (.ref r0), .val (.int (5 : Int32)), .val (.int p2), .val (.int p3)] [(.int p2), (.int (5 : Int32))])) t
      refine XS.icmpYes X0.here hx rfl (pc0 := 2) (pc' := 22) rfl (hb hby d2_2) rfl (tlt hc2_1).1 (by decide) (by decide) ?_
      exact k
    refine own_fw (A := s₁.setTop (mkF m 23 #[.val (.ref r0), .val (.int (5 : Int32)), .val (.int p2), .val (.int p3)] [(.int (0 : Int32))])) (fun t k => ?_) ?_
    · show Steps p.tables e below (s₁.setTop (mkF m 22 #[.val (.ref r0), .val (.int (5 : Int32)), .val (.int p2), .val (.int p3)] [])) t
      refine XS.iconst X0.here hx rfl (hb hby d2_22) ?_
      exact k
    obtain ⟨fs, hr, hrun, hended, hW, hsame⟩ := X0.leave (v := some (.int (nar .boolean (0 : Int32)))) (fun h => by rw [Bd.returns] at h; cases h)
    refine ⟨_, _, retN X0 hx (t := .boolean) Bd.returns (by simp) (hb hby d2_23) hr, hrun, hended, _, _, rfl, ?_, ⟨_, rfl⟩, hW, hsame.mono (by decide) (by decide)⟩
    have eh : (s₁.setFrames fs).heap = h0 := e0
    rw [eh]
    exact ⟨by rw [hF5, if_pos hc2_1], N0, rfl⟩
  · refine own_fw (A := s₁.setTop (mkF m 5 #[.val (.ref r0), .val (.int (5 : Int32)), .val (.int p2), .val (.int p3)] [])) (fun t k => ?_) ?_
    · show Steps p.tables e below (s₁.setTop (mkF m 2 #[.val (.ref r0), .val (.int (5 : Int32)), .val (.int p2), .val (.int p3)] [(.int p2), (.int (5 : Int32))])) t
      refine XS.icmpNo X0.here hx rfl (hb hby d2_2) rfl (flt hc2_1).1 ?_
      exact k
    refine own_fw (A := s₁.setTop (mkF m 7 #[.val (.ref r0), .val (.int (5 : Int32)), .val (.int p2), .val (.int p3)] [(.int p3), (.int (5 : Int32))])) (fun t k => ?_) ?_
    · show Steps p.tables e below (s₁.setTop (mkF m 5 #[.val (.ref r0), .val (.int (5 : Int32)), .val (.int p2), .val (.int p3)] [])) t
      refine XS.iloadN X0.here hx rfl (hb hby d2_5) rfl ?_
      show Steps p.tables e below (s₁.setTop (mkF m 6 #[.val (.ref r0), .val (.int (5 : Int32)), .val (.int p2), .val (.int p3)] [(.int (5 : Int32))])) t
      refine XS.iloadN X0.here hx rfl (hb hby d2_6) rfl ?_
      exact k
    by_cases hc2_2 : (5 : Int32) < p3
    · refine own_fw (A := s₁.setTop (mkF m 10 #[.val (.ref r0), .val (.int (5 : Int32)), .val (.int p2), .val (.int p3)] [])) (fun t k => ?_) ?_
      · show Steps p.tables e below (s₁.setTop (mkF m 7 #[.val (.ref r0), .val (.int (5 : Int32)), .val (.int p2), .val (.int p3)] [(.int p3), (.int (5 : Int32))])) t
        refine XS.icmpNo X0.here hx rfl (hb hby d2_7) rfl (tlt hc2_2).2.1 ?_
        exact k
      refine own_fw (A := s₁.setTop (mkF m 12 #[.val (.ref r0), .val (.int (5 : Int32)), .val (.int p2), .val (.int p3)] [(.int (5 : Int32)), (.ref r0)])) (fun t k => ?_) ?_
      · show Steps p.tables e below (s₁.setTop (mkF m 10 #[.val (.ref r0), .val (.int (5 : Int32)), .val (.int p2), .val (.int p3)] [])) t
        refine XS.aloadN X0.here hx rfl (hb hby d2_10) rfl rfl ?_
        show Steps p.tables e below (s₁.setTop (mkF m 11 #[.val (.ref r0), .val (.int (5 : Int32)), .val (.int p2), .val (.int p3)] [(.ref r0)])) t
        refine XS.iloadN X0.here hx rfl (hb hby d2_11) rfl ?_
        exact k
      obtain ⟨_, _, ⟨T2_1, L2_1, k2_1, n2_1⟩, -, X2_1, ⟨Lc2_1, hQ2_1, l2_1, y2_1, z2_1⟩, st2_1⟩ := Jvm.LawKit.callS X0 hx (y := (⟨"com/example/finalmark/finalmark/RequestHeadEndPinLaw", "emptyLineEnd", "([BI)Z"⟩ : MethodName)) hown (mvT hZ (hw _ (List.mem_of_getElem? (i := 13) rfl))) (mvT hZ (hw _ (List.mem_of_getElem? (i := 14) rfl))) (mvT hZ (hw _ (List.mem_of_getElem? (i := 3) rfl))) (mvT hZ (hw _ (List.mem_of_getElem? (i := 15) rfl))) (by decide) (backOf (W := 0) (rmL5 l Z a0 hw [] r0 k v0 v1 v2 v3 v4 v5 h0 n0 Z0 V_r0) hZ (hw _ (List.mem_of_getElem? (i := 15) rfl)) (hw _ (List.mem_of_getElem? (i := 3) rfl)) (by decide) (by decide)) (g := (mkF m 12 #[.val (.ref r0), .val (.int (5 : Int32)), .val (.int p2), .val (.int p3)] [(.int (5 : Int32)), (.ref r0)])) rfl (by rw [hml]; rfl) (argsL := [(.ref r0), (.int (5 : Int32))]) (rest := []) (lenOf pd2_0 rfl) rfl (by show 2 * 0 + _ ≤ _; exact Nat.le_of_eq rfl) (hb hby d2_12) (fun _ _ => ⟨rfl, e0, (by decide : 0 + 0 ≤ _), (by decide : 0 + 0 ≤ _)⟩)
      dsimp only [Pt.U, Pt.locs, Pt.cells, Pt.slots] at X2_1 l2_1 y2_1 z2_1 st2_1 hQ2_1
      subst l2_1 y2_1 z2_1
      obtain ⟨rfl, N2_1q, e2_1⟩ := hQ2_1
      have N2_1 := Fr.app N0 N2_1q
      refine own_fw st2_1 ?_
      by_cases hc2_3 : (eF5 v0 v1 v2 v3 v4 v5) = (0 : Int32)
      · refine own_fw (A := T2_1.setTop (mkF m 22 #[.val (.ref r0), .val (.int (5 : Int32)), .val (.int p2), .val (.int p3)] [])) (fun t k => ?_) ?_
        · show Steps p.tables e below (T2_1.setTop (mkF m 15 #[.val (.ref r0), .val (.int (5 : Int32)), .val (.int p2), .val (.int p3)] [(.int (eF5 v0 v1 v2 v3 v4 v5))])) t
          refine XS.ifYes X2_1.here hx rfl (pc0 := 15) (pc' := 22) rfl (hb hby d2_15) rfl ((if0 _ _).trans (teq hc2_3).1) (by decide) (by decide) ?_
          exact k
        refine own_fw (A := T2_1.setTop (mkF m 23 #[.val (.ref r0), .val (.int (5 : Int32)), .val (.int p2), .val (.int p3)] [(.int (0 : Int32))])) (fun t k => ?_) ?_
        · show Steps p.tables e below (T2_1.setTop (mkF m 22 #[.val (.ref r0), .val (.int (5 : Int32)), .val (.int p2), .val (.int p3)] [])) t
          refine XS.iconst X2_1.here hx rfl (hb hby d2_22) ?_
          exact k
        obtain ⟨fs, hr, hrun, hended, hW, hsame⟩ := X2_1.leave (v := some (.int (nar .boolean (0 : Int32)))) (fun h => by rw [Bd.returns] at h; cases h)
        refine ⟨_, _, retN X2_1 hx (t := .boolean) Bd.returns (by simp) (hb hby d2_23) hr, hrun, hended, _, _, rfl, ?_, ⟨_, rfl⟩, hW, hsame.mono (by decide) (by decide)⟩
        have eh : (T2_1.setFrames fs).heap = h0 := e2_1
        rw [eh]
        exact ⟨by rw [hF5, if_neg hc2_1, if_pos hc2_2, if_pos hc2_3], N2_1, rfl⟩
      · refine own_fw (A := T2_1.setTop (mkF m 18 #[.val (.ref r0), .val (.int (5 : Int32)), .val (.int p2), .val (.int p3)] [])) (fun t k => ?_) ?_
        · show Steps p.tables e below (T2_1.setTop (mkF m 15 #[.val (.ref r0), .val (.int (5 : Int32)), .val (.int p2), .val (.int p3)] [(.int (eF5 v0 v1 v2 v3 v4 v5))])) t
          refine XS.ifNo X2_1.here hx rfl (hb hby d2_15) rfl ((if0 _ _).trans (feq hc2_3).1) ?_
          exact k
        refine own_fw (A := T2_1.setTop (mkF m 23 #[.val (.ref r0), .val (.int (5 : Int32)), .val (.int p2), .val (.int p3)] [(.int (1 : Int32))])) (fun t k => ?_) ?_
        · show Steps p.tables e below (T2_1.setTop (mkF m 18 #[.val (.ref r0), .val (.int (5 : Int32)), .val (.int p2), .val (.int p3)] [])) t
          refine XS.iconst X2_1.here hx rfl (hb hby d2_18) ?_
          show Steps p.tables e below (T2_1.setTop (mkF m 19 #[.val (.ref r0), .val (.int (5 : Int32)), .val (.int p2), .val (.int p3)] [(.int (1 : Int32))])) t
          refine XS.goto X2_1.here hx rfl (pc0 := 19) (pc' := 23) rfl (hb hby d2_19) (by decide) (by decide) ?_
          exact k
        obtain ⟨fs, hr, hrun, hended, hW, hsame⟩ := X2_1.leave (v := some (.int (nar .boolean (1 : Int32)))) (fun h => by rw [Bd.returns] at h; cases h)
        refine ⟨_, _, retN X2_1 hx (t := .boolean) Bd.returns (by simp) (hb hby d2_23) hr, hrun, hended, _, _, rfl, ?_, ⟨_, rfl⟩, hW, hsame.mono (by decide) (by decide)⟩
        have eh : (T2_1.setFrames fs).heap = h0 := e2_1
        rw [eh]
        exact ⟨by rw [hF5, if_neg hc2_1, if_pos hc2_2, if_neg hc2_3], N2_1, rfl⟩
    · refine own_fw (A := s₁.setTop (mkF m 22 #[.val (.ref r0), .val (.int (5 : Int32)), .val (.int p2), .val (.int p3)] [])) (fun t k => ?_) ?_
      · show Steps p.tables e below (s₁.setTop (mkF m 7 #[.val (.ref r0), .val (.int (5 : Int32)), .val (.int p2), .val (.int p3)] [(.int p3), (.int (5 : Int32))])) t
        refine XS.icmpYes X0.here hx rfl (pc0 := 7) (pc' := 22) rfl (hb hby d2_7) rfl (flt hc2_2).2.1 (by decide) (by decide) ?_
        exact k
      refine own_fw (A := s₁.setTop (mkF m 23 #[.val (.ref r0), .val (.int (5 : Int32)), .val (.int p2), .val (.int p3)] [(.int (0 : Int32))])) (fun t k => ?_) ?_
      · show Steps p.tables e below (s₁.setTop (mkF m 22 #[.val (.ref r0), .val (.int (5 : Int32)), .val (.int p2), .val (.int p3)] [])) t
        refine XS.iconst X0.here hx rfl (hb hby d2_22) ?_
        exact k
      obtain ⟨fs, hr, hrun, hended, hW, hsame⟩ := X0.leave (v := some (.int (nar .boolean (0 : Int32)))) (fun h => by rw [Bd.returns] at h; cases h)
      refine ⟨_, _, retN X0 hx (t := .boolean) Bd.returns (by simp) (hb hby d2_23) hr, hrun, hended, _, _, rfl, ?_, ⟨_, rfl⟩, hW, hsame.mono (by decide) (by decide)⟩
      have eh : (s₁.setFrames fs).heap = h0 := e0
      rw [eh]
      exact ⟨by rw [hF5, if_neg hc2_1, if_neg hc2_2], N0, rfl⟩
theorem d3_0 : decode prog_42_method_2_code 0 = .ok (.iload_n 1, 1) := by decide +kernel
theorem d3_1 : decode prog_42_method_2_code 1 = .ok (.istore_n 3, 1) := by decide +kernel
theorem d3_2 : decode prog_42_method_2_code 2 = .ok (.iload_n 3, 1) := by decide +kernel
theorem d3_3 : decode prog_42_method_2_code 3 = .ok (.iload_n 2, 1) := by decide +kernel
theorem d3_4 : decode prog_42_method_2_code 4 = .ok (.if_icmp .ge 57, 3) := by decide +kernel
theorem d3_7 : decode prog_42_method_2_code 7 = .ok (.aload_n 0, 1) := by decide +kernel
theorem d3_8 : decode prog_42_method_2_code 8 = .ok (.iload_n 3, 1) := by decide +kernel
theorem d3_9 : decode prog_42_method_2_code 9 = .ok (.baload, 1) := by decide +kernel
theorem d3_10 : decode prog_42_method_2_code 10 = .ok (.bipush 10, 2) := by decide +kernel
theorem d3_12 : decode prog_42_method_2_code 12 = .ok (.if_icmp .ne 43, 3) := by decide +kernel
theorem d3_15 : decode prog_42_method_2_code 15 = .ok (.iload_n 3, 1) := by decide +kernel
theorem d3_16 : decode prog_42_method_2_code 16 = .ok (.iconst 1, 1) := by decide +kernel
theorem d3_17 : decode prog_42_method_2_code 17 = .ok (.isub, 1) := by decide +kernel
theorem d3_18 : decode prog_42_method_2_code 18 = .ok (.istore 4, 2) := by decide +kernel
theorem d3_20 : decode prog_42_method_2_code 20 = .ok (.iload 4, 2) := by decide +kernel
theorem d3_22 : decode prog_42_method_2_code 22 = .ok (.ifCond .lt 15, 3) := by decide +kernel
theorem d3_25 : decode prog_42_method_2_code 25 = .ok (.aload_n 0, 1) := by decide +kernel
theorem d3_26 : decode prog_42_method_2_code 26 = .ok (.iload 4, 2) := by decide +kernel
theorem d3_28 : decode prog_42_method_2_code 28 = .ok (.baload, 1) := by decide +kernel
theorem d3_29 : decode prog_42_method_2_code 29 = .ok (.bipush 13, 2) := by decide +kernel
theorem d3_31 : decode prog_42_method_2_code 31 = .ok (.if_icmp .ne 6, 3) := by decide +kernel
theorem d3_34 : decode prog_42_method_2_code 34 = .ok (.iinc 4 (-1), 3) := by decide +kernel
theorem d3_37 : decode prog_42_method_2_code 37 = .ok (.iload 4, 2) := by decide +kernel
theorem d3_39 : decode prog_42_method_2_code 39 = .ok (.ifCond .lt 12, 3) := by decide +kernel
theorem d3_42 : decode prog_42_method_2_code 42 = .ok (.aload_n 0, 1) := by decide +kernel
theorem d3_43 : decode prog_42_method_2_code 43 = .ok (.iload 4, 2) := by decide +kernel
theorem d3_45 : decode prog_42_method_2_code 45 = .ok (.baload, 1) := by decide +kernel
theorem d3_46 : decode prog_42_method_2_code 46 = .ok (.bipush 10, 2) := by decide +kernel
theorem d3_48 : decode prog_42_method_2_code 48 = .ok (.if_icmp .ne 7, 3) := by decide +kernel
theorem d3_51 : decode prog_42_method_2_code 51 = .ok (.iload_n 3, 1) := by decide +kernel
theorem d3_52 : decode prog_42_method_2_code 52 = .ok (.iconst 1, 1) := by decide +kernel
theorem d3_53 : decode prog_42_method_2_code 53 = .ok (.iadd, 1) := by decide +kernel
theorem d3_54 : decode prog_42_method_2_code 54 = .ok (.ireturn, 1) := by decide +kernel
theorem d3_55 : decode prog_42_method_2_code 55 = .ok (.iinc 3 1, 3) := by decide +kernel
theorem d3_58 : decode prog_42_method_2_code 58 = .ok (.goto (-56), 3) := by decide +kernel
theorem d3_61 : decode prog_42_method_2_code 61 = .ok (.iconst (-1), 1) := by decide +kernel
theorem d3_62 : decode prog_42_method_2_code 62 = .ok (.ireturn, 1) := by decide +kernel
theorem pn3 : plainName "com/example/finalmark/finalmark/RequestHead" = true := by first | (simp [plainName, overriddenIn]; done) | decide +kernel
theorem ef3 (m : MethodId) (r0 : Addr) (p1 : Int32) (p2 : Int32) : entryFrame m #[(.ref r0), (.int p1), (.int p2)] 5 = mkF m 0 #[.val (.ref r0), .val (.int p1), .val (.int p2), .unset, .unset] [] := by first | (simp [entryFrame, mkF, argsToLocals, Value.category]; done) | rfl
def Q3 (Z : State) (z : Int32) (h0 : Heap) (n0 : Nat) (v : Option Value) (h : Heap) (L : List Loc) : Prop := v = some (.int z) ∧ Fr n0 L ∧ h = h0
theorem own_os {a b c d : Value} {s4 : Slot} {v : Int32} (h : One s4) : storeLocals #[.val a, .val b, .val c, .val d, s4] 4 (.int v) = some #[.val a, .val b, .val c, .val d, .val (.int v)] := by
  rcases h with rfl | ⟨w, rfl, hw⟩
  · rfl
  · cases w <;> first | rfl | (simp [Value.category] at hw)
def endF6 (v0 : Int32) (v1 : Int32) (v2 : Int32) (v3 : Int32) (v4 : Int32) (v5 : Int32) (p2 : Int32) : Int32 := (-1 : Int32)
def endF5 (v0 : Int32) (v1 : Int32) (v2 : Int32) (v3 : Int32) (v4 : Int32) (v5 : Int32) (p2 : Int32) : Int32 := (if (5 : Int32) < p2 then (if v5 = (10 : Int32) then (if v4 = (13 : Int32) then (if v3 = (10 : Int32) then (6 : Int32) else (endF6 v0 v1 v2 v3 v4 v5 p2)) else (if v4 = (10 : Int32) then (6 : Int32) else (endF6 v0 v1 v2 v3 v4 v5 p2))) else (endF6 v0 v1 v2 v3 v4 v5 p2)) else (-1 : Int32))
def endF4 (v0 : Int32) (v1 : Int32) (v2 : Int32) (v3 : Int32) (v4 : Int32) (v5 : Int32) (p2 : Int32) : Int32 := (if (4 : Int32) < p2 then (if v4 = (10 : Int32) then (if v3 = (13 : Int32) then (if v2 = (10 : Int32) then (5 : Int32) else (endF5 v0 v1 v2 v3 v4 v5 p2)) else (if v3 = (10 : Int32) then (5 : Int32) else (endF5 v0 v1 v2 v3 v4 v5 p2))) else (endF5 v0 v1 v2 v3 v4 v5 p2)) else (-1 : Int32))
def endF3 (v0 : Int32) (v1 : Int32) (v2 : Int32) (v3 : Int32) (v4 : Int32) (v5 : Int32) (p2 : Int32) : Int32 := (if (3 : Int32) < p2 then (if v3 = (10 : Int32) then (if v2 = (13 : Int32) then (if v1 = (10 : Int32) then (4 : Int32) else (endF4 v0 v1 v2 v3 v4 v5 p2)) else (if v2 = (10 : Int32) then (4 : Int32) else (endF4 v0 v1 v2 v3 v4 v5 p2))) else (endF4 v0 v1 v2 v3 v4 v5 p2)) else (-1 : Int32))
def endF2 (v0 : Int32) (v1 : Int32) (v2 : Int32) (v3 : Int32) (v4 : Int32) (v5 : Int32) (p2 : Int32) : Int32 := (if (2 : Int32) < p2 then (if v2 = (10 : Int32) then (if v1 = (13 : Int32) then (if v0 = (10 : Int32) then (3 : Int32) else (endF3 v0 v1 v2 v3 v4 v5 p2)) else (if v1 = (10 : Int32) then (3 : Int32) else (endF3 v0 v1 v2 v3 v4 v5 p2))) else (endF3 v0 v1 v2 v3 v4 v5 p2)) else (-1 : Int32))
def endF1 (v0 : Int32) (v1 : Int32) (v2 : Int32) (v3 : Int32) (v4 : Int32) (v5 : Int32) (p2 : Int32) : Int32 := (if (1 : Int32) < p2 then (if v1 = (10 : Int32) then (if v0 = (13 : Int32) then (2 : Int32) else (if v0 = (10 : Int32) then (2 : Int32) else (endF2 v0 v1 v2 v3 v4 v5 p2))) else (endF2 v0 v1 v2 v3 v4 v5 p2)) else (-1 : Int32))
def endF0 (v0 : Int32) (v1 : Int32) (v2 : Int32) (v3 : Int32) (v4 : Int32) (v5 : Int32) (p2 : Int32) : Int32 := (if (0 : Int32) < p2 then (if v0 = (10 : Int32) then (1 : Int32) else (endF1 v0 v1 v2 v3 v4 v5 p2)) else (-1 : Int32))
def endV (v0 : Int32) (v1 : Int32) (v2 : Int32) (v3 : Int32) (v4 : Int32) (v5 : Int32) (p1 p2 : Int32) : Int32 := if p1 = (0 : Int32) then endF0 v0 v1 v2 v3 v4 v5 p2 else if p1 = (1 : Int32) then endF1 v0 v1 v2 v3 v4 v5 p2 else if p1 = (2 : Int32) then endF2 v0 v1 v2 v3 v4 v5 p2 else if p1 = (3 : Int32) then endF3 v0 v1 v2 v3 v4 v5 p2 else if p1 = (4 : Int32) then endF4 v0 v1 v2 v3 v4 v5 p2 else if p1 = (5 : Int32) then endF5 v0 v1 v2 v3 v4 v5 p2 else endF6 v0 v1 v2 v3 v4 v5 p2
set_option maxRecDepth 65536 in
set_option maxHeartbeats 40000000 in
theorem rmE (l : Launch) (Z : State) (a0 : Array Value) (hw : ∀ d ∈ tables_1, d.before a0 Z = true) (ws : List Jvm.Cond) (r0 : Addr) (p1 : Int32) (p2 : Int32) (k : ClassId) (v0 : Int32) (v1 : Int32) (v2 : Int32) (v3 : Int32) (v4 : Int32) (v5 : Int32) (h0 : Heap) (n0 : Nat) (Z0 : n0 ≤ h0.size) (V_r0 : Arv Z h0 r0 k .byte (6 : Int32) [(.int v0), (.int v1), (.int v2), (.int v3), (.int v4), (.int v5)] (.int (0 : Int32))) (hp1 : p1 = (0 : Int32) ∨ p1 = (1 : Int32) ∨ p1 = (2 : Int32) ∨ p1 = (3 : Int32) ∨ p1 = (4 : Int32) ∨ p1 = (5 : Int32) ∨ p1 = (6 : Int32)) (hq6 : ¬ ((6 : Int32) < p2)) :
    MetFree l (⟨"com/example/finalmark/finalmark/RequestHead", "end", "([BII)I"⟩ : MethodName) (head1 (Jvm.Cond.code (⟨"com/example/finalmark/finalmark/RequestHead", "end", "([BII)I"⟩ : MethodName) prog_42_method_2_code 5 (some .int) :: ws) ({ frames := 0, cells := 0, slots := 0, locals := 0 } : Room)) (fun a U => a = #[(.ref r0), (.int p1), (.int p2)] ∧ Z.Warmed39 U.vm ∧ U.heap = h0) (fun _ _ _ _ _ => True) (fun _ U o U' => ∃ v L, o = .returned v ∧ Q3 Z (endV v0 v1 v2 v3 v4 v5 p1 p2) h0 n0 v U'.heap L ∧ FrameEnd U o U' L ({ frames := 0, cells := 0, slots := 0, locals := 0 } : Room).cells ({ frames := 0, cells := 0, slots := 0, locals := 0 } : Room).slots) := by
  refine MetFree.of_bodySF (plainFor_of_name pn3) hisR ?_
  intro p e s m args below meth c s₁ Bd hml0 hP hK
  obtain ⟨rfl, hZ, hh⟩ := hP
  have hx := Bd.exec
  have hby := Bd.bytes
  have hml : c.maxLocals = 5 := hml0
  have hown : s.vm.findClass "com/example/finalmark/finalmark/RequestHead" = some m.cls := findClass_of_methodNamed Bd.named
  have hnm := (name_of_methodNamed Bd.named Bd.method).1
  have X0 : Stand p l e ({ frames := 0, cells := 0, slots := 0, locals := 0 } : Room) s m #[(.ref r0), (.int p1), (.int p2)] below meth c s₁ [] 0 0 := Stand.of_body Bd
  have e0 : s₁.heap = h0 := by rw [← hh, Bd.state]; rfl
  have N0 := Fr.nil n0
  refine own_fw (A := s₁.setTop (mkF m 0 #[.val (.ref r0), .val (.int p1), .val (.int p2), .unset, .unset] [])) (fun t k => castTop (ef3 m r0 p1 p2) k) ?_
  have L6 : ∀ s4 : Slot, One s4 → ∃ t o, Steps p.tables e below (s₁.setTop (mkF m 2 #[.val (.ref r0), .val (.int p1), .val (.int p2), .val (.int (6 : Int32)), s4] [])) t ∧ t.status = .running ∧ Ended t below o ∧ ∃ v L, o = .returned v ∧ Q3 Z (endF6 v0 v1 v2 v3 v4 v5 p2) h0 n0 v t.heap L ∧ FrameEnd s o t L ({ frames := 0, cells := 0, slots := 0, locals := 0 } : Room).cells ({ frames := 0, cells := 0, slots := 0, locals := 0 } : Room).slots := by
    intro s4 hs4
    refine own_fw (A := s₁.setTop (mkF m 3 #[.val (.ref r0), .val (.int p1), .val (.int p2), .val (.int (6 : Int32)), s4] [(.int (6 : Int32))])) (fun t k => ?_) ?_
    · show Steps p.tables e below (s₁.setTop (mkF m 2 #[.val (.ref r0), .val (.int p1), .val (.int p2), .val (.int (6 : Int32)), s4] [])) t
      refine XS.iloadN X0.here hx rfl (hb hby d3_2) rfl ?_
      exact k
    refine own_fw (A := s₁.setTop (mkF m 62 #[.val (.ref r0), .val (.int p1), .val (.int p2), .val (.int (6 : Int32)), s4] [(.int (-1 : Int32))])) (fun t k => ?_) ?_
    · show Steps p.tables e below (s₁.setTop (mkF m 3 #[.val (.ref r0), .val (.int p1), .val (.int p2), .val (.int (6 : Int32)), s4] [(.int (6 : Int32))])) t
      refine XS.iloadN X0.here hx rfl (hb hby d3_3) rfl ?_
      show Steps p.tables e below (s₁.setTop (mkF m 4 #[.val (.ref r0), .val (.int p1), .val (.int p2), .val (.int (6 : Int32)), s4] [(.int p2), (.int (6 : Int32))])) t
      refine XS.icmpYes X0.here hx rfl (pc0 := 4) (pc' := 61) rfl (hb hby d3_4) rfl (flt hq6).2.1 (by decide) (by decide) ?_
      show Steps p.tables e below (s₁.setTop (mkF m 61 #[.val (.ref r0), .val (.int p1), .val (.int p2), .val (.int (6 : Int32)), s4] [])) t
      refine XS.iconst X0.here hx rfl (hb hby d3_61) ?_
      exact k
    obtain ⟨fs, hr, hrun, hended, hW, hsame⟩ := X0.leave (v := some (.int (-1 : Int32))) (fun h => by rw [Bd.returns] at h; cases h)
    refine ⟨_, _, retI X0 hx Bd.returns (hb hby d3_62) hr, hrun, hended, _, _, rfl, ?_, ⟨_, rfl⟩, hW, hsame.mono (by decide) (by decide)⟩
    have eh : (s₁.setFrames fs).heap = h0 := e0
    rw [eh]
    exact ⟨by rw [endF6], N0, rfl⟩
  have L5 : ∀ s4 : Slot, One s4 → ∃ t o, Steps p.tables e below (s₁.setTop (mkF m 2 #[.val (.ref r0), .val (.int p1), .val (.int p2), .val (.int (5 : Int32)), s4] [])) t ∧ t.status = .running ∧ Ended t below o ∧ ∃ v L, o = .returned v ∧ Q3 Z (endF5 v0 v1 v2 v3 v4 v5 p2) h0 n0 v t.heap L ∧ FrameEnd s o t L ({ frames := 0, cells := 0, slots := 0, locals := 0 } : Room).cells ({ frames := 0, cells := 0, slots := 0, locals := 0 } : Room).slots := by
    intro s4 hs4
    refine own_fw (A := s₁.setTop (mkF m 3 #[.val (.ref r0), .val (.int p1), .val (.int p2), .val (.int (5 : Int32)), s4] [(.int (5 : Int32))])) (fun t k => ?_) ?_
    · show Steps p.tables e below (s₁.setTop (mkF m 2 #[.val (.ref r0), .val (.int p1), .val (.int p2), .val (.int (5 : Int32)), s4] [])) t
      refine XS.iloadN X0.here hx rfl (hb hby d3_2) rfl ?_
      exact k
    refine own_fw (A := s₁.setTop (mkF m 4 #[.val (.ref r0), .val (.int p1), .val (.int p2), .val (.int (5 : Int32)), s4] [(.int p2), (.int (5 : Int32))])) (fun t k => ?_) ?_
    · show Steps p.tables e below (s₁.setTop (mkF m 3 #[.val (.ref r0), .val (.int p1), .val (.int p2), .val (.int (5 : Int32)), s4] [(.int (5 : Int32))])) t
      refine XS.iloadN X0.here hx rfl (hb hby d3_3) rfl ?_
      exact k
    by_cases hc3_1 : (5 : Int32) < p2
    · refine own_fw (A := s₁.setTop (mkF m 7 #[.val (.ref r0), .val (.int p1), .val (.int p2), .val (.int (5 : Int32)), s4] [])) (fun t k => ?_) ?_
      · show Steps p.tables e below (s₁.setTop (mkF m 4 #[.val (.ref r0), .val (.int p1), .val (.int p2), .val (.int (5 : Int32)), s4] [(.int p2), (.int (5 : Int32))])) t
        refine XS.icmpNo X0.here hx rfl (hb hby d3_4) rfl (tlt hc3_1).2.1 ?_
        exact k
      refine own_fw (A := s₁.setTop (mkF m 9 #[.val (.ref r0), .val (.int p1), .val (.int p2), .val (.int (5 : Int32)), s4] [(.int (5 : Int32)), (.ref r0)])) (fun t k => ?_) ?_
      · show Steps p.tables e below (s₁.setTop (mkF m 7 #[.val (.ref r0), .val (.int p1), .val (.int p2), .val (.int (5 : Int32)), s4] [])) t
        refine XS.aloadN X0.here hx rfl (hb hby d3_7) rfl rfl ?_
        show Steps p.tables e below (s₁.setTop (mkF m 8 #[.val (.ref r0), .val (.int p1), .val (.int p2), .val (.int (5 : Int32)), s4] [(.ref r0)])) t
        refine XS.iloadN X0.here hx rfl (hb hby d3_8) rfl ?_
        exact k
      obtain ⟨cl3_1, Ar3_1, q3_1, S3_1, Ng3_1, Hs3_1, G3_1⟩ := id V_r0
      have hin3_1 : ¬ ((5 : Int32) < 0 ∨ cl3_1.slots.size ≤ ((5 : Int32)).toNatClampNeg) := inb_of S3_1 ⟨by decide, by decide⟩
      refine own_fw (X0.baloadBytes hx (j := (5 : Int32)) (v := (.int v5)) (by rw [e0]; exact Ar3_1.1) (State.isArrayOf_alike hZ.alike Ar3_1.2.1) Ar3_1.2.2 hin3_1 (Has.at Hs3_1 hin3_1 rfl) (g := (mkF m 9 #[.val (.ref r0), .val (.int p1), .val (.int p2), .val (.int (5 : Int32)), s4] [(.int (5 : Int32)), (.ref r0)])) rfl rfl (hb hby d3_9)) ?_
      refine own_fw (A := s₁.setTop (mkF m 12 #[.val (.ref r0), .val (.int p1), .val (.int p2), .val (.int (5 : Int32)), s4] [(.int (10 : Int32)), (.int v5)])) (fun t k => ?_) ?_
      · show Steps p.tables e below (s₁.setTop (mkF m 10 #[.val (.ref r0), .val (.int p1), .val (.int p2), .val (.int (5 : Int32)), s4] [(.int v5)])) t
        refine XS.bipush X0.here hx rfl (hb hby d3_10) ?_
        exact k
      by_cases hc3_2 : v5 = (10 : Int32)
      · refine own_fw (A := s₁.setTop (mkF m 15 #[.val (.ref r0), .val (.int p1), .val (.int p2), .val (.int (5 : Int32)), s4] [])) (fun t k => ?_) ?_
        · show Steps p.tables e below (s₁.setTop (mkF m 12 #[.val (.ref r0), .val (.int p1), .val (.int p2), .val (.int (5 : Int32)), s4] [(.int (10 : Int32)), (.int v5)])) t
          refine XS.icmpNo X0.here hx rfl (hb hby d3_12) rfl (teq hc3_2).2 ?_
          exact k
        refine own_fw (A := s₁.setTop (mkF m 28 #[.val (.ref r0), .val (.int p1), .val (.int p2), .val (.int (5 : Int32)), .val (.int (4 : Int32))] [(.int (4 : Int32)), (.ref r0)])) (fun t k => ?_) ?_
        · show Steps p.tables e below (s₁.setTop (mkF m 15 #[.val (.ref r0), .val (.int p1), .val (.int p2), .val (.int (5 : Int32)), s4] [])) t
          refine XS.iloadN X0.here hx rfl (hb hby d3_15) rfl ?_
          show Steps p.tables e below (s₁.setTop (mkF m 16 #[.val (.ref r0), .val (.int p1), .val (.int p2), .val (.int (5 : Int32)), s4] [(.int (5 : Int32))])) t
          refine XS.iconst X0.here hx rfl (hb hby d3_16) ?_
          show Steps p.tables e below (s₁.setTop (mkF m 17 #[.val (.ref r0), .val (.int p1), .val (.int p2), .val (.int (5 : Int32)), s4] [(.int (1 : Int32)), (.int (5 : Int32))])) t
          refine XS.isub X0.here hx rfl (hb hby d3_17) rfl ?_
          show Steps p.tables e below (s₁.setTop (mkF m 18 #[.val (.ref r0), .val (.int p1), .val (.int p2), .val (.int (5 : Int32)), s4] [(.int (4 : Int32))])) t
          refine XS.istore X0.here hx rfl (hb hby d3_18) rfl (l' := #[.val (.ref r0), .val (.int p1), .val (.int p2), .val (.int (5 : Int32)), .val (.int (4 : Int32))]) (own_os hs4) ?_
          show Steps p.tables e below (s₁.setTop (mkF m 20 #[.val (.ref r0), .val (.int p1), .val (.int p2), .val (.int (5 : Int32)), .val (.int (4 : Int32))] [])) t
          refine XS.iload X0.here hx rfl (hb hby d3_20) rfl ?_
          show Steps p.tables e below (s₁.setTop (mkF m 22 #[.val (.ref r0), .val (.int p1), .val (.int p2), .val (.int (5 : Int32)), .val (.int (4 : Int32))] [(.int (4 : Int32))])) t
          refine XS.ifNo X0.here hx rfl (hb hby d3_22) rfl ((if0 _ _).trans (flt (by decide : ¬ ((4 : Int32) < (0 : Int32)))).1) ?_
          show Steps p.tables e below (s₁.setTop (mkF m 25 #[.val (.ref r0), .val (.int p1), .val (.int p2), .val (.int (5 : Int32)), .val (.int (4 : Int32))] [])) t
          refine XS.aloadN X0.here hx rfl (hb hby d3_25) rfl rfl ?_
          show Steps p.tables e below (s₁.setTop (mkF m 26 #[.val (.ref r0), .val (.int p1), .val (.int p2), .val (.int (5 : Int32)), .val (.int (4 : Int32))] [(.ref r0)])) t
          refine XS.iload X0.here hx rfl (hb hby d3_26) rfl ?_
          exact k
        obtain ⟨cl3_2, Ar3_2, q3_2, S3_2, Ng3_2, Hs3_2, G3_2⟩ := id V_r0
        have hin3_2 : ¬ ((4 : Int32) < 0 ∨ cl3_2.slots.size ≤ ((4 : Int32)).toNatClampNeg) := inb_of S3_2 ⟨by decide, by decide⟩
        refine own_fw (X0.baloadBytes hx (j := (4 : Int32)) (v := (.int v4)) (by rw [e0]; exact Ar3_2.1) (State.isArrayOf_alike hZ.alike Ar3_2.2.1) Ar3_2.2.2 hin3_2 (Has.at Hs3_2 hin3_2 rfl) (g := (mkF m 28 #[.val (.ref r0), .val (.int p1), .val (.int p2), .val (.int (5 : Int32)), .val (.int (4 : Int32))] [(.int (4 : Int32)), (.ref r0)])) rfl rfl (hb hby d3_28)) ?_
        refine own_fw (A := s₁.setTop (mkF m 31 #[.val (.ref r0), .val (.int p1), .val (.int p2), .val (.int (5 : Int32)), .val (.int (4 : Int32))] [(.int (13 : Int32)), (.int v4)])) (fun t k => ?_) ?_
        · show Steps p.tables e below (s₁.setTop (mkF m 29 #[.val (.ref r0), .val (.int p1), .val (.int p2), .val (.int (5 : Int32)), .val (.int (4 : Int32))] [(.int v4)])) t
          refine XS.bipush X0.here hx rfl (hb hby d3_29) ?_
          exact k
        by_cases hc3_3 : v4 = (13 : Int32)
        · refine own_fw (A := s₁.setTop (mkF m 34 #[.val (.ref r0), .val (.int p1), .val (.int p2), .val (.int (5 : Int32)), .val (.int (4 : Int32))] [])) (fun t k => ?_) ?_
          · show Steps p.tables e below (s₁.setTop (mkF m 31 #[.val (.ref r0), .val (.int p1), .val (.int p2), .val (.int (5 : Int32)), .val (.int (4 : Int32))] [(.int (13 : Int32)), (.int v4)])) t
            refine XS.icmpNo X0.here hx rfl (hb hby d3_31) rfl (teq hc3_3).2 ?_
            exact k
          refine own_fw (A := s₁.setTop (mkF m 45 #[.val (.ref r0), .val (.int p1), .val (.int p2), .val (.int (5 : Int32)), .val (.int (3 : Int32))] [(.int (3 : Int32)), (.ref r0)])) (fun t k => ?_) ?_
          · show Steps p.tables e below (s₁.setTop (mkF m 34 #[.val (.ref r0), .val (.int p1), .val (.int p2), .val (.int (5 : Int32)), .val (.int (4 : Int32))] [])) t
            refine XS.iinc X0.here hx rfl (hb hby d3_34) rfl (l' := #[.val (.ref r0), .val (.int p1), .val (.int p2), .val (.int (5 : Int32)), .val (.int (3 : Int32))]) rfl ?_
            show Steps p.tables e below (s₁.setTop (mkF m 37 #[.val (.ref r0), .val (.int p1), .val (.int p2), .val (.int (5 : Int32)), .val (.int (3 : Int32))] [])) t
            refine XS.iload X0.here hx rfl (hb hby d3_37) rfl ?_
            show Steps p.tables e below (s₁.setTop (mkF m 39 #[.val (.ref r0), .val (.int p1), .val (.int p2), .val (.int (5 : Int32)), .val (.int (3 : Int32))] [(.int (3 : Int32))])) t
            refine XS.ifNo X0.here hx rfl (hb hby d3_39) rfl ((if0 _ _).trans (flt (by decide : ¬ ((3 : Int32) < (0 : Int32)))).1) ?_
            show Steps p.tables e below (s₁.setTop (mkF m 42 #[.val (.ref r0), .val (.int p1), .val (.int p2), .val (.int (5 : Int32)), .val (.int (3 : Int32))] [])) t
            refine XS.aloadN X0.here hx rfl (hb hby d3_42) rfl rfl ?_
            show Steps p.tables e below (s₁.setTop (mkF m 43 #[.val (.ref r0), .val (.int p1), .val (.int p2), .val (.int (5 : Int32)), .val (.int (3 : Int32))] [(.ref r0)])) t
            refine XS.iload X0.here hx rfl (hb hby d3_43) rfl ?_
            exact k
          obtain ⟨cl3_3, Ar3_3, q3_3, S3_3, Ng3_3, Hs3_3, G3_3⟩ := id V_r0
          have hin3_3 : ¬ ((3 : Int32) < 0 ∨ cl3_3.slots.size ≤ ((3 : Int32)).toNatClampNeg) := inb_of S3_3 ⟨by decide, by decide⟩
          refine own_fw (X0.baloadBytes hx (j := (3 : Int32)) (v := (.int v3)) (by rw [e0]; exact Ar3_3.1) (State.isArrayOf_alike hZ.alike Ar3_3.2.1) Ar3_3.2.2 hin3_3 (Has.at Hs3_3 hin3_3 rfl) (g := (mkF m 45 #[.val (.ref r0), .val (.int p1), .val (.int p2), .val (.int (5 : Int32)), .val (.int (3 : Int32))] [(.int (3 : Int32)), (.ref r0)])) rfl rfl (hb hby d3_45)) ?_
          refine own_fw (A := s₁.setTop (mkF m 48 #[.val (.ref r0), .val (.int p1), .val (.int p2), .val (.int (5 : Int32)), .val (.int (3 : Int32))] [(.int (10 : Int32)), (.int v3)])) (fun t k => ?_) ?_
          · show Steps p.tables e below (s₁.setTop (mkF m 46 #[.val (.ref r0), .val (.int p1), .val (.int p2), .val (.int (5 : Int32)), .val (.int (3 : Int32))] [(.int v3)])) t
            refine XS.bipush X0.here hx rfl (hb hby d3_46) ?_
            exact k
          by_cases hc3_4 : v3 = (10 : Int32)
          · refine own_fw (A := s₁.setTop (mkF m 51 #[.val (.ref r0), .val (.int p1), .val (.int p2), .val (.int (5 : Int32)), .val (.int (3 : Int32))] [])) (fun t k => ?_) ?_
            · show Steps p.tables e below (s₁.setTop (mkF m 48 #[.val (.ref r0), .val (.int p1), .val (.int p2), .val (.int (5 : Int32)), .val (.int (3 : Int32))] [(.int (10 : Int32)), (.int v3)])) t
              refine XS.icmpNo X0.here hx rfl (hb hby d3_48) rfl (teq hc3_4).2 ?_
              exact k
            refine own_fw (A := s₁.setTop (mkF m 54 #[.val (.ref r0), .val (.int p1), .val (.int p2), .val (.int (5 : Int32)), .val (.int (3 : Int32))] [(.int (6 : Int32))])) (fun t k => ?_) ?_
            · show Steps p.tables e below (s₁.setTop (mkF m 51 #[.val (.ref r0), .val (.int p1), .val (.int p2), .val (.int (5 : Int32)), .val (.int (3 : Int32))] [])) t
              refine XS.iloadN X0.here hx rfl (hb hby d3_51) rfl ?_
              show Steps p.tables e below (s₁.setTop (mkF m 52 #[.val (.ref r0), .val (.int p1), .val (.int p2), .val (.int (5 : Int32)), .val (.int (3 : Int32))] [(.int (5 : Int32))])) t
              refine XS.iconst X0.here hx rfl (hb hby d3_52) ?_
              show Steps p.tables e below (s₁.setTop (mkF m 53 #[.val (.ref r0), .val (.int p1), .val (.int p2), .val (.int (5 : Int32)), .val (.int (3 : Int32))] [(.int (1 : Int32)), (.int (5 : Int32))])) t
              refine XS.iadd X0.here hx rfl (hb hby d3_53) rfl ?_
              exact k
            obtain ⟨fs, hr, hrun, hended, hW, hsame⟩ := X0.leave (v := some (.int (6 : Int32))) (fun h => by rw [Bd.returns] at h; cases h)
            refine ⟨_, _, retI X0 hx Bd.returns (hb hby d3_54) hr, hrun, hended, _, _, rfl, ?_, ⟨_, rfl⟩, hW, hsame.mono (by decide) (by decide)⟩
            have eh : (s₁.setFrames fs).heap = h0 := e0
            rw [eh]
            exact ⟨by rw [endF5, if_pos hc3_1, if_pos hc3_2, if_pos hc3_3, if_pos hc3_4], N0, rfl⟩
          · refine own_fw (A := s₁.setTop (mkF m 55 #[.val (.ref r0), .val (.int p1), .val (.int p2), .val (.int (5 : Int32)), .val (.int (3 : Int32))] [])) (fun t k => ?_) ?_
            · show Steps p.tables e below (s₁.setTop (mkF m 48 #[.val (.ref r0), .val (.int p1), .val (.int p2), .val (.int (5 : Int32)), .val (.int (3 : Int32))] [(.int (10 : Int32)), (.int v3)])) t
              refine XS.icmpYes X0.here hx rfl (pc0 := 48) (pc' := 55) rfl (hb hby d3_48) rfl (feq hc3_4).2 (by decide) (by decide) ?_
              exact k
            refine own_fw (A := s₁.setTop (mkF m 2 #[.val (.ref r0), .val (.int p1), .val (.int p2), .val (.int (6 : Int32)), .val (.int (3 : Int32))] [])) (fun t k => ?_) ?_
            · show Steps p.tables e below (s₁.setTop (mkF m 55 #[.val (.ref r0), .val (.int p1), .val (.int p2), .val (.int (5 : Int32)), .val (.int (3 : Int32))] [])) t
              refine XS.iinc X0.here hx rfl (hb hby d3_55) rfl (l' := #[.val (.ref r0), .val (.int p1), .val (.int p2), .val (.int (6 : Int32)), .val (.int (3 : Int32))]) rfl ?_
              show Steps p.tables e below (s₁.setTop (mkF m 58 #[.val (.ref r0), .val (.int p1), .val (.int p2), .val (.int (6 : Int32)), .val (.int (3 : Int32))] [])) t
              refine XS.goto X0.here hx rfl (pc0 := 58) (pc' := 2) rfl (hb hby d3_58) (by decide) (by decide) ?_
              exact k
            rw [show endF5 v0 v1 v2 v3 v4 v5 p2 = endF6 v0 v1 v2 v3 v4 v5 p2 by rw [endF5, if_pos hc3_1, if_pos hc3_2, if_pos hc3_3, if_neg hc3_4]]
            exact L6 _ (One.val rfl)
        · refine own_fw (A := s₁.setTop (mkF m 37 #[.val (.ref r0), .val (.int p1), .val (.int p2), .val (.int (5 : Int32)), .val (.int (4 : Int32))] [])) (fun t k => ?_) ?_
          · show Steps p.tables e below (s₁.setTop (mkF m 31 #[.val (.ref r0), .val (.int p1), .val (.int p2), .val (.int (5 : Int32)), .val (.int (4 : Int32))] [(.int (13 : Int32)), (.int v4)])) t
            refine XS.icmpYes X0.here hx rfl (pc0 := 31) (pc' := 37) rfl (hb hby d3_31) rfl (feq hc3_3).2 (by decide) (by decide) ?_
            exact k
          refine own_fw (A := s₁.setTop (mkF m 45 #[.val (.ref r0), .val (.int p1), .val (.int p2), .val (.int (5 : Int32)), .val (.int (4 : Int32))] [(.int (4 : Int32)), (.ref r0)])) (fun t k => ?_) ?_
          · show Steps p.tables e below (s₁.setTop (mkF m 37 #[.val (.ref r0), .val (.int p1), .val (.int p2), .val (.int (5 : Int32)), .val (.int (4 : Int32))] [])) t
            refine XS.iload X0.here hx rfl (hb hby d3_37) rfl ?_
            show Steps p.tables e below (s₁.setTop (mkF m 39 #[.val (.ref r0), .val (.int p1), .val (.int p2), .val (.int (5 : Int32)), .val (.int (4 : Int32))] [(.int (4 : Int32))])) t
            refine XS.ifNo X0.here hx rfl (hb hby d3_39) rfl ((if0 _ _).trans (flt (by decide : ¬ ((4 : Int32) < (0 : Int32)))).1) ?_
            show Steps p.tables e below (s₁.setTop (mkF m 42 #[.val (.ref r0), .val (.int p1), .val (.int p2), .val (.int (5 : Int32)), .val (.int (4 : Int32))] [])) t
            refine XS.aloadN X0.here hx rfl (hb hby d3_42) rfl rfl ?_
            show Steps p.tables e below (s₁.setTop (mkF m 43 #[.val (.ref r0), .val (.int p1), .val (.int p2), .val (.int (5 : Int32)), .val (.int (4 : Int32))] [(.ref r0)])) t
            refine XS.iload X0.here hx rfl (hb hby d3_43) rfl ?_
            exact k
          obtain ⟨cl3_4, Ar3_4, q3_4, S3_4, Ng3_4, Hs3_4, G3_4⟩ := id V_r0
          have hin3_4 : ¬ ((4 : Int32) < 0 ∨ cl3_4.slots.size ≤ ((4 : Int32)).toNatClampNeg) := inb_of S3_4 ⟨by decide, by decide⟩
          refine own_fw (X0.baloadBytes hx (j := (4 : Int32)) (v := (.int v4)) (by rw [e0]; exact Ar3_4.1) (State.isArrayOf_alike hZ.alike Ar3_4.2.1) Ar3_4.2.2 hin3_4 (Has.at Hs3_4 hin3_4 rfl) (g := (mkF m 45 #[.val (.ref r0), .val (.int p1), .val (.int p2), .val (.int (5 : Int32)), .val (.int (4 : Int32))] [(.int (4 : Int32)), (.ref r0)])) rfl rfl (hb hby d3_45)) ?_
          refine own_fw (A := s₁.setTop (mkF m 48 #[.val (.ref r0), .val (.int p1), .val (.int p2), .val (.int (5 : Int32)), .val (.int (4 : Int32))] [(.int (10 : Int32)), (.int v4)])) (fun t k => ?_) ?_
          · show Steps p.tables e below (s₁.setTop (mkF m 46 #[.val (.ref r0), .val (.int p1), .val (.int p2), .val (.int (5 : Int32)), .val (.int (4 : Int32))] [(.int v4)])) t
            refine XS.bipush X0.here hx rfl (hb hby d3_46) ?_
            exact k
          by_cases hc3_5 : v4 = (10 : Int32)
          · refine own_fw (A := s₁.setTop (mkF m 51 #[.val (.ref r0), .val (.int p1), .val (.int p2), .val (.int (5 : Int32)), .val (.int (4 : Int32))] [])) (fun t k => ?_) ?_
            · show Steps p.tables e below (s₁.setTop (mkF m 48 #[.val (.ref r0), .val (.int p1), .val (.int p2), .val (.int (5 : Int32)), .val (.int (4 : Int32))] [(.int (10 : Int32)), (.int v4)])) t
              refine XS.icmpNo X0.here hx rfl (hb hby d3_48) rfl (teq hc3_5).2 ?_
              exact k
            refine own_fw (A := s₁.setTop (mkF m 54 #[.val (.ref r0), .val (.int p1), .val (.int p2), .val (.int (5 : Int32)), .val (.int (4 : Int32))] [(.int (6 : Int32))])) (fun t k => ?_) ?_
            · show Steps p.tables e below (s₁.setTop (mkF m 51 #[.val (.ref r0), .val (.int p1), .val (.int p2), .val (.int (5 : Int32)), .val (.int (4 : Int32))] [])) t
              refine XS.iloadN X0.here hx rfl (hb hby d3_51) rfl ?_
              show Steps p.tables e below (s₁.setTop (mkF m 52 #[.val (.ref r0), .val (.int p1), .val (.int p2), .val (.int (5 : Int32)), .val (.int (4 : Int32))] [(.int (5 : Int32))])) t
              refine XS.iconst X0.here hx rfl (hb hby d3_52) ?_
              show Steps p.tables e below (s₁.setTop (mkF m 53 #[.val (.ref r0), .val (.int p1), .val (.int p2), .val (.int (5 : Int32)), .val (.int (4 : Int32))] [(.int (1 : Int32)), (.int (5 : Int32))])) t
              refine XS.iadd X0.here hx rfl (hb hby d3_53) rfl ?_
              exact k
            obtain ⟨fs, hr, hrun, hended, hW, hsame⟩ := X0.leave (v := some (.int (6 : Int32))) (fun h => by rw [Bd.returns] at h; cases h)
            refine ⟨_, _, retI X0 hx Bd.returns (hb hby d3_54) hr, hrun, hended, _, _, rfl, ?_, ⟨_, rfl⟩, hW, hsame.mono (by decide) (by decide)⟩
            have eh : (s₁.setFrames fs).heap = h0 := e0
            rw [eh]
            exact ⟨by rw [endF5, if_pos hc3_1, if_pos hc3_2, if_neg hc3_3, if_pos hc3_5], N0, rfl⟩
          · refine own_fw (A := s₁.setTop (mkF m 55 #[.val (.ref r0), .val (.int p1), .val (.int p2), .val (.int (5 : Int32)), .val (.int (4 : Int32))] [])) (fun t k => ?_) ?_
            · show Steps p.tables e below (s₁.setTop (mkF m 48 #[.val (.ref r0), .val (.int p1), .val (.int p2), .val (.int (5 : Int32)), .val (.int (4 : Int32))] [(.int (10 : Int32)), (.int v4)])) t
              refine XS.icmpYes X0.here hx rfl (pc0 := 48) (pc' := 55) rfl (hb hby d3_48) rfl (feq hc3_5).2 (by decide) (by decide) ?_
              exact k
            refine own_fw (A := s₁.setTop (mkF m 2 #[.val (.ref r0), .val (.int p1), .val (.int p2), .val (.int (6 : Int32)), .val (.int (4 : Int32))] [])) (fun t k => ?_) ?_
            · show Steps p.tables e below (s₁.setTop (mkF m 55 #[.val (.ref r0), .val (.int p1), .val (.int p2), .val (.int (5 : Int32)), .val (.int (4 : Int32))] [])) t
              refine XS.iinc X0.here hx rfl (hb hby d3_55) rfl (l' := #[.val (.ref r0), .val (.int p1), .val (.int p2), .val (.int (6 : Int32)), .val (.int (4 : Int32))]) rfl ?_
              show Steps p.tables e below (s₁.setTop (mkF m 58 #[.val (.ref r0), .val (.int p1), .val (.int p2), .val (.int (6 : Int32)), .val (.int (4 : Int32))] [])) t
              refine XS.goto X0.here hx rfl (pc0 := 58) (pc' := 2) rfl (hb hby d3_58) (by decide) (by decide) ?_
              exact k
            rw [show endF5 v0 v1 v2 v3 v4 v5 p2 = endF6 v0 v1 v2 v3 v4 v5 p2 by rw [endF5, if_pos hc3_1, if_pos hc3_2, if_neg hc3_3, if_neg hc3_5]]
            exact L6 _ (One.val rfl)
      · refine own_fw (A := s₁.setTop (mkF m 55 #[.val (.ref r0), .val (.int p1), .val (.int p2), .val (.int (5 : Int32)), s4] [])) (fun t k => ?_) ?_
        · show Steps p.tables e below (s₁.setTop (mkF m 12 #[.val (.ref r0), .val (.int p1), .val (.int p2), .val (.int (5 : Int32)), s4] [(.int (10 : Int32)), (.int v5)])) t
          refine XS.icmpYes X0.here hx rfl (pc0 := 12) (pc' := 55) rfl (hb hby d3_12) rfl (feq hc3_2).2 (by decide) (by decide) ?_
          exact k
        refine own_fw (A := s₁.setTop (mkF m 2 #[.val (.ref r0), .val (.int p1), .val (.int p2), .val (.int (6 : Int32)), s4] [])) (fun t k => ?_) ?_
        · show Steps p.tables e below (s₁.setTop (mkF m 55 #[.val (.ref r0), .val (.int p1), .val (.int p2), .val (.int (5 : Int32)), s4] [])) t
          refine XS.iinc X0.here hx rfl (hb hby d3_55) rfl (l' := #[.val (.ref r0), .val (.int p1), .val (.int p2), .val (.int (6 : Int32)), s4]) rfl ?_
          show Steps p.tables e below (s₁.setTop (mkF m 58 #[.val (.ref r0), .val (.int p1), .val (.int p2), .val (.int (6 : Int32)), s4] [])) t
          refine XS.goto X0.here hx rfl (pc0 := 58) (pc' := 2) rfl (hb hby d3_58) (by decide) (by decide) ?_
          exact k
        rw [show endF5 v0 v1 v2 v3 v4 v5 p2 = endF6 v0 v1 v2 v3 v4 v5 p2 by rw [endF5, if_pos hc3_1, if_neg hc3_2]]
        exact L6 _ hs4
    · refine own_fw (A := s₁.setTop (mkF m 61 #[.val (.ref r0), .val (.int p1), .val (.int p2), .val (.int (5 : Int32)), s4] [])) (fun t k => ?_) ?_
      · show Steps p.tables e below (s₁.setTop (mkF m 4 #[.val (.ref r0), .val (.int p1), .val (.int p2), .val (.int (5 : Int32)), s4] [(.int p2), (.int (5 : Int32))])) t
        refine XS.icmpYes X0.here hx rfl (pc0 := 4) (pc' := 61) rfl (hb hby d3_4) rfl (flt hc3_1).2.1 (by decide) (by decide) ?_
        exact k
      refine own_fw (A := s₁.setTop (mkF m 62 #[.val (.ref r0), .val (.int p1), .val (.int p2), .val (.int (5 : Int32)), s4] [(.int (-1 : Int32))])) (fun t k => ?_) ?_
      · show Steps p.tables e below (s₁.setTop (mkF m 61 #[.val (.ref r0), .val (.int p1), .val (.int p2), .val (.int (5 : Int32)), s4] [])) t
        refine XS.iconst X0.here hx rfl (hb hby d3_61) ?_
        exact k
      obtain ⟨fs, hr, hrun, hended, hW, hsame⟩ := X0.leave (v := some (.int (-1 : Int32))) (fun h => by rw [Bd.returns] at h; cases h)
      refine ⟨_, _, retI X0 hx Bd.returns (hb hby d3_62) hr, hrun, hended, _, _, rfl, ?_, ⟨_, rfl⟩, hW, hsame.mono (by decide) (by decide)⟩
      have eh : (s₁.setFrames fs).heap = h0 := e0
      rw [eh]
      exact ⟨by rw [endF5, if_neg hc3_1], N0, rfl⟩
  have L4 : ∀ s4 : Slot, One s4 → ∃ t o, Steps p.tables e below (s₁.setTop (mkF m 2 #[.val (.ref r0), .val (.int p1), .val (.int p2), .val (.int (4 : Int32)), s4] [])) t ∧ t.status = .running ∧ Ended t below o ∧ ∃ v L, o = .returned v ∧ Q3 Z (endF4 v0 v1 v2 v3 v4 v5 p2) h0 n0 v t.heap L ∧ FrameEnd s o t L ({ frames := 0, cells := 0, slots := 0, locals := 0 } : Room).cells ({ frames := 0, cells := 0, slots := 0, locals := 0 } : Room).slots := by
    intro s4 hs4
    refine own_fw (A := s₁.setTop (mkF m 3 #[.val (.ref r0), .val (.int p1), .val (.int p2), .val (.int (4 : Int32)), s4] [(.int (4 : Int32))])) (fun t k => ?_) ?_
    · show Steps p.tables e below (s₁.setTop (mkF m 2 #[.val (.ref r0), .val (.int p1), .val (.int p2), .val (.int (4 : Int32)), s4] [])) t
      refine XS.iloadN X0.here hx rfl (hb hby d3_2) rfl ?_
      exact k
    refine own_fw (A := s₁.setTop (mkF m 4 #[.val (.ref r0), .val (.int p1), .val (.int p2), .val (.int (4 : Int32)), s4] [(.int p2), (.int (4 : Int32))])) (fun t k => ?_) ?_
    · show Steps p.tables e below (s₁.setTop (mkF m 3 #[.val (.ref r0), .val (.int p1), .val (.int p2), .val (.int (4 : Int32)), s4] [(.int (4 : Int32))])) t
      refine XS.iloadN X0.here hx rfl (hb hby d3_3) rfl ?_
      exact k
    by_cases hc3_1 : (4 : Int32) < p2
    · refine own_fw (A := s₁.setTop (mkF m 7 #[.val (.ref r0), .val (.int p1), .val (.int p2), .val (.int (4 : Int32)), s4] [])) (fun t k => ?_) ?_
      · show Steps p.tables e below (s₁.setTop (mkF m 4 #[.val (.ref r0), .val (.int p1), .val (.int p2), .val (.int (4 : Int32)), s4] [(.int p2), (.int (4 : Int32))])) t
        refine XS.icmpNo X0.here hx rfl (hb hby d3_4) rfl (tlt hc3_1).2.1 ?_
        exact k
      refine own_fw (A := s₁.setTop (mkF m 9 #[.val (.ref r0), .val (.int p1), .val (.int p2), .val (.int (4 : Int32)), s4] [(.int (4 : Int32)), (.ref r0)])) (fun t k => ?_) ?_
      · show Steps p.tables e below (s₁.setTop (mkF m 7 #[.val (.ref r0), .val (.int p1), .val (.int p2), .val (.int (4 : Int32)), s4] [])) t
        refine XS.aloadN X0.here hx rfl (hb hby d3_7) rfl rfl ?_
        show Steps p.tables e below (s₁.setTop (mkF m 8 #[.val (.ref r0), .val (.int p1), .val (.int p2), .val (.int (4 : Int32)), s4] [(.ref r0)])) t
        refine XS.iloadN X0.here hx rfl (hb hby d3_8) rfl ?_
        exact k
      obtain ⟨cl3_1, Ar3_1, q3_1, S3_1, Ng3_1, Hs3_1, G3_1⟩ := id V_r0
      have hin3_1 : ¬ ((4 : Int32) < 0 ∨ cl3_1.slots.size ≤ ((4 : Int32)).toNatClampNeg) := inb_of S3_1 ⟨by decide, by decide⟩
      refine own_fw (X0.baloadBytes hx (j := (4 : Int32)) (v := (.int v4)) (by rw [e0]; exact Ar3_1.1) (State.isArrayOf_alike hZ.alike Ar3_1.2.1) Ar3_1.2.2 hin3_1 (Has.at Hs3_1 hin3_1 rfl) (g := (mkF m 9 #[.val (.ref r0), .val (.int p1), .val (.int p2), .val (.int (4 : Int32)), s4] [(.int (4 : Int32)), (.ref r0)])) rfl rfl (hb hby d3_9)) ?_
      refine own_fw (A := s₁.setTop (mkF m 12 #[.val (.ref r0), .val (.int p1), .val (.int p2), .val (.int (4 : Int32)), s4] [(.int (10 : Int32)), (.int v4)])) (fun t k => ?_) ?_
      · show Steps p.tables e below (s₁.setTop (mkF m 10 #[.val (.ref r0), .val (.int p1), .val (.int p2), .val (.int (4 : Int32)), s4] [(.int v4)])) t
        refine XS.bipush X0.here hx rfl (hb hby d3_10) ?_
        exact k
      by_cases hc3_2 : v4 = (10 : Int32)
      · refine own_fw (A := s₁.setTop (mkF m 15 #[.val (.ref r0), .val (.int p1), .val (.int p2), .val (.int (4 : Int32)), s4] [])) (fun t k => ?_) ?_
        · show Steps p.tables e below (s₁.setTop (mkF m 12 #[.val (.ref r0), .val (.int p1), .val (.int p2), .val (.int (4 : Int32)), s4] [(.int (10 : Int32)), (.int v4)])) t
          refine XS.icmpNo X0.here hx rfl (hb hby d3_12) rfl (teq hc3_2).2 ?_
          exact k
        refine own_fw (A := s₁.setTop (mkF m 28 #[.val (.ref r0), .val (.int p1), .val (.int p2), .val (.int (4 : Int32)), .val (.int (3 : Int32))] [(.int (3 : Int32)), (.ref r0)])) (fun t k => ?_) ?_
        · show Steps p.tables e below (s₁.setTop (mkF m 15 #[.val (.ref r0), .val (.int p1), .val (.int p2), .val (.int (4 : Int32)), s4] [])) t
          refine XS.iloadN X0.here hx rfl (hb hby d3_15) rfl ?_
          show Steps p.tables e below (s₁.setTop (mkF m 16 #[.val (.ref r0), .val (.int p1), .val (.int p2), .val (.int (4 : Int32)), s4] [(.int (4 : Int32))])) t
          refine XS.iconst X0.here hx rfl (hb hby d3_16) ?_
          show Steps p.tables e below (s₁.setTop (mkF m 17 #[.val (.ref r0), .val (.int p1), .val (.int p2), .val (.int (4 : Int32)), s4] [(.int (1 : Int32)), (.int (4 : Int32))])) t
          refine XS.isub X0.here hx rfl (hb hby d3_17) rfl ?_
          show Steps p.tables e below (s₁.setTop (mkF m 18 #[.val (.ref r0), .val (.int p1), .val (.int p2), .val (.int (4 : Int32)), s4] [(.int (3 : Int32))])) t
          refine XS.istore X0.here hx rfl (hb hby d3_18) rfl (l' := #[.val (.ref r0), .val (.int p1), .val (.int p2), .val (.int (4 : Int32)), .val (.int (3 : Int32))]) (own_os hs4) ?_
          show Steps p.tables e below (s₁.setTop (mkF m 20 #[.val (.ref r0), .val (.int p1), .val (.int p2), .val (.int (4 : Int32)), .val (.int (3 : Int32))] [])) t
          refine XS.iload X0.here hx rfl (hb hby d3_20) rfl ?_
          show Steps p.tables e below (s₁.setTop (mkF m 22 #[.val (.ref r0), .val (.int p1), .val (.int p2), .val (.int (4 : Int32)), .val (.int (3 : Int32))] [(.int (3 : Int32))])) t
          refine XS.ifNo X0.here hx rfl (hb hby d3_22) rfl ((if0 _ _).trans (flt (by decide : ¬ ((3 : Int32) < (0 : Int32)))).1) ?_
          show Steps p.tables e below (s₁.setTop (mkF m 25 #[.val (.ref r0), .val (.int p1), .val (.int p2), .val (.int (4 : Int32)), .val (.int (3 : Int32))] [])) t
          refine XS.aloadN X0.here hx rfl (hb hby d3_25) rfl rfl ?_
          show Steps p.tables e below (s₁.setTop (mkF m 26 #[.val (.ref r0), .val (.int p1), .val (.int p2), .val (.int (4 : Int32)), .val (.int (3 : Int32))] [(.ref r0)])) t
          refine XS.iload X0.here hx rfl (hb hby d3_26) rfl ?_
          exact k
        obtain ⟨cl3_2, Ar3_2, q3_2, S3_2, Ng3_2, Hs3_2, G3_2⟩ := id V_r0
        have hin3_2 : ¬ ((3 : Int32) < 0 ∨ cl3_2.slots.size ≤ ((3 : Int32)).toNatClampNeg) := inb_of S3_2 ⟨by decide, by decide⟩
        refine own_fw (X0.baloadBytes hx (j := (3 : Int32)) (v := (.int v3)) (by rw [e0]; exact Ar3_2.1) (State.isArrayOf_alike hZ.alike Ar3_2.2.1) Ar3_2.2.2 hin3_2 (Has.at Hs3_2 hin3_2 rfl) (g := (mkF m 28 #[.val (.ref r0), .val (.int p1), .val (.int p2), .val (.int (4 : Int32)), .val (.int (3 : Int32))] [(.int (3 : Int32)), (.ref r0)])) rfl rfl (hb hby d3_28)) ?_
        refine own_fw (A := s₁.setTop (mkF m 31 #[.val (.ref r0), .val (.int p1), .val (.int p2), .val (.int (4 : Int32)), .val (.int (3 : Int32))] [(.int (13 : Int32)), (.int v3)])) (fun t k => ?_) ?_
        · show Steps p.tables e below (s₁.setTop (mkF m 29 #[.val (.ref r0), .val (.int p1), .val (.int p2), .val (.int (4 : Int32)), .val (.int (3 : Int32))] [(.int v3)])) t
          refine XS.bipush X0.here hx rfl (hb hby d3_29) ?_
          exact k
        by_cases hc3_3 : v3 = (13 : Int32)
        · refine own_fw (A := s₁.setTop (mkF m 34 #[.val (.ref r0), .val (.int p1), .val (.int p2), .val (.int (4 : Int32)), .val (.int (3 : Int32))] [])) (fun t k => ?_) ?_
          · show Steps p.tables e below (s₁.setTop (mkF m 31 #[.val (.ref r0), .val (.int p1), .val (.int p2), .val (.int (4 : Int32)), .val (.int (3 : Int32))] [(.int (13 : Int32)), (.int v3)])) t
            refine XS.icmpNo X0.here hx rfl (hb hby d3_31) rfl (teq hc3_3).2 ?_
            exact k
          refine own_fw (A := s₁.setTop (mkF m 45 #[.val (.ref r0), .val (.int p1), .val (.int p2), .val (.int (4 : Int32)), .val (.int (2 : Int32))] [(.int (2 : Int32)), (.ref r0)])) (fun t k => ?_) ?_
          · show Steps p.tables e below (s₁.setTop (mkF m 34 #[.val (.ref r0), .val (.int p1), .val (.int p2), .val (.int (4 : Int32)), .val (.int (3 : Int32))] [])) t
            refine XS.iinc X0.here hx rfl (hb hby d3_34) rfl (l' := #[.val (.ref r0), .val (.int p1), .val (.int p2), .val (.int (4 : Int32)), .val (.int (2 : Int32))]) rfl ?_
            show Steps p.tables e below (s₁.setTop (mkF m 37 #[.val (.ref r0), .val (.int p1), .val (.int p2), .val (.int (4 : Int32)), .val (.int (2 : Int32))] [])) t
            refine XS.iload X0.here hx rfl (hb hby d3_37) rfl ?_
            show Steps p.tables e below (s₁.setTop (mkF m 39 #[.val (.ref r0), .val (.int p1), .val (.int p2), .val (.int (4 : Int32)), .val (.int (2 : Int32))] [(.int (2 : Int32))])) t
            refine XS.ifNo X0.here hx rfl (hb hby d3_39) rfl ((if0 _ _).trans (flt (by decide : ¬ ((2 : Int32) < (0 : Int32)))).1) ?_
            show Steps p.tables e below (s₁.setTop (mkF m 42 #[.val (.ref r0), .val (.int p1), .val (.int p2), .val (.int (4 : Int32)), .val (.int (2 : Int32))] [])) t
            refine XS.aloadN X0.here hx rfl (hb hby d3_42) rfl rfl ?_
            show Steps p.tables e below (s₁.setTop (mkF m 43 #[.val (.ref r0), .val (.int p1), .val (.int p2), .val (.int (4 : Int32)), .val (.int (2 : Int32))] [(.ref r0)])) t
            refine XS.iload X0.here hx rfl (hb hby d3_43) rfl ?_
            exact k
          obtain ⟨cl3_3, Ar3_3, q3_3, S3_3, Ng3_3, Hs3_3, G3_3⟩ := id V_r0
          have hin3_3 : ¬ ((2 : Int32) < 0 ∨ cl3_3.slots.size ≤ ((2 : Int32)).toNatClampNeg) := inb_of S3_3 ⟨by decide, by decide⟩
          refine own_fw (X0.baloadBytes hx (j := (2 : Int32)) (v := (.int v2)) (by rw [e0]; exact Ar3_3.1) (State.isArrayOf_alike hZ.alike Ar3_3.2.1) Ar3_3.2.2 hin3_3 (Has.at Hs3_3 hin3_3 rfl) (g := (mkF m 45 #[.val (.ref r0), .val (.int p1), .val (.int p2), .val (.int (4 : Int32)), .val (.int (2 : Int32))] [(.int (2 : Int32)), (.ref r0)])) rfl rfl (hb hby d3_45)) ?_
          refine own_fw (A := s₁.setTop (mkF m 48 #[.val (.ref r0), .val (.int p1), .val (.int p2), .val (.int (4 : Int32)), .val (.int (2 : Int32))] [(.int (10 : Int32)), (.int v2)])) (fun t k => ?_) ?_
          · show Steps p.tables e below (s₁.setTop (mkF m 46 #[.val (.ref r0), .val (.int p1), .val (.int p2), .val (.int (4 : Int32)), .val (.int (2 : Int32))] [(.int v2)])) t
            refine XS.bipush X0.here hx rfl (hb hby d3_46) ?_
            exact k
          by_cases hc3_4 : v2 = (10 : Int32)
          · refine own_fw (A := s₁.setTop (mkF m 51 #[.val (.ref r0), .val (.int p1), .val (.int p2), .val (.int (4 : Int32)), .val (.int (2 : Int32))] [])) (fun t k => ?_) ?_
            · show Steps p.tables e below (s₁.setTop (mkF m 48 #[.val (.ref r0), .val (.int p1), .val (.int p2), .val (.int (4 : Int32)), .val (.int (2 : Int32))] [(.int (10 : Int32)), (.int v2)])) t
              refine XS.icmpNo X0.here hx rfl (hb hby d3_48) rfl (teq hc3_4).2 ?_
              exact k
            refine own_fw (A := s₁.setTop (mkF m 54 #[.val (.ref r0), .val (.int p1), .val (.int p2), .val (.int (4 : Int32)), .val (.int (2 : Int32))] [(.int (5 : Int32))])) (fun t k => ?_) ?_
            · show Steps p.tables e below (s₁.setTop (mkF m 51 #[.val (.ref r0), .val (.int p1), .val (.int p2), .val (.int (4 : Int32)), .val (.int (2 : Int32))] [])) t
              refine XS.iloadN X0.here hx rfl (hb hby d3_51) rfl ?_
              show Steps p.tables e below (s₁.setTop (mkF m 52 #[.val (.ref r0), .val (.int p1), .val (.int p2), .val (.int (4 : Int32)), .val (.int (2 : Int32))] [(.int (4 : Int32))])) t
              refine XS.iconst X0.here hx rfl (hb hby d3_52) ?_
              show Steps p.tables e below (s₁.setTop (mkF m 53 #[.val (.ref r0), .val (.int p1), .val (.int p2), .val (.int (4 : Int32)), .val (.int (2 : Int32))] [(.int (1 : Int32)), (.int (4 : Int32))])) t
              refine XS.iadd X0.here hx rfl (hb hby d3_53) rfl ?_
              exact k
            obtain ⟨fs, hr, hrun, hended, hW, hsame⟩ := X0.leave (v := some (.int (5 : Int32))) (fun h => by rw [Bd.returns] at h; cases h)
            refine ⟨_, _, retI X0 hx Bd.returns (hb hby d3_54) hr, hrun, hended, _, _, rfl, ?_, ⟨_, rfl⟩, hW, hsame.mono (by decide) (by decide)⟩
            have eh : (s₁.setFrames fs).heap = h0 := e0
            rw [eh]
            exact ⟨by rw [endF4, if_pos hc3_1, if_pos hc3_2, if_pos hc3_3, if_pos hc3_4], N0, rfl⟩
          · refine own_fw (A := s₁.setTop (mkF m 55 #[.val (.ref r0), .val (.int p1), .val (.int p2), .val (.int (4 : Int32)), .val (.int (2 : Int32))] [])) (fun t k => ?_) ?_
            · show Steps p.tables e below (s₁.setTop (mkF m 48 #[.val (.ref r0), .val (.int p1), .val (.int p2), .val (.int (4 : Int32)), .val (.int (2 : Int32))] [(.int (10 : Int32)), (.int v2)])) t
              refine XS.icmpYes X0.here hx rfl (pc0 := 48) (pc' := 55) rfl (hb hby d3_48) rfl (feq hc3_4).2 (by decide) (by decide) ?_
              exact k
            refine own_fw (A := s₁.setTop (mkF m 2 #[.val (.ref r0), .val (.int p1), .val (.int p2), .val (.int (5 : Int32)), .val (.int (2 : Int32))] [])) (fun t k => ?_) ?_
            · show Steps p.tables e below (s₁.setTop (mkF m 55 #[.val (.ref r0), .val (.int p1), .val (.int p2), .val (.int (4 : Int32)), .val (.int (2 : Int32))] [])) t
              refine XS.iinc X0.here hx rfl (hb hby d3_55) rfl (l' := #[.val (.ref r0), .val (.int p1), .val (.int p2), .val (.int (5 : Int32)), .val (.int (2 : Int32))]) rfl ?_
              show Steps p.tables e below (s₁.setTop (mkF m 58 #[.val (.ref r0), .val (.int p1), .val (.int p2), .val (.int (5 : Int32)), .val (.int (2 : Int32))] [])) t
              refine XS.goto X0.here hx rfl (pc0 := 58) (pc' := 2) rfl (hb hby d3_58) (by decide) (by decide) ?_
              exact k
            rw [show endF4 v0 v1 v2 v3 v4 v5 p2 = endF5 v0 v1 v2 v3 v4 v5 p2 by rw [endF4, if_pos hc3_1, if_pos hc3_2, if_pos hc3_3, if_neg hc3_4]]
            exact L5 _ (One.val rfl)
        · refine own_fw (A := s₁.setTop (mkF m 37 #[.val (.ref r0), .val (.int p1), .val (.int p2), .val (.int (4 : Int32)), .val (.int (3 : Int32))] [])) (fun t k => ?_) ?_
          · show Steps p.tables e below (s₁.setTop (mkF m 31 #[.val (.ref r0), .val (.int p1), .val (.int p2), .val (.int (4 : Int32)), .val (.int (3 : Int32))] [(.int (13 : Int32)), (.int v3)])) t
            refine XS.icmpYes X0.here hx rfl (pc0 := 31) (pc' := 37) rfl (hb hby d3_31) rfl (feq hc3_3).2 (by decide) (by decide) ?_
            exact k
          refine own_fw (A := s₁.setTop (mkF m 45 #[.val (.ref r0), .val (.int p1), .val (.int p2), .val (.int (4 : Int32)), .val (.int (3 : Int32))] [(.int (3 : Int32)), (.ref r0)])) (fun t k => ?_) ?_
          · show Steps p.tables e below (s₁.setTop (mkF m 37 #[.val (.ref r0), .val (.int p1), .val (.int p2), .val (.int (4 : Int32)), .val (.int (3 : Int32))] [])) t
            refine XS.iload X0.here hx rfl (hb hby d3_37) rfl ?_
            show Steps p.tables e below (s₁.setTop (mkF m 39 #[.val (.ref r0), .val (.int p1), .val (.int p2), .val (.int (4 : Int32)), .val (.int (3 : Int32))] [(.int (3 : Int32))])) t
            refine XS.ifNo X0.here hx rfl (hb hby d3_39) rfl ((if0 _ _).trans (flt (by decide : ¬ ((3 : Int32) < (0 : Int32)))).1) ?_
            show Steps p.tables e below (s₁.setTop (mkF m 42 #[.val (.ref r0), .val (.int p1), .val (.int p2), .val (.int (4 : Int32)), .val (.int (3 : Int32))] [])) t
            refine XS.aloadN X0.here hx rfl (hb hby d3_42) rfl rfl ?_
            show Steps p.tables e below (s₁.setTop (mkF m 43 #[.val (.ref r0), .val (.int p1), .val (.int p2), .val (.int (4 : Int32)), .val (.int (3 : Int32))] [(.ref r0)])) t
            refine XS.iload X0.here hx rfl (hb hby d3_43) rfl ?_
            exact k
          obtain ⟨cl3_4, Ar3_4, q3_4, S3_4, Ng3_4, Hs3_4, G3_4⟩ := id V_r0
          have hin3_4 : ¬ ((3 : Int32) < 0 ∨ cl3_4.slots.size ≤ ((3 : Int32)).toNatClampNeg) := inb_of S3_4 ⟨by decide, by decide⟩
          refine own_fw (X0.baloadBytes hx (j := (3 : Int32)) (v := (.int v3)) (by rw [e0]; exact Ar3_4.1) (State.isArrayOf_alike hZ.alike Ar3_4.2.1) Ar3_4.2.2 hin3_4 (Has.at Hs3_4 hin3_4 rfl) (g := (mkF m 45 #[.val (.ref r0), .val (.int p1), .val (.int p2), .val (.int (4 : Int32)), .val (.int (3 : Int32))] [(.int (3 : Int32)), (.ref r0)])) rfl rfl (hb hby d3_45)) ?_
          refine own_fw (A := s₁.setTop (mkF m 48 #[.val (.ref r0), .val (.int p1), .val (.int p2), .val (.int (4 : Int32)), .val (.int (3 : Int32))] [(.int (10 : Int32)), (.int v3)])) (fun t k => ?_) ?_
          · show Steps p.tables e below (s₁.setTop (mkF m 46 #[.val (.ref r0), .val (.int p1), .val (.int p2), .val (.int (4 : Int32)), .val (.int (3 : Int32))] [(.int v3)])) t
            refine XS.bipush X0.here hx rfl (hb hby d3_46) ?_
            exact k
          by_cases hc3_5 : v3 = (10 : Int32)
          · refine own_fw (A := s₁.setTop (mkF m 51 #[.val (.ref r0), .val (.int p1), .val (.int p2), .val (.int (4 : Int32)), .val (.int (3 : Int32))] [])) (fun t k => ?_) ?_
            · show Steps p.tables e below (s₁.setTop (mkF m 48 #[.val (.ref r0), .val (.int p1), .val (.int p2), .val (.int (4 : Int32)), .val (.int (3 : Int32))] [(.int (10 : Int32)), (.int v3)])) t
              refine XS.icmpNo X0.here hx rfl (hb hby d3_48) rfl (teq hc3_5).2 ?_
              exact k
            refine own_fw (A := s₁.setTop (mkF m 54 #[.val (.ref r0), .val (.int p1), .val (.int p2), .val (.int (4 : Int32)), .val (.int (3 : Int32))] [(.int (5 : Int32))])) (fun t k => ?_) ?_
            · show Steps p.tables e below (s₁.setTop (mkF m 51 #[.val (.ref r0), .val (.int p1), .val (.int p2), .val (.int (4 : Int32)), .val (.int (3 : Int32))] [])) t
              refine XS.iloadN X0.here hx rfl (hb hby d3_51) rfl ?_
              show Steps p.tables e below (s₁.setTop (mkF m 52 #[.val (.ref r0), .val (.int p1), .val (.int p2), .val (.int (4 : Int32)), .val (.int (3 : Int32))] [(.int (4 : Int32))])) t
              refine XS.iconst X0.here hx rfl (hb hby d3_52) ?_
              show Steps p.tables e below (s₁.setTop (mkF m 53 #[.val (.ref r0), .val (.int p1), .val (.int p2), .val (.int (4 : Int32)), .val (.int (3 : Int32))] [(.int (1 : Int32)), (.int (4 : Int32))])) t
              refine XS.iadd X0.here hx rfl (hb hby d3_53) rfl ?_
              exact k
            obtain ⟨fs, hr, hrun, hended, hW, hsame⟩ := X0.leave (v := some (.int (5 : Int32))) (fun h => by rw [Bd.returns] at h; cases h)
            refine ⟨_, _, retI X0 hx Bd.returns (hb hby d3_54) hr, hrun, hended, _, _, rfl, ?_, ⟨_, rfl⟩, hW, hsame.mono (by decide) (by decide)⟩
            have eh : (s₁.setFrames fs).heap = h0 := e0
            rw [eh]
            exact ⟨by rw [endF4, if_pos hc3_1, if_pos hc3_2, if_neg hc3_3, if_pos hc3_5], N0, rfl⟩
          · refine own_fw (A := s₁.setTop (mkF m 55 #[.val (.ref r0), .val (.int p1), .val (.int p2), .val (.int (4 : Int32)), .val (.int (3 : Int32))] [])) (fun t k => ?_) ?_
            · show Steps p.tables e below (s₁.setTop (mkF m 48 #[.val (.ref r0), .val (.int p1), .val (.int p2), .val (.int (4 : Int32)), .val (.int (3 : Int32))] [(.int (10 : Int32)), (.int v3)])) t
              refine XS.icmpYes X0.here hx rfl (pc0 := 48) (pc' := 55) rfl (hb hby d3_48) rfl (feq hc3_5).2 (by decide) (by decide) ?_
              exact k
            refine own_fw (A := s₁.setTop (mkF m 2 #[.val (.ref r0), .val (.int p1), .val (.int p2), .val (.int (5 : Int32)), .val (.int (3 : Int32))] [])) (fun t k => ?_) ?_
            · show Steps p.tables e below (s₁.setTop (mkF m 55 #[.val (.ref r0), .val (.int p1), .val (.int p2), .val (.int (4 : Int32)), .val (.int (3 : Int32))] [])) t
              refine XS.iinc X0.here hx rfl (hb hby d3_55) rfl (l' := #[.val (.ref r0), .val (.int p1), .val (.int p2), .val (.int (5 : Int32)), .val (.int (3 : Int32))]) rfl ?_
              show Steps p.tables e below (s₁.setTop (mkF m 58 #[.val (.ref r0), .val (.int p1), .val (.int p2), .val (.int (5 : Int32)), .val (.int (3 : Int32))] [])) t
              refine XS.goto X0.here hx rfl (pc0 := 58) (pc' := 2) rfl (hb hby d3_58) (by decide) (by decide) ?_
              exact k
            rw [show endF4 v0 v1 v2 v3 v4 v5 p2 = endF5 v0 v1 v2 v3 v4 v5 p2 by rw [endF4, if_pos hc3_1, if_pos hc3_2, if_neg hc3_3, if_neg hc3_5]]
            exact L5 _ (One.val rfl)
      · refine own_fw (A := s₁.setTop (mkF m 55 #[.val (.ref r0), .val (.int p1), .val (.int p2), .val (.int (4 : Int32)), s4] [])) (fun t k => ?_) ?_
        · show Steps p.tables e below (s₁.setTop (mkF m 12 #[.val (.ref r0), .val (.int p1), .val (.int p2), .val (.int (4 : Int32)), s4] [(.int (10 : Int32)), (.int v4)])) t
          refine XS.icmpYes X0.here hx rfl (pc0 := 12) (pc' := 55) rfl (hb hby d3_12) rfl (feq hc3_2).2 (by decide) (by decide) ?_
          exact k
        refine own_fw (A := s₁.setTop (mkF m 2 #[.val (.ref r0), .val (.int p1), .val (.int p2), .val (.int (5 : Int32)), s4] [])) (fun t k => ?_) ?_
        · show Steps p.tables e below (s₁.setTop (mkF m 55 #[.val (.ref r0), .val (.int p1), .val (.int p2), .val (.int (4 : Int32)), s4] [])) t
          refine XS.iinc X0.here hx rfl (hb hby d3_55) rfl (l' := #[.val (.ref r0), .val (.int p1), .val (.int p2), .val (.int (5 : Int32)), s4]) rfl ?_
          show Steps p.tables e below (s₁.setTop (mkF m 58 #[.val (.ref r0), .val (.int p1), .val (.int p2), .val (.int (5 : Int32)), s4] [])) t
          refine XS.goto X0.here hx rfl (pc0 := 58) (pc' := 2) rfl (hb hby d3_58) (by decide) (by decide) ?_
          exact k
        rw [show endF4 v0 v1 v2 v3 v4 v5 p2 = endF5 v0 v1 v2 v3 v4 v5 p2 by rw [endF4, if_pos hc3_1, if_neg hc3_2]]
        exact L5 _ hs4
    · refine own_fw (A := s₁.setTop (mkF m 61 #[.val (.ref r0), .val (.int p1), .val (.int p2), .val (.int (4 : Int32)), s4] [])) (fun t k => ?_) ?_
      · show Steps p.tables e below (s₁.setTop (mkF m 4 #[.val (.ref r0), .val (.int p1), .val (.int p2), .val (.int (4 : Int32)), s4] [(.int p2), (.int (4 : Int32))])) t
        refine XS.icmpYes X0.here hx rfl (pc0 := 4) (pc' := 61) rfl (hb hby d3_4) rfl (flt hc3_1).2.1 (by decide) (by decide) ?_
        exact k
      refine own_fw (A := s₁.setTop (mkF m 62 #[.val (.ref r0), .val (.int p1), .val (.int p2), .val (.int (4 : Int32)), s4] [(.int (-1 : Int32))])) (fun t k => ?_) ?_
      · show Steps p.tables e below (s₁.setTop (mkF m 61 #[.val (.ref r0), .val (.int p1), .val (.int p2), .val (.int (4 : Int32)), s4] [])) t
        refine XS.iconst X0.here hx rfl (hb hby d3_61) ?_
        exact k
      obtain ⟨fs, hr, hrun, hended, hW, hsame⟩ := X0.leave (v := some (.int (-1 : Int32))) (fun h => by rw [Bd.returns] at h; cases h)
      refine ⟨_, _, retI X0 hx Bd.returns (hb hby d3_62) hr, hrun, hended, _, _, rfl, ?_, ⟨_, rfl⟩, hW, hsame.mono (by decide) (by decide)⟩
      have eh : (s₁.setFrames fs).heap = h0 := e0
      rw [eh]
      exact ⟨by rw [endF4, if_neg hc3_1], N0, rfl⟩
  have L3 : ∀ s4 : Slot, One s4 → ∃ t o, Steps p.tables e below (s₁.setTop (mkF m 2 #[.val (.ref r0), .val (.int p1), .val (.int p2), .val (.int (3 : Int32)), s4] [])) t ∧ t.status = .running ∧ Ended t below o ∧ ∃ v L, o = .returned v ∧ Q3 Z (endF3 v0 v1 v2 v3 v4 v5 p2) h0 n0 v t.heap L ∧ FrameEnd s o t L ({ frames := 0, cells := 0, slots := 0, locals := 0 } : Room).cells ({ frames := 0, cells := 0, slots := 0, locals := 0 } : Room).slots := by
    intro s4 hs4
    refine own_fw (A := s₁.setTop (mkF m 3 #[.val (.ref r0), .val (.int p1), .val (.int p2), .val (.int (3 : Int32)), s4] [(.int (3 : Int32))])) (fun t k => ?_) ?_
    · show Steps p.tables e below (s₁.setTop (mkF m 2 #[.val (.ref r0), .val (.int p1), .val (.int p2), .val (.int (3 : Int32)), s4] [])) t
      refine XS.iloadN X0.here hx rfl (hb hby d3_2) rfl ?_
      exact k
    refine own_fw (A := s₁.setTop (mkF m 4 #[.val (.ref r0), .val (.int p1), .val (.int p2), .val (.int (3 : Int32)), s4] [(.int p2), (.int (3 : Int32))])) (fun t k => ?_) ?_
    · show Steps p.tables e below (s₁.setTop (mkF m 3 #[.val (.ref r0), .val (.int p1), .val (.int p2), .val (.int (3 : Int32)), s4] [(.int (3 : Int32))])) t
      refine XS.iloadN X0.here hx rfl (hb hby d3_3) rfl ?_
      exact k
    by_cases hc3_1 : (3 : Int32) < p2
    · refine own_fw (A := s₁.setTop (mkF m 7 #[.val (.ref r0), .val (.int p1), .val (.int p2), .val (.int (3 : Int32)), s4] [])) (fun t k => ?_) ?_
      · show Steps p.tables e below (s₁.setTop (mkF m 4 #[.val (.ref r0), .val (.int p1), .val (.int p2), .val (.int (3 : Int32)), s4] [(.int p2), (.int (3 : Int32))])) t
        refine XS.icmpNo X0.here hx rfl (hb hby d3_4) rfl (tlt hc3_1).2.1 ?_
        exact k
      refine own_fw (A := s₁.setTop (mkF m 9 #[.val (.ref r0), .val (.int p1), .val (.int p2), .val (.int (3 : Int32)), s4] [(.int (3 : Int32)), (.ref r0)])) (fun t k => ?_) ?_
      · show Steps p.tables e below (s₁.setTop (mkF m 7 #[.val (.ref r0), .val (.int p1), .val (.int p2), .val (.int (3 : Int32)), s4] [])) t
        refine XS.aloadN X0.here hx rfl (hb hby d3_7) rfl rfl ?_
        show Steps p.tables e below (s₁.setTop (mkF m 8 #[.val (.ref r0), .val (.int p1), .val (.int p2), .val (.int (3 : Int32)), s4] [(.ref r0)])) t
        refine XS.iloadN X0.here hx rfl (hb hby d3_8) rfl ?_
        exact k
      obtain ⟨cl3_1, Ar3_1, q3_1, S3_1, Ng3_1, Hs3_1, G3_1⟩ := id V_r0
      have hin3_1 : ¬ ((3 : Int32) < 0 ∨ cl3_1.slots.size ≤ ((3 : Int32)).toNatClampNeg) := inb_of S3_1 ⟨by decide, by decide⟩
      refine own_fw (X0.baloadBytes hx (j := (3 : Int32)) (v := (.int v3)) (by rw [e0]; exact Ar3_1.1) (State.isArrayOf_alike hZ.alike Ar3_1.2.1) Ar3_1.2.2 hin3_1 (Has.at Hs3_1 hin3_1 rfl) (g := (mkF m 9 #[.val (.ref r0), .val (.int p1), .val (.int p2), .val (.int (3 : Int32)), s4] [(.int (3 : Int32)), (.ref r0)])) rfl rfl (hb hby d3_9)) ?_
      refine own_fw (A := s₁.setTop (mkF m 12 #[.val (.ref r0), .val (.int p1), .val (.int p2), .val (.int (3 : Int32)), s4] [(.int (10 : Int32)), (.int v3)])) (fun t k => ?_) ?_
      · show Steps p.tables e below (s₁.setTop (mkF m 10 #[.val (.ref r0), .val (.int p1), .val (.int p2), .val (.int (3 : Int32)), s4] [(.int v3)])) t
        refine XS.bipush X0.here hx rfl (hb hby d3_10) ?_
        exact k
      by_cases hc3_2 : v3 = (10 : Int32)
      · refine own_fw (A := s₁.setTop (mkF m 15 #[.val (.ref r0), .val (.int p1), .val (.int p2), .val (.int (3 : Int32)), s4] [])) (fun t k => ?_) ?_
        · show Steps p.tables e below (s₁.setTop (mkF m 12 #[.val (.ref r0), .val (.int p1), .val (.int p2), .val (.int (3 : Int32)), s4] [(.int (10 : Int32)), (.int v3)])) t
          refine XS.icmpNo X0.here hx rfl (hb hby d3_12) rfl (teq hc3_2).2 ?_
          exact k
        refine own_fw (A := s₁.setTop (mkF m 28 #[.val (.ref r0), .val (.int p1), .val (.int p2), .val (.int (3 : Int32)), .val (.int (2 : Int32))] [(.int (2 : Int32)), (.ref r0)])) (fun t k => ?_) ?_
        · show Steps p.tables e below (s₁.setTop (mkF m 15 #[.val (.ref r0), .val (.int p1), .val (.int p2), .val (.int (3 : Int32)), s4] [])) t
          refine XS.iloadN X0.here hx rfl (hb hby d3_15) rfl ?_
          show Steps p.tables e below (s₁.setTop (mkF m 16 #[.val (.ref r0), .val (.int p1), .val (.int p2), .val (.int (3 : Int32)), s4] [(.int (3 : Int32))])) t
          refine XS.iconst X0.here hx rfl (hb hby d3_16) ?_
          show Steps p.tables e below (s₁.setTop (mkF m 17 #[.val (.ref r0), .val (.int p1), .val (.int p2), .val (.int (3 : Int32)), s4] [(.int (1 : Int32)), (.int (3 : Int32))])) t
          refine XS.isub X0.here hx rfl (hb hby d3_17) rfl ?_
          show Steps p.tables e below (s₁.setTop (mkF m 18 #[.val (.ref r0), .val (.int p1), .val (.int p2), .val (.int (3 : Int32)), s4] [(.int (2 : Int32))])) t
          refine XS.istore X0.here hx rfl (hb hby d3_18) rfl (l' := #[.val (.ref r0), .val (.int p1), .val (.int p2), .val (.int (3 : Int32)), .val (.int (2 : Int32))]) (own_os hs4) ?_
          show Steps p.tables e below (s₁.setTop (mkF m 20 #[.val (.ref r0), .val (.int p1), .val (.int p2), .val (.int (3 : Int32)), .val (.int (2 : Int32))] [])) t
          refine XS.iload X0.here hx rfl (hb hby d3_20) rfl ?_
          show Steps p.tables e below (s₁.setTop (mkF m 22 #[.val (.ref r0), .val (.int p1), .val (.int p2), .val (.int (3 : Int32)), .val (.int (2 : Int32))] [(.int (2 : Int32))])) t
          refine XS.ifNo X0.here hx rfl (hb hby d3_22) rfl ((if0 _ _).trans (flt (by decide : ¬ ((2 : Int32) < (0 : Int32)))).1) ?_
          show Steps p.tables e below (s₁.setTop (mkF m 25 #[.val (.ref r0), .val (.int p1), .val (.int p2), .val (.int (3 : Int32)), .val (.int (2 : Int32))] [])) t
          refine XS.aloadN X0.here hx rfl (hb hby d3_25) rfl rfl ?_
          show Steps p.tables e below (s₁.setTop (mkF m 26 #[.val (.ref r0), .val (.int p1), .val (.int p2), .val (.int (3 : Int32)), .val (.int (2 : Int32))] [(.ref r0)])) t
          refine XS.iload X0.here hx rfl (hb hby d3_26) rfl ?_
          exact k
        obtain ⟨cl3_2, Ar3_2, q3_2, S3_2, Ng3_2, Hs3_2, G3_2⟩ := id V_r0
        have hin3_2 : ¬ ((2 : Int32) < 0 ∨ cl3_2.slots.size ≤ ((2 : Int32)).toNatClampNeg) := inb_of S3_2 ⟨by decide, by decide⟩
        refine own_fw (X0.baloadBytes hx (j := (2 : Int32)) (v := (.int v2)) (by rw [e0]; exact Ar3_2.1) (State.isArrayOf_alike hZ.alike Ar3_2.2.1) Ar3_2.2.2 hin3_2 (Has.at Hs3_2 hin3_2 rfl) (g := (mkF m 28 #[.val (.ref r0), .val (.int p1), .val (.int p2), .val (.int (3 : Int32)), .val (.int (2 : Int32))] [(.int (2 : Int32)), (.ref r0)])) rfl rfl (hb hby d3_28)) ?_
        refine own_fw (A := s₁.setTop (mkF m 31 #[.val (.ref r0), .val (.int p1), .val (.int p2), .val (.int (3 : Int32)), .val (.int (2 : Int32))] [(.int (13 : Int32)), (.int v2)])) (fun t k => ?_) ?_
        · show Steps p.tables e below (s₁.setTop (mkF m 29 #[.val (.ref r0), .val (.int p1), .val (.int p2), .val (.int (3 : Int32)), .val (.int (2 : Int32))] [(.int v2)])) t
          refine XS.bipush X0.here hx rfl (hb hby d3_29) ?_
          exact k
        by_cases hc3_3 : v2 = (13 : Int32)
        · refine own_fw (A := s₁.setTop (mkF m 34 #[.val (.ref r0), .val (.int p1), .val (.int p2), .val (.int (3 : Int32)), .val (.int (2 : Int32))] [])) (fun t k => ?_) ?_
          · show Steps p.tables e below (s₁.setTop (mkF m 31 #[.val (.ref r0), .val (.int p1), .val (.int p2), .val (.int (3 : Int32)), .val (.int (2 : Int32))] [(.int (13 : Int32)), (.int v2)])) t
            refine XS.icmpNo X0.here hx rfl (hb hby d3_31) rfl (teq hc3_3).2 ?_
            exact k
          refine own_fw (A := s₁.setTop (mkF m 45 #[.val (.ref r0), .val (.int p1), .val (.int p2), .val (.int (3 : Int32)), .val (.int (1 : Int32))] [(.int (1 : Int32)), (.ref r0)])) (fun t k => ?_) ?_
          · show Steps p.tables e below (s₁.setTop (mkF m 34 #[.val (.ref r0), .val (.int p1), .val (.int p2), .val (.int (3 : Int32)), .val (.int (2 : Int32))] [])) t
            refine XS.iinc X0.here hx rfl (hb hby d3_34) rfl (l' := #[.val (.ref r0), .val (.int p1), .val (.int p2), .val (.int (3 : Int32)), .val (.int (1 : Int32))]) rfl ?_
            show Steps p.tables e below (s₁.setTop (mkF m 37 #[.val (.ref r0), .val (.int p1), .val (.int p2), .val (.int (3 : Int32)), .val (.int (1 : Int32))] [])) t
            refine XS.iload X0.here hx rfl (hb hby d3_37) rfl ?_
            show Steps p.tables e below (s₁.setTop (mkF m 39 #[.val (.ref r0), .val (.int p1), .val (.int p2), .val (.int (3 : Int32)), .val (.int (1 : Int32))] [(.int (1 : Int32))])) t
            refine XS.ifNo X0.here hx rfl (hb hby d3_39) rfl ((if0 _ _).trans (flt (by decide : ¬ ((1 : Int32) < (0 : Int32)))).1) ?_
            show Steps p.tables e below (s₁.setTop (mkF m 42 #[.val (.ref r0), .val (.int p1), .val (.int p2), .val (.int (3 : Int32)), .val (.int (1 : Int32))] [])) t
            refine XS.aloadN X0.here hx rfl (hb hby d3_42) rfl rfl ?_
            show Steps p.tables e below (s₁.setTop (mkF m 43 #[.val (.ref r0), .val (.int p1), .val (.int p2), .val (.int (3 : Int32)), .val (.int (1 : Int32))] [(.ref r0)])) t
            refine XS.iload X0.here hx rfl (hb hby d3_43) rfl ?_
            exact k
          obtain ⟨cl3_3, Ar3_3, q3_3, S3_3, Ng3_3, Hs3_3, G3_3⟩ := id V_r0
          have hin3_3 : ¬ ((1 : Int32) < 0 ∨ cl3_3.slots.size ≤ ((1 : Int32)).toNatClampNeg) := inb_of S3_3 ⟨by decide, by decide⟩
          refine own_fw (X0.baloadBytes hx (j := (1 : Int32)) (v := (.int v1)) (by rw [e0]; exact Ar3_3.1) (State.isArrayOf_alike hZ.alike Ar3_3.2.1) Ar3_3.2.2 hin3_3 (Has.at Hs3_3 hin3_3 rfl) (g := (mkF m 45 #[.val (.ref r0), .val (.int p1), .val (.int p2), .val (.int (3 : Int32)), .val (.int (1 : Int32))] [(.int (1 : Int32)), (.ref r0)])) rfl rfl (hb hby d3_45)) ?_
          refine own_fw (A := s₁.setTop (mkF m 48 #[.val (.ref r0), .val (.int p1), .val (.int p2), .val (.int (3 : Int32)), .val (.int (1 : Int32))] [(.int (10 : Int32)), (.int v1)])) (fun t k => ?_) ?_
          · show Steps p.tables e below (s₁.setTop (mkF m 46 #[.val (.ref r0), .val (.int p1), .val (.int p2), .val (.int (3 : Int32)), .val (.int (1 : Int32))] [(.int v1)])) t
            refine XS.bipush X0.here hx rfl (hb hby d3_46) ?_
            exact k
          by_cases hc3_4 : v1 = (10 : Int32)
          · refine own_fw (A := s₁.setTop (mkF m 51 #[.val (.ref r0), .val (.int p1), .val (.int p2), .val (.int (3 : Int32)), .val (.int (1 : Int32))] [])) (fun t k => ?_) ?_
            · show Steps p.tables e below (s₁.setTop (mkF m 48 #[.val (.ref r0), .val (.int p1), .val (.int p2), .val (.int (3 : Int32)), .val (.int (1 : Int32))] [(.int (10 : Int32)), (.int v1)])) t
              refine XS.icmpNo X0.here hx rfl (hb hby d3_48) rfl (teq hc3_4).2 ?_
              exact k
            refine own_fw (A := s₁.setTop (mkF m 54 #[.val (.ref r0), .val (.int p1), .val (.int p2), .val (.int (3 : Int32)), .val (.int (1 : Int32))] [(.int (4 : Int32))])) (fun t k => ?_) ?_
            · show Steps p.tables e below (s₁.setTop (mkF m 51 #[.val (.ref r0), .val (.int p1), .val (.int p2), .val (.int (3 : Int32)), .val (.int (1 : Int32))] [])) t
              refine XS.iloadN X0.here hx rfl (hb hby d3_51) rfl ?_
              show Steps p.tables e below (s₁.setTop (mkF m 52 #[.val (.ref r0), .val (.int p1), .val (.int p2), .val (.int (3 : Int32)), .val (.int (1 : Int32))] [(.int (3 : Int32))])) t
              refine XS.iconst X0.here hx rfl (hb hby d3_52) ?_
              show Steps p.tables e below (s₁.setTop (mkF m 53 #[.val (.ref r0), .val (.int p1), .val (.int p2), .val (.int (3 : Int32)), .val (.int (1 : Int32))] [(.int (1 : Int32)), (.int (3 : Int32))])) t
              refine XS.iadd X0.here hx rfl (hb hby d3_53) rfl ?_
              exact k
            obtain ⟨fs, hr, hrun, hended, hW, hsame⟩ := X0.leave (v := some (.int (4 : Int32))) (fun h => by rw [Bd.returns] at h; cases h)
            refine ⟨_, _, retI X0 hx Bd.returns (hb hby d3_54) hr, hrun, hended, _, _, rfl, ?_, ⟨_, rfl⟩, hW, hsame.mono (by decide) (by decide)⟩
            have eh : (s₁.setFrames fs).heap = h0 := e0
            rw [eh]
            exact ⟨by rw [endF3, if_pos hc3_1, if_pos hc3_2, if_pos hc3_3, if_pos hc3_4], N0, rfl⟩
          · refine own_fw (A := s₁.setTop (mkF m 55 #[.val (.ref r0), .val (.int p1), .val (.int p2), .val (.int (3 : Int32)), .val (.int (1 : Int32))] [])) (fun t k => ?_) ?_
            · show Steps p.tables e below (s₁.setTop (mkF m 48 #[.val (.ref r0), .val (.int p1), .val (.int p2), .val (.int (3 : Int32)), .val (.int (1 : Int32))] [(.int (10 : Int32)), (.int v1)])) t
              refine XS.icmpYes X0.here hx rfl (pc0 := 48) (pc' := 55) rfl (hb hby d3_48) rfl (feq hc3_4).2 (by decide) (by decide) ?_
              exact k
            refine own_fw (A := s₁.setTop (mkF m 2 #[.val (.ref r0), .val (.int p1), .val (.int p2), .val (.int (4 : Int32)), .val (.int (1 : Int32))] [])) (fun t k => ?_) ?_
            · show Steps p.tables e below (s₁.setTop (mkF m 55 #[.val (.ref r0), .val (.int p1), .val (.int p2), .val (.int (3 : Int32)), .val (.int (1 : Int32))] [])) t
              refine XS.iinc X0.here hx rfl (hb hby d3_55) rfl (l' := #[.val (.ref r0), .val (.int p1), .val (.int p2), .val (.int (4 : Int32)), .val (.int (1 : Int32))]) rfl ?_
              show Steps p.tables e below (s₁.setTop (mkF m 58 #[.val (.ref r0), .val (.int p1), .val (.int p2), .val (.int (4 : Int32)), .val (.int (1 : Int32))] [])) t
              refine XS.goto X0.here hx rfl (pc0 := 58) (pc' := 2) rfl (hb hby d3_58) (by decide) (by decide) ?_
              exact k
            rw [show endF3 v0 v1 v2 v3 v4 v5 p2 = endF4 v0 v1 v2 v3 v4 v5 p2 by rw [endF3, if_pos hc3_1, if_pos hc3_2, if_pos hc3_3, if_neg hc3_4]]
            exact L4 _ (One.val rfl)
        · refine own_fw (A := s₁.setTop (mkF m 37 #[.val (.ref r0), .val (.int p1), .val (.int p2), .val (.int (3 : Int32)), .val (.int (2 : Int32))] [])) (fun t k => ?_) ?_
          · show Steps p.tables e below (s₁.setTop (mkF m 31 #[.val (.ref r0), .val (.int p1), .val (.int p2), .val (.int (3 : Int32)), .val (.int (2 : Int32))] [(.int (13 : Int32)), (.int v2)])) t
            refine XS.icmpYes X0.here hx rfl (pc0 := 31) (pc' := 37) rfl (hb hby d3_31) rfl (feq hc3_3).2 (by decide) (by decide) ?_
            exact k
          refine own_fw (A := s₁.setTop (mkF m 45 #[.val (.ref r0), .val (.int p1), .val (.int p2), .val (.int (3 : Int32)), .val (.int (2 : Int32))] [(.int (2 : Int32)), (.ref r0)])) (fun t k => ?_) ?_
          · show Steps p.tables e below (s₁.setTop (mkF m 37 #[.val (.ref r0), .val (.int p1), .val (.int p2), .val (.int (3 : Int32)), .val (.int (2 : Int32))] [])) t
            refine XS.iload X0.here hx rfl (hb hby d3_37) rfl ?_
            show Steps p.tables e below (s₁.setTop (mkF m 39 #[.val (.ref r0), .val (.int p1), .val (.int p2), .val (.int (3 : Int32)), .val (.int (2 : Int32))] [(.int (2 : Int32))])) t
            refine XS.ifNo X0.here hx rfl (hb hby d3_39) rfl ((if0 _ _).trans (flt (by decide : ¬ ((2 : Int32) < (0 : Int32)))).1) ?_
            show Steps p.tables e below (s₁.setTop (mkF m 42 #[.val (.ref r0), .val (.int p1), .val (.int p2), .val (.int (3 : Int32)), .val (.int (2 : Int32))] [])) t
            refine XS.aloadN X0.here hx rfl (hb hby d3_42) rfl rfl ?_
            show Steps p.tables e below (s₁.setTop (mkF m 43 #[.val (.ref r0), .val (.int p1), .val (.int p2), .val (.int (3 : Int32)), .val (.int (2 : Int32))] [(.ref r0)])) t
            refine XS.iload X0.here hx rfl (hb hby d3_43) rfl ?_
            exact k
          obtain ⟨cl3_4, Ar3_4, q3_4, S3_4, Ng3_4, Hs3_4, G3_4⟩ := id V_r0
          have hin3_4 : ¬ ((2 : Int32) < 0 ∨ cl3_4.slots.size ≤ ((2 : Int32)).toNatClampNeg) := inb_of S3_4 ⟨by decide, by decide⟩
          refine own_fw (X0.baloadBytes hx (j := (2 : Int32)) (v := (.int v2)) (by rw [e0]; exact Ar3_4.1) (State.isArrayOf_alike hZ.alike Ar3_4.2.1) Ar3_4.2.2 hin3_4 (Has.at Hs3_4 hin3_4 rfl) (g := (mkF m 45 #[.val (.ref r0), .val (.int p1), .val (.int p2), .val (.int (3 : Int32)), .val (.int (2 : Int32))] [(.int (2 : Int32)), (.ref r0)])) rfl rfl (hb hby d3_45)) ?_
          refine own_fw (A := s₁.setTop (mkF m 48 #[.val (.ref r0), .val (.int p1), .val (.int p2), .val (.int (3 : Int32)), .val (.int (2 : Int32))] [(.int (10 : Int32)), (.int v2)])) (fun t k => ?_) ?_
          · show Steps p.tables e below (s₁.setTop (mkF m 46 #[.val (.ref r0), .val (.int p1), .val (.int p2), .val (.int (3 : Int32)), .val (.int (2 : Int32))] [(.int v2)])) t
            refine XS.bipush X0.here hx rfl (hb hby d3_46) ?_
            exact k
          by_cases hc3_5 : v2 = (10 : Int32)
          · refine own_fw (A := s₁.setTop (mkF m 51 #[.val (.ref r0), .val (.int p1), .val (.int p2), .val (.int (3 : Int32)), .val (.int (2 : Int32))] [])) (fun t k => ?_) ?_
            · show Steps p.tables e below (s₁.setTop (mkF m 48 #[.val (.ref r0), .val (.int p1), .val (.int p2), .val (.int (3 : Int32)), .val (.int (2 : Int32))] [(.int (10 : Int32)), (.int v2)])) t
              refine XS.icmpNo X0.here hx rfl (hb hby d3_48) rfl (teq hc3_5).2 ?_
              exact k
            refine own_fw (A := s₁.setTop (mkF m 54 #[.val (.ref r0), .val (.int p1), .val (.int p2), .val (.int (3 : Int32)), .val (.int (2 : Int32))] [(.int (4 : Int32))])) (fun t k => ?_) ?_
            · show Steps p.tables e below (s₁.setTop (mkF m 51 #[.val (.ref r0), .val (.int p1), .val (.int p2), .val (.int (3 : Int32)), .val (.int (2 : Int32))] [])) t
              refine XS.iloadN X0.here hx rfl (hb hby d3_51) rfl ?_
              show Steps p.tables e below (s₁.setTop (mkF m 52 #[.val (.ref r0), .val (.int p1), .val (.int p2), .val (.int (3 : Int32)), .val (.int (2 : Int32))] [(.int (3 : Int32))])) t
              refine XS.iconst X0.here hx rfl (hb hby d3_52) ?_
              show Steps p.tables e below (s₁.setTop (mkF m 53 #[.val (.ref r0), .val (.int p1), .val (.int p2), .val (.int (3 : Int32)), .val (.int (2 : Int32))] [(.int (1 : Int32)), (.int (3 : Int32))])) t
              refine XS.iadd X0.here hx rfl (hb hby d3_53) rfl ?_
              exact k
            obtain ⟨fs, hr, hrun, hended, hW, hsame⟩ := X0.leave (v := some (.int (4 : Int32))) (fun h => by rw [Bd.returns] at h; cases h)
            refine ⟨_, _, retI X0 hx Bd.returns (hb hby d3_54) hr, hrun, hended, _, _, rfl, ?_, ⟨_, rfl⟩, hW, hsame.mono (by decide) (by decide)⟩
            have eh : (s₁.setFrames fs).heap = h0 := e0
            rw [eh]
            exact ⟨by rw [endF3, if_pos hc3_1, if_pos hc3_2, if_neg hc3_3, if_pos hc3_5], N0, rfl⟩
          · refine own_fw (A := s₁.setTop (mkF m 55 #[.val (.ref r0), .val (.int p1), .val (.int p2), .val (.int (3 : Int32)), .val (.int (2 : Int32))] [])) (fun t k => ?_) ?_
            · show Steps p.tables e below (s₁.setTop (mkF m 48 #[.val (.ref r0), .val (.int p1), .val (.int p2), .val (.int (3 : Int32)), .val (.int (2 : Int32))] [(.int (10 : Int32)), (.int v2)])) t
              refine XS.icmpYes X0.here hx rfl (pc0 := 48) (pc' := 55) rfl (hb hby d3_48) rfl (feq hc3_5).2 (by decide) (by decide) ?_
              exact k
            refine own_fw (A := s₁.setTop (mkF m 2 #[.val (.ref r0), .val (.int p1), .val (.int p2), .val (.int (4 : Int32)), .val (.int (2 : Int32))] [])) (fun t k => ?_) ?_
            · show Steps p.tables e below (s₁.setTop (mkF m 55 #[.val (.ref r0), .val (.int p1), .val (.int p2), .val (.int (3 : Int32)), .val (.int (2 : Int32))] [])) t
              refine XS.iinc X0.here hx rfl (hb hby d3_55) rfl (l' := #[.val (.ref r0), .val (.int p1), .val (.int p2), .val (.int (4 : Int32)), .val (.int (2 : Int32))]) rfl ?_
              show Steps p.tables e below (s₁.setTop (mkF m 58 #[.val (.ref r0), .val (.int p1), .val (.int p2), .val (.int (4 : Int32)), .val (.int (2 : Int32))] [])) t
              refine XS.goto X0.here hx rfl (pc0 := 58) (pc' := 2) rfl (hb hby d3_58) (by decide) (by decide) ?_
              exact k
            rw [show endF3 v0 v1 v2 v3 v4 v5 p2 = endF4 v0 v1 v2 v3 v4 v5 p2 by rw [endF3, if_pos hc3_1, if_pos hc3_2, if_neg hc3_3, if_neg hc3_5]]
            exact L4 _ (One.val rfl)
      · refine own_fw (A := s₁.setTop (mkF m 55 #[.val (.ref r0), .val (.int p1), .val (.int p2), .val (.int (3 : Int32)), s4] [])) (fun t k => ?_) ?_
        · show Steps p.tables e below (s₁.setTop (mkF m 12 #[.val (.ref r0), .val (.int p1), .val (.int p2), .val (.int (3 : Int32)), s4] [(.int (10 : Int32)), (.int v3)])) t
          refine XS.icmpYes X0.here hx rfl (pc0 := 12) (pc' := 55) rfl (hb hby d3_12) rfl (feq hc3_2).2 (by decide) (by decide) ?_
          exact k
        refine own_fw (A := s₁.setTop (mkF m 2 #[.val (.ref r0), .val (.int p1), .val (.int p2), .val (.int (4 : Int32)), s4] [])) (fun t k => ?_) ?_
        · show Steps p.tables e below (s₁.setTop (mkF m 55 #[.val (.ref r0), .val (.int p1), .val (.int p2), .val (.int (3 : Int32)), s4] [])) t
          refine XS.iinc X0.here hx rfl (hb hby d3_55) rfl (l' := #[.val (.ref r0), .val (.int p1), .val (.int p2), .val (.int (4 : Int32)), s4]) rfl ?_
          show Steps p.tables e below (s₁.setTop (mkF m 58 #[.val (.ref r0), .val (.int p1), .val (.int p2), .val (.int (4 : Int32)), s4] [])) t
          refine XS.goto X0.here hx rfl (pc0 := 58) (pc' := 2) rfl (hb hby d3_58) (by decide) (by decide) ?_
          exact k
        rw [show endF3 v0 v1 v2 v3 v4 v5 p2 = endF4 v0 v1 v2 v3 v4 v5 p2 by rw [endF3, if_pos hc3_1, if_neg hc3_2]]
        exact L4 _ hs4
    · refine own_fw (A := s₁.setTop (mkF m 61 #[.val (.ref r0), .val (.int p1), .val (.int p2), .val (.int (3 : Int32)), s4] [])) (fun t k => ?_) ?_
      · show Steps p.tables e below (s₁.setTop (mkF m 4 #[.val (.ref r0), .val (.int p1), .val (.int p2), .val (.int (3 : Int32)), s4] [(.int p2), (.int (3 : Int32))])) t
        refine XS.icmpYes X0.here hx rfl (pc0 := 4) (pc' := 61) rfl (hb hby d3_4) rfl (flt hc3_1).2.1 (by decide) (by decide) ?_
        exact k
      refine own_fw (A := s₁.setTop (mkF m 62 #[.val (.ref r0), .val (.int p1), .val (.int p2), .val (.int (3 : Int32)), s4] [(.int (-1 : Int32))])) (fun t k => ?_) ?_
      · show Steps p.tables e below (s₁.setTop (mkF m 61 #[.val (.ref r0), .val (.int p1), .val (.int p2), .val (.int (3 : Int32)), s4] [])) t
        refine XS.iconst X0.here hx rfl (hb hby d3_61) ?_
        exact k
      obtain ⟨fs, hr, hrun, hended, hW, hsame⟩ := X0.leave (v := some (.int (-1 : Int32))) (fun h => by rw [Bd.returns] at h; cases h)
      refine ⟨_, _, retI X0 hx Bd.returns (hb hby d3_62) hr, hrun, hended, _, _, rfl, ?_, ⟨_, rfl⟩, hW, hsame.mono (by decide) (by decide)⟩
      have eh : (s₁.setFrames fs).heap = h0 := e0
      rw [eh]
      exact ⟨by rw [endF3, if_neg hc3_1], N0, rfl⟩
  have L2 : ∀ s4 : Slot, One s4 → ∃ t o, Steps p.tables e below (s₁.setTop (mkF m 2 #[.val (.ref r0), .val (.int p1), .val (.int p2), .val (.int (2 : Int32)), s4] [])) t ∧ t.status = .running ∧ Ended t below o ∧ ∃ v L, o = .returned v ∧ Q3 Z (endF2 v0 v1 v2 v3 v4 v5 p2) h0 n0 v t.heap L ∧ FrameEnd s o t L ({ frames := 0, cells := 0, slots := 0, locals := 0 } : Room).cells ({ frames := 0, cells := 0, slots := 0, locals := 0 } : Room).slots := by
    intro s4 hs4
    refine own_fw (A := s₁.setTop (mkF m 3 #[.val (.ref r0), .val (.int p1), .val (.int p2), .val (.int (2 : Int32)), s4] [(.int (2 : Int32))])) (fun t k => ?_) ?_
    · show Steps p.tables e below (s₁.setTop (mkF m 2 #[.val (.ref r0), .val (.int p1), .val (.int p2), .val (.int (2 : Int32)), s4] [])) t
      refine XS.iloadN X0.here hx rfl (hb hby d3_2) rfl ?_
      exact k
    refine own_fw (A := s₁.setTop (mkF m 4 #[.val (.ref r0), .val (.int p1), .val (.int p2), .val (.int (2 : Int32)), s4] [(.int p2), (.int (2 : Int32))])) (fun t k => ?_) ?_
    · show Steps p.tables e below (s₁.setTop (mkF m 3 #[.val (.ref r0), .val (.int p1), .val (.int p2), .val (.int (2 : Int32)), s4] [(.int (2 : Int32))])) t
      refine XS.iloadN X0.here hx rfl (hb hby d3_3) rfl ?_
      exact k
    by_cases hc3_1 : (2 : Int32) < p2
    · refine own_fw (A := s₁.setTop (mkF m 7 #[.val (.ref r0), .val (.int p1), .val (.int p2), .val (.int (2 : Int32)), s4] [])) (fun t k => ?_) ?_
      · show Steps p.tables e below (s₁.setTop (mkF m 4 #[.val (.ref r0), .val (.int p1), .val (.int p2), .val (.int (2 : Int32)), s4] [(.int p2), (.int (2 : Int32))])) t
        refine XS.icmpNo X0.here hx rfl (hb hby d3_4) rfl (tlt hc3_1).2.1 ?_
        exact k
      refine own_fw (A := s₁.setTop (mkF m 9 #[.val (.ref r0), .val (.int p1), .val (.int p2), .val (.int (2 : Int32)), s4] [(.int (2 : Int32)), (.ref r0)])) (fun t k => ?_) ?_
      · show Steps p.tables e below (s₁.setTop (mkF m 7 #[.val (.ref r0), .val (.int p1), .val (.int p2), .val (.int (2 : Int32)), s4] [])) t
        refine XS.aloadN X0.here hx rfl (hb hby d3_7) rfl rfl ?_
        show Steps p.tables e below (s₁.setTop (mkF m 8 #[.val (.ref r0), .val (.int p1), .val (.int p2), .val (.int (2 : Int32)), s4] [(.ref r0)])) t
        refine XS.iloadN X0.here hx rfl (hb hby d3_8) rfl ?_
        exact k
      obtain ⟨cl3_1, Ar3_1, q3_1, S3_1, Ng3_1, Hs3_1, G3_1⟩ := id V_r0
      have hin3_1 : ¬ ((2 : Int32) < 0 ∨ cl3_1.slots.size ≤ ((2 : Int32)).toNatClampNeg) := inb_of S3_1 ⟨by decide, by decide⟩
      refine own_fw (X0.baloadBytes hx (j := (2 : Int32)) (v := (.int v2)) (by rw [e0]; exact Ar3_1.1) (State.isArrayOf_alike hZ.alike Ar3_1.2.1) Ar3_1.2.2 hin3_1 (Has.at Hs3_1 hin3_1 rfl) (g := (mkF m 9 #[.val (.ref r0), .val (.int p1), .val (.int p2), .val (.int (2 : Int32)), s4] [(.int (2 : Int32)), (.ref r0)])) rfl rfl (hb hby d3_9)) ?_
      refine own_fw (A := s₁.setTop (mkF m 12 #[.val (.ref r0), .val (.int p1), .val (.int p2), .val (.int (2 : Int32)), s4] [(.int (10 : Int32)), (.int v2)])) (fun t k => ?_) ?_
      · show Steps p.tables e below (s₁.setTop (mkF m 10 #[.val (.ref r0), .val (.int p1), .val (.int p2), .val (.int (2 : Int32)), s4] [(.int v2)])) t
        refine XS.bipush X0.here hx rfl (hb hby d3_10) ?_
        exact k
      by_cases hc3_2 : v2 = (10 : Int32)
      · refine own_fw (A := s₁.setTop (mkF m 15 #[.val (.ref r0), .val (.int p1), .val (.int p2), .val (.int (2 : Int32)), s4] [])) (fun t k => ?_) ?_
        · show Steps p.tables e below (s₁.setTop (mkF m 12 #[.val (.ref r0), .val (.int p1), .val (.int p2), .val (.int (2 : Int32)), s4] [(.int (10 : Int32)), (.int v2)])) t
          refine XS.icmpNo X0.here hx rfl (hb hby d3_12) rfl (teq hc3_2).2 ?_
          exact k
        refine own_fw (A := s₁.setTop (mkF m 28 #[.val (.ref r0), .val (.int p1), .val (.int p2), .val (.int (2 : Int32)), .val (.int (1 : Int32))] [(.int (1 : Int32)), (.ref r0)])) (fun t k => ?_) ?_
        · show Steps p.tables e below (s₁.setTop (mkF m 15 #[.val (.ref r0), .val (.int p1), .val (.int p2), .val (.int (2 : Int32)), s4] [])) t
          refine XS.iloadN X0.here hx rfl (hb hby d3_15) rfl ?_
          show Steps p.tables e below (s₁.setTop (mkF m 16 #[.val (.ref r0), .val (.int p1), .val (.int p2), .val (.int (2 : Int32)), s4] [(.int (2 : Int32))])) t
          refine XS.iconst X0.here hx rfl (hb hby d3_16) ?_
          show Steps p.tables e below (s₁.setTop (mkF m 17 #[.val (.ref r0), .val (.int p1), .val (.int p2), .val (.int (2 : Int32)), s4] [(.int (1 : Int32)), (.int (2 : Int32))])) t
          refine XS.isub X0.here hx rfl (hb hby d3_17) rfl ?_
          show Steps p.tables e below (s₁.setTop (mkF m 18 #[.val (.ref r0), .val (.int p1), .val (.int p2), .val (.int (2 : Int32)), s4] [(.int (1 : Int32))])) t
          refine XS.istore X0.here hx rfl (hb hby d3_18) rfl (l' := #[.val (.ref r0), .val (.int p1), .val (.int p2), .val (.int (2 : Int32)), .val (.int (1 : Int32))]) (own_os hs4) ?_
          show Steps p.tables e below (s₁.setTop (mkF m 20 #[.val (.ref r0), .val (.int p1), .val (.int p2), .val (.int (2 : Int32)), .val (.int (1 : Int32))] [])) t
          refine XS.iload X0.here hx rfl (hb hby d3_20) rfl ?_
          show Steps p.tables e below (s₁.setTop (mkF m 22 #[.val (.ref r0), .val (.int p1), .val (.int p2), .val (.int (2 : Int32)), .val (.int (1 : Int32))] [(.int (1 : Int32))])) t
          refine XS.ifNo X0.here hx rfl (hb hby d3_22) rfl ((if0 _ _).trans (flt (by decide : ¬ ((1 : Int32) < (0 : Int32)))).1) ?_
          show Steps p.tables e below (s₁.setTop (mkF m 25 #[.val (.ref r0), .val (.int p1), .val (.int p2), .val (.int (2 : Int32)), .val (.int (1 : Int32))] [])) t
          refine XS.aloadN X0.here hx rfl (hb hby d3_25) rfl rfl ?_
          show Steps p.tables e below (s₁.setTop (mkF m 26 #[.val (.ref r0), .val (.int p1), .val (.int p2), .val (.int (2 : Int32)), .val (.int (1 : Int32))] [(.ref r0)])) t
          refine XS.iload X0.here hx rfl (hb hby d3_26) rfl ?_
          exact k
        obtain ⟨cl3_2, Ar3_2, q3_2, S3_2, Ng3_2, Hs3_2, G3_2⟩ := id V_r0
        have hin3_2 : ¬ ((1 : Int32) < 0 ∨ cl3_2.slots.size ≤ ((1 : Int32)).toNatClampNeg) := inb_of S3_2 ⟨by decide, by decide⟩
        refine own_fw (X0.baloadBytes hx (j := (1 : Int32)) (v := (.int v1)) (by rw [e0]; exact Ar3_2.1) (State.isArrayOf_alike hZ.alike Ar3_2.2.1) Ar3_2.2.2 hin3_2 (Has.at Hs3_2 hin3_2 rfl) (g := (mkF m 28 #[.val (.ref r0), .val (.int p1), .val (.int p2), .val (.int (2 : Int32)), .val (.int (1 : Int32))] [(.int (1 : Int32)), (.ref r0)])) rfl rfl (hb hby d3_28)) ?_
        refine own_fw (A := s₁.setTop (mkF m 31 #[.val (.ref r0), .val (.int p1), .val (.int p2), .val (.int (2 : Int32)), .val (.int (1 : Int32))] [(.int (13 : Int32)), (.int v1)])) (fun t k => ?_) ?_
        · show Steps p.tables e below (s₁.setTop (mkF m 29 #[.val (.ref r0), .val (.int p1), .val (.int p2), .val (.int (2 : Int32)), .val (.int (1 : Int32))] [(.int v1)])) t
          refine XS.bipush X0.here hx rfl (hb hby d3_29) ?_
          exact k
        by_cases hc3_3 : v1 = (13 : Int32)
        · refine own_fw (A := s₁.setTop (mkF m 34 #[.val (.ref r0), .val (.int p1), .val (.int p2), .val (.int (2 : Int32)), .val (.int (1 : Int32))] [])) (fun t k => ?_) ?_
          · show Steps p.tables e below (s₁.setTop (mkF m 31 #[.val (.ref r0), .val (.int p1), .val (.int p2), .val (.int (2 : Int32)), .val (.int (1 : Int32))] [(.int (13 : Int32)), (.int v1)])) t
            refine XS.icmpNo X0.here hx rfl (hb hby d3_31) rfl (teq hc3_3).2 ?_
            exact k
          refine own_fw (A := s₁.setTop (mkF m 45 #[.val (.ref r0), .val (.int p1), .val (.int p2), .val (.int (2 : Int32)), .val (.int (0 : Int32))] [(.int (0 : Int32)), (.ref r0)])) (fun t k => ?_) ?_
          · show Steps p.tables e below (s₁.setTop (mkF m 34 #[.val (.ref r0), .val (.int p1), .val (.int p2), .val (.int (2 : Int32)), .val (.int (1 : Int32))] [])) t
            refine XS.iinc X0.here hx rfl (hb hby d3_34) rfl (l' := #[.val (.ref r0), .val (.int p1), .val (.int p2), .val (.int (2 : Int32)), .val (.int (0 : Int32))]) rfl ?_
            show Steps p.tables e below (s₁.setTop (mkF m 37 #[.val (.ref r0), .val (.int p1), .val (.int p2), .val (.int (2 : Int32)), .val (.int (0 : Int32))] [])) t
            refine XS.iload X0.here hx rfl (hb hby d3_37) rfl ?_
            show Steps p.tables e below (s₁.setTop (mkF m 39 #[.val (.ref r0), .val (.int p1), .val (.int p2), .val (.int (2 : Int32)), .val (.int (0 : Int32))] [(.int (0 : Int32))])) t
            refine XS.ifNo X0.here hx rfl (hb hby d3_39) rfl ((if0 _ _).trans (flt (Int32.lt_irrefl : ¬ ((0 : Int32) < (0 : Int32)))).1) ?_
            show Steps p.tables e below (s₁.setTop (mkF m 42 #[.val (.ref r0), .val (.int p1), .val (.int p2), .val (.int (2 : Int32)), .val (.int (0 : Int32))] [])) t
            refine XS.aloadN X0.here hx rfl (hb hby d3_42) rfl rfl ?_
            show Steps p.tables e below (s₁.setTop (mkF m 43 #[.val (.ref r0), .val (.int p1), .val (.int p2), .val (.int (2 : Int32)), .val (.int (0 : Int32))] [(.ref r0)])) t
            refine XS.iload X0.here hx rfl (hb hby d3_43) rfl ?_
            exact k
          obtain ⟨cl3_3, Ar3_3, q3_3, S3_3, Ng3_3, Hs3_3, G3_3⟩ := id V_r0
          have hin3_3 : ¬ ((0 : Int32) < 0 ∨ cl3_3.slots.size ≤ ((0 : Int32)).toNatClampNeg) := inb_of S3_3 ⟨by decide, by decide⟩
          refine own_fw (X0.baloadBytes hx (j := (0 : Int32)) (v := (.int v0)) (by rw [e0]; exact Ar3_3.1) (State.isArrayOf_alike hZ.alike Ar3_3.2.1) Ar3_3.2.2 hin3_3 (Has.at Hs3_3 hin3_3 rfl) (g := (mkF m 45 #[.val (.ref r0), .val (.int p1), .val (.int p2), .val (.int (2 : Int32)), .val (.int (0 : Int32))] [(.int (0 : Int32)), (.ref r0)])) rfl rfl (hb hby d3_45)) ?_
          refine own_fw (A := s₁.setTop (mkF m 48 #[.val (.ref r0), .val (.int p1), .val (.int p2), .val (.int (2 : Int32)), .val (.int (0 : Int32))] [(.int (10 : Int32)), (.int v0)])) (fun t k => ?_) ?_
          · show Steps p.tables e below (s₁.setTop (mkF m 46 #[.val (.ref r0), .val (.int p1), .val (.int p2), .val (.int (2 : Int32)), .val (.int (0 : Int32))] [(.int v0)])) t
            refine XS.bipush X0.here hx rfl (hb hby d3_46) ?_
            exact k
          by_cases hc3_4 : v0 = (10 : Int32)
          · refine own_fw (A := s₁.setTop (mkF m 51 #[.val (.ref r0), .val (.int p1), .val (.int p2), .val (.int (2 : Int32)), .val (.int (0 : Int32))] [])) (fun t k => ?_) ?_
            · show Steps p.tables e below (s₁.setTop (mkF m 48 #[.val (.ref r0), .val (.int p1), .val (.int p2), .val (.int (2 : Int32)), .val (.int (0 : Int32))] [(.int (10 : Int32)), (.int v0)])) t
              refine XS.icmpNo X0.here hx rfl (hb hby d3_48) rfl (teq hc3_4).2 ?_
              exact k
            refine own_fw (A := s₁.setTop (mkF m 54 #[.val (.ref r0), .val (.int p1), .val (.int p2), .val (.int (2 : Int32)), .val (.int (0 : Int32))] [(.int (3 : Int32))])) (fun t k => ?_) ?_
            · show Steps p.tables e below (s₁.setTop (mkF m 51 #[.val (.ref r0), .val (.int p1), .val (.int p2), .val (.int (2 : Int32)), .val (.int (0 : Int32))] [])) t
              refine XS.iloadN X0.here hx rfl (hb hby d3_51) rfl ?_
              show Steps p.tables e below (s₁.setTop (mkF m 52 #[.val (.ref r0), .val (.int p1), .val (.int p2), .val (.int (2 : Int32)), .val (.int (0 : Int32))] [(.int (2 : Int32))])) t
              refine XS.iconst X0.here hx rfl (hb hby d3_52) ?_
              show Steps p.tables e below (s₁.setTop (mkF m 53 #[.val (.ref r0), .val (.int p1), .val (.int p2), .val (.int (2 : Int32)), .val (.int (0 : Int32))] [(.int (1 : Int32)), (.int (2 : Int32))])) t
              refine XS.iadd X0.here hx rfl (hb hby d3_53) rfl ?_
              exact k
            obtain ⟨fs, hr, hrun, hended, hW, hsame⟩ := X0.leave (v := some (.int (3 : Int32))) (fun h => by rw [Bd.returns] at h; cases h)
            refine ⟨_, _, retI X0 hx Bd.returns (hb hby d3_54) hr, hrun, hended, _, _, rfl, ?_, ⟨_, rfl⟩, hW, hsame.mono (by decide) (by decide)⟩
            have eh : (s₁.setFrames fs).heap = h0 := e0
            rw [eh]
            exact ⟨by rw [endF2, if_pos hc3_1, if_pos hc3_2, if_pos hc3_3, if_pos hc3_4], N0, rfl⟩
          · refine own_fw (A := s₁.setTop (mkF m 55 #[.val (.ref r0), .val (.int p1), .val (.int p2), .val (.int (2 : Int32)), .val (.int (0 : Int32))] [])) (fun t k => ?_) ?_
            · show Steps p.tables e below (s₁.setTop (mkF m 48 #[.val (.ref r0), .val (.int p1), .val (.int p2), .val (.int (2 : Int32)), .val (.int (0 : Int32))] [(.int (10 : Int32)), (.int v0)])) t
              refine XS.icmpYes X0.here hx rfl (pc0 := 48) (pc' := 55) rfl (hb hby d3_48) rfl (feq hc3_4).2 (by decide) (by decide) ?_
              exact k
            refine own_fw (A := s₁.setTop (mkF m 2 #[.val (.ref r0), .val (.int p1), .val (.int p2), .val (.int (3 : Int32)), .val (.int (0 : Int32))] [])) (fun t k => ?_) ?_
            · show Steps p.tables e below (s₁.setTop (mkF m 55 #[.val (.ref r0), .val (.int p1), .val (.int p2), .val (.int (2 : Int32)), .val (.int (0 : Int32))] [])) t
              refine XS.iinc X0.here hx rfl (hb hby d3_55) rfl (l' := #[.val (.ref r0), .val (.int p1), .val (.int p2), .val (.int (3 : Int32)), .val (.int (0 : Int32))]) rfl ?_
              show Steps p.tables e below (s₁.setTop (mkF m 58 #[.val (.ref r0), .val (.int p1), .val (.int p2), .val (.int (3 : Int32)), .val (.int (0 : Int32))] [])) t
              refine XS.goto X0.here hx rfl (pc0 := 58) (pc' := 2) rfl (hb hby d3_58) (by decide) (by decide) ?_
              exact k
            rw [show endF2 v0 v1 v2 v3 v4 v5 p2 = endF3 v0 v1 v2 v3 v4 v5 p2 by rw [endF2, if_pos hc3_1, if_pos hc3_2, if_pos hc3_3, if_neg hc3_4]]
            exact L3 _ (One.val rfl)
        · refine own_fw (A := s₁.setTop (mkF m 37 #[.val (.ref r0), .val (.int p1), .val (.int p2), .val (.int (2 : Int32)), .val (.int (1 : Int32))] [])) (fun t k => ?_) ?_
          · show Steps p.tables e below (s₁.setTop (mkF m 31 #[.val (.ref r0), .val (.int p1), .val (.int p2), .val (.int (2 : Int32)), .val (.int (1 : Int32))] [(.int (13 : Int32)), (.int v1)])) t
            refine XS.icmpYes X0.here hx rfl (pc0 := 31) (pc' := 37) rfl (hb hby d3_31) rfl (feq hc3_3).2 (by decide) (by decide) ?_
            exact k
          refine own_fw (A := s₁.setTop (mkF m 45 #[.val (.ref r0), .val (.int p1), .val (.int p2), .val (.int (2 : Int32)), .val (.int (1 : Int32))] [(.int (1 : Int32)), (.ref r0)])) (fun t k => ?_) ?_
          · show Steps p.tables e below (s₁.setTop (mkF m 37 #[.val (.ref r0), .val (.int p1), .val (.int p2), .val (.int (2 : Int32)), .val (.int (1 : Int32))] [])) t
            refine XS.iload X0.here hx rfl (hb hby d3_37) rfl ?_
            show Steps p.tables e below (s₁.setTop (mkF m 39 #[.val (.ref r0), .val (.int p1), .val (.int p2), .val (.int (2 : Int32)), .val (.int (1 : Int32))] [(.int (1 : Int32))])) t
            refine XS.ifNo X0.here hx rfl (hb hby d3_39) rfl ((if0 _ _).trans (flt (by decide : ¬ ((1 : Int32) < (0 : Int32)))).1) ?_
            show Steps p.tables e below (s₁.setTop (mkF m 42 #[.val (.ref r0), .val (.int p1), .val (.int p2), .val (.int (2 : Int32)), .val (.int (1 : Int32))] [])) t
            refine XS.aloadN X0.here hx rfl (hb hby d3_42) rfl rfl ?_
            show Steps p.tables e below (s₁.setTop (mkF m 43 #[.val (.ref r0), .val (.int p1), .val (.int p2), .val (.int (2 : Int32)), .val (.int (1 : Int32))] [(.ref r0)])) t
            refine XS.iload X0.here hx rfl (hb hby d3_43) rfl ?_
            exact k
          obtain ⟨cl3_4, Ar3_4, q3_4, S3_4, Ng3_4, Hs3_4, G3_4⟩ := id V_r0
          have hin3_4 : ¬ ((1 : Int32) < 0 ∨ cl3_4.slots.size ≤ ((1 : Int32)).toNatClampNeg) := inb_of S3_4 ⟨by decide, by decide⟩
          refine own_fw (X0.baloadBytes hx (j := (1 : Int32)) (v := (.int v1)) (by rw [e0]; exact Ar3_4.1) (State.isArrayOf_alike hZ.alike Ar3_4.2.1) Ar3_4.2.2 hin3_4 (Has.at Hs3_4 hin3_4 rfl) (g := (mkF m 45 #[.val (.ref r0), .val (.int p1), .val (.int p2), .val (.int (2 : Int32)), .val (.int (1 : Int32))] [(.int (1 : Int32)), (.ref r0)])) rfl rfl (hb hby d3_45)) ?_
          refine own_fw (A := s₁.setTop (mkF m 48 #[.val (.ref r0), .val (.int p1), .val (.int p2), .val (.int (2 : Int32)), .val (.int (1 : Int32))] [(.int (10 : Int32)), (.int v1)])) (fun t k => ?_) ?_
          · show Steps p.tables e below (s₁.setTop (mkF m 46 #[.val (.ref r0), .val (.int p1), .val (.int p2), .val (.int (2 : Int32)), .val (.int (1 : Int32))] [(.int v1)])) t
            refine XS.bipush X0.here hx rfl (hb hby d3_46) ?_
            exact k
          by_cases hc3_5 : v1 = (10 : Int32)
          · refine own_fw (A := s₁.setTop (mkF m 51 #[.val (.ref r0), .val (.int p1), .val (.int p2), .val (.int (2 : Int32)), .val (.int (1 : Int32))] [])) (fun t k => ?_) ?_
            · show Steps p.tables e below (s₁.setTop (mkF m 48 #[.val (.ref r0), .val (.int p1), .val (.int p2), .val (.int (2 : Int32)), .val (.int (1 : Int32))] [(.int (10 : Int32)), (.int v1)])) t
              refine XS.icmpNo X0.here hx rfl (hb hby d3_48) rfl (teq hc3_5).2 ?_
              exact k
            refine own_fw (A := s₁.setTop (mkF m 54 #[.val (.ref r0), .val (.int p1), .val (.int p2), .val (.int (2 : Int32)), .val (.int (1 : Int32))] [(.int (3 : Int32))])) (fun t k => ?_) ?_
            · show Steps p.tables e below (s₁.setTop (mkF m 51 #[.val (.ref r0), .val (.int p1), .val (.int p2), .val (.int (2 : Int32)), .val (.int (1 : Int32))] [])) t
              refine XS.iloadN X0.here hx rfl (hb hby d3_51) rfl ?_
              show Steps p.tables e below (s₁.setTop (mkF m 52 #[.val (.ref r0), .val (.int p1), .val (.int p2), .val (.int (2 : Int32)), .val (.int (1 : Int32))] [(.int (2 : Int32))])) t
              refine XS.iconst X0.here hx rfl (hb hby d3_52) ?_
              show Steps p.tables e below (s₁.setTop (mkF m 53 #[.val (.ref r0), .val (.int p1), .val (.int p2), .val (.int (2 : Int32)), .val (.int (1 : Int32))] [(.int (1 : Int32)), (.int (2 : Int32))])) t
              refine XS.iadd X0.here hx rfl (hb hby d3_53) rfl ?_
              exact k
            obtain ⟨fs, hr, hrun, hended, hW, hsame⟩ := X0.leave (v := some (.int (3 : Int32))) (fun h => by rw [Bd.returns] at h; cases h)
            refine ⟨_, _, retI X0 hx Bd.returns (hb hby d3_54) hr, hrun, hended, _, _, rfl, ?_, ⟨_, rfl⟩, hW, hsame.mono (by decide) (by decide)⟩
            have eh : (s₁.setFrames fs).heap = h0 := e0
            rw [eh]
            exact ⟨by rw [endF2, if_pos hc3_1, if_pos hc3_2, if_neg hc3_3, if_pos hc3_5], N0, rfl⟩
          · refine own_fw (A := s₁.setTop (mkF m 55 #[.val (.ref r0), .val (.int p1), .val (.int p2), .val (.int (2 : Int32)), .val (.int (1 : Int32))] [])) (fun t k => ?_) ?_
            · show Steps p.tables e below (s₁.setTop (mkF m 48 #[.val (.ref r0), .val (.int p1), .val (.int p2), .val (.int (2 : Int32)), .val (.int (1 : Int32))] [(.int (10 : Int32)), (.int v1)])) t
              refine XS.icmpYes X0.here hx rfl (pc0 := 48) (pc' := 55) rfl (hb hby d3_48) rfl (feq hc3_5).2 (by decide) (by decide) ?_
              exact k
            refine own_fw (A := s₁.setTop (mkF m 2 #[.val (.ref r0), .val (.int p1), .val (.int p2), .val (.int (3 : Int32)), .val (.int (1 : Int32))] [])) (fun t k => ?_) ?_
            · show Steps p.tables e below (s₁.setTop (mkF m 55 #[.val (.ref r0), .val (.int p1), .val (.int p2), .val (.int (2 : Int32)), .val (.int (1 : Int32))] [])) t
              refine XS.iinc X0.here hx rfl (hb hby d3_55) rfl (l' := #[.val (.ref r0), .val (.int p1), .val (.int p2), .val (.int (3 : Int32)), .val (.int (1 : Int32))]) rfl ?_
              show Steps p.tables e below (s₁.setTop (mkF m 58 #[.val (.ref r0), .val (.int p1), .val (.int p2), .val (.int (3 : Int32)), .val (.int (1 : Int32))] [])) t
              refine XS.goto X0.here hx rfl (pc0 := 58) (pc' := 2) rfl (hb hby d3_58) (by decide) (by decide) ?_
              exact k
            rw [show endF2 v0 v1 v2 v3 v4 v5 p2 = endF3 v0 v1 v2 v3 v4 v5 p2 by rw [endF2, if_pos hc3_1, if_pos hc3_2, if_neg hc3_3, if_neg hc3_5]]
            exact L3 _ (One.val rfl)
      · refine own_fw (A := s₁.setTop (mkF m 55 #[.val (.ref r0), .val (.int p1), .val (.int p2), .val (.int (2 : Int32)), s4] [])) (fun t k => ?_) ?_
        · show Steps p.tables e below (s₁.setTop (mkF m 12 #[.val (.ref r0), .val (.int p1), .val (.int p2), .val (.int (2 : Int32)), s4] [(.int (10 : Int32)), (.int v2)])) t
          refine XS.icmpYes X0.here hx rfl (pc0 := 12) (pc' := 55) rfl (hb hby d3_12) rfl (feq hc3_2).2 (by decide) (by decide) ?_
          exact k
        refine own_fw (A := s₁.setTop (mkF m 2 #[.val (.ref r0), .val (.int p1), .val (.int p2), .val (.int (3 : Int32)), s4] [])) (fun t k => ?_) ?_
        · show Steps p.tables e below (s₁.setTop (mkF m 55 #[.val (.ref r0), .val (.int p1), .val (.int p2), .val (.int (2 : Int32)), s4] [])) t
          refine XS.iinc X0.here hx rfl (hb hby d3_55) rfl (l' := #[.val (.ref r0), .val (.int p1), .val (.int p2), .val (.int (3 : Int32)), s4]) rfl ?_
          show Steps p.tables e below (s₁.setTop (mkF m 58 #[.val (.ref r0), .val (.int p1), .val (.int p2), .val (.int (3 : Int32)), s4] [])) t
          refine XS.goto X0.here hx rfl (pc0 := 58) (pc' := 2) rfl (hb hby d3_58) (by decide) (by decide) ?_
          exact k
        rw [show endF2 v0 v1 v2 v3 v4 v5 p2 = endF3 v0 v1 v2 v3 v4 v5 p2 by rw [endF2, if_pos hc3_1, if_neg hc3_2]]
        exact L3 _ hs4
    · refine own_fw (A := s₁.setTop (mkF m 61 #[.val (.ref r0), .val (.int p1), .val (.int p2), .val (.int (2 : Int32)), s4] [])) (fun t k => ?_) ?_
      · show Steps p.tables e below (s₁.setTop (mkF m 4 #[.val (.ref r0), .val (.int p1), .val (.int p2), .val (.int (2 : Int32)), s4] [(.int p2), (.int (2 : Int32))])) t
        refine XS.icmpYes X0.here hx rfl (pc0 := 4) (pc' := 61) rfl (hb hby d3_4) rfl (flt hc3_1).2.1 (by decide) (by decide) ?_
        exact k
      refine own_fw (A := s₁.setTop (mkF m 62 #[.val (.ref r0), .val (.int p1), .val (.int p2), .val (.int (2 : Int32)), s4] [(.int (-1 : Int32))])) (fun t k => ?_) ?_
      · show Steps p.tables e below (s₁.setTop (mkF m 61 #[.val (.ref r0), .val (.int p1), .val (.int p2), .val (.int (2 : Int32)), s4] [])) t
        refine XS.iconst X0.here hx rfl (hb hby d3_61) ?_
        exact k
      obtain ⟨fs, hr, hrun, hended, hW, hsame⟩ := X0.leave (v := some (.int (-1 : Int32))) (fun h => by rw [Bd.returns] at h; cases h)
      refine ⟨_, _, retI X0 hx Bd.returns (hb hby d3_62) hr, hrun, hended, _, _, rfl, ?_, ⟨_, rfl⟩, hW, hsame.mono (by decide) (by decide)⟩
      have eh : (s₁.setFrames fs).heap = h0 := e0
      rw [eh]
      exact ⟨by rw [endF2, if_neg hc3_1], N0, rfl⟩
  have L1 : ∀ s4 : Slot, One s4 → ∃ t o, Steps p.tables e below (s₁.setTop (mkF m 2 #[.val (.ref r0), .val (.int p1), .val (.int p2), .val (.int (1 : Int32)), s4] [])) t ∧ t.status = .running ∧ Ended t below o ∧ ∃ v L, o = .returned v ∧ Q3 Z (endF1 v0 v1 v2 v3 v4 v5 p2) h0 n0 v t.heap L ∧ FrameEnd s o t L ({ frames := 0, cells := 0, slots := 0, locals := 0 } : Room).cells ({ frames := 0, cells := 0, slots := 0, locals := 0 } : Room).slots := by
    intro s4 hs4
    refine own_fw (A := s₁.setTop (mkF m 3 #[.val (.ref r0), .val (.int p1), .val (.int p2), .val (.int (1 : Int32)), s4] [(.int (1 : Int32))])) (fun t k => ?_) ?_
    · show Steps p.tables e below (s₁.setTop (mkF m 2 #[.val (.ref r0), .val (.int p1), .val (.int p2), .val (.int (1 : Int32)), s4] [])) t
      refine XS.iloadN X0.here hx rfl (hb hby d3_2) rfl ?_
      exact k
    refine own_fw (A := s₁.setTop (mkF m 4 #[.val (.ref r0), .val (.int p1), .val (.int p2), .val (.int (1 : Int32)), s4] [(.int p2), (.int (1 : Int32))])) (fun t k => ?_) ?_
    · show Steps p.tables e below (s₁.setTop (mkF m 3 #[.val (.ref r0), .val (.int p1), .val (.int p2), .val (.int (1 : Int32)), s4] [(.int (1 : Int32))])) t
      refine XS.iloadN X0.here hx rfl (hb hby d3_3) rfl ?_
      exact k
    by_cases hc3_1 : (1 : Int32) < p2
    · refine own_fw (A := s₁.setTop (mkF m 7 #[.val (.ref r0), .val (.int p1), .val (.int p2), .val (.int (1 : Int32)), s4] [])) (fun t k => ?_) ?_
      · show Steps p.tables e below (s₁.setTop (mkF m 4 #[.val (.ref r0), .val (.int p1), .val (.int p2), .val (.int (1 : Int32)), s4] [(.int p2), (.int (1 : Int32))])) t
        refine XS.icmpNo X0.here hx rfl (hb hby d3_4) rfl (tlt hc3_1).2.1 ?_
        exact k
      refine own_fw (A := s₁.setTop (mkF m 9 #[.val (.ref r0), .val (.int p1), .val (.int p2), .val (.int (1 : Int32)), s4] [(.int (1 : Int32)), (.ref r0)])) (fun t k => ?_) ?_
      · show Steps p.tables e below (s₁.setTop (mkF m 7 #[.val (.ref r0), .val (.int p1), .val (.int p2), .val (.int (1 : Int32)), s4] [])) t
        refine XS.aloadN X0.here hx rfl (hb hby d3_7) rfl rfl ?_
        show Steps p.tables e below (s₁.setTop (mkF m 8 #[.val (.ref r0), .val (.int p1), .val (.int p2), .val (.int (1 : Int32)), s4] [(.ref r0)])) t
        refine XS.iloadN X0.here hx rfl (hb hby d3_8) rfl ?_
        exact k
      obtain ⟨cl3_1, Ar3_1, q3_1, S3_1, Ng3_1, Hs3_1, G3_1⟩ := id V_r0
      have hin3_1 : ¬ ((1 : Int32) < 0 ∨ cl3_1.slots.size ≤ ((1 : Int32)).toNatClampNeg) := inb_of S3_1 ⟨by decide, by decide⟩
      refine own_fw (X0.baloadBytes hx (j := (1 : Int32)) (v := (.int v1)) (by rw [e0]; exact Ar3_1.1) (State.isArrayOf_alike hZ.alike Ar3_1.2.1) Ar3_1.2.2 hin3_1 (Has.at Hs3_1 hin3_1 rfl) (g := (mkF m 9 #[.val (.ref r0), .val (.int p1), .val (.int p2), .val (.int (1 : Int32)), s4] [(.int (1 : Int32)), (.ref r0)])) rfl rfl (hb hby d3_9)) ?_
      refine own_fw (A := s₁.setTop (mkF m 12 #[.val (.ref r0), .val (.int p1), .val (.int p2), .val (.int (1 : Int32)), s4] [(.int (10 : Int32)), (.int v1)])) (fun t k => ?_) ?_
      · show Steps p.tables e below (s₁.setTop (mkF m 10 #[.val (.ref r0), .val (.int p1), .val (.int p2), .val (.int (1 : Int32)), s4] [(.int v1)])) t
        refine XS.bipush X0.here hx rfl (hb hby d3_10) ?_
        exact k
      by_cases hc3_2 : v1 = (10 : Int32)
      · refine own_fw (A := s₁.setTop (mkF m 15 #[.val (.ref r0), .val (.int p1), .val (.int p2), .val (.int (1 : Int32)), s4] [])) (fun t k => ?_) ?_
        · show Steps p.tables e below (s₁.setTop (mkF m 12 #[.val (.ref r0), .val (.int p1), .val (.int p2), .val (.int (1 : Int32)), s4] [(.int (10 : Int32)), (.int v1)])) t
          refine XS.icmpNo X0.here hx rfl (hb hby d3_12) rfl (teq hc3_2).2 ?_
          exact k
        refine own_fw (A := s₁.setTop (mkF m 28 #[.val (.ref r0), .val (.int p1), .val (.int p2), .val (.int (1 : Int32)), .val (.int (0 : Int32))] [(.int (0 : Int32)), (.ref r0)])) (fun t k => ?_) ?_
        · show Steps p.tables e below (s₁.setTop (mkF m 15 #[.val (.ref r0), .val (.int p1), .val (.int p2), .val (.int (1 : Int32)), s4] [])) t
          refine XS.iloadN X0.here hx rfl (hb hby d3_15) rfl ?_
          show Steps p.tables e below (s₁.setTop (mkF m 16 #[.val (.ref r0), .val (.int p1), .val (.int p2), .val (.int (1 : Int32)), s4] [(.int (1 : Int32))])) t
          refine XS.iconst X0.here hx rfl (hb hby d3_16) ?_
          show Steps p.tables e below (s₁.setTop (mkF m 17 #[.val (.ref r0), .val (.int p1), .val (.int p2), .val (.int (1 : Int32)), s4] [(.int (1 : Int32)), (.int (1 : Int32))])) t
          refine XS.isub X0.here hx rfl (hb hby d3_17) rfl ?_
          show Steps p.tables e below (s₁.setTop (mkF m 18 #[.val (.ref r0), .val (.int p1), .val (.int p2), .val (.int (1 : Int32)), s4] [(.int (0 : Int32))])) t
          refine XS.istore X0.here hx rfl (hb hby d3_18) rfl (l' := #[.val (.ref r0), .val (.int p1), .val (.int p2), .val (.int (1 : Int32)), .val (.int (0 : Int32))]) (own_os hs4) ?_
          show Steps p.tables e below (s₁.setTop (mkF m 20 #[.val (.ref r0), .val (.int p1), .val (.int p2), .val (.int (1 : Int32)), .val (.int (0 : Int32))] [])) t
          refine XS.iload X0.here hx rfl (hb hby d3_20) rfl ?_
          show Steps p.tables e below (s₁.setTop (mkF m 22 #[.val (.ref r0), .val (.int p1), .val (.int p2), .val (.int (1 : Int32)), .val (.int (0 : Int32))] [(.int (0 : Int32))])) t
          refine XS.ifNo X0.here hx rfl (hb hby d3_22) rfl ((if0 _ _).trans (flt (Int32.lt_irrefl : ¬ ((0 : Int32) < (0 : Int32)))).1) ?_
          show Steps p.tables e below (s₁.setTop (mkF m 25 #[.val (.ref r0), .val (.int p1), .val (.int p2), .val (.int (1 : Int32)), .val (.int (0 : Int32))] [])) t
          refine XS.aloadN X0.here hx rfl (hb hby d3_25) rfl rfl ?_
          show Steps p.tables e below (s₁.setTop (mkF m 26 #[.val (.ref r0), .val (.int p1), .val (.int p2), .val (.int (1 : Int32)), .val (.int (0 : Int32))] [(.ref r0)])) t
          refine XS.iload X0.here hx rfl (hb hby d3_26) rfl ?_
          exact k
        obtain ⟨cl3_2, Ar3_2, q3_2, S3_2, Ng3_2, Hs3_2, G3_2⟩ := id V_r0
        have hin3_2 : ¬ ((0 : Int32) < 0 ∨ cl3_2.slots.size ≤ ((0 : Int32)).toNatClampNeg) := inb_of S3_2 ⟨by decide, by decide⟩
        refine own_fw (X0.baloadBytes hx (j := (0 : Int32)) (v := (.int v0)) (by rw [e0]; exact Ar3_2.1) (State.isArrayOf_alike hZ.alike Ar3_2.2.1) Ar3_2.2.2 hin3_2 (Has.at Hs3_2 hin3_2 rfl) (g := (mkF m 28 #[.val (.ref r0), .val (.int p1), .val (.int p2), .val (.int (1 : Int32)), .val (.int (0 : Int32))] [(.int (0 : Int32)), (.ref r0)])) rfl rfl (hb hby d3_28)) ?_
        refine own_fw (A := s₁.setTop (mkF m 31 #[.val (.ref r0), .val (.int p1), .val (.int p2), .val (.int (1 : Int32)), .val (.int (0 : Int32))] [(.int (13 : Int32)), (.int v0)])) (fun t k => ?_) ?_
        · show Steps p.tables e below (s₁.setTop (mkF m 29 #[.val (.ref r0), .val (.int p1), .val (.int p2), .val (.int (1 : Int32)), .val (.int (0 : Int32))] [(.int v0)])) t
          refine XS.bipush X0.here hx rfl (hb hby d3_29) ?_
          exact k
        by_cases hc3_3 : v0 = (13 : Int32)
        · refine own_fw (A := s₁.setTop (mkF m 34 #[.val (.ref r0), .val (.int p1), .val (.int p2), .val (.int (1 : Int32)), .val (.int (0 : Int32))] [])) (fun t k => ?_) ?_
          · show Steps p.tables e below (s₁.setTop (mkF m 31 #[.val (.ref r0), .val (.int p1), .val (.int p2), .val (.int (1 : Int32)), .val (.int (0 : Int32))] [(.int (13 : Int32)), (.int v0)])) t
            refine XS.icmpNo X0.here hx rfl (hb hby d3_31) rfl (teq hc3_3).2 ?_
            exact k
          refine own_fw (A := s₁.setTop (mkF m 54 #[.val (.ref r0), .val (.int p1), .val (.int p2), .val (.int (1 : Int32)), .val (.int (-1 : Int32))] [(.int (2 : Int32))])) (fun t k => ?_) ?_
          · show Steps p.tables e below (s₁.setTop (mkF m 34 #[.val (.ref r0), .val (.int p1), .val (.int p2), .val (.int (1 : Int32)), .val (.int (0 : Int32))] [])) t
            refine XS.iinc X0.here hx rfl (hb hby d3_34) rfl (l' := #[.val (.ref r0), .val (.int p1), .val (.int p2), .val (.int (1 : Int32)), .val (.int (-1 : Int32))]) rfl ?_
            show Steps p.tables e below (s₁.setTop (mkF m 37 #[.val (.ref r0), .val (.int p1), .val (.int p2), .val (.int (1 : Int32)), .val (.int (-1 : Int32))] [])) t
            refine XS.iload X0.here hx rfl (hb hby d3_37) rfl ?_
            show Steps p.tables e below (s₁.setTop (mkF m 39 #[.val (.ref r0), .val (.int p1), .val (.int p2), .val (.int (1 : Int32)), .val (.int (-1 : Int32))] [(.int (-1 : Int32))])) t
            refine XS.ifYes X0.here hx rfl (pc0 := 39) (pc' := 51) rfl (hb hby d3_39) rfl ((if0 _ _).trans (tlt (by decide : ((-1 : Int32) < (0 : Int32)))).1) (by decide) (by decide) ?_
            show Steps p.tables e below (s₁.setTop (mkF m 51 #[.val (.ref r0), .val (.int p1), .val (.int p2), .val (.int (1 : Int32)), .val (.int (-1 : Int32))] [])) t
            refine XS.iloadN X0.here hx rfl (hb hby d3_51) rfl ?_
            show Steps p.tables e below (s₁.setTop (mkF m 52 #[.val (.ref r0), .val (.int p1), .val (.int p2), .val (.int (1 : Int32)), .val (.int (-1 : Int32))] [(.int (1 : Int32))])) t
            refine XS.iconst X0.here hx rfl (hb hby d3_52) ?_
            show Steps p.tables e below (s₁.setTop (mkF m 53 #[.val (.ref r0), .val (.int p1), .val (.int p2), .val (.int (1 : Int32)), .val (.int (-1 : Int32))] [(.int (1 : Int32)), (.int (1 : Int32))])) t
            refine XS.iadd X0.here hx rfl (hb hby d3_53) rfl ?_
            exact k
          obtain ⟨fs, hr, hrun, hended, hW, hsame⟩ := X0.leave (v := some (.int (2 : Int32))) (fun h => by rw [Bd.returns] at h; cases h)
          refine ⟨_, _, retI X0 hx Bd.returns (hb hby d3_54) hr, hrun, hended, _, _, rfl, ?_, ⟨_, rfl⟩, hW, hsame.mono (by decide) (by decide)⟩
          have eh : (s₁.setFrames fs).heap = h0 := e0
          rw [eh]
          exact ⟨by rw [endF1, if_pos hc3_1, if_pos hc3_2, if_pos hc3_3], N0, rfl⟩
        · refine own_fw (A := s₁.setTop (mkF m 37 #[.val (.ref r0), .val (.int p1), .val (.int p2), .val (.int (1 : Int32)), .val (.int (0 : Int32))] [])) (fun t k => ?_) ?_
          · show Steps p.tables e below (s₁.setTop (mkF m 31 #[.val (.ref r0), .val (.int p1), .val (.int p2), .val (.int (1 : Int32)), .val (.int (0 : Int32))] [(.int (13 : Int32)), (.int v0)])) t
            refine XS.icmpYes X0.here hx rfl (pc0 := 31) (pc' := 37) rfl (hb hby d3_31) rfl (feq hc3_3).2 (by decide) (by decide) ?_
            exact k
          refine own_fw (A := s₁.setTop (mkF m 45 #[.val (.ref r0), .val (.int p1), .val (.int p2), .val (.int (1 : Int32)), .val (.int (0 : Int32))] [(.int (0 : Int32)), (.ref r0)])) (fun t k => ?_) ?_
          · show Steps p.tables e below (s₁.setTop (mkF m 37 #[.val (.ref r0), .val (.int p1), .val (.int p2), .val (.int (1 : Int32)), .val (.int (0 : Int32))] [])) t
            refine XS.iload X0.here hx rfl (hb hby d3_37) rfl ?_
            show Steps p.tables e below (s₁.setTop (mkF m 39 #[.val (.ref r0), .val (.int p1), .val (.int p2), .val (.int (1 : Int32)), .val (.int (0 : Int32))] [(.int (0 : Int32))])) t
            refine XS.ifNo X0.here hx rfl (hb hby d3_39) rfl ((if0 _ _).trans (flt (Int32.lt_irrefl : ¬ ((0 : Int32) < (0 : Int32)))).1) ?_
            show Steps p.tables e below (s₁.setTop (mkF m 42 #[.val (.ref r0), .val (.int p1), .val (.int p2), .val (.int (1 : Int32)), .val (.int (0 : Int32))] [])) t
            refine XS.aloadN X0.here hx rfl (hb hby d3_42) rfl rfl ?_
            show Steps p.tables e below (s₁.setTop (mkF m 43 #[.val (.ref r0), .val (.int p1), .val (.int p2), .val (.int (1 : Int32)), .val (.int (0 : Int32))] [(.ref r0)])) t
            refine XS.iload X0.here hx rfl (hb hby d3_43) rfl ?_
            exact k
          obtain ⟨cl3_3, Ar3_3, q3_3, S3_3, Ng3_3, Hs3_3, G3_3⟩ := id V_r0
          have hin3_3 : ¬ ((0 : Int32) < 0 ∨ cl3_3.slots.size ≤ ((0 : Int32)).toNatClampNeg) := inb_of S3_3 ⟨by decide, by decide⟩
          refine own_fw (X0.baloadBytes hx (j := (0 : Int32)) (v := (.int v0)) (by rw [e0]; exact Ar3_3.1) (State.isArrayOf_alike hZ.alike Ar3_3.2.1) Ar3_3.2.2 hin3_3 (Has.at Hs3_3 hin3_3 rfl) (g := (mkF m 45 #[.val (.ref r0), .val (.int p1), .val (.int p2), .val (.int (1 : Int32)), .val (.int (0 : Int32))] [(.int (0 : Int32)), (.ref r0)])) rfl rfl (hb hby d3_45)) ?_
          refine own_fw (A := s₁.setTop (mkF m 48 #[.val (.ref r0), .val (.int p1), .val (.int p2), .val (.int (1 : Int32)), .val (.int (0 : Int32))] [(.int (10 : Int32)), (.int v0)])) (fun t k => ?_) ?_
          · show Steps p.tables e below (s₁.setTop (mkF m 46 #[.val (.ref r0), .val (.int p1), .val (.int p2), .val (.int (1 : Int32)), .val (.int (0 : Int32))] [(.int v0)])) t
            refine XS.bipush X0.here hx rfl (hb hby d3_46) ?_
            exact k
          by_cases hc3_4 : v0 = (10 : Int32)
          · refine own_fw (A := s₁.setTop (mkF m 51 #[.val (.ref r0), .val (.int p1), .val (.int p2), .val (.int (1 : Int32)), .val (.int (0 : Int32))] [])) (fun t k => ?_) ?_
            · show Steps p.tables e below (s₁.setTop (mkF m 48 #[.val (.ref r0), .val (.int p1), .val (.int p2), .val (.int (1 : Int32)), .val (.int (0 : Int32))] [(.int (10 : Int32)), (.int v0)])) t
              refine XS.icmpNo X0.here hx rfl (hb hby d3_48) rfl (teq hc3_4).2 ?_
              exact k
            refine own_fw (A := s₁.setTop (mkF m 54 #[.val (.ref r0), .val (.int p1), .val (.int p2), .val (.int (1 : Int32)), .val (.int (0 : Int32))] [(.int (2 : Int32))])) (fun t k => ?_) ?_
            · show Steps p.tables e below (s₁.setTop (mkF m 51 #[.val (.ref r0), .val (.int p1), .val (.int p2), .val (.int (1 : Int32)), .val (.int (0 : Int32))] [])) t
              refine XS.iloadN X0.here hx rfl (hb hby d3_51) rfl ?_
              show Steps p.tables e below (s₁.setTop (mkF m 52 #[.val (.ref r0), .val (.int p1), .val (.int p2), .val (.int (1 : Int32)), .val (.int (0 : Int32))] [(.int (1 : Int32))])) t
              refine XS.iconst X0.here hx rfl (hb hby d3_52) ?_
              show Steps p.tables e below (s₁.setTop (mkF m 53 #[.val (.ref r0), .val (.int p1), .val (.int p2), .val (.int (1 : Int32)), .val (.int (0 : Int32))] [(.int (1 : Int32)), (.int (1 : Int32))])) t
              refine XS.iadd X0.here hx rfl (hb hby d3_53) rfl ?_
              exact k
            obtain ⟨fs, hr, hrun, hended, hW, hsame⟩ := X0.leave (v := some (.int (2 : Int32))) (fun h => by rw [Bd.returns] at h; cases h)
            refine ⟨_, _, retI X0 hx Bd.returns (hb hby d3_54) hr, hrun, hended, _, _, rfl, ?_, ⟨_, rfl⟩, hW, hsame.mono (by decide) (by decide)⟩
            have eh : (s₁.setFrames fs).heap = h0 := e0
            rw [eh]
            exact ⟨by rw [endF1, if_pos hc3_1, if_pos hc3_2, if_neg hc3_3, if_pos hc3_4], N0, rfl⟩
          · refine own_fw (A := s₁.setTop (mkF m 55 #[.val (.ref r0), .val (.int p1), .val (.int p2), .val (.int (1 : Int32)), .val (.int (0 : Int32))] [])) (fun t k => ?_) ?_
            · show Steps p.tables e below (s₁.setTop (mkF m 48 #[.val (.ref r0), .val (.int p1), .val (.int p2), .val (.int (1 : Int32)), .val (.int (0 : Int32))] [(.int (10 : Int32)), (.int v0)])) t
              refine XS.icmpYes X0.here hx rfl (pc0 := 48) (pc' := 55) rfl (hb hby d3_48) rfl (feq hc3_4).2 (by decide) (by decide) ?_
              exact k
            refine own_fw (A := s₁.setTop (mkF m 2 #[.val (.ref r0), .val (.int p1), .val (.int p2), .val (.int (2 : Int32)), .val (.int (0 : Int32))] [])) (fun t k => ?_) ?_
            · show Steps p.tables e below (s₁.setTop (mkF m 55 #[.val (.ref r0), .val (.int p1), .val (.int p2), .val (.int (1 : Int32)), .val (.int (0 : Int32))] [])) t
              refine XS.iinc X0.here hx rfl (hb hby d3_55) rfl (l' := #[.val (.ref r0), .val (.int p1), .val (.int p2), .val (.int (2 : Int32)), .val (.int (0 : Int32))]) rfl ?_
              show Steps p.tables e below (s₁.setTop (mkF m 58 #[.val (.ref r0), .val (.int p1), .val (.int p2), .val (.int (2 : Int32)), .val (.int (0 : Int32))] [])) t
              refine XS.goto X0.here hx rfl (pc0 := 58) (pc' := 2) rfl (hb hby d3_58) (by decide) (by decide) ?_
              exact k
            rw [show endF1 v0 v1 v2 v3 v4 v5 p2 = endF2 v0 v1 v2 v3 v4 v5 p2 by rw [endF1, if_pos hc3_1, if_pos hc3_2, if_neg hc3_3, if_neg hc3_4]]
            exact L2 _ (One.val rfl)
      · refine own_fw (A := s₁.setTop (mkF m 55 #[.val (.ref r0), .val (.int p1), .val (.int p2), .val (.int (1 : Int32)), s4] [])) (fun t k => ?_) ?_
        · show Steps p.tables e below (s₁.setTop (mkF m 12 #[.val (.ref r0), .val (.int p1), .val (.int p2), .val (.int (1 : Int32)), s4] [(.int (10 : Int32)), (.int v1)])) t
          refine XS.icmpYes X0.here hx rfl (pc0 := 12) (pc' := 55) rfl (hb hby d3_12) rfl (feq hc3_2).2 (by decide) (by decide) ?_
          exact k
        refine own_fw (A := s₁.setTop (mkF m 2 #[.val (.ref r0), .val (.int p1), .val (.int p2), .val (.int (2 : Int32)), s4] [])) (fun t k => ?_) ?_
        · show Steps p.tables e below (s₁.setTop (mkF m 55 #[.val (.ref r0), .val (.int p1), .val (.int p2), .val (.int (1 : Int32)), s4] [])) t
          refine XS.iinc X0.here hx rfl (hb hby d3_55) rfl (l' := #[.val (.ref r0), .val (.int p1), .val (.int p2), .val (.int (2 : Int32)), s4]) rfl ?_
          show Steps p.tables e below (s₁.setTop (mkF m 58 #[.val (.ref r0), .val (.int p1), .val (.int p2), .val (.int (2 : Int32)), s4] [])) t
          refine XS.goto X0.here hx rfl (pc0 := 58) (pc' := 2) rfl (hb hby d3_58) (by decide) (by decide) ?_
          exact k
        rw [show endF1 v0 v1 v2 v3 v4 v5 p2 = endF2 v0 v1 v2 v3 v4 v5 p2 by rw [endF1, if_pos hc3_1, if_neg hc3_2]]
        exact L2 _ hs4
    · refine own_fw (A := s₁.setTop (mkF m 61 #[.val (.ref r0), .val (.int p1), .val (.int p2), .val (.int (1 : Int32)), s4] [])) (fun t k => ?_) ?_
      · show Steps p.tables e below (s₁.setTop (mkF m 4 #[.val (.ref r0), .val (.int p1), .val (.int p2), .val (.int (1 : Int32)), s4] [(.int p2), (.int (1 : Int32))])) t
        refine XS.icmpYes X0.here hx rfl (pc0 := 4) (pc' := 61) rfl (hb hby d3_4) rfl (flt hc3_1).2.1 (by decide) (by decide) ?_
        exact k
      refine own_fw (A := s₁.setTop (mkF m 62 #[.val (.ref r0), .val (.int p1), .val (.int p2), .val (.int (1 : Int32)), s4] [(.int (-1 : Int32))])) (fun t k => ?_) ?_
      · show Steps p.tables e below (s₁.setTop (mkF m 61 #[.val (.ref r0), .val (.int p1), .val (.int p2), .val (.int (1 : Int32)), s4] [])) t
        refine XS.iconst X0.here hx rfl (hb hby d3_61) ?_
        exact k
      obtain ⟨fs, hr, hrun, hended, hW, hsame⟩ := X0.leave (v := some (.int (-1 : Int32))) (fun h => by rw [Bd.returns] at h; cases h)
      refine ⟨_, _, retI X0 hx Bd.returns (hb hby d3_62) hr, hrun, hended, _, _, rfl, ?_, ⟨_, rfl⟩, hW, hsame.mono (by decide) (by decide)⟩
      have eh : (s₁.setFrames fs).heap = h0 := e0
      rw [eh]
      exact ⟨by rw [endF1, if_neg hc3_1], N0, rfl⟩
  have L0 : ∀ s4 : Slot, One s4 → ∃ t o, Steps p.tables e below (s₁.setTop (mkF m 2 #[.val (.ref r0), .val (.int p1), .val (.int p2), .val (.int (0 : Int32)), s4] [])) t ∧ t.status = .running ∧ Ended t below o ∧ ∃ v L, o = .returned v ∧ Q3 Z (endF0 v0 v1 v2 v3 v4 v5 p2) h0 n0 v t.heap L ∧ FrameEnd s o t L ({ frames := 0, cells := 0, slots := 0, locals := 0 } : Room).cells ({ frames := 0, cells := 0, slots := 0, locals := 0 } : Room).slots := by
    intro s4 hs4
    refine own_fw (A := s₁.setTop (mkF m 3 #[.val (.ref r0), .val (.int p1), .val (.int p2), .val (.int (0 : Int32)), s4] [(.int (0 : Int32))])) (fun t k => ?_) ?_
    · show Steps p.tables e below (s₁.setTop (mkF m 2 #[.val (.ref r0), .val (.int p1), .val (.int p2), .val (.int (0 : Int32)), s4] [])) t
      refine XS.iloadN X0.here hx rfl (hb hby d3_2) rfl ?_
      exact k
    refine own_fw (A := s₁.setTop (mkF m 4 #[.val (.ref r0), .val (.int p1), .val (.int p2), .val (.int (0 : Int32)), s4] [(.int p2), (.int (0 : Int32))])) (fun t k => ?_) ?_
    · show Steps p.tables e below (s₁.setTop (mkF m 3 #[.val (.ref r0), .val (.int p1), .val (.int p2), .val (.int (0 : Int32)), s4] [(.int (0 : Int32))])) t
      refine XS.iloadN X0.here hx rfl (hb hby d3_3) rfl ?_
      exact k
    by_cases hc3_1 : (0 : Int32) < p2
    · refine own_fw (A := s₁.setTop (mkF m 7 #[.val (.ref r0), .val (.int p1), .val (.int p2), .val (.int (0 : Int32)), s4] [])) (fun t k => ?_) ?_
      · show Steps p.tables e below (s₁.setTop (mkF m 4 #[.val (.ref r0), .val (.int p1), .val (.int p2), .val (.int (0 : Int32)), s4] [(.int p2), (.int (0 : Int32))])) t
        refine XS.icmpNo X0.here hx rfl (hb hby d3_4) rfl (tlt hc3_1).2.1 ?_
        exact k
      refine own_fw (A := s₁.setTop (mkF m 9 #[.val (.ref r0), .val (.int p1), .val (.int p2), .val (.int (0 : Int32)), s4] [(.int (0 : Int32)), (.ref r0)])) (fun t k => ?_) ?_
      · show Steps p.tables e below (s₁.setTop (mkF m 7 #[.val (.ref r0), .val (.int p1), .val (.int p2), .val (.int (0 : Int32)), s4] [])) t
        refine XS.aloadN X0.here hx rfl (hb hby d3_7) rfl rfl ?_
        show Steps p.tables e below (s₁.setTop (mkF m 8 #[.val (.ref r0), .val (.int p1), .val (.int p2), .val (.int (0 : Int32)), s4] [(.ref r0)])) t
        refine XS.iloadN X0.here hx rfl (hb hby d3_8) rfl ?_
        exact k
      obtain ⟨cl3_1, Ar3_1, q3_1, S3_1, Ng3_1, Hs3_1, G3_1⟩ := id V_r0
      have hin3_1 : ¬ ((0 : Int32) < 0 ∨ cl3_1.slots.size ≤ ((0 : Int32)).toNatClampNeg) := inb_of S3_1 ⟨by decide, by decide⟩
      refine own_fw (X0.baloadBytes hx (j := (0 : Int32)) (v := (.int v0)) (by rw [e0]; exact Ar3_1.1) (State.isArrayOf_alike hZ.alike Ar3_1.2.1) Ar3_1.2.2 hin3_1 (Has.at Hs3_1 hin3_1 rfl) (g := (mkF m 9 #[.val (.ref r0), .val (.int p1), .val (.int p2), .val (.int (0 : Int32)), s4] [(.int (0 : Int32)), (.ref r0)])) rfl rfl (hb hby d3_9)) ?_
      refine own_fw (A := s₁.setTop (mkF m 12 #[.val (.ref r0), .val (.int p1), .val (.int p2), .val (.int (0 : Int32)), s4] [(.int (10 : Int32)), (.int v0)])) (fun t k => ?_) ?_
      · show Steps p.tables e below (s₁.setTop (mkF m 10 #[.val (.ref r0), .val (.int p1), .val (.int p2), .val (.int (0 : Int32)), s4] [(.int v0)])) t
        refine XS.bipush X0.here hx rfl (hb hby d3_10) ?_
        exact k
      by_cases hc3_2 : v0 = (10 : Int32)
      · refine own_fw (A := s₁.setTop (mkF m 15 #[.val (.ref r0), .val (.int p1), .val (.int p2), .val (.int (0 : Int32)), s4] [])) (fun t k => ?_) ?_
        · show Steps p.tables e below (s₁.setTop (mkF m 12 #[.val (.ref r0), .val (.int p1), .val (.int p2), .val (.int (0 : Int32)), s4] [(.int (10 : Int32)), (.int v0)])) t
          refine XS.icmpNo X0.here hx rfl (hb hby d3_12) rfl (teq hc3_2).2 ?_
          exact k
        refine own_fw (A := s₁.setTop (mkF m 54 #[.val (.ref r0), .val (.int p1), .val (.int p2), .val (.int (0 : Int32)), .val (.int (-1 : Int32))] [(.int (1 : Int32))])) (fun t k => ?_) ?_
        · show Steps p.tables e below (s₁.setTop (mkF m 15 #[.val (.ref r0), .val (.int p1), .val (.int p2), .val (.int (0 : Int32)), s4] [])) t
          refine XS.iloadN X0.here hx rfl (hb hby d3_15) rfl ?_
          show Steps p.tables e below (s₁.setTop (mkF m 16 #[.val (.ref r0), .val (.int p1), .val (.int p2), .val (.int (0 : Int32)), s4] [(.int (0 : Int32))])) t
          refine XS.iconst X0.here hx rfl (hb hby d3_16) ?_
          show Steps p.tables e below (s₁.setTop (mkF m 17 #[.val (.ref r0), .val (.int p1), .val (.int p2), .val (.int (0 : Int32)), s4] [(.int (1 : Int32)), (.int (0 : Int32))])) t
          refine XS.isub X0.here hx rfl (hb hby d3_17) rfl ?_
          show Steps p.tables e below (s₁.setTop (mkF m 18 #[.val (.ref r0), .val (.int p1), .val (.int p2), .val (.int (0 : Int32)), s4] [(.int (-1 : Int32))])) t
          refine XS.istore X0.here hx rfl (hb hby d3_18) rfl (l' := #[.val (.ref r0), .val (.int p1), .val (.int p2), .val (.int (0 : Int32)), .val (.int (-1 : Int32))]) (own_os hs4) ?_
          show Steps p.tables e below (s₁.setTop (mkF m 20 #[.val (.ref r0), .val (.int p1), .val (.int p2), .val (.int (0 : Int32)), .val (.int (-1 : Int32))] [])) t
          refine XS.iload X0.here hx rfl (hb hby d3_20) rfl ?_
          show Steps p.tables e below (s₁.setTop (mkF m 22 #[.val (.ref r0), .val (.int p1), .val (.int p2), .val (.int (0 : Int32)), .val (.int (-1 : Int32))] [(.int (-1 : Int32))])) t
          refine XS.ifYes X0.here hx rfl (pc0 := 22) (pc' := 37) rfl (hb hby d3_22) rfl ((if0 _ _).trans (tlt (by decide : ((-1 : Int32) < (0 : Int32)))).1) (by decide) (by decide) ?_
          show Steps p.tables e below (s₁.setTop (mkF m 37 #[.val (.ref r0), .val (.int p1), .val (.int p2), .val (.int (0 : Int32)), .val (.int (-1 : Int32))] [])) t
          refine XS.iload X0.here hx rfl (hb hby d3_37) rfl ?_
          show Steps p.tables e below (s₁.setTop (mkF m 39 #[.val (.ref r0), .val (.int p1), .val (.int p2), .val (.int (0 : Int32)), .val (.int (-1 : Int32))] [(.int (-1 : Int32))])) t
          refine XS.ifYes X0.here hx rfl (pc0 := 39) (pc' := 51) rfl (hb hby d3_39) rfl ((if0 _ _).trans (tlt (by decide : ((-1 : Int32) < (0 : Int32)))).1) (by decide) (by decide) ?_
          show Steps p.tables e below (s₁.setTop (mkF m 51 #[.val (.ref r0), .val (.int p1), .val (.int p2), .val (.int (0 : Int32)), .val (.int (-1 : Int32))] [])) t
          refine XS.iloadN X0.here hx rfl (hb hby d3_51) rfl ?_
          show Steps p.tables e below (s₁.setTop (mkF m 52 #[.val (.ref r0), .val (.int p1), .val (.int p2), .val (.int (0 : Int32)), .val (.int (-1 : Int32))] [(.int (0 : Int32))])) t
          refine XS.iconst X0.here hx rfl (hb hby d3_52) ?_
          show Steps p.tables e below (s₁.setTop (mkF m 53 #[.val (.ref r0), .val (.int p1), .val (.int p2), .val (.int (0 : Int32)), .val (.int (-1 : Int32))] [(.int (1 : Int32)), (.int (0 : Int32))])) t
          refine XS.iadd X0.here hx rfl (hb hby d3_53) rfl ?_
          exact k
        obtain ⟨fs, hr, hrun, hended, hW, hsame⟩ := X0.leave (v := some (.int (1 : Int32))) (fun h => by rw [Bd.returns] at h; cases h)
        refine ⟨_, _, retI X0 hx Bd.returns (hb hby d3_54) hr, hrun, hended, _, _, rfl, ?_, ⟨_, rfl⟩, hW, hsame.mono (by decide) (by decide)⟩
        have eh : (s₁.setFrames fs).heap = h0 := e0
        rw [eh]
        exact ⟨by rw [endF0, if_pos hc3_1, if_pos hc3_2], N0, rfl⟩
      · refine own_fw (A := s₁.setTop (mkF m 55 #[.val (.ref r0), .val (.int p1), .val (.int p2), .val (.int (0 : Int32)), s4] [])) (fun t k => ?_) ?_
        · show Steps p.tables e below (s₁.setTop (mkF m 12 #[.val (.ref r0), .val (.int p1), .val (.int p2), .val (.int (0 : Int32)), s4] [(.int (10 : Int32)), (.int v0)])) t
          refine XS.icmpYes X0.here hx rfl (pc0 := 12) (pc' := 55) rfl (hb hby d3_12) rfl (feq hc3_2).2 (by decide) (by decide) ?_
          exact k
        refine own_fw (A := s₁.setTop (mkF m 2 #[.val (.ref r0), .val (.int p1), .val (.int p2), .val (.int (1 : Int32)), s4] [])) (fun t k => ?_) ?_
        · show Steps p.tables e below (s₁.setTop (mkF m 55 #[.val (.ref r0), .val (.int p1), .val (.int p2), .val (.int (0 : Int32)), s4] [])) t
          refine XS.iinc X0.here hx rfl (hb hby d3_55) rfl (l' := #[.val (.ref r0), .val (.int p1), .val (.int p2), .val (.int (1 : Int32)), s4]) rfl ?_
          show Steps p.tables e below (s₁.setTop (mkF m 58 #[.val (.ref r0), .val (.int p1), .val (.int p2), .val (.int (1 : Int32)), s4] [])) t
          refine XS.goto X0.here hx rfl (pc0 := 58) (pc' := 2) rfl (hb hby d3_58) (by decide) (by decide) ?_
          exact k
        rw [show endF0 v0 v1 v2 v3 v4 v5 p2 = endF1 v0 v1 v2 v3 v4 v5 p2 by rw [endF0, if_pos hc3_1, if_neg hc3_2]]
        exact L1 _ hs4
    · refine own_fw (A := s₁.setTop (mkF m 61 #[.val (.ref r0), .val (.int p1), .val (.int p2), .val (.int (0 : Int32)), s4] [])) (fun t k => ?_) ?_
      · show Steps p.tables e below (s₁.setTop (mkF m 4 #[.val (.ref r0), .val (.int p1), .val (.int p2), .val (.int (0 : Int32)), s4] [(.int p2), (.int (0 : Int32))])) t
        refine XS.icmpYes X0.here hx rfl (pc0 := 4) (pc' := 61) rfl (hb hby d3_4) rfl (flt hc3_1).2.1 (by decide) (by decide) ?_
        exact k
      refine own_fw (A := s₁.setTop (mkF m 62 #[.val (.ref r0), .val (.int p1), .val (.int p2), .val (.int (0 : Int32)), s4] [(.int (-1 : Int32))])) (fun t k => ?_) ?_
      · show Steps p.tables e below (s₁.setTop (mkF m 61 #[.val (.ref r0), .val (.int p1), .val (.int p2), .val (.int (0 : Int32)), s4] [])) t
        refine XS.iconst X0.here hx rfl (hb hby d3_61) ?_
        exact k
      obtain ⟨fs, hr, hrun, hended, hW, hsame⟩ := X0.leave (v := some (.int (-1 : Int32))) (fun h => by rw [Bd.returns] at h; cases h)
      refine ⟨_, _, retI X0 hx Bd.returns (hb hby d3_62) hr, hrun, hended, _, _, rfl, ?_, ⟨_, rfl⟩, hW, hsame.mono (by decide) (by decide)⟩
      have eh : (s₁.setFrames fs).heap = h0 := e0
      rw [eh]
      exact ⟨by rw [endF0, if_neg hc3_1], N0, rfl⟩
  rcases hp1 with rfl | rfl | rfl | rfl | rfl | rfl | rfl
  · refine own_fw (A := s₁.setTop (mkF m 2 #[.val (.ref r0), .val (.int (0 : Int32)), .val (.int p2), .val (.int (0 : Int32)), .unset] [])) (fun t k => ?_) ?_
    · show Steps p.tables e below (s₁.setTop (mkF m 0 #[.val (.ref r0), .val (.int (0 : Int32)), .val (.int p2), .unset, .unset] [])) t
      refine XS.iloadN X0.here hx rfl (hb hby d3_0) rfl ?_
      show Steps p.tables e below (s₁.setTop (mkF m 1 #[.val (.ref r0), .val (.int (0 : Int32)), .val (.int p2), .unset, .unset] [(.int (0 : Int32))])) t
      refine XS.istoreN X0.here hx rfl (hb hby d3_1) rfl (l' := #[.val (.ref r0), .val (.int (0 : Int32)), .val (.int p2), .val (.int (0 : Int32)), .unset]) rfl ?_
      exact k
    rw [show endV v0 v1 v2 v3 v4 v5 (0 : Int32) p2 = endF0 v0 v1 v2 v3 v4 v5 p2 by rw [endV, if_pos rfl]]
    exact L0 _ One.u
  · refine own_fw (A := s₁.setTop (mkF m 2 #[.val (.ref r0), .val (.int (1 : Int32)), .val (.int p2), .val (.int (1 : Int32)), .unset] [])) (fun t k => ?_) ?_
    · show Steps p.tables e below (s₁.setTop (mkF m 0 #[.val (.ref r0), .val (.int (1 : Int32)), .val (.int p2), .unset, .unset] [])) t
      refine XS.iloadN X0.here hx rfl (hb hby d3_0) rfl ?_
      show Steps p.tables e below (s₁.setTop (mkF m 1 #[.val (.ref r0), .val (.int (1 : Int32)), .val (.int p2), .unset, .unset] [(.int (1 : Int32))])) t
      refine XS.istoreN X0.here hx rfl (hb hby d3_1) rfl (l' := #[.val (.ref r0), .val (.int (1 : Int32)), .val (.int p2), .val (.int (1 : Int32)), .unset]) rfl ?_
      exact k
    rw [show endV v0 v1 v2 v3 v4 v5 (1 : Int32) p2 = endF1 v0 v1 v2 v3 v4 v5 p2 by rw [endV, if_neg (by decide), if_pos rfl]]
    exact L1 _ One.u
  · refine own_fw (A := s₁.setTop (mkF m 2 #[.val (.ref r0), .val (.int (2 : Int32)), .val (.int p2), .val (.int (2 : Int32)), .unset] [])) (fun t k => ?_) ?_
    · show Steps p.tables e below (s₁.setTop (mkF m 0 #[.val (.ref r0), .val (.int (2 : Int32)), .val (.int p2), .unset, .unset] [])) t
      refine XS.iloadN X0.here hx rfl (hb hby d3_0) rfl ?_
      show Steps p.tables e below (s₁.setTop (mkF m 1 #[.val (.ref r0), .val (.int (2 : Int32)), .val (.int p2), .unset, .unset] [(.int (2 : Int32))])) t
      refine XS.istoreN X0.here hx rfl (hb hby d3_1) rfl (l' := #[.val (.ref r0), .val (.int (2 : Int32)), .val (.int p2), .val (.int (2 : Int32)), .unset]) rfl ?_
      exact k
    rw [show endV v0 v1 v2 v3 v4 v5 (2 : Int32) p2 = endF2 v0 v1 v2 v3 v4 v5 p2 by rw [endV, if_neg (by decide), if_neg (by decide), if_pos rfl]]
    exact L2 _ One.u
  · refine own_fw (A := s₁.setTop (mkF m 2 #[.val (.ref r0), .val (.int (3 : Int32)), .val (.int p2), .val (.int (3 : Int32)), .unset] [])) (fun t k => ?_) ?_
    · show Steps p.tables e below (s₁.setTop (mkF m 0 #[.val (.ref r0), .val (.int (3 : Int32)), .val (.int p2), .unset, .unset] [])) t
      refine XS.iloadN X0.here hx rfl (hb hby d3_0) rfl ?_
      show Steps p.tables e below (s₁.setTop (mkF m 1 #[.val (.ref r0), .val (.int (3 : Int32)), .val (.int p2), .unset, .unset] [(.int (3 : Int32))])) t
      refine XS.istoreN X0.here hx rfl (hb hby d3_1) rfl (l' := #[.val (.ref r0), .val (.int (3 : Int32)), .val (.int p2), .val (.int (3 : Int32)), .unset]) rfl ?_
      exact k
    rw [show endV v0 v1 v2 v3 v4 v5 (3 : Int32) p2 = endF3 v0 v1 v2 v3 v4 v5 p2 by rw [endV, if_neg (by decide), if_neg (by decide), if_neg (by decide), if_pos rfl]]
    exact L3 _ One.u
  · refine own_fw (A := s₁.setTop (mkF m 2 #[.val (.ref r0), .val (.int (4 : Int32)), .val (.int p2), .val (.int (4 : Int32)), .unset] [])) (fun t k => ?_) ?_
    · show Steps p.tables e below (s₁.setTop (mkF m 0 #[.val (.ref r0), .val (.int (4 : Int32)), .val (.int p2), .unset, .unset] [])) t
      refine XS.iloadN X0.here hx rfl (hb hby d3_0) rfl ?_
      show Steps p.tables e below (s₁.setTop (mkF m 1 #[.val (.ref r0), .val (.int (4 : Int32)), .val (.int p2), .unset, .unset] [(.int (4 : Int32))])) t
      refine XS.istoreN X0.here hx rfl (hb hby d3_1) rfl (l' := #[.val (.ref r0), .val (.int (4 : Int32)), .val (.int p2), .val (.int (4 : Int32)), .unset]) rfl ?_
      exact k
    rw [show endV v0 v1 v2 v3 v4 v5 (4 : Int32) p2 = endF4 v0 v1 v2 v3 v4 v5 p2 by rw [endV, if_neg (by decide), if_neg (by decide), if_neg (by decide), if_neg (by decide), if_pos rfl]]
    exact L4 _ One.u
  · refine own_fw (A := s₁.setTop (mkF m 2 #[.val (.ref r0), .val (.int (5 : Int32)), .val (.int p2), .val (.int (5 : Int32)), .unset] [])) (fun t k => ?_) ?_
    · show Steps p.tables e below (s₁.setTop (mkF m 0 #[.val (.ref r0), .val (.int (5 : Int32)), .val (.int p2), .unset, .unset] [])) t
      refine XS.iloadN X0.here hx rfl (hb hby d3_0) rfl ?_
      show Steps p.tables e below (s₁.setTop (mkF m 1 #[.val (.ref r0), .val (.int (5 : Int32)), .val (.int p2), .unset, .unset] [(.int (5 : Int32))])) t
      refine XS.istoreN X0.here hx rfl (hb hby d3_1) rfl (l' := #[.val (.ref r0), .val (.int (5 : Int32)), .val (.int p2), .val (.int (5 : Int32)), .unset]) rfl ?_
      exact k
    rw [show endV v0 v1 v2 v3 v4 v5 (5 : Int32) p2 = endF5 v0 v1 v2 v3 v4 v5 p2 by rw [endV, if_neg (by decide), if_neg (by decide), if_neg (by decide), if_neg (by decide), if_neg (by decide), if_pos rfl]]
    exact L5 _ One.u
  · refine own_fw (A := s₁.setTop (mkF m 2 #[.val (.ref r0), .val (.int (6 : Int32)), .val (.int p2), .val (.int (6 : Int32)), .unset] [])) (fun t k => ?_) ?_
    · show Steps p.tables e below (s₁.setTop (mkF m 0 #[.val (.ref r0), .val (.int (6 : Int32)), .val (.int p2), .unset, .unset] [])) t
      refine XS.iloadN X0.here hx rfl (hb hby d3_0) rfl ?_
      show Steps p.tables e below (s₁.setTop (mkF m 1 #[.val (.ref r0), .val (.int (6 : Int32)), .val (.int p2), .unset, .unset] [(.int (6 : Int32))])) t
      refine XS.istoreN X0.here hx rfl (hb hby d3_1) rfl (l' := #[.val (.ref r0), .val (.int (6 : Int32)), .val (.int p2), .val (.int (6 : Int32)), .unset]) rfl ?_
      exact k
    rw [show endV v0 v1 v2 v3 v4 v5 (6 : Int32) p2 = endF6 v0 v1 v2 v3 v4 v5 p2 by rw [endV, if_neg (by decide), if_neg (by decide), if_neg (by decide), if_neg (by decide), if_neg (by decide), if_neg (by decide)]]
    exact L6 _ One.u
theorem own_k7 (k : Int32) : own_irem (k &&& (2147483647 : Int32)) (7 : Int32) = (0 : Int32) ∨ own_irem (k &&& (2147483647 : Int32)) (7 : Int32) = (1 : Int32) ∨ own_irem (k &&& (2147483647 : Int32)) (7 : Int32) = (2 : Int32) ∨ own_irem (k &&& (2147483647 : Int32)) (7 : Int32) = (3 : Int32) ∨ own_irem (k &&& (2147483647 : Int32)) (7 : Int32) = (4 : Int32) ∨ own_irem (k &&& (2147483647 : Int32)) (7 : Int32) = (5 : Int32) ∨ own_irem (k &&& (2147483647 : Int32)) (7 : Int32) = (6 : Int32) := by
  have h1 := c_and k 2147483647 (by decide)
  have h2 := (c_irem (k &&& 2147483647) 7 7 rfl).1 h1.1
  rw [← Jvm.irem_eq_mod] at h2
  change (own_irem (k &&& (2147483647 : Int32)) (7 : Int32)).toInt = _ at h2
  simp only [← Int32.toInt_inj, Int32.reduceToInt]
  omega
theorem own_q6 (k : Int32) : ¬ ((6 : Int32) < own_irem (k &&& (2147483647 : Int32)) (7 : Int32)) := by
  rcases own_k7 k with h | h | h | h | h | h | h <;> rw [h] <;> decide
def gEnd6 (q : Int32) : Int32 := (-1 : Int32)
def gEnd5 (a5 : Int32) (q : Int32) : Int32 := if (5 : Int32) < q then (if a5 = (0 : Int32) then gEnd6  q else (6 : Int32)) else (-1 : Int32)
def gEnd4 (a4 : Int32) (a5 : Int32) (q : Int32) : Int32 := if (4 : Int32) < q then (if a4 = (0 : Int32) then gEnd5 a5 q else (5 : Int32)) else (-1 : Int32)
def gEnd3 (a3 : Int32) (a4 : Int32) (a5 : Int32) (q : Int32) : Int32 := if (3 : Int32) < q then (if a3 = (0 : Int32) then gEnd4 a4 a5 q else (4 : Int32)) else (-1 : Int32)
def gEnd2 (a2 : Int32) (a3 : Int32) (a4 : Int32) (a5 : Int32) (q : Int32) : Int32 := if (2 : Int32) < q then (if a2 = (0 : Int32) then gEnd3 a3 a4 a5 q else (3 : Int32)) else (-1 : Int32)
def gEnd1 (a1 : Int32) (a2 : Int32) (a3 : Int32) (a4 : Int32) (a5 : Int32) (q : Int32) : Int32 := if (1 : Int32) < q then (if a1 = (0 : Int32) then gEnd2 a2 a3 a4 a5 q else (2 : Int32)) else (-1 : Int32)
def gEnd0 (a0 : Int32) (a1 : Int32) (a2 : Int32) (a3 : Int32) (a4 : Int32) (a5 : Int32) (q : Int32) : Int32 := if (0 : Int32) < q then (if a0 = (0 : Int32) then gEnd1 a1 a2 a3 a4 a5 q else (1 : Int32)) else (-1 : Int32)
def gHit0 (a f q : Int32) : Int32 := if (0 : Int32) < f then (nar .boolean (0 : Int32)) else (if (0 : Int32) < q then (if a = (0 : Int32) then (nar .boolean (0 : Int32)) else (nar .boolean (1 : Int32))) else (nar .boolean (0 : Int32)))
def gHit1 (a f q : Int32) : Int32 := if (1 : Int32) < f then (nar .boolean (0 : Int32)) else (if (1 : Int32) < q then (if a = (0 : Int32) then (nar .boolean (0 : Int32)) else (nar .boolean (1 : Int32))) else (nar .boolean (0 : Int32)))
def gHit2 (a f q : Int32) : Int32 := if (2 : Int32) < f then (nar .boolean (0 : Int32)) else (if (2 : Int32) < q then (if a = (0 : Int32) then (nar .boolean (0 : Int32)) else (nar .boolean (1 : Int32))) else (nar .boolean (0 : Int32)))
def gHit3 (a f q : Int32) : Int32 := if (3 : Int32) < f then (nar .boolean (0 : Int32)) else (if (3 : Int32) < q then (if a = (0 : Int32) then (nar .boolean (0 : Int32)) else (nar .boolean (1 : Int32))) else (nar .boolean (0 : Int32)))
def gHit4 (a f q : Int32) : Int32 := if (4 : Int32) < f then (nar .boolean (0 : Int32)) else (if (4 : Int32) < q then (if a = (0 : Int32) then (nar .boolean (0 : Int32)) else (nar .boolean (1 : Int32))) else (nar .boolean (0 : Int32)))
def gHit5 (a f q : Int32) : Int32 := if (5 : Int32) < f then (nar .boolean (0 : Int32)) else (if (5 : Int32) < q then (if a = (0 : Int32) then (nar .boolean (0 : Int32)) else (nar .boolean (1 : Int32))) else (nar .boolean (0 : Int32)))
def gEndV (a0 a1 a2 a3 a4 a5 f q : Int32) : Int32 := if f = (0 : Int32) then gEnd0 a0 a1 a2 a3 a4 a5 q else if f = (1 : Int32) then gEnd1 a1 a2 a3 a4 a5 q else if f = (2 : Int32) then gEnd2 a2 a3 a4 a5 q else if f = (3 : Int32) then gEnd3 a3 a4 a5 q else if f = (4 : Int32) then gEnd4 a4 a5 q else if f = (5 : Int32) then gEnd5 a5 q else gEnd6 q
def gExp (a0 a1 a2 a3 a4 a5 f q : Int32) : Int32 := if gHit0 a0 f q = (0 : Int32) then if gHit1 a1 f q = (0 : Int32) then if gHit2 a2 f q = (0 : Int32) then if gHit3 a3 f q = (0 : Int32) then if gHit4 a4 f q = (0 : Int32) then if gHit5 a5 f q = (0 : Int32) then (-1 : Int32) else (6 : Int32) else (5 : Int32) else (4 : Int32) else (3 : Int32) else (2 : Int32) else (1 : Int32)
def own_b (b : Bool) : Int32 := if b then 1 else 0
set_option maxRecDepth 65536 in
theorem own_fin0 : ∀ (f q : Fin 7) (b0 b1 b2 b3 b4 b5 : Bool), gEndV (own_b b0) (own_b b1) (own_b b2) (own_b b3) (own_b b4) (own_b b5) (Int32.ofNat f.val) (Int32.ofNat q.val) = gExp (own_b b0) (own_b b1) (own_b b2) (own_b b3) (own_b b4) (own_b b5) (Int32.ofNat f.val) (Int32.ofNat q.val) := by decide +kernel
theorem own_f7 (f : Int32) (h : f = (0 : Int32) ∨ f = (1 : Int32) ∨ f = (2 : Int32) ∨ f = (3 : Int32) ∨ f = (4 : Int32) ∨ f = (5 : Int32) ∨ f = (6 : Int32)) : ∃ n : Fin 7, f = Int32.ofNat n.val := by
  rcases h with rfl | rfl | rfl | rfl | rfl | rfl | rfl
  · exact ⟨0, rfl⟩
  · exact ⟨1, rfl⟩
  · exact ⟨2, rfl⟩
  · exact ⟨3, rfl⟩
  · exact ⟨4, rfl⟩
  · exact ⟨5, rfl⟩
  · exact ⟨6, rfl⟩
theorem own_fin1 (a0 a1 a2 a3 a4 a5 f q : Int32) (hf : f = (0 : Int32) ∨ f = (1 : Int32) ∨ f = (2 : Int32) ∨ f = (3 : Int32) ∨ f = (4 : Int32) ∨ f = (5 : Int32) ∨ f = (6 : Int32)) (hq : q = (0 : Int32) ∨ q = (1 : Int32) ∨ q = (2 : Int32) ∨ q = (3 : Int32) ∨ q = (4 : Int32) ∨ q = (5 : Int32) ∨ q = (6 : Int32)) (h0 : a0 = 0 ∨ a0 = 1) (h1 : a1 = 0 ∨ a1 = 1) (h2 : a2 = 0 ∨ a2 = 1) (h3 : a3 = 0 ∨ a3 = 1) (h4 : a4 = 0 ∨ a4 = 1) (h5 : a5 = 0 ∨ a5 = 1) : gEndV a0 a1 a2 a3 a4 a5 f q = gExp a0 a1 a2 a3 a4 a5 f q := by
  obtain ⟨f, rfl⟩ := own_f7 f hf
  obtain ⟨q, rfl⟩ := own_f7 q hq
  obtain ⟨b0, rfl⟩ : ∃ b, a0 = own_b b := h0.elim (fun e => ⟨false, e⟩) (fun e => ⟨true, e⟩)
  obtain ⟨b1, rfl⟩ : ∃ b, a1 = own_b b := h1.elim (fun e => ⟨false, e⟩) (fun e => ⟨true, e⟩)
  obtain ⟨b2, rfl⟩ : ∃ b, a2 = own_b b := h2.elim (fun e => ⟨false, e⟩) (fun e => ⟨true, e⟩)
  obtain ⟨b3, rfl⟩ : ∃ b, a3 = own_b b := h3.elim (fun e => ⟨false, e⟩) (fun e => ⟨true, e⟩)
  obtain ⟨b4, rfl⟩ : ∃ b, a4 = own_b b := h4.elim (fun e => ⟨false, e⟩) (fun e => ⟨true, e⟩)
  obtain ⟨b5, rfl⟩ : ∃ b, a5 = own_b b := h5.elim (fun e => ⟨false, e⟩) (fun e => ⟨true, e⟩)
  exact own_fin0 f q b0 b1 b2 b3 b4 b5
theorem own_e0 (v0 : Int32) (v1 : Int32) (v2 : Int32) (v3 : Int32) (v4 : Int32) (v5 : Int32) : eF0 v0 v1 v2 v3 v4 v5 = 0 ∨ eF0 v0 v1 v2 v3 v4 v5 = 1 := by
  rw [eF0]
  repeat' split
  all_goals first | exact Or.inl rfl | exact Or.inr rfl
theorem own_s0 (v0 : Int32) (v1 : Int32) (v2 : Int32) (v3 : Int32) (v4 : Int32) (v5 : Int32) (q : Int32) : endF0 v0 v1 v2 v3 v4 v5 q = if (0 : Int32) < q then (if eF0 v0 v1 v2 v3 v4 v5 = (0 : Int32) then endF1 v0 v1 v2 v3 v4 v5 q else (1 : Int32)) else (-1 : Int32) := by
  rw [endF0, eF0]
  repeat' split
  all_goals first | rfl | (exfalso; simp_all; done) | (simp_all [nar]; done)
theorem own_e1 (v0 : Int32) (v1 : Int32) (v2 : Int32) (v3 : Int32) (v4 : Int32) (v5 : Int32) : eF1 v0 v1 v2 v3 v4 v5 = 0 ∨ eF1 v0 v1 v2 v3 v4 v5 = 1 := by
  rw [eF1]
  repeat' split
  all_goals first | exact Or.inl rfl | exact Or.inr rfl
theorem own_s1 (v0 : Int32) (v1 : Int32) (v2 : Int32) (v3 : Int32) (v4 : Int32) (v5 : Int32) (q : Int32) : endF1 v0 v1 v2 v3 v4 v5 q = if (1 : Int32) < q then (if eF1 v0 v1 v2 v3 v4 v5 = (0 : Int32) then endF2 v0 v1 v2 v3 v4 v5 q else (2 : Int32)) else (-1 : Int32) := by
  rw [endF1, eF1]
  repeat' split
  all_goals first | rfl | (exfalso; simp_all; done) | (simp_all [nar]; done)
theorem own_e2 (v0 : Int32) (v1 : Int32) (v2 : Int32) (v3 : Int32) (v4 : Int32) (v5 : Int32) : eF2 v0 v1 v2 v3 v4 v5 = 0 ∨ eF2 v0 v1 v2 v3 v4 v5 = 1 := by
  rw [eF2]
  repeat' split
  all_goals first | exact Or.inl rfl | exact Or.inr rfl
theorem own_s2 (v0 : Int32) (v1 : Int32) (v2 : Int32) (v3 : Int32) (v4 : Int32) (v5 : Int32) (q : Int32) : endF2 v0 v1 v2 v3 v4 v5 q = if (2 : Int32) < q then (if eF2 v0 v1 v2 v3 v4 v5 = (0 : Int32) then endF3 v0 v1 v2 v3 v4 v5 q else (3 : Int32)) else (-1 : Int32) := by
  rw [endF2, eF2]
  repeat' split
  all_goals first | rfl | (exfalso; simp_all; done) | (simp_all [nar]; done)
theorem own_e3 (v0 : Int32) (v1 : Int32) (v2 : Int32) (v3 : Int32) (v4 : Int32) (v5 : Int32) : eF3 v0 v1 v2 v3 v4 v5 = 0 ∨ eF3 v0 v1 v2 v3 v4 v5 = 1 := by
  rw [eF3]
  repeat' split
  all_goals first | exact Or.inl rfl | exact Or.inr rfl
theorem own_s3 (v0 : Int32) (v1 : Int32) (v2 : Int32) (v3 : Int32) (v4 : Int32) (v5 : Int32) (q : Int32) : endF3 v0 v1 v2 v3 v4 v5 q = if (3 : Int32) < q then (if eF3 v0 v1 v2 v3 v4 v5 = (0 : Int32) then endF4 v0 v1 v2 v3 v4 v5 q else (4 : Int32)) else (-1 : Int32) := by
  rw [endF3, eF3]
  repeat' split
  all_goals first | rfl | (exfalso; simp_all; done) | (simp_all [nar]; done)
theorem own_e4 (v0 : Int32) (v1 : Int32) (v2 : Int32) (v3 : Int32) (v4 : Int32) (v5 : Int32) : eF4 v0 v1 v2 v3 v4 v5 = 0 ∨ eF4 v0 v1 v2 v3 v4 v5 = 1 := by
  rw [eF4]
  repeat' split
  all_goals first | exact Or.inl rfl | exact Or.inr rfl
theorem own_s4 (v0 : Int32) (v1 : Int32) (v2 : Int32) (v3 : Int32) (v4 : Int32) (v5 : Int32) (q : Int32) : endF4 v0 v1 v2 v3 v4 v5 q = if (4 : Int32) < q then (if eF4 v0 v1 v2 v3 v4 v5 = (0 : Int32) then endF5 v0 v1 v2 v3 v4 v5 q else (5 : Int32)) else (-1 : Int32) := by
  rw [endF4, eF4]
  repeat' split
  all_goals first | rfl | (exfalso; simp_all; done) | (simp_all [nar]; done)
theorem own_e5 (v0 : Int32) (v1 : Int32) (v2 : Int32) (v3 : Int32) (v4 : Int32) (v5 : Int32) : eF5 v0 v1 v2 v3 v4 v5 = 0 ∨ eF5 v0 v1 v2 v3 v4 v5 = 1 := by
  rw [eF5]
  repeat' split
  all_goals first | exact Or.inl rfl | exact Or.inr rfl
theorem own_s5 (v0 : Int32) (v1 : Int32) (v2 : Int32) (v3 : Int32) (v4 : Int32) (v5 : Int32) (q : Int32) : endF5 v0 v1 v2 v3 v4 v5 q = if (5 : Int32) < q then (if eF5 v0 v1 v2 v3 v4 v5 = (0 : Int32) then endF6 v0 v1 v2 v3 v4 v5 q else (6 : Int32)) else (-1 : Int32) := by
  rw [endF5, eF5]
  repeat' split
  all_goals first | rfl | (exfalso; simp_all; done) | (simp_all [nar]; done)
theorem own_g6 (v0 : Int32) (v1 : Int32) (v2 : Int32) (v3 : Int32) (v4 : Int32) (v5 : Int32) (q : Int32) : endF6 v0 v1 v2 v3 v4 v5 q = gEnd6 q := rfl
theorem own_g5 (v0 : Int32) (v1 : Int32) (v2 : Int32) (v3 : Int32) (v4 : Int32) (v5 : Int32) (q : Int32) : endF5 v0 v1 v2 v3 v4 v5 q = gEnd5 (eF5 v0 v1 v2 v3 v4 v5) q := by rw [own_s5, gEnd5, own_g6]
theorem own_g4 (v0 : Int32) (v1 : Int32) (v2 : Int32) (v3 : Int32) (v4 : Int32) (v5 : Int32) (q : Int32) : endF4 v0 v1 v2 v3 v4 v5 q = gEnd4 (eF4 v0 v1 v2 v3 v4 v5) (eF5 v0 v1 v2 v3 v4 v5) q := by rw [own_s4, gEnd4, own_g5]
theorem own_g3 (v0 : Int32) (v1 : Int32) (v2 : Int32) (v3 : Int32) (v4 : Int32) (v5 : Int32) (q : Int32) : endF3 v0 v1 v2 v3 v4 v5 q = gEnd3 (eF3 v0 v1 v2 v3 v4 v5) (eF4 v0 v1 v2 v3 v4 v5) (eF5 v0 v1 v2 v3 v4 v5) q := by rw [own_s3, gEnd3, own_g4]
theorem own_g2 (v0 : Int32) (v1 : Int32) (v2 : Int32) (v3 : Int32) (v4 : Int32) (v5 : Int32) (q : Int32) : endF2 v0 v1 v2 v3 v4 v5 q = gEnd2 (eF2 v0 v1 v2 v3 v4 v5) (eF3 v0 v1 v2 v3 v4 v5) (eF4 v0 v1 v2 v3 v4 v5) (eF5 v0 v1 v2 v3 v4 v5) q := by rw [own_s2, gEnd2, own_g3]
theorem own_g1 (v0 : Int32) (v1 : Int32) (v2 : Int32) (v3 : Int32) (v4 : Int32) (v5 : Int32) (q : Int32) : endF1 v0 v1 v2 v3 v4 v5 q = gEnd1 (eF1 v0 v1 v2 v3 v4 v5) (eF2 v0 v1 v2 v3 v4 v5) (eF3 v0 v1 v2 v3 v4 v5) (eF4 v0 v1 v2 v3 v4 v5) (eF5 v0 v1 v2 v3 v4 v5) q := by rw [own_s1, gEnd1, own_g2]
theorem own_g0 (v0 : Int32) (v1 : Int32) (v2 : Int32) (v3 : Int32) (v4 : Int32) (v5 : Int32) (q : Int32) : endF0 v0 v1 v2 v3 v4 v5 q = gEnd0 (eF0 v0 v1 v2 v3 v4 v5) (eF1 v0 v1 v2 v3 v4 v5) (eF2 v0 v1 v2 v3 v4 v5) (eF3 v0 v1 v2 v3 v4 v5) (eF4 v0 v1 v2 v3 v4 v5) (eF5 v0 v1 v2 v3 v4 v5) q := by rw [own_s0, gEnd0, own_g1]
theorem own_h0 (v0 : Int32) (v1 : Int32) (v2 : Int32) (v3 : Int32) (v4 : Int32) (v5 : Int32) (f q : Int32) : hF0 v0 v1 v2 v3 v4 v5 f q = gHit0 (eF0 v0 v1 v2 v3 v4 v5) f q := by rw [hF0, gHit0]
theorem own_h1 (v0 : Int32) (v1 : Int32) (v2 : Int32) (v3 : Int32) (v4 : Int32) (v5 : Int32) (f q : Int32) : hF1 v0 v1 v2 v3 v4 v5 f q = gHit1 (eF1 v0 v1 v2 v3 v4 v5) f q := by rw [hF1, gHit1]
theorem own_h2 (v0 : Int32) (v1 : Int32) (v2 : Int32) (v3 : Int32) (v4 : Int32) (v5 : Int32) (f q : Int32) : hF2 v0 v1 v2 v3 v4 v5 f q = gHit2 (eF2 v0 v1 v2 v3 v4 v5) f q := by rw [hF2, gHit2]
theorem own_h3 (v0 : Int32) (v1 : Int32) (v2 : Int32) (v3 : Int32) (v4 : Int32) (v5 : Int32) (f q : Int32) : hF3 v0 v1 v2 v3 v4 v5 f q = gHit3 (eF3 v0 v1 v2 v3 v4 v5) f q := by rw [hF3, gHit3]
theorem own_h4 (v0 : Int32) (v1 : Int32) (v2 : Int32) (v3 : Int32) (v4 : Int32) (v5 : Int32) (f q : Int32) : hF4 v0 v1 v2 v3 v4 v5 f q = gHit4 (eF4 v0 v1 v2 v3 v4 v5) f q := by rw [hF4, gHit4]
theorem own_h5 (v0 : Int32) (v1 : Int32) (v2 : Int32) (v3 : Int32) (v4 : Int32) (v5 : Int32) (f q : Int32) : hF5 v0 v1 v2 v3 v4 v5 f q = gHit5 (eF5 v0 v1 v2 v3 v4 v5) f q := by rw [hF5, gHit5]
theorem own_fin (v0 : Int32) (v1 : Int32) (v2 : Int32) (v3 : Int32) (v4 : Int32) (v5 : Int32) (f q : Int32) (hf : f = (0 : Int32) ∨ f = (1 : Int32) ∨ f = (2 : Int32) ∨ f = (3 : Int32) ∨ f = (4 : Int32) ∨ f = (5 : Int32) ∨ f = (6 : Int32)) (hq : q = (0 : Int32) ∨ q = (1 : Int32) ∨ q = (2 : Int32) ∨ q = (3 : Int32) ∨ q = (4 : Int32) ∨ q = (5 : Int32) ∨ q = (6 : Int32)) : endV v0 v1 v2 v3 v4 v5 f q = if hF0 v0 v1 v2 v3 v4 v5 f q = (0 : Int32) then if hF1 v0 v1 v2 v3 v4 v5 f q = (0 : Int32) then if hF2 v0 v1 v2 v3 v4 v5 f q = (0 : Int32) then if hF3 v0 v1 v2 v3 v4 v5 f q = (0 : Int32) then if hF4 v0 v1 v2 v3 v4 v5 f q = (0 : Int32) then if hF5 v0 v1 v2 v3 v4 v5 f q = (0 : Int32) then (-1 : Int32) else (6 : Int32) else (5 : Int32) else (4 : Int32) else (3 : Int32) else (2 : Int32) else (1 : Int32) := by
  have h := own_fin1 (eF0 v0 v1 v2 v3 v4 v5) (eF1 v0 v1 v2 v3 v4 v5) (eF2 v0 v1 v2 v3 v4 v5) (eF3 v0 v1 v2 v3 v4 v5) (eF4 v0 v1 v2 v3 v4 v5) (eF5 v0 v1 v2 v3 v4 v5) f q hf hq (own_e0 v0 v1 v2 v3 v4 v5) (own_e1 v0 v1 v2 v3 v4 v5) (own_e2 v0 v1 v2 v3 v4 v5) (own_e3 v0 v1 v2 v3 v4 v5) (own_e4 v0 v1 v2 v3 v4 v5) (own_e5 v0 v1 v2 v3 v4 v5)
  rw [endV, own_g0, own_g1, own_g2, own_g3, own_g4, own_g5, own_g6]
  rw [gEndV, gExp] at h
  rw [h, own_h0, own_h1, own_h2, own_h3, own_h4, own_h5]
theorem pn0 : plainName "com/example/finalmark/finalmark/RequestHeadEndPinLaw" = true := by first | (simp [plainName, overriddenIn]; done) | decide +kernel
theorem pd0_0 : parseMethodDescriptor "(IJI)B" = some ⟨[.int, .long, .int], some .byte⟩ := by decide +kernel
theorem pd0_1 : parseMethodDescriptor "([BIII)Z" = some ⟨[(.array .byte), .int, .int, .int], some .boolean⟩ := by decide +kernel
theorem pd0_2 : parseMethodDescriptor "([BII)I" = some ⟨[(.array .byte), .int, .int], some .int⟩ := by decide +kernel
theorem ef0 (m : MethodId) (p0 : Int32) (q1 : Int64) (p2 : Int32) (p3 : Int32) : entryFrame m #[(.int p0), (.long q1), (.int p2), (.int p3)] maxLocals = mkF m 0 #[.val (.int p0), .val (.long q1), .second, .val (.int p2), .val (.int p3), .unset, .unset, .unset, .unset] [] := by first | (simp [entryFrame, mkF, argsToLocals, Value.category, maxLocals]; done) | rfl
def Q0 (Z : State) (p0 : Int32) (q1 : Int64) (p2 p3 : Int32) (h0 : Heap) (n0 : Nat) (v : Option Value) (h : Heap) (L : List Loc) : Prop := v = some (.int 1) ∧ Fr n0 L
set_option maxRecDepth 65536 in
set_option maxHeartbeats 40000000 in
theorem rm0 (l : Launch) (Z : State) (a0 : Array Value) (hw : ∀ d ∈ tables_1, d.before a0 Z = true) (ws : List Jvm.Cond) (p0 : Int32) (q1 : Int64) (p2 : Int32) (p3 : Int32) (h0 : Heap) (n0 : Nat) (Z0 : n0 ≤ h0.size) :
    MetFree l x (head1 (Jvm.Cond.code x code maxLocals ret :: ws) room_1) (fun a U => a = #[(.int p0), (.long q1), (.int p2), (.int p3)] ∧ Z.Warmed39 U.vm ∧ U.heap = h0) (fun _ _ _ _ _ => True) (fun _ U o U' => ∃ v L, o = .returned v ∧ Q0 Z p0 q1 p2 p3 h0 n0 v U'.heap L ∧ FrameEnd U o U' L room_1.cells room_1.slots) := by
  refine MetFree.of_bodySF (plainFor_of_name pn0) hisR ?_
  intro p e s m args below meth c s₁ Bd hml0 hP hK
  obtain ⟨rfl, hZ, hh⟩ := hP
  have hx := Bd.exec
  have hby := Bd.bytes
  have hml : c.maxLocals = 9 := hml0
  have hown : s.vm.findClass "com/example/finalmark/finalmark/RequestHeadEndPinLaw" = some m.cls := findClass_of_methodNamed Bd.named
  have hnm := (name_of_methodNamed Bd.named Bd.method).1
  have X0 : Stand p l e room_1 s m #[(.int p0), (.long q1), (.int p2), (.int p3)] below meth c s₁ [] 0 0 := Stand.of_body Bd
  have e0 : s₁.heap = h0 := by rw [← hh, Bd.state]; rfl
  have N0 := Fr.nil n0
  refine own_fw (A := s₁.setTop (mkF m 0 #[.val (.int p0), .val (.long q1), .second, .val (.int p2), .val (.int p3), .unset, .unset, .unset, .unset] [])) (fun t k => castTop (ef0 m p0 q1 p2 p3) k) ?_
  refine own_fw (A := s₁.setTop (mkF m 2 #[.val (.int p0), .val (.long q1), .second, .val (.int p2), .val (.int p3), .unset, .unset, .unset, .unset] [(.int (6 : Int32))])) (fun t k => ?_) ?_
  · show Steps p.tables e below (s₁.setTop (mkF m 0 #[.val (.int p0), .val (.long q1), .second, .val (.int p2), .val (.int p3), .unset, .unset, .unset, .unset] [])) t
    refine XS.bipush X0.here hx rfl (hb hby at_0) ?_
    exact k
  obtain ⟨T0_1, h0_1, k0_1, X0_1, e0_1, E0_1, A0_1, st0_1⟩ := newP X0 hx hZ (hw _ (List.mem_of_getElem? (i := 0) rfl)) e0 (g := (mkF m 2 #[.val (.int p0), .val (.long q1), .second, .val (.int p2), .val (.int p3), .unset, .unset, .unset, .unset] [(.int (6 : Int32))])) rfl (hb hby at_2) rfl (by decide) (cap := 6) (by decide) (by decide) (by decide) (by decide)
  obtain ⟨b0_1, g0_1⟩ : ∃ z, z = h0.size := ⟨_, rfl⟩
  rw [← g0_1] at A0_1 st0_1
  have g_b0_1 : n0 ≤ b0_1 := Nat.le_trans Z0 (Nat.le_of_eq g0_1.symm)
  have V_b0_1 : Arv Z h0_1 b0_1 k0_1 .byte (6 : Int32) [(.int (0 : Int32)), (.int (0 : Int32)), (.int (0 : Int32)), (.int (0 : Int32)), (.int (0 : Int32)), (.int (0 : Int32))] (.int (0 : Int32)) := (Arv.new A0_1 (by decide)).pad (pad_rep [] (.int (0 : Int32)) 6)
  refine own_fw st0_1 ?_
  refine own_fw (A := T0_1.setTop (mkF m 12 #[.val (.int p0), .val (.long q1), .second, .val (.int p2), .val (.int p3), .val (.ref b0_1), .unset, .unset, .unset] [(.int (0 : Int32)), (.long q1), (.int p0), (.int (0 : Int32)), (.ref b0_1)])) (fun t k => ?_) ?_
  · show Steps p.tables e below (T0_1.setTop (mkF m 4 #[.val (.int p0), .val (.long q1), .second, .val (.int p2), .val (.int p3), .unset, .unset, .unset, .unset] [(.ref b0_1)])) t
    refine XS.astore X0_1.here hx rfl (hb hby at_4) rfl rfl (l' := #[.val (.int p0), .val (.long q1), .second, .val (.int p2), .val (.int p3), .val (.ref b0_1), .unset, .unset, .unset]) rfl ?_
    show Steps p.tables e below (T0_1.setTop (mkF m 6 #[.val (.int p0), .val (.long q1), .second, .val (.int p2), .val (.int p3), .val (.ref b0_1), .unset, .unset, .unset] [])) t
    refine XS.aload X0_1.here hx rfl (hb hby at_6) rfl rfl ?_
    show Steps p.tables e below (T0_1.setTop (mkF m 8 #[.val (.int p0), .val (.long q1), .second, .val (.int p2), .val (.int p3), .val (.ref b0_1), .unset, .unset, .unset] [(.ref b0_1)])) t
    refine XS.iconst X0_1.here hx rfl (hb hby at_8) ?_
    show Steps p.tables e below (T0_1.setTop (mkF m 9 #[.val (.int p0), .val (.long q1), .second, .val (.int p2), .val (.int p3), .val (.ref b0_1), .unset, .unset, .unset] [(.int (0 : Int32)), (.ref b0_1)])) t
    refine XS.iloadN X0_1.here hx rfl (hb hby at_9) rfl ?_
    show Steps p.tables e below (T0_1.setTop (mkF m 10 #[.val (.int p0), .val (.long q1), .second, .val (.int p2), .val (.int p3), .val (.ref b0_1), .unset, .unset, .unset] [(.int p0), (.int (0 : Int32)), (.ref b0_1)])) t
    refine XS.lloadN X0_1.here hx rfl (hb hby at_10) rfl ?_
    show Steps p.tables e below (T0_1.setTop (mkF m 11 #[.val (.int p0), .val (.long q1), .second, .val (.int p2), .val (.int p3), .val (.ref b0_1), .unset, .unset, .unset] [(.long q1), (.int p0), (.int (0 : Int32)), (.ref b0_1)])) t
    refine XS.iconst X0_1.here hx rfl (hb hby at_11) ?_
    exact k
  obtain ⟨_, _, ⟨T0_2, L0_2, k0_2, n0_2⟩, -, X0_2, ⟨Lc0_2, hQ0_2, l0_2, y0_2, z0_2⟩, st0_2⟩ := Jvm.LawKit.callS X0_1 hx (y := (⟨"com/example/finalmark/finalmark/RequestHeadEndPinLaw", "pick", "(IJI)B"⟩ : MethodName)) hown (mvT hZ (hw _ (List.mem_of_getElem? (i := 1) rfl))) (mvT hZ (hw _ (List.mem_of_getElem? (i := 2) rfl))) (mvT hZ (hw _ (List.mem_of_getElem? (i := 3) rfl))) (mvT hZ (hw _ (List.mem_of_getElem? (i := 4) rfl))) (by decide) (backOf (W := 2) (rm1 l Z a0 hw [] (p0) (q1) ((0 : Int32)) h0_1 n0 (Nat.le_trans Z0 E0_1.1) ) hZ (hw _ (List.mem_of_getElem? (i := 4) rfl)) (hw _ (List.mem_of_getElem? (i := 3) rfl)) (by decide) (by decide)) (g := (mkF m 12 #[.val (.int p0), .val (.long q1), .second, .val (.int p2), .val (.int p3), .val (.ref b0_1), .unset, .unset, .unset] [(.int (0 : Int32)), (.long q1), (.int p0), (.int (0 : Int32)), (.ref b0_1)])) rfl (by rw [hml]; rfl) (argsL := [(.int p0), (.long q1), (.int (0 : Int32))]) (rest := [(.int (0 : Int32)), (.ref b0_1)]) (lenOf pd0_0 rfl) rfl (by show 2 * 0 + _ ≤ _; exact Nat.le_of_eq rfl) (hb hby at_12) (fun _ _ => ⟨rfl, e0_1, (by decide : 1 + 0 ≤ _), (by decide : 6 + 0 ≤ _)⟩)
  dsimp only [Pt.U, Pt.locs, Pt.cells, Pt.slots] at X0_2 l0_2 y0_2 z0_2 st0_2 hQ0_2
  subst l0_2 y0_2 z0_2
  obtain ⟨rfl, N0_2q, e0_2⟩ := hQ0_2
  have N0_2 := Fr.app N0 N0_2q
  refine own_fw st0_2 ?_
  obtain ⟨cl0_3, Ar0_3, q0_3, S0_3, Ng0_3, Hs0_3, G0_3⟩ := id V_b0_1
  have hin0_3 : ¬ ((0 : Int32) < 0 ∨ cl0_3.slots.size ≤ ((0 : Int32)).toNatClampNeg) := inb_of S0_3 ⟨by decide, by decide⟩
  obtain ⟨T0_3, h0_3, X0_3, e0_3, W0_3, st0_3⟩ := stB X0_2 hx hZ e0_2 Ar0_3 (j := (0 : Int32)) hin0_3 (g := (mkF m 15 #[.val (.int p0), .val (.long q1), .second, .val (.int p2), .val (.int p3), .val (.ref b0_1), .unset, .unset, .unset] [(.int (pickF p0 q1 (0 : Int32))), (.int (0 : Int32)), (.ref b0_1)])) rfl rfl (hb hby at_15)
  have V0_3 : Arv Z h0_3 b0_1 k0_1 .byte (6 : Int32) [(.int (nar .byte (pickF p0 q1 (0 : Int32)))), (.int (0 : Int32)), (.int (0 : Int32)), (.int (0 : Int32)), (.int (0 : Int32)), (.int (0 : Int32))] (.int (0 : Int32)) := Arv.set Ar0_3 q0_3 S0_3 Ng0_3 Hs0_3 G0_3 (fits_nar_byte _) W0_3 0 rfl (Nat.le_of_ble_eq_true rfl)
  have N0_3 := Fr.snoc X0_3 N0_2 g_b0_1
  refine own_fw st0_3 ?_
  refine own_fw (A := T0_3.setTop (mkF m 22 #[.val (.int p0), .val (.long q1), .second, .val (.int p2), .val (.int p3), .val (.ref b0_1), .unset, .unset, .unset] [(.int (1 : Int32)), (.long q1), (.int p0), (.int (1 : Int32)), (.ref b0_1)])) (fun t k => ?_) ?_
  · show Steps p.tables e below (T0_3.setTop (mkF m 16 #[.val (.int p0), .val (.long q1), .second, .val (.int p2), .val (.int p3), .val (.ref b0_1), .unset, .unset, .unset] [])) t
    refine XS.aload X0_3.here hx rfl (hb hby at_16) rfl rfl ?_
    show Steps p.tables e below (T0_3.setTop (mkF m 18 #[.val (.int p0), .val (.long q1), .second, .val (.int p2), .val (.int p3), .val (.ref b0_1), .unset, .unset, .unset] [(.ref b0_1)])) t
    refine XS.iconst X0_3.here hx rfl (hb hby at_18) ?_
    show Steps p.tables e below (T0_3.setTop (mkF m 19 #[.val (.int p0), .val (.long q1), .second, .val (.int p2), .val (.int p3), .val (.ref b0_1), .unset, .unset, .unset] [(.int (1 : Int32)), (.ref b0_1)])) t
    refine XS.iloadN X0_3.here hx rfl (hb hby at_19) rfl ?_
    show Steps p.tables e below (T0_3.setTop (mkF m 20 #[.val (.int p0), .val (.long q1), .second, .val (.int p2), .val (.int p3), .val (.ref b0_1), .unset, .unset, .unset] [(.int p0), (.int (1 : Int32)), (.ref b0_1)])) t
    refine XS.lloadN X0_3.here hx rfl (hb hby at_20) rfl ?_
    show Steps p.tables e below (T0_3.setTop (mkF m 21 #[.val (.int p0), .val (.long q1), .second, .val (.int p2), .val (.int p3), .val (.ref b0_1), .unset, .unset, .unset] [(.long q1), (.int p0), (.int (1 : Int32)), (.ref b0_1)])) t
    refine XS.iconst X0_3.here hx rfl (hb hby at_21) ?_
    exact k
  obtain ⟨_, _, ⟨T0_4, L0_4, k0_4, n0_4⟩, -, X0_4, ⟨Lc0_4, hQ0_4, l0_4, y0_4, z0_4⟩, st0_4⟩ := Jvm.LawKit.callS X0_3 hx (y := (⟨"com/example/finalmark/finalmark/RequestHeadEndPinLaw", "pick", "(IJI)B"⟩ : MethodName)) hown (mvT hZ (hw _ (List.mem_of_getElem? (i := 1) rfl))) (mvT hZ (hw _ (List.mem_of_getElem? (i := 2) rfl))) (mvT hZ (hw _ (List.mem_of_getElem? (i := 3) rfl))) (mvT hZ (hw _ (List.mem_of_getElem? (i := 4) rfl))) (by decide) (backOf (W := 2) (rm1 l Z a0 hw [] (p0) (q1) ((1 : Int32)) h0_3 n0 (Nat.le_trans (Nat.le_trans Z0 E0_1.1) (Keep.of_wr W0_3).1) ) hZ (hw _ (List.mem_of_getElem? (i := 4) rfl)) (hw _ (List.mem_of_getElem? (i := 3) rfl)) (by decide) (by decide)) (g := (mkF m 22 #[.val (.int p0), .val (.long q1), .second, .val (.int p2), .val (.int p3), .val (.ref b0_1), .unset, .unset, .unset] [(.int (1 : Int32)), (.long q1), (.int p0), (.int (1 : Int32)), (.ref b0_1)])) rfl (by rw [hml]; rfl) (argsL := [(.int p0), (.long q1), (.int (1 : Int32))]) (rest := [(.int (1 : Int32)), (.ref b0_1)]) (lenOf pd0_0 rfl) rfl (by show 2 * 0 + _ ≤ _; exact Nat.le_of_eq rfl) (hb hby at_22) (fun _ _ => ⟨rfl, e0_3, (by decide : 1 + 0 ≤ _), (by decide : 6 + 0 ≤ _)⟩)
  dsimp only [Pt.U, Pt.locs, Pt.cells, Pt.slots] at X0_4 l0_4 y0_4 z0_4 st0_4 hQ0_4
  subst l0_4 y0_4 z0_4
  obtain ⟨rfl, N0_4q, e0_4⟩ := hQ0_4
  have N0_4 := Fr.app N0_3 N0_4q
  refine own_fw st0_4 ?_
  obtain ⟨cl0_5, Ar0_5, q0_5, S0_5, Ng0_5, Hs0_5, G0_5⟩ := id V0_3
  have hin0_5 : ¬ ((1 : Int32) < 0 ∨ cl0_5.slots.size ≤ ((1 : Int32)).toNatClampNeg) := inb_of S0_5 ⟨by decide, by decide⟩
  obtain ⟨T0_5, h0_5, X0_5, e0_5, W0_5, st0_5⟩ := stB X0_4 hx hZ e0_4 Ar0_5 (j := (1 : Int32)) hin0_5 (g := (mkF m 25 #[.val (.int p0), .val (.long q1), .second, .val (.int p2), .val (.int p3), .val (.ref b0_1), .unset, .unset, .unset] [(.int (pickF p0 q1 (1 : Int32))), (.int (1 : Int32)), (.ref b0_1)])) rfl rfl (hb hby at_25)
  have V0_5 : Arv Z h0_5 b0_1 k0_1 .byte (6 : Int32) [(.int (nar .byte (pickF p0 q1 (0 : Int32)))), (.int (nar .byte (pickF p0 q1 (1 : Int32)))), (.int (0 : Int32)), (.int (0 : Int32)), (.int (0 : Int32)), (.int (0 : Int32))] (.int (0 : Int32)) := Arv.set Ar0_5 q0_5 S0_5 Ng0_5 Hs0_5 G0_5 (fits_nar_byte _) W0_5 1 rfl (Nat.le_of_ble_eq_true rfl)
  have N0_5 := Fr.snoc X0_5 N0_4 g_b0_1
  refine own_fw st0_5 ?_
  refine own_fw (A := T0_5.setTop (mkF m 32 #[.val (.int p0), .val (.long q1), .second, .val (.int p2), .val (.int p3), .val (.ref b0_1), .unset, .unset, .unset] [(.int (2 : Int32)), (.long q1), (.int p0), (.int (2 : Int32)), (.ref b0_1)])) (fun t k => ?_) ?_
  · show Steps p.tables e below (T0_5.setTop (mkF m 26 #[.val (.int p0), .val (.long q1), .second, .val (.int p2), .val (.int p3), .val (.ref b0_1), .unset, .unset, .unset] [])) t
    refine XS.aload X0_5.here hx rfl (hb hby at_26) rfl rfl ?_
    show Steps p.tables e below (T0_5.setTop (mkF m 28 #[.val (.int p0), .val (.long q1), .second, .val (.int p2), .val (.int p3), .val (.ref b0_1), .unset, .unset, .unset] [(.ref b0_1)])) t
    refine XS.iconst X0_5.here hx rfl (hb hby at_28) ?_
    show Steps p.tables e below (T0_5.setTop (mkF m 29 #[.val (.int p0), .val (.long q1), .second, .val (.int p2), .val (.int p3), .val (.ref b0_1), .unset, .unset, .unset] [(.int (2 : Int32)), (.ref b0_1)])) t
    refine XS.iloadN X0_5.here hx rfl (hb hby at_29) rfl ?_
    show Steps p.tables e below (T0_5.setTop (mkF m 30 #[.val (.int p0), .val (.long q1), .second, .val (.int p2), .val (.int p3), .val (.ref b0_1), .unset, .unset, .unset] [(.int p0), (.int (2 : Int32)), (.ref b0_1)])) t
    refine XS.lloadN X0_5.here hx rfl (hb hby at_30) rfl ?_
    show Steps p.tables e below (T0_5.setTop (mkF m 31 #[.val (.int p0), .val (.long q1), .second, .val (.int p2), .val (.int p3), .val (.ref b0_1), .unset, .unset, .unset] [(.long q1), (.int p0), (.int (2 : Int32)), (.ref b0_1)])) t
    refine XS.iconst X0_5.here hx rfl (hb hby at_31) ?_
    exact k
  obtain ⟨_, _, ⟨T0_6, L0_6, k0_6, n0_6⟩, -, X0_6, ⟨Lc0_6, hQ0_6, l0_6, y0_6, z0_6⟩, st0_6⟩ := Jvm.LawKit.callS X0_5 hx (y := (⟨"com/example/finalmark/finalmark/RequestHeadEndPinLaw", "pick", "(IJI)B"⟩ : MethodName)) hown (mvT hZ (hw _ (List.mem_of_getElem? (i := 1) rfl))) (mvT hZ (hw _ (List.mem_of_getElem? (i := 2) rfl))) (mvT hZ (hw _ (List.mem_of_getElem? (i := 3) rfl))) (mvT hZ (hw _ (List.mem_of_getElem? (i := 4) rfl))) (by decide) (backOf (W := 2) (rm1 l Z a0 hw [] (p0) (q1) ((2 : Int32)) h0_5 n0 (Nat.le_trans (Nat.le_trans (Nat.le_trans Z0 E0_1.1) (Keep.of_wr W0_3).1) (Keep.of_wr W0_5).1) ) hZ (hw _ (List.mem_of_getElem? (i := 4) rfl)) (hw _ (List.mem_of_getElem? (i := 3) rfl)) (by decide) (by decide)) (g := (mkF m 32 #[.val (.int p0), .val (.long q1), .second, .val (.int p2), .val (.int p3), .val (.ref b0_1), .unset, .unset, .unset] [(.int (2 : Int32)), (.long q1), (.int p0), (.int (2 : Int32)), (.ref b0_1)])) rfl (by rw [hml]; rfl) (argsL := [(.int p0), (.long q1), (.int (2 : Int32))]) (rest := [(.int (2 : Int32)), (.ref b0_1)]) (lenOf pd0_0 rfl) rfl (by show 2 * 0 + _ ≤ _; exact Nat.le_of_eq rfl) (hb hby at_32) (fun _ _ => ⟨rfl, e0_5, (by decide : 1 + 0 ≤ _), (by decide : 6 + 0 ≤ _)⟩)
  dsimp only [Pt.U, Pt.locs, Pt.cells, Pt.slots] at X0_6 l0_6 y0_6 z0_6 st0_6 hQ0_6
  subst l0_6 y0_6 z0_6
  obtain ⟨rfl, N0_6q, e0_6⟩ := hQ0_6
  have N0_6 := Fr.app N0_5 N0_6q
  refine own_fw st0_6 ?_
  obtain ⟨cl0_7, Ar0_7, q0_7, S0_7, Ng0_7, Hs0_7, G0_7⟩ := id V0_5
  have hin0_7 : ¬ ((2 : Int32) < 0 ∨ cl0_7.slots.size ≤ ((2 : Int32)).toNatClampNeg) := inb_of S0_7 ⟨by decide, by decide⟩
  obtain ⟨T0_7, h0_7, X0_7, e0_7, W0_7, st0_7⟩ := stB X0_6 hx hZ e0_6 Ar0_7 (j := (2 : Int32)) hin0_7 (g := (mkF m 35 #[.val (.int p0), .val (.long q1), .second, .val (.int p2), .val (.int p3), .val (.ref b0_1), .unset, .unset, .unset] [(.int (pickF p0 q1 (2 : Int32))), (.int (2 : Int32)), (.ref b0_1)])) rfl rfl (hb hby at_35)
  have V0_7 : Arv Z h0_7 b0_1 k0_1 .byte (6 : Int32) [(.int (nar .byte (pickF p0 q1 (0 : Int32)))), (.int (nar .byte (pickF p0 q1 (1 : Int32)))), (.int (nar .byte (pickF p0 q1 (2 : Int32)))), (.int (0 : Int32)), (.int (0 : Int32)), (.int (0 : Int32))] (.int (0 : Int32)) := Arv.set Ar0_7 q0_7 S0_7 Ng0_7 Hs0_7 G0_7 (fits_nar_byte _) W0_7 2 rfl (Nat.le_of_ble_eq_true rfl)
  have N0_7 := Fr.snoc X0_7 N0_6 g_b0_1
  refine own_fw st0_7 ?_
  refine own_fw (A := T0_7.setTop (mkF m 42 #[.val (.int p0), .val (.long q1), .second, .val (.int p2), .val (.int p3), .val (.ref b0_1), .unset, .unset, .unset] [(.int (3 : Int32)), (.long q1), (.int p0), (.int (3 : Int32)), (.ref b0_1)])) (fun t k => ?_) ?_
  · show Steps p.tables e below (T0_7.setTop (mkF m 36 #[.val (.int p0), .val (.long q1), .second, .val (.int p2), .val (.int p3), .val (.ref b0_1), .unset, .unset, .unset] [])) t
    refine XS.aload X0_7.here hx rfl (hb hby at_36) rfl rfl ?_
    show Steps p.tables e below (T0_7.setTop (mkF m 38 #[.val (.int p0), .val (.long q1), .second, .val (.int p2), .val (.int p3), .val (.ref b0_1), .unset, .unset, .unset] [(.ref b0_1)])) t
    refine XS.iconst X0_7.here hx rfl (hb hby at_38) ?_
    show Steps p.tables e below (T0_7.setTop (mkF m 39 #[.val (.int p0), .val (.long q1), .second, .val (.int p2), .val (.int p3), .val (.ref b0_1), .unset, .unset, .unset] [(.int (3 : Int32)), (.ref b0_1)])) t
    refine XS.iloadN X0_7.here hx rfl (hb hby at_39) rfl ?_
    show Steps p.tables e below (T0_7.setTop (mkF m 40 #[.val (.int p0), .val (.long q1), .second, .val (.int p2), .val (.int p3), .val (.ref b0_1), .unset, .unset, .unset] [(.int p0), (.int (3 : Int32)), (.ref b0_1)])) t
    refine XS.lloadN X0_7.here hx rfl (hb hby at_40) rfl ?_
    show Steps p.tables e below (T0_7.setTop (mkF m 41 #[.val (.int p0), .val (.long q1), .second, .val (.int p2), .val (.int p3), .val (.ref b0_1), .unset, .unset, .unset] [(.long q1), (.int p0), (.int (3 : Int32)), (.ref b0_1)])) t
    refine XS.iconst X0_7.here hx rfl (hb hby at_41) ?_
    exact k
  obtain ⟨_, _, ⟨T0_8, L0_8, k0_8, n0_8⟩, -, X0_8, ⟨Lc0_8, hQ0_8, l0_8, y0_8, z0_8⟩, st0_8⟩ := Jvm.LawKit.callS X0_7 hx (y := (⟨"com/example/finalmark/finalmark/RequestHeadEndPinLaw", "pick", "(IJI)B"⟩ : MethodName)) hown (mvT hZ (hw _ (List.mem_of_getElem? (i := 1) rfl))) (mvT hZ (hw _ (List.mem_of_getElem? (i := 2) rfl))) (mvT hZ (hw _ (List.mem_of_getElem? (i := 3) rfl))) (mvT hZ (hw _ (List.mem_of_getElem? (i := 4) rfl))) (by decide) (backOf (W := 2) (rm1 l Z a0 hw [] (p0) (q1) ((3 : Int32)) h0_7 n0 (Nat.le_trans (Nat.le_trans (Nat.le_trans (Nat.le_trans Z0 E0_1.1) (Keep.of_wr W0_3).1) (Keep.of_wr W0_5).1) (Keep.of_wr W0_7).1) ) hZ (hw _ (List.mem_of_getElem? (i := 4) rfl)) (hw _ (List.mem_of_getElem? (i := 3) rfl)) (by decide) (by decide)) (g := (mkF m 42 #[.val (.int p0), .val (.long q1), .second, .val (.int p2), .val (.int p3), .val (.ref b0_1), .unset, .unset, .unset] [(.int (3 : Int32)), (.long q1), (.int p0), (.int (3 : Int32)), (.ref b0_1)])) rfl (by rw [hml]; rfl) (argsL := [(.int p0), (.long q1), (.int (3 : Int32))]) (rest := [(.int (3 : Int32)), (.ref b0_1)]) (lenOf pd0_0 rfl) rfl (by show 2 * 0 + _ ≤ _; exact Nat.le_of_eq rfl) (hb hby at_42) (fun _ _ => ⟨rfl, e0_7, (by decide : 1 + 0 ≤ _), (by decide : 6 + 0 ≤ _)⟩)
  dsimp only [Pt.U, Pt.locs, Pt.cells, Pt.slots] at X0_8 l0_8 y0_8 z0_8 st0_8 hQ0_8
  subst l0_8 y0_8 z0_8
  obtain ⟨rfl, N0_8q, e0_8⟩ := hQ0_8
  have N0_8 := Fr.app N0_7 N0_8q
  refine own_fw st0_8 ?_
  obtain ⟨cl0_9, Ar0_9, q0_9, S0_9, Ng0_9, Hs0_9, G0_9⟩ := id V0_7
  have hin0_9 : ¬ ((3 : Int32) < 0 ∨ cl0_9.slots.size ≤ ((3 : Int32)).toNatClampNeg) := inb_of S0_9 ⟨by decide, by decide⟩
  obtain ⟨T0_9, h0_9, X0_9, e0_9, W0_9, st0_9⟩ := stB X0_8 hx hZ e0_8 Ar0_9 (j := (3 : Int32)) hin0_9 (g := (mkF m 45 #[.val (.int p0), .val (.long q1), .second, .val (.int p2), .val (.int p3), .val (.ref b0_1), .unset, .unset, .unset] [(.int (pickF p0 q1 (3 : Int32))), (.int (3 : Int32)), (.ref b0_1)])) rfl rfl (hb hby at_45)
  have V0_9 : Arv Z h0_9 b0_1 k0_1 .byte (6 : Int32) [(.int (nar .byte (pickF p0 q1 (0 : Int32)))), (.int (nar .byte (pickF p0 q1 (1 : Int32)))), (.int (nar .byte (pickF p0 q1 (2 : Int32)))), (.int (nar .byte (pickF p0 q1 (3 : Int32)))), (.int (0 : Int32)), (.int (0 : Int32))] (.int (0 : Int32)) := Arv.set Ar0_9 q0_9 S0_9 Ng0_9 Hs0_9 G0_9 (fits_nar_byte _) W0_9 3 rfl (Nat.le_of_ble_eq_true rfl)
  have N0_9 := Fr.snoc X0_9 N0_8 g_b0_1
  refine own_fw st0_9 ?_
  refine own_fw (A := T0_9.setTop (mkF m 52 #[.val (.int p0), .val (.long q1), .second, .val (.int p2), .val (.int p3), .val (.ref b0_1), .unset, .unset, .unset] [(.int (4 : Int32)), (.long q1), (.int p0), (.int (4 : Int32)), (.ref b0_1)])) (fun t k => ?_) ?_
  · show Steps p.tables e below (T0_9.setTop (mkF m 46 #[.val (.int p0), .val (.long q1), .second, .val (.int p2), .val (.int p3), .val (.ref b0_1), .unset, .unset, .unset] [])) t
    refine XS.aload X0_9.here hx rfl (hb hby at_46) rfl rfl ?_
    show Steps p.tables e below (T0_9.setTop (mkF m 48 #[.val (.int p0), .val (.long q1), .second, .val (.int p2), .val (.int p3), .val (.ref b0_1), .unset, .unset, .unset] [(.ref b0_1)])) t
    refine XS.iconst X0_9.here hx rfl (hb hby at_48) ?_
    show Steps p.tables e below (T0_9.setTop (mkF m 49 #[.val (.int p0), .val (.long q1), .second, .val (.int p2), .val (.int p3), .val (.ref b0_1), .unset, .unset, .unset] [(.int (4 : Int32)), (.ref b0_1)])) t
    refine XS.iloadN X0_9.here hx rfl (hb hby at_49) rfl ?_
    show Steps p.tables e below (T0_9.setTop (mkF m 50 #[.val (.int p0), .val (.long q1), .second, .val (.int p2), .val (.int p3), .val (.ref b0_1), .unset, .unset, .unset] [(.int p0), (.int (4 : Int32)), (.ref b0_1)])) t
    refine XS.lloadN X0_9.here hx rfl (hb hby at_50) rfl ?_
    show Steps p.tables e below (T0_9.setTop (mkF m 51 #[.val (.int p0), .val (.long q1), .second, .val (.int p2), .val (.int p3), .val (.ref b0_1), .unset, .unset, .unset] [(.long q1), (.int p0), (.int (4 : Int32)), (.ref b0_1)])) t
    refine XS.iconst X0_9.here hx rfl (hb hby at_51) ?_
    exact k
  obtain ⟨_, _, ⟨T0_10, L0_10, k0_10, n0_10⟩, -, X0_10, ⟨Lc0_10, hQ0_10, l0_10, y0_10, z0_10⟩, st0_10⟩ := Jvm.LawKit.callS X0_9 hx (y := (⟨"com/example/finalmark/finalmark/RequestHeadEndPinLaw", "pick", "(IJI)B"⟩ : MethodName)) hown (mvT hZ (hw _ (List.mem_of_getElem? (i := 1) rfl))) (mvT hZ (hw _ (List.mem_of_getElem? (i := 2) rfl))) (mvT hZ (hw _ (List.mem_of_getElem? (i := 3) rfl))) (mvT hZ (hw _ (List.mem_of_getElem? (i := 4) rfl))) (by decide) (backOf (W := 2) (rm1 l Z a0 hw [] (p0) (q1) ((4 : Int32)) h0_9 n0 (Nat.le_trans (Nat.le_trans (Nat.le_trans (Nat.le_trans (Nat.le_trans Z0 E0_1.1) (Keep.of_wr W0_3).1) (Keep.of_wr W0_5).1) (Keep.of_wr W0_7).1) (Keep.of_wr W0_9).1) ) hZ (hw _ (List.mem_of_getElem? (i := 4) rfl)) (hw _ (List.mem_of_getElem? (i := 3) rfl)) (by decide) (by decide)) (g := (mkF m 52 #[.val (.int p0), .val (.long q1), .second, .val (.int p2), .val (.int p3), .val (.ref b0_1), .unset, .unset, .unset] [(.int (4 : Int32)), (.long q1), (.int p0), (.int (4 : Int32)), (.ref b0_1)])) rfl (by rw [hml]; rfl) (argsL := [(.int p0), (.long q1), (.int (4 : Int32))]) (rest := [(.int (4 : Int32)), (.ref b0_1)]) (lenOf pd0_0 rfl) rfl (by show 2 * 0 + _ ≤ _; exact Nat.le_of_eq rfl) (hb hby at_52) (fun _ _ => ⟨rfl, e0_9, (by decide : 1 + 0 ≤ _), (by decide : 6 + 0 ≤ _)⟩)
  dsimp only [Pt.U, Pt.locs, Pt.cells, Pt.slots] at X0_10 l0_10 y0_10 z0_10 st0_10 hQ0_10
  subst l0_10 y0_10 z0_10
  obtain ⟨rfl, N0_10q, e0_10⟩ := hQ0_10
  have N0_10 := Fr.app N0_9 N0_10q
  refine own_fw st0_10 ?_
  obtain ⟨cl0_11, Ar0_11, q0_11, S0_11, Ng0_11, Hs0_11, G0_11⟩ := id V0_9
  have hin0_11 : ¬ ((4 : Int32) < 0 ∨ cl0_11.slots.size ≤ ((4 : Int32)).toNatClampNeg) := inb_of S0_11 ⟨by decide, by decide⟩
  obtain ⟨T0_11, h0_11, X0_11, e0_11, W0_11, st0_11⟩ := stB X0_10 hx hZ e0_10 Ar0_11 (j := (4 : Int32)) hin0_11 (g := (mkF m 55 #[.val (.int p0), .val (.long q1), .second, .val (.int p2), .val (.int p3), .val (.ref b0_1), .unset, .unset, .unset] [(.int (pickF p0 q1 (4 : Int32))), (.int (4 : Int32)), (.ref b0_1)])) rfl rfl (hb hby at_55)
  have V0_11 : Arv Z h0_11 b0_1 k0_1 .byte (6 : Int32) [(.int (nar .byte (pickF p0 q1 (0 : Int32)))), (.int (nar .byte (pickF p0 q1 (1 : Int32)))), (.int (nar .byte (pickF p0 q1 (2 : Int32)))), (.int (nar .byte (pickF p0 q1 (3 : Int32)))), (.int (nar .byte (pickF p0 q1 (4 : Int32)))), (.int (0 : Int32))] (.int (0 : Int32)) := Arv.set Ar0_11 q0_11 S0_11 Ng0_11 Hs0_11 G0_11 (fits_nar_byte _) W0_11 4 rfl (Nat.le_of_ble_eq_true rfl)
  have N0_11 := Fr.snoc X0_11 N0_10 g_b0_1
  refine own_fw st0_11 ?_
  refine own_fw (A := T0_11.setTop (mkF m 62 #[.val (.int p0), .val (.long q1), .second, .val (.int p2), .val (.int p3), .val (.ref b0_1), .unset, .unset, .unset] [(.int (5 : Int32)), (.long q1), (.int p0), (.int (5 : Int32)), (.ref b0_1)])) (fun t k => ?_) ?_
  · show Steps p.tables e below (T0_11.setTop (mkF m 56 #[.val (.int p0), .val (.long q1), .second, .val (.int p2), .val (.int p3), .val (.ref b0_1), .unset, .unset, .unset] [])) t
    refine XS.aload X0_11.here hx rfl (hb hby at_56) rfl rfl ?_
    show Steps p.tables e below (T0_11.setTop (mkF m 58 #[.val (.int p0), .val (.long q1), .second, .val (.int p2), .val (.int p3), .val (.ref b0_1), .unset, .unset, .unset] [(.ref b0_1)])) t
    refine XS.iconst X0_11.here hx rfl (hb hby at_58) ?_
    show Steps p.tables e below (T0_11.setTop (mkF m 59 #[.val (.int p0), .val (.long q1), .second, .val (.int p2), .val (.int p3), .val (.ref b0_1), .unset, .unset, .unset] [(.int (5 : Int32)), (.ref b0_1)])) t
    refine XS.iloadN X0_11.here hx rfl (hb hby at_59) rfl ?_
    show Steps p.tables e below (T0_11.setTop (mkF m 60 #[.val (.int p0), .val (.long q1), .second, .val (.int p2), .val (.int p3), .val (.ref b0_1), .unset, .unset, .unset] [(.int p0), (.int (5 : Int32)), (.ref b0_1)])) t
    refine XS.lloadN X0_11.here hx rfl (hb hby at_60) rfl ?_
    show Steps p.tables e below (T0_11.setTop (mkF m 61 #[.val (.int p0), .val (.long q1), .second, .val (.int p2), .val (.int p3), .val (.ref b0_1), .unset, .unset, .unset] [(.long q1), (.int p0), (.int (5 : Int32)), (.ref b0_1)])) t
    refine XS.iconst X0_11.here hx rfl (hb hby at_61) ?_
    exact k
  obtain ⟨_, _, ⟨T0_12, L0_12, k0_12, n0_12⟩, -, X0_12, ⟨Lc0_12, hQ0_12, l0_12, y0_12, z0_12⟩, st0_12⟩ := Jvm.LawKit.callS X0_11 hx (y := (⟨"com/example/finalmark/finalmark/RequestHeadEndPinLaw", "pick", "(IJI)B"⟩ : MethodName)) hown (mvT hZ (hw _ (List.mem_of_getElem? (i := 1) rfl))) (mvT hZ (hw _ (List.mem_of_getElem? (i := 2) rfl))) (mvT hZ (hw _ (List.mem_of_getElem? (i := 3) rfl))) (mvT hZ (hw _ (List.mem_of_getElem? (i := 4) rfl))) (by decide) (backOf (W := 2) (rm1 l Z a0 hw [] (p0) (q1) ((5 : Int32)) h0_11 n0 (Nat.le_trans (Nat.le_trans (Nat.le_trans (Nat.le_trans (Nat.le_trans (Nat.le_trans Z0 E0_1.1) (Keep.of_wr W0_3).1) (Keep.of_wr W0_5).1) (Keep.of_wr W0_7).1) (Keep.of_wr W0_9).1) (Keep.of_wr W0_11).1) ) hZ (hw _ (List.mem_of_getElem? (i := 4) rfl)) (hw _ (List.mem_of_getElem? (i := 3) rfl)) (by decide) (by decide)) (g := (mkF m 62 #[.val (.int p0), .val (.long q1), .second, .val (.int p2), .val (.int p3), .val (.ref b0_1), .unset, .unset, .unset] [(.int (5 : Int32)), (.long q1), (.int p0), (.int (5 : Int32)), (.ref b0_1)])) rfl (by rw [hml]; rfl) (argsL := [(.int p0), (.long q1), (.int (5 : Int32))]) (rest := [(.int (5 : Int32)), (.ref b0_1)]) (lenOf pd0_0 rfl) rfl (by show 2 * 0 + _ ≤ _; exact Nat.le_of_eq rfl) (hb hby at_62) (fun _ _ => ⟨rfl, e0_11, (by decide : 1 + 0 ≤ _), (by decide : 6 + 0 ≤ _)⟩)
  dsimp only [Pt.U, Pt.locs, Pt.cells, Pt.slots] at X0_12 l0_12 y0_12 z0_12 st0_12 hQ0_12
  subst l0_12 y0_12 z0_12
  obtain ⟨rfl, N0_12q, e0_12⟩ := hQ0_12
  have N0_12 := Fr.app N0_11 N0_12q
  refine own_fw st0_12 ?_
  obtain ⟨cl0_13, Ar0_13, q0_13, S0_13, Ng0_13, Hs0_13, G0_13⟩ := id V0_11
  have hin0_13 : ¬ ((5 : Int32) < 0 ∨ cl0_13.slots.size ≤ ((5 : Int32)).toNatClampNeg) := inb_of S0_13 ⟨by decide, by decide⟩
  obtain ⟨T0_13, h0_13, X0_13, e0_13, W0_13, st0_13⟩ := stB X0_12 hx hZ e0_12 Ar0_13 (j := (5 : Int32)) hin0_13 (g := (mkF m 65 #[.val (.int p0), .val (.long q1), .second, .val (.int p2), .val (.int p3), .val (.ref b0_1), .unset, .unset, .unset] [(.int (pickF p0 q1 (5 : Int32))), (.int (5 : Int32)), (.ref b0_1)])) rfl rfl (hb hby at_65)
  have V0_13 : Arv Z h0_13 b0_1 k0_1 .byte (6 : Int32) [(.int (nar .byte (pickF p0 q1 (0 : Int32)))), (.int (nar .byte (pickF p0 q1 (1 : Int32)))), (.int (nar .byte (pickF p0 q1 (2 : Int32)))), (.int (nar .byte (pickF p0 q1 (3 : Int32)))), (.int (nar .byte (pickF p0 q1 (4 : Int32)))), (.int (nar .byte (pickF p0 q1 (5 : Int32))))] (.int (0 : Int32)) := Arv.set Ar0_13 q0_13 S0_13 Ng0_13 Hs0_13 G0_13 (fits_nar_byte _) W0_13 5 rfl (Nat.le_of_ble_eq_true rfl)
  have N0_13 := Fr.snoc X0_13 N0_12 g_b0_1
  refine own_fw st0_13 ?_
  refine own_fw (A := T0_13.setTop (mkF m 92 #[.val (.int p0), .val (.long q1), .second, .val (.int p2), .val (.int p3), .val (.ref b0_1), .val (.int (own_irem (p2 &&& (2147483647 : Int32)) (7 : Int32))), .val (.int (own_irem (p3 &&& (2147483647 : Int32)) (7 : Int32))), .unset] [(.int (own_irem (p3 &&& (2147483647 : Int32)) (7 : Int32))), (.int (own_irem (p2 &&& (2147483647 : Int32)) (7 : Int32))), (.int (0 : Int32)), (.ref b0_1)])) (fun t k => ?_) ?_
  · show Steps p.tables e below (T0_13.setTop (mkF m 66 #[.val (.int p0), .val (.long q1), .second, .val (.int p2), .val (.int p3), .val (.ref b0_1), .unset, .unset, .unset] [])) t
    refine XS.iloadN X0_13.here hx rfl (hb hby at_66) rfl ?_
    show Steps p.tables e below (T0_13.setTop (mkF m 67 #[.val (.int p0), .val (.long q1), .second, .val (.int p2), .val (.int p3), .val (.ref b0_1), .unset, .unset, .unset] [(.int p2)])) t
    refine X0_13.ldcInt hx hown (mvT hZ (hw _ (List.mem_of_getElem? (i := 5) rfl))) (g := (mkF m 67 #[.val (.int p0), .val (.long q1), .second, .val (.int p2), .val (.int p3), .val (.ref b0_1), .unset, .unset, .unset] [(.int p2)])) rfl (hb hby at_67) _ ?_
    show Steps p.tables e below (T0_13.setTop (mkF m 69 #[.val (.int p0), .val (.long q1), .second, .val (.int p2), .val (.int p3), .val (.ref b0_1), .unset, .unset, .unset] [(.int (2147483647 : Int32)), (.int p2)])) t
    refine XS.iand X0_13.here hx rfl (hb hby at_69) rfl ?_
    show Steps p.tables e below (T0_13.setTop (mkF m 70 #[.val (.int p0), .val (.long q1), .second, .val (.int p2), .val (.int p3), .val (.ref b0_1), .unset, .unset, .unset] [(.int (p2 &&& (2147483647 : Int32)))])) t
    refine XS.bipush X0_13.here hx rfl (hb hby at_70) ?_
    show Steps p.tables e below (T0_13.setTop (mkF m 72 #[.val (.int p0), .val (.long q1), .second, .val (.int p2), .val (.int p3), .val (.ref b0_1), .unset, .unset, .unset] [(.int (7 : Int32)), (.int (p2 &&& (2147483647 : Int32)))])) t
    refine XS.irem X0_13.here hx rfl (hb hby at_72) rfl (by decide) ?_
    show Steps p.tables e below (T0_13.setTop (mkF m 73 #[.val (.int p0), .val (.long q1), .second, .val (.int p2), .val (.int p3), .val (.ref b0_1), .unset, .unset, .unset] [(.int (own_irem (p2 &&& (2147483647 : Int32)) (7 : Int32)))])) t
    refine XS.istore X0_13.here hx rfl (hb hby at_73) rfl (l' := #[.val (.int p0), .val (.long q1), .second, .val (.int p2), .val (.int p3), .val (.ref b0_1), .val (.int (own_irem (p2 &&& (2147483647 : Int32)) (7 : Int32))), .unset, .unset]) rfl ?_
    show Steps p.tables e below (T0_13.setTop (mkF m 75 #[.val (.int p0), .val (.long q1), .second, .val (.int p2), .val (.int p3), .val (.ref b0_1), .val (.int (own_irem (p2 &&& (2147483647 : Int32)) (7 : Int32))), .unset, .unset] [])) t
    refine XS.iload X0_13.here hx rfl (hb hby at_75) rfl ?_
    show Steps p.tables e below (T0_13.setTop (mkF m 77 #[.val (.int p0), .val (.long q1), .second, .val (.int p2), .val (.int p3), .val (.ref b0_1), .val (.int (own_irem (p2 &&& (2147483647 : Int32)) (7 : Int32))), .unset, .unset] [(.int p3)])) t
    refine X0_13.ldcInt hx hown (mvT hZ (hw _ (List.mem_of_getElem? (i := 5) rfl))) (g := (mkF m 77 #[.val (.int p0), .val (.long q1), .second, .val (.int p2), .val (.int p3), .val (.ref b0_1), .val (.int (own_irem (p2 &&& (2147483647 : Int32)) (7 : Int32))), .unset, .unset] [(.int p3)])) rfl (hb hby at_77) _ ?_
    show Steps p.tables e below (T0_13.setTop (mkF m 79 #[.val (.int p0), .val (.long q1), .second, .val (.int p2), .val (.int p3), .val (.ref b0_1), .val (.int (own_irem (p2 &&& (2147483647 : Int32)) (7 : Int32))), .unset, .unset] [(.int (2147483647 : Int32)), (.int p3)])) t
    refine XS.iand X0_13.here hx rfl (hb hby at_79) rfl ?_
    show Steps p.tables e below (T0_13.setTop (mkF m 80 #[.val (.int p0), .val (.long q1), .second, .val (.int p2), .val (.int p3), .val (.ref b0_1), .val (.int (own_irem (p2 &&& (2147483647 : Int32)) (7 : Int32))), .unset, .unset] [(.int (p3 &&& (2147483647 : Int32)))])) t
    refine XS.bipush X0_13.here hx rfl (hb hby at_80) ?_
    show Steps p.tables e below (T0_13.setTop (mkF m 82 #[.val (.int p0), .val (.long q1), .second, .val (.int p2), .val (.int p3), .val (.ref b0_1), .val (.int (own_irem (p2 &&& (2147483647 : Int32)) (7 : Int32))), .unset, .unset] [(.int (7 : Int32)), (.int (p3 &&& (2147483647 : Int32)))])) t
    refine XS.irem X0_13.here hx rfl (hb hby at_82) rfl (by decide) ?_
    show Steps p.tables e below (T0_13.setTop (mkF m 83 #[.val (.int p0), .val (.long q1), .second, .val (.int p2), .val (.int p3), .val (.ref b0_1), .val (.int (own_irem (p2 &&& (2147483647 : Int32)) (7 : Int32))), .unset, .unset] [(.int (own_irem (p3 &&& (2147483647 : Int32)) (7 : Int32)))])) t
    refine XS.istore X0_13.here hx rfl (hb hby at_83) rfl (l' := #[.val (.int p0), .val (.long q1), .second, .val (.int p2), .val (.int p3), .val (.ref b0_1), .val (.int (own_irem (p2 &&& (2147483647 : Int32)) (7 : Int32))), .val (.int (own_irem (p3 &&& (2147483647 : Int32)) (7 : Int32))), .unset]) rfl ?_
    show Steps p.tables e below (T0_13.setTop (mkF m 85 #[.val (.int p0), .val (.long q1), .second, .val (.int p2), .val (.int p3), .val (.ref b0_1), .val (.int (own_irem (p2 &&& (2147483647 : Int32)) (7 : Int32))), .val (.int (own_irem (p3 &&& (2147483647 : Int32)) (7 : Int32))), .unset] [])) t
    refine XS.aload X0_13.here hx rfl (hb hby at_85) rfl rfl ?_
    show Steps p.tables e below (T0_13.setTop (mkF m 87 #[.val (.int p0), .val (.long q1), .second, .val (.int p2), .val (.int p3), .val (.ref b0_1), .val (.int (own_irem (p2 &&& (2147483647 : Int32)) (7 : Int32))), .val (.int (own_irem (p3 &&& (2147483647 : Int32)) (7 : Int32))), .unset] [(.ref b0_1)])) t
    refine XS.iconst X0_13.here hx rfl (hb hby at_87) ?_
    show Steps p.tables e below (T0_13.setTop (mkF m 88 #[.val (.int p0), .val (.long q1), .second, .val (.int p2), .val (.int p3), .val (.ref b0_1), .val (.int (own_irem (p2 &&& (2147483647 : Int32)) (7 : Int32))), .val (.int (own_irem (p3 &&& (2147483647 : Int32)) (7 : Int32))), .unset] [(.int (0 : Int32)), (.ref b0_1)])) t
    refine XS.iload X0_13.here hx rfl (hb hby at_88) rfl ?_
    show Steps p.tables e below (T0_13.setTop (mkF m 90 #[.val (.int p0), .val (.long q1), .second, .val (.int p2), .val (.int p3), .val (.ref b0_1), .val (.int (own_irem (p2 &&& (2147483647 : Int32)) (7 : Int32))), .val (.int (own_irem (p3 &&& (2147483647 : Int32)) (7 : Int32))), .unset] [(.int (own_irem (p2 &&& (2147483647 : Int32)) (7 : Int32))), (.int (0 : Int32)), (.ref b0_1)])) t
    refine XS.iload X0_13.here hx rfl (hb hby at_90) rfl ?_
    exact k
  obtain ⟨_, _, ⟨T0_14, L0_14, k0_14, n0_14⟩, -, X0_14, ⟨Lc0_14, hQ0_14, l0_14, y0_14, z0_14⟩, st0_14⟩ := Jvm.LawKit.callS X0_13 hx (y := (⟨"com/example/finalmark/finalmark/RequestHeadEndPinLaw", "hit", "([BIII)Z"⟩ : MethodName)) hown (mvT hZ (hw _ (List.mem_of_getElem? (i := 6) rfl))) (mvT hZ (hw _ (List.mem_of_getElem? (i := 7) rfl))) (mvT hZ (hw _ (List.mem_of_getElem? (i := 3) rfl))) (mvT hZ (hw _ (List.mem_of_getElem? (i := 8) rfl))) (by decide) (backOf (W := 0) (rmH0 l Z a0 hw [] b0_1 (own_irem (p2 &&& (2147483647 : Int32)) (7 : Int32)) (own_irem (p3 &&& (2147483647 : Int32)) (7 : Int32)) k0_1 (nar .byte (pickF p0 q1 (0 : Int32))) (nar .byte (pickF p0 q1 (1 : Int32))) (nar .byte (pickF p0 q1 (2 : Int32))) (nar .byte (pickF p0 q1 (3 : Int32))) (nar .byte (pickF p0 q1 (4 : Int32))) (nar .byte (pickF p0 q1 (5 : Int32))) h0_13 n0 (Nat.le_trans (Nat.le_trans (Nat.le_trans (Nat.le_trans (Nat.le_trans (Nat.le_trans (Nat.le_trans Z0 E0_1.1) (Keep.of_wr W0_3).1) (Keep.of_wr W0_5).1) (Keep.of_wr W0_7).1) (Keep.of_wr W0_9).1) (Keep.of_wr W0_11).1) (Keep.of_wr W0_13).1) V0_13) hZ (hw _ (List.mem_of_getElem? (i := 8) rfl)) (hw _ (List.mem_of_getElem? (i := 3) rfl)) (by decide) (by decide)) (g := (mkF m 92 #[.val (.int p0), .val (.long q1), .second, .val (.int p2), .val (.int p3), .val (.ref b0_1), .val (.int (own_irem (p2 &&& (2147483647 : Int32)) (7 : Int32))), .val (.int (own_irem (p3 &&& (2147483647 : Int32)) (7 : Int32))), .unset] [(.int (own_irem (p3 &&& (2147483647 : Int32)) (7 : Int32))), (.int (own_irem (p2 &&& (2147483647 : Int32)) (7 : Int32))), (.int (0 : Int32)), (.ref b0_1)])) rfl (by rw [hml]; rfl) (argsL := [(.ref b0_1), (.int (0 : Int32)), (.int (own_irem (p2 &&& (2147483647 : Int32)) (7 : Int32))), (.int (own_irem (p3 &&& (2147483647 : Int32)) (7 : Int32)))]) (rest := []) (lenOf pd0_1 rfl) rfl (by show 2 * 0 + _ ≤ _; exact Nat.le_of_eq rfl) (hb hby at_92) (fun _ _ => ⟨rfl, e0_13, (by decide : 1 + 0 ≤ _), (by decide : 6 + 0 ≤ _)⟩)
  dsimp only [Pt.U, Pt.locs, Pt.cells, Pt.slots] at X0_14 l0_14 y0_14 z0_14 st0_14 hQ0_14
  subst l0_14 y0_14 z0_14
  obtain ⟨rfl, N0_14q, e0_14⟩ := hQ0_14
  have N0_14 := Fr.app N0_13 N0_14q
  refine own_fw st0_14 ?_
  by_cases hc0_1 : (hF0 (nar .byte (pickF p0 q1 (0 : Int32))) (nar .byte (pickF p0 q1 (1 : Int32))) (nar .byte (pickF p0 q1 (2 : Int32))) (nar .byte (pickF p0 q1 (3 : Int32))) (nar .byte (pickF p0 q1 (4 : Int32))) (nar .byte (pickF p0 q1 (5 : Int32))) (own_irem (p2 &&& (2147483647 : Int32)) (7 : Int32)) (own_irem (p3 &&& (2147483647 : Int32)) (7 : Int32))) = (0 : Int32)
  · refine own_fw (A := T0_14.setTop (mkF m 104 #[.val (.int p0), .val (.long q1), .second, .val (.int p2), .val (.int p3), .val (.ref b0_1), .val (.int (own_irem (p2 &&& (2147483647 : Int32)) (7 : Int32))), .val (.int (own_irem (p3 &&& (2147483647 : Int32)) (7 : Int32))), .unset] [])) (fun t k => ?_) ?_
    · show Steps p.tables e below (T0_14.setTop (mkF m 95 #[.val (.int p0), .val (.long q1), .second, .val (.int p2), .val (.int p3), .val (.ref b0_1), .val (.int (own_irem (p2 &&& (2147483647 : Int32)) (7 : Int32))), .val (.int (own_irem (p3 &&& (2147483647 : Int32)) (7 : Int32))), .unset] [(.int (hF0 (nar .byte (pickF p0 q1 (0 : Int32))) (nar .byte (pickF p0 q1 (1 : Int32))) (nar .byte (pickF p0 q1 (2 : Int32))) (nar .byte (pickF p0 q1 (3 : Int32))) (nar .byte (pickF p0 q1 (4 : Int32))) (nar .byte (pickF p0 q1 (5 : Int32))) (own_irem (p2 &&& (2147483647 : Int32)) (7 : Int32)) (own_irem (p3 &&& (2147483647 : Int32)) (7 : Int32))))])) t
      refine XS.ifYes X0_14.here hx rfl (pc0 := 95) (pc' := 104) rfl (hb hby at_95) rfl ((if0 _ _).trans (teq hc0_1).1) (by decide) (by decide) ?_
      exact k
    refine own_fw (A := T0_14.setTop (mkF m 111 #[.val (.int p0), .val (.long q1), .second, .val (.int p2), .val (.int p3), .val (.ref b0_1), .val (.int (own_irem (p2 &&& (2147483647 : Int32)) (7 : Int32))), .val (.int (own_irem (p3 &&& (2147483647 : Int32)) (7 : Int32))), .unset] [(.int (own_irem (p3 &&& (2147483647 : Int32)) (7 : Int32))), (.int (own_irem (p2 &&& (2147483647 : Int32)) (7 : Int32))), (.int (1 : Int32)), (.ref b0_1)])) (fun t k => ?_) ?_
    · show Steps p.tables e below (T0_14.setTop (mkF m 104 #[.val (.int p0), .val (.long q1), .second, .val (.int p2), .val (.int p3), .val (.ref b0_1), .val (.int (own_irem (p2 &&& (2147483647 : Int32)) (7 : Int32))), .val (.int (own_irem (p3 &&& (2147483647 : Int32)) (7 : Int32))), .unset] [])) t
      refine XS.aload X0_14.here hx rfl (hb hby at_104) rfl rfl ?_
      show Steps p.tables e below (T0_14.setTop (mkF m 106 #[.val (.int p0), .val (.long q1), .second, .val (.int p2), .val (.int p3), .val (.ref b0_1), .val (.int (own_irem (p2 &&& (2147483647 : Int32)) (7 : Int32))), .val (.int (own_irem (p3 &&& (2147483647 : Int32)) (7 : Int32))), .unset] [(.ref b0_1)])) t
      refine XS.iconst X0_14.here hx rfl (hb hby at_106) ?_
      show Steps p.tables e below (T0_14.setTop (mkF m 107 #[.val (.int p0), .val (.long q1), .second, .val (.int p2), .val (.int p3), .val (.ref b0_1), .val (.int (own_irem (p2 &&& (2147483647 : Int32)) (7 : Int32))), .val (.int (own_irem (p3 &&& (2147483647 : Int32)) (7 : Int32))), .unset] [(.int (1 : Int32)), (.ref b0_1)])) t
      refine XS.iload X0_14.here hx rfl (hb hby at_107) rfl ?_
      show Steps p.tables e below (T0_14.setTop (mkF m 109 #[.val (.int p0), .val (.long q1), .second, .val (.int p2), .val (.int p3), .val (.ref b0_1), .val (.int (own_irem (p2 &&& (2147483647 : Int32)) (7 : Int32))), .val (.int (own_irem (p3 &&& (2147483647 : Int32)) (7 : Int32))), .unset] [(.int (own_irem (p2 &&& (2147483647 : Int32)) (7 : Int32))), (.int (1 : Int32)), (.ref b0_1)])) t
      refine XS.iload X0_14.here hx rfl (hb hby at_109) rfl ?_
      exact k
    obtain ⟨_, _, ⟨T0_15, L0_15, k0_15, n0_15⟩, -, X0_15, ⟨Lc0_15, hQ0_15, l0_15, y0_15, z0_15⟩, st0_15⟩ := Jvm.LawKit.callS X0_14 hx (y := (⟨"com/example/finalmark/finalmark/RequestHeadEndPinLaw", "hit", "([BIII)Z"⟩ : MethodName)) hown (mvT hZ (hw _ (List.mem_of_getElem? (i := 6) rfl))) (mvT hZ (hw _ (List.mem_of_getElem? (i := 7) rfl))) (mvT hZ (hw _ (List.mem_of_getElem? (i := 3) rfl))) (mvT hZ (hw _ (List.mem_of_getElem? (i := 8) rfl))) (by decide) (backOf (W := 0) (rmH1 l Z a0 hw [] b0_1 (own_irem (p2 &&& (2147483647 : Int32)) (7 : Int32)) (own_irem (p3 &&& (2147483647 : Int32)) (7 : Int32)) k0_1 (nar .byte (pickF p0 q1 (0 : Int32))) (nar .byte (pickF p0 q1 (1 : Int32))) (nar .byte (pickF p0 q1 (2 : Int32))) (nar .byte (pickF p0 q1 (3 : Int32))) (nar .byte (pickF p0 q1 (4 : Int32))) (nar .byte (pickF p0 q1 (5 : Int32))) h0_13 n0 (Nat.le_trans (Nat.le_trans (Nat.le_trans (Nat.le_trans (Nat.le_trans (Nat.le_trans (Nat.le_trans Z0 E0_1.1) (Keep.of_wr W0_3).1) (Keep.of_wr W0_5).1) (Keep.of_wr W0_7).1) (Keep.of_wr W0_9).1) (Keep.of_wr W0_11).1) (Keep.of_wr W0_13).1) V0_13) hZ (hw _ (List.mem_of_getElem? (i := 8) rfl)) (hw _ (List.mem_of_getElem? (i := 3) rfl)) (by decide) (by decide)) (g := (mkF m 111 #[.val (.int p0), .val (.long q1), .second, .val (.int p2), .val (.int p3), .val (.ref b0_1), .val (.int (own_irem (p2 &&& (2147483647 : Int32)) (7 : Int32))), .val (.int (own_irem (p3 &&& (2147483647 : Int32)) (7 : Int32))), .unset] [(.int (own_irem (p3 &&& (2147483647 : Int32)) (7 : Int32))), (.int (own_irem (p2 &&& (2147483647 : Int32)) (7 : Int32))), (.int (1 : Int32)), (.ref b0_1)])) rfl (by rw [hml]; rfl) (argsL := [(.ref b0_1), (.int (1 : Int32)), (.int (own_irem (p2 &&& (2147483647 : Int32)) (7 : Int32))), (.int (own_irem (p3 &&& (2147483647 : Int32)) (7 : Int32)))]) (rest := []) (lenOf pd0_1 rfl) rfl (by show 2 * 0 + _ ≤ _; exact Nat.le_of_eq rfl) (hb hby at_111) (fun _ _ => ⟨rfl, e0_14, (by decide : 1 + 0 ≤ _), (by decide : 6 + 0 ≤ _)⟩)
    dsimp only [Pt.U, Pt.locs, Pt.cells, Pt.slots] at X0_15 l0_15 y0_15 z0_15 st0_15 hQ0_15
    subst l0_15 y0_15 z0_15
    obtain ⟨rfl, N0_15q, e0_15⟩ := hQ0_15
    have N0_15 := Fr.app N0_14 N0_15q
    refine own_fw st0_15 ?_
    by_cases hc0_2 : (hF1 (nar .byte (pickF p0 q1 (0 : Int32))) (nar .byte (pickF p0 q1 (1 : Int32))) (nar .byte (pickF p0 q1 (2 : Int32))) (nar .byte (pickF p0 q1 (3 : Int32))) (nar .byte (pickF p0 q1 (4 : Int32))) (nar .byte (pickF p0 q1 (5 : Int32))) (own_irem (p2 &&& (2147483647 : Int32)) (7 : Int32)) (own_irem (p3 &&& (2147483647 : Int32)) (7 : Int32))) = (0 : Int32)
    · refine own_fw (A := T0_15.setTop (mkF m 123 #[.val (.int p0), .val (.long q1), .second, .val (.int p2), .val (.int p3), .val (.ref b0_1), .val (.int (own_irem (p2 &&& (2147483647 : Int32)) (7 : Int32))), .val (.int (own_irem (p3 &&& (2147483647 : Int32)) (7 : Int32))), .unset] [])) (fun t k => ?_) ?_
      · show Steps p.tables e below (T0_15.setTop (mkF m 114 #[.val (.int p0), .val (.long q1), .second, .val (.int p2), .val (.int p3), .val (.ref b0_1), .val (.int (own_irem (p2 &&& (2147483647 : Int32)) (7 : Int32))), .val (.int (own_irem (p3 &&& (2147483647 : Int32)) (7 : Int32))), .unset] [(.int (hF1 (nar .byte (pickF p0 q1 (0 : Int32))) (nar .byte (pickF p0 q1 (1 : Int32))) (nar .byte (pickF p0 q1 (2 : Int32))) (nar .byte (pickF p0 q1 (3 : Int32))) (nar .byte (pickF p0 q1 (4 : Int32))) (nar .byte (pickF p0 q1 (5 : Int32))) (own_irem (p2 &&& (2147483647 : Int32)) (7 : Int32)) (own_irem (p3 &&& (2147483647 : Int32)) (7 : Int32))))])) t
        refine XS.ifYes X0_15.here hx rfl (pc0 := 114) (pc' := 123) rfl (hb hby at_114) rfl ((if0 _ _).trans (teq hc0_2).1) (by decide) (by decide) ?_
        exact k
      refine own_fw (A := T0_15.setTop (mkF m 130 #[.val (.int p0), .val (.long q1), .second, .val (.int p2), .val (.int p3), .val (.ref b0_1), .val (.int (own_irem (p2 &&& (2147483647 : Int32)) (7 : Int32))), .val (.int (own_irem (p3 &&& (2147483647 : Int32)) (7 : Int32))), .unset] [(.int (own_irem (p3 &&& (2147483647 : Int32)) (7 : Int32))), (.int (own_irem (p2 &&& (2147483647 : Int32)) (7 : Int32))), (.int (2 : Int32)), (.ref b0_1)])) (fun t k => ?_) ?_
      · show Steps p.tables e below (T0_15.setTop (mkF m 123 #[.val (.int p0), .val (.long q1), .second, .val (.int p2), .val (.int p3), .val (.ref b0_1), .val (.int (own_irem (p2 &&& (2147483647 : Int32)) (7 : Int32))), .val (.int (own_irem (p3 &&& (2147483647 : Int32)) (7 : Int32))), .unset] [])) t
        refine XS.aload X0_15.here hx rfl (hb hby at_123) rfl rfl ?_
        show Steps p.tables e below (T0_15.setTop (mkF m 125 #[.val (.int p0), .val (.long q1), .second, .val (.int p2), .val (.int p3), .val (.ref b0_1), .val (.int (own_irem (p2 &&& (2147483647 : Int32)) (7 : Int32))), .val (.int (own_irem (p3 &&& (2147483647 : Int32)) (7 : Int32))), .unset] [(.ref b0_1)])) t
        refine XS.iconst X0_15.here hx rfl (hb hby at_125) ?_
        show Steps p.tables e below (T0_15.setTop (mkF m 126 #[.val (.int p0), .val (.long q1), .second, .val (.int p2), .val (.int p3), .val (.ref b0_1), .val (.int (own_irem (p2 &&& (2147483647 : Int32)) (7 : Int32))), .val (.int (own_irem (p3 &&& (2147483647 : Int32)) (7 : Int32))), .unset] [(.int (2 : Int32)), (.ref b0_1)])) t
        refine XS.iload X0_15.here hx rfl (hb hby at_126) rfl ?_
        show Steps p.tables e below (T0_15.setTop (mkF m 128 #[.val (.int p0), .val (.long q1), .second, .val (.int p2), .val (.int p3), .val (.ref b0_1), .val (.int (own_irem (p2 &&& (2147483647 : Int32)) (7 : Int32))), .val (.int (own_irem (p3 &&& (2147483647 : Int32)) (7 : Int32))), .unset] [(.int (own_irem (p2 &&& (2147483647 : Int32)) (7 : Int32))), (.int (2 : Int32)), (.ref b0_1)])) t
        refine XS.iload X0_15.here hx rfl (hb hby at_128) rfl ?_
        exact k
      obtain ⟨_, _, ⟨T0_16, L0_16, k0_16, n0_16⟩, -, X0_16, ⟨Lc0_16, hQ0_16, l0_16, y0_16, z0_16⟩, st0_16⟩ := Jvm.LawKit.callS X0_15 hx (y := (⟨"com/example/finalmark/finalmark/RequestHeadEndPinLaw", "hit", "([BIII)Z"⟩ : MethodName)) hown (mvT hZ (hw _ (List.mem_of_getElem? (i := 6) rfl))) (mvT hZ (hw _ (List.mem_of_getElem? (i := 7) rfl))) (mvT hZ (hw _ (List.mem_of_getElem? (i := 3) rfl))) (mvT hZ (hw _ (List.mem_of_getElem? (i := 8) rfl))) (by decide) (backOf (W := 0) (rmH2 l Z a0 hw [] b0_1 (own_irem (p2 &&& (2147483647 : Int32)) (7 : Int32)) (own_irem (p3 &&& (2147483647 : Int32)) (7 : Int32)) k0_1 (nar .byte (pickF p0 q1 (0 : Int32))) (nar .byte (pickF p0 q1 (1 : Int32))) (nar .byte (pickF p0 q1 (2 : Int32))) (nar .byte (pickF p0 q1 (3 : Int32))) (nar .byte (pickF p0 q1 (4 : Int32))) (nar .byte (pickF p0 q1 (5 : Int32))) h0_13 n0 (Nat.le_trans (Nat.le_trans (Nat.le_trans (Nat.le_trans (Nat.le_trans (Nat.le_trans (Nat.le_trans Z0 E0_1.1) (Keep.of_wr W0_3).1) (Keep.of_wr W0_5).1) (Keep.of_wr W0_7).1) (Keep.of_wr W0_9).1) (Keep.of_wr W0_11).1) (Keep.of_wr W0_13).1) V0_13) hZ (hw _ (List.mem_of_getElem? (i := 8) rfl)) (hw _ (List.mem_of_getElem? (i := 3) rfl)) (by decide) (by decide)) (g := (mkF m 130 #[.val (.int p0), .val (.long q1), .second, .val (.int p2), .val (.int p3), .val (.ref b0_1), .val (.int (own_irem (p2 &&& (2147483647 : Int32)) (7 : Int32))), .val (.int (own_irem (p3 &&& (2147483647 : Int32)) (7 : Int32))), .unset] [(.int (own_irem (p3 &&& (2147483647 : Int32)) (7 : Int32))), (.int (own_irem (p2 &&& (2147483647 : Int32)) (7 : Int32))), (.int (2 : Int32)), (.ref b0_1)])) rfl (by rw [hml]; rfl) (argsL := [(.ref b0_1), (.int (2 : Int32)), (.int (own_irem (p2 &&& (2147483647 : Int32)) (7 : Int32))), (.int (own_irem (p3 &&& (2147483647 : Int32)) (7 : Int32)))]) (rest := []) (lenOf pd0_1 rfl) rfl (by show 2 * 0 + _ ≤ _; exact Nat.le_of_eq rfl) (hb hby at_130) (fun _ _ => ⟨rfl, e0_15, (by decide : 1 + 0 ≤ _), (by decide : 6 + 0 ≤ _)⟩)
      dsimp only [Pt.U, Pt.locs, Pt.cells, Pt.slots] at X0_16 l0_16 y0_16 z0_16 st0_16 hQ0_16
      subst l0_16 y0_16 z0_16
      obtain ⟨rfl, N0_16q, e0_16⟩ := hQ0_16
      have N0_16 := Fr.app N0_15 N0_16q
      refine own_fw st0_16 ?_
      by_cases hc0_3 : (hF2 (nar .byte (pickF p0 q1 (0 : Int32))) (nar .byte (pickF p0 q1 (1 : Int32))) (nar .byte (pickF p0 q1 (2 : Int32))) (nar .byte (pickF p0 q1 (3 : Int32))) (nar .byte (pickF p0 q1 (4 : Int32))) (nar .byte (pickF p0 q1 (5 : Int32))) (own_irem (p2 &&& (2147483647 : Int32)) (7 : Int32)) (own_irem (p3 &&& (2147483647 : Int32)) (7 : Int32))) = (0 : Int32)
      · refine own_fw (A := T0_16.setTop (mkF m 142 #[.val (.int p0), .val (.long q1), .second, .val (.int p2), .val (.int p3), .val (.ref b0_1), .val (.int (own_irem (p2 &&& (2147483647 : Int32)) (7 : Int32))), .val (.int (own_irem (p3 &&& (2147483647 : Int32)) (7 : Int32))), .unset] [])) (fun t k => ?_) ?_
        · show Steps p.tables e below (T0_16.setTop (mkF m 133 #[.val (.int p0), .val (.long q1), .second, .val (.int p2), .val (.int p3), .val (.ref b0_1), .val (.int (own_irem (p2 &&& (2147483647 : Int32)) (7 : Int32))), .val (.int (own_irem (p3 &&& (2147483647 : Int32)) (7 : Int32))), .unset] [(.int (hF2 (nar .byte (pickF p0 q1 (0 : Int32))) (nar .byte (pickF p0 q1 (1 : Int32))) (nar .byte (pickF p0 q1 (2 : Int32))) (nar .byte (pickF p0 q1 (3 : Int32))) (nar .byte (pickF p0 q1 (4 : Int32))) (nar .byte (pickF p0 q1 (5 : Int32))) (own_irem (p2 &&& (2147483647 : Int32)) (7 : Int32)) (own_irem (p3 &&& (2147483647 : Int32)) (7 : Int32))))])) t
          refine XS.ifYes X0_16.here hx rfl (pc0 := 133) (pc' := 142) rfl (hb hby at_133) rfl ((if0 _ _).trans (teq hc0_3).1) (by decide) (by decide) ?_
          exact k
        refine own_fw (A := T0_16.setTop (mkF m 149 #[.val (.int p0), .val (.long q1), .second, .val (.int p2), .val (.int p3), .val (.ref b0_1), .val (.int (own_irem (p2 &&& (2147483647 : Int32)) (7 : Int32))), .val (.int (own_irem (p3 &&& (2147483647 : Int32)) (7 : Int32))), .unset] [(.int (own_irem (p3 &&& (2147483647 : Int32)) (7 : Int32))), (.int (own_irem (p2 &&& (2147483647 : Int32)) (7 : Int32))), (.int (3 : Int32)), (.ref b0_1)])) (fun t k => ?_) ?_
        · show Steps p.tables e below (T0_16.setTop (mkF m 142 #[.val (.int p0), .val (.long q1), .second, .val (.int p2), .val (.int p3), .val (.ref b0_1), .val (.int (own_irem (p2 &&& (2147483647 : Int32)) (7 : Int32))), .val (.int (own_irem (p3 &&& (2147483647 : Int32)) (7 : Int32))), .unset] [])) t
          refine XS.aload X0_16.here hx rfl (hb hby at_142) rfl rfl ?_
          show Steps p.tables e below (T0_16.setTop (mkF m 144 #[.val (.int p0), .val (.long q1), .second, .val (.int p2), .val (.int p3), .val (.ref b0_1), .val (.int (own_irem (p2 &&& (2147483647 : Int32)) (7 : Int32))), .val (.int (own_irem (p3 &&& (2147483647 : Int32)) (7 : Int32))), .unset] [(.ref b0_1)])) t
          refine XS.iconst X0_16.here hx rfl (hb hby at_144) ?_
          show Steps p.tables e below (T0_16.setTop (mkF m 145 #[.val (.int p0), .val (.long q1), .second, .val (.int p2), .val (.int p3), .val (.ref b0_1), .val (.int (own_irem (p2 &&& (2147483647 : Int32)) (7 : Int32))), .val (.int (own_irem (p3 &&& (2147483647 : Int32)) (7 : Int32))), .unset] [(.int (3 : Int32)), (.ref b0_1)])) t
          refine XS.iload X0_16.here hx rfl (hb hby at_145) rfl ?_
          show Steps p.tables e below (T0_16.setTop (mkF m 147 #[.val (.int p0), .val (.long q1), .second, .val (.int p2), .val (.int p3), .val (.ref b0_1), .val (.int (own_irem (p2 &&& (2147483647 : Int32)) (7 : Int32))), .val (.int (own_irem (p3 &&& (2147483647 : Int32)) (7 : Int32))), .unset] [(.int (own_irem (p2 &&& (2147483647 : Int32)) (7 : Int32))), (.int (3 : Int32)), (.ref b0_1)])) t
          refine XS.iload X0_16.here hx rfl (hb hby at_147) rfl ?_
          exact k
        obtain ⟨_, _, ⟨T0_17, L0_17, k0_17, n0_17⟩, -, X0_17, ⟨Lc0_17, hQ0_17, l0_17, y0_17, z0_17⟩, st0_17⟩ := Jvm.LawKit.callS X0_16 hx (y := (⟨"com/example/finalmark/finalmark/RequestHeadEndPinLaw", "hit", "([BIII)Z"⟩ : MethodName)) hown (mvT hZ (hw _ (List.mem_of_getElem? (i := 6) rfl))) (mvT hZ (hw _ (List.mem_of_getElem? (i := 7) rfl))) (mvT hZ (hw _ (List.mem_of_getElem? (i := 3) rfl))) (mvT hZ (hw _ (List.mem_of_getElem? (i := 8) rfl))) (by decide) (backOf (W := 0) (rmH3 l Z a0 hw [] b0_1 (own_irem (p2 &&& (2147483647 : Int32)) (7 : Int32)) (own_irem (p3 &&& (2147483647 : Int32)) (7 : Int32)) k0_1 (nar .byte (pickF p0 q1 (0 : Int32))) (nar .byte (pickF p0 q1 (1 : Int32))) (nar .byte (pickF p0 q1 (2 : Int32))) (nar .byte (pickF p0 q1 (3 : Int32))) (nar .byte (pickF p0 q1 (4 : Int32))) (nar .byte (pickF p0 q1 (5 : Int32))) h0_13 n0 (Nat.le_trans (Nat.le_trans (Nat.le_trans (Nat.le_trans (Nat.le_trans (Nat.le_trans (Nat.le_trans Z0 E0_1.1) (Keep.of_wr W0_3).1) (Keep.of_wr W0_5).1) (Keep.of_wr W0_7).1) (Keep.of_wr W0_9).1) (Keep.of_wr W0_11).1) (Keep.of_wr W0_13).1) V0_13) hZ (hw _ (List.mem_of_getElem? (i := 8) rfl)) (hw _ (List.mem_of_getElem? (i := 3) rfl)) (by decide) (by decide)) (g := (mkF m 149 #[.val (.int p0), .val (.long q1), .second, .val (.int p2), .val (.int p3), .val (.ref b0_1), .val (.int (own_irem (p2 &&& (2147483647 : Int32)) (7 : Int32))), .val (.int (own_irem (p3 &&& (2147483647 : Int32)) (7 : Int32))), .unset] [(.int (own_irem (p3 &&& (2147483647 : Int32)) (7 : Int32))), (.int (own_irem (p2 &&& (2147483647 : Int32)) (7 : Int32))), (.int (3 : Int32)), (.ref b0_1)])) rfl (by rw [hml]; rfl) (argsL := [(.ref b0_1), (.int (3 : Int32)), (.int (own_irem (p2 &&& (2147483647 : Int32)) (7 : Int32))), (.int (own_irem (p3 &&& (2147483647 : Int32)) (7 : Int32)))]) (rest := []) (lenOf pd0_1 rfl) rfl (by show 2 * 0 + _ ≤ _; exact Nat.le_of_eq rfl) (hb hby at_149) (fun _ _ => ⟨rfl, e0_16, (by decide : 1 + 0 ≤ _), (by decide : 6 + 0 ≤ _)⟩)
        dsimp only [Pt.U, Pt.locs, Pt.cells, Pt.slots] at X0_17 l0_17 y0_17 z0_17 st0_17 hQ0_17
        subst l0_17 y0_17 z0_17
        obtain ⟨rfl, N0_17q, e0_17⟩ := hQ0_17
        have N0_17 := Fr.app N0_16 N0_17q
        refine own_fw st0_17 ?_
        by_cases hc0_4 : (hF3 (nar .byte (pickF p0 q1 (0 : Int32))) (nar .byte (pickF p0 q1 (1 : Int32))) (nar .byte (pickF p0 q1 (2 : Int32))) (nar .byte (pickF p0 q1 (3 : Int32))) (nar .byte (pickF p0 q1 (4 : Int32))) (nar .byte (pickF p0 q1 (5 : Int32))) (own_irem (p2 &&& (2147483647 : Int32)) (7 : Int32)) (own_irem (p3 &&& (2147483647 : Int32)) (7 : Int32))) = (0 : Int32)
        · refine own_fw (A := T0_17.setTop (mkF m 161 #[.val (.int p0), .val (.long q1), .second, .val (.int p2), .val (.int p3), .val (.ref b0_1), .val (.int (own_irem (p2 &&& (2147483647 : Int32)) (7 : Int32))), .val (.int (own_irem (p3 &&& (2147483647 : Int32)) (7 : Int32))), .unset] [])) (fun t k => ?_) ?_
          · show Steps p.tables e below (T0_17.setTop (mkF m 152 #[.val (.int p0), .val (.long q1), .second, .val (.int p2), .val (.int p3), .val (.ref b0_1), .val (.int (own_irem (p2 &&& (2147483647 : Int32)) (7 : Int32))), .val (.int (own_irem (p3 &&& (2147483647 : Int32)) (7 : Int32))), .unset] [(.int (hF3 (nar .byte (pickF p0 q1 (0 : Int32))) (nar .byte (pickF p0 q1 (1 : Int32))) (nar .byte (pickF p0 q1 (2 : Int32))) (nar .byte (pickF p0 q1 (3 : Int32))) (nar .byte (pickF p0 q1 (4 : Int32))) (nar .byte (pickF p0 q1 (5 : Int32))) (own_irem (p2 &&& (2147483647 : Int32)) (7 : Int32)) (own_irem (p3 &&& (2147483647 : Int32)) (7 : Int32))))])) t
            refine XS.ifYes X0_17.here hx rfl (pc0 := 152) (pc' := 161) rfl (hb hby at_152) rfl ((if0 _ _).trans (teq hc0_4).1) (by decide) (by decide) ?_
            exact k
          refine own_fw (A := T0_17.setTop (mkF m 168 #[.val (.int p0), .val (.long q1), .second, .val (.int p2), .val (.int p3), .val (.ref b0_1), .val (.int (own_irem (p2 &&& (2147483647 : Int32)) (7 : Int32))), .val (.int (own_irem (p3 &&& (2147483647 : Int32)) (7 : Int32))), .unset] [(.int (own_irem (p3 &&& (2147483647 : Int32)) (7 : Int32))), (.int (own_irem (p2 &&& (2147483647 : Int32)) (7 : Int32))), (.int (4 : Int32)), (.ref b0_1)])) (fun t k => ?_) ?_
          · show Steps p.tables e below (T0_17.setTop (mkF m 161 #[.val (.int p0), .val (.long q1), .second, .val (.int p2), .val (.int p3), .val (.ref b0_1), .val (.int (own_irem (p2 &&& (2147483647 : Int32)) (7 : Int32))), .val (.int (own_irem (p3 &&& (2147483647 : Int32)) (7 : Int32))), .unset] [])) t
            refine XS.aload X0_17.here hx rfl (hb hby at_161) rfl rfl ?_
            show Steps p.tables e below (T0_17.setTop (mkF m 163 #[.val (.int p0), .val (.long q1), .second, .val (.int p2), .val (.int p3), .val (.ref b0_1), .val (.int (own_irem (p2 &&& (2147483647 : Int32)) (7 : Int32))), .val (.int (own_irem (p3 &&& (2147483647 : Int32)) (7 : Int32))), .unset] [(.ref b0_1)])) t
            refine XS.iconst X0_17.here hx rfl (hb hby at_163) ?_
            show Steps p.tables e below (T0_17.setTop (mkF m 164 #[.val (.int p0), .val (.long q1), .second, .val (.int p2), .val (.int p3), .val (.ref b0_1), .val (.int (own_irem (p2 &&& (2147483647 : Int32)) (7 : Int32))), .val (.int (own_irem (p3 &&& (2147483647 : Int32)) (7 : Int32))), .unset] [(.int (4 : Int32)), (.ref b0_1)])) t
            refine XS.iload X0_17.here hx rfl (hb hby at_164) rfl ?_
            show Steps p.tables e below (T0_17.setTop (mkF m 166 #[.val (.int p0), .val (.long q1), .second, .val (.int p2), .val (.int p3), .val (.ref b0_1), .val (.int (own_irem (p2 &&& (2147483647 : Int32)) (7 : Int32))), .val (.int (own_irem (p3 &&& (2147483647 : Int32)) (7 : Int32))), .unset] [(.int (own_irem (p2 &&& (2147483647 : Int32)) (7 : Int32))), (.int (4 : Int32)), (.ref b0_1)])) t
            refine XS.iload X0_17.here hx rfl (hb hby at_166) rfl ?_
            exact k
          obtain ⟨_, _, ⟨T0_18, L0_18, k0_18, n0_18⟩, -, X0_18, ⟨Lc0_18, hQ0_18, l0_18, y0_18, z0_18⟩, st0_18⟩ := Jvm.LawKit.callS X0_17 hx (y := (⟨"com/example/finalmark/finalmark/RequestHeadEndPinLaw", "hit", "([BIII)Z"⟩ : MethodName)) hown (mvT hZ (hw _ (List.mem_of_getElem? (i := 6) rfl))) (mvT hZ (hw _ (List.mem_of_getElem? (i := 7) rfl))) (mvT hZ (hw _ (List.mem_of_getElem? (i := 3) rfl))) (mvT hZ (hw _ (List.mem_of_getElem? (i := 8) rfl))) (by decide) (backOf (W := 0) (rmH4 l Z a0 hw [] b0_1 (own_irem (p2 &&& (2147483647 : Int32)) (7 : Int32)) (own_irem (p3 &&& (2147483647 : Int32)) (7 : Int32)) k0_1 (nar .byte (pickF p0 q1 (0 : Int32))) (nar .byte (pickF p0 q1 (1 : Int32))) (nar .byte (pickF p0 q1 (2 : Int32))) (nar .byte (pickF p0 q1 (3 : Int32))) (nar .byte (pickF p0 q1 (4 : Int32))) (nar .byte (pickF p0 q1 (5 : Int32))) h0_13 n0 (Nat.le_trans (Nat.le_trans (Nat.le_trans (Nat.le_trans (Nat.le_trans (Nat.le_trans (Nat.le_trans Z0 E0_1.1) (Keep.of_wr W0_3).1) (Keep.of_wr W0_5).1) (Keep.of_wr W0_7).1) (Keep.of_wr W0_9).1) (Keep.of_wr W0_11).1) (Keep.of_wr W0_13).1) V0_13) hZ (hw _ (List.mem_of_getElem? (i := 8) rfl)) (hw _ (List.mem_of_getElem? (i := 3) rfl)) (by decide) (by decide)) (g := (mkF m 168 #[.val (.int p0), .val (.long q1), .second, .val (.int p2), .val (.int p3), .val (.ref b0_1), .val (.int (own_irem (p2 &&& (2147483647 : Int32)) (7 : Int32))), .val (.int (own_irem (p3 &&& (2147483647 : Int32)) (7 : Int32))), .unset] [(.int (own_irem (p3 &&& (2147483647 : Int32)) (7 : Int32))), (.int (own_irem (p2 &&& (2147483647 : Int32)) (7 : Int32))), (.int (4 : Int32)), (.ref b0_1)])) rfl (by rw [hml]; rfl) (argsL := [(.ref b0_1), (.int (4 : Int32)), (.int (own_irem (p2 &&& (2147483647 : Int32)) (7 : Int32))), (.int (own_irem (p3 &&& (2147483647 : Int32)) (7 : Int32)))]) (rest := []) (lenOf pd0_1 rfl) rfl (by show 2 * 0 + _ ≤ _; exact Nat.le_of_eq rfl) (hb hby at_168) (fun _ _ => ⟨rfl, e0_17, (by decide : 1 + 0 ≤ _), (by decide : 6 + 0 ≤ _)⟩)
          dsimp only [Pt.U, Pt.locs, Pt.cells, Pt.slots] at X0_18 l0_18 y0_18 z0_18 st0_18 hQ0_18
          subst l0_18 y0_18 z0_18
          obtain ⟨rfl, N0_18q, e0_18⟩ := hQ0_18
          have N0_18 := Fr.app N0_17 N0_18q
          refine own_fw st0_18 ?_
          by_cases hc0_5 : (hF4 (nar .byte (pickF p0 q1 (0 : Int32))) (nar .byte (pickF p0 q1 (1 : Int32))) (nar .byte (pickF p0 q1 (2 : Int32))) (nar .byte (pickF p0 q1 (3 : Int32))) (nar .byte (pickF p0 q1 (4 : Int32))) (nar .byte (pickF p0 q1 (5 : Int32))) (own_irem (p2 &&& (2147483647 : Int32)) (7 : Int32)) (own_irem (p3 &&& (2147483647 : Int32)) (7 : Int32))) = (0 : Int32)
          · refine own_fw (A := T0_18.setTop (mkF m 180 #[.val (.int p0), .val (.long q1), .second, .val (.int p2), .val (.int p3), .val (.ref b0_1), .val (.int (own_irem (p2 &&& (2147483647 : Int32)) (7 : Int32))), .val (.int (own_irem (p3 &&& (2147483647 : Int32)) (7 : Int32))), .unset] [])) (fun t k => ?_) ?_
            · show Steps p.tables e below (T0_18.setTop (mkF m 171 #[.val (.int p0), .val (.long q1), .second, .val (.int p2), .val (.int p3), .val (.ref b0_1), .val (.int (own_irem (p2 &&& (2147483647 : Int32)) (7 : Int32))), .val (.int (own_irem (p3 &&& (2147483647 : Int32)) (7 : Int32))), .unset] [(.int (hF4 (nar .byte (pickF p0 q1 (0 : Int32))) (nar .byte (pickF p0 q1 (1 : Int32))) (nar .byte (pickF p0 q1 (2 : Int32))) (nar .byte (pickF p0 q1 (3 : Int32))) (nar .byte (pickF p0 q1 (4 : Int32))) (nar .byte (pickF p0 q1 (5 : Int32))) (own_irem (p2 &&& (2147483647 : Int32)) (7 : Int32)) (own_irem (p3 &&& (2147483647 : Int32)) (7 : Int32))))])) t
              refine XS.ifYes X0_18.here hx rfl (pc0 := 171) (pc' := 180) rfl (hb hby at_171) rfl ((if0 _ _).trans (teq hc0_5).1) (by decide) (by decide) ?_
              exact k
            refine own_fw (A := T0_18.setTop (mkF m 187 #[.val (.int p0), .val (.long q1), .second, .val (.int p2), .val (.int p3), .val (.ref b0_1), .val (.int (own_irem (p2 &&& (2147483647 : Int32)) (7 : Int32))), .val (.int (own_irem (p3 &&& (2147483647 : Int32)) (7 : Int32))), .unset] [(.int (own_irem (p3 &&& (2147483647 : Int32)) (7 : Int32))), (.int (own_irem (p2 &&& (2147483647 : Int32)) (7 : Int32))), (.int (5 : Int32)), (.ref b0_1)])) (fun t k => ?_) ?_
            · show Steps p.tables e below (T0_18.setTop (mkF m 180 #[.val (.int p0), .val (.long q1), .second, .val (.int p2), .val (.int p3), .val (.ref b0_1), .val (.int (own_irem (p2 &&& (2147483647 : Int32)) (7 : Int32))), .val (.int (own_irem (p3 &&& (2147483647 : Int32)) (7 : Int32))), .unset] [])) t
              refine XS.aload X0_18.here hx rfl (hb hby at_180) rfl rfl ?_
              show Steps p.tables e below (T0_18.setTop (mkF m 182 #[.val (.int p0), .val (.long q1), .second, .val (.int p2), .val (.int p3), .val (.ref b0_1), .val (.int (own_irem (p2 &&& (2147483647 : Int32)) (7 : Int32))), .val (.int (own_irem (p3 &&& (2147483647 : Int32)) (7 : Int32))), .unset] [(.ref b0_1)])) t
              refine XS.iconst X0_18.here hx rfl (hb hby at_182) ?_
              show Steps p.tables e below (T0_18.setTop (mkF m 183 #[.val (.int p0), .val (.long q1), .second, .val (.int p2), .val (.int p3), .val (.ref b0_1), .val (.int (own_irem (p2 &&& (2147483647 : Int32)) (7 : Int32))), .val (.int (own_irem (p3 &&& (2147483647 : Int32)) (7 : Int32))), .unset] [(.int (5 : Int32)), (.ref b0_1)])) t
              refine XS.iload X0_18.here hx rfl (hb hby at_183) rfl ?_
              show Steps p.tables e below (T0_18.setTop (mkF m 185 #[.val (.int p0), .val (.long q1), .second, .val (.int p2), .val (.int p3), .val (.ref b0_1), .val (.int (own_irem (p2 &&& (2147483647 : Int32)) (7 : Int32))), .val (.int (own_irem (p3 &&& (2147483647 : Int32)) (7 : Int32))), .unset] [(.int (own_irem (p2 &&& (2147483647 : Int32)) (7 : Int32))), (.int (5 : Int32)), (.ref b0_1)])) t
              refine XS.iload X0_18.here hx rfl (hb hby at_185) rfl ?_
              exact k
            obtain ⟨_, _, ⟨T0_19, L0_19, k0_19, n0_19⟩, -, X0_19, ⟨Lc0_19, hQ0_19, l0_19, y0_19, z0_19⟩, st0_19⟩ := Jvm.LawKit.callS X0_18 hx (y := (⟨"com/example/finalmark/finalmark/RequestHeadEndPinLaw", "hit", "([BIII)Z"⟩ : MethodName)) hown (mvT hZ (hw _ (List.mem_of_getElem? (i := 6) rfl))) (mvT hZ (hw _ (List.mem_of_getElem? (i := 7) rfl))) (mvT hZ (hw _ (List.mem_of_getElem? (i := 3) rfl))) (mvT hZ (hw _ (List.mem_of_getElem? (i := 8) rfl))) (by decide) (backOf (W := 0) (rmH5 l Z a0 hw [] b0_1 (own_irem (p2 &&& (2147483647 : Int32)) (7 : Int32)) (own_irem (p3 &&& (2147483647 : Int32)) (7 : Int32)) k0_1 (nar .byte (pickF p0 q1 (0 : Int32))) (nar .byte (pickF p0 q1 (1 : Int32))) (nar .byte (pickF p0 q1 (2 : Int32))) (nar .byte (pickF p0 q1 (3 : Int32))) (nar .byte (pickF p0 q1 (4 : Int32))) (nar .byte (pickF p0 q1 (5 : Int32))) h0_13 n0 (Nat.le_trans (Nat.le_trans (Nat.le_trans (Nat.le_trans (Nat.le_trans (Nat.le_trans (Nat.le_trans Z0 E0_1.1) (Keep.of_wr W0_3).1) (Keep.of_wr W0_5).1) (Keep.of_wr W0_7).1) (Keep.of_wr W0_9).1) (Keep.of_wr W0_11).1) (Keep.of_wr W0_13).1) V0_13) hZ (hw _ (List.mem_of_getElem? (i := 8) rfl)) (hw _ (List.mem_of_getElem? (i := 3) rfl)) (by decide) (by decide)) (g := (mkF m 187 #[.val (.int p0), .val (.long q1), .second, .val (.int p2), .val (.int p3), .val (.ref b0_1), .val (.int (own_irem (p2 &&& (2147483647 : Int32)) (7 : Int32))), .val (.int (own_irem (p3 &&& (2147483647 : Int32)) (7 : Int32))), .unset] [(.int (own_irem (p3 &&& (2147483647 : Int32)) (7 : Int32))), (.int (own_irem (p2 &&& (2147483647 : Int32)) (7 : Int32))), (.int (5 : Int32)), (.ref b0_1)])) rfl (by rw [hml]; rfl) (argsL := [(.ref b0_1), (.int (5 : Int32)), (.int (own_irem (p2 &&& (2147483647 : Int32)) (7 : Int32))), (.int (own_irem (p3 &&& (2147483647 : Int32)) (7 : Int32)))]) (rest := []) (lenOf pd0_1 rfl) rfl (by show 2 * 0 + _ ≤ _; exact Nat.le_of_eq rfl) (hb hby at_187) (fun _ _ => ⟨rfl, e0_18, (by decide : 1 + 0 ≤ _), (by decide : 6 + 0 ≤ _)⟩)
            dsimp only [Pt.U, Pt.locs, Pt.cells, Pt.slots] at X0_19 l0_19 y0_19 z0_19 st0_19 hQ0_19
            subst l0_19 y0_19 z0_19
            obtain ⟨rfl, N0_19q, e0_19⟩ := hQ0_19
            have N0_19 := Fr.app N0_18 N0_19q
            refine own_fw st0_19 ?_
            by_cases hc0_6 : (hF5 (nar .byte (pickF p0 q1 (0 : Int32))) (nar .byte (pickF p0 q1 (1 : Int32))) (nar .byte (pickF p0 q1 (2 : Int32))) (nar .byte (pickF p0 q1 (3 : Int32))) (nar .byte (pickF p0 q1 (4 : Int32))) (nar .byte (pickF p0 q1 (5 : Int32))) (own_irem (p2 &&& (2147483647 : Int32)) (7 : Int32)) (own_irem (p3 &&& (2147483647 : Int32)) (7 : Int32))) = (0 : Int32)
            · refine own_fw (A := T0_19.setTop (mkF m 200 #[.val (.int p0), .val (.long q1), .second, .val (.int p2), .val (.int p3), .val (.ref b0_1), .val (.int (own_irem (p2 &&& (2147483647 : Int32)) (7 : Int32))), .val (.int (own_irem (p3 &&& (2147483647 : Int32)) (7 : Int32))), .unset] [])) (fun t k => ?_) ?_
              · show Steps p.tables e below (T0_19.setTop (mkF m 190 #[.val (.int p0), .val (.long q1), .second, .val (.int p2), .val (.int p3), .val (.ref b0_1), .val (.int (own_irem (p2 &&& (2147483647 : Int32)) (7 : Int32))), .val (.int (own_irem (p3 &&& (2147483647 : Int32)) (7 : Int32))), .unset] [(.int (hF5 (nar .byte (pickF p0 q1 (0 : Int32))) (nar .byte (pickF p0 q1 (1 : Int32))) (nar .byte (pickF p0 q1 (2 : Int32))) (nar .byte (pickF p0 q1 (3 : Int32))) (nar .byte (pickF p0 q1 (4 : Int32))) (nar .byte (pickF p0 q1 (5 : Int32))) (own_irem (p2 &&& (2147483647 : Int32)) (7 : Int32)) (own_irem (p3 &&& (2147483647 : Int32)) (7 : Int32))))])) t
                refine XS.ifYes X0_19.here hx rfl (pc0 := 190) (pc' := 200) rfl (hb hby at_190) rfl ((if0 _ _).trans (teq hc0_6).1) (by decide) (by decide) ?_
                exact k
              refine own_fw (A := T0_19.setTop (mkF m 209 #[.val (.int p0), .val (.long q1), .second, .val (.int p2), .val (.int p3), .val (.ref b0_1), .val (.int (own_irem (p2 &&& (2147483647 : Int32)) (7 : Int32))), .val (.int (own_irem (p3 &&& (2147483647 : Int32)) (7 : Int32))), .val (.int (-1 : Int32))] [(.int (own_irem (p3 &&& (2147483647 : Int32)) (7 : Int32))), (.int (own_irem (p2 &&& (2147483647 : Int32)) (7 : Int32))), (.ref b0_1)])) (fun t k => ?_) ?_
              · show Steps p.tables e below (T0_19.setTop (mkF m 200 #[.val (.int p0), .val (.long q1), .second, .val (.int p2), .val (.int p3), .val (.ref b0_1), .val (.int (own_irem (p2 &&& (2147483647 : Int32)) (7 : Int32))), .val (.int (own_irem (p3 &&& (2147483647 : Int32)) (7 : Int32))), .unset] [])) t
                refine XS.iconst X0_19.here hx rfl (hb hby at_200) ?_
                show Steps p.tables e below (T0_19.setTop (mkF m 201 #[.val (.int p0), .val (.long q1), .second, .val (.int p2), .val (.int p3), .val (.ref b0_1), .val (.int (own_irem (p2 &&& (2147483647 : Int32)) (7 : Int32))), .val (.int (own_irem (p3 &&& (2147483647 : Int32)) (7 : Int32))), .unset] [(.int (-1 : Int32))])) t
                refine XS.istore X0_19.here hx rfl (hb hby at_201) rfl (l' := #[.val (.int p0), .val (.long q1), .second, .val (.int p2), .val (.int p3), .val (.ref b0_1), .val (.int (own_irem (p2 &&& (2147483647 : Int32)) (7 : Int32))), .val (.int (own_irem (p3 &&& (2147483647 : Int32)) (7 : Int32))), .val (.int (-1 : Int32))]) rfl ?_
                show Steps p.tables e below (T0_19.setTop (mkF m 203 #[.val (.int p0), .val (.long q1), .second, .val (.int p2), .val (.int p3), .val (.ref b0_1), .val (.int (own_irem (p2 &&& (2147483647 : Int32)) (7 : Int32))), .val (.int (own_irem (p3 &&& (2147483647 : Int32)) (7 : Int32))), .val (.int (-1 : Int32))] [])) t
                refine XS.aload X0_19.here hx rfl (hb hby at_203) rfl rfl ?_
                show Steps p.tables e below (T0_19.setTop (mkF m 205 #[.val (.int p0), .val (.long q1), .second, .val (.int p2), .val (.int p3), .val (.ref b0_1), .val (.int (own_irem (p2 &&& (2147483647 : Int32)) (7 : Int32))), .val (.int (own_irem (p3 &&& (2147483647 : Int32)) (7 : Int32))), .val (.int (-1 : Int32))] [(.ref b0_1)])) t
                refine XS.iload X0_19.here hx rfl (hb hby at_205) rfl ?_
                show Steps p.tables e below (T0_19.setTop (mkF m 207 #[.val (.int p0), .val (.long q1), .second, .val (.int p2), .val (.int p3), .val (.ref b0_1), .val (.int (own_irem (p2 &&& (2147483647 : Int32)) (7 : Int32))), .val (.int (own_irem (p3 &&& (2147483647 : Int32)) (7 : Int32))), .val (.int (-1 : Int32))] [(.int (own_irem (p2 &&& (2147483647 : Int32)) (7 : Int32))), (.ref b0_1)])) t
                refine XS.iload X0_19.here hx rfl (hb hby at_207) rfl ?_
                exact k
              obtain ⟨_, _, ⟨T0_20, L0_20, k0_20, n0_20⟩, -, X0_20, ⟨Lc0_20, hQ0_20, l0_20, y0_20, z0_20⟩, st0_20⟩ := Jvm.LawKit.callS X0_19 hx (y := (⟨"com/example/finalmark/finalmark/RequestHead", "end", "([BII)I"⟩ : MethodName)) hown (mvT hZ (hw _ (List.mem_of_getElem? (i := 9) rfl))) (mvT hZ (hw _ (List.mem_of_getElem? (i := 10) rfl))) (mvT hZ (hw _ (List.mem_of_getElem? (i := 11) rfl))) (mvT hZ (hw _ (List.mem_of_getElem? (i := 12) rfl))) (by decide) (backOf (W := 0) (rmE l Z a0 hw [] b0_1 (own_irem (p2 &&& (2147483647 : Int32)) (7 : Int32)) (own_irem (p3 &&& (2147483647 : Int32)) (7 : Int32)) k0_1 (nar .byte (pickF p0 q1 (0 : Int32))) (nar .byte (pickF p0 q1 (1 : Int32))) (nar .byte (pickF p0 q1 (2 : Int32))) (nar .byte (pickF p0 q1 (3 : Int32))) (nar .byte (pickF p0 q1 (4 : Int32))) (nar .byte (pickF p0 q1 (5 : Int32))) h0_13 n0 (Nat.le_trans (Nat.le_trans (Nat.le_trans (Nat.le_trans (Nat.le_trans (Nat.le_trans (Nat.le_trans Z0 E0_1.1) (Keep.of_wr W0_3).1) (Keep.of_wr W0_5).1) (Keep.of_wr W0_7).1) (Keep.of_wr W0_9).1) (Keep.of_wr W0_11).1) (Keep.of_wr W0_13).1) V0_13 (own_k7 p2) (own_q6 p3)) hZ (hw _ (List.mem_of_getElem? (i := 12) rfl)) (hw _ (List.mem_of_getElem? (i := 11) rfl)) (by decide) (by decide)) (g := (mkF m 209 #[.val (.int p0), .val (.long q1), .second, .val (.int p2), .val (.int p3), .val (.ref b0_1), .val (.int (own_irem (p2 &&& (2147483647 : Int32)) (7 : Int32))), .val (.int (own_irem (p3 &&& (2147483647 : Int32)) (7 : Int32))), .val (.int (-1 : Int32))] [(.int (own_irem (p3 &&& (2147483647 : Int32)) (7 : Int32))), (.int (own_irem (p2 &&& (2147483647 : Int32)) (7 : Int32))), (.ref b0_1)])) rfl (by rw [hml]; rfl) (argsL := [(.ref b0_1), (.int (own_irem (p2 &&& (2147483647 : Int32)) (7 : Int32))), (.int (own_irem (p3 &&& (2147483647 : Int32)) (7 : Int32)))]) (rest := []) (lenOf pd0_2 rfl) rfl (by show 2 * 0 + _ ≤ _; exact Nat.le_of_eq rfl) (hb hby at_209) (fun _ _ => ⟨rfl, e0_19, (by decide : 1 + 0 ≤ _), (by decide : 6 + 0 ≤ _)⟩)
              dsimp only [Pt.U, Pt.locs, Pt.cells, Pt.slots] at X0_20 l0_20 y0_20 z0_20 st0_20 hQ0_20
              subst l0_20 y0_20 z0_20
              obtain ⟨rfl, N0_20q, e0_20⟩ := hQ0_20
              have N0_20 := Fr.app N0_19 N0_20q
              refine own_fw st0_20 ?_
              refine own_fw (A := T0_20.setTop (mkF m 222 #[.val (.int p0), .val (.long q1), .second, .val (.int p2), .val (.int p3), .val (.ref b0_1), .val (.int (own_irem (p2 &&& (2147483647 : Int32)) (7 : Int32))), .val (.int (own_irem (p3 &&& (2147483647 : Int32)) (7 : Int32))), .val (.int (-1 : Int32))] [(.int (1 : Int32))])) (fun t k => ?_) ?_
              · show Steps p.tables e below (T0_20.setTop (mkF m 212 #[.val (.int p0), .val (.long q1), .second, .val (.int p2), .val (.int p3), .val (.ref b0_1), .val (.int (own_irem (p2 &&& (2147483647 : Int32)) (7 : Int32))), .val (.int (own_irem (p3 &&& (2147483647 : Int32)) (7 : Int32))), .val (.int (-1 : Int32))] [(.int (endV (nar .byte (pickF p0 q1 (0 : Int32))) (nar .byte (pickF p0 q1 (1 : Int32))) (nar .byte (pickF p0 q1 (2 : Int32))) (nar .byte (pickF p0 q1 (3 : Int32))) (nar .byte (pickF p0 q1 (4 : Int32))) (nar .byte (pickF p0 q1 (5 : Int32))) (own_irem (p2 &&& (2147483647 : Int32)) (7 : Int32)) (own_irem (p3 &&& (2147483647 : Int32)) (7 : Int32))))])) t
                refine XS.iload X0_20.here hx rfl (hb hby at_212) rfl ?_
                show Steps p.tables e below (T0_20.setTop (mkF m 214 #[.val (.int p0), .val (.long q1), .second, .val (.int p2), .val (.int p3), .val (.ref b0_1), .val (.int (own_irem (p2 &&& (2147483647 : Int32)) (7 : Int32))), .val (.int (own_irem (p3 &&& (2147483647 : Int32)) (7 : Int32))), .val (.int (-1 : Int32))] [(.int (-1 : Int32)), (.int (endV (nar .byte (pickF p0 q1 (0 : Int32))) (nar .byte (pickF p0 q1 (1 : Int32))) (nar .byte (pickF p0 q1 (2 : Int32))) (nar .byte (pickF p0 q1 (3 : Int32))) (nar .byte (pickF p0 q1 (4 : Int32))) (nar .byte (pickF p0 q1 (5 : Int32))) (own_irem (p2 &&& (2147483647 : Int32)) (7 : Int32)) (own_irem (p3 &&& (2147483647 : Int32)) (7 : Int32))))])) t
                refine XS.icmpNo X0_20.here hx rfl (hb hby at_214) rfl (teq ((own_fin (nar .byte (pickF p0 q1 (0 : Int32))) (nar .byte (pickF p0 q1 (1 : Int32))) (nar .byte (pickF p0 q1 (2 : Int32))) (nar .byte (pickF p0 q1 (3 : Int32))) (nar .byte (pickF p0 q1 (4 : Int32))) (nar .byte (pickF p0 q1 (5 : Int32))) (own_irem (p2 &&& (2147483647 : Int32)) (7 : Int32)) (own_irem (p3 &&& (2147483647 : Int32)) (7 : Int32)) (own_k7 p2) (own_k7 p3)).trans (by rw [if_pos hc0_1, if_pos hc0_2, if_pos hc0_3, if_pos hc0_4, if_pos hc0_5, if_pos hc0_6]))).2 ?_
                show Steps p.tables e below (T0_20.setTop (mkF m 217 #[.val (.int p0), .val (.long q1), .second, .val (.int p2), .val (.int p3), .val (.ref b0_1), .val (.int (own_irem (p2 &&& (2147483647 : Int32)) (7 : Int32))), .val (.int (own_irem (p3 &&& (2147483647 : Int32)) (7 : Int32))), .val (.int (-1 : Int32))] [])) t
                refine XS.iconst X0_20.here hx rfl (hb hby at_217) ?_
                show Steps p.tables e below (T0_20.setTop (mkF m 218 #[.val (.int p0), .val (.long q1), .second, .val (.int p2), .val (.int p3), .val (.ref b0_1), .val (.int (own_irem (p2 &&& (2147483647 : Int32)) (7 : Int32))), .val (.int (own_irem (p3 &&& (2147483647 : Int32)) (7 : Int32))), .val (.int (-1 : Int32))] [(.int (1 : Int32))])) t
                refine XS.goto X0_20.here hx rfl (pc0 := 218) (pc' := 222) rfl (hb hby at_218) (by decide) (by decide) ?_
                exact k
              obtain ⟨fs, hr, hrun, hended, hW, hsame⟩ := X0_20.leave (v := some (.int (nar .boolean (1 : Int32)))) (fun h => by rw [Bd.returns] at h; cases h)
              refine ⟨_, _, retN X0_20 hx (t := .boolean) Bd.returns (by simp) (hb hby at_222) hr, hrun, hended, _, _, rfl, ?_, ⟨_, rfl⟩, hW, hsame.mono (by decide) (by decide)⟩
              have eh : (T0_20.setFrames fs).heap = h0_13 := e0_20
              rw [eh]
              exact ⟨rfl, N0_20⟩
            · refine own_fw (A := T0_19.setTop (mkF m 193 #[.val (.int p0), .val (.long q1), .second, .val (.int p2), .val (.int p3), .val (.ref b0_1), .val (.int (own_irem (p2 &&& (2147483647 : Int32)) (7 : Int32))), .val (.int (own_irem (p3 &&& (2147483647 : Int32)) (7 : Int32))), .unset] [])) (fun t k => ?_) ?_
              · show Steps p.tables e below (T0_19.setTop (mkF m 190 #[.val (.int p0), .val (.long q1), .second, .val (.int p2), .val (.int p3), .val (.ref b0_1), .val (.int (own_irem (p2 &&& (2147483647 : Int32)) (7 : Int32))), .val (.int (own_irem (p3 &&& (2147483647 : Int32)) (7 : Int32))), .unset] [(.int (hF5 (nar .byte (pickF p0 q1 (0 : Int32))) (nar .byte (pickF p0 q1 (1 : Int32))) (nar .byte (pickF p0 q1 (2 : Int32))) (nar .byte (pickF p0 q1 (3 : Int32))) (nar .byte (pickF p0 q1 (4 : Int32))) (nar .byte (pickF p0 q1 (5 : Int32))) (own_irem (p2 &&& (2147483647 : Int32)) (7 : Int32)) (own_irem (p3 &&& (2147483647 : Int32)) (7 : Int32))))])) t
                refine XS.ifNo X0_19.here hx rfl (hb hby at_190) rfl ((if0 _ _).trans (feq hc0_6).1) ?_
                exact k
              refine own_fw (A := T0_19.setTop (mkF m 209 #[.val (.int p0), .val (.long q1), .second, .val (.int p2), .val (.int p3), .val (.ref b0_1), .val (.int (own_irem (p2 &&& (2147483647 : Int32)) (7 : Int32))), .val (.int (own_irem (p3 &&& (2147483647 : Int32)) (7 : Int32))), .val (.int (6 : Int32))] [(.int (own_irem (p3 &&& (2147483647 : Int32)) (7 : Int32))), (.int (own_irem (p2 &&& (2147483647 : Int32)) (7 : Int32))), (.ref b0_1)])) (fun t k => ?_) ?_
              · show Steps p.tables e below (T0_19.setTop (mkF m 193 #[.val (.int p0), .val (.long q1), .second, .val (.int p2), .val (.int p3), .val (.ref b0_1), .val (.int (own_irem (p2 &&& (2147483647 : Int32)) (7 : Int32))), .val (.int (own_irem (p3 &&& (2147483647 : Int32)) (7 : Int32))), .unset] [])) t
                refine XS.bipush X0_19.here hx rfl (hb hby at_193) ?_
                show Steps p.tables e below (T0_19.setTop (mkF m 195 #[.val (.int p0), .val (.long q1), .second, .val (.int p2), .val (.int p3), .val (.ref b0_1), .val (.int (own_irem (p2 &&& (2147483647 : Int32)) (7 : Int32))), .val (.int (own_irem (p3 &&& (2147483647 : Int32)) (7 : Int32))), .unset] [(.int (6 : Int32))])) t
                refine XS.istore X0_19.here hx rfl (hb hby at_195) rfl (l' := #[.val (.int p0), .val (.long q1), .second, .val (.int p2), .val (.int p3), .val (.ref b0_1), .val (.int (own_irem (p2 &&& (2147483647 : Int32)) (7 : Int32))), .val (.int (own_irem (p3 &&& (2147483647 : Int32)) (7 : Int32))), .val (.int (6 : Int32))]) rfl ?_
                show Steps p.tables e below (T0_19.setTop (mkF m 197 #[.val (.int p0), .val (.long q1), .second, .val (.int p2), .val (.int p3), .val (.ref b0_1), .val (.int (own_irem (p2 &&& (2147483647 : Int32)) (7 : Int32))), .val (.int (own_irem (p3 &&& (2147483647 : Int32)) (7 : Int32))), .val (.int (6 : Int32))] [])) t
                refine XS.goto X0_19.here hx rfl (pc0 := 197) (pc' := 203) rfl (hb hby at_197) (by decide) (by decide) ?_
                show Steps p.tables e below (T0_19.setTop (mkF m 203 #[.val (.int p0), .val (.long q1), .second, .val (.int p2), .val (.int p3), .val (.ref b0_1), .val (.int (own_irem (p2 &&& (2147483647 : Int32)) (7 : Int32))), .val (.int (own_irem (p3 &&& (2147483647 : Int32)) (7 : Int32))), .val (.int (6 : Int32))] [])) t
                refine XS.aload X0_19.here hx rfl (hb hby at_203) rfl rfl ?_
                show Steps p.tables e below (T0_19.setTop (mkF m 205 #[.val (.int p0), .val (.long q1), .second, .val (.int p2), .val (.int p3), .val (.ref b0_1), .val (.int (own_irem (p2 &&& (2147483647 : Int32)) (7 : Int32))), .val (.int (own_irem (p3 &&& (2147483647 : Int32)) (7 : Int32))), .val (.int (6 : Int32))] [(.ref b0_1)])) t
                refine XS.iload X0_19.here hx rfl (hb hby at_205) rfl ?_
                show Steps p.tables e below (T0_19.setTop (mkF m 207 #[.val (.int p0), .val (.long q1), .second, .val (.int p2), .val (.int p3), .val (.ref b0_1), .val (.int (own_irem (p2 &&& (2147483647 : Int32)) (7 : Int32))), .val (.int (own_irem (p3 &&& (2147483647 : Int32)) (7 : Int32))), .val (.int (6 : Int32))] [(.int (own_irem (p2 &&& (2147483647 : Int32)) (7 : Int32))), (.ref b0_1)])) t
                refine XS.iload X0_19.here hx rfl (hb hby at_207) rfl ?_
                exact k
              obtain ⟨_, _, ⟨T0_21, L0_21, k0_21, n0_21⟩, -, X0_21, ⟨Lc0_21, hQ0_21, l0_21, y0_21, z0_21⟩, st0_21⟩ := Jvm.LawKit.callS X0_19 hx (y := (⟨"com/example/finalmark/finalmark/RequestHead", "end", "([BII)I"⟩ : MethodName)) hown (mvT hZ (hw _ (List.mem_of_getElem? (i := 9) rfl))) (mvT hZ (hw _ (List.mem_of_getElem? (i := 10) rfl))) (mvT hZ (hw _ (List.mem_of_getElem? (i := 11) rfl))) (mvT hZ (hw _ (List.mem_of_getElem? (i := 12) rfl))) (by decide) (backOf (W := 0) (rmE l Z a0 hw [] b0_1 (own_irem (p2 &&& (2147483647 : Int32)) (7 : Int32)) (own_irem (p3 &&& (2147483647 : Int32)) (7 : Int32)) k0_1 (nar .byte (pickF p0 q1 (0 : Int32))) (nar .byte (pickF p0 q1 (1 : Int32))) (nar .byte (pickF p0 q1 (2 : Int32))) (nar .byte (pickF p0 q1 (3 : Int32))) (nar .byte (pickF p0 q1 (4 : Int32))) (nar .byte (pickF p0 q1 (5 : Int32))) h0_13 n0 (Nat.le_trans (Nat.le_trans (Nat.le_trans (Nat.le_trans (Nat.le_trans (Nat.le_trans (Nat.le_trans Z0 E0_1.1) (Keep.of_wr W0_3).1) (Keep.of_wr W0_5).1) (Keep.of_wr W0_7).1) (Keep.of_wr W0_9).1) (Keep.of_wr W0_11).1) (Keep.of_wr W0_13).1) V0_13 (own_k7 p2) (own_q6 p3)) hZ (hw _ (List.mem_of_getElem? (i := 12) rfl)) (hw _ (List.mem_of_getElem? (i := 11) rfl)) (by decide) (by decide)) (g := (mkF m 209 #[.val (.int p0), .val (.long q1), .second, .val (.int p2), .val (.int p3), .val (.ref b0_1), .val (.int (own_irem (p2 &&& (2147483647 : Int32)) (7 : Int32))), .val (.int (own_irem (p3 &&& (2147483647 : Int32)) (7 : Int32))), .val (.int (6 : Int32))] [(.int (own_irem (p3 &&& (2147483647 : Int32)) (7 : Int32))), (.int (own_irem (p2 &&& (2147483647 : Int32)) (7 : Int32))), (.ref b0_1)])) rfl (by rw [hml]; rfl) (argsL := [(.ref b0_1), (.int (own_irem (p2 &&& (2147483647 : Int32)) (7 : Int32))), (.int (own_irem (p3 &&& (2147483647 : Int32)) (7 : Int32)))]) (rest := []) (lenOf pd0_2 rfl) rfl (by show 2 * 0 + _ ≤ _; exact Nat.le_of_eq rfl) (hb hby at_209) (fun _ _ => ⟨rfl, e0_19, (by decide : 1 + 0 ≤ _), (by decide : 6 + 0 ≤ _)⟩)
              dsimp only [Pt.U, Pt.locs, Pt.cells, Pt.slots] at X0_21 l0_21 y0_21 z0_21 st0_21 hQ0_21
              subst l0_21 y0_21 z0_21
              obtain ⟨rfl, N0_21q, e0_21⟩ := hQ0_21
              have N0_21 := Fr.app N0_19 N0_21q
              refine own_fw st0_21 ?_
              refine own_fw (A := T0_21.setTop (mkF m 222 #[.val (.int p0), .val (.long q1), .second, .val (.int p2), .val (.int p3), .val (.ref b0_1), .val (.int (own_irem (p2 &&& (2147483647 : Int32)) (7 : Int32))), .val (.int (own_irem (p3 &&& (2147483647 : Int32)) (7 : Int32))), .val (.int (6 : Int32))] [(.int (1 : Int32))])) (fun t k => ?_) ?_
              · show Steps p.tables e below (T0_21.setTop (mkF m 212 #[.val (.int p0), .val (.long q1), .second, .val (.int p2), .val (.int p3), .val (.ref b0_1), .val (.int (own_irem (p2 &&& (2147483647 : Int32)) (7 : Int32))), .val (.int (own_irem (p3 &&& (2147483647 : Int32)) (7 : Int32))), .val (.int (6 : Int32))] [(.int (endV (nar .byte (pickF p0 q1 (0 : Int32))) (nar .byte (pickF p0 q1 (1 : Int32))) (nar .byte (pickF p0 q1 (2 : Int32))) (nar .byte (pickF p0 q1 (3 : Int32))) (nar .byte (pickF p0 q1 (4 : Int32))) (nar .byte (pickF p0 q1 (5 : Int32))) (own_irem (p2 &&& (2147483647 : Int32)) (7 : Int32)) (own_irem (p3 &&& (2147483647 : Int32)) (7 : Int32))))])) t
                refine XS.iload X0_21.here hx rfl (hb hby at_212) rfl ?_
                show Steps p.tables e below (T0_21.setTop (mkF m 214 #[.val (.int p0), .val (.long q1), .second, .val (.int p2), .val (.int p3), .val (.ref b0_1), .val (.int (own_irem (p2 &&& (2147483647 : Int32)) (7 : Int32))), .val (.int (own_irem (p3 &&& (2147483647 : Int32)) (7 : Int32))), .val (.int (6 : Int32))] [(.int (6 : Int32)), (.int (endV (nar .byte (pickF p0 q1 (0 : Int32))) (nar .byte (pickF p0 q1 (1 : Int32))) (nar .byte (pickF p0 q1 (2 : Int32))) (nar .byte (pickF p0 q1 (3 : Int32))) (nar .byte (pickF p0 q1 (4 : Int32))) (nar .byte (pickF p0 q1 (5 : Int32))) (own_irem (p2 &&& (2147483647 : Int32)) (7 : Int32)) (own_irem (p3 &&& (2147483647 : Int32)) (7 : Int32))))])) t
                refine XS.icmpNo X0_21.here hx rfl (hb hby at_214) rfl (teq ((own_fin (nar .byte (pickF p0 q1 (0 : Int32))) (nar .byte (pickF p0 q1 (1 : Int32))) (nar .byte (pickF p0 q1 (2 : Int32))) (nar .byte (pickF p0 q1 (3 : Int32))) (nar .byte (pickF p0 q1 (4 : Int32))) (nar .byte (pickF p0 q1 (5 : Int32))) (own_irem (p2 &&& (2147483647 : Int32)) (7 : Int32)) (own_irem (p3 &&& (2147483647 : Int32)) (7 : Int32)) (own_k7 p2) (own_k7 p3)).trans (by rw [if_pos hc0_1, if_pos hc0_2, if_pos hc0_3, if_pos hc0_4, if_pos hc0_5, if_neg hc0_6]))).2 ?_
                show Steps p.tables e below (T0_21.setTop (mkF m 217 #[.val (.int p0), .val (.long q1), .second, .val (.int p2), .val (.int p3), .val (.ref b0_1), .val (.int (own_irem (p2 &&& (2147483647 : Int32)) (7 : Int32))), .val (.int (own_irem (p3 &&& (2147483647 : Int32)) (7 : Int32))), .val (.int (6 : Int32))] [])) t
                refine XS.iconst X0_21.here hx rfl (hb hby at_217) ?_
                show Steps p.tables e below (T0_21.setTop (mkF m 218 #[.val (.int p0), .val (.long q1), .second, .val (.int p2), .val (.int p3), .val (.ref b0_1), .val (.int (own_irem (p2 &&& (2147483647 : Int32)) (7 : Int32))), .val (.int (own_irem (p3 &&& (2147483647 : Int32)) (7 : Int32))), .val (.int (6 : Int32))] [(.int (1 : Int32))])) t
                refine XS.goto X0_21.here hx rfl (pc0 := 218) (pc' := 222) rfl (hb hby at_218) (by decide) (by decide) ?_
                exact k
              obtain ⟨fs, hr, hrun, hended, hW, hsame⟩ := X0_21.leave (v := some (.int (nar .boolean (1 : Int32)))) (fun h => by rw [Bd.returns] at h; cases h)
              refine ⟨_, _, retN X0_21 hx (t := .boolean) Bd.returns (by simp) (hb hby at_222) hr, hrun, hended, _, _, rfl, ?_, ⟨_, rfl⟩, hW, hsame.mono (by decide) (by decide)⟩
              have eh : (T0_21.setFrames fs).heap = h0_13 := e0_21
              rw [eh]
              exact ⟨rfl, N0_21⟩
          · refine own_fw (A := T0_18.setTop (mkF m 174 #[.val (.int p0), .val (.long q1), .second, .val (.int p2), .val (.int p3), .val (.ref b0_1), .val (.int (own_irem (p2 &&& (2147483647 : Int32)) (7 : Int32))), .val (.int (own_irem (p3 &&& (2147483647 : Int32)) (7 : Int32))), .unset] [])) (fun t k => ?_) ?_
            · show Steps p.tables e below (T0_18.setTop (mkF m 171 #[.val (.int p0), .val (.long q1), .second, .val (.int p2), .val (.int p3), .val (.ref b0_1), .val (.int (own_irem (p2 &&& (2147483647 : Int32)) (7 : Int32))), .val (.int (own_irem (p3 &&& (2147483647 : Int32)) (7 : Int32))), .unset] [(.int (hF4 (nar .byte (pickF p0 q1 (0 : Int32))) (nar .byte (pickF p0 q1 (1 : Int32))) (nar .byte (pickF p0 q1 (2 : Int32))) (nar .byte (pickF p0 q1 (3 : Int32))) (nar .byte (pickF p0 q1 (4 : Int32))) (nar .byte (pickF p0 q1 (5 : Int32))) (own_irem (p2 &&& (2147483647 : Int32)) (7 : Int32)) (own_irem (p3 &&& (2147483647 : Int32)) (7 : Int32))))])) t
              refine XS.ifNo X0_18.here hx rfl (hb hby at_171) rfl ((if0 _ _).trans (feq hc0_5).1) ?_
              exact k
            refine own_fw (A := T0_18.setTop (mkF m 209 #[.val (.int p0), .val (.long q1), .second, .val (.int p2), .val (.int p3), .val (.ref b0_1), .val (.int (own_irem (p2 &&& (2147483647 : Int32)) (7 : Int32))), .val (.int (own_irem (p3 &&& (2147483647 : Int32)) (7 : Int32))), .val (.int (5 : Int32))] [(.int (own_irem (p3 &&& (2147483647 : Int32)) (7 : Int32))), (.int (own_irem (p2 &&& (2147483647 : Int32)) (7 : Int32))), (.ref b0_1)])) (fun t k => ?_) ?_
            · show Steps p.tables e below (T0_18.setTop (mkF m 174 #[.val (.int p0), .val (.long q1), .second, .val (.int p2), .val (.int p3), .val (.ref b0_1), .val (.int (own_irem (p2 &&& (2147483647 : Int32)) (7 : Int32))), .val (.int (own_irem (p3 &&& (2147483647 : Int32)) (7 : Int32))), .unset] [])) t
              refine XS.iconst X0_18.here hx rfl (hb hby at_174) ?_
              show Steps p.tables e below (T0_18.setTop (mkF m 175 #[.val (.int p0), .val (.long q1), .second, .val (.int p2), .val (.int p3), .val (.ref b0_1), .val (.int (own_irem (p2 &&& (2147483647 : Int32)) (7 : Int32))), .val (.int (own_irem (p3 &&& (2147483647 : Int32)) (7 : Int32))), .unset] [(.int (5 : Int32))])) t
              refine XS.istore X0_18.here hx rfl (hb hby at_175) rfl (l' := #[.val (.int p0), .val (.long q1), .second, .val (.int p2), .val (.int p3), .val (.ref b0_1), .val (.int (own_irem (p2 &&& (2147483647 : Int32)) (7 : Int32))), .val (.int (own_irem (p3 &&& (2147483647 : Int32)) (7 : Int32))), .val (.int (5 : Int32))]) rfl ?_
              show Steps p.tables e below (T0_18.setTop (mkF m 177 #[.val (.int p0), .val (.long q1), .second, .val (.int p2), .val (.int p3), .val (.ref b0_1), .val (.int (own_irem (p2 &&& (2147483647 : Int32)) (7 : Int32))), .val (.int (own_irem (p3 &&& (2147483647 : Int32)) (7 : Int32))), .val (.int (5 : Int32))] [])) t
              refine XS.goto X0_18.here hx rfl (pc0 := 177) (pc' := 203) rfl (hb hby at_177) (by decide) (by decide) ?_
              show Steps p.tables e below (T0_18.setTop (mkF m 203 #[.val (.int p0), .val (.long q1), .second, .val (.int p2), .val (.int p3), .val (.ref b0_1), .val (.int (own_irem (p2 &&& (2147483647 : Int32)) (7 : Int32))), .val (.int (own_irem (p3 &&& (2147483647 : Int32)) (7 : Int32))), .val (.int (5 : Int32))] [])) t
              refine XS.aload X0_18.here hx rfl (hb hby at_203) rfl rfl ?_
              show Steps p.tables e below (T0_18.setTop (mkF m 205 #[.val (.int p0), .val (.long q1), .second, .val (.int p2), .val (.int p3), .val (.ref b0_1), .val (.int (own_irem (p2 &&& (2147483647 : Int32)) (7 : Int32))), .val (.int (own_irem (p3 &&& (2147483647 : Int32)) (7 : Int32))), .val (.int (5 : Int32))] [(.ref b0_1)])) t
              refine XS.iload X0_18.here hx rfl (hb hby at_205) rfl ?_
              show Steps p.tables e below (T0_18.setTop (mkF m 207 #[.val (.int p0), .val (.long q1), .second, .val (.int p2), .val (.int p3), .val (.ref b0_1), .val (.int (own_irem (p2 &&& (2147483647 : Int32)) (7 : Int32))), .val (.int (own_irem (p3 &&& (2147483647 : Int32)) (7 : Int32))), .val (.int (5 : Int32))] [(.int (own_irem (p2 &&& (2147483647 : Int32)) (7 : Int32))), (.ref b0_1)])) t
              refine XS.iload X0_18.here hx rfl (hb hby at_207) rfl ?_
              exact k
            obtain ⟨_, _, ⟨T0_22, L0_22, k0_22, n0_22⟩, -, X0_22, ⟨Lc0_22, hQ0_22, l0_22, y0_22, z0_22⟩, st0_22⟩ := Jvm.LawKit.callS X0_18 hx (y := (⟨"com/example/finalmark/finalmark/RequestHead", "end", "([BII)I"⟩ : MethodName)) hown (mvT hZ (hw _ (List.mem_of_getElem? (i := 9) rfl))) (mvT hZ (hw _ (List.mem_of_getElem? (i := 10) rfl))) (mvT hZ (hw _ (List.mem_of_getElem? (i := 11) rfl))) (mvT hZ (hw _ (List.mem_of_getElem? (i := 12) rfl))) (by decide) (backOf (W := 0) (rmE l Z a0 hw [] b0_1 (own_irem (p2 &&& (2147483647 : Int32)) (7 : Int32)) (own_irem (p3 &&& (2147483647 : Int32)) (7 : Int32)) k0_1 (nar .byte (pickF p0 q1 (0 : Int32))) (nar .byte (pickF p0 q1 (1 : Int32))) (nar .byte (pickF p0 q1 (2 : Int32))) (nar .byte (pickF p0 q1 (3 : Int32))) (nar .byte (pickF p0 q1 (4 : Int32))) (nar .byte (pickF p0 q1 (5 : Int32))) h0_13 n0 (Nat.le_trans (Nat.le_trans (Nat.le_trans (Nat.le_trans (Nat.le_trans (Nat.le_trans (Nat.le_trans Z0 E0_1.1) (Keep.of_wr W0_3).1) (Keep.of_wr W0_5).1) (Keep.of_wr W0_7).1) (Keep.of_wr W0_9).1) (Keep.of_wr W0_11).1) (Keep.of_wr W0_13).1) V0_13 (own_k7 p2) (own_q6 p3)) hZ (hw _ (List.mem_of_getElem? (i := 12) rfl)) (hw _ (List.mem_of_getElem? (i := 11) rfl)) (by decide) (by decide)) (g := (mkF m 209 #[.val (.int p0), .val (.long q1), .second, .val (.int p2), .val (.int p3), .val (.ref b0_1), .val (.int (own_irem (p2 &&& (2147483647 : Int32)) (7 : Int32))), .val (.int (own_irem (p3 &&& (2147483647 : Int32)) (7 : Int32))), .val (.int (5 : Int32))] [(.int (own_irem (p3 &&& (2147483647 : Int32)) (7 : Int32))), (.int (own_irem (p2 &&& (2147483647 : Int32)) (7 : Int32))), (.ref b0_1)])) rfl (by rw [hml]; rfl) (argsL := [(.ref b0_1), (.int (own_irem (p2 &&& (2147483647 : Int32)) (7 : Int32))), (.int (own_irem (p3 &&& (2147483647 : Int32)) (7 : Int32)))]) (rest := []) (lenOf pd0_2 rfl) rfl (by show 2 * 0 + _ ≤ _; exact Nat.le_of_eq rfl) (hb hby at_209) (fun _ _ => ⟨rfl, e0_18, (by decide : 1 + 0 ≤ _), (by decide : 6 + 0 ≤ _)⟩)
            dsimp only [Pt.U, Pt.locs, Pt.cells, Pt.slots] at X0_22 l0_22 y0_22 z0_22 st0_22 hQ0_22
            subst l0_22 y0_22 z0_22
            obtain ⟨rfl, N0_22q, e0_22⟩ := hQ0_22
            have N0_22 := Fr.app N0_18 N0_22q
            refine own_fw st0_22 ?_
            refine own_fw (A := T0_22.setTop (mkF m 222 #[.val (.int p0), .val (.long q1), .second, .val (.int p2), .val (.int p3), .val (.ref b0_1), .val (.int (own_irem (p2 &&& (2147483647 : Int32)) (7 : Int32))), .val (.int (own_irem (p3 &&& (2147483647 : Int32)) (7 : Int32))), .val (.int (5 : Int32))] [(.int (1 : Int32))])) (fun t k => ?_) ?_
            · show Steps p.tables e below (T0_22.setTop (mkF m 212 #[.val (.int p0), .val (.long q1), .second, .val (.int p2), .val (.int p3), .val (.ref b0_1), .val (.int (own_irem (p2 &&& (2147483647 : Int32)) (7 : Int32))), .val (.int (own_irem (p3 &&& (2147483647 : Int32)) (7 : Int32))), .val (.int (5 : Int32))] [(.int (endV (nar .byte (pickF p0 q1 (0 : Int32))) (nar .byte (pickF p0 q1 (1 : Int32))) (nar .byte (pickF p0 q1 (2 : Int32))) (nar .byte (pickF p0 q1 (3 : Int32))) (nar .byte (pickF p0 q1 (4 : Int32))) (nar .byte (pickF p0 q1 (5 : Int32))) (own_irem (p2 &&& (2147483647 : Int32)) (7 : Int32)) (own_irem (p3 &&& (2147483647 : Int32)) (7 : Int32))))])) t
              refine XS.iload X0_22.here hx rfl (hb hby at_212) rfl ?_
              show Steps p.tables e below (T0_22.setTop (mkF m 214 #[.val (.int p0), .val (.long q1), .second, .val (.int p2), .val (.int p3), .val (.ref b0_1), .val (.int (own_irem (p2 &&& (2147483647 : Int32)) (7 : Int32))), .val (.int (own_irem (p3 &&& (2147483647 : Int32)) (7 : Int32))), .val (.int (5 : Int32))] [(.int (5 : Int32)), (.int (endV (nar .byte (pickF p0 q1 (0 : Int32))) (nar .byte (pickF p0 q1 (1 : Int32))) (nar .byte (pickF p0 q1 (2 : Int32))) (nar .byte (pickF p0 q1 (3 : Int32))) (nar .byte (pickF p0 q1 (4 : Int32))) (nar .byte (pickF p0 q1 (5 : Int32))) (own_irem (p2 &&& (2147483647 : Int32)) (7 : Int32)) (own_irem (p3 &&& (2147483647 : Int32)) (7 : Int32))))])) t
              refine XS.icmpNo X0_22.here hx rfl (hb hby at_214) rfl (teq ((own_fin (nar .byte (pickF p0 q1 (0 : Int32))) (nar .byte (pickF p0 q1 (1 : Int32))) (nar .byte (pickF p0 q1 (2 : Int32))) (nar .byte (pickF p0 q1 (3 : Int32))) (nar .byte (pickF p0 q1 (4 : Int32))) (nar .byte (pickF p0 q1 (5 : Int32))) (own_irem (p2 &&& (2147483647 : Int32)) (7 : Int32)) (own_irem (p3 &&& (2147483647 : Int32)) (7 : Int32)) (own_k7 p2) (own_k7 p3)).trans (by rw [if_pos hc0_1, if_pos hc0_2, if_pos hc0_3, if_pos hc0_4, if_neg hc0_5]))).2 ?_
              show Steps p.tables e below (T0_22.setTop (mkF m 217 #[.val (.int p0), .val (.long q1), .second, .val (.int p2), .val (.int p3), .val (.ref b0_1), .val (.int (own_irem (p2 &&& (2147483647 : Int32)) (7 : Int32))), .val (.int (own_irem (p3 &&& (2147483647 : Int32)) (7 : Int32))), .val (.int (5 : Int32))] [])) t
              refine XS.iconst X0_22.here hx rfl (hb hby at_217) ?_
              show Steps p.tables e below (T0_22.setTop (mkF m 218 #[.val (.int p0), .val (.long q1), .second, .val (.int p2), .val (.int p3), .val (.ref b0_1), .val (.int (own_irem (p2 &&& (2147483647 : Int32)) (7 : Int32))), .val (.int (own_irem (p3 &&& (2147483647 : Int32)) (7 : Int32))), .val (.int (5 : Int32))] [(.int (1 : Int32))])) t
              refine XS.goto X0_22.here hx rfl (pc0 := 218) (pc' := 222) rfl (hb hby at_218) (by decide) (by decide) ?_
              exact k
            obtain ⟨fs, hr, hrun, hended, hW, hsame⟩ := X0_22.leave (v := some (.int (nar .boolean (1 : Int32)))) (fun h => by rw [Bd.returns] at h; cases h)
            refine ⟨_, _, retN X0_22 hx (t := .boolean) Bd.returns (by simp) (hb hby at_222) hr, hrun, hended, _, _, rfl, ?_, ⟨_, rfl⟩, hW, hsame.mono (by decide) (by decide)⟩
            have eh : (T0_22.setFrames fs).heap = h0_13 := e0_22
            rw [eh]
            exact ⟨rfl, N0_22⟩
        · refine own_fw (A := T0_17.setTop (mkF m 155 #[.val (.int p0), .val (.long q1), .second, .val (.int p2), .val (.int p3), .val (.ref b0_1), .val (.int (own_irem (p2 &&& (2147483647 : Int32)) (7 : Int32))), .val (.int (own_irem (p3 &&& (2147483647 : Int32)) (7 : Int32))), .unset] [])) (fun t k => ?_) ?_
          · show Steps p.tables e below (T0_17.setTop (mkF m 152 #[.val (.int p0), .val (.long q1), .second, .val (.int p2), .val (.int p3), .val (.ref b0_1), .val (.int (own_irem (p2 &&& (2147483647 : Int32)) (7 : Int32))), .val (.int (own_irem (p3 &&& (2147483647 : Int32)) (7 : Int32))), .unset] [(.int (hF3 (nar .byte (pickF p0 q1 (0 : Int32))) (nar .byte (pickF p0 q1 (1 : Int32))) (nar .byte (pickF p0 q1 (2 : Int32))) (nar .byte (pickF p0 q1 (3 : Int32))) (nar .byte (pickF p0 q1 (4 : Int32))) (nar .byte (pickF p0 q1 (5 : Int32))) (own_irem (p2 &&& (2147483647 : Int32)) (7 : Int32)) (own_irem (p3 &&& (2147483647 : Int32)) (7 : Int32))))])) t
            refine XS.ifNo X0_17.here hx rfl (hb hby at_152) rfl ((if0 _ _).trans (feq hc0_4).1) ?_
            exact k
          refine own_fw (A := T0_17.setTop (mkF m 209 #[.val (.int p0), .val (.long q1), .second, .val (.int p2), .val (.int p3), .val (.ref b0_1), .val (.int (own_irem (p2 &&& (2147483647 : Int32)) (7 : Int32))), .val (.int (own_irem (p3 &&& (2147483647 : Int32)) (7 : Int32))), .val (.int (4 : Int32))] [(.int (own_irem (p3 &&& (2147483647 : Int32)) (7 : Int32))), (.int (own_irem (p2 &&& (2147483647 : Int32)) (7 : Int32))), (.ref b0_1)])) (fun t k => ?_) ?_
          · show Steps p.tables e below (T0_17.setTop (mkF m 155 #[.val (.int p0), .val (.long q1), .second, .val (.int p2), .val (.int p3), .val (.ref b0_1), .val (.int (own_irem (p2 &&& (2147483647 : Int32)) (7 : Int32))), .val (.int (own_irem (p3 &&& (2147483647 : Int32)) (7 : Int32))), .unset] [])) t
            refine XS.iconst X0_17.here hx rfl (hb hby at_155) ?_
            show Steps p.tables e below (T0_17.setTop (mkF m 156 #[.val (.int p0), .val (.long q1), .second, .val (.int p2), .val (.int p3), .val (.ref b0_1), .val (.int (own_irem (p2 &&& (2147483647 : Int32)) (7 : Int32))), .val (.int (own_irem (p3 &&& (2147483647 : Int32)) (7 : Int32))), .unset] [(.int (4 : Int32))])) t
            refine XS.istore X0_17.here hx rfl (hb hby at_156) rfl (l' := #[.val (.int p0), .val (.long q1), .second, .val (.int p2), .val (.int p3), .val (.ref b0_1), .val (.int (own_irem (p2 &&& (2147483647 : Int32)) (7 : Int32))), .val (.int (own_irem (p3 &&& (2147483647 : Int32)) (7 : Int32))), .val (.int (4 : Int32))]) rfl ?_
            show Steps p.tables e below (T0_17.setTop (mkF m 158 #[.val (.int p0), .val (.long q1), .second, .val (.int p2), .val (.int p3), .val (.ref b0_1), .val (.int (own_irem (p2 &&& (2147483647 : Int32)) (7 : Int32))), .val (.int (own_irem (p3 &&& (2147483647 : Int32)) (7 : Int32))), .val (.int (4 : Int32))] [])) t
            refine XS.goto X0_17.here hx rfl (pc0 := 158) (pc' := 203) rfl (hb hby at_158) (by decide) (by decide) ?_
            show Steps p.tables e below (T0_17.setTop (mkF m 203 #[.val (.int p0), .val (.long q1), .second, .val (.int p2), .val (.int p3), .val (.ref b0_1), .val (.int (own_irem (p2 &&& (2147483647 : Int32)) (7 : Int32))), .val (.int (own_irem (p3 &&& (2147483647 : Int32)) (7 : Int32))), .val (.int (4 : Int32))] [])) t
            refine XS.aload X0_17.here hx rfl (hb hby at_203) rfl rfl ?_
            show Steps p.tables e below (T0_17.setTop (mkF m 205 #[.val (.int p0), .val (.long q1), .second, .val (.int p2), .val (.int p3), .val (.ref b0_1), .val (.int (own_irem (p2 &&& (2147483647 : Int32)) (7 : Int32))), .val (.int (own_irem (p3 &&& (2147483647 : Int32)) (7 : Int32))), .val (.int (4 : Int32))] [(.ref b0_1)])) t
            refine XS.iload X0_17.here hx rfl (hb hby at_205) rfl ?_
            show Steps p.tables e below (T0_17.setTop (mkF m 207 #[.val (.int p0), .val (.long q1), .second, .val (.int p2), .val (.int p3), .val (.ref b0_1), .val (.int (own_irem (p2 &&& (2147483647 : Int32)) (7 : Int32))), .val (.int (own_irem (p3 &&& (2147483647 : Int32)) (7 : Int32))), .val (.int (4 : Int32))] [(.int (own_irem (p2 &&& (2147483647 : Int32)) (7 : Int32))), (.ref b0_1)])) t
            refine XS.iload X0_17.here hx rfl (hb hby at_207) rfl ?_
            exact k
          obtain ⟨_, _, ⟨T0_23, L0_23, k0_23, n0_23⟩, -, X0_23, ⟨Lc0_23, hQ0_23, l0_23, y0_23, z0_23⟩, st0_23⟩ := Jvm.LawKit.callS X0_17 hx (y := (⟨"com/example/finalmark/finalmark/RequestHead", "end", "([BII)I"⟩ : MethodName)) hown (mvT hZ (hw _ (List.mem_of_getElem? (i := 9) rfl))) (mvT hZ (hw _ (List.mem_of_getElem? (i := 10) rfl))) (mvT hZ (hw _ (List.mem_of_getElem? (i := 11) rfl))) (mvT hZ (hw _ (List.mem_of_getElem? (i := 12) rfl))) (by decide) (backOf (W := 0) (rmE l Z a0 hw [] b0_1 (own_irem (p2 &&& (2147483647 : Int32)) (7 : Int32)) (own_irem (p3 &&& (2147483647 : Int32)) (7 : Int32)) k0_1 (nar .byte (pickF p0 q1 (0 : Int32))) (nar .byte (pickF p0 q1 (1 : Int32))) (nar .byte (pickF p0 q1 (2 : Int32))) (nar .byte (pickF p0 q1 (3 : Int32))) (nar .byte (pickF p0 q1 (4 : Int32))) (nar .byte (pickF p0 q1 (5 : Int32))) h0_13 n0 (Nat.le_trans (Nat.le_trans (Nat.le_trans (Nat.le_trans (Nat.le_trans (Nat.le_trans (Nat.le_trans Z0 E0_1.1) (Keep.of_wr W0_3).1) (Keep.of_wr W0_5).1) (Keep.of_wr W0_7).1) (Keep.of_wr W0_9).1) (Keep.of_wr W0_11).1) (Keep.of_wr W0_13).1) V0_13 (own_k7 p2) (own_q6 p3)) hZ (hw _ (List.mem_of_getElem? (i := 12) rfl)) (hw _ (List.mem_of_getElem? (i := 11) rfl)) (by decide) (by decide)) (g := (mkF m 209 #[.val (.int p0), .val (.long q1), .second, .val (.int p2), .val (.int p3), .val (.ref b0_1), .val (.int (own_irem (p2 &&& (2147483647 : Int32)) (7 : Int32))), .val (.int (own_irem (p3 &&& (2147483647 : Int32)) (7 : Int32))), .val (.int (4 : Int32))] [(.int (own_irem (p3 &&& (2147483647 : Int32)) (7 : Int32))), (.int (own_irem (p2 &&& (2147483647 : Int32)) (7 : Int32))), (.ref b0_1)])) rfl (by rw [hml]; rfl) (argsL := [(.ref b0_1), (.int (own_irem (p2 &&& (2147483647 : Int32)) (7 : Int32))), (.int (own_irem (p3 &&& (2147483647 : Int32)) (7 : Int32)))]) (rest := []) (lenOf pd0_2 rfl) rfl (by show 2 * 0 + _ ≤ _; exact Nat.le_of_eq rfl) (hb hby at_209) (fun _ _ => ⟨rfl, e0_17, (by decide : 1 + 0 ≤ _), (by decide : 6 + 0 ≤ _)⟩)
          dsimp only [Pt.U, Pt.locs, Pt.cells, Pt.slots] at X0_23 l0_23 y0_23 z0_23 st0_23 hQ0_23
          subst l0_23 y0_23 z0_23
          obtain ⟨rfl, N0_23q, e0_23⟩ := hQ0_23
          have N0_23 := Fr.app N0_17 N0_23q
          refine own_fw st0_23 ?_
          refine own_fw (A := T0_23.setTop (mkF m 222 #[.val (.int p0), .val (.long q1), .second, .val (.int p2), .val (.int p3), .val (.ref b0_1), .val (.int (own_irem (p2 &&& (2147483647 : Int32)) (7 : Int32))), .val (.int (own_irem (p3 &&& (2147483647 : Int32)) (7 : Int32))), .val (.int (4 : Int32))] [(.int (1 : Int32))])) (fun t k => ?_) ?_
          · show Steps p.tables e below (T0_23.setTop (mkF m 212 #[.val (.int p0), .val (.long q1), .second, .val (.int p2), .val (.int p3), .val (.ref b0_1), .val (.int (own_irem (p2 &&& (2147483647 : Int32)) (7 : Int32))), .val (.int (own_irem (p3 &&& (2147483647 : Int32)) (7 : Int32))), .val (.int (4 : Int32))] [(.int (endV (nar .byte (pickF p0 q1 (0 : Int32))) (nar .byte (pickF p0 q1 (1 : Int32))) (nar .byte (pickF p0 q1 (2 : Int32))) (nar .byte (pickF p0 q1 (3 : Int32))) (nar .byte (pickF p0 q1 (4 : Int32))) (nar .byte (pickF p0 q1 (5 : Int32))) (own_irem (p2 &&& (2147483647 : Int32)) (7 : Int32)) (own_irem (p3 &&& (2147483647 : Int32)) (7 : Int32))))])) t
            refine XS.iload X0_23.here hx rfl (hb hby at_212) rfl ?_
            show Steps p.tables e below (T0_23.setTop (mkF m 214 #[.val (.int p0), .val (.long q1), .second, .val (.int p2), .val (.int p3), .val (.ref b0_1), .val (.int (own_irem (p2 &&& (2147483647 : Int32)) (7 : Int32))), .val (.int (own_irem (p3 &&& (2147483647 : Int32)) (7 : Int32))), .val (.int (4 : Int32))] [(.int (4 : Int32)), (.int (endV (nar .byte (pickF p0 q1 (0 : Int32))) (nar .byte (pickF p0 q1 (1 : Int32))) (nar .byte (pickF p0 q1 (2 : Int32))) (nar .byte (pickF p0 q1 (3 : Int32))) (nar .byte (pickF p0 q1 (4 : Int32))) (nar .byte (pickF p0 q1 (5 : Int32))) (own_irem (p2 &&& (2147483647 : Int32)) (7 : Int32)) (own_irem (p3 &&& (2147483647 : Int32)) (7 : Int32))))])) t
            refine XS.icmpNo X0_23.here hx rfl (hb hby at_214) rfl (teq ((own_fin (nar .byte (pickF p0 q1 (0 : Int32))) (nar .byte (pickF p0 q1 (1 : Int32))) (nar .byte (pickF p0 q1 (2 : Int32))) (nar .byte (pickF p0 q1 (3 : Int32))) (nar .byte (pickF p0 q1 (4 : Int32))) (nar .byte (pickF p0 q1 (5 : Int32))) (own_irem (p2 &&& (2147483647 : Int32)) (7 : Int32)) (own_irem (p3 &&& (2147483647 : Int32)) (7 : Int32)) (own_k7 p2) (own_k7 p3)).trans (by rw [if_pos hc0_1, if_pos hc0_2, if_pos hc0_3, if_neg hc0_4]))).2 ?_
            show Steps p.tables e below (T0_23.setTop (mkF m 217 #[.val (.int p0), .val (.long q1), .second, .val (.int p2), .val (.int p3), .val (.ref b0_1), .val (.int (own_irem (p2 &&& (2147483647 : Int32)) (7 : Int32))), .val (.int (own_irem (p3 &&& (2147483647 : Int32)) (7 : Int32))), .val (.int (4 : Int32))] [])) t
            refine XS.iconst X0_23.here hx rfl (hb hby at_217) ?_
            show Steps p.tables e below (T0_23.setTop (mkF m 218 #[.val (.int p0), .val (.long q1), .second, .val (.int p2), .val (.int p3), .val (.ref b0_1), .val (.int (own_irem (p2 &&& (2147483647 : Int32)) (7 : Int32))), .val (.int (own_irem (p3 &&& (2147483647 : Int32)) (7 : Int32))), .val (.int (4 : Int32))] [(.int (1 : Int32))])) t
            refine XS.goto X0_23.here hx rfl (pc0 := 218) (pc' := 222) rfl (hb hby at_218) (by decide) (by decide) ?_
            exact k
          obtain ⟨fs, hr, hrun, hended, hW, hsame⟩ := X0_23.leave (v := some (.int (nar .boolean (1 : Int32)))) (fun h => by rw [Bd.returns] at h; cases h)
          refine ⟨_, _, retN X0_23 hx (t := .boolean) Bd.returns (by simp) (hb hby at_222) hr, hrun, hended, _, _, rfl, ?_, ⟨_, rfl⟩, hW, hsame.mono (by decide) (by decide)⟩
          have eh : (T0_23.setFrames fs).heap = h0_13 := e0_23
          rw [eh]
          exact ⟨rfl, N0_23⟩
      · refine own_fw (A := T0_16.setTop (mkF m 136 #[.val (.int p0), .val (.long q1), .second, .val (.int p2), .val (.int p3), .val (.ref b0_1), .val (.int (own_irem (p2 &&& (2147483647 : Int32)) (7 : Int32))), .val (.int (own_irem (p3 &&& (2147483647 : Int32)) (7 : Int32))), .unset] [])) (fun t k => ?_) ?_
        · show Steps p.tables e below (T0_16.setTop (mkF m 133 #[.val (.int p0), .val (.long q1), .second, .val (.int p2), .val (.int p3), .val (.ref b0_1), .val (.int (own_irem (p2 &&& (2147483647 : Int32)) (7 : Int32))), .val (.int (own_irem (p3 &&& (2147483647 : Int32)) (7 : Int32))), .unset] [(.int (hF2 (nar .byte (pickF p0 q1 (0 : Int32))) (nar .byte (pickF p0 q1 (1 : Int32))) (nar .byte (pickF p0 q1 (2 : Int32))) (nar .byte (pickF p0 q1 (3 : Int32))) (nar .byte (pickF p0 q1 (4 : Int32))) (nar .byte (pickF p0 q1 (5 : Int32))) (own_irem (p2 &&& (2147483647 : Int32)) (7 : Int32)) (own_irem (p3 &&& (2147483647 : Int32)) (7 : Int32))))])) t
          refine XS.ifNo X0_16.here hx rfl (hb hby at_133) rfl ((if0 _ _).trans (feq hc0_3).1) ?_
          exact k
        refine own_fw (A := T0_16.setTop (mkF m 209 #[.val (.int p0), .val (.long q1), .second, .val (.int p2), .val (.int p3), .val (.ref b0_1), .val (.int (own_irem (p2 &&& (2147483647 : Int32)) (7 : Int32))), .val (.int (own_irem (p3 &&& (2147483647 : Int32)) (7 : Int32))), .val (.int (3 : Int32))] [(.int (own_irem (p3 &&& (2147483647 : Int32)) (7 : Int32))), (.int (own_irem (p2 &&& (2147483647 : Int32)) (7 : Int32))), (.ref b0_1)])) (fun t k => ?_) ?_
        · show Steps p.tables e below (T0_16.setTop (mkF m 136 #[.val (.int p0), .val (.long q1), .second, .val (.int p2), .val (.int p3), .val (.ref b0_1), .val (.int (own_irem (p2 &&& (2147483647 : Int32)) (7 : Int32))), .val (.int (own_irem (p3 &&& (2147483647 : Int32)) (7 : Int32))), .unset] [])) t
          refine XS.iconst X0_16.here hx rfl (hb hby at_136) ?_
          show Steps p.tables e below (T0_16.setTop (mkF m 137 #[.val (.int p0), .val (.long q1), .second, .val (.int p2), .val (.int p3), .val (.ref b0_1), .val (.int (own_irem (p2 &&& (2147483647 : Int32)) (7 : Int32))), .val (.int (own_irem (p3 &&& (2147483647 : Int32)) (7 : Int32))), .unset] [(.int (3 : Int32))])) t
          refine XS.istore X0_16.here hx rfl (hb hby at_137) rfl (l' := #[.val (.int p0), .val (.long q1), .second, .val (.int p2), .val (.int p3), .val (.ref b0_1), .val (.int (own_irem (p2 &&& (2147483647 : Int32)) (7 : Int32))), .val (.int (own_irem (p3 &&& (2147483647 : Int32)) (7 : Int32))), .val (.int (3 : Int32))]) rfl ?_
          show Steps p.tables e below (T0_16.setTop (mkF m 139 #[.val (.int p0), .val (.long q1), .second, .val (.int p2), .val (.int p3), .val (.ref b0_1), .val (.int (own_irem (p2 &&& (2147483647 : Int32)) (7 : Int32))), .val (.int (own_irem (p3 &&& (2147483647 : Int32)) (7 : Int32))), .val (.int (3 : Int32))] [])) t
          refine XS.goto X0_16.here hx rfl (pc0 := 139) (pc' := 203) rfl (hb hby at_139) (by decide) (by decide) ?_
          show Steps p.tables e below (T0_16.setTop (mkF m 203 #[.val (.int p0), .val (.long q1), .second, .val (.int p2), .val (.int p3), .val (.ref b0_1), .val (.int (own_irem (p2 &&& (2147483647 : Int32)) (7 : Int32))), .val (.int (own_irem (p3 &&& (2147483647 : Int32)) (7 : Int32))), .val (.int (3 : Int32))] [])) t
          refine XS.aload X0_16.here hx rfl (hb hby at_203) rfl rfl ?_
          show Steps p.tables e below (T0_16.setTop (mkF m 205 #[.val (.int p0), .val (.long q1), .second, .val (.int p2), .val (.int p3), .val (.ref b0_1), .val (.int (own_irem (p2 &&& (2147483647 : Int32)) (7 : Int32))), .val (.int (own_irem (p3 &&& (2147483647 : Int32)) (7 : Int32))), .val (.int (3 : Int32))] [(.ref b0_1)])) t
          refine XS.iload X0_16.here hx rfl (hb hby at_205) rfl ?_
          show Steps p.tables e below (T0_16.setTop (mkF m 207 #[.val (.int p0), .val (.long q1), .second, .val (.int p2), .val (.int p3), .val (.ref b0_1), .val (.int (own_irem (p2 &&& (2147483647 : Int32)) (7 : Int32))), .val (.int (own_irem (p3 &&& (2147483647 : Int32)) (7 : Int32))), .val (.int (3 : Int32))] [(.int (own_irem (p2 &&& (2147483647 : Int32)) (7 : Int32))), (.ref b0_1)])) t
          refine XS.iload X0_16.here hx rfl (hb hby at_207) rfl ?_
          exact k
        obtain ⟨_, _, ⟨T0_24, L0_24, k0_24, n0_24⟩, -, X0_24, ⟨Lc0_24, hQ0_24, l0_24, y0_24, z0_24⟩, st0_24⟩ := Jvm.LawKit.callS X0_16 hx (y := (⟨"com/example/finalmark/finalmark/RequestHead", "end", "([BII)I"⟩ : MethodName)) hown (mvT hZ (hw _ (List.mem_of_getElem? (i := 9) rfl))) (mvT hZ (hw _ (List.mem_of_getElem? (i := 10) rfl))) (mvT hZ (hw _ (List.mem_of_getElem? (i := 11) rfl))) (mvT hZ (hw _ (List.mem_of_getElem? (i := 12) rfl))) (by decide) (backOf (W := 0) (rmE l Z a0 hw [] b0_1 (own_irem (p2 &&& (2147483647 : Int32)) (7 : Int32)) (own_irem (p3 &&& (2147483647 : Int32)) (7 : Int32)) k0_1 (nar .byte (pickF p0 q1 (0 : Int32))) (nar .byte (pickF p0 q1 (1 : Int32))) (nar .byte (pickF p0 q1 (2 : Int32))) (nar .byte (pickF p0 q1 (3 : Int32))) (nar .byte (pickF p0 q1 (4 : Int32))) (nar .byte (pickF p0 q1 (5 : Int32))) h0_13 n0 (Nat.le_trans (Nat.le_trans (Nat.le_trans (Nat.le_trans (Nat.le_trans (Nat.le_trans (Nat.le_trans Z0 E0_1.1) (Keep.of_wr W0_3).1) (Keep.of_wr W0_5).1) (Keep.of_wr W0_7).1) (Keep.of_wr W0_9).1) (Keep.of_wr W0_11).1) (Keep.of_wr W0_13).1) V0_13 (own_k7 p2) (own_q6 p3)) hZ (hw _ (List.mem_of_getElem? (i := 12) rfl)) (hw _ (List.mem_of_getElem? (i := 11) rfl)) (by decide) (by decide)) (g := (mkF m 209 #[.val (.int p0), .val (.long q1), .second, .val (.int p2), .val (.int p3), .val (.ref b0_1), .val (.int (own_irem (p2 &&& (2147483647 : Int32)) (7 : Int32))), .val (.int (own_irem (p3 &&& (2147483647 : Int32)) (7 : Int32))), .val (.int (3 : Int32))] [(.int (own_irem (p3 &&& (2147483647 : Int32)) (7 : Int32))), (.int (own_irem (p2 &&& (2147483647 : Int32)) (7 : Int32))), (.ref b0_1)])) rfl (by rw [hml]; rfl) (argsL := [(.ref b0_1), (.int (own_irem (p2 &&& (2147483647 : Int32)) (7 : Int32))), (.int (own_irem (p3 &&& (2147483647 : Int32)) (7 : Int32)))]) (rest := []) (lenOf pd0_2 rfl) rfl (by show 2 * 0 + _ ≤ _; exact Nat.le_of_eq rfl) (hb hby at_209) (fun _ _ => ⟨rfl, e0_16, (by decide : 1 + 0 ≤ _), (by decide : 6 + 0 ≤ _)⟩)
        dsimp only [Pt.U, Pt.locs, Pt.cells, Pt.slots] at X0_24 l0_24 y0_24 z0_24 st0_24 hQ0_24
        subst l0_24 y0_24 z0_24
        obtain ⟨rfl, N0_24q, e0_24⟩ := hQ0_24
        have N0_24 := Fr.app N0_16 N0_24q
        refine own_fw st0_24 ?_
        refine own_fw (A := T0_24.setTop (mkF m 222 #[.val (.int p0), .val (.long q1), .second, .val (.int p2), .val (.int p3), .val (.ref b0_1), .val (.int (own_irem (p2 &&& (2147483647 : Int32)) (7 : Int32))), .val (.int (own_irem (p3 &&& (2147483647 : Int32)) (7 : Int32))), .val (.int (3 : Int32))] [(.int (1 : Int32))])) (fun t k => ?_) ?_
        · show Steps p.tables e below (T0_24.setTop (mkF m 212 #[.val (.int p0), .val (.long q1), .second, .val (.int p2), .val (.int p3), .val (.ref b0_1), .val (.int (own_irem (p2 &&& (2147483647 : Int32)) (7 : Int32))), .val (.int (own_irem (p3 &&& (2147483647 : Int32)) (7 : Int32))), .val (.int (3 : Int32))] [(.int (endV (nar .byte (pickF p0 q1 (0 : Int32))) (nar .byte (pickF p0 q1 (1 : Int32))) (nar .byte (pickF p0 q1 (2 : Int32))) (nar .byte (pickF p0 q1 (3 : Int32))) (nar .byte (pickF p0 q1 (4 : Int32))) (nar .byte (pickF p0 q1 (5 : Int32))) (own_irem (p2 &&& (2147483647 : Int32)) (7 : Int32)) (own_irem (p3 &&& (2147483647 : Int32)) (7 : Int32))))])) t
          refine XS.iload X0_24.here hx rfl (hb hby at_212) rfl ?_
          show Steps p.tables e below (T0_24.setTop (mkF m 214 #[.val (.int p0), .val (.long q1), .second, .val (.int p2), .val (.int p3), .val (.ref b0_1), .val (.int (own_irem (p2 &&& (2147483647 : Int32)) (7 : Int32))), .val (.int (own_irem (p3 &&& (2147483647 : Int32)) (7 : Int32))), .val (.int (3 : Int32))] [(.int (3 : Int32)), (.int (endV (nar .byte (pickF p0 q1 (0 : Int32))) (nar .byte (pickF p0 q1 (1 : Int32))) (nar .byte (pickF p0 q1 (2 : Int32))) (nar .byte (pickF p0 q1 (3 : Int32))) (nar .byte (pickF p0 q1 (4 : Int32))) (nar .byte (pickF p0 q1 (5 : Int32))) (own_irem (p2 &&& (2147483647 : Int32)) (7 : Int32)) (own_irem (p3 &&& (2147483647 : Int32)) (7 : Int32))))])) t
          refine XS.icmpNo X0_24.here hx rfl (hb hby at_214) rfl (teq ((own_fin (nar .byte (pickF p0 q1 (0 : Int32))) (nar .byte (pickF p0 q1 (1 : Int32))) (nar .byte (pickF p0 q1 (2 : Int32))) (nar .byte (pickF p0 q1 (3 : Int32))) (nar .byte (pickF p0 q1 (4 : Int32))) (nar .byte (pickF p0 q1 (5 : Int32))) (own_irem (p2 &&& (2147483647 : Int32)) (7 : Int32)) (own_irem (p3 &&& (2147483647 : Int32)) (7 : Int32)) (own_k7 p2) (own_k7 p3)).trans (by rw [if_pos hc0_1, if_pos hc0_2, if_neg hc0_3]))).2 ?_
          show Steps p.tables e below (T0_24.setTop (mkF m 217 #[.val (.int p0), .val (.long q1), .second, .val (.int p2), .val (.int p3), .val (.ref b0_1), .val (.int (own_irem (p2 &&& (2147483647 : Int32)) (7 : Int32))), .val (.int (own_irem (p3 &&& (2147483647 : Int32)) (7 : Int32))), .val (.int (3 : Int32))] [])) t
          refine XS.iconst X0_24.here hx rfl (hb hby at_217) ?_
          show Steps p.tables e below (T0_24.setTop (mkF m 218 #[.val (.int p0), .val (.long q1), .second, .val (.int p2), .val (.int p3), .val (.ref b0_1), .val (.int (own_irem (p2 &&& (2147483647 : Int32)) (7 : Int32))), .val (.int (own_irem (p3 &&& (2147483647 : Int32)) (7 : Int32))), .val (.int (3 : Int32))] [(.int (1 : Int32))])) t
          refine XS.goto X0_24.here hx rfl (pc0 := 218) (pc' := 222) rfl (hb hby at_218) (by decide) (by decide) ?_
          exact k
        obtain ⟨fs, hr, hrun, hended, hW, hsame⟩ := X0_24.leave (v := some (.int (nar .boolean (1 : Int32)))) (fun h => by rw [Bd.returns] at h; cases h)
        refine ⟨_, _, retN X0_24 hx (t := .boolean) Bd.returns (by simp) (hb hby at_222) hr, hrun, hended, _, _, rfl, ?_, ⟨_, rfl⟩, hW, hsame.mono (by decide) (by decide)⟩
        have eh : (T0_24.setFrames fs).heap = h0_13 := e0_24
        rw [eh]
        exact ⟨rfl, N0_24⟩
    · refine own_fw (A := T0_15.setTop (mkF m 117 #[.val (.int p0), .val (.long q1), .second, .val (.int p2), .val (.int p3), .val (.ref b0_1), .val (.int (own_irem (p2 &&& (2147483647 : Int32)) (7 : Int32))), .val (.int (own_irem (p3 &&& (2147483647 : Int32)) (7 : Int32))), .unset] [])) (fun t k => ?_) ?_
      · show Steps p.tables e below (T0_15.setTop (mkF m 114 #[.val (.int p0), .val (.long q1), .second, .val (.int p2), .val (.int p3), .val (.ref b0_1), .val (.int (own_irem (p2 &&& (2147483647 : Int32)) (7 : Int32))), .val (.int (own_irem (p3 &&& (2147483647 : Int32)) (7 : Int32))), .unset] [(.int (hF1 (nar .byte (pickF p0 q1 (0 : Int32))) (nar .byte (pickF p0 q1 (1 : Int32))) (nar .byte (pickF p0 q1 (2 : Int32))) (nar .byte (pickF p0 q1 (3 : Int32))) (nar .byte (pickF p0 q1 (4 : Int32))) (nar .byte (pickF p0 q1 (5 : Int32))) (own_irem (p2 &&& (2147483647 : Int32)) (7 : Int32)) (own_irem (p3 &&& (2147483647 : Int32)) (7 : Int32))))])) t
        refine XS.ifNo X0_15.here hx rfl (hb hby at_114) rfl ((if0 _ _).trans (feq hc0_2).1) ?_
        exact k
      refine own_fw (A := T0_15.setTop (mkF m 209 #[.val (.int p0), .val (.long q1), .second, .val (.int p2), .val (.int p3), .val (.ref b0_1), .val (.int (own_irem (p2 &&& (2147483647 : Int32)) (7 : Int32))), .val (.int (own_irem (p3 &&& (2147483647 : Int32)) (7 : Int32))), .val (.int (2 : Int32))] [(.int (own_irem (p3 &&& (2147483647 : Int32)) (7 : Int32))), (.int (own_irem (p2 &&& (2147483647 : Int32)) (7 : Int32))), (.ref b0_1)])) (fun t k => ?_) ?_
      · show Steps p.tables e below (T0_15.setTop (mkF m 117 #[.val (.int p0), .val (.long q1), .second, .val (.int p2), .val (.int p3), .val (.ref b0_1), .val (.int (own_irem (p2 &&& (2147483647 : Int32)) (7 : Int32))), .val (.int (own_irem (p3 &&& (2147483647 : Int32)) (7 : Int32))), .unset] [])) t
        refine XS.iconst X0_15.here hx rfl (hb hby at_117) ?_
        show Steps p.tables e below (T0_15.setTop (mkF m 118 #[.val (.int p0), .val (.long q1), .second, .val (.int p2), .val (.int p3), .val (.ref b0_1), .val (.int (own_irem (p2 &&& (2147483647 : Int32)) (7 : Int32))), .val (.int (own_irem (p3 &&& (2147483647 : Int32)) (7 : Int32))), .unset] [(.int (2 : Int32))])) t
        refine XS.istore X0_15.here hx rfl (hb hby at_118) rfl (l' := #[.val (.int p0), .val (.long q1), .second, .val (.int p2), .val (.int p3), .val (.ref b0_1), .val (.int (own_irem (p2 &&& (2147483647 : Int32)) (7 : Int32))), .val (.int (own_irem (p3 &&& (2147483647 : Int32)) (7 : Int32))), .val (.int (2 : Int32))]) rfl ?_
        show Steps p.tables e below (T0_15.setTop (mkF m 120 #[.val (.int p0), .val (.long q1), .second, .val (.int p2), .val (.int p3), .val (.ref b0_1), .val (.int (own_irem (p2 &&& (2147483647 : Int32)) (7 : Int32))), .val (.int (own_irem (p3 &&& (2147483647 : Int32)) (7 : Int32))), .val (.int (2 : Int32))] [])) t
        refine XS.goto X0_15.here hx rfl (pc0 := 120) (pc' := 203) rfl (hb hby at_120) (by decide) (by decide) ?_
        show Steps p.tables e below (T0_15.setTop (mkF m 203 #[.val (.int p0), .val (.long q1), .second, .val (.int p2), .val (.int p3), .val (.ref b0_1), .val (.int (own_irem (p2 &&& (2147483647 : Int32)) (7 : Int32))), .val (.int (own_irem (p3 &&& (2147483647 : Int32)) (7 : Int32))), .val (.int (2 : Int32))] [])) t
        refine XS.aload X0_15.here hx rfl (hb hby at_203) rfl rfl ?_
        show Steps p.tables e below (T0_15.setTop (mkF m 205 #[.val (.int p0), .val (.long q1), .second, .val (.int p2), .val (.int p3), .val (.ref b0_1), .val (.int (own_irem (p2 &&& (2147483647 : Int32)) (7 : Int32))), .val (.int (own_irem (p3 &&& (2147483647 : Int32)) (7 : Int32))), .val (.int (2 : Int32))] [(.ref b0_1)])) t
        refine XS.iload X0_15.here hx rfl (hb hby at_205) rfl ?_
        show Steps p.tables e below (T0_15.setTop (mkF m 207 #[.val (.int p0), .val (.long q1), .second, .val (.int p2), .val (.int p3), .val (.ref b0_1), .val (.int (own_irem (p2 &&& (2147483647 : Int32)) (7 : Int32))), .val (.int (own_irem (p3 &&& (2147483647 : Int32)) (7 : Int32))), .val (.int (2 : Int32))] [(.int (own_irem (p2 &&& (2147483647 : Int32)) (7 : Int32))), (.ref b0_1)])) t
        refine XS.iload X0_15.here hx rfl (hb hby at_207) rfl ?_
        exact k
      obtain ⟨_, _, ⟨T0_25, L0_25, k0_25, n0_25⟩, -, X0_25, ⟨Lc0_25, hQ0_25, l0_25, y0_25, z0_25⟩, st0_25⟩ := Jvm.LawKit.callS X0_15 hx (y := (⟨"com/example/finalmark/finalmark/RequestHead", "end", "([BII)I"⟩ : MethodName)) hown (mvT hZ (hw _ (List.mem_of_getElem? (i := 9) rfl))) (mvT hZ (hw _ (List.mem_of_getElem? (i := 10) rfl))) (mvT hZ (hw _ (List.mem_of_getElem? (i := 11) rfl))) (mvT hZ (hw _ (List.mem_of_getElem? (i := 12) rfl))) (by decide) (backOf (W := 0) (rmE l Z a0 hw [] b0_1 (own_irem (p2 &&& (2147483647 : Int32)) (7 : Int32)) (own_irem (p3 &&& (2147483647 : Int32)) (7 : Int32)) k0_1 (nar .byte (pickF p0 q1 (0 : Int32))) (nar .byte (pickF p0 q1 (1 : Int32))) (nar .byte (pickF p0 q1 (2 : Int32))) (nar .byte (pickF p0 q1 (3 : Int32))) (nar .byte (pickF p0 q1 (4 : Int32))) (nar .byte (pickF p0 q1 (5 : Int32))) h0_13 n0 (Nat.le_trans (Nat.le_trans (Nat.le_trans (Nat.le_trans (Nat.le_trans (Nat.le_trans (Nat.le_trans Z0 E0_1.1) (Keep.of_wr W0_3).1) (Keep.of_wr W0_5).1) (Keep.of_wr W0_7).1) (Keep.of_wr W0_9).1) (Keep.of_wr W0_11).1) (Keep.of_wr W0_13).1) V0_13 (own_k7 p2) (own_q6 p3)) hZ (hw _ (List.mem_of_getElem? (i := 12) rfl)) (hw _ (List.mem_of_getElem? (i := 11) rfl)) (by decide) (by decide)) (g := (mkF m 209 #[.val (.int p0), .val (.long q1), .second, .val (.int p2), .val (.int p3), .val (.ref b0_1), .val (.int (own_irem (p2 &&& (2147483647 : Int32)) (7 : Int32))), .val (.int (own_irem (p3 &&& (2147483647 : Int32)) (7 : Int32))), .val (.int (2 : Int32))] [(.int (own_irem (p3 &&& (2147483647 : Int32)) (7 : Int32))), (.int (own_irem (p2 &&& (2147483647 : Int32)) (7 : Int32))), (.ref b0_1)])) rfl (by rw [hml]; rfl) (argsL := [(.ref b0_1), (.int (own_irem (p2 &&& (2147483647 : Int32)) (7 : Int32))), (.int (own_irem (p3 &&& (2147483647 : Int32)) (7 : Int32)))]) (rest := []) (lenOf pd0_2 rfl) rfl (by show 2 * 0 + _ ≤ _; exact Nat.le_of_eq rfl) (hb hby at_209) (fun _ _ => ⟨rfl, e0_15, (by decide : 1 + 0 ≤ _), (by decide : 6 + 0 ≤ _)⟩)
      dsimp only [Pt.U, Pt.locs, Pt.cells, Pt.slots] at X0_25 l0_25 y0_25 z0_25 st0_25 hQ0_25
      subst l0_25 y0_25 z0_25
      obtain ⟨rfl, N0_25q, e0_25⟩ := hQ0_25
      have N0_25 := Fr.app N0_15 N0_25q
      refine own_fw st0_25 ?_
      refine own_fw (A := T0_25.setTop (mkF m 222 #[.val (.int p0), .val (.long q1), .second, .val (.int p2), .val (.int p3), .val (.ref b0_1), .val (.int (own_irem (p2 &&& (2147483647 : Int32)) (7 : Int32))), .val (.int (own_irem (p3 &&& (2147483647 : Int32)) (7 : Int32))), .val (.int (2 : Int32))] [(.int (1 : Int32))])) (fun t k => ?_) ?_
      · show Steps p.tables e below (T0_25.setTop (mkF m 212 #[.val (.int p0), .val (.long q1), .second, .val (.int p2), .val (.int p3), .val (.ref b0_1), .val (.int (own_irem (p2 &&& (2147483647 : Int32)) (7 : Int32))), .val (.int (own_irem (p3 &&& (2147483647 : Int32)) (7 : Int32))), .val (.int (2 : Int32))] [(.int (endV (nar .byte (pickF p0 q1 (0 : Int32))) (nar .byte (pickF p0 q1 (1 : Int32))) (nar .byte (pickF p0 q1 (2 : Int32))) (nar .byte (pickF p0 q1 (3 : Int32))) (nar .byte (pickF p0 q1 (4 : Int32))) (nar .byte (pickF p0 q1 (5 : Int32))) (own_irem (p2 &&& (2147483647 : Int32)) (7 : Int32)) (own_irem (p3 &&& (2147483647 : Int32)) (7 : Int32))))])) t
        refine XS.iload X0_25.here hx rfl (hb hby at_212) rfl ?_
        show Steps p.tables e below (T0_25.setTop (mkF m 214 #[.val (.int p0), .val (.long q1), .second, .val (.int p2), .val (.int p3), .val (.ref b0_1), .val (.int (own_irem (p2 &&& (2147483647 : Int32)) (7 : Int32))), .val (.int (own_irem (p3 &&& (2147483647 : Int32)) (7 : Int32))), .val (.int (2 : Int32))] [(.int (2 : Int32)), (.int (endV (nar .byte (pickF p0 q1 (0 : Int32))) (nar .byte (pickF p0 q1 (1 : Int32))) (nar .byte (pickF p0 q1 (2 : Int32))) (nar .byte (pickF p0 q1 (3 : Int32))) (nar .byte (pickF p0 q1 (4 : Int32))) (nar .byte (pickF p0 q1 (5 : Int32))) (own_irem (p2 &&& (2147483647 : Int32)) (7 : Int32)) (own_irem (p3 &&& (2147483647 : Int32)) (7 : Int32))))])) t
        refine XS.icmpNo X0_25.here hx rfl (hb hby at_214) rfl (teq ((own_fin (nar .byte (pickF p0 q1 (0 : Int32))) (nar .byte (pickF p0 q1 (1 : Int32))) (nar .byte (pickF p0 q1 (2 : Int32))) (nar .byte (pickF p0 q1 (3 : Int32))) (nar .byte (pickF p0 q1 (4 : Int32))) (nar .byte (pickF p0 q1 (5 : Int32))) (own_irem (p2 &&& (2147483647 : Int32)) (7 : Int32)) (own_irem (p3 &&& (2147483647 : Int32)) (7 : Int32)) (own_k7 p2) (own_k7 p3)).trans (by rw [if_pos hc0_1, if_neg hc0_2]))).2 ?_
        show Steps p.tables e below (T0_25.setTop (mkF m 217 #[.val (.int p0), .val (.long q1), .second, .val (.int p2), .val (.int p3), .val (.ref b0_1), .val (.int (own_irem (p2 &&& (2147483647 : Int32)) (7 : Int32))), .val (.int (own_irem (p3 &&& (2147483647 : Int32)) (7 : Int32))), .val (.int (2 : Int32))] [])) t
        refine XS.iconst X0_25.here hx rfl (hb hby at_217) ?_
        show Steps p.tables e below (T0_25.setTop (mkF m 218 #[.val (.int p0), .val (.long q1), .second, .val (.int p2), .val (.int p3), .val (.ref b0_1), .val (.int (own_irem (p2 &&& (2147483647 : Int32)) (7 : Int32))), .val (.int (own_irem (p3 &&& (2147483647 : Int32)) (7 : Int32))), .val (.int (2 : Int32))] [(.int (1 : Int32))])) t
        refine XS.goto X0_25.here hx rfl (pc0 := 218) (pc' := 222) rfl (hb hby at_218) (by decide) (by decide) ?_
        exact k
      obtain ⟨fs, hr, hrun, hended, hW, hsame⟩ := X0_25.leave (v := some (.int (nar .boolean (1 : Int32)))) (fun h => by rw [Bd.returns] at h; cases h)
      refine ⟨_, _, retN X0_25 hx (t := .boolean) Bd.returns (by simp) (hb hby at_222) hr, hrun, hended, _, _, rfl, ?_, ⟨_, rfl⟩, hW, hsame.mono (by decide) (by decide)⟩
      have eh : (T0_25.setFrames fs).heap = h0_13 := e0_25
      rw [eh]
      exact ⟨rfl, N0_25⟩
  · refine own_fw (A := T0_14.setTop (mkF m 98 #[.val (.int p0), .val (.long q1), .second, .val (.int p2), .val (.int p3), .val (.ref b0_1), .val (.int (own_irem (p2 &&& (2147483647 : Int32)) (7 : Int32))), .val (.int (own_irem (p3 &&& (2147483647 : Int32)) (7 : Int32))), .unset] [])) (fun t k => ?_) ?_
    · show Steps p.tables e below (T0_14.setTop (mkF m 95 #[.val (.int p0), .val (.long q1), .second, .val (.int p2), .val (.int p3), .val (.ref b0_1), .val (.int (own_irem (p2 &&& (2147483647 : Int32)) (7 : Int32))), .val (.int (own_irem (p3 &&& (2147483647 : Int32)) (7 : Int32))), .unset] [(.int (hF0 (nar .byte (pickF p0 q1 (0 : Int32))) (nar .byte (pickF p0 q1 (1 : Int32))) (nar .byte (pickF p0 q1 (2 : Int32))) (nar .byte (pickF p0 q1 (3 : Int32))) (nar .byte (pickF p0 q1 (4 : Int32))) (nar .byte (pickF p0 q1 (5 : Int32))) (own_irem (p2 &&& (2147483647 : Int32)) (7 : Int32)) (own_irem (p3 &&& (2147483647 : Int32)) (7 : Int32))))])) t
      refine XS.ifNo X0_14.here hx rfl (hb hby at_95) rfl ((if0 _ _).trans (feq hc0_1).1) ?_
      exact k
    refine own_fw (A := T0_14.setTop (mkF m 209 #[.val (.int p0), .val (.long q1), .second, .val (.int p2), .val (.int p3), .val (.ref b0_1), .val (.int (own_irem (p2 &&& (2147483647 : Int32)) (7 : Int32))), .val (.int (own_irem (p3 &&& (2147483647 : Int32)) (7 : Int32))), .val (.int (1 : Int32))] [(.int (own_irem (p3 &&& (2147483647 : Int32)) (7 : Int32))), (.int (own_irem (p2 &&& (2147483647 : Int32)) (7 : Int32))), (.ref b0_1)])) (fun t k => ?_) ?_
    · show Steps p.tables e below (T0_14.setTop (mkF m 98 #[.val (.int p0), .val (.long q1), .second, .val (.int p2), .val (.int p3), .val (.ref b0_1), .val (.int (own_irem (p2 &&& (2147483647 : Int32)) (7 : Int32))), .val (.int (own_irem (p3 &&& (2147483647 : Int32)) (7 : Int32))), .unset] [])) t
      refine XS.iconst X0_14.here hx rfl (hb hby at_98) ?_
      show Steps p.tables e below (T0_14.setTop (mkF m 99 #[.val (.int p0), .val (.long q1), .second, .val (.int p2), .val (.int p3), .val (.ref b0_1), .val (.int (own_irem (p2 &&& (2147483647 : Int32)) (7 : Int32))), .val (.int (own_irem (p3 &&& (2147483647 : Int32)) (7 : Int32))), .unset] [(.int (1 : Int32))])) t
      refine XS.istore X0_14.here hx rfl (hb hby at_99) rfl (l' := #[.val (.int p0), .val (.long q1), .second, .val (.int p2), .val (.int p3), .val (.ref b0_1), .val (.int (own_irem (p2 &&& (2147483647 : Int32)) (7 : Int32))), .val (.int (own_irem (p3 &&& (2147483647 : Int32)) (7 : Int32))), .val (.int (1 : Int32))]) rfl ?_
      show Steps p.tables e below (T0_14.setTop (mkF m 101 #[.val (.int p0), .val (.long q1), .second, .val (.int p2), .val (.int p3), .val (.ref b0_1), .val (.int (own_irem (p2 &&& (2147483647 : Int32)) (7 : Int32))), .val (.int (own_irem (p3 &&& (2147483647 : Int32)) (7 : Int32))), .val (.int (1 : Int32))] [])) t
      refine XS.goto X0_14.here hx rfl (pc0 := 101) (pc' := 203) rfl (hb hby at_101) (by decide) (by decide) ?_
      show Steps p.tables e below (T0_14.setTop (mkF m 203 #[.val (.int p0), .val (.long q1), .second, .val (.int p2), .val (.int p3), .val (.ref b0_1), .val (.int (own_irem (p2 &&& (2147483647 : Int32)) (7 : Int32))), .val (.int (own_irem (p3 &&& (2147483647 : Int32)) (7 : Int32))), .val (.int (1 : Int32))] [])) t
      refine XS.aload X0_14.here hx rfl (hb hby at_203) rfl rfl ?_
      show Steps p.tables e below (T0_14.setTop (mkF m 205 #[.val (.int p0), .val (.long q1), .second, .val (.int p2), .val (.int p3), .val (.ref b0_1), .val (.int (own_irem (p2 &&& (2147483647 : Int32)) (7 : Int32))), .val (.int (own_irem (p3 &&& (2147483647 : Int32)) (7 : Int32))), .val (.int (1 : Int32))] [(.ref b0_1)])) t
      refine XS.iload X0_14.here hx rfl (hb hby at_205) rfl ?_
      show Steps p.tables e below (T0_14.setTop (mkF m 207 #[.val (.int p0), .val (.long q1), .second, .val (.int p2), .val (.int p3), .val (.ref b0_1), .val (.int (own_irem (p2 &&& (2147483647 : Int32)) (7 : Int32))), .val (.int (own_irem (p3 &&& (2147483647 : Int32)) (7 : Int32))), .val (.int (1 : Int32))] [(.int (own_irem (p2 &&& (2147483647 : Int32)) (7 : Int32))), (.ref b0_1)])) t
      refine XS.iload X0_14.here hx rfl (hb hby at_207) rfl ?_
      exact k
    obtain ⟨_, _, ⟨T0_26, L0_26, k0_26, n0_26⟩, -, X0_26, ⟨Lc0_26, hQ0_26, l0_26, y0_26, z0_26⟩, st0_26⟩ := Jvm.LawKit.callS X0_14 hx (y := (⟨"com/example/finalmark/finalmark/RequestHead", "end", "([BII)I"⟩ : MethodName)) hown (mvT hZ (hw _ (List.mem_of_getElem? (i := 9) rfl))) (mvT hZ (hw _ (List.mem_of_getElem? (i := 10) rfl))) (mvT hZ (hw _ (List.mem_of_getElem? (i := 11) rfl))) (mvT hZ (hw _ (List.mem_of_getElem? (i := 12) rfl))) (by decide) (backOf (W := 0) (rmE l Z a0 hw [] b0_1 (own_irem (p2 &&& (2147483647 : Int32)) (7 : Int32)) (own_irem (p3 &&& (2147483647 : Int32)) (7 : Int32)) k0_1 (nar .byte (pickF p0 q1 (0 : Int32))) (nar .byte (pickF p0 q1 (1 : Int32))) (nar .byte (pickF p0 q1 (2 : Int32))) (nar .byte (pickF p0 q1 (3 : Int32))) (nar .byte (pickF p0 q1 (4 : Int32))) (nar .byte (pickF p0 q1 (5 : Int32))) h0_13 n0 (Nat.le_trans (Nat.le_trans (Nat.le_trans (Nat.le_trans (Nat.le_trans (Nat.le_trans (Nat.le_trans Z0 E0_1.1) (Keep.of_wr W0_3).1) (Keep.of_wr W0_5).1) (Keep.of_wr W0_7).1) (Keep.of_wr W0_9).1) (Keep.of_wr W0_11).1) (Keep.of_wr W0_13).1) V0_13 (own_k7 p2) (own_q6 p3)) hZ (hw _ (List.mem_of_getElem? (i := 12) rfl)) (hw _ (List.mem_of_getElem? (i := 11) rfl)) (by decide) (by decide)) (g := (mkF m 209 #[.val (.int p0), .val (.long q1), .second, .val (.int p2), .val (.int p3), .val (.ref b0_1), .val (.int (own_irem (p2 &&& (2147483647 : Int32)) (7 : Int32))), .val (.int (own_irem (p3 &&& (2147483647 : Int32)) (7 : Int32))), .val (.int (1 : Int32))] [(.int (own_irem (p3 &&& (2147483647 : Int32)) (7 : Int32))), (.int (own_irem (p2 &&& (2147483647 : Int32)) (7 : Int32))), (.ref b0_1)])) rfl (by rw [hml]; rfl) (argsL := [(.ref b0_1), (.int (own_irem (p2 &&& (2147483647 : Int32)) (7 : Int32))), (.int (own_irem (p3 &&& (2147483647 : Int32)) (7 : Int32)))]) (rest := []) (lenOf pd0_2 rfl) rfl (by show 2 * 0 + _ ≤ _; exact Nat.le_of_eq rfl) (hb hby at_209) (fun _ _ => ⟨rfl, e0_14, (by decide : 1 + 0 ≤ _), (by decide : 6 + 0 ≤ _)⟩)
    dsimp only [Pt.U, Pt.locs, Pt.cells, Pt.slots] at X0_26 l0_26 y0_26 z0_26 st0_26 hQ0_26
    subst l0_26 y0_26 z0_26
    obtain ⟨rfl, N0_26q, e0_26⟩ := hQ0_26
    have N0_26 := Fr.app N0_14 N0_26q
    refine own_fw st0_26 ?_
    refine own_fw (A := T0_26.setTop (mkF m 222 #[.val (.int p0), .val (.long q1), .second, .val (.int p2), .val (.int p3), .val (.ref b0_1), .val (.int (own_irem (p2 &&& (2147483647 : Int32)) (7 : Int32))), .val (.int (own_irem (p3 &&& (2147483647 : Int32)) (7 : Int32))), .val (.int (1 : Int32))] [(.int (1 : Int32))])) (fun t k => ?_) ?_
    · show Steps p.tables e below (T0_26.setTop (mkF m 212 #[.val (.int p0), .val (.long q1), .second, .val (.int p2), .val (.int p3), .val (.ref b0_1), .val (.int (own_irem (p2 &&& (2147483647 : Int32)) (7 : Int32))), .val (.int (own_irem (p3 &&& (2147483647 : Int32)) (7 : Int32))), .val (.int (1 : Int32))] [(.int (endV (nar .byte (pickF p0 q1 (0 : Int32))) (nar .byte (pickF p0 q1 (1 : Int32))) (nar .byte (pickF p0 q1 (2 : Int32))) (nar .byte (pickF p0 q1 (3 : Int32))) (nar .byte (pickF p0 q1 (4 : Int32))) (nar .byte (pickF p0 q1 (5 : Int32))) (own_irem (p2 &&& (2147483647 : Int32)) (7 : Int32)) (own_irem (p3 &&& (2147483647 : Int32)) (7 : Int32))))])) t
      refine XS.iload X0_26.here hx rfl (hb hby at_212) rfl ?_
      show Steps p.tables e below (T0_26.setTop (mkF m 214 #[.val (.int p0), .val (.long q1), .second, .val (.int p2), .val (.int p3), .val (.ref b0_1), .val (.int (own_irem (p2 &&& (2147483647 : Int32)) (7 : Int32))), .val (.int (own_irem (p3 &&& (2147483647 : Int32)) (7 : Int32))), .val (.int (1 : Int32))] [(.int (1 : Int32)), (.int (endV (nar .byte (pickF p0 q1 (0 : Int32))) (nar .byte (pickF p0 q1 (1 : Int32))) (nar .byte (pickF p0 q1 (2 : Int32))) (nar .byte (pickF p0 q1 (3 : Int32))) (nar .byte (pickF p0 q1 (4 : Int32))) (nar .byte (pickF p0 q1 (5 : Int32))) (own_irem (p2 &&& (2147483647 : Int32)) (7 : Int32)) (own_irem (p3 &&& (2147483647 : Int32)) (7 : Int32))))])) t
      refine XS.icmpNo X0_26.here hx rfl (hb hby at_214) rfl (teq ((own_fin (nar .byte (pickF p0 q1 (0 : Int32))) (nar .byte (pickF p0 q1 (1 : Int32))) (nar .byte (pickF p0 q1 (2 : Int32))) (nar .byte (pickF p0 q1 (3 : Int32))) (nar .byte (pickF p0 q1 (4 : Int32))) (nar .byte (pickF p0 q1 (5 : Int32))) (own_irem (p2 &&& (2147483647 : Int32)) (7 : Int32)) (own_irem (p3 &&& (2147483647 : Int32)) (7 : Int32)) (own_k7 p2) (own_k7 p3)).trans (by rw [if_neg hc0_1]))).2 ?_
      show Steps p.tables e below (T0_26.setTop (mkF m 217 #[.val (.int p0), .val (.long q1), .second, .val (.int p2), .val (.int p3), .val (.ref b0_1), .val (.int (own_irem (p2 &&& (2147483647 : Int32)) (7 : Int32))), .val (.int (own_irem (p3 &&& (2147483647 : Int32)) (7 : Int32))), .val (.int (1 : Int32))] [])) t
      refine XS.iconst X0_26.here hx rfl (hb hby at_217) ?_
      show Steps p.tables e below (T0_26.setTop (mkF m 218 #[.val (.int p0), .val (.long q1), .second, .val (.int p2), .val (.int p3), .val (.ref b0_1), .val (.int (own_irem (p2 &&& (2147483647 : Int32)) (7 : Int32))), .val (.int (own_irem (p3 &&& (2147483647 : Int32)) (7 : Int32))), .val (.int (1 : Int32))] [(.int (1 : Int32))])) t
      refine XS.goto X0_26.here hx rfl (pc0 := 218) (pc' := 222) rfl (hb hby at_218) (by decide) (by decide) ?_
      exact k
    obtain ⟨fs, hr, hrun, hended, hW, hsame⟩ := X0_26.leave (v := some (.int (nar .boolean (1 : Int32)))) (fun h => by rw [Bd.returns] at h; cases h)
    refine ⟨_, _, retN X0_26 hx (t := .boolean) Bd.returns (by simp) (hb hby at_222) hr, hrun, hended, _, _, rfl, ?_, ⟨_, rfl⟩, hW, hsame.mono (by decide) (by decide)⟩
    have eh : (T0_26.setFrames fs).heap = h0_13 := e0_26
    rw [eh]
    exact ⟨rfl, N0_26⟩
set_option maxRecDepth 65536 in
set_option maxHeartbeats 40000000 in
theorem comes_1 {Post : Tables → Env → Array Value → State → Outcome → State → Prop} (hpost : ∀ tb e args s v u, (limb_1_1.after args s (.returned v) u = true ∧ limb_1_2.after args s (.returned v) u = true ∧ True) → FrameEnd s (.returned v) u (Jvm.fieldLocs frame_1_writes args s ++ Jvm.arrayLocs frame_1_arrays args s ++ Jvm.staticLocs frame_1_statics s) 16 128 → Post tb e args s (.returned v) u) :
    ArmFor flags0 classFile x code maxLocals ret World_1 tables_1 room_1 Calls_1 rest_1 Pre_1 Post := by
  intro l hfl _ _ p e ha hc hk s m args below hf hA hF happ hP
  obtain ⟨hcalls, hrest, hpre⟩ := hP
  obtain ⟨-, -, -, hnamed, -, -, -, hat⟩ := (Spec.applies_iff hf).mp happ
  obtain ⟨hg, hn⟩ := and_e (Cond.before_iff.mp (show (Jvm.Cond.and given_1 narrow_1).before args s = true from hpre))
  obtain ⟨g1, g2⟩ := and_e hg
  obtain ⟨ga0, gb0⟩ := and_e g2
  obtain ⟨ga1, gb1⟩ := and_e gb0
  obtain ⟨ga2, gb2⟩ := and_e gb1
  obtain ⟨w0, w1, w2, w3, rfl⟩ : ∃ w0 w1 w2 w3 : Value, args = #[w0, w1, w2, w3] := by
    have hs : args.size = 4 := by simpa [Cond.value, given_1] using g1
    obtain ⟨L⟩ := args
    match L, hs with
    | [w0, w1, w2, w3], _ => exact ⟨w0, w1, w2, w3, rfl⟩
  have hw := fun d (hd : d ∈ tables_1) => atoms_spec (ws := Jvm.Cond.code x code maxLocals ret :: tables_1) hat d (List.mem_cons_of_mem _ hd)
  have hfit : Fit s := fun {y c} hc i hi => by
    obtain ⟨ha, rfl⟩ := Array.getElem?_eq_some_iff.mp hc
    have q := List.all_eq_true.mp ((Array.all_eq_true_iff_forall_mem.mp hF) _ (Array.getElem_mem ha)) i (List.mem_range.mpr hi)
    simpa [Array.getElem?_eq_getElem hi] using q
  obtain ⟨i0, ei0⟩ := is_v ga0
  obtain rfl : w0 = (.int i0) := Option.some.inj ei0
  obtain ⟨i1, ei1⟩ := isL_v ga1
  obtain rfl : w1 = (.long i1) := Option.some.inj ei1
  obtain ⟨i2, ei2⟩ := is_v ga2
  obtain rfl : w2 = (.int i2) := Option.some.inj ei2
  obtain ⟨i3, ei3⟩ := is_v gb2
  obtain rfl : w3 = (.int i3) := Option.some.inj ei3
  obtain ⟨n, o, h1, h2, h3, _, L, rfl, ⟨rfl, N⟩, hq⟩ := rm0 l s _ hw tables_1 i0 i1 i2 i3  s.heap s.heap.size (Nat.le_refl _)  p e ha hc hk s m _ below hf ((Spec.applies_iff_loose hf).mp happ).1 ⟨rfl, State.Warmed39.refl s, rfl⟩ trivial
  refine ⟨n, _, h1, h2, h3, hpost _ _ _ _ _ _ ⟨Cond.after_iff.mpr rfl, Cond.after_iff.mpr (eq_i res_at (Term.int_eval (1)) rfl), trivial⟩ ⟨hq.1, hq.2.1, (hq.2.2.sift fun y hy => Or.inr (N y hy)).mono (by decide) (by decide)⟩⟩
theorem main_1_1 : Claimed_1_1 := comes_1 fun _ _ _ _ _ _ h hF => ⟨h.1, hF⟩
theorem main_1_2 : Claimed_1_2 := comes_1 fun _ _ _ _ _ _ h hF => ⟨h.2.1, hF⟩
end Jvm.Pilot.@@N@@
namespace Jvm.Pilot.@@N@@
open Jvm Jvm.ClassFile Sem Op Lib Jvm.Free Jvm.Stand Jvm.Pilot.@@N@@.Jvm.D
/-! MADE BY PROGRAM (witnessworld.py) out of the Statement's table words and the real class files: 9 classes; the members and pool entries that the words name. The judged class is class 1, her method 1. -/
namespace start1
open Jvm.ClassFile
def u (s : String) : CpInfo := .utf8 (stringToUtf16 s)
/-- a pool by its gaps: so many unusable entries, then the entry; so many at the end -/
def gap : Nat → List CpInfo → List CpInfo
  | 0, r => r
  | n + 1, r => .unusable :: gap n r
def poolList (es : List (Nat × CpInfo)) (last : Nat) : List CpInfo := es.foldr (fun e r => gap e.1 (e.2 :: r)) (gap last [])
def pool (es : List (Nat × CpInfo)) (last : Nat) : Array CpInfo := ⟨poolList es last⟩
def fileOf (pool : Array CpInfo) (this : Nat) (attrs : Array Attribute := #[]) (ms : Array MethodInfo := #[]) (fl : Nat := 33) (sup : Nat := 0) (ifs : Array Nat := #[]) (fds : Array FieldInfo := #[]) : ClassFile where
  minorVersion := 0
  majorVersion := 65
  constantPool := pool
  accessFlags := fl
  thisClass := this
  superClass := sup
  interfaces := ifs
  fields := fds
  methods := ms
  attributes := attrs
def plain (name : String) (sup : Option ClassId) : Class where
  name := name
  kind := .ordinary
  loader := none
  accessFlags := 33
  super := sup
  interfaces := #[]
  cf := none
  fields := #[]
  methods := #[]
  instanceTypes := #[]
  staticTypes := #[]
  resolved := #[]
  callSites := []
  init := .initialized
  statics := none
  mirror := none

def pool0 : Array CpInfo := pool [(5, u "<init>"), (0, u "()V"), (1, .class_ 10), (1, u "java/lang/Object")] 113

def k0m0 : Method := { name := "<init>", desc := "()V", sig := { parameters := [], returnType := none }, accessFlags := 1, code := none }
/-- java/lang/Object -/
def k0 : Class := { plain "java/lang/Object" none with
  accessFlags := 33
  interfaces := #[]
  cf := some (fileOf pool0 8 #[] #[{ accessFlags := 1, nameIndex := 5, descriptorIndex := 6, attributes := #[] }] 33 0 #[] #[])
  fields := #[]
  methods := #[k0m0]
  instanceTypes := #[]
  staticTypes := #[]
  resolved := Array.replicate 124 none
  statics := none }

def pool1 : Array CpInfo := pool [(2, .class_ 4), (1, u "java/lang/Object"), (0, u "<init>"), (0, u "()V"), (0, .methodref 8 9), (0, .class_ 10), (0, .nameAndType 11 12), (0, u "com/example/finalmark/finalmark/RequestHeadEndPinLaw"), (0, u "pick"), (0, u "(IJI)B"), (0, .integer 2147483647), (0, .methodref 8 15), (0, .nameAndType 16 17), (0, u "hit"), (0, u "([BIII)Z"), (0, .methodref 19 20), (0, .class_ 21), (0, .nameAndType 22 23), (0, u "com/example/finalmark/finalmark/RequestHead"), (0, u "end"), (0, u "([BII)I"), (0, .methodref 8 25), (0, .nameAndType 26 27), (0, u "emptyLineEnd"), (0, u "([BI)Z"), (2, u "law"), (0, u "(IJII)Z")] 5

def k1m0 : Method := { name := "<init>", desc := "()V", sig := { parameters := [], returnType := none }, accessFlags := 1, code := none }
def k1c1 : Code := { maxStack := 6, maxLocals := 9, code := code, exceptionTable := #[], attributes := #[] }
def k1m1 : Method := { name := "law", desc := "(IJII)Z", sig := { parameters := [.int, .long, .int, .int], returnType := some .boolean }, accessFlags := 9, code := some k1c1 }
def k1c2 : Code := { maxStack := 4, maxLocals := 5, code := method_3_code, exceptionTable := #[], attributes := #[] }
def k1m2 : Method := { name := "pick", desc := "(IJI)B", sig := { parameters := [.int, .long, .int], returnType := some .byte }, accessFlags := 10, code := some k1c2 }
def k1c3 : Code := { maxStack := 2, maxLocals := 4, code := method_4_code, exceptionTable := #[], attributes := #[] }
def k1m3 : Method := { name := "hit", desc := "([BIII)Z", sig := { parameters := [(.array .byte), .int, .int, .int], returnType := some .boolean }, accessFlags := 10, code := some k1c3 }
def k1c4 : Code := { maxStack := 3, maxLocals := 2, code := method_5_code, exceptionTable := #[], attributes := #[] }
def k1m4 : Method := { name := "emptyLineEnd", desc := "([BI)Z", sig := { parameters := [(.array .byte), .int], returnType := some .boolean }, accessFlags := 10, code := some k1c4 }
/-- com/example/finalmark/finalmark/RequestHeadEndPinLaw -/
def k1 : Class := { plain "com/example/finalmark/finalmark/RequestHeadEndPinLaw" (some 0) with
  accessFlags := 49
  interfaces := #[]
  cf := some (fileOf pool1 8 #[] #[{ accessFlags := 1, nameIndex := 5, descriptorIndex := 6, attributes := #[] }, { accessFlags := 9, nameIndex := 30, descriptorIndex := 31, attributes := #[] }, { accessFlags := 10, nameIndex := 11, descriptorIndex := 12, attributes := #[] }, { accessFlags := 10, nameIndex := 16, descriptorIndex := 17, attributes := #[] }, { accessFlags := 10, nameIndex := 26, descriptorIndex := 27, attributes := #[] }] 49 2 #[] #[])
  fields := #[]
  methods := #[k1m0, k1m1, k1m2, k1m3, k1m4]
  instanceTypes := #[]
  staticTypes := #[]
  resolved := Array.replicate 37 none
  statics := none }

def pool2 : Array CpInfo := pool [(2, .class_ 4), (1, u "java/lang/Object"), (3, .class_ 10), (1, u "com/example/finalmark/finalmark/RequestHead"), (0, u "method"), (0, u "Ljava/lang/String;"), (2, u "path"), (26, .class_ 43), (0, u "com/example/finalmark/finalmark/RequestHead$Refused"), (58, u "MAX_BYTES"), (0, u "I"), (2, u "TOKEN_SYMBOLS"), (2, u "end"), (0, u "([BII)I")] 13

def k2c0 : Code := { maxStack := 2, maxLocals := 5, code := prog_42_method_2_code, exceptionTable := #[], attributes := #[] }
def k2m0 : Method := { name := "end", desc := "([BII)I", sig := { parameters := [(.array .byte), .int, .int], returnType := some .int }, accessFlags := 8, code := some k2c0 }
/-- com/example/finalmark/finalmark/RequestHead -/
def k2 : Class := { plain "com/example/finalmark/finalmark/RequestHead" (some 0) with
  accessFlags := 48
  interfaces := #[]
  cf := some (fileOf pool2 8 #[.nestMembers #[42]] #[{ accessFlags := 8, nameIndex := 109, descriptorIndex := 110, attributes := #[] }] 48 2 #[] #[{ accessFlags := 24, nameIndex := 102, descriptorIndex := 103, attributes := #[] }, { accessFlags := 26, nameIndex := 106, descriptorIndex := 12, attributes := #[] }, { accessFlags := 18, nameIndex := 11, descriptorIndex := 12, attributes := #[] }, { accessFlags := 18, nameIndex := 15, descriptorIndex := 12, attributes := #[] }])
  fields := #[{ name := "MAX_BYTES", type := .int, accessFlags := 24, slot := 0, constantValue := 0 }, { name := "TOKEN_SYMBOLS", type := (.object "java/lang/String"), accessFlags := 26, slot := 1, constantValue := 0 }, { name := "method", type := (.object "java/lang/String"), accessFlags := 18, slot := 0, constantValue := 0 }, { name := "path", type := (.object "java/lang/String"), accessFlags := 18, slot := 1, constantValue := 0 }]
  methods := #[k2m0]
  instanceTypes := #[(.object "java/lang/String"), (.object "java/lang/String")]
  staticTypes := #[.int, (.object "java/lang/String")]
  resolved := Array.replicate 124 none
  statics := none }

def pool3 : Array CpInfo := pool [(1, u "java/lang/Cloneable"), (0, .class_ 1), (0, u "java/lang/Object"), (0, .class_ 3)] 3

/-- java/lang/Cloneable -/
def k3 : Class := { plain "java/lang/Cloneable" (some 0) with
  accessFlags := 1537
  interfaces := #[]
  cf := some (fileOf pool3 2 #[] #[] 1537 4 #[] #[])
  fields := #[]
  methods := #[]
  instanceTypes := #[]
  staticTypes := #[]
  resolved := Array.replicate 8 none
  statics := none }

def pool4 : Array CpInfo := pool [(1, u "java/io/Serializable"), (0, .class_ 1), (0, u "java/lang/Object"), (0, .class_ 3)] 3

/-- java/io/Serializable -/
def k4 : Class := { plain "java/io/Serializable" (some 0) with
  accessFlags := 1537
  interfaces := #[]
  cf := some (fileOf pool4 2 #[] #[] 1537 4 #[] #[])
  fields := #[]
  methods := #[]
  instanceTypes := #[]
  staticTypes := #[]
  resolved := Array.replicate 8 none
  statics := none }

/-- the primitive byte -/
def k5 : Class := { plain "byte" none with kind := .primitive 'B', accessFlags := 0x411 }
/-- [B -/
def k6 : Class := { plain "[B" (some 0) with kind := .array 5 .byte, interfaces := #[3, 4], accessFlags := 1041 }

/-- the primitive int -/
def k7 : Class := { plain "int" none with kind := .primitive 'I', accessFlags := 0x411 }
/-- [I -/
def k8 : Class := { plain "[I" (some 0) with kind := .array 7 .int, interfaces := #[3, 4], accessFlags := 1041 }

def heap : Heap := #[]
def classes : Array Class := #[k0, k1, k2, k3, k4, k5, k6, k7, k8]
def interned : List (Array UInt16 × Addr) := []
def slotsUsed : Nat := 0
def theMethod : MethodId := ⟨1, 1⟩
def args0 : Array Value := #[.int 5, .long 5, .int 1, .int 5]
def aboutOver (below : List Frame) : State where
  vm := { classes := classes, interned := interned.toArray }
  heap := heap
  slotsUsed := slotsUsed
  threads := #[{ frames := .invoking theMethod args0 :: below }]
def below0 : List Frame := [.native { method := ⟨0, 0⟩, args := #[] }]
def about1 : State := aboutOver below0
def p0 : Program := .bare "" "" ""
def e0 : Env := launch0.env 0 0 0
theorem w_frames : about1.frames = Frame.invoking theMethod args0 :: below0 := rfl
set_option maxRecDepth 65536 in
theorem w_args : argsFit about1.vm theMethod args0 = true := by decide +kernel
set_option maxRecDepth 65536 in
theorem w_heap : heapFits about1 = true := by decide +kernel
set_option maxRecDepth 65536 in
theorem w_runnable : about1.curStatus? = some .runnable := by decide +kernel
set_option maxRecDepth 65536 in
theorem w_alone : about1.alone = true := by decide +kernel
set_option maxRecDepth 65536 in
theorem w_named : about1.methodNamed? x = some theMethod := by decide +kernel
set_option maxRecDepth 65536 in
theorem w_hears : about1.hears theMethod below0 = true := by decide +kernel
set_option maxRecDepth 65536 in
theorem w_ripe : about1.ripe theMethod args0 below0 = true := by decide +kernel
theorem w_running : about1.status = .running := rfl
set_option maxRecDepth 65536 in
theorem w_room : about1.hasRoom e0.platform room_1 = true :=
  launch0.hasRoom_least _ room_1 (by decide +kernel) (by decide +kernel) (by decide +kernel) (by decide +kernel) (by decide +kernel) (by decide +kernel)
theorem allAtoms_all (ts : List Jvm.Cond) (a : Array Jvm.Value) (st : Jvm.State) : (allAtoms ts).before a st = ts.all (fun c => c.before a st) := by
  induction ts with
  | nil => rfl
  | cons c t ih =>
    show (Jvm.Cond.and c (allAtoms t)).before a st = _
    rw [Jvm.Cond.before_and, ih, List.all_cons]
def words1 : List Jvm.Cond := Jvm.Cond.code x code maxLocals ret :: tables_1
/-- a 'code' word, met by the world's own term for the bytes: nothing is compared byte by byte -/
theorem code_word {y : MethodName} {bytes : ByteArray} {mx : Nat} {rt : Option FieldType} {a : Array Value} {s : State} {m : MethodId} {meth : Method} {c : Code} (h1 : s.methodNamed? y = some m) (h2 : s.vm.method? m = some meth) (h3 : meth.code = some c) (h4 : c.code = bytes)
    (h5 : (c.maxLocals == mx && c.exceptionTable.isEmpty && decide (c.maxStack ≤ mostOperands) && decide (meth.sig.returnType = rt) && !meth.locks && decide (parseMethodDescriptor y.desc = some meth.sig)) = true) : (Jvm.Cond.code y bytes mx rt).before a s = true := by
  simp only [Bool.and_eq_true, beq_iff_eq, Bool.not_eq_true', decide_eq_true_eq] at h5
  obtain ⟨⟨⟨⟨⟨g1, g2⟩, g3⟩, g4⟩, g5⟩, g6⟩ := h5
  simp [Cond.before, Cond.holds, Cond.value, h1, h2, h3, h4, g1, g2, g3, g4, g5, g6]
def isCode : Jvm.Cond → Bool
  | .code _ _ _ _ => true
  | _ => false
theorem all_split {L : List Jvm.Cond} {P : Jvm.Cond → Bool} (h1 : L.all (fun c => isCode c || P c) = true) (h2 : ∀ c ∈ L.filter isCode, P c = true) : L.all P = true := by
  refine List.all_eq_true.mpr fun c hc => ?_
  have h := List.all_eq_true.mp h1 c hc
  rcases Bool.eq_false_or_eq_true (isCode c) with hi | hi
  · exact h2 c (List.mem_filter.mpr ⟨hc, hi⟩)
  · simpa [hi] using h
set_option maxRecDepth 65536 in
theorem w_c0 : (Jvm.Cond.code x code maxLocals ret).before args0 about1 = true := code_word (m := ⟨1, 1⟩) (meth := k1m1) (c := k1c1) (by decide +kernel) rfl rfl rfl (by decide +kernel)
set_option maxRecDepth 65536 in
theorem w_c1 : (Jvm.Cond.code ({ cls := "com/example/finalmark/finalmark/RequestHeadEndPinLaw", name := "pick", desc := "(IJI)B" } : Jvm.MethodName) method_3_code (5 : Nat) (Option.some Jvm.ClassFile.FieldType.byte)).before args0 about1 = true := code_word (m := ⟨1, 2⟩) (meth := k1m2) (c := k1c2) (by decide +kernel) rfl rfl rfl (by decide +kernel)
set_option maxRecDepth 65536 in
theorem w_c2 : (Jvm.Cond.code ({ cls := "com/example/finalmark/finalmark/RequestHeadEndPinLaw", name := "hit", desc := "([BIII)Z" } : Jvm.MethodName) method_4_code (4 : Nat) (Option.some Jvm.ClassFile.FieldType.boolean)).before args0 about1 = true := code_word (m := ⟨1, 3⟩) (meth := k1m3) (c := k1c3) (by decide +kernel) rfl rfl rfl (by decide +kernel)
set_option maxRecDepth 65536 in
theorem w_c3 : (Jvm.Cond.code ({ cls := "com/example/finalmark/finalmark/RequestHead", name := "end", desc := "([BII)I" } : Jvm.MethodName) prog_42_method_2_code (5 : Nat) (Option.some Jvm.ClassFile.FieldType.int)).before args0 about1 = true := code_word (m := ⟨2, 0⟩) (meth := k2m0) (c := k2c0) (by decide +kernel) rfl rfl rfl (by decide +kernel)
set_option maxRecDepth 65536 in
theorem w_c4 : (Jvm.Cond.code ({ cls := "com/example/finalmark/finalmark/RequestHeadEndPinLaw", name := "emptyLineEnd", desc := "([BI)Z" } : Jvm.MethodName) method_5_code (2 : Nat) (Option.some Jvm.ClassFile.FieldType.boolean)).before args0 about1 = true := code_word (m := ⟨1, 4⟩) (meth := k1m4) (c := k1c4) (by decide +kernel) rfl rfl rfl (by decide +kernel)
def codes1 : List Jvm.Cond := [Jvm.Cond.code x code maxLocals ret, Jvm.Cond.code ({ cls := "com/example/finalmark/finalmark/RequestHeadEndPinLaw", name := "pick", desc := "(IJI)B" } : Jvm.MethodName) method_3_code (5 : Nat) (Option.some Jvm.ClassFile.FieldType.byte), Jvm.Cond.code ({ cls := "com/example/finalmark/finalmark/RequestHeadEndPinLaw", name := "hit", desc := "([BIII)Z" } : Jvm.MethodName) method_4_code (4 : Nat) (Option.some Jvm.ClassFile.FieldType.boolean), Jvm.Cond.code ({ cls := "com/example/finalmark/finalmark/RequestHead", name := "end", desc := "([BII)I" } : Jvm.MethodName) prog_42_method_2_code (5 : Nat) (Option.some Jvm.ClassFile.FieldType.int), Jvm.Cond.code ({ cls := "com/example/finalmark/finalmark/RequestHeadEndPinLaw", name := "emptyLineEnd", desc := "([BI)Z" } : Jvm.MethodName) method_5_code (2 : Nat) (Option.some Jvm.ClassFile.FieldType.boolean)]
set_option maxRecDepth 65536 in
theorem codes_eq : words1.filter isCode = codes1 := rfl
theorem w_codes : ∀ c ∈ words1.filter isCode, c.before args0 about1 = true := by
  rw [codes_eq]
  intro c hc
  simp only [codes1, List.mem_cons, List.not_mem_nil, or_false] at hc
  rcases hc with rfl | rfl | rfl | rfl | rfl
  · exact w_c0
  · exact w_c1
  · exact w_c2
  · exact w_c3
  · exact w_c4
set_option maxRecDepth 65536 in
theorem w_t1 : words1.all (fun c => isCode c || c.before args0 about1) = true := by decide +kernel
theorem w_tables : (allAtoms (Jvm.Cond.code x code maxLocals ret :: tables_1)).before args0 about1 = true := by
  rw [allAtoms_all]
  show words1.all (fun c => c.before args0 about1) = true
  refine all_split ?_ w_codes
  rw [w_t1]
set_option maxRecDepth 65536 in
theorem w_case : (Jvm.Cond.and given_1 narrow_1).before args0 about1 = true := by decide +kernel
theorem w_applies : (headSpec (Jvm.Cond.code x code maxLocals ret :: tables_1) room_1).applies x e0.platform about1 = true :=
  (Spec.applies_iff w_frames).mpr ⟨w_running, w_runnable, w_alone, w_named, w_hears, w_ripe, w_room, w_tables⟩
theorem atStart : AtStart classFile x code maxLocals ret World_1 tables_1 room_1 Calls_1 rest_1 Pre_1 launch0 p0 e0 about1 theMethod args0 below0 :=
  ⟨lists_1, trivial, launch0.admits_env _ _ _, launch0.least_env, fairChoices_fair.cas, fairChoices_fair.clock, w_frames, w_args, w_heap, w_applies, trivial, trivial, w_case⟩
end start1
theorem witness_1 : WitnessClaimed_1 := ⟨start1.p0, start1.e0, start1.about1, start1.theMethod, start1.args0, start1.below0, start1.atStart⟩
end Jvm.Pilot.@@N@@
