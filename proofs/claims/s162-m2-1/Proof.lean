import JvmDerived
import JvmDerived.Pilot.@@N@@Statement
import JvmDerived.Pilot.@@N@@Code
set_option linter.unusedVariables false
set_option linter.unusedSimpArgs false
namespace Jvm.RoadKit
open Sem ClassFile Op Lib Jvm.Stand Jvm.Free Jvm.LawKit
section New
variable {p : Program} {l : Launch} {e : Env} {R : Room} {s : State} {m : MethodId} {args : Array Value} {below : List Frame} {meth : Method} {c : Code} {T : State} {locs : List Loc} {cells slots : Nat}
theorem retI (X : Stand p l e R s m args below meth c T locs cells slots) (hx : p.tables.exec = Jvm.exec) {pc : Nat} {Ls : Array Slot} {z : Int32} {rest : List Value} (hret : meth.sig.returnType = some .int) (hd : decode c.code pc = .ok (.ireturn, 1)) {fs : List Frame}
    (hl : ∀ (f : JFrame) (acts : List Action), f.method = m → f.locked = none → f.entered = [] → (doReturn e (T.setTop f) acts (some (.int z))).1 = T.setFrames fs) : Steps p.tables e below (T.setTop (mkF m pc Ls (.int z :: rest))) (T.setFrames fs) := by
  have hm' : T.vm.method? m = some meth := X.method'
  have hn : narrow .int (.int z) = .int z := rfl
  show Steps p.tables e below (T.setTop { method := m, pc := pc, locals := Ls, stack := _ :: rest, locked := none }) _
  jvm_step X.here [X.here.top, hx, hd, hm', hret, hn]
  first | (intro acts; rw [hl _ acts rfl rfl rfl]) | rw [hl _ _ rfl rfl rfl]
  exact Steps.refl _
theorem retL (X : Stand p l e R s m args below meth c T locs cells slots) (hx : p.tables.exec = Jvm.exec) {pc : Nat} {Ls : Array Slot} {z : Int64} {rest : List Value} (hret : meth.sig.returnType = some .long) (hd : decode c.code pc = .ok (.lreturn, 1)) {fs : List Frame}
    (hl : ∀ (f : JFrame) (acts : List Action), f.method = m → f.locked = none → f.entered = [] → (doReturn e (T.setTop f) acts (some (.long z))).1 = T.setFrames fs) : Steps p.tables e below (T.setTop (mkF m pc Ls (.long z :: rest))) (T.setFrames fs) := by
  have hm' : T.vm.method? m = some meth := X.method'
  have hn : narrow .long (.long z) = .long z := rfl
  show Steps p.tables e below (T.setTop { method := m, pc := pc, locals := Ls, stack := _ :: rest, locked := none }) _
  jvm_step X.here [X.here.top, hx, hd, hm', hret, hn]
  first | (intro acts; rw [hl _ acts rfl rfl rfl]) | rw [hl _ _ rfl rfl rfl]
  exact Steps.refl _
theorem retA (X : Stand p l e R s m args below meth c T locs cells slots) (hx : p.tables.exec = Jvm.exec) {pc : Nat} {Ls : Array Slot} {z : Value} {ty : FieldType} {rest : List Value} (hv : z.isRef = true) (hty : ty.isReference = true) (hret : meth.sig.returnType = some ty) (hd : decode c.code pc = .ok (.areturn, 1)) {fs : List Frame}
    (hl : ∀ (f : JFrame) (acts : List Action), f.method = m → f.locked = none → f.entered = [] → (doReturn e (T.setTop f) acts (some z)).1 = T.setFrames fs) : Steps p.tables e below (T.setTop (mkF m pc Ls (z :: rest))) (T.setFrames fs) := by
  have hm' : T.vm.method? m = some meth := X.method'
  show Steps p.tables e below (T.setTop { method := m, pc := pc, locals := Ls, stack := _ :: rest, locked := none }) _
  jvm_step X.here [X.here.top, hx, hd, hm', hret, hv, hty]
  first | (intro acts; rw [hl _ acts rfl rfl rfl]) | rw [hl _ _ rfl rfl rfl]
  exact Steps.refl _
end New
theorem own_fw {tb : Tables} {e : Env} {below : List Frame} {A B : State} {P : State → Outcome → Prop} (h : ∀ t, Steps tb e below A t → Steps tb e below B t) (k : ∃ t o, Steps tb e below A t ∧ P t o) : ∃ t o, Steps tb e below B t ∧ P t o := by
  obtain ⟨t, o, h1, h2⟩ := k
  exact ⟨t, o, h t h1, h2⟩
theorem own_hide {p : Program} {l : Launch} {e : Env} {R : Room} {s : State} {m : MethodId} {args : Array Value} {below : List Frame} {meth : Method} {c : Code} {T : State} {locs : List Loc} {cells slots k : Nat} (X : Stand p l e R s m args below meth c T locs cells slots) (N : Fr k locs) : ∃ L, Stand p l e R s m args below meth c T L cells slots ∧ Fr k L := ⟨_, X, N⟩
theorem own_ret {r : Option FieldType} {t : FieldType} {v : Option Value} (h : r = some t) : r = none → v = none := fun q => by rw [h] at q; cases q
def own_irem (x y : Int32) : Int32 := x - (x / y) * y
def own_lrem (x y : Int64) : Int64 := x - (x / y) * y
end Jvm.RoadKit
namespace Jvm.Pilot.@@N@@
open Jvm Jvm.ClassFile Sem Op Lib Jvm.Free Jvm.Stand Jvm.LawKit Jvm.RoadKit Bundle Jvm.Pilot.@@N@@.Jvm.D
theorem d2_0 : decode method_2_code 0 = .ok (.iload_n 0, 1) := by decide +kernel
theorem d2_1 : decode method_2_code 1 = .ok (.iconst 3, 1) := by decide +kernel
theorem d2_2 : decode method_2_code 2 = .ok (.iand, 1) := by decide +kernel
theorem d2_3 : decode method_2_code 3 = .ok (.iconst 3, 1) := by decide +kernel
theorem d2_4 : decode method_2_code 4 = .ok (.irem, 1) := by decide +kernel
theorem d2_5 : decode method_2_code 5 = .ok (.ireturn, 1) := by decide +kernel
theorem pn2 : plainName "com/example/access_decision/accessdecision/AclRightEqualsPinLaw" = true := by first | (simp [plainName, overriddenIn]; done) | decide +kernel
theorem ef2 (m : MethodId) (p0 : Int32) : entryFrame m #[(.int p0)] 1 = mkF m 0 #[.val (.int p0)] [] := by first | (simp [entryFrame, mkF, argsToLocals, Value.category]; done) | rfl
def f_len (p0 : Int32) : Int32 := (own_irem (p0 &&& (3 : Int32)) (3 : Int32))
def Q2 (Z : State) (z : Int32) (h0 : Heap) (n0 : Nat) (w : Option Value) (h : Heap) (L : List Loc) : Prop := w = some (.int z) ∧ Fr n0 L ∧ h = h0
set_option maxRecDepth 65536 in
set_option maxHeartbeats 40000000 in
theorem rm2 (l : Launch) (Z : State) (a0 : Array Value) (hw : ∀ d ∈ tables_1, d.before a0 Z = true) (ws : List Jvm.Cond) (p0 : Int32) (h0 : Heap) (n0 : Nat) (Z0 : n0 ≤ h0.size) :
    MetFree l (⟨"com/example/access_decision/accessdecision/AclRightEqualsPinLaw", "len", "(I)I"⟩ : MethodName) (head1 (Jvm.Cond.code (⟨"com/example/access_decision/accessdecision/AclRightEqualsPinLaw", "len", "(I)I"⟩ : MethodName) method_2_code 1 (some .int) :: ws) ({ frames := 0, cells := 0, slots := 0, locals := 0 } : Room)) (fun a U => a = #[(.int p0)] ∧ Z.Warmed39 U.vm ∧ U.heap = h0) (fun _ _ _ _ _ => True) (fun _ U o U' => ∃ v L, o = .returned v ∧ Q2 Z (f_len p0) h0 n0 v U'.heap L ∧ FrameEnd U o U' L ({ frames := 0, cells := 0, slots := 0, locals := 0 } : Room).cells ({ frames := 0, cells := 0, slots := 0, locals := 0 } : Room).slots) := by
  refine MetFree.of_bodySF (plainFor_of_name pn2) hisR ?_
  intro p e s m args below meth c s₁ Bd hml0 hP hK
  obtain ⟨rfl, hZ, hh⟩ := hP
  have hx := Bd.exec
  have hby := Bd.bytes
  have hml : c.maxLocals = 1 := hml0
  have hown : s.vm.findClass "com/example/access_decision/accessdecision/AclRightEqualsPinLaw" = some m.cls := findClass_of_methodNamed Bd.named
  have hnm := (name_of_methodNamed Bd.named Bd.method).1
  have X0 : Stand p l e ({ frames := 0, cells := 0, slots := 0, locals := 0 } : Room) s m #[(.int p0)] below meth c s₁ [] 0 0 := Stand.of_body Bd
  have e0 : s₁.heap = h0 := by rw [← hh, Bd.state]; rfl
  have N0 := Fr.nil n0
  refine own_fw (A := s₁.setTop (mkF m 0 #[.val (.int p0)] [])) (fun t k => castTop (ef2 m p0) k) ?_
  refine own_fw (A := s₁.setTop (mkF m 5 #[.val (.int p0)] [(.int (own_irem (p0 &&& (3 : Int32)) (3 : Int32)))])) (fun t k => ?_) ?_
  · show Steps p.tables e below (s₁.setTop (mkF m 0 #[.val (.int p0)] [])) t
    refine XS.iloadN X0.here hx rfl (hb hby d2_0) rfl ?_
    show Steps p.tables e below (s₁.setTop (mkF m 1 #[.val (.int p0)] [(.int p0)])) t
    refine XS.iconst X0.here hx rfl (hb hby d2_1) ?_
    show Steps p.tables e below (s₁.setTop (mkF m 2 #[.val (.int p0)] [(.int (3 : Int32)), (.int p0)])) t
    refine XS.iand X0.here hx rfl (hb hby d2_2) rfl ?_
    show Steps p.tables e below (s₁.setTop (mkF m 3 #[.val (.int p0)] [(.int (p0 &&& (3 : Int32)))])) t
    refine XS.iconst X0.here hx rfl (hb hby d2_3) ?_
    show Steps p.tables e below (s₁.setTop (mkF m 4 #[.val (.int p0)] [(.int (3 : Int32)), (.int (p0 &&& (3 : Int32)))])) t
    refine XS.irem X0.here hx rfl (hb hby d2_4) rfl (by decide) ?_
    exact k
  obtain ⟨fs, hr, hrun, hended, hW, hsame⟩ := X0.leave (v := some (.int (own_irem (p0 &&& (3 : Int32)) (3 : Int32)))) (own_ret Bd.returns) (BodyLoose.notSynchronized Bd)
  refine ⟨_, _, retI X0 hx Bd.returns (hb hby d2_5) hr, hrun, hended, _, _, rfl, ?_, ⟨_, rfl⟩, hW, hsame.mono (by decide) (by decide)⟩
  have eh : (s₁.setFrames fs).heap = h0 := e0
  rw [eh]
  exact ⟨by rw [f_len], N0, rfl⟩
theorem d6_0 : decode method_3_code 0 = .ok (.iload_n 0, 1) := by decide +kernel
theorem d6_1 : decode method_3_code 1 = .ok (.iconst 2, 1) := by decide +kernel
theorem d6_2 : decode method_3_code 2 = .ok (.iushr, 1) := by decide +kernel
theorem d6_3 : decode method_3_code 3 = .ok (.sipush 255, 3) := by decide +kernel
theorem d6_6 : decode method_3_code 6 = .ok (.iand, 1) := by decide +kernel
theorem d6_7 : decode method_3_code 7 = .ok (.i2c, 1) := by decide +kernel
theorem d6_8 : decode method_3_code 8 = .ok (.ireturn, 1) := by decide +kernel
theorem pn6 : plainName "com/example/access_decision/accessdecision/AclRightEqualsPinLaw" = true := by first | (simp [plainName, overriddenIn]; done) | decide +kernel
theorem ef6 (m : MethodId) (p0 : Int32) : entryFrame m #[(.int p0)] 1 = mkF m 0 #[.val (.int p0)] [] := by first | (simp [entryFrame, mkF, argsToLocals, Value.category]; done) | rfl
def f_c0 (p0 : Int32) : Int32 := (nar .char ((((p0.toUInt32 >>> ((2 : Int32) &&& 31).toUInt32).toInt32) &&& (255 : Int32)).toUInt32.toUInt16.toUInt32.toInt32))
def Q6 (Z : State) (z : Int32) (h0 : Heap) (n0 : Nat) (w : Option Value) (h : Heap) (L : List Loc) : Prop := w = some (.int z) ∧ Fr n0 L ∧ h = h0
set_option maxRecDepth 65536 in
set_option maxHeartbeats 40000000 in
theorem rm6 (l : Launch) (Z : State) (a0 : Array Value) (hw : ∀ d ∈ tables_1, d.before a0 Z = true) (ws : List Jvm.Cond) (p0 : Int32) (h0 : Heap) (n0 : Nat) (Z0 : n0 ≤ h0.size) :
    MetFree l (⟨"com/example/access_decision/accessdecision/AclRightEqualsPinLaw", "c0", "(I)C"⟩ : MethodName) (head1 (Jvm.Cond.code (⟨"com/example/access_decision/accessdecision/AclRightEqualsPinLaw", "c0", "(I)C"⟩ : MethodName) method_3_code 1 (some .char) :: ws) ({ frames := 0, cells := 0, slots := 0, locals := 0 } : Room)) (fun a U => a = #[(.int p0)] ∧ Z.Warmed39 U.vm ∧ U.heap = h0) (fun _ _ _ _ _ => True) (fun _ U o U' => ∃ v L, o = .returned v ∧ Q6 Z (f_c0 p0) h0 n0 v U'.heap L ∧ FrameEnd U o U' L ({ frames := 0, cells := 0, slots := 0, locals := 0 } : Room).cells ({ frames := 0, cells := 0, slots := 0, locals := 0 } : Room).slots) := by
  refine MetFree.of_bodySF (plainFor_of_name pn6) hisR ?_
  intro p e s m args below meth c s₁ Bd hml0 hP hK
  obtain ⟨rfl, hZ, hh⟩ := hP
  have hx := Bd.exec
  have hby := Bd.bytes
  have hml : c.maxLocals = 1 := hml0
  have hown : s.vm.findClass "com/example/access_decision/accessdecision/AclRightEqualsPinLaw" = some m.cls := findClass_of_methodNamed Bd.named
  have hnm := (name_of_methodNamed Bd.named Bd.method).1
  have X0 : Stand p l e ({ frames := 0, cells := 0, slots := 0, locals := 0 } : Room) s m #[(.int p0)] below meth c s₁ [] 0 0 := Stand.of_body Bd
  have e0 : s₁.heap = h0 := by rw [← hh, Bd.state]; rfl
  have N0 := Fr.nil n0
  refine own_fw (A := s₁.setTop (mkF m 0 #[.val (.int p0)] [])) (fun t k => castTop (ef6 m p0) k) ?_
  refine own_fw (A := s₁.setTop (mkF m 8 #[.val (.int p0)] [(.int ((((p0.toUInt32 >>> ((2 : Int32) &&& 31).toUInt32).toInt32) &&& (255 : Int32)).toUInt32.toUInt16.toUInt32.toInt32))])) (fun t k => ?_) ?_
  · show Steps p.tables e below (s₁.setTop (mkF m 0 #[.val (.int p0)] [])) t
    refine XS.iloadN X0.here hx rfl (hb hby d6_0) rfl ?_
    show Steps p.tables e below (s₁.setTop (mkF m 1 #[.val (.int p0)] [(.int p0)])) t
    refine XS.iconst X0.here hx rfl (hb hby d6_1) ?_
    show Steps p.tables e below (s₁.setTop (mkF m 2 #[.val (.int p0)] [(.int (2 : Int32)), (.int p0)])) t
    refine XS.iushr X0.here hx rfl (hb hby d6_2) rfl ?_
    show Steps p.tables e below (s₁.setTop (mkF m 3 #[.val (.int p0)] [(.int ((p0.toUInt32 >>> ((2 : Int32) &&& 31).toUInt32).toInt32))])) t
    refine XS.sipush X0.here hx rfl (hb hby d6_3) ?_
    show Steps p.tables e below (s₁.setTop (mkF m 6 #[.val (.int p0)] [(.int (255 : Int32)), (.int ((p0.toUInt32 >>> ((2 : Int32) &&& 31).toUInt32).toInt32))])) t
    refine XS.iand X0.here hx rfl (hb hby d6_6) rfl ?_
    show Steps p.tables e below (s₁.setTop (mkF m 7 #[.val (.int p0)] [(.int (((p0.toUInt32 >>> ((2 : Int32) &&& 31).toUInt32).toInt32) &&& (255 : Int32)))])) t
    refine XS.i2c X0.here hx rfl (hb hby d6_7) rfl ?_
    exact k
  obtain ⟨fs, hr, hrun, hended, hW, hsame⟩ := X0.leave (v := some (.int (nar .char ((((p0.toUInt32 >>> ((2 : Int32) &&& 31).toUInt32).toInt32) &&& (255 : Int32)).toUInt32.toUInt16.toUInt32.toInt32)))) (own_ret Bd.returns) (BodyLoose.notSynchronized Bd)
  refine ⟨_, _, retN X0 hx (t := .char) Bd.returns (by simp) (hb hby d6_8) hr, hrun, hended, _, _, rfl, ?_, ⟨_, rfl⟩, hW, hsame.mono (by decide) (by decide)⟩
  have eh : (s₁.setFrames fs).heap = h0 := e0
  rw [eh]
  exact ⟨by rw [f_c0], N0, rfl⟩
theorem d7_0 : decode method_4_code 0 = .ok (.iload_n 0, 1) := by decide +kernel
theorem d7_1 : decode method_4_code 1 = .ok (.bipush 10, 2) := by decide +kernel
theorem d7_3 : decode method_4_code 3 = .ok (.iushr, 1) := by decide +kernel
theorem d7_4 : decode method_4_code 4 = .ok (.sipush 255, 3) := by decide +kernel
theorem d7_7 : decode method_4_code 7 = .ok (.iand, 1) := by decide +kernel
theorem d7_8 : decode method_4_code 8 = .ok (.i2c, 1) := by decide +kernel
theorem d7_9 : decode method_4_code 9 = .ok (.ireturn, 1) := by decide +kernel
theorem pn7 : plainName "com/example/access_decision/accessdecision/AclRightEqualsPinLaw" = true := by first | (simp [plainName, overriddenIn]; done) | decide +kernel
theorem ef7 (m : MethodId) (p0 : Int32) : entryFrame m #[(.int p0)] 1 = mkF m 0 #[.val (.int p0)] [] := by first | (simp [entryFrame, mkF, argsToLocals, Value.category]; done) | rfl
def f_c1 (p0 : Int32) : Int32 := (nar .char ((((p0.toUInt32 >>> ((10 : Int32) &&& 31).toUInt32).toInt32) &&& (255 : Int32)).toUInt32.toUInt16.toUInt32.toInt32))
def Q7 (Z : State) (z : Int32) (h0 : Heap) (n0 : Nat) (w : Option Value) (h : Heap) (L : List Loc) : Prop := w = some (.int z) ∧ Fr n0 L ∧ h = h0
set_option maxRecDepth 65536 in
set_option maxHeartbeats 40000000 in
theorem rm7 (l : Launch) (Z : State) (a0 : Array Value) (hw : ∀ d ∈ tables_1, d.before a0 Z = true) (ws : List Jvm.Cond) (p0 : Int32) (h0 : Heap) (n0 : Nat) (Z0 : n0 ≤ h0.size) :
    MetFree l (⟨"com/example/access_decision/accessdecision/AclRightEqualsPinLaw", "c1", "(I)C"⟩ : MethodName) (head1 (Jvm.Cond.code (⟨"com/example/access_decision/accessdecision/AclRightEqualsPinLaw", "c1", "(I)C"⟩ : MethodName) method_4_code 1 (some .char) :: ws) ({ frames := 0, cells := 0, slots := 0, locals := 0 } : Room)) (fun a U => a = #[(.int p0)] ∧ Z.Warmed39 U.vm ∧ U.heap = h0) (fun _ _ _ _ _ => True) (fun _ U o U' => ∃ v L, o = .returned v ∧ Q7 Z (f_c1 p0) h0 n0 v U'.heap L ∧ FrameEnd U o U' L ({ frames := 0, cells := 0, slots := 0, locals := 0 } : Room).cells ({ frames := 0, cells := 0, slots := 0, locals := 0 } : Room).slots) := by
  refine MetFree.of_bodySF (plainFor_of_name pn7) hisR ?_
  intro p e s m args below meth c s₁ Bd hml0 hP hK
  obtain ⟨rfl, hZ, hh⟩ := hP
  have hx := Bd.exec
  have hby := Bd.bytes
  have hml : c.maxLocals = 1 := hml0
  have hown : s.vm.findClass "com/example/access_decision/accessdecision/AclRightEqualsPinLaw" = some m.cls := findClass_of_methodNamed Bd.named
  have hnm := (name_of_methodNamed Bd.named Bd.method).1
  have X0 : Stand p l e ({ frames := 0, cells := 0, slots := 0, locals := 0 } : Room) s m #[(.int p0)] below meth c s₁ [] 0 0 := Stand.of_body Bd
  have e0 : s₁.heap = h0 := by rw [← hh, Bd.state]; rfl
  have N0 := Fr.nil n0
  refine own_fw (A := s₁.setTop (mkF m 0 #[.val (.int p0)] [])) (fun t k => castTop (ef7 m p0) k) ?_
  refine own_fw (A := s₁.setTop (mkF m 9 #[.val (.int p0)] [(.int ((((p0.toUInt32 >>> ((10 : Int32) &&& 31).toUInt32).toInt32) &&& (255 : Int32)).toUInt32.toUInt16.toUInt32.toInt32))])) (fun t k => ?_) ?_
  · show Steps p.tables e below (s₁.setTop (mkF m 0 #[.val (.int p0)] [])) t
    refine XS.iloadN X0.here hx rfl (hb hby d7_0) rfl ?_
    show Steps p.tables e below (s₁.setTop (mkF m 1 #[.val (.int p0)] [(.int p0)])) t
    refine XS.bipush X0.here hx rfl (hb hby d7_1) ?_
    show Steps p.tables e below (s₁.setTop (mkF m 3 #[.val (.int p0)] [(.int (10 : Int32)), (.int p0)])) t
    refine XS.iushr X0.here hx rfl (hb hby d7_3) rfl ?_
    show Steps p.tables e below (s₁.setTop (mkF m 4 #[.val (.int p0)] [(.int ((p0.toUInt32 >>> ((10 : Int32) &&& 31).toUInt32).toInt32))])) t
    refine XS.sipush X0.here hx rfl (hb hby d7_4) ?_
    show Steps p.tables e below (s₁.setTop (mkF m 7 #[.val (.int p0)] [(.int (255 : Int32)), (.int ((p0.toUInt32 >>> ((10 : Int32) &&& 31).toUInt32).toInt32))])) t
    refine XS.iand X0.here hx rfl (hb hby d7_7) rfl ?_
    show Steps p.tables e below (s₁.setTop (mkF m 8 #[.val (.int p0)] [(.int (((p0.toUInt32 >>> ((10 : Int32) &&& 31).toUInt32).toInt32) &&& (255 : Int32)))])) t
    refine XS.i2c X0.here hx rfl (hb hby d7_8) rfl ?_
    exact k
  obtain ⟨fs, hr, hrun, hended, hW, hsame⟩ := X0.leave (v := some (.int (nar .char ((((p0.toUInt32 >>> ((10 : Int32) &&& 31).toUInt32).toInt32) &&& (255 : Int32)).toUInt32.toUInt16.toUInt32.toInt32)))) (own_ret Bd.returns) (BodyLoose.notSynchronized Bd)
  refine ⟨_, _, retN X0 hx (t := .char) Bd.returns (by simp) (hb hby d7_9) hr, hrun, hended, _, _, rfl, ?_, ⟨_, rfl⟩, hW, hsame.mono (by decide) (by decide)⟩
  have eh : (s₁.setFrames fs).heap = h0 := e0
  rw [eh]
  exact ⟨by rw [f_c1], N0, rfl⟩
theorem d17_0 : decode method_6_code 0 = .ok (.iload_n 0, 1) := by decide +kernel
theorem d17_1 : decode method_6_code 1 = .ok (.invokestatic 7, 3) := by decide +kernel
theorem d17_4 : decode method_6_code 4 = .ok (.istore_n 2, 1) := by decide +kernel
theorem d17_5 : decode method_6_code 5 = .ok (.iload_n 2, 1) := by decide +kernel
theorem d17_6 : decode method_6_code 6 = .ok (.iload_n 1, 1) := by decide +kernel
theorem d17_7 : decode method_6_code 7 = .ok (.invokestatic 7, 3) := by decide +kernel
theorem d17_10 : decode method_6_code 10 = .ok (.if_icmp .eq 5, 3) := by decide +kernel
theorem d17_13 : decode method_6_code 13 = .ok (.iconst 0, 1) := by decide +kernel
theorem d17_14 : decode method_6_code 14 = .ok (.ireturn, 1) := by decide +kernel
theorem d17_15 : decode method_6_code 15 = .ok (.iload_n 2, 1) := by decide +kernel
theorem d17_16 : decode method_6_code 16 = .ok (.iconst 1, 1) := by decide +kernel
theorem d17_17 : decode method_6_code 17 = .ok (.if_icmp .lt 16, 3) := by decide +kernel
theorem d17_20 : decode method_6_code 20 = .ok (.iload_n 0, 1) := by decide +kernel
theorem d17_21 : decode method_6_code 21 = .ok (.invokestatic 18, 3) := by decide +kernel
theorem d17_24 : decode method_6_code 24 = .ok (.iload_n 1, 1) := by decide +kernel
theorem d17_25 : decode method_6_code 25 = .ok (.invokestatic 18, 3) := by decide +kernel
theorem d17_28 : decode method_6_code 28 = .ok (.if_icmp .eq 5, 3) := by decide +kernel
theorem d17_31 : decode method_6_code 31 = .ok (.iconst 0, 1) := by decide +kernel
theorem d17_32 : decode method_6_code 32 = .ok (.ireturn, 1) := by decide +kernel
theorem d17_33 : decode method_6_code 33 = .ok (.iload_n 2, 1) := by decide +kernel
theorem d17_34 : decode method_6_code 34 = .ok (.iconst 2, 1) := by decide +kernel
theorem d17_35 : decode method_6_code 35 = .ok (.if_icmp .lt 16, 3) := by decide +kernel
theorem d17_38 : decode method_6_code 38 = .ok (.iload_n 0, 1) := by decide +kernel
theorem d17_39 : decode method_6_code 39 = .ok (.invokestatic 22, 3) := by decide +kernel
theorem d17_42 : decode method_6_code 42 = .ok (.iload_n 1, 1) := by decide +kernel
theorem d17_43 : decode method_6_code 43 = .ok (.invokestatic 22, 3) := by decide +kernel
theorem d17_46 : decode method_6_code 46 = .ok (.if_icmp .eq 5, 3) := by decide +kernel
theorem d17_49 : decode method_6_code 49 = .ok (.iconst 0, 1) := by decide +kernel
theorem d17_50 : decode method_6_code 50 = .ok (.ireturn, 1) := by decide +kernel
theorem d17_51 : decode method_6_code 51 = .ok (.iconst 1, 1) := by decide +kernel
theorem d17_52 : decode method_6_code 52 = .ok (.ireturn, 1) := by decide +kernel
theorem pn17 : plainName "com/example/access_decision/accessdecision/AclRightEqualsPinLaw" = true := by first | (simp [plainName, overriddenIn]; done) | decide +kernel
theorem pd17_0 : parseMethodDescriptor "(I)I" = some ⟨[.int], some .int⟩ := by decide +kernel
theorem pd17_1 : parseMethodDescriptor "(I)C" = some ⟨[.int], some .char⟩ := by decide +kernel
theorem ef17 (m : MethodId) (p0 : Int32) (p1 : Int32) : entryFrame m #[(.int p0), (.int p1)] 3 = mkF m 0 #[.val (.int p0), .val (.int p1), .unset] [] := by first | (simp [entryFrame, mkF, argsToLocals, Value.category]; done) | rfl
def f_same (p0 : Int32) (p1 : Int32) : Int32 := (if (f_len p0) = (f_len p1) then (if (f_len p0) < (1 : Int32) then (if (f_len p0) < (2 : Int32) then (nar .boolean (1 : Int32)) else (if (f_c1 p0) = (f_c1 p1) then (nar .boolean (1 : Int32)) else (nar .boolean (0 : Int32)))) else (if (f_c0 p0) = (f_c0 p1) then (if (f_len p0) < (2 : Int32) then (nar .boolean (1 : Int32)) else (if (f_c1 p0) = (f_c1 p1) then (nar .boolean (1 : Int32)) else (nar .boolean (0 : Int32)))) else (nar .boolean (0 : Int32)))) else (nar .boolean (0 : Int32)))
def Q17 (Z : State) (z : Int32) (h0 : Heap) (n0 : Nat) (w : Option Value) (h : Heap) (L : List Loc) : Prop := w = some (.int z) ∧ Fr n0 L ∧ h = h0
set_option maxRecDepth 65536 in
set_option maxHeartbeats 40000000 in
theorem rm17 (l : Launch) (Z : State) (a0 : Array Value) (hw : ∀ d ∈ tables_1, d.before a0 Z = true) (ws : List Jvm.Cond) (p0 : Int32) (p1 : Int32) (h0 : Heap) (n0 : Nat) (Z0 : n0 ≤ h0.size) :
    MetFree l (⟨"com/example/access_decision/accessdecision/AclRightEqualsPinLaw", "same", "(II)Z"⟩ : MethodName) (head1 (Jvm.Cond.code (⟨"com/example/access_decision/accessdecision/AclRightEqualsPinLaw", "same", "(II)Z"⟩ : MethodName) method_6_code 3 (some .boolean) :: ws) ({ frames := 1, cells := 0, slots := 0, locals := 13 } : Room)) (fun a U => a = #[(.int p0), (.int p1)] ∧ Z.Warmed39 U.vm ∧ U.heap = h0) (fun _ _ _ _ _ => True) (fun _ U o U' => ∃ v L, o = .returned v ∧ Q17 Z (f_same p0 p1) h0 n0 v U'.heap L ∧ FrameEnd U o U' L ({ frames := 1, cells := 0, slots := 0, locals := 13 } : Room).cells ({ frames := 1, cells := 0, slots := 0, locals := 13 } : Room).slots) := by
  refine MetFree.of_bodySF (plainFor_of_name pn17) hisR ?_
  intro p e s m args below meth c s₁ Bd hml0 hP hK
  obtain ⟨rfl, hZ, hh⟩ := hP
  have hx := Bd.exec
  have hby := Bd.bytes
  have hml : c.maxLocals = 3 := hml0
  have hown : s.vm.findClass "com/example/access_decision/accessdecision/AclRightEqualsPinLaw" = some m.cls := findClass_of_methodNamed Bd.named
  have hnm := (name_of_methodNamed Bd.named Bd.method).1
  have X0 : Stand p l e ({ frames := 1, cells := 0, slots := 0, locals := 13 } : Room) s m #[(.int p0), (.int p1)] below meth c s₁ [] 0 0 := Stand.of_body Bd
  have e0 : s₁.heap = h0 := by rw [← hh, Bd.state]; rfl
  have N0 := Fr.nil n0
  refine own_fw (A := s₁.setTop (mkF m 0 #[.val (.int p0), .val (.int p1), .unset] [])) (fun t k => castTop (ef17 m p0 p1) k) ?_
  refine own_fw (A := s₁.setTop (mkF m 1 #[.val (.int p0), .val (.int p1), .unset] [(.int p0)])) (fun t k => ?_) ?_
  · show Steps p.tables e below (s₁.setTop (mkF m 0 #[.val (.int p0), .val (.int p1), .unset] [])) t
    refine XS.iloadN X0.here hx rfl (hb hby d17_0) rfl ?_
    exact k
  obtain ⟨_, _, ⟨T17_1, L17_1, k17_1, n17_1⟩, -, X17_1, ⟨Lc17_1, hQ17_1, l17_1, y17_1, z17_1⟩, st17_1⟩ := Jvm.LawKit.callS X0 hx (y := (⟨"com/example/access_decision/accessdecision/AclRightEqualsPinLaw", "len", "(I)I"⟩ : MethodName)) hown (mvT hZ (hw _ (List.mem_of_getElem? (i := 4) rfl))) (mvT hZ (hw _ (List.mem_of_getElem? (i := 5) rfl))) (mvT hZ (hw _ (List.mem_of_getElem? (i := 2) rfl))) (mvT hZ (hw _ (List.mem_of_getElem? (i := 6) rfl))) (by decide) (backOf (W := 0) (rm2 l Z a0 hw [] (p0) h0 n0 Z0 ) hZ (hw _ (List.mem_of_getElem? (i := 6) rfl)) (hw _ (List.mem_of_getElem? (i := 2) rfl)) (by decide) (by decide)) (g := (mkF m 1 #[.val (.int p0), .val (.int p1), .unset] [(.int p0)])) rfl (by rw [hml]; rfl) (argsL := [(.int p0)]) (rest := []) (lenOf pd17_0 rfl) rfl (by show 2 * 0 + _ ≤ _; exact Nat.le_of_eq rfl) (hb hby d17_1) (fun _ _ => ⟨rfl, e0, (by decide : 0 + 0 ≤ _), (by decide : 0 + 0 ≤ _)⟩)
  dsimp only [Pt.U, Pt.locs, Pt.cells, Pt.slots] at X17_1 l17_1 y17_1 z17_1 st17_1 hQ17_1
  subst l17_1 y17_1 z17_1
  obtain ⟨rfl, N17_1q, e17_1⟩ := hQ17_1
  have N17_1 := Fr.app N0 N17_1q
  refine own_fw st17_1 ?_
  refine own_fw (A := T17_1.setTop (mkF m 7 #[.val (.int p0), .val (.int p1), .val (.int (f_len p0))] [(.int p1), (.int (f_len p0))])) (fun t k => ?_) ?_
  · show Steps p.tables e below (T17_1.setTop (mkF m 4 #[.val (.int p0), .val (.int p1), .unset] [(.int (f_len p0))])) t
    refine XS.istoreN X17_1.here hx rfl (hb hby d17_4) rfl (l' := #[.val (.int p0), .val (.int p1), .val (.int (f_len p0))]) rfl ?_
    show Steps p.tables e below (T17_1.setTop (mkF m 5 #[.val (.int p0), .val (.int p1), .val (.int (f_len p0))] [])) t
    refine XS.iloadN X17_1.here hx rfl (hb hby d17_5) rfl ?_
    show Steps p.tables e below (T17_1.setTop (mkF m 6 #[.val (.int p0), .val (.int p1), .val (.int (f_len p0))] [(.int (f_len p0))])) t
    refine XS.iloadN X17_1.here hx rfl (hb hby d17_6) rfl ?_
    exact k
  obtain ⟨_, _, ⟨T17_2, L17_2, k17_2, n17_2⟩, -, X17_2, ⟨Lc17_2, hQ17_2, l17_2, y17_2, z17_2⟩, st17_2⟩ := Jvm.LawKit.callS X17_1 hx (y := (⟨"com/example/access_decision/accessdecision/AclRightEqualsPinLaw", "len", "(I)I"⟩ : MethodName)) hown (mvT hZ (hw _ (List.mem_of_getElem? (i := 4) rfl))) (mvT hZ (hw _ (List.mem_of_getElem? (i := 5) rfl))) (mvT hZ (hw _ (List.mem_of_getElem? (i := 2) rfl))) (mvT hZ (hw _ (List.mem_of_getElem? (i := 6) rfl))) (by decide) (backOf (W := 1) (rm2 l Z a0 hw [] (p1) h0 n0 Z0 ) hZ (hw _ (List.mem_of_getElem? (i := 6) rfl)) (hw _ (List.mem_of_getElem? (i := 2) rfl)) (by decide) (by decide)) (g := (mkF m 7 #[.val (.int p0), .val (.int p1), .val (.int (f_len p0))] [(.int p1), (.int (f_len p0))])) rfl (by rw [hml]; rfl) (argsL := [(.int p1)]) (rest := [(.int (f_len p0))]) (lenOf pd17_0 rfl) rfl (by show 2 * 0 + _ ≤ _; exact Nat.le_of_eq rfl) (hb hby d17_7) (fun _ _ => ⟨rfl, e17_1, (by decide : 0 + 0 ≤ _), (by decide : 0 + 0 ≤ _)⟩)
  dsimp only [Pt.U, Pt.locs, Pt.cells, Pt.slots] at X17_2 l17_2 y17_2 z17_2 st17_2 hQ17_2
  subst l17_2 y17_2 z17_2
  obtain ⟨rfl, N17_2q, e17_2⟩ := hQ17_2
  have N17_2 := Fr.app N17_1 N17_2q
  refine own_fw st17_2 ?_
  by_cases hc17_1 : (f_len p0) = (f_len p1)
  · refine own_fw (A := T17_2.setTop (mkF m 15 #[.val (.int p0), .val (.int p1), .val (.int (f_len p0))] [])) (fun t k => ?_) ?_
    · show Steps p.tables e below (T17_2.setTop (mkF m 10 #[.val (.int p0), .val (.int p1), .val (.int (f_len p0))] [(.int (f_len p1)), (.int (f_len p0))])) t
      refine XS.icmpYes X17_2.here hx rfl (pc0 := 10) (pc' := 15) rfl (hb hby d17_10) rfl (teq hc17_1).1 (by decide) (by decide) ?_
      exact k
    refine own_fw (A := T17_2.setTop (mkF m 17 #[.val (.int p0), .val (.int p1), .val (.int (f_len p0))] [(.int (1 : Int32)), (.int (f_len p0))])) (fun t k => ?_) ?_
    · show Steps p.tables e below (T17_2.setTop (mkF m 15 #[.val (.int p0), .val (.int p1), .val (.int (f_len p0))] [])) t
      refine XS.iloadN X17_2.here hx rfl (hb hby d17_15) rfl ?_
      show Steps p.tables e below (T17_2.setTop (mkF m 16 #[.val (.int p0), .val (.int p1), .val (.int (f_len p0))] [(.int (f_len p0))])) t
      refine XS.iconst X17_2.here hx rfl (hb hby d17_16) ?_
      exact k
    by_cases hc17_2 : (f_len p0) < (1 : Int32)
    · refine own_fw (A := T17_2.setTop (mkF m 33 #[.val (.int p0), .val (.int p1), .val (.int (f_len p0))] [])) (fun t k => ?_) ?_
      · show Steps p.tables e below (T17_2.setTop (mkF m 17 #[.val (.int p0), .val (.int p1), .val (.int (f_len p0))] [(.int (1 : Int32)), (.int (f_len p0))])) t
        refine XS.icmpYes X17_2.here hx rfl (pc0 := 17) (pc' := 33) rfl (hb hby d17_17) rfl (tlt hc17_2).1 (by decide) (by decide) ?_
        exact k
      refine own_fw (A := T17_2.setTop (mkF m 35 #[.val (.int p0), .val (.int p1), .val (.int (f_len p0))] [(.int (2 : Int32)), (.int (f_len p0))])) (fun t k => ?_) ?_
      · show Steps p.tables e below (T17_2.setTop (mkF m 33 #[.val (.int p0), .val (.int p1), .val (.int (f_len p0))] [])) t
        refine XS.iloadN X17_2.here hx rfl (hb hby d17_33) rfl ?_
        show Steps p.tables e below (T17_2.setTop (mkF m 34 #[.val (.int p0), .val (.int p1), .val (.int (f_len p0))] [(.int (f_len p0))])) t
        refine XS.iconst X17_2.here hx rfl (hb hby d17_34) ?_
        exact k
      by_cases hc17_3 : (f_len p0) < (2 : Int32)
      · refine own_fw (A := T17_2.setTop (mkF m 51 #[.val (.int p0), .val (.int p1), .val (.int (f_len p0))] [])) (fun t k => ?_) ?_
        · show Steps p.tables e below (T17_2.setTop (mkF m 35 #[.val (.int p0), .val (.int p1), .val (.int (f_len p0))] [(.int (2 : Int32)), (.int (f_len p0))])) t
          refine XS.icmpYes X17_2.here hx rfl (pc0 := 35) (pc' := 51) rfl (hb hby d17_35) rfl (tlt hc17_3).1 (by decide) (by decide) ?_
          exact k
        refine own_fw (A := T17_2.setTop (mkF m 52 #[.val (.int p0), .val (.int p1), .val (.int (f_len p0))] [(.int (1 : Int32))])) (fun t k => ?_) ?_
        · show Steps p.tables e below (T17_2.setTop (mkF m 51 #[.val (.int p0), .val (.int p1), .val (.int (f_len p0))] [])) t
          refine XS.iconst X17_2.here hx rfl (hb hby d17_51) ?_
          exact k
        obtain ⟨fs, hr, hrun, hended, hW, hsame⟩ := X17_2.leave (v := some (.int (nar .boolean (1 : Int32)))) (own_ret Bd.returns) (BodyLoose.notSynchronized Bd)
        refine ⟨_, _, retN X17_2 hx (t := .boolean) Bd.returns (by simp) (hb hby d17_52) hr, hrun, hended, _, _, rfl, ?_, ⟨_, rfl⟩, hW, hsame.mono (by decide) (by decide)⟩
        have eh : (T17_2.setFrames fs).heap = h0 := e17_2
        rw [eh]
        exact ⟨by rw [f_same, if_pos hc17_1, if_pos hc17_2, if_pos hc17_3], N17_2, rfl⟩
      · refine own_fw (A := T17_2.setTop (mkF m 38 #[.val (.int p0), .val (.int p1), .val (.int (f_len p0))] [])) (fun t k => ?_) ?_
        · show Steps p.tables e below (T17_2.setTop (mkF m 35 #[.val (.int p0), .val (.int p1), .val (.int (f_len p0))] [(.int (2 : Int32)), (.int (f_len p0))])) t
          refine XS.icmpNo X17_2.here hx rfl (hb hby d17_35) rfl (flt hc17_3).1 ?_
          exact k
        refine own_fw (A := T17_2.setTop (mkF m 39 #[.val (.int p0), .val (.int p1), .val (.int (f_len p0))] [(.int p0)])) (fun t k => ?_) ?_
        · show Steps p.tables e below (T17_2.setTop (mkF m 38 #[.val (.int p0), .val (.int p1), .val (.int (f_len p0))] [])) t
          refine XS.iloadN X17_2.here hx rfl (hb hby d17_38) rfl ?_
          exact k
        obtain ⟨_, _, ⟨T17_3, L17_3, k17_3, n17_3⟩, -, X17_3, ⟨Lc17_3, hQ17_3, l17_3, y17_3, z17_3⟩, st17_3⟩ := Jvm.LawKit.callS X17_2 hx (y := (⟨"com/example/access_decision/accessdecision/AclRightEqualsPinLaw", "c1", "(I)C"⟩ : MethodName)) hown (mvT hZ (hw _ (List.mem_of_getElem? (i := 32) rfl))) (mvT hZ (hw _ (List.mem_of_getElem? (i := 33) rfl))) (mvT hZ (hw _ (List.mem_of_getElem? (i := 2) rfl))) (mvT hZ (hw _ (List.mem_of_getElem? (i := 34) rfl))) (by decide) (backOf (W := 0) (rm7 l Z a0 hw [] (p0) h0 n0 Z0 ) hZ (hw _ (List.mem_of_getElem? (i := 34) rfl)) (hw _ (List.mem_of_getElem? (i := 2) rfl)) (by decide) (by decide)) (g := (mkF m 39 #[.val (.int p0), .val (.int p1), .val (.int (f_len p0))] [(.int p0)])) rfl (by rw [hml]; rfl) (argsL := [(.int p0)]) (rest := []) (lenOf pd17_1 rfl) rfl (by show 2 * 0 + _ ≤ _; exact Nat.le_of_eq rfl) (hb hby d17_39) (fun _ _ => ⟨rfl, e17_2, (by decide : 0 + 0 ≤ _), (by decide : 0 + 0 ≤ _)⟩)
        dsimp only [Pt.U, Pt.locs, Pt.cells, Pt.slots] at X17_3 l17_3 y17_3 z17_3 st17_3 hQ17_3
        subst l17_3 y17_3 z17_3
        obtain ⟨rfl, N17_3q, e17_3⟩ := hQ17_3
        have N17_3 := Fr.app N17_2 N17_3q
        refine own_fw st17_3 ?_
        refine own_fw (A := T17_3.setTop (mkF m 43 #[.val (.int p0), .val (.int p1), .val (.int (f_len p0))] [(.int p1), (.int (f_c1 p0))])) (fun t k => ?_) ?_
        · show Steps p.tables e below (T17_3.setTop (mkF m 42 #[.val (.int p0), .val (.int p1), .val (.int (f_len p0))] [(.int (f_c1 p0))])) t
          refine XS.iloadN X17_3.here hx rfl (hb hby d17_42) rfl ?_
          exact k
        obtain ⟨_, _, ⟨T17_4, L17_4, k17_4, n17_4⟩, -, X17_4, ⟨Lc17_4, hQ17_4, l17_4, y17_4, z17_4⟩, st17_4⟩ := Jvm.LawKit.callS X17_3 hx (y := (⟨"com/example/access_decision/accessdecision/AclRightEqualsPinLaw", "c1", "(I)C"⟩ : MethodName)) hown (mvT hZ (hw _ (List.mem_of_getElem? (i := 32) rfl))) (mvT hZ (hw _ (List.mem_of_getElem? (i := 33) rfl))) (mvT hZ (hw _ (List.mem_of_getElem? (i := 2) rfl))) (mvT hZ (hw _ (List.mem_of_getElem? (i := 34) rfl))) (by decide) (backOf (W := 1) (rm7 l Z a0 hw [] (p1) h0 n0 Z0 ) hZ (hw _ (List.mem_of_getElem? (i := 34) rfl)) (hw _ (List.mem_of_getElem? (i := 2) rfl)) (by decide) (by decide)) (g := (mkF m 43 #[.val (.int p0), .val (.int p1), .val (.int (f_len p0))] [(.int p1), (.int (f_c1 p0))])) rfl (by rw [hml]; rfl) (argsL := [(.int p1)]) (rest := [(.int (f_c1 p0))]) (lenOf pd17_1 rfl) rfl (by show 2 * 0 + _ ≤ _; exact Nat.le_of_eq rfl) (hb hby d17_43) (fun _ _ => ⟨rfl, e17_3, (by decide : 0 + 0 ≤ _), (by decide : 0 + 0 ≤ _)⟩)
        dsimp only [Pt.U, Pt.locs, Pt.cells, Pt.slots] at X17_4 l17_4 y17_4 z17_4 st17_4 hQ17_4
        subst l17_4 y17_4 z17_4
        obtain ⟨rfl, N17_4q, e17_4⟩ := hQ17_4
        have N17_4 := Fr.app N17_3 N17_4q
        refine own_fw st17_4 ?_
        by_cases hc17_4 : (f_c1 p0) = (f_c1 p1)
        · refine own_fw (A := T17_4.setTop (mkF m 51 #[.val (.int p0), .val (.int p1), .val (.int (f_len p0))] [])) (fun t k => ?_) ?_
          · show Steps p.tables e below (T17_4.setTop (mkF m 46 #[.val (.int p0), .val (.int p1), .val (.int (f_len p0))] [(.int (f_c1 p1)), (.int (f_c1 p0))])) t
            refine XS.icmpYes X17_4.here hx rfl (pc0 := 46) (pc' := 51) rfl (hb hby d17_46) rfl (teq hc17_4).1 (by decide) (by decide) ?_
            exact k
          refine own_fw (A := T17_4.setTop (mkF m 52 #[.val (.int p0), .val (.int p1), .val (.int (f_len p0))] [(.int (1 : Int32))])) (fun t k => ?_) ?_
          · show Steps p.tables e below (T17_4.setTop (mkF m 51 #[.val (.int p0), .val (.int p1), .val (.int (f_len p0))] [])) t
            refine XS.iconst X17_4.here hx rfl (hb hby d17_51) ?_
            exact k
          obtain ⟨fs, hr, hrun, hended, hW, hsame⟩ := X17_4.leave (v := some (.int (nar .boolean (1 : Int32)))) (own_ret Bd.returns) (BodyLoose.notSynchronized Bd)
          refine ⟨_, _, retN X17_4 hx (t := .boolean) Bd.returns (by simp) (hb hby d17_52) hr, hrun, hended, _, _, rfl, ?_, ⟨_, rfl⟩, hW, hsame.mono (by decide) (by decide)⟩
          have eh : (T17_4.setFrames fs).heap = h0 := e17_4
          rw [eh]
          exact ⟨by rw [f_same, if_pos hc17_1, if_pos hc17_2, if_neg hc17_3, if_pos hc17_4], N17_4, rfl⟩
        · refine own_fw (A := T17_4.setTop (mkF m 49 #[.val (.int p0), .val (.int p1), .val (.int (f_len p0))] [])) (fun t k => ?_) ?_
          · show Steps p.tables e below (T17_4.setTop (mkF m 46 #[.val (.int p0), .val (.int p1), .val (.int (f_len p0))] [(.int (f_c1 p1)), (.int (f_c1 p0))])) t
            refine XS.icmpNo X17_4.here hx rfl (hb hby d17_46) rfl (feq hc17_4).1 ?_
            exact k
          refine own_fw (A := T17_4.setTop (mkF m 50 #[.val (.int p0), .val (.int p1), .val (.int (f_len p0))] [(.int (0 : Int32))])) (fun t k => ?_) ?_
          · show Steps p.tables e below (T17_4.setTop (mkF m 49 #[.val (.int p0), .val (.int p1), .val (.int (f_len p0))] [])) t
            refine XS.iconst X17_4.here hx rfl (hb hby d17_49) ?_
            exact k
          obtain ⟨fs, hr, hrun, hended, hW, hsame⟩ := X17_4.leave (v := some (.int (nar .boolean (0 : Int32)))) (own_ret Bd.returns) (BodyLoose.notSynchronized Bd)
          refine ⟨_, _, retN X17_4 hx (t := .boolean) Bd.returns (by simp) (hb hby d17_50) hr, hrun, hended, _, _, rfl, ?_, ⟨_, rfl⟩, hW, hsame.mono (by decide) (by decide)⟩
          have eh : (T17_4.setFrames fs).heap = h0 := e17_4
          rw [eh]
          exact ⟨by rw [f_same, if_pos hc17_1, if_pos hc17_2, if_neg hc17_3, if_neg hc17_4], N17_4, rfl⟩
    · refine own_fw (A := T17_2.setTop (mkF m 20 #[.val (.int p0), .val (.int p1), .val (.int (f_len p0))] [])) (fun t k => ?_) ?_
      · show Steps p.tables e below (T17_2.setTop (mkF m 17 #[.val (.int p0), .val (.int p1), .val (.int (f_len p0))] [(.int (1 : Int32)), (.int (f_len p0))])) t
        refine XS.icmpNo X17_2.here hx rfl (hb hby d17_17) rfl (flt hc17_2).1 ?_
        exact k
      refine own_fw (A := T17_2.setTop (mkF m 21 #[.val (.int p0), .val (.int p1), .val (.int (f_len p0))] [(.int p0)])) (fun t k => ?_) ?_
      · show Steps p.tables e below (T17_2.setTop (mkF m 20 #[.val (.int p0), .val (.int p1), .val (.int (f_len p0))] [])) t
        refine XS.iloadN X17_2.here hx rfl (hb hby d17_20) rfl ?_
        exact k
      obtain ⟨_, _, ⟨T17_5, L17_5, k17_5, n17_5⟩, -, X17_5, ⟨Lc17_5, hQ17_5, l17_5, y17_5, z17_5⟩, st17_5⟩ := Jvm.LawKit.callS X17_2 hx (y := (⟨"com/example/access_decision/accessdecision/AclRightEqualsPinLaw", "c0", "(I)C"⟩ : MethodName)) hown (mvT hZ (hw _ (List.mem_of_getElem? (i := 29) rfl))) (mvT hZ (hw _ (List.mem_of_getElem? (i := 30) rfl))) (mvT hZ (hw _ (List.mem_of_getElem? (i := 2) rfl))) (mvT hZ (hw _ (List.mem_of_getElem? (i := 31) rfl))) (by decide) (backOf (W := 0) (rm6 l Z a0 hw [] (p0) h0 n0 Z0 ) hZ (hw _ (List.mem_of_getElem? (i := 31) rfl)) (hw _ (List.mem_of_getElem? (i := 2) rfl)) (by decide) (by decide)) (g := (mkF m 21 #[.val (.int p0), .val (.int p1), .val (.int (f_len p0))] [(.int p0)])) rfl (by rw [hml]; rfl) (argsL := [(.int p0)]) (rest := []) (lenOf pd17_1 rfl) rfl (by show 2 * 0 + _ ≤ _; exact Nat.le_of_eq rfl) (hb hby d17_21) (fun _ _ => ⟨rfl, e17_2, (by decide : 0 + 0 ≤ _), (by decide : 0 + 0 ≤ _)⟩)
      dsimp only [Pt.U, Pt.locs, Pt.cells, Pt.slots] at X17_5 l17_5 y17_5 z17_5 st17_5 hQ17_5
      subst l17_5 y17_5 z17_5
      obtain ⟨rfl, N17_5q, e17_5⟩ := hQ17_5
      have N17_5 := Fr.app N17_2 N17_5q
      refine own_fw st17_5 ?_
      refine own_fw (A := T17_5.setTop (mkF m 25 #[.val (.int p0), .val (.int p1), .val (.int (f_len p0))] [(.int p1), (.int (f_c0 p0))])) (fun t k => ?_) ?_
      · show Steps p.tables e below (T17_5.setTop (mkF m 24 #[.val (.int p0), .val (.int p1), .val (.int (f_len p0))] [(.int (f_c0 p0))])) t
        refine XS.iloadN X17_5.here hx rfl (hb hby d17_24) rfl ?_
        exact k
      obtain ⟨_, _, ⟨T17_6, L17_6, k17_6, n17_6⟩, -, X17_6, ⟨Lc17_6, hQ17_6, l17_6, y17_6, z17_6⟩, st17_6⟩ := Jvm.LawKit.callS X17_5 hx (y := (⟨"com/example/access_decision/accessdecision/AclRightEqualsPinLaw", "c0", "(I)C"⟩ : MethodName)) hown (mvT hZ (hw _ (List.mem_of_getElem? (i := 29) rfl))) (mvT hZ (hw _ (List.mem_of_getElem? (i := 30) rfl))) (mvT hZ (hw _ (List.mem_of_getElem? (i := 2) rfl))) (mvT hZ (hw _ (List.mem_of_getElem? (i := 31) rfl))) (by decide) (backOf (W := 1) (rm6 l Z a0 hw [] (p1) h0 n0 Z0 ) hZ (hw _ (List.mem_of_getElem? (i := 31) rfl)) (hw _ (List.mem_of_getElem? (i := 2) rfl)) (by decide) (by decide)) (g := (mkF m 25 #[.val (.int p0), .val (.int p1), .val (.int (f_len p0))] [(.int p1), (.int (f_c0 p0))])) rfl (by rw [hml]; rfl) (argsL := [(.int p1)]) (rest := [(.int (f_c0 p0))]) (lenOf pd17_1 rfl) rfl (by show 2 * 0 + _ ≤ _; exact Nat.le_of_eq rfl) (hb hby d17_25) (fun _ _ => ⟨rfl, e17_5, (by decide : 0 + 0 ≤ _), (by decide : 0 + 0 ≤ _)⟩)
      dsimp only [Pt.U, Pt.locs, Pt.cells, Pt.slots] at X17_6 l17_6 y17_6 z17_6 st17_6 hQ17_6
      subst l17_6 y17_6 z17_6
      obtain ⟨rfl, N17_6q, e17_6⟩ := hQ17_6
      have N17_6 := Fr.app N17_5 N17_6q
      refine own_fw st17_6 ?_
      by_cases hc17_5 : (f_c0 p0) = (f_c0 p1)
      · refine own_fw (A := T17_6.setTop (mkF m 33 #[.val (.int p0), .val (.int p1), .val (.int (f_len p0))] [])) (fun t k => ?_) ?_
        · show Steps p.tables e below (T17_6.setTop (mkF m 28 #[.val (.int p0), .val (.int p1), .val (.int (f_len p0))] [(.int (f_c0 p1)), (.int (f_c0 p0))])) t
          refine XS.icmpYes X17_6.here hx rfl (pc0 := 28) (pc' := 33) rfl (hb hby d17_28) rfl (teq hc17_5).1 (by decide) (by decide) ?_
          exact k
        refine own_fw (A := T17_6.setTop (mkF m 35 #[.val (.int p0), .val (.int p1), .val (.int (f_len p0))] [(.int (2 : Int32)), (.int (f_len p0))])) (fun t k => ?_) ?_
        · show Steps p.tables e below (T17_6.setTop (mkF m 33 #[.val (.int p0), .val (.int p1), .val (.int (f_len p0))] [])) t
          refine XS.iloadN X17_6.here hx rfl (hb hby d17_33) rfl ?_
          show Steps p.tables e below (T17_6.setTop (mkF m 34 #[.val (.int p0), .val (.int p1), .val (.int (f_len p0))] [(.int (f_len p0))])) t
          refine XS.iconst X17_6.here hx rfl (hb hby d17_34) ?_
          exact k
        by_cases hc17_6 : (f_len p0) < (2 : Int32)
        · refine own_fw (A := T17_6.setTop (mkF m 51 #[.val (.int p0), .val (.int p1), .val (.int (f_len p0))] [])) (fun t k => ?_) ?_
          · show Steps p.tables e below (T17_6.setTop (mkF m 35 #[.val (.int p0), .val (.int p1), .val (.int (f_len p0))] [(.int (2 : Int32)), (.int (f_len p0))])) t
            refine XS.icmpYes X17_6.here hx rfl (pc0 := 35) (pc' := 51) rfl (hb hby d17_35) rfl (tlt hc17_6).1 (by decide) (by decide) ?_
            exact k
          refine own_fw (A := T17_6.setTop (mkF m 52 #[.val (.int p0), .val (.int p1), .val (.int (f_len p0))] [(.int (1 : Int32))])) (fun t k => ?_) ?_
          · show Steps p.tables e below (T17_6.setTop (mkF m 51 #[.val (.int p0), .val (.int p1), .val (.int (f_len p0))] [])) t
            refine XS.iconst X17_6.here hx rfl (hb hby d17_51) ?_
            exact k
          obtain ⟨fs, hr, hrun, hended, hW, hsame⟩ := X17_6.leave (v := some (.int (nar .boolean (1 : Int32)))) (own_ret Bd.returns) (BodyLoose.notSynchronized Bd)
          refine ⟨_, _, retN X17_6 hx (t := .boolean) Bd.returns (by simp) (hb hby d17_52) hr, hrun, hended, _, _, rfl, ?_, ⟨_, rfl⟩, hW, hsame.mono (by decide) (by decide)⟩
          have eh : (T17_6.setFrames fs).heap = h0 := e17_6
          rw [eh]
          exact ⟨by rw [f_same, if_pos hc17_1, if_neg hc17_2, if_pos hc17_5, if_pos hc17_6], N17_6, rfl⟩
        · refine own_fw (A := T17_6.setTop (mkF m 38 #[.val (.int p0), .val (.int p1), .val (.int (f_len p0))] [])) (fun t k => ?_) ?_
          · show Steps p.tables e below (T17_6.setTop (mkF m 35 #[.val (.int p0), .val (.int p1), .val (.int (f_len p0))] [(.int (2 : Int32)), (.int (f_len p0))])) t
            refine XS.icmpNo X17_6.here hx rfl (hb hby d17_35) rfl (flt hc17_6).1 ?_
            exact k
          refine own_fw (A := T17_6.setTop (mkF m 39 #[.val (.int p0), .val (.int p1), .val (.int (f_len p0))] [(.int p0)])) (fun t k => ?_) ?_
          · show Steps p.tables e below (T17_6.setTop (mkF m 38 #[.val (.int p0), .val (.int p1), .val (.int (f_len p0))] [])) t
            refine XS.iloadN X17_6.here hx rfl (hb hby d17_38) rfl ?_
            exact k
          obtain ⟨_, _, ⟨T17_7, L17_7, k17_7, n17_7⟩, -, X17_7, ⟨Lc17_7, hQ17_7, l17_7, y17_7, z17_7⟩, st17_7⟩ := Jvm.LawKit.callS X17_6 hx (y := (⟨"com/example/access_decision/accessdecision/AclRightEqualsPinLaw", "c1", "(I)C"⟩ : MethodName)) hown (mvT hZ (hw _ (List.mem_of_getElem? (i := 32) rfl))) (mvT hZ (hw _ (List.mem_of_getElem? (i := 33) rfl))) (mvT hZ (hw _ (List.mem_of_getElem? (i := 2) rfl))) (mvT hZ (hw _ (List.mem_of_getElem? (i := 34) rfl))) (by decide) (backOf (W := 0) (rm7 l Z a0 hw [] (p0) h0 n0 Z0 ) hZ (hw _ (List.mem_of_getElem? (i := 34) rfl)) (hw _ (List.mem_of_getElem? (i := 2) rfl)) (by decide) (by decide)) (g := (mkF m 39 #[.val (.int p0), .val (.int p1), .val (.int (f_len p0))] [(.int p0)])) rfl (by rw [hml]; rfl) (argsL := [(.int p0)]) (rest := []) (lenOf pd17_1 rfl) rfl (by show 2 * 0 + _ ≤ _; exact Nat.le_of_eq rfl) (hb hby d17_39) (fun _ _ => ⟨rfl, e17_6, (by decide : 0 + 0 ≤ _), (by decide : 0 + 0 ≤ _)⟩)
          dsimp only [Pt.U, Pt.locs, Pt.cells, Pt.slots] at X17_7 l17_7 y17_7 z17_7 st17_7 hQ17_7
          subst l17_7 y17_7 z17_7
          obtain ⟨rfl, N17_7q, e17_7⟩ := hQ17_7
          have N17_7 := Fr.app N17_6 N17_7q
          refine own_fw st17_7 ?_
          refine own_fw (A := T17_7.setTop (mkF m 43 #[.val (.int p0), .val (.int p1), .val (.int (f_len p0))] [(.int p1), (.int (f_c1 p0))])) (fun t k => ?_) ?_
          · show Steps p.tables e below (T17_7.setTop (mkF m 42 #[.val (.int p0), .val (.int p1), .val (.int (f_len p0))] [(.int (f_c1 p0))])) t
            refine XS.iloadN X17_7.here hx rfl (hb hby d17_42) rfl ?_
            exact k
          obtain ⟨_, _, ⟨T17_8, L17_8, k17_8, n17_8⟩, -, X17_8, ⟨Lc17_8, hQ17_8, l17_8, y17_8, z17_8⟩, st17_8⟩ := Jvm.LawKit.callS X17_7 hx (y := (⟨"com/example/access_decision/accessdecision/AclRightEqualsPinLaw", "c1", "(I)C"⟩ : MethodName)) hown (mvT hZ (hw _ (List.mem_of_getElem? (i := 32) rfl))) (mvT hZ (hw _ (List.mem_of_getElem? (i := 33) rfl))) (mvT hZ (hw _ (List.mem_of_getElem? (i := 2) rfl))) (mvT hZ (hw _ (List.mem_of_getElem? (i := 34) rfl))) (by decide) (backOf (W := 1) (rm7 l Z a0 hw [] (p1) h0 n0 Z0 ) hZ (hw _ (List.mem_of_getElem? (i := 34) rfl)) (hw _ (List.mem_of_getElem? (i := 2) rfl)) (by decide) (by decide)) (g := (mkF m 43 #[.val (.int p0), .val (.int p1), .val (.int (f_len p0))] [(.int p1), (.int (f_c1 p0))])) rfl (by rw [hml]; rfl) (argsL := [(.int p1)]) (rest := [(.int (f_c1 p0))]) (lenOf pd17_1 rfl) rfl (by show 2 * 0 + _ ≤ _; exact Nat.le_of_eq rfl) (hb hby d17_43) (fun _ _ => ⟨rfl, e17_7, (by decide : 0 + 0 ≤ _), (by decide : 0 + 0 ≤ _)⟩)
          dsimp only [Pt.U, Pt.locs, Pt.cells, Pt.slots] at X17_8 l17_8 y17_8 z17_8 st17_8 hQ17_8
          subst l17_8 y17_8 z17_8
          obtain ⟨rfl, N17_8q, e17_8⟩ := hQ17_8
          have N17_8 := Fr.app N17_7 N17_8q
          refine own_fw st17_8 ?_
          by_cases hc17_7 : (f_c1 p0) = (f_c1 p1)
          · refine own_fw (A := T17_8.setTop (mkF m 51 #[.val (.int p0), .val (.int p1), .val (.int (f_len p0))] [])) (fun t k => ?_) ?_
            · show Steps p.tables e below (T17_8.setTop (mkF m 46 #[.val (.int p0), .val (.int p1), .val (.int (f_len p0))] [(.int (f_c1 p1)), (.int (f_c1 p0))])) t
              refine XS.icmpYes X17_8.here hx rfl (pc0 := 46) (pc' := 51) rfl (hb hby d17_46) rfl (teq hc17_7).1 (by decide) (by decide) ?_
              exact k
            refine own_fw (A := T17_8.setTop (mkF m 52 #[.val (.int p0), .val (.int p1), .val (.int (f_len p0))] [(.int (1 : Int32))])) (fun t k => ?_) ?_
            · show Steps p.tables e below (T17_8.setTop (mkF m 51 #[.val (.int p0), .val (.int p1), .val (.int (f_len p0))] [])) t
              refine XS.iconst X17_8.here hx rfl (hb hby d17_51) ?_
              exact k
            obtain ⟨fs, hr, hrun, hended, hW, hsame⟩ := X17_8.leave (v := some (.int (nar .boolean (1 : Int32)))) (own_ret Bd.returns) (BodyLoose.notSynchronized Bd)
            refine ⟨_, _, retN X17_8 hx (t := .boolean) Bd.returns (by simp) (hb hby d17_52) hr, hrun, hended, _, _, rfl, ?_, ⟨_, rfl⟩, hW, hsame.mono (by decide) (by decide)⟩
            have eh : (T17_8.setFrames fs).heap = h0 := e17_8
            rw [eh]
            exact ⟨by rw [f_same, if_pos hc17_1, if_neg hc17_2, if_pos hc17_5, if_neg hc17_6, if_pos hc17_7], N17_8, rfl⟩
          · refine own_fw (A := T17_8.setTop (mkF m 49 #[.val (.int p0), .val (.int p1), .val (.int (f_len p0))] [])) (fun t k => ?_) ?_
            · show Steps p.tables e below (T17_8.setTop (mkF m 46 #[.val (.int p0), .val (.int p1), .val (.int (f_len p0))] [(.int (f_c1 p1)), (.int (f_c1 p0))])) t
              refine XS.icmpNo X17_8.here hx rfl (hb hby d17_46) rfl (feq hc17_7).1 ?_
              exact k
            refine own_fw (A := T17_8.setTop (mkF m 50 #[.val (.int p0), .val (.int p1), .val (.int (f_len p0))] [(.int (0 : Int32))])) (fun t k => ?_) ?_
            · show Steps p.tables e below (T17_8.setTop (mkF m 49 #[.val (.int p0), .val (.int p1), .val (.int (f_len p0))] [])) t
              refine XS.iconst X17_8.here hx rfl (hb hby d17_49) ?_
              exact k
            obtain ⟨fs, hr, hrun, hended, hW, hsame⟩ := X17_8.leave (v := some (.int (nar .boolean (0 : Int32)))) (own_ret Bd.returns) (BodyLoose.notSynchronized Bd)
            refine ⟨_, _, retN X17_8 hx (t := .boolean) Bd.returns (by simp) (hb hby d17_50) hr, hrun, hended, _, _, rfl, ?_, ⟨_, rfl⟩, hW, hsame.mono (by decide) (by decide)⟩
            have eh : (T17_8.setFrames fs).heap = h0 := e17_8
            rw [eh]
            exact ⟨by rw [f_same, if_pos hc17_1, if_neg hc17_2, if_pos hc17_5, if_neg hc17_6, if_neg hc17_7], N17_8, rfl⟩
      · refine own_fw (A := T17_6.setTop (mkF m 31 #[.val (.int p0), .val (.int p1), .val (.int (f_len p0))] [])) (fun t k => ?_) ?_
        · show Steps p.tables e below (T17_6.setTop (mkF m 28 #[.val (.int p0), .val (.int p1), .val (.int (f_len p0))] [(.int (f_c0 p1)), (.int (f_c0 p0))])) t
          refine XS.icmpNo X17_6.here hx rfl (hb hby d17_28) rfl (feq hc17_5).1 ?_
          exact k
        refine own_fw (A := T17_6.setTop (mkF m 32 #[.val (.int p0), .val (.int p1), .val (.int (f_len p0))] [(.int (0 : Int32))])) (fun t k => ?_) ?_
        · show Steps p.tables e below (T17_6.setTop (mkF m 31 #[.val (.int p0), .val (.int p1), .val (.int (f_len p0))] [])) t
          refine XS.iconst X17_6.here hx rfl (hb hby d17_31) ?_
          exact k
        obtain ⟨fs, hr, hrun, hended, hW, hsame⟩ := X17_6.leave (v := some (.int (nar .boolean (0 : Int32)))) (own_ret Bd.returns) (BodyLoose.notSynchronized Bd)
        refine ⟨_, _, retN X17_6 hx (t := .boolean) Bd.returns (by simp) (hb hby d17_32) hr, hrun, hended, _, _, rfl, ?_, ⟨_, rfl⟩, hW, hsame.mono (by decide) (by decide)⟩
        have eh : (T17_6.setFrames fs).heap = h0 := e17_6
        rw [eh]
        exact ⟨by rw [f_same, if_pos hc17_1, if_neg hc17_2, if_neg hc17_5], N17_6, rfl⟩
  · refine own_fw (A := T17_2.setTop (mkF m 13 #[.val (.int p0), .val (.int p1), .val (.int (f_len p0))] [])) (fun t k => ?_) ?_
    · show Steps p.tables e below (T17_2.setTop (mkF m 10 #[.val (.int p0), .val (.int p1), .val (.int (f_len p0))] [(.int (f_len p1)), (.int (f_len p0))])) t
      refine XS.icmpNo X17_2.here hx rfl (hb hby d17_10) rfl (feq hc17_1).1 ?_
      exact k
    refine own_fw (A := T17_2.setTop (mkF m 14 #[.val (.int p0), .val (.int p1), .val (.int (f_len p0))] [(.int (0 : Int32))])) (fun t k => ?_) ?_
    · show Steps p.tables e below (T17_2.setTop (mkF m 13 #[.val (.int p0), .val (.int p1), .val (.int (f_len p0))] [])) t
      refine XS.iconst X17_2.here hx rfl (hb hby d17_13) ?_
      exact k
    obtain ⟨fs, hr, hrun, hended, hW, hsame⟩ := X17_2.leave (v := some (.int (nar .boolean (0 : Int32)))) (own_ret Bd.returns) (BodyLoose.notSynchronized Bd)
    refine ⟨_, _, retN X17_2 hx (t := .boolean) Bd.returns (by simp) (hb hby d17_14) hr, hrun, hended, _, _, rfl, ?_, ⟨_, rfl⟩, hW, hsame.mono (by decide) (by decide)⟩
    have eh : (T17_2.setFrames fs).heap = h0 := e17_2
    rw [eh]
    exact ⟨by rw [f_same, if_neg hc17_1], N17_2, rfl⟩
theorem d10_0 : decode jdk_52_method_15_code 0 = .ok (.iload_n 1, 1) := by decide +kernel
theorem d10_1 : decode jdk_52_method_15_code 1 = .ok (.aload_n 0, 1) := by decide +kernel
theorem d10_2 : decode jdk_52_method_15_code 2 = .ok (.arraylength, 1) := by decide +kernel
theorem d10_3 : decode jdk_52_method_15_code 3 = .ok (.isub, 1) := by decide +kernel
theorem d10_4 : decode jdk_52_method_15_code 4 = .ok (.bipush 31, 2) := by decide +kernel
theorem d10_6 : decode jdk_52_method_15_code 6 = .ok (.iushr, 1) := by decide +kernel
theorem d10_7 : decode jdk_52_method_15_code 7 = .ok (.i2b, 1) := by decide +kernel
theorem d10_8 : decode jdk_52_method_15_code 8 = .ok (.ireturn, 1) := by decide +kernel
theorem pn10 : plainName "java/lang/StringUTF16" = true := by first | (simp [plainName, overriddenIn]; done) | decide +kernel
theorem ef10 (m : MethodId) (r0 : Addr) (p1 : Int32) : entryFrame m #[(.ref r0), (.int p1)] 2 = mkF m 0 #[.val (.ref r0), .val (.int p1)] [] := by first | (simp [entryFrame, mkF, argsToLocals, Value.category]; done) | rfl
def Q10 (Z : State) (z : Int32) (h0 : Heap) (n0 : Nat) (w : Option Value) (h : Heap) (L : List Loc) : Prop := w = some (.int z) ∧ Fr n0 L ∧ h = h0
theorem d9_0 : decode jdk_52_method_21_code 0 = .ok (.iconst 0, 1) := by decide +kernel
theorem d9_1 : decode jdk_52_method_21_code 1 = .ok (.istore 5, 2) := by decide +kernel
theorem d9_3 : decode jdk_52_method_21_code 3 = .ok (.iload 5, 2) := by decide +kernel
theorem d9_5 : decode jdk_52_method_21_code 5 = .ok (.iload 4, 2) := by decide +kernel
theorem d9_7 : decode jdk_52_method_21_code 7 = .ok (.if_icmp .ge 37, 3) := by decide +kernel
theorem d9_10 : decode jdk_52_method_21_code 10 = .ok (.aload_n 0, 1) := by decide +kernel
theorem d9_11 : decode jdk_52_method_21_code 11 = .ok (.iload_n 1, 1) := by decide +kernel
theorem d9_12 : decode jdk_52_method_21_code 12 = .ok (.caload, 1) := by decide +kernel
theorem d9_13 : decode jdk_52_method_21_code 13 = .ok (.istore 6, 2) := by decide +kernel
theorem d9_15 : decode jdk_52_method_21_code 15 = .ok (.iload 6, 2) := by decide +kernel
theorem d9_17 : decode jdk_52_method_21_code 17 = .ok (.sipush 255, 3) := by decide +kernel
theorem d9_20 : decode jdk_52_method_21_code 20 = .ok (.if_icmp .le 6, 3) := by decide +kernel
theorem d9_23 : decode jdk_52_method_21_code 23 = .ok (.iload 5, 2) := by decide +kernel
theorem d9_25 : decode jdk_52_method_21_code 25 = .ok (.ireturn, 1) := by decide +kernel
theorem d9_26 : decode jdk_52_method_21_code 26 = .ok (.aload_n 2, 1) := by decide +kernel
theorem d9_27 : decode jdk_52_method_21_code 27 = .ok (.iload_n 3, 1) := by decide +kernel
theorem d9_28 : decode jdk_52_method_21_code 28 = .ok (.iload 6, 2) := by decide +kernel
theorem d9_30 : decode jdk_52_method_21_code 30 = .ok (.i2b, 1) := by decide +kernel
theorem d9_31 : decode jdk_52_method_21_code 31 = .ok (.bastore, 1) := by decide +kernel
theorem d9_32 : decode jdk_52_method_21_code 32 = .ok (.iinc 1 1, 3) := by decide +kernel
theorem d9_35 : decode jdk_52_method_21_code 35 = .ok (.iinc 3 1, 3) := by decide +kernel
theorem d9_38 : decode jdk_52_method_21_code 38 = .ok (.iinc 5 1, 3) := by decide +kernel
theorem d9_41 : decode jdk_52_method_21_code 41 = .ok (.goto (-38), 3) := by decide +kernel
theorem d9_44 : decode jdk_52_method_21_code 44 = .ok (.iload 4, 2) := by decide +kernel
theorem d9_46 : decode jdk_52_method_21_code 46 = .ok (.ireturn, 1) := by decide +kernel
theorem pn9 : plainName "java/lang/StringUTF16" = true := by first | (simp [plainName, overriddenIn]; done) | decide +kernel
theorem ef9 (m : MethodId) (r0 : Addr) (p1 : Int32) (r2 : Addr) (p3 : Int32) (p4 : Int32) : entryFrame m #[(.ref r0), (.int p1), (.ref r2), (.int p3), (.int p4)] 7 = mkF m 0 #[.val (.ref r0), .val (.int p1), .val (.ref r2), .val (.int p3), .val (.int p4), .unset, .unset] [] := by first | (simp [entryFrame, mkF, argsToLocals, Value.category]; done) | rfl
def Q9 (Z : State) (r2 : Addr) (k : ClassId) (n : Int32) (vs : List Value) (h0 : Heap) (n0 : Nat) (w : Option Value) (h : Heap) (L : List Loc) : Prop := w = some (.int n) ∧ Fr n0 L ∧ Keep h0 h [r2] ∧ Arv Z h r2 k .byte n vs (.int 0)
theorem d8_0 : decode jdk_52_method_16_code 0 = .ok (.iload_n 2, 1) := by decide +kernel
theorem d8_1 : decode jdk_52_method_16_code 1 = .ok (.newarray .byte, 2) := by decide +kernel
theorem d8_3 : decode jdk_52_method_16_code 3 = .ok (.astore_n 3, 1) := by decide +kernel
theorem d8_4 : decode jdk_52_method_16_code 4 = .ok (.aload_n 0, 1) := by decide +kernel
theorem d8_5 : decode jdk_52_method_16_code 5 = .ok (.iload_n 1, 1) := by decide +kernel
theorem d8_6 : decode jdk_52_method_16_code 6 = .ok (.aload_n 3, 1) := by decide +kernel
theorem d8_7 : decode jdk_52_method_16_code 7 = .ok (.iconst 0, 1) := by decide +kernel
theorem d8_8 : decode jdk_52_method_16_code 8 = .ok (.iload_n 2, 1) := by decide +kernel
theorem d8_9 : decode jdk_52_method_16_code 9 = .ok (.invokestatic 115, 3) := by decide +kernel
theorem d8_12 : decode jdk_52_method_16_code 12 = .ok (.istore 4, 2) := by decide +kernel
theorem d8_14 : decode jdk_52_method_16_code 14 = .ok (.iload 4, 2) := by decide +kernel
theorem d8_16 : decode jdk_52_method_16_code 16 = .ok (.iload_n 2, 1) := by decide +kernel
theorem d8_17 : decode jdk_52_method_16_code 17 = .ok (.if_icmp .eq 40, 3) := by decide +kernel
theorem d8_20 : decode jdk_52_method_16_code 20 = .ok (.aload_n 0, 1) := by decide +kernel
theorem d8_21 : decode jdk_52_method_16_code 21 = .ok (.iload_n 1, 1) := by decide +kernel
theorem d8_22 : decode jdk_52_method_16_code 22 = .ok (.iload_n 2, 1) := by decide +kernel
theorem d8_23 : decode jdk_52_method_16_code 23 = .ok (.invokestatic 119, 3) := by decide +kernel
theorem d8_26 : decode jdk_52_method_16_code 26 = .ok (.astore 5, 2) := by decide +kernel
theorem d8_28 : decode jdk_52_method_16_code 28 = .ok (.aload 5, 2) := by decide +kernel
theorem d8_30 : decode jdk_52_method_16_code 30 = .ok (.iload 4, 2) := by decide +kernel
theorem d8_32 : decode jdk_52_method_16_code 32 = .ok (.invokestatic 71, 3) := by decide +kernel
theorem d8_35 : decode jdk_52_method_16_code 35 = .ok (.sipush 255, 3) := by decide +kernel
theorem d8_38 : decode jdk_52_method_16_code 38 = .ok (.if_icmp .gt 16, 3) := by decide +kernel
theorem d8_41 : decode jdk_52_method_16_code 41 = .ok (.aload 5, 2) := by decide +kernel
theorem d8_43 : decode jdk_52_method_16_code 43 = .ok (.iconst 0, 1) := by decide +kernel
theorem d8_44 : decode jdk_52_method_16_code 44 = .ok (.aload_n 3, 1) := by decide +kernel
theorem d8_45 : decode jdk_52_method_16_code 45 = .ok (.iconst 0, 1) := by decide +kernel
theorem d8_46 : decode jdk_52_method_16_code 46 = .ok (.iload_n 2, 1) := by decide +kernel
theorem d8_47 : decode jdk_52_method_16_code 47 = .ok (.invokestatic 123, 3) := by decide +kernel
theorem d8_50 : decode jdk_52_method_16_code 50 = .ok (.iload_n 2, 1) := by decide +kernel
theorem d8_51 : decode jdk_52_method_16_code 51 = .ok (.if_icmp .eq 6, 3) := by decide +kernel
theorem d8_54 : decode jdk_52_method_16_code 54 = .ok (.aload 5, 2) := by decide +kernel
theorem d8_56 : decode jdk_52_method_16_code 56 = .ok (.areturn, 1) := by decide +kernel
theorem d8_57 : decode jdk_52_method_16_code 57 = .ok (.aload_n 3, 1) := by decide +kernel
theorem d8_58 : decode jdk_52_method_16_code 58 = .ok (.areturn, 1) := by decide +kernel
theorem pn8 : plainName "java/lang/StringUTF16" = true := by first | (simp [plainName, overriddenIn]; done) | decide +kernel
theorem pd8_0 : parseMethodDescriptor "([CI[BII)I" = some ⟨[(.array .char), .int, (.array .byte), .int, .int], some .int⟩ := by decide +kernel
theorem ef8 (m : MethodId) (r0 : Addr) (p1 : Int32) (p2 : Int32) : entryFrame m #[(.ref r0), (.int p1), (.int p2)] 6 = mkF m 0 #[.val (.ref r0), .val (.int p1), .val (.int p2), .unset, .unset, .unset] [] := by first | (simp [entryFrame, mkF, argsToLocals, Value.category]; done) | rfl
def Q8 (Z : State) (n : Int32) (vs : List Value) (h0 : Heap) (n0 : Nat) (w : Option Value) (h : Heap) (L : List Loc) : Prop := ∃ b k, w = some (.ref b) ∧ Fr n0 L ∧ Keep h0 h [] ∧ Arv Z h b k .byte n vs (.int 0) ∧ Z.vm.findClass "[B" = some k ∧ h0.size ≤ b
theorem own_klb {k : ClassId} {Z : State} {h : Heap} {a : Addr} {z : Int32} (A : Arr Z h a (newA k .byte z) .byte) (E : Exa Z h a "[B") : Z.vm.findClass "[B" = some k := by
  obtain ⟨cell, kk, e1, e2, -⟩ := E
  rw [A.1] at e1
  cases e1
  exact e2
set_option maxRecDepth 65536 in
set_option maxHeartbeats 40000000 in
theorem rmCF_1 (l : Launch) (Z : State) (a0 : Array Value) (hw : ∀ d ∈ tables_1, d.before a0 Z = true) (ws : List Jvm.Cond) (r0 : Addr) (k : ClassId) (x : Int32) (h0 : Heap) (n0 : Nat) (Z0 : n0 ≤ h0.size) (V_0 : Arv Z h0 r0 k .byte (1 : Int32) [(.int (nar .byte (x.toInt8.toInt32)))] (.int 0)) :
    MetFree l (⟨"java/lang/StringUTF16", "coderFromArrayLen", "([BI)B"⟩ : MethodName) (head1 (Jvm.Cond.code (⟨"java/lang/StringUTF16", "coderFromArrayLen", "([BI)B"⟩ : MethodName) jdk_52_method_15_code 2 (some .byte) :: ws) ({ frames := 0, cells := 0, slots := 0, locals := 0 } : Room)) (fun a U => a = #[(.ref r0), (.int (1 : Int32))] ∧ Z.Warmed39 U.vm ∧ U.heap = h0) (fun _ _ _ _ _ => True) (fun _ U o U' => ∃ v L, o = .returned v ∧ Q10 Z (0 : Int32) h0 n0 v U'.heap L ∧ FrameEnd U o U' L ({ frames := 0, cells := 0, slots := 0, locals := 0 } : Room).cells ({ frames := 0, cells := 0, slots := 0, locals := 0 } : Room).slots) := by
  refine MetFree.of_bodySF (plainFor_of_name pn10) hisR ?_
  intro p e s m args below meth c s₁ Bd hml0 hP hK
  obtain ⟨rfl, hZ, hh⟩ := hP
  have hx := Bd.exec
  have hby := Bd.bytes
  have hml : c.maxLocals = 2 := hml0
  have hown : s.vm.findClass "java/lang/StringUTF16" = some m.cls := findClass_of_methodNamed Bd.named
  have hnm := (name_of_methodNamed Bd.named Bd.method).1
  have X0 : Stand p l e ({ frames := 0, cells := 0, slots := 0, locals := 0 } : Room) s m #[(.ref r0), (.int (1 : Int32))] below meth c s₁ [] 0 0 := Stand.of_body Bd
  have e0 : s₁.heap = h0 := by rw [← hh, Bd.state]; rfl
  have N0 := Fr.nil n0
  refine own_fw (A := s₁.setTop (mkF m 0 #[.val (.ref r0), .val (.int (1 : Int32))] [])) (fun t k => castTop (ef10 m r0 (1 : Int32)) k) ?_
  refine own_fw (A := s₁.setTop (mkF m 2 #[.val (.ref r0), .val (.int (1 : Int32))] [(.ref r0), (.int (1 : Int32))])) (fun t k => ?_) ?_
  · show Steps p.tables e below (s₁.setTop (mkF m 0 #[.val (.ref r0), .val (.int (1 : Int32))] [])) t
    refine XS.iloadN X0.here hx rfl (hb hby d10_0) rfl ?_
    show Steps p.tables e below (s₁.setTop (mkF m 1 #[.val (.ref r0), .val (.int (1 : Int32))] [(.int (1 : Int32))])) t
    refine XS.aloadN X0.here hx rfl (hb hby d10_1) rfl rfl ?_
    exact k
  obtain ⟨cl10_1, Ar10_1, q10_1, S10_1, Ng10_1, Hs10_1, G10_1⟩ := id V_0
  have st10_1 := X0.arraylength hx (by rw [e0]; exact Ar10_1.1) (State.isArrayOf_alike hZ.alike Ar10_1.2.1) (g := (mkF m 2 #[.val (.ref r0), .val (.int (1 : Int32))] [(.ref r0), (.int (1 : Int32))])) rfl rfl (hb hby d10_2)
  rw [len_of S10_1 Ng10_1] at st10_1
  refine own_fw st10_1 ?_
  refine own_fw (A := s₁.setTop (mkF m 8 #[.val (.ref r0), .val (.int (1 : Int32))] [(.int ((0 : Int32).toInt8.toInt32))])) (fun t k => ?_) ?_
  · show Steps p.tables e below (s₁.setTop (mkF m 3 #[.val (.ref r0), .val (.int (1 : Int32))] [(.int (1 : Int32)), (.int (1 : Int32))])) t
    refine XS.isub X0.here hx rfl (hb hby d10_3) rfl ?_
    show Steps p.tables e below (s₁.setTop (mkF m 4 #[.val (.ref r0), .val (.int (1 : Int32))] [(.int (0 : Int32))])) t
    refine XS.bipush X0.here hx rfl (hb hby d10_4) ?_
    show Steps p.tables e below (s₁.setTop (mkF m 6 #[.val (.ref r0), .val (.int (1 : Int32))] [(.int (31 : Int32)), (.int (0 : Int32))])) t
    refine XS.iushr X0.here hx rfl (hb hby d10_6) rfl ?_
    show Steps p.tables e below (s₁.setTop (mkF m 7 #[.val (.ref r0), .val (.int (1 : Int32))] [(.int (0 : Int32))])) t
    refine XS.i2b X0.here hx rfl (hb hby d10_7) rfl ?_
    exact k
  obtain ⟨fs, hr, hrun, hended, hW, hsame⟩ := X0.leave (v := some (.int (nar .byte ((0 : Int32).toInt8.toInt32)))) (own_ret Bd.returns) (BodyLoose.notSynchronized Bd)
  refine ⟨_, _, retN X0 hx (t := .byte) Bd.returns (by simp) (hb hby d10_8) hr, hrun, hended, _, _, rfl, ?_, ⟨_, rfl⟩, hW, hsame.mono (by decide) (by decide)⟩
  have eh : (s₁.setFrames fs).heap = h0 := e0
  rw [eh]
  exact ⟨congrArg (fun z => some (Value.int z)) (by decide), N0, rfl⟩
set_option maxRecDepth 65536 in
set_option maxHeartbeats 40000000 in
theorem rmCQ_1 (l : Launch) (Z : State) (a0 : Array Value) (hw : ∀ d ∈ tables_1, d.before a0 Z = true) (ws : List Jvm.Cond) (r0 : Addr) (r2 : Addr) (kc : ClassId) (k : ClassId) (x : Int32) (h0 : Heap) (n0 : Nat) (Z0 : n0 ≤ h0.size) (V_0 : Arv Z h0 r0 kc .char (1 : Int32) [(.int x)] (.int 0)) (V_2 : Arv Z h0 r2 k .byte (1 : Int32) [(.int 0)] (.int 0)) (hne : r0 ≠ r2) (g_r2 : n0 ≤ r2) (le_x : ¬ (255 : Int32) < x) :
    MetFree l (⟨"java/lang/StringUTF16", "compress", "([CI[BII)I"⟩ : MethodName) (head1 (Jvm.Cond.code (⟨"java/lang/StringUTF16", "compress", "([CI[BII)I"⟩ : MethodName) jdk_52_method_21_code 7 (some .int) :: ws) ({ frames := 0, cells := 0, slots := 0, locals := 0 } : Room)) (fun a U => a = #[(.ref r0), (.int (0 : Int32)), (.ref r2), (.int (0 : Int32)), (.int (1 : Int32))] ∧ Z.Warmed39 U.vm ∧ U.heap = h0) (fun _ _ _ _ _ => True) (fun _ U o U' => ∃ v L, o = .returned v ∧ Q9 Z r2 k (1 : Int32) [(.int (nar .byte (x.toInt8.toInt32)))] h0 n0 v U'.heap L ∧ FrameEnd U o U' L ({ frames := 0, cells := 0, slots := 0, locals := 0 } : Room).cells ({ frames := 0, cells := 0, slots := 0, locals := 0 } : Room).slots) := by
  refine MetFree.of_bodySF (plainFor_of_name pn9) hisR ?_
  intro p e s m args below meth c s₁ Bd hml0 hP hK
  obtain ⟨rfl, hZ, hh⟩ := hP
  have hx := Bd.exec
  have hby := Bd.bytes
  have hml : c.maxLocals = 7 := hml0
  have hown : s.vm.findClass "java/lang/StringUTF16" = some m.cls := findClass_of_methodNamed Bd.named
  have hnm := (name_of_methodNamed Bd.named Bd.method).1
  have X0 : Stand p l e ({ frames := 0, cells := 0, slots := 0, locals := 0 } : Room) s m #[(.ref r0), (.int (0 : Int32)), (.ref r2), (.int (0 : Int32)), (.int (1 : Int32))] below meth c s₁ [] 0 0 := Stand.of_body Bd
  have e0 : s₁.heap = h0 := by rw [← hh, Bd.state]; rfl
  have N0 := Fr.nil n0
  refine own_fw (A := s₁.setTop (mkF m 0 #[.val (.ref r0), .val (.int (0 : Int32)), .val (.ref r2), .val (.int (0 : Int32)), .val (.int (1 : Int32)), .unset, .unset] [])) (fun t k => castTop (ef9 m r0 (0 : Int32) r2 (0 : Int32) (1 : Int32)) k) ?_
  refine own_fw (A := s₁.setTop (mkF m 12 #[.val (.ref r0), .val (.int (0 : Int32)), .val (.ref r2), .val (.int (0 : Int32)), .val (.int (1 : Int32)), .val (.int (0 : Int32)), .unset] [(.int (0 : Int32)), (.ref r0)])) (fun t k => ?_) ?_
  · show Steps p.tables e below (s₁.setTop (mkF m 0 #[.val (.ref r0), .val (.int (0 : Int32)), .val (.ref r2), .val (.int (0 : Int32)), .val (.int (1 : Int32)), .unset, .unset] [])) t
    refine XS.iconst X0.here hx rfl (hb hby d9_0) ?_
    show Steps p.tables e below (s₁.setTop (mkF m 1 #[.val (.ref r0), .val (.int (0 : Int32)), .val (.ref r2), .val (.int (0 : Int32)), .val (.int (1 : Int32)), .unset, .unset] [(.int (0 : Int32))])) t
    refine XS.istore X0.here hx rfl (hb hby d9_1) rfl (l' := #[.val (.ref r0), .val (.int (0 : Int32)), .val (.ref r2), .val (.int (0 : Int32)), .val (.int (1 : Int32)), .val (.int (0 : Int32)), .unset]) rfl ?_
    show Steps p.tables e below (s₁.setTop (mkF m 3 #[.val (.ref r0), .val (.int (0 : Int32)), .val (.ref r2), .val (.int (0 : Int32)), .val (.int (1 : Int32)), .val (.int (0 : Int32)), .unset] [])) t
    refine XS.iload X0.here hx rfl (hb hby d9_3) rfl ?_
    show Steps p.tables e below (s₁.setTop (mkF m 5 #[.val (.ref r0), .val (.int (0 : Int32)), .val (.ref r2), .val (.int (0 : Int32)), .val (.int (1 : Int32)), .val (.int (0 : Int32)), .unset] [(.int (0 : Int32))])) t
    refine XS.iload X0.here hx rfl (hb hby d9_5) rfl ?_
    show Steps p.tables e below (s₁.setTop (mkF m 7 #[.val (.ref r0), .val (.int (0 : Int32)), .val (.ref r2), .val (.int (0 : Int32)), .val (.int (1 : Int32)), .val (.int (0 : Int32)), .unset] [(.int (1 : Int32)), (.int (0 : Int32))])) t
    refine XS.icmpNo X0.here hx rfl (hb hby d9_7) rfl (tlt (by decide : ((0 : Int32) < (1 : Int32)))).2.1 ?_
    show Steps p.tables e below (s₁.setTop (mkF m 10 #[.val (.ref r0), .val (.int (0 : Int32)), .val (.ref r2), .val (.int (0 : Int32)), .val (.int (1 : Int32)), .val (.int (0 : Int32)), .unset] [])) t
    refine XS.aloadN X0.here hx rfl (hb hby d9_10) rfl rfl ?_
    show Steps p.tables e below (s₁.setTop (mkF m 11 #[.val (.ref r0), .val (.int (0 : Int32)), .val (.ref r2), .val (.int (0 : Int32)), .val (.int (1 : Int32)), .val (.int (0 : Int32)), .unset] [(.ref r0)])) t
    refine XS.iloadN X0.here hx rfl (hb hby d9_11) rfl ?_
    exact k
  obtain ⟨cl9_1, Ar9_1, q9_1, S9_1, Ng9_1, Hs9_1, G9_1⟩ := id V_0
  have hin9_1 : ¬ ((0 : Int32) < 0 ∨ cl9_1.slots.size ≤ ((0 : Int32)).toNatClampNeg) := inb_of S9_1 ⟨by decide, by decide⟩
  refine own_fw (X0.caload hx (j := (0 : Int32)) (v := (.int x)) (by rw [e0]; exact Ar9_1.1) (State.isArrayOf_alike hZ.alike Ar9_1.2.1) Ar9_1.2.2 hin9_1 (Has.at Hs9_1 hin9_1 rfl) (g := (mkF m 12 #[.val (.ref r0), .val (.int (0 : Int32)), .val (.ref r2), .val (.int (0 : Int32)), .val (.int (1 : Int32)), .val (.int (0 : Int32)), .unset] [(.int (0 : Int32)), (.ref r0)])) rfl rfl (hb hby d9_12)) ?_
  refine own_fw (A := s₁.setTop (mkF m 31 #[.val (.ref r0), .val (.int (0 : Int32)), .val (.ref r2), .val (.int (0 : Int32)), .val (.int (1 : Int32)), .val (.int (0 : Int32)), .val (.int x)] [(.int (x.toInt8.toInt32)), (.int (0 : Int32)), (.ref r2)])) (fun t k => ?_) ?_
  · show Steps p.tables e below (s₁.setTop (mkF m 13 #[.val (.ref r0), .val (.int (0 : Int32)), .val (.ref r2), .val (.int (0 : Int32)), .val (.int (1 : Int32)), .val (.int (0 : Int32)), .unset] [(.int x)])) t
    refine XS.istore X0.here hx rfl (hb hby d9_13) rfl (l' := #[.val (.ref r0), .val (.int (0 : Int32)), .val (.ref r2), .val (.int (0 : Int32)), .val (.int (1 : Int32)), .val (.int (0 : Int32)), .val (.int x)]) rfl ?_
    show Steps p.tables e below (s₁.setTop (mkF m 15 #[.val (.ref r0), .val (.int (0 : Int32)), .val (.ref r2), .val (.int (0 : Int32)), .val (.int (1 : Int32)), .val (.int (0 : Int32)), .val (.int x)] [])) t
    refine XS.iload X0.here hx rfl (hb hby d9_15) rfl ?_
    show Steps p.tables e below (s₁.setTop (mkF m 17 #[.val (.ref r0), .val (.int (0 : Int32)), .val (.ref r2), .val (.int (0 : Int32)), .val (.int (1 : Int32)), .val (.int (0 : Int32)), .val (.int x)] [(.int x)])) t
    refine XS.sipush X0.here hx rfl (hb hby d9_17) ?_
    show Steps p.tables e below (s₁.setTop (mkF m 20 #[.val (.ref r0), .val (.int (0 : Int32)), .val (.ref r2), .val (.int (0 : Int32)), .val (.int (1 : Int32)), .val (.int (0 : Int32)), .val (.int x)] [(.int (255 : Int32)), (.int x)])) t
    refine XS.icmpYes X0.here hx rfl (pc0 := 20) (pc' := 26) rfl (hb hby d9_20) rfl (flt le_x).2.2.2 (by decide) (by decide) ?_
    show Steps p.tables e below (s₁.setTop (mkF m 26 #[.val (.ref r0), .val (.int (0 : Int32)), .val (.ref r2), .val (.int (0 : Int32)), .val (.int (1 : Int32)), .val (.int (0 : Int32)), .val (.int x)] [])) t
    refine XS.aloadN X0.here hx rfl (hb hby d9_26) rfl rfl ?_
    show Steps p.tables e below (s₁.setTop (mkF m 27 #[.val (.ref r0), .val (.int (0 : Int32)), .val (.ref r2), .val (.int (0 : Int32)), .val (.int (1 : Int32)), .val (.int (0 : Int32)), .val (.int x)] [(.ref r2)])) t
    refine XS.iloadN X0.here hx rfl (hb hby d9_27) rfl ?_
    show Steps p.tables e below (s₁.setTop (mkF m 28 #[.val (.ref r0), .val (.int (0 : Int32)), .val (.ref r2), .val (.int (0 : Int32)), .val (.int (1 : Int32)), .val (.int (0 : Int32)), .val (.int x)] [(.int (0 : Int32)), (.ref r2)])) t
    refine XS.iload X0.here hx rfl (hb hby d9_28) rfl ?_
    show Steps p.tables e below (s₁.setTop (mkF m 30 #[.val (.ref r0), .val (.int (0 : Int32)), .val (.ref r2), .val (.int (0 : Int32)), .val (.int (1 : Int32)), .val (.int (0 : Int32)), .val (.int x)] [(.int x), (.int (0 : Int32)), (.ref r2)])) t
    refine XS.i2b X0.here hx rfl (hb hby d9_30) rfl ?_
    exact k
  obtain ⟨cl9_2, Ar9_2, q9_2, S9_2, Ng9_2, Hs9_2, G9_2⟩ := id V_2
  have hin9_2 : ¬ ((0 : Int32) < 0 ∨ cl9_2.slots.size ≤ ((0 : Int32)).toNatClampNeg) := inb_of S9_2 ⟨by decide, by decide⟩
  obtain ⟨T9_2, h9_2, X9_2, e9_2, W9_2, st9_2⟩ := stB X0 hx hZ e0 Ar9_2 (j := (0 : Int32)) hin9_2 (g := (mkF m 31 #[.val (.ref r0), .val (.int (0 : Int32)), .val (.ref r2), .val (.int (0 : Int32)), .val (.int (1 : Int32)), .val (.int (0 : Int32)), .val (.int x)] [(.int (x.toInt8.toInt32)), (.int (0 : Int32)), (.ref r2)])) rfl rfl (hb hby d9_31)
  have V9_2 : Arv Z h9_2 r2 k .byte (1 : Int32) [(.int (nar .byte (x.toInt8.toInt32)))] (.int 0) := Arv.set Ar9_2 q9_2 S9_2 Ng9_2 Hs9_2 G9_2 (fits_nar_byte _) W9_2 0 rfl (Nat.le_of_ble_eq_true rfl)
  have N9_2 := Fr.snoc X9_2 N0 g_r2
  refine own_fw st9_2 ?_
  refine own_fw (A := T9_2.setTop (mkF m 46 #[.val (.ref r0), .val (.int (1 : Int32)), .val (.ref r2), .val (.int (1 : Int32)), .val (.int (1 : Int32)), .val (.int (1 : Int32)), .val (.int x)] [(.int (1 : Int32))])) (fun t k => ?_) ?_
  · show Steps p.tables e below (T9_2.setTop (mkF m 32 #[.val (.ref r0), .val (.int (0 : Int32)), .val (.ref r2), .val (.int (0 : Int32)), .val (.int (1 : Int32)), .val (.int (0 : Int32)), .val (.int x)] [])) t
    refine XS.iinc X9_2.here hx rfl (hb hby d9_32) rfl (l' := #[.val (.ref r0), .val (.int (1 : Int32)), .val (.ref r2), .val (.int (0 : Int32)), .val (.int (1 : Int32)), .val (.int (0 : Int32)), .val (.int x)]) rfl ?_
    show Steps p.tables e below (T9_2.setTop (mkF m 35 #[.val (.ref r0), .val (.int (1 : Int32)), .val (.ref r2), .val (.int (0 : Int32)), .val (.int (1 : Int32)), .val (.int (0 : Int32)), .val (.int x)] [])) t
    refine XS.iinc X9_2.here hx rfl (hb hby d9_35) rfl (l' := #[.val (.ref r0), .val (.int (1 : Int32)), .val (.ref r2), .val (.int (1 : Int32)), .val (.int (1 : Int32)), .val (.int (0 : Int32)), .val (.int x)]) rfl ?_
    show Steps p.tables e below (T9_2.setTop (mkF m 38 #[.val (.ref r0), .val (.int (1 : Int32)), .val (.ref r2), .val (.int (1 : Int32)), .val (.int (1 : Int32)), .val (.int (0 : Int32)), .val (.int x)] [])) t
    refine XS.iinc X9_2.here hx rfl (hb hby d9_38) rfl (l' := #[.val (.ref r0), .val (.int (1 : Int32)), .val (.ref r2), .val (.int (1 : Int32)), .val (.int (1 : Int32)), .val (.int (1 : Int32)), .val (.int x)]) rfl ?_
    show Steps p.tables e below (T9_2.setTop (mkF m 41 #[.val (.ref r0), .val (.int (1 : Int32)), .val (.ref r2), .val (.int (1 : Int32)), .val (.int (1 : Int32)), .val (.int (1 : Int32)), .val (.int x)] [])) t
    refine XS.goto X9_2.here hx rfl (pc0 := 41) (pc' := 3) rfl (hb hby d9_41) (by decide) (by decide) ?_
    show Steps p.tables e below (T9_2.setTop (mkF m 3 #[.val (.ref r0), .val (.int (1 : Int32)), .val (.ref r2), .val (.int (1 : Int32)), .val (.int (1 : Int32)), .val (.int (1 : Int32)), .val (.int x)] [])) t
    refine XS.iload X9_2.here hx rfl (hb hby d9_3) rfl ?_
    show Steps p.tables e below (T9_2.setTop (mkF m 5 #[.val (.ref r0), .val (.int (1 : Int32)), .val (.ref r2), .val (.int (1 : Int32)), .val (.int (1 : Int32)), .val (.int (1 : Int32)), .val (.int x)] [(.int (1 : Int32))])) t
    refine XS.iload X9_2.here hx rfl (hb hby d9_5) rfl ?_
    show Steps p.tables e below (T9_2.setTop (mkF m 7 #[.val (.ref r0), .val (.int (1 : Int32)), .val (.ref r2), .val (.int (1 : Int32)), .val (.int (1 : Int32)), .val (.int (1 : Int32)), .val (.int x)] [(.int (1 : Int32)), (.int (1 : Int32))])) t
    refine XS.icmpYes X9_2.here hx rfl (pc0 := 7) (pc' := 44) rfl (hb hby d9_7) rfl (flt (Int32.lt_irrefl : ¬ ((1 : Int32) < (1 : Int32)))).2.1 (by decide) (by decide) ?_
    show Steps p.tables e below (T9_2.setTop (mkF m 44 #[.val (.ref r0), .val (.int (1 : Int32)), .val (.ref r2), .val (.int (1 : Int32)), .val (.int (1 : Int32)), .val (.int (1 : Int32)), .val (.int x)] [])) t
    refine XS.iload X9_2.here hx rfl (hb hby d9_44) rfl ?_
    exact k
  obtain ⟨fs, hr, hrun, hended, hW, hsame⟩ := X9_2.leave (v := some (.int (1 : Int32))) (own_ret Bd.returns) (BodyLoose.notSynchronized Bd)
  refine ⟨_, _, retI X9_2 hx Bd.returns (hb hby d9_46) hr, hrun, hended, _, _, rfl, ?_, ⟨_, rfl⟩, hW, hsame.mono (by decide) (by decide)⟩
  have eh : (T9_2.setFrames fs).heap = h9_2 := e9_2
  rw [eh]
  exact ⟨rfl, N9_2, ((Keep.refl h0 [r2]).wr W9_2 (Or.inl (List.mem_of_getElem? (i := 0) rfl))), V9_2⟩
set_option maxRecDepth 65536 in
set_option maxHeartbeats 40000000 in
theorem rmCP_1 (l : Launch) (Z : State) (a0 : Array Value) (hw : ∀ d ∈ tables_1, d.before a0 Z = true) (ws : List Jvm.Cond) (r0 : Addr) (kc : ClassId) (x : Int32) (h0 : Heap) (n0 : Nat) (Z0 : n0 ≤ h0.size) (V_0 : Arv Z h0 r0 kc .char (1 : Int32) [(.int x)] (.int 0)) (le_x : ¬ (255 : Int32) < x) :
    MetFree l (⟨"java/lang/StringUTF16", "compress", "([CII)[B"⟩ : MethodName) (head1 (Jvm.Cond.code (⟨"java/lang/StringUTF16", "compress", "([CII)[B"⟩ : MethodName) jdk_52_method_16_code 6 (some (.array .byte)) :: ws) ({ frames := 1, cells := 1, slots := 1, locals := 18 } : Room)) (fun a U => a = #[(.ref r0), (.int (0 : Int32)), (.int (1 : Int32))] ∧ Z.Warmed39 U.vm ∧ U.heap = h0) (fun _ _ _ _ _ => True) (fun _ U o U' => ∃ v L, o = .returned v ∧ Q8 Z (1 : Int32) [(.int (nar .byte (x.toInt8.toInt32)))] h0 n0 v U'.heap L ∧ FrameEnd U o U' L ({ frames := 1, cells := 1, slots := 1, locals := 18 } : Room).cells ({ frames := 1, cells := 1, slots := 1, locals := 18 } : Room).slots) := by
  refine MetFree.of_bodySF (plainFor_of_name pn8) hisR ?_
  intro p e s m args below meth c s₁ Bd hml0 hP hK
  obtain ⟨rfl, hZ, hh⟩ := hP
  have hx := Bd.exec
  have hby := Bd.bytes
  have hml : c.maxLocals = 6 := hml0
  have hown : s.vm.findClass "java/lang/StringUTF16" = some m.cls := findClass_of_methodNamed Bd.named
  have hnm := (name_of_methodNamed Bd.named Bd.method).1
  have X0 : Stand p l e ({ frames := 1, cells := 1, slots := 1, locals := 18 } : Room) s m #[(.ref r0), (.int (0 : Int32)), (.int (1 : Int32))] below meth c s₁ [] 0 0 := Stand.of_body Bd
  have e0 : s₁.heap = h0 := by rw [← hh, Bd.state]; rfl
  have N0 := Fr.nil n0
  refine own_fw (A := s₁.setTop (mkF m 0 #[.val (.ref r0), .val (.int (0 : Int32)), .val (.int (1 : Int32)), .unset, .unset, .unset] [])) (fun t k => castTop (ef8 m r0 (0 : Int32) (1 : Int32)) k) ?_
  refine own_fw (A := s₁.setTop (mkF m 1 #[.val (.ref r0), .val (.int (0 : Int32)), .val (.int (1 : Int32)), .unset, .unset, .unset] [(.int (1 : Int32))])) (fun t k => ?_) ?_
  · show Steps p.tables e below (s₁.setTop (mkF m 0 #[.val (.ref r0), .val (.int (0 : Int32)), .val (.int (1 : Int32)), .unset, .unset, .unset] [])) t
    refine XS.iloadN X0.here hx rfl (hb hby d8_0) rfl ?_
    exact k
  obtain ⟨T8_1, h8_1, k8_1, X8_1, e8_1, E8_1, A8_1, Ex8_1, st8_1⟩ := newPE X0 hx hZ (hw _ (List.mem_of_getElem? (i := 22) rfl)) e0 (g := (mkF m 1 #[.val (.ref r0), .val (.int (0 : Int32)), .val (.int (1 : Int32)), .unset, .unset, .unset] [(.int (1 : Int32))])) rfl (hb hby d8_1) rfl (by decide) (cap := 1) (by decide) (by decide) (by decide) (by decide) (ad := "[B") (by decide)
  obtain ⟨b8_1, g8_1⟩ : ∃ z, z = h0.size := ⟨_, rfl⟩
  rw [← g8_1] at A8_1 Ex8_1 st8_1
  have hk_b8_1 := own_klb A8_1 Ex8_1
  have ne_r0_b8_1 : r0 ≠ b8_1 := Nat.ne_of_lt (Nat.lt_of_lt_of_le V_0.lt (Nat.le_of_eq g8_1.symm))
  have g_b8_1 : n0 ≤ b8_1 := Nat.le_trans Z0 (Nat.le_of_eq g8_1.symm)
  have sz_b8_1 : h0.size ≤ b8_1 := Nat.le_trans (Keep.refl h0 []).1 (Nat.le_of_eq g8_1.symm)
  have V_b8_1 : Arv Z h8_1 b8_1 k8_1 .byte (1 : Int32) [(.int (0 : Int32))] (.int (0 : Int32)) := (Arv.new A8_1 (by decide)).pad (pad_rep [] (.int (0 : Int32)) 1)
  refine own_fw st8_1 ?_
  refine own_fw (A := T8_1.setTop (mkF m 9 #[.val (.ref r0), .val (.int (0 : Int32)), .val (.int (1 : Int32)), .val (.ref b8_1), .unset, .unset] [(.int (1 : Int32)), (.int (0 : Int32)), (.ref b8_1), (.int (0 : Int32)), (.ref r0)])) (fun t k => ?_) ?_
  · show Steps p.tables e below (T8_1.setTop (mkF m 3 #[.val (.ref r0), .val (.int (0 : Int32)), .val (.int (1 : Int32)), .unset, .unset, .unset] [(.ref b8_1)])) t
    refine XS.astoreN X8_1.here hx rfl (hb hby d8_3) rfl rfl (l' := #[.val (.ref r0), .val (.int (0 : Int32)), .val (.int (1 : Int32)), .val (.ref b8_1), .unset, .unset]) rfl ?_
    show Steps p.tables e below (T8_1.setTop (mkF m 4 #[.val (.ref r0), .val (.int (0 : Int32)), .val (.int (1 : Int32)), .val (.ref b8_1), .unset, .unset] [])) t
    refine XS.aloadN X8_1.here hx rfl (hb hby d8_4) rfl rfl ?_
    show Steps p.tables e below (T8_1.setTop (mkF m 5 #[.val (.ref r0), .val (.int (0 : Int32)), .val (.int (1 : Int32)), .val (.ref b8_1), .unset, .unset] [(.ref r0)])) t
    refine XS.iloadN X8_1.here hx rfl (hb hby d8_5) rfl ?_
    show Steps p.tables e below (T8_1.setTop (mkF m 6 #[.val (.ref r0), .val (.int (0 : Int32)), .val (.int (1 : Int32)), .val (.ref b8_1), .unset, .unset] [(.int (0 : Int32)), (.ref r0)])) t
    refine XS.aloadN X8_1.here hx rfl (hb hby d8_6) rfl rfl ?_
    show Steps p.tables e below (T8_1.setTop (mkF m 7 #[.val (.ref r0), .val (.int (0 : Int32)), .val (.int (1 : Int32)), .val (.ref b8_1), .unset, .unset] [(.ref b8_1), (.int (0 : Int32)), (.ref r0)])) t
    refine XS.iconst X8_1.here hx rfl (hb hby d8_7) ?_
    show Steps p.tables e below (T8_1.setTop (mkF m 8 #[.val (.ref r0), .val (.int (0 : Int32)), .val (.int (1 : Int32)), .val (.ref b8_1), .unset, .unset] [(.int (0 : Int32)), (.ref b8_1), (.int (0 : Int32)), (.ref r0)])) t
    refine XS.iloadN X8_1.here hx rfl (hb hby d8_8) rfl ?_
    exact k
  obtain ⟨_, _, ⟨T8_2, L8_2, k8_2, n8_2⟩, -, X8_2, ⟨Lc8_2, hQ8_2, l8_2, y8_2, z8_2⟩, st8_2⟩ := Jvm.LawKit.callS X8_1 hx (y := (⟨"java/lang/StringUTF16", "compress", "([CI[BII)I"⟩ : MethodName)) hown (mvT hZ (hw _ (List.mem_of_getElem? (i := 40) rfl))) (mvT hZ (hw _ (List.mem_of_getElem? (i := 41) rfl))) (mvT hZ (hw _ (List.mem_of_getElem? (i := 38) rfl))) (mvT hZ (hw _ (List.mem_of_getElem? (i := 42) rfl))) (by decide) (backOf (W := 0) (rmCQ_1 l Z a0 hw [] r0 b8_1 kc k8_1 x h8_1 n0 (Nat.le_trans Z0 E8_1.1) (V_0.ext E8_1) V_b8_1 ne_r0_b8_1 g_b8_1 le_x) hZ (hw _ (List.mem_of_getElem? (i := 42) rfl)) (hw _ (List.mem_of_getElem? (i := 38) rfl)) (by decide) (by decide)) (g := (mkF m 9 #[.val (.ref r0), .val (.int (0 : Int32)), .val (.int (1 : Int32)), .val (.ref b8_1), .unset, .unset] [(.int (1 : Int32)), (.int (0 : Int32)), (.ref b8_1), (.int (0 : Int32)), (.ref r0)])) rfl (by rw [hml]; rfl) (argsL := [(.ref r0), (.int (0 : Int32)), (.ref b8_1), (.int (0 : Int32)), (.int (1 : Int32))]) (rest := []) (lenOf pd8_0 rfl) rfl (by show 2 * 0 + _ ≤ _; exact Nat.le_of_eq rfl) (hb hby d8_9) (fun _ _ => ⟨rfl, e8_1, (by decide : 1 + 0 ≤ _), (by decide : 1 + 0 ≤ _)⟩)
  dsimp only [Pt.U, Pt.locs, Pt.cells, Pt.slots] at X8_2 l8_2 y8_2 z8_2 st8_2 hQ8_2
  subst l8_2 y8_2 z8_2
  obtain ⟨rfl, N8_2q, K8_2, Vb8_2⟩ := hQ8_2
  have N8_2 := Fr.app N0 N8_2q
  refine own_fw st8_2 ?_
  refine own_fw (A := T8_2.setTop (mkF m 58 #[.val (.ref r0), .val (.int (0 : Int32)), .val (.int (1 : Int32)), .val (.ref b8_1), .val (.int (1 : Int32)), .unset] [(.ref b8_1)])) (fun t k => ?_) ?_
  · show Steps p.tables e below (T8_2.setTop (mkF m 12 #[.val (.ref r0), .val (.int (0 : Int32)), .val (.int (1 : Int32)), .val (.ref b8_1), .unset, .unset] [(.int (1 : Int32))])) t
    refine XS.istore X8_2.here hx rfl (hb hby d8_12) rfl (l' := #[.val (.ref r0), .val (.int (0 : Int32)), .val (.int (1 : Int32)), .val (.ref b8_1), .val (.int (1 : Int32)), .unset]) rfl ?_
    show Steps p.tables e below (T8_2.setTop (mkF m 14 #[.val (.ref r0), .val (.int (0 : Int32)), .val (.int (1 : Int32)), .val (.ref b8_1), .val (.int (1 : Int32)), .unset] [])) t
    refine XS.iload X8_2.here hx rfl (hb hby d8_14) rfl ?_
    show Steps p.tables e below (T8_2.setTop (mkF m 16 #[.val (.ref r0), .val (.int (0 : Int32)), .val (.int (1 : Int32)), .val (.ref b8_1), .val (.int (1 : Int32)), .unset] [(.int (1 : Int32))])) t
    refine XS.iloadN X8_2.here hx rfl (hb hby d8_16) rfl ?_
    show Steps p.tables e below (T8_2.setTop (mkF m 17 #[.val (.ref r0), .val (.int (0 : Int32)), .val (.int (1 : Int32)), .val (.ref b8_1), .val (.int (1 : Int32)), .unset] [(.int (1 : Int32)), (.int (1 : Int32))])) t
    refine XS.icmpYes X8_2.here hx rfl (pc0 := 17) (pc' := 57) rfl (hb hby d8_17) rfl (teq (rfl : (1 : Int32) = (1 : Int32))).1 (by decide) (by decide) ?_
    show Steps p.tables e below (T8_2.setTop (mkF m 57 #[.val (.ref r0), .val (.int (0 : Int32)), .val (.int (1 : Int32)), .val (.ref b8_1), .val (.int (1 : Int32)), .unset] [])) t
    refine XS.aloadN X8_2.here hx rfl (hb hby d8_57) rfl rfl ?_
    exact k
  obtain ⟨fs, hr, hrun, hended, hW, hsame⟩ := X8_2.leave (v := some (.ref b8_1)) (own_ret Bd.returns) (BodyLoose.notSynchronized Bd)
  refine ⟨_, _, retA (ty := (.array .byte)) X8_2 hx rfl rfl Bd.returns (hb hby d8_58) hr, hrun, hended, _, _, rfl, ?_, ⟨_, rfl⟩, hW, hsame.mono (by decide) (by decide)⟩
  have eh : (T8_2.setFrames fs).heap = T8_2.heap := rfl
  rw [eh]
  exact ⟨b8_1, k8_1, rfl, N8_2, (((Keep.refl h0 []).ext E8_1).trans K8_2 (allS (Or.inr sz_b8_1) all0)), Vb8_2, hk_b8_1, sz_b8_1⟩
set_option maxRecDepth 65536 in
set_option maxHeartbeats 40000000 in
theorem rmCF_2 (l : Launch) (Z : State) (a0 : Array Value) (hw : ∀ d ∈ tables_1, d.before a0 Z = true) (ws : List Jvm.Cond) (r0 : Addr) (k : ClassId) (x : Int32) (y : Int32) (h0 : Heap) (n0 : Nat) (Z0 : n0 ≤ h0.size) (V_0 : Arv Z h0 r0 k .byte (2 : Int32) [(.int (nar .byte (x.toInt8.toInt32))), (.int (nar .byte (y.toInt8.toInt32)))] (.int 0)) :
    MetFree l (⟨"java/lang/StringUTF16", "coderFromArrayLen", "([BI)B"⟩ : MethodName) (head1 (Jvm.Cond.code (⟨"java/lang/StringUTF16", "coderFromArrayLen", "([BI)B"⟩ : MethodName) jdk_52_method_15_code 2 (some .byte) :: ws) ({ frames := 0, cells := 0, slots := 0, locals := 0 } : Room)) (fun a U => a = #[(.ref r0), (.int (2 : Int32))] ∧ Z.Warmed39 U.vm ∧ U.heap = h0) (fun _ _ _ _ _ => True) (fun _ U o U' => ∃ v L, o = .returned v ∧ Q10 Z (0 : Int32) h0 n0 v U'.heap L ∧ FrameEnd U o U' L ({ frames := 0, cells := 0, slots := 0, locals := 0 } : Room).cells ({ frames := 0, cells := 0, slots := 0, locals := 0 } : Room).slots) := by
  refine MetFree.of_bodySF (plainFor_of_name pn10) hisR ?_
  intro p e s m args below meth c s₁ Bd hml0 hP hK
  obtain ⟨rfl, hZ, hh⟩ := hP
  have hx := Bd.exec
  have hby := Bd.bytes
  have hml : c.maxLocals = 2 := hml0
  have hown : s.vm.findClass "java/lang/StringUTF16" = some m.cls := findClass_of_methodNamed Bd.named
  have hnm := (name_of_methodNamed Bd.named Bd.method).1
  have X0 : Stand p l e ({ frames := 0, cells := 0, slots := 0, locals := 0 } : Room) s m #[(.ref r0), (.int (2 : Int32))] below meth c s₁ [] 0 0 := Stand.of_body Bd
  have e0 : s₁.heap = h0 := by rw [← hh, Bd.state]; rfl
  have N0 := Fr.nil n0
  refine own_fw (A := s₁.setTop (mkF m 0 #[.val (.ref r0), .val (.int (2 : Int32))] [])) (fun t k => castTop (ef10 m r0 (2 : Int32)) k) ?_
  refine own_fw (A := s₁.setTop (mkF m 2 #[.val (.ref r0), .val (.int (2 : Int32))] [(.ref r0), (.int (2 : Int32))])) (fun t k => ?_) ?_
  · show Steps p.tables e below (s₁.setTop (mkF m 0 #[.val (.ref r0), .val (.int (2 : Int32))] [])) t
    refine XS.iloadN X0.here hx rfl (hb hby d10_0) rfl ?_
    show Steps p.tables e below (s₁.setTop (mkF m 1 #[.val (.ref r0), .val (.int (2 : Int32))] [(.int (2 : Int32))])) t
    refine XS.aloadN X0.here hx rfl (hb hby d10_1) rfl rfl ?_
    exact k
  obtain ⟨cl10_1, Ar10_1, q10_1, S10_1, Ng10_1, Hs10_1, G10_1⟩ := id V_0
  have st10_1 := X0.arraylength hx (by rw [e0]; exact Ar10_1.1) (State.isArrayOf_alike hZ.alike Ar10_1.2.1) (g := (mkF m 2 #[.val (.ref r0), .val (.int (2 : Int32))] [(.ref r0), (.int (2 : Int32))])) rfl rfl (hb hby d10_2)
  rw [len_of S10_1 Ng10_1] at st10_1
  refine own_fw st10_1 ?_
  refine own_fw (A := s₁.setTop (mkF m 8 #[.val (.ref r0), .val (.int (2 : Int32))] [(.int ((0 : Int32).toInt8.toInt32))])) (fun t k => ?_) ?_
  · show Steps p.tables e below (s₁.setTop (mkF m 3 #[.val (.ref r0), .val (.int (2 : Int32))] [(.int (2 : Int32)), (.int (2 : Int32))])) t
    refine XS.isub X0.here hx rfl (hb hby d10_3) rfl ?_
    show Steps p.tables e below (s₁.setTop (mkF m 4 #[.val (.ref r0), .val (.int (2 : Int32))] [(.int (0 : Int32))])) t
    refine XS.bipush X0.here hx rfl (hb hby d10_4) ?_
    show Steps p.tables e below (s₁.setTop (mkF m 6 #[.val (.ref r0), .val (.int (2 : Int32))] [(.int (31 : Int32)), (.int (0 : Int32))])) t
    refine XS.iushr X0.here hx rfl (hb hby d10_6) rfl ?_
    show Steps p.tables e below (s₁.setTop (mkF m 7 #[.val (.ref r0), .val (.int (2 : Int32))] [(.int (0 : Int32))])) t
    refine XS.i2b X0.here hx rfl (hb hby d10_7) rfl ?_
    exact k
  obtain ⟨fs, hr, hrun, hended, hW, hsame⟩ := X0.leave (v := some (.int (nar .byte ((0 : Int32).toInt8.toInt32)))) (own_ret Bd.returns) (BodyLoose.notSynchronized Bd)
  refine ⟨_, _, retN X0 hx (t := .byte) Bd.returns (by simp) (hb hby d10_8) hr, hrun, hended, _, _, rfl, ?_, ⟨_, rfl⟩, hW, hsame.mono (by decide) (by decide)⟩
  have eh : (s₁.setFrames fs).heap = h0 := e0
  rw [eh]
  exact ⟨congrArg (fun z => some (Value.int z)) (by decide), N0, rfl⟩
set_option maxRecDepth 65536 in
set_option maxHeartbeats 40000000 in
theorem rmCQ_2 (l : Launch) (Z : State) (a0 : Array Value) (hw : ∀ d ∈ tables_1, d.before a0 Z = true) (ws : List Jvm.Cond) (r0 : Addr) (r2 : Addr) (kc : ClassId) (k : ClassId) (x : Int32) (y : Int32) (h0 : Heap) (n0 : Nat) (Z0 : n0 ≤ h0.size) (V_0 : Arv Z h0 r0 kc .char (2 : Int32) [(.int x), (.int y)] (.int 0)) (V_2 : Arv Z h0 r2 k .byte (2 : Int32) [(.int 0), (.int 0)] (.int 0)) (hne : r0 ≠ r2) (g_r2 : n0 ≤ r2) (le_x : ¬ (255 : Int32) < x) (le_y : ¬ (255 : Int32) < y) :
    MetFree l (⟨"java/lang/StringUTF16", "compress", "([CI[BII)I"⟩ : MethodName) (head1 (Jvm.Cond.code (⟨"java/lang/StringUTF16", "compress", "([CI[BII)I"⟩ : MethodName) jdk_52_method_21_code 7 (some .int) :: ws) ({ frames := 0, cells := 0, slots := 0, locals := 0 } : Room)) (fun a U => a = #[(.ref r0), (.int (0 : Int32)), (.ref r2), (.int (0 : Int32)), (.int (2 : Int32))] ∧ Z.Warmed39 U.vm ∧ U.heap = h0) (fun _ _ _ _ _ => True) (fun _ U o U' => ∃ v L, o = .returned v ∧ Q9 Z r2 k (2 : Int32) [(.int (nar .byte (x.toInt8.toInt32))), (.int (nar .byte (y.toInt8.toInt32)))] h0 n0 v U'.heap L ∧ FrameEnd U o U' L ({ frames := 0, cells := 0, slots := 0, locals := 0 } : Room).cells ({ frames := 0, cells := 0, slots := 0, locals := 0 } : Room).slots) := by
  refine MetFree.of_bodySF (plainFor_of_name pn9) hisR ?_
  intro p e s m args below meth c s₁ Bd hml0 hP hK
  obtain ⟨rfl, hZ, hh⟩ := hP
  have hx := Bd.exec
  have hby := Bd.bytes
  have hml : c.maxLocals = 7 := hml0
  have hown : s.vm.findClass "java/lang/StringUTF16" = some m.cls := findClass_of_methodNamed Bd.named
  have hnm := (name_of_methodNamed Bd.named Bd.method).1
  have X0 : Stand p l e ({ frames := 0, cells := 0, slots := 0, locals := 0 } : Room) s m #[(.ref r0), (.int (0 : Int32)), (.ref r2), (.int (0 : Int32)), (.int (2 : Int32))] below meth c s₁ [] 0 0 := Stand.of_body Bd
  have e0 : s₁.heap = h0 := by rw [← hh, Bd.state]; rfl
  have N0 := Fr.nil n0
  refine own_fw (A := s₁.setTop (mkF m 0 #[.val (.ref r0), .val (.int (0 : Int32)), .val (.ref r2), .val (.int (0 : Int32)), .val (.int (2 : Int32)), .unset, .unset] [])) (fun t k => castTop (ef9 m r0 (0 : Int32) r2 (0 : Int32) (2 : Int32)) k) ?_
  refine own_fw (A := s₁.setTop (mkF m 12 #[.val (.ref r0), .val (.int (0 : Int32)), .val (.ref r2), .val (.int (0 : Int32)), .val (.int (2 : Int32)), .val (.int (0 : Int32)), .unset] [(.int (0 : Int32)), (.ref r0)])) (fun t k => ?_) ?_
  · show Steps p.tables e below (s₁.setTop (mkF m 0 #[.val (.ref r0), .val (.int (0 : Int32)), .val (.ref r2), .val (.int (0 : Int32)), .val (.int (2 : Int32)), .unset, .unset] [])) t
    refine XS.iconst X0.here hx rfl (hb hby d9_0) ?_
    show Steps p.tables e below (s₁.setTop (mkF m 1 #[.val (.ref r0), .val (.int (0 : Int32)), .val (.ref r2), .val (.int (0 : Int32)), .val (.int (2 : Int32)), .unset, .unset] [(.int (0 : Int32))])) t
    refine XS.istore X0.here hx rfl (hb hby d9_1) rfl (l' := #[.val (.ref r0), .val (.int (0 : Int32)), .val (.ref r2), .val (.int (0 : Int32)), .val (.int (2 : Int32)), .val (.int (0 : Int32)), .unset]) rfl ?_
    show Steps p.tables e below (s₁.setTop (mkF m 3 #[.val (.ref r0), .val (.int (0 : Int32)), .val (.ref r2), .val (.int (0 : Int32)), .val (.int (2 : Int32)), .val (.int (0 : Int32)), .unset] [])) t
    refine XS.iload X0.here hx rfl (hb hby d9_3) rfl ?_
    show Steps p.tables e below (s₁.setTop (mkF m 5 #[.val (.ref r0), .val (.int (0 : Int32)), .val (.ref r2), .val (.int (0 : Int32)), .val (.int (2 : Int32)), .val (.int (0 : Int32)), .unset] [(.int (0 : Int32))])) t
    refine XS.iload X0.here hx rfl (hb hby d9_5) rfl ?_
    show Steps p.tables e below (s₁.setTop (mkF m 7 #[.val (.ref r0), .val (.int (0 : Int32)), .val (.ref r2), .val (.int (0 : Int32)), .val (.int (2 : Int32)), .val (.int (0 : Int32)), .unset] [(.int (2 : Int32)), (.int (0 : Int32))])) t
    refine XS.icmpNo X0.here hx rfl (hb hby d9_7) rfl (tlt (by decide : ((0 : Int32) < (2 : Int32)))).2.1 ?_
    show Steps p.tables e below (s₁.setTop (mkF m 10 #[.val (.ref r0), .val (.int (0 : Int32)), .val (.ref r2), .val (.int (0 : Int32)), .val (.int (2 : Int32)), .val (.int (0 : Int32)), .unset] [])) t
    refine XS.aloadN X0.here hx rfl (hb hby d9_10) rfl rfl ?_
    show Steps p.tables e below (s₁.setTop (mkF m 11 #[.val (.ref r0), .val (.int (0 : Int32)), .val (.ref r2), .val (.int (0 : Int32)), .val (.int (2 : Int32)), .val (.int (0 : Int32)), .unset] [(.ref r0)])) t
    refine XS.iloadN X0.here hx rfl (hb hby d9_11) rfl ?_
    exact k
  obtain ⟨cl9_1, Ar9_1, q9_1, S9_1, Ng9_1, Hs9_1, G9_1⟩ := id V_0
  have hin9_1 : ¬ ((0 : Int32) < 0 ∨ cl9_1.slots.size ≤ ((0 : Int32)).toNatClampNeg) := inb_of S9_1 ⟨by decide, by decide⟩
  refine own_fw (X0.caload hx (j := (0 : Int32)) (v := (.int x)) (by rw [e0]; exact Ar9_1.1) (State.isArrayOf_alike hZ.alike Ar9_1.2.1) Ar9_1.2.2 hin9_1 (Has.at Hs9_1 hin9_1 rfl) (g := (mkF m 12 #[.val (.ref r0), .val (.int (0 : Int32)), .val (.ref r2), .val (.int (0 : Int32)), .val (.int (2 : Int32)), .val (.int (0 : Int32)), .unset] [(.int (0 : Int32)), (.ref r0)])) rfl rfl (hb hby d9_12)) ?_
  refine own_fw (A := s₁.setTop (mkF m 31 #[.val (.ref r0), .val (.int (0 : Int32)), .val (.ref r2), .val (.int (0 : Int32)), .val (.int (2 : Int32)), .val (.int (0 : Int32)), .val (.int x)] [(.int (x.toInt8.toInt32)), (.int (0 : Int32)), (.ref r2)])) (fun t k => ?_) ?_
  · show Steps p.tables e below (s₁.setTop (mkF m 13 #[.val (.ref r0), .val (.int (0 : Int32)), .val (.ref r2), .val (.int (0 : Int32)), .val (.int (2 : Int32)), .val (.int (0 : Int32)), .unset] [(.int x)])) t
    refine XS.istore X0.here hx rfl (hb hby d9_13) rfl (l' := #[.val (.ref r0), .val (.int (0 : Int32)), .val (.ref r2), .val (.int (0 : Int32)), .val (.int (2 : Int32)), .val (.int (0 : Int32)), .val (.int x)]) rfl ?_
    show Steps p.tables e below (s₁.setTop (mkF m 15 #[.val (.ref r0), .val (.int (0 : Int32)), .val (.ref r2), .val (.int (0 : Int32)), .val (.int (2 : Int32)), .val (.int (0 : Int32)), .val (.int x)] [])) t
    refine XS.iload X0.here hx rfl (hb hby d9_15) rfl ?_
    show Steps p.tables e below (s₁.setTop (mkF m 17 #[.val (.ref r0), .val (.int (0 : Int32)), .val (.ref r2), .val (.int (0 : Int32)), .val (.int (2 : Int32)), .val (.int (0 : Int32)), .val (.int x)] [(.int x)])) t
    refine XS.sipush X0.here hx rfl (hb hby d9_17) ?_
    show Steps p.tables e below (s₁.setTop (mkF m 20 #[.val (.ref r0), .val (.int (0 : Int32)), .val (.ref r2), .val (.int (0 : Int32)), .val (.int (2 : Int32)), .val (.int (0 : Int32)), .val (.int x)] [(.int (255 : Int32)), (.int x)])) t
    refine XS.icmpYes X0.here hx rfl (pc0 := 20) (pc' := 26) rfl (hb hby d9_20) rfl (flt le_x).2.2.2 (by decide) (by decide) ?_
    show Steps p.tables e below (s₁.setTop (mkF m 26 #[.val (.ref r0), .val (.int (0 : Int32)), .val (.ref r2), .val (.int (0 : Int32)), .val (.int (2 : Int32)), .val (.int (0 : Int32)), .val (.int x)] [])) t
    refine XS.aloadN X0.here hx rfl (hb hby d9_26) rfl rfl ?_
    show Steps p.tables e below (s₁.setTop (mkF m 27 #[.val (.ref r0), .val (.int (0 : Int32)), .val (.ref r2), .val (.int (0 : Int32)), .val (.int (2 : Int32)), .val (.int (0 : Int32)), .val (.int x)] [(.ref r2)])) t
    refine XS.iloadN X0.here hx rfl (hb hby d9_27) rfl ?_
    show Steps p.tables e below (s₁.setTop (mkF m 28 #[.val (.ref r0), .val (.int (0 : Int32)), .val (.ref r2), .val (.int (0 : Int32)), .val (.int (2 : Int32)), .val (.int (0 : Int32)), .val (.int x)] [(.int (0 : Int32)), (.ref r2)])) t
    refine XS.iload X0.here hx rfl (hb hby d9_28) rfl ?_
    show Steps p.tables e below (s₁.setTop (mkF m 30 #[.val (.ref r0), .val (.int (0 : Int32)), .val (.ref r2), .val (.int (0 : Int32)), .val (.int (2 : Int32)), .val (.int (0 : Int32)), .val (.int x)] [(.int x), (.int (0 : Int32)), (.ref r2)])) t
    refine XS.i2b X0.here hx rfl (hb hby d9_30) rfl ?_
    exact k
  obtain ⟨cl9_2, Ar9_2, q9_2, S9_2, Ng9_2, Hs9_2, G9_2⟩ := id V_2
  have hin9_2 : ¬ ((0 : Int32) < 0 ∨ cl9_2.slots.size ≤ ((0 : Int32)).toNatClampNeg) := inb_of S9_2 ⟨by decide, by decide⟩
  obtain ⟨T9_2, h9_2, X9_2, e9_2, W9_2, st9_2⟩ := stB X0 hx hZ e0 Ar9_2 (j := (0 : Int32)) hin9_2 (g := (mkF m 31 #[.val (.ref r0), .val (.int (0 : Int32)), .val (.ref r2), .val (.int (0 : Int32)), .val (.int (2 : Int32)), .val (.int (0 : Int32)), .val (.int x)] [(.int (x.toInt8.toInt32)), (.int (0 : Int32)), (.ref r2)])) rfl rfl (hb hby d9_31)
  have V9_2 : Arv Z h9_2 r2 k .byte (2 : Int32) [(.int (nar .byte (x.toInt8.toInt32))), (.int (0 : Int32))] (.int 0) := Arv.set Ar9_2 q9_2 S9_2 Ng9_2 Hs9_2 G9_2 (fits_nar_byte _) W9_2 0 rfl (Nat.le_of_ble_eq_true rfl)
  have N9_2 := Fr.snoc X9_2 N0 g_r2
  refine own_fw st9_2 ?_
  refine own_fw (A := T9_2.setTop (mkF m 12 #[.val (.ref r0), .val (.int (1 : Int32)), .val (.ref r2), .val (.int (1 : Int32)), .val (.int (2 : Int32)), .val (.int (1 : Int32)), .val (.int x)] [(.int (1 : Int32)), (.ref r0)])) (fun t k => ?_) ?_
  · show Steps p.tables e below (T9_2.setTop (mkF m 32 #[.val (.ref r0), .val (.int (0 : Int32)), .val (.ref r2), .val (.int (0 : Int32)), .val (.int (2 : Int32)), .val (.int (0 : Int32)), .val (.int x)] [])) t
    refine XS.iinc X9_2.here hx rfl (hb hby d9_32) rfl (l' := #[.val (.ref r0), .val (.int (1 : Int32)), .val (.ref r2), .val (.int (0 : Int32)), .val (.int (2 : Int32)), .val (.int (0 : Int32)), .val (.int x)]) rfl ?_
    show Steps p.tables e below (T9_2.setTop (mkF m 35 #[.val (.ref r0), .val (.int (1 : Int32)), .val (.ref r2), .val (.int (0 : Int32)), .val (.int (2 : Int32)), .val (.int (0 : Int32)), .val (.int x)] [])) t
    refine XS.iinc X9_2.here hx rfl (hb hby d9_35) rfl (l' := #[.val (.ref r0), .val (.int (1 : Int32)), .val (.ref r2), .val (.int (1 : Int32)), .val (.int (2 : Int32)), .val (.int (0 : Int32)), .val (.int x)]) rfl ?_
    show Steps p.tables e below (T9_2.setTop (mkF m 38 #[.val (.ref r0), .val (.int (1 : Int32)), .val (.ref r2), .val (.int (1 : Int32)), .val (.int (2 : Int32)), .val (.int (0 : Int32)), .val (.int x)] [])) t
    refine XS.iinc X9_2.here hx rfl (hb hby d9_38) rfl (l' := #[.val (.ref r0), .val (.int (1 : Int32)), .val (.ref r2), .val (.int (1 : Int32)), .val (.int (2 : Int32)), .val (.int (1 : Int32)), .val (.int x)]) rfl ?_
    show Steps p.tables e below (T9_2.setTop (mkF m 41 #[.val (.ref r0), .val (.int (1 : Int32)), .val (.ref r2), .val (.int (1 : Int32)), .val (.int (2 : Int32)), .val (.int (1 : Int32)), .val (.int x)] [])) t
    refine XS.goto X9_2.here hx rfl (pc0 := 41) (pc' := 3) rfl (hb hby d9_41) (by decide) (by decide) ?_
    show Steps p.tables e below (T9_2.setTop (mkF m 3 #[.val (.ref r0), .val (.int (1 : Int32)), .val (.ref r2), .val (.int (1 : Int32)), .val (.int (2 : Int32)), .val (.int (1 : Int32)), .val (.int x)] [])) t
    refine XS.iload X9_2.here hx rfl (hb hby d9_3) rfl ?_
    show Steps p.tables e below (T9_2.setTop (mkF m 5 #[.val (.ref r0), .val (.int (1 : Int32)), .val (.ref r2), .val (.int (1 : Int32)), .val (.int (2 : Int32)), .val (.int (1 : Int32)), .val (.int x)] [(.int (1 : Int32))])) t
    refine XS.iload X9_2.here hx rfl (hb hby d9_5) rfl ?_
    show Steps p.tables e below (T9_2.setTop (mkF m 7 #[.val (.ref r0), .val (.int (1 : Int32)), .val (.ref r2), .val (.int (1 : Int32)), .val (.int (2 : Int32)), .val (.int (1 : Int32)), .val (.int x)] [(.int (2 : Int32)), (.int (1 : Int32))])) t
    refine XS.icmpNo X9_2.here hx rfl (hb hby d9_7) rfl (tlt (by decide : ((1 : Int32) < (2 : Int32)))).2.1 ?_
    show Steps p.tables e below (T9_2.setTop (mkF m 10 #[.val (.ref r0), .val (.int (1 : Int32)), .val (.ref r2), .val (.int (1 : Int32)), .val (.int (2 : Int32)), .val (.int (1 : Int32)), .val (.int x)] [])) t
    refine XS.aloadN X9_2.here hx rfl (hb hby d9_10) rfl rfl ?_
    show Steps p.tables e below (T9_2.setTop (mkF m 11 #[.val (.ref r0), .val (.int (1 : Int32)), .val (.ref r2), .val (.int (1 : Int32)), .val (.int (2 : Int32)), .val (.int (1 : Int32)), .val (.int x)] [(.ref r0)])) t
    refine XS.iloadN X9_2.here hx rfl (hb hby d9_11) rfl ?_
    exact k
  obtain ⟨cl9_3, Ar9_3, q9_3, S9_3, Ng9_3, Hs9_3, G9_3⟩ := id (V_0.other W9_2 hne)
  have hin9_3 : ¬ ((1 : Int32) < 0 ∨ cl9_3.slots.size ≤ ((1 : Int32)).toNatClampNeg) := inb_of S9_3 ⟨by decide, by decide⟩
  refine own_fw (X9_2.caload hx (j := (1 : Int32)) (v := (.int y)) (by rw [e9_2]; exact Ar9_3.1) (State.isArrayOf_alike hZ.alike Ar9_3.2.1) Ar9_3.2.2 hin9_3 (Has.at Hs9_3 hin9_3 rfl) (g := (mkF m 12 #[.val (.ref r0), .val (.int (1 : Int32)), .val (.ref r2), .val (.int (1 : Int32)), .val (.int (2 : Int32)), .val (.int (1 : Int32)), .val (.int x)] [(.int (1 : Int32)), (.ref r0)])) rfl rfl (hb hby d9_12)) ?_
  refine own_fw (A := T9_2.setTop (mkF m 31 #[.val (.ref r0), .val (.int (1 : Int32)), .val (.ref r2), .val (.int (1 : Int32)), .val (.int (2 : Int32)), .val (.int (1 : Int32)), .val (.int y)] [(.int (y.toInt8.toInt32)), (.int (1 : Int32)), (.ref r2)])) (fun t k => ?_) ?_
  · show Steps p.tables e below (T9_2.setTop (mkF m 13 #[.val (.ref r0), .val (.int (1 : Int32)), .val (.ref r2), .val (.int (1 : Int32)), .val (.int (2 : Int32)), .val (.int (1 : Int32)), .val (.int x)] [(.int y)])) t
    refine XS.istore X9_2.here hx rfl (hb hby d9_13) rfl (l' := #[.val (.ref r0), .val (.int (1 : Int32)), .val (.ref r2), .val (.int (1 : Int32)), .val (.int (2 : Int32)), .val (.int (1 : Int32)), .val (.int y)]) rfl ?_
    show Steps p.tables e below (T9_2.setTop (mkF m 15 #[.val (.ref r0), .val (.int (1 : Int32)), .val (.ref r2), .val (.int (1 : Int32)), .val (.int (2 : Int32)), .val (.int (1 : Int32)), .val (.int y)] [])) t
    refine XS.iload X9_2.here hx rfl (hb hby d9_15) rfl ?_
    show Steps p.tables e below (T9_2.setTop (mkF m 17 #[.val (.ref r0), .val (.int (1 : Int32)), .val (.ref r2), .val (.int (1 : Int32)), .val (.int (2 : Int32)), .val (.int (1 : Int32)), .val (.int y)] [(.int y)])) t
    refine XS.sipush X9_2.here hx rfl (hb hby d9_17) ?_
    show Steps p.tables e below (T9_2.setTop (mkF m 20 #[.val (.ref r0), .val (.int (1 : Int32)), .val (.ref r2), .val (.int (1 : Int32)), .val (.int (2 : Int32)), .val (.int (1 : Int32)), .val (.int y)] [(.int (255 : Int32)), (.int y)])) t
    refine XS.icmpYes X9_2.here hx rfl (pc0 := 20) (pc' := 26) rfl (hb hby d9_20) rfl (flt le_y).2.2.2 (by decide) (by decide) ?_
    show Steps p.tables e below (T9_2.setTop (mkF m 26 #[.val (.ref r0), .val (.int (1 : Int32)), .val (.ref r2), .val (.int (1 : Int32)), .val (.int (2 : Int32)), .val (.int (1 : Int32)), .val (.int y)] [])) t
    refine XS.aloadN X9_2.here hx rfl (hb hby d9_26) rfl rfl ?_
    show Steps p.tables e below (T9_2.setTop (mkF m 27 #[.val (.ref r0), .val (.int (1 : Int32)), .val (.ref r2), .val (.int (1 : Int32)), .val (.int (2 : Int32)), .val (.int (1 : Int32)), .val (.int y)] [(.ref r2)])) t
    refine XS.iloadN X9_2.here hx rfl (hb hby d9_27) rfl ?_
    show Steps p.tables e below (T9_2.setTop (mkF m 28 #[.val (.ref r0), .val (.int (1 : Int32)), .val (.ref r2), .val (.int (1 : Int32)), .val (.int (2 : Int32)), .val (.int (1 : Int32)), .val (.int y)] [(.int (1 : Int32)), (.ref r2)])) t
    refine XS.iload X9_2.here hx rfl (hb hby d9_28) rfl ?_
    show Steps p.tables e below (T9_2.setTop (mkF m 30 #[.val (.ref r0), .val (.int (1 : Int32)), .val (.ref r2), .val (.int (1 : Int32)), .val (.int (2 : Int32)), .val (.int (1 : Int32)), .val (.int y)] [(.int y), (.int (1 : Int32)), (.ref r2)])) t
    refine XS.i2b X9_2.here hx rfl (hb hby d9_30) rfl ?_
    exact k
  obtain ⟨cl9_4, Ar9_4, q9_4, S9_4, Ng9_4, Hs9_4, G9_4⟩ := id V9_2
  have hin9_4 : ¬ ((1 : Int32) < 0 ∨ cl9_4.slots.size ≤ ((1 : Int32)).toNatClampNeg) := inb_of S9_4 ⟨by decide, by decide⟩
  obtain ⟨T9_4, h9_4, X9_4, e9_4, W9_4, st9_4⟩ := stB X9_2 hx hZ e9_2 Ar9_4 (j := (1 : Int32)) hin9_4 (g := (mkF m 31 #[.val (.ref r0), .val (.int (1 : Int32)), .val (.ref r2), .val (.int (1 : Int32)), .val (.int (2 : Int32)), .val (.int (1 : Int32)), .val (.int y)] [(.int (y.toInt8.toInt32)), (.int (1 : Int32)), (.ref r2)])) rfl rfl (hb hby d9_31)
  have V9_4 : Arv Z h9_4 r2 k .byte (2 : Int32) [(.int (nar .byte (x.toInt8.toInt32))), (.int (nar .byte (y.toInt8.toInt32)))] (.int 0) := Arv.set Ar9_4 q9_4 S9_4 Ng9_4 Hs9_4 G9_4 (fits_nar_byte _) W9_4 1 rfl (Nat.le_of_ble_eq_true rfl)
  have N9_4 := Fr.snoc X9_4 N9_2 g_r2
  refine own_fw st9_4 ?_
  refine own_fw (A := T9_4.setTop (mkF m 46 #[.val (.ref r0), .val (.int (2 : Int32)), .val (.ref r2), .val (.int (2 : Int32)), .val (.int (2 : Int32)), .val (.int (2 : Int32)), .val (.int y)] [(.int (2 : Int32))])) (fun t k => ?_) ?_
  · show Steps p.tables e below (T9_4.setTop (mkF m 32 #[.val (.ref r0), .val (.int (1 : Int32)), .val (.ref r2), .val (.int (1 : Int32)), .val (.int (2 : Int32)), .val (.int (1 : Int32)), .val (.int y)] [])) t
    refine XS.iinc X9_4.here hx rfl (hb hby d9_32) rfl (l' := #[.val (.ref r0), .val (.int (2 : Int32)), .val (.ref r2), .val (.int (1 : Int32)), .val (.int (2 : Int32)), .val (.int (1 : Int32)), .val (.int y)]) rfl ?_
    show Steps p.tables e below (T9_4.setTop (mkF m 35 #[.val (.ref r0), .val (.int (2 : Int32)), .val (.ref r2), .val (.int (1 : Int32)), .val (.int (2 : Int32)), .val (.int (1 : Int32)), .val (.int y)] [])) t
    refine XS.iinc X9_4.here hx rfl (hb hby d9_35) rfl (l' := #[.val (.ref r0), .val (.int (2 : Int32)), .val (.ref r2), .val (.int (2 : Int32)), .val (.int (2 : Int32)), .val (.int (1 : Int32)), .val (.int y)]) rfl ?_
    show Steps p.tables e below (T9_4.setTop (mkF m 38 #[.val (.ref r0), .val (.int (2 : Int32)), .val (.ref r2), .val (.int (2 : Int32)), .val (.int (2 : Int32)), .val (.int (1 : Int32)), .val (.int y)] [])) t
    refine XS.iinc X9_4.here hx rfl (hb hby d9_38) rfl (l' := #[.val (.ref r0), .val (.int (2 : Int32)), .val (.ref r2), .val (.int (2 : Int32)), .val (.int (2 : Int32)), .val (.int (2 : Int32)), .val (.int y)]) rfl ?_
    show Steps p.tables e below (T9_4.setTop (mkF m 41 #[.val (.ref r0), .val (.int (2 : Int32)), .val (.ref r2), .val (.int (2 : Int32)), .val (.int (2 : Int32)), .val (.int (2 : Int32)), .val (.int y)] [])) t
    refine XS.goto X9_4.here hx rfl (pc0 := 41) (pc' := 3) rfl (hb hby d9_41) (by decide) (by decide) ?_
    show Steps p.tables e below (T9_4.setTop (mkF m 3 #[.val (.ref r0), .val (.int (2 : Int32)), .val (.ref r2), .val (.int (2 : Int32)), .val (.int (2 : Int32)), .val (.int (2 : Int32)), .val (.int y)] [])) t
    refine XS.iload X9_4.here hx rfl (hb hby d9_3) rfl ?_
    show Steps p.tables e below (T9_4.setTop (mkF m 5 #[.val (.ref r0), .val (.int (2 : Int32)), .val (.ref r2), .val (.int (2 : Int32)), .val (.int (2 : Int32)), .val (.int (2 : Int32)), .val (.int y)] [(.int (2 : Int32))])) t
    refine XS.iload X9_4.here hx rfl (hb hby d9_5) rfl ?_
    show Steps p.tables e below (T9_4.setTop (mkF m 7 #[.val (.ref r0), .val (.int (2 : Int32)), .val (.ref r2), .val (.int (2 : Int32)), .val (.int (2 : Int32)), .val (.int (2 : Int32)), .val (.int y)] [(.int (2 : Int32)), (.int (2 : Int32))])) t
    refine XS.icmpYes X9_4.here hx rfl (pc0 := 7) (pc' := 44) rfl (hb hby d9_7) rfl (flt (Int32.lt_irrefl : ¬ ((2 : Int32) < (2 : Int32)))).2.1 (by decide) (by decide) ?_
    show Steps p.tables e below (T9_4.setTop (mkF m 44 #[.val (.ref r0), .val (.int (2 : Int32)), .val (.ref r2), .val (.int (2 : Int32)), .val (.int (2 : Int32)), .val (.int (2 : Int32)), .val (.int y)] [])) t
    refine XS.iload X9_4.here hx rfl (hb hby d9_44) rfl ?_
    exact k
  obtain ⟨fs, hr, hrun, hended, hW, hsame⟩ := X9_4.leave (v := some (.int (2 : Int32))) (own_ret Bd.returns) (BodyLoose.notSynchronized Bd)
  refine ⟨_, _, retI X9_4 hx Bd.returns (hb hby d9_46) hr, hrun, hended, _, _, rfl, ?_, ⟨_, rfl⟩, hW, hsame.mono (by decide) (by decide)⟩
  have eh : (T9_4.setFrames fs).heap = h9_4 := e9_4
  rw [eh]
  exact ⟨rfl, N9_4, (((Keep.refl h0 [r2]).wr W9_2 (Or.inl (List.mem_of_getElem? (i := 0) rfl))).wr W9_4 (Or.inl (List.mem_of_getElem? (i := 0) rfl))), V9_4⟩
set_option maxRecDepth 65536 in
set_option maxHeartbeats 40000000 in
theorem rmCP_2 (l : Launch) (Z : State) (a0 : Array Value) (hw : ∀ d ∈ tables_1, d.before a0 Z = true) (ws : List Jvm.Cond) (r0 : Addr) (kc : ClassId) (x : Int32) (y : Int32) (h0 : Heap) (n0 : Nat) (Z0 : n0 ≤ h0.size) (V_0 : Arv Z h0 r0 kc .char (2 : Int32) [(.int x), (.int y)] (.int 0)) (le_x : ¬ (255 : Int32) < x) (le_y : ¬ (255 : Int32) < y) :
    MetFree l (⟨"java/lang/StringUTF16", "compress", "([CII)[B"⟩ : MethodName) (head1 (Jvm.Cond.code (⟨"java/lang/StringUTF16", "compress", "([CII)[B"⟩ : MethodName) jdk_52_method_16_code 6 (some (.array .byte)) :: ws) ({ frames := 1, cells := 1, slots := 2, locals := 18 } : Room)) (fun a U => a = #[(.ref r0), (.int (0 : Int32)), (.int (2 : Int32))] ∧ Z.Warmed39 U.vm ∧ U.heap = h0) (fun _ _ _ _ _ => True) (fun _ U o U' => ∃ v L, o = .returned v ∧ Q8 Z (2 : Int32) [(.int (nar .byte (x.toInt8.toInt32))), (.int (nar .byte (y.toInt8.toInt32)))] h0 n0 v U'.heap L ∧ FrameEnd U o U' L ({ frames := 1, cells := 1, slots := 2, locals := 18 } : Room).cells ({ frames := 1, cells := 1, slots := 2, locals := 18 } : Room).slots) := by
  refine MetFree.of_bodySF (plainFor_of_name pn8) hisR ?_
  intro p e s m args below meth c s₁ Bd hml0 hP hK
  obtain ⟨rfl, hZ, hh⟩ := hP
  have hx := Bd.exec
  have hby := Bd.bytes
  have hml : c.maxLocals = 6 := hml0
  have hown : s.vm.findClass "java/lang/StringUTF16" = some m.cls := findClass_of_methodNamed Bd.named
  have hnm := (name_of_methodNamed Bd.named Bd.method).1
  have X0 : Stand p l e ({ frames := 1, cells := 1, slots := 2, locals := 18 } : Room) s m #[(.ref r0), (.int (0 : Int32)), (.int (2 : Int32))] below meth c s₁ [] 0 0 := Stand.of_body Bd
  have e0 : s₁.heap = h0 := by rw [← hh, Bd.state]; rfl
  have N0 := Fr.nil n0
  refine own_fw (A := s₁.setTop (mkF m 0 #[.val (.ref r0), .val (.int (0 : Int32)), .val (.int (2 : Int32)), .unset, .unset, .unset] [])) (fun t k => castTop (ef8 m r0 (0 : Int32) (2 : Int32)) k) ?_
  refine own_fw (A := s₁.setTop (mkF m 1 #[.val (.ref r0), .val (.int (0 : Int32)), .val (.int (2 : Int32)), .unset, .unset, .unset] [(.int (2 : Int32))])) (fun t k => ?_) ?_
  · show Steps p.tables e below (s₁.setTop (mkF m 0 #[.val (.ref r0), .val (.int (0 : Int32)), .val (.int (2 : Int32)), .unset, .unset, .unset] [])) t
    refine XS.iloadN X0.here hx rfl (hb hby d8_0) rfl ?_
    exact k
  obtain ⟨T8_1, h8_1, k8_1, X8_1, e8_1, E8_1, A8_1, Ex8_1, st8_1⟩ := newPE X0 hx hZ (hw _ (List.mem_of_getElem? (i := 22) rfl)) e0 (g := (mkF m 1 #[.val (.ref r0), .val (.int (0 : Int32)), .val (.int (2 : Int32)), .unset, .unset, .unset] [(.int (2 : Int32))])) rfl (hb hby d8_1) rfl (by decide) (cap := 2) (by decide) (by decide) (by decide) (by decide) (ad := "[B") (by decide)
  obtain ⟨b8_1, g8_1⟩ : ∃ z, z = h0.size := ⟨_, rfl⟩
  rw [← g8_1] at A8_1 Ex8_1 st8_1
  have hk_b8_1 := own_klb A8_1 Ex8_1
  have ne_r0_b8_1 : r0 ≠ b8_1 := Nat.ne_of_lt (Nat.lt_of_lt_of_le V_0.lt (Nat.le_of_eq g8_1.symm))
  have g_b8_1 : n0 ≤ b8_1 := Nat.le_trans Z0 (Nat.le_of_eq g8_1.symm)
  have sz_b8_1 : h0.size ≤ b8_1 := Nat.le_trans (Keep.refl h0 []).1 (Nat.le_of_eq g8_1.symm)
  have V_b8_1 : Arv Z h8_1 b8_1 k8_1 .byte (2 : Int32) [(.int (0 : Int32)), (.int (0 : Int32))] (.int (0 : Int32)) := (Arv.new A8_1 (by decide)).pad (pad_rep [] (.int (0 : Int32)) 2)
  refine own_fw st8_1 ?_
  refine own_fw (A := T8_1.setTop (mkF m 9 #[.val (.ref r0), .val (.int (0 : Int32)), .val (.int (2 : Int32)), .val (.ref b8_1), .unset, .unset] [(.int (2 : Int32)), (.int (0 : Int32)), (.ref b8_1), (.int (0 : Int32)), (.ref r0)])) (fun t k => ?_) ?_
  · show Steps p.tables e below (T8_1.setTop (mkF m 3 #[.val (.ref r0), .val (.int (0 : Int32)), .val (.int (2 : Int32)), .unset, .unset, .unset] [(.ref b8_1)])) t
    refine XS.astoreN X8_1.here hx rfl (hb hby d8_3) rfl rfl (l' := #[.val (.ref r0), .val (.int (0 : Int32)), .val (.int (2 : Int32)), .val (.ref b8_1), .unset, .unset]) rfl ?_
    show Steps p.tables e below (T8_1.setTop (mkF m 4 #[.val (.ref r0), .val (.int (0 : Int32)), .val (.int (2 : Int32)), .val (.ref b8_1), .unset, .unset] [])) t
    refine XS.aloadN X8_1.here hx rfl (hb hby d8_4) rfl rfl ?_
    show Steps p.tables e below (T8_1.setTop (mkF m 5 #[.val (.ref r0), .val (.int (0 : Int32)), .val (.int (2 : Int32)), .val (.ref b8_1), .unset, .unset] [(.ref r0)])) t
    refine XS.iloadN X8_1.here hx rfl (hb hby d8_5) rfl ?_
    show Steps p.tables e below (T8_1.setTop (mkF m 6 #[.val (.ref r0), .val (.int (0 : Int32)), .val (.int (2 : Int32)), .val (.ref b8_1), .unset, .unset] [(.int (0 : Int32)), (.ref r0)])) t
    refine XS.aloadN X8_1.here hx rfl (hb hby d8_6) rfl rfl ?_
    show Steps p.tables e below (T8_1.setTop (mkF m 7 #[.val (.ref r0), .val (.int (0 : Int32)), .val (.int (2 : Int32)), .val (.ref b8_1), .unset, .unset] [(.ref b8_1), (.int (0 : Int32)), (.ref r0)])) t
    refine XS.iconst X8_1.here hx rfl (hb hby d8_7) ?_
    show Steps p.tables e below (T8_1.setTop (mkF m 8 #[.val (.ref r0), .val (.int (0 : Int32)), .val (.int (2 : Int32)), .val (.ref b8_1), .unset, .unset] [(.int (0 : Int32)), (.ref b8_1), (.int (0 : Int32)), (.ref r0)])) t
    refine XS.iloadN X8_1.here hx rfl (hb hby d8_8) rfl ?_
    exact k
  obtain ⟨_, _, ⟨T8_2, L8_2, k8_2, n8_2⟩, -, X8_2, ⟨Lc8_2, hQ8_2, l8_2, y8_2, z8_2⟩, st8_2⟩ := Jvm.LawKit.callS X8_1 hx (y := (⟨"java/lang/StringUTF16", "compress", "([CI[BII)I"⟩ : MethodName)) hown (mvT hZ (hw _ (List.mem_of_getElem? (i := 40) rfl))) (mvT hZ (hw _ (List.mem_of_getElem? (i := 41) rfl))) (mvT hZ (hw _ (List.mem_of_getElem? (i := 38) rfl))) (mvT hZ (hw _ (List.mem_of_getElem? (i := 42) rfl))) (by decide) (backOf (W := 0) (rmCQ_2 l Z a0 hw [] r0 b8_1 kc k8_1 x y h8_1 n0 (Nat.le_trans Z0 E8_1.1) (V_0.ext E8_1) V_b8_1 ne_r0_b8_1 g_b8_1 le_x le_y) hZ (hw _ (List.mem_of_getElem? (i := 42) rfl)) (hw _ (List.mem_of_getElem? (i := 38) rfl)) (by decide) (by decide)) (g := (mkF m 9 #[.val (.ref r0), .val (.int (0 : Int32)), .val (.int (2 : Int32)), .val (.ref b8_1), .unset, .unset] [(.int (2 : Int32)), (.int (0 : Int32)), (.ref b8_1), (.int (0 : Int32)), (.ref r0)])) rfl (by rw [hml]; rfl) (argsL := [(.ref r0), (.int (0 : Int32)), (.ref b8_1), (.int (0 : Int32)), (.int (2 : Int32))]) (rest := []) (lenOf pd8_0 rfl) rfl (by show 2 * 0 + _ ≤ _; exact Nat.le_of_eq rfl) (hb hby d8_9) (fun _ _ => ⟨rfl, e8_1, (by decide : 1 + 0 ≤ _), (by decide : 2 + 0 ≤ _)⟩)
  dsimp only [Pt.U, Pt.locs, Pt.cells, Pt.slots] at X8_2 l8_2 y8_2 z8_2 st8_2 hQ8_2
  subst l8_2 y8_2 z8_2
  obtain ⟨rfl, N8_2q, K8_2, Vb8_2⟩ := hQ8_2
  have N8_2 := Fr.app N0 N8_2q
  refine own_fw st8_2 ?_
  refine own_fw (A := T8_2.setTop (mkF m 58 #[.val (.ref r0), .val (.int (0 : Int32)), .val (.int (2 : Int32)), .val (.ref b8_1), .val (.int (2 : Int32)), .unset] [(.ref b8_1)])) (fun t k => ?_) ?_
  · show Steps p.tables e below (T8_2.setTop (mkF m 12 #[.val (.ref r0), .val (.int (0 : Int32)), .val (.int (2 : Int32)), .val (.ref b8_1), .unset, .unset] [(.int (2 : Int32))])) t
    refine XS.istore X8_2.here hx rfl (hb hby d8_12) rfl (l' := #[.val (.ref r0), .val (.int (0 : Int32)), .val (.int (2 : Int32)), .val (.ref b8_1), .val (.int (2 : Int32)), .unset]) rfl ?_
    show Steps p.tables e below (T8_2.setTop (mkF m 14 #[.val (.ref r0), .val (.int (0 : Int32)), .val (.int (2 : Int32)), .val (.ref b8_1), .val (.int (2 : Int32)), .unset] [])) t
    refine XS.iload X8_2.here hx rfl (hb hby d8_14) rfl ?_
    show Steps p.tables e below (T8_2.setTop (mkF m 16 #[.val (.ref r0), .val (.int (0 : Int32)), .val (.int (2 : Int32)), .val (.ref b8_1), .val (.int (2 : Int32)), .unset] [(.int (2 : Int32))])) t
    refine XS.iloadN X8_2.here hx rfl (hb hby d8_16) rfl ?_
    show Steps p.tables e below (T8_2.setTop (mkF m 17 #[.val (.ref r0), .val (.int (0 : Int32)), .val (.int (2 : Int32)), .val (.ref b8_1), .val (.int (2 : Int32)), .unset] [(.int (2 : Int32)), (.int (2 : Int32))])) t
    refine XS.icmpYes X8_2.here hx rfl (pc0 := 17) (pc' := 57) rfl (hb hby d8_17) rfl (teq (rfl : (2 : Int32) = (2 : Int32))).1 (by decide) (by decide) ?_
    show Steps p.tables e below (T8_2.setTop (mkF m 57 #[.val (.ref r0), .val (.int (0 : Int32)), .val (.int (2 : Int32)), .val (.ref b8_1), .val (.int (2 : Int32)), .unset] [])) t
    refine XS.aloadN X8_2.here hx rfl (hb hby d8_57) rfl rfl ?_
    exact k
  obtain ⟨fs, hr, hrun, hended, hW, hsame⟩ := X8_2.leave (v := some (.ref b8_1)) (own_ret Bd.returns) (BodyLoose.notSynchronized Bd)
  refine ⟨_, _, retA (ty := (.array .byte)) X8_2 hx rfl rfl Bd.returns (hb hby d8_58) hr, hrun, hended, _, _, rfl, ?_, ⟨_, rfl⟩, hW, hsame.mono (by decide) (by decide)⟩
  have eh : (T8_2.setFrames fs).heap = T8_2.heap := rfl
  rw [eh]
  exact ⟨b8_1, k8_1, rfl, N8_2, (((Keep.refl h0 []).ext E8_1).trans K8_2 (allS (Or.inr sz_b8_1) all0)), Vb8_2, hk_b8_1, sz_b8_1⟩
theorem d4_0 : decode jdk_42_method_149_code 0 = .ok (.aload_n 0, 1) := by decide +kernel
theorem d4_1 : decode jdk_42_method_149_code 1 = .ok (.invokespecial 1, 3) := by decide +kernel
theorem d4_4 : decode jdk_42_method_149_code 4 = .ok (.iload_n 3, 1) := by decide +kernel
theorem d4_5 : decode jdk_42_method_149_code 5 = .ok (.ifCond .ne 22, 3) := by decide +kernel
theorem d4_8 : decode jdk_42_method_149_code 8 = .ok (.aload_n 0, 1) := by decide +kernel
theorem d4_9 : decode jdk_42_method_149_code 9 = .ok (.ldc 7, 2) := by decide +kernel
theorem d4_11 : decode jdk_42_method_149_code 11 = .ok (.getfield 9, 3) := by decide +kernel
theorem d4_14 : decode jdk_42_method_149_code 14 = .ok (.putfield 9, 3) := by decide +kernel
theorem d4_17 : decode jdk_42_method_149_code 17 = .ok (.aload_n 0, 1) := by decide +kernel
theorem d4_18 : decode jdk_42_method_149_code 18 = .ok (.ldc 7, 2) := by decide +kernel
theorem d4_20 : decode jdk_42_method_149_code 20 = .ok (.getfield 15, 3) := by decide +kernel
theorem d4_23 : decode jdk_42_method_149_code 23 = .ok (.putfield 15, 3) := by decide +kernel
theorem d4_26 : decode jdk_42_method_149_code 26 = .ok (.return_, 1) := by decide +kernel
theorem d4_27 : decode jdk_42_method_149_code 27 = .ok (.getstatic 38, 3) := by decide +kernel
theorem d4_30 : decode jdk_42_method_149_code 30 = .ok (.ifCond .eq 28, 3) := by decide +kernel
theorem d4_33 : decode jdk_42_method_149_code 33 = .ok (.aload_n 1, 1) := by decide +kernel
theorem d4_34 : decode jdk_42_method_149_code 34 = .ok (.iload_n 2, 1) := by decide +kernel
theorem d4_35 : decode jdk_42_method_149_code 35 = .ok (.iload_n 3, 1) := by decide +kernel
theorem d4_36 : decode jdk_42_method_149_code 36 = .ok (.invokestatic 177, 3) := by decide +kernel
theorem d4_39 : decode jdk_42_method_149_code 39 = .ok (.astore 5, 2) := by decide +kernel
theorem d4_41 : decode jdk_42_method_149_code 41 = .ok (.aload_n 0, 1) := by decide +kernel
theorem d4_42 : decode jdk_42_method_149_code 42 = .ok (.aload 5, 2) := by decide +kernel
theorem d4_44 : decode jdk_42_method_149_code 44 = .ok (.iload_n 3, 1) := by decide +kernel
theorem d4_45 : decode jdk_42_method_149_code 45 = .ok (.invokestatic 47, 3) := by decide +kernel
theorem d4_48 : decode jdk_42_method_149_code 48 = .ok (.putfield 15, 3) := by decide +kernel
theorem d4_51 : decode jdk_42_method_149_code 51 = .ok (.aload_n 0, 1) := by decide +kernel
theorem d4_52 : decode jdk_42_method_149_code 52 = .ok (.aload 5, 2) := by decide +kernel
theorem d4_54 : decode jdk_42_method_149_code 54 = .ok (.putfield 9, 3) := by decide +kernel
theorem d4_57 : decode jdk_42_method_149_code 57 = .ok (.return_, 1) := by decide +kernel
theorem d4_58 : decode jdk_42_method_149_code 58 = .ok (.aload_n 0, 1) := by decide +kernel
theorem d4_59 : decode jdk_42_method_149_code 59 = .ok (.iconst 1, 1) := by decide +kernel
theorem d4_60 : decode jdk_42_method_149_code 60 = .ok (.putfield 15, 3) := by decide +kernel
theorem d4_63 : decode jdk_42_method_149_code 63 = .ok (.aload_n 0, 1) := by decide +kernel
theorem d4_64 : decode jdk_42_method_149_code 64 = .ok (.aload_n 1, 1) := by decide +kernel
theorem d4_65 : decode jdk_42_method_149_code 65 = .ok (.iload_n 2, 1) := by decide +kernel
theorem d4_66 : decode jdk_42_method_149_code 66 = .ok (.iload_n 3, 1) := by decide +kernel
theorem d4_67 : decode jdk_42_method_149_code 67 = .ok (.invokestatic 180, 3) := by decide +kernel
theorem d4_70 : decode jdk_42_method_149_code 70 = .ok (.putfield 9, 3) := by decide +kernel
theorem d4_73 : decode jdk_42_method_149_code 73 = .ok (.return_, 1) := by decide +kernel
theorem pn4 : plainName "java/lang/String" = true := by first | (simp [plainName, overriddenIn]; done) | decide +kernel
theorem pd4_0 : parseMethodDescriptor "([CII)[B" = some ⟨[(.array .char), .int, .int], some (.array .byte)⟩ := by decide +kernel
theorem pd4_1 : parseMethodDescriptor "([BI)B" = some ⟨[(.array .byte), .int], some .byte⟩ := by decide +kernel
theorem ef4 (m : MethodId) (r0 : Addr) (r1 : Addr) (p2 : Int32) (p3 : Int32) : entryFrame m #[(.ref r0), (.ref r1), (.int p2), (.int p3), .null] 6 = mkF m 0 #[.val (.ref r0), .val (.ref r1), .val (.int p2), .val (.int p3), .val .null, .unset] [] := by first | (simp [entryFrame, mkF, argsToLocals, Value.category]; done) | rfl
def Q4 (Z : State) (r0 : Addr) (n : Int32) (vs : List Value) (h0 : Heap) (n0 : Nat) (w : Option Value) (h : Heap) (L : List Loc) : Prop := ∃ b k, w = none ∧ Fr n0 L ∧ Keep h0 h [r0] ∧ Exa Z h r0 "java/lang/String" ∧ Fld Z h r0 "java/lang/String" "value" "[B" (.ref b) ∧ Fld Z h r0 "java/lang/String" "coder" "B" (.int 0) ∧ Fld Z h r0 "java/lang/String" "hash" "I" (.int 0) ∧ Fld Z h r0 "java/lang/String" "hashIsZero" "Z" (.int 0) ∧ Arv Z h b k .byte n vs (.int 0) ∧ Z.vm.findClass "[B" = some k ∧ h0.size ≤ b
theorem d3_0 : decode jdk_42_method_3_code 0 = .ok (.aload_n 0, 1) := by decide +kernel
theorem d3_1 : decode jdk_42_method_3_code 1 = .ok (.aload_n 1, 1) := by decide +kernel
theorem d3_2 : decode jdk_42_method_3_code 2 = .ok (.iconst 0, 1) := by decide +kernel
theorem d3_3 : decode jdk_42_method_3_code 3 = .ok (.aload_n 1, 1) := by decide +kernel
theorem d3_4 : decode jdk_42_method_3_code 4 = .ok (.arraylength, 1) := by decide +kernel
theorem d3_5 : decode jdk_42_method_3_code 5 = .ok (.aconst_null, 1) := by decide +kernel
theorem d3_6 : decode jdk_42_method_3_code 6 = .ok (.invokespecial 27, 3) := by decide +kernel
theorem d3_9 : decode jdk_42_method_3_code 9 = .ok (.return_, 1) := by decide +kernel
theorem pn3 : plainName "java/lang/String" = true := by first | (simp [plainName, overriddenIn]; done) | decide +kernel
theorem pd3_0 : parseMethodDescriptor "([CIILjava/lang/Void;)V" = some ⟨[(.array .char), .int, .int, (.object "java/lang/Void")], none⟩ := by decide +kernel
theorem ef3 (m : MethodId) (r0 : Addr) (r1 : Addr) : entryFrame m #[(.ref r0), (.ref r1)] 2 = mkF m 0 #[.val (.ref r0), .val (.ref r1)] [] := by first | (simp [entryFrame, mkF, argsToLocals, Value.category]; done) | rfl
def Q3 (Z : State) (r0 : Addr) (n : Int32) (vs : List Value) (h0 : Heap) (n0 : Nat) (w : Option Value) (h : Heap) (L : List Loc) : Prop := ∃ b k, w = none ∧ Fr n0 L ∧ Keep h0 h [r0] ∧ Exa Z h r0 "java/lang/String" ∧ Fld Z h r0 "java/lang/String" "value" "[B" (.ref b) ∧ Fld Z h r0 "java/lang/String" "coder" "B" (.int 0) ∧ Fld Z h r0 "java/lang/String" "hash" "I" (.int 0) ∧ Fld Z h r0 "java/lang/String" "hashIsZero" "Z" (.int 0) ∧ Arv Z h b k .byte n vs (.int 0) ∧ Z.vm.findClass "[B" = some k ∧ h0.size ≤ b
theorem own_fc {Z : State} {h : Heap} {a : Addr} {C n d : String} {v v2 : Value} (F : Fld Z h a C n d v) (e : v = v2) : Fld Z h a C n d v2 := e ▸ F
set_option maxRecDepth 65536 in
set_option maxHeartbeats 40000000 in
theorem rmS4_1 (l : Launch) (Z : State) (a0 : Array Value) (hw : ∀ d ∈ tables_1, d.before a0 Z = true) (ws : List Jvm.Cond) (r0 : Addr) (r1 : Addr) (kc : ClassId) (x : Int32) (cc : Int32) (h0 : Heap) (n0 : Nat) (Z0 : n0 ≤ h0.size) (E : Exa Z h0 r0 "java/lang/String") (Svalu : Fld Z h0 r0 "java/lang/String" "value" "[B" .null) (Scode : Fld Z h0 r0 "java/lang/String" "coder" "B" (.int 0)) (Shash : Fld Z h0 r0 "java/lang/String" "hash" "I" (.int 0)) (Shz : Fld Z h0 r0 "java/lang/String" "hashIsZero" "Z" (.int 0)) (V_1 : Arv Z h0 r1 kc .char (1 : Int32) [(.int x)] (.int 0)) (hne : r1 ≠ r0) (g_r0 : n0 ≤ r0) (le_x : ¬ (255 : Int32) < x) (O_0 : Old Z n0 h0) (S_c : Sta Z Z.heap "java/lang/String" "COMPACT_STRINGS" "Z" (.int cc)) (hcc : ¬ cc = (0 : Int32)) :
    MetFree l (⟨"java/lang/String", "<init>", "([CIILjava/lang/Void;)V"⟩ : MethodName) (head1 (Jvm.Cond.code (⟨"java/lang/String", "<init>", "([CIILjava/lang/Void;)V"⟩ : MethodName) jdk_42_method_149_code 6 none :: ws) ({ frames := 2, cells := 1, slots := 1, locals := 35 } : Room)) (fun a U => a = #[(.ref r0), (.ref r1), (.int (0 : Int32)), (.int (1 : Int32)), .null] ∧ Z.Warmed39 U.vm ∧ U.heap = h0) (fun _ _ _ _ _ => True) (fun _ U o U' => ∃ v L, o = .returned v ∧ Q4 Z r0 (1 : Int32) [(.int (nar .byte (x.toInt8.toInt32)))] h0 n0 v U'.heap L ∧ FrameEnd U o U' L ({ frames := 2, cells := 1, slots := 1, locals := 35 } : Room).cells ({ frames := 2, cells := 1, slots := 1, locals := 35 } : Room).slots) := by
  refine MetFree.of_bodySF (plainFor_of_name pn4) hisR ?_
  intro p e s m args below meth c s₁ Bd hml0 hP hK
  obtain ⟨rfl, hZ, hh⟩ := hP
  have hx := Bd.exec
  have hby := Bd.bytes
  have hml : c.maxLocals = 6 := hml0
  have hown : s.vm.findClass "java/lang/String" = some m.cls := findClass_of_methodNamed Bd.named
  have hnm := (name_of_methodNamed Bd.named Bd.method).1
  have X0 : Stand p l e ({ frames := 2, cells := 1, slots := 1, locals := 35 } : Room) s m #[(.ref r0), (.ref r1), (.int (0 : Int32)), (.int (1 : Int32)), .null] below meth c s₁ [] 0 0 := Stand.of_body Bd
  have e0 : s₁.heap = h0 := by rw [← hh, Bd.state]; rfl
  have N0 := Fr.nil n0
  refine own_fw (A := s₁.setTop (mkF m 0 #[.val (.ref r0), .val (.ref r1), .val (.int (0 : Int32)), .val (.int (1 : Int32)), .val .null, .unset] [])) (fun t k => castTop (ef4 m r0 r1 (0 : Int32) (1 : Int32)) k) ?_
  refine own_fw (A := s₁.setTop (mkF m 1 #[.val (.ref r0), .val (.ref r1), .val (.int (0 : Int32)), .val (.int (1 : Int32)), .val .null, .unset] [(.ref r0)])) (fun t k => ?_) ?_
  · show Steps p.tables e below (s₁.setTop (mkF m 0 #[.val (.ref r0), .val (.ref r1), .val (.int (0 : Int32)), .val (.int (1 : Int32)), .val .null, .unset] [])) t
    refine XS.aloadN X0.here hx rfl (hb hby d4_0) rfl rfl ?_
    exact k
  obtain ⟨T4_1, X4_1, e4_1, st4_1⟩ := initO X0 hx hZ hown (hw _ (List.mem_of_getElem? (i := 18) rfl)) (hw _ (List.mem_of_getElem? (i := 19) rfl)) (hw _ (List.mem_of_getElem? (i := 20) rfl)) e0 (g := (mkF m 1 #[.val (.ref r0), .val (.ref r1), .val (.int (0 : Int32)), .val (.int (1 : Int32)), .val .null, .unset] [(.ref r0)])) rfl (by rw [hml]; rfl) rfl (hb hby d4_1) (by decide) (W := 0) (by show 2 * 0 + _ ≤ _; exact Nat.le_of_eq rfl) (by decide)
  refine own_fw st4_1 ?_
  refine own_fw (A := T4_1.setTop (mkF m 27 #[.val (.ref r0), .val (.ref r1), .val (.int (0 : Int32)), .val (.int (1 : Int32)), .val .null, .unset] [])) (fun t k => ?_) ?_
  · show Steps p.tables e below (T4_1.setTop (mkF m 4 #[.val (.ref r0), .val (.ref r1), .val (.int (0 : Int32)), .val (.int (1 : Int32)), .val .null, .unset] [])) t
    refine XS.iloadN X4_1.here hx rfl (hb hby d4_4) rfl ?_
    show Steps p.tables e below (T4_1.setTop (mkF m 5 #[.val (.ref r0), .val (.ref r1), .val (.int (0 : Int32)), .val (.int (1 : Int32)), .val .null, .unset] [(.int (1 : Int32))])) t
    refine XS.ifYes X4_1.here hx rfl (pc0 := 5) (pc' := 27) rfl (hb hby d4_5) rfl ((if0 _ _).trans (feq (by decide : ¬ ((1 : Int32) = (0 : Int32)))).2) (by decide) (by decide) ?_
    exact k
  obtain ⟨T4_2, X4_2, e4_2, st4_2⟩ := getS2 X4_1 hx hZ hown (host := "") (Or.inl (hw _ (List.mem_of_getElem? (i := 35) rfl))) Via.refl e4_1 (S_c.ext O_0.2) (g := (mkF m 27 #[.val (.ref r0), .val (.ref r1), .val (.int (0 : Int32)), .val (.int (1 : Int32)), .val .null, .unset] [])) rfl (hb hby d4_27)
  refine own_fw st4_2 ?_
  refine own_fw (A := T4_2.setTop (mkF m 36 #[.val (.ref r0), .val (.ref r1), .val (.int (0 : Int32)), .val (.int (1 : Int32)), .val .null, .unset] [(.int (1 : Int32)), (.int (0 : Int32)), (.ref r1)])) (fun t k => ?_) ?_
  · show Steps p.tables e below (T4_2.setTop (mkF m 30 #[.val (.ref r0), .val (.ref r1), .val (.int (0 : Int32)), .val (.int (1 : Int32)), .val .null, .unset] [(.int cc)])) t
    refine XS.ifNo X4_2.here hx rfl (hb hby d4_30) rfl ((if0 _ _).trans (feq hcc).1) ?_
    show Steps p.tables e below (T4_2.setTop (mkF m 33 #[.val (.ref r0), .val (.ref r1), .val (.int (0 : Int32)), .val (.int (1 : Int32)), .val .null, .unset] [])) t
    refine XS.aloadN X4_2.here hx rfl (hb hby d4_33) rfl rfl ?_
    show Steps p.tables e below (T4_2.setTop (mkF m 34 #[.val (.ref r0), .val (.ref r1), .val (.int (0 : Int32)), .val (.int (1 : Int32)), .val .null, .unset] [(.ref r1)])) t
    refine XS.iloadN X4_2.here hx rfl (hb hby d4_34) rfl ?_
    show Steps p.tables e below (T4_2.setTop (mkF m 35 #[.val (.ref r0), .val (.ref r1), .val (.int (0 : Int32)), .val (.int (1 : Int32)), .val .null, .unset] [(.int (0 : Int32)), (.ref r1)])) t
    refine XS.iloadN X4_2.here hx rfl (hb hby d4_35) rfl ?_
    exact k
  obtain ⟨_, _, ⟨T4_3, L4_3, k4_3, n4_3⟩, -, X4_3, ⟨Lc4_3, hQ4_3, l4_3, y4_3, z4_3⟩, st4_3⟩ := Jvm.LawKit.callS X4_2 hx (y := (⟨"java/lang/StringUTF16", "compress", "([CII)[B"⟩ : MethodName)) hown (mvT hZ (hw _ (List.mem_of_getElem? (i := 36) rfl))) (mvT hZ (hw _ (List.mem_of_getElem? (i := 37) rfl))) (mvT hZ (hw _ (List.mem_of_getElem? (i := 38) rfl))) (mvT hZ (hw _ (List.mem_of_getElem? (i := 39) rfl))) (by decide) (backOf (W := 0) (rmCP_1 l Z a0 hw [] r1 kc x h0 n0 Z0 V_1 le_x) hZ (hw _ (List.mem_of_getElem? (i := 39) rfl)) (hw _ (List.mem_of_getElem? (i := 38) rfl)) (by decide) (by decide)) (g := (mkF m 36 #[.val (.ref r0), .val (.ref r1), .val (.int (0 : Int32)), .val (.int (1 : Int32)), .val .null, .unset] [(.int (1 : Int32)), (.int (0 : Int32)), (.ref r1)])) rfl (by rw [hml]; rfl) (argsL := [(.ref r1), (.int (0 : Int32)), (.int (1 : Int32))]) (rest := []) (lenOf pd4_0 rfl) rfl (by show 2 * 0 + _ ≤ _; exact Nat.le_of_eq rfl) (hb hby d4_36) (fun _ _ => ⟨rfl, e4_2, (by decide : 0 + 1 ≤ _), (by decide : 0 + 1 ≤ _)⟩)
  dsimp only [Pt.U, Pt.locs, Pt.cells, Pt.slots] at X4_3 l4_3 y4_3 z4_3 st4_3 hQ4_3
  subst l4_3 y4_3 z4_3
  obtain ⟨bc4_3, kb4_3, rfl, N4_3q, K4_3, Vb4_3, hk4_3, zb4_3⟩ := hQ4_3
  have N4_3 := Fr.app N0 N4_3q
  have ne_r0_bc4_3 : r0 ≠ bc4_3 := Nat.ne_of_lt (Nat.lt_of_lt_of_le E.lt zb4_3)
  have ne_r1_bc4_3 : r1 ≠ bc4_3 := Nat.ne_of_lt (Nat.lt_of_lt_of_le V_1.lt zb4_3)
  have g_bc4_3 : n0 ≤ bc4_3 := Nat.le_trans Z0 zb4_3
  have sz_bc4_3 : h0.size ≤ bc4_3 := Nat.le_trans (Keep.refl h0 [r0]).1 zb4_3
  refine own_fw st4_3 ?_
  refine own_fw (A := T4_3.setTop (mkF m 45 #[.val (.ref r0), .val (.ref r1), .val (.int (0 : Int32)), .val (.int (1 : Int32)), .val .null, .val (.ref bc4_3)] [(.int (1 : Int32)), (.ref bc4_3), (.ref r0)])) (fun t k => ?_) ?_
  · show Steps p.tables e below (T4_3.setTop (mkF m 39 #[.val (.ref r0), .val (.ref r1), .val (.int (0 : Int32)), .val (.int (1 : Int32)), .val .null, .unset] [(.ref bc4_3)])) t
    refine XS.astore X4_3.here hx rfl (hb hby d4_39) rfl rfl (l' := #[.val (.ref r0), .val (.ref r1), .val (.int (0 : Int32)), .val (.int (1 : Int32)), .val .null, .val (.ref bc4_3)]) rfl ?_
    show Steps p.tables e below (T4_3.setTop (mkF m 41 #[.val (.ref r0), .val (.ref r1), .val (.int (0 : Int32)), .val (.int (1 : Int32)), .val .null, .val (.ref bc4_3)] [])) t
    refine XS.aloadN X4_3.here hx rfl (hb hby d4_41) rfl rfl ?_
    show Steps p.tables e below (T4_3.setTop (mkF m 42 #[.val (.ref r0), .val (.ref r1), .val (.int (0 : Int32)), .val (.int (1 : Int32)), .val .null, .val (.ref bc4_3)] [(.ref r0)])) t
    refine XS.aload X4_3.here hx rfl (hb hby d4_42) rfl rfl ?_
    show Steps p.tables e below (T4_3.setTop (mkF m 44 #[.val (.ref r0), .val (.ref r1), .val (.int (0 : Int32)), .val (.int (1 : Int32)), .val .null, .val (.ref bc4_3)] [(.ref bc4_3), (.ref r0)])) t
    refine XS.iloadN X4_3.here hx rfl (hb hby d4_44) rfl ?_
    exact k
  obtain ⟨_, _, ⟨T4_4, L4_4, k4_4, n4_4⟩, -, X4_4, ⟨Lc4_4, hQ4_4, l4_4, y4_4, z4_4⟩, st4_4⟩ := Jvm.LawKit.callS X4_3 hx (y := (⟨"java/lang/StringUTF16", "coderFromArrayLen", "([BI)B"⟩ : MethodName)) hown (mvT hZ (hw _ (List.mem_of_getElem? (i := 43) rfl))) (mvT hZ (hw _ (List.mem_of_getElem? (i := 44) rfl))) (mvT hZ (hw _ (List.mem_of_getElem? (i := 38) rfl))) (mvT hZ (hw _ (List.mem_of_getElem? (i := 45) rfl))) (by decide) (backOf (W := 1) (rmCF_1 l Z a0 hw [] bc4_3 kb4_3 x T4_3.heap n0 (Nat.le_trans Z0 K4_3.1) Vb4_3) hZ (hw _ (List.mem_of_getElem? (i := 45) rfl)) (hw _ (List.mem_of_getElem? (i := 38) rfl)) (by decide) (by decide)) (g := (mkF m 45 #[.val (.ref r0), .val (.ref r1), .val (.int (0 : Int32)), .val (.int (1 : Int32)), .val .null, .val (.ref bc4_3)] [(.int (1 : Int32)), (.ref bc4_3), (.ref r0)])) rfl (by rw [hml]; rfl) (argsL := [(.ref bc4_3), (.int (1 : Int32))]) (rest := [(.ref r0)]) (lenOf pd4_1 rfl) rfl (by show 2 * 0 + _ ≤ _; exact Nat.le_of_eq rfl) (hb hby d4_45) (fun _ _ => ⟨rfl, rfl, (by decide : 1 + 0 ≤ _), (by decide : 1 + 0 ≤ _)⟩)
  dsimp only [Pt.U, Pt.locs, Pt.cells, Pt.slots] at X4_4 l4_4 y4_4 z4_4 st4_4 hQ4_4
  subst l4_4 y4_4 z4_4
  obtain ⟨rfl, N4_4q, e4_4⟩ := hQ4_4
  have N4_4 := Fr.app N4_3 N4_4q
  refine own_fw st4_4 ?_
  obtain ⟨T4_5, h4_5, X4_5, e4_5, W4_5, st4_5⟩ := putFN X4_4 hx hZ hown (hw _ (List.mem_of_getElem? (i := 28) rfl)) Via.refl e4_4 (Scode.keep K4_3 (fun q => nomatch q)) (E.keep K4_3) (Or.inr ⟨(hw _ (List.mem_of_getElem? (i := 24) rfl)), rfl, hnm⟩) (hw _ (List.mem_of_getElem? (i := 8) rfl)) (ty := .byte) (v' := (.int (nar .byte (0 : Int32)))) (by decide) rfl (fits_nar_byte _) (g := (mkF m 48 #[.val (.ref r0), .val (.ref r1), .val (.int (0 : Int32)), .val (.int (1 : Int32)), .val .null, .val (.ref bc4_3)] [(.int (0 : Int32)), (.ref r0)])) rfl rfl (hb hby d4_48)
  have Fw4_5 := (Scode.keep K4_3 (fun q => nomatch q)).same W4_5
  have N4_5 := Fr.snoc X4_5 N4_4 g_r0
  refine own_fw st4_5 ?_
  refine own_fw (A := T4_5.setTop (mkF m 54 #[.val (.ref r0), .val (.ref r1), .val (.int (0 : Int32)), .val (.int (1 : Int32)), .val .null, .val (.ref bc4_3)] [(.ref bc4_3), (.ref r0)])) (fun t k => ?_) ?_
  · show Steps p.tables e below (T4_5.setTop (mkF m 51 #[.val (.ref r0), .val (.ref r1), .val (.int (0 : Int32)), .val (.int (1 : Int32)), .val .null, .val (.ref bc4_3)] [])) t
    refine XS.aloadN X4_5.here hx rfl (hb hby d4_51) rfl rfl ?_
    show Steps p.tables e below (T4_5.setTop (mkF m 52 #[.val (.ref r0), .val (.ref r1), .val (.int (0 : Int32)), .val (.int (1 : Int32)), .val .null, .val (.ref bc4_3)] [(.ref r0)])) t
    refine XS.aload X4_5.here hx rfl (hb hby d4_52) rfl rfl ?_
    exact k
  obtain ⟨T4_6, h4_6, X4_6, e4_6, W4_6, st4_6⟩ := putF X4_5 hx hZ hown (host := "") (Or.inl (hw _ (List.mem_of_getElem? (i := 27) rfl))) Via.refl e4_5 ((Svalu.keep K4_3 (fun q => nomatch q)).other W4_5 (Or.inr (slot_ne (Or.inr (hw _ (List.mem_of_getElem? (i := 23) rfl))) (Or.inr (hw _ (List.mem_of_getElem? (i := 24) rfl))) (by decide) (t := (.array .byte)) (t' := .byte) (by decide) (by decide)))) ((E.keep K4_3).wr W4_5) (Or.inr ⟨(hw _ (List.mem_of_getElem? (i := 23) rfl)), rfl, hnm⟩) (hw _ (List.mem_of_getElem? (i := 8) rfl)) (ty := (.array .byte)) (by decide) rfl rfl (g := (mkF m 54 #[.val (.ref r0), .val (.ref r1), .val (.int (0 : Int32)), .val (.int (1 : Int32)), .val .null, .val (.ref bc4_3)] [(.ref bc4_3), (.ref r0)])) rfl rfl (hb hby d4_54)
  have Fw4_6 := ((Svalu.keep K4_3 (fun q => nomatch q)).other W4_5 (Or.inr (slot_ne (Or.inr (hw _ (List.mem_of_getElem? (i := 23) rfl))) (Or.inr (hw _ (List.mem_of_getElem? (i := 24) rfl))) (by decide) (t := (.array .byte)) (t' := .byte) (by decide) (by decide)))).same W4_6
  have N4_6 := Fr.snoc X4_6 N4_5 g_r0
  refine own_fw st4_6 ?_
  obtain ⟨fs, hr, hrun, hended, hW, hsame⟩ := X4_6.leave (v := none) (fun _ => rfl) (BodyLoose.notSynchronized Bd)
  refine ⟨_, _, X4_6.returnOut hx Bd.returns (hb hby d4_57) hr, hrun, hended, _, _, rfl, ?_, ⟨_, rfl⟩, hW, hsame.mono (by decide) (by decide)⟩
  have eh : (T4_6.setFrames fs).heap = h4_6 := e4_6
  rw [eh]
  exact ⟨bc4_3, kb4_3, rfl, N4_6, ((((Keep.refl h0 [r0]).trans K4_3 all0).wr W4_5 (Or.inl (List.mem_of_getElem? (i := 0) rfl))).wr W4_6 (Or.inl (List.mem_of_getElem? (i := 0) rfl))), (((E.keep K4_3).wr W4_5).wr W4_6), Fw4_6, own_fc (Fw4_5.other W4_6 (Or.inr (slot_ne (Or.inr (hw _ (List.mem_of_getElem? (i := 24) rfl))) (Or.inr (hw _ (List.mem_of_getElem? (i := 23) rfl))) (by decide) (t := .byte) (t' := (.array .byte)) (by decide) (by decide)))) (by decide), (((Shash.keep K4_3 (fun q => nomatch q)).other W4_5 (Or.inr (slot_ne (Or.inl (hw _ (List.mem_of_getElem? (i := 63) rfl))) (Or.inr (hw _ (List.mem_of_getElem? (i := 24) rfl))) (by decide) (t := .int) (t' := .byte) (by decide) (by decide)))).other W4_6 (Or.inr (slot_ne (Or.inl (hw _ (List.mem_of_getElem? (i := 63) rfl))) (Or.inr (hw _ (List.mem_of_getElem? (i := 23) rfl))) (by decide) (t := .int) (t' := (.array .byte)) (by decide) (by decide)))), (((Shz.keep K4_3 (fun q => nomatch q)).other W4_5 (Or.inr (slot_ne (Or.inl (hw _ (List.mem_of_getElem? (i := 65) rfl))) (Or.inr (hw _ (List.mem_of_getElem? (i := 24) rfl))) (by decide) (t := .boolean) (t' := .byte) (by decide) (by decide)))).other W4_6 (Or.inr (slot_ne (Or.inl (hw _ (List.mem_of_getElem? (i := 65) rfl))) (Or.inr (hw _ (List.mem_of_getElem? (i := 23) rfl))) (by decide) (t := .boolean) (t' := (.array .byte)) (by decide) (by decide)))), ((Vb4_3.other W4_5 (Ne.symm ne_r0_bc4_3)).other W4_6 (Ne.symm ne_r0_bc4_3)), hk4_3, sz_bc4_3⟩
set_option maxRecDepth 65536 in
set_option maxHeartbeats 40000000 in
theorem rmS1_1 (l : Launch) (Z : State) (a0 : Array Value) (hw : ∀ d ∈ tables_1, d.before a0 Z = true) (ws : List Jvm.Cond) (r0 : Addr) (r1 : Addr) (kc : ClassId) (x : Int32) (cc : Int32) (h0 : Heap) (n0 : Nat) (Z0 : n0 ≤ h0.size) (E : Exa Z h0 r0 "java/lang/String") (Svalu : Fld Z h0 r0 "java/lang/String" "value" "[B" .null) (Scode : Fld Z h0 r0 "java/lang/String" "coder" "B" (.int 0)) (Shash : Fld Z h0 r0 "java/lang/String" "hash" "I" (.int 0)) (Shz : Fld Z h0 r0 "java/lang/String" "hashIsZero" "Z" (.int 0)) (V_1 : Arv Z h0 r1 kc .char (1 : Int32) [(.int x)] (.int 0)) (hne : r1 ≠ r0) (g_r0 : n0 ≤ r0) (le_x : ¬ (255 : Int32) < x) (O_0 : Old Z n0 h0) (S_c : Sta Z Z.heap "java/lang/String" "COMPACT_STRINGS" "Z" (.int cc)) (hcc : ¬ cc = (0 : Int32)) :
    MetFree l (⟨"java/lang/String", "<init>", "([C)V"⟩ : MethodName) (head1 (Jvm.Cond.code (⟨"java/lang/String", "<init>", "([C)V"⟩ : MethodName) jdk_42_method_3_code 2 none :: ws) ({ frames := 3, cells := 1, slots := 1, locals := 52 } : Room)) (fun a U => a = #[(.ref r0), (.ref r1)] ∧ Z.Warmed39 U.vm ∧ U.heap = h0) (fun _ _ _ _ _ => True) (fun _ U o U' => ∃ v L, o = .returned v ∧ Q3 Z r0 (1 : Int32) [(.int (nar .byte (x.toInt8.toInt32)))] h0 n0 v U'.heap L ∧ FrameEnd U o U' L ({ frames := 3, cells := 1, slots := 1, locals := 52 } : Room).cells ({ frames := 3, cells := 1, slots := 1, locals := 52 } : Room).slots) := by
  refine MetFree.of_bodySF (plainFor_of_name pn3) hisR ?_
  intro p e s m args below meth c s₁ Bd hml0 hP hK
  obtain ⟨rfl, hZ, hh⟩ := hP
  have hx := Bd.exec
  have hby := Bd.bytes
  have hml : c.maxLocals = 2 := hml0
  have hown : s.vm.findClass "java/lang/String" = some m.cls := findClass_of_methodNamed Bd.named
  have hnm := (name_of_methodNamed Bd.named Bd.method).1
  have X0 : Stand p l e ({ frames := 3, cells := 1, slots := 1, locals := 52 } : Room) s m #[(.ref r0), (.ref r1)] below meth c s₁ [] 0 0 := Stand.of_body Bd
  have e0 : s₁.heap = h0 := by rw [← hh, Bd.state]; rfl
  have N0 := Fr.nil n0
  refine own_fw (A := s₁.setTop (mkF m 0 #[.val (.ref r0), .val (.ref r1)] [])) (fun t k => castTop (ef3 m r0 r1) k) ?_
  refine own_fw (A := s₁.setTop (mkF m 4 #[.val (.ref r0), .val (.ref r1)] [(.ref r1), (.int (0 : Int32)), (.ref r1), (.ref r0)])) (fun t k => ?_) ?_
  · show Steps p.tables e below (s₁.setTop (mkF m 0 #[.val (.ref r0), .val (.ref r1)] [])) t
    refine XS.aloadN X0.here hx rfl (hb hby d3_0) rfl rfl ?_
    show Steps p.tables e below (s₁.setTop (mkF m 1 #[.val (.ref r0), .val (.ref r1)] [(.ref r0)])) t
    refine XS.aloadN X0.here hx rfl (hb hby d3_1) rfl rfl ?_
    show Steps p.tables e below (s₁.setTop (mkF m 2 #[.val (.ref r0), .val (.ref r1)] [(.ref r1), (.ref r0)])) t
    refine XS.iconst X0.here hx rfl (hb hby d3_2) ?_
    show Steps p.tables e below (s₁.setTop (mkF m 3 #[.val (.ref r0), .val (.ref r1)] [(.int (0 : Int32)), (.ref r1), (.ref r0)])) t
    refine XS.aloadN X0.here hx rfl (hb hby d3_3) rfl rfl ?_
    exact k
  obtain ⟨cl3_1, Ar3_1, q3_1, S3_1, Ng3_1, Hs3_1, G3_1⟩ := id V_1
  have st3_1 := X0.arraylength hx (by rw [e0]; exact Ar3_1.1) (State.isArrayOf_alike hZ.alike Ar3_1.2.1) (g := (mkF m 4 #[.val (.ref r0), .val (.ref r1)] [(.ref r1), (.int (0 : Int32)), (.ref r1), (.ref r0)])) rfl rfl (hb hby d3_4)
  rw [len_of S3_1 Ng3_1] at st3_1
  refine own_fw st3_1 ?_
  refine own_fw (A := s₁.setTop (mkF m 6 #[.val (.ref r0), .val (.ref r1)] [.null, (.int (1 : Int32)), (.int (0 : Int32)), (.ref r1), (.ref r0)])) (fun t k => ?_) ?_
  · show Steps p.tables e below (s₁.setTop (mkF m 5 #[.val (.ref r0), .val (.ref r1)] [(.int (1 : Int32)), (.int (0 : Int32)), (.ref r1), (.ref r0)])) t
    refine XS.aconstNull X0.here hx rfl (hb hby d3_5) ?_
    exact k
  obtain ⟨_, _, ⟨T3_2, L3_2, k3_2, n3_2⟩, -, X3_2, ⟨Lc3_2, hQ3_2, l3_2, y3_2, z3_2⟩, st3_2⟩ := X0.specialBack hx (y := (⟨"java/lang/String", "<init>", "([CIILjava/lang/Void;)V"⟩ : MethodName)) rfl hown (mvT hZ (hw _ (List.mem_of_getElem? (i := 14) rfl))) (mvT hZ (hw _ (List.mem_of_getElem? (i := 15) rfl))) (mvT hZ (hw _ (List.mem_of_getElem? (i := 17) rfl))) (by decide) (backOf (W := 0) (rmS4_1 l Z a0 hw [] r0 r1 kc x cc h0 n0 Z0 E Svalu Scode Shash Shz V_1 hne g_r0 le_x O_0 S_c hcc) hZ (hw _ (List.mem_of_getElem? (i := 17) rfl)) (hw _ (List.mem_of_getElem? (i := 9) rfl)) (by decide) (by decide)) (g := (mkF m 6 #[.val (.ref r0), .val (.ref r1)] [.null, (.int (1 : Int32)), (.int (0 : Int32)), (.ref r1), (.ref r0)])) rfl (by rw [hml]; rfl) (Steps.refl _) (a := r0) (argsL := [(.ref r1), (.int (0 : Int32)), (.int (1 : Int32)), .null]) (rest := []) (lenOf pd3_0 rfl) rfl (by show 2 * 0 + _ ≤ _; exact Nat.le_of_eq rfl) (hb hby d3_6) (fun _ _ => ⟨rfl, e0, (by decide : 0 + 1 ≤ _), (by decide : 0 + 1 ≤ _)⟩)
  dsimp only [Pt.U, Pt.locs, Pt.cells, Pt.slots] at X3_2 l3_2 y3_2 z3_2 st3_2 hQ3_2
  subst l3_2 y3_2 z3_2
  obtain ⟨bc3_2, kb3_2, rfl, N3_2q, K3_2, E3_2, Svalu3_2, Scode3_2, Shash3_2, Shz3_2, Vb3_2, hk3_2, zb3_2⟩ := hQ3_2
  have N3_2 := Fr.app N0 N3_2q
  have ne_r0_bc3_2 : r0 ≠ bc3_2 := Nat.ne_of_lt (Nat.lt_of_lt_of_le E.lt zb3_2)
  have ne_r1_bc3_2 : r1 ≠ bc3_2 := Nat.ne_of_lt (Nat.lt_of_lt_of_le V_1.lt zb3_2)
  have g_bc3_2 : n0 ≤ bc3_2 := Nat.le_trans Z0 zb3_2
  have sz_bc3_2 : h0.size ≤ bc3_2 := Nat.le_trans (Keep.refl h0 [r0]).1 zb3_2
  refine own_fw (fun t k => st3_2.trans k) ?_
  obtain ⟨fs, hr, hrun, hended, hW, hsame⟩ := X3_2.leave (v := none) (fun _ => rfl) (BodyLoose.notSynchronized Bd)
  refine ⟨_, _, X3_2.returnOut hx Bd.returns (hb hby d3_9) hr, hrun, hended, _, _, rfl, ?_, ⟨_, rfl⟩, hW, hsame.mono (by decide) (by decide)⟩
  have eh : (T3_2.setFrames fs).heap = T3_2.heap := rfl
  rw [eh]
  exact ⟨bc3_2, kb3_2, rfl, N3_2, ((Keep.refl h0 [r0]).trans K3_2 (allS (Or.inl (List.mem_of_getElem? (i := 0) rfl)) all0)), E3_2, Svalu3_2, Scode3_2, Shash3_2, Shz3_2, Vb3_2, hk3_2, sz_bc3_2⟩
set_option maxRecDepth 65536 in
set_option maxHeartbeats 40000000 in
theorem rmS4_2 (l : Launch) (Z : State) (a0 : Array Value) (hw : ∀ d ∈ tables_1, d.before a0 Z = true) (ws : List Jvm.Cond) (r0 : Addr) (r1 : Addr) (kc : ClassId) (x : Int32) (y : Int32) (cc : Int32) (h0 : Heap) (n0 : Nat) (Z0 : n0 ≤ h0.size) (E : Exa Z h0 r0 "java/lang/String") (Svalu : Fld Z h0 r0 "java/lang/String" "value" "[B" .null) (Scode : Fld Z h0 r0 "java/lang/String" "coder" "B" (.int 0)) (Shash : Fld Z h0 r0 "java/lang/String" "hash" "I" (.int 0)) (Shz : Fld Z h0 r0 "java/lang/String" "hashIsZero" "Z" (.int 0)) (V_1 : Arv Z h0 r1 kc .char (2 : Int32) [(.int x), (.int y)] (.int 0)) (hne : r1 ≠ r0) (g_r0 : n0 ≤ r0) (le_x : ¬ (255 : Int32) < x) (le_y : ¬ (255 : Int32) < y) (O_0 : Old Z n0 h0) (S_c : Sta Z Z.heap "java/lang/String" "COMPACT_STRINGS" "Z" (.int cc)) (hcc : ¬ cc = (0 : Int32)) :
    MetFree l (⟨"java/lang/String", "<init>", "([CIILjava/lang/Void;)V"⟩ : MethodName) (head1 (Jvm.Cond.code (⟨"java/lang/String", "<init>", "([CIILjava/lang/Void;)V"⟩ : MethodName) jdk_42_method_149_code 6 none :: ws) ({ frames := 2, cells := 1, slots := 2, locals := 35 } : Room)) (fun a U => a = #[(.ref r0), (.ref r1), (.int (0 : Int32)), (.int (2 : Int32)), .null] ∧ Z.Warmed39 U.vm ∧ U.heap = h0) (fun _ _ _ _ _ => True) (fun _ U o U' => ∃ v L, o = .returned v ∧ Q4 Z r0 (2 : Int32) [(.int (nar .byte (x.toInt8.toInt32))), (.int (nar .byte (y.toInt8.toInt32)))] h0 n0 v U'.heap L ∧ FrameEnd U o U' L ({ frames := 2, cells := 1, slots := 2, locals := 35 } : Room).cells ({ frames := 2, cells := 1, slots := 2, locals := 35 } : Room).slots) := by
  refine MetFree.of_bodySF (plainFor_of_name pn4) hisR ?_
  intro p e s m args below meth c s₁ Bd hml0 hP hK
  obtain ⟨rfl, hZ, hh⟩ := hP
  have hx := Bd.exec
  have hby := Bd.bytes
  have hml : c.maxLocals = 6 := hml0
  have hown : s.vm.findClass "java/lang/String" = some m.cls := findClass_of_methodNamed Bd.named
  have hnm := (name_of_methodNamed Bd.named Bd.method).1
  have X0 : Stand p l e ({ frames := 2, cells := 1, slots := 2, locals := 35 } : Room) s m #[(.ref r0), (.ref r1), (.int (0 : Int32)), (.int (2 : Int32)), .null] below meth c s₁ [] 0 0 := Stand.of_body Bd
  have e0 : s₁.heap = h0 := by rw [← hh, Bd.state]; rfl
  have N0 := Fr.nil n0
  refine own_fw (A := s₁.setTop (mkF m 0 #[.val (.ref r0), .val (.ref r1), .val (.int (0 : Int32)), .val (.int (2 : Int32)), .val .null, .unset] [])) (fun t k => castTop (ef4 m r0 r1 (0 : Int32) (2 : Int32)) k) ?_
  refine own_fw (A := s₁.setTop (mkF m 1 #[.val (.ref r0), .val (.ref r1), .val (.int (0 : Int32)), .val (.int (2 : Int32)), .val .null, .unset] [(.ref r0)])) (fun t k => ?_) ?_
  · show Steps p.tables e below (s₁.setTop (mkF m 0 #[.val (.ref r0), .val (.ref r1), .val (.int (0 : Int32)), .val (.int (2 : Int32)), .val .null, .unset] [])) t
    refine XS.aloadN X0.here hx rfl (hb hby d4_0) rfl rfl ?_
    exact k
  obtain ⟨T4_1, X4_1, e4_1, st4_1⟩ := initO X0 hx hZ hown (hw _ (List.mem_of_getElem? (i := 18) rfl)) (hw _ (List.mem_of_getElem? (i := 19) rfl)) (hw _ (List.mem_of_getElem? (i := 20) rfl)) e0 (g := (mkF m 1 #[.val (.ref r0), .val (.ref r1), .val (.int (0 : Int32)), .val (.int (2 : Int32)), .val .null, .unset] [(.ref r0)])) rfl (by rw [hml]; rfl) rfl (hb hby d4_1) (by decide) (W := 0) (by show 2 * 0 + _ ≤ _; exact Nat.le_of_eq rfl) (by decide)
  refine own_fw st4_1 ?_
  refine own_fw (A := T4_1.setTop (mkF m 27 #[.val (.ref r0), .val (.ref r1), .val (.int (0 : Int32)), .val (.int (2 : Int32)), .val .null, .unset] [])) (fun t k => ?_) ?_
  · show Steps p.tables e below (T4_1.setTop (mkF m 4 #[.val (.ref r0), .val (.ref r1), .val (.int (0 : Int32)), .val (.int (2 : Int32)), .val .null, .unset] [])) t
    refine XS.iloadN X4_1.here hx rfl (hb hby d4_4) rfl ?_
    show Steps p.tables e below (T4_1.setTop (mkF m 5 #[.val (.ref r0), .val (.ref r1), .val (.int (0 : Int32)), .val (.int (2 : Int32)), .val .null, .unset] [(.int (2 : Int32))])) t
    refine XS.ifYes X4_1.here hx rfl (pc0 := 5) (pc' := 27) rfl (hb hby d4_5) rfl ((if0 _ _).trans (feq (by decide : ¬ ((2 : Int32) = (0 : Int32)))).2) (by decide) (by decide) ?_
    exact k
  obtain ⟨T4_2, X4_2, e4_2, st4_2⟩ := getS2 X4_1 hx hZ hown (host := "") (Or.inl (hw _ (List.mem_of_getElem? (i := 35) rfl))) Via.refl e4_1 (S_c.ext O_0.2) (g := (mkF m 27 #[.val (.ref r0), .val (.ref r1), .val (.int (0 : Int32)), .val (.int (2 : Int32)), .val .null, .unset] [])) rfl (hb hby d4_27)
  refine own_fw st4_2 ?_
  refine own_fw (A := T4_2.setTop (mkF m 36 #[.val (.ref r0), .val (.ref r1), .val (.int (0 : Int32)), .val (.int (2 : Int32)), .val .null, .unset] [(.int (2 : Int32)), (.int (0 : Int32)), (.ref r1)])) (fun t k => ?_) ?_
  · show Steps p.tables e below (T4_2.setTop (mkF m 30 #[.val (.ref r0), .val (.ref r1), .val (.int (0 : Int32)), .val (.int (2 : Int32)), .val .null, .unset] [(.int cc)])) t
    refine XS.ifNo X4_2.here hx rfl (hb hby d4_30) rfl ((if0 _ _).trans (feq hcc).1) ?_
    show Steps p.tables e below (T4_2.setTop (mkF m 33 #[.val (.ref r0), .val (.ref r1), .val (.int (0 : Int32)), .val (.int (2 : Int32)), .val .null, .unset] [])) t
    refine XS.aloadN X4_2.here hx rfl (hb hby d4_33) rfl rfl ?_
    show Steps p.tables e below (T4_2.setTop (mkF m 34 #[.val (.ref r0), .val (.ref r1), .val (.int (0 : Int32)), .val (.int (2 : Int32)), .val .null, .unset] [(.ref r1)])) t
    refine XS.iloadN X4_2.here hx rfl (hb hby d4_34) rfl ?_
    show Steps p.tables e below (T4_2.setTop (mkF m 35 #[.val (.ref r0), .val (.ref r1), .val (.int (0 : Int32)), .val (.int (2 : Int32)), .val .null, .unset] [(.int (0 : Int32)), (.ref r1)])) t
    refine XS.iloadN X4_2.here hx rfl (hb hby d4_35) rfl ?_
    exact k
  obtain ⟨_, _, ⟨T4_3, L4_3, k4_3, n4_3⟩, -, X4_3, ⟨Lc4_3, hQ4_3, l4_3, y4_3, z4_3⟩, st4_3⟩ := Jvm.LawKit.callS X4_2 hx (y := (⟨"java/lang/StringUTF16", "compress", "([CII)[B"⟩ : MethodName)) hown (mvT hZ (hw _ (List.mem_of_getElem? (i := 36) rfl))) (mvT hZ (hw _ (List.mem_of_getElem? (i := 37) rfl))) (mvT hZ (hw _ (List.mem_of_getElem? (i := 38) rfl))) (mvT hZ (hw _ (List.mem_of_getElem? (i := 39) rfl))) (by decide) (backOf (W := 0) (rmCP_2 l Z a0 hw [] r1 kc x y h0 n0 Z0 V_1 le_x le_y) hZ (hw _ (List.mem_of_getElem? (i := 39) rfl)) (hw _ (List.mem_of_getElem? (i := 38) rfl)) (by decide) (by decide)) (g := (mkF m 36 #[.val (.ref r0), .val (.ref r1), .val (.int (0 : Int32)), .val (.int (2 : Int32)), .val .null, .unset] [(.int (2 : Int32)), (.int (0 : Int32)), (.ref r1)])) rfl (by rw [hml]; rfl) (argsL := [(.ref r1), (.int (0 : Int32)), (.int (2 : Int32))]) (rest := []) (lenOf pd4_0 rfl) rfl (by show 2 * 0 + _ ≤ _; exact Nat.le_of_eq rfl) (hb hby d4_36) (fun _ _ => ⟨rfl, e4_2, (by decide : 0 + 1 ≤ _), (by decide : 0 + 2 ≤ _)⟩)
  dsimp only [Pt.U, Pt.locs, Pt.cells, Pt.slots] at X4_3 l4_3 y4_3 z4_3 st4_3 hQ4_3
  subst l4_3 y4_3 z4_3
  obtain ⟨bc4_3, kb4_3, rfl, N4_3q, K4_3, Vb4_3, hk4_3, zb4_3⟩ := hQ4_3
  have N4_3 := Fr.app N0 N4_3q
  have ne_r0_bc4_3 : r0 ≠ bc4_3 := Nat.ne_of_lt (Nat.lt_of_lt_of_le E.lt zb4_3)
  have ne_r1_bc4_3 : r1 ≠ bc4_3 := Nat.ne_of_lt (Nat.lt_of_lt_of_le V_1.lt zb4_3)
  have g_bc4_3 : n0 ≤ bc4_3 := Nat.le_trans Z0 zb4_3
  have sz_bc4_3 : h0.size ≤ bc4_3 := Nat.le_trans (Keep.refl h0 [r0]).1 zb4_3
  refine own_fw st4_3 ?_
  refine own_fw (A := T4_3.setTop (mkF m 45 #[.val (.ref r0), .val (.ref r1), .val (.int (0 : Int32)), .val (.int (2 : Int32)), .val .null, .val (.ref bc4_3)] [(.int (2 : Int32)), (.ref bc4_3), (.ref r0)])) (fun t k => ?_) ?_
  · show Steps p.tables e below (T4_3.setTop (mkF m 39 #[.val (.ref r0), .val (.ref r1), .val (.int (0 : Int32)), .val (.int (2 : Int32)), .val .null, .unset] [(.ref bc4_3)])) t
    refine XS.astore X4_3.here hx rfl (hb hby d4_39) rfl rfl (l' := #[.val (.ref r0), .val (.ref r1), .val (.int (0 : Int32)), .val (.int (2 : Int32)), .val .null, .val (.ref bc4_3)]) rfl ?_
    show Steps p.tables e below (T4_3.setTop (mkF m 41 #[.val (.ref r0), .val (.ref r1), .val (.int (0 : Int32)), .val (.int (2 : Int32)), .val .null, .val (.ref bc4_3)] [])) t
    refine XS.aloadN X4_3.here hx rfl (hb hby d4_41) rfl rfl ?_
    show Steps p.tables e below (T4_3.setTop (mkF m 42 #[.val (.ref r0), .val (.ref r1), .val (.int (0 : Int32)), .val (.int (2 : Int32)), .val .null, .val (.ref bc4_3)] [(.ref r0)])) t
    refine XS.aload X4_3.here hx rfl (hb hby d4_42) rfl rfl ?_
    show Steps p.tables e below (T4_3.setTop (mkF m 44 #[.val (.ref r0), .val (.ref r1), .val (.int (0 : Int32)), .val (.int (2 : Int32)), .val .null, .val (.ref bc4_3)] [(.ref bc4_3), (.ref r0)])) t
    refine XS.iloadN X4_3.here hx rfl (hb hby d4_44) rfl ?_
    exact k
  obtain ⟨_, _, ⟨T4_4, L4_4, k4_4, n4_4⟩, -, X4_4, ⟨Lc4_4, hQ4_4, l4_4, y4_4, z4_4⟩, st4_4⟩ := Jvm.LawKit.callS X4_3 hx (y := (⟨"java/lang/StringUTF16", "coderFromArrayLen", "([BI)B"⟩ : MethodName)) hown (mvT hZ (hw _ (List.mem_of_getElem? (i := 43) rfl))) (mvT hZ (hw _ (List.mem_of_getElem? (i := 44) rfl))) (mvT hZ (hw _ (List.mem_of_getElem? (i := 38) rfl))) (mvT hZ (hw _ (List.mem_of_getElem? (i := 45) rfl))) (by decide) (backOf (W := 1) (rmCF_2 l Z a0 hw [] bc4_3 kb4_3 x y T4_3.heap n0 (Nat.le_trans Z0 K4_3.1) Vb4_3) hZ (hw _ (List.mem_of_getElem? (i := 45) rfl)) (hw _ (List.mem_of_getElem? (i := 38) rfl)) (by decide) (by decide)) (g := (mkF m 45 #[.val (.ref r0), .val (.ref r1), .val (.int (0 : Int32)), .val (.int (2 : Int32)), .val .null, .val (.ref bc4_3)] [(.int (2 : Int32)), (.ref bc4_3), (.ref r0)])) rfl (by rw [hml]; rfl) (argsL := [(.ref bc4_3), (.int (2 : Int32))]) (rest := [(.ref r0)]) (lenOf pd4_1 rfl) rfl (by show 2 * 0 + _ ≤ _; exact Nat.le_of_eq rfl) (hb hby d4_45) (fun _ _ => ⟨rfl, rfl, (by decide : 1 + 0 ≤ _), (by decide : 2 + 0 ≤ _)⟩)
  dsimp only [Pt.U, Pt.locs, Pt.cells, Pt.slots] at X4_4 l4_4 y4_4 z4_4 st4_4 hQ4_4
  subst l4_4 y4_4 z4_4
  obtain ⟨rfl, N4_4q, e4_4⟩ := hQ4_4
  have N4_4 := Fr.app N4_3 N4_4q
  refine own_fw st4_4 ?_
  obtain ⟨T4_5, h4_5, X4_5, e4_5, W4_5, st4_5⟩ := putFN X4_4 hx hZ hown (hw _ (List.mem_of_getElem? (i := 28) rfl)) Via.refl e4_4 (Scode.keep K4_3 (fun q => nomatch q)) (E.keep K4_3) (Or.inr ⟨(hw _ (List.mem_of_getElem? (i := 24) rfl)), rfl, hnm⟩) (hw _ (List.mem_of_getElem? (i := 8) rfl)) (ty := .byte) (v' := (.int (nar .byte (0 : Int32)))) (by decide) rfl (fits_nar_byte _) (g := (mkF m 48 #[.val (.ref r0), .val (.ref r1), .val (.int (0 : Int32)), .val (.int (2 : Int32)), .val .null, .val (.ref bc4_3)] [(.int (0 : Int32)), (.ref r0)])) rfl rfl (hb hby d4_48)
  have Fw4_5 := (Scode.keep K4_3 (fun q => nomatch q)).same W4_5
  have N4_5 := Fr.snoc X4_5 N4_4 g_r0
  refine own_fw st4_5 ?_
  refine own_fw (A := T4_5.setTop (mkF m 54 #[.val (.ref r0), .val (.ref r1), .val (.int (0 : Int32)), .val (.int (2 : Int32)), .val .null, .val (.ref bc4_3)] [(.ref bc4_3), (.ref r0)])) (fun t k => ?_) ?_
  · show Steps p.tables e below (T4_5.setTop (mkF m 51 #[.val (.ref r0), .val (.ref r1), .val (.int (0 : Int32)), .val (.int (2 : Int32)), .val .null, .val (.ref bc4_3)] [])) t
    refine XS.aloadN X4_5.here hx rfl (hb hby d4_51) rfl rfl ?_
    show Steps p.tables e below (T4_5.setTop (mkF m 52 #[.val (.ref r0), .val (.ref r1), .val (.int (0 : Int32)), .val (.int (2 : Int32)), .val .null, .val (.ref bc4_3)] [(.ref r0)])) t
    refine XS.aload X4_5.here hx rfl (hb hby d4_52) rfl rfl ?_
    exact k
  obtain ⟨T4_6, h4_6, X4_6, e4_6, W4_6, st4_6⟩ := putF X4_5 hx hZ hown (host := "") (Or.inl (hw _ (List.mem_of_getElem? (i := 27) rfl))) Via.refl e4_5 ((Svalu.keep K4_3 (fun q => nomatch q)).other W4_5 (Or.inr (slot_ne (Or.inr (hw _ (List.mem_of_getElem? (i := 23) rfl))) (Or.inr (hw _ (List.mem_of_getElem? (i := 24) rfl))) (by decide) (t := (.array .byte)) (t' := .byte) (by decide) (by decide)))) ((E.keep K4_3).wr W4_5) (Or.inr ⟨(hw _ (List.mem_of_getElem? (i := 23) rfl)), rfl, hnm⟩) (hw _ (List.mem_of_getElem? (i := 8) rfl)) (ty := (.array .byte)) (by decide) rfl rfl (g := (mkF m 54 #[.val (.ref r0), .val (.ref r1), .val (.int (0 : Int32)), .val (.int (2 : Int32)), .val .null, .val (.ref bc4_3)] [(.ref bc4_3), (.ref r0)])) rfl rfl (hb hby d4_54)
  have Fw4_6 := ((Svalu.keep K4_3 (fun q => nomatch q)).other W4_5 (Or.inr (slot_ne (Or.inr (hw _ (List.mem_of_getElem? (i := 23) rfl))) (Or.inr (hw _ (List.mem_of_getElem? (i := 24) rfl))) (by decide) (t := (.array .byte)) (t' := .byte) (by decide) (by decide)))).same W4_6
  have N4_6 := Fr.snoc X4_6 N4_5 g_r0
  refine own_fw st4_6 ?_
  obtain ⟨fs, hr, hrun, hended, hW, hsame⟩ := X4_6.leave (v := none) (fun _ => rfl) (BodyLoose.notSynchronized Bd)
  refine ⟨_, _, X4_6.returnOut hx Bd.returns (hb hby d4_57) hr, hrun, hended, _, _, rfl, ?_, ⟨_, rfl⟩, hW, hsame.mono (by decide) (by decide)⟩
  have eh : (T4_6.setFrames fs).heap = h4_6 := e4_6
  rw [eh]
  exact ⟨bc4_3, kb4_3, rfl, N4_6, ((((Keep.refl h0 [r0]).trans K4_3 all0).wr W4_5 (Or.inl (List.mem_of_getElem? (i := 0) rfl))).wr W4_6 (Or.inl (List.mem_of_getElem? (i := 0) rfl))), (((E.keep K4_3).wr W4_5).wr W4_6), Fw4_6, own_fc (Fw4_5.other W4_6 (Or.inr (slot_ne (Or.inr (hw _ (List.mem_of_getElem? (i := 24) rfl))) (Or.inr (hw _ (List.mem_of_getElem? (i := 23) rfl))) (by decide) (t := .byte) (t' := (.array .byte)) (by decide) (by decide)))) (by decide), (((Shash.keep K4_3 (fun q => nomatch q)).other W4_5 (Or.inr (slot_ne (Or.inl (hw _ (List.mem_of_getElem? (i := 63) rfl))) (Or.inr (hw _ (List.mem_of_getElem? (i := 24) rfl))) (by decide) (t := .int) (t' := .byte) (by decide) (by decide)))).other W4_6 (Or.inr (slot_ne (Or.inl (hw _ (List.mem_of_getElem? (i := 63) rfl))) (Or.inr (hw _ (List.mem_of_getElem? (i := 23) rfl))) (by decide) (t := .int) (t' := (.array .byte)) (by decide) (by decide)))), (((Shz.keep K4_3 (fun q => nomatch q)).other W4_5 (Or.inr (slot_ne (Or.inl (hw _ (List.mem_of_getElem? (i := 65) rfl))) (Or.inr (hw _ (List.mem_of_getElem? (i := 24) rfl))) (by decide) (t := .boolean) (t' := .byte) (by decide) (by decide)))).other W4_6 (Or.inr (slot_ne (Or.inl (hw _ (List.mem_of_getElem? (i := 65) rfl))) (Or.inr (hw _ (List.mem_of_getElem? (i := 23) rfl))) (by decide) (t := .boolean) (t' := (.array .byte)) (by decide) (by decide)))), ((Vb4_3.other W4_5 (Ne.symm ne_r0_bc4_3)).other W4_6 (Ne.symm ne_r0_bc4_3)), hk4_3, sz_bc4_3⟩
set_option maxRecDepth 65536 in
set_option maxHeartbeats 40000000 in
theorem rmS1_2 (l : Launch) (Z : State) (a0 : Array Value) (hw : ∀ d ∈ tables_1, d.before a0 Z = true) (ws : List Jvm.Cond) (r0 : Addr) (r1 : Addr) (kc : ClassId) (x : Int32) (y : Int32) (cc : Int32) (h0 : Heap) (n0 : Nat) (Z0 : n0 ≤ h0.size) (E : Exa Z h0 r0 "java/lang/String") (Svalu : Fld Z h0 r0 "java/lang/String" "value" "[B" .null) (Scode : Fld Z h0 r0 "java/lang/String" "coder" "B" (.int 0)) (Shash : Fld Z h0 r0 "java/lang/String" "hash" "I" (.int 0)) (Shz : Fld Z h0 r0 "java/lang/String" "hashIsZero" "Z" (.int 0)) (V_1 : Arv Z h0 r1 kc .char (2 : Int32) [(.int x), (.int y)] (.int 0)) (hne : r1 ≠ r0) (g_r0 : n0 ≤ r0) (le_x : ¬ (255 : Int32) < x) (le_y : ¬ (255 : Int32) < y) (O_0 : Old Z n0 h0) (S_c : Sta Z Z.heap "java/lang/String" "COMPACT_STRINGS" "Z" (.int cc)) (hcc : ¬ cc = (0 : Int32)) :
    MetFree l (⟨"java/lang/String", "<init>", "([C)V"⟩ : MethodName) (head1 (Jvm.Cond.code (⟨"java/lang/String", "<init>", "([C)V"⟩ : MethodName) jdk_42_method_3_code 2 none :: ws) ({ frames := 3, cells := 1, slots := 2, locals := 52 } : Room)) (fun a U => a = #[(.ref r0), (.ref r1)] ∧ Z.Warmed39 U.vm ∧ U.heap = h0) (fun _ _ _ _ _ => True) (fun _ U o U' => ∃ v L, o = .returned v ∧ Q3 Z r0 (2 : Int32) [(.int (nar .byte (x.toInt8.toInt32))), (.int (nar .byte (y.toInt8.toInt32)))] h0 n0 v U'.heap L ∧ FrameEnd U o U' L ({ frames := 3, cells := 1, slots := 2, locals := 52 } : Room).cells ({ frames := 3, cells := 1, slots := 2, locals := 52 } : Room).slots) := by
  refine MetFree.of_bodySF (plainFor_of_name pn3) hisR ?_
  intro p e s m args below meth c s₁ Bd hml0 hP hK
  obtain ⟨rfl, hZ, hh⟩ := hP
  have hx := Bd.exec
  have hby := Bd.bytes
  have hml : c.maxLocals = 2 := hml0
  have hown : s.vm.findClass "java/lang/String" = some m.cls := findClass_of_methodNamed Bd.named
  have hnm := (name_of_methodNamed Bd.named Bd.method).1
  have X0 : Stand p l e ({ frames := 3, cells := 1, slots := 2, locals := 52 } : Room) s m #[(.ref r0), (.ref r1)] below meth c s₁ [] 0 0 := Stand.of_body Bd
  have e0 : s₁.heap = h0 := by rw [← hh, Bd.state]; rfl
  have N0 := Fr.nil n0
  refine own_fw (A := s₁.setTop (mkF m 0 #[.val (.ref r0), .val (.ref r1)] [])) (fun t k => castTop (ef3 m r0 r1) k) ?_
  refine own_fw (A := s₁.setTop (mkF m 4 #[.val (.ref r0), .val (.ref r1)] [(.ref r1), (.int (0 : Int32)), (.ref r1), (.ref r0)])) (fun t k => ?_) ?_
  · show Steps p.tables e below (s₁.setTop (mkF m 0 #[.val (.ref r0), .val (.ref r1)] [])) t
    refine XS.aloadN X0.here hx rfl (hb hby d3_0) rfl rfl ?_
    show Steps p.tables e below (s₁.setTop (mkF m 1 #[.val (.ref r0), .val (.ref r1)] [(.ref r0)])) t
    refine XS.aloadN X0.here hx rfl (hb hby d3_1) rfl rfl ?_
    show Steps p.tables e below (s₁.setTop (mkF m 2 #[.val (.ref r0), .val (.ref r1)] [(.ref r1), (.ref r0)])) t
    refine XS.iconst X0.here hx rfl (hb hby d3_2) ?_
    show Steps p.tables e below (s₁.setTop (mkF m 3 #[.val (.ref r0), .val (.ref r1)] [(.int (0 : Int32)), (.ref r1), (.ref r0)])) t
    refine XS.aloadN X0.here hx rfl (hb hby d3_3) rfl rfl ?_
    exact k
  obtain ⟨cl3_1, Ar3_1, q3_1, S3_1, Ng3_1, Hs3_1, G3_1⟩ := id V_1
  have st3_1 := X0.arraylength hx (by rw [e0]; exact Ar3_1.1) (State.isArrayOf_alike hZ.alike Ar3_1.2.1) (g := (mkF m 4 #[.val (.ref r0), .val (.ref r1)] [(.ref r1), (.int (0 : Int32)), (.ref r1), (.ref r0)])) rfl rfl (hb hby d3_4)
  rw [len_of S3_1 Ng3_1] at st3_1
  refine own_fw st3_1 ?_
  refine own_fw (A := s₁.setTop (mkF m 6 #[.val (.ref r0), .val (.ref r1)] [.null, (.int (2 : Int32)), (.int (0 : Int32)), (.ref r1), (.ref r0)])) (fun t k => ?_) ?_
  · show Steps p.tables e below (s₁.setTop (mkF m 5 #[.val (.ref r0), .val (.ref r1)] [(.int (2 : Int32)), (.int (0 : Int32)), (.ref r1), (.ref r0)])) t
    refine XS.aconstNull X0.here hx rfl (hb hby d3_5) ?_
    exact k
  obtain ⟨_, _, ⟨T3_2, L3_2, k3_2, n3_2⟩, -, X3_2, ⟨Lc3_2, hQ3_2, l3_2, y3_2, z3_2⟩, st3_2⟩ := X0.specialBack hx (y := (⟨"java/lang/String", "<init>", "([CIILjava/lang/Void;)V"⟩ : MethodName)) rfl hown (mvT hZ (hw _ (List.mem_of_getElem? (i := 14) rfl))) (mvT hZ (hw _ (List.mem_of_getElem? (i := 15) rfl))) (mvT hZ (hw _ (List.mem_of_getElem? (i := 17) rfl))) (by decide) (backOf (W := 0) (rmS4_2 l Z a0 hw [] r0 r1 kc x y cc h0 n0 Z0 E Svalu Scode Shash Shz V_1 hne g_r0 le_x le_y O_0 S_c hcc) hZ (hw _ (List.mem_of_getElem? (i := 17) rfl)) (hw _ (List.mem_of_getElem? (i := 9) rfl)) (by decide) (by decide)) (g := (mkF m 6 #[.val (.ref r0), .val (.ref r1)] [.null, (.int (2 : Int32)), (.int (0 : Int32)), (.ref r1), (.ref r0)])) rfl (by rw [hml]; rfl) (Steps.refl _) (a := r0) (argsL := [(.ref r1), (.int (0 : Int32)), (.int (2 : Int32)), .null]) (rest := []) (lenOf pd3_0 rfl) rfl (by show 2 * 0 + _ ≤ _; exact Nat.le_of_eq rfl) (hb hby d3_6) (fun _ _ => ⟨rfl, e0, (by decide : 0 + 1 ≤ _), (by decide : 0 + 2 ≤ _)⟩)
  dsimp only [Pt.U, Pt.locs, Pt.cells, Pt.slots] at X3_2 l3_2 y3_2 z3_2 st3_2 hQ3_2
  subst l3_2 y3_2 z3_2
  obtain ⟨bc3_2, kb3_2, rfl, N3_2q, K3_2, E3_2, Svalu3_2, Scode3_2, Shash3_2, Shz3_2, Vb3_2, hk3_2, zb3_2⟩ := hQ3_2
  have N3_2 := Fr.app N0 N3_2q
  have ne_r0_bc3_2 : r0 ≠ bc3_2 := Nat.ne_of_lt (Nat.lt_of_lt_of_le E.lt zb3_2)
  have ne_r1_bc3_2 : r1 ≠ bc3_2 := Nat.ne_of_lt (Nat.lt_of_lt_of_le V_1.lt zb3_2)
  have g_bc3_2 : n0 ≤ bc3_2 := Nat.le_trans Z0 zb3_2
  have sz_bc3_2 : h0.size ≤ bc3_2 := Nat.le_trans (Keep.refl h0 [r0]).1 zb3_2
  refine own_fw (fun t k => st3_2.trans k) ?_
  obtain ⟨fs, hr, hrun, hended, hW, hsame⟩ := X3_2.leave (v := none) (fun _ => rfl) (BodyLoose.notSynchronized Bd)
  refine ⟨_, _, X3_2.returnOut hx Bd.returns (hb hby d3_9) hr, hrun, hended, _, _, rfl, ?_, ⟨_, rfl⟩, hW, hsame.mono (by decide) (by decide)⟩
  have eh : (T3_2.setFrames fs).heap = T3_2.heap := rfl
  rw [eh]
  exact ⟨bc3_2, kb3_2, rfl, N3_2, ((Keep.refl h0 [r0]).trans K3_2 (allS (Or.inl (List.mem_of_getElem? (i := 0) rfl)) all0)), E3_2, Svalu3_2, Scode3_2, Shash3_2, Shz3_2, Vb3_2, hk3_2, sz_bc3_2⟩
theorem d13_0 : decode jdk_42_method_154_code 0 = .ok (.getstatic 38, 3) := by decide +kernel
theorem d13_3 : decode jdk_42_method_154_code 3 = .ok (.ifCond .eq 14, 3) := by decide +kernel
theorem d13_6 : decode jdk_42_method_154_code 6 = .ok (.aload_n 0, 1) := by decide +kernel
theorem d13_7 : decode jdk_42_method_154_code 7 = .ok (.getfield 15, 3) := by decide +kernel
theorem d13_10 : decode jdk_42_method_154_code 10 = .ok (.ifCond .ne 7, 3) := by decide +kernel
theorem d13_13 : decode jdk_42_method_154_code 13 = .ok (.iconst 1, 1) := by decide +kernel
theorem d13_14 : decode jdk_42_method_154_code 14 = .ok (.goto 4, 3) := by decide +kernel
theorem d13_18 : decode jdk_42_method_154_code 18 = .ok (.ireturn, 1) := by decide +kernel
theorem pn13 : plainName "java/lang/String" = true := by first | (simp [plainName, overriddenIn]; done) | decide +kernel
theorem ef13 (m : MethodId) (r0 : Addr) : entryFrame m #[(.ref r0)] 1 = mkF m 0 #[.val (.ref r0)] [] := by first | (simp [entryFrame, mkF, argsToLocals, Value.category]; done) | rfl
def Q13 (Z : State) (z : Int32) (h0 : Heap) (n0 : Nat) (w : Option Value) (h : Heap) (L : List Loc) : Prop := w = some (.int z) ∧ Fr n0 L ∧ h = h0
set_option maxRecDepth 65536 in
set_option maxHeartbeats 40000000 in
theorem rm13 (l : Launch) (Z : State) (a0 : Array Value) (hw : ∀ d ∈ tables_1, d.before a0 Z = true) (ws : List Jvm.Cond) (r0 : Addr) (cc : Int32) (h0 : Heap) (n0 : Nat) (Z0 : n0 ≤ h0.size) (Scode : Fld Z h0 r0 "java/lang/String" "coder" "B" (.int 0)) (O_0 : Old Z n0 h0) (S_c : Sta Z Z.heap "java/lang/String" "COMPACT_STRINGS" "Z" (.int cc)) (hcc : ¬ cc = (0 : Int32)) :
    MetFree l (⟨"java/lang/String", "isLatin1", "()Z"⟩ : MethodName) (head1 (Jvm.Cond.code (⟨"java/lang/String", "isLatin1", "()Z"⟩ : MethodName) jdk_42_method_154_code 1 (some .boolean) :: ws) ({ frames := 0, cells := 0, slots := 0, locals := 0 } : Room)) (fun a U => a = #[(.ref r0)] ∧ Z.Warmed39 U.vm ∧ U.heap = h0) (fun _ _ _ _ _ => True) (fun _ U o U' => ∃ v L, o = .returned v ∧ Q13 Z (1 : Int32) h0 n0 v U'.heap L ∧ FrameEnd U o U' L ({ frames := 0, cells := 0, slots := 0, locals := 0 } : Room).cells ({ frames := 0, cells := 0, slots := 0, locals := 0 } : Room).slots) := by
  refine MetFree.of_bodySF (plainFor_of_name pn13) hisR ?_
  intro p e s m args below meth c s₁ Bd hml0 hP hK
  obtain ⟨rfl, hZ, hh⟩ := hP
  have hx := Bd.exec
  have hby := Bd.bytes
  have hml : c.maxLocals = 1 := hml0
  have hown : s.vm.findClass "java/lang/String" = some m.cls := findClass_of_methodNamed Bd.named
  have hnm := (name_of_methodNamed Bd.named Bd.method).1
  have X0 : Stand p l e ({ frames := 0, cells := 0, slots := 0, locals := 0 } : Room) s m #[(.ref r0)] below meth c s₁ [] 0 0 := Stand.of_body Bd
  have e0 : s₁.heap = h0 := by rw [← hh, Bd.state]; rfl
  have N0 := Fr.nil n0
  refine own_fw (A := s₁.setTop (mkF m 0 #[.val (.ref r0)] [])) (fun t k => castTop (ef13 m r0) k) ?_
  obtain ⟨T13_1, X13_1, e13_1, st13_1⟩ := getS2 X0 hx hZ hown (host := "") (Or.inl (hw _ (List.mem_of_getElem? (i := 35) rfl))) Via.refl e0 (S_c.ext O_0.2) (g := (mkF m 0 #[.val (.ref r0)] [])) rfl (hb hby d13_0)
  refine own_fw st13_1 ?_
  refine own_fw (A := T13_1.setTop (mkF m 7 #[.val (.ref r0)] [(.ref r0)])) (fun t k => ?_) ?_
  · show Steps p.tables e below (T13_1.setTop (mkF m 3 #[.val (.ref r0)] [(.int cc)])) t
    refine XS.ifNo X13_1.here hx rfl (hb hby d13_3) rfl ((if0 _ _).trans (feq hcc).1) ?_
    show Steps p.tables e below (T13_1.setTop (mkF m 6 #[.val (.ref r0)] [])) t
    refine XS.aloadN X13_1.here hx rfl (hb hby d13_6) rfl rfl ?_
    exact k
  obtain ⟨T13_2, X13_2, e13_2, st13_2⟩ := getF X13_1 hx hZ hown (host := "") (Or.inl (hw _ (List.mem_of_getElem? (i := 28) rfl))) Via.refl e13_1 Scode (g := (mkF m 7 #[.val (.ref r0)] [(.ref r0)])) rfl rfl (hb hby d13_7)
  refine own_fw st13_2 ?_
  refine own_fw (A := T13_2.setTop (mkF m 18 #[.val (.ref r0)] [(.int (1 : Int32))])) (fun t k => ?_) ?_
  · show Steps p.tables e below (T13_2.setTop (mkF m 10 #[.val (.ref r0)] [(.int (0 : Int32))])) t
    refine XS.ifNo X13_2.here hx rfl (hb hby d13_10) rfl ((if0 _ _).trans (teq (rfl : (0 : Int32) = (0 : Int32))).2) ?_
    show Steps p.tables e below (T13_2.setTop (mkF m 13 #[.val (.ref r0)] [])) t
    refine XS.iconst X13_2.here hx rfl (hb hby d13_13) ?_
    show Steps p.tables e below (T13_2.setTop (mkF m 14 #[.val (.ref r0)] [(.int (1 : Int32))])) t
    refine XS.goto X13_2.here hx rfl (pc0 := 14) (pc' := 18) rfl (hb hby d13_14) (by decide) (by decide) ?_
    exact k
  obtain ⟨fs, hr, hrun, hended, hW, hsame⟩ := X13_2.leave (v := some (.int (nar .boolean (1 : Int32)))) (own_ret Bd.returns) (BodyLoose.notSynchronized Bd)
  refine ⟨_, _, retN X13_2 hx (t := .boolean) Bd.returns (by simp) (hb hby d13_18) hr, hrun, hended, _, _, rfl, ?_, ⟨_, rfl⟩, hW, hsame.mono (by decide) (by decide)⟩
  have eh : (T13_2.setFrames fs).heap = h0 := e13_2
  rw [eh]
  exact ⟨rfl, N0, rfl⟩
theorem d16_0 : decode jdk_48_method_5_code 0 = .ok (.iload_n 2, 1) := by decide +kernel
theorem d16_1 : decode jdk_48_method_5_code 1 = .ok (.iload_n 3, 1) := by decide +kernel
theorem d16_2 : decode jdk_48_method_5_code 2 = .ok (.iadd, 1) := by decide +kernel
theorem d16_3 : decode jdk_48_method_5_code 3 = .ok (.istore 4, 2) := by decide +kernel
theorem d16_5 : decode jdk_48_method_5_code 5 = .ok (.iload_n 2, 1) := by decide +kernel
theorem d16_6 : decode jdk_48_method_5_code 6 = .ok (.istore 5, 2) := by decide +kernel
theorem d16_8 : decode jdk_48_method_5_code 8 = .ok (.iload 5, 2) := by decide +kernel
theorem d16_10 : decode jdk_48_method_5_code 10 = .ok (.iload 4, 2) := by decide +kernel
theorem d16_12 : decode jdk_48_method_5_code 12 = .ok (.if_icmp .ge 23, 3) := by decide +kernel
theorem d16_15 : decode jdk_48_method_5_code 15 = .ok (.bipush 31, 2) := by decide +kernel
theorem d16_17 : decode jdk_48_method_5_code 17 = .ok (.iload_n 0, 1) := by decide +kernel
theorem d16_18 : decode jdk_48_method_5_code 18 = .ok (.imul, 1) := by decide +kernel
theorem d16_19 : decode jdk_48_method_5_code 19 = .ok (.aload_n 1, 1) := by decide +kernel
theorem d16_20 : decode jdk_48_method_5_code 20 = .ok (.iload 5, 2) := by decide +kernel
theorem d16_22 : decode jdk_48_method_5_code 22 = .ok (.baload, 1) := by decide +kernel
theorem d16_23 : decode jdk_48_method_5_code 23 = .ok (.sipush 255, 3) := by decide +kernel
theorem d16_26 : decode jdk_48_method_5_code 26 = .ok (.iand, 1) := by decide +kernel
theorem d16_27 : decode jdk_48_method_5_code 27 = .ok (.iadd, 1) := by decide +kernel
theorem d16_28 : decode jdk_48_method_5_code 28 = .ok (.istore_n 0, 1) := by decide +kernel
theorem d16_29 : decode jdk_48_method_5_code 29 = .ok (.iinc 5 1, 3) := by decide +kernel
theorem d16_32 : decode jdk_48_method_5_code 32 = .ok (.goto (-24), 3) := by decide +kernel
theorem d16_35 : decode jdk_48_method_5_code 35 = .ok (.iload_n 0, 1) := by decide +kernel
theorem d16_36 : decode jdk_48_method_5_code 36 = .ok (.ireturn, 1) := by decide +kernel
theorem pn16 : plainName "jdk/internal/util/ArraysSupport" = true := by first | (simp [plainName, overriddenIn]; done) | decide +kernel
theorem ef16 (m : MethodId) (p0 : Int32) (r1 : Addr) (p2 : Int32) (p3 : Int32) : entryFrame m #[(.int p0), (.ref r1), (.int p2), (.int p3)] 6 = mkF m 0 #[.val (.int p0), .val (.ref r1), .val (.int p2), .val (.int p3), .unset, .unset] [] := by first | (simp [entryFrame, mkF, argsToLocals, Value.category]; done) | rfl
def Q16 (Z : State)  (h0 : Heap) (n0 : Nat) (w : Option Value) (h : Heap) (L : List Loc) : Prop := ∃ z, w = some (.int z) ∧ Fr n0 L ∧ h = h0
set_option maxRecDepth 65536 in
set_option maxHeartbeats 40000000 in
theorem rm16 (l : Launch) (Z : State) (a0 : Array Value) (hw : ∀ d ∈ tables_1, d.before a0 Z = true) (ws : List Jvm.Cond) (r1 : Addr) (k : ClassId) (x : Int32) (y : Int32) (h0 : Heap) (n0 : Nat) (Z0 : n0 ≤ h0.size) (V_1 : Arv Z h0 r1 k .byte (2 : Int32) [(.int x), (.int y)] (.int 0)) :
    MetFree l (⟨"jdk/internal/util/ArraysSupport", "signedHashCode", "(I[BII)I"⟩ : MethodName) (head1 (Jvm.Cond.code (⟨"jdk/internal/util/ArraysSupport", "signedHashCode", "(I[BII)I"⟩ : MethodName) jdk_48_method_5_code 6 (some .int) :: ws) ({ frames := 0, cells := 0, slots := 0, locals := 0 } : Room)) (fun a U => a = #[(.int (0 : Int32)), (.ref r1), (.int (0 : Int32)), (.int (2 : Int32))] ∧ Z.Warmed39 U.vm ∧ U.heap = h0) (fun _ _ _ _ _ => True) (fun _ U o U' => ∃ v L, o = .returned v ∧ Q16 Z  h0 n0 v U'.heap L ∧ FrameEnd U o U' L ({ frames := 0, cells := 0, slots := 0, locals := 0 } : Room).cells ({ frames := 0, cells := 0, slots := 0, locals := 0 } : Room).slots) := by
  refine MetFree.of_bodySF (plainFor_of_name pn16) hisR ?_
  intro p e s m args below meth c s₁ Bd hml0 hP hK
  obtain ⟨rfl, hZ, hh⟩ := hP
  have hx := Bd.exec
  have hby := Bd.bytes
  have hml : c.maxLocals = 6 := hml0
  have hown : s.vm.findClass "jdk/internal/util/ArraysSupport" = some m.cls := findClass_of_methodNamed Bd.named
  have hnm := (name_of_methodNamed Bd.named Bd.method).1
  have X0 : Stand p l e ({ frames := 0, cells := 0, slots := 0, locals := 0 } : Room) s m #[(.int (0 : Int32)), (.ref r1), (.int (0 : Int32)), (.int (2 : Int32))] below meth c s₁ [] 0 0 := Stand.of_body Bd
  have e0 : s₁.heap = h0 := by rw [← hh, Bd.state]; rfl
  have N0 := Fr.nil n0
  refine own_fw (A := s₁.setTop (mkF m 0 #[.val (.int (0 : Int32)), .val (.ref r1), .val (.int (0 : Int32)), .val (.int (2 : Int32)), .unset, .unset] [])) (fun t k => castTop (ef16 m (0 : Int32) r1 (0 : Int32) (2 : Int32)) k) ?_
  refine own_fw (A := s₁.setTop (mkF m 22 #[.val (.int (0 : Int32)), .val (.ref r1), .val (.int (0 : Int32)), .val (.int (2 : Int32)), .val (.int (2 : Int32)), .val (.int (0 : Int32))] [(.int (0 : Int32)), (.ref r1), (.int (0 : Int32))])) (fun t k => ?_) ?_
  · show Steps p.tables e below (s₁.setTop (mkF m 0 #[.val (.int (0 : Int32)), .val (.ref r1), .val (.int (0 : Int32)), .val (.int (2 : Int32)), .unset, .unset] [])) t
    refine XS.iloadN X0.here hx rfl (hb hby d16_0) rfl ?_
    show Steps p.tables e below (s₁.setTop (mkF m 1 #[.val (.int (0 : Int32)), .val (.ref r1), .val (.int (0 : Int32)), .val (.int (2 : Int32)), .unset, .unset] [(.int (0 : Int32))])) t
    refine XS.iloadN X0.here hx rfl (hb hby d16_1) rfl ?_
    show Steps p.tables e below (s₁.setTop (mkF m 2 #[.val (.int (0 : Int32)), .val (.ref r1), .val (.int (0 : Int32)), .val (.int (2 : Int32)), .unset, .unset] [(.int (2 : Int32)), (.int (0 : Int32))])) t
    refine XS.iadd X0.here hx rfl (hb hby d16_2) rfl ?_
    show Steps p.tables e below (s₁.setTop (mkF m 3 #[.val (.int (0 : Int32)), .val (.ref r1), .val (.int (0 : Int32)), .val (.int (2 : Int32)), .unset, .unset] [(.int (2 : Int32))])) t
    refine XS.istore X0.here hx rfl (hb hby d16_3) rfl (l' := #[.val (.int (0 : Int32)), .val (.ref r1), .val (.int (0 : Int32)), .val (.int (2 : Int32)), .val (.int (2 : Int32)), .unset]) rfl ?_
    show Steps p.tables e below (s₁.setTop (mkF m 5 #[.val (.int (0 : Int32)), .val (.ref r1), .val (.int (0 : Int32)), .val (.int (2 : Int32)), .val (.int (2 : Int32)), .unset] [])) t
    refine XS.iloadN X0.here hx rfl (hb hby d16_5) rfl ?_
    show Steps p.tables e below (s₁.setTop (mkF m 6 #[.val (.int (0 : Int32)), .val (.ref r1), .val (.int (0 : Int32)), .val (.int (2 : Int32)), .val (.int (2 : Int32)), .unset] [(.int (0 : Int32))])) t
    refine XS.istore X0.here hx rfl (hb hby d16_6) rfl (l' := #[.val (.int (0 : Int32)), .val (.ref r1), .val (.int (0 : Int32)), .val (.int (2 : Int32)), .val (.int (2 : Int32)), .val (.int (0 : Int32))]) rfl ?_
    show Steps p.tables e below (s₁.setTop (mkF m 8 #[.val (.int (0 : Int32)), .val (.ref r1), .val (.int (0 : Int32)), .val (.int (2 : Int32)), .val (.int (2 : Int32)), .val (.int (0 : Int32))] [])) t
    refine XS.iload X0.here hx rfl (hb hby d16_8) rfl ?_
    show Steps p.tables e below (s₁.setTop (mkF m 10 #[.val (.int (0 : Int32)), .val (.ref r1), .val (.int (0 : Int32)), .val (.int (2 : Int32)), .val (.int (2 : Int32)), .val (.int (0 : Int32))] [(.int (0 : Int32))])) t
    refine XS.iload X0.here hx rfl (hb hby d16_10) rfl ?_
    show Steps p.tables e below (s₁.setTop (mkF m 12 #[.val (.int (0 : Int32)), .val (.ref r1), .val (.int (0 : Int32)), .val (.int (2 : Int32)), .val (.int (2 : Int32)), .val (.int (0 : Int32))] [(.int (2 : Int32)), (.int (0 : Int32))])) t
    refine XS.icmpNo X0.here hx rfl (hb hby d16_12) rfl (tlt (by decide : ((0 : Int32) < (2 : Int32)))).2.1 ?_
    show Steps p.tables e below (s₁.setTop (mkF m 15 #[.val (.int (0 : Int32)), .val (.ref r1), .val (.int (0 : Int32)), .val (.int (2 : Int32)), .val (.int (2 : Int32)), .val (.int (0 : Int32))] [])) t
    refine XS.bipush X0.here hx rfl (hb hby d16_15) ?_
    show Steps p.tables e below (s₁.setTop (mkF m 17 #[.val (.int (0 : Int32)), .val (.ref r1), .val (.int (0 : Int32)), .val (.int (2 : Int32)), .val (.int (2 : Int32)), .val (.int (0 : Int32))] [(.int (31 : Int32))])) t
    refine XS.iloadN X0.here hx rfl (hb hby d16_17) rfl ?_
    show Steps p.tables e below (s₁.setTop (mkF m 18 #[.val (.int (0 : Int32)), .val (.ref r1), .val (.int (0 : Int32)), .val (.int (2 : Int32)), .val (.int (2 : Int32)), .val (.int (0 : Int32))] [(.int (0 : Int32)), (.int (31 : Int32))])) t
    refine XS.imul X0.here hx rfl (hb hby d16_18) rfl ?_
    show Steps p.tables e below (s₁.setTop (mkF m 19 #[.val (.int (0 : Int32)), .val (.ref r1), .val (.int (0 : Int32)), .val (.int (2 : Int32)), .val (.int (2 : Int32)), .val (.int (0 : Int32))] [(.int (0 : Int32))])) t
    refine XS.aloadN X0.here hx rfl (hb hby d16_19) rfl rfl ?_
    show Steps p.tables e below (s₁.setTop (mkF m 20 #[.val (.int (0 : Int32)), .val (.ref r1), .val (.int (0 : Int32)), .val (.int (2 : Int32)), .val (.int (2 : Int32)), .val (.int (0 : Int32))] [(.ref r1), (.int (0 : Int32))])) t
    refine XS.iload X0.here hx rfl (hb hby d16_20) rfl ?_
    exact k
  obtain ⟨cl16_1, Ar16_1, q16_1, S16_1, Ng16_1, Hs16_1, G16_1⟩ := id V_1
  have hin16_1 : ¬ ((0 : Int32) < 0 ∨ cl16_1.slots.size ≤ ((0 : Int32)).toNatClampNeg) := inb_of S16_1 ⟨by decide, by decide⟩
  refine own_fw (X0.baloadBytes hx (j := (0 : Int32)) (v := (.int x)) (by rw [e0]; exact Ar16_1.1) (State.isArrayOf_alike hZ.alike Ar16_1.2.1) Ar16_1.2.2 hin16_1 (Has.at Hs16_1 hin16_1 rfl) (g := (mkF m 22 #[.val (.int (0 : Int32)), .val (.ref r1), .val (.int (0 : Int32)), .val (.int (2 : Int32)), .val (.int (2 : Int32)), .val (.int (0 : Int32))] [(.int (0 : Int32)), (.ref r1), (.int (0 : Int32))])) rfl rfl (hb hby d16_22)) ?_
  refine own_fw (A := s₁.setTop (mkF m 22 #[.val (.int ((0 : Int32) + (x &&& (255 : Int32)))), .val (.ref r1), .val (.int (0 : Int32)), .val (.int (2 : Int32)), .val (.int (2 : Int32)), .val (.int (1 : Int32))] [(.int (1 : Int32)), (.ref r1), (.int ((31 : Int32) * ((0 : Int32) + (x &&& (255 : Int32)))))])) (fun t k => ?_) ?_
  · show Steps p.tables e below (s₁.setTop (mkF m 23 #[.val (.int (0 : Int32)), .val (.ref r1), .val (.int (0 : Int32)), .val (.int (2 : Int32)), .val (.int (2 : Int32)), .val (.int (0 : Int32))] [(.int x), (.int (0 : Int32))])) t
    refine XS.sipush X0.here hx rfl (hb hby d16_23) ?_
    show Steps p.tables e below (s₁.setTop (mkF m 26 #[.val (.int (0 : Int32)), .val (.ref r1), .val (.int (0 : Int32)), .val (.int (2 : Int32)), .val (.int (2 : Int32)), .val (.int (0 : Int32))] [(.int (255 : Int32)), (.int x), (.int (0 : Int32))])) t
    refine XS.iand X0.here hx rfl (hb hby d16_26) rfl ?_
    show Steps p.tables e below (s₁.setTop (mkF m 27 #[.val (.int (0 : Int32)), .val (.ref r1), .val (.int (0 : Int32)), .val (.int (2 : Int32)), .val (.int (2 : Int32)), .val (.int (0 : Int32))] [(.int (x &&& (255 : Int32))), (.int (0 : Int32))])) t
    refine XS.iadd X0.here hx rfl (hb hby d16_27) rfl ?_
    show Steps p.tables e below (s₁.setTop (mkF m 28 #[.val (.int (0 : Int32)), .val (.ref r1), .val (.int (0 : Int32)), .val (.int (2 : Int32)), .val (.int (2 : Int32)), .val (.int (0 : Int32))] [(.int ((0 : Int32) + (x &&& (255 : Int32))))])) t
    refine XS.istoreN X0.here hx rfl (hb hby d16_28) rfl (l' := #[.val (.int ((0 : Int32) + (x &&& (255 : Int32)))), .val (.ref r1), .val (.int (0 : Int32)), .val (.int (2 : Int32)), .val (.int (2 : Int32)), .val (.int (0 : Int32))]) rfl ?_
    show Steps p.tables e below (s₁.setTop (mkF m 29 #[.val (.int ((0 : Int32) + (x &&& (255 : Int32)))), .val (.ref r1), .val (.int (0 : Int32)), .val (.int (2 : Int32)), .val (.int (2 : Int32)), .val (.int (0 : Int32))] [])) t
    refine XS.iinc X0.here hx rfl (hb hby d16_29) rfl (l' := #[.val (.int ((0 : Int32) + (x &&& (255 : Int32)))), .val (.ref r1), .val (.int (0 : Int32)), .val (.int (2 : Int32)), .val (.int (2 : Int32)), .val (.int (1 : Int32))]) rfl ?_
    show Steps p.tables e below (s₁.setTop (mkF m 32 #[.val (.int ((0 : Int32) + (x &&& (255 : Int32)))), .val (.ref r1), .val (.int (0 : Int32)), .val (.int (2 : Int32)), .val (.int (2 : Int32)), .val (.int (1 : Int32))] [])) t
    refine XS.goto X0.here hx rfl (pc0 := 32) (pc' := 8) rfl (hb hby d16_32) (by decide) (by decide) ?_
    show Steps p.tables e below (s₁.setTop (mkF m 8 #[.val (.int ((0 : Int32) + (x &&& (255 : Int32)))), .val (.ref r1), .val (.int (0 : Int32)), .val (.int (2 : Int32)), .val (.int (2 : Int32)), .val (.int (1 : Int32))] [])) t
    refine XS.iload X0.here hx rfl (hb hby d16_8) rfl ?_
    show Steps p.tables e below (s₁.setTop (mkF m 10 #[.val (.int ((0 : Int32) + (x &&& (255 : Int32)))), .val (.ref r1), .val (.int (0 : Int32)), .val (.int (2 : Int32)), .val (.int (2 : Int32)), .val (.int (1 : Int32))] [(.int (1 : Int32))])) t
    refine XS.iload X0.here hx rfl (hb hby d16_10) rfl ?_
    show Steps p.tables e below (s₁.setTop (mkF m 12 #[.val (.int ((0 : Int32) + (x &&& (255 : Int32)))), .val (.ref r1), .val (.int (0 : Int32)), .val (.int (2 : Int32)), .val (.int (2 : Int32)), .val (.int (1 : Int32))] [(.int (2 : Int32)), (.int (1 : Int32))])) t
    refine XS.icmpNo X0.here hx rfl (hb hby d16_12) rfl (tlt (by decide : ((1 : Int32) < (2 : Int32)))).2.1 ?_
    show Steps p.tables e below (s₁.setTop (mkF m 15 #[.val (.int ((0 : Int32) + (x &&& (255 : Int32)))), .val (.ref r1), .val (.int (0 : Int32)), .val (.int (2 : Int32)), .val (.int (2 : Int32)), .val (.int (1 : Int32))] [])) t
    refine XS.bipush X0.here hx rfl (hb hby d16_15) ?_
    show Steps p.tables e below (s₁.setTop (mkF m 17 #[.val (.int ((0 : Int32) + (x &&& (255 : Int32)))), .val (.ref r1), .val (.int (0 : Int32)), .val (.int (2 : Int32)), .val (.int (2 : Int32)), .val (.int (1 : Int32))] [(.int (31 : Int32))])) t
    refine XS.iloadN X0.here hx rfl (hb hby d16_17) rfl ?_
    show Steps p.tables e below (s₁.setTop (mkF m 18 #[.val (.int ((0 : Int32) + (x &&& (255 : Int32)))), .val (.ref r1), .val (.int (0 : Int32)), .val (.int (2 : Int32)), .val (.int (2 : Int32)), .val (.int (1 : Int32))] [(.int ((0 : Int32) + (x &&& (255 : Int32)))), (.int (31 : Int32))])) t
    refine XS.imul X0.here hx rfl (hb hby d16_18) rfl ?_
    show Steps p.tables e below (s₁.setTop (mkF m 19 #[.val (.int ((0 : Int32) + (x &&& (255 : Int32)))), .val (.ref r1), .val (.int (0 : Int32)), .val (.int (2 : Int32)), .val (.int (2 : Int32)), .val (.int (1 : Int32))] [(.int ((31 : Int32) * ((0 : Int32) + (x &&& (255 : Int32)))))])) t
    refine XS.aloadN X0.here hx rfl (hb hby d16_19) rfl rfl ?_
    show Steps p.tables e below (s₁.setTop (mkF m 20 #[.val (.int ((0 : Int32) + (x &&& (255 : Int32)))), .val (.ref r1), .val (.int (0 : Int32)), .val (.int (2 : Int32)), .val (.int (2 : Int32)), .val (.int (1 : Int32))] [(.ref r1), (.int ((31 : Int32) * ((0 : Int32) + (x &&& (255 : Int32)))))])) t
    refine XS.iload X0.here hx rfl (hb hby d16_20) rfl ?_
    exact k
  obtain ⟨cl16_2, Ar16_2, q16_2, S16_2, Ng16_2, Hs16_2, G16_2⟩ := id V_1
  have hin16_2 : ¬ ((1 : Int32) < 0 ∨ cl16_2.slots.size ≤ ((1 : Int32)).toNatClampNeg) := inb_of S16_2 ⟨by decide, by decide⟩
  refine own_fw (X0.baloadBytes hx (j := (1 : Int32)) (v := (.int y)) (by rw [e0]; exact Ar16_2.1) (State.isArrayOf_alike hZ.alike Ar16_2.2.1) Ar16_2.2.2 hin16_2 (Has.at Hs16_2 hin16_2 rfl) (g := (mkF m 22 #[.val (.int ((0 : Int32) + (x &&& (255 : Int32)))), .val (.ref r1), .val (.int (0 : Int32)), .val (.int (2 : Int32)), .val (.int (2 : Int32)), .val (.int (1 : Int32))] [(.int (1 : Int32)), (.ref r1), (.int ((31 : Int32) * ((0 : Int32) + (x &&& (255 : Int32)))))])) rfl rfl (hb hby d16_22)) ?_
  refine own_fw (A := s₁.setTop (mkF m 36 #[.val (.int (((31 : Int32) * ((0 : Int32) + (x &&& (255 : Int32)))) + (y &&& (255 : Int32)))), .val (.ref r1), .val (.int (0 : Int32)), .val (.int (2 : Int32)), .val (.int (2 : Int32)), .val (.int (2 : Int32))] [(.int (((31 : Int32) * ((0 : Int32) + (x &&& (255 : Int32)))) + (y &&& (255 : Int32))))])) (fun t k => ?_) ?_
  · show Steps p.tables e below (s₁.setTop (mkF m 23 #[.val (.int ((0 : Int32) + (x &&& (255 : Int32)))), .val (.ref r1), .val (.int (0 : Int32)), .val (.int (2 : Int32)), .val (.int (2 : Int32)), .val (.int (1 : Int32))] [(.int y), (.int ((31 : Int32) * ((0 : Int32) + (x &&& (255 : Int32)))))])) t
    refine XS.sipush X0.here hx rfl (hb hby d16_23) ?_
    show Steps p.tables e below (s₁.setTop (mkF m 26 #[.val (.int ((0 : Int32) + (x &&& (255 : Int32)))), .val (.ref r1), .val (.int (0 : Int32)), .val (.int (2 : Int32)), .val (.int (2 : Int32)), .val (.int (1 : Int32))] [(.int (255 : Int32)), (.int y), (.int ((31 : Int32) * ((0 : Int32) + (x &&& (255 : Int32)))))])) t
    refine XS.iand X0.here hx rfl (hb hby d16_26) rfl ?_
    show Steps p.tables e below (s₁.setTop (mkF m 27 #[.val (.int ((0 : Int32) + (x &&& (255 : Int32)))), .val (.ref r1), .val (.int (0 : Int32)), .val (.int (2 : Int32)), .val (.int (2 : Int32)), .val (.int (1 : Int32))] [(.int (y &&& (255 : Int32))), (.int ((31 : Int32) * ((0 : Int32) + (x &&& (255 : Int32)))))])) t
    refine XS.iadd X0.here hx rfl (hb hby d16_27) rfl ?_
    show Steps p.tables e below (s₁.setTop (mkF m 28 #[.val (.int ((0 : Int32) + (x &&& (255 : Int32)))), .val (.ref r1), .val (.int (0 : Int32)), .val (.int (2 : Int32)), .val (.int (2 : Int32)), .val (.int (1 : Int32))] [(.int (((31 : Int32) * ((0 : Int32) + (x &&& (255 : Int32)))) + (y &&& (255 : Int32))))])) t
    refine XS.istoreN X0.here hx rfl (hb hby d16_28) rfl (l' := #[.val (.int (((31 : Int32) * ((0 : Int32) + (x &&& (255 : Int32)))) + (y &&& (255 : Int32)))), .val (.ref r1), .val (.int (0 : Int32)), .val (.int (2 : Int32)), .val (.int (2 : Int32)), .val (.int (1 : Int32))]) rfl ?_
    show Steps p.tables e below (s₁.setTop (mkF m 29 #[.val (.int (((31 : Int32) * ((0 : Int32) + (x &&& (255 : Int32)))) + (y &&& (255 : Int32)))), .val (.ref r1), .val (.int (0 : Int32)), .val (.int (2 : Int32)), .val (.int (2 : Int32)), .val (.int (1 : Int32))] [])) t
    refine XS.iinc X0.here hx rfl (hb hby d16_29) rfl (l' := #[.val (.int (((31 : Int32) * ((0 : Int32) + (x &&& (255 : Int32)))) + (y &&& (255 : Int32)))), .val (.ref r1), .val (.int (0 : Int32)), .val (.int (2 : Int32)), .val (.int (2 : Int32)), .val (.int (2 : Int32))]) rfl ?_
    show Steps p.tables e below (s₁.setTop (mkF m 32 #[.val (.int (((31 : Int32) * ((0 : Int32) + (x &&& (255 : Int32)))) + (y &&& (255 : Int32)))), .val (.ref r1), .val (.int (0 : Int32)), .val (.int (2 : Int32)), .val (.int (2 : Int32)), .val (.int (2 : Int32))] [])) t
    refine XS.goto X0.here hx rfl (pc0 := 32) (pc' := 8) rfl (hb hby d16_32) (by decide) (by decide) ?_
    show Steps p.tables e below (s₁.setTop (mkF m 8 #[.val (.int (((31 : Int32) * ((0 : Int32) + (x &&& (255 : Int32)))) + (y &&& (255 : Int32)))), .val (.ref r1), .val (.int (0 : Int32)), .val (.int (2 : Int32)), .val (.int (2 : Int32)), .val (.int (2 : Int32))] [])) t
    refine XS.iload X0.here hx rfl (hb hby d16_8) rfl ?_
    show Steps p.tables e below (s₁.setTop (mkF m 10 #[.val (.int (((31 : Int32) * ((0 : Int32) + (x &&& (255 : Int32)))) + (y &&& (255 : Int32)))), .val (.ref r1), .val (.int (0 : Int32)), .val (.int (2 : Int32)), .val (.int (2 : Int32)), .val (.int (2 : Int32))] [(.int (2 : Int32))])) t
    refine XS.iload X0.here hx rfl (hb hby d16_10) rfl ?_
    show Steps p.tables e below (s₁.setTop (mkF m 12 #[.val (.int (((31 : Int32) * ((0 : Int32) + (x &&& (255 : Int32)))) + (y &&& (255 : Int32)))), .val (.ref r1), .val (.int (0 : Int32)), .val (.int (2 : Int32)), .val (.int (2 : Int32)), .val (.int (2 : Int32))] [(.int (2 : Int32)), (.int (2 : Int32))])) t
    refine XS.icmpYes X0.here hx rfl (pc0 := 12) (pc' := 35) rfl (hb hby d16_12) rfl (flt (Int32.lt_irrefl : ¬ ((2 : Int32) < (2 : Int32)))).2.1 (by decide) (by decide) ?_
    show Steps p.tables e below (s₁.setTop (mkF m 35 #[.val (.int (((31 : Int32) * ((0 : Int32) + (x &&& (255 : Int32)))) + (y &&& (255 : Int32)))), .val (.ref r1), .val (.int (0 : Int32)), .val (.int (2 : Int32)), .val (.int (2 : Int32)), .val (.int (2 : Int32))] [])) t
    refine XS.iloadN X0.here hx rfl (hb hby d16_35) rfl ?_
    exact k
  obtain ⟨fs, hr, hrun, hended, hW, hsame⟩ := X0.leave (v := some (.int (((31 : Int32) * ((0 : Int32) + (x &&& (255 : Int32)))) + (y &&& (255 : Int32))))) (own_ret Bd.returns) (BodyLoose.notSynchronized Bd)
  refine ⟨_, _, retI X0 hx Bd.returns (hb hby d16_36) hr, hrun, hended, _, _, rfl, ?_, ⟨_, rfl⟩, hW, hsame.mono (by decide) (by decide)⟩
  have eh : (s₁.setFrames fs).heap = h0 := e0
  rw [eh]
  exact ⟨_, rfl, N0, rfl⟩
theorem own_insb {Z : State} {h : Heap} {a : Addr} {k : ClassId} {n : Int32} {vs : List Value} {d : Value} (V : Arv Z h a k .byte n vs d) (hk : Z.vm.findClass "[B" = some k) : Ins Z h a "[B" true := by
  obtain ⟨c, A, q, -⟩ := V
  subst q
  exact ⟨c, _, A.1, hk, by rw [A.plain, Vm.assignable_self]; rfl⟩
theorem d15_0 : decode jdk_48_method_4_code 0 = .ok (.iload 4, 2) := by decide +kernel
theorem d15_2 : decode jdk_48_method_4_code 2 = .ok (.tableswitch 127 4 10 #[42, 55, 127, 127, 88, 101, 114], 42) := by decide +kernel
theorem d15_44 : decode jdk_48_method_4_code 44 = .ok (.iload_n 3, 1) := by decide +kernel
theorem d15_45 : decode jdk_48_method_4_code 45 = .ok (.aload_n 0, 1) := by decide +kernel
theorem d15_46 : decode jdk_48_method_4_code 46 = .ok (.checkcast 60, 3) := by decide +kernel
theorem d15_49 : decode jdk_48_method_4_code 49 = .ok (.iload_n 1, 1) := by decide +kernel
theorem d15_50 : decode jdk_48_method_4_code 50 = .ok (.iload_n 2, 1) := by decide +kernel
theorem d15_51 : decode jdk_48_method_4_code 51 = .ok (.invokestatic 62, 3) := by decide +kernel
theorem d15_54 : decode jdk_48_method_4_code 54 = .ok (.goto 103, 3) := by decide +kernel
theorem d15_57 : decode jdk_48_method_4_code 57 = .ok (.aload_n 0, 1) := by decide +kernel
theorem d15_58 : decode jdk_48_method_4_code 58 = .ok (.instanceof 60, 3) := by decide +kernel
theorem d15_61 : decode jdk_48_method_4_code 61 = .ok (.ifCond .eq 16, 3) := by decide +kernel
theorem d15_64 : decode jdk_48_method_4_code 64 = .ok (.iload_n 3, 1) := by decide +kernel
theorem d15_65 : decode jdk_48_method_4_code 65 = .ok (.aload_n 0, 1) := by decide +kernel
theorem d15_66 : decode jdk_48_method_4_code 66 = .ok (.checkcast 60, 3) := by decide +kernel
theorem d15_69 : decode jdk_48_method_4_code 69 = .ok (.iload_n 1, 1) := by decide +kernel
theorem d15_70 : decode jdk_48_method_4_code 70 = .ok (.iload_n 2, 1) := by decide +kernel
theorem d15_71 : decode jdk_48_method_4_code 71 = .ok (.invokestatic 66, 3) := by decide +kernel
theorem d15_74 : decode jdk_48_method_4_code 74 = .ok (.goto 83, 3) := by decide +kernel
theorem d15_77 : decode jdk_48_method_4_code 77 = .ok (.iload_n 3, 1) := by decide +kernel
theorem d15_78 : decode jdk_48_method_4_code 78 = .ok (.aload_n 0, 1) := by decide +kernel
theorem d15_79 : decode jdk_48_method_4_code 79 = .ok (.checkcast 69, 3) := by decide +kernel
theorem d15_82 : decode jdk_48_method_4_code 82 = .ok (.iload_n 1, 1) := by decide +kernel
theorem d15_83 : decode jdk_48_method_4_code 83 = .ok (.iload_n 2, 1) := by decide +kernel
theorem d15_84 : decode jdk_48_method_4_code 84 = .ok (.invokestatic 71, 3) := by decide +kernel
theorem d15_87 : decode jdk_48_method_4_code 87 = .ok (.goto 70, 3) := by decide +kernel
theorem d15_90 : decode jdk_48_method_4_code 90 = .ok (.iload_n 3, 1) := by decide +kernel
theorem d15_91 : decode jdk_48_method_4_code 91 = .ok (.aload_n 0, 1) := by decide +kernel
theorem d15_92 : decode jdk_48_method_4_code 92 = .ok (.checkcast 60, 3) := by decide +kernel
theorem d15_95 : decode jdk_48_method_4_code 95 = .ok (.iload_n 1, 1) := by decide +kernel
theorem d15_96 : decode jdk_48_method_4_code 96 = .ok (.iload_n 2, 1) := by decide +kernel
theorem d15_97 : decode jdk_48_method_4_code 97 = .ok (.invokestatic 75, 3) := by decide +kernel
theorem d15_100 : decode jdk_48_method_4_code 100 = .ok (.goto 57, 3) := by decide +kernel
theorem d15_103 : decode jdk_48_method_4_code 103 = .ok (.iload_n 3, 1) := by decide +kernel
theorem d15_104 : decode jdk_48_method_4_code 104 = .ok (.aload_n 0, 1) := by decide +kernel
theorem d15_105 : decode jdk_48_method_4_code 105 = .ok (.checkcast 77, 3) := by decide +kernel
theorem d15_108 : decode jdk_48_method_4_code 108 = .ok (.iload_n 1, 1) := by decide +kernel
theorem d15_109 : decode jdk_48_method_4_code 109 = .ok (.iload_n 2, 1) := by decide +kernel
theorem d15_110 : decode jdk_48_method_4_code 110 = .ok (.invokestatic 79, 3) := by decide +kernel
theorem d15_113 : decode jdk_48_method_4_code 113 = .ok (.goto 44, 3) := by decide +kernel
theorem d15_116 : decode jdk_48_method_4_code 116 = .ok (.iload_n 3, 1) := by decide +kernel
theorem d15_117 : decode jdk_48_method_4_code 117 = .ok (.aload_n 0, 1) := by decide +kernel
theorem d15_118 : decode jdk_48_method_4_code 118 = .ok (.checkcast 82, 3) := by decide +kernel
theorem d15_121 : decode jdk_48_method_4_code 121 = .ok (.iload_n 1, 1) := by decide +kernel
theorem d15_122 : decode jdk_48_method_4_code 122 = .ok (.iload_n 2, 1) := by decide +kernel
theorem d15_123 : decode jdk_48_method_4_code 123 = .ok (.invokestatic 84, 3) := by decide +kernel
theorem d15_126 : decode jdk_48_method_4_code 126 = .ok (.goto 31, 3) := by decide +kernel
theorem d15_129 : decode jdk_48_method_4_code 129 = .ok (.new 87, 3) := by decide +kernel
theorem d15_132 : decode jdk_48_method_4_code 132 = .ok (.dup, 1) := by decide +kernel
theorem d15_133 : decode jdk_48_method_4_code 133 = .ok (.new 89, 3) := by decide +kernel
theorem d15_136 : decode jdk_48_method_4_code 136 = .ok (.dup, 1) := by decide +kernel
theorem d15_137 : decode jdk_48_method_4_code 137 = .ok (.invokespecial 91, 3) := by decide +kernel
theorem d15_140 : decode jdk_48_method_4_code 140 = .ok (.ldc 92, 2) := by decide +kernel
theorem d15_142 : decode jdk_48_method_4_code 142 = .ok (.invokevirtual 94, 3) := by decide +kernel
theorem d15_145 : decode jdk_48_method_4_code 145 = .ok (.iload 4, 2) := by decide +kernel
theorem d15_147 : decode jdk_48_method_4_code 147 = .ok (.invokevirtual 98, 3) := by decide +kernel
theorem d15_150 : decode jdk_48_method_4_code 150 = .ok (.invokevirtual 101, 3) := by decide +kernel
theorem d15_153 : decode jdk_48_method_4_code 153 = .ok (.invokespecial 105, 3) := by decide +kernel
theorem d15_157 : decode jdk_48_method_4_code 157 = .ok (.ireturn, 1) := by decide +kernel
theorem pn15 : plainName "jdk/internal/util/ArraysSupport" = true := by first | (simp [plainName, overriddenIn]; done) | decide +kernel
theorem pd15_0 : parseMethodDescriptor "(I[BII)I" = some ⟨[.int, (.array .byte), .int, .int], some .int⟩ := by decide +kernel
theorem ef15 (m : MethodId) (r0 : Addr) (p1 : Int32) (p2 : Int32) (p3 : Int32) (p4 : Int32) : entryFrame m #[(.ref r0), (.int p1), (.int p2), (.int p3), (.int p4)] 5 = mkF m 0 #[.val (.ref r0), .val (.int p1), .val (.int p2), .val (.int p3), .val (.int p4)] [] := by first | (simp [entryFrame, mkF, argsToLocals, Value.category]; done) | rfl
def Q15 (Z : State)  (h0 : Heap) (n0 : Nat) (w : Option Value) (h : Heap) (L : List Loc) : Prop := ∃ z, w = some (.int z) ∧ Fr n0 L ∧ h = h0
set_option maxRecDepth 65536 in
set_option maxHeartbeats 40000000 in
theorem rm15 (l : Launch) (Z : State) (a0 : Array Value) (hw : ∀ d ∈ tables_1, d.before a0 Z = true) (ws : List Jvm.Cond) (r0 : Addr) (k : ClassId) (x : Int32) (y : Int32) (h0 : Heap) (n0 : Nat) (Z0 : n0 ≤ h0.size) (V_1 : Arv Z h0 r0 k .byte (2 : Int32) [(.int x), (.int y)] (.int 0)) (hk : Z.vm.findClass "[B" = some k) :
    MetFree l (⟨"jdk/internal/util/ArraysSupport", "vectorizedHashCode", "(Ljava/lang/Object;IIII)I"⟩ : MethodName) (head1 (Jvm.Cond.code (⟨"jdk/internal/util/ArraysSupport", "vectorizedHashCode", "(Ljava/lang/Object;IIII)I"⟩ : MethodName) jdk_48_method_4_code 5 (some .int) :: ws) ({ frames := 1, cells := 0, slots := 0, locals := 17 } : Room)) (fun a U => a = #[(.ref r0), (.int (0 : Int32)), (.int (2 : Int32)), (.int (0 : Int32)), (.int (4 : Int32))] ∧ Z.Warmed39 U.vm ∧ U.heap = h0) (fun _ _ _ _ _ => True) (fun _ U o U' => ∃ v L, o = .returned v ∧ Q15 Z  h0 n0 v U'.heap L ∧ FrameEnd U o U' L ({ frames := 1, cells := 0, slots := 0, locals := 17 } : Room).cells ({ frames := 1, cells := 0, slots := 0, locals := 17 } : Room).slots) := by
  refine MetFree.of_bodySF (plainFor_of_name pn15) hisR ?_
  intro p e s m args below meth c s₁ Bd hml0 hP hK
  obtain ⟨rfl, hZ, hh⟩ := hP
  have hx := Bd.exec
  have hby := Bd.bytes
  have hml : c.maxLocals = 5 := hml0
  have hown : s.vm.findClass "jdk/internal/util/ArraysSupport" = some m.cls := findClass_of_methodNamed Bd.named
  have hnm := (name_of_methodNamed Bd.named Bd.method).1
  have X0 : Stand p l e ({ frames := 1, cells := 0, slots := 0, locals := 17 } : Room) s m #[(.ref r0), (.int (0 : Int32)), (.int (2 : Int32)), (.int (0 : Int32)), (.int (4 : Int32))] below meth c s₁ [] 0 0 := Stand.of_body Bd
  have e0 : s₁.heap = h0 := by rw [← hh, Bd.state]; rfl
  have N0 := Fr.nil n0
  refine own_fw (A := s₁.setTop (mkF m 0 #[.val (.ref r0), .val (.int (0 : Int32)), .val (.int (2 : Int32)), .val (.int (0 : Int32)), .val (.int (4 : Int32))] [])) (fun t k => castTop (ef15 m r0 (0 : Int32) (2 : Int32) (0 : Int32) (4 : Int32)) k) ?_
  refine own_fw (A := s₁.setTop (mkF m 2 #[.val (.ref r0), .val (.int (0 : Int32)), .val (.int (2 : Int32)), .val (.int (0 : Int32)), .val (.int (4 : Int32))] [(.int (4 : Int32))])) (fun t k => ?_) ?_
  · show Steps p.tables e below (s₁.setTop (mkF m 0 #[.val (.ref r0), .val (.int (0 : Int32)), .val (.int (2 : Int32)), .val (.int (0 : Int32)), .val (.int (4 : Int32))] [])) t
    refine XS.iload X0.here hx rfl (hb hby d15_0) rfl ?_
    exact k
  refine own_fw (A := s₁.setTop (mkF m 44 #[.val (.ref r0), .val (.int (0 : Int32)), .val (.int (2 : Int32)), .val (.int (0 : Int32)), .val (.int (4 : Int32))] [])) (fun t k => X0.tableswitchIn hx (g := (mkF m 2 #[.val (.ref r0), .val (.int (0 : Int32)), .val (.int (2 : Int32)), .val (.int (0 : Int32)), .val (.int (4 : Int32))] [(.int (4 : Int32))])) rfl rfl (hb hby d15_2) (by decide) (off := 42) rfl (show (0 : Int) ≤ ((2 : Nat) : Int) + 42 by decide) t k) ?_
  refine own_fw (A := s₁.setTop (mkF m 46 #[.val (.ref r0), .val (.int (0 : Int32)), .val (.int (2 : Int32)), .val (.int (0 : Int32)), .val (.int (4 : Int32))] [(.ref r0), (.int (0 : Int32))])) (fun t k => ?_) ?_
  · show Steps p.tables e below (s₁.setTop (mkF m 44 #[.val (.ref r0), .val (.int (0 : Int32)), .val (.int (2 : Int32)), .val (.int (0 : Int32)), .val (.int (4 : Int32))] [])) t
    refine XS.iloadN X0.here hx rfl (hb hby d15_44) rfl ?_
    show Steps p.tables e below (s₁.setTop (mkF m 45 #[.val (.ref r0), .val (.int (0 : Int32)), .val (.int (2 : Int32)), .val (.int (0 : Int32)), .val (.int (4 : Int32))] [(.int (0 : Int32))])) t
    refine XS.aloadN X0.here hx rfl (hb hby d15_45) rfl rfl ?_
    exact k
  obtain ⟨T15_1, X15_1, e15_1, st15_1⟩ := castY X0 hx hZ hown (hw _ (List.mem_of_getElem? (i := 81) rfl)) e0 (own_insb V_1 hk) (g := (mkF m 46 #[.val (.ref r0), .val (.int (0 : Int32)), .val (.int (2 : Int32)), .val (.int (0 : Int32)), .val (.int (4 : Int32))] [(.ref r0), (.int (0 : Int32))])) rfl rfl (hb hby d15_46)
  refine own_fw st15_1 ?_
  refine own_fw (A := T15_1.setTop (mkF m 51 #[.val (.ref r0), .val (.int (0 : Int32)), .val (.int (2 : Int32)), .val (.int (0 : Int32)), .val (.int (4 : Int32))] [(.int (2 : Int32)), (.int (0 : Int32)), (.ref r0), (.int (0 : Int32))])) (fun t k => ?_) ?_
  · show Steps p.tables e below (T15_1.setTop (mkF m 49 #[.val (.ref r0), .val (.int (0 : Int32)), .val (.int (2 : Int32)), .val (.int (0 : Int32)), .val (.int (4 : Int32))] [(.ref r0), (.int (0 : Int32))])) t
    refine XS.iloadN X15_1.here hx rfl (hb hby d15_49) rfl ?_
    show Steps p.tables e below (T15_1.setTop (mkF m 50 #[.val (.ref r0), .val (.int (0 : Int32)), .val (.int (2 : Int32)), .val (.int (0 : Int32)), .val (.int (4 : Int32))] [(.int (0 : Int32)), (.ref r0), (.int (0 : Int32))])) t
    refine XS.iloadN X15_1.here hx rfl (hb hby d15_50) rfl ?_
    exact k
  obtain ⟨_, _, ⟨T15_2, L15_2, k15_2, n15_2⟩, -, X15_2, ⟨Lc15_2, hQ15_2, l15_2, y15_2, z15_2⟩, st15_2⟩ := Jvm.LawKit.callS X15_1 hx (y := (⟨"jdk/internal/util/ArraysSupport", "signedHashCode", "(I[BII)I"⟩ : MethodName)) hown (mvT hZ (hw _ (List.mem_of_getElem? (i := 83) rfl))) (mvT hZ (hw _ (List.mem_of_getElem? (i := 84) rfl))) (mvT hZ (hw _ (List.mem_of_getElem? (i := 79) rfl))) (mvT hZ (hw _ (List.mem_of_getElem? (i := 85) rfl))) (by decide) (backOf (W := 0) (rm16 l Z a0 hw [] r0 k x y h0 n0 Z0 V_1) hZ (hw _ (List.mem_of_getElem? (i := 85) rfl)) (hw _ (List.mem_of_getElem? (i := 79) rfl)) (by decide) (by decide)) (g := (mkF m 51 #[.val (.ref r0), .val (.int (0 : Int32)), .val (.int (2 : Int32)), .val (.int (0 : Int32)), .val (.int (4 : Int32))] [(.int (2 : Int32)), (.int (0 : Int32)), (.ref r0), (.int (0 : Int32))])) rfl (by rw [hml]; rfl) (argsL := [(.int (0 : Int32)), (.ref r0), (.int (0 : Int32)), (.int (2 : Int32))]) (rest := []) (lenOf pd15_0 rfl) rfl (by show 2 * 0 + _ ≤ _; exact Nat.le_of_eq rfl) (hb hby d15_51) (fun _ _ => ⟨rfl, e15_1, (by decide : 0 + 0 ≤ _), (by decide : 0 + 0 ≤ _)⟩)
  dsimp only [Pt.U, Pt.locs, Pt.cells, Pt.slots] at X15_2 l15_2 y15_2 z15_2 st15_2 hQ15_2
  subst l15_2 y15_2 z15_2
  obtain ⟨hz15_2, rfl, N15_2q, e15_2⟩ := hQ15_2
  have N15_2 := Fr.app N0 N15_2q
  refine own_fw st15_2 ?_
  refine own_fw (A := T15_2.setTop (mkF m 157 #[.val (.ref r0), .val (.int (0 : Int32)), .val (.int (2 : Int32)), .val (.int (0 : Int32)), .val (.int (4 : Int32))] [(.int hz15_2)])) (fun t k => ?_) ?_
  · show Steps p.tables e below (T15_2.setTop (mkF m 54 #[.val (.ref r0), .val (.int (0 : Int32)), .val (.int (2 : Int32)), .val (.int (0 : Int32)), .val (.int (4 : Int32))] [(.int hz15_2)])) t
    refine XS.goto X15_2.here hx rfl (pc0 := 54) (pc' := 157) rfl (hb hby d15_54) (by decide) (by decide) ?_
    exact k
  obtain ⟨fs, hr, hrun, hended, hW, hsame⟩ := X15_2.leave (v := some (.int hz15_2)) (own_ret Bd.returns) (BodyLoose.notSynchronized Bd)
  refine ⟨_, _, retI X15_2 hx Bd.returns (hb hby d15_157) hr, hrun, hended, _, _, rfl, ?_, ⟨_, rfl⟩, hW, hsame.mono (by decide) (by decide)⟩
  have eh : (T15_2.setFrames fs).heap = h0 := e15_2
  rw [eh]
  exact ⟨_, rfl, N15_2, rfl⟩
theorem d14_0 : decode jdk_43_method_21_code 0 = .ok (.aload_n 0, 1) := by decide +kernel
theorem d14_1 : decode jdk_43_method_21_code 1 = .ok (.arraylength, 1) := by decide +kernel
theorem d14_2 : decode jdk_43_method_21_code 2 = .ok (.lookupswitch 40 #[(0, 26), (1, 30)], 26) := by decide +kernel
theorem d14_28 : decode jdk_43_method_21_code 28 = .ok (.iconst 0, 1) := by decide +kernel
theorem d14_29 : decode jdk_43_method_21_code 29 = .ok (.goto 22, 3) := by decide +kernel
theorem d14_32 : decode jdk_43_method_21_code 32 = .ok (.aload_n 0, 1) := by decide +kernel
theorem d14_33 : decode jdk_43_method_21_code 33 = .ok (.iconst 0, 1) := by decide +kernel
theorem d14_34 : decode jdk_43_method_21_code 34 = .ok (.baload, 1) := by decide +kernel
theorem d14_35 : decode jdk_43_method_21_code 35 = .ok (.sipush 255, 3) := by decide +kernel
theorem d14_38 : decode jdk_43_method_21_code 38 = .ok (.iand, 1) := by decide +kernel
theorem d14_39 : decode jdk_43_method_21_code 39 = .ok (.goto 12, 3) := by decide +kernel
theorem d14_42 : decode jdk_43_method_21_code 42 = .ok (.aload_n 0, 1) := by decide +kernel
theorem d14_43 : decode jdk_43_method_21_code 43 = .ok (.iconst 0, 1) := by decide +kernel
theorem d14_44 : decode jdk_43_method_21_code 44 = .ok (.aload_n 0, 1) := by decide +kernel
theorem d14_45 : decode jdk_43_method_21_code 45 = .ok (.arraylength, 1) := by decide +kernel
theorem d14_46 : decode jdk_43_method_21_code 46 = .ok (.iconst 0, 1) := by decide +kernel
theorem d14_47 : decode jdk_43_method_21_code 47 = .ok (.iconst 4, 1) := by decide +kernel
theorem d14_48 : decode jdk_43_method_21_code 48 = .ok (.invokestatic 84, 3) := by decide +kernel
theorem d14_51 : decode jdk_43_method_21_code 51 = .ok (.ireturn, 1) := by decide +kernel
theorem pn14 : plainName "java/lang/StringLatin1" = true := by first | (simp [plainName, overriddenIn]; done) | decide +kernel
theorem pd14_0 : parseMethodDescriptor "(Ljava/lang/Object;IIII)I" = some ⟨[(.object "java/lang/Object"), .int, .int, .int, .int], some .int⟩ := by decide +kernel
theorem ef14 (m : MethodId) (r0 : Addr) : entryFrame m #[(.ref r0)] 1 = mkF m 0 #[.val (.ref r0)] [] := by first | (simp [entryFrame, mkF, argsToLocals, Value.category]; done) | rfl
def Q14 (Z : State)  (h0 : Heap) (n0 : Nat) (w : Option Value) (h : Heap) (L : List Loc) : Prop := ∃ z, w = some (.int z) ∧ Fr n0 L ∧ h = h0
theorem d12_0 : decode jdk_42_method_78_code 0 = .ok (.aload_n 0, 1) := by decide +kernel
theorem d12_1 : decode jdk_42_method_78_code 1 = .ok (.getfield 19, 3) := by decide +kernel
theorem d12_4 : decode jdk_42_method_78_code 4 = .ok (.istore_n 1, 1) := by decide +kernel
theorem d12_5 : decode jdk_42_method_78_code 5 = .ok (.iload_n 1, 1) := by decide +kernel
theorem d12_6 : decode jdk_42_method_78_code 6 = .ok (.ifCond .ne 52, 3) := by decide +kernel
theorem d12_9 : decode jdk_42_method_78_code 9 = .ok (.aload_n 0, 1) := by decide +kernel
theorem d12_10 : decode jdk_42_method_78_code 10 = .ok (.getfield 23, 3) := by decide +kernel
theorem d12_13 : decode jdk_42_method_78_code 13 = .ok (.ifCond .ne 45, 3) := by decide +kernel
theorem d12_16 : decode jdk_42_method_78_code 16 = .ok (.aload_n 0, 1) := by decide +kernel
theorem d12_17 : decode jdk_42_method_78_code 17 = .ok (.invokevirtual 492, 3) := by decide +kernel
theorem d12_20 : decode jdk_42_method_78_code 20 = .ok (.ifCond .eq 13, 3) := by decide +kernel
theorem d12_23 : decode jdk_42_method_78_code 23 = .ok (.aload_n 0, 1) := by decide +kernel
theorem d12_24 : decode jdk_42_method_78_code 24 = .ok (.getfield 9, 3) := by decide +kernel
theorem d12_27 : decode jdk_42_method_78_code 27 = .ok (.invokestatic 628, 3) := by decide +kernel
theorem d12_30 : decode jdk_42_method_78_code 30 = .ok (.goto 10, 3) := by decide +kernel
theorem d12_33 : decode jdk_42_method_78_code 33 = .ok (.aload_n 0, 1) := by decide +kernel
theorem d12_34 : decode jdk_42_method_78_code 34 = .ok (.getfield 9, 3) := by decide +kernel
theorem d12_37 : decode jdk_42_method_78_code 37 = .ok (.invokestatic 632, 3) := by decide +kernel
theorem d12_40 : decode jdk_42_method_78_code 40 = .ok (.istore_n 1, 1) := by decide +kernel
theorem d12_41 : decode jdk_42_method_78_code 41 = .ok (.iload_n 1, 1) := by decide +kernel
theorem d12_42 : decode jdk_42_method_78_code 42 = .ok (.ifCond .ne 11, 3) := by decide +kernel
theorem d12_45 : decode jdk_42_method_78_code 45 = .ok (.aload_n 0, 1) := by decide +kernel
theorem d12_46 : decode jdk_42_method_78_code 46 = .ok (.iconst 1, 1) := by decide +kernel
theorem d12_47 : decode jdk_42_method_78_code 47 = .ok (.putfield 23, 3) := by decide +kernel
theorem d12_50 : decode jdk_42_method_78_code 50 = .ok (.goto 8, 3) := by decide +kernel
theorem d12_53 : decode jdk_42_method_78_code 53 = .ok (.aload_n 0, 1) := by decide +kernel
theorem d12_54 : decode jdk_42_method_78_code 54 = .ok (.iload_n 1, 1) := by decide +kernel
theorem d12_55 : decode jdk_42_method_78_code 55 = .ok (.putfield 19, 3) := by decide +kernel
theorem d12_58 : decode jdk_42_method_78_code 58 = .ok (.iload_n 1, 1) := by decide +kernel
theorem d12_59 : decode jdk_42_method_78_code 59 = .ok (.ireturn, 1) := by decide +kernel
theorem pn12 : plainName "java/lang/String" = true := by first | (simp [plainName, overriddenIn]; done) | decide +kernel
theorem pd12_0 : parseMethodDescriptor "()Z" = some ⟨[], some .boolean⟩ := by decide +kernel
theorem pd12_1 : parseMethodDescriptor "([B)I" = some ⟨[(.array .byte)], some .int⟩ := by decide +kernel
theorem ef12 (m : MethodId) (r0 : Addr) : entryFrame m #[(.ref r0)] 2 = mkF m 0 #[.val (.ref r0), .unset] [] := by first | (simp [entryFrame, mkF, argsToLocals, Value.category]; done) | rfl
def Q12 (Z : State) (r0 vb : Addr) (h0 : Heap) (n0 : Nat) (w : Option Value) (h : Heap) (L : List Loc) : Prop := ∃ z hs hz, w = some (.int z) ∧ Fr n0 L ∧ Keep h0 h [r0] ∧ Exa Z h r0 "java/lang/String" ∧ Fld Z h r0 "java/lang/String" "value" "[B" (.ref vb) ∧ Fld Z h r0 "java/lang/String" "coder" "B" (.int 0) ∧ Fld Z h r0 "java/lang/String" "hash" "I" (.int hs) ∧ Fld Z h r0 "java/lang/String" "hashIsZero" "Z" (.int hz)
set_option maxRecDepth 65536 in
set_option maxHeartbeats 40000000 in
theorem rmLH_0 (l : Launch) (Z : State) (a0 : Array Value) (hw : ∀ d ∈ tables_1, d.before a0 Z = true) (ws : List Jvm.Cond) (r0 : Addr) (k : ClassId) (h0 : Heap) (n0 : Nat) (Z0 : n0 ≤ h0.size) (V_1 : Arv Z h0 r0 k .byte (0 : Int32) [] (.int 0)) :
    MetFree l (⟨"java/lang/StringLatin1", "hashCode", "([B)I"⟩ : MethodName) (head1 (Jvm.Cond.code (⟨"java/lang/StringLatin1", "hashCode", "([B)I"⟩ : MethodName) jdk_43_method_21_code 1 (some .int) :: ws) ({ frames := 2, cells := 0, slots := 0, locals := 60 } : Room)) (fun a U => a = #[(.ref r0)] ∧ Z.Warmed39 U.vm ∧ U.heap = h0) (fun _ _ _ _ _ => True) (fun _ U o U' => ∃ v L, o = .returned v ∧ Q14 Z  h0 n0 v U'.heap L ∧ FrameEnd U o U' L ({ frames := 2, cells := 0, slots := 0, locals := 60 } : Room).cells ({ frames := 2, cells := 0, slots := 0, locals := 60 } : Room).slots) := by
  refine MetFree.of_bodySF (plainFor_of_name pn14) hisR ?_
  intro p e s m args below meth c s₁ Bd hml0 hP hK
  obtain ⟨rfl, hZ, hh⟩ := hP
  have hx := Bd.exec
  have hby := Bd.bytes
  have hml : c.maxLocals = 1 := hml0
  have hown : s.vm.findClass "java/lang/StringLatin1" = some m.cls := findClass_of_methodNamed Bd.named
  have hnm := (name_of_methodNamed Bd.named Bd.method).1
  have X0 : Stand p l e ({ frames := 2, cells := 0, slots := 0, locals := 60 } : Room) s m #[(.ref r0)] below meth c s₁ [] 0 0 := Stand.of_body Bd
  have e0 : s₁.heap = h0 := by rw [← hh, Bd.state]; rfl
  have N0 := Fr.nil n0
  refine own_fw (A := s₁.setTop (mkF m 0 #[.val (.ref r0)] [])) (fun t k => castTop (ef14 m r0) k) ?_
  refine own_fw (A := s₁.setTop (mkF m 1 #[.val (.ref r0)] [(.ref r0)])) (fun t k => ?_) ?_
  · show Steps p.tables e below (s₁.setTop (mkF m 0 #[.val (.ref r0)] [])) t
    refine XS.aloadN X0.here hx rfl (hb hby d14_0) rfl rfl ?_
    exact k
  obtain ⟨cl14_1, Ar14_1, q14_1, S14_1, Ng14_1, Hs14_1, G14_1⟩ := id V_1
  have st14_1 := X0.arraylength hx (by rw [e0]; exact Ar14_1.1) (State.isArrayOf_alike hZ.alike Ar14_1.2.1) (g := (mkF m 1 #[.val (.ref r0)] [(.ref r0)])) rfl rfl (hb hby d14_1)
  rw [len_of S14_1 Ng14_1] at st14_1
  refine own_fw st14_1 ?_
  refine own_fw (A := s₁.setTop (mkF m 28 #[.val (.ref r0)] [])) (fun t k => X0.lookupswitchHit hx (g := (mkF m 2 #[.val (.ref r0)] [(.int (0 : Int32))])) rfl rfl (hb hby d14_2) (by decide) rfl (show (0 : Int) ≤ ((2 : Nat) : Int) + 26 by decide) t k) ?_
  refine own_fw (A := s₁.setTop (mkF m 51 #[.val (.ref r0)] [(.int (0 : Int32))])) (fun t k => ?_) ?_
  · show Steps p.tables e below (s₁.setTop (mkF m 28 #[.val (.ref r0)] [])) t
    refine XS.iconst X0.here hx rfl (hb hby d14_28) ?_
    show Steps p.tables e below (s₁.setTop (mkF m 29 #[.val (.ref r0)] [(.int (0 : Int32))])) t
    refine XS.goto X0.here hx rfl (pc0 := 29) (pc' := 51) rfl (hb hby d14_29) (by decide) (by decide) ?_
    exact k
  obtain ⟨fs, hr, hrun, hended, hW, hsame⟩ := X0.leave (v := some (.int (0 : Int32))) (own_ret Bd.returns) (BodyLoose.notSynchronized Bd)
  refine ⟨_, _, retI X0 hx Bd.returns (hb hby d14_51) hr, hrun, hended, _, _, rfl, ?_, ⟨_, rfl⟩, hW, hsame.mono (by decide) (by decide)⟩
  have eh : (s₁.setFrames fs).heap = h0 := e0
  rw [eh]
  exact ⟨_, rfl, N0, rfl⟩
set_option maxRecDepth 65536 in
set_option maxHeartbeats 40000000 in
theorem rmHC_0 (l : Launch) (Z : State) (a0 : Array Value) (hw : ∀ d ∈ tables_1, d.before a0 Z = true) (ws : List Jvm.Cond) (r0 : Addr) (vb : Addr) (k : ClassId) (cc : Int32) (h0 : Heap) (n0 : Nat) (Z0 : n0 ≤ h0.size) (E : Exa Z h0 r0 "java/lang/String") (Svalu : Fld Z h0 r0 "java/lang/String" "value" "[B" (.ref vb)) (Scode : Fld Z h0 r0 "java/lang/String" "coder" "B" (.int 0)) (Shash : Fld Z h0 r0 "java/lang/String" "hash" "I" (.int 0)) (Shz : Fld Z h0 r0 "java/lang/String" "hashIsZero" "Z" (.int 0)) (V_1 : Arv Z h0 vb k .byte (0 : Int32) [] (.int 0)) (hne : vb ≠ r0) (g_r0 : n0 ≤ r0) (O_0 : Old Z n0 h0) (S_c : Sta Z Z.heap "java/lang/String" "COMPACT_STRINGS" "Z" (.int cc)) (hcc : ¬ cc = (0 : Int32)) :
    MetFree l (⟨"java/lang/String", "hashCode", "()I"⟩ : MethodName) (head1 (Jvm.Cond.code (⟨"java/lang/String", "hashCode", "()I"⟩ : MethodName) jdk_42_method_78_code 2 (some .int) :: ws) ({ frames := 3, cells := 0, slots := 0, locals := 90 } : Room)) (fun a U => a = #[(.ref r0)] ∧ Z.Warmed39 U.vm ∧ U.heap = h0) (fun _ _ _ _ _ => True) (fun _ U o U' => ∃ v L, o = .returned v ∧ Q12 Z r0 vb h0 n0 v U'.heap L ∧ FrameEnd U o U' L ({ frames := 3, cells := 0, slots := 0, locals := 90 } : Room).cells ({ frames := 3, cells := 0, slots := 0, locals := 90 } : Room).slots) := by
  refine MetFree.of_bodySF (plainFor_of_name pn12) hisR ?_
  intro p e s m args below meth c s₁ Bd hml0 hP hK
  obtain ⟨rfl, hZ, hh⟩ := hP
  have hx := Bd.exec
  have hby := Bd.bytes
  have hml : c.maxLocals = 2 := hml0
  have hown : s.vm.findClass "java/lang/String" = some m.cls := findClass_of_methodNamed Bd.named
  have hnm := (name_of_methodNamed Bd.named Bd.method).1
  have X0 : Stand p l e ({ frames := 3, cells := 0, slots := 0, locals := 90 } : Room) s m #[(.ref r0)] below meth c s₁ [] 0 0 := Stand.of_body Bd
  have e0 : s₁.heap = h0 := by rw [← hh, Bd.state]; rfl
  have N0 := Fr.nil n0
  refine own_fw (A := s₁.setTop (mkF m 0 #[.val (.ref r0), .unset] [])) (fun t k => castTop (ef12 m r0) k) ?_
  refine own_fw (A := s₁.setTop (mkF m 1 #[.val (.ref r0), .unset] [(.ref r0)])) (fun t k => ?_) ?_
  · show Steps p.tables e below (s₁.setTop (mkF m 0 #[.val (.ref r0), .unset] [])) t
    refine XS.aloadN X0.here hx rfl (hb hby d12_0) rfl rfl ?_
    exact k
  obtain ⟨T12_1, X12_1, e12_1, st12_1⟩ := getF X0 hx hZ hown (host := "") (Or.inl (hw _ (List.mem_of_getElem? (i := 62) rfl))) Via.refl e0 Shash (g := (mkF m 1 #[.val (.ref r0), .unset] [(.ref r0)])) rfl rfl (hb hby d12_1)
  refine own_fw st12_1 ?_
  refine own_fw (A := T12_1.setTop (mkF m 10 #[.val (.ref r0), .val (.int (0 : Int32))] [(.ref r0)])) (fun t k => ?_) ?_
  · show Steps p.tables e below (T12_1.setTop (mkF m 4 #[.val (.ref r0), .unset] [(.int (0 : Int32))])) t
    refine XS.istoreN X12_1.here hx rfl (hb hby d12_4) rfl (l' := #[.val (.ref r0), .val (.int (0 : Int32))]) rfl ?_
    show Steps p.tables e below (T12_1.setTop (mkF m 5 #[.val (.ref r0), .val (.int (0 : Int32))] [])) t
    refine XS.iloadN X12_1.here hx rfl (hb hby d12_5) rfl ?_
    show Steps p.tables e below (T12_1.setTop (mkF m 6 #[.val (.ref r0), .val (.int (0 : Int32))] [(.int (0 : Int32))])) t
    refine XS.ifNo X12_1.here hx rfl (hb hby d12_6) rfl ((if0 _ _).trans (teq (rfl : (0 : Int32) = (0 : Int32))).2) ?_
    show Steps p.tables e below (T12_1.setTop (mkF m 9 #[.val (.ref r0), .val (.int (0 : Int32))] [])) t
    refine XS.aloadN X12_1.here hx rfl (hb hby d12_9) rfl rfl ?_
    exact k
  obtain ⟨T12_2, X12_2, e12_2, st12_2⟩ := getF X12_1 hx hZ hown (host := "") (Or.inl (hw _ (List.mem_of_getElem? (i := 64) rfl))) Via.refl e12_1 Shz (g := (mkF m 10 #[.val (.ref r0), .val (.int (0 : Int32))] [(.ref r0)])) rfl rfl (hb hby d12_10)
  refine own_fw st12_2 ?_
  refine own_fw (A := T12_2.setTop (mkF m 17 #[.val (.ref r0), .val (.int (0 : Int32))] [(.ref r0)])) (fun t k => ?_) ?_
  · show Steps p.tables e below (T12_2.setTop (mkF m 13 #[.val (.ref r0), .val (.int (0 : Int32))] [(.int (0 : Int32))])) t
    refine XS.ifNo X12_2.here hx rfl (hb hby d12_13) rfl ((if0 _ _).trans (teq (rfl : (0 : Int32) = (0 : Int32))).2) ?_
    show Steps p.tables e below (T12_2.setTop (mkF m 16 #[.val (.ref r0), .val (.int (0 : Int32))] [])) t
    refine XS.aloadN X12_2.here hx rfl (hb hby d12_16) rfl rfl ?_
    exact k
  obtain ⟨cq12_3, kq12_3, q12_3a, q12_3b, q12_3c⟩ := isOf hZ e12_2 E
  obtain ⟨_, _, ⟨T12_3, L12_3, k12_3, n12_3⟩, -, X12_3, ⟨Lc12_3, hQ12_3, l12_3, y12_3, z12_3⟩, st12_3⟩ := X12_2.virtualBack hx (y := (⟨"java/lang/String", "isLatin1", "()Z"⟩ : MethodName)) (z := (⟨"java/lang/String", "isLatin1", "()Z"⟩ : MethodName)) hown (mvT hZ (hw _ (List.mem_of_getElem? (i := 66) rfl))) (mvT hZ (hw _ (List.mem_of_getElem? (i := 67) rfl))) (notFace_of_selects (args := #[]) (mvT hZ (hw _ (List.mem_of_getElem? (i := 69) rfl)))) (mvT hZ (hw _ (List.mem_of_getElem? (i := 69) rfl))) (mvT hZ (hw _ (List.mem_of_getElem? (i := 68) rfl))) (by decide) (backOf (W := 0) (rm13 l Z a0 hw [] r0 cc h0 n0 Z0 Scode O_0 S_c hcc) hZ (hw _ (List.mem_of_getElem? (i := 70) rfl)) (hw _ (List.mem_of_getElem? (i := 9) rfl)) (by decide) (by decide)) q12_3a q12_3c (g := (mkF m 17 #[.val (.ref r0), .val (.int (0 : Int32))] [(.ref r0)])) rfl (by rw [hml]; rfl) (Steps.refl _) (argsL := []) (rest := []) (lenOf pd12_0 rfl) rfl (by show 2 * 0 + _ ≤ _; exact Nat.le_of_eq rfl) (hb hby d12_17) (fun _ _ => ⟨rfl, e12_2, (by decide : 0 + 0 ≤ _), (by decide : 0 + 0 ≤ _)⟩)
  dsimp only [Pt.U, Pt.locs, Pt.cells, Pt.slots] at X12_3 l12_3 y12_3 z12_3 st12_3 hQ12_3
  subst l12_3 y12_3 z12_3
  obtain ⟨rfl, N12_3q, e12_3⟩ := hQ12_3
  have N12_3 := Fr.app N0 N12_3q
  refine own_fw (fun t k => st12_3.trans k) ?_
  refine own_fw (A := T12_3.setTop (mkF m 24 #[.val (.ref r0), .val (.int (0 : Int32))] [(.ref r0)])) (fun t k => ?_) ?_
  · show Steps p.tables e below (T12_3.setTop (mkF m 20 #[.val (.ref r0), .val (.int (0 : Int32))] [(.int (1 : Int32))])) t
    refine XS.ifNo X12_3.here hx rfl (hb hby d12_20) rfl ((if0 _ _).trans (feq (by decide : ¬ ((1 : Int32) = (0 : Int32)))).1) ?_
    show Steps p.tables e below (T12_3.setTop (mkF m 23 #[.val (.ref r0), .val (.int (0 : Int32))] [])) t
    refine XS.aloadN X12_3.here hx rfl (hb hby d12_23) rfl rfl ?_
    exact k
  obtain ⟨T12_4, X12_4, e12_4, st12_4⟩ := getF X12_3 hx hZ hown (host := "") (Or.inl (hw _ (List.mem_of_getElem? (i := 27) rfl))) Via.refl e12_3 Svalu (g := (mkF m 24 #[.val (.ref r0), .val (.int (0 : Int32))] [(.ref r0)])) rfl rfl (hb hby d12_24)
  refine own_fw st12_4 ?_
  obtain ⟨_, _, ⟨T12_5, L12_5, k12_5, n12_5⟩, -, X12_5, ⟨Lc12_5, hQ12_5, l12_5, y12_5, z12_5⟩, st12_5⟩ := Jvm.LawKit.callS X12_4 hx (y := (⟨"java/lang/StringLatin1", "hashCode", "([B)I"⟩ : MethodName)) hown (mvT hZ (hw _ (List.mem_of_getElem? (i := 71) rfl))) (mvT hZ (hw _ (List.mem_of_getElem? (i := 72) rfl))) (mvT hZ (hw _ (List.mem_of_getElem? (i := 73) rfl))) (mvT hZ (hw _ (List.mem_of_getElem? (i := 74) rfl))) (by decide) (backOf (W := 0) (rmLH_0 l Z a0 hw [] vb k  h0 n0 Z0 V_1) hZ (hw _ (List.mem_of_getElem? (i := 74) rfl)) (hw _ (List.mem_of_getElem? (i := 73) rfl)) (by decide) (by decide)) (g := (mkF m 27 #[.val (.ref r0), .val (.int (0 : Int32))] [(.ref vb)])) rfl (by rw [hml]; rfl) (argsL := [(.ref vb)]) (rest := []) (lenOf pd12_1 rfl) rfl (by show 2 * 0 + _ ≤ _; exact Nat.le_of_eq rfl) (hb hby d12_27) (fun _ _ => ⟨rfl, e12_4, (by decide : 0 + 0 ≤ _), (by decide : 0 + 0 ≤ _)⟩)
  dsimp only [Pt.U, Pt.locs, Pt.cells, Pt.slots] at X12_5 l12_5 y12_5 z12_5 st12_5 hQ12_5
  subst l12_5 y12_5 z12_5
  obtain ⟨hz12_5, rfl, N12_5q, e12_5⟩ := hQ12_5
  have N12_5 := Fr.app N12_3 N12_5q
  refine own_fw st12_5 ?_
  refine own_fw (A := T12_5.setTop (mkF m 42 #[.val (.ref r0), .val (.int hz12_5)] [(.int hz12_5)])) (fun t k => ?_) ?_
  · show Steps p.tables e below (T12_5.setTop (mkF m 30 #[.val (.ref r0), .val (.int (0 : Int32))] [(.int hz12_5)])) t
    refine XS.goto X12_5.here hx rfl (pc0 := 30) (pc' := 40) rfl (hb hby d12_30) (by decide) (by decide) ?_
    show Steps p.tables e below (T12_5.setTop (mkF m 40 #[.val (.ref r0), .val (.int (0 : Int32))] [(.int hz12_5)])) t
    refine XS.istoreN X12_5.here hx rfl (hb hby d12_40) rfl (l' := #[.val (.ref r0), .val (.int hz12_5)]) rfl ?_
    show Steps p.tables e below (T12_5.setTop (mkF m 41 #[.val (.ref r0), .val (.int hz12_5)] [])) t
    refine XS.iloadN X12_5.here hx rfl (hb hby d12_41) rfl ?_
    exact k
  by_cases hc12_1 : hz12_5 = (0 : Int32)
  · refine own_fw (A := T12_5.setTop (mkF m 45 #[.val (.ref r0), .val (.int hz12_5)] [])) (fun t k => ?_) ?_
    · show Steps p.tables e below (T12_5.setTop (mkF m 42 #[.val (.ref r0), .val (.int hz12_5)] [(.int hz12_5)])) t
      refine XS.ifNo X12_5.here hx rfl (hb hby d12_42) rfl ((if0 _ _).trans (teq hc12_1).2) ?_
      exact k
    refine own_fw (A := T12_5.setTop (mkF m 47 #[.val (.ref r0), .val (.int hz12_5)] [(.int (1 : Int32)), (.ref r0)])) (fun t k => ?_) ?_
    · show Steps p.tables e below (T12_5.setTop (mkF m 45 #[.val (.ref r0), .val (.int hz12_5)] [])) t
      refine XS.aloadN X12_5.here hx rfl (hb hby d12_45) rfl rfl ?_
      show Steps p.tables e below (T12_5.setTop (mkF m 46 #[.val (.ref r0), .val (.int hz12_5)] [(.ref r0)])) t
      refine XS.iconst X12_5.here hx rfl (hb hby d12_46) ?_
      exact k
    obtain ⟨T12_6, h12_6, X12_6, e12_6, W12_6, st12_6⟩ := putFN X12_5 hx hZ hown (hw _ (List.mem_of_getElem? (i := 64) rfl)) Via.refl e12_5 Shz E (Or.inl (hw _ (List.mem_of_getElem? (i := 65) rfl))) (hw _ (List.mem_of_getElem? (i := 8) rfl)) (ty := .boolean) (v' := (.int (nar .boolean (1 : Int32)))) (by decide) rfl (fits_nar_bool _) (g := (mkF m 47 #[.val (.ref r0), .val (.int hz12_5)] [(.int (1 : Int32)), (.ref r0)])) rfl rfl (hb hby d12_47)
    have Fw12_6 := Shz.same W12_6
    have N12_6 := Fr.snoc X12_6 N12_5 g_r0
    refine own_fw st12_6 ?_
    refine own_fw (A := T12_6.setTop (mkF m 59 #[.val (.ref r0), .val (.int hz12_5)] [(.int hz12_5)])) (fun t k => ?_) ?_
    · show Steps p.tables e below (T12_6.setTop (mkF m 50 #[.val (.ref r0), .val (.int hz12_5)] [])) t
      refine XS.goto X12_6.here hx rfl (pc0 := 50) (pc' := 58) rfl (hb hby d12_50) (by decide) (by decide) ?_
      show Steps p.tables e below (T12_6.setTop (mkF m 58 #[.val (.ref r0), .val (.int hz12_5)] [])) t
      refine XS.iloadN X12_6.here hx rfl (hb hby d12_58) rfl ?_
      exact k
    obtain ⟨fs, hr, hrun, hended, hW, hsame⟩ := X12_6.leave (v := some (.int hz12_5)) (own_ret Bd.returns) (BodyLoose.notSynchronized Bd)
    refine ⟨_, _, retI X12_6 hx Bd.returns (hb hby d12_59) hr, hrun, hended, _, _, rfl, ?_, ⟨_, rfl⟩, hW, hsame.mono (by decide) (by decide)⟩
    have eh : (T12_6.setFrames fs).heap = h12_6 := e12_6
    rw [eh]
    exact ⟨_, _, _, rfl, N12_6, ((Keep.refl h0 [r0]).wr W12_6 (Or.inl (List.mem_of_getElem? (i := 0) rfl))), (E.wr W12_6), (Svalu.other W12_6 (Or.inr (slot_ne (Or.inr (hw _ (List.mem_of_getElem? (i := 23) rfl))) (Or.inl (hw _ (List.mem_of_getElem? (i := 65) rfl))) (by decide) (t := (.array .byte)) (t' := .boolean) (by decide) (by decide)))), (Scode.other W12_6 (Or.inr (slot_ne (Or.inr (hw _ (List.mem_of_getElem? (i := 24) rfl))) (Or.inl (hw _ (List.mem_of_getElem? (i := 65) rfl))) (by decide) (t := .byte) (t' := .boolean) (by decide) (by decide)))), (Shash.other W12_6 (Or.inr (slot_ne (Or.inl (hw _ (List.mem_of_getElem? (i := 63) rfl))) (Or.inl (hw _ (List.mem_of_getElem? (i := 65) rfl))) (by decide) (t := .int) (t' := .boolean) (by decide) (by decide)))), Fw12_6⟩
  · refine own_fw (A := T12_5.setTop (mkF m 53 #[.val (.ref r0), .val (.int hz12_5)] [])) (fun t k => ?_) ?_
    · show Steps p.tables e below (T12_5.setTop (mkF m 42 #[.val (.ref r0), .val (.int hz12_5)] [(.int hz12_5)])) t
      refine XS.ifYes X12_5.here hx rfl (pc0 := 42) (pc' := 53) rfl (hb hby d12_42) rfl ((if0 _ _).trans (feq hc12_1).2) (by decide) (by decide) ?_
      exact k
    refine own_fw (A := T12_5.setTop (mkF m 55 #[.val (.ref r0), .val (.int hz12_5)] [(.int hz12_5), (.ref r0)])) (fun t k => ?_) ?_
    · show Steps p.tables e below (T12_5.setTop (mkF m 53 #[.val (.ref r0), .val (.int hz12_5)] [])) t
      refine XS.aloadN X12_5.here hx rfl (hb hby d12_53) rfl rfl ?_
      show Steps p.tables e below (T12_5.setTop (mkF m 54 #[.val (.ref r0), .val (.int hz12_5)] [(.ref r0)])) t
      refine XS.iloadN X12_5.here hx rfl (hb hby d12_54) rfl ?_
      exact k
    obtain ⟨T12_7, h12_7, X12_7, e12_7, W12_7, st12_7⟩ := putF X12_5 hx hZ hown (host := "") (Or.inl (hw _ (List.mem_of_getElem? (i := 62) rfl))) Via.refl e12_5 Shash E (Or.inl (hw _ (List.mem_of_getElem? (i := 63) rfl))) (hw _ (List.mem_of_getElem? (i := 8) rfl)) (ty := .int) (by decide) rfl rfl (g := (mkF m 55 #[.val (.ref r0), .val (.int hz12_5)] [(.int hz12_5), (.ref r0)])) rfl rfl (hb hby d12_55)
    have Fw12_7 := Shash.same W12_7
    have N12_7 := Fr.snoc X12_7 N12_5 g_r0
    refine own_fw st12_7 ?_
    refine own_fw (A := T12_7.setTop (mkF m 59 #[.val (.ref r0), .val (.int hz12_5)] [(.int hz12_5)])) (fun t k => ?_) ?_
    · show Steps p.tables e below (T12_7.setTop (mkF m 58 #[.val (.ref r0), .val (.int hz12_5)] [])) t
      refine XS.iloadN X12_7.here hx rfl (hb hby d12_58) rfl ?_
      exact k
    obtain ⟨fs, hr, hrun, hended, hW, hsame⟩ := X12_7.leave (v := some (.int hz12_5)) (own_ret Bd.returns) (BodyLoose.notSynchronized Bd)
    refine ⟨_, _, retI X12_7 hx Bd.returns (hb hby d12_59) hr, hrun, hended, _, _, rfl, ?_, ⟨_, rfl⟩, hW, hsame.mono (by decide) (by decide)⟩
    have eh : (T12_7.setFrames fs).heap = h12_7 := e12_7
    rw [eh]
    exact ⟨_, _, _, rfl, N12_7, ((Keep.refl h0 [r0]).wr W12_7 (Or.inl (List.mem_of_getElem? (i := 0) rfl))), (E.wr W12_7), (Svalu.other W12_7 (Or.inr (slot_ne (Or.inr (hw _ (List.mem_of_getElem? (i := 23) rfl))) (Or.inl (hw _ (List.mem_of_getElem? (i := 63) rfl))) (by decide) (t := (.array .byte)) (t' := .int) (by decide) (by decide)))), (Scode.other W12_7 (Or.inr (slot_ne (Or.inr (hw _ (List.mem_of_getElem? (i := 24) rfl))) (Or.inl (hw _ (List.mem_of_getElem? (i := 63) rfl))) (by decide) (t := .byte) (t' := .int) (by decide) (by decide)))), Fw12_7, (Shz.other W12_7 (Or.inr (slot_ne (Or.inl (hw _ (List.mem_of_getElem? (i := 65) rfl))) (Or.inl (hw _ (List.mem_of_getElem? (i := 63) rfl))) (by decide) (t := .boolean) (t' := .int) (by decide) (by decide))))⟩
set_option maxRecDepth 65536 in
set_option maxHeartbeats 40000000 in
theorem rmLH_1 (l : Launch) (Z : State) (a0 : Array Value) (hw : ∀ d ∈ tables_1, d.before a0 Z = true) (ws : List Jvm.Cond) (r0 : Addr) (k : ClassId) (x : Int32) (h0 : Heap) (n0 : Nat) (Z0 : n0 ≤ h0.size) (V_1 : Arv Z h0 r0 k .byte (1 : Int32) [(.int x)] (.int 0)) :
    MetFree l (⟨"java/lang/StringLatin1", "hashCode", "([B)I"⟩ : MethodName) (head1 (Jvm.Cond.code (⟨"java/lang/StringLatin1", "hashCode", "([B)I"⟩ : MethodName) jdk_43_method_21_code 1 (some .int) :: ws) ({ frames := 2, cells := 0, slots := 0, locals := 60 } : Room)) (fun a U => a = #[(.ref r0)] ∧ Z.Warmed39 U.vm ∧ U.heap = h0) (fun _ _ _ _ _ => True) (fun _ U o U' => ∃ v L, o = .returned v ∧ Q14 Z  h0 n0 v U'.heap L ∧ FrameEnd U o U' L ({ frames := 2, cells := 0, slots := 0, locals := 60 } : Room).cells ({ frames := 2, cells := 0, slots := 0, locals := 60 } : Room).slots) := by
  refine MetFree.of_bodySF (plainFor_of_name pn14) hisR ?_
  intro p e s m args below meth c s₁ Bd hml0 hP hK
  obtain ⟨rfl, hZ, hh⟩ := hP
  have hx := Bd.exec
  have hby := Bd.bytes
  have hml : c.maxLocals = 1 := hml0
  have hown : s.vm.findClass "java/lang/StringLatin1" = some m.cls := findClass_of_methodNamed Bd.named
  have hnm := (name_of_methodNamed Bd.named Bd.method).1
  have X0 : Stand p l e ({ frames := 2, cells := 0, slots := 0, locals := 60 } : Room) s m #[(.ref r0)] below meth c s₁ [] 0 0 := Stand.of_body Bd
  have e0 : s₁.heap = h0 := by rw [← hh, Bd.state]; rfl
  have N0 := Fr.nil n0
  refine own_fw (A := s₁.setTop (mkF m 0 #[.val (.ref r0)] [])) (fun t k => castTop (ef14 m r0) k) ?_
  refine own_fw (A := s₁.setTop (mkF m 1 #[.val (.ref r0)] [(.ref r0)])) (fun t k => ?_) ?_
  · show Steps p.tables e below (s₁.setTop (mkF m 0 #[.val (.ref r0)] [])) t
    refine XS.aloadN X0.here hx rfl (hb hby d14_0) rfl rfl ?_
    exact k
  obtain ⟨cl14_1, Ar14_1, q14_1, S14_1, Ng14_1, Hs14_1, G14_1⟩ := id V_1
  have st14_1 := X0.arraylength hx (by rw [e0]; exact Ar14_1.1) (State.isArrayOf_alike hZ.alike Ar14_1.2.1) (g := (mkF m 1 #[.val (.ref r0)] [(.ref r0)])) rfl rfl (hb hby d14_1)
  rw [len_of S14_1 Ng14_1] at st14_1
  refine own_fw st14_1 ?_
  refine own_fw (A := s₁.setTop (mkF m 32 #[.val (.ref r0)] [])) (fun t k => X0.lookupswitchHit hx (g := (mkF m 2 #[.val (.ref r0)] [(.int (1 : Int32))])) rfl rfl (hb hby d14_2) (by decide) rfl (show (0 : Int) ≤ ((2 : Nat) : Int) + 30 by decide) t k) ?_
  refine own_fw (A := s₁.setTop (mkF m 34 #[.val (.ref r0)] [(.int (0 : Int32)), (.ref r0)])) (fun t k => ?_) ?_
  · show Steps p.tables e below (s₁.setTop (mkF m 32 #[.val (.ref r0)] [])) t
    refine XS.aloadN X0.here hx rfl (hb hby d14_32) rfl rfl ?_
    show Steps p.tables e below (s₁.setTop (mkF m 33 #[.val (.ref r0)] [(.ref r0)])) t
    refine XS.iconst X0.here hx rfl (hb hby d14_33) ?_
    exact k
  obtain ⟨cl14_2, Ar14_2, q14_2, S14_2, Ng14_2, Hs14_2, G14_2⟩ := id V_1
  have hin14_2 : ¬ ((0 : Int32) < 0 ∨ cl14_2.slots.size ≤ ((0 : Int32)).toNatClampNeg) := inb_of S14_2 ⟨by decide, by decide⟩
  refine own_fw (X0.baloadBytes hx (j := (0 : Int32)) (v := (.int x)) (by rw [e0]; exact Ar14_2.1) (State.isArrayOf_alike hZ.alike Ar14_2.2.1) Ar14_2.2.2 hin14_2 (Has.at Hs14_2 hin14_2 rfl) (g := (mkF m 34 #[.val (.ref r0)] [(.int (0 : Int32)), (.ref r0)])) rfl rfl (hb hby d14_34)) ?_
  refine own_fw (A := s₁.setTop (mkF m 51 #[.val (.ref r0)] [(.int (x &&& (255 : Int32)))])) (fun t k => ?_) ?_
  · show Steps p.tables e below (s₁.setTop (mkF m 35 #[.val (.ref r0)] [(.int x)])) t
    refine XS.sipush X0.here hx rfl (hb hby d14_35) ?_
    show Steps p.tables e below (s₁.setTop (mkF m 38 #[.val (.ref r0)] [(.int (255 : Int32)), (.int x)])) t
    refine XS.iand X0.here hx rfl (hb hby d14_38) rfl ?_
    show Steps p.tables e below (s₁.setTop (mkF m 39 #[.val (.ref r0)] [(.int (x &&& (255 : Int32)))])) t
    refine XS.goto X0.here hx rfl (pc0 := 39) (pc' := 51) rfl (hb hby d14_39) (by decide) (by decide) ?_
    exact k
  obtain ⟨fs, hr, hrun, hended, hW, hsame⟩ := X0.leave (v := some (.int (x &&& (255 : Int32)))) (own_ret Bd.returns) (BodyLoose.notSynchronized Bd)
  refine ⟨_, _, retI X0 hx Bd.returns (hb hby d14_51) hr, hrun, hended, _, _, rfl, ?_, ⟨_, rfl⟩, hW, hsame.mono (by decide) (by decide)⟩
  have eh : (s₁.setFrames fs).heap = h0 := e0
  rw [eh]
  exact ⟨_, rfl, N0, rfl⟩
set_option maxRecDepth 65536 in
set_option maxHeartbeats 40000000 in
theorem rmHC_1 (l : Launch) (Z : State) (a0 : Array Value) (hw : ∀ d ∈ tables_1, d.before a0 Z = true) (ws : List Jvm.Cond) (r0 : Addr) (vb : Addr) (k : ClassId) (x : Int32) (cc : Int32) (h0 : Heap) (n0 : Nat) (Z0 : n0 ≤ h0.size) (E : Exa Z h0 r0 "java/lang/String") (Svalu : Fld Z h0 r0 "java/lang/String" "value" "[B" (.ref vb)) (Scode : Fld Z h0 r0 "java/lang/String" "coder" "B" (.int 0)) (Shash : Fld Z h0 r0 "java/lang/String" "hash" "I" (.int 0)) (Shz : Fld Z h0 r0 "java/lang/String" "hashIsZero" "Z" (.int 0)) (V_1 : Arv Z h0 vb k .byte (1 : Int32) [(.int x)] (.int 0)) (hne : vb ≠ r0) (g_r0 : n0 ≤ r0) (O_0 : Old Z n0 h0) (S_c : Sta Z Z.heap "java/lang/String" "COMPACT_STRINGS" "Z" (.int cc)) (hcc : ¬ cc = (0 : Int32)) :
    MetFree l (⟨"java/lang/String", "hashCode", "()I"⟩ : MethodName) (head1 (Jvm.Cond.code (⟨"java/lang/String", "hashCode", "()I"⟩ : MethodName) jdk_42_method_78_code 2 (some .int) :: ws) ({ frames := 3, cells := 0, slots := 0, locals := 90 } : Room)) (fun a U => a = #[(.ref r0)] ∧ Z.Warmed39 U.vm ∧ U.heap = h0) (fun _ _ _ _ _ => True) (fun _ U o U' => ∃ v L, o = .returned v ∧ Q12 Z r0 vb h0 n0 v U'.heap L ∧ FrameEnd U o U' L ({ frames := 3, cells := 0, slots := 0, locals := 90 } : Room).cells ({ frames := 3, cells := 0, slots := 0, locals := 90 } : Room).slots) := by
  refine MetFree.of_bodySF (plainFor_of_name pn12) hisR ?_
  intro p e s m args below meth c s₁ Bd hml0 hP hK
  obtain ⟨rfl, hZ, hh⟩ := hP
  have hx := Bd.exec
  have hby := Bd.bytes
  have hml : c.maxLocals = 2 := hml0
  have hown : s.vm.findClass "java/lang/String" = some m.cls := findClass_of_methodNamed Bd.named
  have hnm := (name_of_methodNamed Bd.named Bd.method).1
  have X0 : Stand p l e ({ frames := 3, cells := 0, slots := 0, locals := 90 } : Room) s m #[(.ref r0)] below meth c s₁ [] 0 0 := Stand.of_body Bd
  have e0 : s₁.heap = h0 := by rw [← hh, Bd.state]; rfl
  have N0 := Fr.nil n0
  refine own_fw (A := s₁.setTop (mkF m 0 #[.val (.ref r0), .unset] [])) (fun t k => castTop (ef12 m r0) k) ?_
  refine own_fw (A := s₁.setTop (mkF m 1 #[.val (.ref r0), .unset] [(.ref r0)])) (fun t k => ?_) ?_
  · show Steps p.tables e below (s₁.setTop (mkF m 0 #[.val (.ref r0), .unset] [])) t
    refine XS.aloadN X0.here hx rfl (hb hby d12_0) rfl rfl ?_
    exact k
  obtain ⟨T12_1, X12_1, e12_1, st12_1⟩ := getF X0 hx hZ hown (host := "") (Or.inl (hw _ (List.mem_of_getElem? (i := 62) rfl))) Via.refl e0 Shash (g := (mkF m 1 #[.val (.ref r0), .unset] [(.ref r0)])) rfl rfl (hb hby d12_1)
  refine own_fw st12_1 ?_
  refine own_fw (A := T12_1.setTop (mkF m 10 #[.val (.ref r0), .val (.int (0 : Int32))] [(.ref r0)])) (fun t k => ?_) ?_
  · show Steps p.tables e below (T12_1.setTop (mkF m 4 #[.val (.ref r0), .unset] [(.int (0 : Int32))])) t
    refine XS.istoreN X12_1.here hx rfl (hb hby d12_4) rfl (l' := #[.val (.ref r0), .val (.int (0 : Int32))]) rfl ?_
    show Steps p.tables e below (T12_1.setTop (mkF m 5 #[.val (.ref r0), .val (.int (0 : Int32))] [])) t
    refine XS.iloadN X12_1.here hx rfl (hb hby d12_5) rfl ?_
    show Steps p.tables e below (T12_1.setTop (mkF m 6 #[.val (.ref r0), .val (.int (0 : Int32))] [(.int (0 : Int32))])) t
    refine XS.ifNo X12_1.here hx rfl (hb hby d12_6) rfl ((if0 _ _).trans (teq (rfl : (0 : Int32) = (0 : Int32))).2) ?_
    show Steps p.tables e below (T12_1.setTop (mkF m 9 #[.val (.ref r0), .val (.int (0 : Int32))] [])) t
    refine XS.aloadN X12_1.here hx rfl (hb hby d12_9) rfl rfl ?_
    exact k
  obtain ⟨T12_2, X12_2, e12_2, st12_2⟩ := getF X12_1 hx hZ hown (host := "") (Or.inl (hw _ (List.mem_of_getElem? (i := 64) rfl))) Via.refl e12_1 Shz (g := (mkF m 10 #[.val (.ref r0), .val (.int (0 : Int32))] [(.ref r0)])) rfl rfl (hb hby d12_10)
  refine own_fw st12_2 ?_
  refine own_fw (A := T12_2.setTop (mkF m 17 #[.val (.ref r0), .val (.int (0 : Int32))] [(.ref r0)])) (fun t k => ?_) ?_
  · show Steps p.tables e below (T12_2.setTop (mkF m 13 #[.val (.ref r0), .val (.int (0 : Int32))] [(.int (0 : Int32))])) t
    refine XS.ifNo X12_2.here hx rfl (hb hby d12_13) rfl ((if0 _ _).trans (teq (rfl : (0 : Int32) = (0 : Int32))).2) ?_
    show Steps p.tables e below (T12_2.setTop (mkF m 16 #[.val (.ref r0), .val (.int (0 : Int32))] [])) t
    refine XS.aloadN X12_2.here hx rfl (hb hby d12_16) rfl rfl ?_
    exact k
  obtain ⟨cq12_3, kq12_3, q12_3a, q12_3b, q12_3c⟩ := isOf hZ e12_2 E
  obtain ⟨_, _, ⟨T12_3, L12_3, k12_3, n12_3⟩, -, X12_3, ⟨Lc12_3, hQ12_3, l12_3, y12_3, z12_3⟩, st12_3⟩ := X12_2.virtualBack hx (y := (⟨"java/lang/String", "isLatin1", "()Z"⟩ : MethodName)) (z := (⟨"java/lang/String", "isLatin1", "()Z"⟩ : MethodName)) hown (mvT hZ (hw _ (List.mem_of_getElem? (i := 66) rfl))) (mvT hZ (hw _ (List.mem_of_getElem? (i := 67) rfl))) (notFace_of_selects (args := #[]) (mvT hZ (hw _ (List.mem_of_getElem? (i := 69) rfl)))) (mvT hZ (hw _ (List.mem_of_getElem? (i := 69) rfl))) (mvT hZ (hw _ (List.mem_of_getElem? (i := 68) rfl))) (by decide) (backOf (W := 0) (rm13 l Z a0 hw [] r0 cc h0 n0 Z0 Scode O_0 S_c hcc) hZ (hw _ (List.mem_of_getElem? (i := 70) rfl)) (hw _ (List.mem_of_getElem? (i := 9) rfl)) (by decide) (by decide)) q12_3a q12_3c (g := (mkF m 17 #[.val (.ref r0), .val (.int (0 : Int32))] [(.ref r0)])) rfl (by rw [hml]; rfl) (Steps.refl _) (argsL := []) (rest := []) (lenOf pd12_0 rfl) rfl (by show 2 * 0 + _ ≤ _; exact Nat.le_of_eq rfl) (hb hby d12_17) (fun _ _ => ⟨rfl, e12_2, (by decide : 0 + 0 ≤ _), (by decide : 0 + 0 ≤ _)⟩)
  dsimp only [Pt.U, Pt.locs, Pt.cells, Pt.slots] at X12_3 l12_3 y12_3 z12_3 st12_3 hQ12_3
  subst l12_3 y12_3 z12_3
  obtain ⟨rfl, N12_3q, e12_3⟩ := hQ12_3
  have N12_3 := Fr.app N0 N12_3q
  refine own_fw (fun t k => st12_3.trans k) ?_
  refine own_fw (A := T12_3.setTop (mkF m 24 #[.val (.ref r0), .val (.int (0 : Int32))] [(.ref r0)])) (fun t k => ?_) ?_
  · show Steps p.tables e below (T12_3.setTop (mkF m 20 #[.val (.ref r0), .val (.int (0 : Int32))] [(.int (1 : Int32))])) t
    refine XS.ifNo X12_3.here hx rfl (hb hby d12_20) rfl ((if0 _ _).trans (feq (by decide : ¬ ((1 : Int32) = (0 : Int32)))).1) ?_
    show Steps p.tables e below (T12_3.setTop (mkF m 23 #[.val (.ref r0), .val (.int (0 : Int32))] [])) t
    refine XS.aloadN X12_3.here hx rfl (hb hby d12_23) rfl rfl ?_
    exact k
  obtain ⟨T12_4, X12_4, e12_4, st12_4⟩ := getF X12_3 hx hZ hown (host := "") (Or.inl (hw _ (List.mem_of_getElem? (i := 27) rfl))) Via.refl e12_3 Svalu (g := (mkF m 24 #[.val (.ref r0), .val (.int (0 : Int32))] [(.ref r0)])) rfl rfl (hb hby d12_24)
  refine own_fw st12_4 ?_
  obtain ⟨_, _, ⟨T12_5, L12_5, k12_5, n12_5⟩, -, X12_5, ⟨Lc12_5, hQ12_5, l12_5, y12_5, z12_5⟩, st12_5⟩ := Jvm.LawKit.callS X12_4 hx (y := (⟨"java/lang/StringLatin1", "hashCode", "([B)I"⟩ : MethodName)) hown (mvT hZ (hw _ (List.mem_of_getElem? (i := 71) rfl))) (mvT hZ (hw _ (List.mem_of_getElem? (i := 72) rfl))) (mvT hZ (hw _ (List.mem_of_getElem? (i := 73) rfl))) (mvT hZ (hw _ (List.mem_of_getElem? (i := 74) rfl))) (by decide) (backOf (W := 0) (rmLH_1 l Z a0 hw [] vb k x h0 n0 Z0 V_1) hZ (hw _ (List.mem_of_getElem? (i := 74) rfl)) (hw _ (List.mem_of_getElem? (i := 73) rfl)) (by decide) (by decide)) (g := (mkF m 27 #[.val (.ref r0), .val (.int (0 : Int32))] [(.ref vb)])) rfl (by rw [hml]; rfl) (argsL := [(.ref vb)]) (rest := []) (lenOf pd12_1 rfl) rfl (by show 2 * 0 + _ ≤ _; exact Nat.le_of_eq rfl) (hb hby d12_27) (fun _ _ => ⟨rfl, e12_4, (by decide : 0 + 0 ≤ _), (by decide : 0 + 0 ≤ _)⟩)
  dsimp only [Pt.U, Pt.locs, Pt.cells, Pt.slots] at X12_5 l12_5 y12_5 z12_5 st12_5 hQ12_5
  subst l12_5 y12_5 z12_5
  obtain ⟨hz12_5, rfl, N12_5q, e12_5⟩ := hQ12_5
  have N12_5 := Fr.app N12_3 N12_5q
  refine own_fw st12_5 ?_
  refine own_fw (A := T12_5.setTop (mkF m 42 #[.val (.ref r0), .val (.int hz12_5)] [(.int hz12_5)])) (fun t k => ?_) ?_
  · show Steps p.tables e below (T12_5.setTop (mkF m 30 #[.val (.ref r0), .val (.int (0 : Int32))] [(.int hz12_5)])) t
    refine XS.goto X12_5.here hx rfl (pc0 := 30) (pc' := 40) rfl (hb hby d12_30) (by decide) (by decide) ?_
    show Steps p.tables e below (T12_5.setTop (mkF m 40 #[.val (.ref r0), .val (.int (0 : Int32))] [(.int hz12_5)])) t
    refine XS.istoreN X12_5.here hx rfl (hb hby d12_40) rfl (l' := #[.val (.ref r0), .val (.int hz12_5)]) rfl ?_
    show Steps p.tables e below (T12_5.setTop (mkF m 41 #[.val (.ref r0), .val (.int hz12_5)] [])) t
    refine XS.iloadN X12_5.here hx rfl (hb hby d12_41) rfl ?_
    exact k
  by_cases hc12_1 : hz12_5 = (0 : Int32)
  · refine own_fw (A := T12_5.setTop (mkF m 45 #[.val (.ref r0), .val (.int hz12_5)] [])) (fun t k => ?_) ?_
    · show Steps p.tables e below (T12_5.setTop (mkF m 42 #[.val (.ref r0), .val (.int hz12_5)] [(.int hz12_5)])) t
      refine XS.ifNo X12_5.here hx rfl (hb hby d12_42) rfl ((if0 _ _).trans (teq hc12_1).2) ?_
      exact k
    refine own_fw (A := T12_5.setTop (mkF m 47 #[.val (.ref r0), .val (.int hz12_5)] [(.int (1 : Int32)), (.ref r0)])) (fun t k => ?_) ?_
    · show Steps p.tables e below (T12_5.setTop (mkF m 45 #[.val (.ref r0), .val (.int hz12_5)] [])) t
      refine XS.aloadN X12_5.here hx rfl (hb hby d12_45) rfl rfl ?_
      show Steps p.tables e below (T12_5.setTop (mkF m 46 #[.val (.ref r0), .val (.int hz12_5)] [(.ref r0)])) t
      refine XS.iconst X12_5.here hx rfl (hb hby d12_46) ?_
      exact k
    obtain ⟨T12_6, h12_6, X12_6, e12_6, W12_6, st12_6⟩ := putFN X12_5 hx hZ hown (hw _ (List.mem_of_getElem? (i := 64) rfl)) Via.refl e12_5 Shz E (Or.inl (hw _ (List.mem_of_getElem? (i := 65) rfl))) (hw _ (List.mem_of_getElem? (i := 8) rfl)) (ty := .boolean) (v' := (.int (nar .boolean (1 : Int32)))) (by decide) rfl (fits_nar_bool _) (g := (mkF m 47 #[.val (.ref r0), .val (.int hz12_5)] [(.int (1 : Int32)), (.ref r0)])) rfl rfl (hb hby d12_47)
    have Fw12_6 := Shz.same W12_6
    have N12_6 := Fr.snoc X12_6 N12_5 g_r0
    refine own_fw st12_6 ?_
    refine own_fw (A := T12_6.setTop (mkF m 59 #[.val (.ref r0), .val (.int hz12_5)] [(.int hz12_5)])) (fun t k => ?_) ?_
    · show Steps p.tables e below (T12_6.setTop (mkF m 50 #[.val (.ref r0), .val (.int hz12_5)] [])) t
      refine XS.goto X12_6.here hx rfl (pc0 := 50) (pc' := 58) rfl (hb hby d12_50) (by decide) (by decide) ?_
      show Steps p.tables e below (T12_6.setTop (mkF m 58 #[.val (.ref r0), .val (.int hz12_5)] [])) t
      refine XS.iloadN X12_6.here hx rfl (hb hby d12_58) rfl ?_
      exact k
    obtain ⟨fs, hr, hrun, hended, hW, hsame⟩ := X12_6.leave (v := some (.int hz12_5)) (own_ret Bd.returns) (BodyLoose.notSynchronized Bd)
    refine ⟨_, _, retI X12_6 hx Bd.returns (hb hby d12_59) hr, hrun, hended, _, _, rfl, ?_, ⟨_, rfl⟩, hW, hsame.mono (by decide) (by decide)⟩
    have eh : (T12_6.setFrames fs).heap = h12_6 := e12_6
    rw [eh]
    exact ⟨_, _, _, rfl, N12_6, ((Keep.refl h0 [r0]).wr W12_6 (Or.inl (List.mem_of_getElem? (i := 0) rfl))), (E.wr W12_6), (Svalu.other W12_6 (Or.inr (slot_ne (Or.inr (hw _ (List.mem_of_getElem? (i := 23) rfl))) (Or.inl (hw _ (List.mem_of_getElem? (i := 65) rfl))) (by decide) (t := (.array .byte)) (t' := .boolean) (by decide) (by decide)))), (Scode.other W12_6 (Or.inr (slot_ne (Or.inr (hw _ (List.mem_of_getElem? (i := 24) rfl))) (Or.inl (hw _ (List.mem_of_getElem? (i := 65) rfl))) (by decide) (t := .byte) (t' := .boolean) (by decide) (by decide)))), (Shash.other W12_6 (Or.inr (slot_ne (Or.inl (hw _ (List.mem_of_getElem? (i := 63) rfl))) (Or.inl (hw _ (List.mem_of_getElem? (i := 65) rfl))) (by decide) (t := .int) (t' := .boolean) (by decide) (by decide)))), Fw12_6⟩
  · refine own_fw (A := T12_5.setTop (mkF m 53 #[.val (.ref r0), .val (.int hz12_5)] [])) (fun t k => ?_) ?_
    · show Steps p.tables e below (T12_5.setTop (mkF m 42 #[.val (.ref r0), .val (.int hz12_5)] [(.int hz12_5)])) t
      refine XS.ifYes X12_5.here hx rfl (pc0 := 42) (pc' := 53) rfl (hb hby d12_42) rfl ((if0 _ _).trans (feq hc12_1).2) (by decide) (by decide) ?_
      exact k
    refine own_fw (A := T12_5.setTop (mkF m 55 #[.val (.ref r0), .val (.int hz12_5)] [(.int hz12_5), (.ref r0)])) (fun t k => ?_) ?_
    · show Steps p.tables e below (T12_5.setTop (mkF m 53 #[.val (.ref r0), .val (.int hz12_5)] [])) t
      refine XS.aloadN X12_5.here hx rfl (hb hby d12_53) rfl rfl ?_
      show Steps p.tables e below (T12_5.setTop (mkF m 54 #[.val (.ref r0), .val (.int hz12_5)] [(.ref r0)])) t
      refine XS.iloadN X12_5.here hx rfl (hb hby d12_54) rfl ?_
      exact k
    obtain ⟨T12_7, h12_7, X12_7, e12_7, W12_7, st12_7⟩ := putF X12_5 hx hZ hown (host := "") (Or.inl (hw _ (List.mem_of_getElem? (i := 62) rfl))) Via.refl e12_5 Shash E (Or.inl (hw _ (List.mem_of_getElem? (i := 63) rfl))) (hw _ (List.mem_of_getElem? (i := 8) rfl)) (ty := .int) (by decide) rfl rfl (g := (mkF m 55 #[.val (.ref r0), .val (.int hz12_5)] [(.int hz12_5), (.ref r0)])) rfl rfl (hb hby d12_55)
    have Fw12_7 := Shash.same W12_7
    have N12_7 := Fr.snoc X12_7 N12_5 g_r0
    refine own_fw st12_7 ?_
    refine own_fw (A := T12_7.setTop (mkF m 59 #[.val (.ref r0), .val (.int hz12_5)] [(.int hz12_5)])) (fun t k => ?_) ?_
    · show Steps p.tables e below (T12_7.setTop (mkF m 58 #[.val (.ref r0), .val (.int hz12_5)] [])) t
      refine XS.iloadN X12_7.here hx rfl (hb hby d12_58) rfl ?_
      exact k
    obtain ⟨fs, hr, hrun, hended, hW, hsame⟩ := X12_7.leave (v := some (.int hz12_5)) (own_ret Bd.returns) (BodyLoose.notSynchronized Bd)
    refine ⟨_, _, retI X12_7 hx Bd.returns (hb hby d12_59) hr, hrun, hended, _, _, rfl, ?_, ⟨_, rfl⟩, hW, hsame.mono (by decide) (by decide)⟩
    have eh : (T12_7.setFrames fs).heap = h12_7 := e12_7
    rw [eh]
    exact ⟨_, _, _, rfl, N12_7, ((Keep.refl h0 [r0]).wr W12_7 (Or.inl (List.mem_of_getElem? (i := 0) rfl))), (E.wr W12_7), (Svalu.other W12_7 (Or.inr (slot_ne (Or.inr (hw _ (List.mem_of_getElem? (i := 23) rfl))) (Or.inl (hw _ (List.mem_of_getElem? (i := 63) rfl))) (by decide) (t := (.array .byte)) (t' := .int) (by decide) (by decide)))), (Scode.other W12_7 (Or.inr (slot_ne (Or.inr (hw _ (List.mem_of_getElem? (i := 24) rfl))) (Or.inl (hw _ (List.mem_of_getElem? (i := 63) rfl))) (by decide) (t := .byte) (t' := .int) (by decide) (by decide)))), Fw12_7, (Shz.other W12_7 (Or.inr (slot_ne (Or.inl (hw _ (List.mem_of_getElem? (i := 65) rfl))) (Or.inl (hw _ (List.mem_of_getElem? (i := 63) rfl))) (by decide) (t := .boolean) (t' := .int) (by decide) (by decide))))⟩
set_option maxRecDepth 65536 in
set_option maxHeartbeats 40000000 in
theorem rmLH_2 (l : Launch) (Z : State) (a0 : Array Value) (hw : ∀ d ∈ tables_1, d.before a0 Z = true) (ws : List Jvm.Cond) (r0 : Addr) (k : ClassId) (x : Int32) (y : Int32) (h0 : Heap) (n0 : Nat) (Z0 : n0 ≤ h0.size) (V_1 : Arv Z h0 r0 k .byte (2 : Int32) [(.int x), (.int y)] (.int 0)) (hk : Z.vm.findClass "[B" = some k) :
    MetFree l (⟨"java/lang/StringLatin1", "hashCode", "([B)I"⟩ : MethodName) (head1 (Jvm.Cond.code (⟨"java/lang/StringLatin1", "hashCode", "([B)I"⟩ : MethodName) jdk_43_method_21_code 1 (some .int) :: ws) ({ frames := 2, cells := 0, slots := 0, locals := 60 } : Room)) (fun a U => a = #[(.ref r0)] ∧ Z.Warmed39 U.vm ∧ U.heap = h0) (fun _ _ _ _ _ => True) (fun _ U o U' => ∃ v L, o = .returned v ∧ Q14 Z  h0 n0 v U'.heap L ∧ FrameEnd U o U' L ({ frames := 2, cells := 0, slots := 0, locals := 60 } : Room).cells ({ frames := 2, cells := 0, slots := 0, locals := 60 } : Room).slots) := by
  refine MetFree.of_bodySF (plainFor_of_name pn14) hisR ?_
  intro p e s m args below meth c s₁ Bd hml0 hP hK
  obtain ⟨rfl, hZ, hh⟩ := hP
  have hx := Bd.exec
  have hby := Bd.bytes
  have hml : c.maxLocals = 1 := hml0
  have hown : s.vm.findClass "java/lang/StringLatin1" = some m.cls := findClass_of_methodNamed Bd.named
  have hnm := (name_of_methodNamed Bd.named Bd.method).1
  have X0 : Stand p l e ({ frames := 2, cells := 0, slots := 0, locals := 60 } : Room) s m #[(.ref r0)] below meth c s₁ [] 0 0 := Stand.of_body Bd
  have e0 : s₁.heap = h0 := by rw [← hh, Bd.state]; rfl
  have N0 := Fr.nil n0
  refine own_fw (A := s₁.setTop (mkF m 0 #[.val (.ref r0)] [])) (fun t k => castTop (ef14 m r0) k) ?_
  refine own_fw (A := s₁.setTop (mkF m 1 #[.val (.ref r0)] [(.ref r0)])) (fun t k => ?_) ?_
  · show Steps p.tables e below (s₁.setTop (mkF m 0 #[.val (.ref r0)] [])) t
    refine XS.aloadN X0.here hx rfl (hb hby d14_0) rfl rfl ?_
    exact k
  obtain ⟨cl14_1, Ar14_1, q14_1, S14_1, Ng14_1, Hs14_1, G14_1⟩ := id V_1
  have st14_1 := X0.arraylength hx (by rw [e0]; exact Ar14_1.1) (State.isArrayOf_alike hZ.alike Ar14_1.2.1) (g := (mkF m 1 #[.val (.ref r0)] [(.ref r0)])) rfl rfl (hb hby d14_1)
  rw [len_of S14_1 Ng14_1] at st14_1
  refine own_fw st14_1 ?_
  refine own_fw (A := s₁.setTop (mkF m 42 #[.val (.ref r0)] [])) (fun t k => X0.lookupswitchMiss hx (g := (mkF m 2 #[.val (.ref r0)] [(.int (2 : Int32))])) rfl rfl (hb hby d14_2) (by decide) rfl (show (0 : Int) ≤ ((2 : Nat) : Int) + 40 by decide) t k) ?_
  refine own_fw (A := s₁.setTop (mkF m 45 #[.val (.ref r0)] [(.ref r0), (.int (0 : Int32)), (.ref r0)])) (fun t k => ?_) ?_
  · show Steps p.tables e below (s₁.setTop (mkF m 42 #[.val (.ref r0)] [])) t
    refine XS.aloadN X0.here hx rfl (hb hby d14_42) rfl rfl ?_
    show Steps p.tables e below (s₁.setTop (mkF m 43 #[.val (.ref r0)] [(.ref r0)])) t
    refine XS.iconst X0.here hx rfl (hb hby d14_43) ?_
    show Steps p.tables e below (s₁.setTop (mkF m 44 #[.val (.ref r0)] [(.int (0 : Int32)), (.ref r0)])) t
    refine XS.aloadN X0.here hx rfl (hb hby d14_44) rfl rfl ?_
    exact k
  obtain ⟨cl14_2, Ar14_2, q14_2, S14_2, Ng14_2, Hs14_2, G14_2⟩ := id V_1
  have st14_2 := X0.arraylength hx (by rw [e0]; exact Ar14_2.1) (State.isArrayOf_alike hZ.alike Ar14_2.2.1) (g := (mkF m 45 #[.val (.ref r0)] [(.ref r0), (.int (0 : Int32)), (.ref r0)])) rfl rfl (hb hby d14_45)
  rw [len_of S14_2 Ng14_2] at st14_2
  refine own_fw st14_2 ?_
  refine own_fw (A := s₁.setTop (mkF m 48 #[.val (.ref r0)] [(.int (4 : Int32)), (.int (0 : Int32)), (.int (2 : Int32)), (.int (0 : Int32)), (.ref r0)])) (fun t k => ?_) ?_
  · show Steps p.tables e below (s₁.setTop (mkF m 46 #[.val (.ref r0)] [(.int (2 : Int32)), (.int (0 : Int32)), (.ref r0)])) t
    refine XS.iconst X0.here hx rfl (hb hby d14_46) ?_
    show Steps p.tables e below (s₁.setTop (mkF m 47 #[.val (.ref r0)] [(.int (0 : Int32)), (.int (2 : Int32)), (.int (0 : Int32)), (.ref r0)])) t
    refine XS.iconst X0.here hx rfl (hb hby d14_47) ?_
    exact k
  obtain ⟨_, _, ⟨T14_3, L14_3, k14_3, n14_3⟩, -, X14_3, ⟨Lc14_3, hQ14_3, l14_3, y14_3, z14_3⟩, st14_3⟩ := Jvm.LawKit.callS X0 hx (y := (⟨"jdk/internal/util/ArraysSupport", "vectorizedHashCode", "(Ljava/lang/Object;IIII)I"⟩ : MethodName)) hown (mvT hZ (hw _ (List.mem_of_getElem? (i := 77) rfl))) (mvT hZ (hw _ (List.mem_of_getElem? (i := 78) rfl))) (mvT hZ (hw _ (List.mem_of_getElem? (i := 79) rfl))) (mvT hZ (hw _ (List.mem_of_getElem? (i := 80) rfl))) (by decide) (backOf (W := 0) (rm15 l Z a0 hw [] r0 k x y h0 n0 Z0 V_1 hk) hZ (hw _ (List.mem_of_getElem? (i := 80) rfl)) (hw _ (List.mem_of_getElem? (i := 79) rfl)) (by decide) (by decide)) (g := (mkF m 48 #[.val (.ref r0)] [(.int (4 : Int32)), (.int (0 : Int32)), (.int (2 : Int32)), (.int (0 : Int32)), (.ref r0)])) rfl (by rw [hml]; rfl) (argsL := [(.ref r0), (.int (0 : Int32)), (.int (2 : Int32)), (.int (0 : Int32)), (.int (4 : Int32))]) (rest := []) (lenOf pd14_0 rfl) rfl (by show 2 * 0 + _ ≤ _; exact Nat.le_of_eq rfl) (hb hby d14_48) (fun _ _ => ⟨rfl, e0, (by decide : 0 + 0 ≤ _), (by decide : 0 + 0 ≤ _)⟩)
  dsimp only [Pt.U, Pt.locs, Pt.cells, Pt.slots] at X14_3 l14_3 y14_3 z14_3 st14_3 hQ14_3
  subst l14_3 y14_3 z14_3
  obtain ⟨hz14_3, rfl, N14_3q, e14_3⟩ := hQ14_3
  have N14_3 := Fr.app N0 N14_3q
  refine own_fw st14_3 ?_
  obtain ⟨fs, hr, hrun, hended, hW, hsame⟩ := X14_3.leave (v := some (.int hz14_3)) (own_ret Bd.returns) (BodyLoose.notSynchronized Bd)
  refine ⟨_, _, retI X14_3 hx Bd.returns (hb hby d14_51) hr, hrun, hended, _, _, rfl, ?_, ⟨_, rfl⟩, hW, hsame.mono (by decide) (by decide)⟩
  have eh : (T14_3.setFrames fs).heap = h0 := e14_3
  rw [eh]
  exact ⟨_, rfl, N14_3, rfl⟩
set_option maxRecDepth 65536 in
set_option maxHeartbeats 40000000 in
theorem rmHC_2 (l : Launch) (Z : State) (a0 : Array Value) (hw : ∀ d ∈ tables_1, d.before a0 Z = true) (ws : List Jvm.Cond) (r0 : Addr) (vb : Addr) (k : ClassId) (x : Int32) (y : Int32) (cc : Int32) (h0 : Heap) (n0 : Nat) (Z0 : n0 ≤ h0.size) (E : Exa Z h0 r0 "java/lang/String") (Svalu : Fld Z h0 r0 "java/lang/String" "value" "[B" (.ref vb)) (Scode : Fld Z h0 r0 "java/lang/String" "coder" "B" (.int 0)) (Shash : Fld Z h0 r0 "java/lang/String" "hash" "I" (.int 0)) (Shz : Fld Z h0 r0 "java/lang/String" "hashIsZero" "Z" (.int 0)) (V_1 : Arv Z h0 vb k .byte (2 : Int32) [(.int x), (.int y)] (.int 0)) (hk : Z.vm.findClass "[B" = some k) (hne : vb ≠ r0) (g_r0 : n0 ≤ r0) (O_0 : Old Z n0 h0) (S_c : Sta Z Z.heap "java/lang/String" "COMPACT_STRINGS" "Z" (.int cc)) (hcc : ¬ cc = (0 : Int32)) :
    MetFree l (⟨"java/lang/String", "hashCode", "()I"⟩ : MethodName) (head1 (Jvm.Cond.code (⟨"java/lang/String", "hashCode", "()I"⟩ : MethodName) jdk_42_method_78_code 2 (some .int) :: ws) ({ frames := 3, cells := 0, slots := 0, locals := 90 } : Room)) (fun a U => a = #[(.ref r0)] ∧ Z.Warmed39 U.vm ∧ U.heap = h0) (fun _ _ _ _ _ => True) (fun _ U o U' => ∃ v L, o = .returned v ∧ Q12 Z r0 vb h0 n0 v U'.heap L ∧ FrameEnd U o U' L ({ frames := 3, cells := 0, slots := 0, locals := 90 } : Room).cells ({ frames := 3, cells := 0, slots := 0, locals := 90 } : Room).slots) := by
  refine MetFree.of_bodySF (plainFor_of_name pn12) hisR ?_
  intro p e s m args below meth c s₁ Bd hml0 hP hK
  obtain ⟨rfl, hZ, hh⟩ := hP
  have hx := Bd.exec
  have hby := Bd.bytes
  have hml : c.maxLocals = 2 := hml0
  have hown : s.vm.findClass "java/lang/String" = some m.cls := findClass_of_methodNamed Bd.named
  have hnm := (name_of_methodNamed Bd.named Bd.method).1
  have X0 : Stand p l e ({ frames := 3, cells := 0, slots := 0, locals := 90 } : Room) s m #[(.ref r0)] below meth c s₁ [] 0 0 := Stand.of_body Bd
  have e0 : s₁.heap = h0 := by rw [← hh, Bd.state]; rfl
  have N0 := Fr.nil n0
  refine own_fw (A := s₁.setTop (mkF m 0 #[.val (.ref r0), .unset] [])) (fun t k => castTop (ef12 m r0) k) ?_
  refine own_fw (A := s₁.setTop (mkF m 1 #[.val (.ref r0), .unset] [(.ref r0)])) (fun t k => ?_) ?_
  · show Steps p.tables e below (s₁.setTop (mkF m 0 #[.val (.ref r0), .unset] [])) t
    refine XS.aloadN X0.here hx rfl (hb hby d12_0) rfl rfl ?_
    exact k
  obtain ⟨T12_1, X12_1, e12_1, st12_1⟩ := getF X0 hx hZ hown (host := "") (Or.inl (hw _ (List.mem_of_getElem? (i := 62) rfl))) Via.refl e0 Shash (g := (mkF m 1 #[.val (.ref r0), .unset] [(.ref r0)])) rfl rfl (hb hby d12_1)
  refine own_fw st12_1 ?_
  refine own_fw (A := T12_1.setTop (mkF m 10 #[.val (.ref r0), .val (.int (0 : Int32))] [(.ref r0)])) (fun t k => ?_) ?_
  · show Steps p.tables e below (T12_1.setTop (mkF m 4 #[.val (.ref r0), .unset] [(.int (0 : Int32))])) t
    refine XS.istoreN X12_1.here hx rfl (hb hby d12_4) rfl (l' := #[.val (.ref r0), .val (.int (0 : Int32))]) rfl ?_
    show Steps p.tables e below (T12_1.setTop (mkF m 5 #[.val (.ref r0), .val (.int (0 : Int32))] [])) t
    refine XS.iloadN X12_1.here hx rfl (hb hby d12_5) rfl ?_
    show Steps p.tables e below (T12_1.setTop (mkF m 6 #[.val (.ref r0), .val (.int (0 : Int32))] [(.int (0 : Int32))])) t
    refine XS.ifNo X12_1.here hx rfl (hb hby d12_6) rfl ((if0 _ _).trans (teq (rfl : (0 : Int32) = (0 : Int32))).2) ?_
    show Steps p.tables e below (T12_1.setTop (mkF m 9 #[.val (.ref r0), .val (.int (0 : Int32))] [])) t
    refine XS.aloadN X12_1.here hx rfl (hb hby d12_9) rfl rfl ?_
    exact k
  obtain ⟨T12_2, X12_2, e12_2, st12_2⟩ := getF X12_1 hx hZ hown (host := "") (Or.inl (hw _ (List.mem_of_getElem? (i := 64) rfl))) Via.refl e12_1 Shz (g := (mkF m 10 #[.val (.ref r0), .val (.int (0 : Int32))] [(.ref r0)])) rfl rfl (hb hby d12_10)
  refine own_fw st12_2 ?_
  refine own_fw (A := T12_2.setTop (mkF m 17 #[.val (.ref r0), .val (.int (0 : Int32))] [(.ref r0)])) (fun t k => ?_) ?_
  · show Steps p.tables e below (T12_2.setTop (mkF m 13 #[.val (.ref r0), .val (.int (0 : Int32))] [(.int (0 : Int32))])) t
    refine XS.ifNo X12_2.here hx rfl (hb hby d12_13) rfl ((if0 _ _).trans (teq (rfl : (0 : Int32) = (0 : Int32))).2) ?_
    show Steps p.tables e below (T12_2.setTop (mkF m 16 #[.val (.ref r0), .val (.int (0 : Int32))] [])) t
    refine XS.aloadN X12_2.here hx rfl (hb hby d12_16) rfl rfl ?_
    exact k
  obtain ⟨cq12_3, kq12_3, q12_3a, q12_3b, q12_3c⟩ := isOf hZ e12_2 E
  obtain ⟨_, _, ⟨T12_3, L12_3, k12_3, n12_3⟩, -, X12_3, ⟨Lc12_3, hQ12_3, l12_3, y12_3, z12_3⟩, st12_3⟩ := X12_2.virtualBack hx (y := (⟨"java/lang/String", "isLatin1", "()Z"⟩ : MethodName)) (z := (⟨"java/lang/String", "isLatin1", "()Z"⟩ : MethodName)) hown (mvT hZ (hw _ (List.mem_of_getElem? (i := 66) rfl))) (mvT hZ (hw _ (List.mem_of_getElem? (i := 67) rfl))) (notFace_of_selects (args := #[]) (mvT hZ (hw _ (List.mem_of_getElem? (i := 69) rfl)))) (mvT hZ (hw _ (List.mem_of_getElem? (i := 69) rfl))) (mvT hZ (hw _ (List.mem_of_getElem? (i := 68) rfl))) (by decide) (backOf (W := 0) (rm13 l Z a0 hw [] r0 cc h0 n0 Z0 Scode O_0 S_c hcc) hZ (hw _ (List.mem_of_getElem? (i := 70) rfl)) (hw _ (List.mem_of_getElem? (i := 9) rfl)) (by decide) (by decide)) q12_3a q12_3c (g := (mkF m 17 #[.val (.ref r0), .val (.int (0 : Int32))] [(.ref r0)])) rfl (by rw [hml]; rfl) (Steps.refl _) (argsL := []) (rest := []) (lenOf pd12_0 rfl) rfl (by show 2 * 0 + _ ≤ _; exact Nat.le_of_eq rfl) (hb hby d12_17) (fun _ _ => ⟨rfl, e12_2, (by decide : 0 + 0 ≤ _), (by decide : 0 + 0 ≤ _)⟩)
  dsimp only [Pt.U, Pt.locs, Pt.cells, Pt.slots] at X12_3 l12_3 y12_3 z12_3 st12_3 hQ12_3
  subst l12_3 y12_3 z12_3
  obtain ⟨rfl, N12_3q, e12_3⟩ := hQ12_3
  have N12_3 := Fr.app N0 N12_3q
  refine own_fw (fun t k => st12_3.trans k) ?_
  refine own_fw (A := T12_3.setTop (mkF m 24 #[.val (.ref r0), .val (.int (0 : Int32))] [(.ref r0)])) (fun t k => ?_) ?_
  · show Steps p.tables e below (T12_3.setTop (mkF m 20 #[.val (.ref r0), .val (.int (0 : Int32))] [(.int (1 : Int32))])) t
    refine XS.ifNo X12_3.here hx rfl (hb hby d12_20) rfl ((if0 _ _).trans (feq (by decide : ¬ ((1 : Int32) = (0 : Int32)))).1) ?_
    show Steps p.tables e below (T12_3.setTop (mkF m 23 #[.val (.ref r0), .val (.int (0 : Int32))] [])) t
    refine XS.aloadN X12_3.here hx rfl (hb hby d12_23) rfl rfl ?_
    exact k
  obtain ⟨T12_4, X12_4, e12_4, st12_4⟩ := getF X12_3 hx hZ hown (host := "") (Or.inl (hw _ (List.mem_of_getElem? (i := 27) rfl))) Via.refl e12_3 Svalu (g := (mkF m 24 #[.val (.ref r0), .val (.int (0 : Int32))] [(.ref r0)])) rfl rfl (hb hby d12_24)
  refine own_fw st12_4 ?_
  obtain ⟨_, _, ⟨T12_5, L12_5, k12_5, n12_5⟩, -, X12_5, ⟨Lc12_5, hQ12_5, l12_5, y12_5, z12_5⟩, st12_5⟩ := Jvm.LawKit.callS X12_4 hx (y := (⟨"java/lang/StringLatin1", "hashCode", "([B)I"⟩ : MethodName)) hown (mvT hZ (hw _ (List.mem_of_getElem? (i := 71) rfl))) (mvT hZ (hw _ (List.mem_of_getElem? (i := 72) rfl))) (mvT hZ (hw _ (List.mem_of_getElem? (i := 73) rfl))) (mvT hZ (hw _ (List.mem_of_getElem? (i := 74) rfl))) (by decide) (backOf (W := 0) (rmLH_2 l Z a0 hw [] vb k x y h0 n0 Z0 V_1 hk) hZ (hw _ (List.mem_of_getElem? (i := 74) rfl)) (hw _ (List.mem_of_getElem? (i := 73) rfl)) (by decide) (by decide)) (g := (mkF m 27 #[.val (.ref r0), .val (.int (0 : Int32))] [(.ref vb)])) rfl (by rw [hml]; rfl) (argsL := [(.ref vb)]) (rest := []) (lenOf pd12_1 rfl) rfl (by show 2 * 0 + _ ≤ _; exact Nat.le_of_eq rfl) (hb hby d12_27) (fun _ _ => ⟨rfl, e12_4, (by decide : 0 + 0 ≤ _), (by decide : 0 + 0 ≤ _)⟩)
  dsimp only [Pt.U, Pt.locs, Pt.cells, Pt.slots] at X12_5 l12_5 y12_5 z12_5 st12_5 hQ12_5
  subst l12_5 y12_5 z12_5
  obtain ⟨hz12_5, rfl, N12_5q, e12_5⟩ := hQ12_5
  have N12_5 := Fr.app N12_3 N12_5q
  refine own_fw st12_5 ?_
  refine own_fw (A := T12_5.setTop (mkF m 42 #[.val (.ref r0), .val (.int hz12_5)] [(.int hz12_5)])) (fun t k => ?_) ?_
  · show Steps p.tables e below (T12_5.setTop (mkF m 30 #[.val (.ref r0), .val (.int (0 : Int32))] [(.int hz12_5)])) t
    refine XS.goto X12_5.here hx rfl (pc0 := 30) (pc' := 40) rfl (hb hby d12_30) (by decide) (by decide) ?_
    show Steps p.tables e below (T12_5.setTop (mkF m 40 #[.val (.ref r0), .val (.int (0 : Int32))] [(.int hz12_5)])) t
    refine XS.istoreN X12_5.here hx rfl (hb hby d12_40) rfl (l' := #[.val (.ref r0), .val (.int hz12_5)]) rfl ?_
    show Steps p.tables e below (T12_5.setTop (mkF m 41 #[.val (.ref r0), .val (.int hz12_5)] [])) t
    refine XS.iloadN X12_5.here hx rfl (hb hby d12_41) rfl ?_
    exact k
  by_cases hc12_1 : hz12_5 = (0 : Int32)
  · refine own_fw (A := T12_5.setTop (mkF m 45 #[.val (.ref r0), .val (.int hz12_5)] [])) (fun t k => ?_) ?_
    · show Steps p.tables e below (T12_5.setTop (mkF m 42 #[.val (.ref r0), .val (.int hz12_5)] [(.int hz12_5)])) t
      refine XS.ifNo X12_5.here hx rfl (hb hby d12_42) rfl ((if0 _ _).trans (teq hc12_1).2) ?_
      exact k
    refine own_fw (A := T12_5.setTop (mkF m 47 #[.val (.ref r0), .val (.int hz12_5)] [(.int (1 : Int32)), (.ref r0)])) (fun t k => ?_) ?_
    · show Steps p.tables e below (T12_5.setTop (mkF m 45 #[.val (.ref r0), .val (.int hz12_5)] [])) t
      refine XS.aloadN X12_5.here hx rfl (hb hby d12_45) rfl rfl ?_
      show Steps p.tables e below (T12_5.setTop (mkF m 46 #[.val (.ref r0), .val (.int hz12_5)] [(.ref r0)])) t
      refine XS.iconst X12_5.here hx rfl (hb hby d12_46) ?_
      exact k
    obtain ⟨T12_6, h12_6, X12_6, e12_6, W12_6, st12_6⟩ := putFN X12_5 hx hZ hown (hw _ (List.mem_of_getElem? (i := 64) rfl)) Via.refl e12_5 Shz E (Or.inl (hw _ (List.mem_of_getElem? (i := 65) rfl))) (hw _ (List.mem_of_getElem? (i := 8) rfl)) (ty := .boolean) (v' := (.int (nar .boolean (1 : Int32)))) (by decide) rfl (fits_nar_bool _) (g := (mkF m 47 #[.val (.ref r0), .val (.int hz12_5)] [(.int (1 : Int32)), (.ref r0)])) rfl rfl (hb hby d12_47)
    have Fw12_6 := Shz.same W12_6
    have N12_6 := Fr.snoc X12_6 N12_5 g_r0
    refine own_fw st12_6 ?_
    refine own_fw (A := T12_6.setTop (mkF m 59 #[.val (.ref r0), .val (.int hz12_5)] [(.int hz12_5)])) (fun t k => ?_) ?_
    · show Steps p.tables e below (T12_6.setTop (mkF m 50 #[.val (.ref r0), .val (.int hz12_5)] [])) t
      refine XS.goto X12_6.here hx rfl (pc0 := 50) (pc' := 58) rfl (hb hby d12_50) (by decide) (by decide) ?_
      show Steps p.tables e below (T12_6.setTop (mkF m 58 #[.val (.ref r0), .val (.int hz12_5)] [])) t
      refine XS.iloadN X12_6.here hx rfl (hb hby d12_58) rfl ?_
      exact k
    obtain ⟨fs, hr, hrun, hended, hW, hsame⟩ := X12_6.leave (v := some (.int hz12_5)) (own_ret Bd.returns) (BodyLoose.notSynchronized Bd)
    refine ⟨_, _, retI X12_6 hx Bd.returns (hb hby d12_59) hr, hrun, hended, _, _, rfl, ?_, ⟨_, rfl⟩, hW, hsame.mono (by decide) (by decide)⟩
    have eh : (T12_6.setFrames fs).heap = h12_6 := e12_6
    rw [eh]
    exact ⟨_, _, _, rfl, N12_6, ((Keep.refl h0 [r0]).wr W12_6 (Or.inl (List.mem_of_getElem? (i := 0) rfl))), (E.wr W12_6), (Svalu.other W12_6 (Or.inr (slot_ne (Or.inr (hw _ (List.mem_of_getElem? (i := 23) rfl))) (Or.inl (hw _ (List.mem_of_getElem? (i := 65) rfl))) (by decide) (t := (.array .byte)) (t' := .boolean) (by decide) (by decide)))), (Scode.other W12_6 (Or.inr (slot_ne (Or.inr (hw _ (List.mem_of_getElem? (i := 24) rfl))) (Or.inl (hw _ (List.mem_of_getElem? (i := 65) rfl))) (by decide) (t := .byte) (t' := .boolean) (by decide) (by decide)))), (Shash.other W12_6 (Or.inr (slot_ne (Or.inl (hw _ (List.mem_of_getElem? (i := 63) rfl))) (Or.inl (hw _ (List.mem_of_getElem? (i := 65) rfl))) (by decide) (t := .int) (t' := .boolean) (by decide) (by decide)))), Fw12_6⟩
  · refine own_fw (A := T12_5.setTop (mkF m 53 #[.val (.ref r0), .val (.int hz12_5)] [])) (fun t k => ?_) ?_
    · show Steps p.tables e below (T12_5.setTop (mkF m 42 #[.val (.ref r0), .val (.int hz12_5)] [(.int hz12_5)])) t
      refine XS.ifYes X12_5.here hx rfl (pc0 := 42) (pc' := 53) rfl (hb hby d12_42) rfl ((if0 _ _).trans (feq hc12_1).2) (by decide) (by decide) ?_
      exact k
    refine own_fw (A := T12_5.setTop (mkF m 55 #[.val (.ref r0), .val (.int hz12_5)] [(.int hz12_5), (.ref r0)])) (fun t k => ?_) ?_
    · show Steps p.tables e below (T12_5.setTop (mkF m 53 #[.val (.ref r0), .val (.int hz12_5)] [])) t
      refine XS.aloadN X12_5.here hx rfl (hb hby d12_53) rfl rfl ?_
      show Steps p.tables e below (T12_5.setTop (mkF m 54 #[.val (.ref r0), .val (.int hz12_5)] [(.ref r0)])) t
      refine XS.iloadN X12_5.here hx rfl (hb hby d12_54) rfl ?_
      exact k
    obtain ⟨T12_7, h12_7, X12_7, e12_7, W12_7, st12_7⟩ := putF X12_5 hx hZ hown (host := "") (Or.inl (hw _ (List.mem_of_getElem? (i := 62) rfl))) Via.refl e12_5 Shash E (Or.inl (hw _ (List.mem_of_getElem? (i := 63) rfl))) (hw _ (List.mem_of_getElem? (i := 8) rfl)) (ty := .int) (by decide) rfl rfl (g := (mkF m 55 #[.val (.ref r0), .val (.int hz12_5)] [(.int hz12_5), (.ref r0)])) rfl rfl (hb hby d12_55)
    have Fw12_7 := Shash.same W12_7
    have N12_7 := Fr.snoc X12_7 N12_5 g_r0
    refine own_fw st12_7 ?_
    refine own_fw (A := T12_7.setTop (mkF m 59 #[.val (.ref r0), .val (.int hz12_5)] [(.int hz12_5)])) (fun t k => ?_) ?_
    · show Steps p.tables e below (T12_7.setTop (mkF m 58 #[.val (.ref r0), .val (.int hz12_5)] [])) t
      refine XS.iloadN X12_7.here hx rfl (hb hby d12_58) rfl ?_
      exact k
    obtain ⟨fs, hr, hrun, hended, hW, hsame⟩ := X12_7.leave (v := some (.int hz12_5)) (own_ret Bd.returns) (BodyLoose.notSynchronized Bd)
    refine ⟨_, _, retI X12_7 hx Bd.returns (hb hby d12_59) hr, hrun, hended, _, _, rfl, ?_, ⟨_, rfl⟩, hW, hsame.mono (by decide) (by decide)⟩
    have eh : (T12_7.setFrames fs).heap = h12_7 := e12_7
    rw [eh]
    exact ⟨_, _, _, rfl, N12_7, ((Keep.refl h0 [r0]).wr W12_7 (Or.inl (List.mem_of_getElem? (i := 0) rfl))), (E.wr W12_7), (Svalu.other W12_7 (Or.inr (slot_ne (Or.inr (hw _ (List.mem_of_getElem? (i := 23) rfl))) (Or.inl (hw _ (List.mem_of_getElem? (i := 63) rfl))) (by decide) (t := (.array .byte)) (t' := .int) (by decide) (by decide)))), (Scode.other W12_7 (Or.inr (slot_ne (Or.inr (hw _ (List.mem_of_getElem? (i := 24) rfl))) (Or.inl (hw _ (List.mem_of_getElem? (i := 63) rfl))) (by decide) (t := .byte) (t' := .int) (by decide) (by decide)))), Fw12_7, (Shz.other W12_7 (Or.inr (slot_ne (Or.inl (hw _ (List.mem_of_getElem? (i := 65) rfl))) (Or.inl (hw _ (List.mem_of_getElem? (i := 63) rfl))) (by decide) (t := .boolean) (t' := .int) (by decide) (by decide))))⟩
theorem rmHC (l : Launch) (Z : State) (a0 : Array Value) (hw : ∀ d ∈ tables_1, d.before a0 Z = true) (ws : List Jvm.Cond) (r0 : Addr) (vb : Addr) (k : ClassId) (cs : List Int32) (cc : Int32) (h0 : Heap) (n0 : Nat) (Z0 : n0 ≤ h0.size) (E : Exa Z h0 r0 "java/lang/String") (Svalu : Fld Z h0 r0 "java/lang/String" "value" "[B" (.ref vb)) (Scode : Fld Z h0 r0 "java/lang/String" "coder" "B" (.int 0)) (Shash : Fld Z h0 r0 "java/lang/String" "hash" "I" (.int 0)) (Shz : Fld Z h0 r0 "java/lang/String" "hashIsZero" "Z" (.int 0)) (V_1 : Arv Z h0 vb k .byte (Int32.ofNat cs.length) (cs.map Value.int) (.int 0)) (l2 : cs.length ≤ 2) (hk : cs.length = 2 → Z.vm.findClass "[B" = some k) (hne : vb ≠ r0) (g_r0 : n0 ≤ r0) (O_0 : Old Z n0 h0) (S_c : Sta Z Z.heap "java/lang/String" "COMPACT_STRINGS" "Z" (.int cc)) (hcc : ¬ cc = (0 : Int32)) :
    MetFree l (⟨"java/lang/String", "hashCode", "()I"⟩ : MethodName) (head1 (Jvm.Cond.code (⟨"java/lang/String", "hashCode", "()I"⟩ : MethodName) jdk_42_method_78_code 2 (some .int) :: ws) ({ frames := 3, cells := 0, slots := 0, locals := 90 } : Room)) (fun a U => a = #[(.ref r0)] ∧ Z.Warmed39 U.vm ∧ U.heap = h0) (fun _ _ _ _ _ => True) (fun _ U o U' => ∃ v L, o = .returned v ∧ Q12 Z r0 vb h0 n0 v U'.heap L ∧ FrameEnd U o U' L ({ frames := 3, cells := 0, slots := 0, locals := 90 } : Room).cells ({ frames := 3, cells := 0, slots := 0, locals := 90 } : Room).slots) := by
  match cs, V_1, l2, hk with
  | [], V, _, _ => exact rmHC_0 l Z a0 hw ws r0 vb k cc h0 n0 Z0 E Svalu Scode Shash Shz V hne g_r0 O_0 S_c hcc
  | [x], V, _, _ => exact rmHC_1 l Z a0 hw ws r0 vb k x cc h0 n0 Z0 E Svalu Scode Shash Shz V hne g_r0 O_0 S_c hcc
  | [x, y], V, _, hk => exact rmHC_2 l Z a0 hw ws r0 vb k x y cc h0 n0 Z0 E Svalu Scode Shash Shz V (hk rfl) hne g_r0 O_0 S_c hcc
  | _ :: _ :: _ :: _, _, q, _ => exact absurd q (by simp only [List.length_cons]; omega)
def f_eq (a b : List Int32) : Int32 := if a = b then 1 else 0
theorem d20_0 : decode jdk_43_method_13_code 0 = .ok (.aload_n 0, 1) := by decide +kernel
theorem d20_1 : decode jdk_43_method_13_code 1 = .ok (.arraylength, 1) := by decide +kernel
theorem d20_2 : decode jdk_43_method_13_code 2 = .ok (.aload_n 1, 1) := by decide +kernel
theorem d20_3 : decode jdk_43_method_13_code 3 = .ok (.arraylength, 1) := by decide +kernel
theorem d20_4 : decode jdk_43_method_13_code 4 = .ok (.if_icmp .ne 30, 3) := by decide +kernel
theorem d20_7 : decode jdk_43_method_13_code 7 = .ok (.iconst 0, 1) := by decide +kernel
theorem d20_8 : decode jdk_43_method_13_code 8 = .ok (.istore_n 2, 1) := by decide +kernel
theorem d20_9 : decode jdk_43_method_13_code 9 = .ok (.iload_n 2, 1) := by decide +kernel
theorem d20_10 : decode jdk_43_method_13_code 10 = .ok (.aload_n 0, 1) := by decide +kernel
theorem d20_11 : decode jdk_43_method_13_code 11 = .ok (.arraylength, 1) := by decide +kernel
theorem d20_12 : decode jdk_43_method_13_code 12 = .ok (.if_icmp .ge 20, 3) := by decide +kernel
theorem d20_15 : decode jdk_43_method_13_code 15 = .ok (.aload_n 0, 1) := by decide +kernel
theorem d20_16 : decode jdk_43_method_13_code 16 = .ok (.iload_n 2, 1) := by decide +kernel
theorem d20_17 : decode jdk_43_method_13_code 17 = .ok (.baload, 1) := by decide +kernel
theorem d20_18 : decode jdk_43_method_13_code 18 = .ok (.aload_n 1, 1) := by decide +kernel
theorem d20_19 : decode jdk_43_method_13_code 19 = .ok (.iload_n 2, 1) := by decide +kernel
theorem d20_20 : decode jdk_43_method_13_code 20 = .ok (.baload, 1) := by decide +kernel
theorem d20_21 : decode jdk_43_method_13_code 21 = .ok (.if_icmp .eq 5, 3) := by decide +kernel
theorem d20_24 : decode jdk_43_method_13_code 24 = .ok (.iconst 0, 1) := by decide +kernel
theorem d20_25 : decode jdk_43_method_13_code 25 = .ok (.ireturn, 1) := by decide +kernel
theorem d20_26 : decode jdk_43_method_13_code 26 = .ok (.iinc 2 1, 3) := by decide +kernel
theorem d20_29 : decode jdk_43_method_13_code 29 = .ok (.goto (-20), 3) := by decide +kernel
theorem d20_32 : decode jdk_43_method_13_code 32 = .ok (.iconst 1, 1) := by decide +kernel
theorem d20_33 : decode jdk_43_method_13_code 33 = .ok (.ireturn, 1) := by decide +kernel
theorem d20_34 : decode jdk_43_method_13_code 34 = .ok (.iconst 0, 1) := by decide +kernel
theorem d20_35 : decode jdk_43_method_13_code 35 = .ok (.ireturn, 1) := by decide +kernel
theorem pn20 : plainName "java/lang/StringLatin1" = true := by first | (simp [plainName, overriddenIn]; done) | decide +kernel
theorem ef20 (m : MethodId) (r0 : Addr) (r1 : Addr) : entryFrame m #[(.ref r0), (.ref r1)] 3 = mkF m 0 #[.val (.ref r0), .val (.ref r1), .unset] [] := by first | (simp [entryFrame, mkF, argsToLocals, Value.category]; done) | rfl
def Q20 (Z : State) (z : Int32) (h0 : Heap) (n0 : Nat) (w : Option Value) (h : Heap) (L : List Loc) : Prop := w = some (.int z) ∧ Fr n0 L ∧ h = h0
set_option maxRecDepth 65536 in
set_option maxHeartbeats 40000000 in
theorem rmLE_00 (l : Launch) (Z : State) (a0 : Array Value) (hw : ∀ d ∈ tables_1, d.before a0 Z = true) (ws : List Jvm.Cond) (r0 : Addr) (r1 : Addr) (k0 : ClassId) (k1 : ClassId) (h0 : Heap) (n0 : Nat) (Z0 : n0 ≤ h0.size) (V_0 : Arv Z h0 r0 k0 .byte (0 : Int32) [] (.int 0)) (V_1 : Arv Z h0 r1 k1 .byte (0 : Int32) [] (.int 0)) :
    MetFree l (⟨"java/lang/StringLatin1", "equals", "([B[B)Z"⟩ : MethodName) (head1 (Jvm.Cond.code (⟨"java/lang/StringLatin1", "equals", "([B[B)Z"⟩ : MethodName) jdk_43_method_13_code 3 (some .boolean) :: ws) ({ frames := 0, cells := 0, slots := 0, locals := 0 } : Room)) (fun a U => a = #[(.ref r0), (.ref r1)] ∧ Z.Warmed39 U.vm ∧ U.heap = h0) (fun _ _ _ _ _ => True) (fun _ U o U' => ∃ v L, o = .returned v ∧ Q20 Z (f_eq [] []) h0 n0 v U'.heap L ∧ FrameEnd U o U' L ({ frames := 0, cells := 0, slots := 0, locals := 0 } : Room).cells ({ frames := 0, cells := 0, slots := 0, locals := 0 } : Room).slots) := by
  refine MetFree.of_bodySF (plainFor_of_name pn20) hisR ?_
  intro p e s m args below meth c s₁ Bd hml0 hP hK
  obtain ⟨rfl, hZ, hh⟩ := hP
  have hx := Bd.exec
  have hby := Bd.bytes
  have hml : c.maxLocals = 3 := hml0
  have hown : s.vm.findClass "java/lang/StringLatin1" = some m.cls := findClass_of_methodNamed Bd.named
  have hnm := (name_of_methodNamed Bd.named Bd.method).1
  have X0 : Stand p l e ({ frames := 0, cells := 0, slots := 0, locals := 0 } : Room) s m #[(.ref r0), (.ref r1)] below meth c s₁ [] 0 0 := Stand.of_body Bd
  have e0 : s₁.heap = h0 := by rw [← hh, Bd.state]; rfl
  have N0 := Fr.nil n0
  refine own_fw (A := s₁.setTop (mkF m 0 #[.val (.ref r0), .val (.ref r1), .unset] [])) (fun t k => castTop (ef20 m r0 r1) k) ?_
  refine own_fw (A := s₁.setTop (mkF m 1 #[.val (.ref r0), .val (.ref r1), .unset] [(.ref r0)])) (fun t k => ?_) ?_
  · show Steps p.tables e below (s₁.setTop (mkF m 0 #[.val (.ref r0), .val (.ref r1), .unset] [])) t
    refine XS.aloadN X0.here hx rfl (hb hby d20_0) rfl rfl ?_
    exact k
  obtain ⟨cl20_1, Ar20_1, q20_1, S20_1, Ng20_1, Hs20_1, G20_1⟩ := id V_0
  have st20_1 := X0.arraylength hx (by rw [e0]; exact Ar20_1.1) (State.isArrayOf_alike hZ.alike Ar20_1.2.1) (g := (mkF m 1 #[.val (.ref r0), .val (.ref r1), .unset] [(.ref r0)])) rfl rfl (hb hby d20_1)
  rw [len_of S20_1 Ng20_1] at st20_1
  refine own_fw st20_1 ?_
  refine own_fw (A := s₁.setTop (mkF m 3 #[.val (.ref r0), .val (.ref r1), .unset] [(.ref r1), (.int (0 : Int32))])) (fun t k => ?_) ?_
  · show Steps p.tables e below (s₁.setTop (mkF m 2 #[.val (.ref r0), .val (.ref r1), .unset] [(.int (0 : Int32))])) t
    refine XS.aloadN X0.here hx rfl (hb hby d20_2) rfl rfl ?_
    exact k
  obtain ⟨cl20_2, Ar20_2, q20_2, S20_2, Ng20_2, Hs20_2, G20_2⟩ := id V_1
  have st20_2 := X0.arraylength hx (by rw [e0]; exact Ar20_2.1) (State.isArrayOf_alike hZ.alike Ar20_2.2.1) (g := (mkF m 3 #[.val (.ref r0), .val (.ref r1), .unset] [(.ref r1), (.int (0 : Int32))])) rfl rfl (hb hby d20_3)
  rw [len_of S20_2 Ng20_2] at st20_2
  refine own_fw st20_2 ?_
  refine own_fw (A := s₁.setTop (mkF m 11 #[.val (.ref r0), .val (.ref r1), .val (.int (0 : Int32))] [(.ref r0), (.int (0 : Int32))])) (fun t k => ?_) ?_
  · show Steps p.tables e below (s₁.setTop (mkF m 4 #[.val (.ref r0), .val (.ref r1), .unset] [(.int (0 : Int32)), (.int (0 : Int32))])) t
    refine XS.icmpNo X0.here hx rfl (hb hby d20_4) rfl (teq (rfl : (0 : Int32) = (0 : Int32))).2 ?_
    show Steps p.tables e below (s₁.setTop (mkF m 7 #[.val (.ref r0), .val (.ref r1), .unset] [])) t
    refine XS.iconst X0.here hx rfl (hb hby d20_7) ?_
    show Steps p.tables e below (s₁.setTop (mkF m 8 #[.val (.ref r0), .val (.ref r1), .unset] [(.int (0 : Int32))])) t
    refine XS.istoreN X0.here hx rfl (hb hby d20_8) rfl (l' := #[.val (.ref r0), .val (.ref r1), .val (.int (0 : Int32))]) rfl ?_
    show Steps p.tables e below (s₁.setTop (mkF m 9 #[.val (.ref r0), .val (.ref r1), .val (.int (0 : Int32))] [])) t
    refine XS.iloadN X0.here hx rfl (hb hby d20_9) rfl ?_
    show Steps p.tables e below (s₁.setTop (mkF m 10 #[.val (.ref r0), .val (.ref r1), .val (.int (0 : Int32))] [(.int (0 : Int32))])) t
    refine XS.aloadN X0.here hx rfl (hb hby d20_10) rfl rfl ?_
    exact k
  obtain ⟨cl20_3, Ar20_3, q20_3, S20_3, Ng20_3, Hs20_3, G20_3⟩ := id V_0
  have st20_3 := X0.arraylength hx (by rw [e0]; exact Ar20_3.1) (State.isArrayOf_alike hZ.alike Ar20_3.2.1) (g := (mkF m 11 #[.val (.ref r0), .val (.ref r1), .val (.int (0 : Int32))] [(.ref r0), (.int (0 : Int32))])) rfl rfl (hb hby d20_11)
  rw [len_of S20_3 Ng20_3] at st20_3
  refine own_fw st20_3 ?_
  refine own_fw (A := s₁.setTop (mkF m 33 #[.val (.ref r0), .val (.ref r1), .val (.int (0 : Int32))] [(.int (1 : Int32))])) (fun t k => ?_) ?_
  · show Steps p.tables e below (s₁.setTop (mkF m 12 #[.val (.ref r0), .val (.ref r1), .val (.int (0 : Int32))] [(.int (0 : Int32)), (.int (0 : Int32))])) t
    refine XS.icmpYes X0.here hx rfl (pc0 := 12) (pc' := 32) rfl (hb hby d20_12) rfl (flt (Int32.lt_irrefl : ¬ ((0 : Int32) < (0 : Int32)))).2.1 (by decide) (by decide) ?_
    show Steps p.tables e below (s₁.setTop (mkF m 32 #[.val (.ref r0), .val (.ref r1), .val (.int (0 : Int32))] [])) t
    refine XS.iconst X0.here hx rfl (hb hby d20_32) ?_
    exact k
  obtain ⟨fs, hr, hrun, hended, hW, hsame⟩ := X0.leave (v := some (.int (nar .boolean (1 : Int32)))) (own_ret Bd.returns) (BodyLoose.notSynchronized Bd)
  refine ⟨_, _, retN X0 hx (t := .boolean) Bd.returns (by simp) (hb hby d20_33) hr, hrun, hended, _, _, rfl, ?_, ⟨_, rfl⟩, hW, hsame.mono (by decide) (by decide)⟩
  have eh : (s₁.setFrames fs).heap = h0 := e0
  rw [eh]
  exact ⟨congrArg (fun z => some (Value.int z)) (by simp [f_eq, nar]), N0, rfl⟩
set_option maxRecDepth 65536 in
set_option maxHeartbeats 40000000 in
theorem rmLE_01 (l : Launch) (Z : State) (a0 : Array Value) (hw : ∀ d ∈ tables_1, d.before a0 Z = true) (ws : List Jvm.Cond) (r0 : Addr) (r1 : Addr) (k0 : ClassId) (k1 : ClassId) (u : Int32) (h0 : Heap) (n0 : Nat) (Z0 : n0 ≤ h0.size) (V_0 : Arv Z h0 r0 k0 .byte (0 : Int32) [] (.int 0)) (V_1 : Arv Z h0 r1 k1 .byte (1 : Int32) [(.int u)] (.int 0)) :
    MetFree l (⟨"java/lang/StringLatin1", "equals", "([B[B)Z"⟩ : MethodName) (head1 (Jvm.Cond.code (⟨"java/lang/StringLatin1", "equals", "([B[B)Z"⟩ : MethodName) jdk_43_method_13_code 3 (some .boolean) :: ws) ({ frames := 0, cells := 0, slots := 0, locals := 0 } : Room)) (fun a U => a = #[(.ref r0), (.ref r1)] ∧ Z.Warmed39 U.vm ∧ U.heap = h0) (fun _ _ _ _ _ => True) (fun _ U o U' => ∃ v L, o = .returned v ∧ Q20 Z (f_eq [] [u]) h0 n0 v U'.heap L ∧ FrameEnd U o U' L ({ frames := 0, cells := 0, slots := 0, locals := 0 } : Room).cells ({ frames := 0, cells := 0, slots := 0, locals := 0 } : Room).slots) := by
  refine MetFree.of_bodySF (plainFor_of_name pn20) hisR ?_
  intro p e s m args below meth c s₁ Bd hml0 hP hK
  obtain ⟨rfl, hZ, hh⟩ := hP
  have hx := Bd.exec
  have hby := Bd.bytes
  have hml : c.maxLocals = 3 := hml0
  have hown : s.vm.findClass "java/lang/StringLatin1" = some m.cls := findClass_of_methodNamed Bd.named
  have hnm := (name_of_methodNamed Bd.named Bd.method).1
  have X0 : Stand p l e ({ frames := 0, cells := 0, slots := 0, locals := 0 } : Room) s m #[(.ref r0), (.ref r1)] below meth c s₁ [] 0 0 := Stand.of_body Bd
  have e0 : s₁.heap = h0 := by rw [← hh, Bd.state]; rfl
  have N0 := Fr.nil n0
  refine own_fw (A := s₁.setTop (mkF m 0 #[.val (.ref r0), .val (.ref r1), .unset] [])) (fun t k => castTop (ef20 m r0 r1) k) ?_
  refine own_fw (A := s₁.setTop (mkF m 1 #[.val (.ref r0), .val (.ref r1), .unset] [(.ref r0)])) (fun t k => ?_) ?_
  · show Steps p.tables e below (s₁.setTop (mkF m 0 #[.val (.ref r0), .val (.ref r1), .unset] [])) t
    refine XS.aloadN X0.here hx rfl (hb hby d20_0) rfl rfl ?_
    exact k
  obtain ⟨cl20_1, Ar20_1, q20_1, S20_1, Ng20_1, Hs20_1, G20_1⟩ := id V_0
  have st20_1 := X0.arraylength hx (by rw [e0]; exact Ar20_1.1) (State.isArrayOf_alike hZ.alike Ar20_1.2.1) (g := (mkF m 1 #[.val (.ref r0), .val (.ref r1), .unset] [(.ref r0)])) rfl rfl (hb hby d20_1)
  rw [len_of S20_1 Ng20_1] at st20_1
  refine own_fw st20_1 ?_
  refine own_fw (A := s₁.setTop (mkF m 3 #[.val (.ref r0), .val (.ref r1), .unset] [(.ref r1), (.int (0 : Int32))])) (fun t k => ?_) ?_
  · show Steps p.tables e below (s₁.setTop (mkF m 2 #[.val (.ref r0), .val (.ref r1), .unset] [(.int (0 : Int32))])) t
    refine XS.aloadN X0.here hx rfl (hb hby d20_2) rfl rfl ?_
    exact k
  obtain ⟨cl20_2, Ar20_2, q20_2, S20_2, Ng20_2, Hs20_2, G20_2⟩ := id V_1
  have st20_2 := X0.arraylength hx (by rw [e0]; exact Ar20_2.1) (State.isArrayOf_alike hZ.alike Ar20_2.2.1) (g := (mkF m 3 #[.val (.ref r0), .val (.ref r1), .unset] [(.ref r1), (.int (0 : Int32))])) rfl rfl (hb hby d20_3)
  rw [len_of S20_2 Ng20_2] at st20_2
  refine own_fw st20_2 ?_
  refine own_fw (A := s₁.setTop (mkF m 35 #[.val (.ref r0), .val (.ref r1), .unset] [(.int (0 : Int32))])) (fun t k => ?_) ?_
  · show Steps p.tables e below (s₁.setTop (mkF m 4 #[.val (.ref r0), .val (.ref r1), .unset] [(.int (1 : Int32)), (.int (0 : Int32))])) t
    refine XS.icmpYes X0.here hx rfl (pc0 := 4) (pc' := 34) rfl (hb hby d20_4) rfl (feq (by decide : ¬ ((0 : Int32) = (1 : Int32)))).2 (by decide) (by decide) ?_
    show Steps p.tables e below (s₁.setTop (mkF m 34 #[.val (.ref r0), .val (.ref r1), .unset] [])) t
    refine XS.iconst X0.here hx rfl (hb hby d20_34) ?_
    exact k
  obtain ⟨fs, hr, hrun, hended, hW, hsame⟩ := X0.leave (v := some (.int (nar .boolean (0 : Int32)))) (own_ret Bd.returns) (BodyLoose.notSynchronized Bd)
  refine ⟨_, _, retN X0 hx (t := .boolean) Bd.returns (by simp) (hb hby d20_35) hr, hrun, hended, _, _, rfl, ?_, ⟨_, rfl⟩, hW, hsame.mono (by decide) (by decide)⟩
  have eh : (s₁.setFrames fs).heap = h0 := e0
  rw [eh]
  exact ⟨congrArg (fun z => some (Value.int z)) (by simp [f_eq, nar]), N0, rfl⟩
set_option maxRecDepth 65536 in
set_option maxHeartbeats 40000000 in
theorem rmLE_02 (l : Launch) (Z : State) (a0 : Array Value) (hw : ∀ d ∈ tables_1, d.before a0 Z = true) (ws : List Jvm.Cond) (r0 : Addr) (r1 : Addr) (k0 : ClassId) (k1 : ClassId) (u : Int32) (q : Int32) (h0 : Heap) (n0 : Nat) (Z0 : n0 ≤ h0.size) (V_0 : Arv Z h0 r0 k0 .byte (0 : Int32) [] (.int 0)) (V_1 : Arv Z h0 r1 k1 .byte (2 : Int32) [(.int u), (.int q)] (.int 0)) :
    MetFree l (⟨"java/lang/StringLatin1", "equals", "([B[B)Z"⟩ : MethodName) (head1 (Jvm.Cond.code (⟨"java/lang/StringLatin1", "equals", "([B[B)Z"⟩ : MethodName) jdk_43_method_13_code 3 (some .boolean) :: ws) ({ frames := 0, cells := 0, slots := 0, locals := 0 } : Room)) (fun a U => a = #[(.ref r0), (.ref r1)] ∧ Z.Warmed39 U.vm ∧ U.heap = h0) (fun _ _ _ _ _ => True) (fun _ U o U' => ∃ v L, o = .returned v ∧ Q20 Z (f_eq [] [u, q]) h0 n0 v U'.heap L ∧ FrameEnd U o U' L ({ frames := 0, cells := 0, slots := 0, locals := 0 } : Room).cells ({ frames := 0, cells := 0, slots := 0, locals := 0 } : Room).slots) := by
  refine MetFree.of_bodySF (plainFor_of_name pn20) hisR ?_
  intro p e s m args below meth c s₁ Bd hml0 hP hK
  obtain ⟨rfl, hZ, hh⟩ := hP
  have hx := Bd.exec
  have hby := Bd.bytes
  have hml : c.maxLocals = 3 := hml0
  have hown : s.vm.findClass "java/lang/StringLatin1" = some m.cls := findClass_of_methodNamed Bd.named
  have hnm := (name_of_methodNamed Bd.named Bd.method).1
  have X0 : Stand p l e ({ frames := 0, cells := 0, slots := 0, locals := 0 } : Room) s m #[(.ref r0), (.ref r1)] below meth c s₁ [] 0 0 := Stand.of_body Bd
  have e0 : s₁.heap = h0 := by rw [← hh, Bd.state]; rfl
  have N0 := Fr.nil n0
  refine own_fw (A := s₁.setTop (mkF m 0 #[.val (.ref r0), .val (.ref r1), .unset] [])) (fun t k => castTop (ef20 m r0 r1) k) ?_
  refine own_fw (A := s₁.setTop (mkF m 1 #[.val (.ref r0), .val (.ref r1), .unset] [(.ref r0)])) (fun t k => ?_) ?_
  · show Steps p.tables e below (s₁.setTop (mkF m 0 #[.val (.ref r0), .val (.ref r1), .unset] [])) t
    refine XS.aloadN X0.here hx rfl (hb hby d20_0) rfl rfl ?_
    exact k
  obtain ⟨cl20_1, Ar20_1, q20_1, S20_1, Ng20_1, Hs20_1, G20_1⟩ := id V_0
  have st20_1 := X0.arraylength hx (by rw [e0]; exact Ar20_1.1) (State.isArrayOf_alike hZ.alike Ar20_1.2.1) (g := (mkF m 1 #[.val (.ref r0), .val (.ref r1), .unset] [(.ref r0)])) rfl rfl (hb hby d20_1)
  rw [len_of S20_1 Ng20_1] at st20_1
  refine own_fw st20_1 ?_
  refine own_fw (A := s₁.setTop (mkF m 3 #[.val (.ref r0), .val (.ref r1), .unset] [(.ref r1), (.int (0 : Int32))])) (fun t k => ?_) ?_
  · show Steps p.tables e below (s₁.setTop (mkF m 2 #[.val (.ref r0), .val (.ref r1), .unset] [(.int (0 : Int32))])) t
    refine XS.aloadN X0.here hx rfl (hb hby d20_2) rfl rfl ?_
    exact k
  obtain ⟨cl20_2, Ar20_2, q20_2, S20_2, Ng20_2, Hs20_2, G20_2⟩ := id V_1
  have st20_2 := X0.arraylength hx (by rw [e0]; exact Ar20_2.1) (State.isArrayOf_alike hZ.alike Ar20_2.2.1) (g := (mkF m 3 #[.val (.ref r0), .val (.ref r1), .unset] [(.ref r1), (.int (0 : Int32))])) rfl rfl (hb hby d20_3)
  rw [len_of S20_2 Ng20_2] at st20_2
  refine own_fw st20_2 ?_
  refine own_fw (A := s₁.setTop (mkF m 35 #[.val (.ref r0), .val (.ref r1), .unset] [(.int (0 : Int32))])) (fun t k => ?_) ?_
  · show Steps p.tables e below (s₁.setTop (mkF m 4 #[.val (.ref r0), .val (.ref r1), .unset] [(.int (2 : Int32)), (.int (0 : Int32))])) t
    refine XS.icmpYes X0.here hx rfl (pc0 := 4) (pc' := 34) rfl (hb hby d20_4) rfl (feq (by decide : ¬ ((0 : Int32) = (2 : Int32)))).2 (by decide) (by decide) ?_
    show Steps p.tables e below (s₁.setTop (mkF m 34 #[.val (.ref r0), .val (.ref r1), .unset] [])) t
    refine XS.iconst X0.here hx rfl (hb hby d20_34) ?_
    exact k
  obtain ⟨fs, hr, hrun, hended, hW, hsame⟩ := X0.leave (v := some (.int (nar .boolean (0 : Int32)))) (own_ret Bd.returns) (BodyLoose.notSynchronized Bd)
  refine ⟨_, _, retN X0 hx (t := .boolean) Bd.returns (by simp) (hb hby d20_35) hr, hrun, hended, _, _, rfl, ?_, ⟨_, rfl⟩, hW, hsame.mono (by decide) (by decide)⟩
  have eh : (s₁.setFrames fs).heap = h0 := e0
  rw [eh]
  exact ⟨congrArg (fun z => some (Value.int z)) (by simp [f_eq, nar]), N0, rfl⟩
set_option maxRecDepth 65536 in
set_option maxHeartbeats 40000000 in
theorem rmLE_10 (l : Launch) (Z : State) (a0 : Array Value) (hw : ∀ d ∈ tables_1, d.before a0 Z = true) (ws : List Jvm.Cond) (r0 : Addr) (r1 : Addr) (k0 : ClassId) (k1 : ClassId) (x : Int32) (h0 : Heap) (n0 : Nat) (Z0 : n0 ≤ h0.size) (V_0 : Arv Z h0 r0 k0 .byte (1 : Int32) [(.int x)] (.int 0)) (V_1 : Arv Z h0 r1 k1 .byte (0 : Int32) [] (.int 0)) :
    MetFree l (⟨"java/lang/StringLatin1", "equals", "([B[B)Z"⟩ : MethodName) (head1 (Jvm.Cond.code (⟨"java/lang/StringLatin1", "equals", "([B[B)Z"⟩ : MethodName) jdk_43_method_13_code 3 (some .boolean) :: ws) ({ frames := 0, cells := 0, slots := 0, locals := 0 } : Room)) (fun a U => a = #[(.ref r0), (.ref r1)] ∧ Z.Warmed39 U.vm ∧ U.heap = h0) (fun _ _ _ _ _ => True) (fun _ U o U' => ∃ v L, o = .returned v ∧ Q20 Z (f_eq [x] []) h0 n0 v U'.heap L ∧ FrameEnd U o U' L ({ frames := 0, cells := 0, slots := 0, locals := 0 } : Room).cells ({ frames := 0, cells := 0, slots := 0, locals := 0 } : Room).slots) := by
  refine MetFree.of_bodySF (plainFor_of_name pn20) hisR ?_
  intro p e s m args below meth c s₁ Bd hml0 hP hK
  obtain ⟨rfl, hZ, hh⟩ := hP
  have hx := Bd.exec
  have hby := Bd.bytes
  have hml : c.maxLocals = 3 := hml0
  have hown : s.vm.findClass "java/lang/StringLatin1" = some m.cls := findClass_of_methodNamed Bd.named
  have hnm := (name_of_methodNamed Bd.named Bd.method).1
  have X0 : Stand p l e ({ frames := 0, cells := 0, slots := 0, locals := 0 } : Room) s m #[(.ref r0), (.ref r1)] below meth c s₁ [] 0 0 := Stand.of_body Bd
  have e0 : s₁.heap = h0 := by rw [← hh, Bd.state]; rfl
  have N0 := Fr.nil n0
  refine own_fw (A := s₁.setTop (mkF m 0 #[.val (.ref r0), .val (.ref r1), .unset] [])) (fun t k => castTop (ef20 m r0 r1) k) ?_
  refine own_fw (A := s₁.setTop (mkF m 1 #[.val (.ref r0), .val (.ref r1), .unset] [(.ref r0)])) (fun t k => ?_) ?_
  · show Steps p.tables e below (s₁.setTop (mkF m 0 #[.val (.ref r0), .val (.ref r1), .unset] [])) t
    refine XS.aloadN X0.here hx rfl (hb hby d20_0) rfl rfl ?_
    exact k
  obtain ⟨cl20_1, Ar20_1, q20_1, S20_1, Ng20_1, Hs20_1, G20_1⟩ := id V_0
  have st20_1 := X0.arraylength hx (by rw [e0]; exact Ar20_1.1) (State.isArrayOf_alike hZ.alike Ar20_1.2.1) (g := (mkF m 1 #[.val (.ref r0), .val (.ref r1), .unset] [(.ref r0)])) rfl rfl (hb hby d20_1)
  rw [len_of S20_1 Ng20_1] at st20_1
  refine own_fw st20_1 ?_
  refine own_fw (A := s₁.setTop (mkF m 3 #[.val (.ref r0), .val (.ref r1), .unset] [(.ref r1), (.int (1 : Int32))])) (fun t k => ?_) ?_
  · show Steps p.tables e below (s₁.setTop (mkF m 2 #[.val (.ref r0), .val (.ref r1), .unset] [(.int (1 : Int32))])) t
    refine XS.aloadN X0.here hx rfl (hb hby d20_2) rfl rfl ?_
    exact k
  obtain ⟨cl20_2, Ar20_2, q20_2, S20_2, Ng20_2, Hs20_2, G20_2⟩ := id V_1
  have st20_2 := X0.arraylength hx (by rw [e0]; exact Ar20_2.1) (State.isArrayOf_alike hZ.alike Ar20_2.2.1) (g := (mkF m 3 #[.val (.ref r0), .val (.ref r1), .unset] [(.ref r1), (.int (1 : Int32))])) rfl rfl (hb hby d20_3)
  rw [len_of S20_2 Ng20_2] at st20_2
  refine own_fw st20_2 ?_
  refine own_fw (A := s₁.setTop (mkF m 35 #[.val (.ref r0), .val (.ref r1), .unset] [(.int (0 : Int32))])) (fun t k => ?_) ?_
  · show Steps p.tables e below (s₁.setTop (mkF m 4 #[.val (.ref r0), .val (.ref r1), .unset] [(.int (0 : Int32)), (.int (1 : Int32))])) t
    refine XS.icmpYes X0.here hx rfl (pc0 := 4) (pc' := 34) rfl (hb hby d20_4) rfl (feq (by decide : ¬ ((1 : Int32) = (0 : Int32)))).2 (by decide) (by decide) ?_
    show Steps p.tables e below (s₁.setTop (mkF m 34 #[.val (.ref r0), .val (.ref r1), .unset] [])) t
    refine XS.iconst X0.here hx rfl (hb hby d20_34) ?_
    exact k
  obtain ⟨fs, hr, hrun, hended, hW, hsame⟩ := X0.leave (v := some (.int (nar .boolean (0 : Int32)))) (own_ret Bd.returns) (BodyLoose.notSynchronized Bd)
  refine ⟨_, _, retN X0 hx (t := .boolean) Bd.returns (by simp) (hb hby d20_35) hr, hrun, hended, _, _, rfl, ?_, ⟨_, rfl⟩, hW, hsame.mono (by decide) (by decide)⟩
  have eh : (s₁.setFrames fs).heap = h0 := e0
  rw [eh]
  exact ⟨congrArg (fun z => some (Value.int z)) (by simp [f_eq, nar]), N0, rfl⟩
set_option maxRecDepth 65536 in
set_option maxHeartbeats 40000000 in
theorem rmLE_11 (l : Launch) (Z : State) (a0 : Array Value) (hw : ∀ d ∈ tables_1, d.before a0 Z = true) (ws : List Jvm.Cond) (r0 : Addr) (r1 : Addr) (k0 : ClassId) (k1 : ClassId) (x : Int32) (u : Int32) (h0 : Heap) (n0 : Nat) (Z0 : n0 ≤ h0.size) (V_0 : Arv Z h0 r0 k0 .byte (1 : Int32) [(.int x)] (.int 0)) (V_1 : Arv Z h0 r1 k1 .byte (1 : Int32) [(.int u)] (.int 0)) :
    MetFree l (⟨"java/lang/StringLatin1", "equals", "([B[B)Z"⟩ : MethodName) (head1 (Jvm.Cond.code (⟨"java/lang/StringLatin1", "equals", "([B[B)Z"⟩ : MethodName) jdk_43_method_13_code 3 (some .boolean) :: ws) ({ frames := 0, cells := 0, slots := 0, locals := 0 } : Room)) (fun a U => a = #[(.ref r0), (.ref r1)] ∧ Z.Warmed39 U.vm ∧ U.heap = h0) (fun _ _ _ _ _ => True) (fun _ U o U' => ∃ v L, o = .returned v ∧ Q20 Z (f_eq [x] [u]) h0 n0 v U'.heap L ∧ FrameEnd U o U' L ({ frames := 0, cells := 0, slots := 0, locals := 0 } : Room).cells ({ frames := 0, cells := 0, slots := 0, locals := 0 } : Room).slots) := by
  refine MetFree.of_bodySF (plainFor_of_name pn20) hisR ?_
  intro p e s m args below meth c s₁ Bd hml0 hP hK
  obtain ⟨rfl, hZ, hh⟩ := hP
  have hx := Bd.exec
  have hby := Bd.bytes
  have hml : c.maxLocals = 3 := hml0
  have hown : s.vm.findClass "java/lang/StringLatin1" = some m.cls := findClass_of_methodNamed Bd.named
  have hnm := (name_of_methodNamed Bd.named Bd.method).1
  have X0 : Stand p l e ({ frames := 0, cells := 0, slots := 0, locals := 0 } : Room) s m #[(.ref r0), (.ref r1)] below meth c s₁ [] 0 0 := Stand.of_body Bd
  have e0 : s₁.heap = h0 := by rw [← hh, Bd.state]; rfl
  have N0 := Fr.nil n0
  refine own_fw (A := s₁.setTop (mkF m 0 #[.val (.ref r0), .val (.ref r1), .unset] [])) (fun t k => castTop (ef20 m r0 r1) k) ?_
  refine own_fw (A := s₁.setTop (mkF m 1 #[.val (.ref r0), .val (.ref r1), .unset] [(.ref r0)])) (fun t k => ?_) ?_
  · show Steps p.tables e below (s₁.setTop (mkF m 0 #[.val (.ref r0), .val (.ref r1), .unset] [])) t
    refine XS.aloadN X0.here hx rfl (hb hby d20_0) rfl rfl ?_
    exact k
  obtain ⟨cl20_1, Ar20_1, q20_1, S20_1, Ng20_1, Hs20_1, G20_1⟩ := id V_0
  have st20_1 := X0.arraylength hx (by rw [e0]; exact Ar20_1.1) (State.isArrayOf_alike hZ.alike Ar20_1.2.1) (g := (mkF m 1 #[.val (.ref r0), .val (.ref r1), .unset] [(.ref r0)])) rfl rfl (hb hby d20_1)
  rw [len_of S20_1 Ng20_1] at st20_1
  refine own_fw st20_1 ?_
  refine own_fw (A := s₁.setTop (mkF m 3 #[.val (.ref r0), .val (.ref r1), .unset] [(.ref r1), (.int (1 : Int32))])) (fun t k => ?_) ?_
  · show Steps p.tables e below (s₁.setTop (mkF m 2 #[.val (.ref r0), .val (.ref r1), .unset] [(.int (1 : Int32))])) t
    refine XS.aloadN X0.here hx rfl (hb hby d20_2) rfl rfl ?_
    exact k
  obtain ⟨cl20_2, Ar20_2, q20_2, S20_2, Ng20_2, Hs20_2, G20_2⟩ := id V_1
  have st20_2 := X0.arraylength hx (by rw [e0]; exact Ar20_2.1) (State.isArrayOf_alike hZ.alike Ar20_2.2.1) (g := (mkF m 3 #[.val (.ref r0), .val (.ref r1), .unset] [(.ref r1), (.int (1 : Int32))])) rfl rfl (hb hby d20_3)
  rw [len_of S20_2 Ng20_2] at st20_2
  refine own_fw st20_2 ?_
  refine own_fw (A := s₁.setTop (mkF m 11 #[.val (.ref r0), .val (.ref r1), .val (.int (0 : Int32))] [(.ref r0), (.int (0 : Int32))])) (fun t k => ?_) ?_
  · show Steps p.tables e below (s₁.setTop (mkF m 4 #[.val (.ref r0), .val (.ref r1), .unset] [(.int (1 : Int32)), (.int (1 : Int32))])) t
    refine XS.icmpNo X0.here hx rfl (hb hby d20_4) rfl (teq (rfl : (1 : Int32) = (1 : Int32))).2 ?_
    show Steps p.tables e below (s₁.setTop (mkF m 7 #[.val (.ref r0), .val (.ref r1), .unset] [])) t
    refine XS.iconst X0.here hx rfl (hb hby d20_7) ?_
    show Steps p.tables e below (s₁.setTop (mkF m 8 #[.val (.ref r0), .val (.ref r1), .unset] [(.int (0 : Int32))])) t
    refine XS.istoreN X0.here hx rfl (hb hby d20_8) rfl (l' := #[.val (.ref r0), .val (.ref r1), .val (.int (0 : Int32))]) rfl ?_
    show Steps p.tables e below (s₁.setTop (mkF m 9 #[.val (.ref r0), .val (.ref r1), .val (.int (0 : Int32))] [])) t
    refine XS.iloadN X0.here hx rfl (hb hby d20_9) rfl ?_
    show Steps p.tables e below (s₁.setTop (mkF m 10 #[.val (.ref r0), .val (.ref r1), .val (.int (0 : Int32))] [(.int (0 : Int32))])) t
    refine XS.aloadN X0.here hx rfl (hb hby d20_10) rfl rfl ?_
    exact k
  obtain ⟨cl20_3, Ar20_3, q20_3, S20_3, Ng20_3, Hs20_3, G20_3⟩ := id V_0
  have st20_3 := X0.arraylength hx (by rw [e0]; exact Ar20_3.1) (State.isArrayOf_alike hZ.alike Ar20_3.2.1) (g := (mkF m 11 #[.val (.ref r0), .val (.ref r1), .val (.int (0 : Int32))] [(.ref r0), (.int (0 : Int32))])) rfl rfl (hb hby d20_11)
  rw [len_of S20_3 Ng20_3] at st20_3
  refine own_fw st20_3 ?_
  refine own_fw (A := s₁.setTop (mkF m 17 #[.val (.ref r0), .val (.ref r1), .val (.int (0 : Int32))] [(.int (0 : Int32)), (.ref r0)])) (fun t k => ?_) ?_
  · show Steps p.tables e below (s₁.setTop (mkF m 12 #[.val (.ref r0), .val (.ref r1), .val (.int (0 : Int32))] [(.int (1 : Int32)), (.int (0 : Int32))])) t
    refine XS.icmpNo X0.here hx rfl (hb hby d20_12) rfl (tlt (by decide : ((0 : Int32) < (1 : Int32)))).2.1 ?_
    show Steps p.tables e below (s₁.setTop (mkF m 15 #[.val (.ref r0), .val (.ref r1), .val (.int (0 : Int32))] [])) t
    refine XS.aloadN X0.here hx rfl (hb hby d20_15) rfl rfl ?_
    show Steps p.tables e below (s₁.setTop (mkF m 16 #[.val (.ref r0), .val (.ref r1), .val (.int (0 : Int32))] [(.ref r0)])) t
    refine XS.iloadN X0.here hx rfl (hb hby d20_16) rfl ?_
    exact k
  obtain ⟨cl20_4, Ar20_4, q20_4, S20_4, Ng20_4, Hs20_4, G20_4⟩ := id V_0
  have hin20_4 : ¬ ((0 : Int32) < 0 ∨ cl20_4.slots.size ≤ ((0 : Int32)).toNatClampNeg) := inb_of S20_4 ⟨by decide, by decide⟩
  refine own_fw (X0.baloadBytes hx (j := (0 : Int32)) (v := (.int x)) (by rw [e0]; exact Ar20_4.1) (State.isArrayOf_alike hZ.alike Ar20_4.2.1) Ar20_4.2.2 hin20_4 (Has.at Hs20_4 hin20_4 rfl) (g := (mkF m 17 #[.val (.ref r0), .val (.ref r1), .val (.int (0 : Int32))] [(.int (0 : Int32)), (.ref r0)])) rfl rfl (hb hby d20_17)) ?_
  refine own_fw (A := s₁.setTop (mkF m 20 #[.val (.ref r0), .val (.ref r1), .val (.int (0 : Int32))] [(.int (0 : Int32)), (.ref r1), (.int x)])) (fun t k => ?_) ?_
  · show Steps p.tables e below (s₁.setTop (mkF m 18 #[.val (.ref r0), .val (.ref r1), .val (.int (0 : Int32))] [(.int x)])) t
    refine XS.aloadN X0.here hx rfl (hb hby d20_18) rfl rfl ?_
    show Steps p.tables e below (s₁.setTop (mkF m 19 #[.val (.ref r0), .val (.ref r1), .val (.int (0 : Int32))] [(.ref r1), (.int x)])) t
    refine XS.iloadN X0.here hx rfl (hb hby d20_19) rfl ?_
    exact k
  obtain ⟨cl20_5, Ar20_5, q20_5, S20_5, Ng20_5, Hs20_5, G20_5⟩ := id V_1
  have hin20_5 : ¬ ((0 : Int32) < 0 ∨ cl20_5.slots.size ≤ ((0 : Int32)).toNatClampNeg) := inb_of S20_5 ⟨by decide, by decide⟩
  refine own_fw (X0.baloadBytes hx (j := (0 : Int32)) (v := (.int u)) (by rw [e0]; exact Ar20_5.1) (State.isArrayOf_alike hZ.alike Ar20_5.2.1) Ar20_5.2.2 hin20_5 (Has.at Hs20_5 hin20_5 rfl) (g := (mkF m 20 #[.val (.ref r0), .val (.ref r1), .val (.int (0 : Int32))] [(.int (0 : Int32)), (.ref r1), (.int x)])) rfl rfl (hb hby d20_20)) ?_
  by_cases hc20_1 : x = u
  · refine own_fw (A := s₁.setTop (mkF m 26 #[.val (.ref r0), .val (.ref r1), .val (.int (0 : Int32))] [])) (fun t k => ?_) ?_
    · show Steps p.tables e below (s₁.setTop (mkF m 21 #[.val (.ref r0), .val (.ref r1), .val (.int (0 : Int32))] [(.int u), (.int x)])) t
      refine XS.icmpYes X0.here hx rfl (pc0 := 21) (pc' := 26) rfl (hb hby d20_21) rfl (teq hc20_1).1 (by decide) (by decide) ?_
      exact k
    refine own_fw (A := s₁.setTop (mkF m 11 #[.val (.ref r0), .val (.ref r1), .val (.int (1 : Int32))] [(.ref r0), (.int (1 : Int32))])) (fun t k => ?_) ?_
    · show Steps p.tables e below (s₁.setTop (mkF m 26 #[.val (.ref r0), .val (.ref r1), .val (.int (0 : Int32))] [])) t
      refine XS.iinc X0.here hx rfl (hb hby d20_26) rfl (l' := #[.val (.ref r0), .val (.ref r1), .val (.int (1 : Int32))]) rfl ?_
      show Steps p.tables e below (s₁.setTop (mkF m 29 #[.val (.ref r0), .val (.ref r1), .val (.int (1 : Int32))] [])) t
      refine XS.goto X0.here hx rfl (pc0 := 29) (pc' := 9) rfl (hb hby d20_29) (by decide) (by decide) ?_
      show Steps p.tables e below (s₁.setTop (mkF m 9 #[.val (.ref r0), .val (.ref r1), .val (.int (1 : Int32))] [])) t
      refine XS.iloadN X0.here hx rfl (hb hby d20_9) rfl ?_
      show Steps p.tables e below (s₁.setTop (mkF m 10 #[.val (.ref r0), .val (.ref r1), .val (.int (1 : Int32))] [(.int (1 : Int32))])) t
      refine XS.aloadN X0.here hx rfl (hb hby d20_10) rfl rfl ?_
      exact k
    obtain ⟨cl20_6, Ar20_6, q20_6, S20_6, Ng20_6, Hs20_6, G20_6⟩ := id V_0
    have st20_6 := X0.arraylength hx (by rw [e0]; exact Ar20_6.1) (State.isArrayOf_alike hZ.alike Ar20_6.2.1) (g := (mkF m 11 #[.val (.ref r0), .val (.ref r1), .val (.int (1 : Int32))] [(.ref r0), (.int (1 : Int32))])) rfl rfl (hb hby d20_11)
    rw [len_of S20_6 Ng20_6] at st20_6
    refine own_fw st20_6 ?_
    refine own_fw (A := s₁.setTop (mkF m 33 #[.val (.ref r0), .val (.ref r1), .val (.int (1 : Int32))] [(.int (1 : Int32))])) (fun t k => ?_) ?_
    · show Steps p.tables e below (s₁.setTop (mkF m 12 #[.val (.ref r0), .val (.ref r1), .val (.int (1 : Int32))] [(.int (1 : Int32)), (.int (1 : Int32))])) t
      refine XS.icmpYes X0.here hx rfl (pc0 := 12) (pc' := 32) rfl (hb hby d20_12) rfl (flt (Int32.lt_irrefl : ¬ ((1 : Int32) < (1 : Int32)))).2.1 (by decide) (by decide) ?_
      show Steps p.tables e below (s₁.setTop (mkF m 32 #[.val (.ref r0), .val (.ref r1), .val (.int (1 : Int32))] [])) t
      refine XS.iconst X0.here hx rfl (hb hby d20_32) ?_
      exact k
    obtain ⟨fs, hr, hrun, hended, hW, hsame⟩ := X0.leave (v := some (.int (nar .boolean (1 : Int32)))) (own_ret Bd.returns) (BodyLoose.notSynchronized Bd)
    refine ⟨_, _, retN X0 hx (t := .boolean) Bd.returns (by simp) (hb hby d20_33) hr, hrun, hended, _, _, rfl, ?_, ⟨_, rfl⟩, hW, hsame.mono (by decide) (by decide)⟩
    have eh : (s₁.setFrames fs).heap = h0 := e0
    rw [eh]
    exact ⟨congrArg (fun z => some (Value.int z)) (by simp [f_eq, nar, hc20_1]), N0, rfl⟩
  · refine own_fw (A := s₁.setTop (mkF m 24 #[.val (.ref r0), .val (.ref r1), .val (.int (0 : Int32))] [])) (fun t k => ?_) ?_
    · show Steps p.tables e below (s₁.setTop (mkF m 21 #[.val (.ref r0), .val (.ref r1), .val (.int (0 : Int32))] [(.int u), (.int x)])) t
      refine XS.icmpNo X0.here hx rfl (hb hby d20_21) rfl (feq hc20_1).1 ?_
      exact k
    refine own_fw (A := s₁.setTop (mkF m 25 #[.val (.ref r0), .val (.ref r1), .val (.int (0 : Int32))] [(.int (0 : Int32))])) (fun t k => ?_) ?_
    · show Steps p.tables e below (s₁.setTop (mkF m 24 #[.val (.ref r0), .val (.ref r1), .val (.int (0 : Int32))] [])) t
      refine XS.iconst X0.here hx rfl (hb hby d20_24) ?_
      exact k
    obtain ⟨fs, hr, hrun, hended, hW, hsame⟩ := X0.leave (v := some (.int (nar .boolean (0 : Int32)))) (own_ret Bd.returns) (BodyLoose.notSynchronized Bd)
    refine ⟨_, _, retN X0 hx (t := .boolean) Bd.returns (by simp) (hb hby d20_25) hr, hrun, hended, _, _, rfl, ?_, ⟨_, rfl⟩, hW, hsame.mono (by decide) (by decide)⟩
    have eh : (s₁.setFrames fs).heap = h0 := e0
    rw [eh]
    exact ⟨congrArg (fun z => some (Value.int z)) (by simp [f_eq, nar, hc20_1]), N0, rfl⟩
set_option maxRecDepth 65536 in
set_option maxHeartbeats 40000000 in
theorem rmLE_12 (l : Launch) (Z : State) (a0 : Array Value) (hw : ∀ d ∈ tables_1, d.before a0 Z = true) (ws : List Jvm.Cond) (r0 : Addr) (r1 : Addr) (k0 : ClassId) (k1 : ClassId) (x : Int32) (u : Int32) (q : Int32) (h0 : Heap) (n0 : Nat) (Z0 : n0 ≤ h0.size) (V_0 : Arv Z h0 r0 k0 .byte (1 : Int32) [(.int x)] (.int 0)) (V_1 : Arv Z h0 r1 k1 .byte (2 : Int32) [(.int u), (.int q)] (.int 0)) :
    MetFree l (⟨"java/lang/StringLatin1", "equals", "([B[B)Z"⟩ : MethodName) (head1 (Jvm.Cond.code (⟨"java/lang/StringLatin1", "equals", "([B[B)Z"⟩ : MethodName) jdk_43_method_13_code 3 (some .boolean) :: ws) ({ frames := 0, cells := 0, slots := 0, locals := 0 } : Room)) (fun a U => a = #[(.ref r0), (.ref r1)] ∧ Z.Warmed39 U.vm ∧ U.heap = h0) (fun _ _ _ _ _ => True) (fun _ U o U' => ∃ v L, o = .returned v ∧ Q20 Z (f_eq [x] [u, q]) h0 n0 v U'.heap L ∧ FrameEnd U o U' L ({ frames := 0, cells := 0, slots := 0, locals := 0 } : Room).cells ({ frames := 0, cells := 0, slots := 0, locals := 0 } : Room).slots) := by
  refine MetFree.of_bodySF (plainFor_of_name pn20) hisR ?_
  intro p e s m args below meth c s₁ Bd hml0 hP hK
  obtain ⟨rfl, hZ, hh⟩ := hP
  have hx := Bd.exec
  have hby := Bd.bytes
  have hml : c.maxLocals = 3 := hml0
  have hown : s.vm.findClass "java/lang/StringLatin1" = some m.cls := findClass_of_methodNamed Bd.named
  have hnm := (name_of_methodNamed Bd.named Bd.method).1
  have X0 : Stand p l e ({ frames := 0, cells := 0, slots := 0, locals := 0 } : Room) s m #[(.ref r0), (.ref r1)] below meth c s₁ [] 0 0 := Stand.of_body Bd
  have e0 : s₁.heap = h0 := by rw [← hh, Bd.state]; rfl
  have N0 := Fr.nil n0
  refine own_fw (A := s₁.setTop (mkF m 0 #[.val (.ref r0), .val (.ref r1), .unset] [])) (fun t k => castTop (ef20 m r0 r1) k) ?_
  refine own_fw (A := s₁.setTop (mkF m 1 #[.val (.ref r0), .val (.ref r1), .unset] [(.ref r0)])) (fun t k => ?_) ?_
  · show Steps p.tables e below (s₁.setTop (mkF m 0 #[.val (.ref r0), .val (.ref r1), .unset] [])) t
    refine XS.aloadN X0.here hx rfl (hb hby d20_0) rfl rfl ?_
    exact k
  obtain ⟨cl20_1, Ar20_1, q20_1, S20_1, Ng20_1, Hs20_1, G20_1⟩ := id V_0
  have st20_1 := X0.arraylength hx (by rw [e0]; exact Ar20_1.1) (State.isArrayOf_alike hZ.alike Ar20_1.2.1) (g := (mkF m 1 #[.val (.ref r0), .val (.ref r1), .unset] [(.ref r0)])) rfl rfl (hb hby d20_1)
  rw [len_of S20_1 Ng20_1] at st20_1
  refine own_fw st20_1 ?_
  refine own_fw (A := s₁.setTop (mkF m 3 #[.val (.ref r0), .val (.ref r1), .unset] [(.ref r1), (.int (1 : Int32))])) (fun t k => ?_) ?_
  · show Steps p.tables e below (s₁.setTop (mkF m 2 #[.val (.ref r0), .val (.ref r1), .unset] [(.int (1 : Int32))])) t
    refine XS.aloadN X0.here hx rfl (hb hby d20_2) rfl rfl ?_
    exact k
  obtain ⟨cl20_2, Ar20_2, q20_2, S20_2, Ng20_2, Hs20_2, G20_2⟩ := id V_1
  have st20_2 := X0.arraylength hx (by rw [e0]; exact Ar20_2.1) (State.isArrayOf_alike hZ.alike Ar20_2.2.1) (g := (mkF m 3 #[.val (.ref r0), .val (.ref r1), .unset] [(.ref r1), (.int (1 : Int32))])) rfl rfl (hb hby d20_3)
  rw [len_of S20_2 Ng20_2] at st20_2
  refine own_fw st20_2 ?_
  refine own_fw (A := s₁.setTop (mkF m 35 #[.val (.ref r0), .val (.ref r1), .unset] [(.int (0 : Int32))])) (fun t k => ?_) ?_
  · show Steps p.tables e below (s₁.setTop (mkF m 4 #[.val (.ref r0), .val (.ref r1), .unset] [(.int (2 : Int32)), (.int (1 : Int32))])) t
    refine XS.icmpYes X0.here hx rfl (pc0 := 4) (pc' := 34) rfl (hb hby d20_4) rfl (feq (by decide : ¬ ((1 : Int32) = (2 : Int32)))).2 (by decide) (by decide) ?_
    show Steps p.tables e below (s₁.setTop (mkF m 34 #[.val (.ref r0), .val (.ref r1), .unset] [])) t
    refine XS.iconst X0.here hx rfl (hb hby d20_34) ?_
    exact k
  obtain ⟨fs, hr, hrun, hended, hW, hsame⟩ := X0.leave (v := some (.int (nar .boolean (0 : Int32)))) (own_ret Bd.returns) (BodyLoose.notSynchronized Bd)
  refine ⟨_, _, retN X0 hx (t := .boolean) Bd.returns (by simp) (hb hby d20_35) hr, hrun, hended, _, _, rfl, ?_, ⟨_, rfl⟩, hW, hsame.mono (by decide) (by decide)⟩
  have eh : (s₁.setFrames fs).heap = h0 := e0
  rw [eh]
  exact ⟨congrArg (fun z => some (Value.int z)) (by simp [f_eq, nar]), N0, rfl⟩
set_option maxRecDepth 65536 in
set_option maxHeartbeats 40000000 in
theorem rmLE_20 (l : Launch) (Z : State) (a0 : Array Value) (hw : ∀ d ∈ tables_1, d.before a0 Z = true) (ws : List Jvm.Cond) (r0 : Addr) (r1 : Addr) (k0 : ClassId) (k1 : ClassId) (x : Int32) (y : Int32) (h0 : Heap) (n0 : Nat) (Z0 : n0 ≤ h0.size) (V_0 : Arv Z h0 r0 k0 .byte (2 : Int32) [(.int x), (.int y)] (.int 0)) (V_1 : Arv Z h0 r1 k1 .byte (0 : Int32) [] (.int 0)) :
    MetFree l (⟨"java/lang/StringLatin1", "equals", "([B[B)Z"⟩ : MethodName) (head1 (Jvm.Cond.code (⟨"java/lang/StringLatin1", "equals", "([B[B)Z"⟩ : MethodName) jdk_43_method_13_code 3 (some .boolean) :: ws) ({ frames := 0, cells := 0, slots := 0, locals := 0 } : Room)) (fun a U => a = #[(.ref r0), (.ref r1)] ∧ Z.Warmed39 U.vm ∧ U.heap = h0) (fun _ _ _ _ _ => True) (fun _ U o U' => ∃ v L, o = .returned v ∧ Q20 Z (f_eq [x, y] []) h0 n0 v U'.heap L ∧ FrameEnd U o U' L ({ frames := 0, cells := 0, slots := 0, locals := 0 } : Room).cells ({ frames := 0, cells := 0, slots := 0, locals := 0 } : Room).slots) := by
  refine MetFree.of_bodySF (plainFor_of_name pn20) hisR ?_
  intro p e s m args below meth c s₁ Bd hml0 hP hK
  obtain ⟨rfl, hZ, hh⟩ := hP
  have hx := Bd.exec
  have hby := Bd.bytes
  have hml : c.maxLocals = 3 := hml0
  have hown : s.vm.findClass "java/lang/StringLatin1" = some m.cls := findClass_of_methodNamed Bd.named
  have hnm := (name_of_methodNamed Bd.named Bd.method).1
  have X0 : Stand p l e ({ frames := 0, cells := 0, slots := 0, locals := 0 } : Room) s m #[(.ref r0), (.ref r1)] below meth c s₁ [] 0 0 := Stand.of_body Bd
  have e0 : s₁.heap = h0 := by rw [← hh, Bd.state]; rfl
  have N0 := Fr.nil n0
  refine own_fw (A := s₁.setTop (mkF m 0 #[.val (.ref r0), .val (.ref r1), .unset] [])) (fun t k => castTop (ef20 m r0 r1) k) ?_
  refine own_fw (A := s₁.setTop (mkF m 1 #[.val (.ref r0), .val (.ref r1), .unset] [(.ref r0)])) (fun t k => ?_) ?_
  · show Steps p.tables e below (s₁.setTop (mkF m 0 #[.val (.ref r0), .val (.ref r1), .unset] [])) t
    refine XS.aloadN X0.here hx rfl (hb hby d20_0) rfl rfl ?_
    exact k
  obtain ⟨cl20_1, Ar20_1, q20_1, S20_1, Ng20_1, Hs20_1, G20_1⟩ := id V_0
  have st20_1 := X0.arraylength hx (by rw [e0]; exact Ar20_1.1) (State.isArrayOf_alike hZ.alike Ar20_1.2.1) (g := (mkF m 1 #[.val (.ref r0), .val (.ref r1), .unset] [(.ref r0)])) rfl rfl (hb hby d20_1)
  rw [len_of S20_1 Ng20_1] at st20_1
  refine own_fw st20_1 ?_
  refine own_fw (A := s₁.setTop (mkF m 3 #[.val (.ref r0), .val (.ref r1), .unset] [(.ref r1), (.int (2 : Int32))])) (fun t k => ?_) ?_
  · show Steps p.tables e below (s₁.setTop (mkF m 2 #[.val (.ref r0), .val (.ref r1), .unset] [(.int (2 : Int32))])) t
    refine XS.aloadN X0.here hx rfl (hb hby d20_2) rfl rfl ?_
    exact k
  obtain ⟨cl20_2, Ar20_2, q20_2, S20_2, Ng20_2, Hs20_2, G20_2⟩ := id V_1
  have st20_2 := X0.arraylength hx (by rw [e0]; exact Ar20_2.1) (State.isArrayOf_alike hZ.alike Ar20_2.2.1) (g := (mkF m 3 #[.val (.ref r0), .val (.ref r1), .unset] [(.ref r1), (.int (2 : Int32))])) rfl rfl (hb hby d20_3)
  rw [len_of S20_2 Ng20_2] at st20_2
  refine own_fw st20_2 ?_
  refine own_fw (A := s₁.setTop (mkF m 35 #[.val (.ref r0), .val (.ref r1), .unset] [(.int (0 : Int32))])) (fun t k => ?_) ?_
  · show Steps p.tables e below (s₁.setTop (mkF m 4 #[.val (.ref r0), .val (.ref r1), .unset] [(.int (0 : Int32)), (.int (2 : Int32))])) t
    refine XS.icmpYes X0.here hx rfl (pc0 := 4) (pc' := 34) rfl (hb hby d20_4) rfl (feq (by decide : ¬ ((2 : Int32) = (0 : Int32)))).2 (by decide) (by decide) ?_
    show Steps p.tables e below (s₁.setTop (mkF m 34 #[.val (.ref r0), .val (.ref r1), .unset] [])) t
    refine XS.iconst X0.here hx rfl (hb hby d20_34) ?_
    exact k
  obtain ⟨fs, hr, hrun, hended, hW, hsame⟩ := X0.leave (v := some (.int (nar .boolean (0 : Int32)))) (own_ret Bd.returns) (BodyLoose.notSynchronized Bd)
  refine ⟨_, _, retN X0 hx (t := .boolean) Bd.returns (by simp) (hb hby d20_35) hr, hrun, hended, _, _, rfl, ?_, ⟨_, rfl⟩, hW, hsame.mono (by decide) (by decide)⟩
  have eh : (s₁.setFrames fs).heap = h0 := e0
  rw [eh]
  exact ⟨congrArg (fun z => some (Value.int z)) (by simp [f_eq, nar]), N0, rfl⟩
set_option maxRecDepth 65536 in
set_option maxHeartbeats 40000000 in
theorem rmLE_21 (l : Launch) (Z : State) (a0 : Array Value) (hw : ∀ d ∈ tables_1, d.before a0 Z = true) (ws : List Jvm.Cond) (r0 : Addr) (r1 : Addr) (k0 : ClassId) (k1 : ClassId) (x : Int32) (y : Int32) (u : Int32) (h0 : Heap) (n0 : Nat) (Z0 : n0 ≤ h0.size) (V_0 : Arv Z h0 r0 k0 .byte (2 : Int32) [(.int x), (.int y)] (.int 0)) (V_1 : Arv Z h0 r1 k1 .byte (1 : Int32) [(.int u)] (.int 0)) :
    MetFree l (⟨"java/lang/StringLatin1", "equals", "([B[B)Z"⟩ : MethodName) (head1 (Jvm.Cond.code (⟨"java/lang/StringLatin1", "equals", "([B[B)Z"⟩ : MethodName) jdk_43_method_13_code 3 (some .boolean) :: ws) ({ frames := 0, cells := 0, slots := 0, locals := 0 } : Room)) (fun a U => a = #[(.ref r0), (.ref r1)] ∧ Z.Warmed39 U.vm ∧ U.heap = h0) (fun _ _ _ _ _ => True) (fun _ U o U' => ∃ v L, o = .returned v ∧ Q20 Z (f_eq [x, y] [u]) h0 n0 v U'.heap L ∧ FrameEnd U o U' L ({ frames := 0, cells := 0, slots := 0, locals := 0 } : Room).cells ({ frames := 0, cells := 0, slots := 0, locals := 0 } : Room).slots) := by
  refine MetFree.of_bodySF (plainFor_of_name pn20) hisR ?_
  intro p e s m args below meth c s₁ Bd hml0 hP hK
  obtain ⟨rfl, hZ, hh⟩ := hP
  have hx := Bd.exec
  have hby := Bd.bytes
  have hml : c.maxLocals = 3 := hml0
  have hown : s.vm.findClass "java/lang/StringLatin1" = some m.cls := findClass_of_methodNamed Bd.named
  have hnm := (name_of_methodNamed Bd.named Bd.method).1
  have X0 : Stand p l e ({ frames := 0, cells := 0, slots := 0, locals := 0 } : Room) s m #[(.ref r0), (.ref r1)] below meth c s₁ [] 0 0 := Stand.of_body Bd
  have e0 : s₁.heap = h0 := by rw [← hh, Bd.state]; rfl
  have N0 := Fr.nil n0
  refine own_fw (A := s₁.setTop (mkF m 0 #[.val (.ref r0), .val (.ref r1), .unset] [])) (fun t k => castTop (ef20 m r0 r1) k) ?_
  refine own_fw (A := s₁.setTop (mkF m 1 #[.val (.ref r0), .val (.ref r1), .unset] [(.ref r0)])) (fun t k => ?_) ?_
  · show Steps p.tables e below (s₁.setTop (mkF m 0 #[.val (.ref r0), .val (.ref r1), .unset] [])) t
    refine XS.aloadN X0.here hx rfl (hb hby d20_0) rfl rfl ?_
    exact k
  obtain ⟨cl20_1, Ar20_1, q20_1, S20_1, Ng20_1, Hs20_1, G20_1⟩ := id V_0
  have st20_1 := X0.arraylength hx (by rw [e0]; exact Ar20_1.1) (State.isArrayOf_alike hZ.alike Ar20_1.2.1) (g := (mkF m 1 #[.val (.ref r0), .val (.ref r1), .unset] [(.ref r0)])) rfl rfl (hb hby d20_1)
  rw [len_of S20_1 Ng20_1] at st20_1
  refine own_fw st20_1 ?_
  refine own_fw (A := s₁.setTop (mkF m 3 #[.val (.ref r0), .val (.ref r1), .unset] [(.ref r1), (.int (2 : Int32))])) (fun t k => ?_) ?_
  · show Steps p.tables e below (s₁.setTop (mkF m 2 #[.val (.ref r0), .val (.ref r1), .unset] [(.int (2 : Int32))])) t
    refine XS.aloadN X0.here hx rfl (hb hby d20_2) rfl rfl ?_
    exact k
  obtain ⟨cl20_2, Ar20_2, q20_2, S20_2, Ng20_2, Hs20_2, G20_2⟩ := id V_1
  have st20_2 := X0.arraylength hx (by rw [e0]; exact Ar20_2.1) (State.isArrayOf_alike hZ.alike Ar20_2.2.1) (g := (mkF m 3 #[.val (.ref r0), .val (.ref r1), .unset] [(.ref r1), (.int (2 : Int32))])) rfl rfl (hb hby d20_3)
  rw [len_of S20_2 Ng20_2] at st20_2
  refine own_fw st20_2 ?_
  refine own_fw (A := s₁.setTop (mkF m 35 #[.val (.ref r0), .val (.ref r1), .unset] [(.int (0 : Int32))])) (fun t k => ?_) ?_
  · show Steps p.tables e below (s₁.setTop (mkF m 4 #[.val (.ref r0), .val (.ref r1), .unset] [(.int (1 : Int32)), (.int (2 : Int32))])) t
    refine XS.icmpYes X0.here hx rfl (pc0 := 4) (pc' := 34) rfl (hb hby d20_4) rfl (feq (by decide : ¬ ((2 : Int32) = (1 : Int32)))).2 (by decide) (by decide) ?_
    show Steps p.tables e below (s₁.setTop (mkF m 34 #[.val (.ref r0), .val (.ref r1), .unset] [])) t
    refine XS.iconst X0.here hx rfl (hb hby d20_34) ?_
    exact k
  obtain ⟨fs, hr, hrun, hended, hW, hsame⟩ := X0.leave (v := some (.int (nar .boolean (0 : Int32)))) (own_ret Bd.returns) (BodyLoose.notSynchronized Bd)
  refine ⟨_, _, retN X0 hx (t := .boolean) Bd.returns (by simp) (hb hby d20_35) hr, hrun, hended, _, _, rfl, ?_, ⟨_, rfl⟩, hW, hsame.mono (by decide) (by decide)⟩
  have eh : (s₁.setFrames fs).heap = h0 := e0
  rw [eh]
  exact ⟨congrArg (fun z => some (Value.int z)) (by simp [f_eq, nar]), N0, rfl⟩
set_option maxRecDepth 65536 in
set_option maxHeartbeats 40000000 in
theorem rmLE_22 (l : Launch) (Z : State) (a0 : Array Value) (hw : ∀ d ∈ tables_1, d.before a0 Z = true) (ws : List Jvm.Cond) (r0 : Addr) (r1 : Addr) (k0 : ClassId) (k1 : ClassId) (x : Int32) (y : Int32) (u : Int32) (q : Int32) (h0 : Heap) (n0 : Nat) (Z0 : n0 ≤ h0.size) (V_0 : Arv Z h0 r0 k0 .byte (2 : Int32) [(.int x), (.int y)] (.int 0)) (V_1 : Arv Z h0 r1 k1 .byte (2 : Int32) [(.int u), (.int q)] (.int 0)) :
    MetFree l (⟨"java/lang/StringLatin1", "equals", "([B[B)Z"⟩ : MethodName) (head1 (Jvm.Cond.code (⟨"java/lang/StringLatin1", "equals", "([B[B)Z"⟩ : MethodName) jdk_43_method_13_code 3 (some .boolean) :: ws) ({ frames := 0, cells := 0, slots := 0, locals := 0 } : Room)) (fun a U => a = #[(.ref r0), (.ref r1)] ∧ Z.Warmed39 U.vm ∧ U.heap = h0) (fun _ _ _ _ _ => True) (fun _ U o U' => ∃ v L, o = .returned v ∧ Q20 Z (f_eq [x, y] [u, q]) h0 n0 v U'.heap L ∧ FrameEnd U o U' L ({ frames := 0, cells := 0, slots := 0, locals := 0 } : Room).cells ({ frames := 0, cells := 0, slots := 0, locals := 0 } : Room).slots) := by
  refine MetFree.of_bodySF (plainFor_of_name pn20) hisR ?_
  intro p e s m args below meth c s₁ Bd hml0 hP hK
  obtain ⟨rfl, hZ, hh⟩ := hP
  have hx := Bd.exec
  have hby := Bd.bytes
  have hml : c.maxLocals = 3 := hml0
  have hown : s.vm.findClass "java/lang/StringLatin1" = some m.cls := findClass_of_methodNamed Bd.named
  have hnm := (name_of_methodNamed Bd.named Bd.method).1
  have X0 : Stand p l e ({ frames := 0, cells := 0, slots := 0, locals := 0 } : Room) s m #[(.ref r0), (.ref r1)] below meth c s₁ [] 0 0 := Stand.of_body Bd
  have e0 : s₁.heap = h0 := by rw [← hh, Bd.state]; rfl
  have N0 := Fr.nil n0
  refine own_fw (A := s₁.setTop (mkF m 0 #[.val (.ref r0), .val (.ref r1), .unset] [])) (fun t k => castTop (ef20 m r0 r1) k) ?_
  refine own_fw (A := s₁.setTop (mkF m 1 #[.val (.ref r0), .val (.ref r1), .unset] [(.ref r0)])) (fun t k => ?_) ?_
  · show Steps p.tables e below (s₁.setTop (mkF m 0 #[.val (.ref r0), .val (.ref r1), .unset] [])) t
    refine XS.aloadN X0.here hx rfl (hb hby d20_0) rfl rfl ?_
    exact k
  obtain ⟨cl20_1, Ar20_1, q20_1, S20_1, Ng20_1, Hs20_1, G20_1⟩ := id V_0
  have st20_1 := X0.arraylength hx (by rw [e0]; exact Ar20_1.1) (State.isArrayOf_alike hZ.alike Ar20_1.2.1) (g := (mkF m 1 #[.val (.ref r0), .val (.ref r1), .unset] [(.ref r0)])) rfl rfl (hb hby d20_1)
  rw [len_of S20_1 Ng20_1] at st20_1
  refine own_fw st20_1 ?_
  refine own_fw (A := s₁.setTop (mkF m 3 #[.val (.ref r0), .val (.ref r1), .unset] [(.ref r1), (.int (2 : Int32))])) (fun t k => ?_) ?_
  · show Steps p.tables e below (s₁.setTop (mkF m 2 #[.val (.ref r0), .val (.ref r1), .unset] [(.int (2 : Int32))])) t
    refine XS.aloadN X0.here hx rfl (hb hby d20_2) rfl rfl ?_
    exact k
  obtain ⟨cl20_2, Ar20_2, q20_2, S20_2, Ng20_2, Hs20_2, G20_2⟩ := id V_1
  have st20_2 := X0.arraylength hx (by rw [e0]; exact Ar20_2.1) (State.isArrayOf_alike hZ.alike Ar20_2.2.1) (g := (mkF m 3 #[.val (.ref r0), .val (.ref r1), .unset] [(.ref r1), (.int (2 : Int32))])) rfl rfl (hb hby d20_3)
  rw [len_of S20_2 Ng20_2] at st20_2
  refine own_fw st20_2 ?_
  refine own_fw (A := s₁.setTop (mkF m 11 #[.val (.ref r0), .val (.ref r1), .val (.int (0 : Int32))] [(.ref r0), (.int (0 : Int32))])) (fun t k => ?_) ?_
  · show Steps p.tables e below (s₁.setTop (mkF m 4 #[.val (.ref r0), .val (.ref r1), .unset] [(.int (2 : Int32)), (.int (2 : Int32))])) t
    refine XS.icmpNo X0.here hx rfl (hb hby d20_4) rfl (teq (rfl : (2 : Int32) = (2 : Int32))).2 ?_
    show Steps p.tables e below (s₁.setTop (mkF m 7 #[.val (.ref r0), .val (.ref r1), .unset] [])) t
    refine XS.iconst X0.here hx rfl (hb hby d20_7) ?_
    show Steps p.tables e below (s₁.setTop (mkF m 8 #[.val (.ref r0), .val (.ref r1), .unset] [(.int (0 : Int32))])) t
    refine XS.istoreN X0.here hx rfl (hb hby d20_8) rfl (l' := #[.val (.ref r0), .val (.ref r1), .val (.int (0 : Int32))]) rfl ?_
    show Steps p.tables e below (s₁.setTop (mkF m 9 #[.val (.ref r0), .val (.ref r1), .val (.int (0 : Int32))] [])) t
    refine XS.iloadN X0.here hx rfl (hb hby d20_9) rfl ?_
    show Steps p.tables e below (s₁.setTop (mkF m 10 #[.val (.ref r0), .val (.ref r1), .val (.int (0 : Int32))] [(.int (0 : Int32))])) t
    refine XS.aloadN X0.here hx rfl (hb hby d20_10) rfl rfl ?_
    exact k
  obtain ⟨cl20_3, Ar20_3, q20_3, S20_3, Ng20_3, Hs20_3, G20_3⟩ := id V_0
  have st20_3 := X0.arraylength hx (by rw [e0]; exact Ar20_3.1) (State.isArrayOf_alike hZ.alike Ar20_3.2.1) (g := (mkF m 11 #[.val (.ref r0), .val (.ref r1), .val (.int (0 : Int32))] [(.ref r0), (.int (0 : Int32))])) rfl rfl (hb hby d20_11)
  rw [len_of S20_3 Ng20_3] at st20_3
  refine own_fw st20_3 ?_
  refine own_fw (A := s₁.setTop (mkF m 17 #[.val (.ref r0), .val (.ref r1), .val (.int (0 : Int32))] [(.int (0 : Int32)), (.ref r0)])) (fun t k => ?_) ?_
  · show Steps p.tables e below (s₁.setTop (mkF m 12 #[.val (.ref r0), .val (.ref r1), .val (.int (0 : Int32))] [(.int (2 : Int32)), (.int (0 : Int32))])) t
    refine XS.icmpNo X0.here hx rfl (hb hby d20_12) rfl (tlt (by decide : ((0 : Int32) < (2 : Int32)))).2.1 ?_
    show Steps p.tables e below (s₁.setTop (mkF m 15 #[.val (.ref r0), .val (.ref r1), .val (.int (0 : Int32))] [])) t
    refine XS.aloadN X0.here hx rfl (hb hby d20_15) rfl rfl ?_
    show Steps p.tables e below (s₁.setTop (mkF m 16 #[.val (.ref r0), .val (.ref r1), .val (.int (0 : Int32))] [(.ref r0)])) t
    refine XS.iloadN X0.here hx rfl (hb hby d20_16) rfl ?_
    exact k
  obtain ⟨cl20_4, Ar20_4, q20_4, S20_4, Ng20_4, Hs20_4, G20_4⟩ := id V_0
  have hin20_4 : ¬ ((0 : Int32) < 0 ∨ cl20_4.slots.size ≤ ((0 : Int32)).toNatClampNeg) := inb_of S20_4 ⟨by decide, by decide⟩
  refine own_fw (X0.baloadBytes hx (j := (0 : Int32)) (v := (.int x)) (by rw [e0]; exact Ar20_4.1) (State.isArrayOf_alike hZ.alike Ar20_4.2.1) Ar20_4.2.2 hin20_4 (Has.at Hs20_4 hin20_4 rfl) (g := (mkF m 17 #[.val (.ref r0), .val (.ref r1), .val (.int (0 : Int32))] [(.int (0 : Int32)), (.ref r0)])) rfl rfl (hb hby d20_17)) ?_
  refine own_fw (A := s₁.setTop (mkF m 20 #[.val (.ref r0), .val (.ref r1), .val (.int (0 : Int32))] [(.int (0 : Int32)), (.ref r1), (.int x)])) (fun t k => ?_) ?_
  · show Steps p.tables e below (s₁.setTop (mkF m 18 #[.val (.ref r0), .val (.ref r1), .val (.int (0 : Int32))] [(.int x)])) t
    refine XS.aloadN X0.here hx rfl (hb hby d20_18) rfl rfl ?_
    show Steps p.tables e below (s₁.setTop (mkF m 19 #[.val (.ref r0), .val (.ref r1), .val (.int (0 : Int32))] [(.ref r1), (.int x)])) t
    refine XS.iloadN X0.here hx rfl (hb hby d20_19) rfl ?_
    exact k
  obtain ⟨cl20_5, Ar20_5, q20_5, S20_5, Ng20_5, Hs20_5, G20_5⟩ := id V_1
  have hin20_5 : ¬ ((0 : Int32) < 0 ∨ cl20_5.slots.size ≤ ((0 : Int32)).toNatClampNeg) := inb_of S20_5 ⟨by decide, by decide⟩
  refine own_fw (X0.baloadBytes hx (j := (0 : Int32)) (v := (.int u)) (by rw [e0]; exact Ar20_5.1) (State.isArrayOf_alike hZ.alike Ar20_5.2.1) Ar20_5.2.2 hin20_5 (Has.at Hs20_5 hin20_5 rfl) (g := (mkF m 20 #[.val (.ref r0), .val (.ref r1), .val (.int (0 : Int32))] [(.int (0 : Int32)), (.ref r1), (.int x)])) rfl rfl (hb hby d20_20)) ?_
  by_cases hc20_1 : x = u
  · refine own_fw (A := s₁.setTop (mkF m 26 #[.val (.ref r0), .val (.ref r1), .val (.int (0 : Int32))] [])) (fun t k => ?_) ?_
    · show Steps p.tables e below (s₁.setTop (mkF m 21 #[.val (.ref r0), .val (.ref r1), .val (.int (0 : Int32))] [(.int u), (.int x)])) t
      refine XS.icmpYes X0.here hx rfl (pc0 := 21) (pc' := 26) rfl (hb hby d20_21) rfl (teq hc20_1).1 (by decide) (by decide) ?_
      exact k
    refine own_fw (A := s₁.setTop (mkF m 11 #[.val (.ref r0), .val (.ref r1), .val (.int (1 : Int32))] [(.ref r0), (.int (1 : Int32))])) (fun t k => ?_) ?_
    · show Steps p.tables e below (s₁.setTop (mkF m 26 #[.val (.ref r0), .val (.ref r1), .val (.int (0 : Int32))] [])) t
      refine XS.iinc X0.here hx rfl (hb hby d20_26) rfl (l' := #[.val (.ref r0), .val (.ref r1), .val (.int (1 : Int32))]) rfl ?_
      show Steps p.tables e below (s₁.setTop (mkF m 29 #[.val (.ref r0), .val (.ref r1), .val (.int (1 : Int32))] [])) t
      refine XS.goto X0.here hx rfl (pc0 := 29) (pc' := 9) rfl (hb hby d20_29) (by decide) (by decide) ?_
      show Steps p.tables e below (s₁.setTop (mkF m 9 #[.val (.ref r0), .val (.ref r1), .val (.int (1 : Int32))] [])) t
      refine XS.iloadN X0.here hx rfl (hb hby d20_9) rfl ?_
      show Steps p.tables e below (s₁.setTop (mkF m 10 #[.val (.ref r0), .val (.ref r1), .val (.int (1 : Int32))] [(.int (1 : Int32))])) t
      refine XS.aloadN X0.here hx rfl (hb hby d20_10) rfl rfl ?_
      exact k
    obtain ⟨cl20_6, Ar20_6, q20_6, S20_6, Ng20_6, Hs20_6, G20_6⟩ := id V_0
    have st20_6 := X0.arraylength hx (by rw [e0]; exact Ar20_6.1) (State.isArrayOf_alike hZ.alike Ar20_6.2.1) (g := (mkF m 11 #[.val (.ref r0), .val (.ref r1), .val (.int (1 : Int32))] [(.ref r0), (.int (1 : Int32))])) rfl rfl (hb hby d20_11)
    rw [len_of S20_6 Ng20_6] at st20_6
    refine own_fw st20_6 ?_
    refine own_fw (A := s₁.setTop (mkF m 17 #[.val (.ref r0), .val (.ref r1), .val (.int (1 : Int32))] [(.int (1 : Int32)), (.ref r0)])) (fun t k => ?_) ?_
    · show Steps p.tables e below (s₁.setTop (mkF m 12 #[.val (.ref r0), .val (.ref r1), .val (.int (1 : Int32))] [(.int (2 : Int32)), (.int (1 : Int32))])) t
      refine XS.icmpNo X0.here hx rfl (hb hby d20_12) rfl (tlt (by decide : ((1 : Int32) < (2 : Int32)))).2.1 ?_
      show Steps p.tables e below (s₁.setTop (mkF m 15 #[.val (.ref r0), .val (.ref r1), .val (.int (1 : Int32))] [])) t
      refine XS.aloadN X0.here hx rfl (hb hby d20_15) rfl rfl ?_
      show Steps p.tables e below (s₁.setTop (mkF m 16 #[.val (.ref r0), .val (.ref r1), .val (.int (1 : Int32))] [(.ref r0)])) t
      refine XS.iloadN X0.here hx rfl (hb hby d20_16) rfl ?_
      exact k
    obtain ⟨cl20_7, Ar20_7, q20_7, S20_7, Ng20_7, Hs20_7, G20_7⟩ := id V_0
    have hin20_7 : ¬ ((1 : Int32) < 0 ∨ cl20_7.slots.size ≤ ((1 : Int32)).toNatClampNeg) := inb_of S20_7 ⟨by decide, by decide⟩
    refine own_fw (X0.baloadBytes hx (j := (1 : Int32)) (v := (.int y)) (by rw [e0]; exact Ar20_7.1) (State.isArrayOf_alike hZ.alike Ar20_7.2.1) Ar20_7.2.2 hin20_7 (Has.at Hs20_7 hin20_7 rfl) (g := (mkF m 17 #[.val (.ref r0), .val (.ref r1), .val (.int (1 : Int32))] [(.int (1 : Int32)), (.ref r0)])) rfl rfl (hb hby d20_17)) ?_
    refine own_fw (A := s₁.setTop (mkF m 20 #[.val (.ref r0), .val (.ref r1), .val (.int (1 : Int32))] [(.int (1 : Int32)), (.ref r1), (.int y)])) (fun t k => ?_) ?_
    · show Steps p.tables e below (s₁.setTop (mkF m 18 #[.val (.ref r0), .val (.ref r1), .val (.int (1 : Int32))] [(.int y)])) t
      refine XS.aloadN X0.here hx rfl (hb hby d20_18) rfl rfl ?_
      show Steps p.tables e below (s₁.setTop (mkF m 19 #[.val (.ref r0), .val (.ref r1), .val (.int (1 : Int32))] [(.ref r1), (.int y)])) t
      refine XS.iloadN X0.here hx rfl (hb hby d20_19) rfl ?_
      exact k
    obtain ⟨cl20_8, Ar20_8, q20_8, S20_8, Ng20_8, Hs20_8, G20_8⟩ := id V_1
    have hin20_8 : ¬ ((1 : Int32) < 0 ∨ cl20_8.slots.size ≤ ((1 : Int32)).toNatClampNeg) := inb_of S20_8 ⟨by decide, by decide⟩
    refine own_fw (X0.baloadBytes hx (j := (1 : Int32)) (v := (.int q)) (by rw [e0]; exact Ar20_8.1) (State.isArrayOf_alike hZ.alike Ar20_8.2.1) Ar20_8.2.2 hin20_8 (Has.at Hs20_8 hin20_8 rfl) (g := (mkF m 20 #[.val (.ref r0), .val (.ref r1), .val (.int (1 : Int32))] [(.int (1 : Int32)), (.ref r1), (.int y)])) rfl rfl (hb hby d20_20)) ?_
    by_cases hc20_2 : y = q
    · refine own_fw (A := s₁.setTop (mkF m 26 #[.val (.ref r0), .val (.ref r1), .val (.int (1 : Int32))] [])) (fun t k => ?_) ?_
      · show Steps p.tables e below (s₁.setTop (mkF m 21 #[.val (.ref r0), .val (.ref r1), .val (.int (1 : Int32))] [(.int q), (.int y)])) t
        refine XS.icmpYes X0.here hx rfl (pc0 := 21) (pc' := 26) rfl (hb hby d20_21) rfl (teq hc20_2).1 (by decide) (by decide) ?_
        exact k
      refine own_fw (A := s₁.setTop (mkF m 11 #[.val (.ref r0), .val (.ref r1), .val (.int (2 : Int32))] [(.ref r0), (.int (2 : Int32))])) (fun t k => ?_) ?_
      · show Steps p.tables e below (s₁.setTop (mkF m 26 #[.val (.ref r0), .val (.ref r1), .val (.int (1 : Int32))] [])) t
        refine XS.iinc X0.here hx rfl (hb hby d20_26) rfl (l' := #[.val (.ref r0), .val (.ref r1), .val (.int (2 : Int32))]) rfl ?_
        show Steps p.tables e below (s₁.setTop (mkF m 29 #[.val (.ref r0), .val (.ref r1), .val (.int (2 : Int32))] [])) t
        refine XS.goto X0.here hx rfl (pc0 := 29) (pc' := 9) rfl (hb hby d20_29) (by decide) (by decide) ?_
        show Steps p.tables e below (s₁.setTop (mkF m 9 #[.val (.ref r0), .val (.ref r1), .val (.int (2 : Int32))] [])) t
        refine XS.iloadN X0.here hx rfl (hb hby d20_9) rfl ?_
        show Steps p.tables e below (s₁.setTop (mkF m 10 #[.val (.ref r0), .val (.ref r1), .val (.int (2 : Int32))] [(.int (2 : Int32))])) t
        refine XS.aloadN X0.here hx rfl (hb hby d20_10) rfl rfl ?_
        exact k
      obtain ⟨cl20_9, Ar20_9, q20_9, S20_9, Ng20_9, Hs20_9, G20_9⟩ := id V_0
      have st20_9 := X0.arraylength hx (by rw [e0]; exact Ar20_9.1) (State.isArrayOf_alike hZ.alike Ar20_9.2.1) (g := (mkF m 11 #[.val (.ref r0), .val (.ref r1), .val (.int (2 : Int32))] [(.ref r0), (.int (2 : Int32))])) rfl rfl (hb hby d20_11)
      rw [len_of S20_9 Ng20_9] at st20_9
      refine own_fw st20_9 ?_
      refine own_fw (A := s₁.setTop (mkF m 33 #[.val (.ref r0), .val (.ref r1), .val (.int (2 : Int32))] [(.int (1 : Int32))])) (fun t k => ?_) ?_
      · show Steps p.tables e below (s₁.setTop (mkF m 12 #[.val (.ref r0), .val (.ref r1), .val (.int (2 : Int32))] [(.int (2 : Int32)), (.int (2 : Int32))])) t
        refine XS.icmpYes X0.here hx rfl (pc0 := 12) (pc' := 32) rfl (hb hby d20_12) rfl (flt (Int32.lt_irrefl : ¬ ((2 : Int32) < (2 : Int32)))).2.1 (by decide) (by decide) ?_
        show Steps p.tables e below (s₁.setTop (mkF m 32 #[.val (.ref r0), .val (.ref r1), .val (.int (2 : Int32))] [])) t
        refine XS.iconst X0.here hx rfl (hb hby d20_32) ?_
        exact k
      obtain ⟨fs, hr, hrun, hended, hW, hsame⟩ := X0.leave (v := some (.int (nar .boolean (1 : Int32)))) (own_ret Bd.returns) (BodyLoose.notSynchronized Bd)
      refine ⟨_, _, retN X0 hx (t := .boolean) Bd.returns (by simp) (hb hby d20_33) hr, hrun, hended, _, _, rfl, ?_, ⟨_, rfl⟩, hW, hsame.mono (by decide) (by decide)⟩
      have eh : (s₁.setFrames fs).heap = h0 := e0
      rw [eh]
      exact ⟨congrArg (fun z => some (Value.int z)) (by simp [f_eq, nar, hc20_1, hc20_2]), N0, rfl⟩
    · refine own_fw (A := s₁.setTop (mkF m 24 #[.val (.ref r0), .val (.ref r1), .val (.int (1 : Int32))] [])) (fun t k => ?_) ?_
      · show Steps p.tables e below (s₁.setTop (mkF m 21 #[.val (.ref r0), .val (.ref r1), .val (.int (1 : Int32))] [(.int q), (.int y)])) t
        refine XS.icmpNo X0.here hx rfl (hb hby d20_21) rfl (feq hc20_2).1 ?_
        exact k
      refine own_fw (A := s₁.setTop (mkF m 25 #[.val (.ref r0), .val (.ref r1), .val (.int (1 : Int32))] [(.int (0 : Int32))])) (fun t k => ?_) ?_
      · show Steps p.tables e below (s₁.setTop (mkF m 24 #[.val (.ref r0), .val (.ref r1), .val (.int (1 : Int32))] [])) t
        refine XS.iconst X0.here hx rfl (hb hby d20_24) ?_
        exact k
      obtain ⟨fs, hr, hrun, hended, hW, hsame⟩ := X0.leave (v := some (.int (nar .boolean (0 : Int32)))) (own_ret Bd.returns) (BodyLoose.notSynchronized Bd)
      refine ⟨_, _, retN X0 hx (t := .boolean) Bd.returns (by simp) (hb hby d20_25) hr, hrun, hended, _, _, rfl, ?_, ⟨_, rfl⟩, hW, hsame.mono (by decide) (by decide)⟩
      have eh : (s₁.setFrames fs).heap = h0 := e0
      rw [eh]
      exact ⟨congrArg (fun z => some (Value.int z)) (by simp [f_eq, nar, hc20_1, hc20_2]), N0, rfl⟩
  · refine own_fw (A := s₁.setTop (mkF m 24 #[.val (.ref r0), .val (.ref r1), .val (.int (0 : Int32))] [])) (fun t k => ?_) ?_
    · show Steps p.tables e below (s₁.setTop (mkF m 21 #[.val (.ref r0), .val (.ref r1), .val (.int (0 : Int32))] [(.int u), (.int x)])) t
      refine XS.icmpNo X0.here hx rfl (hb hby d20_21) rfl (feq hc20_1).1 ?_
      exact k
    refine own_fw (A := s₁.setTop (mkF m 25 #[.val (.ref r0), .val (.ref r1), .val (.int (0 : Int32))] [(.int (0 : Int32))])) (fun t k => ?_) ?_
    · show Steps p.tables e below (s₁.setTop (mkF m 24 #[.val (.ref r0), .val (.ref r1), .val (.int (0 : Int32))] [])) t
      refine XS.iconst X0.here hx rfl (hb hby d20_24) ?_
      exact k
    obtain ⟨fs, hr, hrun, hended, hW, hsame⟩ := X0.leave (v := some (.int (nar .boolean (0 : Int32)))) (own_ret Bd.returns) (BodyLoose.notSynchronized Bd)
    refine ⟨_, _, retN X0 hx (t := .boolean) Bd.returns (by simp) (hb hby d20_25) hr, hrun, hended, _, _, rfl, ?_, ⟨_, rfl⟩, hW, hsame.mono (by decide) (by decide)⟩
    have eh : (s₁.setFrames fs).heap = h0 := e0
    rw [eh]
    exact ⟨congrArg (fun z => some (Value.int z)) (by simp [f_eq, nar, hc20_1]), N0, rfl⟩
theorem rmLE (l : Launch) (Z : State) (a0 : Array Value) (hw : ∀ d ∈ tables_1, d.before a0 Z = true) (ws : List Jvm.Cond) (r0 : Addr) (r1 : Addr) (k0 : ClassId) (k1 : ClassId) (ca : List Int32) (cb : List Int32) (h0 : Heap) (n0 : Nat) (Z0 : n0 ≤ h0.size) (V_0 : Arv Z h0 r0 k0 .byte (Int32.ofNat ca.length) (ca.map Value.int) (.int 0)) (V_1 : Arv Z h0 r1 k1 .byte (Int32.ofNat cb.length) (cb.map Value.int) (.int 0)) (la : ca.length ≤ 2) (lb : cb.length ≤ 2) :
    MetFree l (⟨"java/lang/StringLatin1", "equals", "([B[B)Z"⟩ : MethodName) (head1 (Jvm.Cond.code (⟨"java/lang/StringLatin1", "equals", "([B[B)Z"⟩ : MethodName) jdk_43_method_13_code 3 (some .boolean) :: ws) ({ frames := 0, cells := 0, slots := 0, locals := 0 } : Room)) (fun a U => a = #[(.ref r0), (.ref r1)] ∧ Z.Warmed39 U.vm ∧ U.heap = h0) (fun _ _ _ _ _ => True) (fun _ U o U' => ∃ v L, o = .returned v ∧ Q20 Z (f_eq ca cb) h0 n0 v U'.heap L ∧ FrameEnd U o U' L ({ frames := 0, cells := 0, slots := 0, locals := 0 } : Room).cells ({ frames := 0, cells := 0, slots := 0, locals := 0 } : Room).slots) := by
  match ca, cb, V_0, V_1, la, lb with
  | [], [], V, W, _, _ => exact rmLE_00 l Z a0 hw ws r0 r1 k0 k1  h0 n0 Z0 V W
  | [], [u], V, W, _, _ => exact rmLE_01 l Z a0 hw ws r0 r1 k0 k1 u h0 n0 Z0 V W
  | [], [u, q], V, W, _, _ => exact rmLE_02 l Z a0 hw ws r0 r1 k0 k1 u q h0 n0 Z0 V W
  | [x], [], V, W, _, _ => exact rmLE_10 l Z a0 hw ws r0 r1 k0 k1 x h0 n0 Z0 V W
  | [x], [u], V, W, _, _ => exact rmLE_11 l Z a0 hw ws r0 r1 k0 k1 x u h0 n0 Z0 V W
  | [x], [u, q], V, W, _, _ => exact rmLE_12 l Z a0 hw ws r0 r1 k0 k1 x u q h0 n0 Z0 V W
  | [x, y], [], V, W, _, _ => exact rmLE_20 l Z a0 hw ws r0 r1 k0 k1 x y h0 n0 Z0 V W
  | [x, y], [u], V, W, _, _ => exact rmLE_21 l Z a0 hw ws r0 r1 k0 k1 x y u h0 n0 Z0 V W
  | [x, y], [u, q], V, W, _, _ => exact rmLE_22 l Z a0 hw ws r0 r1 k0 k1 x y u q h0 n0 Z0 V W
  | _ :: _ :: _ :: _, _, _, _, hq, _ => exact absurd hq (by simp only [List.length_cons]; omega)
  | _, _ :: _ :: _ :: _, _, _, _, hq => exact absurd hq (by simp only [List.length_cons]; omega)
theorem d19_0 : decode jdk_42_method_66_code 0 = .ok (.aload_n 0, 1) := by decide +kernel
theorem d19_1 : decode jdk_42_method_66_code 1 = .ok (.aload_n 1, 1) := by decide +kernel
theorem d19_2 : decode jdk_42_method_66_code 2 = .ok (.if_acmp .ne 5, 3) := by decide +kernel
theorem d19_5 : decode jdk_42_method_66_code 5 = .ok (.iconst 1, 1) := by decide +kernel
theorem d19_6 : decode jdk_42_method_66_code 6 = .ok (.ireturn, 1) := by decide +kernel
theorem d19_7 : decode jdk_42_method_66_code 7 = .ok (.aload_n 1, 1) := by decide +kernel
theorem d19_8 : decode jdk_42_method_66_code 8 = .ok (.instanceof 10, 3) := by decide +kernel
theorem d19_11 : decode jdk_42_method_66_code 11 = .ok (.ifCond .eq 43, 3) := by decide +kernel
theorem d19_14 : decode jdk_42_method_66_code 14 = .ok (.aload_n 1, 1) := by decide +kernel
theorem d19_15 : decode jdk_42_method_66_code 15 = .ok (.checkcast 10, 3) := by decide +kernel
theorem d19_18 : decode jdk_42_method_66_code 18 = .ok (.astore_n 2, 1) := by decide +kernel
theorem d19_19 : decode jdk_42_method_66_code 19 = .ok (.getstatic 38, 3) := by decide +kernel
theorem d19_22 : decode jdk_42_method_66_code 22 = .ok (.ifCond .eq 14, 3) := by decide +kernel
theorem d19_25 : decode jdk_42_method_66_code 25 = .ok (.aload_n 0, 1) := by decide +kernel
theorem d19_26 : decode jdk_42_method_66_code 26 = .ok (.getfield 15, 3) := by decide +kernel
theorem d19_29 : decode jdk_42_method_66_code 29 = .ok (.aload_n 2, 1) := by decide +kernel
theorem d19_30 : decode jdk_42_method_66_code 30 = .ok (.getfield 15, 3) := by decide +kernel
theorem d19_33 : decode jdk_42_method_66_code 33 = .ok (.if_icmp .ne 21, 3) := by decide +kernel
theorem d19_36 : decode jdk_42_method_66_code 36 = .ok (.aload_n 0, 1) := by decide +kernel
theorem d19_37 : decode jdk_42_method_66_code 37 = .ok (.getfield 9, 3) := by decide +kernel
theorem d19_40 : decode jdk_42_method_66_code 40 = .ok (.aload_n 2, 1) := by decide +kernel
theorem d19_41 : decode jdk_42_method_66_code 41 = .ok (.getfield 9, 3) := by decide +kernel
theorem d19_44 : decode jdk_42_method_66_code 44 = .ok (.invokestatic 541, 3) := by decide +kernel
theorem d19_47 : decode jdk_42_method_66_code 47 = .ok (.ifCond .eq 7, 3) := by decide +kernel
theorem d19_50 : decode jdk_42_method_66_code 50 = .ok (.iconst 1, 1) := by decide +kernel
theorem d19_51 : decode jdk_42_method_66_code 51 = .ok (.goto 4, 3) := by decide +kernel
theorem d19_54 : decode jdk_42_method_66_code 54 = .ok (.iconst 0, 1) := by decide +kernel
theorem d19_55 : decode jdk_42_method_66_code 55 = .ok (.ireturn, 1) := by decide +kernel
theorem pn19 : plainName "java/lang/String" = true := by first | (simp [plainName, overriddenIn]; done) | decide +kernel
theorem pd19_0 : parseMethodDescriptor "([B[B)Z" = some ⟨[(.array .byte), (.array .byte)], some .boolean⟩ := by decide +kernel
theorem ef19 (m : MethodId) (r0 : Addr) (r1 : Addr) : entryFrame m #[(.ref r0), (.ref r1)] 3 = mkF m 0 #[.val (.ref r0), .val (.ref r1), .unset] [] := by first | (simp [entryFrame, mkF, argsToLocals, Value.category]; done) | rfl
def Q19 (Z : State) (z : Int32) (h0 : Heap) (n0 : Nat) (w : Option Value) (h : Heap) (L : List Loc) : Prop := w = some (.int z) ∧ Fr n0 L ∧ h = h0
theorem own_eq01 (a b : List Int32) : f_eq a b = 0 ∨ f_eq a b = 1 := by
  rw [f_eq]; split
  · exact Or.inr rfl
  · exact Or.inl rfl
set_option maxRecDepth 65536 in
set_option maxHeartbeats 40000000 in
theorem rmSE_s (l : Launch) (Z : State) (a0 : Array Value) (hw : ∀ d ∈ tables_1, d.before a0 Z = true) (ws : List Jvm.Cond) (r0 : Addr) (h0 : Heap) (n0 : Nat) (Z0 : n0 ≤ h0.size) :
    MetFree l (⟨"java/lang/String", "equals", "(Ljava/lang/Object;)Z"⟩ : MethodName) (head1 (Jvm.Cond.code (⟨"java/lang/String", "equals", "(Ljava/lang/Object;)Z"⟩ : MethodName) jdk_42_method_66_code 3 (some .boolean) :: ws) ({ frames := 1, cells := 0, slots := 0, locals := 30 } : Room)) (fun a U => a = #[(.ref r0), (.ref r0)] ∧ Z.Warmed39 U.vm ∧ U.heap = h0) (fun _ _ _ _ _ => True) (fun _ U o U' => ∃ v L, o = .returned v ∧ Q19 Z (1 : Int32) h0 n0 v U'.heap L ∧ FrameEnd U o U' L ({ frames := 1, cells := 0, slots := 0, locals := 30 } : Room).cells ({ frames := 1, cells := 0, slots := 0, locals := 30 } : Room).slots) := by
  refine MetFree.of_bodySF (plainFor_of_name pn19) hisR ?_
  intro p e s m args below meth c s₁ Bd hml0 hP hK
  obtain ⟨rfl, hZ, hh⟩ := hP
  have hx := Bd.exec
  have hby := Bd.bytes
  have hml : c.maxLocals = 3 := hml0
  have hown : s.vm.findClass "java/lang/String" = some m.cls := findClass_of_methodNamed Bd.named
  have hnm := (name_of_methodNamed Bd.named Bd.method).1
  have X0 : Stand p l e ({ frames := 1, cells := 0, slots := 0, locals := 30 } : Room) s m #[(.ref r0), (.ref r0)] below meth c s₁ [] 0 0 := Stand.of_body Bd
  have e0 : s₁.heap = h0 := by rw [← hh, Bd.state]; rfl
  have N0 := Fr.nil n0
  refine own_fw (A := s₁.setTop (mkF m 0 #[.val (.ref r0), .val (.ref r0), .unset] [])) (fun t k => castTop (ef19 m r0 r0) k) ?_
  refine own_fw (A := s₁.setTop (mkF m 2 #[.val (.ref r0), .val (.ref r0), .unset] [(.ref r0), (.ref r0)])) (fun t k => ?_) ?_
  · show Steps p.tables e below (s₁.setTop (mkF m 0 #[.val (.ref r0), .val (.ref r0), .unset] [])) t
    refine XS.aloadN X0.here hx rfl (hb hby d19_0) rfl rfl ?_
    show Steps p.tables e below (s₁.setTop (mkF m 1 #[.val (.ref r0), .val (.ref r0), .unset] [(.ref r0)])) t
    refine XS.aloadN X0.here hx rfl (hb hby d19_1) rfl rfl ?_
    exact k
  refine own_fw (A := s₁.setTop (mkF m 5 #[.val (.ref r0), .val (.ref r0), .unset] [])) (fun t k => ?_) ?_
  · refine Jvm.RoadKit.acmp (g := (mkF m 2 #[.val (.ref r0), .val (.ref r0), .unset] [(.ref r0), (.ref r0)])) X0 hx rfl rfl rfl (pc0 := 2) (pc' := 5) (same := true) rfl (hb hby d19_2) rfl (decide_eq_true rfl) (by decide) (by decide) ?_
    exact k
  refine own_fw (A := s₁.setTop (mkF m 6 #[.val (.ref r0), .val (.ref r0), .unset] [(.int (1 : Int32))])) (fun t k => ?_) ?_
  · show Steps p.tables e below (s₁.setTop (mkF m 5 #[.val (.ref r0), .val (.ref r0), .unset] [])) t
    refine XS.iconst X0.here hx rfl (hb hby d19_5) ?_
    exact k
  obtain ⟨fs, hr, hrun, hended, hW, hsame⟩ := X0.leave (v := some (.int (nar .boolean (1 : Int32)))) (own_ret Bd.returns) (BodyLoose.notSynchronized Bd)
  refine ⟨_, _, retN X0 hx (t := .boolean) Bd.returns (by simp) (hb hby d19_6) hr, hrun, hended, _, _, rfl, ?_, ⟨_, rfl⟩, hW, hsame.mono (by decide) (by decide)⟩
  have eh : (s₁.setFrames fs).heap = h0 := e0
  rw [eh]
  exact ⟨rfl, N0, rfl⟩
set_option maxRecDepth 65536 in
set_option maxHeartbeats 40000000 in
theorem rmSE_d (l : Launch) (Z : State) (a0 : Array Value) (hw : ∀ d ∈ tables_1, d.before a0 Z = true) (ws : List Jvm.Cond) (r0 : Addr) (r1 : Addr) (va : Addr) (vb : Addr) (ka : ClassId) (kb : ClassId) (ca : List Int32) (cb : List Int32) (cc : Int32) (h0 : Heap) (n0 : Nat) (Z0 : n0 ≤ h0.size) (Ea : Exa Z h0 r0 "java/lang/String") (Sva : Fld Z h0 r0 "java/lang/String" "value" "[B" (.ref va)) (Sca : Fld Z h0 r0 "java/lang/String" "coder" "B" (.int 0)) (Va : Arv Z h0 va ka .byte (Int32.ofNat ca.length) (ca.map Value.int) (.int 0)) (Eb : Exa Z h0 r1 "java/lang/String") (Svb : Fld Z h0 r1 "java/lang/String" "value" "[B" (.ref vb)) (Scb : Fld Z h0 r1 "java/lang/String" "coder" "B" (.int 0)) (Vb : Arv Z h0 vb kb .byte (Int32.ofNat cb.length) (cb.map Value.int) (.int 0)) (la : ca.length ≤ 2) (lb : cb.length ≤ 2) (hne : r0 ≠ r1) (O_0 : Old Z n0 h0) (S_c : Sta Z Z.heap "java/lang/String" "COMPACT_STRINGS" "Z" (.int cc)) (hcc : ¬ cc = (0 : Int32)) :
    MetFree l (⟨"java/lang/String", "equals", "(Ljava/lang/Object;)Z"⟩ : MethodName) (head1 (Jvm.Cond.code (⟨"java/lang/String", "equals", "(Ljava/lang/Object;)Z"⟩ : MethodName) jdk_42_method_66_code 3 (some .boolean) :: ws) ({ frames := 1, cells := 0, slots := 0, locals := 30 } : Room)) (fun a U => a = #[(.ref r0), (.ref r1)] ∧ Z.Warmed39 U.vm ∧ U.heap = h0) (fun _ _ _ _ _ => True) (fun _ U o U' => ∃ v L, o = .returned v ∧ Q19 Z (f_eq ca cb) h0 n0 v U'.heap L ∧ FrameEnd U o U' L ({ frames := 1, cells := 0, slots := 0, locals := 30 } : Room).cells ({ frames := 1, cells := 0, slots := 0, locals := 30 } : Room).slots) := by
  refine MetFree.of_bodySF (plainFor_of_name pn19) hisR ?_
  intro p e s m args below meth c s₁ Bd hml0 hP hK
  obtain ⟨rfl, hZ, hh⟩ := hP
  have hx := Bd.exec
  have hby := Bd.bytes
  have hml : c.maxLocals = 3 := hml0
  have hown : s.vm.findClass "java/lang/String" = some m.cls := findClass_of_methodNamed Bd.named
  have hnm := (name_of_methodNamed Bd.named Bd.method).1
  have X0 : Stand p l e ({ frames := 1, cells := 0, slots := 0, locals := 30 } : Room) s m #[(.ref r0), (.ref r1)] below meth c s₁ [] 0 0 := Stand.of_body Bd
  have e0 : s₁.heap = h0 := by rw [← hh, Bd.state]; rfl
  have N0 := Fr.nil n0
  refine own_fw (A := s₁.setTop (mkF m 0 #[.val (.ref r0), .val (.ref r1), .unset] [])) (fun t k => castTop (ef19 m r0 r1) k) ?_
  refine own_fw (A := s₁.setTop (mkF m 2 #[.val (.ref r0), .val (.ref r1), .unset] [(.ref r1), (.ref r0)])) (fun t k => ?_) ?_
  · show Steps p.tables e below (s₁.setTop (mkF m 0 #[.val (.ref r0), .val (.ref r1), .unset] [])) t
    refine XS.aloadN X0.here hx rfl (hb hby d19_0) rfl rfl ?_
    show Steps p.tables e below (s₁.setTop (mkF m 1 #[.val (.ref r0), .val (.ref r1), .unset] [(.ref r0)])) t
    refine XS.aloadN X0.here hx rfl (hb hby d19_1) rfl rfl ?_
    exact k
  refine own_fw (A := s₁.setTop (mkF m 7 #[.val (.ref r0), .val (.ref r1), .unset] [])) (fun t k => ?_) ?_
  · refine Jvm.RoadKit.acmp (g := (mkF m 2 #[.val (.ref r0), .val (.ref r1), .unset] [(.ref r1), (.ref r0)])) X0 hx rfl rfl rfl (pc0 := 2) (pc' := 7) (same := false) rfl (hb hby d19_2) rfl (decide_eq_false (fun q => hne (Value.ref.inj q))) (by decide) (by decide) ?_
    exact k
  refine own_fw (A := s₁.setTop (mkF m 8 #[.val (.ref r0), .val (.ref r1), .unset] [(.ref r1)])) (fun t k => ?_) ?_
  · show Steps p.tables e below (s₁.setTop (mkF m 7 #[.val (.ref r0), .val (.ref r1), .unset] [])) t
    refine XS.aloadN X0.here hx rfl (hb hby d19_7) rfl rfl ?_
    exact k
  obtain ⟨T19_1, X19_1, e19_1, st19_1⟩ := instY X0 hx hZ hown (hw _ (List.mem_of_getElem? (i := 101) rfl)) e0 (Ins.self Eb) (g := (mkF m 8 #[.val (.ref r0), .val (.ref r1), .unset] [(.ref r1)])) rfl rfl (hb hby d19_8)
  refine own_fw st19_1 ?_
  refine own_fw (A := T19_1.setTop (mkF m 15 #[.val (.ref r0), .val (.ref r1), .unset] [(.ref r1)])) (fun t k => ?_) ?_
  · show Steps p.tables e below (T19_1.setTop (mkF m 11 #[.val (.ref r0), .val (.ref r1), .unset] [(.int (1 : Int32))])) t
    refine XS.ifNo X19_1.here hx rfl (hb hby d19_11) rfl ((if0 _ _).trans (feq (by decide : ¬ ((1 : Int32) = (0 : Int32)))).1) ?_
    show Steps p.tables e below (T19_1.setTop (mkF m 14 #[.val (.ref r0), .val (.ref r1), .unset] [])) t
    refine XS.aloadN X19_1.here hx rfl (hb hby d19_14) rfl rfl ?_
    exact k
  obtain ⟨T19_2, X19_2, e19_2, st19_2⟩ := castY X19_1 hx hZ hown (hw _ (List.mem_of_getElem? (i := 101) rfl)) e19_1 (Ins.self Eb) (g := (mkF m 15 #[.val (.ref r0), .val (.ref r1), .unset] [(.ref r1)])) rfl rfl (hb hby d19_15)
  refine own_fw st19_2 ?_
  refine own_fw (A := T19_2.setTop (mkF m 19 #[.val (.ref r0), .val (.ref r1), .val (.ref r1)] [])) (fun t k => ?_) ?_
  · show Steps p.tables e below (T19_2.setTop (mkF m 18 #[.val (.ref r0), .val (.ref r1), .unset] [(.ref r1)])) t
    refine XS.astoreN X19_2.here hx rfl (hb hby d19_18) rfl rfl (l' := #[.val (.ref r0), .val (.ref r1), .val (.ref r1)]) rfl ?_
    exact k
  obtain ⟨T19_3, X19_3, e19_3, st19_3⟩ := getS2 X19_2 hx hZ hown (host := "") (Or.inl (hw _ (List.mem_of_getElem? (i := 35) rfl))) Via.refl e19_2 (S_c.ext O_0.2) (g := (mkF m 19 #[.val (.ref r0), .val (.ref r1), .val (.ref r1)] [])) rfl (hb hby d19_19)
  refine own_fw st19_3 ?_
  refine own_fw (A := T19_3.setTop (mkF m 26 #[.val (.ref r0), .val (.ref r1), .val (.ref r1)] [(.ref r0)])) (fun t k => ?_) ?_
  · show Steps p.tables e below (T19_3.setTop (mkF m 22 #[.val (.ref r0), .val (.ref r1), .val (.ref r1)] [(.int cc)])) t
    refine XS.ifNo X19_3.here hx rfl (hb hby d19_22) rfl ((if0 _ _).trans (feq hcc).1) ?_
    show Steps p.tables e below (T19_3.setTop (mkF m 25 #[.val (.ref r0), .val (.ref r1), .val (.ref r1)] [])) t
    refine XS.aloadN X19_3.here hx rfl (hb hby d19_25) rfl rfl ?_
    exact k
  obtain ⟨T19_4, X19_4, e19_4, st19_4⟩ := getF X19_3 hx hZ hown (host := "") (Or.inl (hw _ (List.mem_of_getElem? (i := 28) rfl))) Via.refl e19_3 Sca (g := (mkF m 26 #[.val (.ref r0), .val (.ref r1), .val (.ref r1)] [(.ref r0)])) rfl rfl (hb hby d19_26)
  refine own_fw st19_4 ?_
  refine own_fw (A := T19_4.setTop (mkF m 30 #[.val (.ref r0), .val (.ref r1), .val (.ref r1)] [(.ref r1), (.int (0 : Int32))])) (fun t k => ?_) ?_
  · show Steps p.tables e below (T19_4.setTop (mkF m 29 #[.val (.ref r0), .val (.ref r1), .val (.ref r1)] [(.int (0 : Int32))])) t
    refine XS.aloadN X19_4.here hx rfl (hb hby d19_29) rfl rfl ?_
    exact k
  obtain ⟨T19_5, X19_5, e19_5, st19_5⟩ := getF X19_4 hx hZ hown (host := "") (Or.inl (hw _ (List.mem_of_getElem? (i := 28) rfl))) Via.refl e19_4 Scb (g := (mkF m 30 #[.val (.ref r0), .val (.ref r1), .val (.ref r1)] [(.ref r1), (.int (0 : Int32))])) rfl rfl (hb hby d19_30)
  refine own_fw st19_5 ?_
  refine own_fw (A := T19_5.setTop (mkF m 37 #[.val (.ref r0), .val (.ref r1), .val (.ref r1)] [(.ref r0)])) (fun t k => ?_) ?_
  · show Steps p.tables e below (T19_5.setTop (mkF m 33 #[.val (.ref r0), .val (.ref r1), .val (.ref r1)] [(.int (0 : Int32)), (.int (0 : Int32))])) t
    refine XS.icmpNo X19_5.here hx rfl (hb hby d19_33) rfl (teq (rfl : (0 : Int32) = (0 : Int32))).2 ?_
    show Steps p.tables e below (T19_5.setTop (mkF m 36 #[.val (.ref r0), .val (.ref r1), .val (.ref r1)] [])) t
    refine XS.aloadN X19_5.here hx rfl (hb hby d19_36) rfl rfl ?_
    exact k
  obtain ⟨T19_6, X19_6, e19_6, st19_6⟩ := getF X19_5 hx hZ hown (host := "") (Or.inl (hw _ (List.mem_of_getElem? (i := 27) rfl))) Via.refl e19_5 Sva (g := (mkF m 37 #[.val (.ref r0), .val (.ref r1), .val (.ref r1)] [(.ref r0)])) rfl rfl (hb hby d19_37)
  refine own_fw st19_6 ?_
  refine own_fw (A := T19_6.setTop (mkF m 41 #[.val (.ref r0), .val (.ref r1), .val (.ref r1)] [(.ref r1), (.ref va)])) (fun t k => ?_) ?_
  · show Steps p.tables e below (T19_6.setTop (mkF m 40 #[.val (.ref r0), .val (.ref r1), .val (.ref r1)] [(.ref va)])) t
    refine XS.aloadN X19_6.here hx rfl (hb hby d19_40) rfl rfl ?_
    exact k
  obtain ⟨T19_7, X19_7, e19_7, st19_7⟩ := getF X19_6 hx hZ hown (host := "") (Or.inl (hw _ (List.mem_of_getElem? (i := 27) rfl))) Via.refl e19_6 Svb (g := (mkF m 41 #[.val (.ref r0), .val (.ref r1), .val (.ref r1)] [(.ref r1), (.ref va)])) rfl rfl (hb hby d19_41)
  refine own_fw st19_7 ?_
  obtain ⟨_, _, ⟨T19_8, L19_8, k19_8, n19_8⟩, -, X19_8, ⟨Lc19_8, hQ19_8, l19_8, y19_8, z19_8⟩, st19_8⟩ := Jvm.LawKit.callS X19_7 hx (y := (⟨"java/lang/StringLatin1", "equals", "([B[B)Z"⟩ : MethodName)) hown (mvT hZ (hw _ (List.mem_of_getElem? (i := 102) rfl))) (mvT hZ (hw _ (List.mem_of_getElem? (i := 103) rfl))) (mvT hZ (hw _ (List.mem_of_getElem? (i := 73) rfl))) (mvT hZ (hw _ (List.mem_of_getElem? (i := 104) rfl))) (by decide) (backOf (W := 0) (rmLE l Z a0 hw [] va vb ka kb ca cb h0 n0 Z0 Va Vb la lb) hZ (hw _ (List.mem_of_getElem? (i := 104) rfl)) (hw _ (List.mem_of_getElem? (i := 73) rfl)) (by decide) (by decide)) (g := (mkF m 44 #[.val (.ref r0), .val (.ref r1), .val (.ref r1)] [(.ref vb), (.ref va)])) rfl (by rw [hml]; rfl) (argsL := [(.ref va), (.ref vb)]) (rest := []) (lenOf pd19_0 rfl) rfl (by show 2 * 0 + _ ≤ _; exact Nat.le_of_eq rfl) (hb hby d19_44) (fun _ _ => ⟨rfl, e19_7, (by decide : 0 + 0 ≤ _), (by decide : 0 + 0 ≤ _)⟩)
  dsimp only [Pt.U, Pt.locs, Pt.cells, Pt.slots] at X19_8 l19_8 y19_8 z19_8 st19_8 hQ19_8
  subst l19_8 y19_8 z19_8
  obtain ⟨rfl, N19_8q, e19_8⟩ := hQ19_8
  have N19_8 := Fr.app N0 N19_8q
  refine own_fw st19_8 ?_
  by_cases hc19_1 : (f_eq ca cb) = (0 : Int32)
  · refine own_fw (A := T19_8.setTop (mkF m 54 #[.val (.ref r0), .val (.ref r1), .val (.ref r1)] [])) (fun t k => ?_) ?_
    · show Steps p.tables e below (T19_8.setTop (mkF m 47 #[.val (.ref r0), .val (.ref r1), .val (.ref r1)] [(.int (f_eq ca cb))])) t
      refine XS.ifYes X19_8.here hx rfl (pc0 := 47) (pc' := 54) rfl (hb hby d19_47) rfl ((if0 _ _).trans (teq hc19_1).1) (by decide) (by decide) ?_
      exact k
    refine own_fw (A := T19_8.setTop (mkF m 55 #[.val (.ref r0), .val (.ref r1), .val (.ref r1)] [(.int (0 : Int32))])) (fun t k => ?_) ?_
    · show Steps p.tables e below (T19_8.setTop (mkF m 54 #[.val (.ref r0), .val (.ref r1), .val (.ref r1)] [])) t
      refine XS.iconst X19_8.here hx rfl (hb hby d19_54) ?_
      exact k
    obtain ⟨fs, hr, hrun, hended, hW, hsame⟩ := X19_8.leave (v := some (.int (nar .boolean (0 : Int32)))) (own_ret Bd.returns) (BodyLoose.notSynchronized Bd)
    refine ⟨_, _, retN X19_8 hx (t := .boolean) Bd.returns (by simp) (hb hby d19_55) hr, hrun, hended, _, _, rfl, ?_, ⟨_, rfl⟩, hW, hsame.mono (by decide) (by decide)⟩
    have eh : (T19_8.setFrames fs).heap = h0 := e19_8
    rw [eh]
    exact ⟨by rw [hc19_1]; rfl, N19_8, rfl⟩
  · refine own_fw (A := T19_8.setTop (mkF m 50 #[.val (.ref r0), .val (.ref r1), .val (.ref r1)] [])) (fun t k => ?_) ?_
    · show Steps p.tables e below (T19_8.setTop (mkF m 47 #[.val (.ref r0), .val (.ref r1), .val (.ref r1)] [(.int (f_eq ca cb))])) t
      refine XS.ifNo X19_8.here hx rfl (hb hby d19_47) rfl ((if0 _ _).trans (feq hc19_1).1) ?_
      exact k
    refine own_fw (A := T19_8.setTop (mkF m 55 #[.val (.ref r0), .val (.ref r1), .val (.ref r1)] [(.int (1 : Int32))])) (fun t k => ?_) ?_
    · show Steps p.tables e below (T19_8.setTop (mkF m 50 #[.val (.ref r0), .val (.ref r1), .val (.ref r1)] [])) t
      refine XS.iconst X19_8.here hx rfl (hb hby d19_50) ?_
      show Steps p.tables e below (T19_8.setTop (mkF m 51 #[.val (.ref r0), .val (.ref r1), .val (.ref r1)] [(.int (1 : Int32))])) t
      refine XS.goto X19_8.here hx rfl (pc0 := 51) (pc' := 55) rfl (hb hby d19_51) (by decide) (by decide) ?_
      exact k
    obtain ⟨fs, hr, hrun, hended, hW, hsame⟩ := X19_8.leave (v := some (.int (nar .boolean (1 : Int32)))) (own_ret Bd.returns) (BodyLoose.notSynchronized Bd)
    refine ⟨_, _, retN X19_8 hx (t := .boolean) Bd.returns (by simp) (hb hby d19_55) hr, hrun, hended, _, _, rfl, ?_, ⟨_, rfl⟩, hW, hsame.mono (by decide) (by decide)⟩
    have eh : (T19_8.setFrames fs).heap = h0 := e19_8
    rw [eh]
    exact ⟨by rw [(own_eq01 ca cb).resolve_left hc19_1]; rfl, N19_8, rfl⟩
theorem d11_0 : decode prog_3_method_1_code 0 = .ok (.aload_n 0, 1) := by decide +kernel
theorem d11_1 : decode prog_3_method_1_code 1 = .ok (.invokespecial 1, 3) := by decide +kernel
theorem d11_4 : decode prog_3_method_1_code 4 = .ok (.aload_n 0, 1) := by decide +kernel
theorem d11_5 : decode prog_3_method_1_code 5 = .ok (.aload_n 1, 1) := by decide +kernel
theorem d11_6 : decode prog_3_method_1_code 6 = .ok (.putfield 7, 3) := by decide +kernel
theorem d11_9 : decode prog_3_method_1_code 9 = .ok (.aload_n 0, 1) := by decide +kernel
theorem d11_10 : decode prog_3_method_1_code 10 = .ok (.aload_n 2, 1) := by decide +kernel
theorem d11_11 : decode prog_3_method_1_code 11 = .ok (.putfield 13, 3) := by decide +kernel
theorem d11_14 : decode prog_3_method_1_code 14 = .ok (.aload_n 0, 1) := by decide +kernel
theorem d11_15 : decode prog_3_method_1_code 15 = .ok (.bipush 31, 2) := by decide +kernel
theorem d11_17 : decode prog_3_method_1_code 17 = .ok (.aload_n 1, 1) := by decide +kernel
theorem d11_18 : decode prog_3_method_1_code 18 = .ok (.invokevirtual 16, 3) := by decide +kernel
theorem d11_21 : decode prog_3_method_1_code 21 = .ok (.imul, 1) := by decide +kernel
theorem d11_22 : decode prog_3_method_1_code 22 = .ok (.aload_n 2, 1) := by decide +kernel
theorem d11_23 : decode prog_3_method_1_code 23 = .ok (.invokevirtual 16, 3) := by decide +kernel
theorem d11_26 : decode prog_3_method_1_code 26 = .ok (.iadd, 1) := by decide +kernel
theorem d11_27 : decode prog_3_method_1_code 27 = .ok (.putfield 22, 3) := by decide +kernel
theorem d11_30 : decode prog_3_method_1_code 30 = .ok (.return_, 1) := by decide +kernel
theorem pn11 : plainName "com/example/access_decision/accessdecision/AclRight" = true := by first | (simp [plainName, overriddenIn]; done) | decide +kernel
theorem pd11_0 : parseMethodDescriptor "()I" = some ⟨[], some .int⟩ := by decide +kernel
theorem ef11 (m : MethodId) (r0 : Addr) (r1 : Addr) (r2 : Addr) : entryFrame m #[(.ref r0), (.ref r1), (.ref r2)] 3 = mkF m 0 #[.val (.ref r0), .val (.ref r1), .val (.ref r2)] [] := by first | (simp [entryFrame, mkF, argsToLocals, Value.category]; done) | rfl
def Q11 (Z : State) (r0 r1 r2 va vb : Addr) (h0 : Heap) (n0 : Nat) (w : Option Value) (h : Heap) (L : List Loc) : Prop := w = none ∧ Fr n0 L ∧ Keep h0 h [r0, r1, r2] ∧ Exa Z h r0 "com/example/access_decision/accessdecision/AclRight" ∧ Fld Z h r0 "com/example/access_decision/accessdecision/AclRight" "tag" "Ljava/lang/String;" (.ref r1) ∧ Fld Z h r0 "com/example/access_decision/accessdecision/AclRight" "value" "Ljava/lang/String;" (.ref r2) ∧ Exa Z h r1 "java/lang/String" ∧ Fld Z h r1 "java/lang/String" "value" "[B" (.ref va) ∧ Fld Z h r1 "java/lang/String" "coder" "B" (.int 0) ∧ Exa Z h r2 "java/lang/String" ∧ Fld Z h r2 "java/lang/String" "value" "[B" (.ref vb) ∧ Fld Z h r2 "java/lang/String" "coder" "B" (.int 0)
set_option maxRecDepth 65536 in
set_option maxHeartbeats 40000000 in
theorem rm11 (l : Launch) (Z : State) (a0 : Array Value) (hw : ∀ d ∈ tables_1, d.before a0 Z = true) (ws : List Jvm.Cond) (r0 : Addr) (r1 : Addr) (r2 : Addr) (va : Addr) (vb : Addr) (ka : ClassId) (kb : ClassId) (ca : List Int32) (cb : List Int32) (cc : Int32) (h0 : Heap) (n0 : Nat) (Z0 : n0 ≤ h0.size) (E_0 : Exa Z h0 r0 "com/example/access_decision/accessdecision/AclRight") (F_t : Fld Z h0 r0 "com/example/access_decision/accessdecision/AclRight" "tag" "Ljava/lang/String;" .null) (F_v : Fld Z h0 r0 "com/example/access_decision/accessdecision/AclRight" "value" "Ljava/lang/String;" .null) (F_h : Fld Z h0 r0 "com/example/access_decision/accessdecision/AclRight" "hash" "I" (.int 0)) (Ea : Exa Z h0 r1 "java/lang/String") (Svalua : Fld Z h0 r1 "java/lang/String" "value" "[B" (.ref va)) (Scodea : Fld Z h0 r1 "java/lang/String" "coder" "B" (.int 0)) (Shasha : Fld Z h0 r1 "java/lang/String" "hash" "I" (.int 0)) (Shza : Fld Z h0 r1 "java/lang/String" "hashIsZero" "Z" (.int 0)) (Va : Arv Z h0 va ka .byte (Int32.ofNat ca.length) (ca.map Value.int) (.int 0)) (la : ca.length ≤ 2) (hka : ca.length = 2 → Z.vm.findClass "[B" = some ka) (Eb : Exa Z h0 r2 "java/lang/String") (Svalub : Fld Z h0 r2 "java/lang/String" "value" "[B" (.ref vb)) (Scodeb : Fld Z h0 r2 "java/lang/String" "coder" "B" (.int 0)) (Shashb : Fld Z h0 r2 "java/lang/String" "hash" "I" (.int 0)) (Shzb : Fld Z h0 r2 "java/lang/String" "hashIsZero" "Z" (.int 0)) (Vb : Arv Z h0 vb kb .byte (Int32.ofNat cb.length) (cb.map Value.int) (.int 0)) (lb : cb.length ≤ 2) (hkb : cb.length = 2 → Z.vm.findClass "[B" = some kb) (n10 : r1 ≠ r0) (n20 : r2 ≠ r0) (n12 : r1 ≠ r2) (na0 : va ≠ r0) (nb0 : vb ≠ r0) (na1 : va ≠ r1) (nb1 : vb ≠ r1) (na2 : va ≠ r2) (nb2 : vb ≠ r2) (g_r0 : n0 ≤ r0) (g_r1 : n0 ≤ r1) (g_r2 : n0 ≤ r2) (O_0 : Old Z n0 h0) (S_c : Sta Z Z.heap "java/lang/String" "COMPACT_STRINGS" "Z" (.int cc)) (hcc : ¬ cc = (0 : Int32)) :
    MetFree l (⟨"com/example/access_decision/accessdecision/AclRight", "<init>", "(Ljava/lang/String;Ljava/lang/String;)V"⟩ : MethodName) (head1 (Jvm.Cond.code (⟨"com/example/access_decision/accessdecision/AclRight", "<init>", "(Ljava/lang/String;Ljava/lang/String;)V"⟩ : MethodName) prog_3_method_1_code 3 none :: ws) ({ frames := 4, cells := 0, slots := 0, locals := 105 } : Room)) (fun a U => a = #[(.ref r0), (.ref r1), (.ref r2)] ∧ Z.Warmed39 U.vm ∧ U.heap = h0) (fun _ _ _ _ _ => True) (fun _ U o U' => ∃ v L, o = .returned v ∧ Q11 Z r0 r1 r2 va vb h0 n0 v U'.heap L ∧ FrameEnd U o U' L ({ frames := 4, cells := 0, slots := 0, locals := 105 } : Room).cells ({ frames := 4, cells := 0, slots := 0, locals := 105 } : Room).slots) := by
  refine MetFree.of_bodySF (plainFor_of_name pn11) hisR ?_
  intro p e s m args below meth c s₁ Bd hml0 hP hK
  obtain ⟨rfl, hZ, hh⟩ := hP
  have hx := Bd.exec
  have hby := Bd.bytes
  have hml : c.maxLocals = 3 := hml0
  have hown : s.vm.findClass "com/example/access_decision/accessdecision/AclRight" = some m.cls := findClass_of_methodNamed Bd.named
  have hnm := (name_of_methodNamed Bd.named Bd.method).1
  have X0 : Stand p l e ({ frames := 4, cells := 0, slots := 0, locals := 105 } : Room) s m #[(.ref r0), (.ref r1), (.ref r2)] below meth c s₁ [] 0 0 := Stand.of_body Bd
  have e0 : s₁.heap = h0 := by rw [← hh, Bd.state]; rfl
  have N0 := Fr.nil n0
  refine own_fw (A := s₁.setTop (mkF m 0 #[.val (.ref r0), .val (.ref r1), .val (.ref r2)] [])) (fun t k => castTop (ef11 m r0 r1 r2) k) ?_
  refine own_fw (A := s₁.setTop (mkF m 1 #[.val (.ref r0), .val (.ref r1), .val (.ref r2)] [(.ref r0)])) (fun t k => ?_) ?_
  · show Steps p.tables e below (s₁.setTop (mkF m 0 #[.val (.ref r0), .val (.ref r1), .val (.ref r2)] [])) t
    refine XS.aloadN X0.here hx rfl (hb hby d11_0) rfl rfl ?_
    exact k
  obtain ⟨T11_1, X11_1, e11_1, st11_1⟩ := initO X0 hx hZ hown (hw _ (List.mem_of_getElem? (i := 52) rfl)) (hw _ (List.mem_of_getElem? (i := 19) rfl)) (hw _ (List.mem_of_getElem? (i := 20) rfl)) e0 (g := (mkF m 1 #[.val (.ref r0), .val (.ref r1), .val (.ref r2)] [(.ref r0)])) rfl (by rw [hml]; rfl) rfl (hb hby d11_1) (by decide) (W := 0) (by show 2 * 0 + _ ≤ _; exact Nat.le_of_eq rfl) (by decide)
  refine own_fw st11_1 ?_
  refine own_fw (A := T11_1.setTop (mkF m 6 #[.val (.ref r0), .val (.ref r1), .val (.ref r2)] [(.ref r1), (.ref r0)])) (fun t k => ?_) ?_
  · show Steps p.tables e below (T11_1.setTop (mkF m 4 #[.val (.ref r0), .val (.ref r1), .val (.ref r2)] [])) t
    refine XS.aloadN X11_1.here hx rfl (hb hby d11_4) rfl rfl ?_
    show Steps p.tables e below (T11_1.setTop (mkF m 5 #[.val (.ref r0), .val (.ref r1), .val (.ref r2)] [(.ref r0)])) t
    refine XS.aloadN X11_1.here hx rfl (hb hby d11_5) rfl rfl ?_
    exact k
  obtain ⟨T11_2, h11_2, X11_2, e11_2, W11_2, st11_2⟩ := putF X11_1 hx hZ hown (host := "") (Or.inl (hw _ (List.mem_of_getElem? (i := 53) rfl))) Via.refl e11_1 F_t E_0 (Or.inr ⟨(hw _ (List.mem_of_getElem? (i := 54) rfl)), rfl, hnm⟩) (hw _ (List.mem_of_getElem? (i := 47) rfl)) (ty := (.object "java/lang/String")) (by decide) rfl rfl (g := (mkF m 6 #[.val (.ref r0), .val (.ref r1), .val (.ref r2)] [(.ref r1), (.ref r0)])) rfl rfl (hb hby d11_6)
  have Fw11_2 := F_t.same W11_2
  have N11_2 := Fr.snoc X11_2 N0 g_r0
  refine own_fw st11_2 ?_
  refine own_fw (A := T11_2.setTop (mkF m 11 #[.val (.ref r0), .val (.ref r1), .val (.ref r2)] [(.ref r2), (.ref r0)])) (fun t k => ?_) ?_
  · show Steps p.tables e below (T11_2.setTop (mkF m 9 #[.val (.ref r0), .val (.ref r1), .val (.ref r2)] [])) t
    refine XS.aloadN X11_2.here hx rfl (hb hby d11_9) rfl rfl ?_
    show Steps p.tables e below (T11_2.setTop (mkF m 10 #[.val (.ref r0), .val (.ref r1), .val (.ref r2)] [(.ref r0)])) t
    refine XS.aloadN X11_2.here hx rfl (hb hby d11_10) rfl rfl ?_
    exact k
  obtain ⟨T11_3, h11_3, X11_3, e11_3, W11_3, st11_3⟩ := putF X11_2 hx hZ hown (host := "") (Or.inl (hw _ (List.mem_of_getElem? (i := 55) rfl))) Via.refl e11_2 (F_v.other W11_2 (Or.inr (slot_ne (Or.inr (hw _ (List.mem_of_getElem? (i := 56) rfl))) (Or.inr (hw _ (List.mem_of_getElem? (i := 54) rfl))) (by decide) (t := (.object "java/lang/String")) (t' := (.object "java/lang/String")) (by decide) (by decide)))) (E_0.wr W11_2) (Or.inr ⟨(hw _ (List.mem_of_getElem? (i := 56) rfl)), rfl, hnm⟩) (hw _ (List.mem_of_getElem? (i := 47) rfl)) (ty := (.object "java/lang/String")) (by decide) rfl rfl (g := (mkF m 11 #[.val (.ref r0), .val (.ref r1), .val (.ref r2)] [(.ref r2), (.ref r0)])) rfl rfl (hb hby d11_11)
  have Fw11_3 := (F_v.other W11_2 (Or.inr (slot_ne (Or.inr (hw _ (List.mem_of_getElem? (i := 56) rfl))) (Or.inr (hw _ (List.mem_of_getElem? (i := 54) rfl))) (by decide) (t := (.object "java/lang/String")) (t' := (.object "java/lang/String")) (by decide) (by decide)))).same W11_3
  have N11_3 := Fr.snoc X11_3 N11_2 g_r0
  refine own_fw st11_3 ?_
  refine own_fw (A := T11_3.setTop (mkF m 18 #[.val (.ref r0), .val (.ref r1), .val (.ref r2)] [(.ref r1), (.int (31 : Int32)), (.ref r0)])) (fun t k => ?_) ?_
  · show Steps p.tables e below (T11_3.setTop (mkF m 14 #[.val (.ref r0), .val (.ref r1), .val (.ref r2)] [])) t
    refine XS.aloadN X11_3.here hx rfl (hb hby d11_14) rfl rfl ?_
    show Steps p.tables e below (T11_3.setTop (mkF m 15 #[.val (.ref r0), .val (.ref r1), .val (.ref r2)] [(.ref r0)])) t
    refine XS.bipush X11_3.here hx rfl (hb hby d11_15) ?_
    show Steps p.tables e below (T11_3.setTop (mkF m 17 #[.val (.ref r0), .val (.ref r1), .val (.ref r2)] [(.int (31 : Int32)), (.ref r0)])) t
    refine XS.aloadN X11_3.here hx rfl (hb hby d11_17) rfl rfl ?_
    exact k
  obtain ⟨cq11_4, kq11_4, q11_4a, q11_4b, q11_4c⟩ := isOf hZ e11_3 ((Ea.wr W11_2).wr W11_3)
  obtain ⟨_, _, ⟨T11_4, L11_4, k11_4, n11_4⟩, -, X11_4, ⟨Lc11_4, hQ11_4, l11_4, y11_4, z11_4⟩, st11_4⟩ := X11_3.virtualBack hx (y := (⟨"java/lang/String", "hashCode", "()I"⟩ : MethodName)) (z := (⟨"java/lang/String", "hashCode", "()I"⟩ : MethodName)) hown (mvT hZ (hw _ (List.mem_of_getElem? (i := 57) rfl))) (mvT hZ (hw _ (List.mem_of_getElem? (i := 58) rfl))) (notFace_of_selects (args := #[]) (mvT hZ (hw _ (List.mem_of_getElem? (i := 60) rfl)))) (mvT hZ (hw _ (List.mem_of_getElem? (i := 60) rfl))) (mvT hZ (hw _ (List.mem_of_getElem? (i := 59) rfl))) (by decide) (backOf (W := 2) (rmHC l Z a0 hw [] r1 va ka ca cc h11_3 n0 (Nat.le_trans (Nat.le_trans Z0 (Keep.of_wr W11_2).1) (Keep.of_wr W11_3).1) ((Ea.wr W11_2).wr W11_3) ((Svalua.other W11_2 (Or.inl n10)).other W11_3 (Or.inl n10)) ((Scodea.other W11_2 (Or.inl n10)).other W11_3 (Or.inl n10)) ((Shasha.other W11_2 (Or.inl n10)).other W11_3 (Or.inl n10)) ((Shza.other W11_2 (Or.inl n10)).other W11_3 (Or.inl n10)) ((Va.other W11_2 na0).other W11_3 na0) la hka na1 g_r1 ((O_0.wr W11_2 g_r0).wr W11_3 g_r0) S_c hcc) hZ (hw _ (List.mem_of_getElem? (i := 61) rfl)) (hw _ (List.mem_of_getElem? (i := 9) rfl)) (by decide) (by decide)) q11_4a q11_4c (g := (mkF m 18 #[.val (.ref r0), .val (.ref r1), .val (.ref r2)] [(.ref r1), (.int (31 : Int32)), (.ref r0)])) rfl (by rw [hml]; rfl) (Steps.refl _) (argsL := []) (rest := [(.int (31 : Int32)), (.ref r0)]) (lenOf pd11_0 rfl) rfl (by show 2 * 0 + _ ≤ _; exact Nat.le_of_eq rfl) (hb hby d11_18) (fun _ _ => ⟨rfl, e11_3, (by decide : 0 + 0 ≤ _), (by decide : 0 + 0 ≤ _)⟩)
  dsimp only [Pt.U, Pt.locs, Pt.cells, Pt.slots] at X11_4 l11_4 y11_4 z11_4 st11_4 hQ11_4
  subst l11_4 y11_4 z11_4
  obtain ⟨z11_4, hs11_4, hz11_4, rfl, N11_4q, K11_4, E11_4, Svalu11_4, Scode11_4, Shash11_4, Shz11_4⟩ := hQ11_4
  have N11_4 := Fr.app N11_3 N11_4q
  refine own_fw (fun t k => st11_4.trans k) ?_
  refine own_fw (A := T11_4.setTop (mkF m 23 #[.val (.ref r0), .val (.ref r1), .val (.ref r2)] [(.ref r2), (.int ((31 : Int32) * z11_4)), (.ref r0)])) (fun t k => ?_) ?_
  · show Steps p.tables e below (T11_4.setTop (mkF m 21 #[.val (.ref r0), .val (.ref r1), .val (.ref r2)] [(.int z11_4), (.int (31 : Int32)), (.ref r0)])) t
    refine XS.imul X11_4.here hx rfl (hb hby d11_21) rfl ?_
    show Steps p.tables e below (T11_4.setTop (mkF m 22 #[.val (.ref r0), .val (.ref r1), .val (.ref r2)] [(.int ((31 : Int32) * z11_4)), (.ref r0)])) t
    refine XS.aloadN X11_4.here hx rfl (hb hby d11_22) rfl rfl ?_
    exact k
  obtain ⟨cq11_5, kq11_5, q11_5a, q11_5b, q11_5c⟩ := isOf hZ rfl (((Eb.wr W11_2).wr W11_3).keep K11_4)
  obtain ⟨_, _, ⟨T11_5, L11_5, k11_5, n11_5⟩, -, X11_5, ⟨Lc11_5, hQ11_5, l11_5, y11_5, z11_5⟩, st11_5⟩ := X11_4.virtualBack hx (y := (⟨"java/lang/String", "hashCode", "()I"⟩ : MethodName)) (z := (⟨"java/lang/String", "hashCode", "()I"⟩ : MethodName)) hown (mvT hZ (hw _ (List.mem_of_getElem? (i := 57) rfl))) (mvT hZ (hw _ (List.mem_of_getElem? (i := 58) rfl))) (notFace_of_selects (args := #[]) (mvT hZ (hw _ (List.mem_of_getElem? (i := 60) rfl)))) (mvT hZ (hw _ (List.mem_of_getElem? (i := 60) rfl))) (mvT hZ (hw _ (List.mem_of_getElem? (i := 59) rfl))) (by decide) (backOf (W := 2) (rmHC l Z a0 hw [] r2 vb kb cb cc T11_4.heap n0 (Nat.le_trans (Nat.le_trans (Nat.le_trans Z0 (Keep.of_wr W11_2).1) (Keep.of_wr W11_3).1) K11_4.1) (((Eb.wr W11_2).wr W11_3).keep K11_4) (((Svalub.other W11_2 (Or.inl n20)).other W11_3 (Or.inl n20)).keep K11_4 (fun q => (Ne.symm n12) (List.mem_singleton.mp q))) (((Scodeb.other W11_2 (Or.inl n20)).other W11_3 (Or.inl n20)).keep K11_4 (fun q => (Ne.symm n12) (List.mem_singleton.mp q))) (((Shashb.other W11_2 (Or.inl n20)).other W11_3 (Or.inl n20)).keep K11_4 (fun q => (Ne.symm n12) (List.mem_singleton.mp q))) (((Shzb.other W11_2 (Or.inl n20)).other W11_3 (Or.inl n20)).keep K11_4 (fun q => (Ne.symm n12) (List.mem_singleton.mp q))) (((Vb.other W11_2 nb0).other W11_3 nb0).keep K11_4 (fun q => nb1 (List.mem_singleton.mp q))) lb hkb nb2 g_r2 (((O_0.wr W11_2 g_r0).wr W11_3 g_r0).keep K11_4 (allS g_r1 all0)) S_c hcc) hZ (hw _ (List.mem_of_getElem? (i := 61) rfl)) (hw _ (List.mem_of_getElem? (i := 9) rfl)) (by decide) (by decide)) q11_5a q11_5c (g := (mkF m 23 #[.val (.ref r0), .val (.ref r1), .val (.ref r2)] [(.ref r2), (.int ((31 : Int32) * z11_4)), (.ref r0)])) rfl (by rw [hml]; rfl) (Steps.refl _) (argsL := []) (rest := [(.int ((31 : Int32) * z11_4)), (.ref r0)]) (lenOf pd11_0 rfl) rfl (by show 2 * 0 + _ ≤ _; exact Nat.le_of_eq rfl) (hb hby d11_23) (fun _ _ => ⟨rfl, rfl, (by decide : 0 + 0 ≤ _), (by decide : 0 + 0 ≤ _)⟩)
  dsimp only [Pt.U, Pt.locs, Pt.cells, Pt.slots] at X11_5 l11_5 y11_5 z11_5 st11_5 hQ11_5
  subst l11_5 y11_5 z11_5
  obtain ⟨z11_5, hs11_5, hz11_5, rfl, N11_5q, K11_5, E11_5, Svalu11_5, Scode11_5, Shash11_5, Shz11_5⟩ := hQ11_5
  have N11_5 := Fr.app N11_4 N11_5q
  refine own_fw (fun t k => st11_5.trans k) ?_
  refine own_fw (A := T11_5.setTop (mkF m 27 #[.val (.ref r0), .val (.ref r1), .val (.ref r2)] [(.int (((31 : Int32) * z11_4) + z11_5)), (.ref r0)])) (fun t k => ?_) ?_
  · show Steps p.tables e below (T11_5.setTop (mkF m 26 #[.val (.ref r0), .val (.ref r1), .val (.ref r2)] [(.int z11_5), (.int ((31 : Int32) * z11_4)), (.ref r0)])) t
    refine XS.iadd X11_5.here hx rfl (hb hby d11_26) rfl ?_
    exact k
  obtain ⟨T11_6, h11_6, X11_6, e11_6, W11_6, st11_6⟩ := putF X11_5 hx hZ hown (host := "") (Or.inl (hw _ (List.mem_of_getElem? (i := 75) rfl))) Via.refl rfl ((((F_h.other W11_2 (Or.inr (slot_ne (Or.inr (hw _ (List.mem_of_getElem? (i := 76) rfl))) (Or.inr (hw _ (List.mem_of_getElem? (i := 54) rfl))) (by decide) (t := .int) (t' := (.object "java/lang/String")) (by decide) (by decide)))).other W11_3 (Or.inr (slot_ne (Or.inr (hw _ (List.mem_of_getElem? (i := 76) rfl))) (Or.inr (hw _ (List.mem_of_getElem? (i := 56) rfl))) (by decide) (t := .int) (t' := (.object "java/lang/String")) (by decide) (by decide)))).keep K11_4 (fun q => (Ne.symm n10) (List.mem_singleton.mp q))).keep K11_5 (fun q => (Ne.symm n20) (List.mem_singleton.mp q))) ((((E_0.wr W11_2).wr W11_3).keep K11_4).keep K11_5) (Or.inr ⟨(hw _ (List.mem_of_getElem? (i := 76) rfl)), rfl, hnm⟩) (hw _ (List.mem_of_getElem? (i := 47) rfl)) (ty := .int) (by decide) rfl rfl (g := (mkF m 27 #[.val (.ref r0), .val (.ref r1), .val (.ref r2)] [(.int (((31 : Int32) * z11_4) + z11_5)), (.ref r0)])) rfl rfl (hb hby d11_27)
  have Fw11_6 := ((((F_h.other W11_2 (Or.inr (slot_ne (Or.inr (hw _ (List.mem_of_getElem? (i := 76) rfl))) (Or.inr (hw _ (List.mem_of_getElem? (i := 54) rfl))) (by decide) (t := .int) (t' := (.object "java/lang/String")) (by decide) (by decide)))).other W11_3 (Or.inr (slot_ne (Or.inr (hw _ (List.mem_of_getElem? (i := 76) rfl))) (Or.inr (hw _ (List.mem_of_getElem? (i := 56) rfl))) (by decide) (t := .int) (t' := (.object "java/lang/String")) (by decide) (by decide)))).keep K11_4 (fun q => (Ne.symm n10) (List.mem_singleton.mp q))).keep K11_5 (fun q => (Ne.symm n20) (List.mem_singleton.mp q))).same W11_6
  have N11_6 := Fr.snoc X11_6 N11_5 g_r0
  refine own_fw st11_6 ?_
  obtain ⟨fs, hr, hrun, hended, hW, hsame⟩ := X11_6.leave (v := none) (fun _ => rfl) (BodyLoose.notSynchronized Bd)
  refine ⟨_, _, X11_6.returnOut hx Bd.returns (hb hby d11_30) hr, hrun, hended, _, _, rfl, ?_, ⟨_, rfl⟩, hW, hsame.mono (by decide) (by decide)⟩
  have eh : (T11_6.setFrames fs).heap = h11_6 := e11_6
  rw [eh]
  exact ⟨rfl, N11_6, ((((((Keep.refl h0 [r0, r1, r2]).wr W11_2 (Or.inl (List.mem_of_getElem? (i := 0) rfl))).wr W11_3 (Or.inl (List.mem_of_getElem? (i := 0) rfl))).trans K11_4 (allS (Or.inl (List.mem_of_getElem? (i := 1) rfl)) all0)).trans K11_5 (allS (Or.inl (List.mem_of_getElem? (i := 2) rfl)) all0)).wr W11_6 (Or.inl (List.mem_of_getElem? (i := 0) rfl))), (((((E_0.wr W11_2).wr W11_3).keep K11_4).keep K11_5).wr W11_6), ((((Fw11_2.other W11_3 (Or.inr (slot_ne (Or.inr (hw _ (List.mem_of_getElem? (i := 54) rfl))) (Or.inr (hw _ (List.mem_of_getElem? (i := 56) rfl))) (by decide) (t := (.object "java/lang/String")) (t' := (.object "java/lang/String")) (by decide) (by decide)))).keep K11_4 (fun q => (Ne.symm n10) (List.mem_singleton.mp q))).keep K11_5 (fun q => (Ne.symm n20) (List.mem_singleton.mp q))).other W11_6 (Or.inr (slot_ne (Or.inr (hw _ (List.mem_of_getElem? (i := 54) rfl))) (Or.inr (hw _ (List.mem_of_getElem? (i := 76) rfl))) (by decide) (t := (.object "java/lang/String")) (t' := .int) (by decide) (by decide)))), (((Fw11_3.keep K11_4 (fun q => (Ne.symm n10) (List.mem_singleton.mp q))).keep K11_5 (fun q => (Ne.symm n20) (List.mem_singleton.mp q))).other W11_6 (Or.inr (slot_ne (Or.inr (hw _ (List.mem_of_getElem? (i := 56) rfl))) (Or.inr (hw _ (List.mem_of_getElem? (i := 76) rfl))) (by decide) (t := (.object "java/lang/String")) (t' := .int) (by decide) (by decide)))), ((E11_4.keep K11_5).wr W11_6), ((Svalu11_4.keep K11_5 (fun q => n12 (List.mem_singleton.mp q))).other W11_6 (Or.inl n10)), ((Scode11_4.keep K11_5 (fun q => n12 (List.mem_singleton.mp q))).other W11_6 (Or.inl n10)), (E11_5.wr W11_6), (Svalu11_5.other W11_6 (Or.inl n20)), (Scode11_5.other W11_6 (Or.inl n20))⟩
theorem own_notsub {Z : State} {a0 : Array Value} (hw : ∀ d ∈ tables_1, d.before a0 Z = true) : ∃ c t, Z.vm.findClass "java/lang/String" = some c ∧ Z.vm.findClass "com/example/access_decision/accessdecision/AclRight" = some t ∧ Z.vm.assignable c t = false := by
  have w1 : (Cond.superclass "java/lang/String" "java/lang/Object").before a0 Z = true := (hw _ (List.mem_of_getElem? (i := 105) rfl))
  have w2 : (Cond.noSuperclass "java/lang/Object").before a0 Z = true := (hw _ (List.mem_of_getElem? (i := 106) rfl))
  have w3 : (Cond.instantiable "com/example/access_decision/accessdecision/AclRight" 3).before a0 Z = true := (hw _ (List.mem_of_getElem? (i := 47) rfl))
  obtain ⟨c, h0⟩ := found_sup w1
  obtain ⟨p, k, kp, h1, h2, h3, h4, h5, -, h7⟩ := Cond.superclass_spec h0 w1
  obtain ⟨c', k', g1, g2, g3, -, -⟩ := Cond.noSuperclass_spec w2
  obtain ⟨t, kt, i1, i2, i3, i4, -, -⟩ := Cond.instantiable_spec w3
  have e1 : c' = p := Option.some.inj (g1.symm.trans h1)
  subst e1
  have n1 := ids_ne h0 i1 (by decide)
  have n2 := ids_ne g1 i1 (by decide)
  have i5 : kt.isInterface = false := by
    cases q : kt.isInterface with
    | false => rfl
    | true => rw [q] at i4; simp at i4
  have ns : ∀ fuel, Z.vm.isSubclassAux fuel c t = false := fun fuel => by
    cases fuel with
    | zero => rfl
    | succ f =>
      cases f with
      | zero => simp [Vm.isSubclassAux, n1, h2, h4]
      | succ f => simp [Vm.isSubclassAux, n1, h2, h4, n2, g2, g3]
  refine ⟨c, t, h0, i1, ?_⟩
  show Z.vm.assignableAux (255 + 1) c t = false
  simp [Vm.assignableAux, n1, h2, i2, h5, i3, i5, Vm.isSubclass, ns]
theorem d18_0 : decode prog_3_method_4_code 0 = .ok (.aload_n 1, 1) := by decide +kernel
theorem d18_1 : decode prog_3_method_4_code 1 = .ok (.instanceof 8, 3) := by decide +kernel
theorem d18_4 : decode prog_3_method_4_code 4 = .ok (.ifCond .ne 5, 3) := by decide +kernel
theorem d18_7 : decode prog_3_method_4_code 7 = .ok (.iconst 0, 1) := by decide +kernel
theorem d18_8 : decode prog_3_method_4_code 8 = .ok (.ireturn, 1) := by decide +kernel
theorem d18_9 : decode prog_3_method_4_code 9 = .ok (.aload_n 1, 1) := by decide +kernel
theorem d18_10 : decode prog_3_method_4_code 10 = .ok (.checkcast 8, 3) := by decide +kernel
theorem d18_13 : decode prog_3_method_4_code 13 = .ok (.astore_n 2, 1) := by decide +kernel
theorem d18_14 : decode prog_3_method_4_code 14 = .ok (.aload_n 0, 1) := by decide +kernel
theorem d18_15 : decode prog_3_method_4_code 15 = .ok (.getfield 7, 3) := by decide +kernel
theorem d18_18 : decode prog_3_method_4_code 18 = .ok (.aload_n 2, 1) := by decide +kernel
theorem d18_19 : decode prog_3_method_4_code 19 = .ok (.getfield 7, 3) := by decide +kernel
theorem d18_22 : decode prog_3_method_4_code 22 = .ok (.invokevirtual 55, 3) := by decide +kernel
theorem d18_25 : decode prog_3_method_4_code 25 = .ok (.ifCond .eq 21, 3) := by decide +kernel
theorem d18_28 : decode prog_3_method_4_code 28 = .ok (.aload_n 0, 1) := by decide +kernel
theorem d18_29 : decode prog_3_method_4_code 29 = .ok (.getfield 13, 3) := by decide +kernel
theorem d18_32 : decode prog_3_method_4_code 32 = .ok (.aload_n 2, 1) := by decide +kernel
theorem d18_33 : decode prog_3_method_4_code 33 = .ok (.getfield 13, 3) := by decide +kernel
theorem d18_36 : decode prog_3_method_4_code 36 = .ok (.invokevirtual 55, 3) := by decide +kernel
theorem d18_39 : decode prog_3_method_4_code 39 = .ok (.ifCond .eq 7, 3) := by decide +kernel
theorem d18_42 : decode prog_3_method_4_code 42 = .ok (.iconst 1, 1) := by decide +kernel
theorem d18_43 : decode prog_3_method_4_code 43 = .ok (.goto 4, 3) := by decide +kernel
theorem d18_46 : decode prog_3_method_4_code 46 = .ok (.iconst 0, 1) := by decide +kernel
theorem d18_47 : decode prog_3_method_4_code 47 = .ok (.ireturn, 1) := by decide +kernel
theorem pn18 : plainName "com/example/access_decision/accessdecision/AclRight" = true := by first | (simp [plainName, overriddenIn]; done) | decide +kernel
theorem pd18_0 : parseMethodDescriptor "(Ljava/lang/Object;)Z" = some ⟨[(.object "java/lang/Object")], some .boolean⟩ := by decide +kernel
theorem ef18 (m : MethodId) (r0 : Addr) (r1 : Addr) : entryFrame m #[(.ref r0), (.ref r1)] 3 = mkF m 0 #[.val (.ref r0), .val (.ref r1), .unset] [] := by first | (simp [entryFrame, mkF, argsToLocals, Value.category]; done) | rfl
def Q18 (Z : State) (z : Int32) (h0 : Heap) (n0 : Nat) (w : Option Value) (h : Heap) (L : List Loc) : Prop := w = some (.int z) ∧ Fr n0 L ∧ h = h0
theorem ef18n (m : MethodId) (r0 : Addr) : entryFrame m #[(.ref r0), .null] 3 = mkF m 0 #[.val (.ref r0), .val .null, .unset] [] := by first | (simp [entryFrame, mkF, argsToLocals, Value.category]; done) | rfl
set_option maxRecDepth 65536 in
set_option maxHeartbeats 40000000 in
theorem rmAE_n (l : Launch) (Z : State) (a0 : Array Value) (hw : ∀ d ∈ tables_1, d.before a0 Z = true) (ws : List Jvm.Cond) (r0 : Addr) (h0 : Heap) (n0 : Nat) (Z0 : n0 ≤ h0.size) :
    MetFree l (⟨"com/example/access_decision/accessdecision/AclRight", "equals", "(Ljava/lang/Object;)Z"⟩ : MethodName) (head1 (Jvm.Cond.code (⟨"com/example/access_decision/accessdecision/AclRight", "equals", "(Ljava/lang/Object;)Z"⟩ : MethodName) prog_3_method_4_code 3 (some .boolean) :: ws) ({ frames := 2, cells := 0, slots := 0, locals := 60 } : Room)) (fun a U => a = #[(.ref r0), .null] ∧ Z.Warmed39 U.vm ∧ U.heap = h0) (fun _ _ _ _ _ => True) (fun _ U o U' => ∃ v L, o = .returned v ∧ Q18 Z (0 : Int32) h0 n0 v U'.heap L ∧ FrameEnd U o U' L ({ frames := 2, cells := 0, slots := 0, locals := 60 } : Room).cells ({ frames := 2, cells := 0, slots := 0, locals := 60 } : Room).slots) := by
  refine MetFree.of_bodySF (plainFor_of_name pn18) hisR ?_
  intro p e s m args below meth c s₁ Bd hml0 hP hK
  obtain ⟨rfl, hZ, hh⟩ := hP
  have hx := Bd.exec
  have hby := Bd.bytes
  have hml : c.maxLocals = 3 := hml0
  have hown : s.vm.findClass "com/example/access_decision/accessdecision/AclRight" = some m.cls := findClass_of_methodNamed Bd.named
  have hnm := (name_of_methodNamed Bd.named Bd.method).1
  have X0 : Stand p l e ({ frames := 2, cells := 0, slots := 0, locals := 60 } : Room) s m #[(.ref r0), .null] below meth c s₁ [] 0 0 := Stand.of_body Bd
  have e0 : s₁.heap = h0 := by rw [← hh, Bd.state]; rfl
  have N0 := Fr.nil n0
  refine own_fw (A := s₁.setTop (mkF m 0 #[.val (.ref r0), .val .null, .unset] [])) (fun t k => castTop (ef18n m r0) k) ?_
  refine own_fw (A := s₁.setTop (mkF m 1 #[.val (.ref r0), .val .null, .unset] [.null])) (fun t k => ?_) ?_
  · show Steps p.tables e below (s₁.setTop (mkF m 0 #[.val (.ref r0), .val .null, .unset] [])) t
    refine XS.aloadN X0.here hx rfl (hb hby d18_0) rfl rfl ?_
    exact k
  refine own_fw (A := s₁.setTop (mkF m 4 #[.val (.ref r0), .val .null, .unset] [(.int (0 : Int32))])) (fun t k => X0.instanceofNull hx (g := (mkF m 1 #[.val (.ref r0), .val .null, .unset] [.null])) rfl rfl (hb hby d18_1) _ k) ?_
  refine own_fw (A := s₁.setTop (mkF m 8 #[.val (.ref r0), .val .null, .unset] [(.int (0 : Int32))])) (fun t k => ?_) ?_
  · show Steps p.tables e below (s₁.setTop (mkF m 4 #[.val (.ref r0), .val .null, .unset] [(.int (0 : Int32))])) t
    refine XS.ifNo X0.here hx rfl (hb hby d18_4) rfl ((if0 _ _).trans (teq (rfl : (0 : Int32) = (0 : Int32))).2) ?_
    show Steps p.tables e below (s₁.setTop (mkF m 7 #[.val (.ref r0), .val .null, .unset] [])) t
    refine XS.iconst X0.here hx rfl (hb hby d18_7) ?_
    exact k
  obtain ⟨fs, hr, hrun, hended, hW, hsame⟩ := X0.leave (v := some (.int (nar .boolean (0 : Int32)))) (own_ret Bd.returns) (BodyLoose.notSynchronized Bd)
  refine ⟨_, _, retN X0 hx (t := .boolean) Bd.returns (by simp) (hb hby d18_8) hr, hrun, hended, _, _, rfl, ?_, ⟨_, rfl⟩, hW, hsame.mono (by decide) (by decide)⟩
  have eh : (s₁.setFrames fs).heap = h0 := e0
  rw [eh]
  exact ⟨rfl, N0, rfl⟩
set_option maxRecDepth 65536 in
set_option maxHeartbeats 40000000 in
theorem rmAE_t (l : Launch) (Z : State) (a0 : Array Value) (hw : ∀ d ∈ tables_1, d.before a0 Z = true) (ws : List Jvm.Cond) (r0 : Addr) (r1 : Addr) (h0 : Heap) (n0 : Nat) (Z0 : n0 ≤ h0.size) (E_1 : Exa Z h0 r1 "java/lang/String") :
    MetFree l (⟨"com/example/access_decision/accessdecision/AclRight", "equals", "(Ljava/lang/Object;)Z"⟩ : MethodName) (head1 (Jvm.Cond.code (⟨"com/example/access_decision/accessdecision/AclRight", "equals", "(Ljava/lang/Object;)Z"⟩ : MethodName) prog_3_method_4_code 3 (some .boolean) :: ws) ({ frames := 2, cells := 0, slots := 0, locals := 60 } : Room)) (fun a U => a = #[(.ref r0), (.ref r1)] ∧ Z.Warmed39 U.vm ∧ U.heap = h0) (fun _ _ _ _ _ => True) (fun _ U o U' => ∃ v L, o = .returned v ∧ Q18 Z (0 : Int32) h0 n0 v U'.heap L ∧ FrameEnd U o U' L ({ frames := 2, cells := 0, slots := 0, locals := 60 } : Room).cells ({ frames := 2, cells := 0, slots := 0, locals := 60 } : Room).slots) := by
  refine MetFree.of_bodySF (plainFor_of_name pn18) hisR ?_
  intro p e s m args below meth c s₁ Bd hml0 hP hK
  obtain ⟨rfl, hZ, hh⟩ := hP
  have hx := Bd.exec
  have hby := Bd.bytes
  have hml : c.maxLocals = 3 := hml0
  have hown : s.vm.findClass "com/example/access_decision/accessdecision/AclRight" = some m.cls := findClass_of_methodNamed Bd.named
  have hnm := (name_of_methodNamed Bd.named Bd.method).1
  have X0 : Stand p l e ({ frames := 2, cells := 0, slots := 0, locals := 60 } : Room) s m #[(.ref r0), (.ref r1)] below meth c s₁ [] 0 0 := Stand.of_body Bd
  have e0 : s₁.heap = h0 := by rw [← hh, Bd.state]; rfl
  have N0 := Fr.nil n0
  refine own_fw (A := s₁.setTop (mkF m 0 #[.val (.ref r0), .val (.ref r1), .unset] [])) (fun t k => castTop (ef18 m r0 r1) k) ?_
  refine own_fw (A := s₁.setTop (mkF m 1 #[.val (.ref r0), .val (.ref r1), .unset] [(.ref r1)])) (fun t k => ?_) ?_
  · show Steps p.tables e below (s₁.setTop (mkF m 0 #[.val (.ref r0), .val (.ref r1), .unset] [])) t
    refine XS.aloadN X0.here hx rfl (hb hby d18_0) rfl rfl ?_
    exact k
  obtain ⟨T18_1, X18_1, e18_1, st18_1⟩ := instNo X0 hx hZ hown (hw _ (List.mem_of_getElem? (i := 94) rfl)) e0 E_1 (own_notsub hw) (g := (mkF m 1 #[.val (.ref r0), .val (.ref r1), .unset] [(.ref r1)])) rfl rfl (hb hby d18_1)
  refine own_fw st18_1 ?_
  refine own_fw (A := T18_1.setTop (mkF m 8 #[.val (.ref r0), .val (.ref r1), .unset] [(.int (0 : Int32))])) (fun t k => ?_) ?_
  · show Steps p.tables e below (T18_1.setTop (mkF m 4 #[.val (.ref r0), .val (.ref r1), .unset] [(.int (0 : Int32))])) t
    refine XS.ifNo X18_1.here hx rfl (hb hby d18_4) rfl ((if0 _ _).trans (teq (rfl : (0 : Int32) = (0 : Int32))).2) ?_
    show Steps p.tables e below (T18_1.setTop (mkF m 7 #[.val (.ref r0), .val (.ref r1), .unset] [])) t
    refine XS.iconst X18_1.here hx rfl (hb hby d18_7) ?_
    exact k
  obtain ⟨fs, hr, hrun, hended, hW, hsame⟩ := X18_1.leave (v := some (.int (nar .boolean (0 : Int32)))) (own_ret Bd.returns) (BodyLoose.notSynchronized Bd)
  refine ⟨_, _, retN X18_1 hx (t := .boolean) Bd.returns (by simp) (hb hby d18_8) hr, hrun, hended, _, _, rfl, ?_, ⟨_, rfl⟩, hW, hsame.mono (by decide) (by decide)⟩
  have eh : (T18_1.setFrames fs).heap = h0 := e18_1
  rw [eh]
  exact ⟨rfl, N0, rfl⟩
set_option maxRecDepth 65536 in
set_option maxHeartbeats 40000000 in
theorem rmAE_s (l : Launch) (Z : State) (a0 : Array Value) (hw : ∀ d ∈ tables_1, d.before a0 Z = true) (ws : List Jvm.Cond) (r0 : Addr) (ta : Addr) (ua : Addr) (h0 : Heap) (n0 : Nat) (Z0 : n0 ≤ h0.size) (Ea : Exa Z h0 r0 "com/example/access_decision/accessdecision/AclRight") (Fta : Fld Z h0 r0 "com/example/access_decision/accessdecision/AclRight" "tag" "Ljava/lang/String;" (.ref ta)) (Fva : Fld Z h0 r0 "com/example/access_decision/accessdecision/AclRight" "value" "Ljava/lang/String;" (.ref ua)) (E_t : Exa Z h0 ta "java/lang/String") (E_u : Exa Z h0 ua "java/lang/String") :
    MetFree l (⟨"com/example/access_decision/accessdecision/AclRight", "equals", "(Ljava/lang/Object;)Z"⟩ : MethodName) (head1 (Jvm.Cond.code (⟨"com/example/access_decision/accessdecision/AclRight", "equals", "(Ljava/lang/Object;)Z"⟩ : MethodName) prog_3_method_4_code 3 (some .boolean) :: ws) ({ frames := 2, cells := 0, slots := 0, locals := 60 } : Room)) (fun a U => a = #[(.ref r0), (.ref r0)] ∧ Z.Warmed39 U.vm ∧ U.heap = h0) (fun _ _ _ _ _ => True) (fun _ U o U' => ∃ v L, o = .returned v ∧ Q18 Z (1 : Int32) h0 n0 v U'.heap L ∧ FrameEnd U o U' L ({ frames := 2, cells := 0, slots := 0, locals := 60 } : Room).cells ({ frames := 2, cells := 0, slots := 0, locals := 60 } : Room).slots) := by
  refine MetFree.of_bodySF (plainFor_of_name pn18) hisR ?_
  intro p e s m args below meth c s₁ Bd hml0 hP hK
  obtain ⟨rfl, hZ, hh⟩ := hP
  have hx := Bd.exec
  have hby := Bd.bytes
  have hml : c.maxLocals = 3 := hml0
  have hown : s.vm.findClass "com/example/access_decision/accessdecision/AclRight" = some m.cls := findClass_of_methodNamed Bd.named
  have hnm := (name_of_methodNamed Bd.named Bd.method).1
  have X0 : Stand p l e ({ frames := 2, cells := 0, slots := 0, locals := 60 } : Room) s m #[(.ref r0), (.ref r0)] below meth c s₁ [] 0 0 := Stand.of_body Bd
  have e0 : s₁.heap = h0 := by rw [← hh, Bd.state]; rfl
  have N0 := Fr.nil n0
  refine own_fw (A := s₁.setTop (mkF m 0 #[.val (.ref r0), .val (.ref r0), .unset] [])) (fun t k => castTop (ef18 m r0 r0) k) ?_
  refine own_fw (A := s₁.setTop (mkF m 1 #[.val (.ref r0), .val (.ref r0), .unset] [(.ref r0)])) (fun t k => ?_) ?_
  · show Steps p.tables e below (s₁.setTop (mkF m 0 #[.val (.ref r0), .val (.ref r0), .unset] [])) t
    refine XS.aloadN X0.here hx rfl (hb hby d18_0) rfl rfl ?_
    exact k
  obtain ⟨T18_1, X18_1, e18_1, st18_1⟩ := instY X0 hx hZ hown (hw _ (List.mem_of_getElem? (i := 94) rfl)) e0 (Ins.self Ea) (g := (mkF m 1 #[.val (.ref r0), .val (.ref r0), .unset] [(.ref r0)])) rfl rfl (hb hby d18_1)
  refine own_fw st18_1 ?_
  refine own_fw (A := T18_1.setTop (mkF m 10 #[.val (.ref r0), .val (.ref r0), .unset] [(.ref r0)])) (fun t k => ?_) ?_
  · show Steps p.tables e below (T18_1.setTop (mkF m 4 #[.val (.ref r0), .val (.ref r0), .unset] [(.int (1 : Int32))])) t
    refine XS.ifYes X18_1.here hx rfl (pc0 := 4) (pc' := 9) rfl (hb hby d18_4) rfl ((if0 _ _).trans (feq (by decide : ¬ ((1 : Int32) = (0 : Int32)))).2) (by decide) (by decide) ?_
    show Steps p.tables e below (T18_1.setTop (mkF m 9 #[.val (.ref r0), .val (.ref r0), .unset] [])) t
    refine XS.aloadN X18_1.here hx rfl (hb hby d18_9) rfl rfl ?_
    exact k
  obtain ⟨T18_2, X18_2, e18_2, st18_2⟩ := castY X18_1 hx hZ hown (hw _ (List.mem_of_getElem? (i := 94) rfl)) e18_1 (Ins.self Ea) (g := (mkF m 10 #[.val (.ref r0), .val (.ref r0), .unset] [(.ref r0)])) rfl rfl (hb hby d18_10)
  refine own_fw st18_2 ?_
  refine own_fw (A := T18_2.setTop (mkF m 15 #[.val (.ref r0), .val (.ref r0), .val (.ref r0)] [(.ref r0)])) (fun t k => ?_) ?_
  · show Steps p.tables e below (T18_2.setTop (mkF m 13 #[.val (.ref r0), .val (.ref r0), .unset] [(.ref r0)])) t
    refine XS.astoreN X18_2.here hx rfl (hb hby d18_13) rfl rfl (l' := #[.val (.ref r0), .val (.ref r0), .val (.ref r0)]) rfl ?_
    show Steps p.tables e below (T18_2.setTop (mkF m 14 #[.val (.ref r0), .val (.ref r0), .val (.ref r0)] [])) t
    refine XS.aloadN X18_2.here hx rfl (hb hby d18_14) rfl rfl ?_
    exact k
  obtain ⟨T18_3, X18_3, e18_3, st18_3⟩ := getF X18_2 hx hZ hown (host := "") (Or.inl (hw _ (List.mem_of_getElem? (i := 53) rfl))) Via.refl e18_2 Fta (g := (mkF m 15 #[.val (.ref r0), .val (.ref r0), .val (.ref r0)] [(.ref r0)])) rfl rfl (hb hby d18_15)
  refine own_fw st18_3 ?_
  refine own_fw (A := T18_3.setTop (mkF m 19 #[.val (.ref r0), .val (.ref r0), .val (.ref r0)] [(.ref r0), (.ref ta)])) (fun t k => ?_) ?_
  · show Steps p.tables e below (T18_3.setTop (mkF m 18 #[.val (.ref r0), .val (.ref r0), .val (.ref r0)] [(.ref ta)])) t
    refine XS.aloadN X18_3.here hx rfl (hb hby d18_18) rfl rfl ?_
    exact k
  obtain ⟨T18_4, X18_4, e18_4, st18_4⟩ := getF X18_3 hx hZ hown (host := "") (Or.inl (hw _ (List.mem_of_getElem? (i := 53) rfl))) Via.refl e18_3 Fta (g := (mkF m 19 #[.val (.ref r0), .val (.ref r0), .val (.ref r0)] [(.ref r0), (.ref ta)])) rfl rfl (hb hby d18_19)
  refine own_fw st18_4 ?_
  obtain ⟨cq18_5, kq18_5, q18_5a, q18_5b, q18_5c⟩ := isOf hZ e18_4 E_t
  obtain ⟨_, _, ⟨T18_5, L18_5, k18_5, n18_5⟩, -, X18_5, ⟨Lc18_5, hQ18_5, l18_5, y18_5, z18_5⟩, st18_5⟩ := X18_4.virtualBack hx (y := (⟨"java/lang/String", "equals", "(Ljava/lang/Object;)Z"⟩ : MethodName)) (z := (⟨"java/lang/String", "equals", "(Ljava/lang/Object;)Z"⟩ : MethodName)) hown (mvT hZ (hw _ (List.mem_of_getElem? (i := 96) rfl))) (mvT hZ (hw _ (List.mem_of_getElem? (i := 97) rfl))) (notFace_of_selects (args := #[]) (mvT hZ (hw _ (List.mem_of_getElem? (i := 99) rfl)))) (mvT hZ (hw _ (List.mem_of_getElem? (i := 99) rfl))) (mvT hZ (hw _ (List.mem_of_getElem? (i := 98) rfl))) (by decide) (backOf (W := 0) (rmSE_s l Z a0 hw [] ta h0 n0 Z0 ) hZ (hw _ (List.mem_of_getElem? (i := 100) rfl)) (hw _ (List.mem_of_getElem? (i := 9) rfl)) (by decide) (by decide)) q18_5a q18_5c (g := (mkF m 22 #[.val (.ref r0), .val (.ref r0), .val (.ref r0)] [(.ref ta), (.ref ta)])) rfl (by rw [hml]; rfl) (Steps.refl _) (argsL := [(.ref ta)]) (rest := []) (lenOf pd18_0 rfl) rfl (by show 2 * 0 + _ ≤ _; exact Nat.le_of_eq rfl) (hb hby d18_22) (fun _ _ => ⟨rfl, e18_4, (by decide : 0 + 0 ≤ _), (by decide : 0 + 0 ≤ _)⟩)
  dsimp only [Pt.U, Pt.locs, Pt.cells, Pt.slots] at X18_5 l18_5 y18_5 z18_5 st18_5 hQ18_5
  subst l18_5 y18_5 z18_5
  obtain ⟨rfl, N18_5q, e18_5⟩ := hQ18_5
  have N18_5 := Fr.app N0 N18_5q
  refine own_fw (fun t k => st18_5.trans k) ?_
  refine own_fw (A := T18_5.setTop (mkF m 29 #[.val (.ref r0), .val (.ref r0), .val (.ref r0)] [(.ref r0)])) (fun t k => ?_) ?_
  · show Steps p.tables e below (T18_5.setTop (mkF m 25 #[.val (.ref r0), .val (.ref r0), .val (.ref r0)] [(.int (1 : Int32))])) t
    refine XS.ifNo X18_5.here hx rfl (hb hby d18_25) rfl ((if0 _ _).trans (feq (by decide : ¬ ((1 : Int32) = (0 : Int32)))).1) ?_
    show Steps p.tables e below (T18_5.setTop (mkF m 28 #[.val (.ref r0), .val (.ref r0), .val (.ref r0)] [])) t
    refine XS.aloadN X18_5.here hx rfl (hb hby d18_28) rfl rfl ?_
    exact k
  obtain ⟨T18_6, X18_6, e18_6, st18_6⟩ := getF X18_5 hx hZ hown (host := "") (Or.inl (hw _ (List.mem_of_getElem? (i := 55) rfl))) Via.refl e18_5 Fva (g := (mkF m 29 #[.val (.ref r0), .val (.ref r0), .val (.ref r0)] [(.ref r0)])) rfl rfl (hb hby d18_29)
  refine own_fw st18_6 ?_
  refine own_fw (A := T18_6.setTop (mkF m 33 #[.val (.ref r0), .val (.ref r0), .val (.ref r0)] [(.ref r0), (.ref ua)])) (fun t k => ?_) ?_
  · show Steps p.tables e below (T18_6.setTop (mkF m 32 #[.val (.ref r0), .val (.ref r0), .val (.ref r0)] [(.ref ua)])) t
    refine XS.aloadN X18_6.here hx rfl (hb hby d18_32) rfl rfl ?_
    exact k
  obtain ⟨T18_7, X18_7, e18_7, st18_7⟩ := getF X18_6 hx hZ hown (host := "") (Or.inl (hw _ (List.mem_of_getElem? (i := 55) rfl))) Via.refl e18_6 Fva (g := (mkF m 33 #[.val (.ref r0), .val (.ref r0), .val (.ref r0)] [(.ref r0), (.ref ua)])) rfl rfl (hb hby d18_33)
  refine own_fw st18_7 ?_
  obtain ⟨cq18_8, kq18_8, q18_8a, q18_8b, q18_8c⟩ := isOf hZ e18_7 E_u
  obtain ⟨_, _, ⟨T18_8, L18_8, k18_8, n18_8⟩, -, X18_8, ⟨Lc18_8, hQ18_8, l18_8, y18_8, z18_8⟩, st18_8⟩ := X18_7.virtualBack hx (y := (⟨"java/lang/String", "equals", "(Ljava/lang/Object;)Z"⟩ : MethodName)) (z := (⟨"java/lang/String", "equals", "(Ljava/lang/Object;)Z"⟩ : MethodName)) hown (mvT hZ (hw _ (List.mem_of_getElem? (i := 96) rfl))) (mvT hZ (hw _ (List.mem_of_getElem? (i := 97) rfl))) (notFace_of_selects (args := #[]) (mvT hZ (hw _ (List.mem_of_getElem? (i := 99) rfl)))) (mvT hZ (hw _ (List.mem_of_getElem? (i := 99) rfl))) (mvT hZ (hw _ (List.mem_of_getElem? (i := 98) rfl))) (by decide) (backOf (W := 0) (rmSE_s l Z a0 hw [] ua h0 n0 Z0 ) hZ (hw _ (List.mem_of_getElem? (i := 100) rfl)) (hw _ (List.mem_of_getElem? (i := 9) rfl)) (by decide) (by decide)) q18_8a q18_8c (g := (mkF m 36 #[.val (.ref r0), .val (.ref r0), .val (.ref r0)] [(.ref ua), (.ref ua)])) rfl (by rw [hml]; rfl) (Steps.refl _) (argsL := [(.ref ua)]) (rest := []) (lenOf pd18_0 rfl) rfl (by show 2 * 0 + _ ≤ _; exact Nat.le_of_eq rfl) (hb hby d18_36) (fun _ _ => ⟨rfl, e18_7, (by decide : 0 + 0 ≤ _), (by decide : 0 + 0 ≤ _)⟩)
  dsimp only [Pt.U, Pt.locs, Pt.cells, Pt.slots] at X18_8 l18_8 y18_8 z18_8 st18_8 hQ18_8
  subst l18_8 y18_8 z18_8
  obtain ⟨rfl, N18_8q, e18_8⟩ := hQ18_8
  have N18_8 := Fr.app N18_5 N18_8q
  refine own_fw (fun t k => st18_8.trans k) ?_
  refine own_fw (A := T18_8.setTop (mkF m 47 #[.val (.ref r0), .val (.ref r0), .val (.ref r0)] [(.int (1 : Int32))])) (fun t k => ?_) ?_
  · show Steps p.tables e below (T18_8.setTop (mkF m 39 #[.val (.ref r0), .val (.ref r0), .val (.ref r0)] [(.int (1 : Int32))])) t
    refine XS.ifNo X18_8.here hx rfl (hb hby d18_39) rfl ((if0 _ _).trans (feq (by decide : ¬ ((1 : Int32) = (0 : Int32)))).1) ?_
    show Steps p.tables e below (T18_8.setTop (mkF m 42 #[.val (.ref r0), .val (.ref r0), .val (.ref r0)] [])) t
    refine XS.iconst X18_8.here hx rfl (hb hby d18_42) ?_
    show Steps p.tables e below (T18_8.setTop (mkF m 43 #[.val (.ref r0), .val (.ref r0), .val (.ref r0)] [(.int (1 : Int32))])) t
    refine XS.goto X18_8.here hx rfl (pc0 := 43) (pc' := 47) rfl (hb hby d18_43) (by decide) (by decide) ?_
    exact k
  obtain ⟨fs, hr, hrun, hended, hW, hsame⟩ := X18_8.leave (v := some (.int (nar .boolean (1 : Int32)))) (own_ret Bd.returns) (BodyLoose.notSynchronized Bd)
  refine ⟨_, _, retN X18_8 hx (t := .boolean) Bd.returns (by simp) (hb hby d18_47) hr, hrun, hended, _, _, rfl, ?_, ⟨_, rfl⟩, hW, hsame.mono (by decide) (by decide)⟩
  have eh : (T18_8.setFrames fs).heap = h0 := e18_8
  rw [eh]
  exact ⟨rfl, N18_8, rfl⟩
def f_both (c1 c2 c3 c4 : List Int32) : Int32 := if f_eq c1 c3 = 0 then 0 else if f_eq c2 c4 = 0 then 0 else 1
set_option maxRecDepth 65536 in
set_option maxHeartbeats 40000000 in
theorem rmAE_d (l : Launch) (Z : State) (a0 : Array Value) (hw : ∀ d ∈ tables_1, d.before a0 Z = true) (ws : List Jvm.Cond) (r0 : Addr) (r1 : Addr) (ta : Addr) (ua : Addr) (tb : Addr) (ub : Addr) (v1 : Addr) (v2 : Addr) (v3 : Addr) (v4 : Addr) (k1 : ClassId) (k2 : ClassId) (k3 : ClassId) (k4 : ClassId) (c1 : List Int32) (c2 : List Int32) (c3 : List Int32) (c4 : List Int32) (cc : Int32) (h0 : Heap) (n0 : Nat) (Z0 : n0 ≤ h0.size) (Ea : Exa Z h0 r0 "com/example/access_decision/accessdecision/AclRight") (Fta : Fld Z h0 r0 "com/example/access_decision/accessdecision/AclRight" "tag" "Ljava/lang/String;" (.ref ta)) (Fva : Fld Z h0 r0 "com/example/access_decision/accessdecision/AclRight" "value" "Ljava/lang/String;" (.ref ua)) (Eb : Exa Z h0 r1 "com/example/access_decision/accessdecision/AclRight") (Ftb : Fld Z h0 r1 "com/example/access_decision/accessdecision/AclRight" "tag" "Ljava/lang/String;" (.ref tb)) (Fvb : Fld Z h0 r1 "com/example/access_decision/accessdecision/AclRight" "value" "Ljava/lang/String;" (.ref ub)) (E1 : Exa Z h0 ta "java/lang/String") (Sv1 : Fld Z h0 ta "java/lang/String" "value" "[B" (.ref v1)) (Sc1 : Fld Z h0 ta "java/lang/String" "coder" "B" (.int 0)) (V1 : Arv Z h0 v1 k1 .byte (Int32.ofNat c1.length) (c1.map Value.int) (.int 0)) (l1 : c1.length ≤ 2) (E2 : Exa Z h0 ua "java/lang/String") (Sv2 : Fld Z h0 ua "java/lang/String" "value" "[B" (.ref v2)) (Sc2 : Fld Z h0 ua "java/lang/String" "coder" "B" (.int 0)) (V2 : Arv Z h0 v2 k2 .byte (Int32.ofNat c2.length) (c2.map Value.int) (.int 0)) (l2 : c2.length ≤ 2) (E3 : Exa Z h0 tb "java/lang/String") (Sv3 : Fld Z h0 tb "java/lang/String" "value" "[B" (.ref v3)) (Sc3 : Fld Z h0 tb "java/lang/String" "coder" "B" (.int 0)) (V3 : Arv Z h0 v3 k3 .byte (Int32.ofNat c3.length) (c3.map Value.int) (.int 0)) (l3 : c3.length ≤ 2) (E4 : Exa Z h0 ub "java/lang/String") (Sv4 : Fld Z h0 ub "java/lang/String" "value" "[B" (.ref v4)) (Sc4 : Fld Z h0 ub "java/lang/String" "coder" "B" (.int 0)) (V4 : Arv Z h0 v4 k4 .byte (Int32.ofNat c4.length) (c4.map Value.int) (.int 0)) (l4 : c4.length ≤ 2) (n13 : ta ≠ tb) (n24 : ua ≠ ub) (O_0 : Old Z n0 h0) (S_c : Sta Z Z.heap "java/lang/String" "COMPACT_STRINGS" "Z" (.int cc)) (hcc : ¬ cc = (0 : Int32)) :
    MetFree l (⟨"com/example/access_decision/accessdecision/AclRight", "equals", "(Ljava/lang/Object;)Z"⟩ : MethodName) (head1 (Jvm.Cond.code (⟨"com/example/access_decision/accessdecision/AclRight", "equals", "(Ljava/lang/Object;)Z"⟩ : MethodName) prog_3_method_4_code 3 (some .boolean) :: ws) ({ frames := 2, cells := 0, slots := 0, locals := 60 } : Room)) (fun a U => a = #[(.ref r0), (.ref r1)] ∧ Z.Warmed39 U.vm ∧ U.heap = h0) (fun _ _ _ _ _ => True) (fun _ U o U' => ∃ v L, o = .returned v ∧ Q18 Z (f_both c1 c2 c3 c4) h0 n0 v U'.heap L ∧ FrameEnd U o U' L ({ frames := 2, cells := 0, slots := 0, locals := 60 } : Room).cells ({ frames := 2, cells := 0, slots := 0, locals := 60 } : Room).slots) := by
  refine MetFree.of_bodySF (plainFor_of_name pn18) hisR ?_
  intro p e s m args below meth c s₁ Bd hml0 hP hK
  obtain ⟨rfl, hZ, hh⟩ := hP
  have hx := Bd.exec
  have hby := Bd.bytes
  have hml : c.maxLocals = 3 := hml0
  have hown : s.vm.findClass "com/example/access_decision/accessdecision/AclRight" = some m.cls := findClass_of_methodNamed Bd.named
  have hnm := (name_of_methodNamed Bd.named Bd.method).1
  have X0 : Stand p l e ({ frames := 2, cells := 0, slots := 0, locals := 60 } : Room) s m #[(.ref r0), (.ref r1)] below meth c s₁ [] 0 0 := Stand.of_body Bd
  have e0 : s₁.heap = h0 := by rw [← hh, Bd.state]; rfl
  have N0 := Fr.nil n0
  refine own_fw (A := s₁.setTop (mkF m 0 #[.val (.ref r0), .val (.ref r1), .unset] [])) (fun t k => castTop (ef18 m r0 r1) k) ?_
  refine own_fw (A := s₁.setTop (mkF m 1 #[.val (.ref r0), .val (.ref r1), .unset] [(.ref r1)])) (fun t k => ?_) ?_
  · show Steps p.tables e below (s₁.setTop (mkF m 0 #[.val (.ref r0), .val (.ref r1), .unset] [])) t
    refine XS.aloadN X0.here hx rfl (hb hby d18_0) rfl rfl ?_
    exact k
  obtain ⟨T18_1, X18_1, e18_1, st18_1⟩ := instY X0 hx hZ hown (hw _ (List.mem_of_getElem? (i := 94) rfl)) e0 (Ins.self Eb) (g := (mkF m 1 #[.val (.ref r0), .val (.ref r1), .unset] [(.ref r1)])) rfl rfl (hb hby d18_1)
  refine own_fw st18_1 ?_
  refine own_fw (A := T18_1.setTop (mkF m 10 #[.val (.ref r0), .val (.ref r1), .unset] [(.ref r1)])) (fun t k => ?_) ?_
  · show Steps p.tables e below (T18_1.setTop (mkF m 4 #[.val (.ref r0), .val (.ref r1), .unset] [(.int (1 : Int32))])) t
    refine XS.ifYes X18_1.here hx rfl (pc0 := 4) (pc' := 9) rfl (hb hby d18_4) rfl ((if0 _ _).trans (feq (by decide : ¬ ((1 : Int32) = (0 : Int32)))).2) (by decide) (by decide) ?_
    show Steps p.tables e below (T18_1.setTop (mkF m 9 #[.val (.ref r0), .val (.ref r1), .unset] [])) t
    refine XS.aloadN X18_1.here hx rfl (hb hby d18_9) rfl rfl ?_
    exact k
  obtain ⟨T18_2, X18_2, e18_2, st18_2⟩ := castY X18_1 hx hZ hown (hw _ (List.mem_of_getElem? (i := 94) rfl)) e18_1 (Ins.self Eb) (g := (mkF m 10 #[.val (.ref r0), .val (.ref r1), .unset] [(.ref r1)])) rfl rfl (hb hby d18_10)
  refine own_fw st18_2 ?_
  refine own_fw (A := T18_2.setTop (mkF m 15 #[.val (.ref r0), .val (.ref r1), .val (.ref r1)] [(.ref r0)])) (fun t k => ?_) ?_
  · show Steps p.tables e below (T18_2.setTop (mkF m 13 #[.val (.ref r0), .val (.ref r1), .unset] [(.ref r1)])) t
    refine XS.astoreN X18_2.here hx rfl (hb hby d18_13) rfl rfl (l' := #[.val (.ref r0), .val (.ref r1), .val (.ref r1)]) rfl ?_
    show Steps p.tables e below (T18_2.setTop (mkF m 14 #[.val (.ref r0), .val (.ref r1), .val (.ref r1)] [])) t
    refine XS.aloadN X18_2.here hx rfl (hb hby d18_14) rfl rfl ?_
    exact k
  obtain ⟨T18_3, X18_3, e18_3, st18_3⟩ := getF X18_2 hx hZ hown (host := "") (Or.inl (hw _ (List.mem_of_getElem? (i := 53) rfl))) Via.refl e18_2 Fta (g := (mkF m 15 #[.val (.ref r0), .val (.ref r1), .val (.ref r1)] [(.ref r0)])) rfl rfl (hb hby d18_15)
  refine own_fw st18_3 ?_
  refine own_fw (A := T18_3.setTop (mkF m 19 #[.val (.ref r0), .val (.ref r1), .val (.ref r1)] [(.ref r1), (.ref ta)])) (fun t k => ?_) ?_
  · show Steps p.tables e below (T18_3.setTop (mkF m 18 #[.val (.ref r0), .val (.ref r1), .val (.ref r1)] [(.ref ta)])) t
    refine XS.aloadN X18_3.here hx rfl (hb hby d18_18) rfl rfl ?_
    exact k
  obtain ⟨T18_4, X18_4, e18_4, st18_4⟩ := getF X18_3 hx hZ hown (host := "") (Or.inl (hw _ (List.mem_of_getElem? (i := 53) rfl))) Via.refl e18_3 Ftb (g := (mkF m 19 #[.val (.ref r0), .val (.ref r1), .val (.ref r1)] [(.ref r1), (.ref ta)])) rfl rfl (hb hby d18_19)
  refine own_fw st18_4 ?_
  obtain ⟨cq18_5, kq18_5, q18_5a, q18_5b, q18_5c⟩ := isOf hZ e18_4 E1
  obtain ⟨_, _, ⟨T18_5, L18_5, k18_5, n18_5⟩, -, X18_5, ⟨Lc18_5, hQ18_5, l18_5, y18_5, z18_5⟩, st18_5⟩ := X18_4.virtualBack hx (y := (⟨"java/lang/String", "equals", "(Ljava/lang/Object;)Z"⟩ : MethodName)) (z := (⟨"java/lang/String", "equals", "(Ljava/lang/Object;)Z"⟩ : MethodName)) hown (mvT hZ (hw _ (List.mem_of_getElem? (i := 96) rfl))) (mvT hZ (hw _ (List.mem_of_getElem? (i := 97) rfl))) (notFace_of_selects (args := #[]) (mvT hZ (hw _ (List.mem_of_getElem? (i := 99) rfl)))) (mvT hZ (hw _ (List.mem_of_getElem? (i := 99) rfl))) (mvT hZ (hw _ (List.mem_of_getElem? (i := 98) rfl))) (by decide) (backOf (W := 0) (rmSE_d l Z a0 hw [] ta tb v1 v3 k1 k3 c1 c3 cc h0 n0 Z0 E1 Sv1 Sc1 V1 E3 Sv3 Sc3 V3 l1 l3 n13 O_0 S_c hcc) hZ (hw _ (List.mem_of_getElem? (i := 100) rfl)) (hw _ (List.mem_of_getElem? (i := 9) rfl)) (by decide) (by decide)) q18_5a q18_5c (g := (mkF m 22 #[.val (.ref r0), .val (.ref r1), .val (.ref r1)] [(.ref tb), (.ref ta)])) rfl (by rw [hml]; rfl) (Steps.refl _) (argsL := [(.ref tb)]) (rest := []) (lenOf pd18_0 rfl) rfl (by show 2 * 0 + _ ≤ _; exact Nat.le_of_eq rfl) (hb hby d18_22) (fun _ _ => ⟨rfl, e18_4, (by decide : 0 + 0 ≤ _), (by decide : 0 + 0 ≤ _)⟩)
  dsimp only [Pt.U, Pt.locs, Pt.cells, Pt.slots] at X18_5 l18_5 y18_5 z18_5 st18_5 hQ18_5
  subst l18_5 y18_5 z18_5
  obtain ⟨rfl, N18_5q, e18_5⟩ := hQ18_5
  have N18_5 := Fr.app N0 N18_5q
  refine own_fw (fun t k => st18_5.trans k) ?_
  by_cases hc18_1 : (f_eq c1 c3) = (0 : Int32)
  · refine own_fw (A := T18_5.setTop (mkF m 46 #[.val (.ref r0), .val (.ref r1), .val (.ref r1)] [])) (fun t k => ?_) ?_
    · show Steps p.tables e below (T18_5.setTop (mkF m 25 #[.val (.ref r0), .val (.ref r1), .val (.ref r1)] [(.int (f_eq c1 c3))])) t
      refine XS.ifYes X18_5.here hx rfl (pc0 := 25) (pc' := 46) rfl (hb hby d18_25) rfl ((if0 _ _).trans (teq hc18_1).1) (by decide) (by decide) ?_
      exact k
    refine own_fw (A := T18_5.setTop (mkF m 47 #[.val (.ref r0), .val (.ref r1), .val (.ref r1)] [(.int (0 : Int32))])) (fun t k => ?_) ?_
    · show Steps p.tables e below (T18_5.setTop (mkF m 46 #[.val (.ref r0), .val (.ref r1), .val (.ref r1)] [])) t
      refine XS.iconst X18_5.here hx rfl (hb hby d18_46) ?_
      exact k
    obtain ⟨fs, hr, hrun, hended, hW, hsame⟩ := X18_5.leave (v := some (.int (nar .boolean (0 : Int32)))) (own_ret Bd.returns) (BodyLoose.notSynchronized Bd)
    refine ⟨_, _, retN X18_5 hx (t := .boolean) Bd.returns (by simp) (hb hby d18_47) hr, hrun, hended, _, _, rfl, ?_, ⟨_, rfl⟩, hW, hsame.mono (by decide) (by decide)⟩
    have eh : (T18_5.setFrames fs).heap = h0 := e18_5
    rw [eh]
    exact ⟨by rw [f_both, if_pos hc18_1]; rfl, N18_5, rfl⟩
  · refine own_fw (A := T18_5.setTop (mkF m 28 #[.val (.ref r0), .val (.ref r1), .val (.ref r1)] [])) (fun t k => ?_) ?_
    · show Steps p.tables e below (T18_5.setTop (mkF m 25 #[.val (.ref r0), .val (.ref r1), .val (.ref r1)] [(.int (f_eq c1 c3))])) t
      refine XS.ifNo X18_5.here hx rfl (hb hby d18_25) rfl ((if0 _ _).trans (feq hc18_1).1) ?_
      exact k
    refine own_fw (A := T18_5.setTop (mkF m 29 #[.val (.ref r0), .val (.ref r1), .val (.ref r1)] [(.ref r0)])) (fun t k => ?_) ?_
    · show Steps p.tables e below (T18_5.setTop (mkF m 28 #[.val (.ref r0), .val (.ref r1), .val (.ref r1)] [])) t
      refine XS.aloadN X18_5.here hx rfl (hb hby d18_28) rfl rfl ?_
      exact k
    obtain ⟨T18_6, X18_6, e18_6, st18_6⟩ := getF X18_5 hx hZ hown (host := "") (Or.inl (hw _ (List.mem_of_getElem? (i := 55) rfl))) Via.refl e18_5 Fva (g := (mkF m 29 #[.val (.ref r0), .val (.ref r1), .val (.ref r1)] [(.ref r0)])) rfl rfl (hb hby d18_29)
    refine own_fw st18_6 ?_
    refine own_fw (A := T18_6.setTop (mkF m 33 #[.val (.ref r0), .val (.ref r1), .val (.ref r1)] [(.ref r1), (.ref ua)])) (fun t k => ?_) ?_
    · show Steps p.tables e below (T18_6.setTop (mkF m 32 #[.val (.ref r0), .val (.ref r1), .val (.ref r1)] [(.ref ua)])) t
      refine XS.aloadN X18_6.here hx rfl (hb hby d18_32) rfl rfl ?_
      exact k
    obtain ⟨T18_7, X18_7, e18_7, st18_7⟩ := getF X18_6 hx hZ hown (host := "") (Or.inl (hw _ (List.mem_of_getElem? (i := 55) rfl))) Via.refl e18_6 Fvb (g := (mkF m 33 #[.val (.ref r0), .val (.ref r1), .val (.ref r1)] [(.ref r1), (.ref ua)])) rfl rfl (hb hby d18_33)
    refine own_fw st18_7 ?_
    obtain ⟨cq18_8, kq18_8, q18_8a, q18_8b, q18_8c⟩ := isOf hZ e18_7 E2
    obtain ⟨_, _, ⟨T18_8, L18_8, k18_8, n18_8⟩, -, X18_8, ⟨Lc18_8, hQ18_8, l18_8, y18_8, z18_8⟩, st18_8⟩ := X18_7.virtualBack hx (y := (⟨"java/lang/String", "equals", "(Ljava/lang/Object;)Z"⟩ : MethodName)) (z := (⟨"java/lang/String", "equals", "(Ljava/lang/Object;)Z"⟩ : MethodName)) hown (mvT hZ (hw _ (List.mem_of_getElem? (i := 96) rfl))) (mvT hZ (hw _ (List.mem_of_getElem? (i := 97) rfl))) (notFace_of_selects (args := #[]) (mvT hZ (hw _ (List.mem_of_getElem? (i := 99) rfl)))) (mvT hZ (hw _ (List.mem_of_getElem? (i := 99) rfl))) (mvT hZ (hw _ (List.mem_of_getElem? (i := 98) rfl))) (by decide) (backOf (W := 0) (rmSE_d l Z a0 hw [] ua ub v2 v4 k2 k4 c2 c4 cc h0 n0 Z0 E2 Sv2 Sc2 V2 E4 Sv4 Sc4 V4 l2 l4 n24 O_0 S_c hcc) hZ (hw _ (List.mem_of_getElem? (i := 100) rfl)) (hw _ (List.mem_of_getElem? (i := 9) rfl)) (by decide) (by decide)) q18_8a q18_8c (g := (mkF m 36 #[.val (.ref r0), .val (.ref r1), .val (.ref r1)] [(.ref ub), (.ref ua)])) rfl (by rw [hml]; rfl) (Steps.refl _) (argsL := [(.ref ub)]) (rest := []) (lenOf pd18_0 rfl) rfl (by show 2 * 0 + _ ≤ _; exact Nat.le_of_eq rfl) (hb hby d18_36) (fun _ _ => ⟨rfl, e18_7, (by decide : 0 + 0 ≤ _), (by decide : 0 + 0 ≤ _)⟩)
    dsimp only [Pt.U, Pt.locs, Pt.cells, Pt.slots] at X18_8 l18_8 y18_8 z18_8 st18_8 hQ18_8
    subst l18_8 y18_8 z18_8
    obtain ⟨rfl, N18_8q, e18_8⟩ := hQ18_8
    have N18_8 := Fr.app N18_5 N18_8q
    refine own_fw (fun t k => st18_8.trans k) ?_
    by_cases hc18_2 : (f_eq c2 c4) = (0 : Int32)
    · refine own_fw (A := T18_8.setTop (mkF m 46 #[.val (.ref r0), .val (.ref r1), .val (.ref r1)] [])) (fun t k => ?_) ?_
      · show Steps p.tables e below (T18_8.setTop (mkF m 39 #[.val (.ref r0), .val (.ref r1), .val (.ref r1)] [(.int (f_eq c2 c4))])) t
        refine XS.ifYes X18_8.here hx rfl (pc0 := 39) (pc' := 46) rfl (hb hby d18_39) rfl ((if0 _ _).trans (teq hc18_2).1) (by decide) (by decide) ?_
        exact k
      refine own_fw (A := T18_8.setTop (mkF m 47 #[.val (.ref r0), .val (.ref r1), .val (.ref r1)] [(.int (0 : Int32))])) (fun t k => ?_) ?_
      · show Steps p.tables e below (T18_8.setTop (mkF m 46 #[.val (.ref r0), .val (.ref r1), .val (.ref r1)] [])) t
        refine XS.iconst X18_8.here hx rfl (hb hby d18_46) ?_
        exact k
      obtain ⟨fs, hr, hrun, hended, hW, hsame⟩ := X18_8.leave (v := some (.int (nar .boolean (0 : Int32)))) (own_ret Bd.returns) (BodyLoose.notSynchronized Bd)
      refine ⟨_, _, retN X18_8 hx (t := .boolean) Bd.returns (by simp) (hb hby d18_47) hr, hrun, hended, _, _, rfl, ?_, ⟨_, rfl⟩, hW, hsame.mono (by decide) (by decide)⟩
      have eh : (T18_8.setFrames fs).heap = h0 := e18_8
      rw [eh]
      exact ⟨by rw [f_both, if_neg hc18_1, if_pos hc18_2]; rfl, N18_8, rfl⟩
    · refine own_fw (A := T18_8.setTop (mkF m 42 #[.val (.ref r0), .val (.ref r1), .val (.ref r1)] [])) (fun t k => ?_) ?_
      · show Steps p.tables e below (T18_8.setTop (mkF m 39 #[.val (.ref r0), .val (.ref r1), .val (.ref r1)] [(.int (f_eq c2 c4))])) t
        refine XS.ifNo X18_8.here hx rfl (hb hby d18_39) rfl ((if0 _ _).trans (feq hc18_2).1) ?_
        exact k
      refine own_fw (A := T18_8.setTop (mkF m 47 #[.val (.ref r0), .val (.ref r1), .val (.ref r1)] [(.int (1 : Int32))])) (fun t k => ?_) ?_
      · show Steps p.tables e below (T18_8.setTop (mkF m 42 #[.val (.ref r0), .val (.ref r1), .val (.ref r1)] [])) t
        refine XS.iconst X18_8.here hx rfl (hb hby d18_42) ?_
        show Steps p.tables e below (T18_8.setTop (mkF m 43 #[.val (.ref r0), .val (.ref r1), .val (.ref r1)] [(.int (1 : Int32))])) t
        refine XS.goto X18_8.here hx rfl (pc0 := 43) (pc' := 47) rfl (hb hby d18_43) (by decide) (by decide) ?_
        exact k
      obtain ⟨fs, hr, hrun, hended, hW, hsame⟩ := X18_8.leave (v := some (.int (nar .boolean (1 : Int32)))) (own_ret Bd.returns) (BodyLoose.notSynchronized Bd)
      refine ⟨_, _, retN X18_8 hx (t := .boolean) Bd.returns (by simp) (hb hby d18_47) hr, hrun, hended, _, _, rfl, ?_, ⟨_, rfl⟩, hW, hsame.mono (by decide) (by decide)⟩
      have eh : (T18_8.setFrames fs).heap = h0 := e18_8
      rw [eh]
      exact ⟨by rw [f_both, if_neg hc18_1, if_neg hc18_2]; rfl, N18_8, rfl⟩
def PS (Z : State) (vm : Vm) (h : Heap) : Prop := IB Z vm [] ∨ ∃ (a b : Addr) (k : ClassId), Lit (Z.setVm vm) "java/lang/String" 7 a ∧ Exa Z h a "java/lang/String" ∧ Fld Z h a "java/lang/String" "coder" "B" (.int 0) ∧ Fld Z h a "java/lang/String" "value" "[B" (.ref b) ∧ Arv Z h b k .byte 0 [] (.int 0)
theorem own_ibw {Z s : State} {vm : Vm} {Ts : List String} (I : IB Z s.vm Ts) (hW : s.WarmedH vm) : IB Z vm Ts := by
  obtain ⟨more, h1, h2⟩ := I
  refine ⟨more, ?_, h2⟩
  rw [hW.1]
  exact h1
theorem own_litw {Z s : State} {vm : Vm} {a : Addr} (L : Lit s "java/lang/String" 7 a) (hW : s.WarmedH vm) : Lit (Z.setVm vm) "java/lang/String" 7 a :=
  Lit.stays (s := s) (vm0 := s.vm) (vm1 := vm) L hW.wide
theorem own_psw {Z s : State} {vm : Vm} {h : Heap} (P : PS Z s.vm h) (hW : s.WarmedH vm) : PS Z vm h := by
  rcases P with I | ⟨a, b, k, L, r⟩
  · exact Or.inl (own_ibw I hW)
  · exact Or.inr ⟨a, b, k, own_litw (s := s) L hW, r⟩
theorem own_backS {l : Launch} {R : Room} {p : Program} {e : Env} {below : List Frame} {s Z : State} {args a0 : Array Value} {h : Heap} {y : MethodName} {bytes : ByteArray} {maxL : Nat} {ret : Option FieldType} {rm : Room} {len W : Nat} {as' : Array Value} {G : Vm → Prop} {Q : Option Value → Vm → Heap → List Loc → Prop}
    (hM : MetFree l y (head1 [Cond.code y bytes maxL ret] rm) (fun a U => a = as' ∧ Z.Warmed39 U.vm ∧ U.heap = h ∧ G U.vm) (fun _ _ _ _ _ => True) (fun _ U o U' => ∃ v L, o = .returned v ∧ Q v U'.vm U'.heap L ∧ ReturnedEndW U o U' L rm.cells rm.slots))
    (hZ : Z.Warmed39 s.vm) (wc : (Cond.code y bytes maxL ret).before a0 Z = true) (wz : (Cond.initialized y.cls).before a0 Z = true) (hf : rm.frames + 1 ≤ R.frames) (hl : W + (maxL + 11) + rm.locals ≤ R.locals) :
    BackS l R p e below s args y len W (fun A a => a = as' ∧ A.U.heap = h ∧ G A.U.vm ∧ A.cells + rm.cells ≤ R.cells ∧ A.slots + rm.slots ≤ R.slots)
      (fun A _ v B => ∃ L, Q v B.U.vm B.U.heap L ∧ B.locs = A.locs ++ L ∧ B.cells = A.cells + rm.cells ∧ B.slots = A.slots + rm.slots) :=
  BackS.of_freeW (bytes := bytes) (maxL := maxL) (ret := ret) (E := fun _ _ o t L k n => k = rm.cells ∧ n = rm.slots ∧ ∃ v, o = .returned v ∧ Q v t.vm t.heap L) hM hf hl
    (fun m meth c A a Y hp => have hU : Z.Warmed39 A.U.vm := wtrans hZ Y.warmed
      ⟨by show (Cond.and _ .tt).before a A.U = true; rw [Cond.before_and, mv hU wc]; rfl, mv hU wc, mv hU wz, hp.2.2.2.1, hp.2.2.2.2⟩)
    (fun m meth c A a g mk Y hp => ⟨hp.1, wtrans hZ Y.warmed, hp.2.1, hp.2.2.1⟩) (fun _ _ _ _ _ _ _ _ _ => trivial)
    (fun _ _ _ _ ⟨v, L, h1, h2, h3⟩ => ⟨L, _, _, h3, rfl, rfl, v, h1, h2⟩)
    (fun m meth c A a g mk v t L k n Y hp _ _ ⟨e1, e2, v', e3, e4⟩ => by cases e3; subst e1 e2; exact ⟨L, e4, rfl, rfl, rfl⟩)
theorem own_monoW {s t : State} {o : Outcome} {L : List Loc} {k n k' n' : Nat} (h : ReturnedEndW s o t L k n) (h1 : k ≤ k') (h2 : n ≤ n') : ReturnedEndW s o t L k' n' := ⟨h.1, h.2.1, h.2.2.1, h.2.2.2.mono h1 h2⟩
theorem own_psk {Z : State} {vm : Vm} {h h' : Heap} (P : PS Z vm h) (K : Keep h h' []) : PS Z vm h' := by
  rcases P with I | ⟨a, b, k, L, e, f, g, v⟩
  · exact Or.inl I
  · exact Or.inr ⟨a, b, k, L, e.keep K, f.keep K nin0, g.keep K nin0, v.keep K nin0⟩
theorem own_wS {Z : State} {a0 : Array Value} (hw : ∀ d ∈ tables_1, d.before a0 Z = true) : ∀ a ∈ Bundle.stringAtoms, a.before a0 Z = true := by
  intro a ha
  simp only [Bundle.stringAtoms, List.mem_cons, List.not_mem_nil, or_false] at ha
  rcases ha with rfl | rfl | rfl | rfl | rfl | rfl | rfl
  · exact (hw _ (List.mem_of_getElem? (i := 9) rfl))
  · exact (hw _ (List.mem_of_getElem? (i := 8) rfl))
  · exact (hw _ (List.mem_of_getElem? (i := 22) rfl))
  · exact (hw _ (List.mem_of_getElem? (i := 23) rfl))
  · exact (hw _ (List.mem_of_getElem? (i := 24) rfl))
  · exact (hw _ (List.mem_of_getElem? (i := 25) rfl))
  · exact (hw _ (List.mem_of_getElem? (i := 26) rfl))
def QW4 (Z : State) (r0 : Addr) (h0 : Heap) (n0 : Nat) (w : Option Value) (vm : Vm) (h : Heap) (L : List Loc) : Prop := ∃ b k, w = none ∧ Fr n0 L ∧ Keep h0 h [r0] ∧ Exa Z h r0 "java/lang/String" ∧ Fld Z h r0 "java/lang/String" "value" "[B" (.ref b) ∧ Fld Z h r0 "java/lang/String" "coder" "B" (.int 0) ∧ Fld Z h r0 "java/lang/String" "hash" "I" (.int 0) ∧ Fld Z h r0 "java/lang/String" "hashIsZero" "Z" (.int 0) ∧ Arv Z h b k .byte 0 [] (.int 0) ∧ PS Z vm h ∧ b ≠ r0
def QW3 (Z : State) (r0 : Addr) (h0 : Heap) (n0 : Nat) (w : Option Value) (vm : Vm) (h : Heap) (L : List Loc) : Prop := ∃ b k, w = none ∧ Fr n0 L ∧ Keep h0 h [r0] ∧ Exa Z h r0 "java/lang/String" ∧ Fld Z h r0 "java/lang/String" "value" "[B" (.ref b) ∧ Fld Z h r0 "java/lang/String" "coder" "B" (.int 0) ∧ Fld Z h r0 "java/lang/String" "hash" "I" (.int 0) ∧ Fld Z h r0 "java/lang/String" "hashIsZero" "Z" (.int 0) ∧ Arv Z h b k .byte 0 [] (.int 0) ∧ PS Z vm h ∧ b ≠ r0
set_option maxRecDepth 65536 in
set_option maxHeartbeats 40000000 in
theorem rmS4_0 (l : Launch) (Z : State) (a0 : Array Value) (hw : ∀ d ∈ tables_1, d.before a0 Z = true) (ws : List Jvm.Cond) (r0 : Addr) (r1 : Addr) (h0 : Heap) (n0 : Nat) (Z0 : n0 ≤ h0.size) (E : Exa Z h0 r0 "java/lang/String") (Svalu : Fld Z h0 r0 "java/lang/String" "value" "[B" .null) (Scode : Fld Z h0 r0 "java/lang/String" "coder" "B" (.int 0)) (Shash : Fld Z h0 r0 "java/lang/String" "hash" "I" (.int 0)) (Shz : Fld Z h0 r0 "java/lang/String" "hashIsZero" "Z" (.int 0)) (g_r0 : n0 ≤ r0) (O_0 : Old Z n0 h0) (hch : Jvm.Lit.constHeld Z "java/lang/String" 7) (hcw : Jvm.Lit.compactW.before a0 Z = true) :
    MetFree l (⟨"java/lang/String", "<init>", "([CIILjava/lang/Void;)V"⟩ : MethodName) (head1 (Jvm.Cond.code (⟨"java/lang/String", "<init>", "([CIILjava/lang/Void;)V"⟩ : MethodName) jdk_42_method_149_code 6 none :: ws) ({ frames := 1, cells := 2, slots := 4, locals := 12 } : Room)) (fun a U => a = #[(.ref r0), (.ref r1), (.int (0 : Int32)), (.int (0 : Int32)), .null] ∧ Z.Warmed39 U.vm ∧ U.heap = h0 ∧ PS Z U.vm h0) (fun _ _ _ _ _ => True) (fun _ U o U' => ∃ v L, o = .returned v ∧ QW4 Z r0 h0 n0 v U'.vm U'.heap L ∧ ReturnedEndW U o U' L ({ frames := 1, cells := 2, slots := 4, locals := 12 } : Room).cells ({ frames := 1, cells := 2, slots := 4, locals := 12 } : Room).slots) := by
  refine MetFree.of_bodySF (plainFor_of_name pn4) hisR ?_
  intro p e s m args below meth c s₁ Bd hml0 hP hK
  obtain ⟨rfl, hZ, hh, hG⟩ := hP
  have hx := Bd.exec
  have hby := Bd.bytes
  have hml : c.maxLocals = 6 := hml0
  have hown : s.vm.findClass "java/lang/String" = some m.cls := findClass_of_methodNamed Bd.named
  have hnm := (name_of_methodNamed Bd.named Bd.method).1
  have X0 : Stand p l e ({ frames := 1, cells := 2, slots := 4, locals := 12 } : Room) s m #[(.ref r0), (.ref r1), (.int (0 : Int32)), (.int (0 : Int32)), .null] below meth c s₁ [] 0 0 := Stand.of_body Bd
  have e0 : s₁.heap = h0 := by rw [← hh, Bd.state]; rfl
  have N0 := Fr.nil n0
  have hS0 : s.Since s.vm h0.size := (State.WarmedH.refl s).since _
  refine own_fw (A := s₁.setTop (mkF m 0 #[.val (.ref r0), .val (.ref r1), .val (.int (0 : Int32)), .val (.int (0 : Int32)), .val .null, .unset] [])) (fun t k => castTop (ef4 m r0 r1 (0 : Int32) (0 : Int32)) k) ?_
  rcases id hG with hI | ⟨ea, eb, ek, La, Ea, Fca, Fva, Vb⟩
  · refine own_fw (A := s₁.setTop (mkF m 1 #[.val (.ref r0), .val (.ref r1), .val (.int (0 : Int32)), .val (.int (0 : Int32)), .val .null, .unset] [(.ref r0)])) (fun t k => ?_) ?_
    · show Steps p.tables e below (s₁.setTop (mkF m 0 #[.val (.ref r0), .val (.ref r1), .val (.int (0 : Int32)), .val (.int (0 : Int32)), .val .null, .unset] [])) t
      refine XS.aloadN X0.here hx rfl (hb hby d4_0) rfl rfl ?_
      exact k
    obtain ⟨T4_1, X4_1, e4_1, st4_1⟩ := initO X0 hx hZ hown (hw _ (List.mem_of_getElem? (i := 18) rfl)) (hw _ (List.mem_of_getElem? (i := 19) rfl)) (hw _ (List.mem_of_getElem? (i := 20) rfl)) e0 (g := (mkF m 1 #[.val (.ref r0), .val (.ref r1), .val (.int (0 : Int32)), .val (.int (0 : Int32)), .val .null, .unset] [(.ref r0)])) rfl (by rw [hml]; rfl) rfl (hb hby d4_1) (by decide) (W := 0) (by show 2 * 0 + _ ≤ _; exact Nat.le_of_eq rfl) (by decide)
    refine own_fw st4_1 ?_
    refine own_fw (A := T4_1.setTop (mkF m 9 #[.val (.ref r0), .val (.ref r1), .val (.int (0 : Int32)), .val (.int (0 : Int32)), .val .null, .unset] [(.ref r0)])) (fun t k => ?_) ?_
    · show Steps p.tables e below (T4_1.setTop (mkF m 4 #[.val (.ref r0), .val (.ref r1), .val (.int (0 : Int32)), .val (.int (0 : Int32)), .val .null, .unset] [])) t
      refine XS.iloadN X4_1.here hx rfl (hb hby d4_4) rfl ?_
      show Steps p.tables e below (T4_1.setTop (mkF m 5 #[.val (.ref r0), .val (.ref r1), .val (.int (0 : Int32)), .val (.int (0 : Int32)), .val .null, .unset] [(.int (0 : Int32))])) t
      refine XS.ifNo X4_1.here hx rfl (hb hby d4_5) rfl ((if0 _ _).trans (teq (rfl : (0 : Int32) = (0 : Int32))).2) ?_
      show Steps p.tables e below (T4_1.setTop (mkF m 8 #[.val (.ref r0), .val (.ref r1), .val (.int (0 : Int32)), .val (.int (0 : Int32)), .val .null, .unset] [])) t
      refine XS.aloadN X4_1.here hx rfl (hb hby d4_8) rfl rfl ?_
      exact k
    obtain ⟨ea, T4_2, h4_2, k14_2, eb, ek, X4_2, e4_2, E4_2, hS4_2, hk4_2, hZ, hown, Ea, Fca, Fva, Vb, -, -, -, La, st4_2⟩ := ldcSVL (s := s) (vm0 := s.vm) X4_1 hx hZ hown (hw _ (List.mem_of_getElem? (i := 21) rfl)) (own_wS hw) e4_1 hS0 (Nat.le_refl _) (Fr.nil _) (fun b cl q => by rw [hh]; exact O_0.2.2 b cl q) hI (by simp) hch hcw (vs := []) (z := 0) ⟨by decide, rfl⟩ (by decide) rfl (g := (mkF m 9 #[.val (.ref r0), .val (.ref r1), .val (.int (0 : Int32)), .val (.int (0 : Int32)), .val .null, .unset] [(.ref r0)])) rfl (hb hby d4_9) (n := 0) (by decide) (by decide) (by decide) (by decide)
    have ne_ea : ea ≠ r0 := Fld.ne Fva (Svalu.ext E4_2) (by simp)
    have ne_eb : eb ≠ r0 := (Exa.neArv (E.ext E4_2) Vb (hw _ (List.mem_of_getElem? (i := 8) rfl))).symm
    refine own_fw st4_2 ?_
    obtain ⟨T4_3, X4_3, e4_3, st4_3⟩ := getF X4_2 hx hZ hown (host := "") (Or.inl (hw _ (List.mem_of_getElem? (i := 27) rfl))) Via.refl e4_2 Fva (g := (mkF m 11 #[.val (.ref r0), .val (.ref r1), .val (.int (0 : Int32)), .val (.int (0 : Int32)), .val .null, .unset] [(.ref ea), (.ref r0)])) rfl rfl (hb hby d4_11)
    refine own_fw st4_3 ?_
    obtain ⟨T4_4, h4_4, X4_4, e4_4, W4_4, st4_4⟩ := putF X4_3 hx hZ hown (host := "") (Or.inl (hw _ (List.mem_of_getElem? (i := 27) rfl))) Via.refl e4_3 (Svalu.ext E4_2) (E.ext E4_2) (Or.inr ⟨(hw _ (List.mem_of_getElem? (i := 23) rfl)), rfl, hnm⟩) (hw _ (List.mem_of_getElem? (i := 8) rfl)) (ty := (.array .byte)) (by decide) rfl rfl (g := (mkF m 14 #[.val (.ref r0), .val (.ref r1), .val (.int (0 : Int32)), .val (.int (0 : Int32)), .val .null, .unset] [(.ref eb), (.ref r0)])) rfl rfl (hb hby d4_14)
    have Fw4_4 := (Svalu.ext E4_2).same W4_4
    have N4_4 := Fr.snoc X4_4 N0 g_r0
    refine own_fw st4_4 ?_
    refine own_fw (A := T4_4.setTop (mkF m 18 #[.val (.ref r0), .val (.ref r1), .val (.int (0 : Int32)), .val (.int (0 : Int32)), .val .null, .unset] [(.ref r0)])) (fun t k => ?_) ?_
    · show Steps p.tables e below (T4_4.setTop (mkF m 17 #[.val (.ref r0), .val (.ref r1), .val (.int (0 : Int32)), .val (.int (0 : Int32)), .val .null, .unset] [])) t
      refine XS.aloadN X4_4.here hx rfl (hb hby d4_17) rfl rfl ?_
      exact k
    refine own_fw (ldcAgain (s := s) (vm0 := T4_2.vm) X4_4 hx hZ hown (hw _ (List.mem_of_getElem? (i := 21) rfl)) La (g := (mkF m 18 #[.val (.ref r0), .val (.ref r1), .val (.int (0 : Int32)), .val (.int (0 : Int32)), .val .null, .unset] [(.ref r0)])) rfl (hb hby d4_18)) ?_
    obtain ⟨T4_6, X4_6, e4_6, st4_6⟩ := getF X4_4 hx hZ hown (host := "") (Or.inl (hw _ (List.mem_of_getElem? (i := 28) rfl))) Via.refl e4_4 (Fca.other W4_4 (Or.inl ne_ea)) (g := (mkF m 20 #[.val (.ref r0), .val (.ref r1), .val (.int (0 : Int32)), .val (.int (0 : Int32)), .val .null, .unset] [(.ref ea), (.ref r0)])) rfl rfl (hb hby d4_20)
    refine own_fw st4_6 ?_
    obtain ⟨T4_7, h4_7, X4_7, e4_7, W4_7, st4_7⟩ := putFN X4_6 hx hZ hown (hw _ (List.mem_of_getElem? (i := 28) rfl)) Via.refl e4_6 ((Scode.ext E4_2).other W4_4 (Or.inr (slot_ne (Or.inr (hw _ (List.mem_of_getElem? (i := 24) rfl))) (Or.inr (hw _ (List.mem_of_getElem? (i := 23) rfl))) (by decide) (t := .byte) (t' := (.array .byte)) (by decide) (by decide)))) ((E.ext E4_2).wr W4_4) (Or.inr ⟨(hw _ (List.mem_of_getElem? (i := 24) rfl)), rfl, hnm⟩) (hw _ (List.mem_of_getElem? (i := 8) rfl)) (ty := .byte) (v' := (.int (nar .byte (0 : Int32)))) (by decide) rfl (fits_nar_byte _) (g := (mkF m 23 #[.val (.ref r0), .val (.ref r1), .val (.int (0 : Int32)), .val (.int (0 : Int32)), .val .null, .unset] [(.int (0 : Int32)), (.ref r0)])) rfl rfl (hb hby d4_23)
    have Fw4_7 := ((Scode.ext E4_2).other W4_4 (Or.inr (slot_ne (Or.inr (hw _ (List.mem_of_getElem? (i := 24) rfl))) (Or.inr (hw _ (List.mem_of_getElem? (i := 23) rfl))) (by decide) (t := .byte) (t' := (.array .byte)) (by decide) (by decide)))).same W4_7
    have N4_7 := Fr.snoc X4_7 N4_4 g_r0
    refine own_fw st4_7 ?_
    obtain ⟨fs, hr, hrun, hended, hEnd⟩ := Stand.leaveW (s := s) (vm₁ := T4_2.vm) X4_7 hS4_2 (show _ ≤ T4_7.heap.size by rw [e4_7]; exact (Nat.le_trans (Nat.le_trans hk4_2 (Keep.of_wr W4_4).1) (Keep.of_wr W4_7).1)) (v := none) (fun _ => rfl) (BodyLoose.notSynchronized Bd)
    refine ⟨_, _, X4_7.returnOut hx Bd.returns (hb hby d4_26) hr, hrun, hended, _, _, rfl, ?_, own_monoW hEnd (by decide) (by decide)⟩
    have eh : (T4_7.setFrames fs).heap = h4_7 := e4_7
    rw [eh]
    exact ⟨eb, ek, rfl, N4_7, ((((Keep.refl h0 [r0]).ext E4_2).wr W4_4 (Or.inl (List.mem_of_getElem? (i := 0) rfl))).wr W4_7 (Or.inl (List.mem_of_getElem? (i := 0) rfl))), (((E.ext E4_2).wr W4_4).wr W4_7), (Fw4_4.other W4_7 (Or.inr (slot_ne (Or.inr (hw _ (List.mem_of_getElem? (i := 23) rfl))) (Or.inr (hw _ (List.mem_of_getElem? (i := 24) rfl))) (by decide) (t := (.array .byte)) (t' := .byte) (by decide) (by decide)))), own_fc Fw4_7 (by decide), (((Shash.ext E4_2).other W4_4 (Or.inr (slot_ne (Or.inl (hw _ (List.mem_of_getElem? (i := 63) rfl))) (Or.inr (hw _ (List.mem_of_getElem? (i := 23) rfl))) (by decide) (t := .int) (t' := (.array .byte)) (by decide) (by decide)))).other W4_7 (Or.inr (slot_ne (Or.inl (hw _ (List.mem_of_getElem? (i := 63) rfl))) (Or.inr (hw _ (List.mem_of_getElem? (i := 24) rfl))) (by decide) (t := .int) (t' := .byte) (by decide) (by decide)))), (((Shz.ext E4_2).other W4_4 (Or.inr (slot_ne (Or.inl (hw _ (List.mem_of_getElem? (i := 65) rfl))) (Or.inr (hw _ (List.mem_of_getElem? (i := 23) rfl))) (by decide) (t := .boolean) (t' := (.array .byte)) (by decide) (by decide)))).other W4_7 (Or.inr (slot_ne (Or.inl (hw _ (List.mem_of_getElem? (i := 65) rfl))) (Or.inr (hw _ (List.mem_of_getElem? (i := 24) rfl))) (by decide) (t := .boolean) (t' := .byte) (by decide) (by decide)))), ((Vb.other W4_4 ne_eb).other W4_7 ne_eb), Or.inr ⟨ea, eb, ek, own_litw La X4_7.warmed, ((Ea.wr W4_4).wr W4_7), ((Fca.other W4_4 (Or.inl ne_ea)).other W4_7 (Or.inl ne_ea)), ((Fva.other W4_4 (Or.inl ne_ea)).other W4_7 (Or.inl ne_ea)), ((Vb.other W4_4 ne_eb).other W4_7 ne_eb)⟩, ne_eb⟩
  · have ne_ea : ea ≠ r0 := Fld.ne Fva Svalu (by simp)
    have ne_eb : eb ≠ r0 := (Exa.neArv E Vb (hw _ (List.mem_of_getElem? (i := 8) rfl))).symm
    refine own_fw (A := s₁.setTop (mkF m 1 #[.val (.ref r0), .val (.ref r1), .val (.int (0 : Int32)), .val (.int (0 : Int32)), .val .null, .unset] [(.ref r0)])) (fun t k => ?_) ?_
    · show Steps p.tables e below (s₁.setTop (mkF m 0 #[.val (.ref r0), .val (.ref r1), .val (.int (0 : Int32)), .val (.int (0 : Int32)), .val .null, .unset] [])) t
      refine XS.aloadN X0.here hx rfl (hb hby d4_0) rfl rfl ?_
      exact k
    obtain ⟨T4_8, X4_8, e4_8, st4_8⟩ := initO X0 hx hZ hown (hw _ (List.mem_of_getElem? (i := 18) rfl)) (hw _ (List.mem_of_getElem? (i := 19) rfl)) (hw _ (List.mem_of_getElem? (i := 20) rfl)) e0 (g := (mkF m 1 #[.val (.ref r0), .val (.ref r1), .val (.int (0 : Int32)), .val (.int (0 : Int32)), .val .null, .unset] [(.ref r0)])) rfl (by rw [hml]; rfl) rfl (hb hby d4_1) (by decide) (W := 0) (by show 2 * 0 + _ ≤ _; exact Nat.le_of_eq rfl) (by decide)
    refine own_fw st4_8 ?_
    refine own_fw (A := T4_8.setTop (mkF m 9 #[.val (.ref r0), .val (.ref r1), .val (.int (0 : Int32)), .val (.int (0 : Int32)), .val .null, .unset] [(.ref r0)])) (fun t k => ?_) ?_
    · show Steps p.tables e below (T4_8.setTop (mkF m 4 #[.val (.ref r0), .val (.ref r1), .val (.int (0 : Int32)), .val (.int (0 : Int32)), .val .null, .unset] [])) t
      refine XS.iloadN X4_8.here hx rfl (hb hby d4_4) rfl ?_
      show Steps p.tables e below (T4_8.setTop (mkF m 5 #[.val (.ref r0), .val (.ref r1), .val (.int (0 : Int32)), .val (.int (0 : Int32)), .val .null, .unset] [(.int (0 : Int32))])) t
      refine XS.ifNo X4_8.here hx rfl (hb hby d4_5) rfl ((if0 _ _).trans (teq (rfl : (0 : Int32) = (0 : Int32))).2) ?_
      show Steps p.tables e below (T4_8.setTop (mkF m 8 #[.val (.ref r0), .val (.ref r1), .val (.int (0 : Int32)), .val (.int (0 : Int32)), .val .null, .unset] [])) t
      refine XS.aloadN X4_8.here hx rfl (hb hby d4_8) rfl rfl ?_
      exact k
    refine own_fw (ldcAgain (s := s) (vm0 := s.vm) X4_8 hx hZ hown (hw _ (List.mem_of_getElem? (i := 21) rfl)) La (g := (mkF m 9 #[.val (.ref r0), .val (.ref r1), .val (.int (0 : Int32)), .val (.int (0 : Int32)), .val .null, .unset] [(.ref r0)])) rfl (hb hby d4_9)) ?_
    obtain ⟨T4_10, X4_10, e4_10, st4_10⟩ := getF X4_8 hx hZ hown (host := "") (Or.inl (hw _ (List.mem_of_getElem? (i := 27) rfl))) Via.refl e4_8 Fva (g := (mkF m 11 #[.val (.ref r0), .val (.ref r1), .val (.int (0 : Int32)), .val (.int (0 : Int32)), .val .null, .unset] [(.ref ea), (.ref r0)])) rfl rfl (hb hby d4_11)
    refine own_fw st4_10 ?_
    obtain ⟨T4_11, h4_11, X4_11, e4_11, W4_11, st4_11⟩ := putF X4_10 hx hZ hown (host := "") (Or.inl (hw _ (List.mem_of_getElem? (i := 27) rfl))) Via.refl e4_10 Svalu E (Or.inr ⟨(hw _ (List.mem_of_getElem? (i := 23) rfl)), rfl, hnm⟩) (hw _ (List.mem_of_getElem? (i := 8) rfl)) (ty := (.array .byte)) (by decide) rfl rfl (g := (mkF m 14 #[.val (.ref r0), .val (.ref r1), .val (.int (0 : Int32)), .val (.int (0 : Int32)), .val .null, .unset] [(.ref eb), (.ref r0)])) rfl rfl (hb hby d4_14)
    have Fw4_11 := Svalu.same W4_11
    have N4_11 := Fr.snoc X4_11 N0 g_r0
    refine own_fw st4_11 ?_
    refine own_fw (A := T4_11.setTop (mkF m 18 #[.val (.ref r0), .val (.ref r1), .val (.int (0 : Int32)), .val (.int (0 : Int32)), .val .null, .unset] [(.ref r0)])) (fun t k => ?_) ?_
    · show Steps p.tables e below (T4_11.setTop (mkF m 17 #[.val (.ref r0), .val (.ref r1), .val (.int (0 : Int32)), .val (.int (0 : Int32)), .val .null, .unset] [])) t
      refine XS.aloadN X4_11.here hx rfl (hb hby d4_17) rfl rfl ?_
      exact k
    refine own_fw (ldcAgain (s := s) (vm0 := s.vm) X4_11 hx hZ hown (hw _ (List.mem_of_getElem? (i := 21) rfl)) La (g := (mkF m 18 #[.val (.ref r0), .val (.ref r1), .val (.int (0 : Int32)), .val (.int (0 : Int32)), .val .null, .unset] [(.ref r0)])) rfl (hb hby d4_18)) ?_
    obtain ⟨T4_13, X4_13, e4_13, st4_13⟩ := getF X4_11 hx hZ hown (host := "") (Or.inl (hw _ (List.mem_of_getElem? (i := 28) rfl))) Via.refl e4_11 (Fca.other W4_11 (Or.inl ne_ea)) (g := (mkF m 20 #[.val (.ref r0), .val (.ref r1), .val (.int (0 : Int32)), .val (.int (0 : Int32)), .val .null, .unset] [(.ref ea), (.ref r0)])) rfl rfl (hb hby d4_20)
    refine own_fw st4_13 ?_
    obtain ⟨T4_14, h4_14, X4_14, e4_14, W4_14, st4_14⟩ := putFN X4_13 hx hZ hown (hw _ (List.mem_of_getElem? (i := 28) rfl)) Via.refl e4_13 (Scode.other W4_11 (Or.inr (slot_ne (Or.inr (hw _ (List.mem_of_getElem? (i := 24) rfl))) (Or.inr (hw _ (List.mem_of_getElem? (i := 23) rfl))) (by decide) (t := .byte) (t' := (.array .byte)) (by decide) (by decide)))) (E.wr W4_11) (Or.inr ⟨(hw _ (List.mem_of_getElem? (i := 24) rfl)), rfl, hnm⟩) (hw _ (List.mem_of_getElem? (i := 8) rfl)) (ty := .byte) (v' := (.int (nar .byte (0 : Int32)))) (by decide) rfl (fits_nar_byte _) (g := (mkF m 23 #[.val (.ref r0), .val (.ref r1), .val (.int (0 : Int32)), .val (.int (0 : Int32)), .val .null, .unset] [(.int (0 : Int32)), (.ref r0)])) rfl rfl (hb hby d4_23)
    have Fw4_14 := (Scode.other W4_11 (Or.inr (slot_ne (Or.inr (hw _ (List.mem_of_getElem? (i := 24) rfl))) (Or.inr (hw _ (List.mem_of_getElem? (i := 23) rfl))) (by decide) (t := .byte) (t' := (.array .byte)) (by decide) (by decide)))).same W4_14
    have N4_14 := Fr.snoc X4_14 N4_11 g_r0
    refine own_fw st4_14 ?_
    obtain ⟨fs, hr, hrun, hended, hEnd⟩ := Stand.leaveW (s := s) (vm₁ := s.vm) X4_14 hS0 (show _ ≤ T4_14.heap.size by rw [e4_14]; exact (Nat.le_trans (Nat.le_trans (Nat.le_refl _) (Keep.of_wr W4_11).1) (Keep.of_wr W4_14).1)) (v := none) (fun _ => rfl) (BodyLoose.notSynchronized Bd)
    refine ⟨_, _, X4_14.returnOut hx Bd.returns (hb hby d4_26) hr, hrun, hended, _, _, rfl, ?_, own_monoW hEnd (by decide) (by decide)⟩
    have eh : (T4_14.setFrames fs).heap = h4_14 := e4_14
    rw [eh]
    exact ⟨eb, ek, rfl, N4_14, (((Keep.refl h0 [r0]).wr W4_11 (Or.inl (List.mem_of_getElem? (i := 0) rfl))).wr W4_14 (Or.inl (List.mem_of_getElem? (i := 0) rfl))), ((E.wr W4_11).wr W4_14), (Fw4_11.other W4_14 (Or.inr (slot_ne (Or.inr (hw _ (List.mem_of_getElem? (i := 23) rfl))) (Or.inr (hw _ (List.mem_of_getElem? (i := 24) rfl))) (by decide) (t := (.array .byte)) (t' := .byte) (by decide) (by decide)))), own_fc Fw4_14 (by decide), ((Shash.other W4_11 (Or.inr (slot_ne (Or.inl (hw _ (List.mem_of_getElem? (i := 63) rfl))) (Or.inr (hw _ (List.mem_of_getElem? (i := 23) rfl))) (by decide) (t := .int) (t' := (.array .byte)) (by decide) (by decide)))).other W4_14 (Or.inr (slot_ne (Or.inl (hw _ (List.mem_of_getElem? (i := 63) rfl))) (Or.inr (hw _ (List.mem_of_getElem? (i := 24) rfl))) (by decide) (t := .int) (t' := .byte) (by decide) (by decide)))), ((Shz.other W4_11 (Or.inr (slot_ne (Or.inl (hw _ (List.mem_of_getElem? (i := 65) rfl))) (Or.inr (hw _ (List.mem_of_getElem? (i := 23) rfl))) (by decide) (t := .boolean) (t' := (.array .byte)) (by decide) (by decide)))).other W4_14 (Or.inr (slot_ne (Or.inl (hw _ (List.mem_of_getElem? (i := 65) rfl))) (Or.inr (hw _ (List.mem_of_getElem? (i := 24) rfl))) (by decide) (t := .boolean) (t' := .byte) (by decide) (by decide)))), ((Vb.other W4_11 ne_eb).other W4_14 ne_eb), Or.inr ⟨ea, eb, ek, own_litw La X4_14.warmed, ((Ea.wr W4_11).wr W4_14), ((Fca.other W4_11 (Or.inl ne_ea)).other W4_14 (Or.inl ne_ea)), ((Fva.other W4_11 (Or.inl ne_ea)).other W4_14 (Or.inl ne_ea)), ((Vb.other W4_11 ne_eb).other W4_14 ne_eb)⟩, ne_eb⟩
set_option maxRecDepth 65536 in
set_option maxHeartbeats 40000000 in
theorem rmS1_0 (l : Launch) (Z : State) (a0 : Array Value) (hw : ∀ d ∈ tables_1, d.before a0 Z = true) (ws : List Jvm.Cond) (r0 : Addr) (r1 : Addr) (kc : ClassId) (h0 : Heap) (n0 : Nat) (Z0 : n0 ≤ h0.size) (E : Exa Z h0 r0 "java/lang/String") (Svalu : Fld Z h0 r0 "java/lang/String" "value" "[B" .null) (Scode : Fld Z h0 r0 "java/lang/String" "coder" "B" (.int 0)) (Shash : Fld Z h0 r0 "java/lang/String" "hash" "I" (.int 0)) (Shz : Fld Z h0 r0 "java/lang/String" "hashIsZero" "Z" (.int 0)) (V_1 : Arv Z h0 r1 kc .char (0 : Int32) [] (.int 0)) (hne : r1 ≠ r0) (g_r0 : n0 ≤ r0) (O_0 : Old Z n0 h0) (hch : Jvm.Lit.constHeld Z "java/lang/String" 7) (hcw : Jvm.Lit.compactW.before a0 Z = true) :
    MetFree l (⟨"java/lang/String", "<init>", "([C)V"⟩ : MethodName) (head1 (Jvm.Cond.code (⟨"java/lang/String", "<init>", "([C)V"⟩ : MethodName) jdk_42_method_3_code 2 none :: ws) ({ frames := 2, cells := 2, slots := 4, locals := 29 } : Room)) (fun a U => a = #[(.ref r0), (.ref r1)] ∧ Z.Warmed39 U.vm ∧ U.heap = h0 ∧ PS Z U.vm h0) (fun _ _ _ _ _ => True) (fun _ U o U' => ∃ v L, o = .returned v ∧ QW3 Z r0 h0 n0 v U'.vm U'.heap L ∧ ReturnedEndW U o U' L ({ frames := 2, cells := 2, slots := 4, locals := 29 } : Room).cells ({ frames := 2, cells := 2, slots := 4, locals := 29 } : Room).slots) := by
  refine MetFree.of_bodySF (plainFor_of_name pn3) hisR ?_
  intro p e s m args below meth c s₁ Bd hml0 hP hK
  obtain ⟨rfl, hZ, hh, hG⟩ := hP
  have hx := Bd.exec
  have hby := Bd.bytes
  have hml : c.maxLocals = 2 := hml0
  have hown : s.vm.findClass "java/lang/String" = some m.cls := findClass_of_methodNamed Bd.named
  have hnm := (name_of_methodNamed Bd.named Bd.method).1
  have X0 : Stand p l e ({ frames := 2, cells := 2, slots := 4, locals := 29 } : Room) s m #[(.ref r0), (.ref r1)] below meth c s₁ [] 0 0 := Stand.of_body Bd
  have e0 : s₁.heap = h0 := by rw [← hh, Bd.state]; rfl
  have N0 := Fr.nil n0
  have hS0 : s.Since s.vm h0.size := (State.WarmedH.refl s).since _
  refine own_fw (A := s₁.setTop (mkF m 0 #[.val (.ref r0), .val (.ref r1)] [])) (fun t k => castTop (ef3 m r0 r1) k) ?_
  refine own_fw (A := s₁.setTop (mkF m 4 #[.val (.ref r0), .val (.ref r1)] [(.ref r1), (.int (0 : Int32)), (.ref r1), (.ref r0)])) (fun t k => ?_) ?_
  · show Steps p.tables e below (s₁.setTop (mkF m 0 #[.val (.ref r0), .val (.ref r1)] [])) t
    refine XS.aloadN X0.here hx rfl (hb hby d3_0) rfl rfl ?_
    show Steps p.tables e below (s₁.setTop (mkF m 1 #[.val (.ref r0), .val (.ref r1)] [(.ref r0)])) t
    refine XS.aloadN X0.here hx rfl (hb hby d3_1) rfl rfl ?_
    show Steps p.tables e below (s₁.setTop (mkF m 2 #[.val (.ref r0), .val (.ref r1)] [(.ref r1), (.ref r0)])) t
    refine XS.iconst X0.here hx rfl (hb hby d3_2) ?_
    show Steps p.tables e below (s₁.setTop (mkF m 3 #[.val (.ref r0), .val (.ref r1)] [(.int (0 : Int32)), (.ref r1), (.ref r0)])) t
    refine XS.aloadN X0.here hx rfl (hb hby d3_3) rfl rfl ?_
    exact k
  obtain ⟨cl3_1, Ar3_1, q3_1, S3_1, Ng3_1, Hs3_1, G3_1⟩ := id V_1
  have st3_1 := X0.arraylength hx (by rw [e0]; exact Ar3_1.1) (State.isArrayOf_alike hZ.alike Ar3_1.2.1) (g := (mkF m 4 #[.val (.ref r0), .val (.ref r1)] [(.ref r1), (.int (0 : Int32)), (.ref r1), (.ref r0)])) rfl rfl (hb hby d3_4)
  rw [len_of S3_1 Ng3_1] at st3_1
  refine own_fw st3_1 ?_
  refine own_fw (A := s₁.setTop (mkF m 6 #[.val (.ref r0), .val (.ref r1)] [.null, (.int (0 : Int32)), (.int (0 : Int32)), (.ref r1), (.ref r0)])) (fun t k => ?_) ?_
  · show Steps p.tables e below (s₁.setTop (mkF m 5 #[.val (.ref r0), .val (.ref r1)] [(.int (0 : Int32)), (.int (0 : Int32)), (.ref r1), (.ref r0)])) t
    refine XS.aconstNull X0.here hx rfl (hb hby d3_5) ?_
    exact k
  obtain ⟨_, _, ⟨T3_2, L3_2, k3_2, n3_2⟩, -, X3_2, hSi3_2, hgr3_2, ⟨Lc3_2, hQ3_2, l3_2, y3_2, z3_2⟩, st3_2⟩ := X0.specialBackS hx (y := (⟨"java/lang/String", "<init>", "([CIILjava/lang/Void;)V"⟩ : MethodName)) rfl hown (mvT hZ (hw _ (List.mem_of_getElem? (i := 14) rfl))) (mvT hZ (hw _ (List.mem_of_getElem? (i := 15) rfl))) (mvT hZ (hw _ (List.mem_of_getElem? (i := 17) rfl))) (by decide) (own_backS (G := fun vm => PS Z vm h0) (W := 0) (rmS4_0 l Z a0 hw [] r0 r1 h0 n0 Z0 E Svalu Scode Shash Shz g_r0 O_0 hch hcw) hZ (hw _ (List.mem_of_getElem? (i := 17) rfl)) (hw _ (List.mem_of_getElem? (i := 9) rfl)) (by decide) (by decide)) (g := (mkF m 6 #[.val (.ref r0), .val (.ref r1)] [.null, (.int (0 : Int32)), (.int (0 : Int32)), (.ref r1), (.ref r0)])) rfl (by rw [hml]; rfl) (Steps.refl _) (a := r0) (argsL := [(.ref r1), (.int (0 : Int32)), (.int (0 : Int32)), .null]) (rest := []) (lenOf pd3_0 rfl) rfl (by show 2 * 0 + _ ≤ _; exact Nat.le_of_eq rfl) (hb hby d3_6) (fun _ hW => ⟨rfl, e0, own_psw hG hW, (by decide : 0 + 2 ≤ _), (by decide : 0 + 4 ≤ _)⟩)
  dsimp only [Pt.U, Pt.locs, Pt.cells, Pt.slots] at X3_2 hSi3_2 hgr3_2 l3_2 y3_2 z3_2 st3_2 hQ3_2
  subst l3_2 y3_2 z3_2
  obtain ⟨vb3_2, vk3_2, rfl, N3_2q, K3_2, E3_2, Svalu3_2, Scode3_2, Shash3_2, Shz3_2, Vb3_2, PS3_2, nb3_2⟩ := hQ3_2
  have N3_2 := Fr.app N0 N3_2q
  obtain ⟨X3_2r, hS3_2, hZ, hown⟩ := rebS hS0 (show _ ≤ s₁.heap.size by rw [e0]; exact (Nat.le_refl _)) X3_2 hSi3_2 hgr3_2 hZ hown
  refine own_fw (fun t k => st3_2.trans k) ?_
  obtain ⟨fs, hr, hrun, hended, hEnd⟩ := Stand.leaveW (s := s) (vm₁ := T3_2.vm) X3_2r hS3_2 (Nat.le_refl _) (v := none) (fun _ => rfl) (BodyLoose.notSynchronized Bd)
  refine ⟨_, _, X3_2r.returnOut hx Bd.returns (hb hby d3_9) hr, hrun, hended, _, _, rfl, ?_, own_monoW hEnd (by decide) (by decide)⟩
  have eh : (T3_2.setFrames fs).heap = T3_2.heap := rfl
  rw [eh]
  exact ⟨vb3_2, vk3_2, rfl, N3_2, ((Keep.refl h0 [r0]).trans K3_2 (allS (Or.inl (List.mem_of_getElem? (i := 0) rfl)) all0)), E3_2, Svalu3_2, Scode3_2, Shash3_2, Shz3_2, Vb3_2, own_psw (s := s.setVm T3_2.vm) PS3_2 X3_2r.warmed, nb3_2⟩
set_option maxRecDepth 65536
theorem own_and255 (x : Int32) : ∃ k : Fin 256, x &&& 255 = Int32.ofNat k.val := by
  refine ⟨⟨x.toBitVec.toNat % 256, Nat.mod_lt _ (by decide)⟩, ?_⟩
  apply Int32.toBitVec_inj.mp
  apply BitVec.eq_of_toNat_eq
  have e : (Int32.ofNat (x.toBitVec.toNat % 256)).toBitVec = BitVec.ofNat 32 (x.toBitVec.toNat % 256) := rfl
  rw [e, Int32.toBitVec_and, BitVec.toNat_and]
  show x.toBitVec.toNat &&& (2 ^ 8 - 1) = _
  rw [Nat.and_two_pow_sub_one_eq_mod, BitVec.toNat_ofNat]
  omega
theorem own_and3 (x : Int32) : ∃ k : Fin 4, x &&& 3 = Int32.ofNat k.val := by
  refine ⟨⟨x.toBitVec.toNat % 4, Nat.mod_lt _ (by decide)⟩, ?_⟩
  apply Int32.toBitVec_inj.mp
  apply BitVec.eq_of_toNat_eq
  have e : (Int32.ofNat (x.toBitVec.toNat % 4)).toBitVec = BitVec.ofNat 32 (x.toBitVec.toNat % 4) := rfl
  rw [e, Int32.toBitVec_and, BitVec.toNat_and]
  show x.toBitVec.toNat &&& (2 ^ 2 - 1) = _
  rw [Nat.and_two_pow_sub_one_eq_mod, BitVec.toNat_ofNat]
  omega
theorem own_c0k (p : Int32) : ∃ k : Fin 256, f_c0 p = Int32.ofNat k.val := by
  obtain ⟨k, e⟩ := own_and255 ((p.toUInt32 >>> ((2 : Int32) &&& 31).toUInt32).toInt32)
  refine ⟨k, ?_⟩
  rw [f_c0]
  rw [e]
  exact (by decide : ∀ k : Fin 256, (nar .char ((Int32.ofNat k.val).toUInt32.toUInt16.toUInt32.toInt32)) = Int32.ofNat k.val) k
theorem own_c1k (p : Int32) : ∃ k : Fin 256, f_c1 p = Int32.ofNat k.val := by
  obtain ⟨k, e⟩ := own_and255 ((p.toUInt32 >>> ((10 : Int32) &&& 31).toUInt32).toInt32)
  refine ⟨k, ?_⟩
  rw [f_c1]
  rw [e]
  exact (by decide : ∀ k : Fin 256, (nar .char ((Int32.ofNat k.val).toUInt32.toUInt16.toUInt32.toInt32)) = Int32.ofNat k.val) k
theorem own_lec : ∀ k : Fin 256, ¬ (255 : Int32) < nar .char (Int32.ofNat k.val) := by decide
theorem own_le0 (p : Int32) : ¬ (255 : Int32) < nar .char (f_c0 p) := by
  obtain ⟨k, e⟩ := own_c0k p
  rw [e]; exact own_lec k
theorem own_le1 (p : Int32) : ¬ (255 : Int32) < nar .char (f_c1 p) := by
  obtain ⟨k, e⟩ := own_c1k p
  rw [e]; exact own_lec k
def own_b (x : Int32) : Int32 := nar .byte ((nar .char x).toInt8.toInt32)
def own_cs (p : Int32) : List Int32 := if f_len p = 0 then [] else if f_len p = 1 then [own_b (f_c0 p)] else [own_b (f_c0 p), own_b (f_c1 p)]
theorem own_csl (p : Int32) : (own_cs p).length ≤ 2 := by
  rw [own_cs]; split
  · exact Nat.zero_le _
  · split
    · exact Nat.le_succ _
    · exact Nat.le_refl _
theorem own_bk : ∀ k : Fin 256, own_b (Int32.ofNat k.val) &&& 255 = Int32.ofNat k.val := by decide
theorem own_b0 {p q : Int32} (h : own_b (f_c0 p) = own_b (f_c0 q)) : f_c0 p = f_c0 q := by
  obtain ⟨j, ej⟩ := own_c0k p
  obtain ⟨k, ek⟩ := own_c0k q
  rw [ej, ek] at h ⊢
  rw [← own_bk j, ← own_bk k, h]
theorem own_b1 {p q : Int32} (h : own_b (f_c1 p) = own_b (f_c1 q)) : f_c1 p = f_c1 q := by
  obtain ⟨j, ej⟩ := own_c1k p
  obtain ⟨k, ek⟩ := own_c1k q
  rw [ej, ek] at h ⊢
  rw [← own_bk j, ← own_bk k, h]
theorem own_len (p : Int32) : f_len p = 0 ∨ f_len p = 1 ∨ f_len p = 2 := by
  obtain ⟨k, e⟩ := own_and3 p
  rw [f_len, e]
  exact (by decide : ∀ k : Fin 4, own_irem (Int32.ofNat k.val) (3 : Int32) = 0 ∨ own_irem (Int32.ofNat k.val) (3 : Int32) = 1 ∨ own_irem (Int32.ofNat k.val) (3 : Int32) = 2) k
theorem own_sm (p q : Int32) : f_same p q = f_eq (own_cs p) (own_cs q) := by
  have i0 : own_b (f_c0 p) = own_b (f_c0 q) ↔ f_c0 p = f_c0 q := ⟨own_b0, fun h => by rw [h]⟩
  have i1 : own_b (f_c1 p) = own_b (f_c1 q) ↔ f_c1 p = f_c1 q := ⟨own_b1, fun h => by rw [h]⟩
  have n1 : nar .boolean (1 : Int32) = 1 := by decide
  have n0 : nar .boolean (0 : Int32) = 0 := by decide
  rcases own_len p with e | e | e <;> rcases own_len q with g | g | g <;> by_cases c0 : f_c0 p = f_c0 q <;> by_cases c1 : f_c1 p = f_c1 q <;> simp [f_same, f_eq, own_cs, e, g, i0, i1, c0, c1, n0, n1]
theorem own_eqc (a b : List Int32) : f_eq a b = f_eq b a := by simp only [f_eq, eq_comm]
theorem own_law1 {a b c d : Int32} (h1 : ¬ f_same a b = 0) (h2 : ¬ f_same c d = 0) : f_both (own_cs a) (own_cs c) (own_cs b) (own_cs d) = 1 ∧ f_both (own_cs b) (own_cs d) (own_cs a) (own_cs c) = 1 := by
  rw [own_sm] at h1 h2
  refine ⟨?_, ?_⟩
  · rw [f_both, if_neg h1, if_neg h2]
  · rw [own_eqc] at h1 h2
    rw [f_both, if_neg h1, if_neg h2]
theorem own_law2 {a b c d : Int32} (h1 : f_same a b = 0) : f_both (own_cs a) (own_cs c) (own_cs b) (own_cs d) = 0 ∧ f_both (own_cs b) (own_cs d) (own_cs a) (own_cs c) = 0 := by
  rw [own_sm] at h1
  refine ⟨?_, ?_⟩
  · rw [f_both, if_pos h1]
  · rw [own_eqc] at h1
    rw [f_both, if_pos h1]
theorem own_law3 {a b c d : Int32} (h1 : ¬ f_same a b = 0) (h2 : f_same c d = 0) : f_both (own_cs a) (own_cs c) (own_cs b) (own_cs d) = 0 ∧ f_both (own_cs b) (own_cs d) (own_cs a) (own_cs c) = 0 := by
  rw [own_sm] at h1 h2
  refine ⟨?_, ?_⟩
  · rw [f_both, if_neg h1, if_pos h2]
  · rw [own_eqc] at h1 h2
    rw [f_both, if_neg h1, if_pos h2]
def QW1 (Z : State) (p0 : Int32) (h0 : Heap) (n0 : Nat) (w : Option Value) (vm : Vm) (h : Heap) (L : List Loc) : Prop := ∃ r vb k, w = some (.ref r) ∧ Fr n0 L ∧ Keep h0 h [] ∧ Exa Z h r "java/lang/String" ∧ Fld Z h r "java/lang/String" "value" "[B" (.ref vb) ∧ Fld Z h r "java/lang/String" "coder" "B" (.int 0) ∧ Fld Z h r "java/lang/String" "hash" "I" (.int 0) ∧ Fld Z h r "java/lang/String" "hashIsZero" "Z" (.int 0) ∧ Arv Z h vb k .byte (Int32.ofNat (own_cs p0).length) ((own_cs p0).map Value.int) (.int 0) ∧ ((own_cs p0).length = 2 → Z.vm.findClass "[B" = some k) ∧ h0.size ≤ r ∧ PS Z vm h
theorem d1_0 : decode method_5_code 0 = .ok (.iload_n 0, 1) := by decide +kernel
theorem d1_1 : decode method_5_code 1 = .ok (.invokestatic 7, 3) := by decide +kernel
theorem d1_4 : decode method_5_code 4 = .ok (.istore_n 1, 1) := by decide +kernel
theorem d1_5 : decode method_5_code 5 = .ok (.iload_n 1, 1) := by decide +kernel
theorem d1_6 : decode method_5_code 6 = .ok (.ifCond .ne 14, 3) := by decide +kernel
theorem d1_9 : decode method_5_code 9 = .ok (.new 13, 3) := by decide +kernel
theorem d1_12 : decode method_5_code 12 = .ok (.dup, 1) := by decide +kernel
theorem d1_13 : decode method_5_code 13 = .ok (.iconst 0, 1) := by decide +kernel
theorem d1_14 : decode method_5_code 14 = .ok (.newarray .char, 2) := by decide +kernel
theorem d1_16 : decode method_5_code 16 = .ok (.invokespecial 15, 3) := by decide +kernel
theorem d1_19 : decode method_5_code 19 = .ok (.areturn, 1) := by decide +kernel
theorem d1_20 : decode method_5_code 20 = .ok (.iload_n 1, 1) := by decide +kernel
theorem d1_21 : decode method_5_code 21 = .ok (.iconst 1, 1) := by decide +kernel
theorem d1_22 : decode method_5_code 22 = .ok (.if_icmp .ne 23, 3) := by decide +kernel
theorem d1_25 : decode method_5_code 25 = .ok (.iconst 1, 1) := by decide +kernel
theorem d1_26 : decode method_5_code 26 = .ok (.newarray .char, 2) := by decide +kernel
theorem d1_28 : decode method_5_code 28 = .ok (.astore_n 2, 1) := by decide +kernel
theorem d1_29 : decode method_5_code 29 = .ok (.aload_n 2, 1) := by decide +kernel
theorem d1_30 : decode method_5_code 30 = .ok (.iconst 0, 1) := by decide +kernel
theorem d1_31 : decode method_5_code 31 = .ok (.iload_n 0, 1) := by decide +kernel
theorem d1_32 : decode method_5_code 32 = .ok (.invokestatic 18, 3) := by decide +kernel
theorem d1_35 : decode method_5_code 35 = .ok (.castore, 1) := by decide +kernel
theorem d1_36 : decode method_5_code 36 = .ok (.new 13, 3) := by decide +kernel
theorem d1_39 : decode method_5_code 39 = .ok (.dup, 1) := by decide +kernel
theorem d1_40 : decode method_5_code 40 = .ok (.aload_n 2, 1) := by decide +kernel
theorem d1_41 : decode method_5_code 41 = .ok (.invokespecial 15, 3) := by decide +kernel
theorem d1_44 : decode method_5_code 44 = .ok (.areturn, 1) := by decide +kernel
theorem d1_45 : decode method_5_code 45 = .ok (.iconst 2, 1) := by decide +kernel
theorem d1_46 : decode method_5_code 46 = .ok (.newarray .char, 2) := by decide +kernel
theorem d1_48 : decode method_5_code 48 = .ok (.astore_n 2, 1) := by decide +kernel
theorem d1_49 : decode method_5_code 49 = .ok (.aload_n 2, 1) := by decide +kernel
theorem d1_50 : decode method_5_code 50 = .ok (.iconst 0, 1) := by decide +kernel
theorem d1_51 : decode method_5_code 51 = .ok (.iload_n 0, 1) := by decide +kernel
theorem d1_52 : decode method_5_code 52 = .ok (.invokestatic 18, 3) := by decide +kernel
theorem d1_55 : decode method_5_code 55 = .ok (.castore, 1) := by decide +kernel
theorem d1_56 : decode method_5_code 56 = .ok (.aload_n 2, 1) := by decide +kernel
theorem d1_57 : decode method_5_code 57 = .ok (.iconst 1, 1) := by decide +kernel
theorem d1_58 : decode method_5_code 58 = .ok (.iload_n 0, 1) := by decide +kernel
theorem d1_59 : decode method_5_code 59 = .ok (.invokestatic 22, 3) := by decide +kernel
theorem d1_62 : decode method_5_code 62 = .ok (.castore, 1) := by decide +kernel
theorem d1_63 : decode method_5_code 63 = .ok (.new 13, 3) := by decide +kernel
theorem d1_66 : decode method_5_code 66 = .ok (.dup, 1) := by decide +kernel
theorem d1_67 : decode method_5_code 67 = .ok (.aload_n 2, 1) := by decide +kernel
theorem d1_68 : decode method_5_code 68 = .ok (.invokespecial 15, 3) := by decide +kernel
theorem d1_71 : decode method_5_code 71 = .ok (.areturn, 1) := by decide +kernel
theorem pn1 : plainName "com/example/access_decision/accessdecision/AclRightEqualsPinLaw" = true := by first | (simp [plainName, overriddenIn]; done) | decide +kernel
theorem pd1_0 : parseMethodDescriptor "(I)I" = some ⟨[.int], some .int⟩ := by decide +kernel
theorem pd1_1 : parseMethodDescriptor "([C)V" = some ⟨[(.array .char)], none⟩ := by decide +kernel
theorem pd1_2 : parseMethodDescriptor "(I)C" = some ⟨[.int], some .char⟩ := by decide +kernel
theorem ef1 (m : MethodId) (p0 : Int32) : entryFrame m #[(.int p0)] 3 = mkF m 0 #[.val (.int p0), .unset, .unset] [] := by first | (simp [entryFrame, mkF, argsToLocals, Value.category]; done) | rfl
set_option maxRecDepth 65536 in
set_option maxHeartbeats 40000000 in
theorem rmMK (l : Launch) (Z : State) (a0 : Array Value) (hw : ∀ d ∈ tables_1, d.before a0 Z = true) (ws : List Jvm.Cond) (p0 : Int32) (cc : Int32) (h0 : Heap) (n0 : Nat) (Z0 : n0 ≤ h0.size) (O_0 : Old Z n0 h0) (S_c : Sta Z Z.heap "java/lang/String" "COMPACT_STRINGS" "Z" (.int cc)) (hcc : ¬ cc = (0 : Int32)) (hch : Jvm.Lit.constHeld Z "java/lang/String" 7) (hcw : Jvm.Lit.compactW.before a0 Z = true) :
    MetFree l (⟨"com/example/access_decision/accessdecision/AclRightEqualsPinLaw", "mk", "(I)Ljava/lang/String;"⟩ : MethodName) (head1 (Jvm.Cond.code (⟨"com/example/access_decision/accessdecision/AclRightEqualsPinLaw", "mk", "(I)Ljava/lang/String;"⟩ : MethodName) method_5_code 3 (some (.object "java/lang/String")) :: ws) ({ frames := 4, cells := 4, slots := 8, locals := 66 } : Room)) (fun a U => a = #[(.int p0)] ∧ Z.Warmed39 U.vm ∧ U.heap = h0 ∧ PS Z U.vm h0) (fun _ _ _ _ _ => True) (fun _ U o U' => ∃ v L, o = .returned v ∧ QW1 Z p0 h0 n0 v U'.vm U'.heap L ∧ ReturnedEndW U o U' L ({ frames := 4, cells := 4, slots := 8, locals := 66 } : Room).cells ({ frames := 4, cells := 4, slots := 8, locals := 66 } : Room).slots) := by
  refine MetFree.of_bodySF (plainFor_of_name pn1) hisR ?_
  intro p e s m args below meth c s₁ Bd hml0 hP hK
  obtain ⟨rfl, hZ, hh, hG⟩ := hP
  have hx := Bd.exec
  have hby := Bd.bytes
  have hml : c.maxLocals = 3 := hml0
  have hown : s.vm.findClass "com/example/access_decision/accessdecision/AclRightEqualsPinLaw" = some m.cls := findClass_of_methodNamed Bd.named
  have hnm := (name_of_methodNamed Bd.named Bd.method).1
  have X0 : Stand p l e ({ frames := 4, cells := 4, slots := 8, locals := 66 } : Room) s m #[(.int p0)] below meth c s₁ [] 0 0 := Stand.of_body Bd
  have e0 : s₁.heap = h0 := by rw [← hh, Bd.state]; rfl
  have N0 := Fr.nil n0
  have hS0 : s.Since s.vm h0.size := (State.WarmedH.refl s).since _
  refine own_fw (A := s₁.setTop (mkF m 0 #[.val (.int p0), .unset, .unset] [])) (fun t k => castTop (ef1 m p0) k) ?_
  refine own_fw (A := s₁.setTop (mkF m 1 #[.val (.int p0), .unset, .unset] [(.int p0)])) (fun t k => ?_) ?_
  · show Steps p.tables e below (s₁.setTop (mkF m 0 #[.val (.int p0), .unset, .unset] [])) t
    refine XS.iloadN X0.here hx rfl (hb hby d1_0) rfl ?_
    exact k
  obtain ⟨_, _, ⟨T1_1, L1_1, k1_1, n1_1⟩, -, X1_1, ⟨Lc1_1, hQ1_1, l1_1, y1_1, z1_1⟩, st1_1⟩ := Jvm.LawKit.callS X0 hx (y := (⟨"com/example/access_decision/accessdecision/AclRightEqualsPinLaw", "len", "(I)I"⟩ : MethodName)) hown (mvT hZ (hw _ (List.mem_of_getElem? (i := 4) rfl))) (mvT hZ (hw _ (List.mem_of_getElem? (i := 5) rfl))) (mvT hZ (hw _ (List.mem_of_getElem? (i := 2) rfl))) (mvT hZ (hw _ (List.mem_of_getElem? (i := 6) rfl))) (by decide) (backOf (W := 0) (rm2 l Z a0 hw [] (p0) h0 n0 Z0 ) hZ (hw _ (List.mem_of_getElem? (i := 6) rfl)) (hw _ (List.mem_of_getElem? (i := 2) rfl)) (by decide) (by decide)) (g := (mkF m 1 #[.val (.int p0), .unset, .unset] [(.int p0)])) rfl (by rw [hml]; rfl) (argsL := [(.int p0)]) (rest := []) (lenOf pd1_0 rfl) rfl (by show 2 * 0 + _ ≤ _; exact Nat.le_of_eq rfl) (hb hby d1_1) (fun _ _ => ⟨rfl, e0, (by decide : 0 + 0 ≤ _), (by decide : 0 + 0 ≤ _)⟩)
  dsimp only [Pt.U, Pt.locs, Pt.cells, Pt.slots] at X1_1 l1_1 y1_1 z1_1 st1_1 hQ1_1
  subst l1_1 y1_1 z1_1
  obtain ⟨rfl, N1_1q, e1_1⟩ := hQ1_1
  have N1_1 := Fr.app N0 N1_1q
  refine own_fw st1_1 ?_
  refine own_fw (A := T1_1.setTop (mkF m 6 #[.val (.int p0), .val (.int (f_len p0)), .unset] [(.int (f_len p0))])) (fun t k => ?_) ?_
  · show Steps p.tables e below (T1_1.setTop (mkF m 4 #[.val (.int p0), .unset, .unset] [(.int (f_len p0))])) t
    refine XS.istoreN X1_1.here hx rfl (hb hby d1_4) rfl (l' := #[.val (.int p0), .val (.int (f_len p0)), .unset]) rfl ?_
    show Steps p.tables e below (T1_1.setTop (mkF m 5 #[.val (.int p0), .val (.int (f_len p0)), .unset] [])) t
    refine XS.iloadN X1_1.here hx rfl (hb hby d1_5) rfl ?_
    exact k
  by_cases hc1_1 : (f_len p0) = (0 : Int32)
  · refine own_fw (A := T1_1.setTop (mkF m 9 #[.val (.int p0), .val (.int (f_len p0)), .unset] [])) (fun t k => ?_) ?_
    · show Steps p.tables e below (T1_1.setTop (mkF m 6 #[.val (.int p0), .val (.int (f_len p0)), .unset] [(.int (f_len p0))])) t
      refine XS.ifNo X1_1.here hx rfl (hb hby d1_6) rfl ((if0 _ _).trans (teq hc1_1).2) ?_
      exact k
    obtain ⟨T1_2, h1_2, X1_2, e1_2, E1_2, A1_2, D1_2, -, st1_2⟩ := newO X1_1 hx hZ hown (hw _ (List.mem_of_getElem? (i := 7) rfl)) (hw _ (List.mem_of_getElem? (i := 8) rfl)) (hw _ (List.mem_of_getElem? (i := 9) rfl)) e1_1 (g := (mkF m 9 #[.val (.int p0), .val (.int (f_len p0)), .unset] [])) rfl (hb hby d1_9) (by decide) (by decide)
    obtain ⟨b1_2, g1_2⟩ : ∃ z, z = h0.size := ⟨_, rfl⟩
    rw [← g1_2] at A1_2 D1_2 st1_2
    have g_b1_2 : n0 ≤ b1_2 := Nat.le_trans Z0 (Nat.le_of_eq g1_2.symm)
    have sz_b1_2 : h0.size ≤ b1_2 := Nat.le_trans (Keep.refl h0 []).1 (Nat.le_of_eq g1_2.symm)
    have F_value_b1_2 : Fld Z h1_2 b1_2 "java/lang/String" "value" "[B" .null := D1_2 (Or.inr (hw _ (List.mem_of_getElem? (i := 23) rfl))) (ty := (.array .byte)) (by decide)
    have F_coder_b1_2 : Fld Z h1_2 b1_2 "java/lang/String" "coder" "B" (.int (0 : Int32)) := D1_2 (Or.inr (hw _ (List.mem_of_getElem? (i := 24) rfl))) (ty := .byte) (by decide)
    have F_hash_b1_2 : Fld Z h1_2 b1_2 "java/lang/String" "hash" "I" (.int (0 : Int32)) := D1_2 (Or.inl (hw _ (List.mem_of_getElem? (i := 63) rfl))) (ty := .int) (by decide)
    have F_hashIsZero_b1_2 : Fld Z h1_2 b1_2 "java/lang/String" "hashIsZero" "Z" (.int (0 : Int32)) := D1_2 (Or.inl (hw _ (List.mem_of_getElem? (i := 65) rfl))) (ty := .boolean) (by decide)
    refine own_fw st1_2 ?_
    refine own_fw (A := T1_2.setTop (mkF m 14 #[.val (.int p0), .val (.int (f_len p0)), .unset] [(.int (0 : Int32)), (.ref b1_2), (.ref b1_2)])) (fun t k => ?_) ?_
    · show Steps p.tables e below (T1_2.setTop (mkF m 12 #[.val (.int p0), .val (.int (f_len p0)), .unset] [(.ref b1_2)])) t
      refine XS.dup X1_2.here hx rfl (hb hby d1_12) rfl rfl ?_
      show Steps p.tables e below (T1_2.setTop (mkF m 13 #[.val (.int p0), .val (.int (f_len p0)), .unset] [(.ref b1_2), (.ref b1_2)])) t
      refine XS.iconst X1_2.here hx rfl (hb hby d1_13) ?_
      exact k
    obtain ⟨T1_3, h1_3, k1_3, X1_3, e1_3, E1_3, A1_3, st1_3⟩ := newP X1_2 hx hZ (hw _ (List.mem_of_getElem? (i := 10) rfl)) e1_2 (g := (mkF m 14 #[.val (.int p0), .val (.int (f_len p0)), .unset] [(.int (0 : Int32)), (.ref b1_2), (.ref b1_2)])) rfl (hb hby d1_14) rfl (by decide) (cap := 0) (by decide) (by decide) (by decide) (by decide)
    obtain ⟨b1_3, g1_3⟩ : ∃ z, z = h1_2.size := ⟨_, rfl⟩
    rw [← g1_3] at A1_3 st1_3
    have ne_b1_2_b1_3 : b1_2 ≠ b1_3 := Nat.ne_of_lt (Nat.lt_of_lt_of_le F_value_b1_2.lt (Nat.le_of_eq g1_3.symm))
    have g_b1_3 : n0 ≤ b1_3 := Nat.le_trans (Nat.le_trans Z0 E1_2.1) (Nat.le_of_eq g1_3.symm)
    have sz_b1_3 : h0.size ≤ b1_3 := Nat.le_trans ((Keep.refl h0 []).ext E1_2).1 (Nat.le_of_eq g1_3.symm)
    have V_b1_3 : Arv Z h1_3 b1_3 k1_3 .char (0 : Int32) [] (.int (0 : Int32)) := Arv.new A1_3 (by decide)
    refine own_fw st1_3 ?_
    obtain ⟨_, _, ⟨T1_4, L1_4, k1_4, n1_4⟩, -, X1_4, hSi1_4, hgr1_4, ⟨Lc1_4, hQ1_4, l1_4, y1_4, z1_4⟩, st1_4⟩ := X1_3.specialBackS hx (y := (⟨"java/lang/String", "<init>", "([C)V"⟩ : MethodName)) rfl hown (mvT hZ (hw _ (List.mem_of_getElem? (i := 11) rfl))) (mvT hZ (hw _ (List.mem_of_getElem? (i := 12) rfl))) (mvT hZ (hw _ (List.mem_of_getElem? (i := 13) rfl))) (by decide) (own_backS (G := fun vm => PS Z vm h1_3) (W := 1) (rmS1_0 l Z a0 hw [] b1_2 b1_3 k1_3 h1_3 n0 (Nat.le_trans (Nat.le_trans Z0 E1_2.1) E1_3.1) (A1_2.ext E1_3) (F_value_b1_2.ext E1_3) (F_coder_b1_2.ext E1_3) (F_hash_b1_2.ext E1_3) (F_hashIsZero_b1_2.ext E1_3) V_b1_3 (Ne.symm ne_b1_2_b1_3) g_b1_2 ((O_0.ext E1_2).ext E1_3) hch hcw) hZ (hw _ (List.mem_of_getElem? (i := 13) rfl)) (hw _ (List.mem_of_getElem? (i := 9) rfl)) (by decide) (by decide)) (g := (mkF m 16 #[.val (.int p0), .val (.int (f_len p0)), .unset] [(.ref b1_3), (.ref b1_2), (.ref b1_2)])) rfl (by rw [hml]; rfl) (Steps.refl _) (a := b1_2) (argsL := [(.ref b1_3)]) (rest := [(.ref b1_2)]) (lenOf pd1_1 rfl) rfl (by show 2 * 0 + _ ≤ _; exact Nat.le_of_eq rfl) (hb hby d1_16) (fun _ hW => ⟨rfl, e1_3, own_psw (own_psk hG (((Keep.refl h0 []).ext E1_2).ext E1_3)) hW, (by decide : 2 + 2 ≤ _), (by decide : 4 + 4 ≤ _)⟩)
    dsimp only [Pt.U, Pt.locs, Pt.cells, Pt.slots] at X1_4 hSi1_4 hgr1_4 l1_4 y1_4 z1_4 st1_4 hQ1_4
    subst l1_4 y1_4 z1_4
    obtain ⟨vb1_4, vk1_4, rfl, N1_4q, K1_4, E1_4, Svalu1_4, Scode1_4, Shash1_4, Shz1_4, Vb1_4, PS1_4, nb1_4⟩ := hQ1_4
    have N1_4 := Fr.app N1_1 N1_4q
    obtain ⟨X1_4r, hS1_4, hZ, hown⟩ := rebS hS0 (show _ ≤ T1_3.heap.size by rw [e1_3]; exact (Nat.le_trans (Nat.le_trans (Nat.le_refl _) E1_2.1) E1_3.1)) X1_4 hSi1_4 hgr1_4 hZ hown
    refine own_fw (fun t k => st1_4.trans k) ?_
    have hV : Arv Z T1_4.heap vb1_4 vk1_4 .byte (Int32.ofNat (own_cs p0).length) ((own_cs p0).map Value.int) (.int 0) := by
      rw [own_cs, if_pos hc1_1]
      exact Vb1_4
    have hsz : h0.size ≤ b1_2 := sz_b1_2
    obtain ⟨fs, hr, hrun, hended, hEnd⟩ := Stand.leaveW (s := s) (vm₁ := T1_4.vm) X1_4r hS1_4 (Nat.le_refl _) (v := some (.ref b1_2)) (own_ret Bd.returns) (BodyLoose.notSynchronized Bd)
    refine ⟨_, _, retA (ty := (.object "java/lang/String")) X1_4r hx rfl rfl Bd.returns (hb hby d1_19) hr, hrun, hended, _, _, rfl, ?_, own_monoW hEnd (by decide) (by decide)⟩
    have eh : (T1_4.setFrames fs).heap = T1_4.heap := rfl
    rw [eh]
    exact ⟨b1_2, vb1_4, vk1_4, rfl, N1_4, ((((Keep.refl h0 []).ext E1_2).ext E1_3).trans K1_4 (allS (Or.inr sz_b1_2) all0)), E1_4, Svalu1_4, Scode1_4, Shash1_4, Shz1_4, hV, (fun q => by rw [own_cs, if_pos hc1_1] at q; cases q), hsz, own_psw (s := s.setVm T1_4.vm) PS1_4 X1_4r.warmed⟩
  · refine own_fw (A := T1_1.setTop (mkF m 20 #[.val (.int p0), .val (.int (f_len p0)), .unset] [])) (fun t k => ?_) ?_
    · show Steps p.tables e below (T1_1.setTop (mkF m 6 #[.val (.int p0), .val (.int (f_len p0)), .unset] [(.int (f_len p0))])) t
      refine XS.ifYes X1_1.here hx rfl (pc0 := 6) (pc' := 20) rfl (hb hby d1_6) rfl ((if0 _ _).trans (feq hc1_1).2) (by decide) (by decide) ?_
      exact k
    refine own_fw (A := T1_1.setTop (mkF m 22 #[.val (.int p0), .val (.int (f_len p0)), .unset] [(.int (1 : Int32)), (.int (f_len p0))])) (fun t k => ?_) ?_
    · show Steps p.tables e below (T1_1.setTop (mkF m 20 #[.val (.int p0), .val (.int (f_len p0)), .unset] [])) t
      refine XS.iloadN X1_1.here hx rfl (hb hby d1_20) rfl ?_
      show Steps p.tables e below (T1_1.setTop (mkF m 21 #[.val (.int p0), .val (.int (f_len p0)), .unset] [(.int (f_len p0))])) t
      refine XS.iconst X1_1.here hx rfl (hb hby d1_21) ?_
      exact k
    by_cases hc1_2 : (f_len p0) = (1 : Int32)
    · refine own_fw (A := T1_1.setTop (mkF m 25 #[.val (.int p0), .val (.int (f_len p0)), .unset] [])) (fun t k => ?_) ?_
      · show Steps p.tables e below (T1_1.setTop (mkF m 22 #[.val (.int p0), .val (.int (f_len p0)), .unset] [(.int (1 : Int32)), (.int (f_len p0))])) t
        refine XS.icmpNo X1_1.here hx rfl (hb hby d1_22) rfl (teq hc1_2).2 ?_
        exact k
      refine own_fw (A := T1_1.setTop (mkF m 26 #[.val (.int p0), .val (.int (f_len p0)), .unset] [(.int (1 : Int32))])) (fun t k => ?_) ?_
      · show Steps p.tables e below (T1_1.setTop (mkF m 25 #[.val (.int p0), .val (.int (f_len p0)), .unset] [])) t
        refine XS.iconst X1_1.here hx rfl (hb hby d1_25) ?_
        exact k
      obtain ⟨T1_5, h1_5, k1_5, X1_5, e1_5, E1_5, A1_5, st1_5⟩ := newP X1_1 hx hZ (hw _ (List.mem_of_getElem? (i := 10) rfl)) e1_1 (g := (mkF m 26 #[.val (.int p0), .val (.int (f_len p0)), .unset] [(.int (1 : Int32))])) rfl (hb hby d1_26) rfl (by decide) (cap := 1) (by decide) (by decide) (by decide) (by decide)
      obtain ⟨b1_5, g1_5⟩ : ∃ z, z = h0.size := ⟨_, rfl⟩
      rw [← g1_5] at A1_5 st1_5
      have g_b1_5 : n0 ≤ b1_5 := Nat.le_trans Z0 (Nat.le_of_eq g1_5.symm)
      have sz_b1_5 : h0.size ≤ b1_5 := Nat.le_trans (Keep.refl h0 []).1 (Nat.le_of_eq g1_5.symm)
      have V_b1_5 : Arv Z h1_5 b1_5 k1_5 .char (1 : Int32) [(.int (0 : Int32))] (.int (0 : Int32)) := (Arv.new A1_5 (by decide)).pad (pad_rep [] (.int (0 : Int32)) 1)
      refine own_fw st1_5 ?_
      refine own_fw (A := T1_5.setTop (mkF m 32 #[.val (.int p0), .val (.int (f_len p0)), .val (.ref b1_5)] [(.int p0), (.int (0 : Int32)), (.ref b1_5)])) (fun t k => ?_) ?_
      · show Steps p.tables e below (T1_5.setTop (mkF m 28 #[.val (.int p0), .val (.int (f_len p0)), .unset] [(.ref b1_5)])) t
        refine XS.astoreN X1_5.here hx rfl (hb hby d1_28) rfl rfl (l' := #[.val (.int p0), .val (.int (f_len p0)), .val (.ref b1_5)]) rfl ?_
        show Steps p.tables e below (T1_5.setTop (mkF m 29 #[.val (.int p0), .val (.int (f_len p0)), .val (.ref b1_5)] [])) t
        refine XS.aloadN X1_5.here hx rfl (hb hby d1_29) rfl rfl ?_
        show Steps p.tables e below (T1_5.setTop (mkF m 30 #[.val (.int p0), .val (.int (f_len p0)), .val (.ref b1_5)] [(.ref b1_5)])) t
        refine XS.iconst X1_5.here hx rfl (hb hby d1_30) ?_
        show Steps p.tables e below (T1_5.setTop (mkF m 31 #[.val (.int p0), .val (.int (f_len p0)), .val (.ref b1_5)] [(.int (0 : Int32)), (.ref b1_5)])) t
        refine XS.iloadN X1_5.here hx rfl (hb hby d1_31) rfl ?_
        exact k
      obtain ⟨_, _, ⟨T1_6, L1_6, k1_6, n1_6⟩, -, X1_6, ⟨Lc1_6, hQ1_6, l1_6, y1_6, z1_6⟩, st1_6⟩ := Jvm.LawKit.callS X1_5 hx (y := (⟨"com/example/access_decision/accessdecision/AclRightEqualsPinLaw", "c0", "(I)C"⟩ : MethodName)) hown (mvT hZ (hw _ (List.mem_of_getElem? (i := 29) rfl))) (mvT hZ (hw _ (List.mem_of_getElem? (i := 30) rfl))) (mvT hZ (hw _ (List.mem_of_getElem? (i := 2) rfl))) (mvT hZ (hw _ (List.mem_of_getElem? (i := 31) rfl))) (by decide) (backOf (W := 2) (rm6 l Z a0 hw [] (p0) h1_5 n0 (Nat.le_trans Z0 E1_5.1) ) hZ (hw _ (List.mem_of_getElem? (i := 31) rfl)) (hw _ (List.mem_of_getElem? (i := 2) rfl)) (by decide) (by decide)) (g := (mkF m 32 #[.val (.int p0), .val (.int (f_len p0)), .val (.ref b1_5)] [(.int p0), (.int (0 : Int32)), (.ref b1_5)])) rfl (by rw [hml]; rfl) (argsL := [(.int p0)]) (rest := [(.int (0 : Int32)), (.ref b1_5)]) (lenOf pd1_2 rfl) rfl (by show 2 * 0 + _ ≤ _; exact Nat.le_of_eq rfl) (hb hby d1_32) (fun _ _ => ⟨rfl, e1_5, (by decide : 1 + 0 ≤ _), (by decide : 1 + 0 ≤ _)⟩)
      dsimp only [Pt.U, Pt.locs, Pt.cells, Pt.slots] at X1_6 l1_6 y1_6 z1_6 st1_6 hQ1_6
      subst l1_6 y1_6 z1_6
      obtain ⟨rfl, N1_6q, e1_6⟩ := hQ1_6
      have N1_6 := Fr.app N1_1 N1_6q
      refine own_fw st1_6 ?_
      obtain ⟨cl1_7, Ar1_7, q1_7, S1_7, Ng1_7, Hs1_7, G1_7⟩ := id V_b1_5
      have hin1_7 : ¬ ((0 : Int32) < 0 ∨ cl1_7.slots.size ≤ ((0 : Int32)).toNatClampNeg) := inb_of S1_7 ⟨by decide, by decide⟩
      obtain ⟨T1_7, h1_7, X1_7, e1_7, W1_7, st1_7⟩ := stC X1_6 hx hZ e1_6 Ar1_7 (j := (0 : Int32)) hin1_7 (g := (mkF m 35 #[.val (.int p0), .val (.int (f_len p0)), .val (.ref b1_5)] [(.int (f_c0 p0)), (.int (0 : Int32)), (.ref b1_5)])) rfl rfl (hb hby d1_35)
      have V1_7 : Arv Z h1_7 b1_5 k1_5 .char (1 : Int32) [(.int (nar .char (f_c0 p0)))] (.int (0 : Int32)) := Arv.set Ar1_7 q1_7 S1_7 Ng1_7 Hs1_7 G1_7 (fits_nar_char _) W1_7 0 rfl (Nat.le_of_ble_eq_true rfl)
      have N1_7 := Fr.snoc X1_7 N1_6 g_b1_5
      refine own_fw st1_7 ?_
      obtain ⟨T1_8, h1_8, X1_8, e1_8, E1_8, A1_8, D1_8, -, st1_8⟩ := newO X1_7 hx hZ hown (hw _ (List.mem_of_getElem? (i := 7) rfl)) (hw _ (List.mem_of_getElem? (i := 8) rfl)) (hw _ (List.mem_of_getElem? (i := 9) rfl)) e1_7 (g := (mkF m 36 #[.val (.int p0), .val (.int (f_len p0)), .val (.ref b1_5)] [])) rfl (hb hby d1_36) (by decide) (by decide)
      obtain ⟨b1_8, g1_8⟩ : ∃ z, z = h1_7.size := ⟨_, rfl⟩
      rw [← g1_8] at A1_8 D1_8 st1_8
      have ne_b1_5_b1_8 : b1_5 ≠ b1_8 := Nat.ne_of_lt (Nat.lt_of_lt_of_le V1_7.lt (Nat.le_of_eq g1_8.symm))
      have g_b1_8 : n0 ≤ b1_8 := Nat.le_trans (Nat.le_trans (Nat.le_trans Z0 E1_5.1) (Keep.of_wr W1_7).1) (Nat.le_of_eq g1_8.symm)
      have sz_b1_8 : h0.size ≤ b1_8 := Nat.le_trans (((Keep.refl h0 []).ext E1_5).wr W1_7 (Or.inr sz_b1_5)).1 (Nat.le_of_eq g1_8.symm)
      have F_value_b1_8 : Fld Z h1_8 b1_8 "java/lang/String" "value" "[B" .null := D1_8 (Or.inr (hw _ (List.mem_of_getElem? (i := 23) rfl))) (ty := (.array .byte)) (by decide)
      have F_coder_b1_8 : Fld Z h1_8 b1_8 "java/lang/String" "coder" "B" (.int (0 : Int32)) := D1_8 (Or.inr (hw _ (List.mem_of_getElem? (i := 24) rfl))) (ty := .byte) (by decide)
      have F_hash_b1_8 : Fld Z h1_8 b1_8 "java/lang/String" "hash" "I" (.int (0 : Int32)) := D1_8 (Or.inl (hw _ (List.mem_of_getElem? (i := 63) rfl))) (ty := .int) (by decide)
      have F_hashIsZero_b1_8 : Fld Z h1_8 b1_8 "java/lang/String" "hashIsZero" "Z" (.int (0 : Int32)) := D1_8 (Or.inl (hw _ (List.mem_of_getElem? (i := 65) rfl))) (ty := .boolean) (by decide)
      refine own_fw st1_8 ?_
      refine own_fw (A := T1_8.setTop (mkF m 41 #[.val (.int p0), .val (.int (f_len p0)), .val (.ref b1_5)] [(.ref b1_5), (.ref b1_8), (.ref b1_8)])) (fun t k => ?_) ?_
      · show Steps p.tables e below (T1_8.setTop (mkF m 39 #[.val (.int p0), .val (.int (f_len p0)), .val (.ref b1_5)] [(.ref b1_8)])) t
        refine XS.dup X1_8.here hx rfl (hb hby d1_39) rfl rfl ?_
        show Steps p.tables e below (T1_8.setTop (mkF m 40 #[.val (.int p0), .val (.int (f_len p0)), .val (.ref b1_5)] [(.ref b1_8), (.ref b1_8)])) t
        refine XS.aloadN X1_8.here hx rfl (hb hby d1_40) rfl rfl ?_
        exact k
      obtain ⟨_, _, ⟨T1_9, L1_9, k1_9, n1_9⟩, -, X1_9, ⟨Lc1_9, hQ1_9, l1_9, y1_9, z1_9⟩, st1_9⟩ := X1_8.specialBack hx (y := (⟨"java/lang/String", "<init>", "([C)V"⟩ : MethodName)) rfl hown (mvT hZ (hw _ (List.mem_of_getElem? (i := 11) rfl))) (mvT hZ (hw _ (List.mem_of_getElem? (i := 12) rfl))) (mvT hZ (hw _ (List.mem_of_getElem? (i := 13) rfl))) (by decide) (backOf (W := 1) (rmS1_1 l Z a0 hw [] b1_8 b1_5 k1_5 (nar .char (f_c0 p0)) cc h1_8 n0 (Nat.le_trans (Nat.le_trans (Nat.le_trans Z0 E1_5.1) (Keep.of_wr W1_7).1) E1_8.1) A1_8 F_value_b1_8 F_coder_b1_8 F_hash_b1_8 F_hashIsZero_b1_8 (V1_7.ext E1_8) ne_b1_5_b1_8 g_b1_8 (own_le0 p0) (((O_0.ext E1_5).wr W1_7 g_b1_5).ext E1_8) S_c hcc) hZ (hw _ (List.mem_of_getElem? (i := 13) rfl)) (hw _ (List.mem_of_getElem? (i := 9) rfl)) (by decide) (by decide)) (g := (mkF m 41 #[.val (.int p0), .val (.int (f_len p0)), .val (.ref b1_5)] [(.ref b1_5), (.ref b1_8), (.ref b1_8)])) rfl (by rw [hml]; rfl) (Steps.refl _) (a := b1_8) (argsL := [(.ref b1_5)]) (rest := [(.ref b1_8)]) (lenOf pd1_1 rfl) rfl (by show 2 * 0 + _ ≤ _; exact Nat.le_of_eq rfl) (hb hby d1_41) (fun _ _ => ⟨rfl, e1_8, (by decide : 2 + 1 ≤ _), (by decide : 5 + 1 ≤ _)⟩)
      dsimp only [Pt.U, Pt.locs, Pt.cells, Pt.slots] at X1_9 l1_9 y1_9 z1_9 st1_9 hQ1_9
      subst l1_9 y1_9 z1_9
      obtain ⟨bc1_9, kb1_9, rfl, N1_9q, K1_9, E1_9, Svalu1_9, Scode1_9, Shash1_9, Shz1_9, Vb1_9, hk1_9, zb1_9⟩ := hQ1_9
      have N1_9 := Fr.app N1_7 N1_9q
      have ne_b1_5_bc1_9 : b1_5 ≠ bc1_9 := Nat.ne_of_lt (Nat.lt_of_lt_of_le (V1_7.ext E1_8).lt zb1_9)
      have ne_b1_8_bc1_9 : b1_8 ≠ bc1_9 := Nat.ne_of_lt (Nat.lt_of_lt_of_le F_value_b1_8.lt zb1_9)
      have g_bc1_9 : n0 ≤ bc1_9 := Nat.le_trans (Nat.le_trans (Nat.le_trans (Nat.le_trans Z0 E1_5.1) (Keep.of_wr W1_7).1) E1_8.1) zb1_9
      have sz_bc1_9 : h0.size ≤ bc1_9 := Nat.le_trans ((((Keep.refl h0 []).ext E1_5).wr W1_7 (Or.inr sz_b1_5)).ext E1_8).1 zb1_9
      refine own_fw (fun t k => st1_9.trans k) ?_
      have hV : Arv Z T1_9.heap bc1_9 kb1_9 .byte (Int32.ofNat (own_cs p0).length) ((own_cs p0).map Value.int) (.int 0) := by
        rw [own_cs, if_neg hc1_1, if_pos hc1_2]
        exact Vb1_9
      have hsz : h0.size ≤ b1_8 := sz_b1_8
      obtain ⟨fs, hr, hrun, hended, hEnd⟩ := Stand.leaveW (s := s) (vm₁ := s.vm) X1_9 hS0 (Nat.le_trans (Nat.le_trans (Nat.le_trans (Nat.le_trans (Nat.le_refl _) E1_5.1) (Keep.of_wr W1_7).1) E1_8.1) K1_9.1) (v := some (.ref b1_8)) (own_ret Bd.returns) (BodyLoose.notSynchronized Bd)
      refine ⟨_, _, retA (ty := (.object "java/lang/String")) X1_9 hx rfl rfl Bd.returns (hb hby d1_44) hr, hrun, hended, _, _, rfl, ?_, own_monoW hEnd (by decide) (by decide)⟩
      have eh : (T1_9.setFrames fs).heap = T1_9.heap := rfl
      rw [eh]
      exact ⟨b1_8, bc1_9, kb1_9, rfl, N1_9, (((((Keep.refl h0 []).ext E1_5).wr W1_7 (Or.inr sz_b1_5)).ext E1_8).trans K1_9 (allS (Or.inr sz_b1_8) all0)), E1_9, Svalu1_9, Scode1_9, Shash1_9, Shz1_9, hV, (fun _ => hk1_9), hsz, own_psw (s := s) (own_psk hG (((((Keep.refl h0 []).ext E1_5).wr W1_7 (Or.inr sz_b1_5)).ext E1_8).trans K1_9 (allS (Or.inr sz_b1_8) all0))) X1_9.warmed⟩
    · refine own_fw (A := T1_1.setTop (mkF m 45 #[.val (.int p0), .val (.int (f_len p0)), .unset] [])) (fun t k => ?_) ?_
      · show Steps p.tables e below (T1_1.setTop (mkF m 22 #[.val (.int p0), .val (.int (f_len p0)), .unset] [(.int (1 : Int32)), (.int (f_len p0))])) t
        refine XS.icmpYes X1_1.here hx rfl (pc0 := 22) (pc' := 45) rfl (hb hby d1_22) rfl (feq hc1_2).2 (by decide) (by decide) ?_
        exact k
      refine own_fw (A := T1_1.setTop (mkF m 46 #[.val (.int p0), .val (.int (f_len p0)), .unset] [(.int (2 : Int32))])) (fun t k => ?_) ?_
      · show Steps p.tables e below (T1_1.setTop (mkF m 45 #[.val (.int p0), .val (.int (f_len p0)), .unset] [])) t
        refine XS.iconst X1_1.here hx rfl (hb hby d1_45) ?_
        exact k
      obtain ⟨T1_10, h1_10, k1_10, X1_10, e1_10, E1_10, A1_10, st1_10⟩ := newP X1_1 hx hZ (hw _ (List.mem_of_getElem? (i := 10) rfl)) e1_1 (g := (mkF m 46 #[.val (.int p0), .val (.int (f_len p0)), .unset] [(.int (2 : Int32))])) rfl (hb hby d1_46) rfl (by decide) (cap := 2) (by decide) (by decide) (by decide) (by decide)
      obtain ⟨b1_10, g1_10⟩ : ∃ z, z = h0.size := ⟨_, rfl⟩
      rw [← g1_10] at A1_10 st1_10
      have g_b1_10 : n0 ≤ b1_10 := Nat.le_trans Z0 (Nat.le_of_eq g1_10.symm)
      have sz_b1_10 : h0.size ≤ b1_10 := Nat.le_trans (Keep.refl h0 []).1 (Nat.le_of_eq g1_10.symm)
      have V_b1_10 : Arv Z h1_10 b1_10 k1_10 .char (2 : Int32) [(.int (0 : Int32)), (.int (0 : Int32))] (.int (0 : Int32)) := (Arv.new A1_10 (by decide)).pad (pad_rep [] (.int (0 : Int32)) 2)
      refine own_fw st1_10 ?_
      refine own_fw (A := T1_10.setTop (mkF m 52 #[.val (.int p0), .val (.int (f_len p0)), .val (.ref b1_10)] [(.int p0), (.int (0 : Int32)), (.ref b1_10)])) (fun t k => ?_) ?_
      · show Steps p.tables e below (T1_10.setTop (mkF m 48 #[.val (.int p0), .val (.int (f_len p0)), .unset] [(.ref b1_10)])) t
        refine XS.astoreN X1_10.here hx rfl (hb hby d1_48) rfl rfl (l' := #[.val (.int p0), .val (.int (f_len p0)), .val (.ref b1_10)]) rfl ?_
        show Steps p.tables e below (T1_10.setTop (mkF m 49 #[.val (.int p0), .val (.int (f_len p0)), .val (.ref b1_10)] [])) t
        refine XS.aloadN X1_10.here hx rfl (hb hby d1_49) rfl rfl ?_
        show Steps p.tables e below (T1_10.setTop (mkF m 50 #[.val (.int p0), .val (.int (f_len p0)), .val (.ref b1_10)] [(.ref b1_10)])) t
        refine XS.iconst X1_10.here hx rfl (hb hby d1_50) ?_
        show Steps p.tables e below (T1_10.setTop (mkF m 51 #[.val (.int p0), .val (.int (f_len p0)), .val (.ref b1_10)] [(.int (0 : Int32)), (.ref b1_10)])) t
        refine XS.iloadN X1_10.here hx rfl (hb hby d1_51) rfl ?_
        exact k
      obtain ⟨_, _, ⟨T1_11, L1_11, k1_11, n1_11⟩, -, X1_11, ⟨Lc1_11, hQ1_11, l1_11, y1_11, z1_11⟩, st1_11⟩ := Jvm.LawKit.callS X1_10 hx (y := (⟨"com/example/access_decision/accessdecision/AclRightEqualsPinLaw", "c0", "(I)C"⟩ : MethodName)) hown (mvT hZ (hw _ (List.mem_of_getElem? (i := 29) rfl))) (mvT hZ (hw _ (List.mem_of_getElem? (i := 30) rfl))) (mvT hZ (hw _ (List.mem_of_getElem? (i := 2) rfl))) (mvT hZ (hw _ (List.mem_of_getElem? (i := 31) rfl))) (by decide) (backOf (W := 2) (rm6 l Z a0 hw [] (p0) h1_10 n0 (Nat.le_trans Z0 E1_10.1) ) hZ (hw _ (List.mem_of_getElem? (i := 31) rfl)) (hw _ (List.mem_of_getElem? (i := 2) rfl)) (by decide) (by decide)) (g := (mkF m 52 #[.val (.int p0), .val (.int (f_len p0)), .val (.ref b1_10)] [(.int p0), (.int (0 : Int32)), (.ref b1_10)])) rfl (by rw [hml]; rfl) (argsL := [(.int p0)]) (rest := [(.int (0 : Int32)), (.ref b1_10)]) (lenOf pd1_2 rfl) rfl (by show 2 * 0 + _ ≤ _; exact Nat.le_of_eq rfl) (hb hby d1_52) (fun _ _ => ⟨rfl, e1_10, (by decide : 1 + 0 ≤ _), (by decide : 2 + 0 ≤ _)⟩)
      dsimp only [Pt.U, Pt.locs, Pt.cells, Pt.slots] at X1_11 l1_11 y1_11 z1_11 st1_11 hQ1_11
      subst l1_11 y1_11 z1_11
      obtain ⟨rfl, N1_11q, e1_11⟩ := hQ1_11
      have N1_11 := Fr.app N1_1 N1_11q
      refine own_fw st1_11 ?_
      obtain ⟨cl1_12, Ar1_12, q1_12, S1_12, Ng1_12, Hs1_12, G1_12⟩ := id V_b1_10
      have hin1_12 : ¬ ((0 : Int32) < 0 ∨ cl1_12.slots.size ≤ ((0 : Int32)).toNatClampNeg) := inb_of S1_12 ⟨by decide, by decide⟩
      obtain ⟨T1_12, h1_12, X1_12, e1_12, W1_12, st1_12⟩ := stC X1_11 hx hZ e1_11 Ar1_12 (j := (0 : Int32)) hin1_12 (g := (mkF m 55 #[.val (.int p0), .val (.int (f_len p0)), .val (.ref b1_10)] [(.int (f_c0 p0)), (.int (0 : Int32)), (.ref b1_10)])) rfl rfl (hb hby d1_55)
      have V1_12 : Arv Z h1_12 b1_10 k1_10 .char (2 : Int32) [(.int (nar .char (f_c0 p0))), (.int (0 : Int32))] (.int (0 : Int32)) := Arv.set Ar1_12 q1_12 S1_12 Ng1_12 Hs1_12 G1_12 (fits_nar_char _) W1_12 0 rfl (Nat.le_of_ble_eq_true rfl)
      have N1_12 := Fr.snoc X1_12 N1_11 g_b1_10
      refine own_fw st1_12 ?_
      refine own_fw (A := T1_12.setTop (mkF m 59 #[.val (.int p0), .val (.int (f_len p0)), .val (.ref b1_10)] [(.int p0), (.int (1 : Int32)), (.ref b1_10)])) (fun t k => ?_) ?_
      · show Steps p.tables e below (T1_12.setTop (mkF m 56 #[.val (.int p0), .val (.int (f_len p0)), .val (.ref b1_10)] [])) t
        refine XS.aloadN X1_12.here hx rfl (hb hby d1_56) rfl rfl ?_
        show Steps p.tables e below (T1_12.setTop (mkF m 57 #[.val (.int p0), .val (.int (f_len p0)), .val (.ref b1_10)] [(.ref b1_10)])) t
        refine XS.iconst X1_12.here hx rfl (hb hby d1_57) ?_
        show Steps p.tables e below (T1_12.setTop (mkF m 58 #[.val (.int p0), .val (.int (f_len p0)), .val (.ref b1_10)] [(.int (1 : Int32)), (.ref b1_10)])) t
        refine XS.iloadN X1_12.here hx rfl (hb hby d1_58) rfl ?_
        exact k
      obtain ⟨_, _, ⟨T1_13, L1_13, k1_13, n1_13⟩, -, X1_13, ⟨Lc1_13, hQ1_13, l1_13, y1_13, z1_13⟩, st1_13⟩ := Jvm.LawKit.callS X1_12 hx (y := (⟨"com/example/access_decision/accessdecision/AclRightEqualsPinLaw", "c1", "(I)C"⟩ : MethodName)) hown (mvT hZ (hw _ (List.mem_of_getElem? (i := 32) rfl))) (mvT hZ (hw _ (List.mem_of_getElem? (i := 33) rfl))) (mvT hZ (hw _ (List.mem_of_getElem? (i := 2) rfl))) (mvT hZ (hw _ (List.mem_of_getElem? (i := 34) rfl))) (by decide) (backOf (W := 2) (rm7 l Z a0 hw [] (p0) h1_12 n0 (Nat.le_trans (Nat.le_trans Z0 E1_10.1) (Keep.of_wr W1_12).1) ) hZ (hw _ (List.mem_of_getElem? (i := 34) rfl)) (hw _ (List.mem_of_getElem? (i := 2) rfl)) (by decide) (by decide)) (g := (mkF m 59 #[.val (.int p0), .val (.int (f_len p0)), .val (.ref b1_10)] [(.int p0), (.int (1 : Int32)), (.ref b1_10)])) rfl (by rw [hml]; rfl) (argsL := [(.int p0)]) (rest := [(.int (1 : Int32)), (.ref b1_10)]) (lenOf pd1_2 rfl) rfl (by show 2 * 0 + _ ≤ _; exact Nat.le_of_eq rfl) (hb hby d1_59) (fun _ _ => ⟨rfl, e1_12, (by decide : 1 + 0 ≤ _), (by decide : 2 + 0 ≤ _)⟩)
      dsimp only [Pt.U, Pt.locs, Pt.cells, Pt.slots] at X1_13 l1_13 y1_13 z1_13 st1_13 hQ1_13
      subst l1_13 y1_13 z1_13
      obtain ⟨rfl, N1_13q, e1_13⟩ := hQ1_13
      have N1_13 := Fr.app N1_12 N1_13q
      refine own_fw st1_13 ?_
      obtain ⟨cl1_14, Ar1_14, q1_14, S1_14, Ng1_14, Hs1_14, G1_14⟩ := id V1_12
      have hin1_14 : ¬ ((1 : Int32) < 0 ∨ cl1_14.slots.size ≤ ((1 : Int32)).toNatClampNeg) := inb_of S1_14 ⟨by decide, by decide⟩
      obtain ⟨T1_14, h1_14, X1_14, e1_14, W1_14, st1_14⟩ := stC X1_13 hx hZ e1_13 Ar1_14 (j := (1 : Int32)) hin1_14 (g := (mkF m 62 #[.val (.int p0), .val (.int (f_len p0)), .val (.ref b1_10)] [(.int (f_c1 p0)), (.int (1 : Int32)), (.ref b1_10)])) rfl rfl (hb hby d1_62)
      have V1_14 : Arv Z h1_14 b1_10 k1_10 .char (2 : Int32) [(.int (nar .char (f_c0 p0))), (.int (nar .char (f_c1 p0)))] (.int (0 : Int32)) := Arv.set Ar1_14 q1_14 S1_14 Ng1_14 Hs1_14 G1_14 (fits_nar_char _) W1_14 1 rfl (Nat.le_of_ble_eq_true rfl)
      have N1_14 := Fr.snoc X1_14 N1_13 g_b1_10
      refine own_fw st1_14 ?_
      obtain ⟨T1_15, h1_15, X1_15, e1_15, E1_15, A1_15, D1_15, -, st1_15⟩ := newO X1_14 hx hZ hown (hw _ (List.mem_of_getElem? (i := 7) rfl)) (hw _ (List.mem_of_getElem? (i := 8) rfl)) (hw _ (List.mem_of_getElem? (i := 9) rfl)) e1_14 (g := (mkF m 63 #[.val (.int p0), .val (.int (f_len p0)), .val (.ref b1_10)] [])) rfl (hb hby d1_63) (by decide) (by decide)
      obtain ⟨b1_15, g1_15⟩ : ∃ z, z = h1_14.size := ⟨_, rfl⟩
      rw [← g1_15] at A1_15 D1_15 st1_15
      have ne_b1_10_b1_15 : b1_10 ≠ b1_15 := Nat.ne_of_lt (Nat.lt_of_lt_of_le V1_14.lt (Nat.le_of_eq g1_15.symm))
      have g_b1_15 : n0 ≤ b1_15 := Nat.le_trans (Nat.le_trans (Nat.le_trans (Nat.le_trans Z0 E1_10.1) (Keep.of_wr W1_12).1) (Keep.of_wr W1_14).1) (Nat.le_of_eq g1_15.symm)
      have sz_b1_15 : h0.size ≤ b1_15 := Nat.le_trans ((((Keep.refl h0 []).ext E1_10).wr W1_12 (Or.inr sz_b1_10)).wr W1_14 (Or.inr sz_b1_10)).1 (Nat.le_of_eq g1_15.symm)
      have F_value_b1_15 : Fld Z h1_15 b1_15 "java/lang/String" "value" "[B" .null := D1_15 (Or.inr (hw _ (List.mem_of_getElem? (i := 23) rfl))) (ty := (.array .byte)) (by decide)
      have F_coder_b1_15 : Fld Z h1_15 b1_15 "java/lang/String" "coder" "B" (.int (0 : Int32)) := D1_15 (Or.inr (hw _ (List.mem_of_getElem? (i := 24) rfl))) (ty := .byte) (by decide)
      have F_hash_b1_15 : Fld Z h1_15 b1_15 "java/lang/String" "hash" "I" (.int (0 : Int32)) := D1_15 (Or.inl (hw _ (List.mem_of_getElem? (i := 63) rfl))) (ty := .int) (by decide)
      have F_hashIsZero_b1_15 : Fld Z h1_15 b1_15 "java/lang/String" "hashIsZero" "Z" (.int (0 : Int32)) := D1_15 (Or.inl (hw _ (List.mem_of_getElem? (i := 65) rfl))) (ty := .boolean) (by decide)
      refine own_fw st1_15 ?_
      refine own_fw (A := T1_15.setTop (mkF m 68 #[.val (.int p0), .val (.int (f_len p0)), .val (.ref b1_10)] [(.ref b1_10), (.ref b1_15), (.ref b1_15)])) (fun t k => ?_) ?_
      · show Steps p.tables e below (T1_15.setTop (mkF m 66 #[.val (.int p0), .val (.int (f_len p0)), .val (.ref b1_10)] [(.ref b1_15)])) t
        refine XS.dup X1_15.here hx rfl (hb hby d1_66) rfl rfl ?_
        show Steps p.tables e below (T1_15.setTop (mkF m 67 #[.val (.int p0), .val (.int (f_len p0)), .val (.ref b1_10)] [(.ref b1_15), (.ref b1_15)])) t
        refine XS.aloadN X1_15.here hx rfl (hb hby d1_67) rfl rfl ?_
        exact k
      obtain ⟨_, _, ⟨T1_16, L1_16, k1_16, n1_16⟩, -, X1_16, ⟨Lc1_16, hQ1_16, l1_16, y1_16, z1_16⟩, st1_16⟩ := X1_15.specialBack hx (y := (⟨"java/lang/String", "<init>", "([C)V"⟩ : MethodName)) rfl hown (mvT hZ (hw _ (List.mem_of_getElem? (i := 11) rfl))) (mvT hZ (hw _ (List.mem_of_getElem? (i := 12) rfl))) (mvT hZ (hw _ (List.mem_of_getElem? (i := 13) rfl))) (by decide) (backOf (W := 1) (rmS1_2 l Z a0 hw [] b1_15 b1_10 k1_10 (nar .char (f_c0 p0)) (nar .char (f_c1 p0)) cc h1_15 n0 (Nat.le_trans (Nat.le_trans (Nat.le_trans (Nat.le_trans Z0 E1_10.1) (Keep.of_wr W1_12).1) (Keep.of_wr W1_14).1) E1_15.1) A1_15 F_value_b1_15 F_coder_b1_15 F_hash_b1_15 F_hashIsZero_b1_15 (V1_14.ext E1_15) ne_b1_10_b1_15 g_b1_15 (own_le0 p0) (own_le1 p0) ((((O_0.ext E1_10).wr W1_12 g_b1_10).wr W1_14 g_b1_10).ext E1_15) S_c hcc) hZ (hw _ (List.mem_of_getElem? (i := 13) rfl)) (hw _ (List.mem_of_getElem? (i := 9) rfl)) (by decide) (by decide)) (g := (mkF m 68 #[.val (.int p0), .val (.int (f_len p0)), .val (.ref b1_10)] [(.ref b1_10), (.ref b1_15), (.ref b1_15)])) rfl (by rw [hml]; rfl) (Steps.refl _) (a := b1_15) (argsL := [(.ref b1_10)]) (rest := [(.ref b1_15)]) (lenOf pd1_1 rfl) rfl (by show 2 * 0 + _ ≤ _; exact Nat.le_of_eq rfl) (hb hby d1_68) (fun _ _ => ⟨rfl, e1_15, (by decide : 2 + 1 ≤ _), (by decide : 6 + 2 ≤ _)⟩)
      dsimp only [Pt.U, Pt.locs, Pt.cells, Pt.slots] at X1_16 l1_16 y1_16 z1_16 st1_16 hQ1_16
      subst l1_16 y1_16 z1_16
      obtain ⟨bc1_16, kb1_16, rfl, N1_16q, K1_16, E1_16, Svalu1_16, Scode1_16, Shash1_16, Shz1_16, Vb1_16, hk1_16, zb1_16⟩ := hQ1_16
      have N1_16 := Fr.app N1_14 N1_16q
      have ne_b1_10_bc1_16 : b1_10 ≠ bc1_16 := Nat.ne_of_lt (Nat.lt_of_lt_of_le (V1_14.ext E1_15).lt zb1_16)
      have ne_b1_15_bc1_16 : b1_15 ≠ bc1_16 := Nat.ne_of_lt (Nat.lt_of_lt_of_le F_value_b1_15.lt zb1_16)
      have g_bc1_16 : n0 ≤ bc1_16 := Nat.le_trans (Nat.le_trans (Nat.le_trans (Nat.le_trans (Nat.le_trans Z0 E1_10.1) (Keep.of_wr W1_12).1) (Keep.of_wr W1_14).1) E1_15.1) zb1_16
      have sz_bc1_16 : h0.size ≤ bc1_16 := Nat.le_trans (((((Keep.refl h0 []).ext E1_10).wr W1_12 (Or.inr sz_b1_10)).wr W1_14 (Or.inr sz_b1_10)).ext E1_15).1 zb1_16
      refine own_fw (fun t k => st1_16.trans k) ?_
      have hV : Arv Z T1_16.heap bc1_16 kb1_16 .byte (Int32.ofNat (own_cs p0).length) ((own_cs p0).map Value.int) (.int 0) := by
        rw [own_cs, if_neg hc1_1, if_neg hc1_2]
        exact Vb1_16
      have hsz : h0.size ≤ b1_15 := sz_b1_15
      obtain ⟨fs, hr, hrun, hended, hEnd⟩ := Stand.leaveW (s := s) (vm₁ := s.vm) X1_16 hS0 (Nat.le_trans (Nat.le_trans (Nat.le_trans (Nat.le_trans (Nat.le_trans (Nat.le_refl _) E1_10.1) (Keep.of_wr W1_12).1) (Keep.of_wr W1_14).1) E1_15.1) K1_16.1) (v := some (.ref b1_15)) (own_ret Bd.returns) (BodyLoose.notSynchronized Bd)
      refine ⟨_, _, retA (ty := (.object "java/lang/String")) X1_16 hx rfl rfl Bd.returns (hb hby d1_71) hr, hrun, hended, _, _, rfl, ?_, own_monoW hEnd (by decide) (by decide)⟩
      have eh : (T1_16.setFrames fs).heap = T1_16.heap := rfl
      rw [eh]
      exact ⟨b1_15, bc1_16, kb1_16, rfl, N1_16, ((((((Keep.refl h0 []).ext E1_10).wr W1_12 (Or.inr sz_b1_10)).wr W1_14 (Or.inr sz_b1_10)).ext E1_15).trans K1_16 (allS (Or.inr sz_b1_15) all0)), E1_16, Svalu1_16, Scode1_16, Shash1_16, Shz1_16, hV, (fun _ => hk1_16), hsz, own_psw (s := s) (own_psk hG ((((((Keep.refl h0 []).ext E1_10).wr W1_12 (Or.inr sz_b1_10)).wr W1_14 (Or.inr sz_b1_10)).ext E1_15).trans K1_16 (allS (Or.inr sz_b1_15) all0))) X1_16.warmed⟩
theorem pn0 : plainName "com/example/access_decision/accessdecision/AclRightEqualsPinLaw" = true := by first | (simp [plainName, overriddenIn]; done) | decide +kernel
theorem pd0_0 : parseMethodDescriptor "(I)Ljava/lang/String;" = some ⟨[.int], some (.object "java/lang/String")⟩ := by decide +kernel
theorem pd0_1 : parseMethodDescriptor "(Ljava/lang/String;Ljava/lang/String;)V" = some ⟨[(.object "java/lang/String"), (.object "java/lang/String")], none⟩ := by decide +kernel
theorem pd0_2 : parseMethodDescriptor "(Ljava/lang/Object;)Z" = some ⟨[(.object "java/lang/Object")], some .boolean⟩ := by decide +kernel
theorem pd0_3 : parseMethodDescriptor "(II)Z" = some ⟨[.int, .int], some .boolean⟩ := by decide +kernel
theorem ef0 (m : MethodId) (p0 : Int32) (p1 : Int32) (p2 : Int32) (p3 : Int32) (p4 : Int32) : entryFrame m #[(.int p0), (.int p1), (.int p2), (.int p3), (.int p4)] maxLocals = mkF m 0 #[.val (.int p0), .val (.int p1), .val (.int p2), .val (.int p3), .val (.int p4), .unset, .unset, .unset, .unset, .unset, .unset, .unset, .unset, .unset, .unset] [] := by first | (simp [entryFrame, mkF, argsToLocals, Value.category, maxLocals]; done) | rfl
def own_et (p0 : Int32) (p1 : Int32) (p2 : Int32) (p3 : Int32) (p4 : Int32) : Int32 := (if (p4 &&& (1 : Int32)) = (0 : Int32) then p2 else p0)
def own_ev (p0 : Int32) (p1 : Int32) (p2 : Int32) (p3 : Int32) (p4 : Int32) : Int32 := (if (p4 &&& (2 : Int32)) = (0 : Int32) then p3 else p1)
def QW0 (Z : State) (p0 : Int32) (p1 : Int32) (p2 : Int32) (p3 : Int32) (p4 : Int32) (h0 : Heap) (n0 : Nat) (w : Option Value) (vm : Vm) (h : Heap) (L : List Loc) : Prop := w = some (.int 1) ∧ Fr n0 L
set_option maxRecDepth 65536 in
set_option maxHeartbeats 40000000 in
theorem rm0 (l : Launch) (Z : State) (a0 : Array Value) (hw : ∀ d ∈ tables_1, d.before a0 Z = true) (ws : List Jvm.Cond) (p0 : Int32) (p1 : Int32) (p2 : Int32) (p3 : Int32) (p4 : Int32) (cc : Int32) (h0 : Heap) (n0 : Nat) (Z0 : n0 ≤ h0.size) (O_0 : Old Z n0 h0) (S_c : Sta Z Z.heap "java/lang/String" "COMPACT_STRINGS" "Z" (.int cc)) (hcc : ¬ cc = (0 : Int32)) (hch : Jvm.Lit.constHeld Z "java/lang/String" 7) (hcw : Jvm.Lit.compactW.before a0 Z = true) :
    MetFree l x (head1 (Jvm.Cond.code x code maxLocals ret :: ws) room_1) (fun a U => a = #[(.int p0), (.int p1), (.int p2), (.int p3), (.int p4)] ∧ Z.Warmed39 U.vm ∧ U.heap = h0 ∧ PS Z U.vm h0) (fun _ _ _ _ _ => True) (fun _ U o U' => ∃ v L, o = .returned v ∧ QW0 Z p0 p1 p2 p3 p4 h0 n0 v U'.vm U'.heap L ∧ ReturnedEndW U o U' L room_1.cells room_1.slots) := by
  refine MetFree.of_bodySF (plainFor_of_name pn0) hisR ?_
  intro p e s m args below meth c s₁ Bd hml0 hP hK
  obtain ⟨rfl, hZ, hh, hG⟩ := hP
  have hx := Bd.exec
  have hby := Bd.bytes
  have hml : c.maxLocals = 15 := hml0
  have hown : s.vm.findClass "com/example/access_decision/accessdecision/AclRightEqualsPinLaw" = some m.cls := findClass_of_methodNamed Bd.named
  have hnm := (name_of_methodNamed Bd.named Bd.method).1
  have X0 : Stand p l e room_1 s m #[(.int p0), (.int p1), (.int p2), (.int p3), (.int p4)] below meth c s₁ [] 0 0 := Stand.of_body Bd
  have e0 : s₁.heap = h0 := by rw [← hh, Bd.state]; rfl
  have N0 := Fr.nil n0
  have hS0 : s.Since s.vm h0.size := (State.WarmedH.refl s).since _
  refine own_fw (A := s₁.setTop (mkF m 0 #[.val (.int p0), .val (.int p1), .val (.int p2), .val (.int p3), .val (.int p4), .unset, .unset, .unset, .unset, .unset, .unset, .unset, .unset, .unset, .unset] [])) (fun t k => castTop (ef0 m p0 p1 p2 p3 p4) k) ?_
  have sg0_0 : ∀ t, Steps p.tables e below (s₁.setTop (mkF m 12 #[.val (.int p0), .val (.int p1), .val (.int p2), .val (.int p3), .val (.int p4), .unset, .unset, .unset, .unset, .unset, .unset, .unset, .unset, .unset, .unset] [(.int (own_et p0 p1 p2 p3 p4))])) t → Steps p.tables e below (s₁.setTop (mkF m 0 #[.val (.int p0), .val (.int p1), .val (.int p2), .val (.int p3), .val (.int p4), .unset, .unset, .unset, .unset, .unset, .unset, .unset, .unset, .unset, .unset] [])) t := by
    intro t k
    show Steps p.tables e below (s₁.setTop (mkF m 0 #[.val (.int p0), .val (.int p1), .val (.int p2), .val (.int p3), .val (.int p4), .unset, .unset, .unset, .unset, .unset, .unset, .unset, .unset, .unset, .unset] [])) t
    refine XS.iload X0.here hx rfl (hb hby at_0) rfl ?_
    show Steps p.tables e below (s₁.setTop (mkF m 2 #[.val (.int p0), .val (.int p1), .val (.int p2), .val (.int p3), .val (.int p4), .unset, .unset, .unset, .unset, .unset, .unset, .unset, .unset, .unset, .unset] [(.int p4)])) t
    refine XS.iconst X0.here hx rfl (hb hby at_2) ?_
    show Steps p.tables e below (s₁.setTop (mkF m 3 #[.val (.int p0), .val (.int p1), .val (.int p2), .val (.int p3), .val (.int p4), .unset, .unset, .unset, .unset, .unset, .unset, .unset, .unset, .unset, .unset] [(.int (1 : Int32)), (.int p4)])) t
    refine XS.iand X0.here hx rfl (hb hby at_3) rfl ?_
    show Steps p.tables e below (s₁.setTop (mkF m 4 #[.val (.int p0), .val (.int p1), .val (.int p2), .val (.int p3), .val (.int p4), .unset, .unset, .unset, .unset, .unset, .unset, .unset, .unset, .unset, .unset] [(.int (p4 &&& (1 : Int32)))])) t
    by_cases hc0_1 : (p4 &&& (1 : Int32)) = (0 : Int32)
    · refine XS.ifYes X0.here hx rfl (pc0 := 4) (pc' := 11) rfl (hb hby at_4) rfl ((if0 _ _).trans (teq hc0_1).1) (by decide) (by decide) ?_
      show Steps p.tables e below (s₁.setTop (mkF m 11 #[.val (.int p0), .val (.int p1), .val (.int p2), .val (.int p3), .val (.int p4), .unset, .unset, .unset, .unset, .unset, .unset, .unset, .unset, .unset, .unset] [])) t
      refine XS.iloadN X0.here hx rfl (hb hby at_11) rfl ?_
      have q : own_et p0 p1 p2 p3 p4 = p2 := by rw [own_et, if_pos hc0_1]
      rw [q] at k
      exact k
    · refine XS.ifNo X0.here hx rfl (hb hby at_4) rfl ((if0 _ _).trans (feq hc0_1).1) ?_
      show Steps p.tables e below (s₁.setTop (mkF m 7 #[.val (.int p0), .val (.int p1), .val (.int p2), .val (.int p3), .val (.int p4), .unset, .unset, .unset, .unset, .unset, .unset, .unset, .unset, .unset, .unset] [])) t
      refine XS.iloadN X0.here hx rfl (hb hby at_7) rfl ?_
      show Steps p.tables e below (s₁.setTop (mkF m 8 #[.val (.int p0), .val (.int p1), .val (.int p2), .val (.int p3), .val (.int p4), .unset, .unset, .unset, .unset, .unset, .unset, .unset, .unset, .unset, .unset] [(.int p0)])) t
      refine XS.goto X0.here hx rfl (pc0 := 8) (pc' := 12) rfl (hb hby at_8) (by decide) (by decide) ?_
      have q : own_et p0 p1 p2 p3 p4 = p0 := by rw [own_et, if_neg hc0_1]
      rw [q] at k
      exact k
  refine own_fw sg0_0 ?_
  refine own_fw (A := s₁.setTop (mkF m 14 #[.val (.int p0), .val (.int p1), .val (.int p2), .val (.int p3), .val (.int p4), .val (.int (own_et p0 p1 p2 p3 p4)), .unset, .unset, .unset, .unset, .unset, .unset, .unset, .unset, .unset] [])) (fun t k => ?_) ?_
  · show Steps p.tables e below (s₁.setTop (mkF m 12 #[.val (.int p0), .val (.int p1), .val (.int p2), .val (.int p3), .val (.int p4), .unset, .unset, .unset, .unset, .unset, .unset, .unset, .unset, .unset, .unset] [(.int (own_et p0 p1 p2 p3 p4))])) t
    refine XS.istore X0.here hx rfl (hb hby at_12) rfl (l' := #[.val (.int p0), .val (.int p1), .val (.int p2), .val (.int p3), .val (.int p4), .val (.int (own_et p0 p1 p2 p3 p4)), .unset, .unset, .unset, .unset, .unset, .unset, .unset, .unset, .unset]) rfl ?_
    exact k
  have sg0_14 : ∀ t, Steps p.tables e below (s₁.setTop (mkF m 26 #[.val (.int p0), .val (.int p1), .val (.int p2), .val (.int p3), .val (.int p4), .val (.int (own_et p0 p1 p2 p3 p4)), .unset, .unset, .unset, .unset, .unset, .unset, .unset, .unset, .unset] [(.int (own_ev p0 p1 p2 p3 p4))])) t → Steps p.tables e below (s₁.setTop (mkF m 14 #[.val (.int p0), .val (.int p1), .val (.int p2), .val (.int p3), .val (.int p4), .val (.int (own_et p0 p1 p2 p3 p4)), .unset, .unset, .unset, .unset, .unset, .unset, .unset, .unset, .unset] [])) t := by
    intro t k
    show Steps p.tables e below (s₁.setTop (mkF m 14 #[.val (.int p0), .val (.int p1), .val (.int p2), .val (.int p3), .val (.int p4), .val (.int (own_et p0 p1 p2 p3 p4)), .unset, .unset, .unset, .unset, .unset, .unset, .unset, .unset, .unset] [])) t
    refine XS.iload X0.here hx rfl (hb hby at_14) rfl ?_
    show Steps p.tables e below (s₁.setTop (mkF m 16 #[.val (.int p0), .val (.int p1), .val (.int p2), .val (.int p3), .val (.int p4), .val (.int (own_et p0 p1 p2 p3 p4)), .unset, .unset, .unset, .unset, .unset, .unset, .unset, .unset, .unset] [(.int p4)])) t
    refine XS.iconst X0.here hx rfl (hb hby at_16) ?_
    show Steps p.tables e below (s₁.setTop (mkF m 17 #[.val (.int p0), .val (.int p1), .val (.int p2), .val (.int p3), .val (.int p4), .val (.int (own_et p0 p1 p2 p3 p4)), .unset, .unset, .unset, .unset, .unset, .unset, .unset, .unset, .unset] [(.int (2 : Int32)), (.int p4)])) t
    refine XS.iand X0.here hx rfl (hb hby at_17) rfl ?_
    show Steps p.tables e below (s₁.setTop (mkF m 18 #[.val (.int p0), .val (.int p1), .val (.int p2), .val (.int p3), .val (.int p4), .val (.int (own_et p0 p1 p2 p3 p4)), .unset, .unset, .unset, .unset, .unset, .unset, .unset, .unset, .unset] [(.int (p4 &&& (2 : Int32)))])) t
    by_cases hc0_2 : (p4 &&& (2 : Int32)) = (0 : Int32)
    · refine XS.ifYes X0.here hx rfl (pc0 := 18) (pc' := 25) rfl (hb hby at_18) rfl ((if0 _ _).trans (teq hc0_2).1) (by decide) (by decide) ?_
      show Steps p.tables e below (s₁.setTop (mkF m 25 #[.val (.int p0), .val (.int p1), .val (.int p2), .val (.int p3), .val (.int p4), .val (.int (own_et p0 p1 p2 p3 p4)), .unset, .unset, .unset, .unset, .unset, .unset, .unset, .unset, .unset] [])) t
      refine XS.iloadN X0.here hx rfl (hb hby at_25) rfl ?_
      have q : own_ev p0 p1 p2 p3 p4 = p3 := by rw [own_ev, if_pos hc0_2]
      rw [q] at k
      exact k
    · refine XS.ifNo X0.here hx rfl (hb hby at_18) rfl ((if0 _ _).trans (feq hc0_2).1) ?_
      show Steps p.tables e below (s₁.setTop (mkF m 21 #[.val (.int p0), .val (.int p1), .val (.int p2), .val (.int p3), .val (.int p4), .val (.int (own_et p0 p1 p2 p3 p4)), .unset, .unset, .unset, .unset, .unset, .unset, .unset, .unset, .unset] [])) t
      refine XS.iloadN X0.here hx rfl (hb hby at_21) rfl ?_
      show Steps p.tables e below (s₁.setTop (mkF m 22 #[.val (.int p0), .val (.int p1), .val (.int p2), .val (.int p3), .val (.int p4), .val (.int (own_et p0 p1 p2 p3 p4)), .unset, .unset, .unset, .unset, .unset, .unset, .unset, .unset, .unset] [(.int p1)])) t
      refine XS.goto X0.here hx rfl (pc0 := 22) (pc' := 26) rfl (hb hby at_22) (by decide) (by decide) ?_
      have q : own_ev p0 p1 p2 p3 p4 = p1 := by rw [own_ev, if_neg hc0_2]
      rw [q] at k
      exact k
  refine own_fw sg0_14 ?_
  refine own_fw (A := s₁.setTop (mkF m 29 #[.val (.int p0), .val (.int p1), .val (.int p2), .val (.int p3), .val (.int p4), .val (.int (own_et p0 p1 p2 p3 p4)), .val (.int (own_ev p0 p1 p2 p3 p4)), .unset, .unset, .unset, .unset, .unset, .unset, .unset, .unset] [(.int p0)])) (fun t k => ?_) ?_
  · show Steps p.tables e below (s₁.setTop (mkF m 26 #[.val (.int p0), .val (.int p1), .val (.int p2), .val (.int p3), .val (.int p4), .val (.int (own_et p0 p1 p2 p3 p4)), .unset, .unset, .unset, .unset, .unset, .unset, .unset, .unset, .unset] [(.int (own_ev p0 p1 p2 p3 p4))])) t
    refine XS.istore X0.here hx rfl (hb hby at_26) rfl (l' := #[.val (.int p0), .val (.int p1), .val (.int p2), .val (.int p3), .val (.int p4), .val (.int (own_et p0 p1 p2 p3 p4)), .val (.int (own_ev p0 p1 p2 p3 p4)), .unset, .unset, .unset, .unset, .unset, .unset, .unset, .unset]) rfl ?_
    show Steps p.tables e below (s₁.setTop (mkF m 28 #[.val (.int p0), .val (.int p1), .val (.int p2), .val (.int p3), .val (.int p4), .val (.int (own_et p0 p1 p2 p3 p4)), .val (.int (own_ev p0 p1 p2 p3 p4)), .unset, .unset, .unset, .unset, .unset, .unset, .unset, .unset] [])) t
    refine XS.iloadN X0.here hx rfl (hb hby at_28) rfl ?_
    exact k
  obtain ⟨_, _, ⟨T0_1, L0_1, k0_1, n0_1⟩, -, X0_1, hSi0_1, hgr0_1, ⟨Lc0_1, hQ0_1, l0_1, y0_1, z0_1⟩, st0_1⟩ := callSS X0 hx (y := (⟨"com/example/access_decision/accessdecision/AclRightEqualsPinLaw", "mk", "(I)Ljava/lang/String;"⟩ : MethodName)) hown (mvT hZ (hw _ (List.mem_of_getElem? (i := 0) rfl))) (mvT hZ (hw _ (List.mem_of_getElem? (i := 1) rfl))) (mvT hZ (hw _ (List.mem_of_getElem? (i := 2) rfl))) (mvT hZ (hw _ (List.mem_of_getElem? (i := 3) rfl))) (by decide) (own_backS (G := fun vm => PS Z vm h0) (W := 0) (rmMK l Z a0 hw [] p0 cc h0 n0 Z0 O_0 S_c hcc hch hcw) hZ (hw _ (List.mem_of_getElem? (i := 3) rfl)) (hw _ (List.mem_of_getElem? (i := 2) rfl)) (by decide) (by decide)) (g := (mkF m 29 #[.val (.int p0), .val (.int p1), .val (.int p2), .val (.int p3), .val (.int p4), .val (.int (own_et p0 p1 p2 p3 p4)), .val (.int (own_ev p0 p1 p2 p3 p4)), .unset, .unset, .unset, .unset, .unset, .unset, .unset, .unset] [(.int p0)])) rfl (by rw [hml]; rfl) (argsL := [(.int p0)]) (rest := []) (lenOf pd0_0 rfl) rfl (by show 2 * 0 + _ ≤ _; exact Nat.le_of_eq rfl) (hb hby at_29) (fun _ hW => ⟨rfl, e0, own_psw hG hW, (by decide : 0 + 4 ≤ _), (by decide : 0 + 8 ≤ _)⟩)
  dsimp only [Pt.U, Pt.locs, Pt.cells, Pt.slots] at X0_1 hSi0_1 hgr0_1 l0_1 y0_1 z0_1 st0_1 hQ0_1
  subst l0_1 y0_1 z0_1
  obtain ⟨rs0_1, vb0_1, vk0_1, rfl, N0_1q, K0_1, E0_1, Svalu0_1, Scode0_1, Shash0_1, Shz0_1, Vb0_1, hk0_1, zr0_1, PS0_1⟩ := hQ0_1
  have N0_1 := Fr.app N0 N0_1q
  obtain ⟨X0_1r, hS0_1, hZ, hown⟩ := rebS hS0 (show _ ≤ s₁.heap.size by rw [e0]; exact (Nat.le_refl _)) X0_1 hSi0_1 hgr0_1 hZ hown
  have g_rs0_1 : n0 ≤ rs0_1 := Nat.le_trans Z0 zr0_1
  have ne_vb0_1_rs0_1 : vb0_1 ≠ rs0_1 := (Exa.neArv E0_1 Vb0_1 (hw _ (List.mem_of_getElem? (i := 8) rfl))).symm
  refine own_fw (fun t k => st0_1.trans k) ?_
  obtain ⟨Lhd0_2, Xhd0_2, Nhd0_2⟩ := own_hide X0_1r N0_1
  refine own_fw (A := T0_1.setTop (mkF m 35 #[.val (.int p0), .val (.int p1), .val (.int p2), .val (.int p3), .val (.int p4), .val (.int (own_et p0 p1 p2 p3 p4)), .val (.int (own_ev p0 p1 p2 p3 p4)), .val (.ref rs0_1), .unset, .unset, .unset, .unset, .unset, .unset, .unset] [(.int p1)])) (fun t k => ?_) ?_
  · show Steps p.tables e below (T0_1.setTop (mkF m 32 #[.val (.int p0), .val (.int p1), .val (.int p2), .val (.int p3), .val (.int p4), .val (.int (own_et p0 p1 p2 p3 p4)), .val (.int (own_ev p0 p1 p2 p3 p4)), .unset, .unset, .unset, .unset, .unset, .unset, .unset, .unset] [(.ref rs0_1)])) t
    refine XS.astore Xhd0_2.here hx rfl (hb hby at_32) rfl rfl (l' := #[.val (.int p0), .val (.int p1), .val (.int p2), .val (.int p3), .val (.int p4), .val (.int (own_et p0 p1 p2 p3 p4)), .val (.int (own_ev p0 p1 p2 p3 p4)), .val (.ref rs0_1), .unset, .unset, .unset, .unset, .unset, .unset, .unset]) rfl ?_
    show Steps p.tables e below (T0_1.setTop (mkF m 34 #[.val (.int p0), .val (.int p1), .val (.int p2), .val (.int p3), .val (.int p4), .val (.int (own_et p0 p1 p2 p3 p4)), .val (.int (own_ev p0 p1 p2 p3 p4)), .val (.ref rs0_1), .unset, .unset, .unset, .unset, .unset, .unset, .unset] [])) t
    refine XS.iloadN Xhd0_2.here hx rfl (hb hby at_34) rfl ?_
    exact k
  obtain ⟨_, _, ⟨T0_3, L0_3, k0_3, n0_3⟩, -, X0_3, hSi0_3, hgr0_3, ⟨Lc0_3, hQ0_3, l0_3, y0_3, z0_3⟩, st0_3⟩ := callSS Xhd0_2 hx (y := (⟨"com/example/access_decision/accessdecision/AclRightEqualsPinLaw", "mk", "(I)Ljava/lang/String;"⟩ : MethodName)) hown (mvT hZ (hw _ (List.mem_of_getElem? (i := 0) rfl))) (mvT hZ (hw _ (List.mem_of_getElem? (i := 1) rfl))) (mvT hZ (hw _ (List.mem_of_getElem? (i := 2) rfl))) (mvT hZ (hw _ (List.mem_of_getElem? (i := 3) rfl))) (by decide) (own_backS (G := fun vm => PS Z vm T0_1.heap) (W := 0) (rmMK l Z a0 hw [] p1 cc T0_1.heap n0 (Nat.le_trans Z0 K0_1.1) (O_0.keep K0_1 all0) S_c hcc hch hcw) hZ (hw _ (List.mem_of_getElem? (i := 3) rfl)) (hw _ (List.mem_of_getElem? (i := 2) rfl)) (by decide) (by decide)) (g := (mkF m 35 #[.val (.int p0), .val (.int p1), .val (.int p2), .val (.int p3), .val (.int p4), .val (.int (own_et p0 p1 p2 p3 p4)), .val (.int (own_ev p0 p1 p2 p3 p4)), .val (.ref rs0_1), .unset, .unset, .unset, .unset, .unset, .unset, .unset] [(.int p1)])) rfl (by rw [hml]; rfl) (argsL := [(.int p1)]) (rest := []) (lenOf pd0_0 rfl) rfl (by show 2 * 0 + _ ≤ _; exact Nat.le_of_eq rfl) (hb hby at_35) (fun _ hW => ⟨rfl, rfl, own_psw PS0_1 hW, (by decide : 4 + 4 ≤ _), (by decide : 8 + 8 ≤ _)⟩)
  dsimp only [Pt.U, Pt.locs, Pt.cells, Pt.slots] at X0_3 hSi0_3 hgr0_3 l0_3 y0_3 z0_3 st0_3 hQ0_3
  subst l0_3 y0_3 z0_3
  obtain ⟨rs0_3, vb0_3, vk0_3, rfl, N0_3q, K0_3, E0_3, Svalu0_3, Scode0_3, Shash0_3, Shz0_3, Vb0_3, hk0_3, zr0_3, PS0_3⟩ := hQ0_3
  have N0_3 := Fr.app Nhd0_2 N0_3q
  obtain ⟨X0_3r, hS0_3, hZ, hown⟩ := rebS hS0_1 (Nat.le_refl _) X0_3 hSi0_3 hgr0_3 hZ hown
  have ne_rs0_1_rs0_3 : rs0_1 ≠ rs0_3 := Nat.ne_of_lt (Nat.lt_of_lt_of_le E0_1.lt zr0_3)
  have ne_vb0_1_rs0_3 : vb0_1 ≠ rs0_3 := Nat.ne_of_lt (Nat.lt_of_lt_of_le Vb0_1.lt zr0_3)
  have g_rs0_3 : n0 ≤ rs0_3 := Nat.le_trans (Nat.le_trans Z0 K0_1.1) zr0_3
  have ne_vb0_3_rs0_1 : vb0_3 ≠ rs0_1 := (Exa.neArv (E0_1.keep K0_3) Vb0_3 (hw _ (List.mem_of_getElem? (i := 8) rfl))).symm
  have ne_vb0_3_rs0_3 : vb0_3 ≠ rs0_3 := (Exa.neArv E0_3 Vb0_3 (hw _ (List.mem_of_getElem? (i := 8) rfl))).symm
  refine own_fw (fun t k => st0_3.trans k) ?_
  obtain ⟨Lhd0_4, Xhd0_4, Nhd0_4⟩ := own_hide X0_3r N0_3
  refine own_fw (A := T0_3.setTop (mkF m 42 #[.val (.int p0), .val (.int p1), .val (.int p2), .val (.int p3), .val (.int p4), .val (.int (own_et p0 p1 p2 p3 p4)), .val (.int (own_ev p0 p1 p2 p3 p4)), .val (.ref rs0_1), .val (.ref rs0_3), .unset, .unset, .unset, .unset, .unset, .unset] [(.int (own_et p0 p1 p2 p3 p4))])) (fun t k => ?_) ?_
  · show Steps p.tables e below (T0_3.setTop (mkF m 38 #[.val (.int p0), .val (.int p1), .val (.int p2), .val (.int p3), .val (.int p4), .val (.int (own_et p0 p1 p2 p3 p4)), .val (.int (own_ev p0 p1 p2 p3 p4)), .val (.ref rs0_1), .unset, .unset, .unset, .unset, .unset, .unset, .unset] [(.ref rs0_3)])) t
    refine XS.astore Xhd0_4.here hx rfl (hb hby at_38) rfl rfl (l' := #[.val (.int p0), .val (.int p1), .val (.int p2), .val (.int p3), .val (.int p4), .val (.int (own_et p0 p1 p2 p3 p4)), .val (.int (own_ev p0 p1 p2 p3 p4)), .val (.ref rs0_1), .val (.ref rs0_3), .unset, .unset, .unset, .unset, .unset, .unset]) rfl ?_
    show Steps p.tables e below (T0_3.setTop (mkF m 40 #[.val (.int p0), .val (.int p1), .val (.int p2), .val (.int p3), .val (.int p4), .val (.int (own_et p0 p1 p2 p3 p4)), .val (.int (own_ev p0 p1 p2 p3 p4)), .val (.ref rs0_1), .val (.ref rs0_3), .unset, .unset, .unset, .unset, .unset, .unset] [])) t
    refine XS.iload Xhd0_4.here hx rfl (hb hby at_40) rfl ?_
    exact k
  obtain ⟨_, _, ⟨T0_5, L0_5, k0_5, n0_5⟩, -, X0_5, hSi0_5, hgr0_5, ⟨Lc0_5, hQ0_5, l0_5, y0_5, z0_5⟩, st0_5⟩ := callSS Xhd0_4 hx (y := (⟨"com/example/access_decision/accessdecision/AclRightEqualsPinLaw", "mk", "(I)Ljava/lang/String;"⟩ : MethodName)) hown (mvT hZ (hw _ (List.mem_of_getElem? (i := 0) rfl))) (mvT hZ (hw _ (List.mem_of_getElem? (i := 1) rfl))) (mvT hZ (hw _ (List.mem_of_getElem? (i := 2) rfl))) (mvT hZ (hw _ (List.mem_of_getElem? (i := 3) rfl))) (by decide) (own_backS (G := fun vm => PS Z vm T0_3.heap) (W := 0) (rmMK l Z a0 hw [] (own_et p0 p1 p2 p3 p4) cc T0_3.heap n0 (Nat.le_trans (Nat.le_trans Z0 K0_1.1) K0_3.1) ((O_0.keep K0_1 all0).keep K0_3 all0) S_c hcc hch hcw) hZ (hw _ (List.mem_of_getElem? (i := 3) rfl)) (hw _ (List.mem_of_getElem? (i := 2) rfl)) (by decide) (by decide)) (g := (mkF m 42 #[.val (.int p0), .val (.int p1), .val (.int p2), .val (.int p3), .val (.int p4), .val (.int (own_et p0 p1 p2 p3 p4)), .val (.int (own_ev p0 p1 p2 p3 p4)), .val (.ref rs0_1), .val (.ref rs0_3), .unset, .unset, .unset, .unset, .unset, .unset] [(.int (own_et p0 p1 p2 p3 p4))])) rfl (by rw [hml]; rfl) (argsL := [(.int (own_et p0 p1 p2 p3 p4))]) (rest := []) (lenOf pd0_0 rfl) rfl (by show 2 * 0 + _ ≤ _; exact Nat.le_of_eq rfl) (hb hby at_42) (fun _ hW => ⟨rfl, rfl, own_psw PS0_3 hW, (by decide : 8 + 4 ≤ _), (by decide : 16 + 8 ≤ _)⟩)
  dsimp only [Pt.U, Pt.locs, Pt.cells, Pt.slots] at X0_5 hSi0_5 hgr0_5 l0_5 y0_5 z0_5 st0_5 hQ0_5
  subst l0_5 y0_5 z0_5
  obtain ⟨rs0_5, vb0_5, vk0_5, rfl, N0_5q, K0_5, E0_5, Svalu0_5, Scode0_5, Shash0_5, Shz0_5, Vb0_5, hk0_5, zr0_5, PS0_5⟩ := hQ0_5
  have N0_5 := Fr.app Nhd0_4 N0_5q
  obtain ⟨X0_5r, hS0_5, hZ, hown⟩ := rebS hS0_3 (Nat.le_refl _) X0_5 hSi0_5 hgr0_5 hZ hown
  have ne_rs0_1_rs0_5 : rs0_1 ≠ rs0_5 := Nat.ne_of_lt (Nat.lt_of_lt_of_le (E0_1.keep K0_3).lt zr0_5)
  have ne_vb0_1_rs0_5 : vb0_1 ≠ rs0_5 := Nat.ne_of_lt (Nat.lt_of_lt_of_le (Vb0_1.keep K0_3 (fun q => nomatch q)).lt zr0_5)
  have ne_rs0_3_rs0_5 : rs0_3 ≠ rs0_5 := Nat.ne_of_lt (Nat.lt_of_lt_of_le E0_3.lt zr0_5)
  have ne_vb0_3_rs0_5 : vb0_3 ≠ rs0_5 := Nat.ne_of_lt (Nat.lt_of_lt_of_le Vb0_3.lt zr0_5)
  have g_rs0_5 : n0 ≤ rs0_5 := Nat.le_trans (Nat.le_trans (Nat.le_trans Z0 K0_1.1) K0_3.1) zr0_5
  have ne_vb0_5_rs0_1 : vb0_5 ≠ rs0_1 := (Exa.neArv ((E0_1.keep K0_3).keep K0_5) Vb0_5 (hw _ (List.mem_of_getElem? (i := 8) rfl))).symm
  have ne_vb0_5_rs0_3 : vb0_5 ≠ rs0_3 := (Exa.neArv (E0_3.keep K0_5) Vb0_5 (hw _ (List.mem_of_getElem? (i := 8) rfl))).symm
  have ne_vb0_5_rs0_5 : vb0_5 ≠ rs0_5 := (Exa.neArv E0_5 Vb0_5 (hw _ (List.mem_of_getElem? (i := 8) rfl))).symm
  refine own_fw (fun t k => st0_5.trans k) ?_
  have fc0_6 := ((Svalu0_1.keep K0_3 (fun q => nomatch q)).keep K0_5 (fun q => nomatch q))
  have fc0_7 := ((Scode0_1.keep K0_3 (fun q => nomatch q)).keep K0_5 (fun q => nomatch q))
  have fc0_8 := ((Shash0_1.keep K0_3 (fun q => nomatch q)).keep K0_5 (fun q => nomatch q))
  have fc0_9 := ((Shz0_1.keep K0_3 (fun q => nomatch q)).keep K0_5 (fun q => nomatch q))
  have fc0_10 := ((Vb0_1.keep K0_3 (fun q => nomatch q)).keep K0_5 (fun q => nomatch q))
  have fc0_11 := (Nat.le_trans (Nat.le_trans (Nat.le_trans Z0 K0_1.1) K0_3.1) K0_5.1)
  obtain ⟨Lhd0_12, Xhd0_12, Nhd0_12⟩ := own_hide X0_5r N0_5
  refine own_fw (A := T0_5.setTop (mkF m 49 #[.val (.int p0), .val (.int p1), .val (.int p2), .val (.int p3), .val (.int p4), .val (.int (own_et p0 p1 p2 p3 p4)), .val (.int (own_ev p0 p1 p2 p3 p4)), .val (.ref rs0_1), .val (.ref rs0_3), .val (.ref rs0_5), .unset, .unset, .unset, .unset, .unset] [(.int (own_ev p0 p1 p2 p3 p4))])) (fun t k => ?_) ?_
  · show Steps p.tables e below (T0_5.setTop (mkF m 45 #[.val (.int p0), .val (.int p1), .val (.int p2), .val (.int p3), .val (.int p4), .val (.int (own_et p0 p1 p2 p3 p4)), .val (.int (own_ev p0 p1 p2 p3 p4)), .val (.ref rs0_1), .val (.ref rs0_3), .unset, .unset, .unset, .unset, .unset, .unset] [(.ref rs0_5)])) t
    refine XS.astore Xhd0_12.here hx rfl (hb hby at_45) rfl rfl (l' := #[.val (.int p0), .val (.int p1), .val (.int p2), .val (.int p3), .val (.int p4), .val (.int (own_et p0 p1 p2 p3 p4)), .val (.int (own_ev p0 p1 p2 p3 p4)), .val (.ref rs0_1), .val (.ref rs0_3), .val (.ref rs0_5), .unset, .unset, .unset, .unset, .unset]) rfl ?_
    show Steps p.tables e below (T0_5.setTop (mkF m 47 #[.val (.int p0), .val (.int p1), .val (.int p2), .val (.int p3), .val (.int p4), .val (.int (own_et p0 p1 p2 p3 p4)), .val (.int (own_ev p0 p1 p2 p3 p4)), .val (.ref rs0_1), .val (.ref rs0_3), .val (.ref rs0_5), .unset, .unset, .unset, .unset, .unset] [])) t
    refine XS.iload Xhd0_12.here hx rfl (hb hby at_47) rfl ?_
    exact k
  obtain ⟨_, _, ⟨T0_13, L0_13, k0_13, n0_13⟩, -, X0_13, hSi0_13, hgr0_13, ⟨Lc0_13, hQ0_13, l0_13, y0_13, z0_13⟩, st0_13⟩ := callSS Xhd0_12 hx (y := (⟨"com/example/access_decision/accessdecision/AclRightEqualsPinLaw", "mk", "(I)Ljava/lang/String;"⟩ : MethodName)) hown (mvT hZ (hw _ (List.mem_of_getElem? (i := 0) rfl))) (mvT hZ (hw _ (List.mem_of_getElem? (i := 1) rfl))) (mvT hZ (hw _ (List.mem_of_getElem? (i := 2) rfl))) (mvT hZ (hw _ (List.mem_of_getElem? (i := 3) rfl))) (by decide) (own_backS (G := fun vm => PS Z vm T0_5.heap) (W := 0) (rmMK l Z a0 hw [] (own_ev p0 p1 p2 p3 p4) cc T0_5.heap n0 fc0_11 (((O_0.keep K0_1 all0).keep K0_3 all0).keep K0_5 all0) S_c hcc hch hcw) hZ (hw _ (List.mem_of_getElem? (i := 3) rfl)) (hw _ (List.mem_of_getElem? (i := 2) rfl)) (by decide) (by decide)) (g := (mkF m 49 #[.val (.int p0), .val (.int p1), .val (.int p2), .val (.int p3), .val (.int p4), .val (.int (own_et p0 p1 p2 p3 p4)), .val (.int (own_ev p0 p1 p2 p3 p4)), .val (.ref rs0_1), .val (.ref rs0_3), .val (.ref rs0_5), .unset, .unset, .unset, .unset, .unset] [(.int (own_ev p0 p1 p2 p3 p4))])) rfl (by rw [hml]; rfl) (argsL := [(.int (own_ev p0 p1 p2 p3 p4))]) (rest := []) (lenOf pd0_0 rfl) rfl (by show 2 * 0 + _ ≤ _; exact Nat.le_of_eq rfl) (hb hby at_49) (fun _ hW => ⟨rfl, rfl, own_psw PS0_5 hW, (by decide : 12 + 4 ≤ _), (by decide : 24 + 8 ≤ _)⟩)
  dsimp only [Pt.U, Pt.locs, Pt.cells, Pt.slots] at X0_13 hSi0_13 hgr0_13 l0_13 y0_13 z0_13 st0_13 hQ0_13
  subst l0_13 y0_13 z0_13
  obtain ⟨rs0_13, vb0_13, vk0_13, rfl, N0_13q, K0_13, E0_13, Svalu0_13, Scode0_13, Shash0_13, Shz0_13, Vb0_13, hk0_13, zr0_13, PS0_13⟩ := hQ0_13
  have N0_13 := Fr.app Nhd0_12 N0_13q
  obtain ⟨X0_13r, hS0_13, hZ, hown⟩ := rebS hS0_5 (Nat.le_refl _) X0_13 hSi0_13 hgr0_13 hZ hown
  have ne_rs0_1_rs0_13 : rs0_1 ≠ rs0_13 := Nat.ne_of_lt (Nat.lt_of_lt_of_le ((E0_1.keep K0_3).keep K0_5).lt zr0_13)
  have ne_vb0_1_rs0_13 : vb0_1 ≠ rs0_13 := Nat.ne_of_lt (Nat.lt_of_lt_of_le fc0_10.lt zr0_13)
  have ne_rs0_3_rs0_13 : rs0_3 ≠ rs0_13 := Nat.ne_of_lt (Nat.lt_of_lt_of_le (E0_3.keep K0_5).lt zr0_13)
  have ne_vb0_3_rs0_13 : vb0_3 ≠ rs0_13 := Nat.ne_of_lt (Nat.lt_of_lt_of_le (Vb0_3.keep K0_5 (fun q => nomatch q)).lt zr0_13)
  have ne_rs0_5_rs0_13 : rs0_5 ≠ rs0_13 := Nat.ne_of_lt (Nat.lt_of_lt_of_le E0_5.lt zr0_13)
  have ne_vb0_5_rs0_13 : vb0_5 ≠ rs0_13 := Nat.ne_of_lt (Nat.lt_of_lt_of_le Vb0_5.lt zr0_13)
  have g_rs0_13 : n0 ≤ rs0_13 := Nat.le_trans fc0_11 zr0_13
  have ne_vb0_13_rs0_1 : vb0_13 ≠ rs0_1 := (Exa.neArv (((E0_1.keep K0_3).keep K0_5).keep K0_13) Vb0_13 (hw _ (List.mem_of_getElem? (i := 8) rfl))).symm
  have ne_vb0_13_rs0_3 : vb0_13 ≠ rs0_3 := (Exa.neArv ((E0_3.keep K0_5).keep K0_13) Vb0_13 (hw _ (List.mem_of_getElem? (i := 8) rfl))).symm
  have ne_vb0_13_rs0_5 : vb0_13 ≠ rs0_5 := (Exa.neArv (E0_5.keep K0_13) Vb0_13 (hw _ (List.mem_of_getElem? (i := 8) rfl))).symm
  have ne_vb0_13_rs0_13 : vb0_13 ≠ rs0_13 := (Exa.neArv E0_13 Vb0_13 (hw _ (List.mem_of_getElem? (i := 8) rfl))).symm
  refine own_fw (fun t k => st0_13.trans k) ?_
  have fc0_14 := ((((O_0.keep K0_1 all0).keep K0_3 all0).keep K0_5 all0).keep K0_13 all0)
  have fc0_15 := ((Svalu0_3.keep K0_5 (fun q => nomatch q)).keep K0_13 (fun q => nomatch q))
  have fc0_16 := ((Scode0_3.keep K0_5 (fun q => nomatch q)).keep K0_13 (fun q => nomatch q))
  have fc0_17 := ((Shash0_3.keep K0_5 (fun q => nomatch q)).keep K0_13 (fun q => nomatch q))
  have fc0_18 := ((Shz0_3.keep K0_5 (fun q => nomatch q)).keep K0_13 (fun q => nomatch q))
  have fc0_19 := ((Vb0_3.keep K0_5 (fun q => nomatch q)).keep K0_13 (fun q => nomatch q))
  obtain ⟨Lhd0_20, Xhd0_20, Nhd0_20⟩ := own_hide X0_13r N0_13
  refine own_fw (A := T0_13.setTop (mkF m 54 #[.val (.int p0), .val (.int p1), .val (.int p2), .val (.int p3), .val (.int p4), .val (.int (own_et p0 p1 p2 p3 p4)), .val (.int (own_ev p0 p1 p2 p3 p4)), .val (.ref rs0_1), .val (.ref rs0_3), .val (.ref rs0_5), .val (.ref rs0_13), .unset, .unset, .unset, .unset] [])) (fun t k => ?_) ?_
  · show Steps p.tables e below (T0_13.setTop (mkF m 52 #[.val (.int p0), .val (.int p1), .val (.int p2), .val (.int p3), .val (.int p4), .val (.int (own_et p0 p1 p2 p3 p4)), .val (.int (own_ev p0 p1 p2 p3 p4)), .val (.ref rs0_1), .val (.ref rs0_3), .val (.ref rs0_5), .unset, .unset, .unset, .unset, .unset] [(.ref rs0_13)])) t
    refine XS.astore Xhd0_20.here hx rfl (hb hby at_52) rfl rfl (l' := #[.val (.int p0), .val (.int p1), .val (.int p2), .val (.int p3), .val (.int p4), .val (.int (own_et p0 p1 p2 p3 p4)), .val (.int (own_ev p0 p1 p2 p3 p4)), .val (.ref rs0_1), .val (.ref rs0_3), .val (.ref rs0_5), .val (.ref rs0_13), .unset, .unset, .unset, .unset]) rfl ?_
    exact k
  obtain ⟨T0_21, h0_21, X0_21, e0_21, E0_21, A0_21, D0_21, -, st0_21⟩ := newO Xhd0_20 hx hZ hown (hw _ (List.mem_of_getElem? (i := 46) rfl)) (hw _ (List.mem_of_getElem? (i := 47) rfl)) (hw _ (List.mem_of_getElem? (i := 48) rfl)) rfl (g := (mkF m 54 #[.val (.int p0), .val (.int p1), .val (.int p2), .val (.int p3), .val (.int p4), .val (.int (own_et p0 p1 p2 p3 p4)), .val (.int (own_ev p0 p1 p2 p3 p4)), .val (.ref rs0_1), .val (.ref rs0_3), .val (.ref rs0_5), .val (.ref rs0_13), .unset, .unset, .unset, .unset] [])) rfl (hb hby at_54) (by decide) (by decide)
  obtain ⟨b0_21, g0_21⟩ : ∃ z, z = T0_13.heap.size := ⟨_, rfl⟩
  rw [← g0_21] at A0_21 D0_21 st0_21
  have ne_rs0_1_b0_21 : rs0_1 ≠ b0_21 := Nat.ne_of_lt (Nat.lt_of_lt_of_le (((E0_1.keep K0_3).keep K0_5).keep K0_13).lt (Nat.le_of_eq g0_21.symm))
  have ne_vb0_1_b0_21 : vb0_1 ≠ b0_21 := Nat.ne_of_lt (Nat.lt_of_lt_of_le (fc0_10.keep K0_13 (fun q => nomatch q)).lt (Nat.le_of_eq g0_21.symm))
  have ne_rs0_3_b0_21 : rs0_3 ≠ b0_21 := Nat.ne_of_lt (Nat.lt_of_lt_of_le ((E0_3.keep K0_5).keep K0_13).lt (Nat.le_of_eq g0_21.symm))
  have ne_vb0_3_b0_21 : vb0_3 ≠ b0_21 := Nat.ne_of_lt (Nat.lt_of_lt_of_le fc0_19.lt (Nat.le_of_eq g0_21.symm))
  have ne_rs0_5_b0_21 : rs0_5 ≠ b0_21 := Nat.ne_of_lt (Nat.lt_of_lt_of_le (E0_5.keep K0_13).lt (Nat.le_of_eq g0_21.symm))
  have ne_vb0_5_b0_21 : vb0_5 ≠ b0_21 := Nat.ne_of_lt (Nat.lt_of_lt_of_le (Vb0_5.keep K0_13 (fun q => nomatch q)).lt (Nat.le_of_eq g0_21.symm))
  have ne_rs0_13_b0_21 : rs0_13 ≠ b0_21 := Nat.ne_of_lt (Nat.lt_of_lt_of_le E0_13.lt (Nat.le_of_eq g0_21.symm))
  have ne_vb0_13_b0_21 : vb0_13 ≠ b0_21 := Nat.ne_of_lt (Nat.lt_of_lt_of_le Vb0_13.lt (Nat.le_of_eq g0_21.symm))
  have g_b0_21 : n0 ≤ b0_21 := Nat.le_trans (Nat.le_trans fc0_11 K0_13.1) (Nat.le_of_eq g0_21.symm)
  have F_tag_b0_21 : Fld Z h0_21 b0_21 "com/example/access_decision/accessdecision/AclRight" "tag" "Ljava/lang/String;" .null := D0_21 (Or.inr (hw _ (List.mem_of_getElem? (i := 54) rfl))) (ty := (.object "java/lang/String")) (by decide)
  have F_value_b0_21 : Fld Z h0_21 b0_21 "com/example/access_decision/accessdecision/AclRight" "value" "Ljava/lang/String;" .null := D0_21 (Or.inr (hw _ (List.mem_of_getElem? (i := 56) rfl))) (ty := (.object "java/lang/String")) (by decide)
  have F_hash_b0_21 : Fld Z h0_21 b0_21 "com/example/access_decision/accessdecision/AclRight" "hash" "I" (.int (0 : Int32)) := D0_21 (Or.inr (hw _ (List.mem_of_getElem? (i := 76) rfl))) (ty := .int) (by decide)
  refine own_fw st0_21 ?_
  refine own_fw (A := T0_21.setTop (mkF m 62 #[.val (.int p0), .val (.int p1), .val (.int p2), .val (.int p3), .val (.int p4), .val (.int (own_et p0 p1 p2 p3 p4)), .val (.int (own_ev p0 p1 p2 p3 p4)), .val (.ref rs0_1), .val (.ref rs0_3), .val (.ref rs0_5), .val (.ref rs0_13), .unset, .unset, .unset, .unset] [(.ref rs0_3), (.ref rs0_1), (.ref b0_21), (.ref b0_21)])) (fun t k => ?_) ?_
  · show Steps p.tables e below (T0_21.setTop (mkF m 57 #[.val (.int p0), .val (.int p1), .val (.int p2), .val (.int p3), .val (.int p4), .val (.int (own_et p0 p1 p2 p3 p4)), .val (.int (own_ev p0 p1 p2 p3 p4)), .val (.ref rs0_1), .val (.ref rs0_3), .val (.ref rs0_5), .val (.ref rs0_13), .unset, .unset, .unset, .unset] [(.ref b0_21)])) t
    refine XS.dup X0_21.here hx rfl (hb hby at_57) rfl rfl ?_
    show Steps p.tables e below (T0_21.setTop (mkF m 58 #[.val (.int p0), .val (.int p1), .val (.int p2), .val (.int p3), .val (.int p4), .val (.int (own_et p0 p1 p2 p3 p4)), .val (.int (own_ev p0 p1 p2 p3 p4)), .val (.ref rs0_1), .val (.ref rs0_3), .val (.ref rs0_5), .val (.ref rs0_13), .unset, .unset, .unset, .unset] [(.ref b0_21), (.ref b0_21)])) t
    refine XS.aload X0_21.here hx rfl (hb hby at_58) rfl rfl ?_
    show Steps p.tables e below (T0_21.setTop (mkF m 60 #[.val (.int p0), .val (.int p1), .val (.int p2), .val (.int p3), .val (.int p4), .val (.int (own_et p0 p1 p2 p3 p4)), .val (.int (own_ev p0 p1 p2 p3 p4)), .val (.ref rs0_1), .val (.ref rs0_3), .val (.ref rs0_5), .val (.ref rs0_13), .unset, .unset, .unset, .unset] [(.ref rs0_1), (.ref b0_21), (.ref b0_21)])) t
    refine XS.aload X0_21.here hx rfl (hb hby at_60) rfl rfl ?_
    exact k
  obtain ⟨_, _, ⟨T0_22, L0_22, k0_22, n0_22⟩, -, X0_22, ⟨Lc0_22, hQ0_22, l0_22, y0_22, z0_22⟩, st0_22⟩ := X0_21.specialBack hx (y := (⟨"com/example/access_decision/accessdecision/AclRight", "<init>", "(Ljava/lang/String;Ljava/lang/String;)V"⟩ : MethodName)) rfl hown (mvT hZ (hw _ (List.mem_of_getElem? (i := 49) rfl))) (mvT hZ (hw _ (List.mem_of_getElem? (i := 50) rfl))) (mvT hZ (hw _ (List.mem_of_getElem? (i := 51) rfl))) (by decide) (backOf (W := 1) (rm11 l Z a0 hw [] b0_21 rs0_1 rs0_3 vb0_1 vb0_3 vk0_1 vk0_3 (own_cs p0) (own_cs p1) cc h0_21 n0 (Nat.le_trans (Nat.le_trans fc0_11 K0_13.1) E0_21.1) A0_21 F_tag_b0_21 F_value_b0_21 F_hash_b0_21 ((((E0_1.keep K0_3).keep K0_5).keep K0_13).ext E0_21) ((fc0_6.keep K0_13 (fun q => nomatch q)).ext E0_21) ((fc0_7.keep K0_13 (fun q => nomatch q)).ext E0_21) ((fc0_8.keep K0_13 (fun q => nomatch q)).ext E0_21) ((fc0_9.keep K0_13 (fun q => nomatch q)).ext E0_21) ((fc0_10.keep K0_13 (fun q => nomatch q)).ext E0_21) (own_csl p0) hk0_1 (((E0_3.keep K0_5).keep K0_13).ext E0_21) (fc0_15.ext E0_21) (fc0_16.ext E0_21) (fc0_17.ext E0_21) (fc0_18.ext E0_21) (fc0_19.ext E0_21) (own_csl p1) hk0_3 ne_rs0_1_b0_21 ne_rs0_3_b0_21 ne_rs0_1_rs0_3 ne_vb0_1_b0_21 ne_vb0_3_b0_21 ne_vb0_1_rs0_1 ne_vb0_3_rs0_1 ne_vb0_1_rs0_3 ne_vb0_3_rs0_3 g_b0_21 g_rs0_1 g_rs0_3 (fc0_14.ext E0_21) S_c hcc) hZ (hw _ (List.mem_of_getElem? (i := 51) rfl)) (hw _ (List.mem_of_getElem? (i := 48) rfl)) (by decide) (by decide)) (g := (mkF m 62 #[.val (.int p0), .val (.int p1), .val (.int p2), .val (.int p3), .val (.int p4), .val (.int (own_et p0 p1 p2 p3 p4)), .val (.int (own_ev p0 p1 p2 p3 p4)), .val (.ref rs0_1), .val (.ref rs0_3), .val (.ref rs0_5), .val (.ref rs0_13), .unset, .unset, .unset, .unset] [(.ref rs0_3), (.ref rs0_1), (.ref b0_21), (.ref b0_21)])) rfl (by rw [hml]; rfl) (Steps.refl _) (a := b0_21) (argsL := [(.ref rs0_1), (.ref rs0_3)]) (rest := [(.ref b0_21)]) (lenOf pd0_1 rfl) rfl (by show 2 * 0 + _ ≤ _; exact Nat.le_of_eq rfl) (hb hby at_62) (fun _ _ => ⟨rfl, e0_21, (by decide : 17 + 0 ≤ _), (by decide : 35 + 0 ≤ _)⟩)
  dsimp only [Pt.U, Pt.locs, Pt.cells, Pt.slots] at X0_22 l0_22 y0_22 z0_22 st0_22 hQ0_22
  subst l0_22 y0_22 z0_22
  obtain ⟨rfl, N0_22q, K0_22, E00_22, Ft0_22, Fv0_22, E10_22, Sv10_22, Sc10_22, E20_22, Sv20_22, Sc20_22⟩ := hQ0_22
  have N0_22 := Fr.app Nhd0_20 N0_22q
  refine own_fw (fun t k => st0_22.trans k) ?_
  have fc0_23 := ((fc0_14.ext E0_21).keep K0_22 (allS g_b0_21 (allS g_rs0_1 (allS g_rs0_3 all0))))
  have fc0_24 := (((fc0_10.keep K0_13 (fun q => nomatch q)).ext E0_21).keep K0_22 (by simp only [List.mem_cons, List.not_mem_nil, or_false, not_or]; exact ⟨ne_vb0_1_b0_21, ne_vb0_1_rs0_1, ne_vb0_1_rs0_3⟩))
  have fc0_25 := ((fc0_19.ext E0_21).keep K0_22 (by simp only [List.mem_cons, List.not_mem_nil, or_false, not_or]; exact ⟨ne_vb0_3_b0_21, ne_vb0_3_rs0_1, ne_vb0_3_rs0_3⟩))
  have fc0_26 := (((Svalu0_5.keep K0_13 (fun q => nomatch q)).ext E0_21).keep K0_22 (by simp only [List.mem_cons, List.not_mem_nil, or_false, not_or]; exact ⟨ne_rs0_5_b0_21, (Ne.symm ne_rs0_1_rs0_5), (Ne.symm ne_rs0_3_rs0_5)⟩))
  have fc0_27 := (((Scode0_5.keep K0_13 (fun q => nomatch q)).ext E0_21).keep K0_22 (by simp only [List.mem_cons, List.not_mem_nil, or_false, not_or]; exact ⟨ne_rs0_5_b0_21, (Ne.symm ne_rs0_1_rs0_5), (Ne.symm ne_rs0_3_rs0_5)⟩))
  have fc0_28 := (((Shash0_5.keep K0_13 (fun q => nomatch q)).ext E0_21).keep K0_22 (by simp only [List.mem_cons, List.not_mem_nil, or_false, not_or]; exact ⟨ne_rs0_5_b0_21, (Ne.symm ne_rs0_1_rs0_5), (Ne.symm ne_rs0_3_rs0_5)⟩))
  have fc0_29 := (((Shz0_5.keep K0_13 (fun q => nomatch q)).ext E0_21).keep K0_22 (by simp only [List.mem_cons, List.not_mem_nil, or_false, not_or]; exact ⟨ne_rs0_5_b0_21, (Ne.symm ne_rs0_1_rs0_5), (Ne.symm ne_rs0_3_rs0_5)⟩))
  have fc0_30 := (((Vb0_5.keep K0_13 (fun q => nomatch q)).ext E0_21).keep K0_22 (by simp only [List.mem_cons, List.not_mem_nil, or_false, not_or]; exact ⟨ne_vb0_5_b0_21, ne_vb0_5_rs0_1, ne_vb0_5_rs0_3⟩))
  have fc0_31 := ((Svalu0_13.ext E0_21).keep K0_22 (by simp only [List.mem_cons, List.not_mem_nil, or_false, not_or]; exact ⟨ne_rs0_13_b0_21, (Ne.symm ne_rs0_1_rs0_13), (Ne.symm ne_rs0_3_rs0_13)⟩))
  have fc0_32 := ((Scode0_13.ext E0_21).keep K0_22 (by simp only [List.mem_cons, List.not_mem_nil, or_false, not_or]; exact ⟨ne_rs0_13_b0_21, (Ne.symm ne_rs0_1_rs0_13), (Ne.symm ne_rs0_3_rs0_13)⟩))
  have fc0_33 := ((Shash0_13.ext E0_21).keep K0_22 (by simp only [List.mem_cons, List.not_mem_nil, or_false, not_or]; exact ⟨ne_rs0_13_b0_21, (Ne.symm ne_rs0_1_rs0_13), (Ne.symm ne_rs0_3_rs0_13)⟩))
  have fc0_34 := ((Shz0_13.ext E0_21).keep K0_22 (by simp only [List.mem_cons, List.not_mem_nil, or_false, not_or]; exact ⟨ne_rs0_13_b0_21, (Ne.symm ne_rs0_1_rs0_13), (Ne.symm ne_rs0_3_rs0_13)⟩))
  have fc0_35 := ((Vb0_13.ext E0_21).keep K0_22 (by simp only [List.mem_cons, List.not_mem_nil, or_false, not_or]; exact ⟨ne_vb0_13_b0_21, ne_vb0_13_rs0_1, ne_vb0_13_rs0_3⟩))
  have fc0_36 := (Nat.le_trans (Nat.le_trans (Nat.le_trans fc0_11 K0_13.1) E0_21.1) K0_22.1)
  obtain ⟨Lhd0_37, Xhd0_37, Nhd0_37⟩ := own_hide X0_22 N0_22
  refine own_fw (A := T0_22.setTop (mkF m 67 #[.val (.int p0), .val (.int p1), .val (.int p2), .val (.int p3), .val (.int p4), .val (.int (own_et p0 p1 p2 p3 p4)), .val (.int (own_ev p0 p1 p2 p3 p4)), .val (.ref rs0_1), .val (.ref rs0_3), .val (.ref rs0_5), .val (.ref rs0_13), .val (.ref b0_21), .unset, .unset, .unset] [])) (fun t k => ?_) ?_
  · show Steps p.tables e below (T0_22.setTop (mkF m 65 #[.val (.int p0), .val (.int p1), .val (.int p2), .val (.int p3), .val (.int p4), .val (.int (own_et p0 p1 p2 p3 p4)), .val (.int (own_ev p0 p1 p2 p3 p4)), .val (.ref rs0_1), .val (.ref rs0_3), .val (.ref rs0_5), .val (.ref rs0_13), .unset, .unset, .unset, .unset] [(.ref b0_21)])) t
    refine XS.astore Xhd0_37.here hx rfl (hb hby at_65) rfl rfl (l' := #[.val (.int p0), .val (.int p1), .val (.int p2), .val (.int p3), .val (.int p4), .val (.int (own_et p0 p1 p2 p3 p4)), .val (.int (own_ev p0 p1 p2 p3 p4)), .val (.ref rs0_1), .val (.ref rs0_3), .val (.ref rs0_5), .val (.ref rs0_13), .val (.ref b0_21), .unset, .unset, .unset]) rfl ?_
    exact k
  obtain ⟨T0_38, h0_38, X0_38, e0_38, E0_38, A0_38, D0_38, -, st0_38⟩ := newO Xhd0_37 hx hZ hown (hw _ (List.mem_of_getElem? (i := 46) rfl)) (hw _ (List.mem_of_getElem? (i := 47) rfl)) (hw _ (List.mem_of_getElem? (i := 48) rfl)) rfl (g := (mkF m 67 #[.val (.int p0), .val (.int p1), .val (.int p2), .val (.int p3), .val (.int p4), .val (.int (own_et p0 p1 p2 p3 p4)), .val (.int (own_ev p0 p1 p2 p3 p4)), .val (.ref rs0_1), .val (.ref rs0_3), .val (.ref rs0_5), .val (.ref rs0_13), .val (.ref b0_21), .unset, .unset, .unset] [])) rfl (hb hby at_67) (by decide) (by decide)
  obtain ⟨b0_38, g0_38⟩ : ∃ z, z = T0_22.heap.size := ⟨_, rfl⟩
  rw [← g0_38] at A0_38 D0_38 st0_38
  have ne_rs0_1_b0_38 : rs0_1 ≠ b0_38 := Nat.ne_of_lt (Nat.lt_of_lt_of_le E10_22.lt (Nat.le_of_eq g0_38.symm))
  have ne_vb0_1_b0_38 : vb0_1 ≠ b0_38 := Nat.ne_of_lt (Nat.lt_of_lt_of_le fc0_24.lt (Nat.le_of_eq g0_38.symm))
  have ne_rs0_3_b0_38 : rs0_3 ≠ b0_38 := Nat.ne_of_lt (Nat.lt_of_lt_of_le E20_22.lt (Nat.le_of_eq g0_38.symm))
  have ne_vb0_3_b0_38 : vb0_3 ≠ b0_38 := Nat.ne_of_lt (Nat.lt_of_lt_of_le fc0_25.lt (Nat.le_of_eq g0_38.symm))
  have ne_rs0_5_b0_38 : rs0_5 ≠ b0_38 := Nat.ne_of_lt (Nat.lt_of_lt_of_le (((E0_5.keep K0_13).ext E0_21).keep K0_22).lt (Nat.le_of_eq g0_38.symm))
  have ne_vb0_5_b0_38 : vb0_5 ≠ b0_38 := Nat.ne_of_lt (Nat.lt_of_lt_of_le fc0_30.lt (Nat.le_of_eq g0_38.symm))
  have ne_rs0_13_b0_38 : rs0_13 ≠ b0_38 := Nat.ne_of_lt (Nat.lt_of_lt_of_le ((E0_13.ext E0_21).keep K0_22).lt (Nat.le_of_eq g0_38.symm))
  have ne_vb0_13_b0_38 : vb0_13 ≠ b0_38 := Nat.ne_of_lt (Nat.lt_of_lt_of_le fc0_35.lt (Nat.le_of_eq g0_38.symm))
  have ne_b0_21_b0_38 : b0_21 ≠ b0_38 := Nat.ne_of_lt (Nat.lt_of_lt_of_le E00_22.lt (Nat.le_of_eq g0_38.symm))
  have g_b0_38 : n0 ≤ b0_38 := Nat.le_trans fc0_36 (Nat.le_of_eq g0_38.symm)
  have F_tag_b0_38 : Fld Z h0_38 b0_38 "com/example/access_decision/accessdecision/AclRight" "tag" "Ljava/lang/String;" .null := D0_38 (Or.inr (hw _ (List.mem_of_getElem? (i := 54) rfl))) (ty := (.object "java/lang/String")) (by decide)
  have F_value_b0_38 : Fld Z h0_38 b0_38 "com/example/access_decision/accessdecision/AclRight" "value" "Ljava/lang/String;" .null := D0_38 (Or.inr (hw _ (List.mem_of_getElem? (i := 56) rfl))) (ty := (.object "java/lang/String")) (by decide)
  have F_hash_b0_38 : Fld Z h0_38 b0_38 "com/example/access_decision/accessdecision/AclRight" "hash" "I" (.int (0 : Int32)) := D0_38 (Or.inr (hw _ (List.mem_of_getElem? (i := 76) rfl))) (ty := .int) (by decide)
  refine own_fw st0_38 ?_
  refine own_fw (A := T0_38.setTop (mkF m 75 #[.val (.int p0), .val (.int p1), .val (.int p2), .val (.int p3), .val (.int p4), .val (.int (own_et p0 p1 p2 p3 p4)), .val (.int (own_ev p0 p1 p2 p3 p4)), .val (.ref rs0_1), .val (.ref rs0_3), .val (.ref rs0_5), .val (.ref rs0_13), .val (.ref b0_21), .unset, .unset, .unset] [(.ref rs0_13), (.ref rs0_5), (.ref b0_38), (.ref b0_38)])) (fun t k => ?_) ?_
  · show Steps p.tables e below (T0_38.setTop (mkF m 70 #[.val (.int p0), .val (.int p1), .val (.int p2), .val (.int p3), .val (.int p4), .val (.int (own_et p0 p1 p2 p3 p4)), .val (.int (own_ev p0 p1 p2 p3 p4)), .val (.ref rs0_1), .val (.ref rs0_3), .val (.ref rs0_5), .val (.ref rs0_13), .val (.ref b0_21), .unset, .unset, .unset] [(.ref b0_38)])) t
    refine XS.dup X0_38.here hx rfl (hb hby at_70) rfl rfl ?_
    show Steps p.tables e below (T0_38.setTop (mkF m 71 #[.val (.int p0), .val (.int p1), .val (.int p2), .val (.int p3), .val (.int p4), .val (.int (own_et p0 p1 p2 p3 p4)), .val (.int (own_ev p0 p1 p2 p3 p4)), .val (.ref rs0_1), .val (.ref rs0_3), .val (.ref rs0_5), .val (.ref rs0_13), .val (.ref b0_21), .unset, .unset, .unset] [(.ref b0_38), (.ref b0_38)])) t
    refine XS.aload X0_38.here hx rfl (hb hby at_71) rfl rfl ?_
    show Steps p.tables e below (T0_38.setTop (mkF m 73 #[.val (.int p0), .val (.int p1), .val (.int p2), .val (.int p3), .val (.int p4), .val (.int (own_et p0 p1 p2 p3 p4)), .val (.int (own_ev p0 p1 p2 p3 p4)), .val (.ref rs0_1), .val (.ref rs0_3), .val (.ref rs0_5), .val (.ref rs0_13), .val (.ref b0_21), .unset, .unset, .unset] [(.ref rs0_5), (.ref b0_38), (.ref b0_38)])) t
    refine XS.aload X0_38.here hx rfl (hb hby at_73) rfl rfl ?_
    exact k
  obtain ⟨_, _, ⟨T0_39, L0_39, k0_39, n0_39⟩, -, X0_39, ⟨Lc0_39, hQ0_39, l0_39, y0_39, z0_39⟩, st0_39⟩ := X0_38.specialBack hx (y := (⟨"com/example/access_decision/accessdecision/AclRight", "<init>", "(Ljava/lang/String;Ljava/lang/String;)V"⟩ : MethodName)) rfl hown (mvT hZ (hw _ (List.mem_of_getElem? (i := 49) rfl))) (mvT hZ (hw _ (List.mem_of_getElem? (i := 50) rfl))) (mvT hZ (hw _ (List.mem_of_getElem? (i := 51) rfl))) (by decide) (backOf (W := 1) (rm11 l Z a0 hw [] b0_38 rs0_5 rs0_13 vb0_5 vb0_13 vk0_5 vk0_13 (own_cs (own_et p0 p1 p2 p3 p4)) (own_cs (own_ev p0 p1 p2 p3 p4)) cc h0_38 n0 (Nat.le_trans fc0_36 E0_38.1) A0_38 F_tag_b0_38 F_value_b0_38 F_hash_b0_38 ((((E0_5.keep K0_13).ext E0_21).keep K0_22).ext E0_38) (fc0_26.ext E0_38) (fc0_27.ext E0_38) (fc0_28.ext E0_38) (fc0_29.ext E0_38) (fc0_30.ext E0_38) (own_csl (own_et p0 p1 p2 p3 p4)) hk0_5 (((E0_13.ext E0_21).keep K0_22).ext E0_38) (fc0_31.ext E0_38) (fc0_32.ext E0_38) (fc0_33.ext E0_38) (fc0_34.ext E0_38) (fc0_35.ext E0_38) (own_csl (own_ev p0 p1 p2 p3 p4)) hk0_13 ne_rs0_5_b0_38 ne_rs0_13_b0_38 ne_rs0_5_rs0_13 ne_vb0_5_b0_38 ne_vb0_13_b0_38 ne_vb0_5_rs0_5 ne_vb0_13_rs0_5 ne_vb0_5_rs0_13 ne_vb0_13_rs0_13 g_b0_38 g_rs0_5 g_rs0_13 (fc0_23.ext E0_38) S_c hcc) hZ (hw _ (List.mem_of_getElem? (i := 51) rfl)) (hw _ (List.mem_of_getElem? (i := 48) rfl)) (by decide) (by decide)) (g := (mkF m 75 #[.val (.int p0), .val (.int p1), .val (.int p2), .val (.int p3), .val (.int p4), .val (.int (own_et p0 p1 p2 p3 p4)), .val (.int (own_ev p0 p1 p2 p3 p4)), .val (.ref rs0_1), .val (.ref rs0_3), .val (.ref rs0_5), .val (.ref rs0_13), .val (.ref b0_21), .unset, .unset, .unset] [(.ref rs0_13), (.ref rs0_5), (.ref b0_38), (.ref b0_38)])) rfl (by rw [hml]; rfl) (Steps.refl _) (a := b0_38) (argsL := [(.ref rs0_5), (.ref rs0_13)]) (rest := [(.ref b0_38)]) (lenOf pd0_1 rfl) rfl (by show 2 * 0 + _ ≤ _; exact Nat.le_of_eq rfl) (hb hby at_75) (fun _ _ => ⟨rfl, e0_38, (by decide : 18 + 0 ≤ _), (by decide : 38 + 0 ≤ _)⟩)
  dsimp only [Pt.U, Pt.locs, Pt.cells, Pt.slots] at X0_39 l0_39 y0_39 z0_39 st0_39 hQ0_39
  subst l0_39 y0_39 z0_39
  obtain ⟨rfl, N0_39q, K0_39, E00_39, Ft0_39, Fv0_39, E10_39, Sv10_39, Sc10_39, E20_39, Sv20_39, Sc20_39⟩ := hQ0_39
  have N0_39 := Fr.app Nhd0_37 N0_39q
  refine own_fw (fun t k => st0_39.trans k) ?_
  have fc0_40 := ((fc0_23.ext E0_38).keep K0_39 (allS g_b0_38 (allS g_rs0_5 (allS g_rs0_13 all0))))
  have fc0_41 := ((fc0_24.ext E0_38).keep K0_39 (by simp only [List.mem_cons, List.not_mem_nil, or_false, not_or]; exact ⟨ne_vb0_1_b0_38, ne_vb0_1_rs0_5, ne_vb0_1_rs0_13⟩))
  have fc0_42 := ((fc0_25.ext E0_38).keep K0_39 (by simp only [List.mem_cons, List.not_mem_nil, or_false, not_or]; exact ⟨ne_vb0_3_b0_38, ne_vb0_3_rs0_5, ne_vb0_3_rs0_13⟩))
  have fc0_43 := ((fc0_30.ext E0_38).keep K0_39 (by simp only [List.mem_cons, List.not_mem_nil, or_false, not_or]; exact ⟨ne_vb0_5_b0_38, ne_vb0_5_rs0_5, ne_vb0_5_rs0_13⟩))
  have fc0_44 := ((fc0_35.ext E0_38).keep K0_39 (by simp only [List.mem_cons, List.not_mem_nil, or_false, not_or]; exact ⟨ne_vb0_13_b0_38, ne_vb0_13_rs0_5, ne_vb0_13_rs0_13⟩))
  have fc0_45 := ((Ft0_22.ext E0_38).keep K0_39 (by simp only [List.mem_cons, List.not_mem_nil, or_false, not_or]; exact ⟨ne_b0_21_b0_38, (Ne.symm ne_rs0_5_b0_21), (Ne.symm ne_rs0_13_b0_21)⟩))
  have fc0_46 := ((Fv0_22.ext E0_38).keep K0_39 (by simp only [List.mem_cons, List.not_mem_nil, or_false, not_or]; exact ⟨ne_b0_21_b0_38, (Ne.symm ne_rs0_5_b0_21), (Ne.symm ne_rs0_13_b0_21)⟩))
  have fc0_47 := ((Sv10_22.ext E0_38).keep K0_39 (by simp only [List.mem_cons, List.not_mem_nil, or_false, not_or]; exact ⟨ne_rs0_1_b0_38, ne_rs0_1_rs0_5, ne_rs0_1_rs0_13⟩))
  have fc0_48 := ((Sc10_22.ext E0_38).keep K0_39 (by simp only [List.mem_cons, List.not_mem_nil, or_false, not_or]; exact ⟨ne_rs0_1_b0_38, ne_rs0_1_rs0_5, ne_rs0_1_rs0_13⟩))
  have fc0_49 := ((Sv20_22.ext E0_38).keep K0_39 (by simp only [List.mem_cons, List.not_mem_nil, or_false, not_or]; exact ⟨ne_rs0_3_b0_38, ne_rs0_3_rs0_5, ne_rs0_3_rs0_13⟩))
  have fc0_50 := ((Sc20_22.ext E0_38).keep K0_39 (by simp only [List.mem_cons, List.not_mem_nil, or_false, not_or]; exact ⟨ne_rs0_3_b0_38, ne_rs0_3_rs0_5, ne_rs0_3_rs0_13⟩))
  obtain ⟨Lhd0_51, Xhd0_51, Nhd0_51⟩ := own_hide X0_39 N0_39
  refine own_fw (A := T0_39.setTop (mkF m 91 #[.val (.int p0), .val (.int p1), .val (.int p2), .val (.int p3), .val (.int p4), .val (.int (own_et p0 p1 p2 p3 p4)), .val (.int (own_ev p0 p1 p2 p3 p4)), .val (.ref rs0_1), .val (.ref rs0_3), .val (.ref rs0_5), .val (.ref rs0_13), .val (.ref b0_21), .val (.ref b0_38), .val (.int (((p4.toUInt32 >>> ((2 : Int32) &&& 31).toUInt32).toInt32) &&& (3 : Int32))), .unset] [(.int (1 : Int32)), (.int (((p4.toUInt32 >>> ((2 : Int32) &&& 31).toUInt32).toInt32) &&& (3 : Int32)))])) (fun t k => ?_) ?_
  · show Steps p.tables e below (T0_39.setTop (mkF m 78 #[.val (.int p0), .val (.int p1), .val (.int p2), .val (.int p3), .val (.int p4), .val (.int (own_et p0 p1 p2 p3 p4)), .val (.int (own_ev p0 p1 p2 p3 p4)), .val (.ref rs0_1), .val (.ref rs0_3), .val (.ref rs0_5), .val (.ref rs0_13), .val (.ref b0_21), .unset, .unset, .unset] [(.ref b0_38)])) t
    refine XS.astore Xhd0_51.here hx rfl (hb hby at_78) rfl rfl (l' := #[.val (.int p0), .val (.int p1), .val (.int p2), .val (.int p3), .val (.int p4), .val (.int (own_et p0 p1 p2 p3 p4)), .val (.int (own_ev p0 p1 p2 p3 p4)), .val (.ref rs0_1), .val (.ref rs0_3), .val (.ref rs0_5), .val (.ref rs0_13), .val (.ref b0_21), .val (.ref b0_38), .unset, .unset]) rfl ?_
    show Steps p.tables e below (T0_39.setTop (mkF m 80 #[.val (.int p0), .val (.int p1), .val (.int p2), .val (.int p3), .val (.int p4), .val (.int (own_et p0 p1 p2 p3 p4)), .val (.int (own_ev p0 p1 p2 p3 p4)), .val (.ref rs0_1), .val (.ref rs0_3), .val (.ref rs0_5), .val (.ref rs0_13), .val (.ref b0_21), .val (.ref b0_38), .unset, .unset] [])) t
    refine XS.iload Xhd0_51.here hx rfl (hb hby at_80) rfl ?_
    show Steps p.tables e below (T0_39.setTop (mkF m 82 #[.val (.int p0), .val (.int p1), .val (.int p2), .val (.int p3), .val (.int p4), .val (.int (own_et p0 p1 p2 p3 p4)), .val (.int (own_ev p0 p1 p2 p3 p4)), .val (.ref rs0_1), .val (.ref rs0_3), .val (.ref rs0_5), .val (.ref rs0_13), .val (.ref b0_21), .val (.ref b0_38), .unset, .unset] [(.int p4)])) t
    refine XS.iconst Xhd0_51.here hx rfl (hb hby at_82) ?_
    show Steps p.tables e below (T0_39.setTop (mkF m 83 #[.val (.int p0), .val (.int p1), .val (.int p2), .val (.int p3), .val (.int p4), .val (.int (own_et p0 p1 p2 p3 p4)), .val (.int (own_ev p0 p1 p2 p3 p4)), .val (.ref rs0_1), .val (.ref rs0_3), .val (.ref rs0_5), .val (.ref rs0_13), .val (.ref b0_21), .val (.ref b0_38), .unset, .unset] [(.int (2 : Int32)), (.int p4)])) t
    refine XS.iushr Xhd0_51.here hx rfl (hb hby at_83) rfl ?_
    show Steps p.tables e below (T0_39.setTop (mkF m 84 #[.val (.int p0), .val (.int p1), .val (.int p2), .val (.int p3), .val (.int p4), .val (.int (own_et p0 p1 p2 p3 p4)), .val (.int (own_ev p0 p1 p2 p3 p4)), .val (.ref rs0_1), .val (.ref rs0_3), .val (.ref rs0_5), .val (.ref rs0_13), .val (.ref b0_21), .val (.ref b0_38), .unset, .unset] [(.int ((p4.toUInt32 >>> ((2 : Int32) &&& 31).toUInt32).toInt32))])) t
    refine XS.iconst Xhd0_51.here hx rfl (hb hby at_84) ?_
    show Steps p.tables e below (T0_39.setTop (mkF m 85 #[.val (.int p0), .val (.int p1), .val (.int p2), .val (.int p3), .val (.int p4), .val (.int (own_et p0 p1 p2 p3 p4)), .val (.int (own_ev p0 p1 p2 p3 p4)), .val (.ref rs0_1), .val (.ref rs0_3), .val (.ref rs0_5), .val (.ref rs0_13), .val (.ref b0_21), .val (.ref b0_38), .unset, .unset] [(.int (3 : Int32)), (.int ((p4.toUInt32 >>> ((2 : Int32) &&& 31).toUInt32).toInt32))])) t
    refine XS.iand Xhd0_51.here hx rfl (hb hby at_85) rfl ?_
    show Steps p.tables e below (T0_39.setTop (mkF m 86 #[.val (.int p0), .val (.int p1), .val (.int p2), .val (.int p3), .val (.int p4), .val (.int (own_et p0 p1 p2 p3 p4)), .val (.int (own_ev p0 p1 p2 p3 p4)), .val (.ref rs0_1), .val (.ref rs0_3), .val (.ref rs0_5), .val (.ref rs0_13), .val (.ref b0_21), .val (.ref b0_38), .unset, .unset] [(.int (((p4.toUInt32 >>> ((2 : Int32) &&& 31).toUInt32).toInt32) &&& (3 : Int32)))])) t
    refine XS.istore Xhd0_51.here hx rfl (hb hby at_86) rfl (l' := #[.val (.int p0), .val (.int p1), .val (.int p2), .val (.int p3), .val (.int p4), .val (.int (own_et p0 p1 p2 p3 p4)), .val (.int (own_ev p0 p1 p2 p3 p4)), .val (.ref rs0_1), .val (.ref rs0_3), .val (.ref rs0_5), .val (.ref rs0_13), .val (.ref b0_21), .val (.ref b0_38), .val (.int (((p4.toUInt32 >>> ((2 : Int32) &&& 31).toUInt32).toInt32) &&& (3 : Int32))), .unset]) rfl ?_
    show Steps p.tables e below (T0_39.setTop (mkF m 88 #[.val (.int p0), .val (.int p1), .val (.int p2), .val (.int p3), .val (.int p4), .val (.int (own_et p0 p1 p2 p3 p4)), .val (.int (own_ev p0 p1 p2 p3 p4)), .val (.ref rs0_1), .val (.ref rs0_3), .val (.ref rs0_5), .val (.ref rs0_13), .val (.ref b0_21), .val (.ref b0_38), .val (.int (((p4.toUInt32 >>> ((2 : Int32) &&& 31).toUInt32).toInt32) &&& (3 : Int32))), .unset] [])) t
    refine XS.iload Xhd0_51.here hx rfl (hb hby at_88) rfl ?_
    show Steps p.tables e below (T0_39.setTop (mkF m 90 #[.val (.int p0), .val (.int p1), .val (.int p2), .val (.int p3), .val (.int p4), .val (.int (own_et p0 p1 p2 p3 p4)), .val (.int (own_ev p0 p1 p2 p3 p4)), .val (.ref rs0_1), .val (.ref rs0_3), .val (.ref rs0_5), .val (.ref rs0_13), .val (.ref b0_21), .val (.ref b0_38), .val (.int (((p4.toUInt32 >>> ((2 : Int32) &&& 31).toUInt32).toInt32) &&& (3 : Int32))), .unset] [(.int (((p4.toUInt32 >>> ((2 : Int32) &&& 31).toUInt32).toInt32) &&& (3 : Int32)))])) t
    refine XS.iconst Xhd0_51.here hx rfl (hb hby at_90) ?_
    exact k
  by_cases hc0_3 : (((p4.toUInt32 >>> ((2 : Int32) &&& 31).toUInt32).toInt32) &&& (3 : Int32)) = (1 : Int32)
  · refine own_fw (A := T0_39.setTop (mkF m 94 #[.val (.int p0), .val (.int p1), .val (.int p2), .val (.int p3), .val (.int p4), .val (.int (own_et p0 p1 p2 p3 p4)), .val (.int (own_ev p0 p1 p2 p3 p4)), .val (.ref rs0_1), .val (.ref rs0_3), .val (.ref rs0_5), .val (.ref rs0_13), .val (.ref b0_21), .val (.ref b0_38), .val (.int (((p4.toUInt32 >>> ((2 : Int32) &&& 31).toUInt32).toInt32) &&& (3 : Int32))), .unset] [])) (fun t k => ?_) ?_
    · show Steps p.tables e below (T0_39.setTop (mkF m 91 #[.val (.int p0), .val (.int p1), .val (.int p2), .val (.int p3), .val (.int p4), .val (.int (own_et p0 p1 p2 p3 p4)), .val (.int (own_ev p0 p1 p2 p3 p4)), .val (.ref rs0_1), .val (.ref rs0_3), .val (.ref rs0_5), .val (.ref rs0_13), .val (.ref b0_21), .val (.ref b0_38), .val (.int (((p4.toUInt32 >>> ((2 : Int32) &&& 31).toUInt32).toInt32) &&& (3 : Int32))), .unset] [(.int (1 : Int32)), (.int (((p4.toUInt32 >>> ((2 : Int32) &&& 31).toUInt32).toInt32) &&& (3 : Int32)))])) t
      refine XS.icmpNo Xhd0_51.here hx rfl (hb hby at_91) rfl (teq hc0_3).2 ?_
      exact k
    refine own_fw (A := T0_39.setTop (mkF m 97 #[.val (.int p0), .val (.int p1), .val (.int p2), .val (.int p3), .val (.int p4), .val (.int (own_et p0 p1 p2 p3 p4)), .val (.int (own_ev p0 p1 p2 p3 p4)), .val (.ref rs0_1), .val (.ref rs0_3), .val (.ref rs0_5), .val (.ref rs0_13), .val (.ref b0_21), .val (.ref b0_38), .val (.int (((p4.toUInt32 >>> ((2 : Int32) &&& 31).toUInt32).toInt32) &&& (3 : Int32))), .unset] [.null, (.ref b0_21)])) (fun t k => ?_) ?_
    · show Steps p.tables e below (T0_39.setTop (mkF m 94 #[.val (.int p0), .val (.int p1), .val (.int p2), .val (.int p3), .val (.int p4), .val (.int (own_et p0 p1 p2 p3 p4)), .val (.int (own_ev p0 p1 p2 p3 p4)), .val (.ref rs0_1), .val (.ref rs0_3), .val (.ref rs0_5), .val (.ref rs0_13), .val (.ref b0_21), .val (.ref b0_38), .val (.int (((p4.toUInt32 >>> ((2 : Int32) &&& 31).toUInt32).toInt32) &&& (3 : Int32))), .unset] [])) t
      refine XS.aload Xhd0_51.here hx rfl (hb hby at_94) rfl rfl ?_
      show Steps p.tables e below (T0_39.setTop (mkF m 96 #[.val (.int p0), .val (.int p1), .val (.int p2), .val (.int p3), .val (.int p4), .val (.int (own_et p0 p1 p2 p3 p4)), .val (.int (own_ev p0 p1 p2 p3 p4)), .val (.ref rs0_1), .val (.ref rs0_3), .val (.ref rs0_5), .val (.ref rs0_13), .val (.ref b0_21), .val (.ref b0_38), .val (.int (((p4.toUInt32 >>> ((2 : Int32) &&& 31).toUInt32).toInt32) &&& (3 : Int32))), .unset] [(.ref b0_21)])) t
      refine XS.aconstNull Xhd0_51.here hx rfl (hb hby at_96) ?_
      exact k
    obtain ⟨cq0_52, kq0_52, q0_52a, q0_52b, q0_52c⟩ := isOf hZ rfl ((E00_22.ext E0_38).keep K0_39)
    obtain ⟨_, _, ⟨T0_52, L0_52, k0_52, n0_52⟩, -, X0_52, ⟨Lc0_52, hQ0_52, l0_52, y0_52, z0_52⟩, st0_52⟩ := Xhd0_51.virtualBack hx (y := (⟨"com/example/access_decision/accessdecision/AclRight", "equals", "(Ljava/lang/Object;)Z"⟩ : MethodName)) (z := (⟨"com/example/access_decision/accessdecision/AclRight", "equals", "(Ljava/lang/Object;)Z"⟩ : MethodName)) hown (mvT hZ (hw _ (List.mem_of_getElem? (i := 89) rfl))) (mvT hZ (hw _ (List.mem_of_getElem? (i := 90) rfl))) (notFace_of_selects (args := #[]) (mvT hZ (hw _ (List.mem_of_getElem? (i := 92) rfl)))) (mvT hZ (hw _ (List.mem_of_getElem? (i := 92) rfl))) (mvT hZ (hw _ (List.mem_of_getElem? (i := 91) rfl))) (by decide) (backOf (W := 0) (rmAE_n l Z a0 hw [] b0_21 T0_39.heap n0 (Nat.le_trans (Nat.le_trans fc0_36 E0_38.1) K0_39.1) ) hZ (hw _ (List.mem_of_getElem? (i := 93) rfl)) (hw _ (List.mem_of_getElem? (i := 48) rfl)) (by decide) (by decide)) q0_52a q0_52c (g := (mkF m 97 #[.val (.int p0), .val (.int p1), .val (.int p2), .val (.int p3), .val (.int p4), .val (.int (own_et p0 p1 p2 p3 p4)), .val (.int (own_ev p0 p1 p2 p3 p4)), .val (.ref rs0_1), .val (.ref rs0_3), .val (.ref rs0_5), .val (.ref rs0_13), .val (.ref b0_21), .val (.ref b0_38), .val (.int (((p4.toUInt32 >>> ((2 : Int32) &&& 31).toUInt32).toInt32) &&& (3 : Int32))), .unset] [.null, (.ref b0_21)])) rfl (by rw [hml]; rfl) (Steps.refl _) (argsL := [.null]) (rest := []) (lenOf pd0_2 rfl) rfl (by show 2 * 0 + _ ≤ _; exact Nat.le_of_eq rfl) (hb hby at_97) (fun _ _ => ⟨rfl, rfl, (by decide : 18 + 0 ≤ _), (by decide : 38 + 0 ≤ _)⟩)
    dsimp only [Pt.U, Pt.locs, Pt.cells, Pt.slots] at X0_52 l0_52 y0_52 z0_52 st0_52 hQ0_52
    subst l0_52 y0_52 z0_52
    obtain ⟨rfl, N0_52q, e0_52⟩ := hQ0_52
    have N0_52 := Fr.app Nhd0_51 N0_52q
    refine own_fw (fun t k => st0_52.trans k) ?_
    obtain ⟨Lhd0_53, Xhd0_53, Nhd0_53⟩ := own_hide X0_52 N0_52
    refine own_fw (A := T0_52.setTop (mkF m 108 #[.val (.int p0), .val (.int p1), .val (.int p2), .val (.int p3), .val (.int p4), .val (.int (own_et p0 p1 p2 p3 p4)), .val (.int (own_ev p0 p1 p2 p3 p4)), .val (.ref rs0_1), .val (.ref rs0_3), .val (.ref rs0_5), .val (.ref rs0_13), .val (.ref b0_21), .val (.ref b0_38), .val (.int (((p4.toUInt32 >>> ((2 : Int32) &&& 31).toUInt32).toInt32) &&& (3 : Int32))), .unset] [(.int (1 : Int32))])) (fun t k => ?_) ?_
    · show Steps p.tables e below (T0_52.setTop (mkF m 100 #[.val (.int p0), .val (.int p1), .val (.int p2), .val (.int p3), .val (.int p4), .val (.int (own_et p0 p1 p2 p3 p4)), .val (.int (own_ev p0 p1 p2 p3 p4)), .val (.ref rs0_1), .val (.ref rs0_3), .val (.ref rs0_5), .val (.ref rs0_13), .val (.ref b0_21), .val (.ref b0_38), .val (.int (((p4.toUInt32 >>> ((2 : Int32) &&& 31).toUInt32).toInt32) &&& (3 : Int32))), .unset] [(.int (0 : Int32))])) t
      refine XS.ifNo Xhd0_53.here hx rfl (hb hby at_100) rfl ((if0 _ _).trans (teq (rfl : (0 : Int32) = (0 : Int32))).2) ?_
      show Steps p.tables e below (T0_52.setTop (mkF m 103 #[.val (.int p0), .val (.int p1), .val (.int p2), .val (.int p3), .val (.int p4), .val (.int (own_et p0 p1 p2 p3 p4)), .val (.int (own_ev p0 p1 p2 p3 p4)), .val (.ref rs0_1), .val (.ref rs0_3), .val (.ref rs0_5), .val (.ref rs0_13), .val (.ref b0_21), .val (.ref b0_38), .val (.int (((p4.toUInt32 >>> ((2 : Int32) &&& 31).toUInt32).toInt32) &&& (3 : Int32))), .unset] [])) t
      refine XS.iconst Xhd0_53.here hx rfl (hb hby at_103) ?_
      show Steps p.tables e below (T0_52.setTop (mkF m 104 #[.val (.int p0), .val (.int p1), .val (.int p2), .val (.int p3), .val (.int p4), .val (.int (own_et p0 p1 p2 p3 p4)), .val (.int (own_ev p0 p1 p2 p3 p4)), .val (.ref rs0_1), .val (.ref rs0_3), .val (.ref rs0_5), .val (.ref rs0_13), .val (.ref b0_21), .val (.ref b0_38), .val (.int (((p4.toUInt32 >>> ((2 : Int32) &&& 31).toUInt32).toInt32) &&& (3 : Int32))), .unset] [(.int (1 : Int32))])) t
      refine XS.goto Xhd0_53.here hx rfl (pc0 := 104) (pc' := 108) rfl (hb hby at_104) (by decide) (by decide) ?_
      exact k
    obtain ⟨fs, hr, hrun, hended, hEnd⟩ := Stand.leaveW (s := s) (vm₁ := T0_13.vm) Xhd0_53 hS0_13 (show _ ≤ T0_52.heap.size by rw [e0_52]; exact (Nat.le_trans (Nat.le_trans (Nat.le_trans (Nat.le_trans (Nat.le_refl _) E0_21.1) K0_22.1) E0_38.1) K0_39.1)) (v := some (.int (nar .boolean (1 : Int32)))) (own_ret Bd.returns) (BodyLoose.notSynchronized Bd)
    refine ⟨_, _, retN Xhd0_53 hx (t := .boolean) Bd.returns (by simp) (hb hby at_108) hr, hrun, hended, _, _, rfl, ?_, own_monoW hEnd (by decide) (by decide)⟩
    have eh : (T0_52.setFrames fs).heap = T0_39.heap := e0_52
    rw [eh]
    exact ⟨rfl, Nhd0_53⟩
  · refine own_fw (A := T0_39.setTop (mkF m 109 #[.val (.int p0), .val (.int p1), .val (.int p2), .val (.int p3), .val (.int p4), .val (.int (own_et p0 p1 p2 p3 p4)), .val (.int (own_ev p0 p1 p2 p3 p4)), .val (.ref rs0_1), .val (.ref rs0_3), .val (.ref rs0_5), .val (.ref rs0_13), .val (.ref b0_21), .val (.ref b0_38), .val (.int (((p4.toUInt32 >>> ((2 : Int32) &&& 31).toUInt32).toInt32) &&& (3 : Int32))), .unset] [])) (fun t k => ?_) ?_
    · show Steps p.tables e below (T0_39.setTop (mkF m 91 #[.val (.int p0), .val (.int p1), .val (.int p2), .val (.int p3), .val (.int p4), .val (.int (own_et p0 p1 p2 p3 p4)), .val (.int (own_ev p0 p1 p2 p3 p4)), .val (.ref rs0_1), .val (.ref rs0_3), .val (.ref rs0_5), .val (.ref rs0_13), .val (.ref b0_21), .val (.ref b0_38), .val (.int (((p4.toUInt32 >>> ((2 : Int32) &&& 31).toUInt32).toInt32) &&& (3 : Int32))), .unset] [(.int (1 : Int32)), (.int (((p4.toUInt32 >>> ((2 : Int32) &&& 31).toUInt32).toInt32) &&& (3 : Int32)))])) t
      refine XS.icmpYes Xhd0_51.here hx rfl (pc0 := 91) (pc' := 109) rfl (hb hby at_91) rfl (feq hc0_3).2 (by decide) (by decide) ?_
      exact k
    refine own_fw (A := T0_39.setTop (mkF m 112 #[.val (.int p0), .val (.int p1), .val (.int p2), .val (.int p3), .val (.int p4), .val (.int (own_et p0 p1 p2 p3 p4)), .val (.int (own_ev p0 p1 p2 p3 p4)), .val (.ref rs0_1), .val (.ref rs0_3), .val (.ref rs0_5), .val (.ref rs0_13), .val (.ref b0_21), .val (.ref b0_38), .val (.int (((p4.toUInt32 >>> ((2 : Int32) &&& 31).toUInt32).toInt32) &&& (3 : Int32))), .unset] [(.int (2 : Int32)), (.int (((p4.toUInt32 >>> ((2 : Int32) &&& 31).toUInt32).toInt32) &&& (3 : Int32)))])) (fun t k => ?_) ?_
    · show Steps p.tables e below (T0_39.setTop (mkF m 109 #[.val (.int p0), .val (.int p1), .val (.int p2), .val (.int p3), .val (.int p4), .val (.int (own_et p0 p1 p2 p3 p4)), .val (.int (own_ev p0 p1 p2 p3 p4)), .val (.ref rs0_1), .val (.ref rs0_3), .val (.ref rs0_5), .val (.ref rs0_13), .val (.ref b0_21), .val (.ref b0_38), .val (.int (((p4.toUInt32 >>> ((2 : Int32) &&& 31).toUInt32).toInt32) &&& (3 : Int32))), .unset] [])) t
      refine XS.iload Xhd0_51.here hx rfl (hb hby at_109) rfl ?_
      show Steps p.tables e below (T0_39.setTop (mkF m 111 #[.val (.int p0), .val (.int p1), .val (.int p2), .val (.int p3), .val (.int p4), .val (.int (own_et p0 p1 p2 p3 p4)), .val (.int (own_ev p0 p1 p2 p3 p4)), .val (.ref rs0_1), .val (.ref rs0_3), .val (.ref rs0_5), .val (.ref rs0_13), .val (.ref b0_21), .val (.ref b0_38), .val (.int (((p4.toUInt32 >>> ((2 : Int32) &&& 31).toUInt32).toInt32) &&& (3 : Int32))), .unset] [(.int (((p4.toUInt32 >>> ((2 : Int32) &&& 31).toUInt32).toInt32) &&& (3 : Int32)))])) t
      refine XS.iconst Xhd0_51.here hx rfl (hb hby at_111) ?_
      exact k
    by_cases hc0_4 : (((p4.toUInt32 >>> ((2 : Int32) &&& 31).toUInt32).toInt32) &&& (3 : Int32)) = (2 : Int32)
    · refine own_fw (A := T0_39.setTop (mkF m 115 #[.val (.int p0), .val (.int p1), .val (.int p2), .val (.int p3), .val (.int p4), .val (.int (own_et p0 p1 p2 p3 p4)), .val (.int (own_ev p0 p1 p2 p3 p4)), .val (.ref rs0_1), .val (.ref rs0_3), .val (.ref rs0_5), .val (.ref rs0_13), .val (.ref b0_21), .val (.ref b0_38), .val (.int (((p4.toUInt32 >>> ((2 : Int32) &&& 31).toUInt32).toInt32) &&& (3 : Int32))), .unset] [])) (fun t k => ?_) ?_
      · show Steps p.tables e below (T0_39.setTop (mkF m 112 #[.val (.int p0), .val (.int p1), .val (.int p2), .val (.int p3), .val (.int p4), .val (.int (own_et p0 p1 p2 p3 p4)), .val (.int (own_ev p0 p1 p2 p3 p4)), .val (.ref rs0_1), .val (.ref rs0_3), .val (.ref rs0_5), .val (.ref rs0_13), .val (.ref b0_21), .val (.ref b0_38), .val (.int (((p4.toUInt32 >>> ((2 : Int32) &&& 31).toUInt32).toInt32) &&& (3 : Int32))), .unset] [(.int (2 : Int32)), (.int (((p4.toUInt32 >>> ((2 : Int32) &&& 31).toUInt32).toInt32) &&& (3 : Int32)))])) t
        refine XS.icmpNo Xhd0_51.here hx rfl (hb hby at_112) rfl (teq hc0_4).2 ?_
        exact k
      refine own_fw (A := T0_39.setTop (mkF m 119 #[.val (.int p0), .val (.int p1), .val (.int p2), .val (.int p3), .val (.int p4), .val (.int (own_et p0 p1 p2 p3 p4)), .val (.int (own_ev p0 p1 p2 p3 p4)), .val (.ref rs0_1), .val (.ref rs0_3), .val (.ref rs0_5), .val (.ref rs0_13), .val (.ref b0_21), .val (.ref b0_38), .val (.int (((p4.toUInt32 >>> ((2 : Int32) &&& 31).toUInt32).toInt32) &&& (3 : Int32))), .unset] [(.ref rs0_1), (.ref b0_21)])) (fun t k => ?_) ?_
      · show Steps p.tables e below (T0_39.setTop (mkF m 115 #[.val (.int p0), .val (.int p1), .val (.int p2), .val (.int p3), .val (.int p4), .val (.int (own_et p0 p1 p2 p3 p4)), .val (.int (own_ev p0 p1 p2 p3 p4)), .val (.ref rs0_1), .val (.ref rs0_3), .val (.ref rs0_5), .val (.ref rs0_13), .val (.ref b0_21), .val (.ref b0_38), .val (.int (((p4.toUInt32 >>> ((2 : Int32) &&& 31).toUInt32).toInt32) &&& (3 : Int32))), .unset] [])) t
        refine XS.aload Xhd0_51.here hx rfl (hb hby at_115) rfl rfl ?_
        show Steps p.tables e below (T0_39.setTop (mkF m 117 #[.val (.int p0), .val (.int p1), .val (.int p2), .val (.int p3), .val (.int p4), .val (.int (own_et p0 p1 p2 p3 p4)), .val (.int (own_ev p0 p1 p2 p3 p4)), .val (.ref rs0_1), .val (.ref rs0_3), .val (.ref rs0_5), .val (.ref rs0_13), .val (.ref b0_21), .val (.ref b0_38), .val (.int (((p4.toUInt32 >>> ((2 : Int32) &&& 31).toUInt32).toInt32) &&& (3 : Int32))), .unset] [(.ref b0_21)])) t
        refine XS.aload Xhd0_51.here hx rfl (hb hby at_117) rfl rfl ?_
        exact k
      obtain ⟨cq0_54, kq0_54, q0_54a, q0_54b, q0_54c⟩ := isOf hZ rfl ((E00_22.ext E0_38).keep K0_39)
      obtain ⟨_, _, ⟨T0_54, L0_54, k0_54, n0_54⟩, -, X0_54, ⟨Lc0_54, hQ0_54, l0_54, y0_54, z0_54⟩, st0_54⟩ := Xhd0_51.virtualBack hx (y := (⟨"com/example/access_decision/accessdecision/AclRight", "equals", "(Ljava/lang/Object;)Z"⟩ : MethodName)) (z := (⟨"com/example/access_decision/accessdecision/AclRight", "equals", "(Ljava/lang/Object;)Z"⟩ : MethodName)) hown (mvT hZ (hw _ (List.mem_of_getElem? (i := 89) rfl))) (mvT hZ (hw _ (List.mem_of_getElem? (i := 90) rfl))) (notFace_of_selects (args := #[]) (mvT hZ (hw _ (List.mem_of_getElem? (i := 92) rfl)))) (mvT hZ (hw _ (List.mem_of_getElem? (i := 92) rfl))) (mvT hZ (hw _ (List.mem_of_getElem? (i := 91) rfl))) (by decide) (backOf (W := 0) (rmAE_t l Z a0 hw [] b0_21 rs0_1 T0_39.heap n0 (Nat.le_trans (Nat.le_trans fc0_36 E0_38.1) K0_39.1) ((E10_22.ext E0_38).keep K0_39)) hZ (hw _ (List.mem_of_getElem? (i := 93) rfl)) (hw _ (List.mem_of_getElem? (i := 48) rfl)) (by decide) (by decide)) q0_54a q0_54c (g := (mkF m 119 #[.val (.int p0), .val (.int p1), .val (.int p2), .val (.int p3), .val (.int p4), .val (.int (own_et p0 p1 p2 p3 p4)), .val (.int (own_ev p0 p1 p2 p3 p4)), .val (.ref rs0_1), .val (.ref rs0_3), .val (.ref rs0_5), .val (.ref rs0_13), .val (.ref b0_21), .val (.ref b0_38), .val (.int (((p4.toUInt32 >>> ((2 : Int32) &&& 31).toUInt32).toInt32) &&& (3 : Int32))), .unset] [(.ref rs0_1), (.ref b0_21)])) rfl (by rw [hml]; rfl) (Steps.refl _) (argsL := [(.ref rs0_1)]) (rest := []) (lenOf pd0_2 rfl) rfl (by show 2 * 0 + _ ≤ _; exact Nat.le_of_eq rfl) (hb hby at_119) (fun _ _ => ⟨rfl, rfl, (by decide : 18 + 0 ≤ _), (by decide : 38 + 0 ≤ _)⟩)
      dsimp only [Pt.U, Pt.locs, Pt.cells, Pt.slots] at X0_54 l0_54 y0_54 z0_54 st0_54 hQ0_54
      subst l0_54 y0_54 z0_54
      obtain ⟨rfl, N0_54q, e0_54⟩ := hQ0_54
      have N0_54 := Fr.app Nhd0_51 N0_54q
      refine own_fw (fun t k => st0_54.trans k) ?_
      obtain ⟨Lhd0_55, Xhd0_55, Nhd0_55⟩ := own_hide X0_54 N0_54
      refine own_fw (A := T0_54.setTop (mkF m 130 #[.val (.int p0), .val (.int p1), .val (.int p2), .val (.int p3), .val (.int p4), .val (.int (own_et p0 p1 p2 p3 p4)), .val (.int (own_ev p0 p1 p2 p3 p4)), .val (.ref rs0_1), .val (.ref rs0_3), .val (.ref rs0_5), .val (.ref rs0_13), .val (.ref b0_21), .val (.ref b0_38), .val (.int (((p4.toUInt32 >>> ((2 : Int32) &&& 31).toUInt32).toInt32) &&& (3 : Int32))), .unset] [(.int (1 : Int32))])) (fun t k => ?_) ?_
      · show Steps p.tables e below (T0_54.setTop (mkF m 122 #[.val (.int p0), .val (.int p1), .val (.int p2), .val (.int p3), .val (.int p4), .val (.int (own_et p0 p1 p2 p3 p4)), .val (.int (own_ev p0 p1 p2 p3 p4)), .val (.ref rs0_1), .val (.ref rs0_3), .val (.ref rs0_5), .val (.ref rs0_13), .val (.ref b0_21), .val (.ref b0_38), .val (.int (((p4.toUInt32 >>> ((2 : Int32) &&& 31).toUInt32).toInt32) &&& (3 : Int32))), .unset] [(.int (0 : Int32))])) t
        refine XS.ifNo Xhd0_55.here hx rfl (hb hby at_122) rfl ((if0 _ _).trans (teq (rfl : (0 : Int32) = (0 : Int32))).2) ?_
        show Steps p.tables e below (T0_54.setTop (mkF m 125 #[.val (.int p0), .val (.int p1), .val (.int p2), .val (.int p3), .val (.int p4), .val (.int (own_et p0 p1 p2 p3 p4)), .val (.int (own_ev p0 p1 p2 p3 p4)), .val (.ref rs0_1), .val (.ref rs0_3), .val (.ref rs0_5), .val (.ref rs0_13), .val (.ref b0_21), .val (.ref b0_38), .val (.int (((p4.toUInt32 >>> ((2 : Int32) &&& 31).toUInt32).toInt32) &&& (3 : Int32))), .unset] [])) t
        refine XS.iconst Xhd0_55.here hx rfl (hb hby at_125) ?_
        show Steps p.tables e below (T0_54.setTop (mkF m 126 #[.val (.int p0), .val (.int p1), .val (.int p2), .val (.int p3), .val (.int p4), .val (.int (own_et p0 p1 p2 p3 p4)), .val (.int (own_ev p0 p1 p2 p3 p4)), .val (.ref rs0_1), .val (.ref rs0_3), .val (.ref rs0_5), .val (.ref rs0_13), .val (.ref b0_21), .val (.ref b0_38), .val (.int (((p4.toUInt32 >>> ((2 : Int32) &&& 31).toUInt32).toInt32) &&& (3 : Int32))), .unset] [(.int (1 : Int32))])) t
        refine XS.goto Xhd0_55.here hx rfl (pc0 := 126) (pc' := 130) rfl (hb hby at_126) (by decide) (by decide) ?_
        exact k
      obtain ⟨fs, hr, hrun, hended, hEnd⟩ := Stand.leaveW (s := s) (vm₁ := T0_13.vm) Xhd0_55 hS0_13 (show _ ≤ T0_54.heap.size by rw [e0_54]; exact (Nat.le_trans (Nat.le_trans (Nat.le_trans (Nat.le_trans (Nat.le_refl _) E0_21.1) K0_22.1) E0_38.1) K0_39.1)) (v := some (.int (nar .boolean (1 : Int32)))) (own_ret Bd.returns) (BodyLoose.notSynchronized Bd)
      refine ⟨_, _, retN Xhd0_55 hx (t := .boolean) Bd.returns (by simp) (hb hby at_130) hr, hrun, hended, _, _, rfl, ?_, own_monoW hEnd (by decide) (by decide)⟩
      have eh : (T0_54.setFrames fs).heap = T0_39.heap := e0_54
      rw [eh]
      exact ⟨rfl, Nhd0_55⟩
    · refine own_fw (A := T0_39.setTop (mkF m 131 #[.val (.int p0), .val (.int p1), .val (.int p2), .val (.int p3), .val (.int p4), .val (.int (own_et p0 p1 p2 p3 p4)), .val (.int (own_ev p0 p1 p2 p3 p4)), .val (.ref rs0_1), .val (.ref rs0_3), .val (.ref rs0_5), .val (.ref rs0_13), .val (.ref b0_21), .val (.ref b0_38), .val (.int (((p4.toUInt32 >>> ((2 : Int32) &&& 31).toUInt32).toInt32) &&& (3 : Int32))), .unset] [])) (fun t k => ?_) ?_
      · show Steps p.tables e below (T0_39.setTop (mkF m 112 #[.val (.int p0), .val (.int p1), .val (.int p2), .val (.int p3), .val (.int p4), .val (.int (own_et p0 p1 p2 p3 p4)), .val (.int (own_ev p0 p1 p2 p3 p4)), .val (.ref rs0_1), .val (.ref rs0_3), .val (.ref rs0_5), .val (.ref rs0_13), .val (.ref b0_21), .val (.ref b0_38), .val (.int (((p4.toUInt32 >>> ((2 : Int32) &&& 31).toUInt32).toInt32) &&& (3 : Int32))), .unset] [(.int (2 : Int32)), (.int (((p4.toUInt32 >>> ((2 : Int32) &&& 31).toUInt32).toInt32) &&& (3 : Int32)))])) t
        refine XS.icmpYes Xhd0_51.here hx rfl (pc0 := 112) (pc' := 131) rfl (hb hby at_112) rfl (feq hc0_4).2 (by decide) (by decide) ?_
        exact k
      refine own_fw (A := T0_39.setTop (mkF m 134 #[.val (.int p0), .val (.int p1), .val (.int p2), .val (.int p3), .val (.int p4), .val (.int (own_et p0 p1 p2 p3 p4)), .val (.int (own_ev p0 p1 p2 p3 p4)), .val (.ref rs0_1), .val (.ref rs0_3), .val (.ref rs0_5), .val (.ref rs0_13), .val (.ref b0_21), .val (.ref b0_38), .val (.int (((p4.toUInt32 >>> ((2 : Int32) &&& 31).toUInt32).toInt32) &&& (3 : Int32))), .unset] [(.int (3 : Int32)), (.int (((p4.toUInt32 >>> ((2 : Int32) &&& 31).toUInt32).toInt32) &&& (3 : Int32)))])) (fun t k => ?_) ?_
      · show Steps p.tables e below (T0_39.setTop (mkF m 131 #[.val (.int p0), .val (.int p1), .val (.int p2), .val (.int p3), .val (.int p4), .val (.int (own_et p0 p1 p2 p3 p4)), .val (.int (own_ev p0 p1 p2 p3 p4)), .val (.ref rs0_1), .val (.ref rs0_3), .val (.ref rs0_5), .val (.ref rs0_13), .val (.ref b0_21), .val (.ref b0_38), .val (.int (((p4.toUInt32 >>> ((2 : Int32) &&& 31).toUInt32).toInt32) &&& (3 : Int32))), .unset] [])) t
        refine XS.iload Xhd0_51.here hx rfl (hb hby at_131) rfl ?_
        show Steps p.tables e below (T0_39.setTop (mkF m 133 #[.val (.int p0), .val (.int p1), .val (.int p2), .val (.int p3), .val (.int p4), .val (.int (own_et p0 p1 p2 p3 p4)), .val (.int (own_ev p0 p1 p2 p3 p4)), .val (.ref rs0_1), .val (.ref rs0_3), .val (.ref rs0_5), .val (.ref rs0_13), .val (.ref b0_21), .val (.ref b0_38), .val (.int (((p4.toUInt32 >>> ((2 : Int32) &&& 31).toUInt32).toInt32) &&& (3 : Int32))), .unset] [(.int (((p4.toUInt32 >>> ((2 : Int32) &&& 31).toUInt32).toInt32) &&& (3 : Int32)))])) t
        refine XS.iconst Xhd0_51.here hx rfl (hb hby at_133) ?_
        exact k
      by_cases hc0_5 : (((p4.toUInt32 >>> ((2 : Int32) &&& 31).toUInt32).toInt32) &&& (3 : Int32)) = (3 : Int32)
      · refine own_fw (A := T0_39.setTop (mkF m 137 #[.val (.int p0), .val (.int p1), .val (.int p2), .val (.int p3), .val (.int p4), .val (.int (own_et p0 p1 p2 p3 p4)), .val (.int (own_ev p0 p1 p2 p3 p4)), .val (.ref rs0_1), .val (.ref rs0_3), .val (.ref rs0_5), .val (.ref rs0_13), .val (.ref b0_21), .val (.ref b0_38), .val (.int (((p4.toUInt32 >>> ((2 : Int32) &&& 31).toUInt32).toInt32) &&& (3 : Int32))), .unset] [])) (fun t k => ?_) ?_
        · show Steps p.tables e below (T0_39.setTop (mkF m 134 #[.val (.int p0), .val (.int p1), .val (.int p2), .val (.int p3), .val (.int p4), .val (.int (own_et p0 p1 p2 p3 p4)), .val (.int (own_ev p0 p1 p2 p3 p4)), .val (.ref rs0_1), .val (.ref rs0_3), .val (.ref rs0_5), .val (.ref rs0_13), .val (.ref b0_21), .val (.ref b0_38), .val (.int (((p4.toUInt32 >>> ((2 : Int32) &&& 31).toUInt32).toInt32) &&& (3 : Int32))), .unset] [(.int (3 : Int32)), (.int (((p4.toUInt32 >>> ((2 : Int32) &&& 31).toUInt32).toInt32) &&& (3 : Int32)))])) t
          refine XS.icmpNo Xhd0_51.here hx rfl (hb hby at_134) rfl (teq hc0_5).2 ?_
          exact k
        refine own_fw (A := T0_39.setTop (mkF m 141 #[.val (.int p0), .val (.int p1), .val (.int p2), .val (.int p3), .val (.int p4), .val (.int (own_et p0 p1 p2 p3 p4)), .val (.int (own_ev p0 p1 p2 p3 p4)), .val (.ref rs0_1), .val (.ref rs0_3), .val (.ref rs0_5), .val (.ref rs0_13), .val (.ref b0_21), .val (.ref b0_38), .val (.int (((p4.toUInt32 >>> ((2 : Int32) &&& 31).toUInt32).toInt32) &&& (3 : Int32))), .unset] [(.ref b0_21), (.ref b0_21)])) (fun t k => ?_) ?_
        · show Steps p.tables e below (T0_39.setTop (mkF m 137 #[.val (.int p0), .val (.int p1), .val (.int p2), .val (.int p3), .val (.int p4), .val (.int (own_et p0 p1 p2 p3 p4)), .val (.int (own_ev p0 p1 p2 p3 p4)), .val (.ref rs0_1), .val (.ref rs0_3), .val (.ref rs0_5), .val (.ref rs0_13), .val (.ref b0_21), .val (.ref b0_38), .val (.int (((p4.toUInt32 >>> ((2 : Int32) &&& 31).toUInt32).toInt32) &&& (3 : Int32))), .unset] [])) t
          refine XS.aload Xhd0_51.here hx rfl (hb hby at_137) rfl rfl ?_
          show Steps p.tables e below (T0_39.setTop (mkF m 139 #[.val (.int p0), .val (.int p1), .val (.int p2), .val (.int p3), .val (.int p4), .val (.int (own_et p0 p1 p2 p3 p4)), .val (.int (own_ev p0 p1 p2 p3 p4)), .val (.ref rs0_1), .val (.ref rs0_3), .val (.ref rs0_5), .val (.ref rs0_13), .val (.ref b0_21), .val (.ref b0_38), .val (.int (((p4.toUInt32 >>> ((2 : Int32) &&& 31).toUInt32).toInt32) &&& (3 : Int32))), .unset] [(.ref b0_21)])) t
          refine XS.aload Xhd0_51.here hx rfl (hb hby at_139) rfl rfl ?_
          exact k
        obtain ⟨cq0_56, kq0_56, q0_56a, q0_56b, q0_56c⟩ := isOf hZ rfl ((E00_22.ext E0_38).keep K0_39)
        obtain ⟨_, _, ⟨T0_56, L0_56, k0_56, n0_56⟩, -, X0_56, ⟨Lc0_56, hQ0_56, l0_56, y0_56, z0_56⟩, st0_56⟩ := Xhd0_51.virtualBack hx (y := (⟨"com/example/access_decision/accessdecision/AclRight", "equals", "(Ljava/lang/Object;)Z"⟩ : MethodName)) (z := (⟨"com/example/access_decision/accessdecision/AclRight", "equals", "(Ljava/lang/Object;)Z"⟩ : MethodName)) hown (mvT hZ (hw _ (List.mem_of_getElem? (i := 89) rfl))) (mvT hZ (hw _ (List.mem_of_getElem? (i := 90) rfl))) (notFace_of_selects (args := #[]) (mvT hZ (hw _ (List.mem_of_getElem? (i := 92) rfl)))) (mvT hZ (hw _ (List.mem_of_getElem? (i := 92) rfl))) (mvT hZ (hw _ (List.mem_of_getElem? (i := 91) rfl))) (by decide) (backOf (W := 0) (rmAE_s l Z a0 hw [] b0_21 rs0_1 rs0_3 T0_39.heap n0 (Nat.le_trans (Nat.le_trans fc0_36 E0_38.1) K0_39.1) ((E00_22.ext E0_38).keep K0_39) fc0_45 fc0_46 ((E10_22.ext E0_38).keep K0_39) ((E20_22.ext E0_38).keep K0_39)) hZ (hw _ (List.mem_of_getElem? (i := 93) rfl)) (hw _ (List.mem_of_getElem? (i := 48) rfl)) (by decide) (by decide)) q0_56a q0_56c (g := (mkF m 141 #[.val (.int p0), .val (.int p1), .val (.int p2), .val (.int p3), .val (.int p4), .val (.int (own_et p0 p1 p2 p3 p4)), .val (.int (own_ev p0 p1 p2 p3 p4)), .val (.ref rs0_1), .val (.ref rs0_3), .val (.ref rs0_5), .val (.ref rs0_13), .val (.ref b0_21), .val (.ref b0_38), .val (.int (((p4.toUInt32 >>> ((2 : Int32) &&& 31).toUInt32).toInt32) &&& (3 : Int32))), .unset] [(.ref b0_21), (.ref b0_21)])) rfl (by rw [hml]; rfl) (Steps.refl _) (argsL := [(.ref b0_21)]) (rest := []) (lenOf pd0_2 rfl) rfl (by show 2 * 0 + _ ≤ _; exact Nat.le_of_eq rfl) (hb hby at_141) (fun _ _ => ⟨rfl, rfl, (by decide : 18 + 0 ≤ _), (by decide : 38 + 0 ≤ _)⟩)
        dsimp only [Pt.U, Pt.locs, Pt.cells, Pt.slots] at X0_56 l0_56 y0_56 z0_56 st0_56 hQ0_56
        subst l0_56 y0_56 z0_56
        obtain ⟨rfl, N0_56q, e0_56⟩ := hQ0_56
        have N0_56 := Fr.app Nhd0_51 N0_56q
        refine own_fw (fun t k => st0_56.trans k) ?_
        obtain ⟨Lhd0_57, Xhd0_57, Nhd0_57⟩ := own_hide X0_56 N0_56
        obtain ⟨fs, hr, hrun, hended, hEnd⟩ := Stand.leaveW (s := s) (vm₁ := T0_13.vm) Xhd0_57 hS0_13 (show _ ≤ T0_56.heap.size by rw [e0_56]; exact (Nat.le_trans (Nat.le_trans (Nat.le_trans (Nat.le_trans (Nat.le_refl _) E0_21.1) K0_22.1) E0_38.1) K0_39.1)) (v := some (.int (nar .boolean (1 : Int32)))) (own_ret Bd.returns) (BodyLoose.notSynchronized Bd)
        refine ⟨_, _, retN Xhd0_57 hx (t := .boolean) Bd.returns (by simp) (hb hby at_144) hr, hrun, hended, _, _, rfl, ?_, own_monoW hEnd (by decide) (by decide)⟩
        have eh : (T0_56.setFrames fs).heap = T0_39.heap := e0_56
        rw [eh]
        exact ⟨rfl, Nhd0_57⟩
      · refine own_fw (A := T0_39.setTop (mkF m 145 #[.val (.int p0), .val (.int p1), .val (.int p2), .val (.int p3), .val (.int p4), .val (.int (own_et p0 p1 p2 p3 p4)), .val (.int (own_ev p0 p1 p2 p3 p4)), .val (.ref rs0_1), .val (.ref rs0_3), .val (.ref rs0_5), .val (.ref rs0_13), .val (.ref b0_21), .val (.ref b0_38), .val (.int (((p4.toUInt32 >>> ((2 : Int32) &&& 31).toUInt32).toInt32) &&& (3 : Int32))), .unset] [])) (fun t k => ?_) ?_
        · show Steps p.tables e below (T0_39.setTop (mkF m 134 #[.val (.int p0), .val (.int p1), .val (.int p2), .val (.int p3), .val (.int p4), .val (.int (own_et p0 p1 p2 p3 p4)), .val (.int (own_ev p0 p1 p2 p3 p4)), .val (.ref rs0_1), .val (.ref rs0_3), .val (.ref rs0_5), .val (.ref rs0_13), .val (.ref b0_21), .val (.ref b0_38), .val (.int (((p4.toUInt32 >>> ((2 : Int32) &&& 31).toUInt32).toInt32) &&& (3 : Int32))), .unset] [(.int (3 : Int32)), (.int (((p4.toUInt32 >>> ((2 : Int32) &&& 31).toUInt32).toInt32) &&& (3 : Int32)))])) t
          refine XS.icmpYes Xhd0_51.here hx rfl (pc0 := 134) (pc' := 145) rfl (hb hby at_134) rfl (feq hc0_5).2 (by decide) (by decide) ?_
          exact k
        refine own_fw (A := T0_39.setTop (mkF m 148 #[.val (.int p0), .val (.int p1), .val (.int p2), .val (.int p3), .val (.int p4), .val (.int (own_et p0 p1 p2 p3 p4)), .val (.int (own_ev p0 p1 p2 p3 p4)), .val (.ref rs0_1), .val (.ref rs0_3), .val (.ref rs0_5), .val (.ref rs0_13), .val (.ref b0_21), .val (.ref b0_38), .val (.int (((p4.toUInt32 >>> ((2 : Int32) &&& 31).toUInt32).toInt32) &&& (3 : Int32))), .unset] [(.int (own_et p0 p1 p2 p3 p4)), (.int p0)])) (fun t k => ?_) ?_
        · show Steps p.tables e below (T0_39.setTop (mkF m 145 #[.val (.int p0), .val (.int p1), .val (.int p2), .val (.int p3), .val (.int p4), .val (.int (own_et p0 p1 p2 p3 p4)), .val (.int (own_ev p0 p1 p2 p3 p4)), .val (.ref rs0_1), .val (.ref rs0_3), .val (.ref rs0_5), .val (.ref rs0_13), .val (.ref b0_21), .val (.ref b0_38), .val (.int (((p4.toUInt32 >>> ((2 : Int32) &&& 31).toUInt32).toInt32) &&& (3 : Int32))), .unset] [])) t
          refine XS.iloadN Xhd0_51.here hx rfl (hb hby at_145) rfl ?_
          show Steps p.tables e below (T0_39.setTop (mkF m 146 #[.val (.int p0), .val (.int p1), .val (.int p2), .val (.int p3), .val (.int p4), .val (.int (own_et p0 p1 p2 p3 p4)), .val (.int (own_ev p0 p1 p2 p3 p4)), .val (.ref rs0_1), .val (.ref rs0_3), .val (.ref rs0_5), .val (.ref rs0_13), .val (.ref b0_21), .val (.ref b0_38), .val (.int (((p4.toUInt32 >>> ((2 : Int32) &&& 31).toUInt32).toInt32) &&& (3 : Int32))), .unset] [(.int p0)])) t
          refine XS.iload Xhd0_51.here hx rfl (hb hby at_146) rfl ?_
          exact k
        obtain ⟨_, _, ⟨T0_58, L0_58, k0_58, n0_58⟩, -, X0_58, ⟨Lc0_58, hQ0_58, l0_58, y0_58, z0_58⟩, st0_58⟩ := Jvm.LawKit.callS Xhd0_51 hx (y := (⟨"com/example/access_decision/accessdecision/AclRightEqualsPinLaw", "same", "(II)Z"⟩ : MethodName)) hown (mvT hZ (hw _ (List.mem_of_getElem? (i := 86) rfl))) (mvT hZ (hw _ (List.mem_of_getElem? (i := 87) rfl))) (mvT hZ (hw _ (List.mem_of_getElem? (i := 2) rfl))) (mvT hZ (hw _ (List.mem_of_getElem? (i := 88) rfl))) (by decide) (backOf (W := 0) (rm17 l Z a0 hw [] (p0) ((own_et p0 p1 p2 p3 p4)) T0_39.heap n0 (Nat.le_trans (Nat.le_trans fc0_36 E0_38.1) K0_39.1) ) hZ (hw _ (List.mem_of_getElem? (i := 88) rfl)) (hw _ (List.mem_of_getElem? (i := 2) rfl)) (by decide) (by decide)) (g := (mkF m 148 #[.val (.int p0), .val (.int p1), .val (.int p2), .val (.int p3), .val (.int p4), .val (.int (own_et p0 p1 p2 p3 p4)), .val (.int (own_ev p0 p1 p2 p3 p4)), .val (.ref rs0_1), .val (.ref rs0_3), .val (.ref rs0_5), .val (.ref rs0_13), .val (.ref b0_21), .val (.ref b0_38), .val (.int (((p4.toUInt32 >>> ((2 : Int32) &&& 31).toUInt32).toInt32) &&& (3 : Int32))), .unset] [(.int (own_et p0 p1 p2 p3 p4)), (.int p0)])) rfl (by rw [hml]; rfl) (argsL := [(.int p0), (.int (own_et p0 p1 p2 p3 p4))]) (rest := []) (lenOf pd0_3 rfl) rfl (by show 2 * 0 + _ ≤ _; exact Nat.le_of_eq rfl) (hb hby at_148) (fun _ _ => ⟨rfl, rfl, (by decide : 18 + 0 ≤ _), (by decide : 38 + 0 ≤ _)⟩)
        dsimp only [Pt.U, Pt.locs, Pt.cells, Pt.slots] at X0_58 l0_58 y0_58 z0_58 st0_58 hQ0_58
        subst l0_58 y0_58 z0_58
        obtain ⟨rfl, N0_58q, e0_58⟩ := hQ0_58
        have N0_58 := Fr.app Nhd0_51 N0_58q
        refine own_fw st0_58 ?_
        obtain ⟨Lhd0_59, Xhd0_59, Nhd0_59⟩ := own_hide X0_58 N0_58
        by_cases hc0_6 : (f_same p0 (own_et p0 p1 p2 p3 p4)) = (0 : Int32)
        · refine own_fw (A := T0_58.setTop (mkF m 167 #[.val (.int p0), .val (.int p1), .val (.int p2), .val (.int p3), .val (.int p4), .val (.int (own_et p0 p1 p2 p3 p4)), .val (.int (own_ev p0 p1 p2 p3 p4)), .val (.ref rs0_1), .val (.ref rs0_3), .val (.ref rs0_5), .val (.ref rs0_13), .val (.ref b0_21), .val (.ref b0_38), .val (.int (((p4.toUInt32 >>> ((2 : Int32) &&& 31).toUInt32).toInt32) &&& (3 : Int32))), .unset] [])) (fun t k => ?_) ?_
          · show Steps p.tables e below (T0_58.setTop (mkF m 151 #[.val (.int p0), .val (.int p1), .val (.int p2), .val (.int p3), .val (.int p4), .val (.int (own_et p0 p1 p2 p3 p4)), .val (.int (own_ev p0 p1 p2 p3 p4)), .val (.ref rs0_1), .val (.ref rs0_3), .val (.ref rs0_5), .val (.ref rs0_13), .val (.ref b0_21), .val (.ref b0_38), .val (.int (((p4.toUInt32 >>> ((2 : Int32) &&& 31).toUInt32).toInt32) &&& (3 : Int32))), .unset] [(.int (f_same p0 (own_et p0 p1 p2 p3 p4)))])) t
            refine XS.ifYes Xhd0_59.here hx rfl (pc0 := 151) (pc' := 167) rfl (hb hby at_151) rfl ((if0 _ _).trans (teq hc0_6).1) (by decide) (by decide) ?_
            exact k
          refine own_fw (A := T0_58.setTop (mkF m 174 #[.val (.int p0), .val (.int p1), .val (.int p2), .val (.int p3), .val (.int p4), .val (.int (own_et p0 p1 p2 p3 p4)), .val (.int (own_ev p0 p1 p2 p3 p4)), .val (.ref rs0_1), .val (.ref rs0_3), .val (.ref rs0_5), .val (.ref rs0_13), .val (.ref b0_21), .val (.ref b0_38), .val (.int (((p4.toUInt32 >>> ((2 : Int32) &&& 31).toUInt32).toInt32) &&& (3 : Int32))), .val (.int (0 : Int32))] [(.ref b0_38), (.ref b0_21)])) (fun t k => ?_) ?_
          · show Steps p.tables e below (T0_58.setTop (mkF m 167 #[.val (.int p0), .val (.int p1), .val (.int p2), .val (.int p3), .val (.int p4), .val (.int (own_et p0 p1 p2 p3 p4)), .val (.int (own_ev p0 p1 p2 p3 p4)), .val (.ref rs0_1), .val (.ref rs0_3), .val (.ref rs0_5), .val (.ref rs0_13), .val (.ref b0_21), .val (.ref b0_38), .val (.int (((p4.toUInt32 >>> ((2 : Int32) &&& 31).toUInt32).toInt32) &&& (3 : Int32))), .unset] [])) t
            refine XS.iconst Xhd0_59.here hx rfl (hb hby at_167) ?_
            show Steps p.tables e below (T0_58.setTop (mkF m 168 #[.val (.int p0), .val (.int p1), .val (.int p2), .val (.int p3), .val (.int p4), .val (.int (own_et p0 p1 p2 p3 p4)), .val (.int (own_ev p0 p1 p2 p3 p4)), .val (.ref rs0_1), .val (.ref rs0_3), .val (.ref rs0_5), .val (.ref rs0_13), .val (.ref b0_21), .val (.ref b0_38), .val (.int (((p4.toUInt32 >>> ((2 : Int32) &&& 31).toUInt32).toInt32) &&& (3 : Int32))), .unset] [(.int (0 : Int32))])) t
            refine XS.istore Xhd0_59.here hx rfl (hb hby at_168) rfl (l' := #[.val (.int p0), .val (.int p1), .val (.int p2), .val (.int p3), .val (.int p4), .val (.int (own_et p0 p1 p2 p3 p4)), .val (.int (own_ev p0 p1 p2 p3 p4)), .val (.ref rs0_1), .val (.ref rs0_3), .val (.ref rs0_5), .val (.ref rs0_13), .val (.ref b0_21), .val (.ref b0_38), .val (.int (((p4.toUInt32 >>> ((2 : Int32) &&& 31).toUInt32).toInt32) &&& (3 : Int32))), .val (.int (0 : Int32))]) rfl ?_
            show Steps p.tables e below (T0_58.setTop (mkF m 170 #[.val (.int p0), .val (.int p1), .val (.int p2), .val (.int p3), .val (.int p4), .val (.int (own_et p0 p1 p2 p3 p4)), .val (.int (own_ev p0 p1 p2 p3 p4)), .val (.ref rs0_1), .val (.ref rs0_3), .val (.ref rs0_5), .val (.ref rs0_13), .val (.ref b0_21), .val (.ref b0_38), .val (.int (((p4.toUInt32 >>> ((2 : Int32) &&& 31).toUInt32).toInt32) &&& (3 : Int32))), .val (.int (0 : Int32))] [])) t
            refine XS.aload Xhd0_59.here hx rfl (hb hby at_170) rfl rfl ?_
            show Steps p.tables e below (T0_58.setTop (mkF m 172 #[.val (.int p0), .val (.int p1), .val (.int p2), .val (.int p3), .val (.int p4), .val (.int (own_et p0 p1 p2 p3 p4)), .val (.int (own_ev p0 p1 p2 p3 p4)), .val (.ref rs0_1), .val (.ref rs0_3), .val (.ref rs0_5), .val (.ref rs0_13), .val (.ref b0_21), .val (.ref b0_38), .val (.int (((p4.toUInt32 >>> ((2 : Int32) &&& 31).toUInt32).toInt32) &&& (3 : Int32))), .val (.int (0 : Int32))] [(.ref b0_21)])) t
            refine XS.aload Xhd0_59.here hx rfl (hb hby at_172) rfl rfl ?_
            exact k
          obtain ⟨cq0_60, kq0_60, q0_60a, q0_60b, q0_60c⟩ := isOf hZ e0_58 ((E00_22.ext E0_38).keep K0_39)
          obtain ⟨_, _, ⟨T0_60, L0_60, k0_60, n0_60⟩, -, X0_60, ⟨Lc0_60, hQ0_60, l0_60, y0_60, z0_60⟩, st0_60⟩ := Xhd0_59.virtualBack hx (y := (⟨"com/example/access_decision/accessdecision/AclRight", "equals", "(Ljava/lang/Object;)Z"⟩ : MethodName)) (z := (⟨"com/example/access_decision/accessdecision/AclRight", "equals", "(Ljava/lang/Object;)Z"⟩ : MethodName)) hown (mvT hZ (hw _ (List.mem_of_getElem? (i := 89) rfl))) (mvT hZ (hw _ (List.mem_of_getElem? (i := 90) rfl))) (notFace_of_selects (args := #[]) (mvT hZ (hw _ (List.mem_of_getElem? (i := 92) rfl)))) (mvT hZ (hw _ (List.mem_of_getElem? (i := 92) rfl))) (mvT hZ (hw _ (List.mem_of_getElem? (i := 91) rfl))) (by decide) (backOf (W := 0) (rmAE_d l Z a0 hw [] b0_21 b0_38 rs0_1 rs0_3 rs0_5 rs0_13 vb0_1 vb0_3 vb0_5 vb0_13 vk0_1 vk0_3 vk0_5 vk0_13 (own_cs p0) (own_cs p1) (own_cs (own_et p0 p1 p2 p3 p4)) (own_cs (own_ev p0 p1 p2 p3 p4)) cc T0_39.heap n0 (Nat.le_trans (Nat.le_trans fc0_36 E0_38.1) K0_39.1) ((E00_22.ext E0_38).keep K0_39) fc0_45 fc0_46 E00_39 Ft0_39 Fv0_39 ((E10_22.ext E0_38).keep K0_39) fc0_47 fc0_48 fc0_41 (own_csl p0) ((E20_22.ext E0_38).keep K0_39) fc0_49 fc0_50 fc0_42 (own_csl p1) E10_39 Sv10_39 Sc10_39 fc0_43 (own_csl (own_et p0 p1 p2 p3 p4)) E20_39 Sv20_39 Sc20_39 fc0_44 (own_csl (own_ev p0 p1 p2 p3 p4)) ne_rs0_1_rs0_5 ne_rs0_3_rs0_13 fc0_40 S_c hcc) hZ (hw _ (List.mem_of_getElem? (i := 93) rfl)) (hw _ (List.mem_of_getElem? (i := 48) rfl)) (by decide) (by decide)) q0_60a q0_60c (g := (mkF m 174 #[.val (.int p0), .val (.int p1), .val (.int p2), .val (.int p3), .val (.int p4), .val (.int (own_et p0 p1 p2 p3 p4)), .val (.int (own_ev p0 p1 p2 p3 p4)), .val (.ref rs0_1), .val (.ref rs0_3), .val (.ref rs0_5), .val (.ref rs0_13), .val (.ref b0_21), .val (.ref b0_38), .val (.int (((p4.toUInt32 >>> ((2 : Int32) &&& 31).toUInt32).toInt32) &&& (3 : Int32))), .val (.int (0 : Int32))] [(.ref b0_38), (.ref b0_21)])) rfl (by rw [hml]; rfl) (Steps.refl _) (argsL := [(.ref b0_38)]) (rest := []) (lenOf pd0_2 rfl) rfl (by show 2 * 0 + _ ≤ _; exact Nat.le_of_eq rfl) (hb hby at_174) (fun _ _ => ⟨rfl, e0_58, (by decide : 18 + 0 ≤ _), (by decide : 38 + 0 ≤ _)⟩)
          dsimp only [Pt.U, Pt.locs, Pt.cells, Pt.slots] at X0_60 l0_60 y0_60 z0_60 st0_60 hQ0_60
          subst l0_60 y0_60 z0_60
          obtain ⟨rfl, N0_60q, e0_60⟩ := hQ0_60
          have N0_60 := Fr.app Nhd0_59 N0_60q
          refine own_fw (fun t k => st0_60.trans k) ?_
          obtain ⟨Lhd0_61, Xhd0_61, Nhd0_61⟩ := own_hide X0_60 N0_60
          refine own_fw (A := T0_60.setTop (mkF m 186 #[.val (.int p0), .val (.int p1), .val (.int p2), .val (.int p3), .val (.int p4), .val (.int (own_et p0 p1 p2 p3 p4)), .val (.int (own_ev p0 p1 p2 p3 p4)), .val (.ref rs0_1), .val (.ref rs0_3), .val (.ref rs0_5), .val (.ref rs0_13), .val (.ref b0_21), .val (.ref b0_38), .val (.int (((p4.toUInt32 >>> ((2 : Int32) &&& 31).toUInt32).toInt32) &&& (3 : Int32))), .val (.int (0 : Int32))] [(.ref b0_21), (.ref b0_38)])) (fun t k => ?_) ?_
          · show Steps p.tables e below (T0_60.setTop (mkF m 177 #[.val (.int p0), .val (.int p1), .val (.int p2), .val (.int p3), .val (.int p4), .val (.int (own_et p0 p1 p2 p3 p4)), .val (.int (own_ev p0 p1 p2 p3 p4)), .val (.ref rs0_1), .val (.ref rs0_3), .val (.ref rs0_5), .val (.ref rs0_13), .val (.ref b0_21), .val (.ref b0_38), .val (.int (((p4.toUInt32 >>> ((2 : Int32) &&& 31).toUInt32).toInt32) &&& (3 : Int32))), .val (.int (0 : Int32))] [(.int (f_both (own_cs p0) (own_cs p1) (own_cs (own_et p0 p1 p2 p3 p4)) (own_cs (own_ev p0 p1 p2 p3 p4))))])) t
            refine XS.iload Xhd0_61.here hx rfl (hb hby at_177) rfl ?_
            show Steps p.tables e below (T0_60.setTop (mkF m 179 #[.val (.int p0), .val (.int p1), .val (.int p2), .val (.int p3), .val (.int p4), .val (.int (own_et p0 p1 p2 p3 p4)), .val (.int (own_ev p0 p1 p2 p3 p4)), .val (.ref rs0_1), .val (.ref rs0_3), .val (.ref rs0_5), .val (.ref rs0_13), .val (.ref b0_21), .val (.ref b0_38), .val (.int (((p4.toUInt32 >>> ((2 : Int32) &&& 31).toUInt32).toInt32) &&& (3 : Int32))), .val (.int (0 : Int32))] [(.int (0 : Int32)), (.int (f_both (own_cs p0) (own_cs p1) (own_cs (own_et p0 p1 p2 p3 p4)) (own_cs (own_ev p0 p1 p2 p3 p4))))])) t
            refine XS.icmpNo Xhd0_61.here hx rfl (hb hby at_179) rfl (teq (own_law2 hc0_6).1).2 ?_
            show Steps p.tables e below (T0_60.setTop (mkF m 182 #[.val (.int p0), .val (.int p1), .val (.int p2), .val (.int p3), .val (.int p4), .val (.int (own_et p0 p1 p2 p3 p4)), .val (.int (own_ev p0 p1 p2 p3 p4)), .val (.ref rs0_1), .val (.ref rs0_3), .val (.ref rs0_5), .val (.ref rs0_13), .val (.ref b0_21), .val (.ref b0_38), .val (.int (((p4.toUInt32 >>> ((2 : Int32) &&& 31).toUInt32).toInt32) &&& (3 : Int32))), .val (.int (0 : Int32))] [])) t
            refine XS.aload Xhd0_61.here hx rfl (hb hby at_182) rfl rfl ?_
            show Steps p.tables e below (T0_60.setTop (mkF m 184 #[.val (.int p0), .val (.int p1), .val (.int p2), .val (.int p3), .val (.int p4), .val (.int (own_et p0 p1 p2 p3 p4)), .val (.int (own_ev p0 p1 p2 p3 p4)), .val (.ref rs0_1), .val (.ref rs0_3), .val (.ref rs0_5), .val (.ref rs0_13), .val (.ref b0_21), .val (.ref b0_38), .val (.int (((p4.toUInt32 >>> ((2 : Int32) &&& 31).toUInt32).toInt32) &&& (3 : Int32))), .val (.int (0 : Int32))] [(.ref b0_38)])) t
            refine XS.aload Xhd0_61.here hx rfl (hb hby at_184) rfl rfl ?_
            exact k
          obtain ⟨cq0_62, kq0_62, q0_62a, q0_62b, q0_62c⟩ := isOf hZ e0_60 E00_39
          obtain ⟨_, _, ⟨T0_62, L0_62, k0_62, n0_62⟩, -, X0_62, ⟨Lc0_62, hQ0_62, l0_62, y0_62, z0_62⟩, st0_62⟩ := Xhd0_61.virtualBack hx (y := (⟨"com/example/access_decision/accessdecision/AclRight", "equals", "(Ljava/lang/Object;)Z"⟩ : MethodName)) (z := (⟨"com/example/access_decision/accessdecision/AclRight", "equals", "(Ljava/lang/Object;)Z"⟩ : MethodName)) hown (mvT hZ (hw _ (List.mem_of_getElem? (i := 89) rfl))) (mvT hZ (hw _ (List.mem_of_getElem? (i := 90) rfl))) (notFace_of_selects (args := #[]) (mvT hZ (hw _ (List.mem_of_getElem? (i := 92) rfl)))) (mvT hZ (hw _ (List.mem_of_getElem? (i := 92) rfl))) (mvT hZ (hw _ (List.mem_of_getElem? (i := 91) rfl))) (by decide) (backOf (W := 0) (rmAE_d l Z a0 hw [] b0_38 b0_21 rs0_5 rs0_13 rs0_1 rs0_3 vb0_5 vb0_13 vb0_1 vb0_3 vk0_5 vk0_13 vk0_1 vk0_3 (own_cs (own_et p0 p1 p2 p3 p4)) (own_cs (own_ev p0 p1 p2 p3 p4)) (own_cs p0) (own_cs p1) cc T0_39.heap n0 (Nat.le_trans (Nat.le_trans fc0_36 E0_38.1) K0_39.1) E00_39 Ft0_39 Fv0_39 ((E00_22.ext E0_38).keep K0_39) fc0_45 fc0_46 E10_39 Sv10_39 Sc10_39 fc0_43 (own_csl (own_et p0 p1 p2 p3 p4)) E20_39 Sv20_39 Sc20_39 fc0_44 (own_csl (own_ev p0 p1 p2 p3 p4)) ((E10_22.ext E0_38).keep K0_39) fc0_47 fc0_48 fc0_41 (own_csl p0) ((E20_22.ext E0_38).keep K0_39) fc0_49 fc0_50 fc0_42 (own_csl p1) (Ne.symm ne_rs0_1_rs0_5) (Ne.symm ne_rs0_3_rs0_13) fc0_40 S_c hcc) hZ (hw _ (List.mem_of_getElem? (i := 93) rfl)) (hw _ (List.mem_of_getElem? (i := 48) rfl)) (by decide) (by decide)) q0_62a q0_62c (g := (mkF m 186 #[.val (.int p0), .val (.int p1), .val (.int p2), .val (.int p3), .val (.int p4), .val (.int (own_et p0 p1 p2 p3 p4)), .val (.int (own_ev p0 p1 p2 p3 p4)), .val (.ref rs0_1), .val (.ref rs0_3), .val (.ref rs0_5), .val (.ref rs0_13), .val (.ref b0_21), .val (.ref b0_38), .val (.int (((p4.toUInt32 >>> ((2 : Int32) &&& 31).toUInt32).toInt32) &&& (3 : Int32))), .val (.int (0 : Int32))] [(.ref b0_21), (.ref b0_38)])) rfl (by rw [hml]; rfl) (Steps.refl _) (argsL := [(.ref b0_21)]) (rest := []) (lenOf pd0_2 rfl) rfl (by show 2 * 0 + _ ≤ _; exact Nat.le_of_eq rfl) (hb hby at_186) (fun _ _ => ⟨rfl, e0_60, (by decide : 18 + 0 ≤ _), (by decide : 38 + 0 ≤ _)⟩)
          dsimp only [Pt.U, Pt.locs, Pt.cells, Pt.slots] at X0_62 l0_62 y0_62 z0_62 st0_62 hQ0_62
          subst l0_62 y0_62 z0_62
          obtain ⟨rfl, N0_62q, e0_62⟩ := hQ0_62
          have N0_62 := Fr.app Nhd0_61 N0_62q
          refine own_fw (fun t k => st0_62.trans k) ?_
          obtain ⟨Lhd0_63, Xhd0_63, Nhd0_63⟩ := own_hide X0_62 N0_62
          refine own_fw (A := T0_62.setTop (mkF m 199 #[.val (.int p0), .val (.int p1), .val (.int p2), .val (.int p3), .val (.int p4), .val (.int (own_et p0 p1 p2 p3 p4)), .val (.int (own_ev p0 p1 p2 p3 p4)), .val (.ref rs0_1), .val (.ref rs0_3), .val (.ref rs0_5), .val (.ref rs0_13), .val (.ref b0_21), .val (.ref b0_38), .val (.int (((p4.toUInt32 >>> ((2 : Int32) &&& 31).toUInt32).toInt32) &&& (3 : Int32))), .val (.int (0 : Int32))] [(.int (1 : Int32))])) (fun t k => ?_) ?_
          · show Steps p.tables e below (T0_62.setTop (mkF m 189 #[.val (.int p0), .val (.int p1), .val (.int p2), .val (.int p3), .val (.int p4), .val (.int (own_et p0 p1 p2 p3 p4)), .val (.int (own_ev p0 p1 p2 p3 p4)), .val (.ref rs0_1), .val (.ref rs0_3), .val (.ref rs0_5), .val (.ref rs0_13), .val (.ref b0_21), .val (.ref b0_38), .val (.int (((p4.toUInt32 >>> ((2 : Int32) &&& 31).toUInt32).toInt32) &&& (3 : Int32))), .val (.int (0 : Int32))] [(.int (f_both (own_cs (own_et p0 p1 p2 p3 p4)) (own_cs (own_ev p0 p1 p2 p3 p4)) (own_cs p0) (own_cs p1)))])) t
            refine XS.iload Xhd0_63.here hx rfl (hb hby at_189) rfl ?_
            show Steps p.tables e below (T0_62.setTop (mkF m 191 #[.val (.int p0), .val (.int p1), .val (.int p2), .val (.int p3), .val (.int p4), .val (.int (own_et p0 p1 p2 p3 p4)), .val (.int (own_ev p0 p1 p2 p3 p4)), .val (.ref rs0_1), .val (.ref rs0_3), .val (.ref rs0_5), .val (.ref rs0_13), .val (.ref b0_21), .val (.ref b0_38), .val (.int (((p4.toUInt32 >>> ((2 : Int32) &&& 31).toUInt32).toInt32) &&& (3 : Int32))), .val (.int (0 : Int32))] [(.int (0 : Int32)), (.int (f_both (own_cs (own_et p0 p1 p2 p3 p4)) (own_cs (own_ev p0 p1 p2 p3 p4)) (own_cs p0) (own_cs p1)))])) t
            refine XS.icmpNo Xhd0_63.here hx rfl (hb hby at_191) rfl (teq (own_law2 hc0_6).2).2 ?_
            show Steps p.tables e below (T0_62.setTop (mkF m 194 #[.val (.int p0), .val (.int p1), .val (.int p2), .val (.int p3), .val (.int p4), .val (.int (own_et p0 p1 p2 p3 p4)), .val (.int (own_ev p0 p1 p2 p3 p4)), .val (.ref rs0_1), .val (.ref rs0_3), .val (.ref rs0_5), .val (.ref rs0_13), .val (.ref b0_21), .val (.ref b0_38), .val (.int (((p4.toUInt32 >>> ((2 : Int32) &&& 31).toUInt32).toInt32) &&& (3 : Int32))), .val (.int (0 : Int32))] [])) t
            refine XS.iconst Xhd0_63.here hx rfl (hb hby at_194) ?_
            show Steps p.tables e below (T0_62.setTop (mkF m 195 #[.val (.int p0), .val (.int p1), .val (.int p2), .val (.int p3), .val (.int p4), .val (.int (own_et p0 p1 p2 p3 p4)), .val (.int (own_ev p0 p1 p2 p3 p4)), .val (.ref rs0_1), .val (.ref rs0_3), .val (.ref rs0_5), .val (.ref rs0_13), .val (.ref b0_21), .val (.ref b0_38), .val (.int (((p4.toUInt32 >>> ((2 : Int32) &&& 31).toUInt32).toInt32) &&& (3 : Int32))), .val (.int (0 : Int32))] [(.int (1 : Int32))])) t
            refine XS.goto Xhd0_63.here hx rfl (pc0 := 195) (pc' := 199) rfl (hb hby at_195) (by decide) (by decide) ?_
            exact k
          obtain ⟨fs, hr, hrun, hended, hEnd⟩ := Stand.leaveW (s := s) (vm₁ := T0_13.vm) Xhd0_63 hS0_13 (show _ ≤ T0_62.heap.size by rw [e0_62]; exact (Nat.le_trans (Nat.le_trans (Nat.le_trans (Nat.le_trans (Nat.le_refl _) E0_21.1) K0_22.1) E0_38.1) K0_39.1)) (v := some (.int (nar .boolean (1 : Int32)))) (own_ret Bd.returns) (BodyLoose.notSynchronized Bd)
          refine ⟨_, _, retN Xhd0_63 hx (t := .boolean) Bd.returns (by simp) (hb hby at_199) hr, hrun, hended, _, _, rfl, ?_, own_monoW hEnd (by decide) (by decide)⟩
          have eh : (T0_62.setFrames fs).heap = T0_39.heap := e0_62
          rw [eh]
          exact ⟨rfl, Nhd0_63⟩
        · refine own_fw (A := T0_58.setTop (mkF m 154 #[.val (.int p0), .val (.int p1), .val (.int p2), .val (.int p3), .val (.int p4), .val (.int (own_et p0 p1 p2 p3 p4)), .val (.int (own_ev p0 p1 p2 p3 p4)), .val (.ref rs0_1), .val (.ref rs0_3), .val (.ref rs0_5), .val (.ref rs0_13), .val (.ref b0_21), .val (.ref b0_38), .val (.int (((p4.toUInt32 >>> ((2 : Int32) &&& 31).toUInt32).toInt32) &&& (3 : Int32))), .unset] [])) (fun t k => ?_) ?_
          · show Steps p.tables e below (T0_58.setTop (mkF m 151 #[.val (.int p0), .val (.int p1), .val (.int p2), .val (.int p3), .val (.int p4), .val (.int (own_et p0 p1 p2 p3 p4)), .val (.int (own_ev p0 p1 p2 p3 p4)), .val (.ref rs0_1), .val (.ref rs0_3), .val (.ref rs0_5), .val (.ref rs0_13), .val (.ref b0_21), .val (.ref b0_38), .val (.int (((p4.toUInt32 >>> ((2 : Int32) &&& 31).toUInt32).toInt32) &&& (3 : Int32))), .unset] [(.int (f_same p0 (own_et p0 p1 p2 p3 p4)))])) t
            refine XS.ifNo Xhd0_59.here hx rfl (hb hby at_151) rfl ((if0 _ _).trans (feq hc0_6).1) ?_
            exact k
          refine own_fw (A := T0_58.setTop (mkF m 157 #[.val (.int p0), .val (.int p1), .val (.int p2), .val (.int p3), .val (.int p4), .val (.int (own_et p0 p1 p2 p3 p4)), .val (.int (own_ev p0 p1 p2 p3 p4)), .val (.ref rs0_1), .val (.ref rs0_3), .val (.ref rs0_5), .val (.ref rs0_13), .val (.ref b0_21), .val (.ref b0_38), .val (.int (((p4.toUInt32 >>> ((2 : Int32) &&& 31).toUInt32).toInt32) &&& (3 : Int32))), .unset] [(.int (own_ev p0 p1 p2 p3 p4)), (.int p1)])) (fun t k => ?_) ?_
          · show Steps p.tables e below (T0_58.setTop (mkF m 154 #[.val (.int p0), .val (.int p1), .val (.int p2), .val (.int p3), .val (.int p4), .val (.int (own_et p0 p1 p2 p3 p4)), .val (.int (own_ev p0 p1 p2 p3 p4)), .val (.ref rs0_1), .val (.ref rs0_3), .val (.ref rs0_5), .val (.ref rs0_13), .val (.ref b0_21), .val (.ref b0_38), .val (.int (((p4.toUInt32 >>> ((2 : Int32) &&& 31).toUInt32).toInt32) &&& (3 : Int32))), .unset] [])) t
            refine XS.iloadN Xhd0_59.here hx rfl (hb hby at_154) rfl ?_
            show Steps p.tables e below (T0_58.setTop (mkF m 155 #[.val (.int p0), .val (.int p1), .val (.int p2), .val (.int p3), .val (.int p4), .val (.int (own_et p0 p1 p2 p3 p4)), .val (.int (own_ev p0 p1 p2 p3 p4)), .val (.ref rs0_1), .val (.ref rs0_3), .val (.ref rs0_5), .val (.ref rs0_13), .val (.ref b0_21), .val (.ref b0_38), .val (.int (((p4.toUInt32 >>> ((2 : Int32) &&& 31).toUInt32).toInt32) &&& (3 : Int32))), .unset] [(.int p1)])) t
            refine XS.iload Xhd0_59.here hx rfl (hb hby at_155) rfl ?_
            exact k
          obtain ⟨_, _, ⟨T0_64, L0_64, k0_64, n0_64⟩, -, X0_64, ⟨Lc0_64, hQ0_64, l0_64, y0_64, z0_64⟩, st0_64⟩ := Jvm.LawKit.callS Xhd0_59 hx (y := (⟨"com/example/access_decision/accessdecision/AclRightEqualsPinLaw", "same", "(II)Z"⟩ : MethodName)) hown (mvT hZ (hw _ (List.mem_of_getElem? (i := 86) rfl))) (mvT hZ (hw _ (List.mem_of_getElem? (i := 87) rfl))) (mvT hZ (hw _ (List.mem_of_getElem? (i := 2) rfl))) (mvT hZ (hw _ (List.mem_of_getElem? (i := 88) rfl))) (by decide) (backOf (W := 0) (rm17 l Z a0 hw [] (p1) ((own_ev p0 p1 p2 p3 p4)) T0_39.heap n0 (Nat.le_trans (Nat.le_trans fc0_36 E0_38.1) K0_39.1) ) hZ (hw _ (List.mem_of_getElem? (i := 88) rfl)) (hw _ (List.mem_of_getElem? (i := 2) rfl)) (by decide) (by decide)) (g := (mkF m 157 #[.val (.int p0), .val (.int p1), .val (.int p2), .val (.int p3), .val (.int p4), .val (.int (own_et p0 p1 p2 p3 p4)), .val (.int (own_ev p0 p1 p2 p3 p4)), .val (.ref rs0_1), .val (.ref rs0_3), .val (.ref rs0_5), .val (.ref rs0_13), .val (.ref b0_21), .val (.ref b0_38), .val (.int (((p4.toUInt32 >>> ((2 : Int32) &&& 31).toUInt32).toInt32) &&& (3 : Int32))), .unset] [(.int (own_ev p0 p1 p2 p3 p4)), (.int p1)])) rfl (by rw [hml]; rfl) (argsL := [(.int p1), (.int (own_ev p0 p1 p2 p3 p4))]) (rest := []) (lenOf pd0_3 rfl) rfl (by show 2 * 0 + _ ≤ _; exact Nat.le_of_eq rfl) (hb hby at_157) (fun _ _ => ⟨rfl, e0_58, (by decide : 18 + 0 ≤ _), (by decide : 38 + 0 ≤ _)⟩)
          dsimp only [Pt.U, Pt.locs, Pt.cells, Pt.slots] at X0_64 l0_64 y0_64 z0_64 st0_64 hQ0_64
          subst l0_64 y0_64 z0_64
          obtain ⟨rfl, N0_64q, e0_64⟩ := hQ0_64
          have N0_64 := Fr.app Nhd0_59 N0_64q
          refine own_fw st0_64 ?_
          obtain ⟨Lhd0_65, Xhd0_65, Nhd0_65⟩ := own_hide X0_64 N0_64
          by_cases hc0_7 : (f_same p1 (own_ev p0 p1 p2 p3 p4)) = (0 : Int32)
          · refine own_fw (A := T0_64.setTop (mkF m 167 #[.val (.int p0), .val (.int p1), .val (.int p2), .val (.int p3), .val (.int p4), .val (.int (own_et p0 p1 p2 p3 p4)), .val (.int (own_ev p0 p1 p2 p3 p4)), .val (.ref rs0_1), .val (.ref rs0_3), .val (.ref rs0_5), .val (.ref rs0_13), .val (.ref b0_21), .val (.ref b0_38), .val (.int (((p4.toUInt32 >>> ((2 : Int32) &&& 31).toUInt32).toInt32) &&& (3 : Int32))), .unset] [])) (fun t k => ?_) ?_
            · show Steps p.tables e below (T0_64.setTop (mkF m 160 #[.val (.int p0), .val (.int p1), .val (.int p2), .val (.int p3), .val (.int p4), .val (.int (own_et p0 p1 p2 p3 p4)), .val (.int (own_ev p0 p1 p2 p3 p4)), .val (.ref rs0_1), .val (.ref rs0_3), .val (.ref rs0_5), .val (.ref rs0_13), .val (.ref b0_21), .val (.ref b0_38), .val (.int (((p4.toUInt32 >>> ((2 : Int32) &&& 31).toUInt32).toInt32) &&& (3 : Int32))), .unset] [(.int (f_same p1 (own_ev p0 p1 p2 p3 p4)))])) t
              refine XS.ifYes Xhd0_65.here hx rfl (pc0 := 160) (pc' := 167) rfl (hb hby at_160) rfl ((if0 _ _).trans (teq hc0_7).1) (by decide) (by decide) ?_
              exact k
            refine own_fw (A := T0_64.setTop (mkF m 174 #[.val (.int p0), .val (.int p1), .val (.int p2), .val (.int p3), .val (.int p4), .val (.int (own_et p0 p1 p2 p3 p4)), .val (.int (own_ev p0 p1 p2 p3 p4)), .val (.ref rs0_1), .val (.ref rs0_3), .val (.ref rs0_5), .val (.ref rs0_13), .val (.ref b0_21), .val (.ref b0_38), .val (.int (((p4.toUInt32 >>> ((2 : Int32) &&& 31).toUInt32).toInt32) &&& (3 : Int32))), .val (.int (0 : Int32))] [(.ref b0_38), (.ref b0_21)])) (fun t k => ?_) ?_
            · show Steps p.tables e below (T0_64.setTop (mkF m 167 #[.val (.int p0), .val (.int p1), .val (.int p2), .val (.int p3), .val (.int p4), .val (.int (own_et p0 p1 p2 p3 p4)), .val (.int (own_ev p0 p1 p2 p3 p4)), .val (.ref rs0_1), .val (.ref rs0_3), .val (.ref rs0_5), .val (.ref rs0_13), .val (.ref b0_21), .val (.ref b0_38), .val (.int (((p4.toUInt32 >>> ((2 : Int32) &&& 31).toUInt32).toInt32) &&& (3 : Int32))), .unset] [])) t
              refine XS.iconst Xhd0_65.here hx rfl (hb hby at_167) ?_
              show Steps p.tables e below (T0_64.setTop (mkF m 168 #[.val (.int p0), .val (.int p1), .val (.int p2), .val (.int p3), .val (.int p4), .val (.int (own_et p0 p1 p2 p3 p4)), .val (.int (own_ev p0 p1 p2 p3 p4)), .val (.ref rs0_1), .val (.ref rs0_3), .val (.ref rs0_5), .val (.ref rs0_13), .val (.ref b0_21), .val (.ref b0_38), .val (.int (((p4.toUInt32 >>> ((2 : Int32) &&& 31).toUInt32).toInt32) &&& (3 : Int32))), .unset] [(.int (0 : Int32))])) t
              refine XS.istore Xhd0_65.here hx rfl (hb hby at_168) rfl (l' := #[.val (.int p0), .val (.int p1), .val (.int p2), .val (.int p3), .val (.int p4), .val (.int (own_et p0 p1 p2 p3 p4)), .val (.int (own_ev p0 p1 p2 p3 p4)), .val (.ref rs0_1), .val (.ref rs0_3), .val (.ref rs0_5), .val (.ref rs0_13), .val (.ref b0_21), .val (.ref b0_38), .val (.int (((p4.toUInt32 >>> ((2 : Int32) &&& 31).toUInt32).toInt32) &&& (3 : Int32))), .val (.int (0 : Int32))]) rfl ?_
              show Steps p.tables e below (T0_64.setTop (mkF m 170 #[.val (.int p0), .val (.int p1), .val (.int p2), .val (.int p3), .val (.int p4), .val (.int (own_et p0 p1 p2 p3 p4)), .val (.int (own_ev p0 p1 p2 p3 p4)), .val (.ref rs0_1), .val (.ref rs0_3), .val (.ref rs0_5), .val (.ref rs0_13), .val (.ref b0_21), .val (.ref b0_38), .val (.int (((p4.toUInt32 >>> ((2 : Int32) &&& 31).toUInt32).toInt32) &&& (3 : Int32))), .val (.int (0 : Int32))] [])) t
              refine XS.aload Xhd0_65.here hx rfl (hb hby at_170) rfl rfl ?_
              show Steps p.tables e below (T0_64.setTop (mkF m 172 #[.val (.int p0), .val (.int p1), .val (.int p2), .val (.int p3), .val (.int p4), .val (.int (own_et p0 p1 p2 p3 p4)), .val (.int (own_ev p0 p1 p2 p3 p4)), .val (.ref rs0_1), .val (.ref rs0_3), .val (.ref rs0_5), .val (.ref rs0_13), .val (.ref b0_21), .val (.ref b0_38), .val (.int (((p4.toUInt32 >>> ((2 : Int32) &&& 31).toUInt32).toInt32) &&& (3 : Int32))), .val (.int (0 : Int32))] [(.ref b0_21)])) t
              refine XS.aload Xhd0_65.here hx rfl (hb hby at_172) rfl rfl ?_
              exact k
            obtain ⟨cq0_66, kq0_66, q0_66a, q0_66b, q0_66c⟩ := isOf hZ e0_64 ((E00_22.ext E0_38).keep K0_39)
            obtain ⟨_, _, ⟨T0_66, L0_66, k0_66, n0_66⟩, -, X0_66, ⟨Lc0_66, hQ0_66, l0_66, y0_66, z0_66⟩, st0_66⟩ := Xhd0_65.virtualBack hx (y := (⟨"com/example/access_decision/accessdecision/AclRight", "equals", "(Ljava/lang/Object;)Z"⟩ : MethodName)) (z := (⟨"com/example/access_decision/accessdecision/AclRight", "equals", "(Ljava/lang/Object;)Z"⟩ : MethodName)) hown (mvT hZ (hw _ (List.mem_of_getElem? (i := 89) rfl))) (mvT hZ (hw _ (List.mem_of_getElem? (i := 90) rfl))) (notFace_of_selects (args := #[]) (mvT hZ (hw _ (List.mem_of_getElem? (i := 92) rfl)))) (mvT hZ (hw _ (List.mem_of_getElem? (i := 92) rfl))) (mvT hZ (hw _ (List.mem_of_getElem? (i := 91) rfl))) (by decide) (backOf (W := 0) (rmAE_d l Z a0 hw [] b0_21 b0_38 rs0_1 rs0_3 rs0_5 rs0_13 vb0_1 vb0_3 vb0_5 vb0_13 vk0_1 vk0_3 vk0_5 vk0_13 (own_cs p0) (own_cs p1) (own_cs (own_et p0 p1 p2 p3 p4)) (own_cs (own_ev p0 p1 p2 p3 p4)) cc T0_39.heap n0 (Nat.le_trans (Nat.le_trans fc0_36 E0_38.1) K0_39.1) ((E00_22.ext E0_38).keep K0_39) fc0_45 fc0_46 E00_39 Ft0_39 Fv0_39 ((E10_22.ext E0_38).keep K0_39) fc0_47 fc0_48 fc0_41 (own_csl p0) ((E20_22.ext E0_38).keep K0_39) fc0_49 fc0_50 fc0_42 (own_csl p1) E10_39 Sv10_39 Sc10_39 fc0_43 (own_csl (own_et p0 p1 p2 p3 p4)) E20_39 Sv20_39 Sc20_39 fc0_44 (own_csl (own_ev p0 p1 p2 p3 p4)) ne_rs0_1_rs0_5 ne_rs0_3_rs0_13 fc0_40 S_c hcc) hZ (hw _ (List.mem_of_getElem? (i := 93) rfl)) (hw _ (List.mem_of_getElem? (i := 48) rfl)) (by decide) (by decide)) q0_66a q0_66c (g := (mkF m 174 #[.val (.int p0), .val (.int p1), .val (.int p2), .val (.int p3), .val (.int p4), .val (.int (own_et p0 p1 p2 p3 p4)), .val (.int (own_ev p0 p1 p2 p3 p4)), .val (.ref rs0_1), .val (.ref rs0_3), .val (.ref rs0_5), .val (.ref rs0_13), .val (.ref b0_21), .val (.ref b0_38), .val (.int (((p4.toUInt32 >>> ((2 : Int32) &&& 31).toUInt32).toInt32) &&& (3 : Int32))), .val (.int (0 : Int32))] [(.ref b0_38), (.ref b0_21)])) rfl (by rw [hml]; rfl) (Steps.refl _) (argsL := [(.ref b0_38)]) (rest := []) (lenOf pd0_2 rfl) rfl (by show 2 * 0 + _ ≤ _; exact Nat.le_of_eq rfl) (hb hby at_174) (fun _ _ => ⟨rfl, e0_64, (by decide : 18 + 0 ≤ _), (by decide : 38 + 0 ≤ _)⟩)
            dsimp only [Pt.U, Pt.locs, Pt.cells, Pt.slots] at X0_66 l0_66 y0_66 z0_66 st0_66 hQ0_66
            subst l0_66 y0_66 z0_66
            obtain ⟨rfl, N0_66q, e0_66⟩ := hQ0_66
            have N0_66 := Fr.app Nhd0_65 N0_66q
            refine own_fw (fun t k => st0_66.trans k) ?_
            obtain ⟨Lhd0_67, Xhd0_67, Nhd0_67⟩ := own_hide X0_66 N0_66
            refine own_fw (A := T0_66.setTop (mkF m 186 #[.val (.int p0), .val (.int p1), .val (.int p2), .val (.int p3), .val (.int p4), .val (.int (own_et p0 p1 p2 p3 p4)), .val (.int (own_ev p0 p1 p2 p3 p4)), .val (.ref rs0_1), .val (.ref rs0_3), .val (.ref rs0_5), .val (.ref rs0_13), .val (.ref b0_21), .val (.ref b0_38), .val (.int (((p4.toUInt32 >>> ((2 : Int32) &&& 31).toUInt32).toInt32) &&& (3 : Int32))), .val (.int (0 : Int32))] [(.ref b0_21), (.ref b0_38)])) (fun t k => ?_) ?_
            · show Steps p.tables e below (T0_66.setTop (mkF m 177 #[.val (.int p0), .val (.int p1), .val (.int p2), .val (.int p3), .val (.int p4), .val (.int (own_et p0 p1 p2 p3 p4)), .val (.int (own_ev p0 p1 p2 p3 p4)), .val (.ref rs0_1), .val (.ref rs0_3), .val (.ref rs0_5), .val (.ref rs0_13), .val (.ref b0_21), .val (.ref b0_38), .val (.int (((p4.toUInt32 >>> ((2 : Int32) &&& 31).toUInt32).toInt32) &&& (3 : Int32))), .val (.int (0 : Int32))] [(.int (f_both (own_cs p0) (own_cs p1) (own_cs (own_et p0 p1 p2 p3 p4)) (own_cs (own_ev p0 p1 p2 p3 p4))))])) t
              refine XS.iload Xhd0_67.here hx rfl (hb hby at_177) rfl ?_
              show Steps p.tables e below (T0_66.setTop (mkF m 179 #[.val (.int p0), .val (.int p1), .val (.int p2), .val (.int p3), .val (.int p4), .val (.int (own_et p0 p1 p2 p3 p4)), .val (.int (own_ev p0 p1 p2 p3 p4)), .val (.ref rs0_1), .val (.ref rs0_3), .val (.ref rs0_5), .val (.ref rs0_13), .val (.ref b0_21), .val (.ref b0_38), .val (.int (((p4.toUInt32 >>> ((2 : Int32) &&& 31).toUInt32).toInt32) &&& (3 : Int32))), .val (.int (0 : Int32))] [(.int (0 : Int32)), (.int (f_both (own_cs p0) (own_cs p1) (own_cs (own_et p0 p1 p2 p3 p4)) (own_cs (own_ev p0 p1 p2 p3 p4))))])) t
              refine XS.icmpNo Xhd0_67.here hx rfl (hb hby at_179) rfl (teq (own_law3 hc0_6 hc0_7).1).2 ?_
              show Steps p.tables e below (T0_66.setTop (mkF m 182 #[.val (.int p0), .val (.int p1), .val (.int p2), .val (.int p3), .val (.int p4), .val (.int (own_et p0 p1 p2 p3 p4)), .val (.int (own_ev p0 p1 p2 p3 p4)), .val (.ref rs0_1), .val (.ref rs0_3), .val (.ref rs0_5), .val (.ref rs0_13), .val (.ref b0_21), .val (.ref b0_38), .val (.int (((p4.toUInt32 >>> ((2 : Int32) &&& 31).toUInt32).toInt32) &&& (3 : Int32))), .val (.int (0 : Int32))] [])) t
              refine XS.aload Xhd0_67.here hx rfl (hb hby at_182) rfl rfl ?_
              show Steps p.tables e below (T0_66.setTop (mkF m 184 #[.val (.int p0), .val (.int p1), .val (.int p2), .val (.int p3), .val (.int p4), .val (.int (own_et p0 p1 p2 p3 p4)), .val (.int (own_ev p0 p1 p2 p3 p4)), .val (.ref rs0_1), .val (.ref rs0_3), .val (.ref rs0_5), .val (.ref rs0_13), .val (.ref b0_21), .val (.ref b0_38), .val (.int (((p4.toUInt32 >>> ((2 : Int32) &&& 31).toUInt32).toInt32) &&& (3 : Int32))), .val (.int (0 : Int32))] [(.ref b0_38)])) t
              refine XS.aload Xhd0_67.here hx rfl (hb hby at_184) rfl rfl ?_
              exact k
            obtain ⟨cq0_68, kq0_68, q0_68a, q0_68b, q0_68c⟩ := isOf hZ e0_66 E00_39
            obtain ⟨_, _, ⟨T0_68, L0_68, k0_68, n0_68⟩, -, X0_68, ⟨Lc0_68, hQ0_68, l0_68, y0_68, z0_68⟩, st0_68⟩ := Xhd0_67.virtualBack hx (y := (⟨"com/example/access_decision/accessdecision/AclRight", "equals", "(Ljava/lang/Object;)Z"⟩ : MethodName)) (z := (⟨"com/example/access_decision/accessdecision/AclRight", "equals", "(Ljava/lang/Object;)Z"⟩ : MethodName)) hown (mvT hZ (hw _ (List.mem_of_getElem? (i := 89) rfl))) (mvT hZ (hw _ (List.mem_of_getElem? (i := 90) rfl))) (notFace_of_selects (args := #[]) (mvT hZ (hw _ (List.mem_of_getElem? (i := 92) rfl)))) (mvT hZ (hw _ (List.mem_of_getElem? (i := 92) rfl))) (mvT hZ (hw _ (List.mem_of_getElem? (i := 91) rfl))) (by decide) (backOf (W := 0) (rmAE_d l Z a0 hw [] b0_38 b0_21 rs0_5 rs0_13 rs0_1 rs0_3 vb0_5 vb0_13 vb0_1 vb0_3 vk0_5 vk0_13 vk0_1 vk0_3 (own_cs (own_et p0 p1 p2 p3 p4)) (own_cs (own_ev p0 p1 p2 p3 p4)) (own_cs p0) (own_cs p1) cc T0_39.heap n0 (Nat.le_trans (Nat.le_trans fc0_36 E0_38.1) K0_39.1) E00_39 Ft0_39 Fv0_39 ((E00_22.ext E0_38).keep K0_39) fc0_45 fc0_46 E10_39 Sv10_39 Sc10_39 fc0_43 (own_csl (own_et p0 p1 p2 p3 p4)) E20_39 Sv20_39 Sc20_39 fc0_44 (own_csl (own_ev p0 p1 p2 p3 p4)) ((E10_22.ext E0_38).keep K0_39) fc0_47 fc0_48 fc0_41 (own_csl p0) ((E20_22.ext E0_38).keep K0_39) fc0_49 fc0_50 fc0_42 (own_csl p1) (Ne.symm ne_rs0_1_rs0_5) (Ne.symm ne_rs0_3_rs0_13) fc0_40 S_c hcc) hZ (hw _ (List.mem_of_getElem? (i := 93) rfl)) (hw _ (List.mem_of_getElem? (i := 48) rfl)) (by decide) (by decide)) q0_68a q0_68c (g := (mkF m 186 #[.val (.int p0), .val (.int p1), .val (.int p2), .val (.int p3), .val (.int p4), .val (.int (own_et p0 p1 p2 p3 p4)), .val (.int (own_ev p0 p1 p2 p3 p4)), .val (.ref rs0_1), .val (.ref rs0_3), .val (.ref rs0_5), .val (.ref rs0_13), .val (.ref b0_21), .val (.ref b0_38), .val (.int (((p4.toUInt32 >>> ((2 : Int32) &&& 31).toUInt32).toInt32) &&& (3 : Int32))), .val (.int (0 : Int32))] [(.ref b0_21), (.ref b0_38)])) rfl (by rw [hml]; rfl) (Steps.refl _) (argsL := [(.ref b0_21)]) (rest := []) (lenOf pd0_2 rfl) rfl (by show 2 * 0 + _ ≤ _; exact Nat.le_of_eq rfl) (hb hby at_186) (fun _ _ => ⟨rfl, e0_66, (by decide : 18 + 0 ≤ _), (by decide : 38 + 0 ≤ _)⟩)
            dsimp only [Pt.U, Pt.locs, Pt.cells, Pt.slots] at X0_68 l0_68 y0_68 z0_68 st0_68 hQ0_68
            subst l0_68 y0_68 z0_68
            obtain ⟨rfl, N0_68q, e0_68⟩ := hQ0_68
            have N0_68 := Fr.app Nhd0_67 N0_68q
            refine own_fw (fun t k => st0_68.trans k) ?_
            obtain ⟨Lhd0_69, Xhd0_69, Nhd0_69⟩ := own_hide X0_68 N0_68
            refine own_fw (A := T0_68.setTop (mkF m 199 #[.val (.int p0), .val (.int p1), .val (.int p2), .val (.int p3), .val (.int p4), .val (.int (own_et p0 p1 p2 p3 p4)), .val (.int (own_ev p0 p1 p2 p3 p4)), .val (.ref rs0_1), .val (.ref rs0_3), .val (.ref rs0_5), .val (.ref rs0_13), .val (.ref b0_21), .val (.ref b0_38), .val (.int (((p4.toUInt32 >>> ((2 : Int32) &&& 31).toUInt32).toInt32) &&& (3 : Int32))), .val (.int (0 : Int32))] [(.int (1 : Int32))])) (fun t k => ?_) ?_
            · show Steps p.tables e below (T0_68.setTop (mkF m 189 #[.val (.int p0), .val (.int p1), .val (.int p2), .val (.int p3), .val (.int p4), .val (.int (own_et p0 p1 p2 p3 p4)), .val (.int (own_ev p0 p1 p2 p3 p4)), .val (.ref rs0_1), .val (.ref rs0_3), .val (.ref rs0_5), .val (.ref rs0_13), .val (.ref b0_21), .val (.ref b0_38), .val (.int (((p4.toUInt32 >>> ((2 : Int32) &&& 31).toUInt32).toInt32) &&& (3 : Int32))), .val (.int (0 : Int32))] [(.int (f_both (own_cs (own_et p0 p1 p2 p3 p4)) (own_cs (own_ev p0 p1 p2 p3 p4)) (own_cs p0) (own_cs p1)))])) t
              refine XS.iload Xhd0_69.here hx rfl (hb hby at_189) rfl ?_
              show Steps p.tables e below (T0_68.setTop (mkF m 191 #[.val (.int p0), .val (.int p1), .val (.int p2), .val (.int p3), .val (.int p4), .val (.int (own_et p0 p1 p2 p3 p4)), .val (.int (own_ev p0 p1 p2 p3 p4)), .val (.ref rs0_1), .val (.ref rs0_3), .val (.ref rs0_5), .val (.ref rs0_13), .val (.ref b0_21), .val (.ref b0_38), .val (.int (((p4.toUInt32 >>> ((2 : Int32) &&& 31).toUInt32).toInt32) &&& (3 : Int32))), .val (.int (0 : Int32))] [(.int (0 : Int32)), (.int (f_both (own_cs (own_et p0 p1 p2 p3 p4)) (own_cs (own_ev p0 p1 p2 p3 p4)) (own_cs p0) (own_cs p1)))])) t
              refine XS.icmpNo Xhd0_69.here hx rfl (hb hby at_191) rfl (teq (own_law3 hc0_6 hc0_7).2).2 ?_
              show Steps p.tables e below (T0_68.setTop (mkF m 194 #[.val (.int p0), .val (.int p1), .val (.int p2), .val (.int p3), .val (.int p4), .val (.int (own_et p0 p1 p2 p3 p4)), .val (.int (own_ev p0 p1 p2 p3 p4)), .val (.ref rs0_1), .val (.ref rs0_3), .val (.ref rs0_5), .val (.ref rs0_13), .val (.ref b0_21), .val (.ref b0_38), .val (.int (((p4.toUInt32 >>> ((2 : Int32) &&& 31).toUInt32).toInt32) &&& (3 : Int32))), .val (.int (0 : Int32))] [])) t
              refine XS.iconst Xhd0_69.here hx rfl (hb hby at_194) ?_
              show Steps p.tables e below (T0_68.setTop (mkF m 195 #[.val (.int p0), .val (.int p1), .val (.int p2), .val (.int p3), .val (.int p4), .val (.int (own_et p0 p1 p2 p3 p4)), .val (.int (own_ev p0 p1 p2 p3 p4)), .val (.ref rs0_1), .val (.ref rs0_3), .val (.ref rs0_5), .val (.ref rs0_13), .val (.ref b0_21), .val (.ref b0_38), .val (.int (((p4.toUInt32 >>> ((2 : Int32) &&& 31).toUInt32).toInt32) &&& (3 : Int32))), .val (.int (0 : Int32))] [(.int (1 : Int32))])) t
              refine XS.goto Xhd0_69.here hx rfl (pc0 := 195) (pc' := 199) rfl (hb hby at_195) (by decide) (by decide) ?_
              exact k
            obtain ⟨fs, hr, hrun, hended, hEnd⟩ := Stand.leaveW (s := s) (vm₁ := T0_13.vm) Xhd0_69 hS0_13 (show _ ≤ T0_68.heap.size by rw [e0_68]; exact (Nat.le_trans (Nat.le_trans (Nat.le_trans (Nat.le_trans (Nat.le_refl _) E0_21.1) K0_22.1) E0_38.1) K0_39.1)) (v := some (.int (nar .boolean (1 : Int32)))) (own_ret Bd.returns) (BodyLoose.notSynchronized Bd)
            refine ⟨_, _, retN Xhd0_69 hx (t := .boolean) Bd.returns (by simp) (hb hby at_199) hr, hrun, hended, _, _, rfl, ?_, own_monoW hEnd (by decide) (by decide)⟩
            have eh : (T0_68.setFrames fs).heap = T0_39.heap := e0_68
            rw [eh]
            exact ⟨rfl, Nhd0_69⟩
          · refine own_fw (A := T0_64.setTop (mkF m 163 #[.val (.int p0), .val (.int p1), .val (.int p2), .val (.int p3), .val (.int p4), .val (.int (own_et p0 p1 p2 p3 p4)), .val (.int (own_ev p0 p1 p2 p3 p4)), .val (.ref rs0_1), .val (.ref rs0_3), .val (.ref rs0_5), .val (.ref rs0_13), .val (.ref b0_21), .val (.ref b0_38), .val (.int (((p4.toUInt32 >>> ((2 : Int32) &&& 31).toUInt32).toInt32) &&& (3 : Int32))), .unset] [])) (fun t k => ?_) ?_
            · show Steps p.tables e below (T0_64.setTop (mkF m 160 #[.val (.int p0), .val (.int p1), .val (.int p2), .val (.int p3), .val (.int p4), .val (.int (own_et p0 p1 p2 p3 p4)), .val (.int (own_ev p0 p1 p2 p3 p4)), .val (.ref rs0_1), .val (.ref rs0_3), .val (.ref rs0_5), .val (.ref rs0_13), .val (.ref b0_21), .val (.ref b0_38), .val (.int (((p4.toUInt32 >>> ((2 : Int32) &&& 31).toUInt32).toInt32) &&& (3 : Int32))), .unset] [(.int (f_same p1 (own_ev p0 p1 p2 p3 p4)))])) t
              refine XS.ifNo Xhd0_65.here hx rfl (hb hby at_160) rfl ((if0 _ _).trans (feq hc0_7).1) ?_
              exact k
            refine own_fw (A := T0_64.setTop (mkF m 174 #[.val (.int p0), .val (.int p1), .val (.int p2), .val (.int p3), .val (.int p4), .val (.int (own_et p0 p1 p2 p3 p4)), .val (.int (own_ev p0 p1 p2 p3 p4)), .val (.ref rs0_1), .val (.ref rs0_3), .val (.ref rs0_5), .val (.ref rs0_13), .val (.ref b0_21), .val (.ref b0_38), .val (.int (((p4.toUInt32 >>> ((2 : Int32) &&& 31).toUInt32).toInt32) &&& (3 : Int32))), .val (.int (1 : Int32))] [(.ref b0_38), (.ref b0_21)])) (fun t k => ?_) ?_
            · show Steps p.tables e below (T0_64.setTop (mkF m 163 #[.val (.int p0), .val (.int p1), .val (.int p2), .val (.int p3), .val (.int p4), .val (.int (own_et p0 p1 p2 p3 p4)), .val (.int (own_ev p0 p1 p2 p3 p4)), .val (.ref rs0_1), .val (.ref rs0_3), .val (.ref rs0_5), .val (.ref rs0_13), .val (.ref b0_21), .val (.ref b0_38), .val (.int (((p4.toUInt32 >>> ((2 : Int32) &&& 31).toUInt32).toInt32) &&& (3 : Int32))), .unset] [])) t
              refine XS.iconst Xhd0_65.here hx rfl (hb hby at_163) ?_
              show Steps p.tables e below (T0_64.setTop (mkF m 164 #[.val (.int p0), .val (.int p1), .val (.int p2), .val (.int p3), .val (.int p4), .val (.int (own_et p0 p1 p2 p3 p4)), .val (.int (own_ev p0 p1 p2 p3 p4)), .val (.ref rs0_1), .val (.ref rs0_3), .val (.ref rs0_5), .val (.ref rs0_13), .val (.ref b0_21), .val (.ref b0_38), .val (.int (((p4.toUInt32 >>> ((2 : Int32) &&& 31).toUInt32).toInt32) &&& (3 : Int32))), .unset] [(.int (1 : Int32))])) t
              refine XS.goto Xhd0_65.here hx rfl (pc0 := 164) (pc' := 168) rfl (hb hby at_164) (by decide) (by decide) ?_
              show Steps p.tables e below (T0_64.setTop (mkF m 168 #[.val (.int p0), .val (.int p1), .val (.int p2), .val (.int p3), .val (.int p4), .val (.int (own_et p0 p1 p2 p3 p4)), .val (.int (own_ev p0 p1 p2 p3 p4)), .val (.ref rs0_1), .val (.ref rs0_3), .val (.ref rs0_5), .val (.ref rs0_13), .val (.ref b0_21), .val (.ref b0_38), .val (.int (((p4.toUInt32 >>> ((2 : Int32) &&& 31).toUInt32).toInt32) &&& (3 : Int32))), .unset] [(.int (1 : Int32))])) t
              refine XS.istore Xhd0_65.here hx rfl (hb hby at_168) rfl (l' := #[.val (.int p0), .val (.int p1), .val (.int p2), .val (.int p3), .val (.int p4), .val (.int (own_et p0 p1 p2 p3 p4)), .val (.int (own_ev p0 p1 p2 p3 p4)), .val (.ref rs0_1), .val (.ref rs0_3), .val (.ref rs0_5), .val (.ref rs0_13), .val (.ref b0_21), .val (.ref b0_38), .val (.int (((p4.toUInt32 >>> ((2 : Int32) &&& 31).toUInt32).toInt32) &&& (3 : Int32))), .val (.int (1 : Int32))]) rfl ?_
              show Steps p.tables e below (T0_64.setTop (mkF m 170 #[.val (.int p0), .val (.int p1), .val (.int p2), .val (.int p3), .val (.int p4), .val (.int (own_et p0 p1 p2 p3 p4)), .val (.int (own_ev p0 p1 p2 p3 p4)), .val (.ref rs0_1), .val (.ref rs0_3), .val (.ref rs0_5), .val (.ref rs0_13), .val (.ref b0_21), .val (.ref b0_38), .val (.int (((p4.toUInt32 >>> ((2 : Int32) &&& 31).toUInt32).toInt32) &&& (3 : Int32))), .val (.int (1 : Int32))] [])) t
              refine XS.aload Xhd0_65.here hx rfl (hb hby at_170) rfl rfl ?_
              show Steps p.tables e below (T0_64.setTop (mkF m 172 #[.val (.int p0), .val (.int p1), .val (.int p2), .val (.int p3), .val (.int p4), .val (.int (own_et p0 p1 p2 p3 p4)), .val (.int (own_ev p0 p1 p2 p3 p4)), .val (.ref rs0_1), .val (.ref rs0_3), .val (.ref rs0_5), .val (.ref rs0_13), .val (.ref b0_21), .val (.ref b0_38), .val (.int (((p4.toUInt32 >>> ((2 : Int32) &&& 31).toUInt32).toInt32) &&& (3 : Int32))), .val (.int (1 : Int32))] [(.ref b0_21)])) t
              refine XS.aload Xhd0_65.here hx rfl (hb hby at_172) rfl rfl ?_
              exact k
            obtain ⟨cq0_70, kq0_70, q0_70a, q0_70b, q0_70c⟩ := isOf hZ e0_64 ((E00_22.ext E0_38).keep K0_39)
            obtain ⟨_, _, ⟨T0_70, L0_70, k0_70, n0_70⟩, -, X0_70, ⟨Lc0_70, hQ0_70, l0_70, y0_70, z0_70⟩, st0_70⟩ := Xhd0_65.virtualBack hx (y := (⟨"com/example/access_decision/accessdecision/AclRight", "equals", "(Ljava/lang/Object;)Z"⟩ : MethodName)) (z := (⟨"com/example/access_decision/accessdecision/AclRight", "equals", "(Ljava/lang/Object;)Z"⟩ : MethodName)) hown (mvT hZ (hw _ (List.mem_of_getElem? (i := 89) rfl))) (mvT hZ (hw _ (List.mem_of_getElem? (i := 90) rfl))) (notFace_of_selects (args := #[]) (mvT hZ (hw _ (List.mem_of_getElem? (i := 92) rfl)))) (mvT hZ (hw _ (List.mem_of_getElem? (i := 92) rfl))) (mvT hZ (hw _ (List.mem_of_getElem? (i := 91) rfl))) (by decide) (backOf (W := 0) (rmAE_d l Z a0 hw [] b0_21 b0_38 rs0_1 rs0_3 rs0_5 rs0_13 vb0_1 vb0_3 vb0_5 vb0_13 vk0_1 vk0_3 vk0_5 vk0_13 (own_cs p0) (own_cs p1) (own_cs (own_et p0 p1 p2 p3 p4)) (own_cs (own_ev p0 p1 p2 p3 p4)) cc T0_39.heap n0 (Nat.le_trans (Nat.le_trans fc0_36 E0_38.1) K0_39.1) ((E00_22.ext E0_38).keep K0_39) fc0_45 fc0_46 E00_39 Ft0_39 Fv0_39 ((E10_22.ext E0_38).keep K0_39) fc0_47 fc0_48 fc0_41 (own_csl p0) ((E20_22.ext E0_38).keep K0_39) fc0_49 fc0_50 fc0_42 (own_csl p1) E10_39 Sv10_39 Sc10_39 fc0_43 (own_csl (own_et p0 p1 p2 p3 p4)) E20_39 Sv20_39 Sc20_39 fc0_44 (own_csl (own_ev p0 p1 p2 p3 p4)) ne_rs0_1_rs0_5 ne_rs0_3_rs0_13 fc0_40 S_c hcc) hZ (hw _ (List.mem_of_getElem? (i := 93) rfl)) (hw _ (List.mem_of_getElem? (i := 48) rfl)) (by decide) (by decide)) q0_70a q0_70c (g := (mkF m 174 #[.val (.int p0), .val (.int p1), .val (.int p2), .val (.int p3), .val (.int p4), .val (.int (own_et p0 p1 p2 p3 p4)), .val (.int (own_ev p0 p1 p2 p3 p4)), .val (.ref rs0_1), .val (.ref rs0_3), .val (.ref rs0_5), .val (.ref rs0_13), .val (.ref b0_21), .val (.ref b0_38), .val (.int (((p4.toUInt32 >>> ((2 : Int32) &&& 31).toUInt32).toInt32) &&& (3 : Int32))), .val (.int (1 : Int32))] [(.ref b0_38), (.ref b0_21)])) rfl (by rw [hml]; rfl) (Steps.refl _) (argsL := [(.ref b0_38)]) (rest := []) (lenOf pd0_2 rfl) rfl (by show 2 * 0 + _ ≤ _; exact Nat.le_of_eq rfl) (hb hby at_174) (fun _ _ => ⟨rfl, e0_64, (by decide : 18 + 0 ≤ _), (by decide : 38 + 0 ≤ _)⟩)
            dsimp only [Pt.U, Pt.locs, Pt.cells, Pt.slots] at X0_70 l0_70 y0_70 z0_70 st0_70 hQ0_70
            subst l0_70 y0_70 z0_70
            obtain ⟨rfl, N0_70q, e0_70⟩ := hQ0_70
            have N0_70 := Fr.app Nhd0_65 N0_70q
            refine own_fw (fun t k => st0_70.trans k) ?_
            obtain ⟨Lhd0_71, Xhd0_71, Nhd0_71⟩ := own_hide X0_70 N0_70
            refine own_fw (A := T0_70.setTop (mkF m 186 #[.val (.int p0), .val (.int p1), .val (.int p2), .val (.int p3), .val (.int p4), .val (.int (own_et p0 p1 p2 p3 p4)), .val (.int (own_ev p0 p1 p2 p3 p4)), .val (.ref rs0_1), .val (.ref rs0_3), .val (.ref rs0_5), .val (.ref rs0_13), .val (.ref b0_21), .val (.ref b0_38), .val (.int (((p4.toUInt32 >>> ((2 : Int32) &&& 31).toUInt32).toInt32) &&& (3 : Int32))), .val (.int (1 : Int32))] [(.ref b0_21), (.ref b0_38)])) (fun t k => ?_) ?_
            · show Steps p.tables e below (T0_70.setTop (mkF m 177 #[.val (.int p0), .val (.int p1), .val (.int p2), .val (.int p3), .val (.int p4), .val (.int (own_et p0 p1 p2 p3 p4)), .val (.int (own_ev p0 p1 p2 p3 p4)), .val (.ref rs0_1), .val (.ref rs0_3), .val (.ref rs0_5), .val (.ref rs0_13), .val (.ref b0_21), .val (.ref b0_38), .val (.int (((p4.toUInt32 >>> ((2 : Int32) &&& 31).toUInt32).toInt32) &&& (3 : Int32))), .val (.int (1 : Int32))] [(.int (f_both (own_cs p0) (own_cs p1) (own_cs (own_et p0 p1 p2 p3 p4)) (own_cs (own_ev p0 p1 p2 p3 p4))))])) t
              refine XS.iload Xhd0_71.here hx rfl (hb hby at_177) rfl ?_
              show Steps p.tables e below (T0_70.setTop (mkF m 179 #[.val (.int p0), .val (.int p1), .val (.int p2), .val (.int p3), .val (.int p4), .val (.int (own_et p0 p1 p2 p3 p4)), .val (.int (own_ev p0 p1 p2 p3 p4)), .val (.ref rs0_1), .val (.ref rs0_3), .val (.ref rs0_5), .val (.ref rs0_13), .val (.ref b0_21), .val (.ref b0_38), .val (.int (((p4.toUInt32 >>> ((2 : Int32) &&& 31).toUInt32).toInt32) &&& (3 : Int32))), .val (.int (1 : Int32))] [(.int (1 : Int32)), (.int (f_both (own_cs p0) (own_cs p1) (own_cs (own_et p0 p1 p2 p3 p4)) (own_cs (own_ev p0 p1 p2 p3 p4))))])) t
              refine XS.icmpNo Xhd0_71.here hx rfl (hb hby at_179) rfl (teq (own_law1 hc0_6 hc0_7).1).2 ?_
              show Steps p.tables e below (T0_70.setTop (mkF m 182 #[.val (.int p0), .val (.int p1), .val (.int p2), .val (.int p3), .val (.int p4), .val (.int (own_et p0 p1 p2 p3 p4)), .val (.int (own_ev p0 p1 p2 p3 p4)), .val (.ref rs0_1), .val (.ref rs0_3), .val (.ref rs0_5), .val (.ref rs0_13), .val (.ref b0_21), .val (.ref b0_38), .val (.int (((p4.toUInt32 >>> ((2 : Int32) &&& 31).toUInt32).toInt32) &&& (3 : Int32))), .val (.int (1 : Int32))] [])) t
              refine XS.aload Xhd0_71.here hx rfl (hb hby at_182) rfl rfl ?_
              show Steps p.tables e below (T0_70.setTop (mkF m 184 #[.val (.int p0), .val (.int p1), .val (.int p2), .val (.int p3), .val (.int p4), .val (.int (own_et p0 p1 p2 p3 p4)), .val (.int (own_ev p0 p1 p2 p3 p4)), .val (.ref rs0_1), .val (.ref rs0_3), .val (.ref rs0_5), .val (.ref rs0_13), .val (.ref b0_21), .val (.ref b0_38), .val (.int (((p4.toUInt32 >>> ((2 : Int32) &&& 31).toUInt32).toInt32) &&& (3 : Int32))), .val (.int (1 : Int32))] [(.ref b0_38)])) t
              refine XS.aload Xhd0_71.here hx rfl (hb hby at_184) rfl rfl ?_
              exact k
            obtain ⟨cq0_72, kq0_72, q0_72a, q0_72b, q0_72c⟩ := isOf hZ e0_70 E00_39
            obtain ⟨_, _, ⟨T0_72, L0_72, k0_72, n0_72⟩, -, X0_72, ⟨Lc0_72, hQ0_72, l0_72, y0_72, z0_72⟩, st0_72⟩ := Xhd0_71.virtualBack hx (y := (⟨"com/example/access_decision/accessdecision/AclRight", "equals", "(Ljava/lang/Object;)Z"⟩ : MethodName)) (z := (⟨"com/example/access_decision/accessdecision/AclRight", "equals", "(Ljava/lang/Object;)Z"⟩ : MethodName)) hown (mvT hZ (hw _ (List.mem_of_getElem? (i := 89) rfl))) (mvT hZ (hw _ (List.mem_of_getElem? (i := 90) rfl))) (notFace_of_selects (args := #[]) (mvT hZ (hw _ (List.mem_of_getElem? (i := 92) rfl)))) (mvT hZ (hw _ (List.mem_of_getElem? (i := 92) rfl))) (mvT hZ (hw _ (List.mem_of_getElem? (i := 91) rfl))) (by decide) (backOf (W := 0) (rmAE_d l Z a0 hw [] b0_38 b0_21 rs0_5 rs0_13 rs0_1 rs0_3 vb0_5 vb0_13 vb0_1 vb0_3 vk0_5 vk0_13 vk0_1 vk0_3 (own_cs (own_et p0 p1 p2 p3 p4)) (own_cs (own_ev p0 p1 p2 p3 p4)) (own_cs p0) (own_cs p1) cc T0_39.heap n0 (Nat.le_trans (Nat.le_trans fc0_36 E0_38.1) K0_39.1) E00_39 Ft0_39 Fv0_39 ((E00_22.ext E0_38).keep K0_39) fc0_45 fc0_46 E10_39 Sv10_39 Sc10_39 fc0_43 (own_csl (own_et p0 p1 p2 p3 p4)) E20_39 Sv20_39 Sc20_39 fc0_44 (own_csl (own_ev p0 p1 p2 p3 p4)) ((E10_22.ext E0_38).keep K0_39) fc0_47 fc0_48 fc0_41 (own_csl p0) ((E20_22.ext E0_38).keep K0_39) fc0_49 fc0_50 fc0_42 (own_csl p1) (Ne.symm ne_rs0_1_rs0_5) (Ne.symm ne_rs0_3_rs0_13) fc0_40 S_c hcc) hZ (hw _ (List.mem_of_getElem? (i := 93) rfl)) (hw _ (List.mem_of_getElem? (i := 48) rfl)) (by decide) (by decide)) q0_72a q0_72c (g := (mkF m 186 #[.val (.int p0), .val (.int p1), .val (.int p2), .val (.int p3), .val (.int p4), .val (.int (own_et p0 p1 p2 p3 p4)), .val (.int (own_ev p0 p1 p2 p3 p4)), .val (.ref rs0_1), .val (.ref rs0_3), .val (.ref rs0_5), .val (.ref rs0_13), .val (.ref b0_21), .val (.ref b0_38), .val (.int (((p4.toUInt32 >>> ((2 : Int32) &&& 31).toUInt32).toInt32) &&& (3 : Int32))), .val (.int (1 : Int32))] [(.ref b0_21), (.ref b0_38)])) rfl (by rw [hml]; rfl) (Steps.refl _) (argsL := [(.ref b0_21)]) (rest := []) (lenOf pd0_2 rfl) rfl (by show 2 * 0 + _ ≤ _; exact Nat.le_of_eq rfl) (hb hby at_186) (fun _ _ => ⟨rfl, e0_70, (by decide : 18 + 0 ≤ _), (by decide : 38 + 0 ≤ _)⟩)
            dsimp only [Pt.U, Pt.locs, Pt.cells, Pt.slots] at X0_72 l0_72 y0_72 z0_72 st0_72 hQ0_72
            subst l0_72 y0_72 z0_72
            obtain ⟨rfl, N0_72q, e0_72⟩ := hQ0_72
            have N0_72 := Fr.app Nhd0_71 N0_72q
            refine own_fw (fun t k => st0_72.trans k) ?_
            obtain ⟨Lhd0_73, Xhd0_73, Nhd0_73⟩ := own_hide X0_72 N0_72
            refine own_fw (A := T0_72.setTop (mkF m 199 #[.val (.int p0), .val (.int p1), .val (.int p2), .val (.int p3), .val (.int p4), .val (.int (own_et p0 p1 p2 p3 p4)), .val (.int (own_ev p0 p1 p2 p3 p4)), .val (.ref rs0_1), .val (.ref rs0_3), .val (.ref rs0_5), .val (.ref rs0_13), .val (.ref b0_21), .val (.ref b0_38), .val (.int (((p4.toUInt32 >>> ((2 : Int32) &&& 31).toUInt32).toInt32) &&& (3 : Int32))), .val (.int (1 : Int32))] [(.int (1 : Int32))])) (fun t k => ?_) ?_
            · show Steps p.tables e below (T0_72.setTop (mkF m 189 #[.val (.int p0), .val (.int p1), .val (.int p2), .val (.int p3), .val (.int p4), .val (.int (own_et p0 p1 p2 p3 p4)), .val (.int (own_ev p0 p1 p2 p3 p4)), .val (.ref rs0_1), .val (.ref rs0_3), .val (.ref rs0_5), .val (.ref rs0_13), .val (.ref b0_21), .val (.ref b0_38), .val (.int (((p4.toUInt32 >>> ((2 : Int32) &&& 31).toUInt32).toInt32) &&& (3 : Int32))), .val (.int (1 : Int32))] [(.int (f_both (own_cs (own_et p0 p1 p2 p3 p4)) (own_cs (own_ev p0 p1 p2 p3 p4)) (own_cs p0) (own_cs p1)))])) t
              refine XS.iload Xhd0_73.here hx rfl (hb hby at_189) rfl ?_
              show Steps p.tables e below (T0_72.setTop (mkF m 191 #[.val (.int p0), .val (.int p1), .val (.int p2), .val (.int p3), .val (.int p4), .val (.int (own_et p0 p1 p2 p3 p4)), .val (.int (own_ev p0 p1 p2 p3 p4)), .val (.ref rs0_1), .val (.ref rs0_3), .val (.ref rs0_5), .val (.ref rs0_13), .val (.ref b0_21), .val (.ref b0_38), .val (.int (((p4.toUInt32 >>> ((2 : Int32) &&& 31).toUInt32).toInt32) &&& (3 : Int32))), .val (.int (1 : Int32))] [(.int (1 : Int32)), (.int (f_both (own_cs (own_et p0 p1 p2 p3 p4)) (own_cs (own_ev p0 p1 p2 p3 p4)) (own_cs p0) (own_cs p1)))])) t
              refine XS.icmpNo Xhd0_73.here hx rfl (hb hby at_191) rfl (teq (own_law1 hc0_6 hc0_7).2).2 ?_
              show Steps p.tables e below (T0_72.setTop (mkF m 194 #[.val (.int p0), .val (.int p1), .val (.int p2), .val (.int p3), .val (.int p4), .val (.int (own_et p0 p1 p2 p3 p4)), .val (.int (own_ev p0 p1 p2 p3 p4)), .val (.ref rs0_1), .val (.ref rs0_3), .val (.ref rs0_5), .val (.ref rs0_13), .val (.ref b0_21), .val (.ref b0_38), .val (.int (((p4.toUInt32 >>> ((2 : Int32) &&& 31).toUInt32).toInt32) &&& (3 : Int32))), .val (.int (1 : Int32))] [])) t
              refine XS.iconst Xhd0_73.here hx rfl (hb hby at_194) ?_
              show Steps p.tables e below (T0_72.setTop (mkF m 195 #[.val (.int p0), .val (.int p1), .val (.int p2), .val (.int p3), .val (.int p4), .val (.int (own_et p0 p1 p2 p3 p4)), .val (.int (own_ev p0 p1 p2 p3 p4)), .val (.ref rs0_1), .val (.ref rs0_3), .val (.ref rs0_5), .val (.ref rs0_13), .val (.ref b0_21), .val (.ref b0_38), .val (.int (((p4.toUInt32 >>> ((2 : Int32) &&& 31).toUInt32).toInt32) &&& (3 : Int32))), .val (.int (1 : Int32))] [(.int (1 : Int32))])) t
              refine XS.goto Xhd0_73.here hx rfl (pc0 := 195) (pc' := 199) rfl (hb hby at_195) (by decide) (by decide) ?_
              exact k
            obtain ⟨fs, hr, hrun, hended, hEnd⟩ := Stand.leaveW (s := s) (vm₁ := T0_13.vm) Xhd0_73 hS0_13 (show _ ≤ T0_72.heap.size by rw [e0_72]; exact (Nat.le_trans (Nat.le_trans (Nat.le_trans (Nat.le_trans (Nat.le_refl _) E0_21.1) K0_22.1) E0_38.1) K0_39.1)) (v := some (.int (nar .boolean (1 : Int32)))) (own_ret Bd.returns) (BodyLoose.notSynchronized Bd)
            refine ⟨_, _, retN Xhd0_73 hx (t := .boolean) Bd.returns (by simp) (hb hby at_199) hr, hrun, hended, _, _, rfl, ?_, own_monoW hEnd (by decide) (by decide)⟩
            have eh : (T0_72.setFrames fs).heap = T0_39.heap := e0_72
            rw [eh]
            exact ⟨rfl, Nhd0_73⟩
set_option maxRecDepth 65536 in
set_option maxHeartbeats 40000000 in
theorem comes_1 {Post : Tables → Env → Array Value → State → Outcome → State → Prop} (hpost : ∀ tb e args s v u, (limb_1_1.after args s (.returned v) u = true ∧ limb_1_2.after args s (.returned v) u = true ∧ True) → ReturnedEndW s (.returned v) u (Jvm.fieldLocs frame_1_writes args s ++ Jvm.arrayLocs frame_1_arrays args s ++ Jvm.staticLocs frame_1_statics s) 40 1216 → Post tb e args s (.returned v) u) :
    ArmFor flags0 classFile x code maxLocals ret World_1 tables_1 room_1 Calls_1 rest_1 Pre_1 Post := by
  intro l hfl _ _ p e ha hc hk s m args below hf hA hF happ hP
  obtain ⟨hcalls, hrest, hpre⟩ := hP
  obtain ⟨-, -, -, hnamed, -, -, -, hat⟩ := (Spec.applies_iff hf).mp happ
  obtain ⟨hg, hn⟩ := and_e (Cond.before_iff.mp (show (Jvm.Cond.and given_1 narrow_1).before args s = true from hpre))
  obtain ⟨g1, g2⟩ := and_e hg
  obtain ⟨ga0, gb0⟩ := and_e g2
  obtain ⟨ga1, gb1⟩ := and_e gb0
  obtain ⟨ga2, gb2⟩ := and_e gb1
  obtain ⟨ga3, gb3⟩ := and_e gb2
  obtain ⟨w0, w1, w2, w3, w4, rfl⟩ : ∃ w0 w1 w2 w3 w4 : Value, args = #[w0, w1, w2, w3, w4] := by
    have hs : args.size = 5 := by simpa [Cond.value, given_1] using g1
    obtain ⟨L⟩ := args
    match L, hs with
    | [w0, w1, w2, w3, w4], _ => exact ⟨w0, w1, w2, w3, w4, rfl⟩
  have hw := fun d (hd : d ∈ tables_1) => atoms_spec (ws := Jvm.Cond.code x code maxLocals ret :: tables_1) hat d (List.mem_cons_of_mem _ hd)
  have hfit : Fit s := fun {y c} hc i hi => by
    obtain ⟨ha, rfl⟩ := Array.getElem?_eq_some_iff.mp hc
    have q := List.all_eq_true.mp ((Array.all_eq_true_iff_forall_mem.mp hF) _ (Array.getElem_mem ha)) i (List.mem_range.mpr hi)
    simpa [Array.getElem?_eq_getElem hi] using q
  obtain ⟨i0, ei0⟩ := is_v ga0
  obtain rfl : w0 = (.int i0) := Option.some.inj ei0
  obtain ⟨i1, ei1⟩ := is_v ga1
  obtain rfl : w1 = (.int i1) := Option.some.inj ei1
  obtain ⟨i2, ei2⟩ := is_v ga2
  obtain rfl : w2 = (.int i2) := Option.some.inj ei2
  obtain ⟨i3, ei3⟩ := is_v ga3
  obtain rfl : w3 = (.int i3) := Option.some.inj ei3
  obtain ⟨i4, ei4⟩ := is_v gb3
  obtain rfl : w4 = (.int i4) := Option.some.inj ei4
  obtain ⟨hsets, hown0⟩ := atoms_of _ (rest_1_c_eq ▸ (show rest_1_c.before _ s = true from hrest))
  obtain ⟨cc, ev1⟩ := is_v (Cond.before_iff.mp (hsets _ (List.mem_of_getElem? (i := 1) rfl)))
  have S_c := Sta.start ev1 (Or.inl (hsets _ (List.mem_of_getElem? (i := 0) rfl)))
  have hcw := (hsets _ (List.mem_of_getElem? (i := 2) rfl))
  have hcc : ¬ cc = (0 : Int32) := fun q => by
    have h1 := not_v (Cond.before_iff.mp hcw)
    have h2 := eq_i ev1 (Term.int_eval (0)) (by rw [q])
    rw [h2] at h1
    cases h1
  have hch : Jvm.Lit.constHeld s "java/lang/String" 7 := hcalls.1 ("java/lang/String", 7) (List.mem_singleton.mpr rfl)
  obtain ⟨n, o, h1, h2, h3, _, L, rfl, ⟨rfl, N⟩, hq⟩ := rm0 l s _ hw tables_1 i0 i1 i2 i3 i4 cc s.heap s.heap.size (Nat.le_refl _) (Old.start s) S_c hcc hch hcw p e ha hc hk s m _ below hf ((Spec.applies_iff_loose hf).mp happ).1 ⟨rfl, State.Warmed39.refl s, rfl, Or.inl IB.start⟩ trivial
  refine ⟨n, _, h1, h2, h3, hpost _ _ _ _ _ _ ⟨Cond.after_iff.mpr rfl, Cond.after_iff.mpr (eq_i res_at (Term.int_eval (1)) rfl), trivial⟩ ⟨hq.1, hq.2.1, hq.2.2.1, (hq.2.2.2.sift fun y hy => Or.inr (N y hy)).mono (by decide) (by decide)⟩⟩
theorem main_1_1 : Claimed_1_1 := comes_1 fun _ _ _ _ _ _ h hF => ⟨h.1, hF⟩
theorem main_1_2 : Claimed_1_2 := comes_1 fun _ _ _ _ _ _ h hF => ⟨h.2.1, hF⟩
end Jvm.Pilot.@@N@@
namespace Jvm.Pilot.@@N@@
open Jvm Jvm.ClassFile Sem Op Lib Jvm.Free Jvm.Stand Jvm.Pilot.@@N@@.Jvm.D
/-! MADE BY PROGRAM (witnessworld.py) out of the Statement's table words and the real class files: 20 classes; the members and pool entries that the words name. The judged class is class 1, her method 6. -/
namespace start1
open Jvm.ClassFile
def u (s : String) : CpInfo := .utf8 (stringToUtf16 s)
/-- a pool by its gaps: so many unusable entries, then the entry; so many at the end -/
def gap : Nat → List CpInfo → List CpInfo
  | 0, r => r
  | n + 1, r => .unusable :: gap n r
def poolList (es : List (Nat × CpInfo)) (last : Nat) : List CpInfo := es.foldr (fun e r => gap e.1 (e.2 :: r)) (gap last [])
def pool (es : List (Nat × CpInfo)) (last : Nat) : Array CpInfo := ⟨poolList es last⟩
def fileOf (pool : Array CpInfo) (this : Nat) (attrs : Array Attribute := #[]) (ms : Array MethodInfo := #[]) (fl : Nat := 33) (sup : Nat := 0) (ifs : Array Nat := #[]) (fds : Array FieldInfo := #[]) : ClassFile where
  minorVersion := 0
  majorVersion := 65
  constantPool := pool
  accessFlags := fl
  thisClass := this
  superClass := sup
  interfaces := ifs
  fields := fds
  methods := ms
  attributes := attrs
def plain (name : String) (sup : Option ClassId) : Class where
  name := name
  kind := .ordinary
  loader := none
  accessFlags := 33
  super := sup
  interfaces := #[]
  cf := none
  fields := #[]
  methods := #[]
  instanceTypes := #[]
  staticTypes := #[]
  resolved := #[]
  callSites := []
  init := .initialized
  statics := none
  mirror := none

def pool0 : Array CpInfo := pool [(5, u "<init>"), (0, u "()V"), (1, .class_ 10), (1, u "java/lang/Object")] 113

def k0c0 : Code := { maxStack := 0, maxLocals := 1, code := object_method_1_code, exceptionTable := #[], attributes := #[] }
def k0m0 : Method := { name := "<init>", desc := "()V", sig := { parameters := [], returnType := none }, accessFlags := 1, code := some k0c0 }
/-- java/lang/Object -/
def k0 : Class := { plain "java/lang/Object" none with
  accessFlags := 33
  interfaces := #[]
  cf := some (fileOf pool0 8 #[] #[{ accessFlags := 1, nameIndex := 5, descriptorIndex := 6, attributes := #[] }] 33 0 #[] #[])
  fields := #[]
  methods := #[k0m0]
  instanceTypes := #[]
  staticTypes := #[]
  resolved := Array.replicate 124 none
  statics := none }

def pool1 : Array CpInfo := pool [(2, .class_ 4), (1, u "java/lang/Object"), (0, u "<init>"), (0, u "()V"), (0, .methodref 8 9), (0, .class_ 10), (0, .nameAndType 11 12), (0, u "com/example/access_decision/accessdecision/AclRightEqualsPinLaw"), (0, u "len"), (0, u "(I)I"), (0, .class_ 14), (0, u "java/lang/String"), (0, .methodref 13 16), (0, .nameAndType 5 17), (0, u "([C)V"), (0, .methodref 8 19), (0, .nameAndType 20 21), (0, u "c0"), (0, u "(I)C"), (0, .methodref 8 23), (0, .nameAndType 24 21), (0, u "c1"), (0, .methodref 8 26), (0, .nameAndType 27 28), (0, u "mk"), (0, u "(I)Ljava/lang/String;"), (0, .class_ 30), (0, u "com/example/access_decision/accessdecision/AclRight"), (0, .methodref 29 32), (0, .nameAndType 5 33), (0, u "(Ljava/lang/String;Ljava/lang/String;)V"), (0, .methodref 29 35), (0, .nameAndType 36 37), (0, u "equals"), (0, u "(Ljava/lang/Object;)Z"), (0, .methodref 8 39), (0, .nameAndType 40 41), (0, u "same"), (0, u "(II)Z"), (3, u "law"), (0, u "(IIIII)Z")] 2

def k1m0 : Method := { name := "<init>", desc := "()V", sig := { parameters := [], returnType := none }, accessFlags := 2, code := none }
def k1c1 : Code := { maxStack := 2, maxLocals := 1, code := method_2_code, exceptionTable := #[], attributes := #[] }
def k1m1 : Method := { name := "len", desc := "(I)I", sig := { parameters := [.int], returnType := some .int }, accessFlags := 10, code := some k1c1 }
def k1c2 : Code := { maxStack := 2, maxLocals := 1, code := method_3_code, exceptionTable := #[], attributes := #[] }
def k1m2 : Method := { name := "c0", desc := "(I)C", sig := { parameters := [.int], returnType := some .char }, accessFlags := 10, code := some k1c2 }
def k1c3 : Code := { maxStack := 2, maxLocals := 1, code := method_4_code, exceptionTable := #[], attributes := #[] }
def k1m3 : Method := { name := "c1", desc := "(I)C", sig := { parameters := [.int], returnType := some .char }, accessFlags := 10, code := some k1c3 }
def k1c4 : Code := { maxStack := 3, maxLocals := 3, code := method_5_code, exceptionTable := #[], attributes := #[] }
def k1m4 : Method := { name := "mk", desc := "(I)Ljava/lang/String;", sig := { parameters := [.int], returnType := some (.object "java/lang/String") }, accessFlags := 10, code := some k1c4 }
def k1c5 : Code := { maxStack := 2, maxLocals := 3, code := method_6_code, exceptionTable := #[], attributes := #[] }
def k1m5 : Method := { name := "same", desc := "(II)Z", sig := { parameters := [.int, .int], returnType := some .boolean }, accessFlags := 10, code := some k1c5 }
def k1c6 : Code := { maxStack := 4, maxLocals := 15, code := code, exceptionTable := #[], attributes := #[] }
def k1m6 : Method := { name := "law", desc := "(IIIII)Z", sig := { parameters := [.int, .int, .int, .int, .int], returnType := some .boolean }, accessFlags := 9, code := some k1c6 }
/-- com/example/access_decision/accessdecision/AclRightEqualsPinLaw -/
def k1 : Class := { plain "com/example/access_decision/accessdecision/AclRightEqualsPinLaw" (some 0) with
  accessFlags := 49
  interfaces := #[]
  cf := some (fileOf pool1 8 #[] #[{ accessFlags := 2, nameIndex := 5, descriptorIndex := 6, attributes := #[] }, { accessFlags := 10, nameIndex := 11, descriptorIndex := 12, attributes := #[] }, { accessFlags := 10, nameIndex := 20, descriptorIndex := 21, attributes := #[] }, { accessFlags := 10, nameIndex := 24, descriptorIndex := 21, attributes := #[] }, { accessFlags := 10, nameIndex := 27, descriptorIndex := 28, attributes := #[] }, { accessFlags := 10, nameIndex := 40, descriptorIndex := 41, attributes := #[] }, { accessFlags := 9, nameIndex := 45, descriptorIndex := 46, attributes := #[] }] 49 2 #[] #[])
  fields := #[]
  methods := #[k1m0, k1m1, k1m2, k1m3, k1m4, k1m5, k1m6]
  instanceTypes := #[]
  staticTypes := #[]
  resolved := Array.replicate 49 none
  statics := none }

def pool2 : Array CpInfo := pool [(1, .class_ 2), (0, u "java/io/Serializable"), (0, .class_ 4), (0, u "java/lang/Object")] 2

/-- java/io/Serializable -/
def k2 : Class := { plain "java/io/Serializable" (some 0) with
  accessFlags := 1537
  interfaces := #[]
  cf := some (fileOf pool2 1 #[] #[] 1537 3 #[] #[])
  fields := #[]
  methods := #[]
  instanceTypes := #[]
  staticTypes := #[]
  resolved := Array.replicate 7 none
  statics := none }

def pool3 : Array CpInfo := pool [(1, .class_ 2), (0, u "java/lang/Comparable"), (0, .class_ 4), (0, u "java/lang/Object")] 7

/-- java/lang/Comparable -/
def k3 : Class := { plain "java/lang/Comparable" (some 0) with
  accessFlags := 1537
  interfaces := #[]
  cf := some (fileOf pool3 1 #[] #[] 1537 3 #[] #[])
  fields := #[]
  methods := #[]
  instanceTypes := #[]
  staticTypes := #[]
  resolved := Array.replicate 12 none
  statics := none }

def pool4 : Array CpInfo := pool [(2, .class_ 4), (1, u "java/lang/CharSequence"), (42, .class_ 48), (0, u "java/lang/CharSequence$1CodePointIterator"), (10, .class_ 60), (0, u "java/lang/CharSequence$1CharIterator"), (5, .class_ 67), (0, u "java/lang/Object")] 63

/-- java/lang/CharSequence -/
def k4 : Class := { plain "java/lang/CharSequence" (some 0) with
  accessFlags := 1537
  interfaces := #[]
  cf := some (fileOf pool4 2 #[.nestMembers #[47, 59]] #[] 1537 66 #[] #[])
  fields := #[]
  methods := #[]
  instanceTypes := #[]
  staticTypes := #[]
  resolved := Array.replicate 131 none
  statics := none }

def pool5 : Array CpInfo := pool [(1, .class_ 2), (0, u "java/lang/constant/Constable"), (0, .class_ 4), (0, u "java/lang/Object")] 6

/-- java/lang/constant/Constable -/
def k5 : Class := { plain "java/lang/constant/Constable" (some 0) with
  accessFlags := 1537
  interfaces := #[]
  cf := some (fileOf pool5 1 #[] #[] 1537 3 #[] #[])
  fields := #[]
  methods := #[]
  instanceTypes := #[]
  staticTypes := #[]
  resolved := Array.replicate 11 none
  statics := none }

def pool6 : Array CpInfo := pool [(1, .class_ 2), (0, u "java/lang/constant/ConstantDesc"), (0, .class_ 4), (0, u "java/lang/Object")] 32

/-- java/lang/constant/ConstantDesc -/
def k6 : Class := { plain "java/lang/constant/ConstantDesc" (some 0) with
  accessFlags := 1537
  interfaces := #[]
  cf := some (fileOf pool6 1 #[] #[] 1537 3 #[] #[])
  fields := #[]
  methods := #[]
  instanceTypes := #[]
  staticTypes := #[]
  resolved := Array.replicate 37 none
  statics := none }

def pool7 : Array CpInfo := pool [(1, .methodref 2 3), (0, .class_ 4), (0, .nameAndType 5 6), (0, u "java/lang/Object"), (0, u "<init>"), (0, u "()V"), (0, .string 8), (0, u ""), (0, .fieldref 10 11), (0, .class_ 12), (0, .nameAndType 13 14), (0, u "java/lang/String"), (0, u "value"), (0, u "[B"), (0, .fieldref 10 16), (0, .nameAndType 17 18), (0, u "coder"), (0, u "B"), (0, .fieldref 10 20), (0, .nameAndType 21 22), (0, u "hash"), (0, u "I"), (0, .fieldref 10 24), (0, .nameAndType 25 26), (0, u "hashIsZero"), (0, u "Z"), (0, .methodref 10 28), (0, .nameAndType 5 29), (0, u "([CIILjava/lang/Void;)V"), (8, .fieldref 10 39), (0, .nameAndType 40 26), (0, u "COMPACT_STRINGS"), (1, .class_ 44), (1, u "java/lang/StringUTF16"), (0, u "compress"), (1, .methodref 42 48), (0, .nameAndType 49 50), (0, u "coderFromArrayLen"), (0, u "([BI)B"), (56, .class_ 109), (1, u "java/lang/StringLatin1"), (32, u "()Z"), (34, .methodref 42 178), (0, .nameAndType 45 179), (0, u "([CII)[B"), (154, u "()I"), (157, .methodref 10 493), (0, .nameAndType 494 142), (0, u "isLatin1"), (46, .methodref 107 542), (0, .nameAndType 543 544), (0, u "equals"), (0, u "([B[B)Z"), (28, u "(Ljava/lang/Object;)Z"), (1, .class_ 576), (0, u "java/lang/CharSequence"), (22, u "CASE_INSENSITIVE_ORDER"), (0, u "Ljava/util/Comparator;"), (27, .methodref 107 629), (0, .nameAndType 630 631), (0, u "hashCode"), (0, u "([B)I"), (378, u "([C)V"), (90, u "serialPersistentFields"), (0, u "[Ljava/io/ObjectStreamField;"), (0, .class_ 1104), (0, u "java/lang/String$CaseInsensitiveComparator"), (1, .class_ 1107), (0, u "java/io/Serializable"), (0, .class_ 1109), (0, u "java/lang/Comparable"), (0, .class_ 1111), (0, u "java/lang/constant/Constable"), (0, .class_ 1113), (0, u "java/lang/constant/ConstantDesc"), (2, u "serialVersionUID"), (0, u "J"), (3, u "REPL"), (0, u "C"), (2, u "LATIN1"), (1, u "UTF16")] 323

def k7m0 : Method := { name := "<init>", desc := "()V", sig := { parameters := [], returnType := none }, accessFlags := 1, code := none }
def k7c1 : Code := { maxStack := 5, maxLocals := 2, code := jdk_42_method_3_code, exceptionTable := #[], attributes := #[] }
def k7m1 : Method := { name := "<init>", desc := "([C)V", sig := { parameters := [(.array .char)], returnType := none }, accessFlags := 1, code := some k7c1 }
def k7c2 : Code := { maxStack := 2, maxLocals := 3, code := jdk_42_method_66_code, exceptionTable := #[], attributes := #[] }
def k7m2 : Method := { name := "equals", desc := "(Ljava/lang/Object;)Z", sig := { parameters := [(.object "java/lang/Object")], returnType := some .boolean }, accessFlags := 1, code := some k7c2 }
def k7c3 : Code := { maxStack := 2, maxLocals := 2, code := jdk_42_method_78_code, exceptionTable := #[], attributes := #[] }
def k7m3 : Method := { name := "hashCode", desc := "()I", sig := { parameters := [], returnType := some .int }, accessFlags := 1, code := some k7c3 }
def k7c4 : Code := { maxStack := 4, maxLocals := 6, code := jdk_42_method_149_code, exceptionTable := #[], attributes := #[] }
def k7m4 : Method := { name := "<init>", desc := "([CIILjava/lang/Void;)V", sig := { parameters := [(.array .char), .int, .int, (.object "java/lang/Void")], returnType := none }, accessFlags := 2, code := some k7c4 }
def k7c5 : Code := { maxStack := 1, maxLocals := 1, code := jdk_42_method_154_code, exceptionTable := #[], attributes := #[] }
def k7m5 : Method := { name := "isLatin1", desc := "()Z", sig := { parameters := [], returnType := some .boolean }, accessFlags := 0, code := some k7c5 }
/-- java/lang/String -/
def k7 : Class := { plain "java/lang/String" (some 0) with
  accessFlags := 49
  interfaces := #[2, 3, 4, 5, 6]
  cf := some (fileOf pool7 10 #[.nestMembers #[1103]] #[{ accessFlags := 1, nameIndex := 5, descriptorIndex := 6, attributes := #[] }, { accessFlags := 1, nameIndex := 5, descriptorIndex := 1010, attributes := #[] }, { accessFlags := 1, nameIndex := 543, descriptorIndex := 573, attributes := #[] }, { accessFlags := 1, nameIndex := 630, descriptorIndex := 334, attributes := #[] }, { accessFlags := 2, nameIndex := 5, descriptorIndex := 29, attributes := #[] }, { accessFlags := 0, nameIndex := 494, descriptorIndex := 142, attributes := #[] }] 49 2 #[1106, 1108, 575, 1110, 1112] #[{ accessFlags := 18, nameIndex := 13, descriptorIndex := 14, attributes := #[] }, { accessFlags := 18, nameIndex := 17, descriptorIndex := 18, attributes := #[] }, { accessFlags := 2, nameIndex := 21, descriptorIndex := 22, attributes := #[] }, { accessFlags := 2, nameIndex := 25, descriptorIndex := 26, attributes := #[] }, { accessFlags := 26, nameIndex := 1116, descriptorIndex := 1117, attributes := #[] }, { accessFlags := 24, nameIndex := 40, descriptorIndex := 26, attributes := #[] }, { accessFlags := 26, nameIndex := 1101, descriptorIndex := 1102, attributes := #[] }, { accessFlags := 26, nameIndex := 1121, descriptorIndex := 1122, attributes := #[] }, { accessFlags := 25, nameIndex := 599, descriptorIndex := 600, attributes := #[] }, { accessFlags := 24, nameIndex := 1125, descriptorIndex := 18, attributes := #[] }, { accessFlags := 24, nameIndex := 1127, descriptorIndex := 18, attributes := #[] }])
  fields := #[{ name := "value", type := (.array .byte), accessFlags := 18, slot := 0, constantValue := 0 }, { name := "coder", type := .byte, accessFlags := 18, slot := 1, constantValue := 0 }, { name := "hash", type := .int, accessFlags := 2, slot := 2, constantValue := 0 }, { name := "hashIsZero", type := .boolean, accessFlags := 2, slot := 3, constantValue := 0 }, { name := "serialVersionUID", type := .long, accessFlags := 26, slot := 0, constantValue := 0 }, { name := "COMPACT_STRINGS", type := .boolean, accessFlags := 24, slot := 1, constantValue := 0 }, { name := "serialPersistentFields", type := (.array (.object "java/io/ObjectStreamField")), accessFlags := 26, slot := 2, constantValue := 0 }, { name := "REPL", type := .char, accessFlags := 26, slot := 3, constantValue := 0 }, { name := "CASE_INSENSITIVE_ORDER", type := (.object "java/util/Comparator"), accessFlags := 25, slot := 4, constantValue := 0 }, { name := "LATIN1", type := .byte, accessFlags := 24, slot := 5, constantValue := 0 }, { name := "UTF16", type := .byte, accessFlags := 24, slot := 6, constantValue := 0 }]
  methods := #[k7m0, k7m1, k7m2, k7m3, k7m4, k7m5]
  instanceTypes := #[(.array .byte), .byte, .int, .boolean]
  staticTypes := #[.long, .boolean, (.array (.object "java/io/ObjectStreamField")), .char, (.object "java/util/Comparator"), .byte, .byte]
  resolved := Array.replicate 1451 none
  statics := some 0 }

def pool8 : Array CpInfo := pool [(6, .class_ 8), (1, u "java/lang/Object"), (0, u "<init>"), (0, u "()V"), (1, .class_ 14), (1, u "java/lang/StringUTF16"), (31, u "$assertionsDisabled"), (0, u "Z"), (13, u "HI_BYTE_SHIFT"), (0, u "I"), (2, u "LO_BYTE_SHIFT"), (49, .methodref 12 116), (0, .nameAndType 117 118), (0, u "compress"), (0, u "([CI[BII)I"), (3, u "([CII)[B"), (138, u "coderFromArrayLen"), (0, u "([BI)B"), (106, .class_ 371), (1, u "java/lang/StringUTF16$LinesSpliterator"), (58, u "MAX_LENGTH"), (196, .class_ 628), (0, u "java/lang/StringUTF16$CodePointsSpliterator"), (0, .class_ 630), (0, u "java/lang/StringUTF16$CharsSpliterator")] 4

def k8m0 : Method := { name := "<init>", desc := "()V", sig := { parameters := [], returnType := none }, accessFlags := 0, code := none }
def k8c1 : Code := { maxStack := 2, maxLocals := 2, code := jdk_52_method_15_code, exceptionTable := #[], attributes := #[] }
def k8m1 : Method := { name := "coderFromArrayLen", desc := "([BI)B", sig := { parameters := [(.array .byte), .int], returnType := some .byte }, accessFlags := 8, code := some k8c1 }
def k8c2 : Code := { maxStack := 5, maxLocals := 6, code := jdk_52_method_16_code, exceptionTable := #[], attributes := #[] }
def k8m2 : Method := { name := "compress", desc := "([CII)[B", sig := { parameters := [(.array .char), .int, .int], returnType := some (.array .byte) }, accessFlags := 9, code := some k8c2 }
def k8c3 : Code := { maxStack := 3, maxLocals := 7, code := jdk_52_method_21_code, exceptionTable := #[], attributes := #[] }
def k8m3 : Method := { name := "compress", desc := "([CI[BII)I", sig := { parameters := [(.array .char), .int, (.array .byte), .int, .int], returnType := some .int }, accessFlags := 9, code := some k8c3 }
/-- java/lang/StringUTF16 -/
def k8 : Class := { plain "java/lang/StringUTF16" (some 0) with
  accessFlags := 48
  interfaces := #[]
  cf := some (fileOf pool8 12 #[.nestMembers #[627, 629, 369]] #[{ accessFlags := 0, nameIndex := 9, descriptorIndex := 10, attributes := #[] }, { accessFlags := 8, nameIndex := 261, descriptorIndex := 262, attributes := #[] }, { accessFlags := 9, nameIndex := 117, descriptorIndex := 122, attributes := #[] }, { accessFlags := 9, nameIndex := 117, descriptorIndex := 118, attributes := #[] }] 48 6 #[] #[{ accessFlags := 26, nameIndex := 61, descriptorIndex := 62, attributes := #[] }, { accessFlags := 26, nameIndex := 65, descriptorIndex := 62, attributes := #[] }, { accessFlags := 24, nameIndex := 430, descriptorIndex := 62, attributes := #[] }, { accessFlags := 4120, nameIndex := 46, descriptorIndex := 47, attributes := #[] }])
  fields := #[{ name := "HI_BYTE_SHIFT", type := .int, accessFlags := 26, slot := 0, constantValue := 0 }, { name := "LO_BYTE_SHIFT", type := .int, accessFlags := 26, slot := 1, constantValue := 0 }, { name := "MAX_LENGTH", type := .int, accessFlags := 24, slot := 2, constantValue := 0 }, { name := "$assertionsDisabled", type := .boolean, accessFlags := 4120, slot := 3, constantValue := 0 }]
  methods := #[k8m0, k8m1, k8m2, k8m3]
  instanceTypes := #[]
  staticTypes := #[.int, .int, .int, .boolean]
  resolved := Array.replicate 635 none
  statics := none }

def pool9 : Array CpInfo := pool [(1, .methodref 2 3), (0, .class_ 4), (0, .nameAndType 5 6), (0, u "java/lang/Object"), (0, u "<init>"), (0, u "()V"), (0, .fieldref 8 9), (0, .class_ 10), (0, .nameAndType 11 12), (0, u "com/example/access_decision/accessdecision/AclRight"), (0, u "tag"), (0, u "Ljava/lang/String;"), (0, .fieldref 8 14), (0, .nameAndType 15 12), (0, u "value"), (0, .methodref 17 18), (0, .class_ 19), (0, .nameAndType 20 21), (0, u "java/lang/String"), (0, u "hashCode"), (0, u "()I"), (0, .fieldref 8 23), (0, .nameAndType 24 25), (0, u "hash"), (0, u "I"), (20, u "(Ljava/lang/String;Ljava/lang/String;)V"), (5, u "(Ljava/lang/Object;)Z"), (2, .methodref 17 56), (0, .nameAndType 57 52), (0, u "equals"), (2, u "EVERY"), (0, u "Lcom/example/access_decision/accessdecision/AclRight;"), (6, u "ORDER"), (0, u "Ljava/util/Comparator;"), (22, .class_ 93), (0, u "java/lang/Comparable"), (0, u "ANY")] 43

def k9c0 : Code := { maxStack := 3, maxLocals := 3, code := prog_3_method_1_code, exceptionTable := #[], attributes := #[] }
def k9m0 : Method := { name := "<init>", desc := "(Ljava/lang/String;Ljava/lang/String;)V", sig := { parameters := [(.object "java/lang/String"), (.object "java/lang/String")], returnType := none }, accessFlags := 0, code := some k9c0 }
def k9c1 : Code := { maxStack := 2, maxLocals := 3, code := prog_3_method_4_code, exceptionTable := #[], attributes := #[] }
def k9m1 : Method := { name := "equals", desc := "(Ljava/lang/Object;)Z", sig := { parameters := [(.object "java/lang/Object")], returnType := some .boolean }, accessFlags := 1, code := some k9c1 }
/-- com/example/access_decision/accessdecision/AclRight -/
def k9 : Class := { plain "com/example/access_decision/accessdecision/AclRight" (some 0) with
  accessFlags := 48
  interfaces := #[3]
  cf := some (fileOf pool9 8 #[] #[{ accessFlags := 0, nameIndex := 5, descriptorIndex := 46, attributes := #[] }, { accessFlags := 1, nameIndex := 57, descriptorIndex := 52, attributes := #[] }] 48 2 #[92] #[{ accessFlags := 26, nameIndex := 94, descriptorIndex := 12, attributes := #[] }, { accessFlags := 26, nameIndex := 60, descriptorIndex := 61, attributes := #[] }, { accessFlags := 26, nameIndex := 68, descriptorIndex := 69, attributes := #[] }, { accessFlags := 18, nameIndex := 11, descriptorIndex := 12, attributes := #[] }, { accessFlags := 18, nameIndex := 15, descriptorIndex := 12, attributes := #[] }, { accessFlags := 18, nameIndex := 24, descriptorIndex := 25, attributes := #[] }])
  fields := #[{ name := "ANY", type := (.object "java/lang/String"), accessFlags := 26, slot := 0, constantValue := 0 }, { name := "EVERY", type := (.object "com/example/access_decision/accessdecision/AclRight"), accessFlags := 26, slot := 1, constantValue := 0 }, { name := "ORDER", type := (.object "java/util/Comparator"), accessFlags := 26, slot := 2, constantValue := 0 }, { name := "tag", type := (.object "java/lang/String"), accessFlags := 18, slot := 0, constantValue := 0 }, { name := "value", type := (.object "java/lang/String"), accessFlags := 18, slot := 1, constantValue := 0 }, { name := "hash", type := .int, accessFlags := 18, slot := 2, constantValue := 0 }]
  methods := #[k9m0, k9m1]
  instanceTypes := #[(.object "java/lang/String"), (.object "java/lang/String"), .int]
  staticTypes := #[(.object "java/lang/String"), (.object "com/example/access_decision/accessdecision/AclRight"), (.object "java/util/Comparator")]
  resolved := Array.replicate 138 none
  statics := none }

def pool10 : Array CpInfo := pool [(4, .class_ 6), (1, u "java/lang/Object"), (0, u "<init>"), (0, u "()V"), (5, .class_ 16), (1, u "java/lang/StringLatin1"), (28, .class_ 47), (1, u "jdk/internal/util/ArraysSupport"), (9, u "([B)I"), (26, .methodref 45 85), (0, .nameAndType 86 87), (0, u "vectorizedHashCode"), (0, u "(Ljava/lang/Object;IIII)I"), (33, u "$assertionsDisabled"), (0, u "Z"), (98, .class_ 223), (1, u "java/lang/StringLatin1$LinesSpliterator"), (57, u "equals"), (0, u "([B[B)Z"), (15, u "hashCode"), (91, .class_ 391), (0, u "java/lang/StringLatin1$CharsSpliterator")] 3

def k10m0 : Method := { name := "<init>", desc := "()V", sig := { parameters := [], returnType := none }, accessFlags := 0, code := none }
def k10c1 : Code := { maxStack := 3, maxLocals := 3, code := jdk_43_method_13_code, exceptionTable := #[], attributes := #[] }
def k10m1 : Method := { name := "equals", desc := "([B[B)Z", sig := { parameters := [(.array .byte), (.array .byte)], returnType := some .boolean }, accessFlags := 9, code := some k10c1 }
def k10c2 : Code := { maxStack := 5, maxLocals := 1, code := jdk_43_method_21_code, exceptionTable := #[], attributes := #[] }
def k10m2 : Method := { name := "hashCode", desc := "([B)I", sig := { parameters := [(.array .byte)], returnType := some .int }, accessFlags := 9, code := some k10c2 }
/-- java/lang/StringLatin1 -/
def k10 : Class := { plain "java/lang/StringLatin1" (some 0) with
  accessFlags := 48
  interfaces := #[]
  cf := some (fileOf pool10 14 #[.nestMembers #[390, 221]] #[{ accessFlags := 0, nameIndex := 7, descriptorIndex := 8, attributes := #[] }, { accessFlags := 9, nameIndex := 281, descriptorIndex := 282, attributes := #[] }, { accessFlags := 9, nameIndex := 298, descriptorIndex := 57, attributes := #[] }] 48 4 #[] #[{ accessFlags := 4120, nameIndex := 121, descriptorIndex := 122, attributes := #[] }])
  fields := #[{ name := "$assertionsDisabled", type := .boolean, accessFlags := 4120, slot := 0, constantValue := 0 }]
  methods := #[k10m0, k10m1, k10m2]
  instanceTypes := #[]
  staticTypes := #[.boolean]
  resolved := Array.replicate 395 none
  statics := none }

def pool11 : Array CpInfo := pool [(9, u "<init>"), (6, .class_ 18), (1, u "java/lang/Object"), (0, u "()V"), (1, .class_ 23), (1, u "jdk/internal/util/ArraysSupport"), (0, u "LOG2_ARRAY_LONG_INDEX_SCALE"), (0, u "I"), (2, u "U"), (0, u "Ljdk/internal/misc/Unsafe;"), (8, u "BIG_ENDIAN"), (0, u "Z"), (8, u "LOG2_BYTE_BIT_SIZE"), (4, u "LOG2_ARRAY_INT_INDEX_SCALE"), (6, .class_ 61), (0, u "[B"), (0, .methodref 21 63), (0, .nameAndType 64 65), (0, u "signedHashCode"), (0, u "(I[BII)I"), (42, u "JLA"), (0, u "Ljdk/internal/access/JavaLangAccess;"), (11, u "LOG2_ARRAY_BOOLEAN_INDEX_SCALE"), (9, u "LOG2_ARRAY_BYTE_INDEX_SCALE"), (5, u "LOG2_ARRAY_CHAR_INDEX_SCALE"), (5, u "LOG2_ARRAY_SHORT_INDEX_SCALE"), (18, u "LOG2_ARRAY_FLOAT_INDEX_SCALE"), (24, u "LOG2_ARRAY_DOUBLE_INDEX_SCALE"), (89, u "T_BOOLEAN"), (2, u "T_CHAR"), (1, u "T_FLOAT"), (1, u "T_DOUBLE"), (1, u "T_BYTE"), (1, u "T_SHORT"), (1, u "T_INT"), (1, u "T_LONG"), (1, u "SOFT_MAX_ARRAY_LENGTH"), (26, u "vectorizedHashCode"), (0, u "(Ljava/lang/Object;IIII)I")] 55

def k11m0 : Method := { name := "<init>", desc := "()V", sig := { parameters := [], returnType := none }, accessFlags := 2, code := none }
def k11c1 : Code := { maxStack := 4, maxLocals := 5, code := jdk_48_method_4_code, exceptionTable := #[], attributes := #[] }
def k11m1 : Method := { name := "vectorizedHashCode", desc := "(Ljava/lang/Object;IIII)I", sig := { parameters := [(.object "java/lang/Object"), .int, .int, .int, .int], returnType := some .int }, accessFlags := 9, code := some k11c1 }
def k11c2 : Code := { maxStack := 3, maxLocals := 6, code := jdk_48_method_5_code, exceptionTable := #[], attributes := #[] }
def k11m2 : Method := { name := "signedHashCode", desc := "(I[BII)I", sig := { parameters := [.int, (.array .byte), .int, .int], returnType := some .int }, accessFlags := 10, code := some k11c2 }
/-- jdk/internal/util/ArraysSupport -/
def k11 : Class := { plain "jdk/internal/util/ArraysSupport" (some 0) with
  accessFlags := 33
  interfaces := #[]
  cf := some (fileOf pool11 21 #[] #[{ accessFlags := 2, nameIndex := 9, descriptorIndex := 19, attributes := #[] }, { accessFlags := 9, nameIndex := 321, descriptorIndex := 322, attributes := #[] }, { accessFlags := 10, nameIndex := 64, descriptorIndex := 65, attributes := #[] }] 33 16 #[] #[{ accessFlags := 24, nameIndex := 28, descriptorIndex := 29, attributes := #[] }, { accessFlags := 26, nameIndex := 38, descriptorIndex := 39, attributes := #[] }, { accessFlags := 25, nameIndex := 121, descriptorIndex := 25, attributes := #[] }, { accessFlags := 25, nameIndex := 131, descriptorIndex := 25, attributes := #[] }, { accessFlags := 25, nameIndex := 137, descriptorIndex := 25, attributes := #[] }, { accessFlags := 25, nameIndex := 143, descriptorIndex := 25, attributes := #[] }, { accessFlags := 25, nameIndex := 53, descriptorIndex := 25, attributes := #[] }, { accessFlags := 25, nameIndex := 24, descriptorIndex := 25, attributes := #[] }, { accessFlags := 25, nameIndex := 162, descriptorIndex := 25, attributes := #[] }, { accessFlags := 25, nameIndex := 187, descriptorIndex := 25, attributes := #[] }, { accessFlags := 26, nameIndex := 48, descriptorIndex := 25, attributes := #[] }, { accessFlags := 25, nameIndex := 277, descriptorIndex := 25, attributes := #[] }, { accessFlags := 25, nameIndex := 280, descriptorIndex := 25, attributes := #[] }, { accessFlags := 25, nameIndex := 282, descriptorIndex := 25, attributes := #[] }, { accessFlags := 25, nameIndex := 284, descriptorIndex := 25, attributes := #[] }, { accessFlags := 25, nameIndex := 286, descriptorIndex := 25, attributes := #[] }, { accessFlags := 25, nameIndex := 288, descriptorIndex := 25, attributes := #[] }, { accessFlags := 25, nameIndex := 290, descriptorIndex := 25, attributes := #[] }, { accessFlags := 25, nameIndex := 292, descriptorIndex := 25, attributes := #[] }, { accessFlags := 26, nameIndex := 108, descriptorIndex := 109, attributes := #[] }, { accessFlags := 25, nameIndex := 294, descriptorIndex := 25, attributes := #[] }])
  fields := #[{ name := "U", type := (.object "jdk/internal/misc/Unsafe"), accessFlags := 24, slot := 0, constantValue := 0 }, { name := "BIG_ENDIAN", type := .boolean, accessFlags := 26, slot := 1, constantValue := 0 }, { name := "LOG2_ARRAY_BOOLEAN_INDEX_SCALE", type := .int, accessFlags := 25, slot := 2, constantValue := 0 }, { name := "LOG2_ARRAY_BYTE_INDEX_SCALE", type := .int, accessFlags := 25, slot := 3, constantValue := 0 }, { name := "LOG2_ARRAY_CHAR_INDEX_SCALE", type := .int, accessFlags := 25, slot := 4, constantValue := 0 }, { name := "LOG2_ARRAY_SHORT_INDEX_SCALE", type := .int, accessFlags := 25, slot := 5, constantValue := 0 }, { name := "LOG2_ARRAY_INT_INDEX_SCALE", type := .int, accessFlags := 25, slot := 6, constantValue := 0 }, { name := "LOG2_ARRAY_LONG_INDEX_SCALE", type := .int, accessFlags := 25, slot := 7, constantValue := 0 }, { name := "LOG2_ARRAY_FLOAT_INDEX_SCALE", type := .int, accessFlags := 25, slot := 8, constantValue := 0 }, { name := "LOG2_ARRAY_DOUBLE_INDEX_SCALE", type := .int, accessFlags := 25, slot := 9, constantValue := 0 }, { name := "LOG2_BYTE_BIT_SIZE", type := .int, accessFlags := 26, slot := 10, constantValue := 0 }, { name := "T_BOOLEAN", type := .int, accessFlags := 25, slot := 11, constantValue := 0 }, { name := "T_CHAR", type := .int, accessFlags := 25, slot := 12, constantValue := 0 }, { name := "T_FLOAT", type := .int, accessFlags := 25, slot := 13, constantValue := 0 }, { name := "T_DOUBLE", type := .int, accessFlags := 25, slot := 14, constantValue := 0 }, { name := "T_BYTE", type := .int, accessFlags := 25, slot := 15, constantValue := 0 }, { name := "T_SHORT", type := .int, accessFlags := 25, slot := 16, constantValue := 0 }, { name := "T_INT", type := .int, accessFlags := 25, slot := 17, constantValue := 0 }, { name := "T_LONG", type := .int, accessFlags := 25, slot := 18, constantValue := 0 }, { name := "JLA", type := (.object "jdk/internal/access/JavaLangAccess"), accessFlags := 26, slot := 19, constantValue := 0 }, { name := "SOFT_MAX_ARRAY_LENGTH", type := .int, accessFlags := 25, slot := 20, constantValue := 0 }]
  methods := #[k11m0, k11m1, k11m2]
  instanceTypes := #[]
  staticTypes := #[(.object "jdk/internal/misc/Unsafe"), .boolean, .int, .int, .int, .int, .int, .int, .int, .int, .int, .int, .int, .int, .int, .int, .int, .int, .int, (.object "jdk/internal/access/JavaLangAccess"), .int]
  resolved := Array.replicate 378 none
  statics := none }

def pool12 : Array CpInfo := pool [(2, .class_ 4), (1, u "java/lang/Object"), (0, u "<init>"), (0, u "()V"), (17, .class_ 26), (1, u "jdk/internal/util/Preconditions"), (28, .class_ 56), (0, u "jdk/internal/util/Preconditions$4"), (57, .class_ 115), (0, u "jdk/internal/util/Preconditions$1"), (7, u "SIOOBE_FORMATTER"), (0, u "Ljava/util/function/BiFunction;"), (0, .class_ 126), (0, u "jdk/internal/util/Preconditions$2"), (3, u "AIOOBE_FORMATTER"), (0, .class_ 132), (0, u "jdk/internal/util/Preconditions$3"), (3, u "IOOBE_FORMATTER")] 57

def k12m0 : Method := { name := "<init>", desc := "()V", sig := { parameters := [], returnType := none }, accessFlags := 1, code := none }
/-- jdk/internal/util/Preconditions -/
def k12 : Class := { plain "jdk/internal/util/Preconditions" (some 0) with
  accessFlags := 33
  interfaces := #[]
  cf := some (fileOf pool12 24 #[.nestMembers #[55, 131, 125, 114]] #[{ accessFlags := 1, nameIndex := 5, descriptorIndex := 6, attributes := #[] }] 33 2 #[] #[{ accessFlags := 25, nameIndex := 123, descriptorIndex := 124, attributes := #[] }, { accessFlags := 25, nameIndex := 130, descriptorIndex := 124, attributes := #[] }, { accessFlags := 25, nameIndex := 136, descriptorIndex := 124, attributes := #[] }])
  fields := #[{ name := "SIOOBE_FORMATTER", type := (.object "java/util/function/BiFunction"), accessFlags := 25, slot := 0, constantValue := 0 }, { name := "AIOOBE_FORMATTER", type := (.object "java/util/function/BiFunction"), accessFlags := 25, slot := 1, constantValue := 0 }, { name := "IOOBE_FORMATTER", type := (.object "java/util/function/BiFunction"), accessFlags := 25, slot := 2, constantValue := 0 }]
  methods := #[k12m0]
  instanceTypes := #[]
  staticTypes := #[(.object "java/util/function/BiFunction"), (.object "java/util/function/BiFunction"), (.object "java/util/function/BiFunction")]
  resolved := Array.replicate 194 none
  statics := some 1 }

def pool13 : Array CpInfo := pool [(1, u "java/lang/Cloneable"), (0, .class_ 1), (0, u "java/lang/Object"), (0, .class_ 3)] 3

/-- java/lang/Cloneable -/
def k13 : Class := { plain "java/lang/Cloneable" (some 0) with
  accessFlags := 1537
  interfaces := #[]
  cf := some (fileOf pool13 2 #[] #[] 1537 4 #[] #[])
  fields := #[]
  methods := #[]
  instanceTypes := #[]
  staticTypes := #[]
  resolved := Array.replicate 8 none
  statics := none }

/-- the primitive byte -/
def k14 : Class := { plain "byte" none with kind := .primitive 'B', accessFlags := 0x411 }
/-- [B -/
def k15 : Class := { plain "[B" (some 0) with kind := .array 14 .byte, interfaces := #[13, 2], accessFlags := 1041 }

/-- the primitive char -/
def k16 : Class := { plain "char" none with kind := .primitive 'C', accessFlags := 0x411 }
/-- [C -/
def k17 : Class := { plain "[C" (some 0) with kind := .array 16 .char, interfaces := #[13, 2], accessFlags := 1041 }

/-- the primitive int -/
def k18 : Class := { plain "int" none with kind := .primitive 'I', accessFlags := 0x411 }
/-- [I -/
def k19 : Class := { plain "[I" (some 0) with kind := .array 18 .int, interfaces := #[13, 2], accessFlags := 1041 }

def heap : Heap := #[{ cls := 7, slots := #[.long 0, .int 1, .null, .int 0, .null, .int 0, .int 0], vm := .statics 7 },
  { cls := 12, slots := #[.null, .null, .null], vm := .statics 12 }]
def classes : Array Class := #[k0, k1, k2, k3, k4, k5, k6, k7, k8, k9, k10, k11, k12, k13, k14, k15, k16, k17, k18, k19]
def interned : List (Array UInt16 × Addr) := []
def slotsUsed : Nat := 10
def theMethod : MethodId := ⟨1, 6⟩
def args0 : Array Value := #[.int 5, .int 7, .int 3, .int 9, .int 1]
def aboutOver (below : List Frame) : State where
  vm := { classes := classes, interned := interned.toArray }
  heap := heap
  slotsUsed := slotsUsed
  threads := #[{ frames := .invoking theMethod args0 :: below }]
def below0 : List Frame := [.native { method := ⟨0, 0⟩, args := #[] }]
def about1 : State := aboutOver below0
def p0 : Program := .bare "" "" ""
def e0 : Env := launch0.env 0 0 0
theorem w_frames : about1.frames = Frame.invoking theMethod args0 :: below0 := rfl
set_option maxRecDepth 65536 in
theorem w_args : argsFit about1.vm theMethod args0 = true := by decide +kernel
set_option maxRecDepth 65536 in
theorem w_heap : heapFits about1 = true := by decide +kernel
set_option maxRecDepth 65536 in
theorem w_runnable : about1.curStatus? = some .runnable := by decide +kernel
set_option maxRecDepth 65536 in
theorem w_alone : about1.alone = true := by decide +kernel
set_option maxRecDepth 65536 in
theorem w_named : about1.methodNamed? x = some theMethod := by decide +kernel
set_option maxRecDepth 65536 in
theorem w_hears : about1.hears theMethod below0 = true := by decide +kernel
set_option maxRecDepth 65536 in
theorem w_ripe : about1.ripe theMethod args0 below0 = true := by decide +kernel
theorem w_running : about1.status = .running := rfl
set_option maxRecDepth 65536 in
theorem w_room : about1.hasRoom e0.platform room_1 = true :=
  launch0.hasRoom_least _ room_1 (by decide +kernel) (by decide +kernel) (by decide +kernel) (by decide +kernel) (by decide +kernel) (by decide +kernel)
theorem allAtoms_all (ts : List Jvm.Cond) (a : Array Jvm.Value) (st : Jvm.State) : (allAtoms ts).before a st = ts.all (fun c => c.before a st) := by
  induction ts with
  | nil => rfl
  | cons c t ih =>
    show (Jvm.Cond.and c (allAtoms t)).before a st = _
    rw [Jvm.Cond.before_and, ih, List.all_cons]
def words1 : List Jvm.Cond := Jvm.Cond.code x code maxLocals ret :: tables_1
/-- a 'code' word, met by the world's own term for the bytes: nothing is compared byte by byte -/
theorem code_word {y : MethodName} {bytes : ByteArray} {mx : Nat} {rt : Option FieldType} {a : Array Value} {s : State} {m : MethodId} {meth : Method} {c : Code} (h1 : s.methodNamed? y = some m) (h2 : s.vm.method? m = some meth) (h3 : meth.code = some c) (h4 : c.code = bytes)
    (h5 : (c.maxLocals == mx && c.exceptionTable.isEmpty && decide (c.maxStack ≤ mostOperands) && decide (meth.sig.returnType = rt) && !meth.locks && decide (parseMethodDescriptor y.desc = some meth.sig)) = true) : (Jvm.Cond.code y bytes mx rt).before a s = true := by
  simp only [Bool.and_eq_true, beq_iff_eq, Bool.not_eq_true', decide_eq_true_eq] at h5
  obtain ⟨⟨⟨⟨⟨g1, g2⟩, g3⟩, g4⟩, g5⟩, g6⟩ := h5
  simp [Cond.before, Cond.holds, Cond.value, h1, h2, h3, h4, g1, g2, g3, g4, g5, g6]
def isCode : Jvm.Cond → Bool
  | .code _ _ _ _ => true
  | _ => false
theorem all_split {L : List Jvm.Cond} {P : Jvm.Cond → Bool} (h1 : L.all (fun c => isCode c || P c) = true) (h2 : ∀ c ∈ L.filter isCode, P c = true) : L.all P = true := by
  refine List.all_eq_true.mpr fun c hc => ?_
  have h := List.all_eq_true.mp h1 c hc
  rcases Bool.eq_false_or_eq_true (isCode c) with hi | hi
  · exact h2 c (List.mem_filter.mpr ⟨hc, hi⟩)
  · simpa [hi] using h
set_option maxRecDepth 65536 in
theorem w_c0 : (Jvm.Cond.code x code maxLocals ret).before args0 about1 = true := code_word (m := ⟨1, 6⟩) (meth := k1m6) (c := k1c6) (by decide +kernel) rfl rfl rfl (by decide +kernel)
set_option maxRecDepth 65536 in
theorem w_c1 : (Jvm.Cond.code ({ cls := "com/example/access_decision/accessdecision/AclRightEqualsPinLaw", name := "mk", desc := "(I)Ljava/lang/String;" } : Jvm.MethodName) method_5_code (3 : Nat) (Option.some (Jvm.ClassFile.FieldType.object "java/lang/String"))).before args0 about1 = true := code_word (m := ⟨1, 4⟩) (meth := k1m4) (c := k1c4) (by decide +kernel) rfl rfl rfl (by decide +kernel)
set_option maxRecDepth 65536 in
theorem w_c2 : (Jvm.Cond.code ({ cls := "com/example/access_decision/accessdecision/AclRightEqualsPinLaw", name := "len", desc := "(I)I" } : Jvm.MethodName) method_2_code (1 : Nat) (Option.some Jvm.ClassFile.FieldType.int)).before args0 about1 = true := code_word (m := ⟨1, 1⟩) (meth := k1m1) (c := k1c1) (by decide +kernel) rfl rfl rfl (by decide +kernel)
set_option maxRecDepth 65536 in
theorem w_c3 : (Jvm.Cond.code ({ cls := "java/lang/String", name := "<init>", desc := "([C)V" } : Jvm.MethodName) jdk_42_method_3_code (2 : Nat) (Option.none : Option Jvm.ClassFile.FieldType)).before args0 about1 = true := code_word (m := ⟨7, 1⟩) (meth := k7m1) (c := k7c1) (by decide +kernel) rfl rfl rfl (by decide +kernel)
set_option maxRecDepth 65536 in
theorem w_c4 : (Jvm.Cond.code ({ cls := "java/lang/String", name := "<init>", desc := "([CIILjava/lang/Void;)V" } : Jvm.MethodName) jdk_42_method_149_code (6 : Nat) (Option.none : Option Jvm.ClassFile.FieldType)).before args0 about1 = true := code_word (m := ⟨7, 4⟩) (meth := k7m4) (c := k7c4) (by decide +kernel) rfl rfl rfl (by decide +kernel)
set_option maxRecDepth 65536 in
theorem w_c5 : (Jvm.Cond.code ({ cls := "java/lang/Object", name := "<init>", desc := "()V" } : Jvm.MethodName) object_method_1_code (1 : Nat) (Option.none : Option Jvm.ClassFile.FieldType)).before args0 about1 = true := code_word (m := ⟨0, 0⟩) (meth := k0m0) (c := k0c0) (by decide +kernel) rfl rfl rfl (by decide +kernel)
set_option maxRecDepth 65536 in
theorem w_c6 : (Jvm.Cond.code ({ cls := "com/example/access_decision/accessdecision/AclRightEqualsPinLaw", name := "c0", desc := "(I)C" } : Jvm.MethodName) method_3_code (1 : Nat) (Option.some Jvm.ClassFile.FieldType.char)).before args0 about1 = true := code_word (m := ⟨1, 2⟩) (meth := k1m2) (c := k1c2) (by decide +kernel) rfl rfl rfl (by decide +kernel)
set_option maxRecDepth 65536 in
theorem w_c7 : (Jvm.Cond.code ({ cls := "com/example/access_decision/accessdecision/AclRightEqualsPinLaw", name := "c1", desc := "(I)C" } : Jvm.MethodName) method_4_code (1 : Nat) (Option.some Jvm.ClassFile.FieldType.char)).before args0 about1 = true := code_word (m := ⟨1, 3⟩) (meth := k1m3) (c := k1c3) (by decide +kernel) rfl rfl rfl (by decide +kernel)
set_option maxRecDepth 65536 in
theorem w_c8 : (Jvm.Cond.code ({ cls := "java/lang/StringUTF16", name := "compress", desc := "([CII)[B" } : Jvm.MethodName) jdk_52_method_16_code (6 : Nat) (Option.some (Jvm.ClassFile.FieldType.array Jvm.ClassFile.FieldType.byte))).before args0 about1 = true := code_word (m := ⟨8, 2⟩) (meth := k8m2) (c := k8c2) (by decide +kernel) rfl rfl rfl (by decide +kernel)
set_option maxRecDepth 65536 in
theorem w_c9 : (Jvm.Cond.code ({ cls := "java/lang/StringUTF16", name := "compress", desc := "([CI[BII)I" } : Jvm.MethodName) jdk_52_method_21_code (7 : Nat) (Option.some Jvm.ClassFile.FieldType.int)).before args0 about1 = true := code_word (m := ⟨8, 3⟩) (meth := k8m3) (c := k8c3) (by decide +kernel) rfl rfl rfl (by decide +kernel)
set_option maxRecDepth 65536 in
theorem w_c10 : (Jvm.Cond.code ({ cls := "java/lang/StringUTF16", name := "coderFromArrayLen", desc := "([BI)B" } : Jvm.MethodName) jdk_52_method_15_code (2 : Nat) (Option.some Jvm.ClassFile.FieldType.byte)).before args0 about1 = true := code_word (m := ⟨8, 1⟩) (meth := k8m1) (c := k8c1) (by decide +kernel) rfl rfl rfl (by decide +kernel)
set_option maxRecDepth 65536 in
theorem w_c11 : (Jvm.Cond.code ({ cls := "com/example/access_decision/accessdecision/AclRight", name := "<init>", desc := "(Ljava/lang/String;Ljava/lang/String;)V" } : Jvm.MethodName) prog_3_method_1_code (3 : Nat) (Option.none : Option Jvm.ClassFile.FieldType)).before args0 about1 = true := code_word (m := ⟨9, 0⟩) (meth := k9m0) (c := k9c0) (by decide +kernel) rfl rfl rfl (by decide +kernel)
set_option maxRecDepth 65536 in
theorem w_c12 : (Jvm.Cond.code ({ cls := "java/lang/String", name := "hashCode", desc := "()I" } : Jvm.MethodName) jdk_42_method_78_code (2 : Nat) (Option.some Jvm.ClassFile.FieldType.int)).before args0 about1 = true := code_word (m := ⟨7, 3⟩) (meth := k7m3) (c := k7c3) (by decide +kernel) rfl rfl rfl (by decide +kernel)
set_option maxRecDepth 65536 in
theorem w_c13 : (Jvm.Cond.code ({ cls := "java/lang/String", name := "isLatin1", desc := "()Z" } : Jvm.MethodName) jdk_42_method_154_code (1 : Nat) (Option.some Jvm.ClassFile.FieldType.boolean)).before args0 about1 = true := code_word (m := ⟨7, 5⟩) (meth := k7m5) (c := k7c5) (by decide +kernel) rfl rfl rfl (by decide +kernel)
set_option maxRecDepth 65536 in
theorem w_c14 : (Jvm.Cond.code ({ cls := "java/lang/StringLatin1", name := "hashCode", desc := "([B)I" } : Jvm.MethodName) jdk_43_method_21_code (1 : Nat) (Option.some Jvm.ClassFile.FieldType.int)).before args0 about1 = true := code_word (m := ⟨10, 2⟩) (meth := k10m2) (c := k10c2) (by decide +kernel) rfl rfl rfl (by decide +kernel)
set_option maxRecDepth 65536 in
theorem w_c15 : (Jvm.Cond.code ({ cls := "jdk/internal/util/ArraysSupport", name := "vectorizedHashCode", desc := "(Ljava/lang/Object;IIII)I" } : Jvm.MethodName) jdk_48_method_4_code (5 : Nat) (Option.some Jvm.ClassFile.FieldType.int)).before args0 about1 = true := code_word (m := ⟨11, 1⟩) (meth := k11m1) (c := k11c1) (by decide +kernel) rfl rfl rfl (by decide +kernel)
set_option maxRecDepth 65536 in
theorem w_c16 : (Jvm.Cond.code ({ cls := "jdk/internal/util/ArraysSupport", name := "signedHashCode", desc := "(I[BII)I" } : Jvm.MethodName) jdk_48_method_5_code (6 : Nat) (Option.some Jvm.ClassFile.FieldType.int)).before args0 about1 = true := code_word (m := ⟨11, 2⟩) (meth := k11m2) (c := k11c2) (by decide +kernel) rfl rfl rfl (by decide +kernel)
set_option maxRecDepth 65536 in
theorem w_c17 : (Jvm.Cond.code ({ cls := "com/example/access_decision/accessdecision/AclRightEqualsPinLaw", name := "same", desc := "(II)Z" } : Jvm.MethodName) method_6_code (3 : Nat) (Option.some Jvm.ClassFile.FieldType.boolean)).before args0 about1 = true := code_word (m := ⟨1, 5⟩) (meth := k1m5) (c := k1c5) (by decide +kernel) rfl rfl rfl (by decide +kernel)
set_option maxRecDepth 65536 in
theorem w_c18 : (Jvm.Cond.code ({ cls := "com/example/access_decision/accessdecision/AclRight", name := "equals", desc := "(Ljava/lang/Object;)Z" } : Jvm.MethodName) prog_3_method_4_code (3 : Nat) (Option.some Jvm.ClassFile.FieldType.boolean)).before args0 about1 = true := code_word (m := ⟨9, 1⟩) (meth := k9m1) (c := k9c1) (by decide +kernel) rfl rfl rfl (by decide +kernel)
set_option maxRecDepth 65536 in
theorem w_c19 : (Jvm.Cond.code ({ cls := "java/lang/String", name := "equals", desc := "(Ljava/lang/Object;)Z" } : Jvm.MethodName) jdk_42_method_66_code (3 : Nat) (Option.some Jvm.ClassFile.FieldType.boolean)).before args0 about1 = true := code_word (m := ⟨7, 2⟩) (meth := k7m2) (c := k7c2) (by decide +kernel) rfl rfl rfl (by decide +kernel)
set_option maxRecDepth 65536 in
theorem w_c20 : (Jvm.Cond.code ({ cls := "java/lang/StringLatin1", name := "equals", desc := "([B[B)Z" } : Jvm.MethodName) jdk_43_method_13_code (3 : Nat) (Option.some Jvm.ClassFile.FieldType.boolean)).before args0 about1 = true := code_word (m := ⟨10, 1⟩) (meth := k10m1) (c := k10c1) (by decide +kernel) rfl rfl rfl (by decide +kernel)
def codes1 : List Jvm.Cond := [Jvm.Cond.code x code maxLocals ret, Jvm.Cond.code ({ cls := "com/example/access_decision/accessdecision/AclRightEqualsPinLaw", name := "mk", desc := "(I)Ljava/lang/String;" } : Jvm.MethodName) method_5_code (3 : Nat) (Option.some (Jvm.ClassFile.FieldType.object "java/lang/String")), Jvm.Cond.code ({ cls := "com/example/access_decision/accessdecision/AclRightEqualsPinLaw", name := "len", desc := "(I)I" } : Jvm.MethodName) method_2_code (1 : Nat) (Option.some Jvm.ClassFile.FieldType.int), Jvm.Cond.code ({ cls := "java/lang/String", name := "<init>", desc := "([C)V" } : Jvm.MethodName) jdk_42_method_3_code (2 : Nat) (Option.none : Option Jvm.ClassFile.FieldType), Jvm.Cond.code ({ cls := "java/lang/String", name := "<init>", desc := "([CIILjava/lang/Void;)V" } : Jvm.MethodName) jdk_42_method_149_code (6 : Nat) (Option.none : Option Jvm.ClassFile.FieldType), Jvm.Cond.code ({ cls := "java/lang/Object", name := "<init>", desc := "()V" } : Jvm.MethodName) object_method_1_code (1 : Nat) (Option.none : Option Jvm.ClassFile.FieldType), Jvm.Cond.code ({ cls := "com/example/access_decision/accessdecision/AclRightEqualsPinLaw", name := "c0", desc := "(I)C" } : Jvm.MethodName) method_3_code (1 : Nat) (Option.some Jvm.ClassFile.FieldType.char), Jvm.Cond.code ({ cls := "com/example/access_decision/accessdecision/AclRightEqualsPinLaw", name := "c1", desc := "(I)C" } : Jvm.MethodName) method_4_code (1 : Nat) (Option.some Jvm.ClassFile.FieldType.char), Jvm.Cond.code ({ cls := "java/lang/StringUTF16", name := "compress", desc := "([CII)[B" } : Jvm.MethodName) jdk_52_method_16_code (6 : Nat) (Option.some (Jvm.ClassFile.FieldType.array Jvm.ClassFile.FieldType.byte)), Jvm.Cond.code ({ cls := "java/lang/StringUTF16", name := "compress", desc := "([CI[BII)I" } : Jvm.MethodName) jdk_52_method_21_code (7 : Nat) (Option.some Jvm.ClassFile.FieldType.int), Jvm.Cond.code ({ cls := "java/lang/StringUTF16", name := "coderFromArrayLen", desc := "([BI)B" } : Jvm.MethodName) jdk_52_method_15_code (2 : Nat) (Option.some Jvm.ClassFile.FieldType.byte), Jvm.Cond.code ({ cls := "com/example/access_decision/accessdecision/AclRight", name := "<init>", desc := "(Ljava/lang/String;Ljava/lang/String;)V" } : Jvm.MethodName) prog_3_method_1_code (3 : Nat) (Option.none : Option Jvm.ClassFile.FieldType), Jvm.Cond.code ({ cls := "java/lang/String", name := "hashCode", desc := "()I" } : Jvm.MethodName) jdk_42_method_78_code (2 : Nat) (Option.some Jvm.ClassFile.FieldType.int), Jvm.Cond.code ({ cls := "java/lang/String", name := "isLatin1", desc := "()Z" } : Jvm.MethodName) jdk_42_method_154_code (1 : Nat) (Option.some Jvm.ClassFile.FieldType.boolean), Jvm.Cond.code ({ cls := "java/lang/StringLatin1", name := "hashCode", desc := "([B)I" } : Jvm.MethodName) jdk_43_method_21_code (1 : Nat) (Option.some Jvm.ClassFile.FieldType.int), Jvm.Cond.code ({ cls := "jdk/internal/util/ArraysSupport", name := "vectorizedHashCode", desc := "(Ljava/lang/Object;IIII)I" } : Jvm.MethodName) jdk_48_method_4_code (5 : Nat) (Option.some Jvm.ClassFile.FieldType.int), Jvm.Cond.code ({ cls := "jdk/internal/util/ArraysSupport", name := "signedHashCode", desc := "(I[BII)I" } : Jvm.MethodName) jdk_48_method_5_code (6 : Nat) (Option.some Jvm.ClassFile.FieldType.int), Jvm.Cond.code ({ cls := "com/example/access_decision/accessdecision/AclRightEqualsPinLaw", name := "same", desc := "(II)Z" } : Jvm.MethodName) method_6_code (3 : Nat) (Option.some Jvm.ClassFile.FieldType.boolean), Jvm.Cond.code ({ cls := "com/example/access_decision/accessdecision/AclRight", name := "equals", desc := "(Ljava/lang/Object;)Z" } : Jvm.MethodName) prog_3_method_4_code (3 : Nat) (Option.some Jvm.ClassFile.FieldType.boolean), Jvm.Cond.code ({ cls := "java/lang/String", name := "equals", desc := "(Ljava/lang/Object;)Z" } : Jvm.MethodName) jdk_42_method_66_code (3 : Nat) (Option.some Jvm.ClassFile.FieldType.boolean), Jvm.Cond.code ({ cls := "java/lang/StringLatin1", name := "equals", desc := "([B[B)Z" } : Jvm.MethodName) jdk_43_method_13_code (3 : Nat) (Option.some Jvm.ClassFile.FieldType.boolean)]
set_option maxRecDepth 65536 in
theorem codes_eq : words1.filter isCode = codes1 := rfl
theorem w_codes : ∀ c ∈ words1.filter isCode, c.before args0 about1 = true := by
  rw [codes_eq]
  intro c hc
  simp only [codes1, List.mem_cons, List.not_mem_nil, or_false] at hc
  rcases hc with rfl | rfl | rfl | rfl | rfl | rfl | rfl | rfl | rfl | rfl | rfl | rfl | rfl | rfl | rfl | rfl | rfl | rfl | rfl | rfl | rfl
  · exact w_c0
  · exact w_c1
  · exact w_c2
  · exact w_c3
  · exact w_c4
  · exact w_c5
  · exact w_c6
  · exact w_c7
  · exact w_c8
  · exact w_c9
  · exact w_c10
  · exact w_c11
  · exact w_c12
  · exact w_c13
  · exact w_c14
  · exact w_c15
  · exact w_c16
  · exact w_c17
  · exact w_c18
  · exact w_c19
  · exact w_c20
set_option maxRecDepth 65536 in
theorem w_t1 : (words1.take 24).all (fun c => isCode c || c.before args0 about1) = true := by decide +kernel
set_option maxRecDepth 65536 in
theorem w_t2 : ((words1.drop 24).take 24).all (fun c => isCode c || c.before args0 about1) = true := by decide +kernel
set_option maxRecDepth 65536 in
theorem w_t3 : (((words1.drop 24).drop 24).take 24).all (fun c => isCode c || c.before args0 about1) = true := by decide +kernel
set_option maxRecDepth 65536 in
theorem w_t4 : ((((words1.drop 24).drop 24).drop 24).take 24).all (fun c => isCode c || c.before args0 about1) = true := by decide +kernel
set_option maxRecDepth 65536 in
theorem w_t5 : ((((words1.drop 24).drop 24).drop 24).drop 24).all (fun c => isCode c || c.before args0 about1) = true := by decide +kernel
theorem w_tables : (allAtoms (Jvm.Cond.code x code maxLocals ret :: tables_1)).before args0 about1 = true := by
  rw [allAtoms_all]
  show words1.all (fun c => c.before args0 about1) = true
  refine all_split ?_ w_codes
  rw [← List.take_append_drop 24 words1, List.all_append, w_t1, ← List.take_append_drop 24 (words1.drop 24), List.all_append, w_t2, ← List.take_append_drop 24 ((words1.drop 24).drop 24), List.all_append, w_t3, ← List.take_append_drop 24 (((words1.drop 24).drop 24).drop 24), List.all_append, w_t4, w_t5]
  rfl
set_option maxRecDepth 65536 in
theorem w_rest : rest_1_c.before args0 about1 = true := by decide +kernel
set_option maxRecDepth 65536 in
theorem w_case : (Jvm.Cond.and given_1 narrow_1).before args0 about1 = true := by decide +kernel
set_option maxRecDepth 65536 in
theorem w_consts : constsHeld consts_1 about1 := Jvm.Lit.constsHeldB_iff.mp (by decide +kernel)
theorem w_applies : (headSpec (Jvm.Cond.code x code maxLocals ret :: tables_1) room_1).applies x e0.platform about1 = true :=
  (Spec.applies_iff w_frames).mpr ⟨w_running, w_runnable, w_alone, w_named, w_hears, w_ripe, w_room, w_tables⟩
theorem atStart : AtStart classFile x code maxLocals ret World_1 tables_1 room_1 Calls_1 rest_1 Pre_1 launch0 p0 e0 about1 theMethod args0 below0 :=
  ⟨lists_1, trivial, launch0.admits_env _ _ _, launch0.least_env, fairChoices_fair.cas, fairChoices_fair.clock, w_frames, w_args, w_heap, w_applies, ⟨w_consts, trivial⟩, w_rest, w_case⟩
end start1
theorem witness_1 : WitnessClaimed_1 := ⟨start1.p0, start1.e0, start1.about1, start1.theMethod, start1.args0, start1.below0, start1.atStart⟩
end Jvm.Pilot.@@N@@
