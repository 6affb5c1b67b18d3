import JvmDerived
import JvmDerived.Pilot.@@N@@Statement
import JvmDerived.Pilot.@@N@@Code
set_option linter.unusedVariables false
set_option linter.unusedSimpArgs false
namespace Jvm.RoadKit
open Sem ClassFile Op Lib Jvm.Stand Jvm.Free Jvm.LawKit
section New
variable {p : Program} {l : Launch} {e : Env} {R : Room} {s : State} {m : MethodId} {args : Array Value} {below : List Frame} {meth : Method} {c : Code} {T : State} {locs : List Loc} {cells slots : Nat}
theorem retI (X : Stand p l e R s m args below meth c T locs cells slots) (hx : p.tables.exec = Jvm.exec) {pc : Nat} {Ls : Array Slot} {z : Int32} {rest : List Value} (hret : meth.sig.returnType = some .int) (hd : decode c.code pc = .ok (.ireturn, 1)) {fs : List Frame}
    (hl : ∀ (f : JFrame) (acts : List Action), f.method = m → f.locked = none → f.entered = [] → (doReturn e (T.setTop f) acts (some (.int z))).1 = T.setFrames fs) : Steps p.tables e below (T.setTop (mkF m pc Ls (.int z :: rest))) (T.setFrames fs) := by
  have hm' : T.vm.method? m = some meth := X.method'
  have hn : narrow .int (.int z) = .int z := rfl
  show Steps p.tables e below (T.setTop { method := m, pc := pc, locals := Ls, stack := _ :: rest, locked := none }) _
  jvm_step X.here [X.here.top, hx, hd, hm', hret, hn]
  first | (intro acts; rw [hl _ acts rfl rfl rfl]) | rw [hl _ _ rfl rfl rfl]
  exact Steps.refl _
theorem retL (X : Stand p l e R s m args below meth c T locs cells slots) (hx : p.tables.exec = Jvm.exec) {pc : Nat} {Ls : Array Slot} {z : Int64} {rest : List Value} (hret : meth.sig.returnType = some .long) (hd : decode c.code pc = .ok (.lreturn, 1)) {fs : List Frame}
    (hl : ∀ (f : JFrame) (acts : List Action), f.method = m → f.locked = none → f.entered = [] → (doReturn e (T.setTop f) acts (some (.long z))).1 = T.setFrames fs) : Steps p.tables e below (T.setTop (mkF m pc Ls (.long z :: rest))) (T.setFrames fs) := by
  have hm' : T.vm.method? m = some meth := X.method'
  have hn : narrow .long (.long z) = .long z := rfl
  show Steps p.tables e below (T.setTop { method := m, pc := pc, locals := Ls, stack := _ :: rest, locked := none }) _
  jvm_step X.here [X.here.top, hx, hd, hm', hret, hn]
  first | (intro acts; rw [hl _ acts rfl rfl rfl]) | rw [hl _ _ rfl rfl rfl]
  exact Steps.refl _
theorem retA (X : Stand p l e R s m args below meth c T locs cells slots) (hx : p.tables.exec = Jvm.exec) {pc : Nat} {Ls : Array Slot} {z : Value} {ty : FieldType} {rest : List Value} (hv : z.isRef = true) (hty : ty.isReference = true) (hret : meth.sig.returnType = some ty) (hd : decode c.code pc = .ok (.areturn, 1)) {fs : List Frame}
    (hl : ∀ (f : JFrame) (acts : List Action), f.method = m → f.locked = none → f.entered = [] → (doReturn e (T.setTop f) acts (some z)).1 = T.setFrames fs) : Steps p.tables e below (T.setTop (mkF m pc Ls (z :: rest))) (T.setFrames fs) := by
  have hm' : T.vm.method? m = some meth := X.method'
  show Steps p.tables e below (T.setTop { method := m, pc := pc, locals := Ls, stack := _ :: rest, locked := none }) _
  jvm_step X.here [X.here.top, hx, hd, hm', hret, hv, hty]
  first | (intro acts; rw [hl _ acts rfl rfl rfl]) | rw [hl _ _ rfl rfl rfl]
  exact Steps.refl _
end New
theorem own_fw {tb : Tables} {e : Env} {below : List Frame} {A B : State} {P : State → Outcome → Prop} (h : ∀ t, Steps tb e below A t → Steps tb e below B t) (k : ∃ t o, Steps tb e below A t ∧ P t o) : ∃ t o, Steps tb e below B t ∧ P t o := by
  obtain ⟨t, o, h1, h2⟩ := k
  exact ⟨t, o, h t h1, h2⟩
def own_irem (x y : Int32) : Int32 := x - (x / y) * y
def own_lrem (x y : Int64) : Int64 := x - (x / y) * y
end Jvm.RoadKit
namespace Jvm.Pilot.@@N@@
open Jvm Jvm.ClassFile Sem Op Lib Jvm.Free Jvm.Stand Jvm.LawKit Jvm.RoadKit Bundle Jvm.Pilot.@@N@@.Jvm.D
theorem d1_0 : decode prog_44_method_3_code 0 = .ok (.aload_n 0, 1) := by decide +kernel
theorem d1_1 : decode prog_44_method_3_code 1 = .ok (.ifnonnull 13, 3) := by decide +kernel
theorem d1_7 : decode prog_44_method_3_code 7 = .ok (.dup, 1) := by decide +kernel
theorem d1_14 : decode prog_44_method_3_code 14 = .ok (.aload_n 0, 1) := by decide +kernel
theorem d1_15 : decode prog_44_method_3_code 15 = .ok (.arraylength, 1) := by decide +kernel
theorem d1_16 : decode prog_44_method_3_code 16 = .ok (.iload_n 1, 1) := by decide +kernel
theorem d1_17 : decode prog_44_method_3_code 17 = .ok (.if_icmp .eq 19, 3) := by decide +kernel
theorem d1_23 : decode prog_44_method_3_code 23 = .ok (.dup, 1) := by decide +kernel
theorem d1_24 : decode prog_44_method_3_code 24 = .ok (.aload_n 0, 1) := by decide +kernel
theorem d1_25 : decode prog_44_method_3_code 25 = .ok (.arraylength, 1) := by decide +kernel
theorem d1_26 : decode prog_44_method_3_code 26 = .ok (.iload_n 1, 1) := by decide +kernel
theorem d1_36 : decode prog_44_method_3_code 36 = .ok (.iconst 0, 1) := by decide +kernel
theorem d1_37 : decode prog_44_method_3_code 37 = .ok (.istore_n 2, 1) := by decide +kernel
theorem d1_38 : decode prog_44_method_3_code 38 = .ok (.iload_n 2, 1) := by decide +kernel
theorem d1_39 : decode prog_44_method_3_code 39 = .ok (.iload_n 1, 1) := by decide +kernel
theorem d1_40 : decode prog_44_method_3_code 40 = .ok (.if_icmp .ge 32, 3) := by decide +kernel
theorem d1_43 : decode prog_44_method_3_code 43 = .ok (.aload_n 0, 1) := by decide +kernel
theorem d1_44 : decode prog_44_method_3_code 44 = .ok (.iload_n 2, 1) := by decide +kernel
theorem d1_45 : decode prog_44_method_3_code 45 = .ok (.iaload, 1) := by decide +kernel
theorem d1_46 : decode prog_44_method_3_code 46 = .ok (.ifCond .ge 20, 3) := by decide +kernel
theorem d1_52 : decode prog_44_method_3_code 52 = .ok (.dup, 1) := by decide +kernel
theorem d1_53 : decode prog_44_method_3_code 53 = .ok (.aload_n 0, 1) := by decide +kernel
theorem d1_54 : decode prog_44_method_3_code 54 = .ok (.iload_n 2, 1) := by decide +kernel
theorem d1_55 : decode prog_44_method_3_code 55 = .ok (.iaload, 1) := by decide +kernel
theorem d1_56 : decode prog_44_method_3_code 56 = .ok (.iload_n 2, 1) := by decide +kernel
theorem d1_66 : decode prog_44_method_3_code 66 = .ok (.iinc 2 1, 3) := by decide +kernel
theorem d1_69 : decode prog_44_method_3_code 69 = .ok (.goto (-31), 3) := by decide +kernel
theorem d1_72 : decode prog_44_method_3_code 72 = .ok (.return_, 1) := by decide +kernel
theorem pn1 : plainName "com/example/terms_to_scores/termstoscores/scoring/DocumentScorer" = true := by first | (simp [plainName, overriddenIn]; done) | decide +kernel
theorem ef1 (m : MethodId) (r0 : Addr) (p1 : Int32) : entryFrame m #[(.ref r0), (.int p1)] 3 = mkF m 0 #[.val (.ref r0), .val (.int p1), .unset] [] := by first | (simp [entryFrame, mkF, argsToLocals, Value.category]; done) | rfl
def Q1 (Z : State) (h0 : Heap) (n0 : Nat) (v : Option Value) (h : Heap) (L : List Loc) : Prop := v = none ∧ Fr n0 L ∧ h = h0
set_option maxRecDepth 65536 in
set_option maxHeartbeats 40000000 in
theorem rm1_0 (l : Launch) (Z : State) (a0 : Array Value) (hw : ∀ d ∈ tables_1, d.before a0 Z = true) (ws : List Jvm.Cond) (r0 : Addr) (k : ClassId) (h0 : Heap) (n0 : Nat) (Z0 : n0 ≤ h0.size) (V_r0 : Arv Z h0 r0 k .int (0 : Int32) [] (.int (0 : Int32))) :
    MetFree l (⟨"com/example/terms_to_scores/termstoscores/scoring/DocumentScorer", "checkFrequencies", "([II)V"⟩ : MethodName) (head1 (Jvm.Cond.code (⟨"com/example/terms_to_scores/termstoscores/scoring/DocumentScorer", "checkFrequencies", "([II)V"⟩ : MethodName) prog_44_method_3_code 3 none :: ws) ({ frames := 0, cells := 0, slots := 0, locals := 0 } : Room)) (fun a U => a = #[(.ref r0), (.int (0 : Int32))] ∧ Z.Warmed39 U.vm ∧ U.heap = h0) (fun _ _ _ _ _ => True) (fun _ U o U' => ∃ v L, o = .returned v ∧ Q1 Z  h0 n0 v U'.heap L ∧ FrameEnd U o U' L ({ frames := 0, cells := 0, slots := 0, locals := 0 } : Room).cells ({ frames := 0, cells := 0, slots := 0, locals := 0 } : Room).slots) := by
  refine MetFree.of_bodySF (plainFor_of_name pn1) hisR ?_
  intro p e s m args below meth c s₁ Bd hml0 hP hK
  obtain ⟨rfl, hZ, hh⟩ := hP
  have hx := Bd.exec
  have hby := Bd.bytes
  have hml : c.maxLocals = 3 := hml0
  have hown : s.vm.findClass "com/example/terms_to_scores/termstoscores/scoring/DocumentScorer" = some m.cls := findClass_of_methodNamed Bd.named
  have hnm := (name_of_methodNamed Bd.named Bd.method).1
  have X0 : Stand p l e ({ frames := 0, cells := 0, slots := 0, locals := 0 } : Room) s m #[(.ref r0), (.int (0 : Int32))] below meth c s₁ [] 0 0 := Stand.of_body Bd
  have e0 : s₁.heap = h0 := by rw [← hh, Bd.state]; rfl
  have N0 := Fr.nil n0
  refine own_fw (A := s₁.setTop (mkF m 0 #[.val (.ref r0), .val (.int (0 : Int32)), .unset] [])) (fun t k => castTop (ef1 m r0 (0 : Int32)) k) ?_
  refine own_fw (A := s₁.setTop (mkF m 1 #[.val (.ref r0), .val (.int (0 : Int32)), .unset] [(.ref r0)])) (fun t k => ?_) ?_
  · show Steps p.tables e below (s₁.setTop (mkF m 0 #[.val (.ref r0), .val (.int (0 : Int32)), .unset] [])) t
    refine XS.aloadN X0.here hx rfl (hb hby d1_0) rfl rfl ?_
    exact k
  refine own_fw (A := s₁.setTop (mkF m 14 #[.val (.ref r0), .val (.int (0 : Int32)), .unset] [])) (fun t k => ?_) ?_
  · show Steps p.tables e below (s₁.setTop (mkF m 1 #[.val (.ref r0), .val (.int (0 : Int32)), .unset] [(.ref r0)])) t
    refine XS.ifnonnullYes X0.here hx rfl (pc0 := 1) (pc' := 14) rfl (hb hby d1_1) rfl (by decide) (by decide) ?_
    exact k
  refine own_fw (A := s₁.setTop (mkF m 15 #[.val (.ref r0), .val (.int (0 : Int32)), .unset] [(.ref r0)])) (fun t k => ?_) ?_
  · show Steps p.tables e below (s₁.setTop (mkF m 14 #[.val (.ref r0), .val (.int (0 : Int32)), .unset] [])) t
    refine XS.aloadN X0.here hx rfl (hb hby d1_14) rfl rfl ?_
    exact k
  obtain ⟨cl1_1, Ar1_1, q1_1, S1_1, Ng1_1, Hs1_1, G1_1⟩ := id V_r0
  have st1_1 := X0.arraylength hx (by rw [e0]; exact Ar1_1.1) (State.isArrayOf_alike hZ.alike Ar1_1.2.1) (g := (mkF m 15 #[.val (.ref r0), .val (.int (0 : Int32)), .unset] [(.ref r0)])) rfl rfl (hb hby d1_15)
  rw [len_of S1_1 Ng1_1] at st1_1
  refine own_fw st1_1 ?_
  refine own_fw (A := s₁.setTop (mkF m 72 #[.val (.ref r0), .val (.int (0 : Int32)), .val (.int (0 : Int32))] [])) (fun t k => ?_) ?_
  · show Steps p.tables e below (s₁.setTop (mkF m 16 #[.val (.ref r0), .val (.int (0 : Int32)), .unset] [(.int (0 : Int32))])) t
    refine XS.iloadN X0.here hx rfl (hb hby d1_16) rfl ?_
    show Steps p.tables e below (s₁.setTop (mkF m 17 #[.val (.ref r0), .val (.int (0 : Int32)), .unset] [(.int (0 : Int32)), (.int (0 : Int32))])) t
    refine XS.icmpYes X0.here hx rfl (pc0 := 17) (pc' := 36) rfl (hb hby d1_17) rfl (teq (rfl : (0 : Int32) = (0 : Int32))).1 (by decide) (by decide) ?_
    show Steps p.tables e below (s₁.setTop (mkF m 36 #[.val (.ref r0), .val (.int (0 : Int32)), .unset] [])) t
    refine XS.iconst X0.here hx rfl (hb hby d1_36) ?_
    show Steps p.tables e below (s₁.setTop (mkF m 37 #[.val (.ref r0), .val (.int (0 : Int32)), .unset] [(.int (0 : Int32))])) t
    refine XS.istoreN X0.here hx rfl (hb hby d1_37) rfl (l' := #[.val (.ref r0), .val (.int (0 : Int32)), .val (.int (0 : Int32))]) rfl ?_
    show Steps p.tables e below (s₁.setTop (mkF m 38 #[.val (.ref r0), .val (.int (0 : Int32)), .val (.int (0 : Int32))] [])) t
    refine XS.iloadN X0.here hx rfl (hb hby d1_38) rfl ?_
    show Steps p.tables e below (s₁.setTop (mkF m 39 #[.val (.ref r0), .val (.int (0 : Int32)), .val (.int (0 : Int32))] [(.int (0 : Int32))])) t
    refine XS.iloadN X0.here hx rfl (hb hby d1_39) rfl ?_
    show Steps p.tables e below (s₁.setTop (mkF m 40 #[.val (.ref r0), .val (.int (0 : Int32)), .val (.int (0 : Int32))] [(.int (0 : Int32)), (.int (0 : Int32))])) t
    refine XS.icmpYes X0.here hx rfl (pc0 := 40) (pc' := 72) rfl (hb hby d1_40) rfl (flt (Int32.lt_irrefl : ¬ ((0 : Int32) < (0 : Int32)))).2.1 (by decide) (by decide) ?_
    exact k
  obtain ⟨fs, hr, hrun, hended, hW, hsame⟩ := X0.leave (v := none) (fun _ => rfl)
  refine ⟨_, _, X0.returnOut hx Bd.returns (hb hby d1_72) hr, hrun, hended, _, _, rfl, ?_, ⟨_, rfl⟩, hW, hsame.mono (by decide) (by decide)⟩
  have eh : (s₁.setFrames fs).heap = h0 := e0
  rw [eh]
  exact ⟨rfl, N0, rfl⟩
set_option maxRecDepth 65536 in
set_option maxHeartbeats 40000000 in
theorem rm1_1 (l : Launch) (Z : State) (a0 : Array Value) (hw : ∀ d ∈ tables_1, d.before a0 Z = true) (ws : List Jvm.Cond) (r0 : Addr) (k : ClassId) (x0 : Int32) (h0 : Heap) (n0 : Nat) (Z0 : n0 ≤ h0.size) (V_r0 : Arv Z h0 r0 k .int (1 : Int32) [(.int x0)] (.int (0 : Int32))) (hv0 : ¬ (x0 < (0 : Int32))) :
    MetFree l (⟨"com/example/terms_to_scores/termstoscores/scoring/DocumentScorer", "checkFrequencies", "([II)V"⟩ : MethodName) (head1 (Jvm.Cond.code (⟨"com/example/terms_to_scores/termstoscores/scoring/DocumentScorer", "checkFrequencies", "([II)V"⟩ : MethodName) prog_44_method_3_code 3 none :: ws) ({ frames := 0, cells := 0, slots := 0, locals := 0 } : Room)) (fun a U => a = #[(.ref r0), (.int (1 : Int32))] ∧ Z.Warmed39 U.vm ∧ U.heap = h0) (fun _ _ _ _ _ => True) (fun _ U o U' => ∃ v L, o = .returned v ∧ Q1 Z  h0 n0 v U'.heap L ∧ FrameEnd U o U' L ({ frames := 0, cells := 0, slots := 0, locals := 0 } : Room).cells ({ frames := 0, cells := 0, slots := 0, locals := 0 } : Room).slots) := by
  refine MetFree.of_bodySF (plainFor_of_name pn1) hisR ?_
  intro p e s m args below meth c s₁ Bd hml0 hP hK
  obtain ⟨rfl, hZ, hh⟩ := hP
  have hx := Bd.exec
  have hby := Bd.bytes
  have hml : c.maxLocals = 3 := hml0
  have hown : s.vm.findClass "com/example/terms_to_scores/termstoscores/scoring/DocumentScorer" = some m.cls := findClass_of_methodNamed Bd.named
  have hnm := (name_of_methodNamed Bd.named Bd.method).1
  have X0 : Stand p l e ({ frames := 0, cells := 0, slots := 0, locals := 0 } : Room) s m #[(.ref r0), (.int (1 : Int32))] below meth c s₁ [] 0 0 := Stand.of_body Bd
  have e0 : s₁.heap = h0 := by rw [← hh, Bd.state]; rfl
  have N0 := Fr.nil n0
  refine own_fw (A := s₁.setTop (mkF m 0 #[.val (.ref r0), .val (.int (1 : Int32)), .unset] [])) (fun t k => castTop (ef1 m r0 (1 : Int32)) k) ?_
  refine own_fw (A := s₁.setTop (mkF m 1 #[.val (.ref r0), .val (.int (1 : Int32)), .unset] [(.ref r0)])) (fun t k => ?_) ?_
  · show Steps p.tables e below (s₁.setTop (mkF m 0 #[.val (.ref r0), .val (.int (1 : Int32)), .unset] [])) t
    refine XS.aloadN X0.here hx rfl (hb hby d1_0) rfl rfl ?_
    exact k
  refine own_fw (A := s₁.setTop (mkF m 14 #[.val (.ref r0), .val (.int (1 : Int32)), .unset] [])) (fun t k => ?_) ?_
  · show Steps p.tables e below (s₁.setTop (mkF m 1 #[.val (.ref r0), .val (.int (1 : Int32)), .unset] [(.ref r0)])) t
    refine XS.ifnonnullYes X0.here hx rfl (pc0 := 1) (pc' := 14) rfl (hb hby d1_1) rfl (by decide) (by decide) ?_
    exact k
  refine own_fw (A := s₁.setTop (mkF m 15 #[.val (.ref r0), .val (.int (1 : Int32)), .unset] [(.ref r0)])) (fun t k => ?_) ?_
  · show Steps p.tables e below (s₁.setTop (mkF m 14 #[.val (.ref r0), .val (.int (1 : Int32)), .unset] [])) t
    refine XS.aloadN X0.here hx rfl (hb hby d1_14) rfl rfl ?_
    exact k
  obtain ⟨cl1_1, Ar1_1, q1_1, S1_1, Ng1_1, Hs1_1, G1_1⟩ := id V_r0
  have st1_1 := X0.arraylength hx (by rw [e0]; exact Ar1_1.1) (State.isArrayOf_alike hZ.alike Ar1_1.2.1) (g := (mkF m 15 #[.val (.ref r0), .val (.int (1 : Int32)), .unset] [(.ref r0)])) rfl rfl (hb hby d1_15)
  rw [len_of S1_1 Ng1_1] at st1_1
  refine own_fw st1_1 ?_
  refine own_fw (A := s₁.setTop (mkF m 45 #[.val (.ref r0), .val (.int (1 : Int32)), .val (.int (0 : Int32))] [(.int (0 : Int32)), (.ref r0)])) (fun t k => ?_) ?_
  · show Steps p.tables e below (s₁.setTop (mkF m 16 #[.val (.ref r0), .val (.int (1 : Int32)), .unset] [(.int (1 : Int32))])) t
    refine XS.iloadN X0.here hx rfl (hb hby d1_16) rfl ?_
    show Steps p.tables e below (s₁.setTop (mkF m 17 #[.val (.ref r0), .val (.int (1 : Int32)), .unset] [(.int (1 : Int32)), (.int (1 : Int32))])) t
    refine XS.icmpYes X0.here hx rfl (pc0 := 17) (pc' := 36) rfl (hb hby d1_17) rfl (teq (rfl : (1 : Int32) = (1 : Int32))).1 (by decide) (by decide) ?_
    show Steps p.tables e below (s₁.setTop (mkF m 36 #[.val (.ref r0), .val (.int (1 : Int32)), .unset] [])) t
    refine XS.iconst X0.here hx rfl (hb hby d1_36) ?_
    show Steps p.tables e below (s₁.setTop (mkF m 37 #[.val (.ref r0), .val (.int (1 : Int32)), .unset] [(.int (0 : Int32))])) t
    refine XS.istoreN X0.here hx rfl (hb hby d1_37) rfl (l' := #[.val (.ref r0), .val (.int (1 : Int32)), .val (.int (0 : Int32))]) rfl ?_
    show Steps p.tables e below (s₁.setTop (mkF m 38 #[.val (.ref r0), .val (.int (1 : Int32)), .val (.int (0 : Int32))] [])) t
    refine XS.iloadN X0.here hx rfl (hb hby d1_38) rfl ?_
    show Steps p.tables e below (s₁.setTop (mkF m 39 #[.val (.ref r0), .val (.int (1 : Int32)), .val (.int (0 : Int32))] [(.int (0 : Int32))])) t
    refine XS.iloadN X0.here hx rfl (hb hby d1_39) rfl ?_
    show Steps p.tables e below (s₁.setTop (mkF m 40 #[.val (.ref r0), .val (.int (1 : Int32)), .val (.int (0 : Int32))] [(.int (1 : Int32)), (.int (0 : Int32))])) t
    refine XS.icmpNo X0.here hx rfl (hb hby d1_40) rfl (tlt (by decide : ((0 : Int32) < (1 : Int32)))).2.1 ?_
    show Steps p.tables e below (s₁.setTop (mkF m 43 #[.val (.ref r0), .val (.int (1 : Int32)), .val (.int (0 : Int32))] [])) t
    refine XS.aloadN X0.here hx rfl (hb hby d1_43) rfl rfl ?_
    show Steps p.tables e below (s₁.setTop (mkF m 44 #[.val (.ref r0), .val (.int (1 : Int32)), .val (.int (0 : Int32))] [(.ref r0)])) t
    refine XS.iloadN X0.here hx rfl (hb hby d1_44) rfl ?_
    exact k
  obtain ⟨cl1_2, Ar1_2, q1_2, S1_2, Ng1_2, Hs1_2, G1_2⟩ := id V_r0
  have hin1_2 : ¬ ((0 : Int32) < 0 ∨ cl1_2.slots.size ≤ ((0 : Int32)).toNatClampNeg) := inb_of S1_2 ⟨by decide, by decide⟩
  refine own_fw (X0.iaload hx (j := (0 : Int32)) (v := (.int x0)) (by rw [e0]; exact Ar1_2.1) (State.isArrayOf_alike hZ.alike Ar1_2.2.1) Ar1_2.2.2 hin1_2 (Has.at Hs1_2 hin1_2 rfl) (g := (mkF m 45 #[.val (.ref r0), .val (.int (1 : Int32)), .val (.int (0 : Int32))] [(.int (0 : Int32)), (.ref r0)])) rfl rfl (hb hby d1_45)) ?_
  refine own_fw (A := s₁.setTop (mkF m 72 #[.val (.ref r0), .val (.int (1 : Int32)), .val (.int (1 : Int32))] [])) (fun t k => ?_) ?_
  · show Steps p.tables e below (s₁.setTop (mkF m 46 #[.val (.ref r0), .val (.int (1 : Int32)), .val (.int (0 : Int32))] [(.int x0)])) t
    refine XS.ifYes X0.here hx rfl (pc0 := 46) (pc' := 66) rfl (hb hby d1_46) rfl ((if0 _ _).trans (flt hv0).2.1) (by decide) (by decide) ?_
    show Steps p.tables e below (s₁.setTop (mkF m 66 #[.val (.ref r0), .val (.int (1 : Int32)), .val (.int (0 : Int32))] [])) t
    refine XS.iinc X0.here hx rfl (hb hby d1_66) rfl (l' := #[.val (.ref r0), .val (.int (1 : Int32)), .val (.int (1 : Int32))]) rfl ?_
    show Steps p.tables e below (s₁.setTop (mkF m 69 #[.val (.ref r0), .val (.int (1 : Int32)), .val (.int (1 : Int32))] [])) t
    refine XS.goto X0.here hx rfl (pc0 := 69) (pc' := 38) rfl (hb hby d1_69) (by decide) (by decide) ?_
    show Steps p.tables e below (s₁.setTop (mkF m 38 #[.val (.ref r0), .val (.int (1 : Int32)), .val (.int (1 : Int32))] [])) t
    refine XS.iloadN X0.here hx rfl (hb hby d1_38) rfl ?_
    show Steps p.tables e below (s₁.setTop (mkF m 39 #[.val (.ref r0), .val (.int (1 : Int32)), .val (.int (1 : Int32))] [(.int (1 : Int32))])) t
    refine XS.iloadN X0.here hx rfl (hb hby d1_39) rfl ?_
    show Steps p.tables e below (s₁.setTop (mkF m 40 #[.val (.ref r0), .val (.int (1 : Int32)), .val (.int (1 : Int32))] [(.int (1 : Int32)), (.int (1 : Int32))])) t
    refine XS.icmpYes X0.here hx rfl (pc0 := 40) (pc' := 72) rfl (hb hby d1_40) rfl (flt (Int32.lt_irrefl : ¬ ((1 : Int32) < (1 : Int32)))).2.1 (by decide) (by decide) ?_
    exact k
  obtain ⟨fs, hr, hrun, hended, hW, hsame⟩ := X0.leave (v := none) (fun _ => rfl)
  refine ⟨_, _, X0.returnOut hx Bd.returns (hb hby d1_72) hr, hrun, hended, _, _, rfl, ?_, ⟨_, rfl⟩, hW, hsame.mono (by decide) (by decide)⟩
  have eh : (s₁.setFrames fs).heap = h0 := e0
  rw [eh]
  exact ⟨rfl, N0, rfl⟩
set_option maxRecDepth 65536 in
set_option maxHeartbeats 40000000 in
theorem rm1_2 (l : Launch) (Z : State) (a0 : Array Value) (hw : ∀ d ∈ tables_1, d.before a0 Z = true) (ws : List Jvm.Cond) (r0 : Addr) (k : ClassId) (x0 : Int32) (x1 : Int32) (h0 : Heap) (n0 : Nat) (Z0 : n0 ≤ h0.size) (V_r0 : Arv Z h0 r0 k .int (2 : Int32) [(.int x0), (.int x1)] (.int (0 : Int32))) (hv0 : ¬ (x0 < (0 : Int32))) (hv1 : ¬ (x1 < (0 : Int32))) :
    MetFree l (⟨"com/example/terms_to_scores/termstoscores/scoring/DocumentScorer", "checkFrequencies", "([II)V"⟩ : MethodName) (head1 (Jvm.Cond.code (⟨"com/example/terms_to_scores/termstoscores/scoring/DocumentScorer", "checkFrequencies", "([II)V"⟩ : MethodName) prog_44_method_3_code 3 none :: ws) ({ frames := 0, cells := 0, slots := 0, locals := 0 } : Room)) (fun a U => a = #[(.ref r0), (.int (2 : Int32))] ∧ Z.Warmed39 U.vm ∧ U.heap = h0) (fun _ _ _ _ _ => True) (fun _ U o U' => ∃ v L, o = .returned v ∧ Q1 Z  h0 n0 v U'.heap L ∧ FrameEnd U o U' L ({ frames := 0, cells := 0, slots := 0, locals := 0 } : Room).cells ({ frames := 0, cells := 0, slots := 0, locals := 0 } : Room).slots) := by
  refine MetFree.of_bodySF (plainFor_of_name pn1) hisR ?_
  intro p e s m args below meth c s₁ Bd hml0 hP hK
  obtain ⟨rfl, hZ, hh⟩ := hP
  have hx := Bd.exec
  have hby := Bd.bytes
  have hml : c.maxLocals = 3 := hml0
  have hown : s.vm.findClass "com/example/terms_to_scores/termstoscores/scoring/DocumentScorer" = some m.cls := findClass_of_methodNamed Bd.named
  have hnm := (name_of_methodNamed Bd.named Bd.method).1
  have X0 : Stand p l e ({ frames := 0, cells := 0, slots := 0, locals := 0 } : Room) s m #[(.ref r0), (.int (2 : Int32))] below meth c s₁ [] 0 0 := Stand.of_body Bd
  have e0 : s₁.heap = h0 := by rw [← hh, Bd.state]; rfl
  have N0 := Fr.nil n0
  refine own_fw (A := s₁.setTop (mkF m 0 #[.val (.ref r0), .val (.int (2 : Int32)), .unset] [])) (fun t k => castTop (ef1 m r0 (2 : Int32)) k) ?_
  refine own_fw (A := s₁.setTop (mkF m 1 #[.val (.ref r0), .val (.int (2 : Int32)), .unset] [(.ref r0)])) (fun t k => ?_) ?_
  · show Steps p.tables e below (s₁.setTop (mkF m 0 #[.val (.ref r0), .val (.int (2 : Int32)), .unset] [])) t
    refine XS.aloadN X0.here hx rfl (hb hby d1_0) rfl rfl ?_
    exact k
  refine own_fw (A := s₁.setTop (mkF m 14 #[.val (.ref r0), .val (.int (2 : Int32)), .unset] [])) (fun t k => ?_) ?_
  · show Steps p.tables e below (s₁.setTop (mkF m 1 #[.val (.ref r0), .val (.int (2 : Int32)), .unset] [(.ref r0)])) t
    refine XS.ifnonnullYes X0.here hx rfl (pc0 := 1) (pc' := 14) rfl (hb hby d1_1) rfl (by decide) (by decide) ?_
    exact k
  refine own_fw (A := s₁.setTop (mkF m 15 #[.val (.ref r0), .val (.int (2 : Int32)), .unset] [(.ref r0)])) (fun t k => ?_) ?_
  · show Steps p.tables e below (s₁.setTop (mkF m 14 #[.val (.ref r0), .val (.int (2 : Int32)), .unset] [])) t
    refine XS.aloadN X0.here hx rfl (hb hby d1_14) rfl rfl ?_
    exact k
  obtain ⟨cl1_1, Ar1_1, q1_1, S1_1, Ng1_1, Hs1_1, G1_1⟩ := id V_r0
  have st1_1 := X0.arraylength hx (by rw [e0]; exact Ar1_1.1) (State.isArrayOf_alike hZ.alike Ar1_1.2.1) (g := (mkF m 15 #[.val (.ref r0), .val (.int (2 : Int32)), .unset] [(.ref r0)])) rfl rfl (hb hby d1_15)
  rw [len_of S1_1 Ng1_1] at st1_1
  refine own_fw st1_1 ?_
  refine own_fw (A := s₁.setTop (mkF m 45 #[.val (.ref r0), .val (.int (2 : Int32)), .val (.int (0 : Int32))] [(.int (0 : Int32)), (.ref r0)])) (fun t k => ?_) ?_
  · show Steps p.tables e below (s₁.setTop (mkF m 16 #[.val (.ref r0), .val (.int (2 : Int32)), .unset] [(.int (2 : Int32))])) t
    refine XS.iloadN X0.here hx rfl (hb hby d1_16) rfl ?_
    show Steps p.tables e below (s₁.setTop (mkF m 17 #[.val (.ref r0), .val (.int (2 : Int32)), .unset] [(.int (2 : Int32)), (.int (2 : Int32))])) t
    refine XS.icmpYes X0.here hx rfl (pc0 := 17) (pc' := 36) rfl (hb hby d1_17) rfl (teq (rfl : (2 : Int32) = (2 : Int32))).1 (by decide) (by decide) ?_
    show Steps p.tables e below (s₁.setTop (mkF m 36 #[.val (.ref r0), .val (.int (2 : Int32)), .unset] [])) t
    refine XS.iconst X0.here hx rfl (hb hby d1_36) ?_
    show Steps p.tables e below (s₁.setTop (mkF m 37 #[.val (.ref r0), .val (.int (2 : Int32)), .unset] [(.int (0 : Int32))])) t
    refine XS.istoreN X0.here hx rfl (hb hby d1_37) rfl (l' := #[.val (.ref r0), .val (.int (2 : Int32)), .val (.int (0 : Int32))]) rfl ?_
    show Steps p.tables e below (s₁.setTop (mkF m 38 #[.val (.ref r0), .val (.int (2 : Int32)), .val (.int (0 : Int32))] [])) t
    refine XS.iloadN X0.here hx rfl (hb hby d1_38) rfl ?_
    show Steps p.tables e below (s₁.setTop (mkF m 39 #[.val (.ref r0), .val (.int (2 : Int32)), .val (.int (0 : Int32))] [(.int (0 : Int32))])) t
    refine XS.iloadN X0.here hx rfl (hb hby d1_39) rfl ?_
    show Steps p.tables e below (s₁.setTop (mkF m 40 #[.val (.ref r0), .val (.int (2 : Int32)), .val (.int (0 : Int32))] [(.int (2 : Int32)), (.int (0 : Int32))])) t
    refine XS.icmpNo X0.here hx rfl (hb hby d1_40) rfl (tlt (by decide : ((0 : Int32) < (2 : Int32)))).2.1 ?_
    show Steps p.tables e below (s₁.setTop (mkF m 43 #[.val (.ref r0), .val (.int (2 : Int32)), .val (.int (0 : Int32))] [])) t
    refine XS.aloadN X0.here hx rfl (hb hby d1_43) rfl rfl ?_
    show Steps p.tables e below (s₁.setTop (mkF m 44 #[.val (.ref r0), .val (.int (2 : Int32)), .val (.int (0 : Int32))] [(.ref r0)])) t
    refine XS.iloadN X0.here hx rfl (hb hby d1_44) rfl ?_
    exact k
  obtain ⟨cl1_2, Ar1_2, q1_2, S1_2, Ng1_2, Hs1_2, G1_2⟩ := id V_r0
  have hin1_2 : ¬ ((0 : Int32) < 0 ∨ cl1_2.slots.size ≤ ((0 : Int32)).toNatClampNeg) := inb_of S1_2 ⟨by decide, by decide⟩
  refine own_fw (X0.iaload hx (j := (0 : Int32)) (v := (.int x0)) (by rw [e0]; exact Ar1_2.1) (State.isArrayOf_alike hZ.alike Ar1_2.2.1) Ar1_2.2.2 hin1_2 (Has.at Hs1_2 hin1_2 rfl) (g := (mkF m 45 #[.val (.ref r0), .val (.int (2 : Int32)), .val (.int (0 : Int32))] [(.int (0 : Int32)), (.ref r0)])) rfl rfl (hb hby d1_45)) ?_
  refine own_fw (A := s₁.setTop (mkF m 45 #[.val (.ref r0), .val (.int (2 : Int32)), .val (.int (1 : Int32))] [(.int (1 : Int32)), (.ref r0)])) (fun t k => ?_) ?_
  · show Steps p.tables e below (s₁.setTop (mkF m 46 #[.val (.ref r0), .val (.int (2 : Int32)), .val (.int (0 : Int32))] [(.int x0)])) t
    refine XS.ifYes X0.here hx rfl (pc0 := 46) (pc' := 66) rfl (hb hby d1_46) rfl ((if0 _ _).trans (flt hv0).2.1) (by decide) (by decide) ?_
    show Steps p.tables e below (s₁.setTop (mkF m 66 #[.val (.ref r0), .val (.int (2 : Int32)), .val (.int (0 : Int32))] [])) t
    refine XS.iinc X0.here hx rfl (hb hby d1_66) rfl (l' := #[.val (.ref r0), .val (.int (2 : Int32)), .val (.int (1 : Int32))]) rfl ?_
    show Steps p.tables e below (s₁.setTop (mkF m 69 #[.val (.ref r0), .val (.int (2 : Int32)), .val (.int (1 : Int32))] [])) t
    refine XS.goto X0.here hx rfl (pc0 := 69) (pc' := 38) rfl (hb hby d1_69) (by decide) (by decide) ?_
    show Steps p.tables e below (s₁.setTop (mkF m 38 #[.val (.ref r0), .val (.int (2 : Int32)), .val (.int (1 : Int32))] [])) t
    refine XS.iloadN X0.here hx rfl (hb hby d1_38) rfl ?_
    show Steps p.tables e below (s₁.setTop (mkF m 39 #[.val (.ref r0), .val (.int (2 : Int32)), .val (.int (1 : Int32))] [(.int (1 : Int32))])) t
    refine XS.iloadN X0.here hx rfl (hb hby d1_39) rfl ?_
    show Steps p.tables e below (s₁.setTop (mkF m 40 #[.val (.ref r0), .val (.int (2 : Int32)), .val (.int (1 : Int32))] [(.int (2 : Int32)), (.int (1 : Int32))])) t
    refine XS.icmpNo X0.here hx rfl (hb hby d1_40) rfl (tlt (by decide : ((1 : Int32) < (2 : Int32)))).2.1 ?_
    show Steps p.tables e below (s₁.setTop (mkF m 43 #[.val (.ref r0), .val (.int (2 : Int32)), .val (.int (1 : Int32))] [])) t
    refine XS.aloadN X0.here hx rfl (hb hby d1_43) rfl rfl ?_
    show Steps p.tables e below (s₁.setTop (mkF m 44 #[.val (.ref r0), .val (.int (2 : Int32)), .val (.int (1 : Int32))] [(.ref r0)])) t
    refine XS.iloadN X0.here hx rfl (hb hby d1_44) rfl ?_
    exact k
  obtain ⟨cl1_3, Ar1_3, q1_3, S1_3, Ng1_3, Hs1_3, G1_3⟩ := id V_r0
  have hin1_3 : ¬ ((1 : Int32) < 0 ∨ cl1_3.slots.size ≤ ((1 : Int32)).toNatClampNeg) := inb_of S1_3 ⟨by decide, by decide⟩
  refine own_fw (X0.iaload hx (j := (1 : Int32)) (v := (.int x1)) (by rw [e0]; exact Ar1_3.1) (State.isArrayOf_alike hZ.alike Ar1_3.2.1) Ar1_3.2.2 hin1_3 (Has.at Hs1_3 hin1_3 rfl) (g := (mkF m 45 #[.val (.ref r0), .val (.int (2 : Int32)), .val (.int (1 : Int32))] [(.int (1 : Int32)), (.ref r0)])) rfl rfl (hb hby d1_45)) ?_
  refine own_fw (A := s₁.setTop (mkF m 72 #[.val (.ref r0), .val (.int (2 : Int32)), .val (.int (2 : Int32))] [])) (fun t k => ?_) ?_
  · show Steps p.tables e below (s₁.setTop (mkF m 46 #[.val (.ref r0), .val (.int (2 : Int32)), .val (.int (1 : Int32))] [(.int x1)])) t
    refine XS.ifYes X0.here hx rfl (pc0 := 46) (pc' := 66) rfl (hb hby d1_46) rfl ((if0 _ _).trans (flt hv1).2.1) (by decide) (by decide) ?_
    show Steps p.tables e below (s₁.setTop (mkF m 66 #[.val (.ref r0), .val (.int (2 : Int32)), .val (.int (1 : Int32))] [])) t
    refine XS.iinc X0.here hx rfl (hb hby d1_66) rfl (l' := #[.val (.ref r0), .val (.int (2 : Int32)), .val (.int (2 : Int32))]) rfl ?_
    show Steps p.tables e below (s₁.setTop (mkF m 69 #[.val (.ref r0), .val (.int (2 : Int32)), .val (.int (2 : Int32))] [])) t
    refine XS.goto X0.here hx rfl (pc0 := 69) (pc' := 38) rfl (hb hby d1_69) (by decide) (by decide) ?_
    show Steps p.tables e below (s₁.setTop (mkF m 38 #[.val (.ref r0), .val (.int (2 : Int32)), .val (.int (2 : Int32))] [])) t
    refine XS.iloadN X0.here hx rfl (hb hby d1_38) rfl ?_
    show Steps p.tables e below (s₁.setTop (mkF m 39 #[.val (.ref r0), .val (.int (2 : Int32)), .val (.int (2 : Int32))] [(.int (2 : Int32))])) t
    refine XS.iloadN X0.here hx rfl (hb hby d1_39) rfl ?_
    show Steps p.tables e below (s₁.setTop (mkF m 40 #[.val (.ref r0), .val (.int (2 : Int32)), .val (.int (2 : Int32))] [(.int (2 : Int32)), (.int (2 : Int32))])) t
    refine XS.icmpYes X0.here hx rfl (pc0 := 40) (pc' := 72) rfl (hb hby d1_40) rfl (flt (Int32.lt_irrefl : ¬ ((2 : Int32) < (2 : Int32)))).2.1 (by decide) (by decide) ?_
    exact k
  obtain ⟨fs, hr, hrun, hended, hW, hsame⟩ := X0.leave (v := none) (fun _ => rfl)
  refine ⟨_, _, X0.returnOut hx Bd.returns (hb hby d1_72) hr, hrun, hended, _, _, rfl, ?_, ⟨_, rfl⟩, hW, hsame.mono (by decide) (by decide)⟩
  have eh : (s₁.setFrames fs).heap = h0 := e0
  rw [eh]
  exact ⟨rfl, N0, rfl⟩
set_option maxRecDepth 65536 in
set_option maxHeartbeats 40000000 in
theorem rm1_3 (l : Launch) (Z : State) (a0 : Array Value) (hw : ∀ d ∈ tables_1, d.before a0 Z = true) (ws : List Jvm.Cond) (r0 : Addr) (k : ClassId) (x0 : Int32) (x1 : Int32) (x2 : Int32) (h0 : Heap) (n0 : Nat) (Z0 : n0 ≤ h0.size) (V_r0 : Arv Z h0 r0 k .int (3 : Int32) [(.int x0), (.int x1), (.int x2)] (.int (0 : Int32))) (hv0 : ¬ (x0 < (0 : Int32))) (hv1 : ¬ (x1 < (0 : Int32))) (hv2 : ¬ (x2 < (0 : Int32))) :
    MetFree l (⟨"com/example/terms_to_scores/termstoscores/scoring/DocumentScorer", "checkFrequencies", "([II)V"⟩ : MethodName) (head1 (Jvm.Cond.code (⟨"com/example/terms_to_scores/termstoscores/scoring/DocumentScorer", "checkFrequencies", "([II)V"⟩ : MethodName) prog_44_method_3_code 3 none :: ws) ({ frames := 0, cells := 0, slots := 0, locals := 0 } : Room)) (fun a U => a = #[(.ref r0), (.int (3 : Int32))] ∧ Z.Warmed39 U.vm ∧ U.heap = h0) (fun _ _ _ _ _ => True) (fun _ U o U' => ∃ v L, o = .returned v ∧ Q1 Z  h0 n0 v U'.heap L ∧ FrameEnd U o U' L ({ frames := 0, cells := 0, slots := 0, locals := 0 } : Room).cells ({ frames := 0, cells := 0, slots := 0, locals := 0 } : Room).slots) := by
  refine MetFree.of_bodySF (plainFor_of_name pn1) hisR ?_
  intro p e s m args below meth c s₁ Bd hml0 hP hK
  obtain ⟨rfl, hZ, hh⟩ := hP
  have hx := Bd.exec
  have hby := Bd.bytes
  have hml : c.maxLocals = 3 := hml0
  have hown : s.vm.findClass "com/example/terms_to_scores/termstoscores/scoring/DocumentScorer" = some m.cls := findClass_of_methodNamed Bd.named
  have hnm := (name_of_methodNamed Bd.named Bd.method).1
  have X0 : Stand p l e ({ frames := 0, cells := 0, slots := 0, locals := 0 } : Room) s m #[(.ref r0), (.int (3 : Int32))] below meth c s₁ [] 0 0 := Stand.of_body Bd
  have e0 : s₁.heap = h0 := by rw [← hh, Bd.state]; rfl
  have N0 := Fr.nil n0
  refine own_fw (A := s₁.setTop (mkF m 0 #[.val (.ref r0), .val (.int (3 : Int32)), .unset] [])) (fun t k => castTop (ef1 m r0 (3 : Int32)) k) ?_
  refine own_fw (A := s₁.setTop (mkF m 1 #[.val (.ref r0), .val (.int (3 : Int32)), .unset] [(.ref r0)])) (fun t k => ?_) ?_
  · show Steps p.tables e below (s₁.setTop (mkF m 0 #[.val (.ref r0), .val (.int (3 : Int32)), .unset] [])) t
    refine XS.aloadN X0.here hx rfl (hb hby d1_0) rfl rfl ?_
    exact k
  refine own_fw (A := s₁.setTop (mkF m 14 #[.val (.ref r0), .val (.int (3 : Int32)), .unset] [])) (fun t k => ?_) ?_
  · show Steps p.tables e below (s₁.setTop (mkF m 1 #[.val (.ref r0), .val (.int (3 : Int32)), .unset] [(.ref r0)])) t
    refine XS.ifnonnullYes X0.here hx rfl (pc0 := 1) (pc' := 14) rfl (hb hby d1_1) rfl (by decide) (by decide) ?_
    exact k
  refine own_fw (A := s₁.setTop (mkF m 15 #[.val (.ref r0), .val (.int (3 : Int32)), .unset] [(.ref r0)])) (fun t k => ?_) ?_
  · show Steps p.tables e below (s₁.setTop (mkF m 14 #[.val (.ref r0), .val (.int (3 : Int32)), .unset] [])) t
    refine XS.aloadN X0.here hx rfl (hb hby d1_14) rfl rfl ?_
    exact k
  obtain ⟨cl1_1, Ar1_1, q1_1, S1_1, Ng1_1, Hs1_1, G1_1⟩ := id V_r0
  have st1_1 := X0.arraylength hx (by rw [e0]; exact Ar1_1.1) (State.isArrayOf_alike hZ.alike Ar1_1.2.1) (g := (mkF m 15 #[.val (.ref r0), .val (.int (3 : Int32)), .unset] [(.ref r0)])) rfl rfl (hb hby d1_15)
  rw [len_of S1_1 Ng1_1] at st1_1
  refine own_fw st1_1 ?_
  refine own_fw (A := s₁.setTop (mkF m 45 #[.val (.ref r0), .val (.int (3 : Int32)), .val (.int (0 : Int32))] [(.int (0 : Int32)), (.ref r0)])) (fun t k => ?_) ?_
  · show Steps p.tables e below (s₁.setTop (mkF m 16 #[.val (.ref r0), .val (.int (3 : Int32)), .unset] [(.int (3 : Int32))])) t
    refine XS.iloadN X0.here hx rfl (hb hby d1_16) rfl ?_
    show Steps p.tables e below (s₁.setTop (mkF m 17 #[.val (.ref r0), .val (.int (3 : Int32)), .unset] [(.int (3 : Int32)), (.int (3 : Int32))])) t
    refine XS.icmpYes X0.here hx rfl (pc0 := 17) (pc' := 36) rfl (hb hby d1_17) rfl (teq (rfl : (3 : Int32) = (3 : Int32))).1 (by decide) (by decide) ?_
    show Steps p.tables e below (s₁.setTop (mkF m 36 #[.val (.ref r0), .val (.int (3 : Int32)), .unset] [])) t
    refine XS.iconst X0.here hx rfl (hb hby d1_36) ?_
    show Steps p.tables e below (s₁.setTop (mkF m 37 #[.val (.ref r0), .val (.int (3 : Int32)), .unset] [(.int (0 : Int32))])) t
    refine XS.istoreN X0.here hx rfl (hb hby d1_37) rfl (l' := #[.val (.ref r0), .val (.int (3 : Int32)), .val (.int (0 : Int32))]) rfl ?_
    show Steps p.tables e below (s₁.setTop (mkF m 38 #[.val (.ref r0), .val (.int (3 : Int32)), .val (.int (0 : Int32))] [])) t
    refine XS.iloadN X0.here hx rfl (hb hby d1_38) rfl ?_
    show Steps p.tables e below (s₁.setTop (mkF m 39 #[.val (.ref r0), .val (.int (3 : Int32)), .val (.int (0 : Int32))] [(.int (0 : Int32))])) t
    refine XS.iloadN X0.here hx rfl (hb hby d1_39) rfl ?_
    show Steps p.tables e below (s₁.setTop (mkF m 40 #[.val (.ref r0), .val (.int (3 : Int32)), .val (.int (0 : Int32))] [(.int (3 : Int32)), (.int (0 : Int32))])) t
    refine XS.icmpNo X0.here hx rfl (hb hby d1_40) rfl (tlt (by decide : ((0 : Int32) < (3 : Int32)))).2.1 ?_
    show Steps p.tables e below (s₁.setTop (mkF m 43 #[.val (.ref r0), .val (.int (3 : Int32)), .val (.int (0 : Int32))] [])) t
    refine XS.aloadN X0.here hx rfl (hb hby d1_43) rfl rfl ?_
    show Steps p.tables e below (s₁.setTop (mkF m 44 #[.val (.ref r0), .val (.int (3 : Int32)), .val (.int (0 : Int32))] [(.ref r0)])) t
    refine XS.iloadN X0.here hx rfl (hb hby d1_44) rfl ?_
    exact k
  obtain ⟨cl1_2, Ar1_2, q1_2, S1_2, Ng1_2, Hs1_2, G1_2⟩ := id V_r0
  have hin1_2 : ¬ ((0 : Int32) < 0 ∨ cl1_2.slots.size ≤ ((0 : Int32)).toNatClampNeg) := inb_of S1_2 ⟨by decide, by decide⟩
  refine own_fw (X0.iaload hx (j := (0 : Int32)) (v := (.int x0)) (by rw [e0]; exact Ar1_2.1) (State.isArrayOf_alike hZ.alike Ar1_2.2.1) Ar1_2.2.2 hin1_2 (Has.at Hs1_2 hin1_2 rfl) (g := (mkF m 45 #[.val (.ref r0), .val (.int (3 : Int32)), .val (.int (0 : Int32))] [(.int (0 : Int32)), (.ref r0)])) rfl rfl (hb hby d1_45)) ?_
  refine own_fw (A := s₁.setTop (mkF m 45 #[.val (.ref r0), .val (.int (3 : Int32)), .val (.int (1 : Int32))] [(.int (1 : Int32)), (.ref r0)])) (fun t k => ?_) ?_
  · show Steps p.tables e below (s₁.setTop (mkF m 46 #[.val (.ref r0), .val (.int (3 : Int32)), .val (.int (0 : Int32))] [(.int x0)])) t
    refine XS.ifYes X0.here hx rfl (pc0 := 46) (pc' := 66) rfl (hb hby d1_46) rfl ((if0 _ _).trans (flt hv0).2.1) (by decide) (by decide) ?_
    show Steps p.tables e below (s₁.setTop (mkF m 66 #[.val (.ref r0), .val (.int (3 : Int32)), .val (.int (0 : Int32))] [])) t
    refine XS.iinc X0.here hx rfl (hb hby d1_66) rfl (l' := #[.val (.ref r0), .val (.int (3 : Int32)), .val (.int (1 : Int32))]) rfl ?_
    show Steps p.tables e below (s₁.setTop (mkF m 69 #[.val (.ref r0), .val (.int (3 : Int32)), .val (.int (1 : Int32))] [])) t
    refine XS.goto X0.here hx rfl (pc0 := 69) (pc' := 38) rfl (hb hby d1_69) (by decide) (by decide) ?_
    show Steps p.tables e below (s₁.setTop (mkF m 38 #[.val (.ref r0), .val (.int (3 : Int32)), .val (.int (1 : Int32))] [])) t
    refine XS.iloadN X0.here hx rfl (hb hby d1_38) rfl ?_
    show Steps p.tables e below (s₁.setTop (mkF m 39 #[.val (.ref r0), .val (.int (3 : Int32)), .val (.int (1 : Int32))] [(.int (1 : Int32))])) t
    refine XS.iloadN X0.here hx rfl (hb hby d1_39) rfl ?_
    show Steps p.tables e below (s₁.setTop (mkF m 40 #[.val (.ref r0), .val (.int (3 : Int32)), .val (.int (1 : Int32))] [(.int (3 : Int32)), (.int (1 : Int32))])) t
    refine XS.icmpNo X0.here hx rfl (hb hby d1_40) rfl (tlt (by decide : ((1 : Int32) < (3 : Int32)))).2.1 ?_
    show Steps p.tables e below (s₁.setTop (mkF m 43 #[.val (.ref r0), .val (.int (3 : Int32)), .val (.int (1 : Int32))] [])) t
    refine XS.aloadN X0.here hx rfl (hb hby d1_43) rfl rfl ?_
    show Steps p.tables e below (s₁.setTop (mkF m 44 #[.val (.ref r0), .val (.int (3 : Int32)), .val (.int (1 : Int32))] [(.ref r0)])) t
    refine XS.iloadN X0.here hx rfl (hb hby d1_44) rfl ?_
    exact k
  obtain ⟨cl1_3, Ar1_3, q1_3, S1_3, Ng1_3, Hs1_3, G1_3⟩ := id V_r0
  have hin1_3 : ¬ ((1 : Int32) < 0 ∨ cl1_3.slots.size ≤ ((1 : Int32)).toNatClampNeg) := inb_of S1_3 ⟨by decide, by decide⟩
  refine own_fw (X0.iaload hx (j := (1 : Int32)) (v := (.int x1)) (by rw [e0]; exact Ar1_3.1) (State.isArrayOf_alike hZ.alike Ar1_3.2.1) Ar1_3.2.2 hin1_3 (Has.at Hs1_3 hin1_3 rfl) (g := (mkF m 45 #[.val (.ref r0), .val (.int (3 : Int32)), .val (.int (1 : Int32))] [(.int (1 : Int32)), (.ref r0)])) rfl rfl (hb hby d1_45)) ?_
  refine own_fw (A := s₁.setTop (mkF m 45 #[.val (.ref r0), .val (.int (3 : Int32)), .val (.int (2 : Int32))] [(.int (2 : Int32)), (.ref r0)])) (fun t k => ?_) ?_
  · show Steps p.tables e below (s₁.setTop (mkF m 46 #[.val (.ref r0), .val (.int (3 : Int32)), .val (.int (1 : Int32))] [(.int x1)])) t
    refine XS.ifYes X0.here hx rfl (pc0 := 46) (pc' := 66) rfl (hb hby d1_46) rfl ((if0 _ _).trans (flt hv1).2.1) (by decide) (by decide) ?_
    show Steps p.tables e below (s₁.setTop (mkF m 66 #[.val (.ref r0), .val (.int (3 : Int32)), .val (.int (1 : Int32))] [])) t
    refine XS.iinc X0.here hx rfl (hb hby d1_66) rfl (l' := #[.val (.ref r0), .val (.int (3 : Int32)), .val (.int (2 : Int32))]) rfl ?_
    show Steps p.tables e below (s₁.setTop (mkF m 69 #[.val (.ref r0), .val (.int (3 : Int32)), .val (.int (2 : Int32))] [])) t
    refine XS.goto X0.here hx rfl (pc0 := 69) (pc' := 38) rfl (hb hby d1_69) (by decide) (by decide) ?_
    show Steps p.tables e below (s₁.setTop (mkF m 38 #[.val (.ref r0), .val (.int (3 : Int32)), .val (.int (2 : Int32))] [])) t
    refine XS.iloadN X0.here hx rfl (hb hby d1_38) rfl ?_
    show Steps p.tables e below (s₁.setTop (mkF m 39 #[.val (.ref r0), .val (.int (3 : Int32)), .val (.int (2 : Int32))] [(.int (2 : Int32))])) t
    refine XS.iloadN X0.here hx rfl (hb hby d1_39) rfl ?_
    show Steps p.tables e below (s₁.setTop (mkF m 40 #[.val (.ref r0), .val (.int (3 : Int32)), .val (.int (2 : Int32))] [(.int (3 : Int32)), (.int (2 : Int32))])) t
    refine XS.icmpNo X0.here hx rfl (hb hby d1_40) rfl (tlt (by decide : ((2 : Int32) < (3 : Int32)))).2.1 ?_
    show Steps p.tables e below (s₁.setTop (mkF m 43 #[.val (.ref r0), .val (.int (3 : Int32)), .val (.int (2 : Int32))] [])) t
    refine XS.aloadN X0.here hx rfl (hb hby d1_43) rfl rfl ?_
    show Steps p.tables e below (s₁.setTop (mkF m 44 #[.val (.ref r0), .val (.int (3 : Int32)), .val (.int (2 : Int32))] [(.ref r0)])) t
    refine XS.iloadN X0.here hx rfl (hb hby d1_44) rfl ?_
    exact k
  obtain ⟨cl1_4, Ar1_4, q1_4, S1_4, Ng1_4, Hs1_4, G1_4⟩ := id V_r0
  have hin1_4 : ¬ ((2 : Int32) < 0 ∨ cl1_4.slots.size ≤ ((2 : Int32)).toNatClampNeg) := inb_of S1_4 ⟨by decide, by decide⟩
  refine own_fw (X0.iaload hx (j := (2 : Int32)) (v := (.int x2)) (by rw [e0]; exact Ar1_4.1) (State.isArrayOf_alike hZ.alike Ar1_4.2.1) Ar1_4.2.2 hin1_4 (Has.at Hs1_4 hin1_4 rfl) (g := (mkF m 45 #[.val (.ref r0), .val (.int (3 : Int32)), .val (.int (2 : Int32))] [(.int (2 : Int32)), (.ref r0)])) rfl rfl (hb hby d1_45)) ?_
  refine own_fw (A := s₁.setTop (mkF m 72 #[.val (.ref r0), .val (.int (3 : Int32)), .val (.int (3 : Int32))] [])) (fun t k => ?_) ?_
  · show Steps p.tables e below (s₁.setTop (mkF m 46 #[.val (.ref r0), .val (.int (3 : Int32)), .val (.int (2 : Int32))] [(.int x2)])) t
    refine XS.ifYes X0.here hx rfl (pc0 := 46) (pc' := 66) rfl (hb hby d1_46) rfl ((if0 _ _).trans (flt hv2).2.1) (by decide) (by decide) ?_
    show Steps p.tables e below (s₁.setTop (mkF m 66 #[.val (.ref r0), .val (.int (3 : Int32)), .val (.int (2 : Int32))] [])) t
    refine XS.iinc X0.here hx rfl (hb hby d1_66) rfl (l' := #[.val (.ref r0), .val (.int (3 : Int32)), .val (.int (3 : Int32))]) rfl ?_
    show Steps p.tables e below (s₁.setTop (mkF m 69 #[.val (.ref r0), .val (.int (3 : Int32)), .val (.int (3 : Int32))] [])) t
    refine XS.goto X0.here hx rfl (pc0 := 69) (pc' := 38) rfl (hb hby d1_69) (by decide) (by decide) ?_
    show Steps p.tables e below (s₁.setTop (mkF m 38 #[.val (.ref r0), .val (.int (3 : Int32)), .val (.int (3 : Int32))] [])) t
    refine XS.iloadN X0.here hx rfl (hb hby d1_38) rfl ?_
    show Steps p.tables e below (s₁.setTop (mkF m 39 #[.val (.ref r0), .val (.int (3 : Int32)), .val (.int (3 : Int32))] [(.int (3 : Int32))])) t
    refine XS.iloadN X0.here hx rfl (hb hby d1_39) rfl ?_
    show Steps p.tables e below (s₁.setTop (mkF m 40 #[.val (.ref r0), .val (.int (3 : Int32)), .val (.int (3 : Int32))] [(.int (3 : Int32)), (.int (3 : Int32))])) t
    refine XS.icmpYes X0.here hx rfl (pc0 := 40) (pc' := 72) rfl (hb hby d1_40) rfl (flt (Int32.lt_irrefl : ¬ ((3 : Int32) < (3 : Int32)))).2.1 (by decide) (by decide) ?_
    exact k
  obtain ⟨fs, hr, hrun, hended, hW, hsame⟩ := X0.leave (v := none) (fun _ => rfl)
  refine ⟨_, _, X0.returnOut hx Bd.returns (hb hby d1_72) hr, hrun, hended, _, _, rfl, ?_, ⟨_, rfl⟩, hW, hsame.mono (by decide) (by decide)⟩
  have eh : (s₁.setFrames fs).heap = h0 := e0
  rw [eh]
  exact ⟨rfl, N0, rfl⟩
set_option maxRecDepth 65536 in
set_option maxHeartbeats 40000000 in
theorem rm1_4 (l : Launch) (Z : State) (a0 : Array Value) (hw : ∀ d ∈ tables_1, d.before a0 Z = true) (ws : List Jvm.Cond) (r0 : Addr) (k : ClassId) (x0 : Int32) (x1 : Int32) (x2 : Int32) (x3 : Int32) (h0 : Heap) (n0 : Nat) (Z0 : n0 ≤ h0.size) (V_r0 : Arv Z h0 r0 k .int (4 : Int32) [(.int x0), (.int x1), (.int x2), (.int x3)] (.int (0 : Int32))) (hv0 : ¬ (x0 < (0 : Int32))) (hv1 : ¬ (x1 < (0 : Int32))) (hv2 : ¬ (x2 < (0 : Int32))) (hv3 : ¬ (x3 < (0 : Int32))) :
    MetFree l (⟨"com/example/terms_to_scores/termstoscores/scoring/DocumentScorer", "checkFrequencies", "([II)V"⟩ : MethodName) (head1 (Jvm.Cond.code (⟨"com/example/terms_to_scores/termstoscores/scoring/DocumentScorer", "checkFrequencies", "([II)V"⟩ : MethodName) prog_44_method_3_code 3 none :: ws) ({ frames := 0, cells := 0, slots := 0, locals := 0 } : Room)) (fun a U => a = #[(.ref r0), (.int (4 : Int32))] ∧ Z.Warmed39 U.vm ∧ U.heap = h0) (fun _ _ _ _ _ => True) (fun _ U o U' => ∃ v L, o = .returned v ∧ Q1 Z  h0 n0 v U'.heap L ∧ FrameEnd U o U' L ({ frames := 0, cells := 0, slots := 0, locals := 0 } : Room).cells ({ frames := 0, cells := 0, slots := 0, locals := 0 } : Room).slots) := by
  refine MetFree.of_bodySF (plainFor_of_name pn1) hisR ?_
  intro p e s m args below meth c s₁ Bd hml0 hP hK
  obtain ⟨rfl, hZ, hh⟩ := hP
  have hx := Bd.exec
  have hby := Bd.bytes
  have hml : c.maxLocals = 3 := hml0
  have hown : s.vm.findClass "com/example/terms_to_scores/termstoscores/scoring/DocumentScorer" = some m.cls := findClass_of_methodNamed Bd.named
  have hnm := (name_of_methodNamed Bd.named Bd.method).1
  have X0 : Stand p l e ({ frames := 0, cells := 0, slots := 0, locals := 0 } : Room) s m #[(.ref r0), (.int (4 : Int32))] below meth c s₁ [] 0 0 := Stand.of_body Bd
  have e0 : s₁.heap = h0 := by rw [← hh, Bd.state]; rfl
  have N0 := Fr.nil n0
  refine own_fw (A := s₁.setTop (mkF m 0 #[.val (.ref r0), .val (.int (4 : Int32)), .unset] [])) (fun t k => castTop (ef1 m r0 (4 : Int32)) k) ?_
  refine own_fw (A := s₁.setTop (mkF m 1 #[.val (.ref r0), .val (.int (4 : Int32)), .unset] [(.ref r0)])) (fun t k => ?_) ?_
  · show Steps p.tables e below (s₁.setTop (mkF m 0 #[.val (.ref r0), .val (.int (4 : Int32)), .unset] [])) t
    refine XS.aloadN X0.here hx rfl (hb hby d1_0) rfl rfl ?_
    exact k
  refine own_fw (A := s₁.setTop (mkF m 14 #[.val (.ref r0), .val (.int (4 : Int32)), .unset] [])) (fun t k => ?_) ?_
  · show Steps p.tables e below (s₁.setTop (mkF m 1 #[.val (.ref r0), .val (.int (4 : Int32)), .unset] [(.ref r0)])) t
    refine XS.ifnonnullYes X0.here hx rfl (pc0 := 1) (pc' := 14) rfl (hb hby d1_1) rfl (by decide) (by decide) ?_
    exact k
  refine own_fw (A := s₁.setTop (mkF m 15 #[.val (.ref r0), .val (.int (4 : Int32)), .unset] [(.ref r0)])) (fun t k => ?_) ?_
  · show Steps p.tables e below (s₁.setTop (mkF m 14 #[.val (.ref r0), .val (.int (4 : Int32)), .unset] [])) t
    refine XS.aloadN X0.here hx rfl (hb hby d1_14) rfl rfl ?_
    exact k
  obtain ⟨cl1_1, Ar1_1, q1_1, S1_1, Ng1_1, Hs1_1, G1_1⟩ := id V_r0
  have st1_1 := X0.arraylength hx (by rw [e0]; exact Ar1_1.1) (State.isArrayOf_alike hZ.alike Ar1_1.2.1) (g := (mkF m 15 #[.val (.ref r0), .val (.int (4 : Int32)), .unset] [(.ref r0)])) rfl rfl (hb hby d1_15)
  rw [len_of S1_1 Ng1_1] at st1_1
  refine own_fw st1_1 ?_
  refine own_fw (A := s₁.setTop (mkF m 45 #[.val (.ref r0), .val (.int (4 : Int32)), .val (.int (0 : Int32))] [(.int (0 : Int32)), (.ref r0)])) (fun t k => ?_) ?_
  · show Steps p.tables e below (s₁.setTop (mkF m 16 #[.val (.ref r0), .val (.int (4 : Int32)), .unset] [(.int (4 : Int32))])) t
    refine XS.iloadN X0.here hx rfl (hb hby d1_16) rfl ?_
    show Steps p.tables e below (s₁.setTop (mkF m 17 #[.val (.ref r0), .val (.int (4 : Int32)), .unset] [(.int (4 : Int32)), (.int (4 : Int32))])) t
    refine XS.icmpYes X0.here hx rfl (pc0 := 17) (pc' := 36) rfl (hb hby d1_17) rfl (teq (rfl : (4 : Int32) = (4 : Int32))).1 (by decide) (by decide) ?_
    show Steps p.tables e below (s₁.setTop (mkF m 36 #[.val (.ref r0), .val (.int (4 : Int32)), .unset] [])) t
    refine XS.iconst X0.here hx rfl (hb hby d1_36) ?_
    show Steps p.tables e below (s₁.setTop (mkF m 37 #[.val (.ref r0), .val (.int (4 : Int32)), .unset] [(.int (0 : Int32))])) t
    refine XS.istoreN X0.here hx rfl (hb hby d1_37) rfl (l' := #[.val (.ref r0), .val (.int (4 : Int32)), .val (.int (0 : Int32))]) rfl ?_
    show Steps p.tables e below (s₁.setTop (mkF m 38 #[.val (.ref r0), .val (.int (4 : Int32)), .val (.int (0 : Int32))] [])) t
    refine XS.iloadN X0.here hx rfl (hb hby d1_38) rfl ?_
    show Steps p.tables e below (s₁.setTop (mkF m 39 #[.val (.ref r0), .val (.int (4 : Int32)), .val (.int (0 : Int32))] [(.int (0 : Int32))])) t
    refine XS.iloadN X0.here hx rfl (hb hby d1_39) rfl ?_
    show Steps p.tables e below (s₁.setTop (mkF m 40 #[.val (.ref r0), .val (.int (4 : Int32)), .val (.int (0 : Int32))] [(.int (4 : Int32)), (.int (0 : Int32))])) t
    refine XS.icmpNo X0.here hx rfl (hb hby d1_40) rfl (tlt (by decide : ((0 : Int32) < (4 : Int32)))).2.1 ?_
    show Steps p.tables e below (s₁.setTop (mkF m 43 #[.val (.ref r0), .val (.int (4 : Int32)), .val (.int (0 : Int32))] [])) t
    refine XS.aloadN X0.here hx rfl (hb hby d1_43) rfl rfl ?_
    show Steps p.tables e below (s₁.setTop (mkF m 44 #[.val (.ref r0), .val (.int (4 : Int32)), .val (.int (0 : Int32))] [(.ref r0)])) t
    refine XS.iloadN X0.here hx rfl (hb hby d1_44) rfl ?_
    exact k
  obtain ⟨cl1_2, Ar1_2, q1_2, S1_2, Ng1_2, Hs1_2, G1_2⟩ := id V_r0
  have hin1_2 : ¬ ((0 : Int32) < 0 ∨ cl1_2.slots.size ≤ ((0 : Int32)).toNatClampNeg) := inb_of S1_2 ⟨by decide, by decide⟩
  refine own_fw (X0.iaload hx (j := (0 : Int32)) (v := (.int x0)) (by rw [e0]; exact Ar1_2.1) (State.isArrayOf_alike hZ.alike Ar1_2.2.1) Ar1_2.2.2 hin1_2 (Has.at Hs1_2 hin1_2 rfl) (g := (mkF m 45 #[.val (.ref r0), .val (.int (4 : Int32)), .val (.int (0 : Int32))] [(.int (0 : Int32)), (.ref r0)])) rfl rfl (hb hby d1_45)) ?_
  refine own_fw (A := s₁.setTop (mkF m 45 #[.val (.ref r0), .val (.int (4 : Int32)), .val (.int (1 : Int32))] [(.int (1 : Int32)), (.ref r0)])) (fun t k => ?_) ?_
  · show Steps p.tables e below (s₁.setTop (mkF m 46 #[.val (.ref r0), .val (.int (4 : Int32)), .val (.int (0 : Int32))] [(.int x0)])) t
    refine XS.ifYes X0.here hx rfl (pc0 := 46) (pc' := 66) rfl (hb hby d1_46) rfl ((if0 _ _).trans (flt hv0).2.1) (by decide) (by decide) ?_
    show Steps p.tables e below (s₁.setTop (mkF m 66 #[.val (.ref r0), .val (.int (4 : Int32)), .val (.int (0 : Int32))] [])) t
    refine XS.iinc X0.here hx rfl (hb hby d1_66) rfl (l' := #[.val (.ref r0), .val (.int (4 : Int32)), .val (.int (1 : Int32))]) rfl ?_
    show Steps p.tables e below (s₁.setTop (mkF m 69 #[.val (.ref r0), .val (.int (4 : Int32)), .val (.int (1 : Int32))] [])) t
    refine XS.goto X0.here hx rfl (pc0 := 69) (pc' := 38) rfl (hb hby d1_69) (by decide) (by decide) ?_
    show Steps p.tables e below (s₁.setTop (mkF m 38 #[.val (.ref r0), .val (.int (4 : Int32)), .val (.int (1 : Int32))] [])) t
    refine XS.iloadN X0.here hx rfl (hb hby d1_38) rfl ?_
    show Steps p.tables e below (s₁.setTop (mkF m 39 #[.val (.ref r0), .val (.int (4 : Int32)), .val (.int (1 : Int32))] [(.int (1 : Int32))])) t
    refine XS.iloadN X0.here hx rfl (hb hby d1_39) rfl ?_
    show Steps p.tables e below (s₁.setTop (mkF m 40 #[.val (.ref r0), .val (.int (4 : Int32)), .val (.int (1 : Int32))] [(.int (4 : Int32)), (.int (1 : Int32))])) t
    refine XS.icmpNo X0.here hx rfl (hb hby d1_40) rfl (tlt (by decide : ((1 : Int32) < (4 : Int32)))).2.1 ?_
    show Steps p.tables e below (s₁.setTop (mkF m 43 #[.val (.ref r0), .val (.int (4 : Int32)), .val (.int (1 : Int32))] [])) t
    refine XS.aloadN X0.here hx rfl (hb hby d1_43) rfl rfl ?_
    show Steps p.tables e below (s₁.setTop (mkF m 44 #[.val (.ref r0), .val (.int (4 : Int32)), .val (.int (1 : Int32))] [(.ref r0)])) t
    refine XS.iloadN X0.here hx rfl (hb hby d1_44) rfl ?_
    exact k
  obtain ⟨cl1_3, Ar1_3, q1_3, S1_3, Ng1_3, Hs1_3, G1_3⟩ := id V_r0
  have hin1_3 : ¬ ((1 : Int32) < 0 ∨ cl1_3.slots.size ≤ ((1 : Int32)).toNatClampNeg) := inb_of S1_3 ⟨by decide, by decide⟩
  refine own_fw (X0.iaload hx (j := (1 : Int32)) (v := (.int x1)) (by rw [e0]; exact Ar1_3.1) (State.isArrayOf_alike hZ.alike Ar1_3.2.1) Ar1_3.2.2 hin1_3 (Has.at Hs1_3 hin1_3 rfl) (g := (mkF m 45 #[.val (.ref r0), .val (.int (4 : Int32)), .val (.int (1 : Int32))] [(.int (1 : Int32)), (.ref r0)])) rfl rfl (hb hby d1_45)) ?_
  refine own_fw (A := s₁.setTop (mkF m 45 #[.val (.ref r0), .val (.int (4 : Int32)), .val (.int (2 : Int32))] [(.int (2 : Int32)), (.ref r0)])) (fun t k => ?_) ?_
  · show Steps p.tables e below (s₁.setTop (mkF m 46 #[.val (.ref r0), .val (.int (4 : Int32)), .val (.int (1 : Int32))] [(.int x1)])) t
    refine XS.ifYes X0.here hx rfl (pc0 := 46) (pc' := 66) rfl (hb hby d1_46) rfl ((if0 _ _).trans (flt hv1).2.1) (by decide) (by decide) ?_
    show Steps p.tables e below (s₁.setTop (mkF m 66 #[.val (.ref r0), .val (.int (4 : Int32)), .val (.int (1 : Int32))] [])) t
    refine XS.iinc X0.here hx rfl (hb hby d1_66) rfl (l' := #[.val (.ref r0), .val (.int (4 : Int32)), .val (.int (2 : Int32))]) rfl ?_
    show Steps p.tables e below (s₁.setTop (mkF m 69 #[.val (.ref r0), .val (.int (4 : Int32)), .val (.int (2 : Int32))] [])) t
    refine XS.goto X0.here hx rfl (pc0 := 69) (pc' := 38) rfl (hb hby d1_69) (by decide) (by decide) ?_
    show Steps p.tables e below (s₁.setTop (mkF m 38 #[.val (.ref r0), .val (.int (4 : Int32)), .val (.int (2 : Int32))] [])) t
    refine XS.iloadN X0.here hx rfl (hb hby d1_38) rfl ?_
    show Steps p.tables e below (s₁.setTop (mkF m 39 #[.val (.ref r0), .val (.int (4 : Int32)), .val (.int (2 : Int32))] [(.int (2 : Int32))])) t
    refine XS.iloadN X0.here hx rfl (hb hby d1_39) rfl ?_
    show Steps p.tables e below (s₁.setTop (mkF m 40 #[.val (.ref r0), .val (.int (4 : Int32)), .val (.int (2 : Int32))] [(.int (4 : Int32)), (.int (2 : Int32))])) t
    refine XS.icmpNo X0.here hx rfl (hb hby d1_40) rfl (tlt (by decide : ((2 : Int32) < (4 : Int32)))).2.1 ?_
    show Steps p.tables e below (s₁.setTop (mkF m 43 #[.val (.ref r0), .val (.int (4 : Int32)), .val (.int (2 : Int32))] [])) t
    refine XS.aloadN X0.here hx rfl (hb hby d1_43) rfl rfl ?_
    show Steps p.tables e below (s₁.setTop (mkF m 44 #[.val (.ref r0), .val (.int (4 : Int32)), .val (.int (2 : Int32))] [(.ref r0)])) t
    refine XS.iloadN X0.here hx rfl (hb hby d1_44) rfl ?_
    exact k
  obtain ⟨cl1_4, Ar1_4, q1_4, S1_4, Ng1_4, Hs1_4, G1_4⟩ := id V_r0
  have hin1_4 : ¬ ((2 : Int32) < 0 ∨ cl1_4.slots.size ≤ ((2 : Int32)).toNatClampNeg) := inb_of S1_4 ⟨by decide, by decide⟩
  refine own_fw (X0.iaload hx (j := (2 : Int32)) (v := (.int x2)) (by rw [e0]; exact Ar1_4.1) (State.isArrayOf_alike hZ.alike Ar1_4.2.1) Ar1_4.2.2 hin1_4 (Has.at Hs1_4 hin1_4 rfl) (g := (mkF m 45 #[.val (.ref r0), .val (.int (4 : Int32)), .val (.int (2 : Int32))] [(.int (2 : Int32)), (.ref r0)])) rfl rfl (hb hby d1_45)) ?_
  refine own_fw (A := s₁.setTop (mkF m 45 #[.val (.ref r0), .val (.int (4 : Int32)), .val (.int (3 : Int32))] [(.int (3 : Int32)), (.ref r0)])) (fun t k => ?_) ?_
  · show Steps p.tables e below (s₁.setTop (mkF m 46 #[.val (.ref r0), .val (.int (4 : Int32)), .val (.int (2 : Int32))] [(.int x2)])) t
    refine XS.ifYes X0.here hx rfl (pc0 := 46) (pc' := 66) rfl (hb hby d1_46) rfl ((if0 _ _).trans (flt hv2).2.1) (by decide) (by decide) ?_
    show Steps p.tables e below (s₁.setTop (mkF m 66 #[.val (.ref r0), .val (.int (4 : Int32)), .val (.int (2 : Int32))] [])) t
    refine XS.iinc X0.here hx rfl (hb hby d1_66) rfl (l' := #[.val (.ref r0), .val (.int (4 : Int32)), .val (.int (3 : Int32))]) rfl ?_
    show Steps p.tables e below (s₁.setTop (mkF m 69 #[.val (.ref r0), .val (.int (4 : Int32)), .val (.int (3 : Int32))] [])) t
    refine XS.goto X0.here hx rfl (pc0 := 69) (pc' := 38) rfl (hb hby d1_69) (by decide) (by decide) ?_
    show Steps p.tables e below (s₁.setTop (mkF m 38 #[.val (.ref r0), .val (.int (4 : Int32)), .val (.int (3 : Int32))] [])) t
    refine XS.iloadN X0.here hx rfl (hb hby d1_38) rfl ?_
    show Steps p.tables e below (s₁.setTop (mkF m 39 #[.val (.ref r0), .val (.int (4 : Int32)), .val (.int (3 : Int32))] [(.int (3 : Int32))])) t
    refine XS.iloadN X0.here hx rfl (hb hby d1_39) rfl ?_
    show Steps p.tables e below (s₁.setTop (mkF m 40 #[.val (.ref r0), .val (.int (4 : Int32)), .val (.int (3 : Int32))] [(.int (4 : Int32)), (.int (3 : Int32))])) t
    refine XS.icmpNo X0.here hx rfl (hb hby d1_40) rfl (tlt (by decide : ((3 : Int32) < (4 : Int32)))).2.1 ?_
    show Steps p.tables e below (s₁.setTop (mkF m 43 #[.val (.ref r0), .val (.int (4 : Int32)), .val (.int (3 : Int32))] [])) t
    refine XS.aloadN X0.here hx rfl (hb hby d1_43) rfl rfl ?_
    show Steps p.tables e below (s₁.setTop (mkF m 44 #[.val (.ref r0), .val (.int (4 : Int32)), .val (.int (3 : Int32))] [(.ref r0)])) t
    refine XS.iloadN X0.here hx rfl (hb hby d1_44) rfl ?_
    exact k
  obtain ⟨cl1_5, Ar1_5, q1_5, S1_5, Ng1_5, Hs1_5, G1_5⟩ := id V_r0
  have hin1_5 : ¬ ((3 : Int32) < 0 ∨ cl1_5.slots.size ≤ ((3 : Int32)).toNatClampNeg) := inb_of S1_5 ⟨by decide, by decide⟩
  refine own_fw (X0.iaload hx (j := (3 : Int32)) (v := (.int x3)) (by rw [e0]; exact Ar1_5.1) (State.isArrayOf_alike hZ.alike Ar1_5.2.1) Ar1_5.2.2 hin1_5 (Has.at Hs1_5 hin1_5 rfl) (g := (mkF m 45 #[.val (.ref r0), .val (.int (4 : Int32)), .val (.int (3 : Int32))] [(.int (3 : Int32)), (.ref r0)])) rfl rfl (hb hby d1_45)) ?_
  refine own_fw (A := s₁.setTop (mkF m 72 #[.val (.ref r0), .val (.int (4 : Int32)), .val (.int (4 : Int32))] [])) (fun t k => ?_) ?_
  · show Steps p.tables e below (s₁.setTop (mkF m 46 #[.val (.ref r0), .val (.int (4 : Int32)), .val (.int (3 : Int32))] [(.int x3)])) t
    refine XS.ifYes X0.here hx rfl (pc0 := 46) (pc' := 66) rfl (hb hby d1_46) rfl ((if0 _ _).trans (flt hv3).2.1) (by decide) (by decide) ?_
    show Steps p.tables e below (s₁.setTop (mkF m 66 #[.val (.ref r0), .val (.int (4 : Int32)), .val (.int (3 : Int32))] [])) t
    refine XS.iinc X0.here hx rfl (hb hby d1_66) rfl (l' := #[.val (.ref r0), .val (.int (4 : Int32)), .val (.int (4 : Int32))]) rfl ?_
    show Steps p.tables e below (s₁.setTop (mkF m 69 #[.val (.ref r0), .val (.int (4 : Int32)), .val (.int (4 : Int32))] [])) t
    refine XS.goto X0.here hx rfl (pc0 := 69) (pc' := 38) rfl (hb hby d1_69) (by decide) (by decide) ?_
    show Steps p.tables e below (s₁.setTop (mkF m 38 #[.val (.ref r0), .val (.int (4 : Int32)), .val (.int (4 : Int32))] [])) t
    refine XS.iloadN X0.here hx rfl (hb hby d1_38) rfl ?_
    show Steps p.tables e below (s₁.setTop (mkF m 39 #[.val (.ref r0), .val (.int (4 : Int32)), .val (.int (4 : Int32))] [(.int (4 : Int32))])) t
    refine XS.iloadN X0.here hx rfl (hb hby d1_39) rfl ?_
    show Steps p.tables e below (s₁.setTop (mkF m 40 #[.val (.ref r0), .val (.int (4 : Int32)), .val (.int (4 : Int32))] [(.int (4 : Int32)), (.int (4 : Int32))])) t
    refine XS.icmpYes X0.here hx rfl (pc0 := 40) (pc' := 72) rfl (hb hby d1_40) rfl (flt (Int32.lt_irrefl : ¬ ((4 : Int32) < (4 : Int32)))).2.1 (by decide) (by decide) ?_
    exact k
  obtain ⟨fs, hr, hrun, hended, hW, hsame⟩ := X0.leave (v := none) (fun _ => rfl)
  refine ⟨_, _, X0.returnOut hx Bd.returns (hb hby d1_72) hr, hrun, hended, _, _, rfl, ?_, ⟨_, rfl⟩, hW, hsame.mono (by decide) (by decide)⟩
  have eh : (s₁.setFrames fs).heap = h0 := e0
  rw [eh]
  exact ⟨rfl, N0, rfl⟩
theorem own_k5 (k : Int32) : own_irem (k &&& (2147483647 : Int32)) (5 : Int32) = 0 ∨ own_irem (k &&& (2147483647 : Int32)) (5 : Int32) = 1 ∨ own_irem (k &&& (2147483647 : Int32)) (5 : Int32) = 2 ∨ own_irem (k &&& (2147483647 : Int32)) (5 : Int32) = 3 ∨ own_irem (k &&& (2147483647 : Int32)) (5 : Int32) = 4 := by
  have h1 := c_and k 2147483647 (by decide)
  have h2 := (c_irem (k &&& 2147483647) 5 5 rfl).1 h1.1
  rw [← Jvm.irem_eq_mod] at h2
  change (own_irem (k &&& (2147483647 : Int32)) (5 : Int32)).toInt = _ at h2
  simp only [← Int32.toInt_inj, Int32.reduceToInt]
  omega
theorem own_nn (a : Int32) : ¬ ((a &&& (2147483647 : Int32)) < (0 : Int32)) := by
  rw [Int32.lt_iff_toInt_lt]
  have h := c_and a 2147483647 (by decide)
  have z : (0 : Int32).toInt = 0 := rfl
  omega
theorem pn0 : plainName "com/example/terms_to_scores/termstoscores/scoring/DocumentScorerCheckFrequenciesPinLaw" = true := by first | (simp [plainName, overriddenIn]; done) | decide +kernel
theorem pd0_0 : parseMethodDescriptor "([II)V" = some ⟨[(.array .int), .int], none⟩ := by decide +kernel
theorem ef0 (m : MethodId) (p0 : Int32) (p1 : Int32) (p2 : Int32) (p3 : Int32) (p4 : Int32) : entryFrame m #[(.int p0), (.int p1), (.int p2), (.int p3), (.int p4)] maxLocals = mkF m 0 #[.val (.int p0), .val (.int p1), .val (.int p2), .val (.int p3), .val (.int p4), .unset, .unset, .unset, .unset, .unset, .unset, .unset] [] := by first | (simp [entryFrame, mkF, argsToLocals, Value.category, maxLocals]; done) | rfl
def Q0 (Z : State) (p0 p1 p2 p3 p4 : Int32) (h0 : Heap) (n0 : Nat) (v : Option Value) (h : Heap) (L : List Loc) : Prop := v = some (.int 1) ∧ Fr n0 L
set_option maxRecDepth 65536 in
set_option maxHeartbeats 40000000 in
theorem rm0 (l : Launch) (Z : State) (a0 : Array Value) (hw : ∀ d ∈ tables_1, d.before a0 Z = true) (ws : List Jvm.Cond) (p0 : Int32) (p1 : Int32) (p2 : Int32) (p3 : Int32) (p4 : Int32) (h0 : Heap) (n0 : Nat) (Z0 : n0 ≤ h0.size) :
    MetFree l x (head1 (Jvm.Cond.code x code maxLocals ret :: ws) room_1) (fun a U => a = #[(.int p0), (.int p1), (.int p2), (.int p3), (.int p4)] ∧ Z.Warmed39 U.vm ∧ U.heap = h0) (fun _ _ _ _ _ => True) (fun _ U o U' => ∃ v L, o = .returned v ∧ Q0 Z p0 p1 p2 p3 p4 h0 n0 v U'.heap L ∧ FrameEnd U o U' L room_1.cells room_1.slots) := by
  refine MetFree.of_bodySF (plainFor_of_name pn0) hisR ?_
  intro p e s m args below meth c s₁ Bd hml0 hP hK
  obtain ⟨rfl, hZ, hh⟩ := hP
  have hx := Bd.exec
  have hby := Bd.bytes
  have hml : c.maxLocals = 12 := hml0
  have hown : s.vm.findClass "com/example/terms_to_scores/termstoscores/scoring/DocumentScorerCheckFrequenciesPinLaw" = some m.cls := findClass_of_methodNamed Bd.named
  have hnm := (name_of_methodNamed Bd.named Bd.method).1
  have X0 : Stand p l e room_1 s m #[(.int p0), (.int p1), (.int p2), (.int p3), (.int p4)] below meth c s₁ [] 0 0 := Stand.of_body Bd
  have e0 : s₁.heap = h0 := by rw [← hh, Bd.state]; rfl
  have N0 := Fr.nil n0
  refine own_fw (A := s₁.setTop (mkF m 0 #[.val (.int p0), .val (.int p1), .val (.int p2), .val (.int p3), .val (.int p4), .unset, .unset, .unset, .unset, .unset, .unset, .unset] [])) (fun t k => castTop (ef0 m p0 p1 p2 p3 p4) k) ?_
  refine own_fw (A := s₁.setTop (mkF m 33 #[.val (.int p0), .val (.int p1), .val (.int p2), .val (.int p3), .val (.int p4), .val (.int (own_irem (p0 &&& (2147483647 : Int32)) (5 : Int32))), .val (.int (p1 &&& (2147483647 : Int32))), .val (.int (p2 &&& (2147483647 : Int32))), .val (.int (p3 &&& (2147483647 : Int32))), .val (.int (p4 &&& (2147483647 : Int32))), .unset, .unset] [])) (fun t k => ?_) ?_
  · show Steps p.tables e below (s₁.setTop (mkF m 0 #[.val (.int p0), .val (.int p1), .val (.int p2), .val (.int p3), .val (.int p4), .unset, .unset, .unset, .unset, .unset, .unset, .unset] [])) t
    refine XS.iloadN X0.here hx rfl (hb hby at_0) rfl ?_
    show Steps p.tables e below (s₁.setTop (mkF m 1 #[.val (.int p0), .val (.int p1), .val (.int p2), .val (.int p3), .val (.int p4), .unset, .unset, .unset, .unset, .unset, .unset, .unset] [(.int p0)])) t
    refine X0.ldcInt hx hown (mvT hZ (hw _ (List.mem_of_getElem? (i := 0) rfl))) (g := (mkF m 1 #[.val (.int p0), .val (.int p1), .val (.int p2), .val (.int p3), .val (.int p4), .unset, .unset, .unset, .unset, .unset, .unset, .unset] [(.int p0)])) rfl (hb hby at_1) _ ?_
    show Steps p.tables e below (s₁.setTop (mkF m 3 #[.val (.int p0), .val (.int p1), .val (.int p2), .val (.int p3), .val (.int p4), .unset, .unset, .unset, .unset, .unset, .unset, .unset] [(.int (2147483647 : Int32)), (.int p0)])) t
    refine XS.iand X0.here hx rfl (hb hby at_3) rfl ?_
    show Steps p.tables e below (s₁.setTop (mkF m 4 #[.val (.int p0), .val (.int p1), .val (.int p2), .val (.int p3), .val (.int p4), .unset, .unset, .unset, .unset, .unset, .unset, .unset] [(.int (p0 &&& (2147483647 : Int32)))])) t
    refine XS.iconst X0.here hx rfl (hb hby at_4) ?_
    show Steps p.tables e below (s₁.setTop (mkF m 5 #[.val (.int p0), .val (.int p1), .val (.int p2), .val (.int p3), .val (.int p4), .unset, .unset, .unset, .unset, .unset, .unset, .unset] [(.int (5 : Int32)), (.int (p0 &&& (2147483647 : Int32)))])) t
    refine XS.irem X0.here hx rfl (hb hby at_5) rfl (by decide) ?_
    show Steps p.tables e below (s₁.setTop (mkF m 6 #[.val (.int p0), .val (.int p1), .val (.int p2), .val (.int p3), .val (.int p4), .unset, .unset, .unset, .unset, .unset, .unset, .unset] [(.int (own_irem (p0 &&& (2147483647 : Int32)) (5 : Int32)))])) t
    refine XS.istore X0.here hx rfl (hb hby at_6) rfl (l' := #[.val (.int p0), .val (.int p1), .val (.int p2), .val (.int p3), .val (.int p4), .val (.int (own_irem (p0 &&& (2147483647 : Int32)) (5 : Int32))), .unset, .unset, .unset, .unset, .unset, .unset]) rfl ?_
    show Steps p.tables e below (s₁.setTop (mkF m 8 #[.val (.int p0), .val (.int p1), .val (.int p2), .val (.int p3), .val (.int p4), .val (.int (own_irem (p0 &&& (2147483647 : Int32)) (5 : Int32))), .unset, .unset, .unset, .unset, .unset, .unset] [])) t
    refine XS.iloadN X0.here hx rfl (hb hby at_8) rfl ?_
    show Steps p.tables e below (s₁.setTop (mkF m 9 #[.val (.int p0), .val (.int p1), .val (.int p2), .val (.int p3), .val (.int p4), .val (.int (own_irem (p0 &&& (2147483647 : Int32)) (5 : Int32))), .unset, .unset, .unset, .unset, .unset, .unset] [(.int p1)])) t
    refine X0.ldcInt hx hown (mvT hZ (hw _ (List.mem_of_getElem? (i := 0) rfl))) (g := (mkF m 9 #[.val (.int p0), .val (.int p1), .val (.int p2), .val (.int p3), .val (.int p4), .val (.int (own_irem (p0 &&& (2147483647 : Int32)) (5 : Int32))), .unset, .unset, .unset, .unset, .unset, .unset] [(.int p1)])) rfl (hb hby at_9) _ ?_
    show Steps p.tables e below (s₁.setTop (mkF m 11 #[.val (.int p0), .val (.int p1), .val (.int p2), .val (.int p3), .val (.int p4), .val (.int (own_irem (p0 &&& (2147483647 : Int32)) (5 : Int32))), .unset, .unset, .unset, .unset, .unset, .unset] [(.int (2147483647 : Int32)), (.int p1)])) t
    refine XS.iand X0.here hx rfl (hb hby at_11) rfl ?_
    show Steps p.tables e below (s₁.setTop (mkF m 12 #[.val (.int p0), .val (.int p1), .val (.int p2), .val (.int p3), .val (.int p4), .val (.int (own_irem (p0 &&& (2147483647 : Int32)) (5 : Int32))), .unset, .unset, .unset, .unset, .unset, .unset] [(.int (p1 &&& (2147483647 : Int32)))])) t
    refine XS.istore X0.here hx rfl (hb hby at_12) rfl (l' := #[.val (.int p0), .val (.int p1), .val (.int p2), .val (.int p3), .val (.int p4), .val (.int (own_irem (p0 &&& (2147483647 : Int32)) (5 : Int32))), .val (.int (p1 &&& (2147483647 : Int32))), .unset, .unset, .unset, .unset, .unset]) rfl ?_
    show Steps p.tables e below (s₁.setTop (mkF m 14 #[.val (.int p0), .val (.int p1), .val (.int p2), .val (.int p3), .val (.int p4), .val (.int (own_irem (p0 &&& (2147483647 : Int32)) (5 : Int32))), .val (.int (p1 &&& (2147483647 : Int32))), .unset, .unset, .unset, .unset, .unset] [])) t
    refine XS.iloadN X0.here hx rfl (hb hby at_14) rfl ?_
    show Steps p.tables e below (s₁.setTop (mkF m 15 #[.val (.int p0), .val (.int p1), .val (.int p2), .val (.int p3), .val (.int p4), .val (.int (own_irem (p0 &&& (2147483647 : Int32)) (5 : Int32))), .val (.int (p1 &&& (2147483647 : Int32))), .unset, .unset, .unset, .unset, .unset] [(.int p2)])) t
    refine X0.ldcInt hx hown (mvT hZ (hw _ (List.mem_of_getElem? (i := 0) rfl))) (g := (mkF m 15 #[.val (.int p0), .val (.int p1), .val (.int p2), .val (.int p3), .val (.int p4), .val (.int (own_irem (p0 &&& (2147483647 : Int32)) (5 : Int32))), .val (.int (p1 &&& (2147483647 : Int32))), .unset, .unset, .unset, .unset, .unset] [(.int p2)])) rfl (hb hby at_15) _ ?_
    show Steps p.tables e below (s₁.setTop (mkF m 17 #[.val (.int p0), .val (.int p1), .val (.int p2), .val (.int p3), .val (.int p4), .val (.int (own_irem (p0 &&& (2147483647 : Int32)) (5 : Int32))), .val (.int (p1 &&& (2147483647 : Int32))), .unset, .unset, .unset, .unset, .unset] [(.int (2147483647 : Int32)), (.int p2)])) t
    refine XS.iand X0.here hx rfl (hb hby at_17) rfl ?_
    show Steps p.tables e below (s₁.setTop (mkF m 18 #[.val (.int p0), .val (.int p1), .val (.int p2), .val (.int p3), .val (.int p4), .val (.int (own_irem (p0 &&& (2147483647 : Int32)) (5 : Int32))), .val (.int (p1 &&& (2147483647 : Int32))), .unset, .unset, .unset, .unset, .unset] [(.int (p2 &&& (2147483647 : Int32)))])) t
    refine XS.istore X0.here hx rfl (hb hby at_18) rfl (l' := #[.val (.int p0), .val (.int p1), .val (.int p2), .val (.int p3), .val (.int p4), .val (.int (own_irem (p0 &&& (2147483647 : Int32)) (5 : Int32))), .val (.int (p1 &&& (2147483647 : Int32))), .val (.int (p2 &&& (2147483647 : Int32))), .unset, .unset, .unset, .unset]) rfl ?_
    show Steps p.tables e below (s₁.setTop (mkF m 20 #[.val (.int p0), .val (.int p1), .val (.int p2), .val (.int p3), .val (.int p4), .val (.int (own_irem (p0 &&& (2147483647 : Int32)) (5 : Int32))), .val (.int (p1 &&& (2147483647 : Int32))), .val (.int (p2 &&& (2147483647 : Int32))), .unset, .unset, .unset, .unset] [])) t
    refine XS.iloadN X0.here hx rfl (hb hby at_20) rfl ?_
    show Steps p.tables e below (s₁.setTop (mkF m 21 #[.val (.int p0), .val (.int p1), .val (.int p2), .val (.int p3), .val (.int p4), .val (.int (own_irem (p0 &&& (2147483647 : Int32)) (5 : Int32))), .val (.int (p1 &&& (2147483647 : Int32))), .val (.int (p2 &&& (2147483647 : Int32))), .unset, .unset, .unset, .unset] [(.int p3)])) t
    refine X0.ldcInt hx hown (mvT hZ (hw _ (List.mem_of_getElem? (i := 0) rfl))) (g := (mkF m 21 #[.val (.int p0), .val (.int p1), .val (.int p2), .val (.int p3), .val (.int p4), .val (.int (own_irem (p0 &&& (2147483647 : Int32)) (5 : Int32))), .val (.int (p1 &&& (2147483647 : Int32))), .val (.int (p2 &&& (2147483647 : Int32))), .unset, .unset, .unset, .unset] [(.int p3)])) rfl (hb hby at_21) _ ?_
    show Steps p.tables e below (s₁.setTop (mkF m 23 #[.val (.int p0), .val (.int p1), .val (.int p2), .val (.int p3), .val (.int p4), .val (.int (own_irem (p0 &&& (2147483647 : Int32)) (5 : Int32))), .val (.int (p1 &&& (2147483647 : Int32))), .val (.int (p2 &&& (2147483647 : Int32))), .unset, .unset, .unset, .unset] [(.int (2147483647 : Int32)), (.int p3)])) t
    refine XS.iand X0.here hx rfl (hb hby at_23) rfl ?_
    show Steps p.tables e below (s₁.setTop (mkF m 24 #[.val (.int p0), .val (.int p1), .val (.int p2), .val (.int p3), .val (.int p4), .val (.int (own_irem (p0 &&& (2147483647 : Int32)) (5 : Int32))), .val (.int (p1 &&& (2147483647 : Int32))), .val (.int (p2 &&& (2147483647 : Int32))), .unset, .unset, .unset, .unset] [(.int (p3 &&& (2147483647 : Int32)))])) t
    refine XS.istore X0.here hx rfl (hb hby at_24) rfl (l' := #[.val (.int p0), .val (.int p1), .val (.int p2), .val (.int p3), .val (.int p4), .val (.int (own_irem (p0 &&& (2147483647 : Int32)) (5 : Int32))), .val (.int (p1 &&& (2147483647 : Int32))), .val (.int (p2 &&& (2147483647 : Int32))), .val (.int (p3 &&& (2147483647 : Int32))), .unset, .unset, .unset]) rfl ?_
    show Steps p.tables e below (s₁.setTop (mkF m 26 #[.val (.int p0), .val (.int p1), .val (.int p2), .val (.int p3), .val (.int p4), .val (.int (own_irem (p0 &&& (2147483647 : Int32)) (5 : Int32))), .val (.int (p1 &&& (2147483647 : Int32))), .val (.int (p2 &&& (2147483647 : Int32))), .val (.int (p3 &&& (2147483647 : Int32))), .unset, .unset, .unset] [])) t
    refine XS.iload X0.here hx rfl (hb hby at_26) rfl ?_
    show Steps p.tables e below (s₁.setTop (mkF m 28 #[.val (.int p0), .val (.int p1), .val (.int p2), .val (.int p3), .val (.int p4), .val (.int (own_irem (p0 &&& (2147483647 : Int32)) (5 : Int32))), .val (.int (p1 &&& (2147483647 : Int32))), .val (.int (p2 &&& (2147483647 : Int32))), .val (.int (p3 &&& (2147483647 : Int32))), .unset, .unset, .unset] [(.int p4)])) t
    refine X0.ldcInt hx hown (mvT hZ (hw _ (List.mem_of_getElem? (i := 0) rfl))) (g := (mkF m 28 #[.val (.int p0), .val (.int p1), .val (.int p2), .val (.int p3), .val (.int p4), .val (.int (own_irem (p0 &&& (2147483647 : Int32)) (5 : Int32))), .val (.int (p1 &&& (2147483647 : Int32))), .val (.int (p2 &&& (2147483647 : Int32))), .val (.int (p3 &&& (2147483647 : Int32))), .unset, .unset, .unset] [(.int p4)])) rfl (hb hby at_28) _ ?_
    show Steps p.tables e below (s₁.setTop (mkF m 30 #[.val (.int p0), .val (.int p1), .val (.int p2), .val (.int p3), .val (.int p4), .val (.int (own_irem (p0 &&& (2147483647 : Int32)) (5 : Int32))), .val (.int (p1 &&& (2147483647 : Int32))), .val (.int (p2 &&& (2147483647 : Int32))), .val (.int (p3 &&& (2147483647 : Int32))), .unset, .unset, .unset] [(.int (2147483647 : Int32)), (.int p4)])) t
    refine XS.iand X0.here hx rfl (hb hby at_30) rfl ?_
    show Steps p.tables e below (s₁.setTop (mkF m 31 #[.val (.int p0), .val (.int p1), .val (.int p2), .val (.int p3), .val (.int p4), .val (.int (own_irem (p0 &&& (2147483647 : Int32)) (5 : Int32))), .val (.int (p1 &&& (2147483647 : Int32))), .val (.int (p2 &&& (2147483647 : Int32))), .val (.int (p3 &&& (2147483647 : Int32))), .unset, .unset, .unset] [(.int (p4 &&& (2147483647 : Int32)))])) t
    refine XS.istore X0.here hx rfl (hb hby at_31) rfl (l' := #[.val (.int p0), .val (.int p1), .val (.int p2), .val (.int p3), .val (.int p4), .val (.int (own_irem (p0 &&& (2147483647 : Int32)) (5 : Int32))), .val (.int (p1 &&& (2147483647 : Int32))), .val (.int (p2 &&& (2147483647 : Int32))), .val (.int (p3 &&& (2147483647 : Int32))), .val (.int (p4 &&& (2147483647 : Int32))), .unset, .unset]) rfl ?_
    exact k
  rcases own_k5 p0 with hk | hk | hk | hk | hk
  · rw [hk]
    refine own_fw (A := s₁.setTop (mkF m 39 #[.val (.int p0), .val (.int p1), .val (.int p2), .val (.int p3), .val (.int p4), .val (.int (0 : Int32)), .val (.int (p1 &&& (2147483647 : Int32))), .val (.int (p2 &&& (2147483647 : Int32))), .val (.int (p3 &&& (2147483647 : Int32))), .val (.int (p4 &&& (2147483647 : Int32))), .unset, .unset] [(.int (0 : Int32))])) (fun t k => ?_) ?_
    · show Steps p.tables e below (s₁.setTop (mkF m 33 #[.val (.int p0), .val (.int p1), .val (.int p2), .val (.int p3), .val (.int p4), .val (.int (0 : Int32)), .val (.int (p1 &&& (2147483647 : Int32))), .val (.int (p2 &&& (2147483647 : Int32))), .val (.int (p3 &&& (2147483647 : Int32))), .val (.int (p4 &&& (2147483647 : Int32))), .unset, .unset] [])) t
      refine XS.iload X0.here hx rfl (hb hby at_33) rfl ?_
      show Steps p.tables e below (s₁.setTop (mkF m 35 #[.val (.int p0), .val (.int p1), .val (.int p2), .val (.int p3), .val (.int p4), .val (.int (0 : Int32)), .val (.int (p1 &&& (2147483647 : Int32))), .val (.int (p2 &&& (2147483647 : Int32))), .val (.int (p3 &&& (2147483647 : Int32))), .val (.int (p4 &&& (2147483647 : Int32))), .unset, .unset] [(.int (0 : Int32))])) t
      refine XS.ifNo X0.here hx rfl (hb hby at_35) rfl ((if0 _ _).trans (teq (rfl : (0 : Int32) = (0 : Int32))).2) ?_
      show Steps p.tables e below (s₁.setTop (mkF m 38 #[.val (.int p0), .val (.int p1), .val (.int p2), .val (.int p3), .val (.int p4), .val (.int (0 : Int32)), .val (.int (p1 &&& (2147483647 : Int32))), .val (.int (p2 &&& (2147483647 : Int32))), .val (.int (p3 &&& (2147483647 : Int32))), .val (.int (p4 &&& (2147483647 : Int32))), .unset, .unset] [])) t
      refine XS.iconst X0.here hx rfl (hb hby at_38) ?_
      exact k
    obtain ⟨T0_1, h0_1, k0_1, X0_1, e0_1, E0_1, A0_1, st0_1⟩ := newP X0 hx hZ (hw _ (List.mem_of_getElem? (i := 1) rfl)) e0 (g := (mkF m 39 #[.val (.int p0), .val (.int p1), .val (.int p2), .val (.int p3), .val (.int p4), .val (.int (0 : Int32)), .val (.int (p1 &&& (2147483647 : Int32))), .val (.int (p2 &&& (2147483647 : Int32))), .val (.int (p3 &&& (2147483647 : Int32))), .val (.int (p4 &&& (2147483647 : Int32))), .unset, .unset] [(.int (0 : Int32))])) rfl (hb hby at_39) rfl (by decide) (cap := 0) (by decide) (by decide) (by decide) (by decide)
    obtain ⟨b0_1, g0_1⟩ : ∃ z, z = h0.size := ⟨_, rfl⟩
    rw [← g0_1] at A0_1 st0_1
    have g_b0_1 : n0 ≤ b0_1 := Nat.le_trans Z0 (Nat.le_of_eq g0_1.symm)
    have V_b0_1 : Arv Z h0_1 b0_1 k0_1 .int (0 : Int32) [] (.int (0 : Int32)) := Arv.new A0_1 (by decide)
    refine own_fw st0_1 ?_
    refine own_fw (A := T0_1.setTop (mkF m 147 #[.val (.int p0), .val (.int p1), .val (.int p2), .val (.int p3), .val (.int p4), .val (.int (0 : Int32)), .val (.int (p1 &&& (2147483647 : Int32))), .val (.int (p2 &&& (2147483647 : Int32))), .val (.int (p3 &&& (2147483647 : Int32))), .val (.int (p4 &&& (2147483647 : Int32))), .val (.ref b0_1), .unset] [(.int (0 : Int32)), (.ref b0_1)])) (fun t k => ?_) ?_
    · show Steps p.tables e below (T0_1.setTop (mkF m 41 #[.val (.int p0), .val (.int p1), .val (.int p2), .val (.int p3), .val (.int p4), .val (.int (0 : Int32)), .val (.int (p1 &&& (2147483647 : Int32))), .val (.int (p2 &&& (2147483647 : Int32))), .val (.int (p3 &&& (2147483647 : Int32))), .val (.int (p4 &&& (2147483647 : Int32))), .unset, .unset] [(.ref b0_1)])) t
      refine XS.astore X0_1.here hx rfl (hb hby at_41) rfl rfl (l' := #[.val (.int p0), .val (.int p1), .val (.int p2), .val (.int p3), .val (.int p4), .val (.int (0 : Int32)), .val (.int (p1 &&& (2147483647 : Int32))), .val (.int (p2 &&& (2147483647 : Int32))), .val (.int (p3 &&& (2147483647 : Int32))), .val (.int (p4 &&& (2147483647 : Int32))), .val (.ref b0_1), .unset]) rfl ?_
      show Steps p.tables e below (T0_1.setTop (mkF m 43 #[.val (.int p0), .val (.int p1), .val (.int p2), .val (.int p3), .val (.int p4), .val (.int (0 : Int32)), .val (.int (p1 &&& (2147483647 : Int32))), .val (.int (p2 &&& (2147483647 : Int32))), .val (.int (p3 &&& (2147483647 : Int32))), .val (.int (p4 &&& (2147483647 : Int32))), .val (.ref b0_1), .unset] [])) t
      refine XS.goto X0_1.here hx rfl (pc0 := 43) (pc' := 143) rfl (hb hby at_43) (by decide) (by decide) ?_
      show Steps p.tables e below (T0_1.setTop (mkF m 143 #[.val (.int p0), .val (.int p1), .val (.int p2), .val (.int p3), .val (.int p4), .val (.int (0 : Int32)), .val (.int (p1 &&& (2147483647 : Int32))), .val (.int (p2 &&& (2147483647 : Int32))), .val (.int (p3 &&& (2147483647 : Int32))), .val (.int (p4 &&& (2147483647 : Int32))), .val (.ref b0_1), .unset] [])) t
      refine XS.aload X0_1.here hx rfl (hb hby at_143) rfl rfl ?_
      show Steps p.tables e below (T0_1.setTop (mkF m 145 #[.val (.int p0), .val (.int p1), .val (.int p2), .val (.int p3), .val (.int p4), .val (.int (0 : Int32)), .val (.int (p1 &&& (2147483647 : Int32))), .val (.int (p2 &&& (2147483647 : Int32))), .val (.int (p3 &&& (2147483647 : Int32))), .val (.int (p4 &&& (2147483647 : Int32))), .val (.ref b0_1), .unset] [(.ref b0_1)])) t
      refine XS.iload X0_1.here hx rfl (hb hby at_145) rfl ?_
      exact k
    obtain ⟨_, _, ⟨T0_2, L0_2, k0_2, n0_2⟩, -, X0_2, ⟨Lc0_2, hQ0_2, l0_2, y0_2, z0_2⟩, st0_2⟩ := Jvm.LawKit.callS X0_1 hx (y := (⟨"com/example/terms_to_scores/termstoscores/scoring/DocumentScorer", "checkFrequencies", "([II)V"⟩ : MethodName)) hown (mvT hZ (hw _ (List.mem_of_getElem? (i := 2) rfl))) (mvT hZ (hw _ (List.mem_of_getElem? (i := 3) rfl))) (mvT hZ (hw _ (List.mem_of_getElem? (i := 4) rfl))) (mvT hZ (hw _ (List.mem_of_getElem? (i := 5) rfl))) (by decide) (backOf (W := 0) (rm1_0 l Z a0 hw [] b0_1 k0_1  h0_1 n0 (Nat.le_trans Z0 E0_1.1) V_b0_1 ) hZ (hw _ (List.mem_of_getElem? (i := 5) rfl)) (hw _ (List.mem_of_getElem? (i := 4) rfl)) (by decide) (by decide)) (g := (mkF m 147 #[.val (.int p0), .val (.int p1), .val (.int p2), .val (.int p3), .val (.int p4), .val (.int (0 : Int32)), .val (.int (p1 &&& (2147483647 : Int32))), .val (.int (p2 &&& (2147483647 : Int32))), .val (.int (p3 &&& (2147483647 : Int32))), .val (.int (p4 &&& (2147483647 : Int32))), .val (.ref b0_1), .unset] [(.int (0 : Int32)), (.ref b0_1)])) rfl (by rw [hml]; rfl) (argsL := [(.ref b0_1), (.int (0 : Int32))]) (rest := []) (lenOf pd0_0 rfl) rfl (by show 2 * 0 + _ ≤ _; exact Nat.le_of_eq rfl) (hb hby at_147) (fun _ _ => ⟨rfl, e0_1, (by decide : 1 + 0 ≤ _), (by decide : 0 + 0 ≤ _)⟩)
    dsimp only [Pt.U, Pt.locs, Pt.cells, Pt.slots] at X0_2 l0_2 y0_2 z0_2 st0_2 hQ0_2
    subst l0_2 y0_2 z0_2
    obtain ⟨rfl, N0_2q, e0_2⟩ := hQ0_2
    have N0_2 := Fr.app N0 N0_2q
    refine own_fw st0_2 ?_
    refine own_fw (A := T0_2.setTop (mkF m 152 #[.val (.int p0), .val (.int p1), .val (.int p2), .val (.int p3), .val (.int p4), .val (.int (0 : Int32)), .val (.int (p1 &&& (2147483647 : Int32))), .val (.int (p2 &&& (2147483647 : Int32))), .val (.int (p3 &&& (2147483647 : Int32))), .val (.int (p4 &&& (2147483647 : Int32))), .val (.ref b0_1), .unset] [(.ref b0_1)])) (fun t k => ?_) ?_
    · show Steps p.tables e below (T0_2.setTop (mkF m 150 #[.val (.int p0), .val (.int p1), .val (.int p2), .val (.int p3), .val (.int p4), .val (.int (0 : Int32)), .val (.int (p1 &&& (2147483647 : Int32))), .val (.int (p2 &&& (2147483647 : Int32))), .val (.int (p3 &&& (2147483647 : Int32))), .val (.int (p4 &&& (2147483647 : Int32))), .val (.ref b0_1), .unset] [])) t
      refine XS.aload X0_2.here hx rfl (hb hby at_150) rfl rfl ?_
      exact k
    obtain ⟨cl0_3, Ar0_3, q0_3, S0_3, Ng0_3, Hs0_3, G0_3⟩ := id V_b0_1
    have st0_3 := X0_2.arraylength hx (by rw [e0_2]; exact Ar0_3.1) (State.isArrayOf_alike hZ.alike Ar0_3.2.1) (g := (mkF m 152 #[.val (.int p0), .val (.int p1), .val (.int p2), .val (.int p3), .val (.int p4), .val (.int (0 : Int32)), .val (.int (p1 &&& (2147483647 : Int32))), .val (.int (p2 &&& (2147483647 : Int32))), .val (.int (p3 &&& (2147483647 : Int32))), .val (.int (p4 &&& (2147483647 : Int32))), .val (.ref b0_1), .unset] [(.ref b0_1)])) rfl rfl (hb hby at_152)
    rw [len_of S0_3 Ng0_3] at st0_3
    refine own_fw st0_3 ?_
    refine own_fw (A := T0_2.setTop (mkF m 237 #[.val (.int p0), .val (.int p1), .val (.int p2), .val (.int p3), .val (.int p4), .val (.int (0 : Int32)), .val (.int (p1 &&& (2147483647 : Int32))), .val (.int (p2 &&& (2147483647 : Int32))), .val (.int (p3 &&& (2147483647 : Int32))), .val (.int (p4 &&& (2147483647 : Int32))), .val (.ref b0_1), .val (.int (1 : Int32))] [(.int (1 : Int32))])) (fun t k => ?_) ?_
    · show Steps p.tables e below (T0_2.setTop (mkF m 153 #[.val (.int p0), .val (.int p1), .val (.int p2), .val (.int p3), .val (.int p4), .val (.int (0 : Int32)), .val (.int (p1 &&& (2147483647 : Int32))), .val (.int (p2 &&& (2147483647 : Int32))), .val (.int (p3 &&& (2147483647 : Int32))), .val (.int (p4 &&& (2147483647 : Int32))), .val (.ref b0_1), .unset] [(.int (0 : Int32))])) t
      refine XS.iload X0_2.here hx rfl (hb hby at_153) rfl ?_
      show Steps p.tables e below (T0_2.setTop (mkF m 155 #[.val (.int p0), .val (.int p1), .val (.int p2), .val (.int p3), .val (.int p4), .val (.int (0 : Int32)), .val (.int (p1 &&& (2147483647 : Int32))), .val (.int (p2 &&& (2147483647 : Int32))), .val (.int (p3 &&& (2147483647 : Int32))), .val (.int (p4 &&& (2147483647 : Int32))), .val (.ref b0_1), .unset] [(.int (0 : Int32)), (.int (0 : Int32))])) t
      refine XS.icmpYes X0_2.here hx rfl (pc0 := 155) (pc' := 160) rfl (hb hby at_155) rfl (teq (rfl : (0 : Int32) = (0 : Int32))).1 (by decide) (by decide) ?_
      show Steps p.tables e below (T0_2.setTop (mkF m 160 #[.val (.int p0), .val (.int p1), .val (.int p2), .val (.int p3), .val (.int p4), .val (.int (0 : Int32)), .val (.int (p1 &&& (2147483647 : Int32))), .val (.int (p2 &&& (2147483647 : Int32))), .val (.int (p3 &&& (2147483647 : Int32))), .val (.int (p4 &&& (2147483647 : Int32))), .val (.ref b0_1), .unset] [])) t
      refine XS.iconst X0_2.here hx rfl (hb hby at_160) ?_
      show Steps p.tables e below (T0_2.setTop (mkF m 161 #[.val (.int p0), .val (.int p1), .val (.int p2), .val (.int p3), .val (.int p4), .val (.int (0 : Int32)), .val (.int (p1 &&& (2147483647 : Int32))), .val (.int (p2 &&& (2147483647 : Int32))), .val (.int (p3 &&& (2147483647 : Int32))), .val (.int (p4 &&& (2147483647 : Int32))), .val (.ref b0_1), .unset] [(.int (1 : Int32))])) t
      refine XS.istore X0_2.here hx rfl (hb hby at_161) rfl (l' := #[.val (.int p0), .val (.int p1), .val (.int p2), .val (.int p3), .val (.int p4), .val (.int (0 : Int32)), .val (.int (p1 &&& (2147483647 : Int32))), .val (.int (p2 &&& (2147483647 : Int32))), .val (.int (p3 &&& (2147483647 : Int32))), .val (.int (p4 &&& (2147483647 : Int32))), .val (.ref b0_1), .val (.int (1 : Int32))]) rfl ?_
      show Steps p.tables e below (T0_2.setTop (mkF m 163 #[.val (.int p0), .val (.int p1), .val (.int p2), .val (.int p3), .val (.int p4), .val (.int (0 : Int32)), .val (.int (p1 &&& (2147483647 : Int32))), .val (.int (p2 &&& (2147483647 : Int32))), .val (.int (p3 &&& (2147483647 : Int32))), .val (.int (p4 &&& (2147483647 : Int32))), .val (.ref b0_1), .val (.int (1 : Int32))] [])) t
      refine XS.iload X0_2.here hx rfl (hb hby at_163) rfl ?_
      show Steps p.tables e below (T0_2.setTop (mkF m 165 #[.val (.int p0), .val (.int p1), .val (.int p2), .val (.int p3), .val (.int p4), .val (.int (0 : Int32)), .val (.int (p1 &&& (2147483647 : Int32))), .val (.int (p2 &&& (2147483647 : Int32))), .val (.int (p3 &&& (2147483647 : Int32))), .val (.int (p4 &&& (2147483647 : Int32))), .val (.ref b0_1), .val (.int (1 : Int32))] [(.int (0 : Int32))])) t
      refine XS.iconst X0_2.here hx rfl (hb hby at_165) ?_
      show Steps p.tables e below (T0_2.setTop (mkF m 166 #[.val (.int p0), .val (.int p1), .val (.int p2), .val (.int p3), .val (.int p4), .val (.int (0 : Int32)), .val (.int (p1 &&& (2147483647 : Int32))), .val (.int (p2 &&& (2147483647 : Int32))), .val (.int (p3 &&& (2147483647 : Int32))), .val (.int (p4 &&& (2147483647 : Int32))), .val (.ref b0_1), .val (.int (1 : Int32))] [(.int (1 : Int32)), (.int (0 : Int32))])) t
      refine XS.icmpYes X0_2.here hx rfl (pc0 := 166) (pc' := 181) rfl (hb hby at_166) rfl (tlt (by decide : ((0 : Int32) < (1 : Int32)))).1 (by decide) (by decide) ?_
      show Steps p.tables e below (T0_2.setTop (mkF m 181 #[.val (.int p0), .val (.int p1), .val (.int p2), .val (.int p3), .val (.int p4), .val (.int (0 : Int32)), .val (.int (p1 &&& (2147483647 : Int32))), .val (.int (p2 &&& (2147483647 : Int32))), .val (.int (p3 &&& (2147483647 : Int32))), .val (.int (p4 &&& (2147483647 : Int32))), .val (.ref b0_1), .val (.int (1 : Int32))] [])) t
      refine XS.iload X0_2.here hx rfl (hb hby at_181) rfl ?_
      show Steps p.tables e below (T0_2.setTop (mkF m 183 #[.val (.int p0), .val (.int p1), .val (.int p2), .val (.int p3), .val (.int p4), .val (.int (0 : Int32)), .val (.int (p1 &&& (2147483647 : Int32))), .val (.int (p2 &&& (2147483647 : Int32))), .val (.int (p3 &&& (2147483647 : Int32))), .val (.int (p4 &&& (2147483647 : Int32))), .val (.ref b0_1), .val (.int (1 : Int32))] [(.int (0 : Int32))])) t
      refine XS.iconst X0_2.here hx rfl (hb hby at_183) ?_
      show Steps p.tables e below (T0_2.setTop (mkF m 184 #[.val (.int p0), .val (.int p1), .val (.int p2), .val (.int p3), .val (.int p4), .val (.int (0 : Int32)), .val (.int (p1 &&& (2147483647 : Int32))), .val (.int (p2 &&& (2147483647 : Int32))), .val (.int (p3 &&& (2147483647 : Int32))), .val (.int (p4 &&& (2147483647 : Int32))), .val (.ref b0_1), .val (.int (1 : Int32))] [(.int (2 : Int32)), (.int (0 : Int32))])) t
      refine XS.icmpYes X0_2.here hx rfl (pc0 := 184) (pc' := 199) rfl (hb hby at_184) rfl (tlt (by decide : ((0 : Int32) < (2 : Int32)))).1 (by decide) (by decide) ?_
      show Steps p.tables e below (T0_2.setTop (mkF m 199 #[.val (.int p0), .val (.int p1), .val (.int p2), .val (.int p3), .val (.int p4), .val (.int (0 : Int32)), .val (.int (p1 &&& (2147483647 : Int32))), .val (.int (p2 &&& (2147483647 : Int32))), .val (.int (p3 &&& (2147483647 : Int32))), .val (.int (p4 &&& (2147483647 : Int32))), .val (.ref b0_1), .val (.int (1 : Int32))] [])) t
      refine XS.iload X0_2.here hx rfl (hb hby at_199) rfl ?_
      show Steps p.tables e below (T0_2.setTop (mkF m 201 #[.val (.int p0), .val (.int p1), .val (.int p2), .val (.int p3), .val (.int p4), .val (.int (0 : Int32)), .val (.int (p1 &&& (2147483647 : Int32))), .val (.int (p2 &&& (2147483647 : Int32))), .val (.int (p3 &&& (2147483647 : Int32))), .val (.int (p4 &&& (2147483647 : Int32))), .val (.ref b0_1), .val (.int (1 : Int32))] [(.int (0 : Int32))])) t
      refine XS.iconst X0_2.here hx rfl (hb hby at_201) ?_
      show Steps p.tables e below (T0_2.setTop (mkF m 202 #[.val (.int p0), .val (.int p1), .val (.int p2), .val (.int p3), .val (.int p4), .val (.int (0 : Int32)), .val (.int (p1 &&& (2147483647 : Int32))), .val (.int (p2 &&& (2147483647 : Int32))), .val (.int (p3 &&& (2147483647 : Int32))), .val (.int (p4 &&& (2147483647 : Int32))), .val (.ref b0_1), .val (.int (1 : Int32))] [(.int (3 : Int32)), (.int (0 : Int32))])) t
      refine XS.icmpYes X0_2.here hx rfl (pc0 := 202) (pc' := 217) rfl (hb hby at_202) rfl (tlt (by decide : ((0 : Int32) < (3 : Int32)))).1 (by decide) (by decide) ?_
      show Steps p.tables e below (T0_2.setTop (mkF m 217 #[.val (.int p0), .val (.int p1), .val (.int p2), .val (.int p3), .val (.int p4), .val (.int (0 : Int32)), .val (.int (p1 &&& (2147483647 : Int32))), .val (.int (p2 &&& (2147483647 : Int32))), .val (.int (p3 &&& (2147483647 : Int32))), .val (.int (p4 &&& (2147483647 : Int32))), .val (.ref b0_1), .val (.int (1 : Int32))] [])) t
      refine XS.iload X0_2.here hx rfl (hb hby at_217) rfl ?_
      show Steps p.tables e below (T0_2.setTop (mkF m 219 #[.val (.int p0), .val (.int p1), .val (.int p2), .val (.int p3), .val (.int p4), .val (.int (0 : Int32)), .val (.int (p1 &&& (2147483647 : Int32))), .val (.int (p2 &&& (2147483647 : Int32))), .val (.int (p3 &&& (2147483647 : Int32))), .val (.int (p4 &&& (2147483647 : Int32))), .val (.ref b0_1), .val (.int (1 : Int32))] [(.int (0 : Int32))])) t
      refine XS.iconst X0_2.here hx rfl (hb hby at_219) ?_
      show Steps p.tables e below (T0_2.setTop (mkF m 220 #[.val (.int p0), .val (.int p1), .val (.int p2), .val (.int p3), .val (.int p4), .val (.int (0 : Int32)), .val (.int (p1 &&& (2147483647 : Int32))), .val (.int (p2 &&& (2147483647 : Int32))), .val (.int (p3 &&& (2147483647 : Int32))), .val (.int (p4 &&& (2147483647 : Int32))), .val (.ref b0_1), .val (.int (1 : Int32))] [(.int (4 : Int32)), (.int (0 : Int32))])) t
      refine XS.icmpYes X0_2.here hx rfl (pc0 := 220) (pc' := 235) rfl (hb hby at_220) rfl (tlt (by decide : ((0 : Int32) < (4 : Int32)))).1 (by decide) (by decide) ?_
      show Steps p.tables e below (T0_2.setTop (mkF m 235 #[.val (.int p0), .val (.int p1), .val (.int p2), .val (.int p3), .val (.int p4), .val (.int (0 : Int32)), .val (.int (p1 &&& (2147483647 : Int32))), .val (.int (p2 &&& (2147483647 : Int32))), .val (.int (p3 &&& (2147483647 : Int32))), .val (.int (p4 &&& (2147483647 : Int32))), .val (.ref b0_1), .val (.int (1 : Int32))] [])) t
      refine XS.iload X0_2.here hx rfl (hb hby at_235) rfl ?_
      exact k
    obtain ⟨fs, hr, hrun, hended, hW, hsame⟩ := X0_2.leave (v := some (.int (nar .boolean (1 : Int32)))) (fun h => by rw [Bd.returns] at h; cases h)
    refine ⟨_, _, retN X0_2 hx (t := .boolean) Bd.returns (by simp) (hb hby at_237) hr, hrun, hended, _, _, rfl, ?_, ⟨_, rfl⟩, hW, hsame.mono (by decide) (by decide)⟩
    have eh : (T0_2.setFrames fs).heap = h0_1 := e0_2
    rw [eh]
    exact ⟨rfl, N0_2⟩
  · rw [hk]
    refine own_fw (A := s₁.setTop (mkF m 53 #[.val (.int p0), .val (.int p1), .val (.int p2), .val (.int p3), .val (.int p4), .val (.int (1 : Int32)), .val (.int (p1 &&& (2147483647 : Int32))), .val (.int (p2 &&& (2147483647 : Int32))), .val (.int (p3 &&& (2147483647 : Int32))), .val (.int (p4 &&& (2147483647 : Int32))), .unset, .unset] [(.int (1 : Int32))])) (fun t k => ?_) ?_
    · show Steps p.tables e below (s₁.setTop (mkF m 33 #[.val (.int p0), .val (.int p1), .val (.int p2), .val (.int p3), .val (.int p4), .val (.int (1 : Int32)), .val (.int (p1 &&& (2147483647 : Int32))), .val (.int (p2 &&& (2147483647 : Int32))), .val (.int (p3 &&& (2147483647 : Int32))), .val (.int (p4 &&& (2147483647 : Int32))), .unset, .unset] [])) t
      refine XS.iload X0.here hx rfl (hb hby at_33) rfl ?_
      show Steps p.tables e below (s₁.setTop (mkF m 35 #[.val (.int p0), .val (.int p1), .val (.int p2), .val (.int p3), .val (.int p4), .val (.int (1 : Int32)), .val (.int (p1 &&& (2147483647 : Int32))), .val (.int (p2 &&& (2147483647 : Int32))), .val (.int (p3 &&& (2147483647 : Int32))), .val (.int (p4 &&& (2147483647 : Int32))), .unset, .unset] [(.int (1 : Int32))])) t
      refine XS.ifYes X0.here hx rfl (pc0 := 35) (pc' := 46) rfl (hb hby at_35) rfl ((if0 _ _).trans (feq (by decide : ¬ ((1 : Int32) = (0 : Int32)))).2) (by decide) (by decide) ?_
      show Steps p.tables e below (s₁.setTop (mkF m 46 #[.val (.int p0), .val (.int p1), .val (.int p2), .val (.int p3), .val (.int p4), .val (.int (1 : Int32)), .val (.int (p1 &&& (2147483647 : Int32))), .val (.int (p2 &&& (2147483647 : Int32))), .val (.int (p3 &&& (2147483647 : Int32))), .val (.int (p4 &&& (2147483647 : Int32))), .unset, .unset] [])) t
      refine XS.iload X0.here hx rfl (hb hby at_46) rfl ?_
      show Steps p.tables e below (s₁.setTop (mkF m 48 #[.val (.int p0), .val (.int p1), .val (.int p2), .val (.int p3), .val (.int p4), .val (.int (1 : Int32)), .val (.int (p1 &&& (2147483647 : Int32))), .val (.int (p2 &&& (2147483647 : Int32))), .val (.int (p3 &&& (2147483647 : Int32))), .val (.int (p4 &&& (2147483647 : Int32))), .unset, .unset] [(.int (1 : Int32))])) t
      refine XS.iconst X0.here hx rfl (hb hby at_48) ?_
      show Steps p.tables e below (s₁.setTop (mkF m 49 #[.val (.int p0), .val (.int p1), .val (.int p2), .val (.int p3), .val (.int p4), .val (.int (1 : Int32)), .val (.int (p1 &&& (2147483647 : Int32))), .val (.int (p2 &&& (2147483647 : Int32))), .val (.int (p3 &&& (2147483647 : Int32))), .val (.int (p4 &&& (2147483647 : Int32))), .unset, .unset] [(.int (1 : Int32)), (.int (1 : Int32))])) t
      refine XS.icmpNo X0.here hx rfl (hb hby at_49) rfl (teq (rfl : (1 : Int32) = (1 : Int32))).2 ?_
      show Steps p.tables e below (s₁.setTop (mkF m 52 #[.val (.int p0), .val (.int p1), .val (.int p2), .val (.int p3), .val (.int p4), .val (.int (1 : Int32)), .val (.int (p1 &&& (2147483647 : Int32))), .val (.int (p2 &&& (2147483647 : Int32))), .val (.int (p3 &&& (2147483647 : Int32))), .val (.int (p4 &&& (2147483647 : Int32))), .unset, .unset] [])) t
      refine XS.iconst X0.here hx rfl (hb hby at_52) ?_
      exact k
    obtain ⟨T0_4, h0_4, k0_4, X0_4, e0_4, E0_4, A0_4, st0_4⟩ := newP X0 hx hZ (hw _ (List.mem_of_getElem? (i := 1) rfl)) e0 (g := (mkF m 53 #[.val (.int p0), .val (.int p1), .val (.int p2), .val (.int p3), .val (.int p4), .val (.int (1 : Int32)), .val (.int (p1 &&& (2147483647 : Int32))), .val (.int (p2 &&& (2147483647 : Int32))), .val (.int (p3 &&& (2147483647 : Int32))), .val (.int (p4 &&& (2147483647 : Int32))), .unset, .unset] [(.int (1 : Int32))])) rfl (hb hby at_53) rfl (by decide) (cap := 1) (by decide) (by decide) (by decide) (by decide)
    obtain ⟨b0_4, g0_4⟩ : ∃ z, z = h0.size := ⟨_, rfl⟩
    rw [← g0_4] at A0_4 st0_4
    have g_b0_4 : n0 ≤ b0_4 := Nat.le_trans Z0 (Nat.le_of_eq g0_4.symm)
    have V_b0_4 : Arv Z h0_4 b0_4 k0_4 .int (1 : Int32) [(.int (0 : Int32))] (.int (0 : Int32)) := (Arv.new A0_4 (by decide)).pad (pad_rep [] (.int (0 : Int32)) 1)
    refine own_fw st0_4 ?_
    refine own_fw (A := T0_4.setTop (mkF m 59 #[.val (.int p0), .val (.int p1), .val (.int p2), .val (.int p3), .val (.int p4), .val (.int (1 : Int32)), .val (.int (p1 &&& (2147483647 : Int32))), .val (.int (p2 &&& (2147483647 : Int32))), .val (.int (p3 &&& (2147483647 : Int32))), .val (.int (p4 &&& (2147483647 : Int32))), .unset, .unset] [(.int (p1 &&& (2147483647 : Int32))), (.int (0 : Int32)), (.ref b0_4), (.ref b0_4)])) (fun t k => ?_) ?_
    · show Steps p.tables e below (T0_4.setTop (mkF m 55 #[.val (.int p0), .val (.int p1), .val (.int p2), .val (.int p3), .val (.int p4), .val (.int (1 : Int32)), .val (.int (p1 &&& (2147483647 : Int32))), .val (.int (p2 &&& (2147483647 : Int32))), .val (.int (p3 &&& (2147483647 : Int32))), .val (.int (p4 &&& (2147483647 : Int32))), .unset, .unset] [(.ref b0_4)])) t
      refine XS.dup X0_4.here hx rfl (hb hby at_55) rfl rfl ?_
      show Steps p.tables e below (T0_4.setTop (mkF m 56 #[.val (.int p0), .val (.int p1), .val (.int p2), .val (.int p3), .val (.int p4), .val (.int (1 : Int32)), .val (.int (p1 &&& (2147483647 : Int32))), .val (.int (p2 &&& (2147483647 : Int32))), .val (.int (p3 &&& (2147483647 : Int32))), .val (.int (p4 &&& (2147483647 : Int32))), .unset, .unset] [(.ref b0_4), (.ref b0_4)])) t
      refine XS.iconst X0_4.here hx rfl (hb hby at_56) ?_
      show Steps p.tables e below (T0_4.setTop (mkF m 57 #[.val (.int p0), .val (.int p1), .val (.int p2), .val (.int p3), .val (.int p4), .val (.int (1 : Int32)), .val (.int (p1 &&& (2147483647 : Int32))), .val (.int (p2 &&& (2147483647 : Int32))), .val (.int (p3 &&& (2147483647 : Int32))), .val (.int (p4 &&& (2147483647 : Int32))), .unset, .unset] [(.int (0 : Int32)), (.ref b0_4), (.ref b0_4)])) t
      refine XS.iload X0_4.here hx rfl (hb hby at_57) rfl ?_
      exact k
    obtain ⟨cl0_5, Ar0_5, q0_5, S0_5, Ng0_5, Hs0_5, G0_5⟩ := id V_b0_4
    have hin0_5 : ¬ ((0 : Int32) < 0 ∨ cl0_5.slots.size ≤ ((0 : Int32)).toNatClampNeg) := inb_of S0_5 ⟨by decide, by decide⟩
    obtain ⟨T0_5, h0_5, X0_5, e0_5, W0_5, st0_5⟩ := stI X0_4 hx hZ e0_4 Ar0_5 (j := (0 : Int32)) hin0_5 (g := (mkF m 59 #[.val (.int p0), .val (.int p1), .val (.int p2), .val (.int p3), .val (.int p4), .val (.int (1 : Int32)), .val (.int (p1 &&& (2147483647 : Int32))), .val (.int (p2 &&& (2147483647 : Int32))), .val (.int (p3 &&& (2147483647 : Int32))), .val (.int (p4 &&& (2147483647 : Int32))), .unset, .unset] [(.int (p1 &&& (2147483647 : Int32))), (.int (0 : Int32)), (.ref b0_4), (.ref b0_4)])) rfl rfl (hb hby at_59)
    have V0_5 : Arv Z h0_5 b0_4 k0_4 .int (1 : Int32) [(.int (p1 &&& (2147483647 : Int32)))] (.int (0 : Int32)) := Arv.set Ar0_5 q0_5 S0_5 Ng0_5 Hs0_5 G0_5 rfl W0_5 0 rfl (Nat.le_of_ble_eq_true rfl)
    have N0_5 := Fr.snoc X0_5 N0 g_b0_4
    refine own_fw st0_5 ?_
    refine own_fw (A := T0_5.setTop (mkF m 147 #[.val (.int p0), .val (.int p1), .val (.int p2), .val (.int p3), .val (.int p4), .val (.int (1 : Int32)), .val (.int (p1 &&& (2147483647 : Int32))), .val (.int (p2 &&& (2147483647 : Int32))), .val (.int (p3 &&& (2147483647 : Int32))), .val (.int (p4 &&& (2147483647 : Int32))), .val (.ref b0_4), .unset] [(.int (1 : Int32)), (.ref b0_4)])) (fun t k => ?_) ?_
    · show Steps p.tables e below (T0_5.setTop (mkF m 60 #[.val (.int p0), .val (.int p1), .val (.int p2), .val (.int p3), .val (.int p4), .val (.int (1 : Int32)), .val (.int (p1 &&& (2147483647 : Int32))), .val (.int (p2 &&& (2147483647 : Int32))), .val (.int (p3 &&& (2147483647 : Int32))), .val (.int (p4 &&& (2147483647 : Int32))), .unset, .unset] [(.ref b0_4)])) t
      refine XS.astore X0_5.here hx rfl (hb hby at_60) rfl rfl (l' := #[.val (.int p0), .val (.int p1), .val (.int p2), .val (.int p3), .val (.int p4), .val (.int (1 : Int32)), .val (.int (p1 &&& (2147483647 : Int32))), .val (.int (p2 &&& (2147483647 : Int32))), .val (.int (p3 &&& (2147483647 : Int32))), .val (.int (p4 &&& (2147483647 : Int32))), .val (.ref b0_4), .unset]) rfl ?_
      show Steps p.tables e below (T0_5.setTop (mkF m 62 #[.val (.int p0), .val (.int p1), .val (.int p2), .val (.int p3), .val (.int p4), .val (.int (1 : Int32)), .val (.int (p1 &&& (2147483647 : Int32))), .val (.int (p2 &&& (2147483647 : Int32))), .val (.int (p3 &&& (2147483647 : Int32))), .val (.int (p4 &&& (2147483647 : Int32))), .val (.ref b0_4), .unset] [])) t
      refine XS.goto X0_5.here hx rfl (pc0 := 62) (pc' := 143) rfl (hb hby at_62) (by decide) (by decide) ?_
      show Steps p.tables e below (T0_5.setTop (mkF m 143 #[.val (.int p0), .val (.int p1), .val (.int p2), .val (.int p3), .val (.int p4), .val (.int (1 : Int32)), .val (.int (p1 &&& (2147483647 : Int32))), .val (.int (p2 &&& (2147483647 : Int32))), .val (.int (p3 &&& (2147483647 : Int32))), .val (.int (p4 &&& (2147483647 : Int32))), .val (.ref b0_4), .unset] [])) t
      refine XS.aload X0_5.here hx rfl (hb hby at_143) rfl rfl ?_
      show Steps p.tables e below (T0_5.setTop (mkF m 145 #[.val (.int p0), .val (.int p1), .val (.int p2), .val (.int p3), .val (.int p4), .val (.int (1 : Int32)), .val (.int (p1 &&& (2147483647 : Int32))), .val (.int (p2 &&& (2147483647 : Int32))), .val (.int (p3 &&& (2147483647 : Int32))), .val (.int (p4 &&& (2147483647 : Int32))), .val (.ref b0_4), .unset] [(.ref b0_4)])) t
      refine XS.iload X0_5.here hx rfl (hb hby at_145) rfl ?_
      exact k
    obtain ⟨_, _, ⟨T0_6, L0_6, k0_6, n0_6⟩, -, X0_6, ⟨Lc0_6, hQ0_6, l0_6, y0_6, z0_6⟩, st0_6⟩ := Jvm.LawKit.callS X0_5 hx (y := (⟨"com/example/terms_to_scores/termstoscores/scoring/DocumentScorer", "checkFrequencies", "([II)V"⟩ : MethodName)) hown (mvT hZ (hw _ (List.mem_of_getElem? (i := 2) rfl))) (mvT hZ (hw _ (List.mem_of_getElem? (i := 3) rfl))) (mvT hZ (hw _ (List.mem_of_getElem? (i := 4) rfl))) (mvT hZ (hw _ (List.mem_of_getElem? (i := 5) rfl))) (by decide) (backOf (W := 0) (rm1_1 l Z a0 hw [] b0_4 k0_4 (p1 &&& (2147483647 : Int32)) h0_5 n0 (Nat.le_trans (Nat.le_trans Z0 E0_4.1) (Keep.of_wr W0_5).1) V0_5 (own_nn p1)) hZ (hw _ (List.mem_of_getElem? (i := 5) rfl)) (hw _ (List.mem_of_getElem? (i := 4) rfl)) (by decide) (by decide)) (g := (mkF m 147 #[.val (.int p0), .val (.int p1), .val (.int p2), .val (.int p3), .val (.int p4), .val (.int (1 : Int32)), .val (.int (p1 &&& (2147483647 : Int32))), .val (.int (p2 &&& (2147483647 : Int32))), .val (.int (p3 &&& (2147483647 : Int32))), .val (.int (p4 &&& (2147483647 : Int32))), .val (.ref b0_4), .unset] [(.int (1 : Int32)), (.ref b0_4)])) rfl (by rw [hml]; rfl) (argsL := [(.ref b0_4), (.int (1 : Int32))]) (rest := []) (lenOf pd0_0 rfl) rfl (by show 2 * 0 + _ ≤ _; exact Nat.le_of_eq rfl) (hb hby at_147) (fun _ _ => ⟨rfl, e0_5, (by decide : 1 + 0 ≤ _), (by decide : 1 + 0 ≤ _)⟩)
    dsimp only [Pt.U, Pt.locs, Pt.cells, Pt.slots] at X0_6 l0_6 y0_6 z0_6 st0_6 hQ0_6
    subst l0_6 y0_6 z0_6
    obtain ⟨rfl, N0_6q, e0_6⟩ := hQ0_6
    have N0_6 := Fr.app N0_5 N0_6q
    refine own_fw st0_6 ?_
    refine own_fw (A := T0_6.setTop (mkF m 152 #[.val (.int p0), .val (.int p1), .val (.int p2), .val (.int p3), .val (.int p4), .val (.int (1 : Int32)), .val (.int (p1 &&& (2147483647 : Int32))), .val (.int (p2 &&& (2147483647 : Int32))), .val (.int (p3 &&& (2147483647 : Int32))), .val (.int (p4 &&& (2147483647 : Int32))), .val (.ref b0_4), .unset] [(.ref b0_4)])) (fun t k => ?_) ?_
    · show Steps p.tables e below (T0_6.setTop (mkF m 150 #[.val (.int p0), .val (.int p1), .val (.int p2), .val (.int p3), .val (.int p4), .val (.int (1 : Int32)), .val (.int (p1 &&& (2147483647 : Int32))), .val (.int (p2 &&& (2147483647 : Int32))), .val (.int (p3 &&& (2147483647 : Int32))), .val (.int (p4 &&& (2147483647 : Int32))), .val (.ref b0_4), .unset] [])) t
      refine XS.aload X0_6.here hx rfl (hb hby at_150) rfl rfl ?_
      exact k
    obtain ⟨cl0_7, Ar0_7, q0_7, S0_7, Ng0_7, Hs0_7, G0_7⟩ := id V0_5
    have st0_7 := X0_6.arraylength hx (by rw [e0_6]; exact Ar0_7.1) (State.isArrayOf_alike hZ.alike Ar0_7.2.1) (g := (mkF m 152 #[.val (.int p0), .val (.int p1), .val (.int p2), .val (.int p3), .val (.int p4), .val (.int (1 : Int32)), .val (.int (p1 &&& (2147483647 : Int32))), .val (.int (p2 &&& (2147483647 : Int32))), .val (.int (p3 &&& (2147483647 : Int32))), .val (.int (p4 &&& (2147483647 : Int32))), .val (.ref b0_4), .unset] [(.ref b0_4)])) rfl rfl (hb hby at_152)
    rw [len_of S0_7 Ng0_7] at st0_7
    refine own_fw st0_7 ?_
    refine own_fw (A := T0_6.setTop (mkF m 172 #[.val (.int p0), .val (.int p1), .val (.int p2), .val (.int p3), .val (.int p4), .val (.int (1 : Int32)), .val (.int (p1 &&& (2147483647 : Int32))), .val (.int (p2 &&& (2147483647 : Int32))), .val (.int (p3 &&& (2147483647 : Int32))), .val (.int (p4 &&& (2147483647 : Int32))), .val (.ref b0_4), .val (.int (1 : Int32))] [(.int (0 : Int32)), (.ref b0_4)])) (fun t k => ?_) ?_
    · show Steps p.tables e below (T0_6.setTop (mkF m 153 #[.val (.int p0), .val (.int p1), .val (.int p2), .val (.int p3), .val (.int p4), .val (.int (1 : Int32)), .val (.int (p1 &&& (2147483647 : Int32))), .val (.int (p2 &&& (2147483647 : Int32))), .val (.int (p3 &&& (2147483647 : Int32))), .val (.int (p4 &&& (2147483647 : Int32))), .val (.ref b0_4), .unset] [(.int (1 : Int32))])) t
      refine XS.iload X0_6.here hx rfl (hb hby at_153) rfl ?_
      show Steps p.tables e below (T0_6.setTop (mkF m 155 #[.val (.int p0), .val (.int p1), .val (.int p2), .val (.int p3), .val (.int p4), .val (.int (1 : Int32)), .val (.int (p1 &&& (2147483647 : Int32))), .val (.int (p2 &&& (2147483647 : Int32))), .val (.int (p3 &&& (2147483647 : Int32))), .val (.int (p4 &&& (2147483647 : Int32))), .val (.ref b0_4), .unset] [(.int (1 : Int32)), (.int (1 : Int32))])) t
      refine XS.icmpYes X0_6.here hx rfl (pc0 := 155) (pc' := 160) rfl (hb hby at_155) rfl (teq (rfl : (1 : Int32) = (1 : Int32))).1 (by decide) (by decide) ?_
      show Steps p.tables e below (T0_6.setTop (mkF m 160 #[.val (.int p0), .val (.int p1), .val (.int p2), .val (.int p3), .val (.int p4), .val (.int (1 : Int32)), .val (.int (p1 &&& (2147483647 : Int32))), .val (.int (p2 &&& (2147483647 : Int32))), .val (.int (p3 &&& (2147483647 : Int32))), .val (.int (p4 &&& (2147483647 : Int32))), .val (.ref b0_4), .unset] [])) t
      refine XS.iconst X0_6.here hx rfl (hb hby at_160) ?_
      show Steps p.tables e below (T0_6.setTop (mkF m 161 #[.val (.int p0), .val (.int p1), .val (.int p2), .val (.int p3), .val (.int p4), .val (.int (1 : Int32)), .val (.int (p1 &&& (2147483647 : Int32))), .val (.int (p2 &&& (2147483647 : Int32))), .val (.int (p3 &&& (2147483647 : Int32))), .val (.int (p4 &&& (2147483647 : Int32))), .val (.ref b0_4), .unset] [(.int (1 : Int32))])) t
      refine XS.istore X0_6.here hx rfl (hb hby at_161) rfl (l' := #[.val (.int p0), .val (.int p1), .val (.int p2), .val (.int p3), .val (.int p4), .val (.int (1 : Int32)), .val (.int (p1 &&& (2147483647 : Int32))), .val (.int (p2 &&& (2147483647 : Int32))), .val (.int (p3 &&& (2147483647 : Int32))), .val (.int (p4 &&& (2147483647 : Int32))), .val (.ref b0_4), .val (.int (1 : Int32))]) rfl ?_
      show Steps p.tables e below (T0_6.setTop (mkF m 163 #[.val (.int p0), .val (.int p1), .val (.int p2), .val (.int p3), .val (.int p4), .val (.int (1 : Int32)), .val (.int (p1 &&& (2147483647 : Int32))), .val (.int (p2 &&& (2147483647 : Int32))), .val (.int (p3 &&& (2147483647 : Int32))), .val (.int (p4 &&& (2147483647 : Int32))), .val (.ref b0_4), .val (.int (1 : Int32))] [])) t
      refine XS.iload X0_6.here hx rfl (hb hby at_163) rfl ?_
      show Steps p.tables e below (T0_6.setTop (mkF m 165 #[.val (.int p0), .val (.int p1), .val (.int p2), .val (.int p3), .val (.int p4), .val (.int (1 : Int32)), .val (.int (p1 &&& (2147483647 : Int32))), .val (.int (p2 &&& (2147483647 : Int32))), .val (.int (p3 &&& (2147483647 : Int32))), .val (.int (p4 &&& (2147483647 : Int32))), .val (.ref b0_4), .val (.int (1 : Int32))] [(.int (1 : Int32))])) t
      refine XS.iconst X0_6.here hx rfl (hb hby at_165) ?_
      show Steps p.tables e below (T0_6.setTop (mkF m 166 #[.val (.int p0), .val (.int p1), .val (.int p2), .val (.int p3), .val (.int p4), .val (.int (1 : Int32)), .val (.int (p1 &&& (2147483647 : Int32))), .val (.int (p2 &&& (2147483647 : Int32))), .val (.int (p3 &&& (2147483647 : Int32))), .val (.int (p4 &&& (2147483647 : Int32))), .val (.ref b0_4), .val (.int (1 : Int32))] [(.int (1 : Int32)), (.int (1 : Int32))])) t
      refine XS.icmpNo X0_6.here hx rfl (hb hby at_166) rfl (flt (Int32.lt_irrefl : ¬ ((1 : Int32) < (1 : Int32)))).1 ?_
      show Steps p.tables e below (T0_6.setTop (mkF m 169 #[.val (.int p0), .val (.int p1), .val (.int p2), .val (.int p3), .val (.int p4), .val (.int (1 : Int32)), .val (.int (p1 &&& (2147483647 : Int32))), .val (.int (p2 &&& (2147483647 : Int32))), .val (.int (p3 &&& (2147483647 : Int32))), .val (.int (p4 &&& (2147483647 : Int32))), .val (.ref b0_4), .val (.int (1 : Int32))] [])) t
      refine XS.aload X0_6.here hx rfl (hb hby at_169) rfl rfl ?_
      show Steps p.tables e below (T0_6.setTop (mkF m 171 #[.val (.int p0), .val (.int p1), .val (.int p2), .val (.int p3), .val (.int p4), .val (.int (1 : Int32)), .val (.int (p1 &&& (2147483647 : Int32))), .val (.int (p2 &&& (2147483647 : Int32))), .val (.int (p3 &&& (2147483647 : Int32))), .val (.int (p4 &&& (2147483647 : Int32))), .val (.ref b0_4), .val (.int (1 : Int32))] [(.ref b0_4)])) t
      refine XS.iconst X0_6.here hx rfl (hb hby at_171) ?_
      exact k
    obtain ⟨cl0_8, Ar0_8, q0_8, S0_8, Ng0_8, Hs0_8, G0_8⟩ := id V0_5
    have hin0_8 : ¬ ((0 : Int32) < 0 ∨ cl0_8.slots.size ≤ ((0 : Int32)).toNatClampNeg) := inb_of S0_8 ⟨by decide, by decide⟩
    refine own_fw (X0_6.iaload hx (j := (0 : Int32)) (v := (.int (p1 &&& (2147483647 : Int32)))) (by rw [e0_6]; exact Ar0_8.1) (State.isArrayOf_alike hZ.alike Ar0_8.2.1) Ar0_8.2.2 hin0_8 (Has.at Hs0_8 hin0_8 rfl) (g := (mkF m 172 #[.val (.int p0), .val (.int p1), .val (.int p2), .val (.int p3), .val (.int p4), .val (.int (1 : Int32)), .val (.int (p1 &&& (2147483647 : Int32))), .val (.int (p2 &&& (2147483647 : Int32))), .val (.int (p3 &&& (2147483647 : Int32))), .val (.int (p4 &&& (2147483647 : Int32))), .val (.ref b0_4), .val (.int (1 : Int32))] [(.int (0 : Int32)), (.ref b0_4)])) rfl rfl (hb hby at_172)) ?_
    refine own_fw (A := T0_6.setTop (mkF m 237 #[.val (.int p0), .val (.int p1), .val (.int p2), .val (.int p3), .val (.int p4), .val (.int (1 : Int32)), .val (.int (p1 &&& (2147483647 : Int32))), .val (.int (p2 &&& (2147483647 : Int32))), .val (.int (p3 &&& (2147483647 : Int32))), .val (.int (p4 &&& (2147483647 : Int32))), .val (.ref b0_4), .val (.int (1 : Int32))] [(.int (1 : Int32))])) (fun t k => ?_) ?_
    · show Steps p.tables e below (T0_6.setTop (mkF m 173 #[.val (.int p0), .val (.int p1), .val (.int p2), .val (.int p3), .val (.int p4), .val (.int (1 : Int32)), .val (.int (p1 &&& (2147483647 : Int32))), .val (.int (p2 &&& (2147483647 : Int32))), .val (.int (p3 &&& (2147483647 : Int32))), .val (.int (p4 &&& (2147483647 : Int32))), .val (.ref b0_4), .val (.int (1 : Int32))] [(.int (p1 &&& (2147483647 : Int32)))])) t
      refine XS.iload X0_6.here hx rfl (hb hby at_173) rfl ?_
      show Steps p.tables e below (T0_6.setTop (mkF m 175 #[.val (.int p0), .val (.int p1), .val (.int p2), .val (.int p3), .val (.int p4), .val (.int (1 : Int32)), .val (.int (p1 &&& (2147483647 : Int32))), .val (.int (p2 &&& (2147483647 : Int32))), .val (.int (p3 &&& (2147483647 : Int32))), .val (.int (p4 &&& (2147483647 : Int32))), .val (.ref b0_4), .val (.int (1 : Int32))] [(.int (p1 &&& (2147483647 : Int32))), (.int (p1 &&& (2147483647 : Int32)))])) t
      refine XS.icmpYes X0_6.here hx rfl (pc0 := 175) (pc' := 181) rfl (hb hby at_175) rfl (teq (rfl : (p1 &&& (2147483647 : Int32)) = (p1 &&& (2147483647 : Int32)))).1 (by decide) (by decide) ?_
      show Steps p.tables e below (T0_6.setTop (mkF m 181 #[.val (.int p0), .val (.int p1), .val (.int p2), .val (.int p3), .val (.int p4), .val (.int (1 : Int32)), .val (.int (p1 &&& (2147483647 : Int32))), .val (.int (p2 &&& (2147483647 : Int32))), .val (.int (p3 &&& (2147483647 : Int32))), .val (.int (p4 &&& (2147483647 : Int32))), .val (.ref b0_4), .val (.int (1 : Int32))] [])) t
      refine XS.iload X0_6.here hx rfl (hb hby at_181) rfl ?_
      show Steps p.tables e below (T0_6.setTop (mkF m 183 #[.val (.int p0), .val (.int p1), .val (.int p2), .val (.int p3), .val (.int p4), .val (.int (1 : Int32)), .val (.int (p1 &&& (2147483647 : Int32))), .val (.int (p2 &&& (2147483647 : Int32))), .val (.int (p3 &&& (2147483647 : Int32))), .val (.int (p4 &&& (2147483647 : Int32))), .val (.ref b0_4), .val (.int (1 : Int32))] [(.int (1 : Int32))])) t
      refine XS.iconst X0_6.here hx rfl (hb hby at_183) ?_
      show Steps p.tables e below (T0_6.setTop (mkF m 184 #[.val (.int p0), .val (.int p1), .val (.int p2), .val (.int p3), .val (.int p4), .val (.int (1 : Int32)), .val (.int (p1 &&& (2147483647 : Int32))), .val (.int (p2 &&& (2147483647 : Int32))), .val (.int (p3 &&& (2147483647 : Int32))), .val (.int (p4 &&& (2147483647 : Int32))), .val (.ref b0_4), .val (.int (1 : Int32))] [(.int (2 : Int32)), (.int (1 : Int32))])) t
      refine XS.icmpYes X0_6.here hx rfl (pc0 := 184) (pc' := 199) rfl (hb hby at_184) rfl (tlt (by decide : ((1 : Int32) < (2 : Int32)))).1 (by decide) (by decide) ?_
      show Steps p.tables e below (T0_6.setTop (mkF m 199 #[.val (.int p0), .val (.int p1), .val (.int p2), .val (.int p3), .val (.int p4), .val (.int (1 : Int32)), .val (.int (p1 &&& (2147483647 : Int32))), .val (.int (p2 &&& (2147483647 : Int32))), .val (.int (p3 &&& (2147483647 : Int32))), .val (.int (p4 &&& (2147483647 : Int32))), .val (.ref b0_4), .val (.int (1 : Int32))] [])) t
      refine XS.iload X0_6.here hx rfl (hb hby at_199) rfl ?_
      show Steps p.tables e below (T0_6.setTop (mkF m 201 #[.val (.int p0), .val (.int p1), .val (.int p2), .val (.int p3), .val (.int p4), .val (.int (1 : Int32)), .val (.int (p1 &&& (2147483647 : Int32))), .val (.int (p2 &&& (2147483647 : Int32))), .val (.int (p3 &&& (2147483647 : Int32))), .val (.int (p4 &&& (2147483647 : Int32))), .val (.ref b0_4), .val (.int (1 : Int32))] [(.int (1 : Int32))])) t
      refine XS.iconst X0_6.here hx rfl (hb hby at_201) ?_
      show Steps p.tables e below (T0_6.setTop (mkF m 202 #[.val (.int p0), .val (.int p1), .val (.int p2), .val (.int p3), .val (.int p4), .val (.int (1 : Int32)), .val (.int (p1 &&& (2147483647 : Int32))), .val (.int (p2 &&& (2147483647 : Int32))), .val (.int (p3 &&& (2147483647 : Int32))), .val (.int (p4 &&& (2147483647 : Int32))), .val (.ref b0_4), .val (.int (1 : Int32))] [(.int (3 : Int32)), (.int (1 : Int32))])) t
      refine XS.icmpYes X0_6.here hx rfl (pc0 := 202) (pc' := 217) rfl (hb hby at_202) rfl (tlt (by decide : ((1 : Int32) < (3 : Int32)))).1 (by decide) (by decide) ?_
      show Steps p.tables e below (T0_6.setTop (mkF m 217 #[.val (.int p0), .val (.int p1), .val (.int p2), .val (.int p3), .val (.int p4), .val (.int (1 : Int32)), .val (.int (p1 &&& (2147483647 : Int32))), .val (.int (p2 &&& (2147483647 : Int32))), .val (.int (p3 &&& (2147483647 : Int32))), .val (.int (p4 &&& (2147483647 : Int32))), .val (.ref b0_4), .val (.int (1 : Int32))] [])) t
      refine XS.iload X0_6.here hx rfl (hb hby at_217) rfl ?_
      show Steps p.tables e below (T0_6.setTop (mkF m 219 #[.val (.int p0), .val (.int p1), .val (.int p2), .val (.int p3), .val (.int p4), .val (.int (1 : Int32)), .val (.int (p1 &&& (2147483647 : Int32))), .val (.int (p2 &&& (2147483647 : Int32))), .val (.int (p3 &&& (2147483647 : Int32))), .val (.int (p4 &&& (2147483647 : Int32))), .val (.ref b0_4), .val (.int (1 : Int32))] [(.int (1 : Int32))])) t
      refine XS.iconst X0_6.here hx rfl (hb hby at_219) ?_
      show Steps p.tables e below (T0_6.setTop (mkF m 220 #[.val (.int p0), .val (.int p1), .val (.int p2), .val (.int p3), .val (.int p4), .val (.int (1 : Int32)), .val (.int (p1 &&& (2147483647 : Int32))), .val (.int (p2 &&& (2147483647 : Int32))), .val (.int (p3 &&& (2147483647 : Int32))), .val (.int (p4 &&& (2147483647 : Int32))), .val (.ref b0_4), .val (.int (1 : Int32))] [(.int (4 : Int32)), (.int (1 : Int32))])) t
      refine XS.icmpYes X0_6.here hx rfl (pc0 := 220) (pc' := 235) rfl (hb hby at_220) rfl (tlt (by decide : ((1 : Int32) < (4 : Int32)))).1 (by decide) (by decide) ?_
      show Steps p.tables e below (T0_6.setTop (mkF m 235 #[.val (.int p0), .val (.int p1), .val (.int p2), .val (.int p3), .val (.int p4), .val (.int (1 : Int32)), .val (.int (p1 &&& (2147483647 : Int32))), .val (.int (p2 &&& (2147483647 : Int32))), .val (.int (p3 &&& (2147483647 : Int32))), .val (.int (p4 &&& (2147483647 : Int32))), .val (.ref b0_4), .val (.int (1 : Int32))] [])) t
      refine XS.iload X0_6.here hx rfl (hb hby at_235) rfl ?_
      exact k
    obtain ⟨fs, hr, hrun, hended, hW, hsame⟩ := X0_6.leave (v := some (.int (nar .boolean (1 : Int32)))) (fun h => by rw [Bd.returns] at h; cases h)
    refine ⟨_, _, retN X0_6 hx (t := .boolean) Bd.returns (by simp) (hb hby at_237) hr, hrun, hended, _, _, rfl, ?_, ⟨_, rfl⟩, hW, hsame.mono (by decide) (by decide)⟩
    have eh : (T0_6.setFrames fs).heap = h0_5 := e0_6
    rw [eh]
    exact ⟨rfl, N0_6⟩
  · rw [hk]
    refine own_fw (A := s₁.setTop (mkF m 72 #[.val (.int p0), .val (.int p1), .val (.int p2), .val (.int p3), .val (.int p4), .val (.int (2 : Int32)), .val (.int (p1 &&& (2147483647 : Int32))), .val (.int (p2 &&& (2147483647 : Int32))), .val (.int (p3 &&& (2147483647 : Int32))), .val (.int (p4 &&& (2147483647 : Int32))), .unset, .unset] [(.int (2 : Int32))])) (fun t k => ?_) ?_
    · show Steps p.tables e below (s₁.setTop (mkF m 33 #[.val (.int p0), .val (.int p1), .val (.int p2), .val (.int p3), .val (.int p4), .val (.int (2 : Int32)), .val (.int (p1 &&& (2147483647 : Int32))), .val (.int (p2 &&& (2147483647 : Int32))), .val (.int (p3 &&& (2147483647 : Int32))), .val (.int (p4 &&& (2147483647 : Int32))), .unset, .unset] [])) t
      refine XS.iload X0.here hx rfl (hb hby at_33) rfl ?_
      show Steps p.tables e below (s₁.setTop (mkF m 35 #[.val (.int p0), .val (.int p1), .val (.int p2), .val (.int p3), .val (.int p4), .val (.int (2 : Int32)), .val (.int (p1 &&& (2147483647 : Int32))), .val (.int (p2 &&& (2147483647 : Int32))), .val (.int (p3 &&& (2147483647 : Int32))), .val (.int (p4 &&& (2147483647 : Int32))), .unset, .unset] [(.int (2 : Int32))])) t
      refine XS.ifYes X0.here hx rfl (pc0 := 35) (pc' := 46) rfl (hb hby at_35) rfl ((if0 _ _).trans (feq (by decide : ¬ ((2 : Int32) = (0 : Int32)))).2) (by decide) (by decide) ?_
      show Steps p.tables e below (s₁.setTop (mkF m 46 #[.val (.int p0), .val (.int p1), .val (.int p2), .val (.int p3), .val (.int p4), .val (.int (2 : Int32)), .val (.int (p1 &&& (2147483647 : Int32))), .val (.int (p2 &&& (2147483647 : Int32))), .val (.int (p3 &&& (2147483647 : Int32))), .val (.int (p4 &&& (2147483647 : Int32))), .unset, .unset] [])) t
      refine XS.iload X0.here hx rfl (hb hby at_46) rfl ?_
      show Steps p.tables e below (s₁.setTop (mkF m 48 #[.val (.int p0), .val (.int p1), .val (.int p2), .val (.int p3), .val (.int p4), .val (.int (2 : Int32)), .val (.int (p1 &&& (2147483647 : Int32))), .val (.int (p2 &&& (2147483647 : Int32))), .val (.int (p3 &&& (2147483647 : Int32))), .val (.int (p4 &&& (2147483647 : Int32))), .unset, .unset] [(.int (2 : Int32))])) t
      refine XS.iconst X0.here hx rfl (hb hby at_48) ?_
      show Steps p.tables e below (s₁.setTop (mkF m 49 #[.val (.int p0), .val (.int p1), .val (.int p2), .val (.int p3), .val (.int p4), .val (.int (2 : Int32)), .val (.int (p1 &&& (2147483647 : Int32))), .val (.int (p2 &&& (2147483647 : Int32))), .val (.int (p3 &&& (2147483647 : Int32))), .val (.int (p4 &&& (2147483647 : Int32))), .unset, .unset] [(.int (1 : Int32)), (.int (2 : Int32))])) t
      refine XS.icmpYes X0.here hx rfl (pc0 := 49) (pc' := 65) rfl (hb hby at_49) rfl (feq (by decide : ¬ ((2 : Int32) = (1 : Int32)))).2 (by decide) (by decide) ?_
      show Steps p.tables e below (s₁.setTop (mkF m 65 #[.val (.int p0), .val (.int p1), .val (.int p2), .val (.int p3), .val (.int p4), .val (.int (2 : Int32)), .val (.int (p1 &&& (2147483647 : Int32))), .val (.int (p2 &&& (2147483647 : Int32))), .val (.int (p3 &&& (2147483647 : Int32))), .val (.int (p4 &&& (2147483647 : Int32))), .unset, .unset] [])) t
      refine XS.iload X0.here hx rfl (hb hby at_65) rfl ?_
      show Steps p.tables e below (s₁.setTop (mkF m 67 #[.val (.int p0), .val (.int p1), .val (.int p2), .val (.int p3), .val (.int p4), .val (.int (2 : Int32)), .val (.int (p1 &&& (2147483647 : Int32))), .val (.int (p2 &&& (2147483647 : Int32))), .val (.int (p3 &&& (2147483647 : Int32))), .val (.int (p4 &&& (2147483647 : Int32))), .unset, .unset] [(.int (2 : Int32))])) t
      refine XS.iconst X0.here hx rfl (hb hby at_67) ?_
      show Steps p.tables e below (s₁.setTop (mkF m 68 #[.val (.int p0), .val (.int p1), .val (.int p2), .val (.int p3), .val (.int p4), .val (.int (2 : Int32)), .val (.int (p1 &&& (2147483647 : Int32))), .val (.int (p2 &&& (2147483647 : Int32))), .val (.int (p3 &&& (2147483647 : Int32))), .val (.int (p4 &&& (2147483647 : Int32))), .unset, .unset] [(.int (2 : Int32)), (.int (2 : Int32))])) t
      refine XS.icmpNo X0.here hx rfl (hb hby at_68) rfl (teq (rfl : (2 : Int32) = (2 : Int32))).2 ?_
      show Steps p.tables e below (s₁.setTop (mkF m 71 #[.val (.int p0), .val (.int p1), .val (.int p2), .val (.int p3), .val (.int p4), .val (.int (2 : Int32)), .val (.int (p1 &&& (2147483647 : Int32))), .val (.int (p2 &&& (2147483647 : Int32))), .val (.int (p3 &&& (2147483647 : Int32))), .val (.int (p4 &&& (2147483647 : Int32))), .unset, .unset] [])) t
      refine XS.iconst X0.here hx rfl (hb hby at_71) ?_
      exact k
    obtain ⟨T0_9, h0_9, k0_9, X0_9, e0_9, E0_9, A0_9, st0_9⟩ := newP X0 hx hZ (hw _ (List.mem_of_getElem? (i := 1) rfl)) e0 (g := (mkF m 72 #[.val (.int p0), .val (.int p1), .val (.int p2), .val (.int p3), .val (.int p4), .val (.int (2 : Int32)), .val (.int (p1 &&& (2147483647 : Int32))), .val (.int (p2 &&& (2147483647 : Int32))), .val (.int (p3 &&& (2147483647 : Int32))), .val (.int (p4 &&& (2147483647 : Int32))), .unset, .unset] [(.int (2 : Int32))])) rfl (hb hby at_72) rfl (by decide) (cap := 2) (by decide) (by decide) (by decide) (by decide)
    obtain ⟨b0_9, g0_9⟩ : ∃ z, z = h0.size := ⟨_, rfl⟩
    rw [← g0_9] at A0_9 st0_9
    have g_b0_9 : n0 ≤ b0_9 := Nat.le_trans Z0 (Nat.le_of_eq g0_9.symm)
    have V_b0_9 : Arv Z h0_9 b0_9 k0_9 .int (2 : Int32) [(.int (0 : Int32)), (.int (0 : Int32))] (.int (0 : Int32)) := (Arv.new A0_9 (by decide)).pad (pad_rep [] (.int (0 : Int32)) 2)
    refine own_fw st0_9 ?_
    refine own_fw (A := T0_9.setTop (mkF m 78 #[.val (.int p0), .val (.int p1), .val (.int p2), .val (.int p3), .val (.int p4), .val (.int (2 : Int32)), .val (.int (p1 &&& (2147483647 : Int32))), .val (.int (p2 &&& (2147483647 : Int32))), .val (.int (p3 &&& (2147483647 : Int32))), .val (.int (p4 &&& (2147483647 : Int32))), .unset, .unset] [(.int (p1 &&& (2147483647 : Int32))), (.int (0 : Int32)), (.ref b0_9), (.ref b0_9)])) (fun t k => ?_) ?_
    · show Steps p.tables e below (T0_9.setTop (mkF m 74 #[.val (.int p0), .val (.int p1), .val (.int p2), .val (.int p3), .val (.int p4), .val (.int (2 : Int32)), .val (.int (p1 &&& (2147483647 : Int32))), .val (.int (p2 &&& (2147483647 : Int32))), .val (.int (p3 &&& (2147483647 : Int32))), .val (.int (p4 &&& (2147483647 : Int32))), .unset, .unset] [(.ref b0_9)])) t
      refine XS.dup X0_9.here hx rfl (hb hby at_74) rfl rfl ?_
      show Steps p.tables e below (T0_9.setTop (mkF m 75 #[.val (.int p0), .val (.int p1), .val (.int p2), .val (.int p3), .val (.int p4), .val (.int (2 : Int32)), .val (.int (p1 &&& (2147483647 : Int32))), .val (.int (p2 &&& (2147483647 : Int32))), .val (.int (p3 &&& (2147483647 : Int32))), .val (.int (p4 &&& (2147483647 : Int32))), .unset, .unset] [(.ref b0_9), (.ref b0_9)])) t
      refine XS.iconst X0_9.here hx rfl (hb hby at_75) ?_
      show Steps p.tables e below (T0_9.setTop (mkF m 76 #[.val (.int p0), .val (.int p1), .val (.int p2), .val (.int p3), .val (.int p4), .val (.int (2 : Int32)), .val (.int (p1 &&& (2147483647 : Int32))), .val (.int (p2 &&& (2147483647 : Int32))), .val (.int (p3 &&& (2147483647 : Int32))), .val (.int (p4 &&& (2147483647 : Int32))), .unset, .unset] [(.int (0 : Int32)), (.ref b0_9), (.ref b0_9)])) t
      refine XS.iload X0_9.here hx rfl (hb hby at_76) rfl ?_
      exact k
    obtain ⟨cl0_10, Ar0_10, q0_10, S0_10, Ng0_10, Hs0_10, G0_10⟩ := id V_b0_9
    have hin0_10 : ¬ ((0 : Int32) < 0 ∨ cl0_10.slots.size ≤ ((0 : Int32)).toNatClampNeg) := inb_of S0_10 ⟨by decide, by decide⟩
    obtain ⟨T0_10, h0_10, X0_10, e0_10, W0_10, st0_10⟩ := stI X0_9 hx hZ e0_9 Ar0_10 (j := (0 : Int32)) hin0_10 (g := (mkF m 78 #[.val (.int p0), .val (.int p1), .val (.int p2), .val (.int p3), .val (.int p4), .val (.int (2 : Int32)), .val (.int (p1 &&& (2147483647 : Int32))), .val (.int (p2 &&& (2147483647 : Int32))), .val (.int (p3 &&& (2147483647 : Int32))), .val (.int (p4 &&& (2147483647 : Int32))), .unset, .unset] [(.int (p1 &&& (2147483647 : Int32))), (.int (0 : Int32)), (.ref b0_9), (.ref b0_9)])) rfl rfl (hb hby at_78)
    have V0_10 : Arv Z h0_10 b0_9 k0_9 .int (2 : Int32) [(.int (p1 &&& (2147483647 : Int32))), (.int (0 : Int32))] (.int (0 : Int32)) := Arv.set Ar0_10 q0_10 S0_10 Ng0_10 Hs0_10 G0_10 rfl W0_10 0 rfl (Nat.le_of_ble_eq_true rfl)
    have N0_10 := Fr.snoc X0_10 N0 g_b0_9
    refine own_fw st0_10 ?_
    refine own_fw (A := T0_10.setTop (mkF m 83 #[.val (.int p0), .val (.int p1), .val (.int p2), .val (.int p3), .val (.int p4), .val (.int (2 : Int32)), .val (.int (p1 &&& (2147483647 : Int32))), .val (.int (p2 &&& (2147483647 : Int32))), .val (.int (p3 &&& (2147483647 : Int32))), .val (.int (p4 &&& (2147483647 : Int32))), .unset, .unset] [(.int (p2 &&& (2147483647 : Int32))), (.int (1 : Int32)), (.ref b0_9), (.ref b0_9)])) (fun t k => ?_) ?_
    · show Steps p.tables e below (T0_10.setTop (mkF m 79 #[.val (.int p0), .val (.int p1), .val (.int p2), .val (.int p3), .val (.int p4), .val (.int (2 : Int32)), .val (.int (p1 &&& (2147483647 : Int32))), .val (.int (p2 &&& (2147483647 : Int32))), .val (.int (p3 &&& (2147483647 : Int32))), .val (.int (p4 &&& (2147483647 : Int32))), .unset, .unset] [(.ref b0_9)])) t
      refine XS.dup X0_10.here hx rfl (hb hby at_79) rfl rfl ?_
      show Steps p.tables e below (T0_10.setTop (mkF m 80 #[.val (.int p0), .val (.int p1), .val (.int p2), .val (.int p3), .val (.int p4), .val (.int (2 : Int32)), .val (.int (p1 &&& (2147483647 : Int32))), .val (.int (p2 &&& (2147483647 : Int32))), .val (.int (p3 &&& (2147483647 : Int32))), .val (.int (p4 &&& (2147483647 : Int32))), .unset, .unset] [(.ref b0_9), (.ref b0_9)])) t
      refine XS.iconst X0_10.here hx rfl (hb hby at_80) ?_
      show Steps p.tables e below (T0_10.setTop (mkF m 81 #[.val (.int p0), .val (.int p1), .val (.int p2), .val (.int p3), .val (.int p4), .val (.int (2 : Int32)), .val (.int (p1 &&& (2147483647 : Int32))), .val (.int (p2 &&& (2147483647 : Int32))), .val (.int (p3 &&& (2147483647 : Int32))), .val (.int (p4 &&& (2147483647 : Int32))), .unset, .unset] [(.int (1 : Int32)), (.ref b0_9), (.ref b0_9)])) t
      refine XS.iload X0_10.here hx rfl (hb hby at_81) rfl ?_
      exact k
    obtain ⟨cl0_11, Ar0_11, q0_11, S0_11, Ng0_11, Hs0_11, G0_11⟩ := id V0_10
    have hin0_11 : ¬ ((1 : Int32) < 0 ∨ cl0_11.slots.size ≤ ((1 : Int32)).toNatClampNeg) := inb_of S0_11 ⟨by decide, by decide⟩
    obtain ⟨T0_11, h0_11, X0_11, e0_11, W0_11, st0_11⟩ := stI X0_10 hx hZ e0_10 Ar0_11 (j := (1 : Int32)) hin0_11 (g := (mkF m 83 #[.val (.int p0), .val (.int p1), .val (.int p2), .val (.int p3), .val (.int p4), .val (.int (2 : Int32)), .val (.int (p1 &&& (2147483647 : Int32))), .val (.int (p2 &&& (2147483647 : Int32))), .val (.int (p3 &&& (2147483647 : Int32))), .val (.int (p4 &&& (2147483647 : Int32))), .unset, .unset] [(.int (p2 &&& (2147483647 : Int32))), (.int (1 : Int32)), (.ref b0_9), (.ref b0_9)])) rfl rfl (hb hby at_83)
    have V0_11 : Arv Z h0_11 b0_9 k0_9 .int (2 : Int32) [(.int (p1 &&& (2147483647 : Int32))), (.int (p2 &&& (2147483647 : Int32)))] (.int (0 : Int32)) := Arv.set Ar0_11 q0_11 S0_11 Ng0_11 Hs0_11 G0_11 rfl W0_11 1 rfl (Nat.le_of_ble_eq_true rfl)
    have N0_11 := Fr.snoc X0_11 N0_10 g_b0_9
    refine own_fw st0_11 ?_
    refine own_fw (A := T0_11.setTop (mkF m 147 #[.val (.int p0), .val (.int p1), .val (.int p2), .val (.int p3), .val (.int p4), .val (.int (2 : Int32)), .val (.int (p1 &&& (2147483647 : Int32))), .val (.int (p2 &&& (2147483647 : Int32))), .val (.int (p3 &&& (2147483647 : Int32))), .val (.int (p4 &&& (2147483647 : Int32))), .val (.ref b0_9), .unset] [(.int (2 : Int32)), (.ref b0_9)])) (fun t k => ?_) ?_
    · show Steps p.tables e below (T0_11.setTop (mkF m 84 #[.val (.int p0), .val (.int p1), .val (.int p2), .val (.int p3), .val (.int p4), .val (.int (2 : Int32)), .val (.int (p1 &&& (2147483647 : Int32))), .val (.int (p2 &&& (2147483647 : Int32))), .val (.int (p3 &&& (2147483647 : Int32))), .val (.int (p4 &&& (2147483647 : Int32))), .unset, .unset] [(.ref b0_9)])) t
      refine XS.astore X0_11.here hx rfl (hb hby at_84) rfl rfl (l' := #[.val (.int p0), .val (.int p1), .val (.int p2), .val (.int p3), .val (.int p4), .val (.int (2 : Int32)), .val (.int (p1 &&& (2147483647 : Int32))), .val (.int (p2 &&& (2147483647 : Int32))), .val (.int (p3 &&& (2147483647 : Int32))), .val (.int (p4 &&& (2147483647 : Int32))), .val (.ref b0_9), .unset]) rfl ?_
      show Steps p.tables e below (T0_11.setTop (mkF m 86 #[.val (.int p0), .val (.int p1), .val (.int p2), .val (.int p3), .val (.int p4), .val (.int (2 : Int32)), .val (.int (p1 &&& (2147483647 : Int32))), .val (.int (p2 &&& (2147483647 : Int32))), .val (.int (p3 &&& (2147483647 : Int32))), .val (.int (p4 &&& (2147483647 : Int32))), .val (.ref b0_9), .unset] [])) t
      refine XS.goto X0_11.here hx rfl (pc0 := 86) (pc' := 143) rfl (hb hby at_86) (by decide) (by decide) ?_
      show Steps p.tables e below (T0_11.setTop (mkF m 143 #[.val (.int p0), .val (.int p1), .val (.int p2), .val (.int p3), .val (.int p4), .val (.int (2 : Int32)), .val (.int (p1 &&& (2147483647 : Int32))), .val (.int (p2 &&& (2147483647 : Int32))), .val (.int (p3 &&& (2147483647 : Int32))), .val (.int (p4 &&& (2147483647 : Int32))), .val (.ref b0_9), .unset] [])) t
      refine XS.aload X0_11.here hx rfl (hb hby at_143) rfl rfl ?_
      show Steps p.tables e below (T0_11.setTop (mkF m 145 #[.val (.int p0), .val (.int p1), .val (.int p2), .val (.int p3), .val (.int p4), .val (.int (2 : Int32)), .val (.int (p1 &&& (2147483647 : Int32))), .val (.int (p2 &&& (2147483647 : Int32))), .val (.int (p3 &&& (2147483647 : Int32))), .val (.int (p4 &&& (2147483647 : Int32))), .val (.ref b0_9), .unset] [(.ref b0_9)])) t
      refine XS.iload X0_11.here hx rfl (hb hby at_145) rfl ?_
      exact k
    obtain ⟨_, _, ⟨T0_12, L0_12, k0_12, n0_12⟩, -, X0_12, ⟨Lc0_12, hQ0_12, l0_12, y0_12, z0_12⟩, st0_12⟩ := Jvm.LawKit.callS X0_11 hx (y := (⟨"com/example/terms_to_scores/termstoscores/scoring/DocumentScorer", "checkFrequencies", "([II)V"⟩ : MethodName)) hown (mvT hZ (hw _ (List.mem_of_getElem? (i := 2) rfl))) (mvT hZ (hw _ (List.mem_of_getElem? (i := 3) rfl))) (mvT hZ (hw _ (List.mem_of_getElem? (i := 4) rfl))) (mvT hZ (hw _ (List.mem_of_getElem? (i := 5) rfl))) (by decide) (backOf (W := 0) (rm1_2 l Z a0 hw [] b0_9 k0_9 (p1 &&& (2147483647 : Int32)) (p2 &&& (2147483647 : Int32)) h0_11 n0 (Nat.le_trans (Nat.le_trans (Nat.le_trans Z0 E0_9.1) (Keep.of_wr W0_10).1) (Keep.of_wr W0_11).1) V0_11 (own_nn p1) (own_nn p2)) hZ (hw _ (List.mem_of_getElem? (i := 5) rfl)) (hw _ (List.mem_of_getElem? (i := 4) rfl)) (by decide) (by decide)) (g := (mkF m 147 #[.val (.int p0), .val (.int p1), .val (.int p2), .val (.int p3), .val (.int p4), .val (.int (2 : Int32)), .val (.int (p1 &&& (2147483647 : Int32))), .val (.int (p2 &&& (2147483647 : Int32))), .val (.int (p3 &&& (2147483647 : Int32))), .val (.int (p4 &&& (2147483647 : Int32))), .val (.ref b0_9), .unset] [(.int (2 : Int32)), (.ref b0_9)])) rfl (by rw [hml]; rfl) (argsL := [(.ref b0_9), (.int (2 : Int32))]) (rest := []) (lenOf pd0_0 rfl) rfl (by show 2 * 0 + _ ≤ _; exact Nat.le_of_eq rfl) (hb hby at_147) (fun _ _ => ⟨rfl, e0_11, (by decide : 1 + 0 ≤ _), (by decide : 2 + 0 ≤ _)⟩)
    dsimp only [Pt.U, Pt.locs, Pt.cells, Pt.slots] at X0_12 l0_12 y0_12 z0_12 st0_12 hQ0_12
    subst l0_12 y0_12 z0_12
    obtain ⟨rfl, N0_12q, e0_12⟩ := hQ0_12
    have N0_12 := Fr.app N0_11 N0_12q
    refine own_fw st0_12 ?_
    refine own_fw (A := T0_12.setTop (mkF m 152 #[.val (.int p0), .val (.int p1), .val (.int p2), .val (.int p3), .val (.int p4), .val (.int (2 : Int32)), .val (.int (p1 &&& (2147483647 : Int32))), .val (.int (p2 &&& (2147483647 : Int32))), .val (.int (p3 &&& (2147483647 : Int32))), .val (.int (p4 &&& (2147483647 : Int32))), .val (.ref b0_9), .unset] [(.ref b0_9)])) (fun t k => ?_) ?_
    · show Steps p.tables e below (T0_12.setTop (mkF m 150 #[.val (.int p0), .val (.int p1), .val (.int p2), .val (.int p3), .val (.int p4), .val (.int (2 : Int32)), .val (.int (p1 &&& (2147483647 : Int32))), .val (.int (p2 &&& (2147483647 : Int32))), .val (.int (p3 &&& (2147483647 : Int32))), .val (.int (p4 &&& (2147483647 : Int32))), .val (.ref b0_9), .unset] [])) t
      refine XS.aload X0_12.here hx rfl (hb hby at_150) rfl rfl ?_
      exact k
    obtain ⟨cl0_13, Ar0_13, q0_13, S0_13, Ng0_13, Hs0_13, G0_13⟩ := id V0_11
    have st0_13 := X0_12.arraylength hx (by rw [e0_12]; exact Ar0_13.1) (State.isArrayOf_alike hZ.alike Ar0_13.2.1) (g := (mkF m 152 #[.val (.int p0), .val (.int p1), .val (.int p2), .val (.int p3), .val (.int p4), .val (.int (2 : Int32)), .val (.int (p1 &&& (2147483647 : Int32))), .val (.int (p2 &&& (2147483647 : Int32))), .val (.int (p3 &&& (2147483647 : Int32))), .val (.int (p4 &&& (2147483647 : Int32))), .val (.ref b0_9), .unset] [(.ref b0_9)])) rfl rfl (hb hby at_152)
    rw [len_of S0_13 Ng0_13] at st0_13
    refine own_fw st0_13 ?_
    refine own_fw (A := T0_12.setTop (mkF m 172 #[.val (.int p0), .val (.int p1), .val (.int p2), .val (.int p3), .val (.int p4), .val (.int (2 : Int32)), .val (.int (p1 &&& (2147483647 : Int32))), .val (.int (p2 &&& (2147483647 : Int32))), .val (.int (p3 &&& (2147483647 : Int32))), .val (.int (p4 &&& (2147483647 : Int32))), .val (.ref b0_9), .val (.int (1 : Int32))] [(.int (0 : Int32)), (.ref b0_9)])) (fun t k => ?_) ?_
    · show Steps p.tables e below (T0_12.setTop (mkF m 153 #[.val (.int p0), .val (.int p1), .val (.int p2), .val (.int p3), .val (.int p4), .val (.int (2 : Int32)), .val (.int (p1 &&& (2147483647 : Int32))), .val (.int (p2 &&& (2147483647 : Int32))), .val (.int (p3 &&& (2147483647 : Int32))), .val (.int (p4 &&& (2147483647 : Int32))), .val (.ref b0_9), .unset] [(.int (2 : Int32))])) t
      refine XS.iload X0_12.here hx rfl (hb hby at_153) rfl ?_
      show Steps p.tables e below (T0_12.setTop (mkF m 155 #[.val (.int p0), .val (.int p1), .val (.int p2), .val (.int p3), .val (.int p4), .val (.int (2 : Int32)), .val (.int (p1 &&& (2147483647 : Int32))), .val (.int (p2 &&& (2147483647 : Int32))), .val (.int (p3 &&& (2147483647 : Int32))), .val (.int (p4 &&& (2147483647 : Int32))), .val (.ref b0_9), .unset] [(.int (2 : Int32)), (.int (2 : Int32))])) t
      refine XS.icmpYes X0_12.here hx rfl (pc0 := 155) (pc' := 160) rfl (hb hby at_155) rfl (teq (rfl : (2 : Int32) = (2 : Int32))).1 (by decide) (by decide) ?_
      show Steps p.tables e below (T0_12.setTop (mkF m 160 #[.val (.int p0), .val (.int p1), .val (.int p2), .val (.int p3), .val (.int p4), .val (.int (2 : Int32)), .val (.int (p1 &&& (2147483647 : Int32))), .val (.int (p2 &&& (2147483647 : Int32))), .val (.int (p3 &&& (2147483647 : Int32))), .val (.int (p4 &&& (2147483647 : Int32))), .val (.ref b0_9), .unset] [])) t
      refine XS.iconst X0_12.here hx rfl (hb hby at_160) ?_
      show Steps p.tables e below (T0_12.setTop (mkF m 161 #[.val (.int p0), .val (.int p1), .val (.int p2), .val (.int p3), .val (.int p4), .val (.int (2 : Int32)), .val (.int (p1 &&& (2147483647 : Int32))), .val (.int (p2 &&& (2147483647 : Int32))), .val (.int (p3 &&& (2147483647 : Int32))), .val (.int (p4 &&& (2147483647 : Int32))), .val (.ref b0_9), .unset] [(.int (1 : Int32))])) t
      refine XS.istore X0_12.here hx rfl (hb hby at_161) rfl (l' := #[.val (.int p0), .val (.int p1), .val (.int p2), .val (.int p3), .val (.int p4), .val (.int (2 : Int32)), .val (.int (p1 &&& (2147483647 : Int32))), .val (.int (p2 &&& (2147483647 : Int32))), .val (.int (p3 &&& (2147483647 : Int32))), .val (.int (p4 &&& (2147483647 : Int32))), .val (.ref b0_9), .val (.int (1 : Int32))]) rfl ?_
      show Steps p.tables e below (T0_12.setTop (mkF m 163 #[.val (.int p0), .val (.int p1), .val (.int p2), .val (.int p3), .val (.int p4), .val (.int (2 : Int32)), .val (.int (p1 &&& (2147483647 : Int32))), .val (.int (p2 &&& (2147483647 : Int32))), .val (.int (p3 &&& (2147483647 : Int32))), .val (.int (p4 &&& (2147483647 : Int32))), .val (.ref b0_9), .val (.int (1 : Int32))] [])) t
      refine XS.iload X0_12.here hx rfl (hb hby at_163) rfl ?_
      show Steps p.tables e below (T0_12.setTop (mkF m 165 #[.val (.int p0), .val (.int p1), .val (.int p2), .val (.int p3), .val (.int p4), .val (.int (2 : Int32)), .val (.int (p1 &&& (2147483647 : Int32))), .val (.int (p2 &&& (2147483647 : Int32))), .val (.int (p3 &&& (2147483647 : Int32))), .val (.int (p4 &&& (2147483647 : Int32))), .val (.ref b0_9), .val (.int (1 : Int32))] [(.int (2 : Int32))])) t
      refine XS.iconst X0_12.here hx rfl (hb hby at_165) ?_
      show Steps p.tables e below (T0_12.setTop (mkF m 166 #[.val (.int p0), .val (.int p1), .val (.int p2), .val (.int p3), .val (.int p4), .val (.int (2 : Int32)), .val (.int (p1 &&& (2147483647 : Int32))), .val (.int (p2 &&& (2147483647 : Int32))), .val (.int (p3 &&& (2147483647 : Int32))), .val (.int (p4 &&& (2147483647 : Int32))), .val (.ref b0_9), .val (.int (1 : Int32))] [(.int (1 : Int32)), (.int (2 : Int32))])) t
      refine XS.icmpNo X0_12.here hx rfl (hb hby at_166) rfl (flt (by decide : ¬ ((2 : Int32) < (1 : Int32)))).1 ?_
      show Steps p.tables e below (T0_12.setTop (mkF m 169 #[.val (.int p0), .val (.int p1), .val (.int p2), .val (.int p3), .val (.int p4), .val (.int (2 : Int32)), .val (.int (p1 &&& (2147483647 : Int32))), .val (.int (p2 &&& (2147483647 : Int32))), .val (.int (p3 &&& (2147483647 : Int32))), .val (.int (p4 &&& (2147483647 : Int32))), .val (.ref b0_9), .val (.int (1 : Int32))] [])) t
      refine XS.aload X0_12.here hx rfl (hb hby at_169) rfl rfl ?_
      show Steps p.tables e below (T0_12.setTop (mkF m 171 #[.val (.int p0), .val (.int p1), .val (.int p2), .val (.int p3), .val (.int p4), .val (.int (2 : Int32)), .val (.int (p1 &&& (2147483647 : Int32))), .val (.int (p2 &&& (2147483647 : Int32))), .val (.int (p3 &&& (2147483647 : Int32))), .val (.int (p4 &&& (2147483647 : Int32))), .val (.ref b0_9), .val (.int (1 : Int32))] [(.ref b0_9)])) t
      refine XS.iconst X0_12.here hx rfl (hb hby at_171) ?_
      exact k
    obtain ⟨cl0_14, Ar0_14, q0_14, S0_14, Ng0_14, Hs0_14, G0_14⟩ := id V0_11
    have hin0_14 : ¬ ((0 : Int32) < 0 ∨ cl0_14.slots.size ≤ ((0 : Int32)).toNatClampNeg) := inb_of S0_14 ⟨by decide, by decide⟩
    refine own_fw (X0_12.iaload hx (j := (0 : Int32)) (v := (.int (p1 &&& (2147483647 : Int32)))) (by rw [e0_12]; exact Ar0_14.1) (State.isArrayOf_alike hZ.alike Ar0_14.2.1) Ar0_14.2.2 hin0_14 (Has.at Hs0_14 hin0_14 rfl) (g := (mkF m 172 #[.val (.int p0), .val (.int p1), .val (.int p2), .val (.int p3), .val (.int p4), .val (.int (2 : Int32)), .val (.int (p1 &&& (2147483647 : Int32))), .val (.int (p2 &&& (2147483647 : Int32))), .val (.int (p3 &&& (2147483647 : Int32))), .val (.int (p4 &&& (2147483647 : Int32))), .val (.ref b0_9), .val (.int (1 : Int32))] [(.int (0 : Int32)), (.ref b0_9)])) rfl rfl (hb hby at_172)) ?_
    refine own_fw (A := T0_12.setTop (mkF m 190 #[.val (.int p0), .val (.int p1), .val (.int p2), .val (.int p3), .val (.int p4), .val (.int (2 : Int32)), .val (.int (p1 &&& (2147483647 : Int32))), .val (.int (p2 &&& (2147483647 : Int32))), .val (.int (p3 &&& (2147483647 : Int32))), .val (.int (p4 &&& (2147483647 : Int32))), .val (.ref b0_9), .val (.int (1 : Int32))] [(.int (1 : Int32)), (.ref b0_9)])) (fun t k => ?_) ?_
    · show Steps p.tables e below (T0_12.setTop (mkF m 173 #[.val (.int p0), .val (.int p1), .val (.int p2), .val (.int p3), .val (.int p4), .val (.int (2 : Int32)), .val (.int (p1 &&& (2147483647 : Int32))), .val (.int (p2 &&& (2147483647 : Int32))), .val (.int (p3 &&& (2147483647 : Int32))), .val (.int (p4 &&& (2147483647 : Int32))), .val (.ref b0_9), .val (.int (1 : Int32))] [(.int (p1 &&& (2147483647 : Int32)))])) t
      refine XS.iload X0_12.here hx rfl (hb hby at_173) rfl ?_
      show Steps p.tables e below (T0_12.setTop (mkF m 175 #[.val (.int p0), .val (.int p1), .val (.int p2), .val (.int p3), .val (.int p4), .val (.int (2 : Int32)), .val (.int (p1 &&& (2147483647 : Int32))), .val (.int (p2 &&& (2147483647 : Int32))), .val (.int (p3 &&& (2147483647 : Int32))), .val (.int (p4 &&& (2147483647 : Int32))), .val (.ref b0_9), .val (.int (1 : Int32))] [(.int (p1 &&& (2147483647 : Int32))), (.int (p1 &&& (2147483647 : Int32)))])) t
      refine XS.icmpYes X0_12.here hx rfl (pc0 := 175) (pc' := 181) rfl (hb hby at_175) rfl (teq (rfl : (p1 &&& (2147483647 : Int32)) = (p1 &&& (2147483647 : Int32)))).1 (by decide) (by decide) ?_
      show Steps p.tables e below (T0_12.setTop (mkF m 181 #[.val (.int p0), .val (.int p1), .val (.int p2), .val (.int p3), .val (.int p4), .val (.int (2 : Int32)), .val (.int (p1 &&& (2147483647 : Int32))), .val (.int (p2 &&& (2147483647 : Int32))), .val (.int (p3 &&& (2147483647 : Int32))), .val (.int (p4 &&& (2147483647 : Int32))), .val (.ref b0_9), .val (.int (1 : Int32))] [])) t
      refine XS.iload X0_12.here hx rfl (hb hby at_181) rfl ?_
      show Steps p.tables e below (T0_12.setTop (mkF m 183 #[.val (.int p0), .val (.int p1), .val (.int p2), .val (.int p3), .val (.int p4), .val (.int (2 : Int32)), .val (.int (p1 &&& (2147483647 : Int32))), .val (.int (p2 &&& (2147483647 : Int32))), .val (.int (p3 &&& (2147483647 : Int32))), .val (.int (p4 &&& (2147483647 : Int32))), .val (.ref b0_9), .val (.int (1 : Int32))] [(.int (2 : Int32))])) t
      refine XS.iconst X0_12.here hx rfl (hb hby at_183) ?_
      show Steps p.tables e below (T0_12.setTop (mkF m 184 #[.val (.int p0), .val (.int p1), .val (.int p2), .val (.int p3), .val (.int p4), .val (.int (2 : Int32)), .val (.int (p1 &&& (2147483647 : Int32))), .val (.int (p2 &&& (2147483647 : Int32))), .val (.int (p3 &&& (2147483647 : Int32))), .val (.int (p4 &&& (2147483647 : Int32))), .val (.ref b0_9), .val (.int (1 : Int32))] [(.int (2 : Int32)), (.int (2 : Int32))])) t
      refine XS.icmpNo X0_12.here hx rfl (hb hby at_184) rfl (flt (Int32.lt_irrefl : ¬ ((2 : Int32) < (2 : Int32)))).1 ?_
      show Steps p.tables e below (T0_12.setTop (mkF m 187 #[.val (.int p0), .val (.int p1), .val (.int p2), .val (.int p3), .val (.int p4), .val (.int (2 : Int32)), .val (.int (p1 &&& (2147483647 : Int32))), .val (.int (p2 &&& (2147483647 : Int32))), .val (.int (p3 &&& (2147483647 : Int32))), .val (.int (p4 &&& (2147483647 : Int32))), .val (.ref b0_9), .val (.int (1 : Int32))] [])) t
      refine XS.aload X0_12.here hx rfl (hb hby at_187) rfl rfl ?_
      show Steps p.tables e below (T0_12.setTop (mkF m 189 #[.val (.int p0), .val (.int p1), .val (.int p2), .val (.int p3), .val (.int p4), .val (.int (2 : Int32)), .val (.int (p1 &&& (2147483647 : Int32))), .val (.int (p2 &&& (2147483647 : Int32))), .val (.int (p3 &&& (2147483647 : Int32))), .val (.int (p4 &&& (2147483647 : Int32))), .val (.ref b0_9), .val (.int (1 : Int32))] [(.ref b0_9)])) t
      refine XS.iconst X0_12.here hx rfl (hb hby at_189) ?_
      exact k
    obtain ⟨cl0_15, Ar0_15, q0_15, S0_15, Ng0_15, Hs0_15, G0_15⟩ := id V0_11
    have hin0_15 : ¬ ((1 : Int32) < 0 ∨ cl0_15.slots.size ≤ ((1 : Int32)).toNatClampNeg) := inb_of S0_15 ⟨by decide, by decide⟩
    refine own_fw (X0_12.iaload hx (j := (1 : Int32)) (v := (.int (p2 &&& (2147483647 : Int32)))) (by rw [e0_12]; exact Ar0_15.1) (State.isArrayOf_alike hZ.alike Ar0_15.2.1) Ar0_15.2.2 hin0_15 (Has.at Hs0_15 hin0_15 rfl) (g := (mkF m 190 #[.val (.int p0), .val (.int p1), .val (.int p2), .val (.int p3), .val (.int p4), .val (.int (2 : Int32)), .val (.int (p1 &&& (2147483647 : Int32))), .val (.int (p2 &&& (2147483647 : Int32))), .val (.int (p3 &&& (2147483647 : Int32))), .val (.int (p4 &&& (2147483647 : Int32))), .val (.ref b0_9), .val (.int (1 : Int32))] [(.int (1 : Int32)), (.ref b0_9)])) rfl rfl (hb hby at_190)) ?_
    refine own_fw (A := T0_12.setTop (mkF m 237 #[.val (.int p0), .val (.int p1), .val (.int p2), .val (.int p3), .val (.int p4), .val (.int (2 : Int32)), .val (.int (p1 &&& (2147483647 : Int32))), .val (.int (p2 &&& (2147483647 : Int32))), .val (.int (p3 &&& (2147483647 : Int32))), .val (.int (p4 &&& (2147483647 : Int32))), .val (.ref b0_9), .val (.int (1 : Int32))] [(.int (1 : Int32))])) (fun t k => ?_) ?_
    · show Steps p.tables e below (T0_12.setTop (mkF m 191 #[.val (.int p0), .val (.int p1), .val (.int p2), .val (.int p3), .val (.int p4), .val (.int (2 : Int32)), .val (.int (p1 &&& (2147483647 : Int32))), .val (.int (p2 &&& (2147483647 : Int32))), .val (.int (p3 &&& (2147483647 : Int32))), .val (.int (p4 &&& (2147483647 : Int32))), .val (.ref b0_9), .val (.int (1 : Int32))] [(.int (p2 &&& (2147483647 : Int32)))])) t
      refine XS.iload X0_12.here hx rfl (hb hby at_191) rfl ?_
      show Steps p.tables e below (T0_12.setTop (mkF m 193 #[.val (.int p0), .val (.int p1), .val (.int p2), .val (.int p3), .val (.int p4), .val (.int (2 : Int32)), .val (.int (p1 &&& (2147483647 : Int32))), .val (.int (p2 &&& (2147483647 : Int32))), .val (.int (p3 &&& (2147483647 : Int32))), .val (.int (p4 &&& (2147483647 : Int32))), .val (.ref b0_9), .val (.int (1 : Int32))] [(.int (p2 &&& (2147483647 : Int32))), (.int (p2 &&& (2147483647 : Int32)))])) t
      refine XS.icmpYes X0_12.here hx rfl (pc0 := 193) (pc' := 199) rfl (hb hby at_193) rfl (teq (rfl : (p2 &&& (2147483647 : Int32)) = (p2 &&& (2147483647 : Int32)))).1 (by decide) (by decide) ?_
      show Steps p.tables e below (T0_12.setTop (mkF m 199 #[.val (.int p0), .val (.int p1), .val (.int p2), .val (.int p3), .val (.int p4), .val (.int (2 : Int32)), .val (.int (p1 &&& (2147483647 : Int32))), .val (.int (p2 &&& (2147483647 : Int32))), .val (.int (p3 &&& (2147483647 : Int32))), .val (.int (p4 &&& (2147483647 : Int32))), .val (.ref b0_9), .val (.int (1 : Int32))] [])) t
      refine XS.iload X0_12.here hx rfl (hb hby at_199) rfl ?_
      show Steps p.tables e below (T0_12.setTop (mkF m 201 #[.val (.int p0), .val (.int p1), .val (.int p2), .val (.int p3), .val (.int p4), .val (.int (2 : Int32)), .val (.int (p1 &&& (2147483647 : Int32))), .val (.int (p2 &&& (2147483647 : Int32))), .val (.int (p3 &&& (2147483647 : Int32))), .val (.int (p4 &&& (2147483647 : Int32))), .val (.ref b0_9), .val (.int (1 : Int32))] [(.int (2 : Int32))])) t
      refine XS.iconst X0_12.here hx rfl (hb hby at_201) ?_
      show Steps p.tables e below (T0_12.setTop (mkF m 202 #[.val (.int p0), .val (.int p1), .val (.int p2), .val (.int p3), .val (.int p4), .val (.int (2 : Int32)), .val (.int (p1 &&& (2147483647 : Int32))), .val (.int (p2 &&& (2147483647 : Int32))), .val (.int (p3 &&& (2147483647 : Int32))), .val (.int (p4 &&& (2147483647 : Int32))), .val (.ref b0_9), .val (.int (1 : Int32))] [(.int (3 : Int32)), (.int (2 : Int32))])) t
      refine XS.icmpYes X0_12.here hx rfl (pc0 := 202) (pc' := 217) rfl (hb hby at_202) rfl (tlt (by decide : ((2 : Int32) < (3 : Int32)))).1 (by decide) (by decide) ?_
      show Steps p.tables e below (T0_12.setTop (mkF m 217 #[.val (.int p0), .val (.int p1), .val (.int p2), .val (.int p3), .val (.int p4), .val (.int (2 : Int32)), .val (.int (p1 &&& (2147483647 : Int32))), .val (.int (p2 &&& (2147483647 : Int32))), .val (.int (p3 &&& (2147483647 : Int32))), .val (.int (p4 &&& (2147483647 : Int32))), .val (.ref b0_9), .val (.int (1 : Int32))] [])) t
      refine XS.iload X0_12.here hx rfl (hb hby at_217) rfl ?_
      show Steps p.tables e below (T0_12.setTop (mkF m 219 #[.val (.int p0), .val (.int p1), .val (.int p2), .val (.int p3), .val (.int p4), .val (.int (2 : Int32)), .val (.int (p1 &&& (2147483647 : Int32))), .val (.int (p2 &&& (2147483647 : Int32))), .val (.int (p3 &&& (2147483647 : Int32))), .val (.int (p4 &&& (2147483647 : Int32))), .val (.ref b0_9), .val (.int (1 : Int32))] [(.int (2 : Int32))])) t
      refine XS.iconst X0_12.here hx rfl (hb hby at_219) ?_
      show Steps p.tables e below (T0_12.setTop (mkF m 220 #[.val (.int p0), .val (.int p1), .val (.int p2), .val (.int p3), .val (.int p4), .val (.int (2 : Int32)), .val (.int (p1 &&& (2147483647 : Int32))), .val (.int (p2 &&& (2147483647 : Int32))), .val (.int (p3 &&& (2147483647 : Int32))), .val (.int (p4 &&& (2147483647 : Int32))), .val (.ref b0_9), .val (.int (1 : Int32))] [(.int (4 : Int32)), (.int (2 : Int32))])) t
      refine XS.icmpYes X0_12.here hx rfl (pc0 := 220) (pc' := 235) rfl (hb hby at_220) rfl (tlt (by decide : ((2 : Int32) < (4 : Int32)))).1 (by decide) (by decide) ?_
      show Steps p.tables e below (T0_12.setTop (mkF m 235 #[.val (.int p0), .val (.int p1), .val (.int p2), .val (.int p3), .val (.int p4), .val (.int (2 : Int32)), .val (.int (p1 &&& (2147483647 : Int32))), .val (.int (p2 &&& (2147483647 : Int32))), .val (.int (p3 &&& (2147483647 : Int32))), .val (.int (p4 &&& (2147483647 : Int32))), .val (.ref b0_9), .val (.int (1 : Int32))] [])) t
      refine XS.iload X0_12.here hx rfl (hb hby at_235) rfl ?_
      exact k
    obtain ⟨fs, hr, hrun, hended, hW, hsame⟩ := X0_12.leave (v := some (.int (nar .boolean (1 : Int32)))) (fun h => by rw [Bd.returns] at h; cases h)
    refine ⟨_, _, retN X0_12 hx (t := .boolean) Bd.returns (by simp) (hb hby at_237) hr, hrun, hended, _, _, rfl, ?_, ⟨_, rfl⟩, hW, hsame.mono (by decide) (by decide)⟩
    have eh : (T0_12.setFrames fs).heap = h0_11 := e0_12
    rw [eh]
    exact ⟨rfl, N0_12⟩
  · rw [hk]
    refine own_fw (A := s₁.setTop (mkF m 96 #[.val (.int p0), .val (.int p1), .val (.int p2), .val (.int p3), .val (.int p4), .val (.int (3 : Int32)), .val (.int (p1 &&& (2147483647 : Int32))), .val (.int (p2 &&& (2147483647 : Int32))), .val (.int (p3 &&& (2147483647 : Int32))), .val (.int (p4 &&& (2147483647 : Int32))), .unset, .unset] [(.int (3 : Int32))])) (fun t k => ?_) ?_
    · show Steps p.tables e below (s₁.setTop (mkF m 33 #[.val (.int p0), .val (.int p1), .val (.int p2), .val (.int p3), .val (.int p4), .val (.int (3 : Int32)), .val (.int (p1 &&& (2147483647 : Int32))), .val (.int (p2 &&& (2147483647 : Int32))), .val (.int (p3 &&& (2147483647 : Int32))), .val (.int (p4 &&& (2147483647 : Int32))), .unset, .unset] [])) t
      refine XS.iload X0.here hx rfl (hb hby at_33) rfl ?_
      show Steps p.tables e below (s₁.setTop (mkF m 35 #[.val (.int p0), .val (.int p1), .val (.int p2), .val (.int p3), .val (.int p4), .val (.int (3 : Int32)), .val (.int (p1 &&& (2147483647 : Int32))), .val (.int (p2 &&& (2147483647 : Int32))), .val (.int (p3 &&& (2147483647 : Int32))), .val (.int (p4 &&& (2147483647 : Int32))), .unset, .unset] [(.int (3 : Int32))])) t
      refine XS.ifYes X0.here hx rfl (pc0 := 35) (pc' := 46) rfl (hb hby at_35) rfl ((if0 _ _).trans (feq (by decide : ¬ ((3 : Int32) = (0 : Int32)))).2) (by decide) (by decide) ?_
      show Steps p.tables e below (s₁.setTop (mkF m 46 #[.val (.int p0), .val (.int p1), .val (.int p2), .val (.int p3), .val (.int p4), .val (.int (3 : Int32)), .val (.int (p1 &&& (2147483647 : Int32))), .val (.int (p2 &&& (2147483647 : Int32))), .val (.int (p3 &&& (2147483647 : Int32))), .val (.int (p4 &&& (2147483647 : Int32))), .unset, .unset] [])) t
      refine XS.iload X0.here hx rfl (hb hby at_46) rfl ?_
      show Steps p.tables e below (s₁.setTop (mkF m 48 #[.val (.int p0), .val (.int p1), .val (.int p2), .val (.int p3), .val (.int p4), .val (.int (3 : Int32)), .val (.int (p1 &&& (2147483647 : Int32))), .val (.int (p2 &&& (2147483647 : Int32))), .val (.int (p3 &&& (2147483647 : Int32))), .val (.int (p4 &&& (2147483647 : Int32))), .unset, .unset] [(.int (3 : Int32))])) t
      refine XS.iconst X0.here hx rfl (hb hby at_48) ?_
      show Steps p.tables e below (s₁.setTop (mkF m 49 #[.val (.int p0), .val (.int p1), .val (.int p2), .val (.int p3), .val (.int p4), .val (.int (3 : Int32)), .val (.int (p1 &&& (2147483647 : Int32))), .val (.int (p2 &&& (2147483647 : Int32))), .val (.int (p3 &&& (2147483647 : Int32))), .val (.int (p4 &&& (2147483647 : Int32))), .unset, .unset] [(.int (1 : Int32)), (.int (3 : Int32))])) t
      refine XS.icmpYes X0.here hx rfl (pc0 := 49) (pc' := 65) rfl (hb hby at_49) rfl (feq (by decide : ¬ ((3 : Int32) = (1 : Int32)))).2 (by decide) (by decide) ?_
      show Steps p.tables e below (s₁.setTop (mkF m 65 #[.val (.int p0), .val (.int p1), .val (.int p2), .val (.int p3), .val (.int p4), .val (.int (3 : Int32)), .val (.int (p1 &&& (2147483647 : Int32))), .val (.int (p2 &&& (2147483647 : Int32))), .val (.int (p3 &&& (2147483647 : Int32))), .val (.int (p4 &&& (2147483647 : Int32))), .unset, .unset] [])) t
      refine XS.iload X0.here hx rfl (hb hby at_65) rfl ?_
      show Steps p.tables e below (s₁.setTop (mkF m 67 #[.val (.int p0), .val (.int p1), .val (.int p2), .val (.int p3), .val (.int p4), .val (.int (3 : Int32)), .val (.int (p1 &&& (2147483647 : Int32))), .val (.int (p2 &&& (2147483647 : Int32))), .val (.int (p3 &&& (2147483647 : Int32))), .val (.int (p4 &&& (2147483647 : Int32))), .unset, .unset] [(.int (3 : Int32))])) t
      refine XS.iconst X0.here hx rfl (hb hby at_67) ?_
      show Steps p.tables e below (s₁.setTop (mkF m 68 #[.val (.int p0), .val (.int p1), .val (.int p2), .val (.int p3), .val (.int p4), .val (.int (3 : Int32)), .val (.int (p1 &&& (2147483647 : Int32))), .val (.int (p2 &&& (2147483647 : Int32))), .val (.int (p3 &&& (2147483647 : Int32))), .val (.int (p4 &&& (2147483647 : Int32))), .unset, .unset] [(.int (2 : Int32)), (.int (3 : Int32))])) t
      refine XS.icmpYes X0.here hx rfl (pc0 := 68) (pc' := 89) rfl (hb hby at_68) rfl (feq (by decide : ¬ ((3 : Int32) = (2 : Int32)))).2 (by decide) (by decide) ?_
      show Steps p.tables e below (s₁.setTop (mkF m 89 #[.val (.int p0), .val (.int p1), .val (.int p2), .val (.int p3), .val (.int p4), .val (.int (3 : Int32)), .val (.int (p1 &&& (2147483647 : Int32))), .val (.int (p2 &&& (2147483647 : Int32))), .val (.int (p3 &&& (2147483647 : Int32))), .val (.int (p4 &&& (2147483647 : Int32))), .unset, .unset] [])) t
      refine XS.iload X0.here hx rfl (hb hby at_89) rfl ?_
      show Steps p.tables e below (s₁.setTop (mkF m 91 #[.val (.int p0), .val (.int p1), .val (.int p2), .val (.int p3), .val (.int p4), .val (.int (3 : Int32)), .val (.int (p1 &&& (2147483647 : Int32))), .val (.int (p2 &&& (2147483647 : Int32))), .val (.int (p3 &&& (2147483647 : Int32))), .val (.int (p4 &&& (2147483647 : Int32))), .unset, .unset] [(.int (3 : Int32))])) t
      refine XS.iconst X0.here hx rfl (hb hby at_91) ?_
      show Steps p.tables e below (s₁.setTop (mkF m 92 #[.val (.int p0), .val (.int p1), .val (.int p2), .val (.int p3), .val (.int p4), .val (.int (3 : Int32)), .val (.int (p1 &&& (2147483647 : Int32))), .val (.int (p2 &&& (2147483647 : Int32))), .val (.int (p3 &&& (2147483647 : Int32))), .val (.int (p4 &&& (2147483647 : Int32))), .unset, .unset] [(.int (3 : Int32)), (.int (3 : Int32))])) t
      refine XS.icmpNo X0.here hx rfl (hb hby at_92) rfl (teq (rfl : (3 : Int32) = (3 : Int32))).2 ?_
      show Steps p.tables e below (s₁.setTop (mkF m 95 #[.val (.int p0), .val (.int p1), .val (.int p2), .val (.int p3), .val (.int p4), .val (.int (3 : Int32)), .val (.int (p1 &&& (2147483647 : Int32))), .val (.int (p2 &&& (2147483647 : Int32))), .val (.int (p3 &&& (2147483647 : Int32))), .val (.int (p4 &&& (2147483647 : Int32))), .unset, .unset] [])) t
      refine XS.iconst X0.here hx rfl (hb hby at_95) ?_
      exact k
    obtain ⟨T0_16, h0_16, k0_16, X0_16, e0_16, E0_16, A0_16, st0_16⟩ := newP X0 hx hZ (hw _ (List.mem_of_getElem? (i := 1) rfl)) e0 (g := (mkF m 96 #[.val (.int p0), .val (.int p1), .val (.int p2), .val (.int p3), .val (.int p4), .val (.int (3 : Int32)), .val (.int (p1 &&& (2147483647 : Int32))), .val (.int (p2 &&& (2147483647 : Int32))), .val (.int (p3 &&& (2147483647 : Int32))), .val (.int (p4 &&& (2147483647 : Int32))), .unset, .unset] [(.int (3 : Int32))])) rfl (hb hby at_96) rfl (by decide) (cap := 3) (by decide) (by decide) (by decide) (by decide)
    obtain ⟨b0_16, g0_16⟩ : ∃ z, z = h0.size := ⟨_, rfl⟩
    rw [← g0_16] at A0_16 st0_16
    have g_b0_16 : n0 ≤ b0_16 := Nat.le_trans Z0 (Nat.le_of_eq g0_16.symm)
    have V_b0_16 : Arv Z h0_16 b0_16 k0_16 .int (3 : Int32) [(.int (0 : Int32)), (.int (0 : Int32)), (.int (0 : Int32))] (.int (0 : Int32)) := (Arv.new A0_16 (by decide)).pad (pad_rep [] (.int (0 : Int32)) 3)
    refine own_fw st0_16 ?_
    refine own_fw (A := T0_16.setTop (mkF m 102 #[.val (.int p0), .val (.int p1), .val (.int p2), .val (.int p3), .val (.int p4), .val (.int (3 : Int32)), .val (.int (p1 &&& (2147483647 : Int32))), .val (.int (p2 &&& (2147483647 : Int32))), .val (.int (p3 &&& (2147483647 : Int32))), .val (.int (p4 &&& (2147483647 : Int32))), .unset, .unset] [(.int (p1 &&& (2147483647 : Int32))), (.int (0 : Int32)), (.ref b0_16), (.ref b0_16)])) (fun t k => ?_) ?_
    · show Steps p.tables e below (T0_16.setTop (mkF m 98 #[.val (.int p0), .val (.int p1), .val (.int p2), .val (.int p3), .val (.int p4), .val (.int (3 : Int32)), .val (.int (p1 &&& (2147483647 : Int32))), .val (.int (p2 &&& (2147483647 : Int32))), .val (.int (p3 &&& (2147483647 : Int32))), .val (.int (p4 &&& (2147483647 : Int32))), .unset, .unset] [(.ref b0_16)])) t
      refine XS.dup X0_16.here hx rfl (hb hby at_98) rfl rfl ?_
      show Steps p.tables e below (T0_16.setTop (mkF m 99 #[.val (.int p0), .val (.int p1), .val (.int p2), .val (.int p3), .val (.int p4), .val (.int (3 : Int32)), .val (.int (p1 &&& (2147483647 : Int32))), .val (.int (p2 &&& (2147483647 : Int32))), .val (.int (p3 &&& (2147483647 : Int32))), .val (.int (p4 &&& (2147483647 : Int32))), .unset, .unset] [(.ref b0_16), (.ref b0_16)])) t
      refine XS.iconst X0_16.here hx rfl (hb hby at_99) ?_
      show Steps p.tables e below (T0_16.setTop (mkF m 100 #[.val (.int p0), .val (.int p1), .val (.int p2), .val (.int p3), .val (.int p4), .val (.int (3 : Int32)), .val (.int (p1 &&& (2147483647 : Int32))), .val (.int (p2 &&& (2147483647 : Int32))), .val (.int (p3 &&& (2147483647 : Int32))), .val (.int (p4 &&& (2147483647 : Int32))), .unset, .unset] [(.int (0 : Int32)), (.ref b0_16), (.ref b0_16)])) t
      refine XS.iload X0_16.here hx rfl (hb hby at_100) rfl ?_
      exact k
    obtain ⟨cl0_17, Ar0_17, q0_17, S0_17, Ng0_17, Hs0_17, G0_17⟩ := id V_b0_16
    have hin0_17 : ¬ ((0 : Int32) < 0 ∨ cl0_17.slots.size ≤ ((0 : Int32)).toNatClampNeg) := inb_of S0_17 ⟨by decide, by decide⟩
    obtain ⟨T0_17, h0_17, X0_17, e0_17, W0_17, st0_17⟩ := stI X0_16 hx hZ e0_16 Ar0_17 (j := (0 : Int32)) hin0_17 (g := (mkF m 102 #[.val (.int p0), .val (.int p1), .val (.int p2), .val (.int p3), .val (.int p4), .val (.int (3 : Int32)), .val (.int (p1 &&& (2147483647 : Int32))), .val (.int (p2 &&& (2147483647 : Int32))), .val (.int (p3 &&& (2147483647 : Int32))), .val (.int (p4 &&& (2147483647 : Int32))), .unset, .unset] [(.int (p1 &&& (2147483647 : Int32))), (.int (0 : Int32)), (.ref b0_16), (.ref b0_16)])) rfl rfl (hb hby at_102)
    have V0_17 : Arv Z h0_17 b0_16 k0_16 .int (3 : Int32) [(.int (p1 &&& (2147483647 : Int32))), (.int (0 : Int32)), (.int (0 : Int32))] (.int (0 : Int32)) := Arv.set Ar0_17 q0_17 S0_17 Ng0_17 Hs0_17 G0_17 rfl W0_17 0 rfl (Nat.le_of_ble_eq_true rfl)
    have N0_17 := Fr.snoc X0_17 N0 g_b0_16
    refine own_fw st0_17 ?_
    refine own_fw (A := T0_17.setTop (mkF m 107 #[.val (.int p0), .val (.int p1), .val (.int p2), .val (.int p3), .val (.int p4), .val (.int (3 : Int32)), .val (.int (p1 &&& (2147483647 : Int32))), .val (.int (p2 &&& (2147483647 : Int32))), .val (.int (p3 &&& (2147483647 : Int32))), .val (.int (p4 &&& (2147483647 : Int32))), .unset, .unset] [(.int (p2 &&& (2147483647 : Int32))), (.int (1 : Int32)), (.ref b0_16), (.ref b0_16)])) (fun t k => ?_) ?_
    · show Steps p.tables e below (T0_17.setTop (mkF m 103 #[.val (.int p0), .val (.int p1), .val (.int p2), .val (.int p3), .val (.int p4), .val (.int (3 : Int32)), .val (.int (p1 &&& (2147483647 : Int32))), .val (.int (p2 &&& (2147483647 : Int32))), .val (.int (p3 &&& (2147483647 : Int32))), .val (.int (p4 &&& (2147483647 : Int32))), .unset, .unset] [(.ref b0_16)])) t
      refine XS.dup X0_17.here hx rfl (hb hby at_103) rfl rfl ?_
      show Steps p.tables e below (T0_17.setTop (mkF m 104 #[.val (.int p0), .val (.int p1), .val (.int p2), .val (.int p3), .val (.int p4), .val (.int (3 : Int32)), .val (.int (p1 &&& (2147483647 : Int32))), .val (.int (p2 &&& (2147483647 : Int32))), .val (.int (p3 &&& (2147483647 : Int32))), .val (.int (p4 &&& (2147483647 : Int32))), .unset, .unset] [(.ref b0_16), (.ref b0_16)])) t
      refine XS.iconst X0_17.here hx rfl (hb hby at_104) ?_
      show Steps p.tables e below (T0_17.setTop (mkF m 105 #[.val (.int p0), .val (.int p1), .val (.int p2), .val (.int p3), .val (.int p4), .val (.int (3 : Int32)), .val (.int (p1 &&& (2147483647 : Int32))), .val (.int (p2 &&& (2147483647 : Int32))), .val (.int (p3 &&& (2147483647 : Int32))), .val (.int (p4 &&& (2147483647 : Int32))), .unset, .unset] [(.int (1 : Int32)), (.ref b0_16), (.ref b0_16)])) t
      refine XS.iload X0_17.here hx rfl (hb hby at_105) rfl ?_
      exact k
    obtain ⟨cl0_18, Ar0_18, q0_18, S0_18, Ng0_18, Hs0_18, G0_18⟩ := id V0_17
    have hin0_18 : ¬ ((1 : Int32) < 0 ∨ cl0_18.slots.size ≤ ((1 : Int32)).toNatClampNeg) := inb_of S0_18 ⟨by decide, by decide⟩
    obtain ⟨T0_18, h0_18, X0_18, e0_18, W0_18, st0_18⟩ := stI X0_17 hx hZ e0_17 Ar0_18 (j := (1 : Int32)) hin0_18 (g := (mkF m 107 #[.val (.int p0), .val (.int p1), .val (.int p2), .val (.int p3), .val (.int p4), .val (.int (3 : Int32)), .val (.int (p1 &&& (2147483647 : Int32))), .val (.int (p2 &&& (2147483647 : Int32))), .val (.int (p3 &&& (2147483647 : Int32))), .val (.int (p4 &&& (2147483647 : Int32))), .unset, .unset] [(.int (p2 &&& (2147483647 : Int32))), (.int (1 : Int32)), (.ref b0_16), (.ref b0_16)])) rfl rfl (hb hby at_107)
    have V0_18 : Arv Z h0_18 b0_16 k0_16 .int (3 : Int32) [(.int (p1 &&& (2147483647 : Int32))), (.int (p2 &&& (2147483647 : Int32))), (.int (0 : Int32))] (.int (0 : Int32)) := Arv.set Ar0_18 q0_18 S0_18 Ng0_18 Hs0_18 G0_18 rfl W0_18 1 rfl (Nat.le_of_ble_eq_true rfl)
    have N0_18 := Fr.snoc X0_18 N0_17 g_b0_16
    refine own_fw st0_18 ?_
    refine own_fw (A := T0_18.setTop (mkF m 112 #[.val (.int p0), .val (.int p1), .val (.int p2), .val (.int p3), .val (.int p4), .val (.int (3 : Int32)), .val (.int (p1 &&& (2147483647 : Int32))), .val (.int (p2 &&& (2147483647 : Int32))), .val (.int (p3 &&& (2147483647 : Int32))), .val (.int (p4 &&& (2147483647 : Int32))), .unset, .unset] [(.int (p3 &&& (2147483647 : Int32))), (.int (2 : Int32)), (.ref b0_16), (.ref b0_16)])) (fun t k => ?_) ?_
    · show Steps p.tables e below (T0_18.setTop (mkF m 108 #[.val (.int p0), .val (.int p1), .val (.int p2), .val (.int p3), .val (.int p4), .val (.int (3 : Int32)), .val (.int (p1 &&& (2147483647 : Int32))), .val (.int (p2 &&& (2147483647 : Int32))), .val (.int (p3 &&& (2147483647 : Int32))), .val (.int (p4 &&& (2147483647 : Int32))), .unset, .unset] [(.ref b0_16)])) t
      refine XS.dup X0_18.here hx rfl (hb hby at_108) rfl rfl ?_
      show Steps p.tables e below (T0_18.setTop (mkF m 109 #[.val (.int p0), .val (.int p1), .val (.int p2), .val (.int p3), .val (.int p4), .val (.int (3 : Int32)), .val (.int (p1 &&& (2147483647 : Int32))), .val (.int (p2 &&& (2147483647 : Int32))), .val (.int (p3 &&& (2147483647 : Int32))), .val (.int (p4 &&& (2147483647 : Int32))), .unset, .unset] [(.ref b0_16), (.ref b0_16)])) t
      refine XS.iconst X0_18.here hx rfl (hb hby at_109) ?_
      show Steps p.tables e below (T0_18.setTop (mkF m 110 #[.val (.int p0), .val (.int p1), .val (.int p2), .val (.int p3), .val (.int p4), .val (.int (3 : Int32)), .val (.int (p1 &&& (2147483647 : Int32))), .val (.int (p2 &&& (2147483647 : Int32))), .val (.int (p3 &&& (2147483647 : Int32))), .val (.int (p4 &&& (2147483647 : Int32))), .unset, .unset] [(.int (2 : Int32)), (.ref b0_16), (.ref b0_16)])) t
      refine XS.iload X0_18.here hx rfl (hb hby at_110) rfl ?_
      exact k
    obtain ⟨cl0_19, Ar0_19, q0_19, S0_19, Ng0_19, Hs0_19, G0_19⟩ := id V0_18
    have hin0_19 : ¬ ((2 : Int32) < 0 ∨ cl0_19.slots.size ≤ ((2 : Int32)).toNatClampNeg) := inb_of S0_19 ⟨by decide, by decide⟩
    obtain ⟨T0_19, h0_19, X0_19, e0_19, W0_19, st0_19⟩ := stI X0_18 hx hZ e0_18 Ar0_19 (j := (2 : Int32)) hin0_19 (g := (mkF m 112 #[.val (.int p0), .val (.int p1), .val (.int p2), .val (.int p3), .val (.int p4), .val (.int (3 : Int32)), .val (.int (p1 &&& (2147483647 : Int32))), .val (.int (p2 &&& (2147483647 : Int32))), .val (.int (p3 &&& (2147483647 : Int32))), .val (.int (p4 &&& (2147483647 : Int32))), .unset, .unset] [(.int (p3 &&& (2147483647 : Int32))), (.int (2 : Int32)), (.ref b0_16), (.ref b0_16)])) rfl rfl (hb hby at_112)
    have V0_19 : Arv Z h0_19 b0_16 k0_16 .int (3 : Int32) [(.int (p1 &&& (2147483647 : Int32))), (.int (p2 &&& (2147483647 : Int32))), (.int (p3 &&& (2147483647 : Int32)))] (.int (0 : Int32)) := Arv.set Ar0_19 q0_19 S0_19 Ng0_19 Hs0_19 G0_19 rfl W0_19 2 rfl (Nat.le_of_ble_eq_true rfl)
    have N0_19 := Fr.snoc X0_19 N0_18 g_b0_16
    refine own_fw st0_19 ?_
    refine own_fw (A := T0_19.setTop (mkF m 147 #[.val (.int p0), .val (.int p1), .val (.int p2), .val (.int p3), .val (.int p4), .val (.int (3 : Int32)), .val (.int (p1 &&& (2147483647 : Int32))), .val (.int (p2 &&& (2147483647 : Int32))), .val (.int (p3 &&& (2147483647 : Int32))), .val (.int (p4 &&& (2147483647 : Int32))), .val (.ref b0_16), .unset] [(.int (3 : Int32)), (.ref b0_16)])) (fun t k => ?_) ?_
    · show Steps p.tables e below (T0_19.setTop (mkF m 113 #[.val (.int p0), .val (.int p1), .val (.int p2), .val (.int p3), .val (.int p4), .val (.int (3 : Int32)), .val (.int (p1 &&& (2147483647 : Int32))), .val (.int (p2 &&& (2147483647 : Int32))), .val (.int (p3 &&& (2147483647 : Int32))), .val (.int (p4 &&& (2147483647 : Int32))), .unset, .unset] [(.ref b0_16)])) t
      refine XS.astore X0_19.here hx rfl (hb hby at_113) rfl rfl (l' := #[.val (.int p0), .val (.int p1), .val (.int p2), .val (.int p3), .val (.int p4), .val (.int (3 : Int32)), .val (.int (p1 &&& (2147483647 : Int32))), .val (.int (p2 &&& (2147483647 : Int32))), .val (.int (p3 &&& (2147483647 : Int32))), .val (.int (p4 &&& (2147483647 : Int32))), .val (.ref b0_16), .unset]) rfl ?_
      show Steps p.tables e below (T0_19.setTop (mkF m 115 #[.val (.int p0), .val (.int p1), .val (.int p2), .val (.int p3), .val (.int p4), .val (.int (3 : Int32)), .val (.int (p1 &&& (2147483647 : Int32))), .val (.int (p2 &&& (2147483647 : Int32))), .val (.int (p3 &&& (2147483647 : Int32))), .val (.int (p4 &&& (2147483647 : Int32))), .val (.ref b0_16), .unset] [])) t
      refine XS.goto X0_19.here hx rfl (pc0 := 115) (pc' := 143) rfl (hb hby at_115) (by decide) (by decide) ?_
      show Steps p.tables e below (T0_19.setTop (mkF m 143 #[.val (.int p0), .val (.int p1), .val (.int p2), .val (.int p3), .val (.int p4), .val (.int (3 : Int32)), .val (.int (p1 &&& (2147483647 : Int32))), .val (.int (p2 &&& (2147483647 : Int32))), .val (.int (p3 &&& (2147483647 : Int32))), .val (.int (p4 &&& (2147483647 : Int32))), .val (.ref b0_16), .unset] [])) t
      refine XS.aload X0_19.here hx rfl (hb hby at_143) rfl rfl ?_
      show Steps p.tables e below (T0_19.setTop (mkF m 145 #[.val (.int p0), .val (.int p1), .val (.int p2), .val (.int p3), .val (.int p4), .val (.int (3 : Int32)), .val (.int (p1 &&& (2147483647 : Int32))), .val (.int (p2 &&& (2147483647 : Int32))), .val (.int (p3 &&& (2147483647 : Int32))), .val (.int (p4 &&& (2147483647 : Int32))), .val (.ref b0_16), .unset] [(.ref b0_16)])) t
      refine XS.iload X0_19.here hx rfl (hb hby at_145) rfl ?_
      exact k
    obtain ⟨_, _, ⟨T0_20, L0_20, k0_20, n0_20⟩, -, X0_20, ⟨Lc0_20, hQ0_20, l0_20, y0_20, z0_20⟩, st0_20⟩ := Jvm.LawKit.callS X0_19 hx (y := (⟨"com/example/terms_to_scores/termstoscores/scoring/DocumentScorer", "checkFrequencies", "([II)V"⟩ : MethodName)) hown (mvT hZ (hw _ (List.mem_of_getElem? (i := 2) rfl))) (mvT hZ (hw _ (List.mem_of_getElem? (i := 3) rfl))) (mvT hZ (hw _ (List.mem_of_getElem? (i := 4) rfl))) (mvT hZ (hw _ (List.mem_of_getElem? (i := 5) rfl))) (by decide) (backOf (W := 0) (rm1_3 l Z a0 hw [] b0_16 k0_16 (p1 &&& (2147483647 : Int32)) (p2 &&& (2147483647 : Int32)) (p3 &&& (2147483647 : Int32)) h0_19 n0 (Nat.le_trans (Nat.le_trans (Nat.le_trans (Nat.le_trans Z0 E0_16.1) (Keep.of_wr W0_17).1) (Keep.of_wr W0_18).1) (Keep.of_wr W0_19).1) V0_19 (own_nn p1) (own_nn p2) (own_nn p3)) hZ (hw _ (List.mem_of_getElem? (i := 5) rfl)) (hw _ (List.mem_of_getElem? (i := 4) rfl)) (by decide) (by decide)) (g := (mkF m 147 #[.val (.int p0), .val (.int p1), .val (.int p2), .val (.int p3), .val (.int p4), .val (.int (3 : Int32)), .val (.int (p1 &&& (2147483647 : Int32))), .val (.int (p2 &&& (2147483647 : Int32))), .val (.int (p3 &&& (2147483647 : Int32))), .val (.int (p4 &&& (2147483647 : Int32))), .val (.ref b0_16), .unset] [(.int (3 : Int32)), (.ref b0_16)])) rfl (by rw [hml]; rfl) (argsL := [(.ref b0_16), (.int (3 : Int32))]) (rest := []) (lenOf pd0_0 rfl) rfl (by show 2 * 0 + _ ≤ _; exact Nat.le_of_eq rfl) (hb hby at_147) (fun _ _ => ⟨rfl, e0_19, (by decide : 1 + 0 ≤ _), (by decide : 3 + 0 ≤ _)⟩)
    dsimp only [Pt.U, Pt.locs, Pt.cells, Pt.slots] at X0_20 l0_20 y0_20 z0_20 st0_20 hQ0_20
    subst l0_20 y0_20 z0_20
    obtain ⟨rfl, N0_20q, e0_20⟩ := hQ0_20
    have N0_20 := Fr.app N0_19 N0_20q
    refine own_fw st0_20 ?_
    refine own_fw (A := T0_20.setTop (mkF m 152 #[.val (.int p0), .val (.int p1), .val (.int p2), .val (.int p3), .val (.int p4), .val (.int (3 : Int32)), .val (.int (p1 &&& (2147483647 : Int32))), .val (.int (p2 &&& (2147483647 : Int32))), .val (.int (p3 &&& (2147483647 : Int32))), .val (.int (p4 &&& (2147483647 : Int32))), .val (.ref b0_16), .unset] [(.ref b0_16)])) (fun t k => ?_) ?_
    · show Steps p.tables e below (T0_20.setTop (mkF m 150 #[.val (.int p0), .val (.int p1), .val (.int p2), .val (.int p3), .val (.int p4), .val (.int (3 : Int32)), .val (.int (p1 &&& (2147483647 : Int32))), .val (.int (p2 &&& (2147483647 : Int32))), .val (.int (p3 &&& (2147483647 : Int32))), .val (.int (p4 &&& (2147483647 : Int32))), .val (.ref b0_16), .unset] [])) t
      refine XS.aload X0_20.here hx rfl (hb hby at_150) rfl rfl ?_
      exact k
    obtain ⟨cl0_21, Ar0_21, q0_21, S0_21, Ng0_21, Hs0_21, G0_21⟩ := id V0_19
    have st0_21 := X0_20.arraylength hx (by rw [e0_20]; exact Ar0_21.1) (State.isArrayOf_alike hZ.alike Ar0_21.2.1) (g := (mkF m 152 #[.val (.int p0), .val (.int p1), .val (.int p2), .val (.int p3), .val (.int p4), .val (.int (3 : Int32)), .val (.int (p1 &&& (2147483647 : Int32))), .val (.int (p2 &&& (2147483647 : Int32))), .val (.int (p3 &&& (2147483647 : Int32))), .val (.int (p4 &&& (2147483647 : Int32))), .val (.ref b0_16), .unset] [(.ref b0_16)])) rfl rfl (hb hby at_152)
    rw [len_of S0_21 Ng0_21] at st0_21
    refine own_fw st0_21 ?_
    refine own_fw (A := T0_20.setTop (mkF m 172 #[.val (.int p0), .val (.int p1), .val (.int p2), .val (.int p3), .val (.int p4), .val (.int (3 : Int32)), .val (.int (p1 &&& (2147483647 : Int32))), .val (.int (p2 &&& (2147483647 : Int32))), .val (.int (p3 &&& (2147483647 : Int32))), .val (.int (p4 &&& (2147483647 : Int32))), .val (.ref b0_16), .val (.int (1 : Int32))] [(.int (0 : Int32)), (.ref b0_16)])) (fun t k => ?_) ?_
    · show Steps p.tables e below (T0_20.setTop (mkF m 153 #[.val (.int p0), .val (.int p1), .val (.int p2), .val (.int p3), .val (.int p4), .val (.int (3 : Int32)), .val (.int (p1 &&& (2147483647 : Int32))), .val (.int (p2 &&& (2147483647 : Int32))), .val (.int (p3 &&& (2147483647 : Int32))), .val (.int (p4 &&& (2147483647 : Int32))), .val (.ref b0_16), .unset] [(.int (3 : Int32))])) t
      refine XS.iload X0_20.here hx rfl (hb hby at_153) rfl ?_
      show Steps p.tables e below (T0_20.setTop (mkF m 155 #[.val (.int p0), .val (.int p1), .val (.int p2), .val (.int p3), .val (.int p4), .val (.int (3 : Int32)), .val (.int (p1 &&& (2147483647 : Int32))), .val (.int (p2 &&& (2147483647 : Int32))), .val (.int (p3 &&& (2147483647 : Int32))), .val (.int (p4 &&& (2147483647 : Int32))), .val (.ref b0_16), .unset] [(.int (3 : Int32)), (.int (3 : Int32))])) t
      refine XS.icmpYes X0_20.here hx rfl (pc0 := 155) (pc' := 160) rfl (hb hby at_155) rfl (teq (rfl : (3 : Int32) = (3 : Int32))).1 (by decide) (by decide) ?_
      show Steps p.tables e below (T0_20.setTop (mkF m 160 #[.val (.int p0), .val (.int p1), .val (.int p2), .val (.int p3), .val (.int p4), .val (.int (3 : Int32)), .val (.int (p1 &&& (2147483647 : Int32))), .val (.int (p2 &&& (2147483647 : Int32))), .val (.int (p3 &&& (2147483647 : Int32))), .val (.int (p4 &&& (2147483647 : Int32))), .val (.ref b0_16), .unset] [])) t
      refine XS.iconst X0_20.here hx rfl (hb hby at_160) ?_
      show Steps p.tables e below (T0_20.setTop (mkF m 161 #[.val (.int p0), .val (.int p1), .val (.int p2), .val (.int p3), .val (.int p4), .val (.int (3 : Int32)), .val (.int (p1 &&& (2147483647 : Int32))), .val (.int (p2 &&& (2147483647 : Int32))), .val (.int (p3 &&& (2147483647 : Int32))), .val (.int (p4 &&& (2147483647 : Int32))), .val (.ref b0_16), .unset] [(.int (1 : Int32))])) t
      refine XS.istore X0_20.here hx rfl (hb hby at_161) rfl (l' := #[.val (.int p0), .val (.int p1), .val (.int p2), .val (.int p3), .val (.int p4), .val (.int (3 : Int32)), .val (.int (p1 &&& (2147483647 : Int32))), .val (.int (p2 &&& (2147483647 : Int32))), .val (.int (p3 &&& (2147483647 : Int32))), .val (.int (p4 &&& (2147483647 : Int32))), .val (.ref b0_16), .val (.int (1 : Int32))]) rfl ?_
      show Steps p.tables e below (T0_20.setTop (mkF m 163 #[.val (.int p0), .val (.int p1), .val (.int p2), .val (.int p3), .val (.int p4), .val (.int (3 : Int32)), .val (.int (p1 &&& (2147483647 : Int32))), .val (.int (p2 &&& (2147483647 : Int32))), .val (.int (p3 &&& (2147483647 : Int32))), .val (.int (p4 &&& (2147483647 : Int32))), .val (.ref b0_16), .val (.int (1 : Int32))] [])) t
      refine XS.iload X0_20.here hx rfl (hb hby at_163) rfl ?_
      show Steps p.tables e below (T0_20.setTop (mkF m 165 #[.val (.int p0), .val (.int p1), .val (.int p2), .val (.int p3), .val (.int p4), .val (.int (3 : Int32)), .val (.int (p1 &&& (2147483647 : Int32))), .val (.int (p2 &&& (2147483647 : Int32))), .val (.int (p3 &&& (2147483647 : Int32))), .val (.int (p4 &&& (2147483647 : Int32))), .val (.ref b0_16), .val (.int (1 : Int32))] [(.int (3 : Int32))])) t
      refine XS.iconst X0_20.here hx rfl (hb hby at_165) ?_
      show Steps p.tables e below (T0_20.setTop (mkF m 166 #[.val (.int p0), .val (.int p1), .val (.int p2), .val (.int p3), .val (.int p4), .val (.int (3 : Int32)), .val (.int (p1 &&& (2147483647 : Int32))), .val (.int (p2 &&& (2147483647 : Int32))), .val (.int (p3 &&& (2147483647 : Int32))), .val (.int (p4 &&& (2147483647 : Int32))), .val (.ref b0_16), .val (.int (1 : Int32))] [(.int (1 : Int32)), (.int (3 : Int32))])) t
      refine XS.icmpNo X0_20.here hx rfl (hb hby at_166) rfl (flt (by decide : ¬ ((3 : Int32) < (1 : Int32)))).1 ?_
      show Steps p.tables e below (T0_20.setTop (mkF m 169 #[.val (.int p0), .val (.int p1), .val (.int p2), .val (.int p3), .val (.int p4), .val (.int (3 : Int32)), .val (.int (p1 &&& (2147483647 : Int32))), .val (.int (p2 &&& (2147483647 : Int32))), .val (.int (p3 &&& (2147483647 : Int32))), .val (.int (p4 &&& (2147483647 : Int32))), .val (.ref b0_16), .val (.int (1 : Int32))] [])) t
      refine XS.aload X0_20.here hx rfl (hb hby at_169) rfl rfl ?_
      show Steps p.tables e below (T0_20.setTop (mkF m 171 #[.val (.int p0), .val (.int p1), .val (.int p2), .val (.int p3), .val (.int p4), .val (.int (3 : Int32)), .val (.int (p1 &&& (2147483647 : Int32))), .val (.int (p2 &&& (2147483647 : Int32))), .val (.int (p3 &&& (2147483647 : Int32))), .val (.int (p4 &&& (2147483647 : Int32))), .val (.ref b0_16), .val (.int (1 : Int32))] [(.ref b0_16)])) t
      refine XS.iconst X0_20.here hx rfl (hb hby at_171) ?_
      exact k
    obtain ⟨cl0_22, Ar0_22, q0_22, S0_22, Ng0_22, Hs0_22, G0_22⟩ := id V0_19
    have hin0_22 : ¬ ((0 : Int32) < 0 ∨ cl0_22.slots.size ≤ ((0 : Int32)).toNatClampNeg) := inb_of S0_22 ⟨by decide, by decide⟩
    refine own_fw (X0_20.iaload hx (j := (0 : Int32)) (v := (.int (p1 &&& (2147483647 : Int32)))) (by rw [e0_20]; exact Ar0_22.1) (State.isArrayOf_alike hZ.alike Ar0_22.2.1) Ar0_22.2.2 hin0_22 (Has.at Hs0_22 hin0_22 rfl) (g := (mkF m 172 #[.val (.int p0), .val (.int p1), .val (.int p2), .val (.int p3), .val (.int p4), .val (.int (3 : Int32)), .val (.int (p1 &&& (2147483647 : Int32))), .val (.int (p2 &&& (2147483647 : Int32))), .val (.int (p3 &&& (2147483647 : Int32))), .val (.int (p4 &&& (2147483647 : Int32))), .val (.ref b0_16), .val (.int (1 : Int32))] [(.int (0 : Int32)), (.ref b0_16)])) rfl rfl (hb hby at_172)) ?_
    refine own_fw (A := T0_20.setTop (mkF m 190 #[.val (.int p0), .val (.int p1), .val (.int p2), .val (.int p3), .val (.int p4), .val (.int (3 : Int32)), .val (.int (p1 &&& (2147483647 : Int32))), .val (.int (p2 &&& (2147483647 : Int32))), .val (.int (p3 &&& (2147483647 : Int32))), .val (.int (p4 &&& (2147483647 : Int32))), .val (.ref b0_16), .val (.int (1 : Int32))] [(.int (1 : Int32)), (.ref b0_16)])) (fun t k => ?_) ?_
    · show Steps p.tables e below (T0_20.setTop (mkF m 173 #[.val (.int p0), .val (.int p1), .val (.int p2), .val (.int p3), .val (.int p4), .val (.int (3 : Int32)), .val (.int (p1 &&& (2147483647 : Int32))), .val (.int (p2 &&& (2147483647 : Int32))), .val (.int (p3 &&& (2147483647 : Int32))), .val (.int (p4 &&& (2147483647 : Int32))), .val (.ref b0_16), .val (.int (1 : Int32))] [(.int (p1 &&& (2147483647 : Int32)))])) t
      refine XS.iload X0_20.here hx rfl (hb hby at_173) rfl ?_
      show Steps p.tables e below (T0_20.setTop (mkF m 175 #[.val (.int p0), .val (.int p1), .val (.int p2), .val (.int p3), .val (.int p4), .val (.int (3 : Int32)), .val (.int (p1 &&& (2147483647 : Int32))), .val (.int (p2 &&& (2147483647 : Int32))), .val (.int (p3 &&& (2147483647 : Int32))), .val (.int (p4 &&& (2147483647 : Int32))), .val (.ref b0_16), .val (.int (1 : Int32))] [(.int (p1 &&& (2147483647 : Int32))), (.int (p1 &&& (2147483647 : Int32)))])) t
      refine XS.icmpYes X0_20.here hx rfl (pc0 := 175) (pc' := 181) rfl (hb hby at_175) rfl (teq (rfl : (p1 &&& (2147483647 : Int32)) = (p1 &&& (2147483647 : Int32)))).1 (by decide) (by decide) ?_
      show Steps p.tables e below (T0_20.setTop (mkF m 181 #[.val (.int p0), .val (.int p1), .val (.int p2), .val (.int p3), .val (.int p4), .val (.int (3 : Int32)), .val (.int (p1 &&& (2147483647 : Int32))), .val (.int (p2 &&& (2147483647 : Int32))), .val (.int (p3 &&& (2147483647 : Int32))), .val (.int (p4 &&& (2147483647 : Int32))), .val (.ref b0_16), .val (.int (1 : Int32))] [])) t
      refine XS.iload X0_20.here hx rfl (hb hby at_181) rfl ?_
      show Steps p.tables e below (T0_20.setTop (mkF m 183 #[.val (.int p0), .val (.int p1), .val (.int p2), .val (.int p3), .val (.int p4), .val (.int (3 : Int32)), .val (.int (p1 &&& (2147483647 : Int32))), .val (.int (p2 &&& (2147483647 : Int32))), .val (.int (p3 &&& (2147483647 : Int32))), .val (.int (p4 &&& (2147483647 : Int32))), .val (.ref b0_16), .val (.int (1 : Int32))] [(.int (3 : Int32))])) t
      refine XS.iconst X0_20.here hx rfl (hb hby at_183) ?_
      show Steps p.tables e below (T0_20.setTop (mkF m 184 #[.val (.int p0), .val (.int p1), .val (.int p2), .val (.int p3), .val (.int p4), .val (.int (3 : Int32)), .val (.int (p1 &&& (2147483647 : Int32))), .val (.int (p2 &&& (2147483647 : Int32))), .val (.int (p3 &&& (2147483647 : Int32))), .val (.int (p4 &&& (2147483647 : Int32))), .val (.ref b0_16), .val (.int (1 : Int32))] [(.int (2 : Int32)), (.int (3 : Int32))])) t
      refine XS.icmpNo X0_20.here hx rfl (hb hby at_184) rfl (flt (by decide : ¬ ((3 : Int32) < (2 : Int32)))).1 ?_
      show Steps p.tables e below (T0_20.setTop (mkF m 187 #[.val (.int p0), .val (.int p1), .val (.int p2), .val (.int p3), .val (.int p4), .val (.int (3 : Int32)), .val (.int (p1 &&& (2147483647 : Int32))), .val (.int (p2 &&& (2147483647 : Int32))), .val (.int (p3 &&& (2147483647 : Int32))), .val (.int (p4 &&& (2147483647 : Int32))), .val (.ref b0_16), .val (.int (1 : Int32))] [])) t
      refine XS.aload X0_20.here hx rfl (hb hby at_187) rfl rfl ?_
      show Steps p.tables e below (T0_20.setTop (mkF m 189 #[.val (.int p0), .val (.int p1), .val (.int p2), .val (.int p3), .val (.int p4), .val (.int (3 : Int32)), .val (.int (p1 &&& (2147483647 : Int32))), .val (.int (p2 &&& (2147483647 : Int32))), .val (.int (p3 &&& (2147483647 : Int32))), .val (.int (p4 &&& (2147483647 : Int32))), .val (.ref b0_16), .val (.int (1 : Int32))] [(.ref b0_16)])) t
      refine XS.iconst X0_20.here hx rfl (hb hby at_189) ?_
      exact k
    obtain ⟨cl0_23, Ar0_23, q0_23, S0_23, Ng0_23, Hs0_23, G0_23⟩ := id V0_19
    have hin0_23 : ¬ ((1 : Int32) < 0 ∨ cl0_23.slots.size ≤ ((1 : Int32)).toNatClampNeg) := inb_of S0_23 ⟨by decide, by decide⟩
    refine own_fw (X0_20.iaload hx (j := (1 : Int32)) (v := (.int (p2 &&& (2147483647 : Int32)))) (by rw [e0_20]; exact Ar0_23.1) (State.isArrayOf_alike hZ.alike Ar0_23.2.1) Ar0_23.2.2 hin0_23 (Has.at Hs0_23 hin0_23 rfl) (g := (mkF m 190 #[.val (.int p0), .val (.int p1), .val (.int p2), .val (.int p3), .val (.int p4), .val (.int (3 : Int32)), .val (.int (p1 &&& (2147483647 : Int32))), .val (.int (p2 &&& (2147483647 : Int32))), .val (.int (p3 &&& (2147483647 : Int32))), .val (.int (p4 &&& (2147483647 : Int32))), .val (.ref b0_16), .val (.int (1 : Int32))] [(.int (1 : Int32)), (.ref b0_16)])) rfl rfl (hb hby at_190)) ?_
    refine own_fw (A := T0_20.setTop (mkF m 208 #[.val (.int p0), .val (.int p1), .val (.int p2), .val (.int p3), .val (.int p4), .val (.int (3 : Int32)), .val (.int (p1 &&& (2147483647 : Int32))), .val (.int (p2 &&& (2147483647 : Int32))), .val (.int (p3 &&& (2147483647 : Int32))), .val (.int (p4 &&& (2147483647 : Int32))), .val (.ref b0_16), .val (.int (1 : Int32))] [(.int (2 : Int32)), (.ref b0_16)])) (fun t k => ?_) ?_
    · show Steps p.tables e below (T0_20.setTop (mkF m 191 #[.val (.int p0), .val (.int p1), .val (.int p2), .val (.int p3), .val (.int p4), .val (.int (3 : Int32)), .val (.int (p1 &&& (2147483647 : Int32))), .val (.int (p2 &&& (2147483647 : Int32))), .val (.int (p3 &&& (2147483647 : Int32))), .val (.int (p4 &&& (2147483647 : Int32))), .val (.ref b0_16), .val (.int (1 : Int32))] [(.int (p2 &&& (2147483647 : Int32)))])) t
      refine XS.iload X0_20.here hx rfl (hb hby at_191) rfl ?_
      show Steps p.tables e below (T0_20.setTop (mkF m 193 #[.val (.int p0), .val (.int p1), .val (.int p2), .val (.int p3), .val (.int p4), .val (.int (3 : Int32)), .val (.int (p1 &&& (2147483647 : Int32))), .val (.int (p2 &&& (2147483647 : Int32))), .val (.int (p3 &&& (2147483647 : Int32))), .val (.int (p4 &&& (2147483647 : Int32))), .val (.ref b0_16), .val (.int (1 : Int32))] [(.int (p2 &&& (2147483647 : Int32))), (.int (p2 &&& (2147483647 : Int32)))])) t
      refine XS.icmpYes X0_20.here hx rfl (pc0 := 193) (pc' := 199) rfl (hb hby at_193) rfl (teq (rfl : (p2 &&& (2147483647 : Int32)) = (p2 &&& (2147483647 : Int32)))).1 (by decide) (by decide) ?_
      show Steps p.tables e below (T0_20.setTop (mkF m 199 #[.val (.int p0), .val (.int p1), .val (.int p2), .val (.int p3), .val (.int p4), .val (.int (3 : Int32)), .val (.int (p1 &&& (2147483647 : Int32))), .val (.int (p2 &&& (2147483647 : Int32))), .val (.int (p3 &&& (2147483647 : Int32))), .val (.int (p4 &&& (2147483647 : Int32))), .val (.ref b0_16), .val (.int (1 : Int32))] [])) t
      refine XS.iload X0_20.here hx rfl (hb hby at_199) rfl ?_
      show Steps p.tables e below (T0_20.setTop (mkF m 201 #[.val (.int p0), .val (.int p1), .val (.int p2), .val (.int p3), .val (.int p4), .val (.int (3 : Int32)), .val (.int (p1 &&& (2147483647 : Int32))), .val (.int (p2 &&& (2147483647 : Int32))), .val (.int (p3 &&& (2147483647 : Int32))), .val (.int (p4 &&& (2147483647 : Int32))), .val (.ref b0_16), .val (.int (1 : Int32))] [(.int (3 : Int32))])) t
      refine XS.iconst X0_20.here hx rfl (hb hby at_201) ?_
      show Steps p.tables e below (T0_20.setTop (mkF m 202 #[.val (.int p0), .val (.int p1), .val (.int p2), .val (.int p3), .val (.int p4), .val (.int (3 : Int32)), .val (.int (p1 &&& (2147483647 : Int32))), .val (.int (p2 &&& (2147483647 : Int32))), .val (.int (p3 &&& (2147483647 : Int32))), .val (.int (p4 &&& (2147483647 : Int32))), .val (.ref b0_16), .val (.int (1 : Int32))] [(.int (3 : Int32)), (.int (3 : Int32))])) t
      refine XS.icmpNo X0_20.here hx rfl (hb hby at_202) rfl (flt (Int32.lt_irrefl : ¬ ((3 : Int32) < (3 : Int32)))).1 ?_
      show Steps p.tables e below (T0_20.setTop (mkF m 205 #[.val (.int p0), .val (.int p1), .val (.int p2), .val (.int p3), .val (.int p4), .val (.int (3 : Int32)), .val (.int (p1 &&& (2147483647 : Int32))), .val (.int (p2 &&& (2147483647 : Int32))), .val (.int (p3 &&& (2147483647 : Int32))), .val (.int (p4 &&& (2147483647 : Int32))), .val (.ref b0_16), .val (.int (1 : Int32))] [])) t
      refine XS.aload X0_20.here hx rfl (hb hby at_205) rfl rfl ?_
      show Steps p.tables e below (T0_20.setTop (mkF m 207 #[.val (.int p0), .val (.int p1), .val (.int p2), .val (.int p3), .val (.int p4), .val (.int (3 : Int32)), .val (.int (p1 &&& (2147483647 : Int32))), .val (.int (p2 &&& (2147483647 : Int32))), .val (.int (p3 &&& (2147483647 : Int32))), .val (.int (p4 &&& (2147483647 : Int32))), .val (.ref b0_16), .val (.int (1 : Int32))] [(.ref b0_16)])) t
      refine XS.iconst X0_20.here hx rfl (hb hby at_207) ?_
      exact k
    obtain ⟨cl0_24, Ar0_24, q0_24, S0_24, Ng0_24, Hs0_24, G0_24⟩ := id V0_19
    have hin0_24 : ¬ ((2 : Int32) < 0 ∨ cl0_24.slots.size ≤ ((2 : Int32)).toNatClampNeg) := inb_of S0_24 ⟨by decide, by decide⟩
    refine own_fw (X0_20.iaload hx (j := (2 : Int32)) (v := (.int (p3 &&& (2147483647 : Int32)))) (by rw [e0_20]; exact Ar0_24.1) (State.isArrayOf_alike hZ.alike Ar0_24.2.1) Ar0_24.2.2 hin0_24 (Has.at Hs0_24 hin0_24 rfl) (g := (mkF m 208 #[.val (.int p0), .val (.int p1), .val (.int p2), .val (.int p3), .val (.int p4), .val (.int (3 : Int32)), .val (.int (p1 &&& (2147483647 : Int32))), .val (.int (p2 &&& (2147483647 : Int32))), .val (.int (p3 &&& (2147483647 : Int32))), .val (.int (p4 &&& (2147483647 : Int32))), .val (.ref b0_16), .val (.int (1 : Int32))] [(.int (2 : Int32)), (.ref b0_16)])) rfl rfl (hb hby at_208)) ?_
    refine own_fw (A := T0_20.setTop (mkF m 237 #[.val (.int p0), .val (.int p1), .val (.int p2), .val (.int p3), .val (.int p4), .val (.int (3 : Int32)), .val (.int (p1 &&& (2147483647 : Int32))), .val (.int (p2 &&& (2147483647 : Int32))), .val (.int (p3 &&& (2147483647 : Int32))), .val (.int (p4 &&& (2147483647 : Int32))), .val (.ref b0_16), .val (.int (1 : Int32))] [(.int (1 : Int32))])) (fun t k => ?_) ?_
    · show Steps p.tables e below (T0_20.setTop (mkF m 209 #[.val (.int p0), .val (.int p1), .val (.int p2), .val (.int p3), .val (.int p4), .val (.int (3 : Int32)), .val (.int (p1 &&& (2147483647 : Int32))), .val (.int (p2 &&& (2147483647 : Int32))), .val (.int (p3 &&& (2147483647 : Int32))), .val (.int (p4 &&& (2147483647 : Int32))), .val (.ref b0_16), .val (.int (1 : Int32))] [(.int (p3 &&& (2147483647 : Int32)))])) t
      refine XS.iload X0_20.here hx rfl (hb hby at_209) rfl ?_
      show Steps p.tables e below (T0_20.setTop (mkF m 211 #[.val (.int p0), .val (.int p1), .val (.int p2), .val (.int p3), .val (.int p4), .val (.int (3 : Int32)), .val (.int (p1 &&& (2147483647 : Int32))), .val (.int (p2 &&& (2147483647 : Int32))), .val (.int (p3 &&& (2147483647 : Int32))), .val (.int (p4 &&& (2147483647 : Int32))), .val (.ref b0_16), .val (.int (1 : Int32))] [(.int (p3 &&& (2147483647 : Int32))), (.int (p3 &&& (2147483647 : Int32)))])) t
      refine XS.icmpYes X0_20.here hx rfl (pc0 := 211) (pc' := 217) rfl (hb hby at_211) rfl (teq (rfl : (p3 &&& (2147483647 : Int32)) = (p3 &&& (2147483647 : Int32)))).1 (by decide) (by decide) ?_
      show Steps p.tables e below (T0_20.setTop (mkF m 217 #[.val (.int p0), .val (.int p1), .val (.int p2), .val (.int p3), .val (.int p4), .val (.int (3 : Int32)), .val (.int (p1 &&& (2147483647 : Int32))), .val (.int (p2 &&& (2147483647 : Int32))), .val (.int (p3 &&& (2147483647 : Int32))), .val (.int (p4 &&& (2147483647 : Int32))), .val (.ref b0_16), .val (.int (1 : Int32))] [])) t
      refine XS.iload X0_20.here hx rfl (hb hby at_217) rfl ?_
      show Steps p.tables e below (T0_20.setTop (mkF m 219 #[.val (.int p0), .val (.int p1), .val (.int p2), .val (.int p3), .val (.int p4), .val (.int (3 : Int32)), .val (.int (p1 &&& (2147483647 : Int32))), .val (.int (p2 &&& (2147483647 : Int32))), .val (.int (p3 &&& (2147483647 : Int32))), .val (.int (p4 &&& (2147483647 : Int32))), .val (.ref b0_16), .val (.int (1 : Int32))] [(.int (3 : Int32))])) t
      refine XS.iconst X0_20.here hx rfl (hb hby at_219) ?_
      show Steps p.tables e below (T0_20.setTop (mkF m 220 #[.val (.int p0), .val (.int p1), .val (.int p2), .val (.int p3), .val (.int p4), .val (.int (3 : Int32)), .val (.int (p1 &&& (2147483647 : Int32))), .val (.int (p2 &&& (2147483647 : Int32))), .val (.int (p3 &&& (2147483647 : Int32))), .val (.int (p4 &&& (2147483647 : Int32))), .val (.ref b0_16), .val (.int (1 : Int32))] [(.int (4 : Int32)), (.int (3 : Int32))])) t
      refine XS.icmpYes X0_20.here hx rfl (pc0 := 220) (pc' := 235) rfl (hb hby at_220) rfl (tlt (by decide : ((3 : Int32) < (4 : Int32)))).1 (by decide) (by decide) ?_
      show Steps p.tables e below (T0_20.setTop (mkF m 235 #[.val (.int p0), .val (.int p1), .val (.int p2), .val (.int p3), .val (.int p4), .val (.int (3 : Int32)), .val (.int (p1 &&& (2147483647 : Int32))), .val (.int (p2 &&& (2147483647 : Int32))), .val (.int (p3 &&& (2147483647 : Int32))), .val (.int (p4 &&& (2147483647 : Int32))), .val (.ref b0_16), .val (.int (1 : Int32))] [])) t
      refine XS.iload X0_20.here hx rfl (hb hby at_235) rfl ?_
      exact k
    obtain ⟨fs, hr, hrun, hended, hW, hsame⟩ := X0_20.leave (v := some (.int (nar .boolean (1 : Int32)))) (fun h => by rw [Bd.returns] at h; cases h)
    refine ⟨_, _, retN X0_20 hx (t := .boolean) Bd.returns (by simp) (hb hby at_237) hr, hrun, hended, _, _, rfl, ?_, ⟨_, rfl⟩, hW, hsame.mono (by decide) (by decide)⟩
    have eh : (T0_20.setFrames fs).heap = h0_19 := e0_20
    rw [eh]
    exact ⟨rfl, N0_20⟩
  · rw [hk]
    refine own_fw (A := s₁.setTop (mkF m 119 #[.val (.int p0), .val (.int p1), .val (.int p2), .val (.int p3), .val (.int p4), .val (.int (4 : Int32)), .val (.int (p1 &&& (2147483647 : Int32))), .val (.int (p2 &&& (2147483647 : Int32))), .val (.int (p3 &&& (2147483647 : Int32))), .val (.int (p4 &&& (2147483647 : Int32))), .unset, .unset] [(.int (4 : Int32))])) (fun t k => ?_) ?_
    · show Steps p.tables e below (s₁.setTop (mkF m 33 #[.val (.int p0), .val (.int p1), .val (.int p2), .val (.int p3), .val (.int p4), .val (.int (4 : Int32)), .val (.int (p1 &&& (2147483647 : Int32))), .val (.int (p2 &&& (2147483647 : Int32))), .val (.int (p3 &&& (2147483647 : Int32))), .val (.int (p4 &&& (2147483647 : Int32))), .unset, .unset] [])) t
      refine XS.iload X0.here hx rfl (hb hby at_33) rfl ?_
      show Steps p.tables e below (s₁.setTop (mkF m 35 #[.val (.int p0), .val (.int p1), .val (.int p2), .val (.int p3), .val (.int p4), .val (.int (4 : Int32)), .val (.int (p1 &&& (2147483647 : Int32))), .val (.int (p2 &&& (2147483647 : Int32))), .val (.int (p3 &&& (2147483647 : Int32))), .val (.int (p4 &&& (2147483647 : Int32))), .unset, .unset] [(.int (4 : Int32))])) t
      refine XS.ifYes X0.here hx rfl (pc0 := 35) (pc' := 46) rfl (hb hby at_35) rfl ((if0 _ _).trans (feq (by decide : ¬ ((4 : Int32) = (0 : Int32)))).2) (by decide) (by decide) ?_
      show Steps p.tables e below (s₁.setTop (mkF m 46 #[.val (.int p0), .val (.int p1), .val (.int p2), .val (.int p3), .val (.int p4), .val (.int (4 : Int32)), .val (.int (p1 &&& (2147483647 : Int32))), .val (.int (p2 &&& (2147483647 : Int32))), .val (.int (p3 &&& (2147483647 : Int32))), .val (.int (p4 &&& (2147483647 : Int32))), .unset, .unset] [])) t
      refine XS.iload X0.here hx rfl (hb hby at_46) rfl ?_
      show Steps p.tables e below (s₁.setTop (mkF m 48 #[.val (.int p0), .val (.int p1), .val (.int p2), .val (.int p3), .val (.int p4), .val (.int (4 : Int32)), .val (.int (p1 &&& (2147483647 : Int32))), .val (.int (p2 &&& (2147483647 : Int32))), .val (.int (p3 &&& (2147483647 : Int32))), .val (.int (p4 &&& (2147483647 : Int32))), .unset, .unset] [(.int (4 : Int32))])) t
      refine XS.iconst X0.here hx rfl (hb hby at_48) ?_
      show Steps p.tables e below (s₁.setTop (mkF m 49 #[.val (.int p0), .val (.int p1), .val (.int p2), .val (.int p3), .val (.int p4), .val (.int (4 : Int32)), .val (.int (p1 &&& (2147483647 : Int32))), .val (.int (p2 &&& (2147483647 : Int32))), .val (.int (p3 &&& (2147483647 : Int32))), .val (.int (p4 &&& (2147483647 : Int32))), .unset, .unset] [(.int (1 : Int32)), (.int (4 : Int32))])) t
      refine XS.icmpYes X0.here hx rfl (pc0 := 49) (pc' := 65) rfl (hb hby at_49) rfl (feq (by decide : ¬ ((4 : Int32) = (1 : Int32)))).2 (by decide) (by decide) ?_
      show Steps p.tables e below (s₁.setTop (mkF m 65 #[.val (.int p0), .val (.int p1), .val (.int p2), .val (.int p3), .val (.int p4), .val (.int (4 : Int32)), .val (.int (p1 &&& (2147483647 : Int32))), .val (.int (p2 &&& (2147483647 : Int32))), .val (.int (p3 &&& (2147483647 : Int32))), .val (.int (p4 &&& (2147483647 : Int32))), .unset, .unset] [])) t
      refine XS.iload X0.here hx rfl (hb hby at_65) rfl ?_
      show Steps p.tables e below (s₁.setTop (mkF m 67 #[.val (.int p0), .val (.int p1), .val (.int p2), .val (.int p3), .val (.int p4), .val (.int (4 : Int32)), .val (.int (p1 &&& (2147483647 : Int32))), .val (.int (p2 &&& (2147483647 : Int32))), .val (.int (p3 &&& (2147483647 : Int32))), .val (.int (p4 &&& (2147483647 : Int32))), .unset, .unset] [(.int (4 : Int32))])) t
      refine XS.iconst X0.here hx rfl (hb hby at_67) ?_
      show Steps p.tables e below (s₁.setTop (mkF m 68 #[.val (.int p0), .val (.int p1), .val (.int p2), .val (.int p3), .val (.int p4), .val (.int (4 : Int32)), .val (.int (p1 &&& (2147483647 : Int32))), .val (.int (p2 &&& (2147483647 : Int32))), .val (.int (p3 &&& (2147483647 : Int32))), .val (.int (p4 &&& (2147483647 : Int32))), .unset, .unset] [(.int (2 : Int32)), (.int (4 : Int32))])) t
      refine XS.icmpYes X0.here hx rfl (pc0 := 68) (pc' := 89) rfl (hb hby at_68) rfl (feq (by decide : ¬ ((4 : Int32) = (2 : Int32)))).2 (by decide) (by decide) ?_
      show Steps p.tables e below (s₁.setTop (mkF m 89 #[.val (.int p0), .val (.int p1), .val (.int p2), .val (.int p3), .val (.int p4), .val (.int (4 : Int32)), .val (.int (p1 &&& (2147483647 : Int32))), .val (.int (p2 &&& (2147483647 : Int32))), .val (.int (p3 &&& (2147483647 : Int32))), .val (.int (p4 &&& (2147483647 : Int32))), .unset, .unset] [])) t
      refine XS.iload X0.here hx rfl (hb hby at_89) rfl ?_
      show Steps p.tables e below (s₁.setTop (mkF m 91 #[.val (.int p0), .val (.int p1), .val (.int p2), .val (.int p3), .val (.int p4), .val (.int (4 : Int32)), .val (.int (p1 &&& (2147483647 : Int32))), .val (.int (p2 &&& (2147483647 : Int32))), .val (.int (p3 &&& (2147483647 : Int32))), .val (.int (p4 &&& (2147483647 : Int32))), .unset, .unset] [(.int (4 : Int32))])) t
      refine XS.iconst X0.here hx rfl (hb hby at_91) ?_
      show Steps p.tables e below (s₁.setTop (mkF m 92 #[.val (.int p0), .val (.int p1), .val (.int p2), .val (.int p3), .val (.int p4), .val (.int (4 : Int32)), .val (.int (p1 &&& (2147483647 : Int32))), .val (.int (p2 &&& (2147483647 : Int32))), .val (.int (p3 &&& (2147483647 : Int32))), .val (.int (p4 &&& (2147483647 : Int32))), .unset, .unset] [(.int (3 : Int32)), (.int (4 : Int32))])) t
      refine XS.icmpYes X0.here hx rfl (pc0 := 92) (pc' := 118) rfl (hb hby at_92) rfl (feq (by decide : ¬ ((4 : Int32) = (3 : Int32)))).2 (by decide) (by decide) ?_
      show Steps p.tables e below (s₁.setTop (mkF m 118 #[.val (.int p0), .val (.int p1), .val (.int p2), .val (.int p3), .val (.int p4), .val (.int (4 : Int32)), .val (.int (p1 &&& (2147483647 : Int32))), .val (.int (p2 &&& (2147483647 : Int32))), .val (.int (p3 &&& (2147483647 : Int32))), .val (.int (p4 &&& (2147483647 : Int32))), .unset, .unset] [])) t
      refine XS.iconst X0.here hx rfl (hb hby at_118) ?_
      exact k
    obtain ⟨T0_25, h0_25, k0_25, X0_25, e0_25, E0_25, A0_25, st0_25⟩ := newP X0 hx hZ (hw _ (List.mem_of_getElem? (i := 1) rfl)) e0 (g := (mkF m 119 #[.val (.int p0), .val (.int p1), .val (.int p2), .val (.int p3), .val (.int p4), .val (.int (4 : Int32)), .val (.int (p1 &&& (2147483647 : Int32))), .val (.int (p2 &&& (2147483647 : Int32))), .val (.int (p3 &&& (2147483647 : Int32))), .val (.int (p4 &&& (2147483647 : Int32))), .unset, .unset] [(.int (4 : Int32))])) rfl (hb hby at_119) rfl (by decide) (cap := 4) (by decide) (by decide) (by decide) (by decide)
    obtain ⟨b0_25, g0_25⟩ : ∃ z, z = h0.size := ⟨_, rfl⟩
    rw [← g0_25] at A0_25 st0_25
    have g_b0_25 : n0 ≤ b0_25 := Nat.le_trans Z0 (Nat.le_of_eq g0_25.symm)
    have V_b0_25 : Arv Z h0_25 b0_25 k0_25 .int (4 : Int32) [(.int (0 : Int32)), (.int (0 : Int32)), (.int (0 : Int32)), (.int (0 : Int32))] (.int (0 : Int32)) := (Arv.new A0_25 (by decide)).pad (pad_rep [] (.int (0 : Int32)) 4)
    refine own_fw st0_25 ?_
    refine own_fw (A := T0_25.setTop (mkF m 125 #[.val (.int p0), .val (.int p1), .val (.int p2), .val (.int p3), .val (.int p4), .val (.int (4 : Int32)), .val (.int (p1 &&& (2147483647 : Int32))), .val (.int (p2 &&& (2147483647 : Int32))), .val (.int (p3 &&& (2147483647 : Int32))), .val (.int (p4 &&& (2147483647 : Int32))), .unset, .unset] [(.int (p1 &&& (2147483647 : Int32))), (.int (0 : Int32)), (.ref b0_25), (.ref b0_25)])) (fun t k => ?_) ?_
    · show Steps p.tables e below (T0_25.setTop (mkF m 121 #[.val (.int p0), .val (.int p1), .val (.int p2), .val (.int p3), .val (.int p4), .val (.int (4 : Int32)), .val (.int (p1 &&& (2147483647 : Int32))), .val (.int (p2 &&& (2147483647 : Int32))), .val (.int (p3 &&& (2147483647 : Int32))), .val (.int (p4 &&& (2147483647 : Int32))), .unset, .unset] [(.ref b0_25)])) t
      refine XS.dup X0_25.here hx rfl (hb hby at_121) rfl rfl ?_
      show Steps p.tables e below (T0_25.setTop (mkF m 122 #[.val (.int p0), .val (.int p1), .val (.int p2), .val (.int p3), .val (.int p4), .val (.int (4 : Int32)), .val (.int (p1 &&& (2147483647 : Int32))), .val (.int (p2 &&& (2147483647 : Int32))), .val (.int (p3 &&& (2147483647 : Int32))), .val (.int (p4 &&& (2147483647 : Int32))), .unset, .unset] [(.ref b0_25), (.ref b0_25)])) t
      refine XS.iconst X0_25.here hx rfl (hb hby at_122) ?_
      show Steps p.tables e below (T0_25.setTop (mkF m 123 #[.val (.int p0), .val (.int p1), .val (.int p2), .val (.int p3), .val (.int p4), .val (.int (4 : Int32)), .val (.int (p1 &&& (2147483647 : Int32))), .val (.int (p2 &&& (2147483647 : Int32))), .val (.int (p3 &&& (2147483647 : Int32))), .val (.int (p4 &&& (2147483647 : Int32))), .unset, .unset] [(.int (0 : Int32)), (.ref b0_25), (.ref b0_25)])) t
      refine XS.iload X0_25.here hx rfl (hb hby at_123) rfl ?_
      exact k
    obtain ⟨cl0_26, Ar0_26, q0_26, S0_26, Ng0_26, Hs0_26, G0_26⟩ := id V_b0_25
    have hin0_26 : ¬ ((0 : Int32) < 0 ∨ cl0_26.slots.size ≤ ((0 : Int32)).toNatClampNeg) := inb_of S0_26 ⟨by decide, by decide⟩
    obtain ⟨T0_26, h0_26, X0_26, e0_26, W0_26, st0_26⟩ := stI X0_25 hx hZ e0_25 Ar0_26 (j := (0 : Int32)) hin0_26 (g := (mkF m 125 #[.val (.int p0), .val (.int p1), .val (.int p2), .val (.int p3), .val (.int p4), .val (.int (4 : Int32)), .val (.int (p1 &&& (2147483647 : Int32))), .val (.int (p2 &&& (2147483647 : Int32))), .val (.int (p3 &&& (2147483647 : Int32))), .val (.int (p4 &&& (2147483647 : Int32))), .unset, .unset] [(.int (p1 &&& (2147483647 : Int32))), (.int (0 : Int32)), (.ref b0_25), (.ref b0_25)])) rfl rfl (hb hby at_125)
    have V0_26 : Arv Z h0_26 b0_25 k0_25 .int (4 : Int32) [(.int (p1 &&& (2147483647 : Int32))), (.int (0 : Int32)), (.int (0 : Int32)), (.int (0 : Int32))] (.int (0 : Int32)) := Arv.set Ar0_26 q0_26 S0_26 Ng0_26 Hs0_26 G0_26 rfl W0_26 0 rfl (Nat.le_of_ble_eq_true rfl)
    have N0_26 := Fr.snoc X0_26 N0 g_b0_25
    refine own_fw st0_26 ?_
    refine own_fw (A := T0_26.setTop (mkF m 130 #[.val (.int p0), .val (.int p1), .val (.int p2), .val (.int p3), .val (.int p4), .val (.int (4 : Int32)), .val (.int (p1 &&& (2147483647 : Int32))), .val (.int (p2 &&& (2147483647 : Int32))), .val (.int (p3 &&& (2147483647 : Int32))), .val (.int (p4 &&& (2147483647 : Int32))), .unset, .unset] [(.int (p2 &&& (2147483647 : Int32))), (.int (1 : Int32)), (.ref b0_25), (.ref b0_25)])) (fun t k => ?_) ?_
    · show Steps p.tables e below (T0_26.setTop (mkF m 126 #[.val (.int p0), .val (.int p1), .val (.int p2), .val (.int p3), .val (.int p4), .val (.int (4 : Int32)), .val (.int (p1 &&& (2147483647 : Int32))), .val (.int (p2 &&& (2147483647 : Int32))), .val (.int (p3 &&& (2147483647 : Int32))), .val (.int (p4 &&& (2147483647 : Int32))), .unset, .unset] [(.ref b0_25)])) t
      refine XS.dup X0_26.here hx rfl (hb hby at_126) rfl rfl ?_
      show Steps p.tables e below (T0_26.setTop (mkF m 127 #[.val (.int p0), .val (.int p1), .val (.int p2), .val (.int p3), .val (.int p4), .val (.int (4 : Int32)), .val (.int (p1 &&& (2147483647 : Int32))), .val (.int (p2 &&& (2147483647 : Int32))), .val (.int (p3 &&& (2147483647 : Int32))), .val (.int (p4 &&& (2147483647 : Int32))), .unset, .unset] [(.ref b0_25), (.ref b0_25)])) t
      refine XS.iconst X0_26.here hx rfl (hb hby at_127) ?_
      show Steps p.tables e below (T0_26.setTop (mkF m 128 #[.val (.int p0), .val (.int p1), .val (.int p2), .val (.int p3), .val (.int p4), .val (.int (4 : Int32)), .val (.int (p1 &&& (2147483647 : Int32))), .val (.int (p2 &&& (2147483647 : Int32))), .val (.int (p3 &&& (2147483647 : Int32))), .val (.int (p4 &&& (2147483647 : Int32))), .unset, .unset] [(.int (1 : Int32)), (.ref b0_25), (.ref b0_25)])) t
      refine XS.iload X0_26.here hx rfl (hb hby at_128) rfl ?_
      exact k
    obtain ⟨cl0_27, Ar0_27, q0_27, S0_27, Ng0_27, Hs0_27, G0_27⟩ := id V0_26
    have hin0_27 : ¬ ((1 : Int32) < 0 ∨ cl0_27.slots.size ≤ ((1 : Int32)).toNatClampNeg) := inb_of S0_27 ⟨by decide, by decide⟩
    obtain ⟨T0_27, h0_27, X0_27, e0_27, W0_27, st0_27⟩ := stI X0_26 hx hZ e0_26 Ar0_27 (j := (1 : Int32)) hin0_27 (g := (mkF m 130 #[.val (.int p0), .val (.int p1), .val (.int p2), .val (.int p3), .val (.int p4), .val (.int (4 : Int32)), .val (.int (p1 &&& (2147483647 : Int32))), .val (.int (p2 &&& (2147483647 : Int32))), .val (.int (p3 &&& (2147483647 : Int32))), .val (.int (p4 &&& (2147483647 : Int32))), .unset, .unset] [(.int (p2 &&& (2147483647 : Int32))), (.int (1 : Int32)), (.ref b0_25), (.ref b0_25)])) rfl rfl (hb hby at_130)
    have V0_27 : Arv Z h0_27 b0_25 k0_25 .int (4 : Int32) [(.int (p1 &&& (2147483647 : Int32))), (.int (p2 &&& (2147483647 : Int32))), (.int (0 : Int32)), (.int (0 : Int32))] (.int (0 : Int32)) := Arv.set Ar0_27 q0_27 S0_27 Ng0_27 Hs0_27 G0_27 rfl W0_27 1 rfl (Nat.le_of_ble_eq_true rfl)
    have N0_27 := Fr.snoc X0_27 N0_26 g_b0_25
    refine own_fw st0_27 ?_
    refine own_fw (A := T0_27.setTop (mkF m 135 #[.val (.int p0), .val (.int p1), .val (.int p2), .val (.int p3), .val (.int p4), .val (.int (4 : Int32)), .val (.int (p1 &&& (2147483647 : Int32))), .val (.int (p2 &&& (2147483647 : Int32))), .val (.int (p3 &&& (2147483647 : Int32))), .val (.int (p4 &&& (2147483647 : Int32))), .unset, .unset] [(.int (p3 &&& (2147483647 : Int32))), (.int (2 : Int32)), (.ref b0_25), (.ref b0_25)])) (fun t k => ?_) ?_
    · show Steps p.tables e below (T0_27.setTop (mkF m 131 #[.val (.int p0), .val (.int p1), .val (.int p2), .val (.int p3), .val (.int p4), .val (.int (4 : Int32)), .val (.int (p1 &&& (2147483647 : Int32))), .val (.int (p2 &&& (2147483647 : Int32))), .val (.int (p3 &&& (2147483647 : Int32))), .val (.int (p4 &&& (2147483647 : Int32))), .unset, .unset] [(.ref b0_25)])) t
      refine XS.dup X0_27.here hx rfl (hb hby at_131) rfl rfl ?_
      show Steps p.tables e below (T0_27.setTop (mkF m 132 #[.val (.int p0), .val (.int p1), .val (.int p2), .val (.int p3), .val (.int p4), .val (.int (4 : Int32)), .val (.int (p1 &&& (2147483647 : Int32))), .val (.int (p2 &&& (2147483647 : Int32))), .val (.int (p3 &&& (2147483647 : Int32))), .val (.int (p4 &&& (2147483647 : Int32))), .unset, .unset] [(.ref b0_25), (.ref b0_25)])) t
      refine XS.iconst X0_27.here hx rfl (hb hby at_132) ?_
      show Steps p.tables e below (T0_27.setTop (mkF m 133 #[.val (.int p0), .val (.int p1), .val (.int p2), .val (.int p3), .val (.int p4), .val (.int (4 : Int32)), .val (.int (p1 &&& (2147483647 : Int32))), .val (.int (p2 &&& (2147483647 : Int32))), .val (.int (p3 &&& (2147483647 : Int32))), .val (.int (p4 &&& (2147483647 : Int32))), .unset, .unset] [(.int (2 : Int32)), (.ref b0_25), (.ref b0_25)])) t
      refine XS.iload X0_27.here hx rfl (hb hby at_133) rfl ?_
      exact k
    obtain ⟨cl0_28, Ar0_28, q0_28, S0_28, Ng0_28, Hs0_28, G0_28⟩ := id V0_27
    have hin0_28 : ¬ ((2 : Int32) < 0 ∨ cl0_28.slots.size ≤ ((2 : Int32)).toNatClampNeg) := inb_of S0_28 ⟨by decide, by decide⟩
    obtain ⟨T0_28, h0_28, X0_28, e0_28, W0_28, st0_28⟩ := stI X0_27 hx hZ e0_27 Ar0_28 (j := (2 : Int32)) hin0_28 (g := (mkF m 135 #[.val (.int p0), .val (.int p1), .val (.int p2), .val (.int p3), .val (.int p4), .val (.int (4 : Int32)), .val (.int (p1 &&& (2147483647 : Int32))), .val (.int (p2 &&& (2147483647 : Int32))), .val (.int (p3 &&& (2147483647 : Int32))), .val (.int (p4 &&& (2147483647 : Int32))), .unset, .unset] [(.int (p3 &&& (2147483647 : Int32))), (.int (2 : Int32)), (.ref b0_25), (.ref b0_25)])) rfl rfl (hb hby at_135)
    have V0_28 : Arv Z h0_28 b0_25 k0_25 .int (4 : Int32) [(.int (p1 &&& (2147483647 : Int32))), (.int (p2 &&& (2147483647 : Int32))), (.int (p3 &&& (2147483647 : Int32))), (.int (0 : Int32))] (.int (0 : Int32)) := Arv.set Ar0_28 q0_28 S0_28 Ng0_28 Hs0_28 G0_28 rfl W0_28 2 rfl (Nat.le_of_ble_eq_true rfl)
    have N0_28 := Fr.snoc X0_28 N0_27 g_b0_25
    refine own_fw st0_28 ?_
    refine own_fw (A := T0_28.setTop (mkF m 140 #[.val (.int p0), .val (.int p1), .val (.int p2), .val (.int p3), .val (.int p4), .val (.int (4 : Int32)), .val (.int (p1 &&& (2147483647 : Int32))), .val (.int (p2 &&& (2147483647 : Int32))), .val (.int (p3 &&& (2147483647 : Int32))), .val (.int (p4 &&& (2147483647 : Int32))), .unset, .unset] [(.int (p4 &&& (2147483647 : Int32))), (.int (3 : Int32)), (.ref b0_25), (.ref b0_25)])) (fun t k => ?_) ?_
    · show Steps p.tables e below (T0_28.setTop (mkF m 136 #[.val (.int p0), .val (.int p1), .val (.int p2), .val (.int p3), .val (.int p4), .val (.int (4 : Int32)), .val (.int (p1 &&& (2147483647 : Int32))), .val (.int (p2 &&& (2147483647 : Int32))), .val (.int (p3 &&& (2147483647 : Int32))), .val (.int (p4 &&& (2147483647 : Int32))), .unset, .unset] [(.ref b0_25)])) t
      refine XS.dup X0_28.here hx rfl (hb hby at_136) rfl rfl ?_
      show Steps p.tables e below (T0_28.setTop (mkF m 137 #[.val (.int p0), .val (.int p1), .val (.int p2), .val (.int p3), .val (.int p4), .val (.int (4 : Int32)), .val (.int (p1 &&& (2147483647 : Int32))), .val (.int (p2 &&& (2147483647 : Int32))), .val (.int (p3 &&& (2147483647 : Int32))), .val (.int (p4 &&& (2147483647 : Int32))), .unset, .unset] [(.ref b0_25), (.ref b0_25)])) t
      refine XS.iconst X0_28.here hx rfl (hb hby at_137) ?_
      show Steps p.tables e below (T0_28.setTop (mkF m 138 #[.val (.int p0), .val (.int p1), .val (.int p2), .val (.int p3), .val (.int p4), .val (.int (4 : Int32)), .val (.int (p1 &&& (2147483647 : Int32))), .val (.int (p2 &&& (2147483647 : Int32))), .val (.int (p3 &&& (2147483647 : Int32))), .val (.int (p4 &&& (2147483647 : Int32))), .unset, .unset] [(.int (3 : Int32)), (.ref b0_25), (.ref b0_25)])) t
      refine XS.iload X0_28.here hx rfl (hb hby at_138) rfl ?_
      exact k
    obtain ⟨cl0_29, Ar0_29, q0_29, S0_29, Ng0_29, Hs0_29, G0_29⟩ := id V0_28
    have hin0_29 : ¬ ((3 : Int32) < 0 ∨ cl0_29.slots.size ≤ ((3 : Int32)).toNatClampNeg) := inb_of S0_29 ⟨by decide, by decide⟩
    obtain ⟨T0_29, h0_29, X0_29, e0_29, W0_29, st0_29⟩ := stI X0_28 hx hZ e0_28 Ar0_29 (j := (3 : Int32)) hin0_29 (g := (mkF m 140 #[.val (.int p0), .val (.int p1), .val (.int p2), .val (.int p3), .val (.int p4), .val (.int (4 : Int32)), .val (.int (p1 &&& (2147483647 : Int32))), .val (.int (p2 &&& (2147483647 : Int32))), .val (.int (p3 &&& (2147483647 : Int32))), .val (.int (p4 &&& (2147483647 : Int32))), .unset, .unset] [(.int (p4 &&& (2147483647 : Int32))), (.int (3 : Int32)), (.ref b0_25), (.ref b0_25)])) rfl rfl (hb hby at_140)
    have V0_29 : Arv Z h0_29 b0_25 k0_25 .int (4 : Int32) [(.int (p1 &&& (2147483647 : Int32))), (.int (p2 &&& (2147483647 : Int32))), (.int (p3 &&& (2147483647 : Int32))), (.int (p4 &&& (2147483647 : Int32)))] (.int (0 : Int32)) := Arv.set Ar0_29 q0_29 S0_29 Ng0_29 Hs0_29 G0_29 rfl W0_29 3 rfl (Nat.le_of_ble_eq_true rfl)
    have N0_29 := Fr.snoc X0_29 N0_28 g_b0_25
    refine own_fw st0_29 ?_
    refine own_fw (A := T0_29.setTop (mkF m 147 #[.val (.int p0), .val (.int p1), .val (.int p2), .val (.int p3), .val (.int p4), .val (.int (4 : Int32)), .val (.int (p1 &&& (2147483647 : Int32))), .val (.int (p2 &&& (2147483647 : Int32))), .val (.int (p3 &&& (2147483647 : Int32))), .val (.int (p4 &&& (2147483647 : Int32))), .val (.ref b0_25), .unset] [(.int (4 : Int32)), (.ref b0_25)])) (fun t k => ?_) ?_
    · show Steps p.tables e below (T0_29.setTop (mkF m 141 #[.val (.int p0), .val (.int p1), .val (.int p2), .val (.int p3), .val (.int p4), .val (.int (4 : Int32)), .val (.int (p1 &&& (2147483647 : Int32))), .val (.int (p2 &&& (2147483647 : Int32))), .val (.int (p3 &&& (2147483647 : Int32))), .val (.int (p4 &&& (2147483647 : Int32))), .unset, .unset] [(.ref b0_25)])) t
      refine XS.astore X0_29.here hx rfl (hb hby at_141) rfl rfl (l' := #[.val (.int p0), .val (.int p1), .val (.int p2), .val (.int p3), .val (.int p4), .val (.int (4 : Int32)), .val (.int (p1 &&& (2147483647 : Int32))), .val (.int (p2 &&& (2147483647 : Int32))), .val (.int (p3 &&& (2147483647 : Int32))), .val (.int (p4 &&& (2147483647 : Int32))), .val (.ref b0_25), .unset]) rfl ?_
      show Steps p.tables e below (T0_29.setTop (mkF m 143 #[.val (.int p0), .val (.int p1), .val (.int p2), .val (.int p3), .val (.int p4), .val (.int (4 : Int32)), .val (.int (p1 &&& (2147483647 : Int32))), .val (.int (p2 &&& (2147483647 : Int32))), .val (.int (p3 &&& (2147483647 : Int32))), .val (.int (p4 &&& (2147483647 : Int32))), .val (.ref b0_25), .unset] [])) t
      refine XS.aload X0_29.here hx rfl (hb hby at_143) rfl rfl ?_
      show Steps p.tables e below (T0_29.setTop (mkF m 145 #[.val (.int p0), .val (.int p1), .val (.int p2), .val (.int p3), .val (.int p4), .val (.int (4 : Int32)), .val (.int (p1 &&& (2147483647 : Int32))), .val (.int (p2 &&& (2147483647 : Int32))), .val (.int (p3 &&& (2147483647 : Int32))), .val (.int (p4 &&& (2147483647 : Int32))), .val (.ref b0_25), .unset] [(.ref b0_25)])) t
      refine XS.iload X0_29.here hx rfl (hb hby at_145) rfl ?_
      exact k
    obtain ⟨_, _, ⟨T0_30, L0_30, k0_30, n0_30⟩, -, X0_30, ⟨Lc0_30, hQ0_30, l0_30, y0_30, z0_30⟩, st0_30⟩ := Jvm.LawKit.callS X0_29 hx (y := (⟨"com/example/terms_to_scores/termstoscores/scoring/DocumentScorer", "checkFrequencies", "([II)V"⟩ : MethodName)) hown (mvT hZ (hw _ (List.mem_of_getElem? (i := 2) rfl))) (mvT hZ (hw _ (List.mem_of_getElem? (i := 3) rfl))) (mvT hZ (hw _ (List.mem_of_getElem? (i := 4) rfl))) (mvT hZ (hw _ (List.mem_of_getElem? (i := 5) rfl))) (by decide) (backOf (W := 0) (rm1_4 l Z a0 hw [] b0_25 k0_25 (p1 &&& (2147483647 : Int32)) (p2 &&& (2147483647 : Int32)) (p3 &&& (2147483647 : Int32)) (p4 &&& (2147483647 : Int32)) h0_29 n0 (Nat.le_trans (Nat.le_trans (Nat.le_trans (Nat.le_trans (Nat.le_trans Z0 E0_25.1) (Keep.of_wr W0_26).1) (Keep.of_wr W0_27).1) (Keep.of_wr W0_28).1) (Keep.of_wr W0_29).1) V0_29 (own_nn p1) (own_nn p2) (own_nn p3) (own_nn p4)) hZ (hw _ (List.mem_of_getElem? (i := 5) rfl)) (hw _ (List.mem_of_getElem? (i := 4) rfl)) (by decide) (by decide)) (g := (mkF m 147 #[.val (.int p0), .val (.int p1), .val (.int p2), .val (.int p3), .val (.int p4), .val (.int (4 : Int32)), .val (.int (p1 &&& (2147483647 : Int32))), .val (.int (p2 &&& (2147483647 : Int32))), .val (.int (p3 &&& (2147483647 : Int32))), .val (.int (p4 &&& (2147483647 : Int32))), .val (.ref b0_25), .unset] [(.int (4 : Int32)), (.ref b0_25)])) rfl (by rw [hml]; rfl) (argsL := [(.ref b0_25), (.int (4 : Int32))]) (rest := []) (lenOf pd0_0 rfl) rfl (by show 2 * 0 + _ ≤ _; exact Nat.le_of_eq rfl) (hb hby at_147) (fun _ _ => ⟨rfl, e0_29, (by decide : 1 + 0 ≤ _), (by decide : 4 + 0 ≤ _)⟩)
    dsimp only [Pt.U, Pt.locs, Pt.cells, Pt.slots] at X0_30 l0_30 y0_30 z0_30 st0_30 hQ0_30
    subst l0_30 y0_30 z0_30
    obtain ⟨rfl, N0_30q, e0_30⟩ := hQ0_30
    have N0_30 := Fr.app N0_29 N0_30q
    refine own_fw st0_30 ?_
    refine own_fw (A := T0_30.setTop (mkF m 152 #[.val (.int p0), .val (.int p1), .val (.int p2), .val (.int p3), .val (.int p4), .val (.int (4 : Int32)), .val (.int (p1 &&& (2147483647 : Int32))), .val (.int (p2 &&& (2147483647 : Int32))), .val (.int (p3 &&& (2147483647 : Int32))), .val (.int (p4 &&& (2147483647 : Int32))), .val (.ref b0_25), .unset] [(.ref b0_25)])) (fun t k => ?_) ?_
    · show Steps p.tables e below (T0_30.setTop (mkF m 150 #[.val (.int p0), .val (.int p1), .val (.int p2), .val (.int p3), .val (.int p4), .val (.int (4 : Int32)), .val (.int (p1 &&& (2147483647 : Int32))), .val (.int (p2 &&& (2147483647 : Int32))), .val (.int (p3 &&& (2147483647 : Int32))), .val (.int (p4 &&& (2147483647 : Int32))), .val (.ref b0_25), .unset] [])) t
      refine XS.aload X0_30.here hx rfl (hb hby at_150) rfl rfl ?_
      exact k
    obtain ⟨cl0_31, Ar0_31, q0_31, S0_31, Ng0_31, Hs0_31, G0_31⟩ := id V0_29
    have st0_31 := X0_30.arraylength hx (by rw [e0_30]; exact Ar0_31.1) (State.isArrayOf_alike hZ.alike Ar0_31.2.1) (g := (mkF m 152 #[.val (.int p0), .val (.int p1), .val (.int p2), .val (.int p3), .val (.int p4), .val (.int (4 : Int32)), .val (.int (p1 &&& (2147483647 : Int32))), .val (.int (p2 &&& (2147483647 : Int32))), .val (.int (p3 &&& (2147483647 : Int32))), .val (.int (p4 &&& (2147483647 : Int32))), .val (.ref b0_25), .unset] [(.ref b0_25)])) rfl rfl (hb hby at_152)
    rw [len_of S0_31 Ng0_31] at st0_31
    refine own_fw st0_31 ?_
    refine own_fw (A := T0_30.setTop (mkF m 172 #[.val (.int p0), .val (.int p1), .val (.int p2), .val (.int p3), .val (.int p4), .val (.int (4 : Int32)), .val (.int (p1 &&& (2147483647 : Int32))), .val (.int (p2 &&& (2147483647 : Int32))), .val (.int (p3 &&& (2147483647 : Int32))), .val (.int (p4 &&& (2147483647 : Int32))), .val (.ref b0_25), .val (.int (1 : Int32))] [(.int (0 : Int32)), (.ref b0_25)])) (fun t k => ?_) ?_
    · show Steps p.tables e below (T0_30.setTop (mkF m 153 #[.val (.int p0), .val (.int p1), .val (.int p2), .val (.int p3), .val (.int p4), .val (.int (4 : Int32)), .val (.int (p1 &&& (2147483647 : Int32))), .val (.int (p2 &&& (2147483647 : Int32))), .val (.int (p3 &&& (2147483647 : Int32))), .val (.int (p4 &&& (2147483647 : Int32))), .val (.ref b0_25), .unset] [(.int (4 : Int32))])) t
      refine XS.iload X0_30.here hx rfl (hb hby at_153) rfl ?_
      show Steps p.tables e below (T0_30.setTop (mkF m 155 #[.val (.int p0), .val (.int p1), .val (.int p2), .val (.int p3), .val (.int p4), .val (.int (4 : Int32)), .val (.int (p1 &&& (2147483647 : Int32))), .val (.int (p2 &&& (2147483647 : Int32))), .val (.int (p3 &&& (2147483647 : Int32))), .val (.int (p4 &&& (2147483647 : Int32))), .val (.ref b0_25), .unset] [(.int (4 : Int32)), (.int (4 : Int32))])) t
      refine XS.icmpYes X0_30.here hx rfl (pc0 := 155) (pc' := 160) rfl (hb hby at_155) rfl (teq (rfl : (4 : Int32) = (4 : Int32))).1 (by decide) (by decide) ?_
      show Steps p.tables e below (T0_30.setTop (mkF m 160 #[.val (.int p0), .val (.int p1), .val (.int p2), .val (.int p3), .val (.int p4), .val (.int (4 : Int32)), .val (.int (p1 &&& (2147483647 : Int32))), .val (.int (p2 &&& (2147483647 : Int32))), .val (.int (p3 &&& (2147483647 : Int32))), .val (.int (p4 &&& (2147483647 : Int32))), .val (.ref b0_25), .unset] [])) t
      refine XS.iconst X0_30.here hx rfl (hb hby at_160) ?_
      show Steps p.tables e below (T0_30.setTop (mkF m 161 #[.val (.int p0), .val (.int p1), .val (.int p2), .val (.int p3), .val (.int p4), .val (.int (4 : Int32)), .val (.int (p1 &&& (2147483647 : Int32))), .val (.int (p2 &&& (2147483647 : Int32))), .val (.int (p3 &&& (2147483647 : Int32))), .val (.int (p4 &&& (2147483647 : Int32))), .val (.ref b0_25), .unset] [(.int (1 : Int32))])) t
      refine XS.istore X0_30.here hx rfl (hb hby at_161) rfl (l' := #[.val (.int p0), .val (.int p1), .val (.int p2), .val (.int p3), .val (.int p4), .val (.int (4 : Int32)), .val (.int (p1 &&& (2147483647 : Int32))), .val (.int (p2 &&& (2147483647 : Int32))), .val (.int (p3 &&& (2147483647 : Int32))), .val (.int (p4 &&& (2147483647 : Int32))), .val (.ref b0_25), .val (.int (1 : Int32))]) rfl ?_
      show Steps p.tables e below (T0_30.setTop (mkF m 163 #[.val (.int p0), .val (.int p1), .val (.int p2), .val (.int p3), .val (.int p4), .val (.int (4 : Int32)), .val (.int (p1 &&& (2147483647 : Int32))), .val (.int (p2 &&& (2147483647 : Int32))), .val (.int (p3 &&& (2147483647 : Int32))), .val (.int (p4 &&& (2147483647 : Int32))), .val (.ref b0_25), .val (.int (1 : Int32))] [])) t
      refine XS.iload X0_30.here hx rfl (hb hby at_163) rfl ?_
      show Steps p.tables e below (T0_30.setTop (mkF m 165 #[.val (.int p0), .val (.int p1), .val (.int p2), .val (.int p3), .val (.int p4), .val (.int (4 : Int32)), .val (.int (p1 &&& (2147483647 : Int32))), .val (.int (p2 &&& (2147483647 : Int32))), .val (.int (p3 &&& (2147483647 : Int32))), .val (.int (p4 &&& (2147483647 : Int32))), .val (.ref b0_25), .val (.int (1 : Int32))] [(.int (4 : Int32))])) t
      refine XS.iconst X0_30.here hx rfl (hb hby at_165) ?_
      show Steps p.tables e below (T0_30.setTop (mkF m 166 #[.val (.int p0), .val (.int p1), .val (.int p2), .val (.int p3), .val (.int p4), .val (.int (4 : Int32)), .val (.int (p1 &&& (2147483647 : Int32))), .val (.int (p2 &&& (2147483647 : Int32))), .val (.int (p3 &&& (2147483647 : Int32))), .val (.int (p4 &&& (2147483647 : Int32))), .val (.ref b0_25), .val (.int (1 : Int32))] [(.int (1 : Int32)), (.int (4 : Int32))])) t
      refine XS.icmpNo X0_30.here hx rfl (hb hby at_166) rfl (flt (by decide : ¬ ((4 : Int32) < (1 : Int32)))).1 ?_
      show Steps p.tables e below (T0_30.setTop (mkF m 169 #[.val (.int p0), .val (.int p1), .val (.int p2), .val (.int p3), .val (.int p4), .val (.int (4 : Int32)), .val (.int (p1 &&& (2147483647 : Int32))), .val (.int (p2 &&& (2147483647 : Int32))), .val (.int (p3 &&& (2147483647 : Int32))), .val (.int (p4 &&& (2147483647 : Int32))), .val (.ref b0_25), .val (.int (1 : Int32))] [])) t
      refine XS.aload X0_30.here hx rfl (hb hby at_169) rfl rfl ?_
      show Steps p.tables e below (T0_30.setTop (mkF m 171 #[.val (.int p0), .val (.int p1), .val (.int p2), .val (.int p3), .val (.int p4), .val (.int (4 : Int32)), .val (.int (p1 &&& (2147483647 : Int32))), .val (.int (p2 &&& (2147483647 : Int32))), .val (.int (p3 &&& (2147483647 : Int32))), .val (.int (p4 &&& (2147483647 : Int32))), .val (.ref b0_25), .val (.int (1 : Int32))] [(.ref b0_25)])) t
      refine XS.iconst X0_30.here hx rfl (hb hby at_171) ?_
      exact k
    obtain ⟨cl0_32, Ar0_32, q0_32, S0_32, Ng0_32, Hs0_32, G0_32⟩ := id V0_29
    have hin0_32 : ¬ ((0 : Int32) < 0 ∨ cl0_32.slots.size ≤ ((0 : Int32)).toNatClampNeg) := inb_of S0_32 ⟨by decide, by decide⟩
    refine own_fw (X0_30.iaload hx (j := (0 : Int32)) (v := (.int (p1 &&& (2147483647 : Int32)))) (by rw [e0_30]; exact Ar0_32.1) (State.isArrayOf_alike hZ.alike Ar0_32.2.1) Ar0_32.2.2 hin0_32 (Has.at Hs0_32 hin0_32 rfl) (g := (mkF m 172 #[.val (.int p0), .val (.int p1), .val (.int p2), .val (.int p3), .val (.int p4), .val (.int (4 : Int32)), .val (.int (p1 &&& (2147483647 : Int32))), .val (.int (p2 &&& (2147483647 : Int32))), .val (.int (p3 &&& (2147483647 : Int32))), .val (.int (p4 &&& (2147483647 : Int32))), .val (.ref b0_25), .val (.int (1 : Int32))] [(.int (0 : Int32)), (.ref b0_25)])) rfl rfl (hb hby at_172)) ?_
    refine own_fw (A := T0_30.setTop (mkF m 190 #[.val (.int p0), .val (.int p1), .val (.int p2), .val (.int p3), .val (.int p4), .val (.int (4 : Int32)), .val (.int (p1 &&& (2147483647 : Int32))), .val (.int (p2 &&& (2147483647 : Int32))), .val (.int (p3 &&& (2147483647 : Int32))), .val (.int (p4 &&& (2147483647 : Int32))), .val (.ref b0_25), .val (.int (1 : Int32))] [(.int (1 : Int32)), (.ref b0_25)])) (fun t k => ?_) ?_
    · show Steps p.tables e below (T0_30.setTop (mkF m 173 #[.val (.int p0), .val (.int p1), .val (.int p2), .val (.int p3), .val (.int p4), .val (.int (4 : Int32)), .val (.int (p1 &&& (2147483647 : Int32))), .val (.int (p2 &&& (2147483647 : Int32))), .val (.int (p3 &&& (2147483647 : Int32))), .val (.int (p4 &&& (2147483647 : Int32))), .val (.ref b0_25), .val (.int (1 : Int32))] [(.int (p1 &&& (2147483647 : Int32)))])) t
      refine XS.iload X0_30.here hx rfl (hb hby at_173) rfl ?_
      show Steps p.tables e below (T0_30.setTop (mkF m 175 #[.val (.int p0), .val (.int p1), .val (.int p2), .val (.int p3), .val (.int p4), .val (.int (4 : Int32)), .val (.int (p1 &&& (2147483647 : Int32))), .val (.int (p2 &&& (2147483647 : Int32))), .val (.int (p3 &&& (2147483647 : Int32))), .val (.int (p4 &&& (2147483647 : Int32))), .val (.ref b0_25), .val (.int (1 : Int32))] [(.int (p1 &&& (2147483647 : Int32))), (.int (p1 &&& (2147483647 : Int32)))])) t
      refine XS.icmpYes X0_30.here hx rfl (pc0 := 175) (pc' := 181) rfl (hb hby at_175) rfl (teq (rfl : (p1 &&& (2147483647 : Int32)) = (p1 &&& (2147483647 : Int32)))).1 (by decide) (by decide) ?_
      show Steps p.tables e below (T0_30.setTop (mkF m 181 #[.val (.int p0), .val (.int p1), .val (.int p2), .val (.int p3), .val (.int p4), .val (.int (4 : Int32)), .val (.int (p1 &&& (2147483647 : Int32))), .val (.int (p2 &&& (2147483647 : Int32))), .val (.int (p3 &&& (2147483647 : Int32))), .val (.int (p4 &&& (2147483647 : Int32))), .val (.ref b0_25), .val (.int (1 : Int32))] [])) t
      refine XS.iload X0_30.here hx rfl (hb hby at_181) rfl ?_
      show Steps p.tables e below (T0_30.setTop (mkF m 183 #[.val (.int p0), .val (.int p1), .val (.int p2), .val (.int p3), .val (.int p4), .val (.int (4 : Int32)), .val (.int (p1 &&& (2147483647 : Int32))), .val (.int (p2 &&& (2147483647 : Int32))), .val (.int (p3 &&& (2147483647 : Int32))), .val (.int (p4 &&& (2147483647 : Int32))), .val (.ref b0_25), .val (.int (1 : Int32))] [(.int (4 : Int32))])) t
      refine XS.iconst X0_30.here hx rfl (hb hby at_183) ?_
      show Steps p.tables e below (T0_30.setTop (mkF m 184 #[.val (.int p0), .val (.int p1), .val (.int p2), .val (.int p3), .val (.int p4), .val (.int (4 : Int32)), .val (.int (p1 &&& (2147483647 : Int32))), .val (.int (p2 &&& (2147483647 : Int32))), .val (.int (p3 &&& (2147483647 : Int32))), .val (.int (p4 &&& (2147483647 : Int32))), .val (.ref b0_25), .val (.int (1 : Int32))] [(.int (2 : Int32)), (.int (4 : Int32))])) t
      refine XS.icmpNo X0_30.here hx rfl (hb hby at_184) rfl (flt (by decide : ¬ ((4 : Int32) < (2 : Int32)))).1 ?_
      show Steps p.tables e below (T0_30.setTop (mkF m 187 #[.val (.int p0), .val (.int p1), .val (.int p2), .val (.int p3), .val (.int p4), .val (.int (4 : Int32)), .val (.int (p1 &&& (2147483647 : Int32))), .val (.int (p2 &&& (2147483647 : Int32))), .val (.int (p3 &&& (2147483647 : Int32))), .val (.int (p4 &&& (2147483647 : Int32))), .val (.ref b0_25), .val (.int (1 : Int32))] [])) t
      refine XS.aload X0_30.here hx rfl (hb hby at_187) rfl rfl ?_
      show Steps p.tables e below (T0_30.setTop (mkF m 189 #[.val (.int p0), .val (.int p1), .val (.int p2), .val (.int p3), .val (.int p4), .val (.int (4 : Int32)), .val (.int (p1 &&& (2147483647 : Int32))), .val (.int (p2 &&& (2147483647 : Int32))), .val (.int (p3 &&& (2147483647 : Int32))), .val (.int (p4 &&& (2147483647 : Int32))), .val (.ref b0_25), .val (.int (1 : Int32))] [(.ref b0_25)])) t
      refine XS.iconst X0_30.here hx rfl (hb hby at_189) ?_
      exact k
    obtain ⟨cl0_33, Ar0_33, q0_33, S0_33, Ng0_33, Hs0_33, G0_33⟩ := id V0_29
    have hin0_33 : ¬ ((1 : Int32) < 0 ∨ cl0_33.slots.size ≤ ((1 : Int32)).toNatClampNeg) := inb_of S0_33 ⟨by decide, by decide⟩
    refine own_fw (X0_30.iaload hx (j := (1 : Int32)) (v := (.int (p2 &&& (2147483647 : Int32)))) (by rw [e0_30]; exact Ar0_33.1) (State.isArrayOf_alike hZ.alike Ar0_33.2.1) Ar0_33.2.2 hin0_33 (Has.at Hs0_33 hin0_33 rfl) (g := (mkF m 190 #[.val (.int p0), .val (.int p1), .val (.int p2), .val (.int p3), .val (.int p4), .val (.int (4 : Int32)), .val (.int (p1 &&& (2147483647 : Int32))), .val (.int (p2 &&& (2147483647 : Int32))), .val (.int (p3 &&& (2147483647 : Int32))), .val (.int (p4 &&& (2147483647 : Int32))), .val (.ref b0_25), .val (.int (1 : Int32))] [(.int (1 : Int32)), (.ref b0_25)])) rfl rfl (hb hby at_190)) ?_
    refine own_fw (A := T0_30.setTop (mkF m 208 #[.val (.int p0), .val (.int p1), .val (.int p2), .val (.int p3), .val (.int p4), .val (.int (4 : Int32)), .val (.int (p1 &&& (2147483647 : Int32))), .val (.int (p2 &&& (2147483647 : Int32))), .val (.int (p3 &&& (2147483647 : Int32))), .val (.int (p4 &&& (2147483647 : Int32))), .val (.ref b0_25), .val (.int (1 : Int32))] [(.int (2 : Int32)), (.ref b0_25)])) (fun t k => ?_) ?_
    · show Steps p.tables e below (T0_30.setTop (mkF m 191 #[.val (.int p0), .val (.int p1), .val (.int p2), .val (.int p3), .val (.int p4), .val (.int (4 : Int32)), .val (.int (p1 &&& (2147483647 : Int32))), .val (.int (p2 &&& (2147483647 : Int32))), .val (.int (p3 &&& (2147483647 : Int32))), .val (.int (p4 &&& (2147483647 : Int32))), .val (.ref b0_25), .val (.int (1 : Int32))] [(.int (p2 &&& (2147483647 : Int32)))])) t
      refine XS.iload X0_30.here hx rfl (hb hby at_191) rfl ?_
      show Steps p.tables e below (T0_30.setTop (mkF m 193 #[.val (.int p0), .val (.int p1), .val (.int p2), .val (.int p3), .val (.int p4), .val (.int (4 : Int32)), .val (.int (p1 &&& (2147483647 : Int32))), .val (.int (p2 &&& (2147483647 : Int32))), .val (.int (p3 &&& (2147483647 : Int32))), .val (.int (p4 &&& (2147483647 : Int32))), .val (.ref b0_25), .val (.int (1 : Int32))] [(.int (p2 &&& (2147483647 : Int32))), (.int (p2 &&& (2147483647 : Int32)))])) t
      refine XS.icmpYes X0_30.here hx rfl (pc0 := 193) (pc' := 199) rfl (hb hby at_193) rfl (teq (rfl : (p2 &&& (2147483647 : Int32)) = (p2 &&& (2147483647 : Int32)))).1 (by decide) (by decide) ?_
      show Steps p.tables e below (T0_30.setTop (mkF m 199 #[.val (.int p0), .val (.int p1), .val (.int p2), .val (.int p3), .val (.int p4), .val (.int (4 : Int32)), .val (.int (p1 &&& (2147483647 : Int32))), .val (.int (p2 &&& (2147483647 : Int32))), .val (.int (p3 &&& (2147483647 : Int32))), .val (.int (p4 &&& (2147483647 : Int32))), .val (.ref b0_25), .val (.int (1 : Int32))] [])) t
      refine XS.iload X0_30.here hx rfl (hb hby at_199) rfl ?_
      show Steps p.tables e below (T0_30.setTop (mkF m 201 #[.val (.int p0), .val (.int p1), .val (.int p2), .val (.int p3), .val (.int p4), .val (.int (4 : Int32)), .val (.int (p1 &&& (2147483647 : Int32))), .val (.int (p2 &&& (2147483647 : Int32))), .val (.int (p3 &&& (2147483647 : Int32))), .val (.int (p4 &&& (2147483647 : Int32))), .val (.ref b0_25), .val (.int (1 : Int32))] [(.int (4 : Int32))])) t
      refine XS.iconst X0_30.here hx rfl (hb hby at_201) ?_
      show Steps p.tables e below (T0_30.setTop (mkF m 202 #[.val (.int p0), .val (.int p1), .val (.int p2), .val (.int p3), .val (.int p4), .val (.int (4 : Int32)), .val (.int (p1 &&& (2147483647 : Int32))), .val (.int (p2 &&& (2147483647 : Int32))), .val (.int (p3 &&& (2147483647 : Int32))), .val (.int (p4 &&& (2147483647 : Int32))), .val (.ref b0_25), .val (.int (1 : Int32))] [(.int (3 : Int32)), (.int (4 : Int32))])) t
      refine XS.icmpNo X0_30.here hx rfl (hb hby at_202) rfl (flt (by decide : ¬ ((4 : Int32) < (3 : Int32)))).1 ?_
      show Steps p.tables e below (T0_30.setTop (mkF m 205 #[.val (.int p0), .val (.int p1), .val (.int p2), .val (.int p3), .val (.int p4), .val (.int (4 : Int32)), .val (.int (p1 &&& (2147483647 : Int32))), .val (.int (p2 &&& (2147483647 : Int32))), .val (.int (p3 &&& (2147483647 : Int32))), .val (.int (p4 &&& (2147483647 : Int32))), .val (.ref b0_25), .val (.int (1 : Int32))] [])) t
      refine XS.aload X0_30.here hx rfl (hb hby at_205) rfl rfl ?_
      show Steps p.tables e below (T0_30.setTop (mkF m 207 #[.val (.int p0), .val (.int p1), .val (.int p2), .val (.int p3), .val (.int p4), .val (.int (4 : Int32)), .val (.int (p1 &&& (2147483647 : Int32))), .val (.int (p2 &&& (2147483647 : Int32))), .val (.int (p3 &&& (2147483647 : Int32))), .val (.int (p4 &&& (2147483647 : Int32))), .val (.ref b0_25), .val (.int (1 : Int32))] [(.ref b0_25)])) t
      refine XS.iconst X0_30.here hx rfl (hb hby at_207) ?_
      exact k
    obtain ⟨cl0_34, Ar0_34, q0_34, S0_34, Ng0_34, Hs0_34, G0_34⟩ := id V0_29
    have hin0_34 : ¬ ((2 : Int32) < 0 ∨ cl0_34.slots.size ≤ ((2 : Int32)).toNatClampNeg) := inb_of S0_34 ⟨by decide, by decide⟩
    refine own_fw (X0_30.iaload hx (j := (2 : Int32)) (v := (.int (p3 &&& (2147483647 : Int32)))) (by rw [e0_30]; exact Ar0_34.1) (State.isArrayOf_alike hZ.alike Ar0_34.2.1) Ar0_34.2.2 hin0_34 (Has.at Hs0_34 hin0_34 rfl) (g := (mkF m 208 #[.val (.int p0), .val (.int p1), .val (.int p2), .val (.int p3), .val (.int p4), .val (.int (4 : Int32)), .val (.int (p1 &&& (2147483647 : Int32))), .val (.int (p2 &&& (2147483647 : Int32))), .val (.int (p3 &&& (2147483647 : Int32))), .val (.int (p4 &&& (2147483647 : Int32))), .val (.ref b0_25), .val (.int (1 : Int32))] [(.int (2 : Int32)), (.ref b0_25)])) rfl rfl (hb hby at_208)) ?_
    refine own_fw (A := T0_30.setTop (mkF m 226 #[.val (.int p0), .val (.int p1), .val (.int p2), .val (.int p3), .val (.int p4), .val (.int (4 : Int32)), .val (.int (p1 &&& (2147483647 : Int32))), .val (.int (p2 &&& (2147483647 : Int32))), .val (.int (p3 &&& (2147483647 : Int32))), .val (.int (p4 &&& (2147483647 : Int32))), .val (.ref b0_25), .val (.int (1 : Int32))] [(.int (3 : Int32)), (.ref b0_25)])) (fun t k => ?_) ?_
    · show Steps p.tables e below (T0_30.setTop (mkF m 209 #[.val (.int p0), .val (.int p1), .val (.int p2), .val (.int p3), .val (.int p4), .val (.int (4 : Int32)), .val (.int (p1 &&& (2147483647 : Int32))), .val (.int (p2 &&& (2147483647 : Int32))), .val (.int (p3 &&& (2147483647 : Int32))), .val (.int (p4 &&& (2147483647 : Int32))), .val (.ref b0_25), .val (.int (1 : Int32))] [(.int (p3 &&& (2147483647 : Int32)))])) t
      refine XS.iload X0_30.here hx rfl (hb hby at_209) rfl ?_
      show Steps p.tables e below (T0_30.setTop (mkF m 211 #[.val (.int p0), .val (.int p1), .val (.int p2), .val (.int p3), .val (.int p4), .val (.int (4 : Int32)), .val (.int (p1 &&& (2147483647 : Int32))), .val (.int (p2 &&& (2147483647 : Int32))), .val (.int (p3 &&& (2147483647 : Int32))), .val (.int (p4 &&& (2147483647 : Int32))), .val (.ref b0_25), .val (.int (1 : Int32))] [(.int (p3 &&& (2147483647 : Int32))), (.int (p3 &&& (2147483647 : Int32)))])) t
      refine XS.icmpYes X0_30.here hx rfl (pc0 := 211) (pc' := 217) rfl (hb hby at_211) rfl (teq (rfl : (p3 &&& (2147483647 : Int32)) = (p3 &&& (2147483647 : Int32)))).1 (by decide) (by decide) ?_
      show Steps p.tables e below (T0_30.setTop (mkF m 217 #[.val (.int p0), .val (.int p1), .val (.int p2), .val (.int p3), .val (.int p4), .val (.int (4 : Int32)), .val (.int (p1 &&& (2147483647 : Int32))), .val (.int (p2 &&& (2147483647 : Int32))), .val (.int (p3 &&& (2147483647 : Int32))), .val (.int (p4 &&& (2147483647 : Int32))), .val (.ref b0_25), .val (.int (1 : Int32))] [])) t
      refine XS.iload X0_30.here hx rfl (hb hby at_217) rfl ?_
      show Steps p.tables e below (T0_30.setTop (mkF m 219 #[.val (.int p0), .val (.int p1), .val (.int p2), .val (.int p3), .val (.int p4), .val (.int (4 : Int32)), .val (.int (p1 &&& (2147483647 : Int32))), .val (.int (p2 &&& (2147483647 : Int32))), .val (.int (p3 &&& (2147483647 : Int32))), .val (.int (p4 &&& (2147483647 : Int32))), .val (.ref b0_25), .val (.int (1 : Int32))] [(.int (4 : Int32))])) t
      refine XS.iconst X0_30.here hx rfl (hb hby at_219) ?_
      show Steps p.tables e below (T0_30.setTop (mkF m 220 #[.val (.int p0), .val (.int p1), .val (.int p2), .val (.int p3), .val (.int p4), .val (.int (4 : Int32)), .val (.int (p1 &&& (2147483647 : Int32))), .val (.int (p2 &&& (2147483647 : Int32))), .val (.int (p3 &&& (2147483647 : Int32))), .val (.int (p4 &&& (2147483647 : Int32))), .val (.ref b0_25), .val (.int (1 : Int32))] [(.int (4 : Int32)), (.int (4 : Int32))])) t
      refine XS.icmpNo X0_30.here hx rfl (hb hby at_220) rfl (flt (Int32.lt_irrefl : ¬ ((4 : Int32) < (4 : Int32)))).1 ?_
      show Steps p.tables e below (T0_30.setTop (mkF m 223 #[.val (.int p0), .val (.int p1), .val (.int p2), .val (.int p3), .val (.int p4), .val (.int (4 : Int32)), .val (.int (p1 &&& (2147483647 : Int32))), .val (.int (p2 &&& (2147483647 : Int32))), .val (.int (p3 &&& (2147483647 : Int32))), .val (.int (p4 &&& (2147483647 : Int32))), .val (.ref b0_25), .val (.int (1 : Int32))] [])) t
      refine XS.aload X0_30.here hx rfl (hb hby at_223) rfl rfl ?_
      show Steps p.tables e below (T0_30.setTop (mkF m 225 #[.val (.int p0), .val (.int p1), .val (.int p2), .val (.int p3), .val (.int p4), .val (.int (4 : Int32)), .val (.int (p1 &&& (2147483647 : Int32))), .val (.int (p2 &&& (2147483647 : Int32))), .val (.int (p3 &&& (2147483647 : Int32))), .val (.int (p4 &&& (2147483647 : Int32))), .val (.ref b0_25), .val (.int (1 : Int32))] [(.ref b0_25)])) t
      refine XS.iconst X0_30.here hx rfl (hb hby at_225) ?_
      exact k
    obtain ⟨cl0_35, Ar0_35, q0_35, S0_35, Ng0_35, Hs0_35, G0_35⟩ := id V0_29
    have hin0_35 : ¬ ((3 : Int32) < 0 ∨ cl0_35.slots.size ≤ ((3 : Int32)).toNatClampNeg) := inb_of S0_35 ⟨by decide, by decide⟩
    refine own_fw (X0_30.iaload hx (j := (3 : Int32)) (v := (.int (p4 &&& (2147483647 : Int32)))) (by rw [e0_30]; exact Ar0_35.1) (State.isArrayOf_alike hZ.alike Ar0_35.2.1) Ar0_35.2.2 hin0_35 (Has.at Hs0_35 hin0_35 rfl) (g := (mkF m 226 #[.val (.int p0), .val (.int p1), .val (.int p2), .val (.int p3), .val (.int p4), .val (.int (4 : Int32)), .val (.int (p1 &&& (2147483647 : Int32))), .val (.int (p2 &&& (2147483647 : Int32))), .val (.int (p3 &&& (2147483647 : Int32))), .val (.int (p4 &&& (2147483647 : Int32))), .val (.ref b0_25), .val (.int (1 : Int32))] [(.int (3 : Int32)), (.ref b0_25)])) rfl rfl (hb hby at_226)) ?_
    refine own_fw (A := T0_30.setTop (mkF m 237 #[.val (.int p0), .val (.int p1), .val (.int p2), .val (.int p3), .val (.int p4), .val (.int (4 : Int32)), .val (.int (p1 &&& (2147483647 : Int32))), .val (.int (p2 &&& (2147483647 : Int32))), .val (.int (p3 &&& (2147483647 : Int32))), .val (.int (p4 &&& (2147483647 : Int32))), .val (.ref b0_25), .val (.int (1 : Int32))] [(.int (1 : Int32))])) (fun t k => ?_) ?_
    · show Steps p.tables e below (T0_30.setTop (mkF m 227 #[.val (.int p0), .val (.int p1), .val (.int p2), .val (.int p3), .val (.int p4), .val (.int (4 : Int32)), .val (.int (p1 &&& (2147483647 : Int32))), .val (.int (p2 &&& (2147483647 : Int32))), .val (.int (p3 &&& (2147483647 : Int32))), .val (.int (p4 &&& (2147483647 : Int32))), .val (.ref b0_25), .val (.int (1 : Int32))] [(.int (p4 &&& (2147483647 : Int32)))])) t
      refine XS.iload X0_30.here hx rfl (hb hby at_227) rfl ?_
      show Steps p.tables e below (T0_30.setTop (mkF m 229 #[.val (.int p0), .val (.int p1), .val (.int p2), .val (.int p3), .val (.int p4), .val (.int (4 : Int32)), .val (.int (p1 &&& (2147483647 : Int32))), .val (.int (p2 &&& (2147483647 : Int32))), .val (.int (p3 &&& (2147483647 : Int32))), .val (.int (p4 &&& (2147483647 : Int32))), .val (.ref b0_25), .val (.int (1 : Int32))] [(.int (p4 &&& (2147483647 : Int32))), (.int (p4 &&& (2147483647 : Int32)))])) t
      refine XS.icmpYes X0_30.here hx rfl (pc0 := 229) (pc' := 235) rfl (hb hby at_229) rfl (teq (rfl : (p4 &&& (2147483647 : Int32)) = (p4 &&& (2147483647 : Int32)))).1 (by decide) (by decide) ?_
      show Steps p.tables e below (T0_30.setTop (mkF m 235 #[.val (.int p0), .val (.int p1), .val (.int p2), .val (.int p3), .val (.int p4), .val (.int (4 : Int32)), .val (.int (p1 &&& (2147483647 : Int32))), .val (.int (p2 &&& (2147483647 : Int32))), .val (.int (p3 &&& (2147483647 : Int32))), .val (.int (p4 &&& (2147483647 : Int32))), .val (.ref b0_25), .val (.int (1 : Int32))] [])) t
      refine XS.iload X0_30.here hx rfl (hb hby at_235) rfl ?_
      exact k
    obtain ⟨fs, hr, hrun, hended, hW, hsame⟩ := X0_30.leave (v := some (.int (nar .boolean (1 : Int32)))) (fun h => by rw [Bd.returns] at h; cases h)
    refine ⟨_, _, retN X0_30 hx (t := .boolean) Bd.returns (by simp) (hb hby at_237) hr, hrun, hended, _, _, rfl, ?_, ⟨_, rfl⟩, hW, hsame.mono (by decide) (by decide)⟩
    have eh : (T0_30.setFrames fs).heap = h0_29 := e0_30
    rw [eh]
    exact ⟨rfl, N0_30⟩
set_option maxRecDepth 65536 in
set_option maxHeartbeats 40000000 in
theorem comes_1 {Post : Tables → Env → Array Value → State → Outcome → State → Prop} (hpost : ∀ tb e args s v u, (limb_1_1.after args s (.returned v) u = true ∧ limb_1_2.after args s (.returned v) u = true ∧ True) → FrameEnd s (.returned v) u (Jvm.fieldLocs frame_1_writes args s ++ Jvm.arrayLocs frame_1_arrays args s ++ Jvm.staticLocs frame_1_statics s) 16 128 → Post tb e args s (.returned v) u) :
    ArmFor flags0 classFile x code maxLocals ret World_1 tables_1 room_1 Calls_1 rest_1 Pre_1 Post := by
  intro l hfl _ _ p e ha hc hk s m args below hf hA hF happ hP
  obtain ⟨hcalls, hrest, hpre⟩ := hP
  obtain ⟨-, -, -, hnamed, -, -, -, hat⟩ := (Spec.applies_iff hf).mp happ
  obtain ⟨hg, hn⟩ := and_e (Cond.before_iff.mp (show (Jvm.Cond.and given_1 narrow_1).before args s = true from hpre))
  obtain ⟨g1, g2⟩ := and_e hg
  obtain ⟨ga0, gb0⟩ := and_e g2
  obtain ⟨ga1, gb1⟩ := and_e gb0
  obtain ⟨ga2, gb2⟩ := and_e gb1
  obtain ⟨ga3, gb3⟩ := and_e gb2
  obtain ⟨w0, w1, w2, w3, w4, rfl⟩ : ∃ w0 w1 w2 w3 w4 : Value, args = #[w0, w1, w2, w3, w4] := by
    have hs : args.size = 5 := by simpa [Cond.value, given_1] using g1
    obtain ⟨L⟩ := args
    match L, hs with
    | [w0, w1, w2, w3, w4], _ => exact ⟨w0, w1, w2, w3, w4, rfl⟩
  have hw := fun d (hd : d ∈ tables_1) => atoms_spec (ws := Jvm.Cond.code x code maxLocals ret :: tables_1) hat d (List.mem_cons_of_mem _ hd)
  have hfit : Fit s := fun {y c} hc i hi => by
    obtain ⟨ha, rfl⟩ := Array.getElem?_eq_some_iff.mp hc
    have q := List.all_eq_true.mp ((Array.all_eq_true_iff_forall_mem.mp hF) _ (Array.getElem_mem ha)) i (List.mem_range.mpr hi)
    simpa [Array.getElem?_eq_getElem hi] using q
  obtain ⟨i0, ei0⟩ := is_v ga0
  obtain rfl : w0 = (.int i0) := Option.some.inj ei0
  obtain ⟨i1, ei1⟩ := is_v ga1
  obtain rfl : w1 = (.int i1) := Option.some.inj ei1
  obtain ⟨i2, ei2⟩ := is_v ga2
  obtain rfl : w2 = (.int i2) := Option.some.inj ei2
  obtain ⟨i3, ei3⟩ := is_v ga3
  obtain rfl : w3 = (.int i3) := Option.some.inj ei3
  obtain ⟨i4, ei4⟩ := is_v gb3
  obtain rfl : w4 = (.int i4) := Option.some.inj ei4
  obtain ⟨n, o, h1, h2, h3, _, L, rfl, ⟨rfl, N⟩, hq⟩ := rm0 l s _ hw tables_1 i0 i1 i2 i3 i4  s.heap s.heap.size (Nat.le_refl _)  p e ha hc hk s m _ below hf ((Spec.applies_iff_loose hf).mp happ).1 ⟨rfl, State.Warmed39.refl s, rfl⟩ trivial
  refine ⟨n, _, h1, h2, h3, hpost _ _ _ _ _ _ ⟨Cond.after_iff.mpr rfl, Cond.after_iff.mpr (eq_i res_at (Term.int_eval (1)) rfl), trivial⟩ ⟨hq.1, hq.2.1, (hq.2.2.sift fun y hy => Or.inr (N y hy)).mono (by decide) (by decide)⟩⟩
theorem main_1_1 : Claimed_1_1 := comes_1 fun _ _ _ _ _ _ h hF => ⟨h.1, hF⟩
theorem main_1_2 : Claimed_1_2 := comes_1 fun _ _ _ _ _ _ h hF => ⟨h.2.1, hF⟩
end Jvm.Pilot.@@N@@
namespace Jvm.Pilot.@@N@@
open Jvm Jvm.ClassFile Sem Op Lib Jvm.Free Jvm.Stand Jvm.Pilot.@@N@@.Jvm.D
/-! MADE BY PROGRAM (witnessworld.py) out of the Statement's table words and the real class files: 9 classes; the members and pool entries that the words name. The judged class is class 1, her method 1. -/
namespace start1
open Jvm.ClassFile
def u (s : String) : CpInfo := .utf8 (stringToUtf16 s)
/-- a pool by its gaps: so many unusable entries, then the entry; so many at the end -/
def gap : Nat → List CpInfo → List CpInfo
  | 0, r => r
  | n + 1, r => .unusable :: gap n r
def poolList (es : List (Nat × CpInfo)) (last : Nat) : List CpInfo := es.foldr (fun e r => gap e.1 (e.2 :: r)) (gap last [])
def pool (es : List (Nat × CpInfo)) (last : Nat) : Array CpInfo := ⟨poolList es last⟩
def fileOf (pool : Array CpInfo) (this : Nat) (attrs : Array Attribute := #[]) (ms : Array MethodInfo := #[]) (fl : Nat := 33) (sup : Nat := 0) (ifs : Array Nat := #[]) (fds : Array FieldInfo := #[]) : ClassFile where
  minorVersion := 0
  majorVersion := 65
  constantPool := pool
  accessFlags := fl
  thisClass := this
  superClass := sup
  interfaces := ifs
  fields := fds
  methods := ms
  attributes := attrs
def plain (name : String) (sup : Option ClassId) : Class where
  name := name
  kind := .ordinary
  loader := none
  accessFlags := 33
  super := sup
  interfaces := #[]
  cf := none
  fields := #[]
  methods := #[]
  instanceTypes := #[]
  staticTypes := #[]
  resolved := #[]
  callSites := []
  init := .initialized
  statics := none
  mirror := none

def pool0 : Array CpInfo := pool [(5, u "<init>"), (0, u "()V"), (1, .class_ 10), (1, u "java/lang/Object")] 113

def k0m0 : Method := { name := "<init>", desc := "()V", sig := { parameters := [], returnType := none }, accessFlags := 1, code := none }
/-- java/lang/Object -/
def k0 : Class := { plain "java/lang/Object" none with
  accessFlags := 33
  interfaces := #[]
  cf := some (fileOf pool0 8 #[] #[{ accessFlags := 1, nameIndex := 5, descriptorIndex := 6, attributes := #[] }] 33 0 #[] #[])
  fields := #[]
  methods := #[k0m0]
  instanceTypes := #[]
  staticTypes := #[]
  resolved := Array.replicate 124 none
  statics := none }

def pool1 : Array CpInfo := pool [(2, .class_ 4), (1, u "java/lang/Object"), (0, u "<init>"), (0, u "()V"), (0, .integer 2147483647), (0, .interfaceMethodref 9 10), (0, .class_ 11), (0, .nameAndType 12 13), (0, u "com/example/terms_to_scores/termstoscores/scoring/DocumentScorer"), (0, u "checkFrequencies"), (0, u "([II)V"), (0, .class_ 15), (0, u "com/example/terms_to_scores/termstoscores/scoring/DocumentScorerCheckFrequenciesPinLaw"), (2, u "law"), (0, u "(IIIII)Z")] 5

def k1m0 : Method := { name := "<init>", desc := "()V", sig := { parameters := [], returnType := none }, accessFlags := 1, code := none }
def k1c1 : Code := { maxStack := 4, maxLocals := 12, code := code, exceptionTable := #[], attributes := #[] }
def k1m1 : Method := { name := "law", desc := "(IIIII)Z", sig := { parameters := [.int, .int, .int, .int, .int], returnType := some .boolean }, accessFlags := 9, code := some k1c1 }
/-- com/example/terms_to_scores/termstoscores/scoring/DocumentScorerCheckFrequenciesPinLaw -/
def k1 : Class := { plain "com/example/terms_to_scores/termstoscores/scoring/DocumentScorerCheckFrequenciesPinLaw" (some 0) with
  accessFlags := 49
  interfaces := #[]
  cf := some (fileOf pool1 14 #[] #[{ accessFlags := 1, nameIndex := 5, descriptorIndex := 6, attributes := #[] }, { accessFlags := 9, nameIndex := 18, descriptorIndex := 19, attributes := #[] }] 49 2 #[] #[])
  fields := #[]
  methods := #[k1m0, k1m1]
  instanceTypes := #[]
  staticTypes := #[]
  resolved := Array.replicate 25 none
  statics := none }

def pool2 : Array CpInfo := pool [(14, .class_ 15), (0, u "com/example/terms_to_scores/termstoscores/scoring/DocumentScorer"), (0, .class_ 17), (0, u "java/lang/Object"), (4, u "checkFrequencies"), (0, u "([II)V")] 22

def k2c0 : Code := { maxStack := 4, maxLocals := 3, code := prog_44_method_3_code, exceptionTable := #[], attributes := #[] }
def k2m0 : Method := { name := "checkFrequencies", desc := "([II)V", sig := { parameters := [(.array .int), .int], returnType := none }, accessFlags := 9, code := some k2c0 }
/-- com/example/terms_to_scores/termstoscores/scoring/DocumentScorer -/
def k2 : Class := { plain "com/example/terms_to_scores/termstoscores/scoring/DocumentScorer" (some 0) with
  accessFlags := 1537
  interfaces := #[]
  cf := some (fileOf pool2 14 #[] #[{ accessFlags := 9, nameIndex := 22, descriptorIndex := 23, attributes := #[] }] 1537 16 #[] #[])
  fields := #[]
  methods := #[k2m0]
  instanceTypes := #[]
  staticTypes := #[]
  resolved := Array.replicate 46 none
  statics := none }

def pool3 : Array CpInfo := pool [(1, u "java/lang/Cloneable"), (0, .class_ 1), (0, u "java/lang/Object"), (0, .class_ 3)] 3

/-- java/lang/Cloneable -/
def k3 : Class := { plain "java/lang/Cloneable" (some 0) with
  accessFlags := 1537
  interfaces := #[]
  cf := some (fileOf pool3 2 #[] #[] 1537 4 #[] #[])
  fields := #[]
  methods := #[]
  instanceTypes := #[]
  staticTypes := #[]
  resolved := Array.replicate 8 none
  statics := none }

def pool4 : Array CpInfo := pool [(1, u "java/io/Serializable"), (0, .class_ 1), (0, u "java/lang/Object"), (0, .class_ 3)] 3

/-- java/io/Serializable -/
def k4 : Class := { plain "java/io/Serializable" (some 0) with
  accessFlags := 1537
  interfaces := #[]
  cf := some (fileOf pool4 2 #[] #[] 1537 4 #[] #[])
  fields := #[]
  methods := #[]
  instanceTypes := #[]
  staticTypes := #[]
  resolved := Array.replicate 8 none
  statics := none }

/-- the primitive byte -/
def k5 : Class := { plain "byte" none with kind := .primitive 'B', accessFlags := 0x411 }
/-- [B -/
def k6 : Class := { plain "[B" (some 0) with kind := .array 5 .byte, interfaces := #[3, 4], accessFlags := 1041 }

/-- the primitive int -/
def k7 : Class := { plain "int" none with kind := .primitive 'I', accessFlags := 0x411 }
/-- [I -/
def k8 : Class := { plain "[I" (some 0) with kind := .array 7 .int, interfaces := #[3, 4], accessFlags := 1041 }

def heap : Heap := #[]
def classes : Array Class := #[k0, k1, k2, k3, k4, k5, k6, k7, k8]
def interned : List (Array UInt16 × Addr) := []
def slotsUsed : Nat := 0
def theMethod : MethodId := ⟨1, 1⟩
def args0 : Array Value := #[.int 5, .int 5, .int 5, .int 5, .int 5]
def aboutOver (below : List Frame) : State where
  vm := { classes := classes, interned := interned.toArray }
  heap := heap
  slotsUsed := slotsUsed
  threads := #[{ frames := .invoking theMethod args0 :: below }]
def below0 : List Frame := [.native { method := ⟨0, 0⟩, args := #[] }]
def about1 : State := aboutOver below0
def p0 : Program := .bare "" "" ""
def e0 : Env := launch0.env 0 0 0
theorem w_frames : about1.frames = Frame.invoking theMethod args0 :: below0 := rfl
set_option maxRecDepth 65536 in
theorem w_args : argsFit about1.vm theMethod args0 = true := by decide +kernel
set_option maxRecDepth 65536 in
theorem w_heap : heapFits about1 = true := by decide +kernel
set_option maxRecDepth 65536 in
theorem w_runnable : about1.curStatus? = some .runnable := by decide +kernel
set_option maxRecDepth 65536 in
theorem w_alone : about1.alone = true := by decide +kernel
set_option maxRecDepth 65536 in
theorem w_named : about1.methodNamed? x = some theMethod := by decide +kernel
set_option maxRecDepth 65536 in
theorem w_hears : about1.hears theMethod below0 = true := by decide +kernel
set_option maxRecDepth 65536 in
theorem w_ripe : about1.ripe theMethod args0 below0 = true := by decide +kernel
theorem w_running : about1.status = .running := rfl
set_option maxRecDepth 65536 in
theorem w_room : about1.hasRoom e0.platform room_1 = true :=
  launch0.hasRoom_least _ room_1 (by decide +kernel) (by decide +kernel) (by decide +kernel) (by decide +kernel) (by decide +kernel) (by decide +kernel)
theorem allAtoms_all (ts : List Jvm.Cond) (a : Array Jvm.Value) (st : Jvm.State) : (allAtoms ts).before a st = ts.all (fun c => c.before a st) := by
  induction ts with
  | nil => rfl
  | cons c t ih =>
    show (Jvm.Cond.and c (allAtoms t)).before a st = _
    rw [Jvm.Cond.before_and, ih, List.all_cons]
def words1 : List Jvm.Cond := Jvm.Cond.code x code maxLocals ret :: tables_1
/-- a 'code' word, met by the world's own term for the bytes: nothing is compared byte by byte -/
theorem code_word {y : MethodName} {bytes : ByteArray} {mx : Nat} {rt : Option FieldType} {a : Array Value} {s : State} {m : MethodId} {meth : Method} {c : Code} (h1 : s.methodNamed? y = some m) (h2 : s.vm.method? m = some meth) (h3 : meth.code = some c) (h4 : c.code = bytes)
    (h5 : (c.maxLocals == mx && c.exceptionTable.isEmpty && decide (c.maxStack ≤ mostOperands) && decide (meth.sig.returnType = rt) && !meth.locks && decide (parseMethodDescriptor y.desc = some meth.sig)) = true) : (Jvm.Cond.code y bytes mx rt).before a s = true := by
  simp only [Bool.and_eq_true, beq_iff_eq, Bool.not_eq_true', decide_eq_true_eq] at h5
  obtain ⟨⟨⟨⟨⟨g1, g2⟩, g3⟩, g4⟩, g5⟩, g6⟩ := h5
  simp [Cond.before, Cond.holds, Cond.value, h1, h2, h3, h4, g1, g2, g3, g4, g5, g6]
def isCode : Jvm.Cond → Bool
  | .code _ _ _ _ => true
  | _ => false
theorem all_split {L : List Jvm.Cond} {P : Jvm.Cond → Bool} (h1 : L.all (fun c => isCode c || P c) = true) (h2 : ∀ c ∈ L.filter isCode, P c = true) : L.all P = true := by
  refine List.all_eq_true.mpr fun c hc => ?_
  have h := List.all_eq_true.mp h1 c hc
  rcases Bool.eq_false_or_eq_true (isCode c) with hi | hi
  · exact h2 c (List.mem_filter.mpr ⟨hc, hi⟩)
  · simpa [hi] using h
set_option maxRecDepth 65536 in
theorem w_c0 : (Jvm.Cond.code x code maxLocals ret).before args0 about1 = true := code_word (m := ⟨1, 1⟩) (meth := k1m1) (c := k1c1) (by decide +kernel) rfl rfl rfl (by decide +kernel)
set_option maxRecDepth 65536 in
theorem w_c1 : (Jvm.Cond.code ({ cls := "com/example/terms_to_scores/termstoscores/scoring/DocumentScorer", name := "checkFrequencies", desc := "([II)V" } : Jvm.MethodName) prog_44_method_3_code (3 : Nat) (Option.none : Option Jvm.ClassFile.FieldType)).before args0 about1 = true := code_word (m := ⟨2, 0⟩) (meth := k2m0) (c := k2c0) (by decide +kernel) rfl rfl rfl (by decide +kernel)
def codes1 : List Jvm.Cond := [Jvm.Cond.code x code maxLocals ret, Jvm.Cond.code ({ cls := "com/example/terms_to_scores/termstoscores/scoring/DocumentScorer", name := "checkFrequencies", desc := "([II)V" } : Jvm.MethodName) prog_44_method_3_code (3 : Nat) (Option.none : Option Jvm.ClassFile.FieldType)]
set_option maxRecDepth 65536 in
theorem codes_eq : words1.filter isCode = codes1 := rfl
theorem w_codes : ∀ c ∈ words1.filter isCode, c.before args0 about1 = true := by
  rw [codes_eq]
  intro c hc
  simp only [codes1, List.mem_cons, List.not_mem_nil, or_false] at hc
  rcases hc with rfl | rfl
  · exact w_c0
  · exact w_c1
set_option maxRecDepth 65536 in
theorem w_t1 : words1.all (fun c => isCode c || c.before args0 about1) = true := by decide +kernel
theorem w_tables : (allAtoms (Jvm.Cond.code x code maxLocals ret :: tables_1)).before args0 about1 = true := by
  rw [allAtoms_all]
  show words1.all (fun c => c.before args0 about1) = true
  refine all_split ?_ w_codes
  rw [w_t1]
set_option maxRecDepth 65536 in
theorem w_case : (Jvm.Cond.and given_1 narrow_1).before args0 about1 = true := by decide +kernel
theorem w_applies : (headSpec (Jvm.Cond.code x code maxLocals ret :: tables_1) room_1).applies x e0.platform about1 = true :=
  (Spec.applies_iff w_frames).mpr ⟨w_running, w_runnable, w_alone, w_named, w_hears, w_ripe, w_room, w_tables⟩
theorem atStart : AtStart classFile x code maxLocals ret World_1 tables_1 room_1 Calls_1 rest_1 Pre_1 launch0 p0 e0 about1 theMethod args0 below0 :=
  ⟨lists_1, trivial, launch0.admits_env _ _ _, launch0.least_env, fairChoices_fair.cas, fairChoices_fair.clock, w_frames, w_args, w_heap, w_applies, trivial, trivial, w_case⟩
end start1
theorem witness_1 : WitnessClaimed_1 := ⟨start1.p0, start1.e0, start1.about1, start1.theMethod, start1.args0, start1.below0, start1.atStart⟩
end Jvm.Pilot.@@N@@
