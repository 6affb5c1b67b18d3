import JvmDerived
import JvmDerived.Pilot.@@N@@Statement
import JvmDerived.Pilot.@@N@@Code
set_option linter.unusedVariables false
set_option linter.unusedSimpArgs false
namespace Jvm.RoadKit
open Sem ClassFile Op Lib Jvm.Stand Jvm.Free Jvm.LawKit
section New
variable {p : Program} {l : Launch} {e : Env} {R : Room} {s : State} {m : MethodId} {args : Array Value} {below : List Frame} {meth : Method} {c : Code} {T : State} {locs : List Loc} {cells slots : Nat}
theorem retI (X : Stand p l e R s m args below meth c T locs cells slots) (hx : p.tables.exec = Jvm.exec) {pc : Nat} {Ls : Array Slot} {z : Int32} {rest : List Value} (hret : meth.sig.returnType = some .int) (hd : decode c.code pc = .ok (.ireturn, 1)) {fs : List Frame}
    (hl : ∀ (f : JFrame) (acts : List Action), f.method = m → f.locked = none → f.entered = [] → (doReturn e (T.setTop f) acts (some (.int z))).1 = T.setFrames fs) : Steps p.tables e below (T.setTop (mkF m pc Ls (.int z :: rest))) (T.setFrames fs) := by
  have hm' : T.vm.method? m = some meth := X.method'
  have hn : narrow .int (.int z) = .int z := rfl
  show Steps p.tables e below (T.setTop { method := m, pc := pc, locals := Ls, stack := _ :: rest, locked := none }) _
  jvm_step X.here [X.here.top, hx, hd, hm', hret, hn]
  first | (intro acts; rw [hl _ acts rfl rfl rfl]) | rw [hl _ _ rfl rfl rfl]
  exact Steps.refl _
theorem retL (X : Stand p l e R s m args below meth c T locs cells slots) (hx : p.tables.exec = Jvm.exec) {pc : Nat} {Ls : Array Slot} {z : Int64} {rest : List Value} (hret : meth.sig.returnType = some .long) (hd : decode c.code pc = .ok (.lreturn, 1)) {fs : List Frame}
    (hl : ∀ (f : JFrame) (acts : List Action), f.method = m → f.locked = none → f.entered = [] → (doReturn e (T.setTop f) acts (some (.long z))).1 = T.setFrames fs) : Steps p.tables e below (T.setTop (mkF m pc Ls (.long z :: rest))) (T.setFrames fs) := by
  have hm' : T.vm.method? m = some meth := X.method'
  have hn : narrow .long (.long z) = .long z := rfl
  show Steps p.tables e below (T.setTop { method := m, pc := pc, locals := Ls, stack := _ :: rest, locked := none }) _
  jvm_step X.here [X.here.top, hx, hd, hm', hret, hn]
  first | (intro acts; rw [hl _ acts rfl rfl rfl]) | rw [hl _ _ rfl rfl rfl]
  exact Steps.refl _
theorem retA (X : Stand p l e R s m args below meth c T locs cells slots) (hx : p.tables.exec = Jvm.exec) {pc : Nat} {Ls : Array Slot} {z : Value} {ty : FieldType} {rest : List Value} (hv : z.isRef = true) (hty : ty.isReference = true) (hret : meth.sig.returnType = some ty) (hd : decode c.code pc = .ok (.areturn, 1)) {fs : List Frame}
    (hl : ∀ (f : JFrame) (acts : List Action), f.method = m → f.locked = none → f.entered = [] → (doReturn e (T.setTop f) acts (some z)).1 = T.setFrames fs) : Steps p.tables e below (T.setTop (mkF m pc Ls (z :: rest))) (T.setFrames fs) := by
  have hm' : T.vm.method? m = some meth := X.method'
  show Steps p.tables e below (T.setTop { method := m, pc := pc, locals := Ls, stack := _ :: rest, locked := none }) _
  jvm_step X.here [X.here.top, hx, hd, hm', hret, hv, hty]
  first | (intro acts; rw [hl _ acts rfl rfl rfl]) | rw [hl _ _ rfl rfl rfl]
  exact Steps.refl _
end New
theorem own_fw {tb : Tables} {e : Env} {below : List Frame} {A B : State} {P : State → Outcome → Prop} (h : ∀ t, Steps tb e below A t → Steps tb e below B t) (k : ∃ t o, Steps tb e below A t ∧ P t o) : ∃ t o, Steps tb e below B t ∧ P t o := by
  obtain ⟨t, o, h1, h2⟩ := k
  exact ⟨t, o, h t h1, h2⟩
def own_irem (x y : Int32) : Int32 := x - (x / y) * y
def own_lrem (x y : Int64) : Int64 := x - (x / y) * y
end Jvm.RoadKit
namespace Jvm.Pilot.@@N@@
open Jvm Jvm.ClassFile Sem Op Lib Jvm.Free Jvm.Stand Jvm.LawKit Jvm.RoadKit Bundle Jvm.Pilot.@@N@@.Jvm.D
theorem d2_0 : decode jdk_30_method_1_code 0 = .ok (.aload_n 0, 1) := by decide +kernel
theorem d2_1 : decode jdk_30_method_1_code 1 = .ok (.invokespecial 1, 3) := by decide +kernel
theorem d2_4 : decode jdk_30_method_1_code 4 = .ok (.return_, 1) := by decide +kernel
theorem pn2 : plainName "java/lang/Record" = true := by first | (simp [plainName, overriddenIn]; done) | decide +kernel
theorem ef2 (m : MethodId) (r0 : Addr) : entryFrame m #[(.ref r0)] 1 = mkF m 0 #[.val (.ref r0)] [] := by first | (simp [entryFrame, mkF, argsToLocals, Value.category]; done) | rfl
def Q2 (Z : State) (r0 : Addr) (h0 : Heap) (n0 : Nat) (v : Option Value) (h : Heap) (L : List Loc) : Prop := v = none ∧ Fr n0 L ∧ h = h0
set_option maxRecDepth 65536 in
set_option maxHeartbeats 40000000 in
theorem rm2 (l : Launch) (Z : State) (a0 : Array Value) (hw : ∀ d ∈ tables_1, d.before a0 Z = true) (ws : List Jvm.Cond) (r0 : Addr) (h0 : Heap) (n0 : Nat) (Z0 : n0 ≤ h0.size) :
    MetFree l (⟨"java/lang/Record", "<init>", "()V"⟩ : MethodName) (head1 (Jvm.Cond.code (⟨"java/lang/Record", "<init>", "()V"⟩ : MethodName) jdk_30_method_1_code 1 none :: ws) ({ frames := 1, cells := 0, slots := 0, locals := 12 } : Room)) (fun a U => a = #[(.ref r0)] ∧ Z.Warmed39 U.vm ∧ U.heap = h0) (fun _ _ _ _ _ => True) (fun _ U o U' => ∃ v L, o = .returned v ∧ Q2 Z r0 h0 n0 v U'.heap L ∧ FrameEnd U o U' L ({ frames := 1, cells := 0, slots := 0, locals := 12 } : Room).cells ({ frames := 1, cells := 0, slots := 0, locals := 12 } : Room).slots) := by
  refine MetFree.of_bodySF (plainFor_of_name pn2) hisR ?_
  intro p e s m args below meth c s₁ Bd hml0 hP hK
  obtain ⟨rfl, hZ, hh⟩ := hP
  have hx := Bd.exec
  have hby := Bd.bytes
  have hml : c.maxLocals = 1 := hml0
  have hown : s.vm.findClass "java/lang/Record" = some m.cls := findClass_of_methodNamed Bd.named
  have hnm := (name_of_methodNamed Bd.named Bd.method).1
  have X0 : Stand p l e ({ frames := 1, cells := 0, slots := 0, locals := 12 } : Room) s m #[(.ref r0)] below meth c s₁ [] 0 0 := Stand.of_body Bd
  have e0 : s₁.heap = h0 := by rw [← hh, Bd.state]; rfl
  have N0 := Fr.nil n0
  refine own_fw (A := s₁.setTop (mkF m 0 #[.val (.ref r0)] [])) (fun t k => castTop (ef2 m r0) k) ?_
  refine own_fw (A := s₁.setTop (mkF m 1 #[.val (.ref r0)] [(.ref r0)])) (fun t k => ?_) ?_
  · show Steps p.tables e below (s₁.setTop (mkF m 0 #[.val (.ref r0)] [])) t
    refine XS.aloadN X0.here hx rfl (hb hby d2_0) rfl rfl ?_
    exact k
  obtain ⟨T2_1, X2_1, e2_1, st2_1⟩ := initO X0 hx hZ hown (hw _ (List.mem_of_getElem? (i := 12) rfl)) (hw _ (List.mem_of_getElem? (i := 13) rfl)) (hw _ (List.mem_of_getElem? (i := 14) rfl)) e0 (g := (mkF m 1 #[.val (.ref r0)] [(.ref r0)])) rfl (by rw [hml]; rfl) rfl (hb hby d2_1) (by decide) (W := 0) (by show 2 * 0 + _ ≤ _; exact Nat.le_of_eq rfl) (by decide)
  refine own_fw st2_1 ?_
  obtain ⟨fs, hr, hrun, hended, hW, hsame⟩ := X2_1.leave (v := none) (fun _ => rfl)
  refine ⟨_, _, X2_1.returnOut hx Bd.returns (hb hby d2_4) hr, hrun, hended, _, _, rfl, ?_, ⟨_, rfl⟩, hW, hsame.mono (by decide) (by decide)⟩
  have eh : (T2_1.setFrames fs).heap = h0 := e2_1
  rw [eh]
  exact ⟨rfl, N0, rfl⟩

theorem d1_0 : decode prog_12_method_1_code 0 = .ok (.aload_n 0, 1) := by decide +kernel
theorem d1_1 : decode prog_12_method_1_code 1 = .ok (.invokespecial 1, 3) := by decide +kernel
theorem d1_4 : decode prog_12_method_1_code 4 = .ok (.iload_n 1, 1) := by decide +kernel
theorem d1_5 : decode prog_12_method_1_code 5 = .ok (.ifCond .ge 13, 3) := by decide +kernel
theorem d1_18 : decode prog_12_method_1_code 18 = .ok (.iload_n 2, 1) := by decide +kernel
theorem d1_19 : decode prog_12_method_1_code 19 = .ok (.iconst 1, 1) := by decide +kernel
theorem d1_20 : decode prog_12_method_1_code 20 = .ok (.if_icmp .lt 10, 3) := by decide +kernel
theorem d1_23 : decode prog_12_method_1_code 23 = .ok (.iload_n 2, 1) := by decide +kernel
theorem d1_24 : decode prog_12_method_1_code 24 = .ok (.sipush 200, 3) := by decide +kernel
theorem d1_27 : decode prog_12_method_1_code 27 = .ok (.if_icmp .le 13, 3) := by decide +kernel
theorem d1_40 : decode prog_12_method_1_code 40 = .ok (.aload_n 0, 1) := by decide +kernel
theorem d1_41 : decode prog_12_method_1_code 41 = .ok (.iload_n 1, 1) := by decide +kernel
theorem d1_42 : decode prog_12_method_1_code 42 = .ok (.putfield 18, 3) := by decide +kernel
theorem d1_45 : decode prog_12_method_1_code 45 = .ok (.aload_n 0, 1) := by decide +kernel
theorem d1_46 : decode prog_12_method_1_code 46 = .ok (.iload_n 2, 1) := by decide +kernel
theorem d1_47 : decode prog_12_method_1_code 47 = .ok (.putfield 22, 3) := by decide +kernel
theorem d1_50 : decode prog_12_method_1_code 50 = .ok (.return_, 1) := by decide +kernel
theorem pn1 : plainName "com/example/kido2/kido2/identity/PageRequest" = true := by first | (simp [plainName, overriddenIn]; done) | decide +kernel
theorem pd1_0 : parseMethodDescriptor "()V" = some ⟨[], none⟩ := by decide +kernel
theorem ef1 (m : MethodId) (r0 : Addr) (p1 : Int32) (p2 : Int32) : entryFrame m #[(.ref r0), (.int p1), (.int p2)] 3 = mkF m 0 #[.val (.ref r0), .val (.int p1), .val (.int p2)] [] := by first | (simp [entryFrame, mkF, argsToLocals, Value.category]; done) | rfl
def Q1 (Z : State) (r0 : Addr) (p1 p2 : Int32) (h0 : Heap) (n0 : Nat) (v : Option Value) (h : Heap) (L : List Loc) : Prop := v = none ∧ Fr n0 L ∧ Keep h0 h [r0] ∧ Exa Z h r0 "com/example/kido2/kido2/identity/PageRequest" ∧ Fld Z h r0 "com/example/kido2/kido2/identity/PageRequest" "page" "I" (.int p1) ∧ Fld Z h r0 "com/example/kido2/kido2/identity/PageRequest" "size" "I" (.int p2)
set_option maxRecDepth 65536 in
set_option maxHeartbeats 40000000 in
theorem rm1 (l : Launch) (Z : State) (a0 : Array Value) (hw : ∀ d ∈ tables_1, d.before a0 Z = true) (ws : List Jvm.Cond) (r0 : Addr) (p1 : Int32) (p2 : Int32) (h0 : Heap) (n0 : Nat) (Z0 : n0 ≤ h0.size) (E_r0 : Exa Z h0 r0 "com/example/kido2/kido2/identity/PageRequest") (F_page : Fld Z h0 r0 "com/example/kido2/kido2/identity/PageRequest" "page" "I" (.int (0 : Int32))) (F_size : Fld Z h0 r0 "com/example/kido2/kido2/identity/PageRequest" "size" "I" (.int (0 : Int32))) (g_r0 : n0 ≤ r0) (hc5 : ¬ (p1 < (0 : Int32))) (hc20 : ¬ (p2 < (1 : Int32))) (hc27 : ¬ ((200 : Int32) < p2)) :
    MetFree l (⟨"com/example/kido2/kido2/identity/PageRequest", "<init>", "(II)V"⟩ : MethodName) (head1 (Jvm.Cond.code (⟨"com/example/kido2/kido2/identity/PageRequest", "<init>", "(II)V"⟩ : MethodName) prog_12_method_1_code 3 none :: ws) ({ frames := 2, cells := 0, slots := 0, locals := 24 } : Room)) (fun a U => a = #[(.ref r0), (.int p1), (.int p2)] ∧ Z.Warmed39 U.vm ∧ U.heap = h0) (fun _ _ _ _ _ => True) (fun _ U o U' => ∃ v L, o = .returned v ∧ Q1 Z r0 p1 p2 h0 n0 v U'.heap L ∧ FrameEnd U o U' L ({ frames := 2, cells := 0, slots := 0, locals := 24 } : Room).cells ({ frames := 2, cells := 0, slots := 0, locals := 24 } : Room).slots) := by
  refine MetFree.of_bodySF (plainFor_of_name pn1) hisR ?_
  intro p e s m args below meth c s₁ Bd hml0 hP hK
  obtain ⟨rfl, hZ, hh⟩ := hP
  have hx := Bd.exec
  have hby := Bd.bytes
  have hml : c.maxLocals = 3 := hml0
  have hown : s.vm.findClass "com/example/kido2/kido2/identity/PageRequest" = some m.cls := findClass_of_methodNamed Bd.named
  have hnm := (name_of_methodNamed Bd.named Bd.method).1
  have X0 : Stand p l e ({ frames := 2, cells := 0, slots := 0, locals := 24 } : Room) s m #[(.ref r0), (.int p1), (.int p2)] below meth c s₁ [] 0 0 := Stand.of_body Bd
  have e0 : s₁.heap = h0 := by rw [← hh, Bd.state]; rfl
  have N0 := Fr.nil n0
  refine own_fw (A := s₁.setTop (mkF m 0 #[.val (.ref r0), .val (.int p1), .val (.int p2)] [])) (fun t k => castTop (ef1 m r0 p1 p2) k) ?_
  refine own_fw (A := s₁.setTop (mkF m 1 #[.val (.ref r0), .val (.int p1), .val (.int p2)] [(.ref r0)])) (fun t k => ?_) ?_
  · show Steps p.tables e below (s₁.setTop (mkF m 0 #[.val (.ref r0), .val (.int p1), .val (.int p2)] [])) t
    refine XS.aloadN X0.here hx rfl (hb hby d1_0) rfl rfl ?_
    exact k
  obtain ⟨_, _, ⟨T1_1, L1_1, k1_1, n1_1⟩, -, X1_1, ⟨Lc1_1, hQ1_1, l1_1, y1_1, z1_1⟩, st1_1⟩ := X0.specialBack hx (y := (⟨"java/lang/Record", "<init>", "()V"⟩ : MethodName)) rfl hown (mvT hZ (hw _ (List.mem_of_getElem? (i := 7) rfl))) (mvT hZ (hw _ (List.mem_of_getElem? (i := 8) rfl))) (mvT hZ (hw _ (List.mem_of_getElem? (i := 11) rfl))) (by decide) (backOf (W := 0) (rm2 l Z a0 hw [] (r0) h0 n0 Z0 ) hZ (hw _ (List.mem_of_getElem? (i := 11) rfl)) (hw _ (List.mem_of_getElem? (i := 10) rfl)) (by decide) (by decide)) (g := (mkF m 1 #[.val (.ref r0), .val (.int p1), .val (.int p2)] [(.ref r0)])) rfl (by rw [hml]; rfl) (Steps.refl _) (a := r0) (argsL := []) (rest := []) (lenOf pd1_0 rfl) rfl (by show 2 * 0 + _ ≤ _; exact Nat.le_of_eq rfl) (hb hby d1_1) (fun _ _ => ⟨rfl, e0, (by decide : 0 + 0 ≤ _), (by decide : 0 + 0 ≤ _)⟩)
  dsimp only [Pt.U, Pt.locs, Pt.cells, Pt.slots] at X1_1 l1_1 y1_1 z1_1 st1_1 hQ1_1
  subst l1_1 y1_1 z1_1
  obtain ⟨rfl, N1_1q, e1_1⟩ := hQ1_1
  have N1_1 := Fr.app N0 N1_1q
  refine own_fw (fun t k => st1_1.trans k) ?_
  refine own_fw (A := T1_1.setTop (mkF m 42 #[.val (.ref r0), .val (.int p1), .val (.int p2)] [(.int p1), (.ref r0)])) (fun t k => ?_) ?_
  · show Steps p.tables e below (T1_1.setTop (mkF m 4 #[.val (.ref r0), .val (.int p1), .val (.int p2)] [])) t
    refine XS.iloadN X1_1.here hx rfl (hb hby d1_4) rfl ?_
    show Steps p.tables e below (T1_1.setTop (mkF m 5 #[.val (.ref r0), .val (.int p1), .val (.int p2)] [(.int p1)])) t
    refine XS.ifYes X1_1.here hx rfl (pc0 := 5) (pc' := 18) rfl (hb hby d1_5) rfl ((if0 _ _).trans (flt hc5).2.1) (by decide) (by decide) ?_
    show Steps p.tables e below (T1_1.setTop (mkF m 18 #[.val (.ref r0), .val (.int p1), .val (.int p2)] [])) t
    refine XS.iloadN X1_1.here hx rfl (hb hby d1_18) rfl ?_
    show Steps p.tables e below (T1_1.setTop (mkF m 19 #[.val (.ref r0), .val (.int p1), .val (.int p2)] [(.int p2)])) t
    refine XS.iconst X1_1.here hx rfl (hb hby d1_19) ?_
    show Steps p.tables e below (T1_1.setTop (mkF m 20 #[.val (.ref r0), .val (.int p1), .val (.int p2)] [(.int (1 : Int32)), (.int p2)])) t
    refine XS.icmpNo X1_1.here hx rfl (hb hby d1_20) rfl (flt hc20).1 ?_
    show Steps p.tables e below (T1_1.setTop (mkF m 23 #[.val (.ref r0), .val (.int p1), .val (.int p2)] [])) t
    refine XS.iloadN X1_1.here hx rfl (hb hby d1_23) rfl ?_
    show Steps p.tables e below (T1_1.setTop (mkF m 24 #[.val (.ref r0), .val (.int p1), .val (.int p2)] [(.int p2)])) t
    refine XS.sipush X1_1.here hx rfl (hb hby d1_24) ?_
    show Steps p.tables e below (T1_1.setTop (mkF m 27 #[.val (.ref r0), .val (.int p1), .val (.int p2)] [(.int (200 : Int32)), (.int p2)])) t
    refine XS.icmpYes X1_1.here hx rfl (pc0 := 27) (pc' := 40) rfl (hb hby d1_27) rfl (flt hc27).2.2.2 (by decide) (by decide) ?_
    show Steps p.tables e below (T1_1.setTop (mkF m 40 #[.val (.ref r0), .val (.int p1), .val (.int p2)] [])) t
    refine XS.aloadN X1_1.here hx rfl (hb hby d1_40) rfl rfl ?_
    show Steps p.tables e below (T1_1.setTop (mkF m 41 #[.val (.ref r0), .val (.int p1), .val (.int p2)] [(.ref r0)])) t
    refine XS.iloadN X1_1.here hx rfl (hb hby d1_41) rfl ?_
    exact k
  obtain ⟨T1_2, h1_2, X1_2, e1_2, W1_2, st1_2⟩ := putF X1_1 hx hZ hown (host := "") (Or.inl (hw _ (List.mem_of_getElem? (i := 15) rfl))) Via.refl e1_1 F_page E_r0 (Or.inr ⟨(hw _ (List.mem_of_getElem? (i := 16) rfl)), rfl, hnm⟩) (hw _ (List.mem_of_getElem? (i := 2) rfl)) (ty := .int) (by decide) rfl rfl (g := (mkF m 42 #[.val (.ref r0), .val (.int p1), .val (.int p2)] [(.int p1), (.ref r0)])) rfl rfl (hb hby d1_42)
  have Fw1_2 := F_page.same W1_2
  have N1_2 := Fr.snoc X1_2 N1_1 g_r0
  refine own_fw st1_2 ?_
  refine own_fw (A := T1_2.setTop (mkF m 47 #[.val (.ref r0), .val (.int p1), .val (.int p2)] [(.int p2), (.ref r0)])) (fun t k => ?_) ?_
  · show Steps p.tables e below (T1_2.setTop (mkF m 45 #[.val (.ref r0), .val (.int p1), .val (.int p2)] [])) t
    refine XS.aloadN X1_2.here hx rfl (hb hby d1_45) rfl rfl ?_
    show Steps p.tables e below (T1_2.setTop (mkF m 46 #[.val (.ref r0), .val (.int p1), .val (.int p2)] [(.ref r0)])) t
    refine XS.iloadN X1_2.here hx rfl (hb hby d1_46) rfl ?_
    exact k
  obtain ⟨T1_3, h1_3, X1_3, e1_3, W1_3, st1_3⟩ := putF X1_2 hx hZ hown (host := "") (Or.inl (hw _ (List.mem_of_getElem? (i := 17) rfl))) Via.refl e1_2 (F_size.other W1_2 (Or.inr (slot_ne (Or.inr (hw _ (List.mem_of_getElem? (i := 18) rfl))) (Or.inr (hw _ (List.mem_of_getElem? (i := 16) rfl))) (by decide) (t := .int) (t' := .int) (by decide) (by decide)))) (E_r0.wr W1_2) (Or.inr ⟨(hw _ (List.mem_of_getElem? (i := 18) rfl)), rfl, hnm⟩) (hw _ (List.mem_of_getElem? (i := 2) rfl)) (ty := .int) (by decide) rfl rfl (g := (mkF m 47 #[.val (.ref r0), .val (.int p1), .val (.int p2)] [(.int p2), (.ref r0)])) rfl rfl (hb hby d1_47)
  have Fw1_3 := (F_size.other W1_2 (Or.inr (slot_ne (Or.inr (hw _ (List.mem_of_getElem? (i := 18) rfl))) (Or.inr (hw _ (List.mem_of_getElem? (i := 16) rfl))) (by decide) (t := .int) (t' := .int) (by decide) (by decide)))).same W1_3
  have N1_3 := Fr.snoc X1_3 N1_2 g_r0
  refine own_fw st1_3 ?_
  obtain ⟨fs, hr, hrun, hended, hW, hsame⟩ := X1_3.leave (v := none) (fun _ => rfl)
  refine ⟨_, _, X1_3.returnOut hx Bd.returns (hb hby d1_50) hr, hrun, hended, _, _, rfl, ?_, ⟨_, rfl⟩, hW, hsame.mono (by decide) (by decide)⟩
  have eh : (T1_3.setFrames fs).heap = h1_3 := e1_3
  rw [eh]
  exact ⟨rfl, N1_3, (((Keep.refl h0 [r0]).wr W1_2 (Or.inl (List.mem_of_getElem? (i := 0) rfl))).wr W1_3 (Or.inl (List.mem_of_getElem? (i := 0) rfl))), ((E_r0.wr W1_2).wr W1_3), (Fw1_2.other W1_3 (Or.inr (slot_ne (Or.inr (hw _ (List.mem_of_getElem? (i := 16) rfl))) (Or.inr (hw _ (List.mem_of_getElem? (i := 18) rfl))) (by decide) (t := .int) (t' := .int) (by decide) (by decide)))), Fw1_3⟩
theorem d4_0 : decode prog_12_method_3_code 0 = .ok (.aload_n 0, 1) := by decide +kernel
theorem d4_1 : decode prog_12_method_3_code 1 = .ok (.getfield 18, 3) := by decide +kernel
theorem d4_4 : decode prog_12_method_3_code 4 = .ok (.i2l, 1) := by decide +kernel
theorem d4_5 : decode prog_12_method_3_code 5 = .ok (.aload_n 0, 1) := by decide +kernel
theorem d4_6 : decode prog_12_method_3_code 6 = .ok (.getfield 22, 3) := by decide +kernel
theorem d4_9 : decode prog_12_method_3_code 9 = .ok (.i2l, 1) := by decide +kernel
theorem d4_10 : decode prog_12_method_3_code 10 = .ok (.lmul, 1) := by decide +kernel
theorem d4_11 : decode prog_12_method_3_code 11 = .ok (.lreturn, 1) := by decide +kernel
theorem pn4 : plainName "com/example/kido2/kido2/identity/PageRequest" = true := by first | (simp [plainName, overriddenIn]; done) | decide +kernel
theorem ef4 (m : MethodId) (r0 : Addr) : entryFrame m #[(.ref r0)] 1 = mkF m 0 #[.val (.ref r0)] [] := by first | (simp [entryFrame, mkF, argsToLocals, Value.category]; done) | rfl
def Q4 (Z : State) (r0 : Addr) (u v : Int32) (h0 : Heap) (n0 : Nat) (w : Option Value) (h : Heap) (L : List Loc) : Prop := w = some (.long (u.toInt64 * v.toInt64)) ∧ Fr n0 L ∧ h = h0
set_option maxRecDepth 65536 in
set_option maxHeartbeats 40000000 in
theorem rm4 (l : Launch) (Z : State) (a0 : Array Value) (hw : ∀ d ∈ tables_1, d.before a0 Z = true) (ws : List Jvm.Cond) (r0 : Addr) (u : Int32) (u2 : Int32) (h0 : Heap) (n0 : Nat) (Z0 : n0 ≤ h0.size) (F_page : Fld Z h0 r0 "com/example/kido2/kido2/identity/PageRequest" "page" "I" (.int u)) (F_size : Fld Z h0 r0 "com/example/kido2/kido2/identity/PageRequest" "size" "I" (.int u2)) :
    MetFree l (⟨"com/example/kido2/kido2/identity/PageRequest", "offset", "()J"⟩ : MethodName) (head1 (Jvm.Cond.code (⟨"com/example/kido2/kido2/identity/PageRequest", "offset", "()J"⟩ : MethodName) prog_12_method_3_code 1 (some .long) :: ws) ({ frames := 0, cells := 0, slots := 0, locals := 0 } : Room)) (fun a U => a = #[(.ref r0)] ∧ Z.Warmed39 U.vm ∧ U.heap = h0) (fun _ _ _ _ _ => True) (fun _ U o U' => ∃ v L, o = .returned v ∧ Q4 Z r0 u u2 h0 n0 v U'.heap L ∧ FrameEnd U o U' L ({ frames := 0, cells := 0, slots := 0, locals := 0 } : Room).cells ({ frames := 0, cells := 0, slots := 0, locals := 0 } : Room).slots) := by
  refine MetFree.of_bodySF (plainFor_of_name pn4) hisR ?_
  intro p e s m args below meth c s₁ Bd hml0 hP hK
  obtain ⟨rfl, hZ, hh⟩ := hP
  have hx := Bd.exec
  have hby := Bd.bytes
  have hml : c.maxLocals = 1 := hml0
  have hown : s.vm.findClass "com/example/kido2/kido2/identity/PageRequest" = some m.cls := findClass_of_methodNamed Bd.named
  have hnm := (name_of_methodNamed Bd.named Bd.method).1
  have X0 : Stand p l e ({ frames := 0, cells := 0, slots := 0, locals := 0 } : Room) s m #[(.ref r0)] below meth c s₁ [] 0 0 := Stand.of_body Bd
  have e0 : s₁.heap = h0 := by rw [← hh, Bd.state]; rfl
  have N0 := Fr.nil n0
  refine own_fw (A := s₁.setTop (mkF m 0 #[.val (.ref r0)] [])) (fun t k => castTop (ef4 m r0) k) ?_
  refine own_fw (A := s₁.setTop (mkF m 1 #[.val (.ref r0)] [(.ref r0)])) (fun t k => ?_) ?_
  · show Steps p.tables e below (s₁.setTop (mkF m 0 #[.val (.ref r0)] [])) t
    refine XS.aloadN X0.here hx rfl (hb hby d4_0) rfl rfl ?_
    exact k
  obtain ⟨T4_1, X4_1, e4_1, st4_1⟩ := getF X0 hx hZ hown (host := "") (Or.inl (hw _ (List.mem_of_getElem? (i := 15) rfl))) Via.refl e0 F_page (g := (mkF m 1 #[.val (.ref r0)] [(.ref r0)])) rfl rfl (hb hby d4_1)
  refine own_fw st4_1 ?_
  refine own_fw (A := T4_1.setTop (mkF m 6 #[.val (.ref r0)] [(.ref r0), (.long (u.toInt64))])) (fun t k => ?_) ?_
  · show Steps p.tables e below (T4_1.setTop (mkF m 4 #[.val (.ref r0)] [(.int u)])) t
    refine XS.i2l X4_1.here hx rfl (hb hby d4_4) rfl ?_
    show Steps p.tables e below (T4_1.setTop (mkF m 5 #[.val (.ref r0)] [(.long (u.toInt64))])) t
    refine XS.aloadN X4_1.here hx rfl (hb hby d4_5) rfl rfl ?_
    exact k
  obtain ⟨T4_2, X4_2, e4_2, st4_2⟩ := getF X4_1 hx hZ hown (host := "") (Or.inl (hw _ (List.mem_of_getElem? (i := 17) rfl))) Via.refl e4_1 F_size (g := (mkF m 6 #[.val (.ref r0)] [(.ref r0), (.long (u.toInt64))])) rfl rfl (hb hby d4_6)
  refine own_fw st4_2 ?_
  refine own_fw (A := T4_2.setTop (mkF m 11 #[.val (.ref r0)] [(.long ((u.toInt64) * (u2.toInt64)))])) (fun t k => ?_) ?_
  · show Steps p.tables e below (T4_2.setTop (mkF m 9 #[.val (.ref r0)] [(.int u2), (.long (u.toInt64))])) t
    refine XS.i2l X4_2.here hx rfl (hb hby d4_9) rfl ?_
    show Steps p.tables e below (T4_2.setTop (mkF m 10 #[.val (.ref r0)] [(.long (u2.toInt64)), (.long (u.toInt64))])) t
    refine XS.lmul X4_2.here hx rfl (hb hby d4_10) rfl ?_
    exact k
  obtain ⟨fs, hr, hrun, hended, hW, hsame⟩ := X4_2.leave (v := some (.long ((u.toInt64) * (u2.toInt64)))) (fun h => by rw [Bd.returns] at h; cases h)
  refine ⟨_, _, retL X4_2 hx Bd.returns (hb hby d4_11) hr, hrun, hended, _, _, rfl, ?_, ⟨_, rfl⟩, hW, hsame.mono (by decide) (by decide)⟩
  have eh : (T4_2.setFrames fs).heap = h0 := e4_2
  rw [eh]
  exact ⟨rfl, N0, rfl⟩
theorem own_pg (a : Int32) : 0 ≤ (a &&& (2147483647 : Int32)).toInt := (c_and a 2147483647 (by decide)).1
theorem own_sz (a : Int32) : 1 ≤ ((own_irem (a &&& (2147483647 : Int32)) (200 : Int32)) + (1 : Int32)).toInt ∧ ((own_irem (a &&& (2147483647 : Int32)) (200 : Int32)) + (1 : Int32)).toInt ≤ 200 := by
  have h1 := c_and a 2147483647 (by decide)
  have h2 := (c_irem (a &&& 2147483647) 200 200 rfl).1 h1.1
  rw [← Jvm.irem_eq_mod] at h2
  have h3 := c_iadd (own_irem (a &&& (2147483647 : Int32)) (200 : Int32)) 1
  have h4 := rng32 (own_irem (a &&& (2147483647 : Int32)) (200 : Int32) + 1)
  have h5 : (1 : Int32).toInt = 1 := rfl
  change (own_irem (a &&& (2147483647 : Int32)) (200 : Int32)).toInt = _ at h2
  omega
theorem own_c5 (a : Int32) : ¬ ((a &&& (2147483647 : Int32)) < (0 : Int32)) := by
  rw [Int32.lt_iff_toInt_lt]
  have h := own_pg a
  have z : (0 : Int32).toInt = 0 := rfl
  omega
theorem own_c20 (a : Int32) : ¬ (((own_irem (a &&& (2147483647 : Int32)) (200 : Int32)) + (1 : Int32)) < (1 : Int32)) := by
  rw [Int32.lt_iff_toInt_lt]
  have h := own_sz a
  have z : (1 : Int32).toInt = 1 := rfl
  omega
theorem own_c27 (a : Int32) : ¬ ((200 : Int32) < ((own_irem (a &&& (2147483647 : Int32)) (200 : Int32)) + (1 : Int32))) := by
  rw [Int32.lt_iff_toInt_lt]
  have h := own_sz a
  have z : (200 : Int32).toInt = 200 := rfl
  omega
theorem own_mul (u v : Int32) (h0 : 0 ≤ u.toInt) (h1 : 1 ≤ v.toInt) (h2 : v.toInt ≤ 200) : (u.toInt64 * v.toInt64).toInt = u.toInt * v.toInt ∧ 0 ≤ u.toInt * v.toInt := by
  have a1 := c_lmul u.toInt64 v.toInt64
  rw [c_i2l, c_i2l] at a1
  have a2 := rng64 (u.toInt64 * v.toInt64)
  have a3 := rng32 u
  have a4 : 0 ≤ u.toInt * v.toInt := Int.mul_nonneg h0 (by omega)
  have a5 : u.toInt * v.toInt ≤ 2147483648 * 200 := Int.mul_le_mul (by omega) h2 (by omega) (by omega)
  generalize u.toInt * v.toInt = P at *
  omega
theorem own_nz (v : Int32) (h1 : 1 ≤ v.toInt) : v.toInt64 ≠ (0 : Int64) := by
  intro q
  have h := c_i2l v
  rw [q] at h
  have z : (0 : Int64).toInt = 0 := rfl
  omega
theorem own_nm (v : Int32) (h1 : 1 ≤ v.toInt) : v.toInt64 ≠ (-1 : Int64) := by
  intro q
  have h := c_i2l v
  rw [q] at h
  have z : (-1 : Int64).toInt = -1 := rfl
  omega
theorem own_b42 (u v : Int32) (h0 : 0 ≤ u.toInt) (h1 : 1 ≤ v.toInt ∧ v.toInt ≤ 200) : ¬ ((lcmpW (u.toInt64 * v.toInt64) (0 : Int64)) < (0 : Int32)) := by
  rw [lw_lt, Int64.lt_iff_toInt_lt, (own_mul u v h0 h1.1 h1.2).1]
  have z : (0 : Int64).toInt = 0 := rfl
  have := (own_mul u v h0 h1.1 h1.2).2
  omega
theorem own_b54 (u v : Int32) (h0 : 0 ≤ u.toInt) (h1 : 1 ≤ v.toInt ∧ v.toInt ≤ 200) : (lcmpW (own_lrem (u.toInt64 * v.toInt64) v.toInt64) (0 : Int64)) = (0 : Int32) := by
  rw [lw_eq, ← Int64.toInt_inj]
  have m := own_mul u v h0 h1.1 h1.2
  have q := (c_lrem (u.toInt64 * v.toInt64) v.toInt64 v.toInt (c_i2l v)).1 (by omega)
  rw [own_lrem, q, m.1]
  exact Int.mul_emod_left _ _
theorem own_b67 (u v : Int32) (h0 : 0 ≤ u.toInt) (h1 : 1 ≤ v.toInt ∧ v.toInt ≤ 200) : (lcmpW ((u.toInt64 * v.toInt64) / v.toInt64) u.toInt64) = (0 : Int32) := by
  rw [lw_eq, ← Int64.toInt_inj]
  have m := own_mul u v h0 h1.1 h1.2
  have q := (c_ldiv (u.toInt64 * v.toInt64) v.toInt64 v.toInt (c_i2l v) (own_nm v h1.1)).1 (by omega)
  rw [q, m.1, c_i2l]
  exact Int.mul_ediv_cancel _ (by omega)
theorem pn0 : plainName "com/example/kido2/kido2/identity/PageRequestOffsetPinLaw" = true := by first | (simp [plainName, overriddenIn]; done) | decide +kernel
theorem pd0_0 : parseMethodDescriptor "(II)V" = some ⟨[.int, .int], none⟩ := by decide +kernel
theorem pd0_1 : parseMethodDescriptor "()J" = some ⟨[], some .long⟩ := by decide +kernel
theorem ef0 (m : MethodId) (p0 : Int32) (p1 : Int32) : entryFrame m #[(.int p0), (.int p1)] maxLocals = mkF m 0 #[.val (.int p0), .val (.int p1), .unset, .unset, .unset, .unset, .unset, .unset, .unset] [] := by first | (simp [entryFrame, mkF, argsToLocals, Value.category, maxLocals]; done) | rfl
def Q0 (Z : State) (p0 p1 : Int32) (h0 : Heap) (n0 : Nat) (v : Option Value) (h : Heap) (L : List Loc) : Prop := v = some (.int 1) ∧ Fr n0 L
set_option maxRecDepth 65536 in
set_option maxHeartbeats 40000000 in
theorem rm0 (l : Launch) (Z : State) (a0 : Array Value) (hw : ∀ d ∈ tables_1, d.before a0 Z = true) (ws : List Jvm.Cond) (p0 : Int32) (p1 : Int32) (h0 : Heap) (n0 : Nat) (Z0 : n0 ≤ h0.size) :
    MetFree l x (head1 (Jvm.Cond.code x code maxLocals ret :: ws) room_1) (fun a U => a = #[(.int p0), (.int p1)] ∧ Z.Warmed39 U.vm ∧ U.heap = h0) (fun _ _ _ _ _ => True) (fun _ U o U' => ∃ v L, o = .returned v ∧ Q0 Z p0 p1 h0 n0 v U'.heap L ∧ FrameEnd U o U' L room_1.cells room_1.slots) := by
  refine MetFree.of_bodySF (plainFor_of_name pn0) hisR ?_
  intro p e s m args below meth c s₁ Bd hml0 hP hK
  obtain ⟨rfl, hZ, hh⟩ := hP
  have hx := Bd.exec
  have hby := Bd.bytes
  have hml : c.maxLocals = 9 := hml0
  have hown : s.vm.findClass "com/example/kido2/kido2/identity/PageRequestOffsetPinLaw" = some m.cls := findClass_of_methodNamed Bd.named
  have hnm := (name_of_methodNamed Bd.named Bd.method).1
  have X0 : Stand p l e room_1 s m #[(.int p0), (.int p1)] below meth c s₁ [] 0 0 := Stand.of_body Bd
  have e0 : s₁.heap = h0 := by rw [← hh, Bd.state]; rfl
  have N0 := Fr.nil n0
  refine own_fw (A := s₁.setTop (mkF m 0 #[.val (.int p0), .val (.int p1), .unset, .unset, .unset, .unset, .unset, .unset, .unset] [])) (fun t k => castTop (ef0 m p0 p1) k) ?_
  refine own_fw (A := s₁.setTop (mkF m 16 #[.val (.int p0), .val (.int p1), .val (.int (p0 &&& (2147483647 : Int32))), .val (.int ((own_irem (p1 &&& (2147483647 : Int32)) (200 : Int32)) + (1 : Int32))), .unset, .unset, .unset, .unset, .unset] [])) (fun t k => ?_) ?_
  · show Steps p.tables e below (s₁.setTop (mkF m 0 #[.val (.int p0), .val (.int p1), .unset, .unset, .unset, .unset, .unset, .unset, .unset] [])) t
    refine XS.iloadN X0.here hx rfl (hb hby at_0) rfl ?_
    show Steps p.tables e below (s₁.setTop (mkF m 1 #[.val (.int p0), .val (.int p1), .unset, .unset, .unset, .unset, .unset, .unset, .unset] [(.int p0)])) t
    refine X0.ldcInt hx hown (mvT hZ (hw _ (List.mem_of_getElem? (i := 0) rfl))) (g := (mkF m 1 #[.val (.int p0), .val (.int p1), .unset, .unset, .unset, .unset, .unset, .unset, .unset] [(.int p0)])) rfl (hb hby at_1) _ ?_
    show Steps p.tables e below (s₁.setTop (mkF m 3 #[.val (.int p0), .val (.int p1), .unset, .unset, .unset, .unset, .unset, .unset, .unset] [(.int (2147483647 : Int32)), (.int p0)])) t
    refine XS.iand X0.here hx rfl (hb hby at_3) rfl ?_
    show Steps p.tables e below (s₁.setTop (mkF m 4 #[.val (.int p0), .val (.int p1), .unset, .unset, .unset, .unset, .unset, .unset, .unset] [(.int (p0 &&& (2147483647 : Int32)))])) t
    refine XS.istoreN X0.here hx rfl (hb hby at_4) rfl (l' := #[.val (.int p0), .val (.int p1), .val (.int (p0 &&& (2147483647 : Int32))), .unset, .unset, .unset, .unset, .unset, .unset]) rfl ?_
    show Steps p.tables e below (s₁.setTop (mkF m 5 #[.val (.int p0), .val (.int p1), .val (.int (p0 &&& (2147483647 : Int32))), .unset, .unset, .unset, .unset, .unset, .unset] [])) t
    refine XS.iloadN X0.here hx rfl (hb hby at_5) rfl ?_
    show Steps p.tables e below (s₁.setTop (mkF m 6 #[.val (.int p0), .val (.int p1), .val (.int (p0 &&& (2147483647 : Int32))), .unset, .unset, .unset, .unset, .unset, .unset] [(.int p1)])) t
    refine X0.ldcInt hx hown (mvT hZ (hw _ (List.mem_of_getElem? (i := 0) rfl))) (g := (mkF m 6 #[.val (.int p0), .val (.int p1), .val (.int (p0 &&& (2147483647 : Int32))), .unset, .unset, .unset, .unset, .unset, .unset] [(.int p1)])) rfl (hb hby at_6) _ ?_
    show Steps p.tables e below (s₁.setTop (mkF m 8 #[.val (.int p0), .val (.int p1), .val (.int (p0 &&& (2147483647 : Int32))), .unset, .unset, .unset, .unset, .unset, .unset] [(.int (2147483647 : Int32)), (.int p1)])) t
    refine XS.iand X0.here hx rfl (hb hby at_8) rfl ?_
    show Steps p.tables e below (s₁.setTop (mkF m 9 #[.val (.int p0), .val (.int p1), .val (.int (p0 &&& (2147483647 : Int32))), .unset, .unset, .unset, .unset, .unset, .unset] [(.int (p1 &&& (2147483647 : Int32)))])) t
    refine XS.sipush X0.here hx rfl (hb hby at_9) ?_
    show Steps p.tables e below (s₁.setTop (mkF m 12 #[.val (.int p0), .val (.int p1), .val (.int (p0 &&& (2147483647 : Int32))), .unset, .unset, .unset, .unset, .unset, .unset] [(.int (200 : Int32)), (.int (p1 &&& (2147483647 : Int32)))])) t
    refine XS.irem X0.here hx rfl (hb hby at_12) rfl (by decide) ?_
    show Steps p.tables e below (s₁.setTop (mkF m 13 #[.val (.int p0), .val (.int p1), .val (.int (p0 &&& (2147483647 : Int32))), .unset, .unset, .unset, .unset, .unset, .unset] [(.int (own_irem (p1 &&& (2147483647 : Int32)) (200 : Int32)))])) t
    refine XS.iconst X0.here hx rfl (hb hby at_13) ?_
    show Steps p.tables e below (s₁.setTop (mkF m 14 #[.val (.int p0), .val (.int p1), .val (.int (p0 &&& (2147483647 : Int32))), .unset, .unset, .unset, .unset, .unset, .unset] [(.int (1 : Int32)), (.int (own_irem (p1 &&& (2147483647 : Int32)) (200 : Int32)))])) t
    refine XS.iadd X0.here hx rfl (hb hby at_14) rfl ?_
    show Steps p.tables e below (s₁.setTop (mkF m 15 #[.val (.int p0), .val (.int p1), .val (.int (p0 &&& (2147483647 : Int32))), .unset, .unset, .unset, .unset, .unset, .unset] [(.int ((own_irem (p1 &&& (2147483647 : Int32)) (200 : Int32)) + (1 : Int32)))])) t
    refine XS.istoreN X0.here hx rfl (hb hby at_15) rfl (l' := #[.val (.int p0), .val (.int p1), .val (.int (p0 &&& (2147483647 : Int32))), .val (.int ((own_irem (p1 &&& (2147483647 : Int32)) (200 : Int32)) + (1 : Int32))), .unset, .unset, .unset, .unset, .unset]) rfl ?_
    exact k
  obtain ⟨T0_1, h0_1, X0_1, e0_1, E0_1, A0_1, D0_1, -, st0_1⟩ := newO X0 hx hZ hown (hw _ (List.mem_of_getElem? (i := 1) rfl)) (hw _ (List.mem_of_getElem? (i := 2) rfl)) (hw _ (List.mem_of_getElem? (i := 3) rfl)) e0 (g := (mkF m 16 #[.val (.int p0), .val (.int p1), .val (.int (p0 &&& (2147483647 : Int32))), .val (.int ((own_irem (p1 &&& (2147483647 : Int32)) (200 : Int32)) + (1 : Int32))), .unset, .unset, .unset, .unset, .unset] [])) rfl (hb hby at_16) (by decide) (by decide)
  obtain ⟨b0_1, g0_1⟩ : ∃ z, z = h0.size := ⟨_, rfl⟩
  rw [← g0_1] at A0_1 D0_1 st0_1
  have g_b0_1 : n0 ≤ b0_1 := Nat.le_trans Z0 (Nat.le_of_eq g0_1.symm)
  have F_page_b0_1 : Fld Z h0_1 b0_1 "com/example/kido2/kido2/identity/PageRequest" "page" "I" (.int (0 : Int32)) := D0_1 (Or.inr (hw _ (List.mem_of_getElem? (i := 16) rfl))) (ty := .int) (by decide)
  have F_size_b0_1 : Fld Z h0_1 b0_1 "com/example/kido2/kido2/identity/PageRequest" "size" "I" (.int (0 : Int32)) := D0_1 (Or.inr (hw _ (List.mem_of_getElem? (i := 18) rfl))) (ty := .int) (by decide)
  refine own_fw st0_1 ?_
  refine own_fw (A := T0_1.setTop (mkF m 22 #[.val (.int p0), .val (.int p1), .val (.int (p0 &&& (2147483647 : Int32))), .val (.int ((own_irem (p1 &&& (2147483647 : Int32)) (200 : Int32)) + (1 : Int32))), .unset, .unset, .unset, .unset, .unset] [(.int ((own_irem (p1 &&& (2147483647 : Int32)) (200 : Int32)) + (1 : Int32))), (.int (p0 &&& (2147483647 : Int32))), (.ref b0_1), (.ref b0_1)])) (fun t k => ?_) ?_
  · show Steps p.tables e below (T0_1.setTop (mkF m 19 #[.val (.int p0), .val (.int p1), .val (.int (p0 &&& (2147483647 : Int32))), .val (.int ((own_irem (p1 &&& (2147483647 : Int32)) (200 : Int32)) + (1 : Int32))), .unset, .unset, .unset, .unset, .unset] [(.ref b0_1)])) t
    refine XS.dup X0_1.here hx rfl (hb hby at_19) rfl rfl ?_
    show Steps p.tables e below (T0_1.setTop (mkF m 20 #[.val (.int p0), .val (.int p1), .val (.int (p0 &&& (2147483647 : Int32))), .val (.int ((own_irem (p1 &&& (2147483647 : Int32)) (200 : Int32)) + (1 : Int32))), .unset, .unset, .unset, .unset, .unset] [(.ref b0_1), (.ref b0_1)])) t
    refine XS.iloadN X0_1.here hx rfl (hb hby at_20) rfl ?_
    show Steps p.tables e below (T0_1.setTop (mkF m 21 #[.val (.int p0), .val (.int p1), .val (.int (p0 &&& (2147483647 : Int32))), .val (.int ((own_irem (p1 &&& (2147483647 : Int32)) (200 : Int32)) + (1 : Int32))), .unset, .unset, .unset, .unset, .unset] [(.int (p0 &&& (2147483647 : Int32))), (.ref b0_1), (.ref b0_1)])) t
    refine XS.iloadN X0_1.here hx rfl (hb hby at_21) rfl ?_
    exact k
  obtain ⟨_, _, ⟨T0_2, L0_2, k0_2, n0_2⟩, -, X0_2, ⟨Lc0_2, hQ0_2, l0_2, y0_2, z0_2⟩, st0_2⟩ := X0_1.specialBack hx (y := (⟨"com/example/kido2/kido2/identity/PageRequest", "<init>", "(II)V"⟩ : MethodName)) rfl hown (mvT hZ (hw _ (List.mem_of_getElem? (i := 4) rfl))) (mvT hZ (hw _ (List.mem_of_getElem? (i := 5) rfl))) (mvT hZ (hw _ (List.mem_of_getElem? (i := 6) rfl))) (by decide) (backOf (W := 1) (rm1 l Z a0 hw [] b0_1 ((p0 &&& (2147483647 : Int32))) (((own_irem (p1 &&& (2147483647 : Int32)) (200 : Int32)) + (1 : Int32))) h0_1 n0 (Nat.le_trans Z0 E0_1.1) A0_1 F_page_b0_1 F_size_b0_1 g_b0_1 (own_c5 p0) (own_c20 p1) (own_c27 p1)) hZ (hw _ (List.mem_of_getElem? (i := 6) rfl)) (hw _ (List.mem_of_getElem? (i := 3) rfl)) (by decide) (by decide)) (g := (mkF m 22 #[.val (.int p0), .val (.int p1), .val (.int (p0 &&& (2147483647 : Int32))), .val (.int ((own_irem (p1 &&& (2147483647 : Int32)) (200 : Int32)) + (1 : Int32))), .unset, .unset, .unset, .unset, .unset] [(.int ((own_irem (p1 &&& (2147483647 : Int32)) (200 : Int32)) + (1 : Int32))), (.int (p0 &&& (2147483647 : Int32))), (.ref b0_1), (.ref b0_1)])) rfl (by rw [hml]; rfl) (Steps.refl _) (a := b0_1) (argsL := [(.int (p0 &&& (2147483647 : Int32))), (.int ((own_irem (p1 &&& (2147483647 : Int32)) (200 : Int32)) + (1 : Int32)))]) (rest := [(.ref b0_1)]) (lenOf pd0_0 rfl) rfl (by show 2 * 0 + _ ≤ _; exact Nat.le_of_eq rfl) (hb hby at_22) (fun _ _ => ⟨rfl, e0_1, (by decide : 1 + 0 ≤ _), (by decide : 2 + 0 ≤ _)⟩)
  dsimp only [Pt.U, Pt.locs, Pt.cells, Pt.slots] at X0_2 l0_2 y0_2 z0_2 st0_2 hQ0_2
  subst l0_2 y0_2 z0_2
  obtain ⟨rfl, N0_2q, K0_2, Ex0_2, Fp0_2, Fs0_2⟩ := hQ0_2
  have N0_2 := Fr.app N0 N0_2q
  refine own_fw (fun t k => st0_2.trans k) ?_
  refine own_fw (A := T0_2.setTop (mkF m 29 #[.val (.int p0), .val (.int p1), .val (.int (p0 &&& (2147483647 : Int32))), .val (.int ((own_irem (p1 &&& (2147483647 : Int32)) (200 : Int32)) + (1 : Int32))), .val (.ref b0_1), .unset, .unset, .unset, .unset] [(.ref b0_1)])) (fun t k => ?_) ?_
  · show Steps p.tables e below (T0_2.setTop (mkF m 25 #[.val (.int p0), .val (.int p1), .val (.int (p0 &&& (2147483647 : Int32))), .val (.int ((own_irem (p1 &&& (2147483647 : Int32)) (200 : Int32)) + (1 : Int32))), .unset, .unset, .unset, .unset, .unset] [(.ref b0_1)])) t
    refine XS.astore X0_2.here hx rfl (hb hby at_25) rfl rfl (l' := #[.val (.int p0), .val (.int p1), .val (.int (p0 &&& (2147483647 : Int32))), .val (.int ((own_irem (p1 &&& (2147483647 : Int32)) (200 : Int32)) + (1 : Int32))), .val (.ref b0_1), .unset, .unset, .unset, .unset]) rfl ?_
    show Steps p.tables e below (T0_2.setTop (mkF m 27 #[.val (.int p0), .val (.int p1), .val (.int (p0 &&& (2147483647 : Int32))), .val (.int ((own_irem (p1 &&& (2147483647 : Int32)) (200 : Int32)) + (1 : Int32))), .val (.ref b0_1), .unset, .unset, .unset, .unset] [])) t
    refine XS.aload X0_2.here hx rfl (hb hby at_27) rfl rfl ?_
    exact k
  obtain ⟨cq0_3, kq0_3, q0_3a, q0_3b, q0_3c⟩ := isOf hZ rfl Ex0_2
  obtain ⟨_, _, ⟨T0_3, L0_3, k0_3, n0_3⟩, -, X0_3, ⟨Lc0_3, hQ0_3, l0_3, y0_3, z0_3⟩, st0_3⟩ := X0_2.virtualBack hx (y := (⟨"com/example/kido2/kido2/identity/PageRequest", "offset", "()J"⟩ : MethodName)) (z := (⟨"com/example/kido2/kido2/identity/PageRequest", "offset", "()J"⟩ : MethodName)) hown (mvT hZ (hw _ (List.mem_of_getElem? (i := 19) rfl))) (mvT hZ (hw _ (List.mem_of_getElem? (i := 20) rfl))) (notFace_of_selects (args := #[]) (mvT hZ (hw _ (List.mem_of_getElem? (i := 22) rfl)))) (mvT hZ (hw _ (List.mem_of_getElem? (i := 22) rfl))) (mvT hZ (hw _ (List.mem_of_getElem? (i := 21) rfl))) (by decide) (backOf (W := 0) (rm4 l Z a0 hw [] b0_1 (p0 &&& (2147483647 : Int32)) ((own_irem (p1 &&& (2147483647 : Int32)) (200 : Int32)) + (1 : Int32)) T0_2.heap n0 (Nat.le_trans (Nat.le_trans Z0 E0_1.1) K0_2.1) Fp0_2 Fs0_2) hZ (hw _ (List.mem_of_getElem? (i := 23) rfl)) (hw _ (List.mem_of_getElem? (i := 3) rfl)) (by decide) (by decide)) q0_3a q0_3c (g := (mkF m 29 #[.val (.int p0), .val (.int p1), .val (.int (p0 &&& (2147483647 : Int32))), .val (.int ((own_irem (p1 &&& (2147483647 : Int32)) (200 : Int32)) + (1 : Int32))), .val (.ref b0_1), .unset, .unset, .unset, .unset] [(.ref b0_1)])) rfl (by rw [hml]; rfl) (Steps.refl _) (argsL := []) (rest := []) (lenOf pd0_1 rfl) rfl (by show 2 * 0 + _ ≤ _; exact Nat.le_of_eq rfl) (hb hby at_29) (fun _ _ => ⟨rfl, rfl, (by decide : 1 + 0 ≤ _), (by decide : 2 + 0 ≤ _)⟩)
  dsimp only [Pt.U, Pt.locs, Pt.cells, Pt.slots] at X0_3 l0_3 y0_3 z0_3 st0_3 hQ0_3
  subst l0_3 y0_3 z0_3
  obtain ⟨rfl, N0_3q, e0_3⟩ := hQ0_3
  have N0_3 := Fr.app N0_2 N0_3q
  refine own_fw (fun t k => st0_3.trans k) ?_
  refine own_fw (A := T0_3.setTop (mkF m 75 #[.val (.int p0), .val (.int p1), .val (.int (p0 &&& (2147483647 : Int32))), .val (.int ((own_irem (p1 &&& (2147483647 : Int32)) (200 : Int32)) + (1 : Int32))), .val (.ref b0_1), .val (.long (((p0 &&& (2147483647 : Int32))).toInt64 * (((own_irem (p1 &&& (2147483647 : Int32)) (200 : Int32)) + (1 : Int32))).toInt64)), .second, .val (.long (((own_irem (p1 &&& (2147483647 : Int32)) (200 : Int32)) + (1 : Int32)).toInt64)), .second] [(.int (1 : Int32))])) (fun t k => ?_) ?_
  · show Steps p.tables e below (T0_3.setTop (mkF m 32 #[.val (.int p0), .val (.int p1), .val (.int (p0 &&& (2147483647 : Int32))), .val (.int ((own_irem (p1 &&& (2147483647 : Int32)) (200 : Int32)) + (1 : Int32))), .val (.ref b0_1), .unset, .unset, .unset, .unset] [(.long (((p0 &&& (2147483647 : Int32))).toInt64 * (((own_irem (p1 &&& (2147483647 : Int32)) (200 : Int32)) + (1 : Int32))).toInt64))])) t
    refine XS.lstore X0_3.here hx rfl (hb hby at_32) rfl (l' := #[.val (.int p0), .val (.int p1), .val (.int (p0 &&& (2147483647 : Int32))), .val (.int ((own_irem (p1 &&& (2147483647 : Int32)) (200 : Int32)) + (1 : Int32))), .val (.ref b0_1), .val (.long (((p0 &&& (2147483647 : Int32))).toInt64 * (((own_irem (p1 &&& (2147483647 : Int32)) (200 : Int32)) + (1 : Int32))).toInt64)), .second, .unset, .unset]) rfl ?_
    show Steps p.tables e below (T0_3.setTop (mkF m 34 #[.val (.int p0), .val (.int p1), .val (.int (p0 &&& (2147483647 : Int32))), .val (.int ((own_irem (p1 &&& (2147483647 : Int32)) (200 : Int32)) + (1 : Int32))), .val (.ref b0_1), .val (.long (((p0 &&& (2147483647 : Int32))).toInt64 * (((own_irem (p1 &&& (2147483647 : Int32)) (200 : Int32)) + (1 : Int32))).toInt64)), .second, .unset, .unset] [])) t
    refine XS.iloadN X0_3.here hx rfl (hb hby at_34) rfl ?_
    show Steps p.tables e below (T0_3.setTop (mkF m 35 #[.val (.int p0), .val (.int p1), .val (.int (p0 &&& (2147483647 : Int32))), .val (.int ((own_irem (p1 &&& (2147483647 : Int32)) (200 : Int32)) + (1 : Int32))), .val (.ref b0_1), .val (.long (((p0 &&& (2147483647 : Int32))).toInt64 * (((own_irem (p1 &&& (2147483647 : Int32)) (200 : Int32)) + (1 : Int32))).toInt64)), .second, .unset, .unset] [(.int ((own_irem (p1 &&& (2147483647 : Int32)) (200 : Int32)) + (1 : Int32)))])) t
    refine XS.i2l X0_3.here hx rfl (hb hby at_35) rfl ?_
    show Steps p.tables e below (T0_3.setTop (mkF m 36 #[.val (.int p0), .val (.int p1), .val (.int (p0 &&& (2147483647 : Int32))), .val (.int ((own_irem (p1 &&& (2147483647 : Int32)) (200 : Int32)) + (1 : Int32))), .val (.ref b0_1), .val (.long (((p0 &&& (2147483647 : Int32))).toInt64 * (((own_irem (p1 &&& (2147483647 : Int32)) (200 : Int32)) + (1 : Int32))).toInt64)), .second, .unset, .unset] [(.long (((own_irem (p1 &&& (2147483647 : Int32)) (200 : Int32)) + (1 : Int32)).toInt64))])) t
    refine XS.lstore X0_3.here hx rfl (hb hby at_36) rfl (l' := #[.val (.int p0), .val (.int p1), .val (.int (p0 &&& (2147483647 : Int32))), .val (.int ((own_irem (p1 &&& (2147483647 : Int32)) (200 : Int32)) + (1 : Int32))), .val (.ref b0_1), .val (.long (((p0 &&& (2147483647 : Int32))).toInt64 * (((own_irem (p1 &&& (2147483647 : Int32)) (200 : Int32)) + (1 : Int32))).toInt64)), .second, .val (.long (((own_irem (p1 &&& (2147483647 : Int32)) (200 : Int32)) + (1 : Int32)).toInt64)), .second]) rfl ?_
    show Steps p.tables e below (T0_3.setTop (mkF m 38 #[.val (.int p0), .val (.int p1), .val (.int (p0 &&& (2147483647 : Int32))), .val (.int ((own_irem (p1 &&& (2147483647 : Int32)) (200 : Int32)) + (1 : Int32))), .val (.ref b0_1), .val (.long (((p0 &&& (2147483647 : Int32))).toInt64 * (((own_irem (p1 &&& (2147483647 : Int32)) (200 : Int32)) + (1 : Int32))).toInt64)), .second, .val (.long (((own_irem (p1 &&& (2147483647 : Int32)) (200 : Int32)) + (1 : Int32)).toInt64)), .second] [])) t
    refine XS.lload X0_3.here hx rfl (hb hby at_38) rfl ?_
    show Steps p.tables e below (T0_3.setTop (mkF m 40 #[.val (.int p0), .val (.int p1), .val (.int (p0 &&& (2147483647 : Int32))), .val (.int ((own_irem (p1 &&& (2147483647 : Int32)) (200 : Int32)) + (1 : Int32))), .val (.ref b0_1), .val (.long (((p0 &&& (2147483647 : Int32))).toInt64 * (((own_irem (p1 &&& (2147483647 : Int32)) (200 : Int32)) + (1 : Int32))).toInt64)), .second, .val (.long (((own_irem (p1 &&& (2147483647 : Int32)) (200 : Int32)) + (1 : Int32)).toInt64)), .second] [(.long (((p0 &&& (2147483647 : Int32))).toInt64 * (((own_irem (p1 &&& (2147483647 : Int32)) (200 : Int32)) + (1 : Int32))).toInt64))])) t
    refine XS.lconst X0_3.here hx rfl (hb hby at_40) ?_
    show Steps p.tables e below (T0_3.setTop (mkF m 41 #[.val (.int p0), .val (.int p1), .val (.int (p0 &&& (2147483647 : Int32))), .val (.int ((own_irem (p1 &&& (2147483647 : Int32)) (200 : Int32)) + (1 : Int32))), .val (.ref b0_1), .val (.long (((p0 &&& (2147483647 : Int32))).toInt64 * (((own_irem (p1 &&& (2147483647 : Int32)) (200 : Int32)) + (1 : Int32))).toInt64)), .second, .val (.long (((own_irem (p1 &&& (2147483647 : Int32)) (200 : Int32)) + (1 : Int32)).toInt64)), .second] [(.long (0 : Int64)), (.long (((p0 &&& (2147483647 : Int32))).toInt64 * (((own_irem (p1 &&& (2147483647 : Int32)) (200 : Int32)) + (1 : Int32))).toInt64))])) t
    refine XS.lcmp X0_3.here hx rfl (hb hby at_41) rfl ?_
    show Steps p.tables e below (T0_3.setTop (mkF m 42 #[.val (.int p0), .val (.int p1), .val (.int (p0 &&& (2147483647 : Int32))), .val (.int ((own_irem (p1 &&& (2147483647 : Int32)) (200 : Int32)) + (1 : Int32))), .val (.ref b0_1), .val (.long (((p0 &&& (2147483647 : Int32))).toInt64 * (((own_irem (p1 &&& (2147483647 : Int32)) (200 : Int32)) + (1 : Int32))).toInt64)), .second, .val (.long (((own_irem (p1 &&& (2147483647 : Int32)) (200 : Int32)) + (1 : Int32)).toInt64)), .second] [(.int (lcmpW (((p0 &&& (2147483647 : Int32))).toInt64 * (((own_irem (p1 &&& (2147483647 : Int32)) (200 : Int32)) + (1 : Int32))).toInt64) (0 : Int64)))])) t
    refine XS.ifYes X0_3.here hx rfl (pc0 := 42) (pc' := 47) rfl (hb hby at_42) rfl ((if0 _ _).trans (flt (own_b42 (p0 &&& (2147483647 : Int32)) ((own_irem (p1 &&& (2147483647 : Int32)) (200 : Int32)) + (1 : Int32)) (own_pg p0) (own_sz p1))).2.1) (by decide) (by decide) ?_
    show Steps p.tables e below (T0_3.setTop (mkF m 47 #[.val (.int p0), .val (.int p1), .val (.int (p0 &&& (2147483647 : Int32))), .val (.int ((own_irem (p1 &&& (2147483647 : Int32)) (200 : Int32)) + (1 : Int32))), .val (.ref b0_1), .val (.long (((p0 &&& (2147483647 : Int32))).toInt64 * (((own_irem (p1 &&& (2147483647 : Int32)) (200 : Int32)) + (1 : Int32))).toInt64)), .second, .val (.long (((own_irem (p1 &&& (2147483647 : Int32)) (200 : Int32)) + (1 : Int32)).toInt64)), .second] [])) t
    refine XS.lload X0_3.here hx rfl (hb hby at_47) rfl ?_
    show Steps p.tables e below (T0_3.setTop (mkF m 49 #[.val (.int p0), .val (.int p1), .val (.int (p0 &&& (2147483647 : Int32))), .val (.int ((own_irem (p1 &&& (2147483647 : Int32)) (200 : Int32)) + (1 : Int32))), .val (.ref b0_1), .val (.long (((p0 &&& (2147483647 : Int32))).toInt64 * (((own_irem (p1 &&& (2147483647 : Int32)) (200 : Int32)) + (1 : Int32))).toInt64)), .second, .val (.long (((own_irem (p1 &&& (2147483647 : Int32)) (200 : Int32)) + (1 : Int32)).toInt64)), .second] [(.long (((p0 &&& (2147483647 : Int32))).toInt64 * (((own_irem (p1 &&& (2147483647 : Int32)) (200 : Int32)) + (1 : Int32))).toInt64))])) t
    refine XS.lload X0_3.here hx rfl (hb hby at_49) rfl ?_
    show Steps p.tables e below (T0_3.setTop (mkF m 51 #[.val (.int p0), .val (.int p1), .val (.int (p0 &&& (2147483647 : Int32))), .val (.int ((own_irem (p1 &&& (2147483647 : Int32)) (200 : Int32)) + (1 : Int32))), .val (.ref b0_1), .val (.long (((p0 &&& (2147483647 : Int32))).toInt64 * (((own_irem (p1 &&& (2147483647 : Int32)) (200 : Int32)) + (1 : Int32))).toInt64)), .second, .val (.long (((own_irem (p1 &&& (2147483647 : Int32)) (200 : Int32)) + (1 : Int32)).toInt64)), .second] [(.long (((own_irem (p1 &&& (2147483647 : Int32)) (200 : Int32)) + (1 : Int32)).toInt64)), (.long (((p0 &&& (2147483647 : Int32))).toInt64 * (((own_irem (p1 &&& (2147483647 : Int32)) (200 : Int32)) + (1 : Int32))).toInt64))])) t
    refine XS.lrem X0_3.here hx rfl (hb hby at_51) rfl (own_nz ((own_irem (p1 &&& (2147483647 : Int32)) (200 : Int32)) + (1 : Int32)) (own_sz p1).1) ?_
    show Steps p.tables e below (T0_3.setTop (mkF m 52 #[.val (.int p0), .val (.int p1), .val (.int (p0 &&& (2147483647 : Int32))), .val (.int ((own_irem (p1 &&& (2147483647 : Int32)) (200 : Int32)) + (1 : Int32))), .val (.ref b0_1), .val (.long (((p0 &&& (2147483647 : Int32))).toInt64 * (((own_irem (p1 &&& (2147483647 : Int32)) (200 : Int32)) + (1 : Int32))).toInt64)), .second, .val (.long (((own_irem (p1 &&& (2147483647 : Int32)) (200 : Int32)) + (1 : Int32)).toInt64)), .second] [(.long (own_lrem (((p0 &&& (2147483647 : Int32))).toInt64 * (((own_irem (p1 &&& (2147483647 : Int32)) (200 : Int32)) + (1 : Int32))).toInt64) (((own_irem (p1 &&& (2147483647 : Int32)) (200 : Int32)) + (1 : Int32)).toInt64)))])) t
    refine XS.lconst X0_3.here hx rfl (hb hby at_52) ?_
    show Steps p.tables e below (T0_3.setTop (mkF m 53 #[.val (.int p0), .val (.int p1), .val (.int (p0 &&& (2147483647 : Int32))), .val (.int ((own_irem (p1 &&& (2147483647 : Int32)) (200 : Int32)) + (1 : Int32))), .val (.ref b0_1), .val (.long (((p0 &&& (2147483647 : Int32))).toInt64 * (((own_irem (p1 &&& (2147483647 : Int32)) (200 : Int32)) + (1 : Int32))).toInt64)), .second, .val (.long (((own_irem (p1 &&& (2147483647 : Int32)) (200 : Int32)) + (1 : Int32)).toInt64)), .second] [(.long (0 : Int64)), (.long (own_lrem (((p0 &&& (2147483647 : Int32))).toInt64 * (((own_irem (p1 &&& (2147483647 : Int32)) (200 : Int32)) + (1 : Int32))).toInt64) (((own_irem (p1 &&& (2147483647 : Int32)) (200 : Int32)) + (1 : Int32)).toInt64)))])) t
    refine XS.lcmp X0_3.here hx rfl (hb hby at_53) rfl ?_
    show Steps p.tables e below (T0_3.setTop (mkF m 54 #[.val (.int p0), .val (.int p1), .val (.int (p0 &&& (2147483647 : Int32))), .val (.int ((own_irem (p1 &&& (2147483647 : Int32)) (200 : Int32)) + (1 : Int32))), .val (.ref b0_1), .val (.long (((p0 &&& (2147483647 : Int32))).toInt64 * (((own_irem (p1 &&& (2147483647 : Int32)) (200 : Int32)) + (1 : Int32))).toInt64)), .second, .val (.long (((own_irem (p1 &&& (2147483647 : Int32)) (200 : Int32)) + (1 : Int32)).toInt64)), .second] [(.int (lcmpW (own_lrem (((p0 &&& (2147483647 : Int32))).toInt64 * (((own_irem (p1 &&& (2147483647 : Int32)) (200 : Int32)) + (1 : Int32))).toInt64) (((own_irem (p1 &&& (2147483647 : Int32)) (200 : Int32)) + (1 : Int32)).toInt64)) (0 : Int64)))])) t
    refine XS.ifYes X0_3.here hx rfl (pc0 := 54) (pc' := 59) rfl (hb hby at_54) rfl ((if0 _ _).trans (teq (own_b54 (p0 &&& (2147483647 : Int32)) ((own_irem (p1 &&& (2147483647 : Int32)) (200 : Int32)) + (1 : Int32)) (own_pg p0) (own_sz p1))).1) (by decide) (by decide) ?_
    show Steps p.tables e below (T0_3.setTop (mkF m 59 #[.val (.int p0), .val (.int p1), .val (.int (p0 &&& (2147483647 : Int32))), .val (.int ((own_irem (p1 &&& (2147483647 : Int32)) (200 : Int32)) + (1 : Int32))), .val (.ref b0_1), .val (.long (((p0 &&& (2147483647 : Int32))).toInt64 * (((own_irem (p1 &&& (2147483647 : Int32)) (200 : Int32)) + (1 : Int32))).toInt64)), .second, .val (.long (((own_irem (p1 &&& (2147483647 : Int32)) (200 : Int32)) + (1 : Int32)).toInt64)), .second] [])) t
    refine XS.lload X0_3.here hx rfl (hb hby at_59) rfl ?_
    show Steps p.tables e below (T0_3.setTop (mkF m 61 #[.val (.int p0), .val (.int p1), .val (.int (p0 &&& (2147483647 : Int32))), .val (.int ((own_irem (p1 &&& (2147483647 : Int32)) (200 : Int32)) + (1 : Int32))), .val (.ref b0_1), .val (.long (((p0 &&& (2147483647 : Int32))).toInt64 * (((own_irem (p1 &&& (2147483647 : Int32)) (200 : Int32)) + (1 : Int32))).toInt64)), .second, .val (.long (((own_irem (p1 &&& (2147483647 : Int32)) (200 : Int32)) + (1 : Int32)).toInt64)), .second] [(.long (((p0 &&& (2147483647 : Int32))).toInt64 * (((own_irem (p1 &&& (2147483647 : Int32)) (200 : Int32)) + (1 : Int32))).toInt64))])) t
    refine XS.lload X0_3.here hx rfl (hb hby at_61) rfl ?_
    show Steps p.tables e below (T0_3.setTop (mkF m 63 #[.val (.int p0), .val (.int p1), .val (.int (p0 &&& (2147483647 : Int32))), .val (.int ((own_irem (p1 &&& (2147483647 : Int32)) (200 : Int32)) + (1 : Int32))), .val (.ref b0_1), .val (.long (((p0 &&& (2147483647 : Int32))).toInt64 * (((own_irem (p1 &&& (2147483647 : Int32)) (200 : Int32)) + (1 : Int32))).toInt64)), .second, .val (.long (((own_irem (p1 &&& (2147483647 : Int32)) (200 : Int32)) + (1 : Int32)).toInt64)), .second] [(.long (((own_irem (p1 &&& (2147483647 : Int32)) (200 : Int32)) + (1 : Int32)).toInt64)), (.long (((p0 &&& (2147483647 : Int32))).toInt64 * (((own_irem (p1 &&& (2147483647 : Int32)) (200 : Int32)) + (1 : Int32))).toInt64))])) t
    refine XS.ldiv X0_3.here hx rfl (hb hby at_63) rfl (own_nz ((own_irem (p1 &&& (2147483647 : Int32)) (200 : Int32)) + (1 : Int32)) (own_sz p1).1) ?_
    show Steps p.tables e below (T0_3.setTop (mkF m 64 #[.val (.int p0), .val (.int p1), .val (.int (p0 &&& (2147483647 : Int32))), .val (.int ((own_irem (p1 &&& (2147483647 : Int32)) (200 : Int32)) + (1 : Int32))), .val (.ref b0_1), .val (.long (((p0 &&& (2147483647 : Int32))).toInt64 * (((own_irem (p1 &&& (2147483647 : Int32)) (200 : Int32)) + (1 : Int32))).toInt64)), .second, .val (.long (((own_irem (p1 &&& (2147483647 : Int32)) (200 : Int32)) + (1 : Int32)).toInt64)), .second] [(.long ((((p0 &&& (2147483647 : Int32))).toInt64 * (((own_irem (p1 &&& (2147483647 : Int32)) (200 : Int32)) + (1 : Int32))).toInt64) / (((own_irem (p1 &&& (2147483647 : Int32)) (200 : Int32)) + (1 : Int32)).toInt64)))])) t
    refine XS.iloadN X0_3.here hx rfl (hb hby at_64) rfl ?_
    show Steps p.tables e below (T0_3.setTop (mkF m 65 #[.val (.int p0), .val (.int p1), .val (.int (p0 &&& (2147483647 : Int32))), .val (.int ((own_irem (p1 &&& (2147483647 : Int32)) (200 : Int32)) + (1 : Int32))), .val (.ref b0_1), .val (.long (((p0 &&& (2147483647 : Int32))).toInt64 * (((own_irem (p1 &&& (2147483647 : Int32)) (200 : Int32)) + (1 : Int32))).toInt64)), .second, .val (.long (((own_irem (p1 &&& (2147483647 : Int32)) (200 : Int32)) + (1 : Int32)).toInt64)), .second] [(.int (p0 &&& (2147483647 : Int32))), (.long ((((p0 &&& (2147483647 : Int32))).toInt64 * (((own_irem (p1 &&& (2147483647 : Int32)) (200 : Int32)) + (1 : Int32))).toInt64) / (((own_irem (p1 &&& (2147483647 : Int32)) (200 : Int32)) + (1 : Int32)).toInt64)))])) t
    refine XS.i2l X0_3.here hx rfl (hb hby at_65) rfl ?_
    show Steps p.tables e below (T0_3.setTop (mkF m 66 #[.val (.int p0), .val (.int p1), .val (.int (p0 &&& (2147483647 : Int32))), .val (.int ((own_irem (p1 &&& (2147483647 : Int32)) (200 : Int32)) + (1 : Int32))), .val (.ref b0_1), .val (.long (((p0 &&& (2147483647 : Int32))).toInt64 * (((own_irem (p1 &&& (2147483647 : Int32)) (200 : Int32)) + (1 : Int32))).toInt64)), .second, .val (.long (((own_irem (p1 &&& (2147483647 : Int32)) (200 : Int32)) + (1 : Int32)).toInt64)), .second] [(.long ((p0 &&& (2147483647 : Int32)).toInt64)), (.long ((((p0 &&& (2147483647 : Int32))).toInt64 * (((own_irem (p1 &&& (2147483647 : Int32)) (200 : Int32)) + (1 : Int32))).toInt64) / (((own_irem (p1 &&& (2147483647 : Int32)) (200 : Int32)) + (1 : Int32)).toInt64)))])) t
    refine XS.lcmp X0_3.here hx rfl (hb hby at_66) rfl ?_
    show Steps p.tables e below (T0_3.setTop (mkF m 67 #[.val (.int p0), .val (.int p1), .val (.int (p0 &&& (2147483647 : Int32))), .val (.int ((own_irem (p1 &&& (2147483647 : Int32)) (200 : Int32)) + (1 : Int32))), .val (.ref b0_1), .val (.long (((p0 &&& (2147483647 : Int32))).toInt64 * (((own_irem (p1 &&& (2147483647 : Int32)) (200 : Int32)) + (1 : Int32))).toInt64)), .second, .val (.long (((own_irem (p1 &&& (2147483647 : Int32)) (200 : Int32)) + (1 : Int32)).toInt64)), .second] [(.int (lcmpW ((((p0 &&& (2147483647 : Int32))).toInt64 * (((own_irem (p1 &&& (2147483647 : Int32)) (200 : Int32)) + (1 : Int32))).toInt64) / (((own_irem (p1 &&& (2147483647 : Int32)) (200 : Int32)) + (1 : Int32)).toInt64)) ((p0 &&& (2147483647 : Int32)).toInt64)))])) t
    refine XS.ifNo X0_3.here hx rfl (hb hby at_67) rfl ((if0 _ _).trans (teq (own_b67 (p0 &&& (2147483647 : Int32)) ((own_irem (p1 &&& (2147483647 : Int32)) (200 : Int32)) + (1 : Int32)) (own_pg p0) (own_sz p1))).2) ?_
    show Steps p.tables e below (T0_3.setTop (mkF m 70 #[.val (.int p0), .val (.int p1), .val (.int (p0 &&& (2147483647 : Int32))), .val (.int ((own_irem (p1 &&& (2147483647 : Int32)) (200 : Int32)) + (1 : Int32))), .val (.ref b0_1), .val (.long (((p0 &&& (2147483647 : Int32))).toInt64 * (((own_irem (p1 &&& (2147483647 : Int32)) (200 : Int32)) + (1 : Int32))).toInt64)), .second, .val (.long (((own_irem (p1 &&& (2147483647 : Int32)) (200 : Int32)) + (1 : Int32)).toInt64)), .second] [])) t
    refine XS.iconst X0_3.here hx rfl (hb hby at_70) ?_
    show Steps p.tables e below (T0_3.setTop (mkF m 71 #[.val (.int p0), .val (.int p1), .val (.int (p0 &&& (2147483647 : Int32))), .val (.int ((own_irem (p1 &&& (2147483647 : Int32)) (200 : Int32)) + (1 : Int32))), .val (.ref b0_1), .val (.long (((p0 &&& (2147483647 : Int32))).toInt64 * (((own_irem (p1 &&& (2147483647 : Int32)) (200 : Int32)) + (1 : Int32))).toInt64)), .second, .val (.long (((own_irem (p1 &&& (2147483647 : Int32)) (200 : Int32)) + (1 : Int32)).toInt64)), .second] [(.int (1 : Int32))])) t
    refine XS.goto X0_3.here hx rfl (pc0 := 71) (pc' := 75) rfl (hb hby at_71) (by decide) (by decide) ?_
    exact k
  obtain ⟨fs, hr, hrun, hended, hW, hsame⟩ := X0_3.leave (v := some (.int (nar .boolean (1 : Int32)))) (fun h => by rw [Bd.returns] at h; cases h)
  refine ⟨_, _, retN X0_3 hx (t := .boolean) Bd.returns (by simp) (hb hby at_75) hr, hrun, hended, _, _, rfl, ?_, ⟨_, rfl⟩, hW, hsame.mono (by decide) (by decide)⟩
  have eh : (T0_3.setFrames fs).heap = T0_2.heap := e0_3
  rw [eh]
  exact ⟨rfl, N0_3⟩
set_option maxRecDepth 65536 in
set_option maxHeartbeats 40000000 in
theorem comes_1 {Post : Tables → Env → Array Value → State → Outcome → State → Prop} (hpost : ∀ tb e args s v u, (limb_1_1.after args s (.returned v) u = true ∧ limb_1_2.after args s (.returned v) u = true ∧ True) → FrameEnd s (.returned v) u (Jvm.fieldLocs frame_1_writes args s ++ Jvm.arrayLocs frame_1_arrays args s ++ Jvm.staticLocs frame_1_statics s) 16 128 → Post tb e args s (.returned v) u) :
    ArmFor flags0 classFile x code maxLocals ret World_1 tables_1 room_1 Calls_1 rest_1 Pre_1 Post := by
  intro l hfl _ _ p e ha hc hk s m args below hf hA hF happ hP
  obtain ⟨hcalls, hrest, hpre⟩ := hP
  obtain ⟨-, -, -, hnamed, -, -, -, hat⟩ := (Spec.applies_iff hf).mp happ
  obtain ⟨hg, hn⟩ := and_e (Cond.before_iff.mp (show (Jvm.Cond.and given_1 narrow_1).before args s = true from hpre))
  obtain ⟨g1, g2⟩ := and_e hg
  obtain ⟨ga0, gb0⟩ := and_e g2
  obtain ⟨w0, w1, rfl⟩ : ∃ w0 w1 : Value, args = #[w0, w1] := by
    have hs : args.size = 2 := by simpa [Cond.value, given_1] using g1
    obtain ⟨L⟩ := args
    match L, hs with
    | [w0, w1], _ => exact ⟨w0, w1, rfl⟩
  have hw := fun d (hd : d ∈ tables_1) => atoms_spec (ws := Jvm.Cond.code x code maxLocals ret :: tables_1) hat d (List.mem_cons_of_mem _ hd)
  have hfit : Fit s := fun {y c} hc i hi => by
    obtain ⟨ha, rfl⟩ := Array.getElem?_eq_some_iff.mp hc
    have q := List.all_eq_true.mp ((Array.all_eq_true_iff_forall_mem.mp hF) _ (Array.getElem_mem ha)) i (List.mem_range.mpr hi)
    simpa [Array.getElem?_eq_getElem hi] using q
  obtain ⟨i0, ei0⟩ := is_v ga0
  obtain rfl : w0 = (.int i0) := Option.some.inj ei0
  obtain ⟨i1, ei1⟩ := is_v gb0
  obtain rfl : w1 = (.int i1) := Option.some.inj ei1
  obtain ⟨n, o, h1, h2, h3, _, L, rfl, ⟨rfl, N⟩, hq⟩ := rm0 l s _ hw tables_1 i0 i1  s.heap s.heap.size (Nat.le_refl _)  p e ha hc hk s m _ below hf ((Spec.applies_iff_loose hf).mp happ).1 ⟨rfl, State.Warmed39.refl s, rfl⟩ trivial
  refine ⟨n, _, h1, h2, h3, hpost _ _ _ _ _ _ ⟨Cond.after_iff.mpr rfl, Cond.after_iff.mpr (eq_i res_at (Term.int_eval (1)) rfl), trivial⟩ ⟨hq.1, hq.2.1, (hq.2.2.sift fun y hy => Or.inr (N y hy)).mono (by decide) (by decide)⟩⟩
theorem main_1_1 : Claimed_1_1 := comes_1 fun _ _ _ _ _ _ h hF => ⟨h.1, hF⟩
theorem main_1_2 : Claimed_1_2 := comes_1 fun _ _ _ _ _ _ h hF => ⟨h.2.1, hF⟩
end Jvm.Pilot.@@N@@
namespace Jvm.Pilot.@@N@@
open Jvm Jvm.ClassFile Sem Op Lib Jvm.Free Jvm.Stand Jvm.Pilot.@@N@@.Jvm.D
/-! MADE BY PROGRAM (witnessworld.py) out of the Statement's table words and the real class files: 10 classes; the members and pool entries that the words name. The judged class is class 1, her method 1. -/
namespace start1
open Jvm.ClassFile
def u (s : String) : CpInfo := .utf8 (stringToUtf16 s)
/-- a pool by its gaps: so many unusable entries, then the entry; so many at the end -/
def gap : Nat → List CpInfo → List CpInfo
  | 0, r => r
  | n + 1, r => .unusable :: gap n r
def poolList (es : List (Nat × CpInfo)) (last : Nat) : List CpInfo := es.foldr (fun e r => gap e.1 (e.2 :: r)) (gap last [])
def pool (es : List (Nat × CpInfo)) (last : Nat) : Array CpInfo := ⟨poolList es last⟩
def fileOf (pool : Array CpInfo) (this : Nat) (attrs : Array Attribute := #[]) (ms : Array MethodInfo := #[]) (fl : Nat := 33) (sup : Nat := 0) (ifs : Array Nat := #[]) (fds : Array FieldInfo := #[]) : ClassFile where
  minorVersion := 0
  majorVersion := 65
  constantPool := pool
  accessFlags := fl
  thisClass := this
  superClass := sup
  interfaces := ifs
  fields := fds
  methods := ms
  attributes := attrs
def plain (name : String) (sup : Option ClassId) : Class where
  name := name
  kind := .ordinary
  loader := none
  accessFlags := 33
  super := sup
  interfaces := #[]
  cf := none
  fields := #[]
  methods := #[]
  instanceTypes := #[]
  staticTypes := #[]
  resolved := #[]
  callSites := []
  init := .initialized
  statics := none
  mirror := none

def pool0 : Array CpInfo := pool [(5, u "<init>"), (0, u "()V"), (1, .class_ 10), (1, u "java/lang/Object")] 113

def k0c0 : Code := { maxStack := 0, maxLocals := 1, code := object_method_1_code, exceptionTable := #[], attributes := #[] }
def k0m0 : Method := { name := "<init>", desc := "()V", sig := { parameters := [], returnType := none }, accessFlags := 1, code := some k0c0 }
/-- java/lang/Object -/
def k0 : Class := { plain "java/lang/Object" none with
  accessFlags := 33
  interfaces := #[]
  cf := some (fileOf pool0 8 #[] #[{ accessFlags := 1, nameIndex := 5, descriptorIndex := 6, attributes := #[] }] 33 0 #[] #[])
  fields := #[]
  methods := #[k0m0]
  instanceTypes := #[]
  staticTypes := #[]
  resolved := Array.replicate 124 none
  statics := none }

def pool1 : Array CpInfo := pool [(2, .class_ 4), (1, u "java/lang/Object"), (0, u "<init>"), (0, u "()V"), (0, .integer 2147483647), (0, .class_ 9), (0, u "com/example/kido2/kido2/identity/PageRequest"), (0, .methodref 8 11), (0, .nameAndType 5 12), (0, u "(II)V"), (0, .methodref 8 14), (0, .nameAndType 15 16), (0, u "offset"), (0, u "()J"), (0, .class_ 18), (0, u "com/example/kido2/kido2/identity/PageRequestOffsetPinLaw"), (2, u "law"), (0, u "(II)Z")] 3

def k1m0 : Method := { name := "<init>", desc := "()V", sig := { parameters := [], returnType := none }, accessFlags := 2, code := none }
def k1c1 : Code := { maxStack := 4, maxLocals := 9, code := code, exceptionTable := #[], attributes := #[] }
def k1m1 : Method := { name := "law", desc := "(II)Z", sig := { parameters := [.int, .int], returnType := some .boolean }, accessFlags := 9, code := some k1c1 }
/-- com/example/kido2/kido2/identity/PageRequestOffsetPinLaw -/
def k1 : Class := { plain "com/example/kido2/kido2/identity/PageRequestOffsetPinLaw" (some 0) with
  accessFlags := 49
  interfaces := #[]
  cf := some (fileOf pool1 17 #[] #[{ accessFlags := 2, nameIndex := 5, descriptorIndex := 6, attributes := #[] }, { accessFlags := 9, nameIndex := 21, descriptorIndex := 22, attributes := #[] }] 49 2 #[] #[])
  fields := #[]
  methods := #[k1m0, k1m1]
  instanceTypes := #[]
  staticTypes := #[]
  resolved := Array.replicate 26 none
  statics := none }

def pool2 : Array CpInfo := pool [(1, .methodref 2 3), (0, .class_ 4), (0, .nameAndType 5 6), (0, u "java/lang/Object"), (0, u "<init>"), (0, u "()V"), (0, .class_ 8), (0, u "java/lang/Record")] 13

def k2c0 : Code := { maxStack := 1, maxLocals := 1, code := jdk_30_method_1_code, exceptionTable := #[], attributes := #[] }
def k2m0 : Method := { name := "<init>", desc := "()V", sig := { parameters := [], returnType := none }, accessFlags := 4, code := some k2c0 }
/-- java/lang/Record -/
def k2 : Class := { plain "java/lang/Record" (some 0) with
  accessFlags := 1057
  interfaces := #[]
  cf := some (fileOf pool2 7 #[] #[{ accessFlags := 4, nameIndex := 5, descriptorIndex := 6, attributes := #[] }] 1057 2 #[] #[])
  fields := #[]
  methods := #[k2m0]
  instanceTypes := #[]
  staticTypes := #[]
  resolved := Array.replicate 22 none
  statics := none }

def pool3 : Array CpInfo := pool [(1, .methodref 2 3), (0, .class_ 4), (0, .nameAndType 5 6), (0, u "java/lang/Record"), (0, u "<init>"), (0, u "()V"), (7, .class_ 15), (0, u "com/example/kido2/kido2/identity/PageRequest"), (2, .fieldref 14 19), (0, .nameAndType 20 21), (0, u "page"), (0, u "I"), (0, .fieldref 14 23), (0, .nameAndType 24 21), (0, u "size"), (8, u "(II)V"), (12, u "DEFAULT_SIZE"), (2, u "MAX_SIZE"), (7, u "offset"), (0, u "()J")] 23

def k3c0 : Code := { maxStack := 3, maxLocals := 3, code := prog_12_method_1_code, exceptionTable := #[], attributes := #[] }
def k3m0 : Method := { name := "<init>", desc := "(II)V", sig := { parameters := [.int, .int], returnType := none }, accessFlags := 1, code := some k3c0 }
def k3c1 : Code := { maxStack := 4, maxLocals := 1, code := prog_12_method_3_code, exceptionTable := #[], attributes := #[] }
def k3m1 : Method := { name := "offset", desc := "()J", sig := { parameters := [], returnType := some .long }, accessFlags := 0, code := some k3c1 }
/-- com/example/kido2/kido2/identity/PageRequest -/
def k3 : Class := { plain "com/example/kido2/kido2/identity/PageRequest" (some 2) with
  accessFlags := 49
  interfaces := #[]
  cf := some (fileOf pool3 14 #[] #[{ accessFlags := 1, nameIndex := 5, descriptorIndex := 33, attributes := #[] }, { accessFlags := 0, nameIndex := 57, descriptorIndex := 58, attributes := #[] }] 49 2 #[] #[{ accessFlags := 18, nameIndex := 20, descriptorIndex := 21, attributes := #[] }, { accessFlags := 18, nameIndex := 24, descriptorIndex := 21, attributes := #[] }, { accessFlags := 26, nameIndex := 46, descriptorIndex := 21, attributes := #[] }, { accessFlags := 26, nameIndex := 49, descriptorIndex := 21, attributes := #[] }])
  fields := #[{ name := "page", type := .int, accessFlags := 18, slot := 0, constantValue := 0 }, { name := "size", type := .int, accessFlags := 18, slot := 1, constantValue := 0 }, { name := "DEFAULT_SIZE", type := .int, accessFlags := 26, slot := 0, constantValue := 0 }, { name := "MAX_SIZE", type := .int, accessFlags := 26, slot := 1, constantValue := 0 }]
  methods := #[k3m0, k3m1]
  instanceTypes := #[.int, .int]
  staticTypes := #[.int, .int]
  resolved := Array.replicate 82 none
  statics := none }

def pool4 : Array CpInfo := pool [(1, u "java/lang/Cloneable"), (0, .class_ 1), (0, u "java/lang/Object"), (0, .class_ 3)] 3

/-- java/lang/Cloneable -/
def k4 : Class := { plain "java/lang/Cloneable" (some 0) with
  accessFlags := 1537
  interfaces := #[]
  cf := some (fileOf pool4 2 #[] #[] 1537 4 #[] #[])
  fields := #[]
  methods := #[]
  instanceTypes := #[]
  staticTypes := #[]
  resolved := Array.replicate 8 none
  statics := none }

def pool5 : Array CpInfo := pool [(1, u "java/io/Serializable"), (0, .class_ 1), (0, u "java/lang/Object"), (0, .class_ 3)] 3

/-- java/io/Serializable -/
def k5 : Class := { plain "java/io/Serializable" (some 0) with
  accessFlags := 1537
  interfaces := #[]
  cf := some (fileOf pool5 2 #[] #[] 1537 4 #[] #[])
  fields := #[]
  methods := #[]
  instanceTypes := #[]
  staticTypes := #[]
  resolved := Array.replicate 8 none
  statics := none }

/-- the primitive byte -/
def k6 : Class := { plain "byte" none with kind := .primitive 'B', accessFlags := 0x411 }
/-- [B -/
def k7 : Class := { plain "[B" (some 0) with kind := .array 6 .byte, interfaces := #[4, 5], accessFlags := 1041 }

/-- the primitive int -/
def k8 : Class := { plain "int" none with kind := .primitive 'I', accessFlags := 0x411 }
/-- [I -/
def k9 : Class := { plain "[I" (some 0) with kind := .array 8 .int, interfaces := #[4, 5], accessFlags := 1041 }

def heap : Heap := #[]
def classes : Array Class := #[k0, k1, k2, k3, k4, k5, k6, k7, k8, k9]
def interned : List (Array UInt16 × Addr) := []
def slotsUsed : Nat := 0
def theMethod : MethodId := ⟨1, 1⟩
def args0 : Array Value := #[.int 5, .int 7]
def aboutOver (below : List Frame) : State where
  vm := { classes := classes, interned := interned.toArray }
  heap := heap
  slotsUsed := slotsUsed
  threads := #[{ frames := .invoking theMethod args0 :: below }]
def below0 : List Frame := [.native { method := ⟨0, 0⟩, args := #[] }]
def about1 : State := aboutOver below0
def p0 : Program := .bare "" "" ""
def e0 : Env := launch0.env 0 0 0
theorem w_frames : about1.frames = Frame.invoking theMethod args0 :: below0 := rfl
set_option maxRecDepth 65536 in
theorem w_args : argsFit about1.vm theMethod args0 = true := by decide +kernel
set_option maxRecDepth 65536 in
theorem w_heap : heapFits about1 = true := by decide +kernel
set_option maxRecDepth 65536 in
theorem w_runnable : about1.curStatus? = some .runnable := by decide +kernel
set_option maxRecDepth 65536 in
theorem w_alone : about1.alone = true := by decide +kernel
set_option maxRecDepth 65536 in
theorem w_named : about1.methodNamed? x = some theMethod := by decide +kernel
set_option maxRecDepth 65536 in
theorem w_hears : about1.hears theMethod below0 = true := by decide +kernel
set_option maxRecDepth 65536 in
theorem w_ripe : about1.ripe theMethod args0 below0 = true := by decide +kernel
theorem w_running : about1.status = .running := rfl
set_option maxRecDepth 65536 in
theorem w_room : about1.hasRoom e0.platform room_1 = true :=
  launch0.hasRoom_least _ room_1 (by decide +kernel) (by decide +kernel) (by decide +kernel) (by decide +kernel) (by decide +kernel) (by decide +kernel)
theorem allAtoms_all (ts : List Jvm.Cond) (a : Array Jvm.Value) (st : Jvm.State) : (allAtoms ts).before a st = ts.all (fun c => c.before a st) := by
  induction ts with
  | nil => rfl
  | cons c t ih =>
    show (Jvm.Cond.and c (allAtoms t)).before a st = _
    rw [Jvm.Cond.before_and, ih, List.all_cons]
def words1 : List Jvm.Cond := Jvm.Cond.code x code maxLocals ret :: tables_1
/-- a 'code' word, met by the world's own term for the bytes: nothing is compared byte by byte -/
theorem code_word {y : MethodName} {bytes : ByteArray} {mx : Nat} {rt : Option FieldType} {a : Array Value} {s : State} {m : MethodId} {meth : Method} {c : Code} (h1 : s.methodNamed? y = some m) (h2 : s.vm.method? m = some meth) (h3 : meth.code = some c) (h4 : c.code = bytes)
    (h5 : (c.maxLocals == mx && c.exceptionTable.isEmpty && decide (c.maxStack ≤ mostOperands) && decide (meth.sig.returnType = rt) && !meth.locks && decide (parseMethodDescriptor y.desc = some meth.sig)) = true) : (Jvm.Cond.code y bytes mx rt).before a s = true := by
  simp only [Bool.and_eq_true, beq_iff_eq, Bool.not_eq_true', decide_eq_true_eq] at h5
  obtain ⟨⟨⟨⟨⟨g1, g2⟩, g3⟩, g4⟩, g5⟩, g6⟩ := h5
  simp [Cond.before, Cond.holds, Cond.value, h1, h2, h3, h4, g1, g2, g3, g4, g5, g6]
def isCode : Jvm.Cond → Bool
  | .code _ _ _ _ => true
  | _ => false
theorem all_split {L : List Jvm.Cond} {P : Jvm.Cond → Bool} (h1 : L.all (fun c => isCode c || P c) = true) (h2 : ∀ c ∈ L.filter isCode, P c = true) : L.all P = true := by
  refine List.all_eq_true.mpr fun c hc => ?_
  have h := List.all_eq_true.mp h1 c hc
  rcases Bool.eq_false_or_eq_true (isCode c) with hi | hi
  · exact h2 c (List.mem_filter.mpr ⟨hc, hi⟩)
  · simpa [hi] using h
set_option maxRecDepth 65536 in
theorem w_c0 : (Jvm.Cond.code x code maxLocals ret).before args0 about1 = true := code_word (m := ⟨1, 1⟩) (meth := k1m1) (c := k1c1) (by decide +kernel) rfl rfl rfl (by decide +kernel)
set_option maxRecDepth 65536 in
theorem w_c1 : (Jvm.Cond.code ({ cls := "com/example/kido2/kido2/identity/PageRequest", name := "<init>", desc := "(II)V" } : Jvm.MethodName) prog_12_method_1_code (3 : Nat) (Option.none : Option Jvm.ClassFile.FieldType)).before args0 about1 = true := code_word (m := ⟨3, 0⟩) (meth := k3m0) (c := k3c0) (by decide +kernel) rfl rfl rfl (by decide +kernel)
set_option maxRecDepth 65536 in
theorem w_c2 : (Jvm.Cond.code ({ cls := "java/lang/Record", name := "<init>", desc := "()V" } : Jvm.MethodName) jdk_30_method_1_code (1 : Nat) (Option.none : Option Jvm.ClassFile.FieldType)).before args0 about1 = true := code_word (m := ⟨2, 0⟩) (meth := k2m0) (c := k2c0) (by decide +kernel) rfl rfl rfl (by decide +kernel)
set_option maxRecDepth 65536 in
theorem w_c3 : (Jvm.Cond.code ({ cls := "java/lang/Object", name := "<init>", desc := "()V" } : Jvm.MethodName) object_method_1_code (1 : Nat) (Option.none : Option Jvm.ClassFile.FieldType)).before args0 about1 = true := code_word (m := ⟨0, 0⟩) (meth := k0m0) (c := k0c0) (by decide +kernel) rfl rfl rfl (by decide +kernel)
set_option maxRecDepth 65536 in
theorem w_c4 : (Jvm.Cond.code ({ cls := "com/example/kido2/kido2/identity/PageRequest", name := "offset", desc := "()J" } : Jvm.MethodName) prog_12_method_3_code (1 : Nat) (Option.some Jvm.ClassFile.FieldType.long)).before args0 about1 = true := code_word (m := ⟨3, 1⟩) (meth := k3m1) (c := k3c1) (by decide +kernel) rfl rfl rfl (by decide +kernel)
def codes1 : List Jvm.Cond := [Jvm.Cond.code x code maxLocals ret, Jvm.Cond.code ({ cls := "com/example/kido2/kido2/identity/PageRequest", name := "<init>", desc := "(II)V" } : Jvm.MethodName) prog_12_method_1_code (3 : Nat) (Option.none : Option Jvm.ClassFile.FieldType), Jvm.Cond.code ({ cls := "java/lang/Record", name := "<init>", desc := "()V" } : Jvm.MethodName) jdk_30_method_1_code (1 : Nat) (Option.none : Option Jvm.ClassFile.FieldType), Jvm.Cond.code ({ cls := "java/lang/Object", name := "<init>", desc := "()V" } : Jvm.MethodName) object_method_1_code (1 : Nat) (Option.none : Option Jvm.ClassFile.FieldType), Jvm.Cond.code ({ cls := "com/example/kido2/kido2/identity/PageRequest", name := "offset", desc := "()J" } : Jvm.MethodName) prog_12_method_3_code (1 : Nat) (Option.some Jvm.ClassFile.FieldType.long)]
set_option maxRecDepth 65536 in
theorem codes_eq : words1.filter isCode = codes1 := rfl
theorem w_codes : ∀ c ∈ words1.filter isCode, c.before args0 about1 = true := by
  rw [codes_eq]
  intro c hc
  simp only [codes1, List.mem_cons, List.not_mem_nil, or_false] at hc
  rcases hc with rfl | rfl | rfl | rfl | rfl
  · exact w_c0
  · exact w_c1
  · exact w_c2
  · exact w_c3
  · exact w_c4
set_option maxRecDepth 65536 in
theorem w_t1 : (words1.take 24).all (fun c => isCode c || c.before args0 about1) = true := by decide +kernel
set_option maxRecDepth 65536 in
theorem w_t2 : (words1.drop 24).all (fun c => isCode c || c.before args0 about1) = true := by decide +kernel
theorem w_tables : (allAtoms (Jvm.Cond.code x code maxLocals ret :: tables_1)).before args0 about1 = true := by
  rw [allAtoms_all]
  show words1.all (fun c => c.before args0 about1) = true
  refine all_split ?_ w_codes
  rw [← List.take_append_drop 24 words1, List.all_append, w_t1, w_t2]
  rfl
set_option maxRecDepth 65536 in
theorem w_case : (Jvm.Cond.and given_1 narrow_1).before args0 about1 = true := by decide +kernel
theorem w_applies : (headSpec (Jvm.Cond.code x code maxLocals ret :: tables_1) room_1).applies x e0.platform about1 = true :=
  (Spec.applies_iff w_frames).mpr ⟨w_running, w_runnable, w_alone, w_named, w_hears, w_ripe, w_room, w_tables⟩
theorem atStart : AtStart classFile x code maxLocals ret World_1 tables_1 room_1 Calls_1 rest_1 Pre_1 launch0 p0 e0 about1 theMethod args0 below0 :=
  ⟨lists_1, trivial, launch0.admits_env _ _ _, launch0.least_env, fairChoices_fair.cas, fairChoices_fair.clock, w_frames, w_args, w_heap, w_applies, trivial, trivial, w_case⟩
end start1
theorem witness_1 : WitnessClaimed_1 := ⟨start1.p0, start1.e0, start1.about1, start1.theMethod, start1.args0, start1.below0, start1.atStart⟩
end Jvm.Pilot.@@N@@
