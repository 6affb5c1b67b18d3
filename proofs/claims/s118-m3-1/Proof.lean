import JvmDerived
import JvmDerived.Pilot.@@N@@Statement
import JvmDerived.Pilot.@@N@@Code
set_option linter.unusedVariables false
set_option linter.unusedSimpArgs false
namespace Jvm.RoadKit
open Sem ClassFile Op Lib Jvm.Stand Jvm.Free Jvm.LawKit
section New
variable {p : Program} {l : Launch} {e : Env} {R : Room} {s : State} {m : MethodId} {args : Array Value} {below : List Frame} {meth : Method} {c : Code} {T : State} {locs : List Loc} {cells slots : Nat}
theorem retI (X : Stand p l e R s m args below meth c T locs cells slots) (hx : p.tables.exec = Jvm.exec) {pc : Nat} {Ls : Array Slot} {z : Int32} {rest : List Value} (hret : meth.sig.returnType = some .int) (hd : decode c.code pc = .ok (.ireturn, 1)) {fs : List Frame}
    (hl : ∀ (f : JFrame) (acts : List Action), f.method = m → f.locked = none → f.entered = [] → (doReturn e (T.setTop f) acts (some (.int z))).1 = T.setFrames fs) : Steps p.tables e below (T.setTop (mkF m pc Ls (.int z :: rest))) (T.setFrames fs) := by
  have hm' : T.vm.method? m = some meth := X.method'
  have hn : narrow .int (.int z) = .int z := rfl
  show Steps p.tables e below (T.setTop { method := m, pc := pc, locals := Ls, stack := _ :: rest, locked := none }) _
  jvm_step X.here [X.here.top, hx, hd, hm', hret, hn]
  first | (intro acts; rw [hl _ acts rfl rfl rfl]) | rw [hl _ _ rfl rfl rfl]
  exact Steps.refl _
theorem retL (X : Stand p l e R s m args below meth c T locs cells slots) (hx : p.tables.exec = Jvm.exec) {pc : Nat} {Ls : Array Slot} {z : Int64} {rest : List Value} (hret : meth.sig.returnType = some .long) (hd : decode c.code pc = .ok (.lreturn, 1)) {fs : List Frame}
    (hl : ∀ (f : JFrame) (acts : List Action), f.method = m → f.locked = none → f.entered = [] → (doReturn e (T.setTop f) acts (some (.long z))).1 = T.setFrames fs) : Steps p.tables e below (T.setTop (mkF m pc Ls (.long z :: rest))) (T.setFrames fs) := by
  have hm' : T.vm.method? m = some meth := X.method'
  have hn : narrow .long (.long z) = .long z := rfl
  show Steps p.tables e below (T.setTop { method := m, pc := pc, locals := Ls, stack := _ :: rest, locked := none }) _
  jvm_step X.here [X.here.top, hx, hd, hm', hret, hn]
  first | (intro acts; rw [hl _ acts rfl rfl rfl]) | rw [hl _ _ rfl rfl rfl]
  exact Steps.refl _
theorem retA (X : Stand p l e R s m args below meth c T locs cells slots) (hx : p.tables.exec = Jvm.exec) {pc : Nat} {Ls : Array Slot} {z : Value} {ty : FieldType} {rest : List Value} (hv : z.isRef = true) (hty : ty.isReference = true) (hret : meth.sig.returnType = some ty) (hd : decode c.code pc = .ok (.areturn, 1)) {fs : List Frame}
    (hl : ∀ (f : JFrame) (acts : List Action), f.method = m → f.locked = none → f.entered = [] → (doReturn e (T.setTop f) acts (some z)).1 = T.setFrames fs) : Steps p.tables e below (T.setTop (mkF m pc Ls (z :: rest))) (T.setFrames fs) := by
  have hm' : T.vm.method? m = some meth := X.method'
  show Steps p.tables e below (T.setTop { method := m, pc := pc, locals := Ls, stack := _ :: rest, locked := none }) _
  jvm_step X.here [X.here.top, hx, hd, hm', hret, hv, hty]
  first | (intro acts; rw [hl _ acts rfl rfl rfl]) | rw [hl _ _ rfl rfl rfl]
  exact Steps.refl _
end New
theorem own_fw {tb : Tables} {e : Env} {below : List Frame} {A B : State} {P : State → Outcome → Prop} (h : ∀ t, Steps tb e below A t → Steps tb e below B t) (k : ∃ t o, Steps tb e below A t ∧ P t o) : ∃ t o, Steps tb e below B t ∧ P t o := by
  obtain ⟨t, o, h1, h2⟩ := k
  exact ⟨t, o, h t h1, h2⟩
def own_irem (x y : Int32) : Int32 := x - (x / y) * y
def own_lrem (x y : Int64) : Int64 := x - (x / y) * y
end Jvm.RoadKit
namespace Jvm.Pilot.@@N@@
open Jvm Jvm.ClassFile Sem Op Lib Jvm.Free Jvm.Stand Jvm.LawKit Jvm.RoadKit Bundle Jvm.Pilot.@@N@@.Jvm.D
theorem own_sta_keep {Z : State} {h h' : Heap} {C n d : String} {v : Value} {ws : List Addr} (F : Sta Z h C n d v) (K : Keep h h' ws) (q : ∀ x ∈ ws, ∀ c : Cell, h[x]? = some c → c.vm.isStatics = false) : Sta Z h' C n d v := by
  obtain ⟨cf, i, k, f, st, cell, h1, h2, h3, h4, h5, h6, h7⟩ := F
  exact ⟨cf, i, k, f, st, cell, h1, h2, h3, h4, K.2.1 _ _ h5 (fun hm => by rw [q _ hm _ h5] at h6; cases h6), h6, h7⟩
theorem d5_0 : decode jdk_30_method_1_code 0 = .ok (.aload_n 0, 1) := by decide +kernel
theorem d5_1 : decode jdk_30_method_1_code 1 = .ok (.invokespecial 1, 3) := by decide +kernel
theorem d5_4 : decode jdk_30_method_1_code 4 = .ok (.return_, 1) := by decide +kernel
theorem pn5 : plainName "java/lang/Record" = true := by first | (simp [plainName, overriddenIn]; done) | decide +kernel
theorem ef5 (m : MethodId) (r0 : Addr) : entryFrame m #[(.ref r0)] 1 = mkF m 0 #[.val (.ref r0)] [] := by first | (simp [entryFrame, mkF, argsToLocals, Value.category]; done) | rfl
def Q5 (Z : State) (r0 : Addr) (h0 : Heap) (n0 : Nat) (v : Option Value) (h : Heap) (L : List Loc) : Prop := v = none ∧ Fr n0 L ∧ h = h0
set_option maxRecDepth 65536 in
set_option maxHeartbeats 40000000 in
theorem rm5 (l : Launch) (Z : State) (a0 : Array Value) (hw : ∀ d ∈ tables_1, d.before a0 Z = true) (ws : List Jvm.Cond) (r0 : Addr) (h0 : Heap) (n0 : Nat) (Z0 : n0 ≤ h0.size) :
    MetFree l (⟨"java/lang/Record", "<init>", "()V"⟩ : MethodName) (head1 (Jvm.Cond.code (⟨"java/lang/Record", "<init>", "()V"⟩ : MethodName) jdk_30_method_1_code 1 none :: ws) ({ frames := 1, cells := 0, slots := 0, locals := 12 } : Room)) (fun a U => a = #[(.ref r0)] ∧ Z.Warmed39 U.vm ∧ U.heap = h0) (fun _ _ _ _ _ => True) (fun _ U o U' => ∃ v L, o = .returned v ∧ Q5 Z r0 h0 n0 v U'.heap L ∧ FrameEnd U o U' L ({ frames := 1, cells := 0, slots := 0, locals := 12 } : Room).cells ({ frames := 1, cells := 0, slots := 0, locals := 12 } : Room).slots) := by
  refine MetFree.of_bodySF (plainFor_of_name pn5) hisR ?_
  intro p e s m args below meth c s₁ Bd hml0 hP hK
  obtain ⟨rfl, hZ, hh⟩ := hP
  have hx := Bd.exec
  have hby := Bd.bytes
  have hml : c.maxLocals = 1 := hml0
  have hown : s.vm.findClass "java/lang/Record" = some m.cls := findClass_of_methodNamed Bd.named
  have hnm := (name_of_methodNamed Bd.named Bd.method).1
  have X0 : Stand p l e ({ frames := 1, cells := 0, slots := 0, locals := 12 } : Room) s m #[(.ref r0)] below meth c s₁ [] 0 0 := Stand.of_body Bd
  have e0 : s₁.heap = h0 := by rw [← hh, Bd.state]; rfl
  have N0 := Fr.nil n0
  refine own_fw (A := s₁.setTop (mkF m 0 #[.val (.ref r0)] [])) (fun t k => castTop (ef5 m r0) k) ?_
  refine own_fw (A := s₁.setTop (mkF m 1 #[.val (.ref r0)] [(.ref r0)])) (fun t k => ?_) ?_
  · show Steps p.tables e below (s₁.setTop (mkF m 0 #[.val (.ref r0)] [])) t
    refine XS.aloadN X0.here hx rfl (hb hby d5_0) rfl rfl ?_
    exact k
  obtain ⟨T5_1, X5_1, e5_1, st5_1⟩ := initO X0 hx hZ hown (hw _ (List.mem_of_getElem? (i := 29) rfl)) (hw _ (List.mem_of_getElem? (i := 30) rfl)) (hw _ (List.mem_of_getElem? (i := 31) rfl)) e0 (g := (mkF m 1 #[.val (.ref r0)] [(.ref r0)])) rfl (by rw [hml]; rfl) rfl (hb hby d5_1) (by decide) (W := 0) (by show 2 * 0 + _ ≤ _; exact Nat.le_of_eq rfl) (by decide)
  refine own_fw st5_1 ?_
  obtain ⟨fs, hr, hrun, hended, hW, hsame⟩ := X5_1.leave (v := none) (fun _ => rfl)
  refine ⟨_, _, X5_1.returnOut hx Bd.returns (hb hby d5_4) hr, hrun, hended, _, _, rfl, ?_, ⟨_, rfl⟩, hW, hsame.mono (by decide) (by decide)⟩
  have eh : (T5_1.setFrames fs).heap = h0 := e5_1
  rw [eh]
  exact ⟨rfl, N0, rfl⟩

theorem d4_0 : decode prog_12_method_1_code 0 = .ok (.aload_n 0, 1) := by decide +kernel
theorem d4_1 : decode prog_12_method_1_code 1 = .ok (.invokespecial 1, 3) := by decide +kernel
theorem d4_4 : decode prog_12_method_1_code 4 = .ok (.iload_n 1, 1) := by decide +kernel
theorem d4_5 : decode prog_12_method_1_code 5 = .ok (.ifCond .ge 13, 3) := by decide +kernel
theorem d4_18 : decode prog_12_method_1_code 18 = .ok (.iload_n 2, 1) := by decide +kernel
theorem d4_19 : decode prog_12_method_1_code 19 = .ok (.iconst 1, 1) := by decide +kernel
theorem d4_20 : decode prog_12_method_1_code 20 = .ok (.if_icmp .lt 10, 3) := by decide +kernel
theorem d4_23 : decode prog_12_method_1_code 23 = .ok (.iload_n 2, 1) := by decide +kernel
theorem d4_24 : decode prog_12_method_1_code 24 = .ok (.sipush 200, 3) := by decide +kernel
theorem d4_27 : decode prog_12_method_1_code 27 = .ok (.if_icmp .le 13, 3) := by decide +kernel
theorem d4_40 : decode prog_12_method_1_code 40 = .ok (.aload_n 0, 1) := by decide +kernel
theorem d4_41 : decode prog_12_method_1_code 41 = .ok (.iload_n 1, 1) := by decide +kernel
theorem d4_42 : decode prog_12_method_1_code 42 = .ok (.putfield 18, 3) := by decide +kernel
theorem d4_45 : decode prog_12_method_1_code 45 = .ok (.aload_n 0, 1) := by decide +kernel
theorem d4_46 : decode prog_12_method_1_code 46 = .ok (.iload_n 2, 1) := by decide +kernel
theorem d4_47 : decode prog_12_method_1_code 47 = .ok (.putfield 22, 3) := by decide +kernel
theorem d4_50 : decode prog_12_method_1_code 50 = .ok (.return_, 1) := by decide +kernel
theorem pn4 : plainName "com/example/kido2/kido2/identity/PageRequest" = true := by first | (simp [plainName, overriddenIn]; done) | decide +kernel
theorem pd4_0 : parseMethodDescriptor "()V" = some ⟨[], none⟩ := by decide +kernel
theorem ef4 (m : MethodId) (r0 : Addr) (p1 : Int32) (p2 : Int32) : entryFrame m #[(.ref r0), (.int p1), (.int p2)] 3 = mkF m 0 #[.val (.ref r0), .val (.int p1), .val (.int p2)] [] := by first | (simp [entryFrame, mkF, argsToLocals, Value.category]; done) | rfl
def Q4 (Z : State) (r0 : Addr) (p1 p2 : Int32) (h0 : Heap) (n0 : Nat) (v : Option Value) (h : Heap) (L : List Loc) : Prop := v = none ∧ Fr n0 L ∧ Keep h0 h [r0] ∧ Exa Z h r0 "com/example/kido2/kido2/identity/PageRequest" ∧ Fld Z h r0 "com/example/kido2/kido2/identity/PageRequest" "page" "I" (.int p1) ∧ Fld Z h r0 "com/example/kido2/kido2/identity/PageRequest" "size" "I" (.int p2)
set_option maxRecDepth 65536 in
set_option maxHeartbeats 40000000 in
theorem rm4 (l : Launch) (Z : State) (a0 : Array Value) (hw : ∀ d ∈ tables_1, d.before a0 Z = true) (ws : List Jvm.Cond) (r0 : Addr) (p1 : Int32) (p2 : Int32) (h0 : Heap) (n0 : Nat) (Z0 : n0 ≤ h0.size) (E_r0 : Exa Z h0 r0 "com/example/kido2/kido2/identity/PageRequest") (F_page : Fld Z h0 r0 "com/example/kido2/kido2/identity/PageRequest" "page" "I" (.int (0 : Int32))) (F_size : Fld Z h0 r0 "com/example/kido2/kido2/identity/PageRequest" "size" "I" (.int (0 : Int32))) (g_r0 : n0 ≤ r0) (hc5 : ¬ (p1 < (0 : Int32))) (hc20 : ¬ (p2 < (1 : Int32))) (hc27 : ¬ ((200 : Int32) < p2)) :
    MetFree l (⟨"com/example/kido2/kido2/identity/PageRequest", "<init>", "(II)V"⟩ : MethodName) (head1 (Jvm.Cond.code (⟨"com/example/kido2/kido2/identity/PageRequest", "<init>", "(II)V"⟩ : MethodName) prog_12_method_1_code 3 none :: ws) ({ frames := 2, cells := 0, slots := 0, locals := 24 } : Room)) (fun a U => a = #[(.ref r0), (.int p1), (.int p2)] ∧ Z.Warmed39 U.vm ∧ U.heap = h0) (fun _ _ _ _ _ => True) (fun _ U o U' => ∃ v L, o = .returned v ∧ Q4 Z r0 p1 p2 h0 n0 v U'.heap L ∧ FrameEnd U o U' L ({ frames := 2, cells := 0, slots := 0, locals := 24 } : Room).cells ({ frames := 2, cells := 0, slots := 0, locals := 24 } : Room).slots) := by
  refine MetFree.of_bodySF (plainFor_of_name pn4) hisR ?_
  intro p e s m args below meth c s₁ Bd hml0 hP hK
  obtain ⟨rfl, hZ, hh⟩ := hP
  have hx := Bd.exec
  have hby := Bd.bytes
  have hml : c.maxLocals = 3 := hml0
  have hown : s.vm.findClass "com/example/kido2/kido2/identity/PageRequest" = some m.cls := findClass_of_methodNamed Bd.named
  have hnm := (name_of_methodNamed Bd.named Bd.method).1
  have X0 : Stand p l e ({ frames := 2, cells := 0, slots := 0, locals := 24 } : Room) s m #[(.ref r0), (.int p1), (.int p2)] below meth c s₁ [] 0 0 := Stand.of_body Bd
  have e0 : s₁.heap = h0 := by rw [← hh, Bd.state]; rfl
  have N0 := Fr.nil n0
  refine own_fw (A := s₁.setTop (mkF m 0 #[.val (.ref r0), .val (.int p1), .val (.int p2)] [])) (fun t k => castTop (ef4 m r0 p1 p2) k) ?_
  refine own_fw (A := s₁.setTop (mkF m 1 #[.val (.ref r0), .val (.int p1), .val (.int p2)] [(.ref r0)])) (fun t k => ?_) ?_
  · show Steps p.tables e below (s₁.setTop (mkF m 0 #[.val (.ref r0), .val (.int p1), .val (.int p2)] [])) t
    refine XS.aloadN X0.here hx rfl (hb hby d4_0) rfl rfl ?_
    exact k
  obtain ⟨_, _, ⟨T4_1, L4_1, k4_1, n4_1⟩, -, X4_1, ⟨Lc4_1, hQ4_1, l4_1, y4_1, z4_1⟩, st4_1⟩ := X0.specialBack hx (y := (⟨"java/lang/Record", "<init>", "()V"⟩ : MethodName)) rfl hown (mvT hZ (hw _ (List.mem_of_getElem? (i := 24) rfl))) (mvT hZ (hw _ (List.mem_of_getElem? (i := 25) rfl))) (mvT hZ (hw _ (List.mem_of_getElem? (i := 28) rfl))) (by decide) (backOf (W := 0) (rm5 l Z a0 hw [] (r0) h0 n0 Z0 ) hZ (hw _ (List.mem_of_getElem? (i := 28) rfl)) (hw _ (List.mem_of_getElem? (i := 27) rfl)) (by decide) (by decide)) (g := (mkF m 1 #[.val (.ref r0), .val (.int p1), .val (.int p2)] [(.ref r0)])) rfl (by rw [hml]; rfl) (Steps.refl _) (a := r0) (argsL := []) (rest := []) (lenOf pd4_0 rfl) rfl (by show 2 * 0 + _ ≤ _; exact Nat.le_of_eq rfl) (hb hby d4_1) (fun _ _ => ⟨rfl, e0, (by decide : 0 + 0 ≤ _), (by decide : 0 + 0 ≤ _)⟩)
  dsimp only [Pt.U, Pt.locs, Pt.cells, Pt.slots] at X4_1 l4_1 y4_1 z4_1 st4_1 hQ4_1
  subst l4_1 y4_1 z4_1
  obtain ⟨rfl, N4_1q, e4_1⟩ := hQ4_1
  have N4_1 := Fr.app N0 N4_1q
  refine own_fw (fun t k => st4_1.trans k) ?_
  refine own_fw (A := T4_1.setTop (mkF m 42 #[.val (.ref r0), .val (.int p1), .val (.int p2)] [(.int p1), (.ref r0)])) (fun t k => ?_) ?_
  · show Steps p.tables e below (T4_1.setTop (mkF m 4 #[.val (.ref r0), .val (.int p1), .val (.int p2)] [])) t
    refine XS.iloadN X4_1.here hx rfl (hb hby d4_4) rfl ?_
    show Steps p.tables e below (T4_1.setTop (mkF m 5 #[.val (.ref r0), .val (.int p1), .val (.int p2)] [(.int p1)])) t
    refine XS.ifYes X4_1.here hx rfl (pc0 := 5) (pc' := 18) rfl (hb hby d4_5) rfl ((if0 _ _).trans (flt hc5).2.1) (by decide) (by decide) ?_
    show Steps p.tables e below (T4_1.setTop (mkF m 18 #[.val (.ref r0), .val (.int p1), .val (.int p2)] [])) t
    refine XS.iloadN X4_1.here hx rfl (hb hby d4_18) rfl ?_
    show Steps p.tables e below (T4_1.setTop (mkF m 19 #[.val (.ref r0), .val (.int p1), .val (.int p2)] [(.int p2)])) t
    refine XS.iconst X4_1.here hx rfl (hb hby d4_19) ?_
    show Steps p.tables e below (T4_1.setTop (mkF m 20 #[.val (.ref r0), .val (.int p1), .val (.int p2)] [(.int (1 : Int32)), (.int p2)])) t
    refine XS.icmpNo X4_1.here hx rfl (hb hby d4_20) rfl (flt hc20).1 ?_
    show Steps p.tables e below (T4_1.setTop (mkF m 23 #[.val (.ref r0), .val (.int p1), .val (.int p2)] [])) t
    refine XS.iloadN X4_1.here hx rfl (hb hby d4_23) rfl ?_
    show Steps p.tables e below (T4_1.setTop (mkF m 24 #[.val (.ref r0), .val (.int p1), .val (.int p2)] [(.int p2)])) t
    refine XS.sipush X4_1.here hx rfl (hb hby d4_24) ?_
    show Steps p.tables e below (T4_1.setTop (mkF m 27 #[.val (.ref r0), .val (.int p1), .val (.int p2)] [(.int (200 : Int32)), (.int p2)])) t
    refine XS.icmpYes X4_1.here hx rfl (pc0 := 27) (pc' := 40) rfl (hb hby d4_27) rfl (flt hc27).2.2.2 (by decide) (by decide) ?_
    show Steps p.tables e below (T4_1.setTop (mkF m 40 #[.val (.ref r0), .val (.int p1), .val (.int p2)] [])) t
    refine XS.aloadN X4_1.here hx rfl (hb hby d4_40) rfl rfl ?_
    show Steps p.tables e below (T4_1.setTop (mkF m 41 #[.val (.ref r0), .val (.int p1), .val (.int p2)] [(.ref r0)])) t
    refine XS.iloadN X4_1.here hx rfl (hb hby d4_41) rfl ?_
    exact k
  obtain ⟨T4_2, h4_2, X4_2, e4_2, W4_2, st4_2⟩ := putF X4_1 hx hZ hown (host := "") (Or.inl (hw _ (List.mem_of_getElem? (i := 32) rfl))) Via.refl e4_1 F_page E_r0 (Or.inr ⟨(hw _ (List.mem_of_getElem? (i := 33) rfl)), rfl, hnm⟩) (hw _ (List.mem_of_getElem? (i := 13) rfl)) (ty := .int) (by decide) rfl rfl (g := (mkF m 42 #[.val (.ref r0), .val (.int p1), .val (.int p2)] [(.int p1), (.ref r0)])) rfl rfl (hb hby d4_42)
  have Fw4_2 := F_page.same W4_2
  have N4_2 := Fr.snoc X4_2 N4_1 g_r0
  refine own_fw st4_2 ?_
  refine own_fw (A := T4_2.setTop (mkF m 47 #[.val (.ref r0), .val (.int p1), .val (.int p2)] [(.int p2), (.ref r0)])) (fun t k => ?_) ?_
  · show Steps p.tables e below (T4_2.setTop (mkF m 45 #[.val (.ref r0), .val (.int p1), .val (.int p2)] [])) t
    refine XS.aloadN X4_2.here hx rfl (hb hby d4_45) rfl rfl ?_
    show Steps p.tables e below (T4_2.setTop (mkF m 46 #[.val (.ref r0), .val (.int p1), .val (.int p2)] [(.ref r0)])) t
    refine XS.iloadN X4_2.here hx rfl (hb hby d4_46) rfl ?_
    exact k
  obtain ⟨T4_3, h4_3, X4_3, e4_3, W4_3, st4_3⟩ := putF X4_2 hx hZ hown (host := "") (Or.inl (hw _ (List.mem_of_getElem? (i := 34) rfl))) Via.refl e4_2 (F_size.other W4_2 (Or.inr (slot_ne (Or.inr (hw _ (List.mem_of_getElem? (i := 35) rfl))) (Or.inr (hw _ (List.mem_of_getElem? (i := 33) rfl))) (by decide) (t := .int) (t' := .int) (by decide) (by decide)))) (E_r0.wr W4_2) (Or.inr ⟨(hw _ (List.mem_of_getElem? (i := 35) rfl)), rfl, hnm⟩) (hw _ (List.mem_of_getElem? (i := 13) rfl)) (ty := .int) (by decide) rfl rfl (g := (mkF m 47 #[.val (.ref r0), .val (.int p1), .val (.int p2)] [(.int p2), (.ref r0)])) rfl rfl (hb hby d4_47)
  have Fw4_3 := (F_size.other W4_2 (Or.inr (slot_ne (Or.inr (hw _ (List.mem_of_getElem? (i := 35) rfl))) (Or.inr (hw _ (List.mem_of_getElem? (i := 33) rfl))) (by decide) (t := .int) (t' := .int) (by decide) (by decide)))).same W4_3
  have N4_3 := Fr.snoc X4_3 N4_2 g_r0
  refine own_fw st4_3 ?_
  obtain ⟨fs, hr, hrun, hended, hW, hsame⟩ := X4_3.leave (v := none) (fun _ => rfl)
  refine ⟨_, _, X4_3.returnOut hx Bd.returns (hb hby d4_50) hr, hrun, hended, _, _, rfl, ?_, ⟨_, rfl⟩, hW, hsame.mono (by decide) (by decide)⟩
  have eh : (T4_3.setFrames fs).heap = h4_3 := e4_3
  rw [eh]
  exact ⟨rfl, N4_3, (((Keep.refl h0 [r0]).wr W4_2 (Or.inl (List.mem_of_getElem? (i := 0) rfl))).wr W4_3 (Or.inl (List.mem_of_getElem? (i := 0) rfl))), ((E_r0.wr W4_2).wr W4_3), (Fw4_2.other W4_3 (Or.inr (slot_ne (Or.inr (hw _ (List.mem_of_getElem? (i := 33) rfl))) (Or.inr (hw _ (List.mem_of_getElem? (i := 35) rfl))) (by decide) (t := .int) (t' := .int) (by decide) (by decide)))), Fw4_3⟩
theorem d10_0 : decode jdk_18_method_1_code 0 = .ok (.aload_n 0, 1) := by decide +kernel
theorem d10_1 : decode jdk_18_method_1_code 1 = .ok (.invokespecial 1, 3) := by decide +kernel
theorem d10_4 : decode jdk_18_method_1_code 4 = .ok (.return_, 1) := by decide +kernel
theorem pn10 : plainName "java/lang/Number" = true := by first | (simp [plainName, overriddenIn]; done) | decide +kernel
theorem ef10 (m : MethodId) (r0 : Addr) : entryFrame m #[(.ref r0)] 1 = mkF m 0 #[.val (.ref r0)] [] := by first | (simp [entryFrame, mkF, argsToLocals, Value.category]; done) | rfl
def Q10 (Z : State) (r0 : Addr) (h0 : Heap) (n0 : Nat) (w : Option Value) (h : Heap) (L : List Loc) : Prop := w = none ∧ Fr n0 L ∧ h = h0
set_option maxRecDepth 65536 in
set_option maxHeartbeats 40000000 in
theorem rm10 (l : Launch) (Z : State) (a0 : Array Value) (hw : ∀ d ∈ tables_1, d.before a0 Z = true) (ws : List Jvm.Cond) (r0 : Addr) (h0 : Heap) (n0 : Nat) (Z0 : n0 ≤ h0.size) :
    MetFree l (⟨"java/lang/Number", "<init>", "()V"⟩ : MethodName) (head1 (Jvm.Cond.code (⟨"java/lang/Number", "<init>", "()V"⟩ : MethodName) jdk_18_method_1_code 1 none :: ws) ({ frames := 1, cells := 0, slots := 0, locals := 12 } : Room)) (fun a U => a = #[(.ref r0)] ∧ Z.Warmed39 U.vm ∧ U.heap = h0) (fun _ _ _ _ _ => True) (fun _ U o U' => ∃ v L, o = .returned v ∧ Q10 Z r0 h0 n0 v U'.heap L ∧ FrameEnd U o U' L ({ frames := 1, cells := 0, slots := 0, locals := 12 } : Room).cells ({ frames := 1, cells := 0, slots := 0, locals := 12 } : Room).slots) := by
  refine MetFree.of_bodySF (plainFor_of_name pn10) hisR ?_
  intro p e s m args below meth c s₁ Bd hml0 hP hK
  obtain ⟨rfl, hZ, hh⟩ := hP
  have hx := Bd.exec
  have hby := Bd.bytes
  have hml : c.maxLocals = 1 := hml0
  have hown : s.vm.findClass "java/lang/Number" = some m.cls := findClass_of_methodNamed Bd.named
  have hnm := (name_of_methodNamed Bd.named Bd.method).1
  have X0 : Stand p l e ({ frames := 1, cells := 0, slots := 0, locals := 12 } : Room) s m #[(.ref r0)] below meth c s₁ [] 0 0 := Stand.of_body Bd
  have e0 : s₁.heap = h0 := by rw [← hh, Bd.state]; rfl
  have N0 := Fr.nil n0
  refine own_fw (A := s₁.setTop (mkF m 0 #[.val (.ref r0)] [])) (fun t k => castTop (ef10 m r0) k) ?_
  refine own_fw (A := s₁.setTop (mkF m 1 #[.val (.ref r0)] [(.ref r0)])) (fun t k => ?_) ?_
  · show Steps p.tables e below (s₁.setTop (mkF m 0 #[.val (.ref r0)] [])) t
    refine XS.aloadN X0.here hx rfl (hb hby d10_0) rfl rfl ?_
    exact k
  obtain ⟨T10_1, X10_1, e10_1, st10_1⟩ := initO X0 hx hZ hown (hw _ (List.mem_of_getElem? (i := 58) rfl)) (hw _ (List.mem_of_getElem? (i := 30) rfl)) (hw _ (List.mem_of_getElem? (i := 31) rfl)) e0 (g := (mkF m 1 #[.val (.ref r0)] [(.ref r0)])) rfl (by rw [hml]; rfl) rfl (hb hby d10_1) (by decide) (W := 0) (by show 2 * 0 + _ ≤ _; exact Nat.le_of_eq rfl) (by decide)
  refine own_fw st10_1 ?_
  obtain ⟨fs, hr, hrun, hended, hW, hsame⟩ := X10_1.leave (v := none) (fun _ => rfl)
  refine ⟨_, _, X10_1.returnOut hx Bd.returns (hb hby d10_4) hr, hrun, hended, _, _, rfl, ?_, ⟨_, rfl⟩, hW, hsame.mono (by decide) (by decide)⟩
  have eh : (T10_1.setFrames fs).heap = h0 := e10_1
  rw [eh]
  exact ⟨rfl, N0, rfl⟩
theorem d9_0 : decode jdk_33_method_23_code 0 = .ok (.aload_n 0, 1) := by decide +kernel
theorem d9_1 : decode jdk_33_method_23_code 1 = .ok (.invokespecial 202, 3) := by decide +kernel
theorem d9_4 : decode jdk_33_method_23_code 4 = .ok (.aload_n 0, 1) := by decide +kernel
theorem d9_5 : decode jdk_33_method_23_code 5 = .ok (.iload_n 1, 1) := by decide +kernel
theorem d9_6 : decode jdk_33_method_23_code 6 = .ok (.putfield 205, 3) := by decide +kernel
theorem d9_9 : decode jdk_33_method_23_code 9 = .ok (.return_, 1) := by decide +kernel
theorem pn9 : plainName "java/lang/Integer" = true := by first | (simp [plainName, overriddenIn]; done) | decide +kernel
theorem pd9_0 : parseMethodDescriptor "()V" = some ⟨[], none⟩ := by decide +kernel
theorem ef9 (m : MethodId) (r0 : Addr) (p1 : Int32) : entryFrame m #[(.ref r0), (.int p1)] 2 = mkF m 0 #[.val (.ref r0), .val (.int p1)] [] := by first | (simp [entryFrame, mkF, argsToLocals, Value.category]; done) | rfl
def Q9 (Z : State) (r0 : Addr) (p1 : Int32) (h0 : Heap) (n0 : Nat) (w : Option Value) (h : Heap) (L : List Loc) : Prop := w = none ∧ Fr n0 L ∧ Keep h0 h [r0] ∧ Exa Z h r0 "java/lang/Integer" ∧ Fld Z h r0 "java/lang/Integer" "value" "I" (.int p1)
set_option maxRecDepth 65536 in
set_option maxHeartbeats 40000000 in
theorem rm9 (l : Launch) (Z : State) (a0 : Array Value) (hw : ∀ d ∈ tables_1, d.before a0 Z = true) (ws : List Jvm.Cond) (r0 : Addr) (p1 : Int32) (h0 : Heap) (n0 : Nat) (Z0 : n0 ≤ h0.size) (E_r0 : Exa Z h0 r0 "java/lang/Integer") (F_v : Fld Z h0 r0 "java/lang/Integer" "value" "I" (.int (0 : Int32))) (g_r0 : n0 ≤ r0) :
    MetFree l (⟨"java/lang/Integer", "<init>", "(I)V"⟩ : MethodName) (head1 (Jvm.Cond.code (⟨"java/lang/Integer", "<init>", "(I)V"⟩ : MethodName) jdk_33_method_23_code 2 none :: ws) ({ frames := 2, cells := 0, slots := 0, locals := 24 } : Room)) (fun a U => a = #[(.ref r0), (.int p1)] ∧ Z.Warmed39 U.vm ∧ U.heap = h0) (fun _ _ _ _ _ => True) (fun _ U o U' => ∃ v L, o = .returned v ∧ Q9 Z r0 p1 h0 n0 v U'.heap L ∧ FrameEnd U o U' L ({ frames := 2, cells := 0, slots := 0, locals := 24 } : Room).cells ({ frames := 2, cells := 0, slots := 0, locals := 24 } : Room).slots) := by
  refine MetFree.of_bodySF (plainFor_of_name pn9) hisR ?_
  intro p e s m args below meth c s₁ Bd hml0 hP hK
  obtain ⟨rfl, hZ, hh⟩ := hP
  have hx := Bd.exec
  have hby := Bd.bytes
  have hml : c.maxLocals = 2 := hml0
  have hown : s.vm.findClass "java/lang/Integer" = some m.cls := findClass_of_methodNamed Bd.named
  have hnm := (name_of_methodNamed Bd.named Bd.method).1
  have X0 : Stand p l e ({ frames := 2, cells := 0, slots := 0, locals := 24 } : Room) s m #[(.ref r0), (.int p1)] below meth c s₁ [] 0 0 := Stand.of_body Bd
  have e0 : s₁.heap = h0 := by rw [← hh, Bd.state]; rfl
  have N0 := Fr.nil n0
  refine own_fw (A := s₁.setTop (mkF m 0 #[.val (.ref r0), .val (.int p1)] [])) (fun t k => castTop (ef9 m r0 p1) k) ?_
  refine own_fw (A := s₁.setTop (mkF m 1 #[.val (.ref r0), .val (.int p1)] [(.ref r0)])) (fun t k => ?_) ?_
  · show Steps p.tables e below (s₁.setTop (mkF m 0 #[.val (.ref r0), .val (.int p1)] [])) t
    refine XS.aloadN X0.here hx rfl (hb hby d9_0) rfl rfl ?_
    exact k
  obtain ⟨_, _, ⟨T9_1, L9_1, k9_1, n9_1⟩, -, X9_1, ⟨Lc9_1, hQ9_1, l9_1, y9_1, z9_1⟩, st9_1⟩ := X0.specialBack hx (y := (⟨"java/lang/Number", "<init>", "()V"⟩ : MethodName)) rfl hown (mvT hZ (hw _ (List.mem_of_getElem? (i := 52) rfl))) (mvT hZ (hw _ (List.mem_of_getElem? (i := 53) rfl))) (mvT hZ (hw _ (List.mem_of_getElem? (i := 57) rfl))) (by decide) (backOf (W := 0) (rm10 l Z a0 hw [] (r0) h0 n0 Z0 ) hZ (hw _ (List.mem_of_getElem? (i := 57) rfl)) (hw _ (List.mem_of_getElem? (i := 56) rfl)) (by decide) (by decide)) (g := (mkF m 1 #[.val (.ref r0), .val (.int p1)] [(.ref r0)])) rfl (by rw [hml]; rfl) (Steps.refl _) (a := r0) (argsL := []) (rest := []) (lenOf pd9_0 rfl) rfl (by show 2 * 0 + _ ≤ _; exact Nat.le_of_eq rfl) (hb hby d9_1) (fun _ _ => ⟨rfl, e0, (by decide : 0 + 0 ≤ _), (by decide : 0 + 0 ≤ _)⟩)
  dsimp only [Pt.U, Pt.locs, Pt.cells, Pt.slots] at X9_1 l9_1 y9_1 z9_1 st9_1 hQ9_1
  subst l9_1 y9_1 z9_1
  obtain ⟨rfl, N9_1q, e9_1⟩ := hQ9_1
  have N9_1 := Fr.app N0 N9_1q
  refine own_fw (fun t k => st9_1.trans k) ?_
  refine own_fw (A := T9_1.setTop (mkF m 6 #[.val (.ref r0), .val (.int p1)] [(.int p1), (.ref r0)])) (fun t k => ?_) ?_
  · show Steps p.tables e below (T9_1.setTop (mkF m 4 #[.val (.ref r0), .val (.int p1)] [])) t
    refine XS.aloadN X9_1.here hx rfl (hb hby d9_4) rfl rfl ?_
    show Steps p.tables e below (T9_1.setTop (mkF m 5 #[.val (.ref r0), .val (.int p1)] [(.ref r0)])) t
    refine XS.iloadN X9_1.here hx rfl (hb hby d9_5) rfl ?_
    exact k
  obtain ⟨T9_2, h9_2, X9_2, e9_2, W9_2, st9_2⟩ := putF X9_1 hx hZ hown (host := "") (Or.inl (hw _ (List.mem_of_getElem? (i := 19) rfl))) Via.refl e9_1 F_v E_r0 (Or.inr ⟨(hw _ (List.mem_of_getElem? (i := 20) rfl)), rfl, hnm⟩) (hw _ (List.mem_of_getElem? (i := 47) rfl)) (ty := .int) (by decide) rfl rfl (g := (mkF m 6 #[.val (.ref r0), .val (.int p1)] [(.int p1), (.ref r0)])) rfl rfl (hb hby d9_6)
  have Fw9_2 := F_v.same W9_2
  have N9_2 := Fr.snoc X9_2 N9_1 g_r0
  refine own_fw st9_2 ?_
  obtain ⟨fs, hr, hrun, hended, hW, hsame⟩ := X9_2.leave (v := none) (fun _ => rfl)
  refine ⟨_, _, X9_2.returnOut hx Bd.returns (hb hby d9_9) hr, hrun, hended, _, _, rfl, ?_, ⟨_, rfl⟩, hW, hsame.mono (by decide) (by decide)⟩
  have eh : (T9_2.setFrames fs).heap = h9_2 := e9_2
  rw [eh]
  exact ⟨rfl, N9_2, ((Keep.refl h0 [r0]).wr W9_2 (Or.inl (List.mem_of_getElem? (i := 0) rfl))), (E_r0.wr W9_2), Fw9_2⟩
theorem d3_0 : decode jdk_33_method_27_code 0 = .ok (.aload_n 0, 1) := by decide +kernel
theorem d3_1 : decode jdk_33_method_27_code 1 = .ok (.getfield 205, 3) := by decide +kernel
theorem d3_4 : decode jdk_33_method_27_code 4 = .ok (.ireturn, 1) := by decide +kernel
theorem pn3 : plainName "java/lang/Integer" = true := by first | (simp [plainName, overriddenIn]; done) | decide +kernel
theorem ef3 (m : MethodId) (r0 : Addr) : entryFrame m #[(.ref r0)] 1 = mkF m 0 #[.val (.ref r0)] [] := by first | (simp [entryFrame, mkF, argsToLocals, Value.category]; done) | rfl
def Q3 (Z : State) (r0 : Addr) (u : Int32) (h0 : Heap) (n0 : Nat) (w : Option Value) (h : Heap) (L : List Loc) : Prop := w = some (.int u) ∧ Fr n0 L ∧ h = h0
set_option maxRecDepth 65536 in
set_option maxHeartbeats 40000000 in
theorem rm3 (l : Launch) (Z : State) (a0 : Array Value) (hw : ∀ d ∈ tables_1, d.before a0 Z = true) (ws : List Jvm.Cond) (r0 : Addr) (u : Int32) (h0 : Heap) (n0 : Nat) (Z0 : n0 ≤ h0.size) (F_v : Fld Z h0 r0 "java/lang/Integer" "value" "I" (.int u)) :
    MetFree l (⟨"java/lang/Integer", "intValue", "()I"⟩ : MethodName) (head1 (Jvm.Cond.code (⟨"java/lang/Integer", "intValue", "()I"⟩ : MethodName) jdk_33_method_27_code 1 (some .int) :: ws) ({ frames := 0, cells := 0, slots := 0, locals := 0 } : Room)) (fun a U => a = #[(.ref r0)] ∧ Z.Warmed39 U.vm ∧ U.heap = h0) (fun _ _ _ _ _ => True) (fun _ U o U' => ∃ v L, o = .returned v ∧ Q3 Z r0 u h0 n0 v U'.heap L ∧ FrameEnd U o U' L ({ frames := 0, cells := 0, slots := 0, locals := 0 } : Room).cells ({ frames := 0, cells := 0, slots := 0, locals := 0 } : Room).slots) := by
  refine MetFree.of_bodySF (plainFor_of_name pn3) hisR ?_
  intro p e s m args below meth c s₁ Bd hml0 hP hK
  obtain ⟨rfl, hZ, hh⟩ := hP
  have hx := Bd.exec
  have hby := Bd.bytes
  have hml : c.maxLocals = 1 := hml0
  have hown : s.vm.findClass "java/lang/Integer" = some m.cls := findClass_of_methodNamed Bd.named
  have hnm := (name_of_methodNamed Bd.named Bd.method).1
  have X0 : Stand p l e ({ frames := 0, cells := 0, slots := 0, locals := 0 } : Room) s m #[(.ref r0)] below meth c s₁ [] 0 0 := Stand.of_body Bd
  have e0 : s₁.heap = h0 := by rw [← hh, Bd.state]; rfl
  have N0 := Fr.nil n0
  refine own_fw (A := s₁.setTop (mkF m 0 #[.val (.ref r0)] [])) (fun t k => castTop (ef3 m r0) k) ?_
  refine own_fw (A := s₁.setTop (mkF m 1 #[.val (.ref r0)] [(.ref r0)])) (fun t k => ?_) ?_
  · show Steps p.tables e below (s₁.setTop (mkF m 0 #[.val (.ref r0)] [])) t
    refine XS.aloadN X0.here hx rfl (hb hby d3_0) rfl rfl ?_
    exact k
  obtain ⟨T3_1, X3_1, e3_1, st3_1⟩ := getF X0 hx hZ hown (host := "") (Or.inl (hw _ (List.mem_of_getElem? (i := 19) rfl))) Via.refl e0 F_v (g := (mkF m 1 #[.val (.ref r0)] [(.ref r0)])) rfl rfl (hb hby d3_1)
  refine own_fw st3_1 ?_
  obtain ⟨fs, hr, hrun, hended, hW, hsame⟩ := X3_1.leave (v := some (.int u)) (fun h => by rw [Bd.returns] at h; cases h)
  refine ⟨_, _, retI X3_1 hx Bd.returns (hb hby d3_4) hr, hrun, hended, _, _, rfl, ?_, ⟨_, rfl⟩, hW, hsame.mono (by decide) (by decide)⟩
  have eh : (T3_1.setFrames fs).heap = h0 := e3_1
  rw [eh]
  exact ⟨rfl, N0, rfl⟩
theorem d7_0 : decode prog_12_method_7_code 0 = .ok (.aload_n 0, 1) := by decide +kernel
theorem d7_1 : decode prog_12_method_7_code 1 = .ok (.getfield 18, 3) := by decide +kernel
theorem d7_4 : decode prog_12_method_7_code 4 = .ok (.ireturn, 1) := by decide +kernel
theorem pn7 : plainName "com/example/kido2/kido2/identity/PageRequest" = true := by first | (simp [plainName, overriddenIn]; done) | decide +kernel
theorem ef7 (m : MethodId) (r0 : Addr) : entryFrame m #[(.ref r0)] 1 = mkF m 0 #[.val (.ref r0)] [] := by first | (simp [entryFrame, mkF, argsToLocals, Value.category]; done) | rfl
def Q7 (Z : State) (r0 : Addr) (u : Int32) (h0 : Heap) (n0 : Nat) (w : Option Value) (h : Heap) (L : List Loc) : Prop := w = some (.int u) ∧ Fr n0 L ∧ h = h0
set_option maxRecDepth 65536 in
set_option maxHeartbeats 40000000 in
theorem rm7 (l : Launch) (Z : State) (a0 : Array Value) (hw : ∀ d ∈ tables_1, d.before a0 Z = true) (ws : List Jvm.Cond) (r0 : Addr) (u : Int32) (h0 : Heap) (n0 : Nat) (Z0 : n0 ≤ h0.size) (F_v : Fld Z h0 r0 "com/example/kido2/kido2/identity/PageRequest" "page" "I" (.int u)) :
    MetFree l (⟨"com/example/kido2/kido2/identity/PageRequest", "page", "()I"⟩ : MethodName) (head1 (Jvm.Cond.code (⟨"com/example/kido2/kido2/identity/PageRequest", "page", "()I"⟩ : MethodName) prog_12_method_7_code 1 (some .int) :: ws) ({ frames := 0, cells := 0, slots := 0, locals := 0 } : Room)) (fun a U => a = #[(.ref r0)] ∧ Z.Warmed39 U.vm ∧ U.heap = h0) (fun _ _ _ _ _ => True) (fun _ U o U' => ∃ v L, o = .returned v ∧ Q7 Z r0 u h0 n0 v U'.heap L ∧ FrameEnd U o U' L ({ frames := 0, cells := 0, slots := 0, locals := 0 } : Room).cells ({ frames := 0, cells := 0, slots := 0, locals := 0 } : Room).slots) := by
  refine MetFree.of_bodySF (plainFor_of_name pn7) hisR ?_
  intro p e s m args below meth c s₁ Bd hml0 hP hK
  obtain ⟨rfl, hZ, hh⟩ := hP
  have hx := Bd.exec
  have hby := Bd.bytes
  have hml : c.maxLocals = 1 := hml0
  have hown : s.vm.findClass "com/example/kido2/kido2/identity/PageRequest" = some m.cls := findClass_of_methodNamed Bd.named
  have hnm := (name_of_methodNamed Bd.named Bd.method).1
  have X0 : Stand p l e ({ frames := 0, cells := 0, slots := 0, locals := 0 } : Room) s m #[(.ref r0)] below meth c s₁ [] 0 0 := Stand.of_body Bd
  have e0 : s₁.heap = h0 := by rw [← hh, Bd.state]; rfl
  have N0 := Fr.nil n0
  refine own_fw (A := s₁.setTop (mkF m 0 #[.val (.ref r0)] [])) (fun t k => castTop (ef7 m r0) k) ?_
  refine own_fw (A := s₁.setTop (mkF m 1 #[.val (.ref r0)] [(.ref r0)])) (fun t k => ?_) ?_
  · show Steps p.tables e below (s₁.setTop (mkF m 0 #[.val (.ref r0)] [])) t
    refine XS.aloadN X0.here hx rfl (hb hby d7_0) rfl rfl ?_
    exact k
  obtain ⟨T7_1, X7_1, e7_1, st7_1⟩ := getF X0 hx hZ hown (host := "") (Or.inl (hw _ (List.mem_of_getElem? (i := 32) rfl))) Via.refl e0 F_v (g := (mkF m 1 #[.val (.ref r0)] [(.ref r0)])) rfl rfl (hb hby d7_1)
  refine own_fw st7_1 ?_
  obtain ⟨fs, hr, hrun, hended, hW, hsame⟩ := X7_1.leave (v := some (.int u)) (fun h => by rw [Bd.returns] at h; cases h)
  refine ⟨_, _, retI X7_1 hx Bd.returns (hb hby d7_4) hr, hrun, hended, _, _, rfl, ?_, ⟨_, rfl⟩, hW, hsame.mono (by decide) (by decide)⟩
  have eh : (T7_1.setFrames fs).heap = h0 := e7_1
  rw [eh]
  exact ⟨rfl, N0, rfl⟩
theorem d8_0 : decode prog_12_method_8_code 0 = .ok (.aload_n 0, 1) := by decide +kernel
theorem d8_1 : decode prog_12_method_8_code 1 = .ok (.getfield 22, 3) := by decide +kernel
theorem d8_4 : decode prog_12_method_8_code 4 = .ok (.ireturn, 1) := by decide +kernel
theorem pn8 : plainName "com/example/kido2/kido2/identity/PageRequest" = true := by first | (simp [plainName, overriddenIn]; done) | decide +kernel
theorem ef8 (m : MethodId) (r0 : Addr) : entryFrame m #[(.ref r0)] 1 = mkF m 0 #[.val (.ref r0)] [] := by first | (simp [entryFrame, mkF, argsToLocals, Value.category]; done) | rfl
def Q8 (Z : State) (r0 : Addr) (u : Int32) (h0 : Heap) (n0 : Nat) (w : Option Value) (h : Heap) (L : List Loc) : Prop := w = some (.int u) ∧ Fr n0 L ∧ h = h0
set_option maxRecDepth 65536 in
set_option maxHeartbeats 40000000 in
theorem rm8 (l : Launch) (Z : State) (a0 : Array Value) (hw : ∀ d ∈ tables_1, d.before a0 Z = true) (ws : List Jvm.Cond) (r0 : Addr) (u : Int32) (h0 : Heap) (n0 : Nat) (Z0 : n0 ≤ h0.size) (F_v : Fld Z h0 r0 "com/example/kido2/kido2/identity/PageRequest" "size" "I" (.int u)) :
    MetFree l (⟨"com/example/kido2/kido2/identity/PageRequest", "size", "()I"⟩ : MethodName) (head1 (Jvm.Cond.code (⟨"com/example/kido2/kido2/identity/PageRequest", "size", "()I"⟩ : MethodName) prog_12_method_8_code 1 (some .int) :: ws) ({ frames := 0, cells := 0, slots := 0, locals := 0 } : Room)) (fun a U => a = #[(.ref r0)] ∧ Z.Warmed39 U.vm ∧ U.heap = h0) (fun _ _ _ _ _ => True) (fun _ U o U' => ∃ v L, o = .returned v ∧ Q8 Z r0 u h0 n0 v U'.heap L ∧ FrameEnd U o U' L ({ frames := 0, cells := 0, slots := 0, locals := 0 } : Room).cells ({ frames := 0, cells := 0, slots := 0, locals := 0 } : Room).slots) := by
  refine MetFree.of_bodySF (plainFor_of_name pn8) hisR ?_
  intro p e s m args below meth c s₁ Bd hml0 hP hK
  obtain ⟨rfl, hZ, hh⟩ := hP
  have hx := Bd.exec
  have hby := Bd.bytes
  have hml : c.maxLocals = 1 := hml0
  have hown : s.vm.findClass "com/example/kido2/kido2/identity/PageRequest" = some m.cls := findClass_of_methodNamed Bd.named
  have hnm := (name_of_methodNamed Bd.named Bd.method).1
  have X0 : Stand p l e ({ frames := 0, cells := 0, slots := 0, locals := 0 } : Room) s m #[(.ref r0)] below meth c s₁ [] 0 0 := Stand.of_body Bd
  have e0 : s₁.heap = h0 := by rw [← hh, Bd.state]; rfl
  have N0 := Fr.nil n0
  refine own_fw (A := s₁.setTop (mkF m 0 #[.val (.ref r0)] [])) (fun t k => castTop (ef8 m r0) k) ?_
  refine own_fw (A := s₁.setTop (mkF m 1 #[.val (.ref r0)] [(.ref r0)])) (fun t k => ?_) ?_
  · show Steps p.tables e below (s₁.setTop (mkF m 0 #[.val (.ref r0)] [])) t
    refine XS.aloadN X0.here hx rfl (hb hby d8_0) rfl rfl ?_
    exact k
  obtain ⟨T8_1, X8_1, e8_1, st8_1⟩ := getF X0 hx hZ hown (host := "") (Or.inl (hw _ (List.mem_of_getElem? (i := 34) rfl))) Via.refl e0 F_v (g := (mkF m 1 #[.val (.ref r0)] [(.ref r0)])) rfl rfl (hb hby d8_1)
  refine own_fw st8_1 ?_
  obtain ⟨fs, hr, hrun, hended, hW, hsame⟩ := X8_1.leave (v := some (.int u)) (fun h => by rw [Bd.returns] at h; cases h)
  refine ⟨_, _, retI X8_1 hx Bd.returns (hb hby d8_4) hr, hrun, hended, _, _, rfl, ?_, ⟨_, rfl⟩, hW, hsame.mono (by decide) (by decide)⟩
  have eh : (T8_1.setFrames fs).heap = h0 := e8_1
  rw [eh]
  exact ⟨rfl, N0, rfl⟩
theorem own_in (p : Int32) {cc : Cell} (S : cc.slots.size = (256 : Int32).toNatClampNeg) (h1 : ¬ (p < (-128 : Int32))) (h2 : ¬ ((127 : Int32) < p)) : ¬ ((p + (128 : Int32)) < 0 ∨ cc.slots.size ≤ (p + (128 : Int32)).toNatClampNeg) := by
  rw [Int32.lt_iff_toInt_lt] at h1 h2
  have a := c_iadd p 128
  have r := rng32 (p + 128)
  have z1 : (-128 : Int32).toInt = -128 := rfl
  have z2 : (127 : Int32).toInt = 127 := rfl
  have z3 : (128 : Int32).toInt = 128 := rfl
  have z4 : (0 : Int32).toInt = 0 := rfl
  have z5 : (256 : Int32).toInt = 256 := rfl
  refine inb_of S ⟨?_, ?_⟩
  · rw [Int32.lt_iff_toInt_lt]; omega
  · rw [Int32.lt_iff_toInt_lt]; omega
theorem own_sub (p : Int32) : p + (128 : Int32) - (128 : Int32) = p := by
  have a := c_iadd p 128
  have b := c_isub (p + 128) 128
  have r := rng32 (p + 128 - 128)
  have r2 := rng32 p
  rw [← Int32.toInt_inj]
  omega
theorem d1_0 : decode jdk_33_method_22_code 0 = .ok (.iload_n 0, 1) := by decide +kernel
theorem d1_1 : decode jdk_33_method_22_code 1 = .ok (.bipush (-128), 2) := by decide +kernel
theorem d1_3 : decode jdk_33_method_22_code 3 = .ok (.if_icmp .lt 20, 3) := by decide +kernel
theorem d1_6 : decode jdk_33_method_22_code 6 = .ok (.iload_n 0, 1) := by decide +kernel
theorem d1_7 : decode jdk_33_method_22_code 7 = .ok (.getstatic 191, 3) := by decide +kernel
theorem d1_10 : decode jdk_33_method_22_code 10 = .ok (.if_icmp .gt 13, 3) := by decide +kernel
theorem d1_13 : decode jdk_33_method_22_code 13 = .ok (.getstatic 195, 3) := by decide +kernel
theorem d1_16 : decode jdk_33_method_22_code 16 = .ok (.iload_n 0, 1) := by decide +kernel
theorem d1_17 : decode jdk_33_method_22_code 17 = .ok (.sipush 128, 3) := by decide +kernel
theorem d1_20 : decode jdk_33_method_22_code 20 = .ok (.iadd, 1) := by decide +kernel
theorem d1_21 : decode jdk_33_method_22_code 21 = .ok (.aaload, 1) := by decide +kernel
theorem d1_22 : decode jdk_33_method_22_code 22 = .ok (.areturn, 1) := by decide +kernel
theorem d1_23 : decode jdk_33_method_22_code 23 = .ok (.new 1, 3) := by decide +kernel
theorem d1_26 : decode jdk_33_method_22_code 26 = .ok (.dup, 1) := by decide +kernel
theorem d1_27 : decode jdk_33_method_22_code 27 = .ok (.iload_n 0, 1) := by decide +kernel
theorem d1_28 : decode jdk_33_method_22_code 28 = .ok (.invokespecial 199, 3) := by decide +kernel
theorem d1_31 : decode jdk_33_method_22_code 31 = .ok (.areturn, 1) := by decide +kernel
theorem pn1 : plainName "java/lang/Integer" = true := by first | (simp [plainName, overriddenIn]; done) | decide +kernel
theorem pd1_0 : parseMethodDescriptor "(I)V" = some ⟨[.int], none⟩ := by decide +kernel
theorem ef1 (m : MethodId) (p0 : Int32) : entryFrame m #[(.int p0)] 1 = mkF m 0 #[.val (.int p0)] [] := by first | (simp [entryFrame, mkF, argsToLocals, Value.category]; done) | rfl
def Q1 (Z : State) (p0 : Int32) (h0 : Heap) (n0 : Nat) (w : Option Value) (h : Heap) (L : List Loc) : Prop := ∃ b, w = some (.ref b) ∧ Fr n0 L ∧ Keep h0 h [] ∧ Exa Z h b "java/lang/Integer" ∧ Fld Z h b "java/lang/Integer" "value" "I" (.int p0)
set_option maxRecDepth 65536 in
set_option maxHeartbeats 40000000 in
theorem rm1 (l : Launch) (Z : State) (a0 : Array Value) (hw : ∀ d ∈ tables_1, d.before a0 Z = true) (ws : List Jvm.Cond) (p0 : Int32) (ca : Addr) (cc : Cell) (h0 : Heap) (n0 : Nat) (Z0 : n0 ≤ h0.size) (S_high : Sta Z h0 "java/lang/Integer$IntegerCache" "high" "I" (.int (127 : Int32))) (S_cache : Sta Z h0 "java/lang/Integer$IntegerCache" "cache" "[Ljava/lang/Integer;" (.ref ca)) (Bx : Bxs Z ca cc "java/lang/Integer" "I" (256 : Int32) (fun j => .int (j - (128 : Int32)))) (O : Old Z n0 h0) (hlo : ¬ (p0 < (-128 : Int32))) :
    MetFree l (⟨"java/lang/Integer", "valueOf", "(I)Ljava/lang/Integer;"⟩ : MethodName) (head1 (Jvm.Cond.code (⟨"java/lang/Integer", "valueOf", "(I)Ljava/lang/Integer;"⟩ : MethodName) jdk_33_method_22_code 1 (some (.object "java/lang/Integer")) :: ws) ({ frames := 3, cells := 1, slots := 1, locals := 38 } : Room)) (fun a U => a = #[(.int p0)] ∧ Z.Warmed39 U.vm ∧ U.heap = h0) (fun _ _ _ _ _ => True) (fun _ U o U' => ∃ v L, o = .returned v ∧ Q1 Z p0 h0 n0 v U'.heap L ∧ FrameEnd U o U' L ({ frames := 3, cells := 1, slots := 1, locals := 38 } : Room).cells ({ frames := 3, cells := 1, slots := 1, locals := 38 } : Room).slots) := by
  refine MetFree.of_bodySF (plainFor_of_name pn1) hisR ?_
  intro p e s m args below meth c s₁ Bd hml0 hP hK
  obtain ⟨rfl, hZ, hh⟩ := hP
  have hx := Bd.exec
  have hby := Bd.bytes
  have hml : c.maxLocals = 1 := hml0
  have hown : s.vm.findClass "java/lang/Integer" = some m.cls := findClass_of_methodNamed Bd.named
  have hnm := (name_of_methodNamed Bd.named Bd.method).1
  have X0 : Stand p l e ({ frames := 3, cells := 1, slots := 1, locals := 38 } : Room) s m #[(.int p0)] below meth c s₁ [] 0 0 := Stand.of_body Bd
  have e0 : s₁.heap = h0 := by rw [← hh, Bd.state]; rfl
  have N0 := Fr.nil n0
  refine own_fw (A := s₁.setTop (mkF m 0 #[.val (.int p0)] [])) (fun t k => castTop (ef1 m p0) k) ?_
  refine own_fw (A := s₁.setTop (mkF m 7 #[.val (.int p0)] [(.int p0)])) (fun t k => ?_) ?_
  · show Steps p.tables e below (s₁.setTop (mkF m 0 #[.val (.int p0)] [])) t
    refine XS.iloadN X0.here hx rfl (hb hby d1_0) rfl ?_
    show Steps p.tables e below (s₁.setTop (mkF m 1 #[.val (.int p0)] [(.int p0)])) t
    refine XS.bipush X0.here hx rfl (hb hby d1_1) ?_
    show Steps p.tables e below (s₁.setTop (mkF m 3 #[.val (.int p0)] [(.int (-128 : Int32)), (.int p0)])) t
    refine XS.icmpNo X0.here hx rfl (hb hby d1_3) rfl (flt hlo).1 ?_
    show Steps p.tables e below (s₁.setTop (mkF m 6 #[.val (.int p0)] [])) t
    refine XS.iloadN X0.here hx rfl (hb hby d1_6) rfl ?_
    exact k
  obtain ⟨T1_1, X1_1, e1_1, st1_1⟩ := getS2 X0 hx hZ hown (host := "") (Or.inl (hw _ (List.mem_of_getElem? (i := 5) rfl))) Via.refl e0 S_high (g := (mkF m 7 #[.val (.int p0)] [(.int p0)])) rfl (hb hby d1_7)
  refine own_fw st1_1 ?_
  by_cases hc1_1 : (127 : Int32) < p0
  · refine own_fw (A := T1_1.setTop (mkF m 23 #[.val (.int p0)] [])) (fun t k => ?_) ?_
    · show Steps p.tables e below (T1_1.setTop (mkF m 10 #[.val (.int p0)] [(.int (127 : Int32)), (.int p0)])) t
      refine XS.icmpYes X1_1.here hx rfl (pc0 := 10) (pc' := 23) rfl (hb hby d1_10) rfl (tlt hc1_1).2.2.1 (by decide) (by decide) ?_
      exact k
    obtain ⟨T1_2, h1_2, X1_2, e1_2, E1_2, A1_2, D1_2, -, st1_2⟩ := newO X1_1 hx hZ hown (hw _ (List.mem_of_getElem? (i := 46) rfl)) (hw _ (List.mem_of_getElem? (i := 47) rfl)) (hw _ (List.mem_of_getElem? (i := 3) rfl)) e1_1 (g := (mkF m 23 #[.val (.int p0)] [])) rfl (hb hby d1_23) (by decide) (by decide)
    obtain ⟨b1_2, g1_2⟩ : ∃ z, z = h0.size := ⟨_, rfl⟩
    rw [← g1_2] at A1_2 D1_2 st1_2
    have g_b1_2 : n0 ≤ b1_2 := Nat.le_trans Z0 (Nat.le_of_eq g1_2.symm)
    have sz_b1_2 : h0.size ≤ b1_2 := Nat.le_trans (Keep.refl h0 []).1 (Nat.le_of_eq g1_2.symm)
    have F_value_b1_2 : Fld Z h1_2 b1_2 "java/lang/Integer" "value" "I" (.int (0 : Int32)) := D1_2 (Or.inr (hw _ (List.mem_of_getElem? (i := 20) rfl))) (ty := .int) (by decide)
    refine own_fw st1_2 ?_
    refine own_fw (A := T1_2.setTop (mkF m 28 #[.val (.int p0)] [(.int p0), (.ref b1_2), (.ref b1_2)])) (fun t k => ?_) ?_
    · show Steps p.tables e below (T1_2.setTop (mkF m 26 #[.val (.int p0)] [(.ref b1_2)])) t
      refine XS.dup X1_2.here hx rfl (hb hby d1_26) rfl rfl ?_
      show Steps p.tables e below (T1_2.setTop (mkF m 27 #[.val (.int p0)] [(.ref b1_2), (.ref b1_2)])) t
      refine XS.iloadN X1_2.here hx rfl (hb hby d1_27) rfl ?_
      exact k
    obtain ⟨_, _, ⟨T1_3, L1_3, k1_3, n1_3⟩, -, X1_3, ⟨Lc1_3, hQ1_3, l1_3, y1_3, z1_3⟩, st1_3⟩ := X1_2.specialBack hx (y := (⟨"java/lang/Integer", "<init>", "(I)V"⟩ : MethodName)) rfl hown (mvT hZ (hw _ (List.mem_of_getElem? (i := 48) rfl))) (mvT hZ (hw _ (List.mem_of_getElem? (i := 49) rfl))) (mvT hZ (hw _ (List.mem_of_getElem? (i := 51) rfl))) (by decide) (backOf (W := 1) (rm9 l Z a0 hw [] b1_2 p0 h1_2 n0 (Nat.le_trans Z0 E1_2.1) A1_2 F_value_b1_2 g_b1_2) hZ (hw _ (List.mem_of_getElem? (i := 51) rfl)) (hw _ (List.mem_of_getElem? (i := 3) rfl)) (by decide) (by decide)) (g := (mkF m 28 #[.val (.int p0)] [(.int p0), (.ref b1_2), (.ref b1_2)])) rfl (by rw [hml]; rfl) (Steps.refl _) (a := b1_2) (argsL := [(.int p0)]) (rest := [(.ref b1_2)]) (lenOf pd1_0 rfl) rfl (by show 2 * 0 + _ ≤ _; exact Nat.le_of_eq rfl) (hb hby d1_28) (fun _ _ => ⟨rfl, e1_2, (by decide : 1 + 0 ≤ _), (by decide : 1 + 0 ≤ _)⟩)
    dsimp only [Pt.U, Pt.locs, Pt.cells, Pt.slots] at X1_3 l1_3 y1_3 z1_3 st1_3 hQ1_3
    subst l1_3 y1_3 z1_3
    obtain ⟨rfl, N1_3q, K1_3, Ex1_3, Fv1_3⟩ := hQ1_3
    have N1_3 := Fr.app N0 N1_3q
    refine own_fw (fun t k => st1_3.trans k) ?_
    obtain ⟨fs, hr, hrun, hended, hW, hsame⟩ := X1_3.leave (v := some (.ref b1_2)) (fun h => by rw [Bd.returns] at h; cases h)
    refine ⟨_, _, retA (ty := (.object "java/lang/Integer")) X1_3 hx rfl rfl Bd.returns (hb hby d1_31) hr, hrun, hended, _, _, rfl, ?_, ⟨_, rfl⟩, hW, hsame.mono (by decide) (by decide)⟩
    have eh : (T1_3.setFrames fs).heap = T1_3.heap := rfl
    rw [eh]
    exact ⟨b1_2, rfl, N1_3, (((Keep.refl h0 []).ext E1_2).trans K1_3 (fun x hx => by cases List.mem_singleton.mp hx; exact (Or.inr sz_b1_2))), Ex1_3, Fv1_3⟩
  · refine own_fw (A := T1_1.setTop (mkF m 13 #[.val (.int p0)] [])) (fun t k => ?_) ?_
    · show Steps p.tables e below (T1_1.setTop (mkF m 10 #[.val (.int p0)] [(.int (127 : Int32)), (.int p0)])) t
      refine XS.icmpNo X1_1.here hx rfl (hb hby d1_10) rfl (flt hc1_1).2.2.1 ?_
      exact k
    obtain ⟨T1_4, X1_4, e1_4, st1_4⟩ := getS2 X1_1 hx hZ hown (host := "") (Or.inl (hw _ (List.mem_of_getElem? (i := 7) rfl))) Via.refl e1_1 S_cache (g := (mkF m 13 #[.val (.int p0)] [])) rfl (hb hby d1_13)
    refine own_fw st1_4 ?_
    refine own_fw (A := T1_4.setTop (mkF m 21 #[.val (.int p0)] [(.int (p0 + (128 : Int32))), (.ref ca)])) (fun t k => ?_) ?_
    · show Steps p.tables e below (T1_4.setTop (mkF m 16 #[.val (.int p0)] [(.ref ca)])) t
      refine XS.iloadN X1_4.here hx rfl (hb hby d1_16) rfl ?_
      show Steps p.tables e below (T1_4.setTop (mkF m 17 #[.val (.int p0)] [(.int p0), (.ref ca)])) t
      refine XS.sipush X1_4.here hx rfl (hb hby d1_17) ?_
      show Steps p.tables e below (T1_4.setTop (mkF m 20 #[.val (.int p0)] [(.int (128 : Int32)), (.int p0), (.ref ca)])) t
      refine XS.iadd X1_4.here hx rfl (hb hby d1_20) rfl ?_
      exact k
    obtain ⟨Ar, Sz, Ng⟩ := Bx.ext O.2
    have hin := own_in p0 Sz hlo hc1_1
    obtain ⟨b, hat, Eb, Fb⟩ := Bx.2.2.2 (p0 + (128 : Int32)) hin
    dsimp only at Fb
    rw [own_sub] at Fb
    refine own_fw (X1_4.aaload hx (j := (p0 + (128 : Int32))) (v := .ref b) (by rw [e1_4]; exact Ar.1) (State.isArrayOf_alike hZ.alike Ar.2.1) rfl Ar.2.2 hin hat (g := (mkF m 21 #[.val (.int p0)] [(.int (p0 + (128 : Int32))), (.ref ca)])) rfl rfl (hb hby d1_21)) ?_
    obtain ⟨fs, hr, hrun, hended, hW, hsame⟩ := X1_4.leave (v := some (.ref b)) (fun h => by rw [Bd.returns] at h; cases h)
    refine ⟨_, _, retA (ty := (.object "java/lang/Integer")) X1_4 hx rfl rfl Bd.returns (hb hby d1_22) hr, hrun, hended, _, _, rfl, ?_, ⟨_, rfl⟩, hW, hsame.mono (by decide) (by decide)⟩
    have eh : (T1_4.setFrames fs).heap = h0 := e1_4
    rw [eh]
    exact ⟨b, rfl, N0, (Keep.refl h0 []), (Eb.ext O.2), (Fb.ext O.2)⟩
def Q2 (Z : State) (u v : Int32) (h0 : Heap) (n0 : Nat) (w : Option Value) (h : Heap) (L : List Loc) : Prop := ∃ b, w = some (.ref b) ∧ Fr n0 L ∧ Keep h0 h [] ∧ Exa Z h b "com/example/kido2/kido2/identity/PageRequest" ∧ Fld Z h b "com/example/kido2/kido2/identity/PageRequest" "page" "I" (.int u) ∧ Fld Z h b "com/example/kido2/kido2/identity/PageRequest" "size" "I" (.int v)
theorem d2_0 : decode prog_12_method_2_code 0 = .ok (.new 14, 3) := by decide +kernel
theorem d2_3 : decode prog_12_method_2_code 3 = .ok (.dup, 1) := by decide +kernel
theorem d2_4 : decode prog_12_method_2_code 4 = .ok (.aload_n 0, 1) := by decide +kernel
theorem d2_5 : decode prog_12_method_2_code 5 = .ok (.ifnonnull 7, 3) := by decide +kernel
theorem d2_8 : decode prog_12_method_2_code 8 = .ok (.iconst 0, 1) := by decide +kernel
theorem d2_9 : decode prog_12_method_2_code 9 = .ok (.goto 7, 3) := by decide +kernel
theorem d2_12 : decode prog_12_method_2_code 12 = .ok (.aload_n 0, 1) := by decide +kernel
theorem d2_13 : decode prog_12_method_2_code 13 = .ok (.invokevirtual 25, 3) := by decide +kernel
theorem d2_16 : decode prog_12_method_2_code 16 = .ok (.aload_n 1, 1) := by decide +kernel
theorem d2_17 : decode prog_12_method_2_code 17 = .ok (.ifnonnull 8, 3) := by decide +kernel
theorem d2_20 : decode prog_12_method_2_code 20 = .ok (.bipush 50, 2) := by decide +kernel
theorem d2_22 : decode prog_12_method_2_code 22 = .ok (.goto 7, 3) := by decide +kernel
theorem d2_25 : decode prog_12_method_2_code 25 = .ok (.aload_n 1, 1) := by decide +kernel
theorem d2_26 : decode prog_12_method_2_code 26 = .ok (.invokevirtual 25, 3) := by decide +kernel
theorem d2_29 : decode prog_12_method_2_code 29 = .ok (.invokespecial 31, 3) := by decide +kernel
theorem d2_32 : decode prog_12_method_2_code 32 = .ok (.areturn, 1) := by decide +kernel
theorem pn2 : plainName "com/example/kido2/kido2/identity/PageRequest" = true := by first | (simp [plainName, overriddenIn]; done) | decide +kernel
theorem pd2_0 : parseMethodDescriptor "()I" = some ⟨[], some .int⟩ := by decide +kernel
theorem pd2_1 : parseMethodDescriptor "(II)V" = some ⟨[.int, .int], none⟩ := by decide +kernel
theorem ef2_x (m : MethodId) (r0 : Addr) (r1 : Addr) : entryFrame m #[(.ref r0), (.ref r1)] 2 = mkF m 0 #[.val (.ref r0), .val (.ref r1)] [] := by first | (simp [entryFrame, mkF, argsToLocals, Value.category]; done) | rfl
theorem ef2_00 (m : MethodId) (r0 : Addr) (r1 : Addr) : entryFrame m #[(.ref r0), (.ref r1)] 2 = mkF m 0 #[.val (.ref r0), .val (.ref r1)] [] := by first | (simp [entryFrame, mkF, argsToLocals, Value.category]; done) | rfl
set_option maxRecDepth 65536 in
set_option maxHeartbeats 40000000 in
theorem rmO_00 (l : Launch) (Z : State) (a0 : Array Value) (hw : ∀ d ∈ tables_1, d.before a0 Z = true) (ws : List Jvm.Cond) (r0 : Addr) (r1 : Addr) (u : Int32) (u2 : Int32) (h0 : Heap) (n0 : Nat) (Z0 : n0 ≤ h0.size) (E_r0 : Exa Z h0 r0 "java/lang/Integer") (F_r0 : Fld Z h0 r0 "java/lang/Integer" "value" "I" (.int u)) (hc5 : ¬ (u < (0 : Int32))) (E_r1 : Exa Z h0 r1 "java/lang/Integer") (F_r1 : Fld Z h0 r1 "java/lang/Integer" "value" "I" (.int u2)) (hc20 : ¬ (u2 < (1 : Int32))) (hc27 : ¬ ((200 : Int32) < u2)) :
    MetFree l (⟨"com/example/kido2/kido2/identity/PageRequest", "of", "(Ljava/lang/Integer;Ljava/lang/Integer;)Lcom/example/kido2/kido2/identity/PageRequest;"⟩ : MethodName) (head1 (Jvm.Cond.code (⟨"com/example/kido2/kido2/identity/PageRequest", "of", "(Ljava/lang/Integer;Ljava/lang/Integer;)Lcom/example/kido2/kido2/identity/PageRequest;"⟩ : MethodName) prog_12_method_2_code 2 (some (.object "com/example/kido2/kido2/identity/PageRequest")) :: ws) ({ frames := 3, cells := 1, slots := 2, locals := 39 } : Room)) (fun a U => a = #[(.ref r0), (.ref r1)] ∧ Z.Warmed39 U.vm ∧ U.heap = h0) (fun _ _ _ _ _ => True) (fun _ U o U' => ∃ v L, o = .returned v ∧ Q2 Z u u2 h0 n0 v U'.heap L ∧ FrameEnd U o U' L ({ frames := 3, cells := 1, slots := 2, locals := 39 } : Room).cells ({ frames := 3, cells := 1, slots := 2, locals := 39 } : Room).slots) := by
  refine MetFree.of_bodySF (plainFor_of_name pn2) hisR ?_
  intro p e s m args below meth c s₁ Bd hml0 hP hK
  obtain ⟨rfl, hZ, hh⟩ := hP
  have hx := Bd.exec
  have hby := Bd.bytes
  have hml : c.maxLocals = 2 := hml0
  have hown : s.vm.findClass "com/example/kido2/kido2/identity/PageRequest" = some m.cls := findClass_of_methodNamed Bd.named
  have hnm := (name_of_methodNamed Bd.named Bd.method).1
  have X0 : Stand p l e ({ frames := 3, cells := 1, slots := 2, locals := 39 } : Room) s m #[(.ref r0), (.ref r1)] below meth c s₁ [] 0 0 := Stand.of_body Bd
  have e0 : s₁.heap = h0 := by rw [← hh, Bd.state]; rfl
  have N0 := Fr.nil n0
  refine own_fw (A := s₁.setTop (mkF m 0 #[.val (.ref r0), .val (.ref r1)] [])) (fun t k => castTop (ef2_00 m r0 r1) k) ?_
  obtain ⟨T2_1, h2_1, X2_1, e2_1, E2_1, A2_1, D2_1, -, st2_1⟩ := newO X0 hx hZ hown (hw _ (List.mem_of_getElem? (i := 12) rfl)) (hw _ (List.mem_of_getElem? (i := 13) rfl)) (hw _ (List.mem_of_getElem? (i := 10) rfl)) e0 (g := (mkF m 0 #[.val (.ref r0), .val (.ref r1)] [])) rfl (hb hby d2_0) (by decide) (by decide)
  obtain ⟨b2_1, g2_1⟩ : ∃ z, z = h0.size := ⟨_, rfl⟩
  rw [← g2_1] at A2_1 D2_1 st2_1
  have ne_r0_b2_1 : r0 ≠ b2_1 := Nat.ne_of_lt (Nat.lt_of_lt_of_le E_r0.lt (Nat.le_of_eq g2_1.symm))
  have ne_r1_b2_1 : r1 ≠ b2_1 := Nat.ne_of_lt (Nat.lt_of_lt_of_le E_r1.lt (Nat.le_of_eq g2_1.symm))
  have g_b2_1 : n0 ≤ b2_1 := Nat.le_trans Z0 (Nat.le_of_eq g2_1.symm)
  have sz_b2_1 : h0.size ≤ b2_1 := Nat.le_trans (Keep.refl h0 []).1 (Nat.le_of_eq g2_1.symm)
  have F_page_b2_1 : Fld Z h2_1 b2_1 "com/example/kido2/kido2/identity/PageRequest" "page" "I" (.int (0 : Int32)) := D2_1 (Or.inr (hw _ (List.mem_of_getElem? (i := 33) rfl))) (ty := .int) (by decide)
  have F_size_b2_1 : Fld Z h2_1 b2_1 "com/example/kido2/kido2/identity/PageRequest" "size" "I" (.int (0 : Int32)) := D2_1 (Or.inr (hw _ (List.mem_of_getElem? (i := 35) rfl))) (ty := .int) (by decide)
  refine own_fw st2_1 ?_
  refine own_fw (A := T2_1.setTop (mkF m 5 #[.val (.ref r0), .val (.ref r1)] [(.ref r0), (.ref b2_1), (.ref b2_1)])) (fun t k => ?_) ?_
  · show Steps p.tables e below (T2_1.setTop (mkF m 3 #[.val (.ref r0), .val (.ref r1)] [(.ref b2_1)])) t
    refine XS.dup X2_1.here hx rfl (hb hby d2_3) rfl rfl ?_
    show Steps p.tables e below (T2_1.setTop (mkF m 4 #[.val (.ref r0), .val (.ref r1)] [(.ref b2_1), (.ref b2_1)])) t
    refine XS.aloadN X2_1.here hx rfl (hb hby d2_4) rfl rfl ?_
    exact k
  refine own_fw (A := T2_1.setTop (mkF m 12 #[.val (.ref r0), .val (.ref r1)] [(.ref b2_1), (.ref b2_1)])) (fun t k => ?_) ?_
  · show Steps p.tables e below (T2_1.setTop (mkF m 5 #[.val (.ref r0), .val (.ref r1)] [(.ref r0), (.ref b2_1), (.ref b2_1)])) t
    refine XS.ifnonnullYes X2_1.here hx rfl (pc0 := 5) (pc' := 12) rfl (hb hby d2_5) rfl (by decide) (by decide) ?_
    exact k
  refine own_fw (A := T2_1.setTop (mkF m 13 #[.val (.ref r0), .val (.ref r1)] [(.ref r0), (.ref b2_1), (.ref b2_1)])) (fun t k => ?_) ?_
  · show Steps p.tables e below (T2_1.setTop (mkF m 12 #[.val (.ref r0), .val (.ref r1)] [(.ref b2_1), (.ref b2_1)])) t
    refine XS.aloadN X2_1.here hx rfl (hb hby d2_12) rfl rfl ?_
    exact k
  obtain ⟨cq2_2, kq2_2, q2_2a, q2_2b, q2_2c⟩ := isOf hZ e2_1 (E_r0.ext E2_1)
  obtain ⟨_, _, ⟨T2_2, L2_2, k2_2, n2_2⟩, -, X2_2, ⟨Lc2_2, hQ2_2, l2_2, y2_2, z2_2⟩, st2_2⟩ := X2_1.virtualBack hx (y := (⟨"java/lang/Integer", "intValue", "()I"⟩ : MethodName)) (z := (⟨"java/lang/Integer", "intValue", "()I"⟩ : MethodName)) hown (mvT hZ (hw _ (List.mem_of_getElem? (i := 14) rfl))) (mvT hZ (hw _ (List.mem_of_getElem? (i := 15) rfl))) (notFace_of_selects (args := #[]) (mvT hZ (hw _ (List.mem_of_getElem? (i := 17) rfl)))) (mvT hZ (hw _ (List.mem_of_getElem? (i := 17) rfl))) (mvT hZ (hw _ (List.mem_of_getElem? (i := 16) rfl))) (by decide) (backOf (W := 2) (rm3 l Z a0 hw [] r0 u h2_1 n0 (Nat.le_trans Z0 E2_1.1) (F_r0.ext E2_1)) hZ (hw _ (List.mem_of_getElem? (i := 18) rfl)) (hw _ (List.mem_of_getElem? (i := 3) rfl)) (by decide) (by decide)) q2_2a q2_2c (g := (mkF m 13 #[.val (.ref r0), .val (.ref r1)] [(.ref r0), (.ref b2_1), (.ref b2_1)])) rfl (by rw [hml]; rfl) (Steps.refl _) (argsL := []) (rest := [(.ref b2_1), (.ref b2_1)]) (lenOf pd2_0 rfl) rfl (by show 2 * 0 + _ ≤ _; exact Nat.le_of_eq rfl) (hb hby d2_13) (fun _ _ => ⟨rfl, e2_1, (by decide : 1 + 0 ≤ _), (by decide : 2 + 0 ≤ _)⟩)
  dsimp only [Pt.U, Pt.locs, Pt.cells, Pt.slots] at X2_2 l2_2 y2_2 z2_2 st2_2 hQ2_2
  subst l2_2 y2_2 z2_2
  obtain ⟨rfl, N2_2q, e2_2⟩ := hQ2_2
  have N2_2 := Fr.app N0 N2_2q
  refine own_fw (fun t k => st2_2.trans k) ?_
  refine own_fw (A := T2_2.setTop (mkF m 17 #[.val (.ref r0), .val (.ref r1)] [(.ref r1), (.int u), (.ref b2_1), (.ref b2_1)])) (fun t k => ?_) ?_
  · show Steps p.tables e below (T2_2.setTop (mkF m 16 #[.val (.ref r0), .val (.ref r1)] [(.int u), (.ref b2_1), (.ref b2_1)])) t
    refine XS.aloadN X2_2.here hx rfl (hb hby d2_16) rfl rfl ?_
    exact k
  refine own_fw (A := T2_2.setTop (mkF m 25 #[.val (.ref r0), .val (.ref r1)] [(.int u), (.ref b2_1), (.ref b2_1)])) (fun t k => ?_) ?_
  · show Steps p.tables e below (T2_2.setTop (mkF m 17 #[.val (.ref r0), .val (.ref r1)] [(.ref r1), (.int u), (.ref b2_1), (.ref b2_1)])) t
    refine XS.ifnonnullYes X2_2.here hx rfl (pc0 := 17) (pc' := 25) rfl (hb hby d2_17) rfl (by decide) (by decide) ?_
    exact k
  refine own_fw (A := T2_2.setTop (mkF m 26 #[.val (.ref r0), .val (.ref r1)] [(.ref r1), (.int u), (.ref b2_1), (.ref b2_1)])) (fun t k => ?_) ?_
  · show Steps p.tables e below (T2_2.setTop (mkF m 25 #[.val (.ref r0), .val (.ref r1)] [(.int u), (.ref b2_1), (.ref b2_1)])) t
    refine XS.aloadN X2_2.here hx rfl (hb hby d2_25) rfl rfl ?_
    exact k
  obtain ⟨cq2_3, kq2_3, q2_3a, q2_3b, q2_3c⟩ := isOf hZ e2_2 (E_r1.ext E2_1)
  obtain ⟨_, _, ⟨T2_3, L2_3, k2_3, n2_3⟩, -, X2_3, ⟨Lc2_3, hQ2_3, l2_3, y2_3, z2_3⟩, st2_3⟩ := X2_2.virtualBack hx (y := (⟨"java/lang/Integer", "intValue", "()I"⟩ : MethodName)) (z := (⟨"java/lang/Integer", "intValue", "()I"⟩ : MethodName)) hown (mvT hZ (hw _ (List.mem_of_getElem? (i := 14) rfl))) (mvT hZ (hw _ (List.mem_of_getElem? (i := 15) rfl))) (notFace_of_selects (args := #[]) (mvT hZ (hw _ (List.mem_of_getElem? (i := 17) rfl)))) (mvT hZ (hw _ (List.mem_of_getElem? (i := 17) rfl))) (mvT hZ (hw _ (List.mem_of_getElem? (i := 16) rfl))) (by decide) (backOf (W := 3) (rm3 l Z a0 hw [] r1 u2 h2_1 n0 (Nat.le_trans Z0 E2_1.1) (F_r1.ext E2_1)) hZ (hw _ (List.mem_of_getElem? (i := 18) rfl)) (hw _ (List.mem_of_getElem? (i := 3) rfl)) (by decide) (by decide)) q2_3a q2_3c (g := (mkF m 26 #[.val (.ref r0), .val (.ref r1)] [(.ref r1), (.int u), (.ref b2_1), (.ref b2_1)])) rfl (by rw [hml]; rfl) (Steps.refl _) (argsL := []) (rest := [(.int u), (.ref b2_1), (.ref b2_1)]) (lenOf pd2_0 rfl) rfl (by show 2 * 0 + _ ≤ _; exact Nat.le_of_eq rfl) (hb hby d2_26) (fun _ _ => ⟨rfl, e2_2, (by decide : 1 + 0 ≤ _), (by decide : 2 + 0 ≤ _)⟩)
  dsimp only [Pt.U, Pt.locs, Pt.cells, Pt.slots] at X2_3 l2_3 y2_3 z2_3 st2_3 hQ2_3
  subst l2_3 y2_3 z2_3
  obtain ⟨rfl, N2_3q, e2_3⟩ := hQ2_3
  have N2_3 := Fr.app N2_2 N2_3q
  refine own_fw (fun t k => st2_3.trans k) ?_
  obtain ⟨_, _, ⟨T2_4, L2_4, k2_4, n2_4⟩, -, X2_4, ⟨Lc2_4, hQ2_4, l2_4, y2_4, z2_4⟩, st2_4⟩ := X2_3.specialBack hx (y := (⟨"com/example/kido2/kido2/identity/PageRequest", "<init>", "(II)V"⟩ : MethodName)) rfl hown (mvT hZ (hw _ (List.mem_of_getElem? (i := 21) rfl))) (mvT hZ (hw _ (List.mem_of_getElem? (i := 22) rfl))) (mvT hZ (hw _ (List.mem_of_getElem? (i := 23) rfl))) (by decide) (backOf (W := 1) (rm4 l Z a0 hw [] b2_1 (u) (u2) h2_1 n0 (Nat.le_trans Z0 E2_1.1) A2_1 F_page_b2_1 F_size_b2_1 g_b2_1 hc5 hc20 hc27) hZ (hw _ (List.mem_of_getElem? (i := 23) rfl)) (hw _ (List.mem_of_getElem? (i := 10) rfl)) (by decide) (by decide)) (g := (mkF m 29 #[.val (.ref r0), .val (.ref r1)] [(.int u2), (.int u), (.ref b2_1), (.ref b2_1)])) rfl (by rw [hml]; rfl) (Steps.refl _) (a := b2_1) (argsL := [(.int u), (.int u2)]) (rest := [(.ref b2_1)]) (lenOf pd2_1 rfl) rfl (by show 2 * 0 + _ ≤ _; exact Nat.le_of_eq rfl) (hb hby d2_29) (fun _ _ => ⟨rfl, e2_3, (by decide : 1 + 0 ≤ _), (by decide : 2 + 0 ≤ _)⟩)
  dsimp only [Pt.U, Pt.locs, Pt.cells, Pt.slots] at X2_4 l2_4 y2_4 z2_4 st2_4 hQ2_4
  subst l2_4 y2_4 z2_4
  obtain ⟨rfl, N2_4q, K2_4, Ex2_4, Fp2_4, Fs2_4⟩ := hQ2_4
  have N2_4 := Fr.app N2_3 N2_4q
  refine own_fw (fun t k => st2_4.trans k) ?_
  obtain ⟨fs, hr, hrun, hended, hW, hsame⟩ := X2_4.leave (v := some (.ref b2_1)) (fun h => by rw [Bd.returns] at h; cases h)
  refine ⟨_, _, retA (ty := (.object "com/example/kido2/kido2/identity/PageRequest")) X2_4 hx rfl rfl Bd.returns (hb hby d2_32) hr, hrun, hended, _, _, rfl, ?_, ⟨_, rfl⟩, hW, hsame.mono (by decide) (by decide)⟩
  have eh : (T2_4.setFrames fs).heap = T2_4.heap := rfl
  rw [eh]
  exact ⟨b2_1, rfl, N2_4, (((Keep.refl h0 []).ext E2_1).trans K2_4 (fun x hx => by cases List.mem_singleton.mp hx; exact (Or.inr sz_b2_1))), Ex2_4, Fp2_4, Fs2_4⟩
theorem ef2_01 (m : MethodId) (r0 : Addr) : entryFrame m #[(.ref r0), .null] 2 = mkF m 0 #[.val (.ref r0), .val .null] [] := by first | (simp [entryFrame, mkF, argsToLocals, Value.category]; done) | rfl
set_option maxRecDepth 65536 in
set_option maxHeartbeats 40000000 in
theorem rmO_01 (l : Launch) (Z : State) (a0 : Array Value) (hw : ∀ d ∈ tables_1, d.before a0 Z = true) (ws : List Jvm.Cond) (r0 : Addr) (u : Int32) (h0 : Heap) (n0 : Nat) (Z0 : n0 ≤ h0.size) (E_r0 : Exa Z h0 r0 "java/lang/Integer") (F_r0 : Fld Z h0 r0 "java/lang/Integer" "value" "I" (.int u)) (hc5 : ¬ (u < (0 : Int32))) :
    MetFree l (⟨"com/example/kido2/kido2/identity/PageRequest", "of", "(Ljava/lang/Integer;Ljava/lang/Integer;)Lcom/example/kido2/kido2/identity/PageRequest;"⟩ : MethodName) (head1 (Jvm.Cond.code (⟨"com/example/kido2/kido2/identity/PageRequest", "of", "(Ljava/lang/Integer;Ljava/lang/Integer;)Lcom/example/kido2/kido2/identity/PageRequest;"⟩ : MethodName) prog_12_method_2_code 2 (some (.object "com/example/kido2/kido2/identity/PageRequest")) :: ws) ({ frames := 3, cells := 1, slots := 2, locals := 39 } : Room)) (fun a U => a = #[(.ref r0), .null] ∧ Z.Warmed39 U.vm ∧ U.heap = h0) (fun _ _ _ _ _ => True) (fun _ U o U' => ∃ v L, o = .returned v ∧ Q2 Z u (50 : Int32) h0 n0 v U'.heap L ∧ FrameEnd U o U' L ({ frames := 3, cells := 1, slots := 2, locals := 39 } : Room).cells ({ frames := 3, cells := 1, slots := 2, locals := 39 } : Room).slots) := by
  refine MetFree.of_bodySF (plainFor_of_name pn2) hisR ?_
  intro p e s m args below meth c s₁ Bd hml0 hP hK
  obtain ⟨rfl, hZ, hh⟩ := hP
  have hx := Bd.exec
  have hby := Bd.bytes
  have hml : c.maxLocals = 2 := hml0
  have hown : s.vm.findClass "com/example/kido2/kido2/identity/PageRequest" = some m.cls := findClass_of_methodNamed Bd.named
  have hnm := (name_of_methodNamed Bd.named Bd.method).1
  have X0 : Stand p l e ({ frames := 3, cells := 1, slots := 2, locals := 39 } : Room) s m #[(.ref r0), .null] below meth c s₁ [] 0 0 := Stand.of_body Bd
  have e0 : s₁.heap = h0 := by rw [← hh, Bd.state]; rfl
  have N0 := Fr.nil n0
  refine own_fw (A := s₁.setTop (mkF m 0 #[.val (.ref r0), .val .null] [])) (fun t k => castTop (ef2_01 m r0) k) ?_
  obtain ⟨T2_1, h2_1, X2_1, e2_1, E2_1, A2_1, D2_1, -, st2_1⟩ := newO X0 hx hZ hown (hw _ (List.mem_of_getElem? (i := 12) rfl)) (hw _ (List.mem_of_getElem? (i := 13) rfl)) (hw _ (List.mem_of_getElem? (i := 10) rfl)) e0 (g := (mkF m 0 #[.val (.ref r0), .val .null] [])) rfl (hb hby d2_0) (by decide) (by decide)
  obtain ⟨b2_1, g2_1⟩ : ∃ z, z = h0.size := ⟨_, rfl⟩
  rw [← g2_1] at A2_1 D2_1 st2_1
  have ne_r0_b2_1 : r0 ≠ b2_1 := Nat.ne_of_lt (Nat.lt_of_lt_of_le E_r0.lt (Nat.le_of_eq g2_1.symm))
  have g_b2_1 : n0 ≤ b2_1 := Nat.le_trans Z0 (Nat.le_of_eq g2_1.symm)
  have sz_b2_1 : h0.size ≤ b2_1 := Nat.le_trans (Keep.refl h0 []).1 (Nat.le_of_eq g2_1.symm)
  have F_page_b2_1 : Fld Z h2_1 b2_1 "com/example/kido2/kido2/identity/PageRequest" "page" "I" (.int (0 : Int32)) := D2_1 (Or.inr (hw _ (List.mem_of_getElem? (i := 33) rfl))) (ty := .int) (by decide)
  have F_size_b2_1 : Fld Z h2_1 b2_1 "com/example/kido2/kido2/identity/PageRequest" "size" "I" (.int (0 : Int32)) := D2_1 (Or.inr (hw _ (List.mem_of_getElem? (i := 35) rfl))) (ty := .int) (by decide)
  refine own_fw st2_1 ?_
  refine own_fw (A := T2_1.setTop (mkF m 5 #[.val (.ref r0), .val .null] [(.ref r0), (.ref b2_1), (.ref b2_1)])) (fun t k => ?_) ?_
  · show Steps p.tables e below (T2_1.setTop (mkF m 3 #[.val (.ref r0), .val .null] [(.ref b2_1)])) t
    refine XS.dup X2_1.here hx rfl (hb hby d2_3) rfl rfl ?_
    show Steps p.tables e below (T2_1.setTop (mkF m 4 #[.val (.ref r0), .val .null] [(.ref b2_1), (.ref b2_1)])) t
    refine XS.aloadN X2_1.here hx rfl (hb hby d2_4) rfl rfl ?_
    exact k
  refine own_fw (A := T2_1.setTop (mkF m 12 #[.val (.ref r0), .val .null] [(.ref b2_1), (.ref b2_1)])) (fun t k => ?_) ?_
  · show Steps p.tables e below (T2_1.setTop (mkF m 5 #[.val (.ref r0), .val .null] [(.ref r0), (.ref b2_1), (.ref b2_1)])) t
    refine XS.ifnonnullYes X2_1.here hx rfl (pc0 := 5) (pc' := 12) rfl (hb hby d2_5) rfl (by decide) (by decide) ?_
    exact k
  refine own_fw (A := T2_1.setTop (mkF m 13 #[.val (.ref r0), .val .null] [(.ref r0), (.ref b2_1), (.ref b2_1)])) (fun t k => ?_) ?_
  · show Steps p.tables e below (T2_1.setTop (mkF m 12 #[.val (.ref r0), .val .null] [(.ref b2_1), (.ref b2_1)])) t
    refine XS.aloadN X2_1.here hx rfl (hb hby d2_12) rfl rfl ?_
    exact k
  obtain ⟨cq2_2, kq2_2, q2_2a, q2_2b, q2_2c⟩ := isOf hZ e2_1 (E_r0.ext E2_1)
  obtain ⟨_, _, ⟨T2_2, L2_2, k2_2, n2_2⟩, -, X2_2, ⟨Lc2_2, hQ2_2, l2_2, y2_2, z2_2⟩, st2_2⟩ := X2_1.virtualBack hx (y := (⟨"java/lang/Integer", "intValue", "()I"⟩ : MethodName)) (z := (⟨"java/lang/Integer", "intValue", "()I"⟩ : MethodName)) hown (mvT hZ (hw _ (List.mem_of_getElem? (i := 14) rfl))) (mvT hZ (hw _ (List.mem_of_getElem? (i := 15) rfl))) (notFace_of_selects (args := #[]) (mvT hZ (hw _ (List.mem_of_getElem? (i := 17) rfl)))) (mvT hZ (hw _ (List.mem_of_getElem? (i := 17) rfl))) (mvT hZ (hw _ (List.mem_of_getElem? (i := 16) rfl))) (by decide) (backOf (W := 2) (rm3 l Z a0 hw [] r0 u h2_1 n0 (Nat.le_trans Z0 E2_1.1) (F_r0.ext E2_1)) hZ (hw _ (List.mem_of_getElem? (i := 18) rfl)) (hw _ (List.mem_of_getElem? (i := 3) rfl)) (by decide) (by decide)) q2_2a q2_2c (g := (mkF m 13 #[.val (.ref r0), .val .null] [(.ref r0), (.ref b2_1), (.ref b2_1)])) rfl (by rw [hml]; rfl) (Steps.refl _) (argsL := []) (rest := [(.ref b2_1), (.ref b2_1)]) (lenOf pd2_0 rfl) rfl (by show 2 * 0 + _ ≤ _; exact Nat.le_of_eq rfl) (hb hby d2_13) (fun _ _ => ⟨rfl, e2_1, (by decide : 1 + 0 ≤ _), (by decide : 2 + 0 ≤ _)⟩)
  dsimp only [Pt.U, Pt.locs, Pt.cells, Pt.slots] at X2_2 l2_2 y2_2 z2_2 st2_2 hQ2_2
  subst l2_2 y2_2 z2_2
  obtain ⟨rfl, N2_2q, e2_2⟩ := hQ2_2
  have N2_2 := Fr.app N0 N2_2q
  refine own_fw (fun t k => st2_2.trans k) ?_
  refine own_fw (A := T2_2.setTop (mkF m 17 #[.val (.ref r0), .val .null] [.null, (.int u), (.ref b2_1), (.ref b2_1)])) (fun t k => ?_) ?_
  · show Steps p.tables e below (T2_2.setTop (mkF m 16 #[.val (.ref r0), .val .null] [(.int u), (.ref b2_1), (.ref b2_1)])) t
    refine XS.aloadN X2_2.here hx rfl (hb hby d2_16) rfl rfl ?_
    exact k
  refine own_fw (A := T2_2.setTop (mkF m 20 #[.val (.ref r0), .val .null] [(.int u), (.ref b2_1), (.ref b2_1)])) (fun t k => ?_) ?_
  · show Steps p.tables e below (T2_2.setTop (mkF m 17 #[.val (.ref r0), .val .null] [.null, (.int u), (.ref b2_1), (.ref b2_1)])) t
    refine XS.ifnonnullNo X2_2.here hx rfl (hb hby d2_17) rfl ?_
    exact k
  refine own_fw (A := T2_2.setTop (mkF m 29 #[.val (.ref r0), .val .null] [(.int (50 : Int32)), (.int u), (.ref b2_1), (.ref b2_1)])) (fun t k => ?_) ?_
  · show Steps p.tables e below (T2_2.setTop (mkF m 20 #[.val (.ref r0), .val .null] [(.int u), (.ref b2_1), (.ref b2_1)])) t
    refine XS.bipush X2_2.here hx rfl (hb hby d2_20) ?_
    show Steps p.tables e below (T2_2.setTop (mkF m 22 #[.val (.ref r0), .val .null] [(.int (50 : Int32)), (.int u), (.ref b2_1), (.ref b2_1)])) t
    refine XS.goto X2_2.here hx rfl (pc0 := 22) (pc' := 29) rfl (hb hby d2_22) (by decide) (by decide) ?_
    exact k
  obtain ⟨_, _, ⟨T2_3, L2_3, k2_3, n2_3⟩, -, X2_3, ⟨Lc2_3, hQ2_3, l2_3, y2_3, z2_3⟩, st2_3⟩ := X2_2.specialBack hx (y := (⟨"com/example/kido2/kido2/identity/PageRequest", "<init>", "(II)V"⟩ : MethodName)) rfl hown (mvT hZ (hw _ (List.mem_of_getElem? (i := 21) rfl))) (mvT hZ (hw _ (List.mem_of_getElem? (i := 22) rfl))) (mvT hZ (hw _ (List.mem_of_getElem? (i := 23) rfl))) (by decide) (backOf (W := 1) (rm4 l Z a0 hw [] b2_1 (u) ((50 : Int32)) h2_1 n0 (Nat.le_trans Z0 E2_1.1) A2_1 F_page_b2_1 F_size_b2_1 g_b2_1 hc5 (by decide) (by decide)) hZ (hw _ (List.mem_of_getElem? (i := 23) rfl)) (hw _ (List.mem_of_getElem? (i := 10) rfl)) (by decide) (by decide)) (g := (mkF m 29 #[.val (.ref r0), .val .null] [(.int (50 : Int32)), (.int u), (.ref b2_1), (.ref b2_1)])) rfl (by rw [hml]; rfl) (Steps.refl _) (a := b2_1) (argsL := [(.int u), (.int (50 : Int32))]) (rest := [(.ref b2_1)]) (lenOf pd2_1 rfl) rfl (by show 2 * 0 + _ ≤ _; exact Nat.le_of_eq rfl) (hb hby d2_29) (fun _ _ => ⟨rfl, e2_2, (by decide : 1 + 0 ≤ _), (by decide : 2 + 0 ≤ _)⟩)
  dsimp only [Pt.U, Pt.locs, Pt.cells, Pt.slots] at X2_3 l2_3 y2_3 z2_3 st2_3 hQ2_3
  subst l2_3 y2_3 z2_3
  obtain ⟨rfl, N2_3q, K2_3, Ex2_3, Fp2_3, Fs2_3⟩ := hQ2_3
  have N2_3 := Fr.app N2_2 N2_3q
  refine own_fw (fun t k => st2_3.trans k) ?_
  obtain ⟨fs, hr, hrun, hended, hW, hsame⟩ := X2_3.leave (v := some (.ref b2_1)) (fun h => by rw [Bd.returns] at h; cases h)
  refine ⟨_, _, retA (ty := (.object "com/example/kido2/kido2/identity/PageRequest")) X2_3 hx rfl rfl Bd.returns (hb hby d2_32) hr, hrun, hended, _, _, rfl, ?_, ⟨_, rfl⟩, hW, hsame.mono (by decide) (by decide)⟩
  have eh : (T2_3.setFrames fs).heap = T2_3.heap := rfl
  rw [eh]
  exact ⟨b2_1, rfl, N2_3, (((Keep.refl h0 []).ext E2_1).trans K2_3 (fun x hx => by cases List.mem_singleton.mp hx; exact (Or.inr sz_b2_1))), Ex2_3, Fp2_3, Fs2_3⟩
theorem ef2_10 (m : MethodId) (r1 : Addr) : entryFrame m #[.null, (.ref r1)] 2 = mkF m 0 #[.val .null, .val (.ref r1)] [] := by first | (simp [entryFrame, mkF, argsToLocals, Value.category]; done) | rfl
set_option maxRecDepth 65536 in
set_option maxHeartbeats 40000000 in
theorem rmO_10 (l : Launch) (Z : State) (a0 : Array Value) (hw : ∀ d ∈ tables_1, d.before a0 Z = true) (ws : List Jvm.Cond) (r1 : Addr) (u2 : Int32) (h0 : Heap) (n0 : Nat) (Z0 : n0 ≤ h0.size) (E_r1 : Exa Z h0 r1 "java/lang/Integer") (F_r1 : Fld Z h0 r1 "java/lang/Integer" "value" "I" (.int u2)) (hc20 : ¬ (u2 < (1 : Int32))) (hc27 : ¬ ((200 : Int32) < u2)) :
    MetFree l (⟨"com/example/kido2/kido2/identity/PageRequest", "of", "(Ljava/lang/Integer;Ljava/lang/Integer;)Lcom/example/kido2/kido2/identity/PageRequest;"⟩ : MethodName) (head1 (Jvm.Cond.code (⟨"com/example/kido2/kido2/identity/PageRequest", "of", "(Ljava/lang/Integer;Ljava/lang/Integer;)Lcom/example/kido2/kido2/identity/PageRequest;"⟩ : MethodName) prog_12_method_2_code 2 (some (.object "com/example/kido2/kido2/identity/PageRequest")) :: ws) ({ frames := 3, cells := 1, slots := 2, locals := 39 } : Room)) (fun a U => a = #[.null, (.ref r1)] ∧ Z.Warmed39 U.vm ∧ U.heap = h0) (fun _ _ _ _ _ => True) (fun _ U o U' => ∃ v L, o = .returned v ∧ Q2 Z (0 : Int32) u2 h0 n0 v U'.heap L ∧ FrameEnd U o U' L ({ frames := 3, cells := 1, slots := 2, locals := 39 } : Room).cells ({ frames := 3, cells := 1, slots := 2, locals := 39 } : Room).slots) := by
  refine MetFree.of_bodySF (plainFor_of_name pn2) hisR ?_
  intro p e s m args below meth c s₁ Bd hml0 hP hK
  obtain ⟨rfl, hZ, hh⟩ := hP
  have hx := Bd.exec
  have hby := Bd.bytes
  have hml : c.maxLocals = 2 := hml0
  have hown : s.vm.findClass "com/example/kido2/kido2/identity/PageRequest" = some m.cls := findClass_of_methodNamed Bd.named
  have hnm := (name_of_methodNamed Bd.named Bd.method).1
  have X0 : Stand p l e ({ frames := 3, cells := 1, slots := 2, locals := 39 } : Room) s m #[.null, (.ref r1)] below meth c s₁ [] 0 0 := Stand.of_body Bd
  have e0 : s₁.heap = h0 := by rw [← hh, Bd.state]; rfl
  have N0 := Fr.nil n0
  refine own_fw (A := s₁.setTop (mkF m 0 #[.val .null, .val (.ref r1)] [])) (fun t k => castTop (ef2_10 m r1) k) ?_
  obtain ⟨T2_1, h2_1, X2_1, e2_1, E2_1, A2_1, D2_1, -, st2_1⟩ := newO X0 hx hZ hown (hw _ (List.mem_of_getElem? (i := 12) rfl)) (hw _ (List.mem_of_getElem? (i := 13) rfl)) (hw _ (List.mem_of_getElem? (i := 10) rfl)) e0 (g := (mkF m 0 #[.val .null, .val (.ref r1)] [])) rfl (hb hby d2_0) (by decide) (by decide)
  obtain ⟨b2_1, g2_1⟩ : ∃ z, z = h0.size := ⟨_, rfl⟩
  rw [← g2_1] at A2_1 D2_1 st2_1
  have ne_r1_b2_1 : r1 ≠ b2_1 := Nat.ne_of_lt (Nat.lt_of_lt_of_le E_r1.lt (Nat.le_of_eq g2_1.symm))
  have g_b2_1 : n0 ≤ b2_1 := Nat.le_trans Z0 (Nat.le_of_eq g2_1.symm)
  have sz_b2_1 : h0.size ≤ b2_1 := Nat.le_trans (Keep.refl h0 []).1 (Nat.le_of_eq g2_1.symm)
  have F_page_b2_1 : Fld Z h2_1 b2_1 "com/example/kido2/kido2/identity/PageRequest" "page" "I" (.int (0 : Int32)) := D2_1 (Or.inr (hw _ (List.mem_of_getElem? (i := 33) rfl))) (ty := .int) (by decide)
  have F_size_b2_1 : Fld Z h2_1 b2_1 "com/example/kido2/kido2/identity/PageRequest" "size" "I" (.int (0 : Int32)) := D2_1 (Or.inr (hw _ (List.mem_of_getElem? (i := 35) rfl))) (ty := .int) (by decide)
  refine own_fw st2_1 ?_
  refine own_fw (A := T2_1.setTop (mkF m 5 #[.val .null, .val (.ref r1)] [.null, (.ref b2_1), (.ref b2_1)])) (fun t k => ?_) ?_
  · show Steps p.tables e below (T2_1.setTop (mkF m 3 #[.val .null, .val (.ref r1)] [(.ref b2_1)])) t
    refine XS.dup X2_1.here hx rfl (hb hby d2_3) rfl rfl ?_
    show Steps p.tables e below (T2_1.setTop (mkF m 4 #[.val .null, .val (.ref r1)] [(.ref b2_1), (.ref b2_1)])) t
    refine XS.aloadN X2_1.here hx rfl (hb hby d2_4) rfl rfl ?_
    exact k
  refine own_fw (A := T2_1.setTop (mkF m 8 #[.val .null, .val (.ref r1)] [(.ref b2_1), (.ref b2_1)])) (fun t k => ?_) ?_
  · show Steps p.tables e below (T2_1.setTop (mkF m 5 #[.val .null, .val (.ref r1)] [.null, (.ref b2_1), (.ref b2_1)])) t
    refine XS.ifnonnullNo X2_1.here hx rfl (hb hby d2_5) rfl ?_
    exact k
  refine own_fw (A := T2_1.setTop (mkF m 17 #[.val .null, .val (.ref r1)] [(.ref r1), (.int (0 : Int32)), (.ref b2_1), (.ref b2_1)])) (fun t k => ?_) ?_
  · show Steps p.tables e below (T2_1.setTop (mkF m 8 #[.val .null, .val (.ref r1)] [(.ref b2_1), (.ref b2_1)])) t
    refine XS.iconst X2_1.here hx rfl (hb hby d2_8) ?_
    show Steps p.tables e below (T2_1.setTop (mkF m 9 #[.val .null, .val (.ref r1)] [(.int (0 : Int32)), (.ref b2_1), (.ref b2_1)])) t
    refine XS.goto X2_1.here hx rfl (pc0 := 9) (pc' := 16) rfl (hb hby d2_9) (by decide) (by decide) ?_
    show Steps p.tables e below (T2_1.setTop (mkF m 16 #[.val .null, .val (.ref r1)] [(.int (0 : Int32)), (.ref b2_1), (.ref b2_1)])) t
    refine XS.aloadN X2_1.here hx rfl (hb hby d2_16) rfl rfl ?_
    exact k
  refine own_fw (A := T2_1.setTop (mkF m 25 #[.val .null, .val (.ref r1)] [(.int (0 : Int32)), (.ref b2_1), (.ref b2_1)])) (fun t k => ?_) ?_
  · show Steps p.tables e below (T2_1.setTop (mkF m 17 #[.val .null, .val (.ref r1)] [(.ref r1), (.int (0 : Int32)), (.ref b2_1), (.ref b2_1)])) t
    refine XS.ifnonnullYes X2_1.here hx rfl (pc0 := 17) (pc' := 25) rfl (hb hby d2_17) rfl (by decide) (by decide) ?_
    exact k
  refine own_fw (A := T2_1.setTop (mkF m 26 #[.val .null, .val (.ref r1)] [(.ref r1), (.int (0 : Int32)), (.ref b2_1), (.ref b2_1)])) (fun t k => ?_) ?_
  · show Steps p.tables e below (T2_1.setTop (mkF m 25 #[.val .null, .val (.ref r1)] [(.int (0 : Int32)), (.ref b2_1), (.ref b2_1)])) t
    refine XS.aloadN X2_1.here hx rfl (hb hby d2_25) rfl rfl ?_
    exact k
  obtain ⟨cq2_2, kq2_2, q2_2a, q2_2b, q2_2c⟩ := isOf hZ e2_1 (E_r1.ext E2_1)
  obtain ⟨_, _, ⟨T2_2, L2_2, k2_2, n2_2⟩, -, X2_2, ⟨Lc2_2, hQ2_2, l2_2, y2_2, z2_2⟩, st2_2⟩ := X2_1.virtualBack hx (y := (⟨"java/lang/Integer", "intValue", "()I"⟩ : MethodName)) (z := (⟨"java/lang/Integer", "intValue", "()I"⟩ : MethodName)) hown (mvT hZ (hw _ (List.mem_of_getElem? (i := 14) rfl))) (mvT hZ (hw _ (List.mem_of_getElem? (i := 15) rfl))) (notFace_of_selects (args := #[]) (mvT hZ (hw _ (List.mem_of_getElem? (i := 17) rfl)))) (mvT hZ (hw _ (List.mem_of_getElem? (i := 17) rfl))) (mvT hZ (hw _ (List.mem_of_getElem? (i := 16) rfl))) (by decide) (backOf (W := 3) (rm3 l Z a0 hw [] r1 u2 h2_1 n0 (Nat.le_trans Z0 E2_1.1) (F_r1.ext E2_1)) hZ (hw _ (List.mem_of_getElem? (i := 18) rfl)) (hw _ (List.mem_of_getElem? (i := 3) rfl)) (by decide) (by decide)) q2_2a q2_2c (g := (mkF m 26 #[.val .null, .val (.ref r1)] [(.ref r1), (.int (0 : Int32)), (.ref b2_1), (.ref b2_1)])) rfl (by rw [hml]; rfl) (Steps.refl _) (argsL := []) (rest := [(.int (0 : Int32)), (.ref b2_1), (.ref b2_1)]) (lenOf pd2_0 rfl) rfl (by show 2 * 0 + _ ≤ _; exact Nat.le_of_eq rfl) (hb hby d2_26) (fun _ _ => ⟨rfl, e2_1, (by decide : 1 + 0 ≤ _), (by decide : 2 + 0 ≤ _)⟩)
  dsimp only [Pt.U, Pt.locs, Pt.cells, Pt.slots] at X2_2 l2_2 y2_2 z2_2 st2_2 hQ2_2
  subst l2_2 y2_2 z2_2
  obtain ⟨rfl, N2_2q, e2_2⟩ := hQ2_2
  have N2_2 := Fr.app N0 N2_2q
  refine own_fw (fun t k => st2_2.trans k) ?_
  obtain ⟨_, _, ⟨T2_3, L2_3, k2_3, n2_3⟩, -, X2_3, ⟨Lc2_3, hQ2_3, l2_3, y2_3, z2_3⟩, st2_3⟩ := X2_2.specialBack hx (y := (⟨"com/example/kido2/kido2/identity/PageRequest", "<init>", "(II)V"⟩ : MethodName)) rfl hown (mvT hZ (hw _ (List.mem_of_getElem? (i := 21) rfl))) (mvT hZ (hw _ (List.mem_of_getElem? (i := 22) rfl))) (mvT hZ (hw _ (List.mem_of_getElem? (i := 23) rfl))) (by decide) (backOf (W := 1) (rm4 l Z a0 hw [] b2_1 ((0 : Int32)) (u2) h2_1 n0 (Nat.le_trans Z0 E2_1.1) A2_1 F_page_b2_1 F_size_b2_1 g_b2_1 (by decide) hc20 hc27) hZ (hw _ (List.mem_of_getElem? (i := 23) rfl)) (hw _ (List.mem_of_getElem? (i := 10) rfl)) (by decide) (by decide)) (g := (mkF m 29 #[.val .null, .val (.ref r1)] [(.int u2), (.int (0 : Int32)), (.ref b2_1), (.ref b2_1)])) rfl (by rw [hml]; rfl) (Steps.refl _) (a := b2_1) (argsL := [(.int (0 : Int32)), (.int u2)]) (rest := [(.ref b2_1)]) (lenOf pd2_1 rfl) rfl (by show 2 * 0 + _ ≤ _; exact Nat.le_of_eq rfl) (hb hby d2_29) (fun _ _ => ⟨rfl, e2_2, (by decide : 1 + 0 ≤ _), (by decide : 2 + 0 ≤ _)⟩)
  dsimp only [Pt.U, Pt.locs, Pt.cells, Pt.slots] at X2_3 l2_3 y2_3 z2_3 st2_3 hQ2_3
  subst l2_3 y2_3 z2_3
  obtain ⟨rfl, N2_3q, K2_3, Ex2_3, Fp2_3, Fs2_3⟩ := hQ2_3
  have N2_3 := Fr.app N2_2 N2_3q
  refine own_fw (fun t k => st2_3.trans k) ?_
  obtain ⟨fs, hr, hrun, hended, hW, hsame⟩ := X2_3.leave (v := some (.ref b2_1)) (fun h => by rw [Bd.returns] at h; cases h)
  refine ⟨_, _, retA (ty := (.object "com/example/kido2/kido2/identity/PageRequest")) X2_3 hx rfl rfl Bd.returns (hb hby d2_32) hr, hrun, hended, _, _, rfl, ?_, ⟨_, rfl⟩, hW, hsame.mono (by decide) (by decide)⟩
  have eh : (T2_3.setFrames fs).heap = T2_3.heap := rfl
  rw [eh]
  exact ⟨b2_1, rfl, N2_3, (((Keep.refl h0 []).ext E2_1).trans K2_3 (fun x hx => by cases List.mem_singleton.mp hx; exact (Or.inr sz_b2_1))), Ex2_3, Fp2_3, Fs2_3⟩
theorem ef2_11 (m : MethodId)  : entryFrame m #[.null, .null] 2 = mkF m 0 #[.val .null, .val .null] [] := by first | (simp [entryFrame, mkF, argsToLocals, Value.category]; done) | rfl
set_option maxRecDepth 65536 in
set_option maxHeartbeats 40000000 in
theorem rmO_11 (l : Launch) (Z : State) (a0 : Array Value) (hw : ∀ d ∈ tables_1, d.before a0 Z = true) (ws : List Jvm.Cond)  (h0 : Heap) (n0 : Nat) (Z0 : n0 ≤ h0.size) :
    MetFree l (⟨"com/example/kido2/kido2/identity/PageRequest", "of", "(Ljava/lang/Integer;Ljava/lang/Integer;)Lcom/example/kido2/kido2/identity/PageRequest;"⟩ : MethodName) (head1 (Jvm.Cond.code (⟨"com/example/kido2/kido2/identity/PageRequest", "of", "(Ljava/lang/Integer;Ljava/lang/Integer;)Lcom/example/kido2/kido2/identity/PageRequest;"⟩ : MethodName) prog_12_method_2_code 2 (some (.object "com/example/kido2/kido2/identity/PageRequest")) :: ws) ({ frames := 3, cells := 1, slots := 2, locals := 39 } : Room)) (fun a U => a = #[.null, .null] ∧ Z.Warmed39 U.vm ∧ U.heap = h0) (fun _ _ _ _ _ => True) (fun _ U o U' => ∃ v L, o = .returned v ∧ Q2 Z (0 : Int32) (50 : Int32) h0 n0 v U'.heap L ∧ FrameEnd U o U' L ({ frames := 3, cells := 1, slots := 2, locals := 39 } : Room).cells ({ frames := 3, cells := 1, slots := 2, locals := 39 } : Room).slots) := by
  refine MetFree.of_bodySF (plainFor_of_name pn2) hisR ?_
  intro p e s m args below meth c s₁ Bd hml0 hP hK
  obtain ⟨rfl, hZ, hh⟩ := hP
  have hx := Bd.exec
  have hby := Bd.bytes
  have hml : c.maxLocals = 2 := hml0
  have hown : s.vm.findClass "com/example/kido2/kido2/identity/PageRequest" = some m.cls := findClass_of_methodNamed Bd.named
  have hnm := (name_of_methodNamed Bd.named Bd.method).1
  have X0 : Stand p l e ({ frames := 3, cells := 1, slots := 2, locals := 39 } : Room) s m #[.null, .null] below meth c s₁ [] 0 0 := Stand.of_body Bd
  have e0 : s₁.heap = h0 := by rw [← hh, Bd.state]; rfl
  have N0 := Fr.nil n0
  refine own_fw (A := s₁.setTop (mkF m 0 #[.val .null, .val .null] [])) (fun t k => castTop (ef2_11 m ) k) ?_
  obtain ⟨T2_1, h2_1, X2_1, e2_1, E2_1, A2_1, D2_1, -, st2_1⟩ := newO X0 hx hZ hown (hw _ (List.mem_of_getElem? (i := 12) rfl)) (hw _ (List.mem_of_getElem? (i := 13) rfl)) (hw _ (List.mem_of_getElem? (i := 10) rfl)) e0 (g := (mkF m 0 #[.val .null, .val .null] [])) rfl (hb hby d2_0) (by decide) (by decide)
  obtain ⟨b2_1, g2_1⟩ : ∃ z, z = h0.size := ⟨_, rfl⟩
  rw [← g2_1] at A2_1 D2_1 st2_1
  have g_b2_1 : n0 ≤ b2_1 := Nat.le_trans Z0 (Nat.le_of_eq g2_1.symm)
  have sz_b2_1 : h0.size ≤ b2_1 := Nat.le_trans (Keep.refl h0 []).1 (Nat.le_of_eq g2_1.symm)
  have F_page_b2_1 : Fld Z h2_1 b2_1 "com/example/kido2/kido2/identity/PageRequest" "page" "I" (.int (0 : Int32)) := D2_1 (Or.inr (hw _ (List.mem_of_getElem? (i := 33) rfl))) (ty := .int) (by decide)
  have F_size_b2_1 : Fld Z h2_1 b2_1 "com/example/kido2/kido2/identity/PageRequest" "size" "I" (.int (0 : Int32)) := D2_1 (Or.inr (hw _ (List.mem_of_getElem? (i := 35) rfl))) (ty := .int) (by decide)
  refine own_fw st2_1 ?_
  refine own_fw (A := T2_1.setTop (mkF m 5 #[.val .null, .val .null] [.null, (.ref b2_1), (.ref b2_1)])) (fun t k => ?_) ?_
  · show Steps p.tables e below (T2_1.setTop (mkF m 3 #[.val .null, .val .null] [(.ref b2_1)])) t
    refine XS.dup X2_1.here hx rfl (hb hby d2_3) rfl rfl ?_
    show Steps p.tables e below (T2_1.setTop (mkF m 4 #[.val .null, .val .null] [(.ref b2_1), (.ref b2_1)])) t
    refine XS.aloadN X2_1.here hx rfl (hb hby d2_4) rfl rfl ?_
    exact k
  refine own_fw (A := T2_1.setTop (mkF m 8 #[.val .null, .val .null] [(.ref b2_1), (.ref b2_1)])) (fun t k => ?_) ?_
  · show Steps p.tables e below (T2_1.setTop (mkF m 5 #[.val .null, .val .null] [.null, (.ref b2_1), (.ref b2_1)])) t
    refine XS.ifnonnullNo X2_1.here hx rfl (hb hby d2_5) rfl ?_
    exact k
  refine own_fw (A := T2_1.setTop (mkF m 17 #[.val .null, .val .null] [.null, (.int (0 : Int32)), (.ref b2_1), (.ref b2_1)])) (fun t k => ?_) ?_
  · show Steps p.tables e below (T2_1.setTop (mkF m 8 #[.val .null, .val .null] [(.ref b2_1), (.ref b2_1)])) t
    refine XS.iconst X2_1.here hx rfl (hb hby d2_8) ?_
    show Steps p.tables e below (T2_1.setTop (mkF m 9 #[.val .null, .val .null] [(.int (0 : Int32)), (.ref b2_1), (.ref b2_1)])) t
    refine XS.goto X2_1.here hx rfl (pc0 := 9) (pc' := 16) rfl (hb hby d2_9) (by decide) (by decide) ?_
    show Steps p.tables e below (T2_1.setTop (mkF m 16 #[.val .null, .val .null] [(.int (0 : Int32)), (.ref b2_1), (.ref b2_1)])) t
    refine XS.aloadN X2_1.here hx rfl (hb hby d2_16) rfl rfl ?_
    exact k
  refine own_fw (A := T2_1.setTop (mkF m 20 #[.val .null, .val .null] [(.int (0 : Int32)), (.ref b2_1), (.ref b2_1)])) (fun t k => ?_) ?_
  · show Steps p.tables e below (T2_1.setTop (mkF m 17 #[.val .null, .val .null] [.null, (.int (0 : Int32)), (.ref b2_1), (.ref b2_1)])) t
    refine XS.ifnonnullNo X2_1.here hx rfl (hb hby d2_17) rfl ?_
    exact k
  refine own_fw (A := T2_1.setTop (mkF m 29 #[.val .null, .val .null] [(.int (50 : Int32)), (.int (0 : Int32)), (.ref b2_1), (.ref b2_1)])) (fun t k => ?_) ?_
  · show Steps p.tables e below (T2_1.setTop (mkF m 20 #[.val .null, .val .null] [(.int (0 : Int32)), (.ref b2_1), (.ref b2_1)])) t
    refine XS.bipush X2_1.here hx rfl (hb hby d2_20) ?_
    show Steps p.tables e below (T2_1.setTop (mkF m 22 #[.val .null, .val .null] [(.int (50 : Int32)), (.int (0 : Int32)), (.ref b2_1), (.ref b2_1)])) t
    refine XS.goto X2_1.here hx rfl (pc0 := 22) (pc' := 29) rfl (hb hby d2_22) (by decide) (by decide) ?_
    exact k
  obtain ⟨_, _, ⟨T2_2, L2_2, k2_2, n2_2⟩, -, X2_2, ⟨Lc2_2, hQ2_2, l2_2, y2_2, z2_2⟩, st2_2⟩ := X2_1.specialBack hx (y := (⟨"com/example/kido2/kido2/identity/PageRequest", "<init>", "(II)V"⟩ : MethodName)) rfl hown (mvT hZ (hw _ (List.mem_of_getElem? (i := 21) rfl))) (mvT hZ (hw _ (List.mem_of_getElem? (i := 22) rfl))) (mvT hZ (hw _ (List.mem_of_getElem? (i := 23) rfl))) (by decide) (backOf (W := 1) (rm4 l Z a0 hw [] b2_1 ((0 : Int32)) ((50 : Int32)) h2_1 n0 (Nat.le_trans Z0 E2_1.1) A2_1 F_page_b2_1 F_size_b2_1 g_b2_1 (by decide) (by decide) (by decide)) hZ (hw _ (List.mem_of_getElem? (i := 23) rfl)) (hw _ (List.mem_of_getElem? (i := 10) rfl)) (by decide) (by decide)) (g := (mkF m 29 #[.val .null, .val .null] [(.int (50 : Int32)), (.int (0 : Int32)), (.ref b2_1), (.ref b2_1)])) rfl (by rw [hml]; rfl) (Steps.refl _) (a := b2_1) (argsL := [(.int (0 : Int32)), (.int (50 : Int32))]) (rest := [(.ref b2_1)]) (lenOf pd2_1 rfl) rfl (by show 2 * 0 + _ ≤ _; exact Nat.le_of_eq rfl) (hb hby d2_29) (fun _ _ => ⟨rfl, e2_1, (by decide : 1 + 0 ≤ _), (by decide : 2 + 0 ≤ _)⟩)
  dsimp only [Pt.U, Pt.locs, Pt.cells, Pt.slots] at X2_2 l2_2 y2_2 z2_2 st2_2 hQ2_2
  subst l2_2 y2_2 z2_2
  obtain ⟨rfl, N2_2q, K2_2, Ex2_2, Fp2_2, Fs2_2⟩ := hQ2_2
  have N2_2 := Fr.app N0 N2_2q
  refine own_fw (fun t k => st2_2.trans k) ?_
  obtain ⟨fs, hr, hrun, hended, hW, hsame⟩ := X2_2.leave (v := some (.ref b2_1)) (fun h => by rw [Bd.returns] at h; cases h)
  refine ⟨_, _, retA (ty := (.object "com/example/kido2/kido2/identity/PageRequest")) X2_2 hx rfl rfl Bd.returns (hb hby d2_32) hr, hrun, hended, _, _, rfl, ?_, ⟨_, rfl⟩, hW, hsame.mono (by decide) (by decide)⟩
  have eh : (T2_2.setFrames fs).heap = T2_2.heap := rfl
  rw [eh]
  exact ⟨b2_1, rfl, N2_2, (((Keep.refl h0 []).ext E2_1).trans K2_2 (fun x hx => by cases List.mem_singleton.mp hx; exact (Or.inr sz_b2_1))), Ex2_2, Fp2_2, Fs2_2⟩
theorem own_pg (a : Int32) : 0 ≤ (a &&& (2147483647 : Int32)).toInt := (c_and a 2147483647 (by decide)).1
theorem own_sz (a : Int32) : 1 ≤ ((own_irem (a &&& (2147483647 : Int32)) (200 : Int32)) + (1 : Int32)).toInt ∧ ((own_irem (a &&& (2147483647 : Int32)) (200 : Int32)) + (1 : Int32)).toInt ≤ 200 := by
  have h1 := c_and a 2147483647 (by decide)
  have h2 := (c_irem (a &&& 2147483647) 200 200 rfl).1 h1.1
  rw [← Jvm.irem_eq_mod] at h2
  have h3 := c_iadd (own_irem (a &&& (2147483647 : Int32)) (200 : Int32)) 1
  have h4 := rng32 (own_irem (a &&& (2147483647 : Int32)) (200 : Int32) + 1)
  have h5 : (1 : Int32).toInt = 1 := rfl
  change (own_irem (a &&& (2147483647 : Int32)) (200 : Int32)).toInt = _ at h2
  omega
theorem own_c5 (a : Int32) : ¬ ((a &&& (2147483647 : Int32)) < (0 : Int32)) := by
  rw [Int32.lt_iff_toInt_lt]
  have h := own_pg a
  have z : (0 : Int32).toInt = 0 := rfl
  omega
theorem own_c20 (a : Int32) : ¬ (((own_irem (a &&& (2147483647 : Int32)) (200 : Int32)) + (1 : Int32)) < (1 : Int32)) := by
  rw [Int32.lt_iff_toInt_lt]
  have h := own_sz a
  have z : (1 : Int32).toInt = 1 := rfl
  omega
theorem own_c27 (a : Int32) : ¬ ((200 : Int32) < ((own_irem (a &&& (2147483647 : Int32)) (200 : Int32)) + (1 : Int32))) := by
  rw [Int32.lt_iff_toInt_lt]
  have h := own_sz a
  have z : (200 : Int32).toInt = 200 := rfl
  omega
theorem own_lo1 (a : Int32) : ¬ ((a &&& (2147483647 : Int32)) < (-128 : Int32)) := by
  rw [Int32.lt_iff_toInt_lt]
  have h := own_pg a
  have z : (-128 : Int32).toInt = -128 := rfl
  omega
theorem own_lo2 (a : Int32) : ¬ (((own_irem (a &&& (2147483647 : Int32)) (200 : Int32)) + (1 : Int32)) < (-128 : Int32)) := by
  rw [Int32.lt_iff_toInt_lt]
  have h := own_sz a
  have z : (-128 : Int32).toInt = -128 := rfl
  omega
theorem pn0 : plainName "com/example/kido2/kido2/identity/PageRequestOfPinLaw" = true := by first | (simp [plainName, overriddenIn]; done) | decide +kernel
theorem pd0_0 : parseMethodDescriptor "(I)Ljava/lang/Integer;" = some ⟨[.int], some (.object "java/lang/Integer")⟩ := by decide +kernel
theorem pd0_1 : parseMethodDescriptor "(Ljava/lang/Integer;Ljava/lang/Integer;)Lcom/example/kido2/kido2/identity/PageRequest;" = some ⟨[(.object "java/lang/Integer"), (.object "java/lang/Integer")], some (.object "com/example/kido2/kido2/identity/PageRequest")⟩ := by decide +kernel
theorem pd0_2 : parseMethodDescriptor "()I" = some ⟨[], some .int⟩ := by decide +kernel
theorem ef0 (m : MethodId) (p0 : Int32) (p1 : Int32) (p2 : Int32) : entryFrame m #[(.int p0), (.int p1), (.int p2)] maxLocals = mkF m 0 #[.val (.int p0), .val (.int p1), .val (.int p2), .unset, .unset, .unset, .unset, .unset, .unset, .unset, .unset, .unset] [] := by first | (simp [entryFrame, mkF, argsToLocals, Value.category, maxLocals]; done) | rfl
def Q0 (Z : State) (p0 p1 p2 : Int32) (h0 : Heap) (n0 : Nat) (v : Option Value) (h : Heap) (L : List Loc) : Prop := v = some (.int 1) ∧ Fr n0 L
set_option maxRecDepth 65536 in
set_option maxHeartbeats 40000000 in
theorem rm0 (l : Launch) (Z : State) (a0 : Array Value) (hw : ∀ d ∈ tables_1, d.before a0 Z = true) (ws : List Jvm.Cond) (p0 : Int32) (p1 : Int32) (p2 : Int32) (ca : Addr) (cc : Cell) (h0 : Heap) (n0 : Nat) (Z0 : n0 ≤ h0.size) (S_high : Sta Z h0 "java/lang/Integer$IntegerCache" "high" "I" (.int (127 : Int32))) (S_cache : Sta Z h0 "java/lang/Integer$IntegerCache" "cache" "[Ljava/lang/Integer;" (.ref ca)) (Bx : Bxs Z ca cc "java/lang/Integer" "I" (256 : Int32) (fun j => .int (j - (128 : Int32)))) (O : Old Z n0 h0) :
    MetFree l x (head1 (Jvm.Cond.code x code maxLocals ret :: ws) room_1) (fun a U => a = #[(.int p0), (.int p1), (.int p2)] ∧ Z.Warmed39 U.vm ∧ U.heap = h0) (fun _ _ _ _ _ => True) (fun _ U o U' => ∃ v L, o = .returned v ∧ Q0 Z p0 p1 p2 h0 n0 v U'.heap L ∧ FrameEnd U o U' L room_1.cells room_1.slots) := by
  refine MetFree.of_bodySF (plainFor_of_name pn0) hisR ?_
  intro p e s m args below meth c s₁ Bd hml0 hP hK
  obtain ⟨rfl, hZ, hh⟩ := hP
  have hx := Bd.exec
  have hby := Bd.bytes
  have hml : c.maxLocals = 12 := hml0
  have hown : s.vm.findClass "com/example/kido2/kido2/identity/PageRequestOfPinLaw" = some m.cls := findClass_of_methodNamed Bd.named
  have hnm := (name_of_methodNamed Bd.named Bd.method).1
  have X0 : Stand p l e room_1 s m #[(.int p0), (.int p1), (.int p2)] below meth c s₁ [] 0 0 := Stand.of_body Bd
  have e0 : s₁.heap = h0 := by rw [← hh, Bd.state]; rfl
  have N0 := Fr.nil n0
  refine own_fw (A := s₁.setTop (mkF m 0 #[.val (.int p0), .val (.int p1), .val (.int p2), .unset, .unset, .unset, .unset, .unset, .unset, .unset, .unset, .unset] [])) (fun t k => castTop (ef0 m p0 p1 p2) k) ?_
  refine own_fw (A := s₁.setTop (mkF m 3 #[.val (.int p0), .val (.int p1), .val (.int p2), .unset, .unset, .unset, .unset, .unset, .unset, .unset, .unset, .unset] [(.int (p2 &&& (1 : Int32)))])) (fun t k => ?_) ?_
  · show Steps p.tables e below (s₁.setTop (mkF m 0 #[.val (.int p0), .val (.int p1), .val (.int p2), .unset, .unset, .unset, .unset, .unset, .unset, .unset, .unset, .unset] [])) t
    refine XS.iloadN X0.here hx rfl (hb hby at_0) rfl ?_
    show Steps p.tables e below (s₁.setTop (mkF m 1 #[.val (.int p0), .val (.int p1), .val (.int p2), .unset, .unset, .unset, .unset, .unset, .unset, .unset, .unset, .unset] [(.int p2)])) t
    refine XS.iconst X0.here hx rfl (hb hby at_1) ?_
    show Steps p.tables e below (s₁.setTop (mkF m 2 #[.val (.int p0), .val (.int p1), .val (.int p2), .unset, .unset, .unset, .unset, .unset, .unset, .unset, .unset, .unset] [(.int (1 : Int32)), (.int p2)])) t
    refine XS.iand X0.here hx rfl (hb hby at_2) rfl ?_
    exact k
  by_cases hc0_1 : (p2 &&& (1 : Int32)) = (0 : Int32)
  · refine own_fw (A := s₁.setTop (mkF m 10 #[.val (.int p0), .val (.int p1), .val (.int p2), .unset, .unset, .unset, .unset, .unset, .unset, .unset, .unset, .unset] [])) (fun t k => ?_) ?_
    · show Steps p.tables e below (s₁.setTop (mkF m 3 #[.val (.int p0), .val (.int p1), .val (.int p2), .unset, .unset, .unset, .unset, .unset, .unset, .unset, .unset, .unset] [(.int (p2 &&& (1 : Int32)))])) t
      refine XS.ifYes X0.here hx rfl (pc0 := 3) (pc' := 10) rfl (hb hby at_3) rfl ((if0 _ _).trans (teq hc0_1).1) (by decide) (by decide) ?_
      exact k
    refine own_fw (A := s₁.setTop (mkF m 15 #[.val (.int p0), .val (.int p1), .val (.int p2), .val (.int (0 : Int32)), .unset, .unset, .unset, .unset, .unset, .unset, .unset, .unset] [(.int (p2 &&& (2 : Int32)))])) (fun t k => ?_) ?_
    · show Steps p.tables e below (s₁.setTop (mkF m 10 #[.val (.int p0), .val (.int p1), .val (.int p2), .unset, .unset, .unset, .unset, .unset, .unset, .unset, .unset, .unset] [])) t
      refine XS.iconst X0.here hx rfl (hb hby at_10) ?_
      show Steps p.tables e below (s₁.setTop (mkF m 11 #[.val (.int p0), .val (.int p1), .val (.int p2), .unset, .unset, .unset, .unset, .unset, .unset, .unset, .unset, .unset] [(.int (0 : Int32))])) t
      refine XS.istoreN X0.here hx rfl (hb hby at_11) rfl (l' := #[.val (.int p0), .val (.int p1), .val (.int p2), .val (.int (0 : Int32)), .unset, .unset, .unset, .unset, .unset, .unset, .unset, .unset]) rfl ?_
      show Steps p.tables e below (s₁.setTop (mkF m 12 #[.val (.int p0), .val (.int p1), .val (.int p2), .val (.int (0 : Int32)), .unset, .unset, .unset, .unset, .unset, .unset, .unset, .unset] [])) t
      refine XS.iloadN X0.here hx rfl (hb hby at_12) rfl ?_
      show Steps p.tables e below (s₁.setTop (mkF m 13 #[.val (.int p0), .val (.int p1), .val (.int p2), .val (.int (0 : Int32)), .unset, .unset, .unset, .unset, .unset, .unset, .unset, .unset] [(.int p2)])) t
      refine XS.iconst X0.here hx rfl (hb hby at_13) ?_
      show Steps p.tables e below (s₁.setTop (mkF m 14 #[.val (.int p0), .val (.int p1), .val (.int p2), .val (.int (0 : Int32)), .unset, .unset, .unset, .unset, .unset, .unset, .unset, .unset] [(.int (2 : Int32)), (.int p2)])) t
      refine XS.iand X0.here hx rfl (hb hby at_14) rfl ?_
      exact k
    by_cases hc0_2 : (p2 &&& (2 : Int32)) = (0 : Int32)
    · refine own_fw (A := s₁.setTop (mkF m 22 #[.val (.int p0), .val (.int p1), .val (.int p2), .val (.int (0 : Int32)), .unset, .unset, .unset, .unset, .unset, .unset, .unset, .unset] [])) (fun t k => ?_) ?_
      · show Steps p.tables e below (s₁.setTop (mkF m 15 #[.val (.int p0), .val (.int p1), .val (.int p2), .val (.int (0 : Int32)), .unset, .unset, .unset, .unset, .unset, .unset, .unset, .unset] [(.int (p2 &&& (2 : Int32)))])) t
        refine XS.ifYes X0.here hx rfl (pc0 := 15) (pc' := 22) rfl (hb hby at_15) rfl ((if0 _ _).trans (teq hc0_2).1) (by decide) (by decide) ?_
        exact k
      refine own_fw (A := s₁.setTop (mkF m 53 #[.val (.int p0), .val (.int p1), .val (.int p2), .val (.int (0 : Int32)), .val (.int (0 : Int32)), .val (.int (p0 &&& (2147483647 : Int32))), .val (.int ((own_irem (p1 &&& (2147483647 : Int32)) (200 : Int32)) + (1 : Int32))), .unset, .unset, .unset, .unset, .unset] [(.int (p0 &&& (2147483647 : Int32)))])) (fun t k => ?_) ?_
      · show Steps p.tables e below (s₁.setTop (mkF m 22 #[.val (.int p0), .val (.int p1), .val (.int p2), .val (.int (0 : Int32)), .unset, .unset, .unset, .unset, .unset, .unset, .unset, .unset] [])) t
        refine XS.iconst X0.here hx rfl (hb hby at_22) ?_
        show Steps p.tables e below (s₁.setTop (mkF m 23 #[.val (.int p0), .val (.int p1), .val (.int p2), .val (.int (0 : Int32)), .unset, .unset, .unset, .unset, .unset, .unset, .unset, .unset] [(.int (0 : Int32))])) t
        refine XS.istore X0.here hx rfl (hb hby at_23) rfl (l' := #[.val (.int p0), .val (.int p1), .val (.int p2), .val (.int (0 : Int32)), .val (.int (0 : Int32)), .unset, .unset, .unset, .unset, .unset, .unset, .unset]) rfl ?_
        show Steps p.tables e below (s₁.setTop (mkF m 25 #[.val (.int p0), .val (.int p1), .val (.int p2), .val (.int (0 : Int32)), .val (.int (0 : Int32)), .unset, .unset, .unset, .unset, .unset, .unset, .unset] [])) t
        refine XS.iloadN X0.here hx rfl (hb hby at_25) rfl ?_
        show Steps p.tables e below (s₁.setTop (mkF m 26 #[.val (.int p0), .val (.int p1), .val (.int p2), .val (.int (0 : Int32)), .val (.int (0 : Int32)), .unset, .unset, .unset, .unset, .unset, .unset, .unset] [(.int p0)])) t
        refine X0.ldcInt hx hown (mvT hZ (hw _ (List.mem_of_getElem? (i := 0) rfl))) (g := (mkF m 26 #[.val (.int p0), .val (.int p1), .val (.int p2), .val (.int (0 : Int32)), .val (.int (0 : Int32)), .unset, .unset, .unset, .unset, .unset, .unset, .unset] [(.int p0)])) rfl (hb hby at_26) _ ?_
        show Steps p.tables e below (s₁.setTop (mkF m 28 #[.val (.int p0), .val (.int p1), .val (.int p2), .val (.int (0 : Int32)), .val (.int (0 : Int32)), .unset, .unset, .unset, .unset, .unset, .unset, .unset] [(.int (2147483647 : Int32)), (.int p0)])) t
        refine XS.iand X0.here hx rfl (hb hby at_28) rfl ?_
        show Steps p.tables e below (s₁.setTop (mkF m 29 #[.val (.int p0), .val (.int p1), .val (.int p2), .val (.int (0 : Int32)), .val (.int (0 : Int32)), .unset, .unset, .unset, .unset, .unset, .unset, .unset] [(.int (p0 &&& (2147483647 : Int32)))])) t
        refine XS.istore X0.here hx rfl (hb hby at_29) rfl (l' := #[.val (.int p0), .val (.int p1), .val (.int p2), .val (.int (0 : Int32)), .val (.int (0 : Int32)), .val (.int (p0 &&& (2147483647 : Int32))), .unset, .unset, .unset, .unset, .unset, .unset]) rfl ?_
        show Steps p.tables e below (s₁.setTop (mkF m 31 #[.val (.int p0), .val (.int p1), .val (.int p2), .val (.int (0 : Int32)), .val (.int (0 : Int32)), .val (.int (p0 &&& (2147483647 : Int32))), .unset, .unset, .unset, .unset, .unset, .unset] [])) t
        refine XS.iloadN X0.here hx rfl (hb hby at_31) rfl ?_
        show Steps p.tables e below (s₁.setTop (mkF m 32 #[.val (.int p0), .val (.int p1), .val (.int p2), .val (.int (0 : Int32)), .val (.int (0 : Int32)), .val (.int (p0 &&& (2147483647 : Int32))), .unset, .unset, .unset, .unset, .unset, .unset] [(.int p1)])) t
        refine X0.ldcInt hx hown (mvT hZ (hw _ (List.mem_of_getElem? (i := 0) rfl))) (g := (mkF m 32 #[.val (.int p0), .val (.int p1), .val (.int p2), .val (.int (0 : Int32)), .val (.int (0 : Int32)), .val (.int (p0 &&& (2147483647 : Int32))), .unset, .unset, .unset, .unset, .unset, .unset] [(.int p1)])) rfl (hb hby at_32) _ ?_
        show Steps p.tables e below (s₁.setTop (mkF m 34 #[.val (.int p0), .val (.int p1), .val (.int p2), .val (.int (0 : Int32)), .val (.int (0 : Int32)), .val (.int (p0 &&& (2147483647 : Int32))), .unset, .unset, .unset, .unset, .unset, .unset] [(.int (2147483647 : Int32)), (.int p1)])) t
        refine XS.iand X0.here hx rfl (hb hby at_34) rfl ?_
        show Steps p.tables e below (s₁.setTop (mkF m 35 #[.val (.int p0), .val (.int p1), .val (.int p2), .val (.int (0 : Int32)), .val (.int (0 : Int32)), .val (.int (p0 &&& (2147483647 : Int32))), .unset, .unset, .unset, .unset, .unset, .unset] [(.int (p1 &&& (2147483647 : Int32)))])) t
        refine XS.sipush X0.here hx rfl (hb hby at_35) ?_
        show Steps p.tables e below (s₁.setTop (mkF m 38 #[.val (.int p0), .val (.int p1), .val (.int p2), .val (.int (0 : Int32)), .val (.int (0 : Int32)), .val (.int (p0 &&& (2147483647 : Int32))), .unset, .unset, .unset, .unset, .unset, .unset] [(.int (200 : Int32)), (.int (p1 &&& (2147483647 : Int32)))])) t
        refine XS.irem X0.here hx rfl (hb hby at_38) rfl (by decide) ?_
        show Steps p.tables e below (s₁.setTop (mkF m 39 #[.val (.int p0), .val (.int p1), .val (.int p2), .val (.int (0 : Int32)), .val (.int (0 : Int32)), .val (.int (p0 &&& (2147483647 : Int32))), .unset, .unset, .unset, .unset, .unset, .unset] [(.int (own_irem (p1 &&& (2147483647 : Int32)) (200 : Int32)))])) t
        refine XS.iconst X0.here hx rfl (hb hby at_39) ?_
        show Steps p.tables e below (s₁.setTop (mkF m 40 #[.val (.int p0), .val (.int p1), .val (.int p2), .val (.int (0 : Int32)), .val (.int (0 : Int32)), .val (.int (p0 &&& (2147483647 : Int32))), .unset, .unset, .unset, .unset, .unset, .unset] [(.int (1 : Int32)), (.int (own_irem (p1 &&& (2147483647 : Int32)) (200 : Int32)))])) t
        refine XS.iadd X0.here hx rfl (hb hby at_40) rfl ?_
        show Steps p.tables e below (s₁.setTop (mkF m 41 #[.val (.int p0), .val (.int p1), .val (.int p2), .val (.int (0 : Int32)), .val (.int (0 : Int32)), .val (.int (p0 &&& (2147483647 : Int32))), .unset, .unset, .unset, .unset, .unset, .unset] [(.int ((own_irem (p1 &&& (2147483647 : Int32)) (200 : Int32)) + (1 : Int32)))])) t
        refine XS.istore X0.here hx rfl (hb hby at_41) rfl (l' := #[.val (.int p0), .val (.int p1), .val (.int p2), .val (.int (0 : Int32)), .val (.int (0 : Int32)), .val (.int (p0 &&& (2147483647 : Int32))), .val (.int ((own_irem (p1 &&& (2147483647 : Int32)) (200 : Int32)) + (1 : Int32))), .unset, .unset, .unset, .unset, .unset]) rfl ?_
        show Steps p.tables e below (s₁.setTop (mkF m 43 #[.val (.int p0), .val (.int p1), .val (.int p2), .val (.int (0 : Int32)), .val (.int (0 : Int32)), .val (.int (p0 &&& (2147483647 : Int32))), .val (.int ((own_irem (p1 &&& (2147483647 : Int32)) (200 : Int32)) + (1 : Int32))), .unset, .unset, .unset, .unset, .unset] [])) t
        refine XS.iloadN X0.here hx rfl (hb hby at_43) rfl ?_
        show Steps p.tables e below (s₁.setTop (mkF m 44 #[.val (.int p0), .val (.int p1), .val (.int p2), .val (.int (0 : Int32)), .val (.int (0 : Int32)), .val (.int (p0 &&& (2147483647 : Int32))), .val (.int ((own_irem (p1 &&& (2147483647 : Int32)) (200 : Int32)) + (1 : Int32))), .unset, .unset, .unset, .unset, .unset] [(.int (0 : Int32))])) t
        refine XS.ifYes X0.here hx rfl (pc0 := 44) (pc' := 51) rfl (hb hby at_44) rfl ((if0 _ _).trans (teq (rfl : (0 : Int32) = (0 : Int32))).1) (by decide) (by decide) ?_
        show Steps p.tables e below (s₁.setTop (mkF m 51 #[.val (.int p0), .val (.int p1), .val (.int p2), .val (.int (0 : Int32)), .val (.int (0 : Int32)), .val (.int (p0 &&& (2147483647 : Int32))), .val (.int ((own_irem (p1 &&& (2147483647 : Int32)) (200 : Int32)) + (1 : Int32))), .unset, .unset, .unset, .unset, .unset] [])) t
        refine XS.iload X0.here hx rfl (hb hby at_51) rfl ?_
        exact k
      obtain ⟨_, _, ⟨T0_1, L0_1, k0_1, n0_1⟩, -, X0_1, ⟨Lc0_1, hQ0_1, l0_1, y0_1, z0_1⟩, st0_1⟩ := Jvm.LawKit.callS X0 hx (y := (⟨"java/lang/Integer", "valueOf", "(I)Ljava/lang/Integer;"⟩ : MethodName)) hown (mvT hZ (hw _ (List.mem_of_getElem? (i := 1) rfl))) (mvT hZ (hw _ (List.mem_of_getElem? (i := 2) rfl))) (mvT hZ (hw _ (List.mem_of_getElem? (i := 3) rfl))) (mvT hZ (hw _ (List.mem_of_getElem? (i := 4) rfl))) (by decide) (backOf (W := 0) (rm1 l Z a0 hw [] (p0 &&& (2147483647 : Int32)) ca cc h0 n0 Z0 S_high S_cache Bx O (own_lo1 p0)) hZ (hw _ (List.mem_of_getElem? (i := 4) rfl)) (hw _ (List.mem_of_getElem? (i := 3) rfl)) (by decide) (by decide)) (g := (mkF m 53 #[.val (.int p0), .val (.int p1), .val (.int p2), .val (.int (0 : Int32)), .val (.int (0 : Int32)), .val (.int (p0 &&& (2147483647 : Int32))), .val (.int ((own_irem (p1 &&& (2147483647 : Int32)) (200 : Int32)) + (1 : Int32))), .unset, .unset, .unset, .unset, .unset] [(.int (p0 &&& (2147483647 : Int32)))])) rfl (by rw [hml]; rfl) (argsL := [(.int (p0 &&& (2147483647 : Int32)))]) (rest := []) (lenOf pd0_0 rfl) rfl (by show 2 * 0 + _ ≤ _; exact Nat.le_of_eq rfl) (hb hby at_53) (fun _ _ => ⟨rfl, e0, (by decide : 0 + 1 ≤ _), (by decide : 0 + 1 ≤ _)⟩)
      dsimp only [Pt.U, Pt.locs, Pt.cells, Pt.slots] at X0_1 l0_1 y0_1 z0_1 st0_1 hQ0_1
      subst l0_1 y0_1 z0_1
      obtain ⟨z0_1, rfl, N0_1q, K0_1, Ex0_1, Fv0_1⟩ := hQ0_1
      have N0_1 := Fr.app N0 N0_1q
      refine own_fw st0_1 ?_
      refine own_fw (A := T0_1.setTop (mkF m 69 #[.val (.int p0), .val (.int p1), .val (.int p2), .val (.int (0 : Int32)), .val (.int (0 : Int32)), .val (.int (p0 &&& (2147483647 : Int32))), .val (.int ((own_irem (p1 &&& (2147483647 : Int32)) (200 : Int32)) + (1 : Int32))), .val (.ref z0_1), .unset, .unset, .unset, .unset] [(.int ((own_irem (p1 &&& (2147483647 : Int32)) (200 : Int32)) + (1 : Int32)))])) (fun t k => ?_) ?_
      · show Steps p.tables e below (T0_1.setTop (mkF m 56 #[.val (.int p0), .val (.int p1), .val (.int p2), .val (.int (0 : Int32)), .val (.int (0 : Int32)), .val (.int (p0 &&& (2147483647 : Int32))), .val (.int ((own_irem (p1 &&& (2147483647 : Int32)) (200 : Int32)) + (1 : Int32))), .unset, .unset, .unset, .unset, .unset] [(.ref z0_1)])) t
        refine XS.astore X0_1.here hx rfl (hb hby at_56) rfl rfl (l' := #[.val (.int p0), .val (.int p1), .val (.int p2), .val (.int (0 : Int32)), .val (.int (0 : Int32)), .val (.int (p0 &&& (2147483647 : Int32))), .val (.int ((own_irem (p1 &&& (2147483647 : Int32)) (200 : Int32)) + (1 : Int32))), .val (.ref z0_1), .unset, .unset, .unset, .unset]) rfl ?_
        show Steps p.tables e below (T0_1.setTop (mkF m 58 #[.val (.int p0), .val (.int p1), .val (.int p2), .val (.int (0 : Int32)), .val (.int (0 : Int32)), .val (.int (p0 &&& (2147483647 : Int32))), .val (.int ((own_irem (p1 &&& (2147483647 : Int32)) (200 : Int32)) + (1 : Int32))), .val (.ref z0_1), .unset, .unset, .unset, .unset] [])) t
        refine XS.iload X0_1.here hx rfl (hb hby at_58) rfl ?_
        show Steps p.tables e below (T0_1.setTop (mkF m 60 #[.val (.int p0), .val (.int p1), .val (.int p2), .val (.int (0 : Int32)), .val (.int (0 : Int32)), .val (.int (p0 &&& (2147483647 : Int32))), .val (.int ((own_irem (p1 &&& (2147483647 : Int32)) (200 : Int32)) + (1 : Int32))), .val (.ref z0_1), .unset, .unset, .unset, .unset] [(.int (0 : Int32))])) t
        refine XS.ifYes X0_1.here hx rfl (pc0 := 60) (pc' := 67) rfl (hb hby at_60) rfl ((if0 _ _).trans (teq (rfl : (0 : Int32) = (0 : Int32))).1) (by decide) (by decide) ?_
        show Steps p.tables e below (T0_1.setTop (mkF m 67 #[.val (.int p0), .val (.int p1), .val (.int p2), .val (.int (0 : Int32)), .val (.int (0 : Int32)), .val (.int (p0 &&& (2147483647 : Int32))), .val (.int ((own_irem (p1 &&& (2147483647 : Int32)) (200 : Int32)) + (1 : Int32))), .val (.ref z0_1), .unset, .unset, .unset, .unset] [])) t
        refine XS.iload X0_1.here hx rfl (hb hby at_67) rfl ?_
        exact k
      obtain ⟨_, _, ⟨T0_2, L0_2, k0_2, n0_2⟩, -, X0_2, ⟨Lc0_2, hQ0_2, l0_2, y0_2, z0_2⟩, st0_2⟩ := Jvm.LawKit.callS X0_1 hx (y := (⟨"java/lang/Integer", "valueOf", "(I)Ljava/lang/Integer;"⟩ : MethodName)) hown (mvT hZ (hw _ (List.mem_of_getElem? (i := 1) rfl))) (mvT hZ (hw _ (List.mem_of_getElem? (i := 2) rfl))) (mvT hZ (hw _ (List.mem_of_getElem? (i := 3) rfl))) (mvT hZ (hw _ (List.mem_of_getElem? (i := 4) rfl))) (by decide) (backOf (W := 0) (rm1 l Z a0 hw [] ((own_irem (p1 &&& (2147483647 : Int32)) (200 : Int32)) + (1 : Int32)) ca cc T0_1.heap n0 (Nat.le_trans Z0 K0_1.1) (own_sta_keep S_high K0_1 (fun x hx => nomatch hx)) (own_sta_keep S_cache K0_1 (fun x hx => nomatch hx)) Bx (O.keep K0_1 (fun x hx => nomatch hx)) (own_lo2 p1)) hZ (hw _ (List.mem_of_getElem? (i := 4) rfl)) (hw _ (List.mem_of_getElem? (i := 3) rfl)) (by decide) (by decide)) (g := (mkF m 69 #[.val (.int p0), .val (.int p1), .val (.int p2), .val (.int (0 : Int32)), .val (.int (0 : Int32)), .val (.int (p0 &&& (2147483647 : Int32))), .val (.int ((own_irem (p1 &&& (2147483647 : Int32)) (200 : Int32)) + (1 : Int32))), .val (.ref z0_1), .unset, .unset, .unset, .unset] [(.int ((own_irem (p1 &&& (2147483647 : Int32)) (200 : Int32)) + (1 : Int32)))])) rfl (by rw [hml]; rfl) (argsL := [(.int ((own_irem (p1 &&& (2147483647 : Int32)) (200 : Int32)) + (1 : Int32)))]) (rest := []) (lenOf pd0_0 rfl) rfl (by show 2 * 0 + _ ≤ _; exact Nat.le_of_eq rfl) (hb hby at_69) (fun _ _ => ⟨rfl, rfl, (by decide : 1 + 1 ≤ _), (by decide : 1 + 1 ≤ _)⟩)
      dsimp only [Pt.U, Pt.locs, Pt.cells, Pt.slots] at X0_2 l0_2 y0_2 z0_2 st0_2 hQ0_2
      subst l0_2 y0_2 z0_2
      obtain ⟨z0_2, rfl, N0_2q, K0_2, Ex0_2, Fv0_2⟩ := hQ0_2
      have N0_2 := Fr.app N0_1 N0_2q
      refine own_fw st0_2 ?_
      refine own_fw (A := T0_2.setTop (mkF m 78 #[.val (.int p0), .val (.int p1), .val (.int p2), .val (.int (0 : Int32)), .val (.int (0 : Int32)), .val (.int (p0 &&& (2147483647 : Int32))), .val (.int ((own_irem (p1 &&& (2147483647 : Int32)) (200 : Int32)) + (1 : Int32))), .val (.ref z0_1), .val (.ref z0_2), .unset, .unset, .unset] [(.ref z0_2), (.ref z0_1)])) (fun t k => ?_) ?_
      · show Steps p.tables e below (T0_2.setTop (mkF m 72 #[.val (.int p0), .val (.int p1), .val (.int p2), .val (.int (0 : Int32)), .val (.int (0 : Int32)), .val (.int (p0 &&& (2147483647 : Int32))), .val (.int ((own_irem (p1 &&& (2147483647 : Int32)) (200 : Int32)) + (1 : Int32))), .val (.ref z0_1), .unset, .unset, .unset, .unset] [(.ref z0_2)])) t
        refine XS.astore X0_2.here hx rfl (hb hby at_72) rfl rfl (l' := #[.val (.int p0), .val (.int p1), .val (.int p2), .val (.int (0 : Int32)), .val (.int (0 : Int32)), .val (.int (p0 &&& (2147483647 : Int32))), .val (.int ((own_irem (p1 &&& (2147483647 : Int32)) (200 : Int32)) + (1 : Int32))), .val (.ref z0_1), .val (.ref z0_2), .unset, .unset, .unset]) rfl ?_
        show Steps p.tables e below (T0_2.setTop (mkF m 74 #[.val (.int p0), .val (.int p1), .val (.int p2), .val (.int (0 : Int32)), .val (.int (0 : Int32)), .val (.int (p0 &&& (2147483647 : Int32))), .val (.int ((own_irem (p1 &&& (2147483647 : Int32)) (200 : Int32)) + (1 : Int32))), .val (.ref z0_1), .val (.ref z0_2), .unset, .unset, .unset] [])) t
        refine XS.aload X0_2.here hx rfl (hb hby at_74) rfl rfl ?_
        show Steps p.tables e below (T0_2.setTop (mkF m 76 #[.val (.int p0), .val (.int p1), .val (.int p2), .val (.int (0 : Int32)), .val (.int (0 : Int32)), .val (.int (p0 &&& (2147483647 : Int32))), .val (.int ((own_irem (p1 &&& (2147483647 : Int32)) (200 : Int32)) + (1 : Int32))), .val (.ref z0_1), .val (.ref z0_2), .unset, .unset, .unset] [(.ref z0_1)])) t
        refine XS.aload X0_2.here hx rfl (hb hby at_76) rfl rfl ?_
        exact k
      obtain ⟨_, _, ⟨T0_3, L0_3, k0_3, n0_3⟩, -, X0_3, ⟨Lc0_3, hQ0_3, l0_3, y0_3, z0_3⟩, st0_3⟩ := Jvm.LawKit.callS X0_2 hx (y := (⟨"com/example/kido2/kido2/identity/PageRequest", "of", "(Ljava/lang/Integer;Ljava/lang/Integer;)Lcom/example/kido2/kido2/identity/PageRequest;"⟩ : MethodName)) hown (mvT hZ (hw _ (List.mem_of_getElem? (i := 8) rfl))) (mvT hZ (hw _ (List.mem_of_getElem? (i := 9) rfl))) (mvT hZ (hw _ (List.mem_of_getElem? (i := 10) rfl))) (mvT hZ (hw _ (List.mem_of_getElem? (i := 11) rfl))) (by decide) (backOf (W := 0) (rmO_00 l Z a0 hw [] z0_1 z0_2 (p0 &&& (2147483647 : Int32)) ((own_irem (p1 &&& (2147483647 : Int32)) (200 : Int32)) + (1 : Int32)) T0_2.heap n0 (Nat.le_trans (Nat.le_trans Z0 K0_1.1) K0_2.1) (Ex0_1.keep K0_2) (Fv0_1.keep K0_2 (fun q => nomatch q)) (own_c5 p0) Ex0_2 Fv0_2 (own_c20 p1) (own_c27 p1)) hZ (hw _ (List.mem_of_getElem? (i := 11) rfl)) (hw _ (List.mem_of_getElem? (i := 10) rfl)) (by decide) (by decide)) (g := (mkF m 78 #[.val (.int p0), .val (.int p1), .val (.int p2), .val (.int (0 : Int32)), .val (.int (0 : Int32)), .val (.int (p0 &&& (2147483647 : Int32))), .val (.int ((own_irem (p1 &&& (2147483647 : Int32)) (200 : Int32)) + (1 : Int32))), .val (.ref z0_1), .val (.ref z0_2), .unset, .unset, .unset] [(.ref z0_2), (.ref z0_1)])) rfl (by rw [hml]; rfl) (argsL := [(.ref z0_1), (.ref z0_2)]) (rest := []) (lenOf pd0_1 rfl) rfl (by show 2 * 0 + _ ≤ _; exact Nat.le_of_eq rfl) (hb hby at_78) (fun _ _ => ⟨rfl, rfl, (by decide : 2 + 1 ≤ _), (by decide : 2 + 2 ≤ _)⟩)
      dsimp only [Pt.U, Pt.locs, Pt.cells, Pt.slots] at X0_3 l0_3 y0_3 z0_3 st0_3 hQ0_3
      subst l0_3 y0_3 z0_3
      obtain ⟨z0_3, rfl, N0_3q, K0_3, Ex0_3, Fp0_3, Fs0_3⟩ := hQ0_3
      have N0_3 := Fr.app N0_2 N0_3q
      refine own_fw st0_3 ?_
      refine own_fw (A := T0_3.setTop (mkF m 111 #[.val (.int p0), .val (.int p1), .val (.int p2), .val (.int (0 : Int32)), .val (.int (0 : Int32)), .val (.int (p0 &&& (2147483647 : Int32))), .val (.int ((own_irem (p1 &&& (2147483647 : Int32)) (200 : Int32)) + (1 : Int32))), .val (.ref z0_1), .val (.ref z0_2), .val (.ref z0_3), .val (.int (p0 &&& (2147483647 : Int32))), .val (.int ((own_irem (p1 &&& (2147483647 : Int32)) (200 : Int32)) + (1 : Int32)))] [(.ref z0_3)])) (fun t k => ?_) ?_
      · show Steps p.tables e below (T0_3.setTop (mkF m 81 #[.val (.int p0), .val (.int p1), .val (.int p2), .val (.int (0 : Int32)), .val (.int (0 : Int32)), .val (.int (p0 &&& (2147483647 : Int32))), .val (.int ((own_irem (p1 &&& (2147483647 : Int32)) (200 : Int32)) + (1 : Int32))), .val (.ref z0_1), .val (.ref z0_2), .unset, .unset, .unset] [(.ref z0_3)])) t
        refine XS.astore X0_3.here hx rfl (hb hby at_81) rfl rfl (l' := #[.val (.int p0), .val (.int p1), .val (.int p2), .val (.int (0 : Int32)), .val (.int (0 : Int32)), .val (.int (p0 &&& (2147483647 : Int32))), .val (.int ((own_irem (p1 &&& (2147483647 : Int32)) (200 : Int32)) + (1 : Int32))), .val (.ref z0_1), .val (.ref z0_2), .val (.ref z0_3), .unset, .unset]) rfl ?_
        show Steps p.tables e below (T0_3.setTop (mkF m 83 #[.val (.int p0), .val (.int p1), .val (.int p2), .val (.int (0 : Int32)), .val (.int (0 : Int32)), .val (.int (p0 &&& (2147483647 : Int32))), .val (.int ((own_irem (p1 &&& (2147483647 : Int32)) (200 : Int32)) + (1 : Int32))), .val (.ref z0_1), .val (.ref z0_2), .val (.ref z0_3), .unset, .unset] [])) t
        refine XS.iloadN X0_3.here hx rfl (hb hby at_83) rfl ?_
        show Steps p.tables e below (T0_3.setTop (mkF m 84 #[.val (.int p0), .val (.int p1), .val (.int p2), .val (.int (0 : Int32)), .val (.int (0 : Int32)), .val (.int (p0 &&& (2147483647 : Int32))), .val (.int ((own_irem (p1 &&& (2147483647 : Int32)) (200 : Int32)) + (1 : Int32))), .val (.ref z0_1), .val (.ref z0_2), .val (.ref z0_3), .unset, .unset] [(.int (0 : Int32))])) t
        refine XS.ifYes X0_3.here hx rfl (pc0 := 84) (pc' := 91) rfl (hb hby at_84) rfl ((if0 _ _).trans (teq (rfl : (0 : Int32) = (0 : Int32))).1) (by decide) (by decide) ?_
        show Steps p.tables e below (T0_3.setTop (mkF m 91 #[.val (.int p0), .val (.int p1), .val (.int p2), .val (.int (0 : Int32)), .val (.int (0 : Int32)), .val (.int (p0 &&& (2147483647 : Int32))), .val (.int ((own_irem (p1 &&& (2147483647 : Int32)) (200 : Int32)) + (1 : Int32))), .val (.ref z0_1), .val (.ref z0_2), .val (.ref z0_3), .unset, .unset] [])) t
        refine XS.iload X0_3.here hx rfl (hb hby at_91) rfl ?_
        show Steps p.tables e below (T0_3.setTop (mkF m 93 #[.val (.int p0), .val (.int p1), .val (.int p2), .val (.int (0 : Int32)), .val (.int (0 : Int32)), .val (.int (p0 &&& (2147483647 : Int32))), .val (.int ((own_irem (p1 &&& (2147483647 : Int32)) (200 : Int32)) + (1 : Int32))), .val (.ref z0_1), .val (.ref z0_2), .val (.ref z0_3), .unset, .unset] [(.int (p0 &&& (2147483647 : Int32)))])) t
        refine XS.istore X0_3.here hx rfl (hb hby at_93) rfl (l' := #[.val (.int p0), .val (.int p1), .val (.int p2), .val (.int (0 : Int32)), .val (.int (0 : Int32)), .val (.int (p0 &&& (2147483647 : Int32))), .val (.int ((own_irem (p1 &&& (2147483647 : Int32)) (200 : Int32)) + (1 : Int32))), .val (.ref z0_1), .val (.ref z0_2), .val (.ref z0_3), .val (.int (p0 &&& (2147483647 : Int32))), .unset]) rfl ?_
        show Steps p.tables e below (T0_3.setTop (mkF m 95 #[.val (.int p0), .val (.int p1), .val (.int p2), .val (.int (0 : Int32)), .val (.int (0 : Int32)), .val (.int (p0 &&& (2147483647 : Int32))), .val (.int ((own_irem (p1 &&& (2147483647 : Int32)) (200 : Int32)) + (1 : Int32))), .val (.ref z0_1), .val (.ref z0_2), .val (.ref z0_3), .val (.int (p0 &&& (2147483647 : Int32))), .unset] [])) t
        refine XS.iload X0_3.here hx rfl (hb hby at_95) rfl ?_
        show Steps p.tables e below (T0_3.setTop (mkF m 97 #[.val (.int p0), .val (.int p1), .val (.int p2), .val (.int (0 : Int32)), .val (.int (0 : Int32)), .val (.int (p0 &&& (2147483647 : Int32))), .val (.int ((own_irem (p1 &&& (2147483647 : Int32)) (200 : Int32)) + (1 : Int32))), .val (.ref z0_1), .val (.ref z0_2), .val (.ref z0_3), .val (.int (p0 &&& (2147483647 : Int32))), .unset] [(.int (0 : Int32))])) t
        refine XS.ifYes X0_3.here hx rfl (pc0 := 97) (pc' := 105) rfl (hb hby at_97) rfl ((if0 _ _).trans (teq (rfl : (0 : Int32) = (0 : Int32))).1) (by decide) (by decide) ?_
        show Steps p.tables e below (T0_3.setTop (mkF m 105 #[.val (.int p0), .val (.int p1), .val (.int p2), .val (.int (0 : Int32)), .val (.int (0 : Int32)), .val (.int (p0 &&& (2147483647 : Int32))), .val (.int ((own_irem (p1 &&& (2147483647 : Int32)) (200 : Int32)) + (1 : Int32))), .val (.ref z0_1), .val (.ref z0_2), .val (.ref z0_3), .val (.int (p0 &&& (2147483647 : Int32))), .unset] [])) t
        refine XS.iload X0_3.here hx rfl (hb hby at_105) rfl ?_
        show Steps p.tables e below (T0_3.setTop (mkF m 107 #[.val (.int p0), .val (.int p1), .val (.int p2), .val (.int (0 : Int32)), .val (.int (0 : Int32)), .val (.int (p0 &&& (2147483647 : Int32))), .val (.int ((own_irem (p1 &&& (2147483647 : Int32)) (200 : Int32)) + (1 : Int32))), .val (.ref z0_1), .val (.ref z0_2), .val (.ref z0_3), .val (.int (p0 &&& (2147483647 : Int32))), .unset] [(.int ((own_irem (p1 &&& (2147483647 : Int32)) (200 : Int32)) + (1 : Int32)))])) t
        refine XS.istore X0_3.here hx rfl (hb hby at_107) rfl (l' := #[.val (.int p0), .val (.int p1), .val (.int p2), .val (.int (0 : Int32)), .val (.int (0 : Int32)), .val (.int (p0 &&& (2147483647 : Int32))), .val (.int ((own_irem (p1 &&& (2147483647 : Int32)) (200 : Int32)) + (1 : Int32))), .val (.ref z0_1), .val (.ref z0_2), .val (.ref z0_3), .val (.int (p0 &&& (2147483647 : Int32))), .val (.int ((own_irem (p1 &&& (2147483647 : Int32)) (200 : Int32)) + (1 : Int32)))]) rfl ?_
        show Steps p.tables e below (T0_3.setTop (mkF m 109 #[.val (.int p0), .val (.int p1), .val (.int p2), .val (.int (0 : Int32)), .val (.int (0 : Int32)), .val (.int (p0 &&& (2147483647 : Int32))), .val (.int ((own_irem (p1 &&& (2147483647 : Int32)) (200 : Int32)) + (1 : Int32))), .val (.ref z0_1), .val (.ref z0_2), .val (.ref z0_3), .val (.int (p0 &&& (2147483647 : Int32))), .val (.int ((own_irem (p1 &&& (2147483647 : Int32)) (200 : Int32)) + (1 : Int32)))] [])) t
        refine XS.aload X0_3.here hx rfl (hb hby at_109) rfl rfl ?_
        exact k
      obtain ⟨cq0_4, kq0_4, q0_4a, q0_4b, q0_4c⟩ := isOf hZ rfl Ex0_3
      obtain ⟨_, _, ⟨T0_4, L0_4, k0_4, n0_4⟩, -, X0_4, ⟨Lc0_4, hQ0_4, l0_4, y0_4, z0_4⟩, st0_4⟩ := X0_3.virtualBack hx (y := (⟨"com/example/kido2/kido2/identity/PageRequest", "page", "()I"⟩ : MethodName)) (z := (⟨"com/example/kido2/kido2/identity/PageRequest", "page", "()I"⟩ : MethodName)) hown (mvT hZ (hw _ (List.mem_of_getElem? (i := 36) rfl))) (mvT hZ (hw _ (List.mem_of_getElem? (i := 37) rfl))) (notFace_of_selects (args := #[]) (mvT hZ (hw _ (List.mem_of_getElem? (i := 39) rfl)))) (mvT hZ (hw _ (List.mem_of_getElem? (i := 39) rfl))) (mvT hZ (hw _ (List.mem_of_getElem? (i := 38) rfl))) (by decide) (backOf (W := 0) (rm7 l Z a0 hw [] z0_3 (p0 &&& (2147483647 : Int32)) T0_3.heap n0 (Nat.le_trans (Nat.le_trans (Nat.le_trans Z0 K0_1.1) K0_2.1) K0_3.1) Fp0_3) hZ (hw _ (List.mem_of_getElem? (i := 40) rfl)) (hw _ (List.mem_of_getElem? (i := 10) rfl)) (by decide) (by decide)) q0_4a q0_4c (g := (mkF m 111 #[.val (.int p0), .val (.int p1), .val (.int p2), .val (.int (0 : Int32)), .val (.int (0 : Int32)), .val (.int (p0 &&& (2147483647 : Int32))), .val (.int ((own_irem (p1 &&& (2147483647 : Int32)) (200 : Int32)) + (1 : Int32))), .val (.ref z0_1), .val (.ref z0_2), .val (.ref z0_3), .val (.int (p0 &&& (2147483647 : Int32))), .val (.int ((own_irem (p1 &&& (2147483647 : Int32)) (200 : Int32)) + (1 : Int32)))] [(.ref z0_3)])) rfl (by rw [hml]; rfl) (Steps.refl _) (argsL := []) (rest := []) (lenOf pd0_2 rfl) rfl (by show 2 * 0 + _ ≤ _; exact Nat.le_of_eq rfl) (hb hby at_111) (fun _ _ => ⟨rfl, rfl, (by decide : 3 + 0 ≤ _), (by decide : 4 + 0 ≤ _)⟩)
      dsimp only [Pt.U, Pt.locs, Pt.cells, Pt.slots] at X0_4 l0_4 y0_4 z0_4 st0_4 hQ0_4
      subst l0_4 y0_4 z0_4
      obtain ⟨rfl, N0_4q, e0_4⟩ := hQ0_4
      have N0_4 := Fr.app N0_3 N0_4q
      refine own_fw (fun t k => st0_4.trans k) ?_
      refine own_fw (A := T0_4.setTop (mkF m 121 #[.val (.int p0), .val (.int p1), .val (.int p2), .val (.int (0 : Int32)), .val (.int (0 : Int32)), .val (.int (p0 &&& (2147483647 : Int32))), .val (.int ((own_irem (p1 &&& (2147483647 : Int32)) (200 : Int32)) + (1 : Int32))), .val (.ref z0_1), .val (.ref z0_2), .val (.ref z0_3), .val (.int (p0 &&& (2147483647 : Int32))), .val (.int ((own_irem (p1 &&& (2147483647 : Int32)) (200 : Int32)) + (1 : Int32)))] [(.ref z0_3)])) (fun t k => ?_) ?_
      · show Steps p.tables e below (T0_4.setTop (mkF m 114 #[.val (.int p0), .val (.int p1), .val (.int p2), .val (.int (0 : Int32)), .val (.int (0 : Int32)), .val (.int (p0 &&& (2147483647 : Int32))), .val (.int ((own_irem (p1 &&& (2147483647 : Int32)) (200 : Int32)) + (1 : Int32))), .val (.ref z0_1), .val (.ref z0_2), .val (.ref z0_3), .val (.int (p0 &&& (2147483647 : Int32))), .val (.int ((own_irem (p1 &&& (2147483647 : Int32)) (200 : Int32)) + (1 : Int32)))] [(.int (p0 &&& (2147483647 : Int32)))])) t
        refine XS.iload X0_4.here hx rfl (hb hby at_114) rfl ?_
        show Steps p.tables e below (T0_4.setTop (mkF m 116 #[.val (.int p0), .val (.int p1), .val (.int p2), .val (.int (0 : Int32)), .val (.int (0 : Int32)), .val (.int (p0 &&& (2147483647 : Int32))), .val (.int ((own_irem (p1 &&& (2147483647 : Int32)) (200 : Int32)) + (1 : Int32))), .val (.ref z0_1), .val (.ref z0_2), .val (.ref z0_3), .val (.int (p0 &&& (2147483647 : Int32))), .val (.int ((own_irem (p1 &&& (2147483647 : Int32)) (200 : Int32)) + (1 : Int32)))] [(.int (p0 &&& (2147483647 : Int32))), (.int (p0 &&& (2147483647 : Int32)))])) t
        refine XS.icmpNo X0_4.here hx rfl (hb hby at_116) rfl (teq (rfl : (p0 &&& (2147483647 : Int32)) = (p0 &&& (2147483647 : Int32)))).2 ?_
        show Steps p.tables e below (T0_4.setTop (mkF m 119 #[.val (.int p0), .val (.int p1), .val (.int p2), .val (.int (0 : Int32)), .val (.int (0 : Int32)), .val (.int (p0 &&& (2147483647 : Int32))), .val (.int ((own_irem (p1 &&& (2147483647 : Int32)) (200 : Int32)) + (1 : Int32))), .val (.ref z0_1), .val (.ref z0_2), .val (.ref z0_3), .val (.int (p0 &&& (2147483647 : Int32))), .val (.int ((own_irem (p1 &&& (2147483647 : Int32)) (200 : Int32)) + (1 : Int32)))] [])) t
        refine XS.aload X0_4.here hx rfl (hb hby at_119) rfl rfl ?_
        exact k
      obtain ⟨cq0_5, kq0_5, q0_5a, q0_5b, q0_5c⟩ := isOf hZ e0_4 Ex0_3
      obtain ⟨_, _, ⟨T0_5, L0_5, k0_5, n0_5⟩, -, X0_5, ⟨Lc0_5, hQ0_5, l0_5, y0_5, z0_5⟩, st0_5⟩ := X0_4.virtualBack hx (y := (⟨"com/example/kido2/kido2/identity/PageRequest", "size", "()I"⟩ : MethodName)) (z := (⟨"com/example/kido2/kido2/identity/PageRequest", "size", "()I"⟩ : MethodName)) hown (mvT hZ (hw _ (List.mem_of_getElem? (i := 41) rfl))) (mvT hZ (hw _ (List.mem_of_getElem? (i := 42) rfl))) (notFace_of_selects (args := #[]) (mvT hZ (hw _ (List.mem_of_getElem? (i := 44) rfl)))) (mvT hZ (hw _ (List.mem_of_getElem? (i := 44) rfl))) (mvT hZ (hw _ (List.mem_of_getElem? (i := 43) rfl))) (by decide) (backOf (W := 0) (rm8 l Z a0 hw [] z0_3 ((own_irem (p1 &&& (2147483647 : Int32)) (200 : Int32)) + (1 : Int32)) T0_3.heap n0 (Nat.le_trans (Nat.le_trans (Nat.le_trans Z0 K0_1.1) K0_2.1) K0_3.1) Fs0_3) hZ (hw _ (List.mem_of_getElem? (i := 45) rfl)) (hw _ (List.mem_of_getElem? (i := 10) rfl)) (by decide) (by decide)) q0_5a q0_5c (g := (mkF m 121 #[.val (.int p0), .val (.int p1), .val (.int p2), .val (.int (0 : Int32)), .val (.int (0 : Int32)), .val (.int (p0 &&& (2147483647 : Int32))), .val (.int ((own_irem (p1 &&& (2147483647 : Int32)) (200 : Int32)) + (1 : Int32))), .val (.ref z0_1), .val (.ref z0_2), .val (.ref z0_3), .val (.int (p0 &&& (2147483647 : Int32))), .val (.int ((own_irem (p1 &&& (2147483647 : Int32)) (200 : Int32)) + (1 : Int32)))] [(.ref z0_3)])) rfl (by rw [hml]; rfl) (Steps.refl _) (argsL := []) (rest := []) (lenOf pd0_2 rfl) rfl (by show 2 * 0 + _ ≤ _; exact Nat.le_of_eq rfl) (hb hby at_121) (fun _ _ => ⟨rfl, e0_4, (by decide : 3 + 0 ≤ _), (by decide : 4 + 0 ≤ _)⟩)
      dsimp only [Pt.U, Pt.locs, Pt.cells, Pt.slots] at X0_5 l0_5 y0_5 z0_5 st0_5 hQ0_5
      subst l0_5 y0_5 z0_5
      obtain ⟨rfl, N0_5q, e0_5⟩ := hQ0_5
      have N0_5 := Fr.app N0_4 N0_5q
      refine own_fw (fun t k => st0_5.trans k) ?_
      refine own_fw (A := T0_5.setTop (mkF m 134 #[.val (.int p0), .val (.int p1), .val (.int p2), .val (.int (0 : Int32)), .val (.int (0 : Int32)), .val (.int (p0 &&& (2147483647 : Int32))), .val (.int ((own_irem (p1 &&& (2147483647 : Int32)) (200 : Int32)) + (1 : Int32))), .val (.ref z0_1), .val (.ref z0_2), .val (.ref z0_3), .val (.int (p0 &&& (2147483647 : Int32))), .val (.int ((own_irem (p1 &&& (2147483647 : Int32)) (200 : Int32)) + (1 : Int32)))] [(.int (1 : Int32))])) (fun t k => ?_) ?_
      · show Steps p.tables e below (T0_5.setTop (mkF m 124 #[.val (.int p0), .val (.int p1), .val (.int p2), .val (.int (0 : Int32)), .val (.int (0 : Int32)), .val (.int (p0 &&& (2147483647 : Int32))), .val (.int ((own_irem (p1 &&& (2147483647 : Int32)) (200 : Int32)) + (1 : Int32))), .val (.ref z0_1), .val (.ref z0_2), .val (.ref z0_3), .val (.int (p0 &&& (2147483647 : Int32))), .val (.int ((own_irem (p1 &&& (2147483647 : Int32)) (200 : Int32)) + (1 : Int32)))] [(.int ((own_irem (p1 &&& (2147483647 : Int32)) (200 : Int32)) + (1 : Int32)))])) t
        refine XS.iload X0_5.here hx rfl (hb hby at_124) rfl ?_
        show Steps p.tables e below (T0_5.setTop (mkF m 126 #[.val (.int p0), .val (.int p1), .val (.int p2), .val (.int (0 : Int32)), .val (.int (0 : Int32)), .val (.int (p0 &&& (2147483647 : Int32))), .val (.int ((own_irem (p1 &&& (2147483647 : Int32)) (200 : Int32)) + (1 : Int32))), .val (.ref z0_1), .val (.ref z0_2), .val (.ref z0_3), .val (.int (p0 &&& (2147483647 : Int32))), .val (.int ((own_irem (p1 &&& (2147483647 : Int32)) (200 : Int32)) + (1 : Int32)))] [(.int ((own_irem (p1 &&& (2147483647 : Int32)) (200 : Int32)) + (1 : Int32))), (.int ((own_irem (p1 &&& (2147483647 : Int32)) (200 : Int32)) + (1 : Int32)))])) t
        refine XS.icmpNo X0_5.here hx rfl (hb hby at_126) rfl (teq (rfl : ((own_irem (p1 &&& (2147483647 : Int32)) (200 : Int32)) + (1 : Int32)) = ((own_irem (p1 &&& (2147483647 : Int32)) (200 : Int32)) + (1 : Int32)))).2 ?_
        show Steps p.tables e below (T0_5.setTop (mkF m 129 #[.val (.int p0), .val (.int p1), .val (.int p2), .val (.int (0 : Int32)), .val (.int (0 : Int32)), .val (.int (p0 &&& (2147483647 : Int32))), .val (.int ((own_irem (p1 &&& (2147483647 : Int32)) (200 : Int32)) + (1 : Int32))), .val (.ref z0_1), .val (.ref z0_2), .val (.ref z0_3), .val (.int (p0 &&& (2147483647 : Int32))), .val (.int ((own_irem (p1 &&& (2147483647 : Int32)) (200 : Int32)) + (1 : Int32)))] [])) t
        refine XS.iconst X0_5.here hx rfl (hb hby at_129) ?_
        show Steps p.tables e below (T0_5.setTop (mkF m 130 #[.val (.int p0), .val (.int p1), .val (.int p2), .val (.int (0 : Int32)), .val (.int (0 : Int32)), .val (.int (p0 &&& (2147483647 : Int32))), .val (.int ((own_irem (p1 &&& (2147483647 : Int32)) (200 : Int32)) + (1 : Int32))), .val (.ref z0_1), .val (.ref z0_2), .val (.ref z0_3), .val (.int (p0 &&& (2147483647 : Int32))), .val (.int ((own_irem (p1 &&& (2147483647 : Int32)) (200 : Int32)) + (1 : Int32)))] [(.int (1 : Int32))])) t
        refine XS.goto X0_5.here hx rfl (pc0 := 130) (pc' := 134) rfl (hb hby at_130) (by decide) (by decide) ?_
        exact k
      obtain ⟨fs, hr, hrun, hended, hW, hsame⟩ := X0_5.leave (v := some (.int (nar .boolean (1 : Int32)))) (fun h => by rw [Bd.returns] at h; cases h)
      refine ⟨_, _, retN X0_5 hx (t := .boolean) Bd.returns (by simp) (hb hby at_134) hr, hrun, hended, _, _, rfl, ?_, ⟨_, rfl⟩, hW, hsame.mono (by decide) (by decide)⟩
      have eh : (T0_5.setFrames fs).heap = T0_3.heap := e0_5
      rw [eh]
      exact ⟨rfl, N0_5⟩
    · refine own_fw (A := s₁.setTop (mkF m 18 #[.val (.int p0), .val (.int p1), .val (.int p2), .val (.int (0 : Int32)), .unset, .unset, .unset, .unset, .unset, .unset, .unset, .unset] [])) (fun t k => ?_) ?_
      · show Steps p.tables e below (s₁.setTop (mkF m 15 #[.val (.int p0), .val (.int p1), .val (.int p2), .val (.int (0 : Int32)), .unset, .unset, .unset, .unset, .unset, .unset, .unset, .unset] [(.int (p2 &&& (2 : Int32)))])) t
        refine XS.ifNo X0.here hx rfl (hb hby at_15) rfl ((if0 _ _).trans (feq hc0_2).1) ?_
        exact k
      refine own_fw (A := s₁.setTop (mkF m 53 #[.val (.int p0), .val (.int p1), .val (.int p2), .val (.int (0 : Int32)), .val (.int (1 : Int32)), .val (.int (p0 &&& (2147483647 : Int32))), .val (.int ((own_irem (p1 &&& (2147483647 : Int32)) (200 : Int32)) + (1 : Int32))), .unset, .unset, .unset, .unset, .unset] [(.int (p0 &&& (2147483647 : Int32)))])) (fun t k => ?_) ?_
      · show Steps p.tables e below (s₁.setTop (mkF m 18 #[.val (.int p0), .val (.int p1), .val (.int p2), .val (.int (0 : Int32)), .unset, .unset, .unset, .unset, .unset, .unset, .unset, .unset] [])) t
        refine XS.iconst X0.here hx rfl (hb hby at_18) ?_
        show Steps p.tables e below (s₁.setTop (mkF m 19 #[.val (.int p0), .val (.int p1), .val (.int p2), .val (.int (0 : Int32)), .unset, .unset, .unset, .unset, .unset, .unset, .unset, .unset] [(.int (1 : Int32))])) t
        refine XS.goto X0.here hx rfl (pc0 := 19) (pc' := 23) rfl (hb hby at_19) (by decide) (by decide) ?_
        show Steps p.tables e below (s₁.setTop (mkF m 23 #[.val (.int p0), .val (.int p1), .val (.int p2), .val (.int (0 : Int32)), .unset, .unset, .unset, .unset, .unset, .unset, .unset, .unset] [(.int (1 : Int32))])) t
        refine XS.istore X0.here hx rfl (hb hby at_23) rfl (l' := #[.val (.int p0), .val (.int p1), .val (.int p2), .val (.int (0 : Int32)), .val (.int (1 : Int32)), .unset, .unset, .unset, .unset, .unset, .unset, .unset]) rfl ?_
        show Steps p.tables e below (s₁.setTop (mkF m 25 #[.val (.int p0), .val (.int p1), .val (.int p2), .val (.int (0 : Int32)), .val (.int (1 : Int32)), .unset, .unset, .unset, .unset, .unset, .unset, .unset] [])) t
        refine XS.iloadN X0.here hx rfl (hb hby at_25) rfl ?_
        show Steps p.tables e below (s₁.setTop (mkF m 26 #[.val (.int p0), .val (.int p1), .val (.int p2), .val (.int (0 : Int32)), .val (.int (1 : Int32)), .unset, .unset, .unset, .unset, .unset, .unset, .unset] [(.int p0)])) t
        refine X0.ldcInt hx hown (mvT hZ (hw _ (List.mem_of_getElem? (i := 0) rfl))) (g := (mkF m 26 #[.val (.int p0), .val (.int p1), .val (.int p2), .val (.int (0 : Int32)), .val (.int (1 : Int32)), .unset, .unset, .unset, .unset, .unset, .unset, .unset] [(.int p0)])) rfl (hb hby at_26) _ ?_
        show Steps p.tables e below (s₁.setTop (mkF m 28 #[.val (.int p0), .val (.int p1), .val (.int p2), .val (.int (0 : Int32)), .val (.int (1 : Int32)), .unset, .unset, .unset, .unset, .unset, .unset, .unset] [(.int (2147483647 : Int32)), (.int p0)])) t
        refine XS.iand X0.here hx rfl (hb hby at_28) rfl ?_
        show Steps p.tables e below (s₁.setTop (mkF m 29 #[.val (.int p0), .val (.int p1), .val (.int p2), .val (.int (0 : Int32)), .val (.int (1 : Int32)), .unset, .unset, .unset, .unset, .unset, .unset, .unset] [(.int (p0 &&& (2147483647 : Int32)))])) t
        refine XS.istore X0.here hx rfl (hb hby at_29) rfl (l' := #[.val (.int p0), .val (.int p1), .val (.int p2), .val (.int (0 : Int32)), .val (.int (1 : Int32)), .val (.int (p0 &&& (2147483647 : Int32))), .unset, .unset, .unset, .unset, .unset, .unset]) rfl ?_
        show Steps p.tables e below (s₁.setTop (mkF m 31 #[.val (.int p0), .val (.int p1), .val (.int p2), .val (.int (0 : Int32)), .val (.int (1 : Int32)), .val (.int (p0 &&& (2147483647 : Int32))), .unset, .unset, .unset, .unset, .unset, .unset] [])) t
        refine XS.iloadN X0.here hx rfl (hb hby at_31) rfl ?_
        show Steps p.tables e below (s₁.setTop (mkF m 32 #[.val (.int p0), .val (.int p1), .val (.int p2), .val (.int (0 : Int32)), .val (.int (1 : Int32)), .val (.int (p0 &&& (2147483647 : Int32))), .unset, .unset, .unset, .unset, .unset, .unset] [(.int p1)])) t
        refine X0.ldcInt hx hown (mvT hZ (hw _ (List.mem_of_getElem? (i := 0) rfl))) (g := (mkF m 32 #[.val (.int p0), .val (.int p1), .val (.int p2), .val (.int (0 : Int32)), .val (.int (1 : Int32)), .val (.int (p0 &&& (2147483647 : Int32))), .unset, .unset, .unset, .unset, .unset, .unset] [(.int p1)])) rfl (hb hby at_32) _ ?_
        show Steps p.tables e below (s₁.setTop (mkF m 34 #[.val (.int p0), .val (.int p1), .val (.int p2), .val (.int (0 : Int32)), .val (.int (1 : Int32)), .val (.int (p0 &&& (2147483647 : Int32))), .unset, .unset, .unset, .unset, .unset, .unset] [(.int (2147483647 : Int32)), (.int p1)])) t
        refine XS.iand X0.here hx rfl (hb hby at_34) rfl ?_
        show Steps p.tables e below (s₁.setTop (mkF m 35 #[.val (.int p0), .val (.int p1), .val (.int p2), .val (.int (0 : Int32)), .val (.int (1 : Int32)), .val (.int (p0 &&& (2147483647 : Int32))), .unset, .unset, .unset, .unset, .unset, .unset] [(.int (p1 &&& (2147483647 : Int32)))])) t
        refine XS.sipush X0.here hx rfl (hb hby at_35) ?_
        show Steps p.tables e below (s₁.setTop (mkF m 38 #[.val (.int p0), .val (.int p1), .val (.int p2), .val (.int (0 : Int32)), .val (.int (1 : Int32)), .val (.int (p0 &&& (2147483647 : Int32))), .unset, .unset, .unset, .unset, .unset, .unset] [(.int (200 : Int32)), (.int (p1 &&& (2147483647 : Int32)))])) t
        refine XS.irem X0.here hx rfl (hb hby at_38) rfl (by decide) ?_
        show Steps p.tables e below (s₁.setTop (mkF m 39 #[.val (.int p0), .val (.int p1), .val (.int p2), .val (.int (0 : Int32)), .val (.int (1 : Int32)), .val (.int (p0 &&& (2147483647 : Int32))), .unset, .unset, .unset, .unset, .unset, .unset] [(.int (own_irem (p1 &&& (2147483647 : Int32)) (200 : Int32)))])) t
        refine XS.iconst X0.here hx rfl (hb hby at_39) ?_
        show Steps p.tables e below (s₁.setTop (mkF m 40 #[.val (.int p0), .val (.int p1), .val (.int p2), .val (.int (0 : Int32)), .val (.int (1 : Int32)), .val (.int (p0 &&& (2147483647 : Int32))), .unset, .unset, .unset, .unset, .unset, .unset] [(.int (1 : Int32)), (.int (own_irem (p1 &&& (2147483647 : Int32)) (200 : Int32)))])) t
        refine XS.iadd X0.here hx rfl (hb hby at_40) rfl ?_
        show Steps p.tables e below (s₁.setTop (mkF m 41 #[.val (.int p0), .val (.int p1), .val (.int p2), .val (.int (0 : Int32)), .val (.int (1 : Int32)), .val (.int (p0 &&& (2147483647 : Int32))), .unset, .unset, .unset, .unset, .unset, .unset] [(.int ((own_irem (p1 &&& (2147483647 : Int32)) (200 : Int32)) + (1 : Int32)))])) t
        refine XS.istore X0.here hx rfl (hb hby at_41) rfl (l' := #[.val (.int p0), .val (.int p1), .val (.int p2), .val (.int (0 : Int32)), .val (.int (1 : Int32)), .val (.int (p0 &&& (2147483647 : Int32))), .val (.int ((own_irem (p1 &&& (2147483647 : Int32)) (200 : Int32)) + (1 : Int32))), .unset, .unset, .unset, .unset, .unset]) rfl ?_
        show Steps p.tables e below (s₁.setTop (mkF m 43 #[.val (.int p0), .val (.int p1), .val (.int p2), .val (.int (0 : Int32)), .val (.int (1 : Int32)), .val (.int (p0 &&& (2147483647 : Int32))), .val (.int ((own_irem (p1 &&& (2147483647 : Int32)) (200 : Int32)) + (1 : Int32))), .unset, .unset, .unset, .unset, .unset] [])) t
        refine XS.iloadN X0.here hx rfl (hb hby at_43) rfl ?_
        show Steps p.tables e below (s₁.setTop (mkF m 44 #[.val (.int p0), .val (.int p1), .val (.int p2), .val (.int (0 : Int32)), .val (.int (1 : Int32)), .val (.int (p0 &&& (2147483647 : Int32))), .val (.int ((own_irem (p1 &&& (2147483647 : Int32)) (200 : Int32)) + (1 : Int32))), .unset, .unset, .unset, .unset, .unset] [(.int (0 : Int32))])) t
        refine XS.ifYes X0.here hx rfl (pc0 := 44) (pc' := 51) rfl (hb hby at_44) rfl ((if0 _ _).trans (teq (rfl : (0 : Int32) = (0 : Int32))).1) (by decide) (by decide) ?_
        show Steps p.tables e below (s₁.setTop (mkF m 51 #[.val (.int p0), .val (.int p1), .val (.int p2), .val (.int (0 : Int32)), .val (.int (1 : Int32)), .val (.int (p0 &&& (2147483647 : Int32))), .val (.int ((own_irem (p1 &&& (2147483647 : Int32)) (200 : Int32)) + (1 : Int32))), .unset, .unset, .unset, .unset, .unset] [])) t
        refine XS.iload X0.here hx rfl (hb hby at_51) rfl ?_
        exact k
      obtain ⟨_, _, ⟨T0_6, L0_6, k0_6, n0_6⟩, -, X0_6, ⟨Lc0_6, hQ0_6, l0_6, y0_6, z0_6⟩, st0_6⟩ := Jvm.LawKit.callS X0 hx (y := (⟨"java/lang/Integer", "valueOf", "(I)Ljava/lang/Integer;"⟩ : MethodName)) hown (mvT hZ (hw _ (List.mem_of_getElem? (i := 1) rfl))) (mvT hZ (hw _ (List.mem_of_getElem? (i := 2) rfl))) (mvT hZ (hw _ (List.mem_of_getElem? (i := 3) rfl))) (mvT hZ (hw _ (List.mem_of_getElem? (i := 4) rfl))) (by decide) (backOf (W := 0) (rm1 l Z a0 hw [] (p0 &&& (2147483647 : Int32)) ca cc h0 n0 Z0 S_high S_cache Bx O (own_lo1 p0)) hZ (hw _ (List.mem_of_getElem? (i := 4) rfl)) (hw _ (List.mem_of_getElem? (i := 3) rfl)) (by decide) (by decide)) (g := (mkF m 53 #[.val (.int p0), .val (.int p1), .val (.int p2), .val (.int (0 : Int32)), .val (.int (1 : Int32)), .val (.int (p0 &&& (2147483647 : Int32))), .val (.int ((own_irem (p1 &&& (2147483647 : Int32)) (200 : Int32)) + (1 : Int32))), .unset, .unset, .unset, .unset, .unset] [(.int (p0 &&& (2147483647 : Int32)))])) rfl (by rw [hml]; rfl) (argsL := [(.int (p0 &&& (2147483647 : Int32)))]) (rest := []) (lenOf pd0_0 rfl) rfl (by show 2 * 0 + _ ≤ _; exact Nat.le_of_eq rfl) (hb hby at_53) (fun _ _ => ⟨rfl, e0, (by decide : 0 + 1 ≤ _), (by decide : 0 + 1 ≤ _)⟩)
      dsimp only [Pt.U, Pt.locs, Pt.cells, Pt.slots] at X0_6 l0_6 y0_6 z0_6 st0_6 hQ0_6
      subst l0_6 y0_6 z0_6
      obtain ⟨z0_6, rfl, N0_6q, K0_6, Ex0_6, Fv0_6⟩ := hQ0_6
      have N0_6 := Fr.app N0 N0_6q
      refine own_fw st0_6 ?_
      refine own_fw (A := T0_6.setTop (mkF m 78 #[.val (.int p0), .val (.int p1), .val (.int p2), .val (.int (0 : Int32)), .val (.int (1 : Int32)), .val (.int (p0 &&& (2147483647 : Int32))), .val (.int ((own_irem (p1 &&& (2147483647 : Int32)) (200 : Int32)) + (1 : Int32))), .val (.ref z0_6), .val .null, .unset, .unset, .unset] [.null, (.ref z0_6)])) (fun t k => ?_) ?_
      · show Steps p.tables e below (T0_6.setTop (mkF m 56 #[.val (.int p0), .val (.int p1), .val (.int p2), .val (.int (0 : Int32)), .val (.int (1 : Int32)), .val (.int (p0 &&& (2147483647 : Int32))), .val (.int ((own_irem (p1 &&& (2147483647 : Int32)) (200 : Int32)) + (1 : Int32))), .unset, .unset, .unset, .unset, .unset] [(.ref z0_6)])) t
        refine XS.astore X0_6.here hx rfl (hb hby at_56) rfl rfl (l' := #[.val (.int p0), .val (.int p1), .val (.int p2), .val (.int (0 : Int32)), .val (.int (1 : Int32)), .val (.int (p0 &&& (2147483647 : Int32))), .val (.int ((own_irem (p1 &&& (2147483647 : Int32)) (200 : Int32)) + (1 : Int32))), .val (.ref z0_6), .unset, .unset, .unset, .unset]) rfl ?_
        show Steps p.tables e below (T0_6.setTop (mkF m 58 #[.val (.int p0), .val (.int p1), .val (.int p2), .val (.int (0 : Int32)), .val (.int (1 : Int32)), .val (.int (p0 &&& (2147483647 : Int32))), .val (.int ((own_irem (p1 &&& (2147483647 : Int32)) (200 : Int32)) + (1 : Int32))), .val (.ref z0_6), .unset, .unset, .unset, .unset] [])) t
        refine XS.iload X0_6.here hx rfl (hb hby at_58) rfl ?_
        show Steps p.tables e below (T0_6.setTop (mkF m 60 #[.val (.int p0), .val (.int p1), .val (.int p2), .val (.int (0 : Int32)), .val (.int (1 : Int32)), .val (.int (p0 &&& (2147483647 : Int32))), .val (.int ((own_irem (p1 &&& (2147483647 : Int32)) (200 : Int32)) + (1 : Int32))), .val (.ref z0_6), .unset, .unset, .unset, .unset] [(.int (1 : Int32))])) t
        refine XS.ifNo X0_6.here hx rfl (hb hby at_60) rfl ((if0 _ _).trans (feq (by decide : ¬ ((1 : Int32) = (0 : Int32)))).1) ?_
        show Steps p.tables e below (T0_6.setTop (mkF m 63 #[.val (.int p0), .val (.int p1), .val (.int p2), .val (.int (0 : Int32)), .val (.int (1 : Int32)), .val (.int (p0 &&& (2147483647 : Int32))), .val (.int ((own_irem (p1 &&& (2147483647 : Int32)) (200 : Int32)) + (1 : Int32))), .val (.ref z0_6), .unset, .unset, .unset, .unset] [])) t
        refine XS.aconstNull X0_6.here hx rfl (hb hby at_63) ?_
        show Steps p.tables e below (T0_6.setTop (mkF m 64 #[.val (.int p0), .val (.int p1), .val (.int p2), .val (.int (0 : Int32)), .val (.int (1 : Int32)), .val (.int (p0 &&& (2147483647 : Int32))), .val (.int ((own_irem (p1 &&& (2147483647 : Int32)) (200 : Int32)) + (1 : Int32))), .val (.ref z0_6), .unset, .unset, .unset, .unset] [.null])) t
        refine XS.goto X0_6.here hx rfl (pc0 := 64) (pc' := 72) rfl (hb hby at_64) (by decide) (by decide) ?_
        show Steps p.tables e below (T0_6.setTop (mkF m 72 #[.val (.int p0), .val (.int p1), .val (.int p2), .val (.int (0 : Int32)), .val (.int (1 : Int32)), .val (.int (p0 &&& (2147483647 : Int32))), .val (.int ((own_irem (p1 &&& (2147483647 : Int32)) (200 : Int32)) + (1 : Int32))), .val (.ref z0_6), .unset, .unset, .unset, .unset] [.null])) t
        refine XS.astore X0_6.here hx rfl (hb hby at_72) rfl rfl (l' := #[.val (.int p0), .val (.int p1), .val (.int p2), .val (.int (0 : Int32)), .val (.int (1 : Int32)), .val (.int (p0 &&& (2147483647 : Int32))), .val (.int ((own_irem (p1 &&& (2147483647 : Int32)) (200 : Int32)) + (1 : Int32))), .val (.ref z0_6), .val .null, .unset, .unset, .unset]) rfl ?_
        show Steps p.tables e below (T0_6.setTop (mkF m 74 #[.val (.int p0), .val (.int p1), .val (.int p2), .val (.int (0 : Int32)), .val (.int (1 : Int32)), .val (.int (p0 &&& (2147483647 : Int32))), .val (.int ((own_irem (p1 &&& (2147483647 : Int32)) (200 : Int32)) + (1 : Int32))), .val (.ref z0_6), .val .null, .unset, .unset, .unset] [])) t
        refine XS.aload X0_6.here hx rfl (hb hby at_74) rfl rfl ?_
        show Steps p.tables e below (T0_6.setTop (mkF m 76 #[.val (.int p0), .val (.int p1), .val (.int p2), .val (.int (0 : Int32)), .val (.int (1 : Int32)), .val (.int (p0 &&& (2147483647 : Int32))), .val (.int ((own_irem (p1 &&& (2147483647 : Int32)) (200 : Int32)) + (1 : Int32))), .val (.ref z0_6), .val .null, .unset, .unset, .unset] [(.ref z0_6)])) t
        refine XS.aload X0_6.here hx rfl (hb hby at_76) rfl rfl ?_
        exact k
      obtain ⟨_, _, ⟨T0_7, L0_7, k0_7, n0_7⟩, -, X0_7, ⟨Lc0_7, hQ0_7, l0_7, y0_7, z0_7⟩, st0_7⟩ := Jvm.LawKit.callS X0_6 hx (y := (⟨"com/example/kido2/kido2/identity/PageRequest", "of", "(Ljava/lang/Integer;Ljava/lang/Integer;)Lcom/example/kido2/kido2/identity/PageRequest;"⟩ : MethodName)) hown (mvT hZ (hw _ (List.mem_of_getElem? (i := 8) rfl))) (mvT hZ (hw _ (List.mem_of_getElem? (i := 9) rfl))) (mvT hZ (hw _ (List.mem_of_getElem? (i := 10) rfl))) (mvT hZ (hw _ (List.mem_of_getElem? (i := 11) rfl))) (by decide) (backOf (W := 0) (rmO_01 l Z a0 hw [] z0_6 (p0 &&& (2147483647 : Int32)) T0_6.heap n0 (Nat.le_trans Z0 K0_6.1) Ex0_6 Fv0_6 (own_c5 p0)) hZ (hw _ (List.mem_of_getElem? (i := 11) rfl)) (hw _ (List.mem_of_getElem? (i := 10) rfl)) (by decide) (by decide)) (g := (mkF m 78 #[.val (.int p0), .val (.int p1), .val (.int p2), .val (.int (0 : Int32)), .val (.int (1 : Int32)), .val (.int (p0 &&& (2147483647 : Int32))), .val (.int ((own_irem (p1 &&& (2147483647 : Int32)) (200 : Int32)) + (1 : Int32))), .val (.ref z0_6), .val .null, .unset, .unset, .unset] [.null, (.ref z0_6)])) rfl (by rw [hml]; rfl) (argsL := [(.ref z0_6), .null]) (rest := []) (lenOf pd0_1 rfl) rfl (by show 2 * 0 + _ ≤ _; exact Nat.le_of_eq rfl) (hb hby at_78) (fun _ _ => ⟨rfl, rfl, (by decide : 1 + 1 ≤ _), (by decide : 1 + 2 ≤ _)⟩)
      dsimp only [Pt.U, Pt.locs, Pt.cells, Pt.slots] at X0_7 l0_7 y0_7 z0_7 st0_7 hQ0_7
      subst l0_7 y0_7 z0_7
      obtain ⟨z0_7, rfl, N0_7q, K0_7, Ex0_7, Fp0_7, Fs0_7⟩ := hQ0_7
      have N0_7 := Fr.app N0_6 N0_7q
      refine own_fw st0_7 ?_
      refine own_fw (A := T0_7.setTop (mkF m 111 #[.val (.int p0), .val (.int p1), .val (.int p2), .val (.int (0 : Int32)), .val (.int (1 : Int32)), .val (.int (p0 &&& (2147483647 : Int32))), .val (.int ((own_irem (p1 &&& (2147483647 : Int32)) (200 : Int32)) + (1 : Int32))), .val (.ref z0_6), .val .null, .val (.ref z0_7), .val (.int (p0 &&& (2147483647 : Int32))), .val (.int (50 : Int32))] [(.ref z0_7)])) (fun t k => ?_) ?_
      · show Steps p.tables e below (T0_7.setTop (mkF m 81 #[.val (.int p0), .val (.int p1), .val (.int p2), .val (.int (0 : Int32)), .val (.int (1 : Int32)), .val (.int (p0 &&& (2147483647 : Int32))), .val (.int ((own_irem (p1 &&& (2147483647 : Int32)) (200 : Int32)) + (1 : Int32))), .val (.ref z0_6), .val .null, .unset, .unset, .unset] [(.ref z0_7)])) t
        refine XS.astore X0_7.here hx rfl (hb hby at_81) rfl rfl (l' := #[.val (.int p0), .val (.int p1), .val (.int p2), .val (.int (0 : Int32)), .val (.int (1 : Int32)), .val (.int (p0 &&& (2147483647 : Int32))), .val (.int ((own_irem (p1 &&& (2147483647 : Int32)) (200 : Int32)) + (1 : Int32))), .val (.ref z0_6), .val .null, .val (.ref z0_7), .unset, .unset]) rfl ?_
        show Steps p.tables e below (T0_7.setTop (mkF m 83 #[.val (.int p0), .val (.int p1), .val (.int p2), .val (.int (0 : Int32)), .val (.int (1 : Int32)), .val (.int (p0 &&& (2147483647 : Int32))), .val (.int ((own_irem (p1 &&& (2147483647 : Int32)) (200 : Int32)) + (1 : Int32))), .val (.ref z0_6), .val .null, .val (.ref z0_7), .unset, .unset] [])) t
        refine XS.iloadN X0_7.here hx rfl (hb hby at_83) rfl ?_
        show Steps p.tables e below (T0_7.setTop (mkF m 84 #[.val (.int p0), .val (.int p1), .val (.int p2), .val (.int (0 : Int32)), .val (.int (1 : Int32)), .val (.int (p0 &&& (2147483647 : Int32))), .val (.int ((own_irem (p1 &&& (2147483647 : Int32)) (200 : Int32)) + (1 : Int32))), .val (.ref z0_6), .val .null, .val (.ref z0_7), .unset, .unset] [(.int (0 : Int32))])) t
        refine XS.ifYes X0_7.here hx rfl (pc0 := 84) (pc' := 91) rfl (hb hby at_84) rfl ((if0 _ _).trans (teq (rfl : (0 : Int32) = (0 : Int32))).1) (by decide) (by decide) ?_
        show Steps p.tables e below (T0_7.setTop (mkF m 91 #[.val (.int p0), .val (.int p1), .val (.int p2), .val (.int (0 : Int32)), .val (.int (1 : Int32)), .val (.int (p0 &&& (2147483647 : Int32))), .val (.int ((own_irem (p1 &&& (2147483647 : Int32)) (200 : Int32)) + (1 : Int32))), .val (.ref z0_6), .val .null, .val (.ref z0_7), .unset, .unset] [])) t
        refine XS.iload X0_7.here hx rfl (hb hby at_91) rfl ?_
        show Steps p.tables e below (T0_7.setTop (mkF m 93 #[.val (.int p0), .val (.int p1), .val (.int p2), .val (.int (0 : Int32)), .val (.int (1 : Int32)), .val (.int (p0 &&& (2147483647 : Int32))), .val (.int ((own_irem (p1 &&& (2147483647 : Int32)) (200 : Int32)) + (1 : Int32))), .val (.ref z0_6), .val .null, .val (.ref z0_7), .unset, .unset] [(.int (p0 &&& (2147483647 : Int32)))])) t
        refine XS.istore X0_7.here hx rfl (hb hby at_93) rfl (l' := #[.val (.int p0), .val (.int p1), .val (.int p2), .val (.int (0 : Int32)), .val (.int (1 : Int32)), .val (.int (p0 &&& (2147483647 : Int32))), .val (.int ((own_irem (p1 &&& (2147483647 : Int32)) (200 : Int32)) + (1 : Int32))), .val (.ref z0_6), .val .null, .val (.ref z0_7), .val (.int (p0 &&& (2147483647 : Int32))), .unset]) rfl ?_
        show Steps p.tables e below (T0_7.setTop (mkF m 95 #[.val (.int p0), .val (.int p1), .val (.int p2), .val (.int (0 : Int32)), .val (.int (1 : Int32)), .val (.int (p0 &&& (2147483647 : Int32))), .val (.int ((own_irem (p1 &&& (2147483647 : Int32)) (200 : Int32)) + (1 : Int32))), .val (.ref z0_6), .val .null, .val (.ref z0_7), .val (.int (p0 &&& (2147483647 : Int32))), .unset] [])) t
        refine XS.iload X0_7.here hx rfl (hb hby at_95) rfl ?_
        show Steps p.tables e below (T0_7.setTop (mkF m 97 #[.val (.int p0), .val (.int p1), .val (.int p2), .val (.int (0 : Int32)), .val (.int (1 : Int32)), .val (.int (p0 &&& (2147483647 : Int32))), .val (.int ((own_irem (p1 &&& (2147483647 : Int32)) (200 : Int32)) + (1 : Int32))), .val (.ref z0_6), .val .null, .val (.ref z0_7), .val (.int (p0 &&& (2147483647 : Int32))), .unset] [(.int (1 : Int32))])) t
        refine XS.ifNo X0_7.here hx rfl (hb hby at_97) rfl ((if0 _ _).trans (feq (by decide : ¬ ((1 : Int32) = (0 : Int32)))).1) ?_
        show Steps p.tables e below (T0_7.setTop (mkF m 100 #[.val (.int p0), .val (.int p1), .val (.int p2), .val (.int (0 : Int32)), .val (.int (1 : Int32)), .val (.int (p0 &&& (2147483647 : Int32))), .val (.int ((own_irem (p1 &&& (2147483647 : Int32)) (200 : Int32)) + (1 : Int32))), .val (.ref z0_6), .val .null, .val (.ref z0_7), .val (.int (p0 &&& (2147483647 : Int32))), .unset] [])) t
        refine XS.bipush X0_7.here hx rfl (hb hby at_100) ?_
        show Steps p.tables e below (T0_7.setTop (mkF m 102 #[.val (.int p0), .val (.int p1), .val (.int p2), .val (.int (0 : Int32)), .val (.int (1 : Int32)), .val (.int (p0 &&& (2147483647 : Int32))), .val (.int ((own_irem (p1 &&& (2147483647 : Int32)) (200 : Int32)) + (1 : Int32))), .val (.ref z0_6), .val .null, .val (.ref z0_7), .val (.int (p0 &&& (2147483647 : Int32))), .unset] [(.int (50 : Int32))])) t
        refine XS.goto X0_7.here hx rfl (pc0 := 102) (pc' := 107) rfl (hb hby at_102) (by decide) (by decide) ?_
        show Steps p.tables e below (T0_7.setTop (mkF m 107 #[.val (.int p0), .val (.int p1), .val (.int p2), .val (.int (0 : Int32)), .val (.int (1 : Int32)), .val (.int (p0 &&& (2147483647 : Int32))), .val (.int ((own_irem (p1 &&& (2147483647 : Int32)) (200 : Int32)) + (1 : Int32))), .val (.ref z0_6), .val .null, .val (.ref z0_7), .val (.int (p0 &&& (2147483647 : Int32))), .unset] [(.int (50 : Int32))])) t
        refine XS.istore X0_7.here hx rfl (hb hby at_107) rfl (l' := #[.val (.int p0), .val (.int p1), .val (.int p2), .val (.int (0 : Int32)), .val (.int (1 : Int32)), .val (.int (p0 &&& (2147483647 : Int32))), .val (.int ((own_irem (p1 &&& (2147483647 : Int32)) (200 : Int32)) + (1 : Int32))), .val (.ref z0_6), .val .null, .val (.ref z0_7), .val (.int (p0 &&& (2147483647 : Int32))), .val (.int (50 : Int32))]) rfl ?_
        show Steps p.tables e below (T0_7.setTop (mkF m 109 #[.val (.int p0), .val (.int p1), .val (.int p2), .val (.int (0 : Int32)), .val (.int (1 : Int32)), .val (.int (p0 &&& (2147483647 : Int32))), .val (.int ((own_irem (p1 &&& (2147483647 : Int32)) (200 : Int32)) + (1 : Int32))), .val (.ref z0_6), .val .null, .val (.ref z0_7), .val (.int (p0 &&& (2147483647 : Int32))), .val (.int (50 : Int32))] [])) t
        refine XS.aload X0_7.here hx rfl (hb hby at_109) rfl rfl ?_
        exact k
      obtain ⟨cq0_8, kq0_8, q0_8a, q0_8b, q0_8c⟩ := isOf hZ rfl Ex0_7
      obtain ⟨_, _, ⟨T0_8, L0_8, k0_8, n0_8⟩, -, X0_8, ⟨Lc0_8, hQ0_8, l0_8, y0_8, z0_8⟩, st0_8⟩ := X0_7.virtualBack hx (y := (⟨"com/example/kido2/kido2/identity/PageRequest", "page", "()I"⟩ : MethodName)) (z := (⟨"com/example/kido2/kido2/identity/PageRequest", "page", "()I"⟩ : MethodName)) hown (mvT hZ (hw _ (List.mem_of_getElem? (i := 36) rfl))) (mvT hZ (hw _ (List.mem_of_getElem? (i := 37) rfl))) (notFace_of_selects (args := #[]) (mvT hZ (hw _ (List.mem_of_getElem? (i := 39) rfl)))) (mvT hZ (hw _ (List.mem_of_getElem? (i := 39) rfl))) (mvT hZ (hw _ (List.mem_of_getElem? (i := 38) rfl))) (by decide) (backOf (W := 0) (rm7 l Z a0 hw [] z0_7 (p0 &&& (2147483647 : Int32)) T0_7.heap n0 (Nat.le_trans (Nat.le_trans Z0 K0_6.1) K0_7.1) Fp0_7) hZ (hw _ (List.mem_of_getElem? (i := 40) rfl)) (hw _ (List.mem_of_getElem? (i := 10) rfl)) (by decide) (by decide)) q0_8a q0_8c (g := (mkF m 111 #[.val (.int p0), .val (.int p1), .val (.int p2), .val (.int (0 : Int32)), .val (.int (1 : Int32)), .val (.int (p0 &&& (2147483647 : Int32))), .val (.int ((own_irem (p1 &&& (2147483647 : Int32)) (200 : Int32)) + (1 : Int32))), .val (.ref z0_6), .val .null, .val (.ref z0_7), .val (.int (p0 &&& (2147483647 : Int32))), .val (.int (50 : Int32))] [(.ref z0_7)])) rfl (by rw [hml]; rfl) (Steps.refl _) (argsL := []) (rest := []) (lenOf pd0_2 rfl) rfl (by show 2 * 0 + _ ≤ _; exact Nat.le_of_eq rfl) (hb hby at_111) (fun _ _ => ⟨rfl, rfl, (by decide : 2 + 0 ≤ _), (by decide : 3 + 0 ≤ _)⟩)
      dsimp only [Pt.U, Pt.locs, Pt.cells, Pt.slots] at X0_8 l0_8 y0_8 z0_8 st0_8 hQ0_8
      subst l0_8 y0_8 z0_8
      obtain ⟨rfl, N0_8q, e0_8⟩ := hQ0_8
      have N0_8 := Fr.app N0_7 N0_8q
      refine own_fw (fun t k => st0_8.trans k) ?_
      refine own_fw (A := T0_8.setTop (mkF m 121 #[.val (.int p0), .val (.int p1), .val (.int p2), .val (.int (0 : Int32)), .val (.int (1 : Int32)), .val (.int (p0 &&& (2147483647 : Int32))), .val (.int ((own_irem (p1 &&& (2147483647 : Int32)) (200 : Int32)) + (1 : Int32))), .val (.ref z0_6), .val .null, .val (.ref z0_7), .val (.int (p0 &&& (2147483647 : Int32))), .val (.int (50 : Int32))] [(.ref z0_7)])) (fun t k => ?_) ?_
      · show Steps p.tables e below (T0_8.setTop (mkF m 114 #[.val (.int p0), .val (.int p1), .val (.int p2), .val (.int (0 : Int32)), .val (.int (1 : Int32)), .val (.int (p0 &&& (2147483647 : Int32))), .val (.int ((own_irem (p1 &&& (2147483647 : Int32)) (200 : Int32)) + (1 : Int32))), .val (.ref z0_6), .val .null, .val (.ref z0_7), .val (.int (p0 &&& (2147483647 : Int32))), .val (.int (50 : Int32))] [(.int (p0 &&& (2147483647 : Int32)))])) t
        refine XS.iload X0_8.here hx rfl (hb hby at_114) rfl ?_
        show Steps p.tables e below (T0_8.setTop (mkF m 116 #[.val (.int p0), .val (.int p1), .val (.int p2), .val (.int (0 : Int32)), .val (.int (1 : Int32)), .val (.int (p0 &&& (2147483647 : Int32))), .val (.int ((own_irem (p1 &&& (2147483647 : Int32)) (200 : Int32)) + (1 : Int32))), .val (.ref z0_6), .val .null, .val (.ref z0_7), .val (.int (p0 &&& (2147483647 : Int32))), .val (.int (50 : Int32))] [(.int (p0 &&& (2147483647 : Int32))), (.int (p0 &&& (2147483647 : Int32)))])) t
        refine XS.icmpNo X0_8.here hx rfl (hb hby at_116) rfl (teq (rfl : (p0 &&& (2147483647 : Int32)) = (p0 &&& (2147483647 : Int32)))).2 ?_
        show Steps p.tables e below (T0_8.setTop (mkF m 119 #[.val (.int p0), .val (.int p1), .val (.int p2), .val (.int (0 : Int32)), .val (.int (1 : Int32)), .val (.int (p0 &&& (2147483647 : Int32))), .val (.int ((own_irem (p1 &&& (2147483647 : Int32)) (200 : Int32)) + (1 : Int32))), .val (.ref z0_6), .val .null, .val (.ref z0_7), .val (.int (p0 &&& (2147483647 : Int32))), .val (.int (50 : Int32))] [])) t
        refine XS.aload X0_8.here hx rfl (hb hby at_119) rfl rfl ?_
        exact k
      obtain ⟨cq0_9, kq0_9, q0_9a, q0_9b, q0_9c⟩ := isOf hZ e0_8 Ex0_7
      obtain ⟨_, _, ⟨T0_9, L0_9, k0_9, n0_9⟩, -, X0_9, ⟨Lc0_9, hQ0_9, l0_9, y0_9, z0_9⟩, st0_9⟩ := X0_8.virtualBack hx (y := (⟨"com/example/kido2/kido2/identity/PageRequest", "size", "()I"⟩ : MethodName)) (z := (⟨"com/example/kido2/kido2/identity/PageRequest", "size", "()I"⟩ : MethodName)) hown (mvT hZ (hw _ (List.mem_of_getElem? (i := 41) rfl))) (mvT hZ (hw _ (List.mem_of_getElem? (i := 42) rfl))) (notFace_of_selects (args := #[]) (mvT hZ (hw _ (List.mem_of_getElem? (i := 44) rfl)))) (mvT hZ (hw _ (List.mem_of_getElem? (i := 44) rfl))) (mvT hZ (hw _ (List.mem_of_getElem? (i := 43) rfl))) (by decide) (backOf (W := 0) (rm8 l Z a0 hw [] z0_7 (50 : Int32) T0_7.heap n0 (Nat.le_trans (Nat.le_trans Z0 K0_6.1) K0_7.1) Fs0_7) hZ (hw _ (List.mem_of_getElem? (i := 45) rfl)) (hw _ (List.mem_of_getElem? (i := 10) rfl)) (by decide) (by decide)) q0_9a q0_9c (g := (mkF m 121 #[.val (.int p0), .val (.int p1), .val (.int p2), .val (.int (0 : Int32)), .val (.int (1 : Int32)), .val (.int (p0 &&& (2147483647 : Int32))), .val (.int ((own_irem (p1 &&& (2147483647 : Int32)) (200 : Int32)) + (1 : Int32))), .val (.ref z0_6), .val .null, .val (.ref z0_7), .val (.int (p0 &&& (2147483647 : Int32))), .val (.int (50 : Int32))] [(.ref z0_7)])) rfl (by rw [hml]; rfl) (Steps.refl _) (argsL := []) (rest := []) (lenOf pd0_2 rfl) rfl (by show 2 * 0 + _ ≤ _; exact Nat.le_of_eq rfl) (hb hby at_121) (fun _ _ => ⟨rfl, e0_8, (by decide : 2 + 0 ≤ _), (by decide : 3 + 0 ≤ _)⟩)
      dsimp only [Pt.U, Pt.locs, Pt.cells, Pt.slots] at X0_9 l0_9 y0_9 z0_9 st0_9 hQ0_9
      subst l0_9 y0_9 z0_9
      obtain ⟨rfl, N0_9q, e0_9⟩ := hQ0_9
      have N0_9 := Fr.app N0_8 N0_9q
      refine own_fw (fun t k => st0_9.trans k) ?_
      refine own_fw (A := T0_9.setTop (mkF m 134 #[.val (.int p0), .val (.int p1), .val (.int p2), .val (.int (0 : Int32)), .val (.int (1 : Int32)), .val (.int (p0 &&& (2147483647 : Int32))), .val (.int ((own_irem (p1 &&& (2147483647 : Int32)) (200 : Int32)) + (1 : Int32))), .val (.ref z0_6), .val .null, .val (.ref z0_7), .val (.int (p0 &&& (2147483647 : Int32))), .val (.int (50 : Int32))] [(.int (1 : Int32))])) (fun t k => ?_) ?_
      · show Steps p.tables e below (T0_9.setTop (mkF m 124 #[.val (.int p0), .val (.int p1), .val (.int p2), .val (.int (0 : Int32)), .val (.int (1 : Int32)), .val (.int (p0 &&& (2147483647 : Int32))), .val (.int ((own_irem (p1 &&& (2147483647 : Int32)) (200 : Int32)) + (1 : Int32))), .val (.ref z0_6), .val .null, .val (.ref z0_7), .val (.int (p0 &&& (2147483647 : Int32))), .val (.int (50 : Int32))] [(.int (50 : Int32))])) t
        refine XS.iload X0_9.here hx rfl (hb hby at_124) rfl ?_
        show Steps p.tables e below (T0_9.setTop (mkF m 126 #[.val (.int p0), .val (.int p1), .val (.int p2), .val (.int (0 : Int32)), .val (.int (1 : Int32)), .val (.int (p0 &&& (2147483647 : Int32))), .val (.int ((own_irem (p1 &&& (2147483647 : Int32)) (200 : Int32)) + (1 : Int32))), .val (.ref z0_6), .val .null, .val (.ref z0_7), .val (.int (p0 &&& (2147483647 : Int32))), .val (.int (50 : Int32))] [(.int (50 : Int32)), (.int (50 : Int32))])) t
        refine XS.icmpNo X0_9.here hx rfl (hb hby at_126) rfl (teq (rfl : (50 : Int32) = (50 : Int32))).2 ?_
        show Steps p.tables e below (T0_9.setTop (mkF m 129 #[.val (.int p0), .val (.int p1), .val (.int p2), .val (.int (0 : Int32)), .val (.int (1 : Int32)), .val (.int (p0 &&& (2147483647 : Int32))), .val (.int ((own_irem (p1 &&& (2147483647 : Int32)) (200 : Int32)) + (1 : Int32))), .val (.ref z0_6), .val .null, .val (.ref z0_7), .val (.int (p0 &&& (2147483647 : Int32))), .val (.int (50 : Int32))] [])) t
        refine XS.iconst X0_9.here hx rfl (hb hby at_129) ?_
        show Steps p.tables e below (T0_9.setTop (mkF m 130 #[.val (.int p0), .val (.int p1), .val (.int p2), .val (.int (0 : Int32)), .val (.int (1 : Int32)), .val (.int (p0 &&& (2147483647 : Int32))), .val (.int ((own_irem (p1 &&& (2147483647 : Int32)) (200 : Int32)) + (1 : Int32))), .val (.ref z0_6), .val .null, .val (.ref z0_7), .val (.int (p0 &&& (2147483647 : Int32))), .val (.int (50 : Int32))] [(.int (1 : Int32))])) t
        refine XS.goto X0_9.here hx rfl (pc0 := 130) (pc' := 134) rfl (hb hby at_130) (by decide) (by decide) ?_
        exact k
      obtain ⟨fs, hr, hrun, hended, hW, hsame⟩ := X0_9.leave (v := some (.int (nar .boolean (1 : Int32)))) (fun h => by rw [Bd.returns] at h; cases h)
      refine ⟨_, _, retN X0_9 hx (t := .boolean) Bd.returns (by simp) (hb hby at_134) hr, hrun, hended, _, _, rfl, ?_, ⟨_, rfl⟩, hW, hsame.mono (by decide) (by decide)⟩
      have eh : (T0_9.setFrames fs).heap = T0_7.heap := e0_9
      rw [eh]
      exact ⟨rfl, N0_9⟩
  · refine own_fw (A := s₁.setTop (mkF m 6 #[.val (.int p0), .val (.int p1), .val (.int p2), .unset, .unset, .unset, .unset, .unset, .unset, .unset, .unset, .unset] [])) (fun t k => ?_) ?_
    · show Steps p.tables e below (s₁.setTop (mkF m 3 #[.val (.int p0), .val (.int p1), .val (.int p2), .unset, .unset, .unset, .unset, .unset, .unset, .unset, .unset, .unset] [(.int (p2 &&& (1 : Int32)))])) t
      refine XS.ifNo X0.here hx rfl (hb hby at_3) rfl ((if0 _ _).trans (feq hc0_1).1) ?_
      exact k
    refine own_fw (A := s₁.setTop (mkF m 15 #[.val (.int p0), .val (.int p1), .val (.int p2), .val (.int (1 : Int32)), .unset, .unset, .unset, .unset, .unset, .unset, .unset, .unset] [(.int (p2 &&& (2 : Int32)))])) (fun t k => ?_) ?_
    · show Steps p.tables e below (s₁.setTop (mkF m 6 #[.val (.int p0), .val (.int p1), .val (.int p2), .unset, .unset, .unset, .unset, .unset, .unset, .unset, .unset, .unset] [])) t
      refine XS.iconst X0.here hx rfl (hb hby at_6) ?_
      show Steps p.tables e below (s₁.setTop (mkF m 7 #[.val (.int p0), .val (.int p1), .val (.int p2), .unset, .unset, .unset, .unset, .unset, .unset, .unset, .unset, .unset] [(.int (1 : Int32))])) t
      refine XS.goto X0.here hx rfl (pc0 := 7) (pc' := 11) rfl (hb hby at_7) (by decide) (by decide) ?_
      show Steps p.tables e below (s₁.setTop (mkF m 11 #[.val (.int p0), .val (.int p1), .val (.int p2), .unset, .unset, .unset, .unset, .unset, .unset, .unset, .unset, .unset] [(.int (1 : Int32))])) t
      refine XS.istoreN X0.here hx rfl (hb hby at_11) rfl (l' := #[.val (.int p0), .val (.int p1), .val (.int p2), .val (.int (1 : Int32)), .unset, .unset, .unset, .unset, .unset, .unset, .unset, .unset]) rfl ?_
      show Steps p.tables e below (s₁.setTop (mkF m 12 #[.val (.int p0), .val (.int p1), .val (.int p2), .val (.int (1 : Int32)), .unset, .unset, .unset, .unset, .unset, .unset, .unset, .unset] [])) t
      refine XS.iloadN X0.here hx rfl (hb hby at_12) rfl ?_
      show Steps p.tables e below (s₁.setTop (mkF m 13 #[.val (.int p0), .val (.int p1), .val (.int p2), .val (.int (1 : Int32)), .unset, .unset, .unset, .unset, .unset, .unset, .unset, .unset] [(.int p2)])) t
      refine XS.iconst X0.here hx rfl (hb hby at_13) ?_
      show Steps p.tables e below (s₁.setTop (mkF m 14 #[.val (.int p0), .val (.int p1), .val (.int p2), .val (.int (1 : Int32)), .unset, .unset, .unset, .unset, .unset, .unset, .unset, .unset] [(.int (2 : Int32)), (.int p2)])) t
      refine XS.iand X0.here hx rfl (hb hby at_14) rfl ?_
      exact k
    by_cases hc0_3 : (p2 &&& (2 : Int32)) = (0 : Int32)
    · refine own_fw (A := s₁.setTop (mkF m 22 #[.val (.int p0), .val (.int p1), .val (.int p2), .val (.int (1 : Int32)), .unset, .unset, .unset, .unset, .unset, .unset, .unset, .unset] [])) (fun t k => ?_) ?_
      · show Steps p.tables e below (s₁.setTop (mkF m 15 #[.val (.int p0), .val (.int p1), .val (.int p2), .val (.int (1 : Int32)), .unset, .unset, .unset, .unset, .unset, .unset, .unset, .unset] [(.int (p2 &&& (2 : Int32)))])) t
        refine XS.ifYes X0.here hx rfl (pc0 := 15) (pc' := 22) rfl (hb hby at_15) rfl ((if0 _ _).trans (teq hc0_3).1) (by decide) (by decide) ?_
        exact k
      refine own_fw (A := s₁.setTop (mkF m 69 #[.val (.int p0), .val (.int p1), .val (.int p2), .val (.int (1 : Int32)), .val (.int (0 : Int32)), .val (.int (p0 &&& (2147483647 : Int32))), .val (.int ((own_irem (p1 &&& (2147483647 : Int32)) (200 : Int32)) + (1 : Int32))), .val .null, .unset, .unset, .unset, .unset] [(.int ((own_irem (p1 &&& (2147483647 : Int32)) (200 : Int32)) + (1 : Int32)))])) (fun t k => ?_) ?_
      · show Steps p.tables e below (s₁.setTop (mkF m 22 #[.val (.int p0), .val (.int p1), .val (.int p2), .val (.int (1 : Int32)), .unset, .unset, .unset, .unset, .unset, .unset, .unset, .unset] [])) t
        refine XS.iconst X0.here hx rfl (hb hby at_22) ?_
        show Steps p.tables e below (s₁.setTop (mkF m 23 #[.val (.int p0), .val (.int p1), .val (.int p2), .val (.int (1 : Int32)), .unset, .unset, .unset, .unset, .unset, .unset, .unset, .unset] [(.int (0 : Int32))])) t
        refine XS.istore X0.here hx rfl (hb hby at_23) rfl (l' := #[.val (.int p0), .val (.int p1), .val (.int p2), .val (.int (1 : Int32)), .val (.int (0 : Int32)), .unset, .unset, .unset, .unset, .unset, .unset, .unset]) rfl ?_
        show Steps p.tables e below (s₁.setTop (mkF m 25 #[.val (.int p0), .val (.int p1), .val (.int p2), .val (.int (1 : Int32)), .val (.int (0 : Int32)), .unset, .unset, .unset, .unset, .unset, .unset, .unset] [])) t
        refine XS.iloadN X0.here hx rfl (hb hby at_25) rfl ?_
        show Steps p.tables e below (s₁.setTop (mkF m 26 #[.val (.int p0), .val (.int p1), .val (.int p2), .val (.int (1 : Int32)), .val (.int (0 : Int32)), .unset, .unset, .unset, .unset, .unset, .unset, .unset] [(.int p0)])) t
        refine X0.ldcInt hx hown (mvT hZ (hw _ (List.mem_of_getElem? (i := 0) rfl))) (g := (mkF m 26 #[.val (.int p0), .val (.int p1), .val (.int p2), .val (.int (1 : Int32)), .val (.int (0 : Int32)), .unset, .unset, .unset, .unset, .unset, .unset, .unset] [(.int p0)])) rfl (hb hby at_26) _ ?_
        show Steps p.tables e below (s₁.setTop (mkF m 28 #[.val (.int p0), .val (.int p1), .val (.int p2), .val (.int (1 : Int32)), .val (.int (0 : Int32)), .unset, .unset, .unset, .unset, .unset, .unset, .unset] [(.int (2147483647 : Int32)), (.int p0)])) t
        refine XS.iand X0.here hx rfl (hb hby at_28) rfl ?_
        show Steps p.tables e below (s₁.setTop (mkF m 29 #[.val (.int p0), .val (.int p1), .val (.int p2), .val (.int (1 : Int32)), .val (.int (0 : Int32)), .unset, .unset, .unset, .unset, .unset, .unset, .unset] [(.int (p0 &&& (2147483647 : Int32)))])) t
        refine XS.istore X0.here hx rfl (hb hby at_29) rfl (l' := #[.val (.int p0), .val (.int p1), .val (.int p2), .val (.int (1 : Int32)), .val (.int (0 : Int32)), .val (.int (p0 &&& (2147483647 : Int32))), .unset, .unset, .unset, .unset, .unset, .unset]) rfl ?_
        show Steps p.tables e below (s₁.setTop (mkF m 31 #[.val (.int p0), .val (.int p1), .val (.int p2), .val (.int (1 : Int32)), .val (.int (0 : Int32)), .val (.int (p0 &&& (2147483647 : Int32))), .unset, .unset, .unset, .unset, .unset, .unset] [])) t
        refine XS.iloadN X0.here hx rfl (hb hby at_31) rfl ?_
        show Steps p.tables e below (s₁.setTop (mkF m 32 #[.val (.int p0), .val (.int p1), .val (.int p2), .val (.int (1 : Int32)), .val (.int (0 : Int32)), .val (.int (p0 &&& (2147483647 : Int32))), .unset, .unset, .unset, .unset, .unset, .unset] [(.int p1)])) t
        refine X0.ldcInt hx hown (mvT hZ (hw _ (List.mem_of_getElem? (i := 0) rfl))) (g := (mkF m 32 #[.val (.int p0), .val (.int p1), .val (.int p2), .val (.int (1 : Int32)), .val (.int (0 : Int32)), .val (.int (p0 &&& (2147483647 : Int32))), .unset, .unset, .unset, .unset, .unset, .unset] [(.int p1)])) rfl (hb hby at_32) _ ?_
        show Steps p.tables e below (s₁.setTop (mkF m 34 #[.val (.int p0), .val (.int p1), .val (.int p2), .val (.int (1 : Int32)), .val (.int (0 : Int32)), .val (.int (p0 &&& (2147483647 : Int32))), .unset, .unset, .unset, .unset, .unset, .unset] [(.int (2147483647 : Int32)), (.int p1)])) t
        refine XS.iand X0.here hx rfl (hb hby at_34) rfl ?_
        show Steps p.tables e below (s₁.setTop (mkF m 35 #[.val (.int p0), .val (.int p1), .val (.int p2), .val (.int (1 : Int32)), .val (.int (0 : Int32)), .val (.int (p0 &&& (2147483647 : Int32))), .unset, .unset, .unset, .unset, .unset, .unset] [(.int (p1 &&& (2147483647 : Int32)))])) t
        refine XS.sipush X0.here hx rfl (hb hby at_35) ?_
        show Steps p.tables e below (s₁.setTop (mkF m 38 #[.val (.int p0), .val (.int p1), .val (.int p2), .val (.int (1 : Int32)), .val (.int (0 : Int32)), .val (.int (p0 &&& (2147483647 : Int32))), .unset, .unset, .unset, .unset, .unset, .unset] [(.int (200 : Int32)), (.int (p1 &&& (2147483647 : Int32)))])) t
        refine XS.irem X0.here hx rfl (hb hby at_38) rfl (by decide) ?_
        show Steps p.tables e below (s₁.setTop (mkF m 39 #[.val (.int p0), .val (.int p1), .val (.int p2), .val (.int (1 : Int32)), .val (.int (0 : Int32)), .val (.int (p0 &&& (2147483647 : Int32))), .unset, .unset, .unset, .unset, .unset, .unset] [(.int (own_irem (p1 &&& (2147483647 : Int32)) (200 : Int32)))])) t
        refine XS.iconst X0.here hx rfl (hb hby at_39) ?_
        show Steps p.tables e below (s₁.setTop (mkF m 40 #[.val (.int p0), .val (.int p1), .val (.int p2), .val (.int (1 : Int32)), .val (.int (0 : Int32)), .val (.int (p0 &&& (2147483647 : Int32))), .unset, .unset, .unset, .unset, .unset, .unset] [(.int (1 : Int32)), (.int (own_irem (p1 &&& (2147483647 : Int32)) (200 : Int32)))])) t
        refine XS.iadd X0.here hx rfl (hb hby at_40) rfl ?_
        show Steps p.tables e below (s₁.setTop (mkF m 41 #[.val (.int p0), .val (.int p1), .val (.int p2), .val (.int (1 : Int32)), .val (.int (0 : Int32)), .val (.int (p0 &&& (2147483647 : Int32))), .unset, .unset, .unset, .unset, .unset, .unset] [(.int ((own_irem (p1 &&& (2147483647 : Int32)) (200 : Int32)) + (1 : Int32)))])) t
        refine XS.istore X0.here hx rfl (hb hby at_41) rfl (l' := #[.val (.int p0), .val (.int p1), .val (.int p2), .val (.int (1 : Int32)), .val (.int (0 : Int32)), .val (.int (p0 &&& (2147483647 : Int32))), .val (.int ((own_irem (p1 &&& (2147483647 : Int32)) (200 : Int32)) + (1 : Int32))), .unset, .unset, .unset, .unset, .unset]) rfl ?_
        show Steps p.tables e below (s₁.setTop (mkF m 43 #[.val (.int p0), .val (.int p1), .val (.int p2), .val (.int (1 : Int32)), .val (.int (0 : Int32)), .val (.int (p0 &&& (2147483647 : Int32))), .val (.int ((own_irem (p1 &&& (2147483647 : Int32)) (200 : Int32)) + (1 : Int32))), .unset, .unset, .unset, .unset, .unset] [])) t
        refine XS.iloadN X0.here hx rfl (hb hby at_43) rfl ?_
        show Steps p.tables e below (s₁.setTop (mkF m 44 #[.val (.int p0), .val (.int p1), .val (.int p2), .val (.int (1 : Int32)), .val (.int (0 : Int32)), .val (.int (p0 &&& (2147483647 : Int32))), .val (.int ((own_irem (p1 &&& (2147483647 : Int32)) (200 : Int32)) + (1 : Int32))), .unset, .unset, .unset, .unset, .unset] [(.int (1 : Int32))])) t
        refine XS.ifNo X0.here hx rfl (hb hby at_44) rfl ((if0 _ _).trans (feq (by decide : ¬ ((1 : Int32) = (0 : Int32)))).1) ?_
        show Steps p.tables e below (s₁.setTop (mkF m 47 #[.val (.int p0), .val (.int p1), .val (.int p2), .val (.int (1 : Int32)), .val (.int (0 : Int32)), .val (.int (p0 &&& (2147483647 : Int32))), .val (.int ((own_irem (p1 &&& (2147483647 : Int32)) (200 : Int32)) + (1 : Int32))), .unset, .unset, .unset, .unset, .unset] [])) t
        refine XS.aconstNull X0.here hx rfl (hb hby at_47) ?_
        show Steps p.tables e below (s₁.setTop (mkF m 48 #[.val (.int p0), .val (.int p1), .val (.int p2), .val (.int (1 : Int32)), .val (.int (0 : Int32)), .val (.int (p0 &&& (2147483647 : Int32))), .val (.int ((own_irem (p1 &&& (2147483647 : Int32)) (200 : Int32)) + (1 : Int32))), .unset, .unset, .unset, .unset, .unset] [.null])) t
        refine XS.goto X0.here hx rfl (pc0 := 48) (pc' := 56) rfl (hb hby at_48) (by decide) (by decide) ?_
        show Steps p.tables e below (s₁.setTop (mkF m 56 #[.val (.int p0), .val (.int p1), .val (.int p2), .val (.int (1 : Int32)), .val (.int (0 : Int32)), .val (.int (p0 &&& (2147483647 : Int32))), .val (.int ((own_irem (p1 &&& (2147483647 : Int32)) (200 : Int32)) + (1 : Int32))), .unset, .unset, .unset, .unset, .unset] [.null])) t
        refine XS.astore X0.here hx rfl (hb hby at_56) rfl rfl (l' := #[.val (.int p0), .val (.int p1), .val (.int p2), .val (.int (1 : Int32)), .val (.int (0 : Int32)), .val (.int (p0 &&& (2147483647 : Int32))), .val (.int ((own_irem (p1 &&& (2147483647 : Int32)) (200 : Int32)) + (1 : Int32))), .val .null, .unset, .unset, .unset, .unset]) rfl ?_
        show Steps p.tables e below (s₁.setTop (mkF m 58 #[.val (.int p0), .val (.int p1), .val (.int p2), .val (.int (1 : Int32)), .val (.int (0 : Int32)), .val (.int (p0 &&& (2147483647 : Int32))), .val (.int ((own_irem (p1 &&& (2147483647 : Int32)) (200 : Int32)) + (1 : Int32))), .val .null, .unset, .unset, .unset, .unset] [])) t
        refine XS.iload X0.here hx rfl (hb hby at_58) rfl ?_
        show Steps p.tables e below (s₁.setTop (mkF m 60 #[.val (.int p0), .val (.int p1), .val (.int p2), .val (.int (1 : Int32)), .val (.int (0 : Int32)), .val (.int (p0 &&& (2147483647 : Int32))), .val (.int ((own_irem (p1 &&& (2147483647 : Int32)) (200 : Int32)) + (1 : Int32))), .val .null, .unset, .unset, .unset, .unset] [(.int (0 : Int32))])) t
        refine XS.ifYes X0.here hx rfl (pc0 := 60) (pc' := 67) rfl (hb hby at_60) rfl ((if0 _ _).trans (teq (rfl : (0 : Int32) = (0 : Int32))).1) (by decide) (by decide) ?_
        show Steps p.tables e below (s₁.setTop (mkF m 67 #[.val (.int p0), .val (.int p1), .val (.int p2), .val (.int (1 : Int32)), .val (.int (0 : Int32)), .val (.int (p0 &&& (2147483647 : Int32))), .val (.int ((own_irem (p1 &&& (2147483647 : Int32)) (200 : Int32)) + (1 : Int32))), .val .null, .unset, .unset, .unset, .unset] [])) t
        refine XS.iload X0.here hx rfl (hb hby at_67) rfl ?_
        exact k
      obtain ⟨_, _, ⟨T0_10, L0_10, k0_10, n0_10⟩, -, X0_10, ⟨Lc0_10, hQ0_10, l0_10, y0_10, z0_10⟩, st0_10⟩ := Jvm.LawKit.callS X0 hx (y := (⟨"java/lang/Integer", "valueOf", "(I)Ljava/lang/Integer;"⟩ : MethodName)) hown (mvT hZ (hw _ (List.mem_of_getElem? (i := 1) rfl))) (mvT hZ (hw _ (List.mem_of_getElem? (i := 2) rfl))) (mvT hZ (hw _ (List.mem_of_getElem? (i := 3) rfl))) (mvT hZ (hw _ (List.mem_of_getElem? (i := 4) rfl))) (by decide) (backOf (W := 0) (rm1 l Z a0 hw [] ((own_irem (p1 &&& (2147483647 : Int32)) (200 : Int32)) + (1 : Int32)) ca cc h0 n0 Z0 S_high S_cache Bx O (own_lo2 p1)) hZ (hw _ (List.mem_of_getElem? (i := 4) rfl)) (hw _ (List.mem_of_getElem? (i := 3) rfl)) (by decide) (by decide)) (g := (mkF m 69 #[.val (.int p0), .val (.int p1), .val (.int p2), .val (.int (1 : Int32)), .val (.int (0 : Int32)), .val (.int (p0 &&& (2147483647 : Int32))), .val (.int ((own_irem (p1 &&& (2147483647 : Int32)) (200 : Int32)) + (1 : Int32))), .val .null, .unset, .unset, .unset, .unset] [(.int ((own_irem (p1 &&& (2147483647 : Int32)) (200 : Int32)) + (1 : Int32)))])) rfl (by rw [hml]; rfl) (argsL := [(.int ((own_irem (p1 &&& (2147483647 : Int32)) (200 : Int32)) + (1 : Int32)))]) (rest := []) (lenOf pd0_0 rfl) rfl (by show 2 * 0 + _ ≤ _; exact Nat.le_of_eq rfl) (hb hby at_69) (fun _ _ => ⟨rfl, e0, (by decide : 0 + 1 ≤ _), (by decide : 0 + 1 ≤ _)⟩)
      dsimp only [Pt.U, Pt.locs, Pt.cells, Pt.slots] at X0_10 l0_10 y0_10 z0_10 st0_10 hQ0_10
      subst l0_10 y0_10 z0_10
      obtain ⟨z0_10, rfl, N0_10q, K0_10, Ex0_10, Fv0_10⟩ := hQ0_10
      have N0_10 := Fr.app N0 N0_10q
      refine own_fw st0_10 ?_
      refine own_fw (A := T0_10.setTop (mkF m 78 #[.val (.int p0), .val (.int p1), .val (.int p2), .val (.int (1 : Int32)), .val (.int (0 : Int32)), .val (.int (p0 &&& (2147483647 : Int32))), .val (.int ((own_irem (p1 &&& (2147483647 : Int32)) (200 : Int32)) + (1 : Int32))), .val .null, .val (.ref z0_10), .unset, .unset, .unset] [(.ref z0_10), .null])) (fun t k => ?_) ?_
      · show Steps p.tables e below (T0_10.setTop (mkF m 72 #[.val (.int p0), .val (.int p1), .val (.int p2), .val (.int (1 : Int32)), .val (.int (0 : Int32)), .val (.int (p0 &&& (2147483647 : Int32))), .val (.int ((own_irem (p1 &&& (2147483647 : Int32)) (200 : Int32)) + (1 : Int32))), .val .null, .unset, .unset, .unset, .unset] [(.ref z0_10)])) t
        refine XS.astore X0_10.here hx rfl (hb hby at_72) rfl rfl (l' := #[.val (.int p0), .val (.int p1), .val (.int p2), .val (.int (1 : Int32)), .val (.int (0 : Int32)), .val (.int (p0 &&& (2147483647 : Int32))), .val (.int ((own_irem (p1 &&& (2147483647 : Int32)) (200 : Int32)) + (1 : Int32))), .val .null, .val (.ref z0_10), .unset, .unset, .unset]) rfl ?_
        show Steps p.tables e below (T0_10.setTop (mkF m 74 #[.val (.int p0), .val (.int p1), .val (.int p2), .val (.int (1 : Int32)), .val (.int (0 : Int32)), .val (.int (p0 &&& (2147483647 : Int32))), .val (.int ((own_irem (p1 &&& (2147483647 : Int32)) (200 : Int32)) + (1 : Int32))), .val .null, .val (.ref z0_10), .unset, .unset, .unset] [])) t
        refine XS.aload X0_10.here hx rfl (hb hby at_74) rfl rfl ?_
        show Steps p.tables e below (T0_10.setTop (mkF m 76 #[.val (.int p0), .val (.int p1), .val (.int p2), .val (.int (1 : Int32)), .val (.int (0 : Int32)), .val (.int (p0 &&& (2147483647 : Int32))), .val (.int ((own_irem (p1 &&& (2147483647 : Int32)) (200 : Int32)) + (1 : Int32))), .val .null, .val (.ref z0_10), .unset, .unset, .unset] [.null])) t
        refine XS.aload X0_10.here hx rfl (hb hby at_76) rfl rfl ?_
        exact k
      obtain ⟨_, _, ⟨T0_11, L0_11, k0_11, n0_11⟩, -, X0_11, ⟨Lc0_11, hQ0_11, l0_11, y0_11, z0_11⟩, st0_11⟩ := Jvm.LawKit.callS X0_10 hx (y := (⟨"com/example/kido2/kido2/identity/PageRequest", "of", "(Ljava/lang/Integer;Ljava/lang/Integer;)Lcom/example/kido2/kido2/identity/PageRequest;"⟩ : MethodName)) hown (mvT hZ (hw _ (List.mem_of_getElem? (i := 8) rfl))) (mvT hZ (hw _ (List.mem_of_getElem? (i := 9) rfl))) (mvT hZ (hw _ (List.mem_of_getElem? (i := 10) rfl))) (mvT hZ (hw _ (List.mem_of_getElem? (i := 11) rfl))) (by decide) (backOf (W := 0) (rmO_10 l Z a0 hw [] z0_10 ((own_irem (p1 &&& (2147483647 : Int32)) (200 : Int32)) + (1 : Int32)) T0_10.heap n0 (Nat.le_trans Z0 K0_10.1) Ex0_10 Fv0_10 (own_c20 p1) (own_c27 p1)) hZ (hw _ (List.mem_of_getElem? (i := 11) rfl)) (hw _ (List.mem_of_getElem? (i := 10) rfl)) (by decide) (by decide)) (g := (mkF m 78 #[.val (.int p0), .val (.int p1), .val (.int p2), .val (.int (1 : Int32)), .val (.int (0 : Int32)), .val (.int (p0 &&& (2147483647 : Int32))), .val (.int ((own_irem (p1 &&& (2147483647 : Int32)) (200 : Int32)) + (1 : Int32))), .val .null, .val (.ref z0_10), .unset, .unset, .unset] [(.ref z0_10), .null])) rfl (by rw [hml]; rfl) (argsL := [.null, (.ref z0_10)]) (rest := []) (lenOf pd0_1 rfl) rfl (by show 2 * 0 + _ ≤ _; exact Nat.le_of_eq rfl) (hb hby at_78) (fun _ _ => ⟨rfl, rfl, (by decide : 1 + 1 ≤ _), (by decide : 1 + 2 ≤ _)⟩)
      dsimp only [Pt.U, Pt.locs, Pt.cells, Pt.slots] at X0_11 l0_11 y0_11 z0_11 st0_11 hQ0_11
      subst l0_11 y0_11 z0_11
      obtain ⟨z0_11, rfl, N0_11q, K0_11, Ex0_11, Fp0_11, Fs0_11⟩ := hQ0_11
      have N0_11 := Fr.app N0_10 N0_11q
      refine own_fw st0_11 ?_
      refine own_fw (A := T0_11.setTop (mkF m 111 #[.val (.int p0), .val (.int p1), .val (.int p2), .val (.int (1 : Int32)), .val (.int (0 : Int32)), .val (.int (p0 &&& (2147483647 : Int32))), .val (.int ((own_irem (p1 &&& (2147483647 : Int32)) (200 : Int32)) + (1 : Int32))), .val .null, .val (.ref z0_10), .val (.ref z0_11), .val (.int (0 : Int32)), .val (.int ((own_irem (p1 &&& (2147483647 : Int32)) (200 : Int32)) + (1 : Int32)))] [(.ref z0_11)])) (fun t k => ?_) ?_
      · show Steps p.tables e below (T0_11.setTop (mkF m 81 #[.val (.int p0), .val (.int p1), .val (.int p2), .val (.int (1 : Int32)), .val (.int (0 : Int32)), .val (.int (p0 &&& (2147483647 : Int32))), .val (.int ((own_irem (p1 &&& (2147483647 : Int32)) (200 : Int32)) + (1 : Int32))), .val .null, .val (.ref z0_10), .unset, .unset, .unset] [(.ref z0_11)])) t
        refine XS.astore X0_11.here hx rfl (hb hby at_81) rfl rfl (l' := #[.val (.int p0), .val (.int p1), .val (.int p2), .val (.int (1 : Int32)), .val (.int (0 : Int32)), .val (.int (p0 &&& (2147483647 : Int32))), .val (.int ((own_irem (p1 &&& (2147483647 : Int32)) (200 : Int32)) + (1 : Int32))), .val .null, .val (.ref z0_10), .val (.ref z0_11), .unset, .unset]) rfl ?_
        show Steps p.tables e below (T0_11.setTop (mkF m 83 #[.val (.int p0), .val (.int p1), .val (.int p2), .val (.int (1 : Int32)), .val (.int (0 : Int32)), .val (.int (p0 &&& (2147483647 : Int32))), .val (.int ((own_irem (p1 &&& (2147483647 : Int32)) (200 : Int32)) + (1 : Int32))), .val .null, .val (.ref z0_10), .val (.ref z0_11), .unset, .unset] [])) t
        refine XS.iloadN X0_11.here hx rfl (hb hby at_83) rfl ?_
        show Steps p.tables e below (T0_11.setTop (mkF m 84 #[.val (.int p0), .val (.int p1), .val (.int p2), .val (.int (1 : Int32)), .val (.int (0 : Int32)), .val (.int (p0 &&& (2147483647 : Int32))), .val (.int ((own_irem (p1 &&& (2147483647 : Int32)) (200 : Int32)) + (1 : Int32))), .val .null, .val (.ref z0_10), .val (.ref z0_11), .unset, .unset] [(.int (1 : Int32))])) t
        refine XS.ifNo X0_11.here hx rfl (hb hby at_84) rfl ((if0 _ _).trans (feq (by decide : ¬ ((1 : Int32) = (0 : Int32)))).1) ?_
        show Steps p.tables e below (T0_11.setTop (mkF m 87 #[.val (.int p0), .val (.int p1), .val (.int p2), .val (.int (1 : Int32)), .val (.int (0 : Int32)), .val (.int (p0 &&& (2147483647 : Int32))), .val (.int ((own_irem (p1 &&& (2147483647 : Int32)) (200 : Int32)) + (1 : Int32))), .val .null, .val (.ref z0_10), .val (.ref z0_11), .unset, .unset] [])) t
        refine XS.iconst X0_11.here hx rfl (hb hby at_87) ?_
        show Steps p.tables e below (T0_11.setTop (mkF m 88 #[.val (.int p0), .val (.int p1), .val (.int p2), .val (.int (1 : Int32)), .val (.int (0 : Int32)), .val (.int (p0 &&& (2147483647 : Int32))), .val (.int ((own_irem (p1 &&& (2147483647 : Int32)) (200 : Int32)) + (1 : Int32))), .val .null, .val (.ref z0_10), .val (.ref z0_11), .unset, .unset] [(.int (0 : Int32))])) t
        refine XS.goto X0_11.here hx rfl (pc0 := 88) (pc' := 93) rfl (hb hby at_88) (by decide) (by decide) ?_
        show Steps p.tables e below (T0_11.setTop (mkF m 93 #[.val (.int p0), .val (.int p1), .val (.int p2), .val (.int (1 : Int32)), .val (.int (0 : Int32)), .val (.int (p0 &&& (2147483647 : Int32))), .val (.int ((own_irem (p1 &&& (2147483647 : Int32)) (200 : Int32)) + (1 : Int32))), .val .null, .val (.ref z0_10), .val (.ref z0_11), .unset, .unset] [(.int (0 : Int32))])) t
        refine XS.istore X0_11.here hx rfl (hb hby at_93) rfl (l' := #[.val (.int p0), .val (.int p1), .val (.int p2), .val (.int (1 : Int32)), .val (.int (0 : Int32)), .val (.int (p0 &&& (2147483647 : Int32))), .val (.int ((own_irem (p1 &&& (2147483647 : Int32)) (200 : Int32)) + (1 : Int32))), .val .null, .val (.ref z0_10), .val (.ref z0_11), .val (.int (0 : Int32)), .unset]) rfl ?_
        show Steps p.tables e below (T0_11.setTop (mkF m 95 #[.val (.int p0), .val (.int p1), .val (.int p2), .val (.int (1 : Int32)), .val (.int (0 : Int32)), .val (.int (p0 &&& (2147483647 : Int32))), .val (.int ((own_irem (p1 &&& (2147483647 : Int32)) (200 : Int32)) + (1 : Int32))), .val .null, .val (.ref z0_10), .val (.ref z0_11), .val (.int (0 : Int32)), .unset] [])) t
        refine XS.iload X0_11.here hx rfl (hb hby at_95) rfl ?_
        show Steps p.tables e below (T0_11.setTop (mkF m 97 #[.val (.int p0), .val (.int p1), .val (.int p2), .val (.int (1 : Int32)), .val (.int (0 : Int32)), .val (.int (p0 &&& (2147483647 : Int32))), .val (.int ((own_irem (p1 &&& (2147483647 : Int32)) (200 : Int32)) + (1 : Int32))), .val .null, .val (.ref z0_10), .val (.ref z0_11), .val (.int (0 : Int32)), .unset] [(.int (0 : Int32))])) t
        refine XS.ifYes X0_11.here hx rfl (pc0 := 97) (pc' := 105) rfl (hb hby at_97) rfl ((if0 _ _).trans (teq (rfl : (0 : Int32) = (0 : Int32))).1) (by decide) (by decide) ?_
        show Steps p.tables e below (T0_11.setTop (mkF m 105 #[.val (.int p0), .val (.int p1), .val (.int p2), .val (.int (1 : Int32)), .val (.int (0 : Int32)), .val (.int (p0 &&& (2147483647 : Int32))), .val (.int ((own_irem (p1 &&& (2147483647 : Int32)) (200 : Int32)) + (1 : Int32))), .val .null, .val (.ref z0_10), .val (.ref z0_11), .val (.int (0 : Int32)), .unset] [])) t
        refine XS.iload X0_11.here hx rfl (hb hby at_105) rfl ?_
        show Steps p.tables e below (T0_11.setTop (mkF m 107 #[.val (.int p0), .val (.int p1), .val (.int p2), .val (.int (1 : Int32)), .val (.int (0 : Int32)), .val (.int (p0 &&& (2147483647 : Int32))), .val (.int ((own_irem (p1 &&& (2147483647 : Int32)) (200 : Int32)) + (1 : Int32))), .val .null, .val (.ref z0_10), .val (.ref z0_11), .val (.int (0 : Int32)), .unset] [(.int ((own_irem (p1 &&& (2147483647 : Int32)) (200 : Int32)) + (1 : Int32)))])) t
        refine XS.istore X0_11.here hx rfl (hb hby at_107) rfl (l' := #[.val (.int p0), .val (.int p1), .val (.int p2), .val (.int (1 : Int32)), .val (.int (0 : Int32)), .val (.int (p0 &&& (2147483647 : Int32))), .val (.int ((own_irem (p1 &&& (2147483647 : Int32)) (200 : Int32)) + (1 : Int32))), .val .null, .val (.ref z0_10), .val (.ref z0_11), .val (.int (0 : Int32)), .val (.int ((own_irem (p1 &&& (2147483647 : Int32)) (200 : Int32)) + (1 : Int32)))]) rfl ?_
        show Steps p.tables e below (T0_11.setTop (mkF m 109 #[.val (.int p0), .val (.int p1), .val (.int p2), .val (.int (1 : Int32)), .val (.int (0 : Int32)), .val (.int (p0 &&& (2147483647 : Int32))), .val (.int ((own_irem (p1 &&& (2147483647 : Int32)) (200 : Int32)) + (1 : Int32))), .val .null, .val (.ref z0_10), .val (.ref z0_11), .val (.int (0 : Int32)), .val (.int ((own_irem (p1 &&& (2147483647 : Int32)) (200 : Int32)) + (1 : Int32)))] [])) t
        refine XS.aload X0_11.here hx rfl (hb hby at_109) rfl rfl ?_
        exact k
      obtain ⟨cq0_12, kq0_12, q0_12a, q0_12b, q0_12c⟩ := isOf hZ rfl Ex0_11
      obtain ⟨_, _, ⟨T0_12, L0_12, k0_12, n0_12⟩, -, X0_12, ⟨Lc0_12, hQ0_12, l0_12, y0_12, z0_12⟩, st0_12⟩ := X0_11.virtualBack hx (y := (⟨"com/example/kido2/kido2/identity/PageRequest", "page", "()I"⟩ : MethodName)) (z := (⟨"com/example/kido2/kido2/identity/PageRequest", "page", "()I"⟩ : MethodName)) hown (mvT hZ (hw _ (List.mem_of_getElem? (i := 36) rfl))) (mvT hZ (hw _ (List.mem_of_getElem? (i := 37) rfl))) (notFace_of_selects (args := #[]) (mvT hZ (hw _ (List.mem_of_getElem? (i := 39) rfl)))) (mvT hZ (hw _ (List.mem_of_getElem? (i := 39) rfl))) (mvT hZ (hw _ (List.mem_of_getElem? (i := 38) rfl))) (by decide) (backOf (W := 0) (rm7 l Z a0 hw [] z0_11 (0 : Int32) T0_11.heap n0 (Nat.le_trans (Nat.le_trans Z0 K0_10.1) K0_11.1) Fp0_11) hZ (hw _ (List.mem_of_getElem? (i := 40) rfl)) (hw _ (List.mem_of_getElem? (i := 10) rfl)) (by decide) (by decide)) q0_12a q0_12c (g := (mkF m 111 #[.val (.int p0), .val (.int p1), .val (.int p2), .val (.int (1 : Int32)), .val (.int (0 : Int32)), .val (.int (p0 &&& (2147483647 : Int32))), .val (.int ((own_irem (p1 &&& (2147483647 : Int32)) (200 : Int32)) + (1 : Int32))), .val .null, .val (.ref z0_10), .val (.ref z0_11), .val (.int (0 : Int32)), .val (.int ((own_irem (p1 &&& (2147483647 : Int32)) (200 : Int32)) + (1 : Int32)))] [(.ref z0_11)])) rfl (by rw [hml]; rfl) (Steps.refl _) (argsL := []) (rest := []) (lenOf pd0_2 rfl) rfl (by show 2 * 0 + _ ≤ _; exact Nat.le_of_eq rfl) (hb hby at_111) (fun _ _ => ⟨rfl, rfl, (by decide : 2 + 0 ≤ _), (by decide : 3 + 0 ≤ _)⟩)
      dsimp only [Pt.U, Pt.locs, Pt.cells, Pt.slots] at X0_12 l0_12 y0_12 z0_12 st0_12 hQ0_12
      subst l0_12 y0_12 z0_12
      obtain ⟨rfl, N0_12q, e0_12⟩ := hQ0_12
      have N0_12 := Fr.app N0_11 N0_12q
      refine own_fw (fun t k => st0_12.trans k) ?_
      refine own_fw (A := T0_12.setTop (mkF m 121 #[.val (.int p0), .val (.int p1), .val (.int p2), .val (.int (1 : Int32)), .val (.int (0 : Int32)), .val (.int (p0 &&& (2147483647 : Int32))), .val (.int ((own_irem (p1 &&& (2147483647 : Int32)) (200 : Int32)) + (1 : Int32))), .val .null, .val (.ref z0_10), .val (.ref z0_11), .val (.int (0 : Int32)), .val (.int ((own_irem (p1 &&& (2147483647 : Int32)) (200 : Int32)) + (1 : Int32)))] [(.ref z0_11)])) (fun t k => ?_) ?_
      · show Steps p.tables e below (T0_12.setTop (mkF m 114 #[.val (.int p0), .val (.int p1), .val (.int p2), .val (.int (1 : Int32)), .val (.int (0 : Int32)), .val (.int (p0 &&& (2147483647 : Int32))), .val (.int ((own_irem (p1 &&& (2147483647 : Int32)) (200 : Int32)) + (1 : Int32))), .val .null, .val (.ref z0_10), .val (.ref z0_11), .val (.int (0 : Int32)), .val (.int ((own_irem (p1 &&& (2147483647 : Int32)) (200 : Int32)) + (1 : Int32)))] [(.int (0 : Int32))])) t
        refine XS.iload X0_12.here hx rfl (hb hby at_114) rfl ?_
        show Steps p.tables e below (T0_12.setTop (mkF m 116 #[.val (.int p0), .val (.int p1), .val (.int p2), .val (.int (1 : Int32)), .val (.int (0 : Int32)), .val (.int (p0 &&& (2147483647 : Int32))), .val (.int ((own_irem (p1 &&& (2147483647 : Int32)) (200 : Int32)) + (1 : Int32))), .val .null, .val (.ref z0_10), .val (.ref z0_11), .val (.int (0 : Int32)), .val (.int ((own_irem (p1 &&& (2147483647 : Int32)) (200 : Int32)) + (1 : Int32)))] [(.int (0 : Int32)), (.int (0 : Int32))])) t
        refine XS.icmpNo X0_12.here hx rfl (hb hby at_116) rfl (teq (rfl : (0 : Int32) = (0 : Int32))).2 ?_
        show Steps p.tables e below (T0_12.setTop (mkF m 119 #[.val (.int p0), .val (.int p1), .val (.int p2), .val (.int (1 : Int32)), .val (.int (0 : Int32)), .val (.int (p0 &&& (2147483647 : Int32))), .val (.int ((own_irem (p1 &&& (2147483647 : Int32)) (200 : Int32)) + (1 : Int32))), .val .null, .val (.ref z0_10), .val (.ref z0_11), .val (.int (0 : Int32)), .val (.int ((own_irem (p1 &&& (2147483647 : Int32)) (200 : Int32)) + (1 : Int32)))] [])) t
        refine XS.aload X0_12.here hx rfl (hb hby at_119) rfl rfl ?_
        exact k
      obtain ⟨cq0_13, kq0_13, q0_13a, q0_13b, q0_13c⟩ := isOf hZ e0_12 Ex0_11
      obtain ⟨_, _, ⟨T0_13, L0_13, k0_13, n0_13⟩, -, X0_13, ⟨Lc0_13, hQ0_13, l0_13, y0_13, z0_13⟩, st0_13⟩ := X0_12.virtualBack hx (y := (⟨"com/example/kido2/kido2/identity/PageRequest", "size", "()I"⟩ : MethodName)) (z := (⟨"com/example/kido2/kido2/identity/PageRequest", "size", "()I"⟩ : MethodName)) hown (mvT hZ (hw _ (List.mem_of_getElem? (i := 41) rfl))) (mvT hZ (hw _ (List.mem_of_getElem? (i := 42) rfl))) (notFace_of_selects (args := #[]) (mvT hZ (hw _ (List.mem_of_getElem? (i := 44) rfl)))) (mvT hZ (hw _ (List.mem_of_getElem? (i := 44) rfl))) (mvT hZ (hw _ (List.mem_of_getElem? (i := 43) rfl))) (by decide) (backOf (W := 0) (rm8 l Z a0 hw [] z0_11 ((own_irem (p1 &&& (2147483647 : Int32)) (200 : Int32)) + (1 : Int32)) T0_11.heap n0 (Nat.le_trans (Nat.le_trans Z0 K0_10.1) K0_11.1) Fs0_11) hZ (hw _ (List.mem_of_getElem? (i := 45) rfl)) (hw _ (List.mem_of_getElem? (i := 10) rfl)) (by decide) (by decide)) q0_13a q0_13c (g := (mkF m 121 #[.val (.int p0), .val (.int p1), .val (.int p2), .val (.int (1 : Int32)), .val (.int (0 : Int32)), .val (.int (p0 &&& (2147483647 : Int32))), .val (.int ((own_irem (p1 &&& (2147483647 : Int32)) (200 : Int32)) + (1 : Int32))), .val .null, .val (.ref z0_10), .val (.ref z0_11), .val (.int (0 : Int32)), .val (.int ((own_irem (p1 &&& (2147483647 : Int32)) (200 : Int32)) + (1 : Int32)))] [(.ref z0_11)])) rfl (by rw [hml]; rfl) (Steps.refl _) (argsL := []) (rest := []) (lenOf pd0_2 rfl) rfl (by show 2 * 0 + _ ≤ _; exact Nat.le_of_eq rfl) (hb hby at_121) (fun _ _ => ⟨rfl, e0_12, (by decide : 2 + 0 ≤ _), (by decide : 3 + 0 ≤ _)⟩)
      dsimp only [Pt.U, Pt.locs, Pt.cells, Pt.slots] at X0_13 l0_13 y0_13 z0_13 st0_13 hQ0_13
      subst l0_13 y0_13 z0_13
      obtain ⟨rfl, N0_13q, e0_13⟩ := hQ0_13
      have N0_13 := Fr.app N0_12 N0_13q
      refine own_fw (fun t k => st0_13.trans k) ?_
      refine own_fw (A := T0_13.setTop (mkF m 134 #[.val (.int p0), .val (.int p1), .val (.int p2), .val (.int (1 : Int32)), .val (.int (0 : Int32)), .val (.int (p0 &&& (2147483647 : Int32))), .val (.int ((own_irem (p1 &&& (2147483647 : Int32)) (200 : Int32)) + (1 : Int32))), .val .null, .val (.ref z0_10), .val (.ref z0_11), .val (.int (0 : Int32)), .val (.int ((own_irem (p1 &&& (2147483647 : Int32)) (200 : Int32)) + (1 : Int32)))] [(.int (1 : Int32))])) (fun t k => ?_) ?_
      · show Steps p.tables e below (T0_13.setTop (mkF m 124 #[.val (.int p0), .val (.int p1), .val (.int p2), .val (.int (1 : Int32)), .val (.int (0 : Int32)), .val (.int (p0 &&& (2147483647 : Int32))), .val (.int ((own_irem (p1 &&& (2147483647 : Int32)) (200 : Int32)) + (1 : Int32))), .val .null, .val (.ref z0_10), .val (.ref z0_11), .val (.int (0 : Int32)), .val (.int ((own_irem (p1 &&& (2147483647 : Int32)) (200 : Int32)) + (1 : Int32)))] [(.int ((own_irem (p1 &&& (2147483647 : Int32)) (200 : Int32)) + (1 : Int32)))])) t
        refine XS.iload X0_13.here hx rfl (hb hby at_124) rfl ?_
        show Steps p.tables e below (T0_13.setTop (mkF m 126 #[.val (.int p0), .val (.int p1), .val (.int p2), .val (.int (1 : Int32)), .val (.int (0 : Int32)), .val (.int (p0 &&& (2147483647 : Int32))), .val (.int ((own_irem (p1 &&& (2147483647 : Int32)) (200 : Int32)) + (1 : Int32))), .val .null, .val (.ref z0_10), .val (.ref z0_11), .val (.int (0 : Int32)), .val (.int ((own_irem (p1 &&& (2147483647 : Int32)) (200 : Int32)) + (1 : Int32)))] [(.int ((own_irem (p1 &&& (2147483647 : Int32)) (200 : Int32)) + (1 : Int32))), (.int ((own_irem (p1 &&& (2147483647 : Int32)) (200 : Int32)) + (1 : Int32)))])) t
        refine XS.icmpNo X0_13.here hx rfl (hb hby at_126) rfl (teq (rfl : ((own_irem (p1 &&& (2147483647 : Int32)) (200 : Int32)) + (1 : Int32)) = ((own_irem (p1 &&& (2147483647 : Int32)) (200 : Int32)) + (1 : Int32)))).2 ?_
        show Steps p.tables e below (T0_13.setTop (mkF m 129 #[.val (.int p0), .val (.int p1), .val (.int p2), .val (.int (1 : Int32)), .val (.int (0 : Int32)), .val (.int (p0 &&& (2147483647 : Int32))), .val (.int ((own_irem (p1 &&& (2147483647 : Int32)) (200 : Int32)) + (1 : Int32))), .val .null, .val (.ref z0_10), .val (.ref z0_11), .val (.int (0 : Int32)), .val (.int ((own_irem (p1 &&& (2147483647 : Int32)) (200 : Int32)) + (1 : Int32)))] [])) t
        refine XS.iconst X0_13.here hx rfl (hb hby at_129) ?_
        show Steps p.tables e below (T0_13.setTop (mkF m 130 #[.val (.int p0), .val (.int p1), .val (.int p2), .val (.int (1 : Int32)), .val (.int (0 : Int32)), .val (.int (p0 &&& (2147483647 : Int32))), .val (.int ((own_irem (p1 &&& (2147483647 : Int32)) (200 : Int32)) + (1 : Int32))), .val .null, .val (.ref z0_10), .val (.ref z0_11), .val (.int (0 : Int32)), .val (.int ((own_irem (p1 &&& (2147483647 : Int32)) (200 : Int32)) + (1 : Int32)))] [(.int (1 : Int32))])) t
        refine XS.goto X0_13.here hx rfl (pc0 := 130) (pc' := 134) rfl (hb hby at_130) (by decide) (by decide) ?_
        exact k
      obtain ⟨fs, hr, hrun, hended, hW, hsame⟩ := X0_13.leave (v := some (.int (nar .boolean (1 : Int32)))) (fun h => by rw [Bd.returns] at h; cases h)
      refine ⟨_, _, retN X0_13 hx (t := .boolean) Bd.returns (by simp) (hb hby at_134) hr, hrun, hended, _, _, rfl, ?_, ⟨_, rfl⟩, hW, hsame.mono (by decide) (by decide)⟩
      have eh : (T0_13.setFrames fs).heap = T0_11.heap := e0_13
      rw [eh]
      exact ⟨rfl, N0_13⟩
    · refine own_fw (A := s₁.setTop (mkF m 18 #[.val (.int p0), .val (.int p1), .val (.int p2), .val (.int (1 : Int32)), .unset, .unset, .unset, .unset, .unset, .unset, .unset, .unset] [])) (fun t k => ?_) ?_
      · show Steps p.tables e below (s₁.setTop (mkF m 15 #[.val (.int p0), .val (.int p1), .val (.int p2), .val (.int (1 : Int32)), .unset, .unset, .unset, .unset, .unset, .unset, .unset, .unset] [(.int (p2 &&& (2 : Int32)))])) t
        refine XS.ifNo X0.here hx rfl (hb hby at_15) rfl ((if0 _ _).trans (feq hc0_3).1) ?_
        exact k
      refine own_fw (A := s₁.setTop (mkF m 78 #[.val (.int p0), .val (.int p1), .val (.int p2), .val (.int (1 : Int32)), .val (.int (1 : Int32)), .val (.int (p0 &&& (2147483647 : Int32))), .val (.int ((own_irem (p1 &&& (2147483647 : Int32)) (200 : Int32)) + (1 : Int32))), .val .null, .val .null, .unset, .unset, .unset] [.null, .null])) (fun t k => ?_) ?_
      · show Steps p.tables e below (s₁.setTop (mkF m 18 #[.val (.int p0), .val (.int p1), .val (.int p2), .val (.int (1 : Int32)), .unset, .unset, .unset, .unset, .unset, .unset, .unset, .unset] [])) t
        refine XS.iconst X0.here hx rfl (hb hby at_18) ?_
        show Steps p.tables e below (s₁.setTop (mkF m 19 #[.val (.int p0), .val (.int p1), .val (.int p2), .val (.int (1 : Int32)), .unset, .unset, .unset, .unset, .unset, .unset, .unset, .unset] [(.int (1 : Int32))])) t
        refine XS.goto X0.here hx rfl (pc0 := 19) (pc' := 23) rfl (hb hby at_19) (by decide) (by decide) ?_
        show Steps p.tables e below (s₁.setTop (mkF m 23 #[.val (.int p0), .val (.int p1), .val (.int p2), .val (.int (1 : Int32)), .unset, .unset, .unset, .unset, .unset, .unset, .unset, .unset] [(.int (1 : Int32))])) t
        refine XS.istore X0.here hx rfl (hb hby at_23) rfl (l' := #[.val (.int p0), .val (.int p1), .val (.int p2), .val (.int (1 : Int32)), .val (.int (1 : Int32)), .unset, .unset, .unset, .unset, .unset, .unset, .unset]) rfl ?_
        show Steps p.tables e below (s₁.setTop (mkF m 25 #[.val (.int p0), .val (.int p1), .val (.int p2), .val (.int (1 : Int32)), .val (.int (1 : Int32)), .unset, .unset, .unset, .unset, .unset, .unset, .unset] [])) t
        refine XS.iloadN X0.here hx rfl (hb hby at_25) rfl ?_
        show Steps p.tables e below (s₁.setTop (mkF m 26 #[.val (.int p0), .val (.int p1), .val (.int p2), .val (.int (1 : Int32)), .val (.int (1 : Int32)), .unset, .unset, .unset, .unset, .unset, .unset, .unset] [(.int p0)])) t
        refine X0.ldcInt hx hown (mvT hZ (hw _ (List.mem_of_getElem? (i := 0) rfl))) (g := (mkF m 26 #[.val (.int p0), .val (.int p1), .val (.int p2), .val (.int (1 : Int32)), .val (.int (1 : Int32)), .unset, .unset, .unset, .unset, .unset, .unset, .unset] [(.int p0)])) rfl (hb hby at_26) _ ?_
        show Steps p.tables e below (s₁.setTop (mkF m 28 #[.val (.int p0), .val (.int p1), .val (.int p2), .val (.int (1 : Int32)), .val (.int (1 : Int32)), .unset, .unset, .unset, .unset, .unset, .unset, .unset] [(.int (2147483647 : Int32)), (.int p0)])) t
        refine XS.iand X0.here hx rfl (hb hby at_28) rfl ?_
        show Steps p.tables e below (s₁.setTop (mkF m 29 #[.val (.int p0), .val (.int p1), .val (.int p2), .val (.int (1 : Int32)), .val (.int (1 : Int32)), .unset, .unset, .unset, .unset, .unset, .unset, .unset] [(.int (p0 &&& (2147483647 : Int32)))])) t
        refine XS.istore X0.here hx rfl (hb hby at_29) rfl (l' := #[.val (.int p0), .val (.int p1), .val (.int p2), .val (.int (1 : Int32)), .val (.int (1 : Int32)), .val (.int (p0 &&& (2147483647 : Int32))), .unset, .unset, .unset, .unset, .unset, .unset]) rfl ?_
        show Steps p.tables e below (s₁.setTop (mkF m 31 #[.val (.int p0), .val (.int p1), .val (.int p2), .val (.int (1 : Int32)), .val (.int (1 : Int32)), .val (.int (p0 &&& (2147483647 : Int32))), .unset, .unset, .unset, .unset, .unset, .unset] [])) t
        refine XS.iloadN X0.here hx rfl (hb hby at_31) rfl ?_
        show Steps p.tables e below (s₁.setTop (mkF m 32 #[.val (.int p0), .val (.int p1), .val (.int p2), .val (.int (1 : Int32)), .val (.int (1 : Int32)), .val (.int (p0 &&& (2147483647 : Int32))), .unset, .unset, .unset, .unset, .unset, .unset] [(.int p1)])) t
        refine X0.ldcInt hx hown (mvT hZ (hw _ (List.mem_of_getElem? (i := 0) rfl))) (g := (mkF m 32 #[.val (.int p0), .val (.int p1), .val (.int p2), .val (.int (1 : Int32)), .val (.int (1 : Int32)), .val (.int (p0 &&& (2147483647 : Int32))), .unset, .unset, .unset, .unset, .unset, .unset] [(.int p1)])) rfl (hb hby at_32) _ ?_
        show Steps p.tables e below (s₁.setTop (mkF m 34 #[.val (.int p0), .val (.int p1), .val (.int p2), .val (.int (1 : Int32)), .val (.int (1 : Int32)), .val (.int (p0 &&& (2147483647 : Int32))), .unset, .unset, .unset, .unset, .unset, .unset] [(.int (2147483647 : Int32)), (.int p1)])) t
        refine XS.iand X0.here hx rfl (hb hby at_34) rfl ?_
        show Steps p.tables e below (s₁.setTop (mkF m 35 #[.val (.int p0), .val (.int p1), .val (.int p2), .val (.int (1 : Int32)), .val (.int (1 : Int32)), .val (.int (p0 &&& (2147483647 : Int32))), .unset, .unset, .unset, .unset, .unset, .unset] [(.int (p1 &&& (2147483647 : Int32)))])) t
        refine XS.sipush X0.here hx rfl (hb hby at_35) ?_
        show Steps p.tables e below (s₁.setTop (mkF m 38 #[.val (.int p0), .val (.int p1), .val (.int p2), .val (.int (1 : Int32)), .val (.int (1 : Int32)), .val (.int (p0 &&& (2147483647 : Int32))), .unset, .unset, .unset, .unset, .unset, .unset] [(.int (200 : Int32)), (.int (p1 &&& (2147483647 : Int32)))])) t
        refine XS.irem X0.here hx rfl (hb hby at_38) rfl (by decide) ?_
        show Steps p.tables e below (s₁.setTop (mkF m 39 #[.val (.int p0), .val (.int p1), .val (.int p2), .val (.int (1 : Int32)), .val (.int (1 : Int32)), .val (.int (p0 &&& (2147483647 : Int32))), .unset, .unset, .unset, .unset, .unset, .unset] [(.int (own_irem (p1 &&& (2147483647 : Int32)) (200 : Int32)))])) t
        refine XS.iconst X0.here hx rfl (hb hby at_39) ?_
        show Steps p.tables e below (s₁.setTop (mkF m 40 #[.val (.int p0), .val (.int p1), .val (.int p2), .val (.int (1 : Int32)), .val (.int (1 : Int32)), .val (.int (p0 &&& (2147483647 : Int32))), .unset, .unset, .unset, .unset, .unset, .unset] [(.int (1 : Int32)), (.int (own_irem (p1 &&& (2147483647 : Int32)) (200 : Int32)))])) t
        refine XS.iadd X0.here hx rfl (hb hby at_40) rfl ?_
        show Steps p.tables e below (s₁.setTop (mkF m 41 #[.val (.int p0), .val (.int p1), .val (.int p2), .val (.int (1 : Int32)), .val (.int (1 : Int32)), .val (.int (p0 &&& (2147483647 : Int32))), .unset, .unset, .unset, .unset, .unset, .unset] [(.int ((own_irem (p1 &&& (2147483647 : Int32)) (200 : Int32)) + (1 : Int32)))])) t
        refine XS.istore X0.here hx rfl (hb hby at_41) rfl (l' := #[.val (.int p0), .val (.int p1), .val (.int p2), .val (.int (1 : Int32)), .val (.int (1 : Int32)), .val (.int (p0 &&& (2147483647 : Int32))), .val (.int ((own_irem (p1 &&& (2147483647 : Int32)) (200 : Int32)) + (1 : Int32))), .unset, .unset, .unset, .unset, .unset]) rfl ?_
        show Steps p.tables e below (s₁.setTop (mkF m 43 #[.val (.int p0), .val (.int p1), .val (.int p2), .val (.int (1 : Int32)), .val (.int (1 : Int32)), .val (.int (p0 &&& (2147483647 : Int32))), .val (.int ((own_irem (p1 &&& (2147483647 : Int32)) (200 : Int32)) + (1 : Int32))), .unset, .unset, .unset, .unset, .unset] [])) t
        refine XS.iloadN X0.here hx rfl (hb hby at_43) rfl ?_
        show Steps p.tables e below (s₁.setTop (mkF m 44 #[.val (.int p0), .val (.int p1), .val (.int p2), .val (.int (1 : Int32)), .val (.int (1 : Int32)), .val (.int (p0 &&& (2147483647 : Int32))), .val (.int ((own_irem (p1 &&& (2147483647 : Int32)) (200 : Int32)) + (1 : Int32))), .unset, .unset, .unset, .unset, .unset] [(.int (1 : Int32))])) t
        refine XS.ifNo X0.here hx rfl (hb hby at_44) rfl ((if0 _ _).trans (feq (by decide : ¬ ((1 : Int32) = (0 : Int32)))).1) ?_
        show Steps p.tables e below (s₁.setTop (mkF m 47 #[.val (.int p0), .val (.int p1), .val (.int p2), .val (.int (1 : Int32)), .val (.int (1 : Int32)), .val (.int (p0 &&& (2147483647 : Int32))), .val (.int ((own_irem (p1 &&& (2147483647 : Int32)) (200 : Int32)) + (1 : Int32))), .unset, .unset, .unset, .unset, .unset] [])) t
        refine XS.aconstNull X0.here hx rfl (hb hby at_47) ?_
        show Steps p.tables e below (s₁.setTop (mkF m 48 #[.val (.int p0), .val (.int p1), .val (.int p2), .val (.int (1 : Int32)), .val (.int (1 : Int32)), .val (.int (p0 &&& (2147483647 : Int32))), .val (.int ((own_irem (p1 &&& (2147483647 : Int32)) (200 : Int32)) + (1 : Int32))), .unset, .unset, .unset, .unset, .unset] [.null])) t
        refine XS.goto X0.here hx rfl (pc0 := 48) (pc' := 56) rfl (hb hby at_48) (by decide) (by decide) ?_
        show Steps p.tables e below (s₁.setTop (mkF m 56 #[.val (.int p0), .val (.int p1), .val (.int p2), .val (.int (1 : Int32)), .val (.int (1 : Int32)), .val (.int (p0 &&& (2147483647 : Int32))), .val (.int ((own_irem (p1 &&& (2147483647 : Int32)) (200 : Int32)) + (1 : Int32))), .unset, .unset, .unset, .unset, .unset] [.null])) t
        refine XS.astore X0.here hx rfl (hb hby at_56) rfl rfl (l' := #[.val (.int p0), .val (.int p1), .val (.int p2), .val (.int (1 : Int32)), .val (.int (1 : Int32)), .val (.int (p0 &&& (2147483647 : Int32))), .val (.int ((own_irem (p1 &&& (2147483647 : Int32)) (200 : Int32)) + (1 : Int32))), .val .null, .unset, .unset, .unset, .unset]) rfl ?_
        show Steps p.tables e below (s₁.setTop (mkF m 58 #[.val (.int p0), .val (.int p1), .val (.int p2), .val (.int (1 : Int32)), .val (.int (1 : Int32)), .val (.int (p0 &&& (2147483647 : Int32))), .val (.int ((own_irem (p1 &&& (2147483647 : Int32)) (200 : Int32)) + (1 : Int32))), .val .null, .unset, .unset, .unset, .unset] [])) t
        refine XS.iload X0.here hx rfl (hb hby at_58) rfl ?_
        show Steps p.tables e below (s₁.setTop (mkF m 60 #[.val (.int p0), .val (.int p1), .val (.int p2), .val (.int (1 : Int32)), .val (.int (1 : Int32)), .val (.int (p0 &&& (2147483647 : Int32))), .val (.int ((own_irem (p1 &&& (2147483647 : Int32)) (200 : Int32)) + (1 : Int32))), .val .null, .unset, .unset, .unset, .unset] [(.int (1 : Int32))])) t
        refine XS.ifNo X0.here hx rfl (hb hby at_60) rfl ((if0 _ _).trans (feq (by decide : ¬ ((1 : Int32) = (0 : Int32)))).1) ?_
        show Steps p.tables e below (s₁.setTop (mkF m 63 #[.val (.int p0), .val (.int p1), .val (.int p2), .val (.int (1 : Int32)), .val (.int (1 : Int32)), .val (.int (p0 &&& (2147483647 : Int32))), .val (.int ((own_irem (p1 &&& (2147483647 : Int32)) (200 : Int32)) + (1 : Int32))), .val .null, .unset, .unset, .unset, .unset] [])) t
        refine XS.aconstNull X0.here hx rfl (hb hby at_63) ?_
        show Steps p.tables e below (s₁.setTop (mkF m 64 #[.val (.int p0), .val (.int p1), .val (.int p2), .val (.int (1 : Int32)), .val (.int (1 : Int32)), .val (.int (p0 &&& (2147483647 : Int32))), .val (.int ((own_irem (p1 &&& (2147483647 : Int32)) (200 : Int32)) + (1 : Int32))), .val .null, .unset, .unset, .unset, .unset] [.null])) t
        refine XS.goto X0.here hx rfl (pc0 := 64) (pc' := 72) rfl (hb hby at_64) (by decide) (by decide) ?_
        show Steps p.tables e below (s₁.setTop (mkF m 72 #[.val (.int p0), .val (.int p1), .val (.int p2), .val (.int (1 : Int32)), .val (.int (1 : Int32)), .val (.int (p0 &&& (2147483647 : Int32))), .val (.int ((own_irem (p1 &&& (2147483647 : Int32)) (200 : Int32)) + (1 : Int32))), .val .null, .unset, .unset, .unset, .unset] [.null])) t
        refine XS.astore X0.here hx rfl (hb hby at_72) rfl rfl (l' := #[.val (.int p0), .val (.int p1), .val (.int p2), .val (.int (1 : Int32)), .val (.int (1 : Int32)), .val (.int (p0 &&& (2147483647 : Int32))), .val (.int ((own_irem (p1 &&& (2147483647 : Int32)) (200 : Int32)) + (1 : Int32))), .val .null, .val .null, .unset, .unset, .unset]) rfl ?_
        show Steps p.tables e below (s₁.setTop (mkF m 74 #[.val (.int p0), .val (.int p1), .val (.int p2), .val (.int (1 : Int32)), .val (.int (1 : Int32)), .val (.int (p0 &&& (2147483647 : Int32))), .val (.int ((own_irem (p1 &&& (2147483647 : Int32)) (200 : Int32)) + (1 : Int32))), .val .null, .val .null, .unset, .unset, .unset] [])) t
        refine XS.aload X0.here hx rfl (hb hby at_74) rfl rfl ?_
        show Steps p.tables e below (s₁.setTop (mkF m 76 #[.val (.int p0), .val (.int p1), .val (.int p2), .val (.int (1 : Int32)), .val (.int (1 : Int32)), .val (.int (p0 &&& (2147483647 : Int32))), .val (.int ((own_irem (p1 &&& (2147483647 : Int32)) (200 : Int32)) + (1 : Int32))), .val .null, .val .null, .unset, .unset, .unset] [.null])) t
        refine XS.aload X0.here hx rfl (hb hby at_76) rfl rfl ?_
        exact k
      obtain ⟨_, _, ⟨T0_14, L0_14, k0_14, n0_14⟩, -, X0_14, ⟨Lc0_14, hQ0_14, l0_14, y0_14, z0_14⟩, st0_14⟩ := Jvm.LawKit.callS X0 hx (y := (⟨"com/example/kido2/kido2/identity/PageRequest", "of", "(Ljava/lang/Integer;Ljava/lang/Integer;)Lcom/example/kido2/kido2/identity/PageRequest;"⟩ : MethodName)) hown (mvT hZ (hw _ (List.mem_of_getElem? (i := 8) rfl))) (mvT hZ (hw _ (List.mem_of_getElem? (i := 9) rfl))) (mvT hZ (hw _ (List.mem_of_getElem? (i := 10) rfl))) (mvT hZ (hw _ (List.mem_of_getElem? (i := 11) rfl))) (by decide) (backOf (W := 0) (rmO_11 l Z a0 hw []  h0 n0 Z0 ) hZ (hw _ (List.mem_of_getElem? (i := 11) rfl)) (hw _ (List.mem_of_getElem? (i := 10) rfl)) (by decide) (by decide)) (g := (mkF m 78 #[.val (.int p0), .val (.int p1), .val (.int p2), .val (.int (1 : Int32)), .val (.int (1 : Int32)), .val (.int (p0 &&& (2147483647 : Int32))), .val (.int ((own_irem (p1 &&& (2147483647 : Int32)) (200 : Int32)) + (1 : Int32))), .val .null, .val .null, .unset, .unset, .unset] [.null, .null])) rfl (by rw [hml]; rfl) (argsL := [.null, .null]) (rest := []) (lenOf pd0_1 rfl) rfl (by show 2 * 0 + _ ≤ _; exact Nat.le_of_eq rfl) (hb hby at_78) (fun _ _ => ⟨rfl, e0, (by decide : 0 + 1 ≤ _), (by decide : 0 + 2 ≤ _)⟩)
      dsimp only [Pt.U, Pt.locs, Pt.cells, Pt.slots] at X0_14 l0_14 y0_14 z0_14 st0_14 hQ0_14
      subst l0_14 y0_14 z0_14
      obtain ⟨z0_14, rfl, N0_14q, K0_14, Ex0_14, Fp0_14, Fs0_14⟩ := hQ0_14
      have N0_14 := Fr.app N0 N0_14q
      refine own_fw st0_14 ?_
      refine own_fw (A := T0_14.setTop (mkF m 111 #[.val (.int p0), .val (.int p1), .val (.int p2), .val (.int (1 : Int32)), .val (.int (1 : Int32)), .val (.int (p0 &&& (2147483647 : Int32))), .val (.int ((own_irem (p1 &&& (2147483647 : Int32)) (200 : Int32)) + (1 : Int32))), .val .null, .val .null, .val (.ref z0_14), .val (.int (0 : Int32)), .val (.int (50 : Int32))] [(.ref z0_14)])) (fun t k => ?_) ?_
      · show Steps p.tables e below (T0_14.setTop (mkF m 81 #[.val (.int p0), .val (.int p1), .val (.int p2), .val (.int (1 : Int32)), .val (.int (1 : Int32)), .val (.int (p0 &&& (2147483647 : Int32))), .val (.int ((own_irem (p1 &&& (2147483647 : Int32)) (200 : Int32)) + (1 : Int32))), .val .null, .val .null, .unset, .unset, .unset] [(.ref z0_14)])) t
        refine XS.astore X0_14.here hx rfl (hb hby at_81) rfl rfl (l' := #[.val (.int p0), .val (.int p1), .val (.int p2), .val (.int (1 : Int32)), .val (.int (1 : Int32)), .val (.int (p0 &&& (2147483647 : Int32))), .val (.int ((own_irem (p1 &&& (2147483647 : Int32)) (200 : Int32)) + (1 : Int32))), .val .null, .val .null, .val (.ref z0_14), .unset, .unset]) rfl ?_
        show Steps p.tables e below (T0_14.setTop (mkF m 83 #[.val (.int p0), .val (.int p1), .val (.int p2), .val (.int (1 : Int32)), .val (.int (1 : Int32)), .val (.int (p0 &&& (2147483647 : Int32))), .val (.int ((own_irem (p1 &&& (2147483647 : Int32)) (200 : Int32)) + (1 : Int32))), .val .null, .val .null, .val (.ref z0_14), .unset, .unset] [])) t
        refine XS.iloadN X0_14.here hx rfl (hb hby at_83) rfl ?_
        show Steps p.tables e below (T0_14.setTop (mkF m 84 #[.val (.int p0), .val (.int p1), .val (.int p2), .val (.int (1 : Int32)), .val (.int (1 : Int32)), .val (.int (p0 &&& (2147483647 : Int32))), .val (.int ((own_irem (p1 &&& (2147483647 : Int32)) (200 : Int32)) + (1 : Int32))), .val .null, .val .null, .val (.ref z0_14), .unset, .unset] [(.int (1 : Int32))])) t
        refine XS.ifNo X0_14.here hx rfl (hb hby at_84) rfl ((if0 _ _).trans (feq (by decide : ¬ ((1 : Int32) = (0 : Int32)))).1) ?_
        show Steps p.tables e below (T0_14.setTop (mkF m 87 #[.val (.int p0), .val (.int p1), .val (.int p2), .val (.int (1 : Int32)), .val (.int (1 : Int32)), .val (.int (p0 &&& (2147483647 : Int32))), .val (.int ((own_irem (p1 &&& (2147483647 : Int32)) (200 : Int32)) + (1 : Int32))), .val .null, .val .null, .val (.ref z0_14), .unset, .unset] [])) t
        refine XS.iconst X0_14.here hx rfl (hb hby at_87) ?_
        show Steps p.tables e below (T0_14.setTop (mkF m 88 #[.val (.int p0), .val (.int p1), .val (.int p2), .val (.int (1 : Int32)), .val (.int (1 : Int32)), .val (.int (p0 &&& (2147483647 : Int32))), .val (.int ((own_irem (p1 &&& (2147483647 : Int32)) (200 : Int32)) + (1 : Int32))), .val .null, .val .null, .val (.ref z0_14), .unset, .unset] [(.int (0 : Int32))])) t
        refine XS.goto X0_14.here hx rfl (pc0 := 88) (pc' := 93) rfl (hb hby at_88) (by decide) (by decide) ?_
        show Steps p.tables e below (T0_14.setTop (mkF m 93 #[.val (.int p0), .val (.int p1), .val (.int p2), .val (.int (1 : Int32)), .val (.int (1 : Int32)), .val (.int (p0 &&& (2147483647 : Int32))), .val (.int ((own_irem (p1 &&& (2147483647 : Int32)) (200 : Int32)) + (1 : Int32))), .val .null, .val .null, .val (.ref z0_14), .unset, .unset] [(.int (0 : Int32))])) t
        refine XS.istore X0_14.here hx rfl (hb hby at_93) rfl (l' := #[.val (.int p0), .val (.int p1), .val (.int p2), .val (.int (1 : Int32)), .val (.int (1 : Int32)), .val (.int (p0 &&& (2147483647 : Int32))), .val (.int ((own_irem (p1 &&& (2147483647 : Int32)) (200 : Int32)) + (1 : Int32))), .val .null, .val .null, .val (.ref z0_14), .val (.int (0 : Int32)), .unset]) rfl ?_
        show Steps p.tables e below (T0_14.setTop (mkF m 95 #[.val (.int p0), .val (.int p1), .val (.int p2), .val (.int (1 : Int32)), .val (.int (1 : Int32)), .val (.int (p0 &&& (2147483647 : Int32))), .val (.int ((own_irem (p1 &&& (2147483647 : Int32)) (200 : Int32)) + (1 : Int32))), .val .null, .val .null, .val (.ref z0_14), .val (.int (0 : Int32)), .unset] [])) t
        refine XS.iload X0_14.here hx rfl (hb hby at_95) rfl ?_
        show Steps p.tables e below (T0_14.setTop (mkF m 97 #[.val (.int p0), .val (.int p1), .val (.int p2), .val (.int (1 : Int32)), .val (.int (1 : Int32)), .val (.int (p0 &&& (2147483647 : Int32))), .val (.int ((own_irem (p1 &&& (2147483647 : Int32)) (200 : Int32)) + (1 : Int32))), .val .null, .val .null, .val (.ref z0_14), .val (.int (0 : Int32)), .unset] [(.int (1 : Int32))])) t
        refine XS.ifNo X0_14.here hx rfl (hb hby at_97) rfl ((if0 _ _).trans (feq (by decide : ¬ ((1 : Int32) = (0 : Int32)))).1) ?_
        show Steps p.tables e below (T0_14.setTop (mkF m 100 #[.val (.int p0), .val (.int p1), .val (.int p2), .val (.int (1 : Int32)), .val (.int (1 : Int32)), .val (.int (p0 &&& (2147483647 : Int32))), .val (.int ((own_irem (p1 &&& (2147483647 : Int32)) (200 : Int32)) + (1 : Int32))), .val .null, .val .null, .val (.ref z0_14), .val (.int (0 : Int32)), .unset] [])) t
        refine XS.bipush X0_14.here hx rfl (hb hby at_100) ?_
        show Steps p.tables e below (T0_14.setTop (mkF m 102 #[.val (.int p0), .val (.int p1), .val (.int p2), .val (.int (1 : Int32)), .val (.int (1 : Int32)), .val (.int (p0 &&& (2147483647 : Int32))), .val (.int ((own_irem (p1 &&& (2147483647 : Int32)) (200 : Int32)) + (1 : Int32))), .val .null, .val .null, .val (.ref z0_14), .val (.int (0 : Int32)), .unset] [(.int (50 : Int32))])) t
        refine XS.goto X0_14.here hx rfl (pc0 := 102) (pc' := 107) rfl (hb hby at_102) (by decide) (by decide) ?_
        show Steps p.tables e below (T0_14.setTop (mkF m 107 #[.val (.int p0), .val (.int p1), .val (.int p2), .val (.int (1 : Int32)), .val (.int (1 : Int32)), .val (.int (p0 &&& (2147483647 : Int32))), .val (.int ((own_irem (p1 &&& (2147483647 : Int32)) (200 : Int32)) + (1 : Int32))), .val .null, .val .null, .val (.ref z0_14), .val (.int (0 : Int32)), .unset] [(.int (50 : Int32))])) t
        refine XS.istore X0_14.here hx rfl (hb hby at_107) rfl (l' := #[.val (.int p0), .val (.int p1), .val (.int p2), .val (.int (1 : Int32)), .val (.int (1 : Int32)), .val (.int (p0 &&& (2147483647 : Int32))), .val (.int ((own_irem (p1 &&& (2147483647 : Int32)) (200 : Int32)) + (1 : Int32))), .val .null, .val .null, .val (.ref z0_14), .val (.int (0 : Int32)), .val (.int (50 : Int32))]) rfl ?_
        show Steps p.tables e below (T0_14.setTop (mkF m 109 #[.val (.int p0), .val (.int p1), .val (.int p2), .val (.int (1 : Int32)), .val (.int (1 : Int32)), .val (.int (p0 &&& (2147483647 : Int32))), .val (.int ((own_irem (p1 &&& (2147483647 : Int32)) (200 : Int32)) + (1 : Int32))), .val .null, .val .null, .val (.ref z0_14), .val (.int (0 : Int32)), .val (.int (50 : Int32))] [])) t
        refine XS.aload X0_14.here hx rfl (hb hby at_109) rfl rfl ?_
        exact k
      obtain ⟨cq0_15, kq0_15, q0_15a, q0_15b, q0_15c⟩ := isOf hZ rfl Ex0_14
      obtain ⟨_, _, ⟨T0_15, L0_15, k0_15, n0_15⟩, -, X0_15, ⟨Lc0_15, hQ0_15, l0_15, y0_15, z0_15⟩, st0_15⟩ := X0_14.virtualBack hx (y := (⟨"com/example/kido2/kido2/identity/PageRequest", "page", "()I"⟩ : MethodName)) (z := (⟨"com/example/kido2/kido2/identity/PageRequest", "page", "()I"⟩ : MethodName)) hown (mvT hZ (hw _ (List.mem_of_getElem? (i := 36) rfl))) (mvT hZ (hw _ (List.mem_of_getElem? (i := 37) rfl))) (notFace_of_selects (args := #[]) (mvT hZ (hw _ (List.mem_of_getElem? (i := 39) rfl)))) (mvT hZ (hw _ (List.mem_of_getElem? (i := 39) rfl))) (mvT hZ (hw _ (List.mem_of_getElem? (i := 38) rfl))) (by decide) (backOf (W := 0) (rm7 l Z a0 hw [] z0_14 (0 : Int32) T0_14.heap n0 (Nat.le_trans Z0 K0_14.1) Fp0_14) hZ (hw _ (List.mem_of_getElem? (i := 40) rfl)) (hw _ (List.mem_of_getElem? (i := 10) rfl)) (by decide) (by decide)) q0_15a q0_15c (g := (mkF m 111 #[.val (.int p0), .val (.int p1), .val (.int p2), .val (.int (1 : Int32)), .val (.int (1 : Int32)), .val (.int (p0 &&& (2147483647 : Int32))), .val (.int ((own_irem (p1 &&& (2147483647 : Int32)) (200 : Int32)) + (1 : Int32))), .val .null, .val .null, .val (.ref z0_14), .val (.int (0 : Int32)), .val (.int (50 : Int32))] [(.ref z0_14)])) rfl (by rw [hml]; rfl) (Steps.refl _) (argsL := []) (rest := []) (lenOf pd0_2 rfl) rfl (by show 2 * 0 + _ ≤ _; exact Nat.le_of_eq rfl) (hb hby at_111) (fun _ _ => ⟨rfl, rfl, (by decide : 1 + 0 ≤ _), (by decide : 2 + 0 ≤ _)⟩)
      dsimp only [Pt.U, Pt.locs, Pt.cells, Pt.slots] at X0_15 l0_15 y0_15 z0_15 st0_15 hQ0_15
      subst l0_15 y0_15 z0_15
      obtain ⟨rfl, N0_15q, e0_15⟩ := hQ0_15
      have N0_15 := Fr.app N0_14 N0_15q
      refine own_fw (fun t k => st0_15.trans k) ?_
      refine own_fw (A := T0_15.setTop (mkF m 121 #[.val (.int p0), .val (.int p1), .val (.int p2), .val (.int (1 : Int32)), .val (.int (1 : Int32)), .val (.int (p0 &&& (2147483647 : Int32))), .val (.int ((own_irem (p1 &&& (2147483647 : Int32)) (200 : Int32)) + (1 : Int32))), .val .null, .val .null, .val (.ref z0_14), .val (.int (0 : Int32)), .val (.int (50 : Int32))] [(.ref z0_14)])) (fun t k => ?_) ?_
      · show Steps p.tables e below (T0_15.setTop (mkF m 114 #[.val (.int p0), .val (.int p1), .val (.int p2), .val (.int (1 : Int32)), .val (.int (1 : Int32)), .val (.int (p0 &&& (2147483647 : Int32))), .val (.int ((own_irem (p1 &&& (2147483647 : Int32)) (200 : Int32)) + (1 : Int32))), .val .null, .val .null, .val (.ref z0_14), .val (.int (0 : Int32)), .val (.int (50 : Int32))] [(.int (0 : Int32))])) t
        refine XS.iload X0_15.here hx rfl (hb hby at_114) rfl ?_
        show Steps p.tables e below (T0_15.setTop (mkF m 116 #[.val (.int p0), .val (.int p1), .val (.int p2), .val (.int (1 : Int32)), .val (.int (1 : Int32)), .val (.int (p0 &&& (2147483647 : Int32))), .val (.int ((own_irem (p1 &&& (2147483647 : Int32)) (200 : Int32)) + (1 : Int32))), .val .null, .val .null, .val (.ref z0_14), .val (.int (0 : Int32)), .val (.int (50 : Int32))] [(.int (0 : Int32)), (.int (0 : Int32))])) t
        refine XS.icmpNo X0_15.here hx rfl (hb hby at_116) rfl (teq (rfl : (0 : Int32) = (0 : Int32))).2 ?_
        show Steps p.tables e below (T0_15.setTop (mkF m 119 #[.val (.int p0), .val (.int p1), .val (.int p2), .val (.int (1 : Int32)), .val (.int (1 : Int32)), .val (.int (p0 &&& (2147483647 : Int32))), .val (.int ((own_irem (p1 &&& (2147483647 : Int32)) (200 : Int32)) + (1 : Int32))), .val .null, .val .null, .val (.ref z0_14), .val (.int (0 : Int32)), .val (.int (50 : Int32))] [])) t
        refine XS.aload X0_15.here hx rfl (hb hby at_119) rfl rfl ?_
        exact k
      obtain ⟨cq0_16, kq0_16, q0_16a, q0_16b, q0_16c⟩ := isOf hZ e0_15 Ex0_14
      obtain ⟨_, _, ⟨T0_16, L0_16, k0_16, n0_16⟩, -, X0_16, ⟨Lc0_16, hQ0_16, l0_16, y0_16, z0_16⟩, st0_16⟩ := X0_15.virtualBack hx (y := (⟨"com/example/kido2/kido2/identity/PageRequest", "size", "()I"⟩ : MethodName)) (z := (⟨"com/example/kido2/kido2/identity/PageRequest", "size", "()I"⟩ : MethodName)) hown (mvT hZ (hw _ (List.mem_of_getElem? (i := 41) rfl))) (mvT hZ (hw _ (List.mem_of_getElem? (i := 42) rfl))) (notFace_of_selects (args := #[]) (mvT hZ (hw _ (List.mem_of_getElem? (i := 44) rfl)))) (mvT hZ (hw _ (List.mem_of_getElem? (i := 44) rfl))) (mvT hZ (hw _ (List.mem_of_getElem? (i := 43) rfl))) (by decide) (backOf (W := 0) (rm8 l Z a0 hw [] z0_14 (50 : Int32) T0_14.heap n0 (Nat.le_trans Z0 K0_14.1) Fs0_14) hZ (hw _ (List.mem_of_getElem? (i := 45) rfl)) (hw _ (List.mem_of_getElem? (i := 10) rfl)) (by decide) (by decide)) q0_16a q0_16c (g := (mkF m 121 #[.val (.int p0), .val (.int p1), .val (.int p2), .val (.int (1 : Int32)), .val (.int (1 : Int32)), .val (.int (p0 &&& (2147483647 : Int32))), .val (.int ((own_irem (p1 &&& (2147483647 : Int32)) (200 : Int32)) + (1 : Int32))), .val .null, .val .null, .val (.ref z0_14), .val (.int (0 : Int32)), .val (.int (50 : Int32))] [(.ref z0_14)])) rfl (by rw [hml]; rfl) (Steps.refl _) (argsL := []) (rest := []) (lenOf pd0_2 rfl) rfl (by show 2 * 0 + _ ≤ _; exact Nat.le_of_eq rfl) (hb hby at_121) (fun _ _ => ⟨rfl, e0_15, (by decide : 1 + 0 ≤ _), (by decide : 2 + 0 ≤ _)⟩)
      dsimp only [Pt.U, Pt.locs, Pt.cells, Pt.slots] at X0_16 l0_16 y0_16 z0_16 st0_16 hQ0_16
      subst l0_16 y0_16 z0_16
      obtain ⟨rfl, N0_16q, e0_16⟩ := hQ0_16
      have N0_16 := Fr.app N0_15 N0_16q
      refine own_fw (fun t k => st0_16.trans k) ?_
      refine own_fw (A := T0_16.setTop (mkF m 134 #[.val (.int p0), .val (.int p1), .val (.int p2), .val (.int (1 : Int32)), .val (.int (1 : Int32)), .val (.int (p0 &&& (2147483647 : Int32))), .val (.int ((own_irem (p1 &&& (2147483647 : Int32)) (200 : Int32)) + (1 : Int32))), .val .null, .val .null, .val (.ref z0_14), .val (.int (0 : Int32)), .val (.int (50 : Int32))] [(.int (1 : Int32))])) (fun t k => ?_) ?_
      · show Steps p.tables e below (T0_16.setTop (mkF m 124 #[.val (.int p0), .val (.int p1), .val (.int p2), .val (.int (1 : Int32)), .val (.int (1 : Int32)), .val (.int (p0 &&& (2147483647 : Int32))), .val (.int ((own_irem (p1 &&& (2147483647 : Int32)) (200 : Int32)) + (1 : Int32))), .val .null, .val .null, .val (.ref z0_14), .val (.int (0 : Int32)), .val (.int (50 : Int32))] [(.int (50 : Int32))])) t
        refine XS.iload X0_16.here hx rfl (hb hby at_124) rfl ?_
        show Steps p.tables e below (T0_16.setTop (mkF m 126 #[.val (.int p0), .val (.int p1), .val (.int p2), .val (.int (1 : Int32)), .val (.int (1 : Int32)), .val (.int (p0 &&& (2147483647 : Int32))), .val (.int ((own_irem (p1 &&& (2147483647 : Int32)) (200 : Int32)) + (1 : Int32))), .val .null, .val .null, .val (.ref z0_14), .val (.int (0 : Int32)), .val (.int (50 : Int32))] [(.int (50 : Int32)), (.int (50 : Int32))])) t
        refine XS.icmpNo X0_16.here hx rfl (hb hby at_126) rfl (teq (rfl : (50 : Int32) = (50 : Int32))).2 ?_
        show Steps p.tables e below (T0_16.setTop (mkF m 129 #[.val (.int p0), .val (.int p1), .val (.int p2), .val (.int (1 : Int32)), .val (.int (1 : Int32)), .val (.int (p0 &&& (2147483647 : Int32))), .val (.int ((own_irem (p1 &&& (2147483647 : Int32)) (200 : Int32)) + (1 : Int32))), .val .null, .val .null, .val (.ref z0_14), .val (.int (0 : Int32)), .val (.int (50 : Int32))] [])) t
        refine XS.iconst X0_16.here hx rfl (hb hby at_129) ?_
        show Steps p.tables e below (T0_16.setTop (mkF m 130 #[.val (.int p0), .val (.int p1), .val (.int p2), .val (.int (1 : Int32)), .val (.int (1 : Int32)), .val (.int (p0 &&& (2147483647 : Int32))), .val (.int ((own_irem (p1 &&& (2147483647 : Int32)) (200 : Int32)) + (1 : Int32))), .val .null, .val .null, .val (.ref z0_14), .val (.int (0 : Int32)), .val (.int (50 : Int32))] [(.int (1 : Int32))])) t
        refine XS.goto X0_16.here hx rfl (pc0 := 130) (pc' := 134) rfl (hb hby at_130) (by decide) (by decide) ?_
        exact k
      obtain ⟨fs, hr, hrun, hended, hW, hsame⟩ := X0_16.leave (v := some (.int (nar .boolean (1 : Int32)))) (fun h => by rw [Bd.returns] at h; cases h)
      refine ⟨_, _, retN X0_16 hx (t := .boolean) Bd.returns (by simp) (hb hby at_134) hr, hrun, hended, _, _, rfl, ?_, ⟨_, rfl⟩, hW, hsame.mono (by decide) (by decide)⟩
      have eh : (T0_16.setFrames fs).heap = T0_14.heap := e0_16
      rw [eh]
      exact ⟨rfl, N0_16⟩
set_option maxRecDepth 65536 in
set_option maxHeartbeats 40000000 in
theorem comes_1 {Post : Tables → Env → Array Value → State → Outcome → State → Prop} (hpost : ∀ tb e args s v u, (limb_1_1.after args s (.returned v) u = true ∧ limb_1_2.after args s (.returned v) u = true ∧ True) → FrameEnd s (.returned v) u (Jvm.fieldLocs frame_1_writes args s ++ Jvm.arrayLocs frame_1_arrays args s ++ Jvm.staticLocs frame_1_statics s) 16 128 → Post tb e args s (.returned v) u) :
    ArmFor flags0 classFile x code maxLocals ret World_1 tables_1 room_1 Calls_1 rest_1 Pre_1 Post := by
  intro l hfl _ _ p e ha hc hk s m args below hf hA hF happ hP
  obtain ⟨hcalls, hrest, hpre⟩ := hP
  obtain ⟨-, -, -, hnamed, -, -, -, hat⟩ := (Spec.applies_iff hf).mp happ
  obtain ⟨hg, hn⟩ := and_e (Cond.before_iff.mp (show (Jvm.Cond.and given_1 narrow_1).before args s = true from hpre))
  obtain ⟨g1, g2⟩ := and_e hg
  obtain ⟨ga0, gb0⟩ := and_e g2
  obtain ⟨ga1, gb1⟩ := and_e gb0
  obtain ⟨w0, w1, w2, rfl⟩ : ∃ w0 w1 w2 : Value, args = #[w0, w1, w2] := by
    have hs : args.size = 3 := by simpa [Cond.value, given_1] using g1
    obtain ⟨L⟩ := args
    match L, hs with
    | [w0, w1, w2], _ => exact ⟨w0, w1, w2, rfl⟩
  have hw := fun d (hd : d ∈ tables_1) => atoms_spec (ws := Jvm.Cond.code x code maxLocals ret :: tables_1) hat d (List.mem_cons_of_mem _ hd)
  have hfit : Fit s := fun {y c} hc i hi => by
    obtain ⟨ha, rfl⟩ := Array.getElem?_eq_some_iff.mp hc
    have q := List.all_eq_true.mp ((Array.all_eq_true_iff_forall_mem.mp hF) _ (Array.getElem_mem ha)) i (List.mem_range.mpr hi)
    simpa [Array.getElem?_eq_getElem hi] using q
  obtain ⟨i0, ei0⟩ := is_v ga0
  obtain rfl : w0 = (.int i0) := Option.some.inj ei0
  obtain ⟨i1, ei1⟩ := is_v ga1
  obtain rfl : w1 = (.int i1) := Option.some.inj ei1
  obtain ⟨i2, ei2⟩ := is_v gb1
  obtain rfl : w2 = (.int i2) := Option.some.inj ei2
  obtain ⟨hsets, hown0⟩ := atoms_of _ (rest_1_c_eq ▸ (show rest_1_c.before _ s = true from hrest))
  have ev1 := Jvm.Free.NT.SwA.eq_int (hsets _ (List.mem_of_getElem? (i := 3) rfl))
  have S_high := Sta.start ev1 (Or.inl (hsets _ (List.mem_of_getElem? (i := 1) rfl)))
  obtain ⟨ca, ev2⟩ := exa_v (Cond.before_iff.mp (hsets _ (List.mem_of_getElem? (i := 5) rfl)))
  have S_cache := Sta.start ev2 (Or.inr ⟨(hw _ (List.mem_of_getElem? (i := 6) rfl)), (hsets _ (List.mem_of_getElem? (i := 2) rfl))⟩)
  obtain ⟨cc, A⟩ := Arr.start ev2 (Cond.before_iff.mp (hsets _ (List.mem_of_getElem? (i := 4) rfl)))
  have ev3 := Jvm.Free.NT.SwA.eq_int (hsets _ (List.mem_of_getElem? (i := 6) rfl))
  obtain ⟨b', cell', e1, e2, e3, e4⟩ := Jvm.Lib.length_spec ev3
  cases ev2.symm.trans e1
  cases (A.fin (Vm.Alike.refl _)).symm.trans e2
  have Bx : Bxs s ca cc "java/lang/Integer" "I" (256 : Int32) (fun j => .int (j - (128 : Int32))) := Bxs.start (fun idx => ev2) A e3 (Value.int.inj e4).symm (by decide) (Cond.before_iff.mp (hsets _ (List.mem_of_getElem? (i := 7) rfl))) (fun X j nn h => eqv_i (by have q := idx_at (args := #[Value.int i0, Value.int i1, Value.int i2]) (s := s) (first := s) (o := none) nn; simp [Term.eval]; exact (back32 nn).1) h)
  obtain ⟨n, o, h1, h2, h3, _, L, rfl, ⟨rfl, N⟩, hq⟩ := rm0 l s _ hw tables_1 i0 i1 i2 ca cc s.heap s.heap.size (Nat.le_refl _) S_high S_cache Bx (Old.start s) p e ha hc hk s m _ below hf ((Spec.applies_iff_loose hf).mp happ).1 ⟨rfl, State.Warmed39.refl s, rfl⟩ trivial
  refine ⟨n, _, h1, h2, h3, hpost _ _ _ _ _ _ ⟨Cond.after_iff.mpr rfl, Cond.after_iff.mpr (eq_i res_at (Term.int_eval (1)) rfl), trivial⟩ ⟨hq.1, hq.2.1, (hq.2.2.sift fun y hy => Or.inr (N y hy)).mono (by decide) (by decide)⟩⟩
theorem main_1_1 : Claimed_1_1 := comes_1 fun _ _ _ _ _ _ h hF => ⟨h.1, hF⟩
theorem main_1_2 : Claimed_1_2 := comes_1 fun _ _ _ _ _ _ h hF => ⟨h.2.1, hF⟩
end Jvm.Pilot.@@N@@
namespace Jvm.Pilot.@@N@@
open Jvm Jvm.ClassFile Sem Op Lib Jvm.Free Jvm.Stand Jvm.Pilot.@@N@@.Jvm.D
/-! MADE BY PROGRAM (witnessworld.py) out of the Statement's table words and the real class files: 17 classes; the members and pool entries that the words name. The judged class is class 1, her method 1. -/
namespace start1
open Jvm.ClassFile
def u (s : String) : CpInfo := .utf8 (stringToUtf16 s)
/-- a pool by its gaps: so many unusable entries, then the entry; so many at the end -/
def gap : Nat → List CpInfo → List CpInfo
  | 0, r => r
  | n + 1, r => .unusable :: gap n r
def poolList (es : List (Nat × CpInfo)) (last : Nat) : List CpInfo := es.foldr (fun e r => gap e.1 (e.2 :: r)) (gap last [])
def pool (es : List (Nat × CpInfo)) (last : Nat) : Array CpInfo := ⟨poolList es last⟩
def fileOf (pool : Array CpInfo) (this : Nat) (attrs : Array Attribute := #[]) (ms : Array MethodInfo := #[]) (fl : Nat := 33) (sup : Nat := 0) (ifs : Array Nat := #[]) (fds : Array FieldInfo := #[]) : ClassFile where
  minorVersion := 0
  majorVersion := 65
  constantPool := pool
  accessFlags := fl
  thisClass := this
  superClass := sup
  interfaces := ifs
  fields := fds
  methods := ms
  attributes := attrs
def plain (name : String) (sup : Option ClassId) : Class where
  name := name
  kind := .ordinary
  loader := none
  accessFlags := 33
  super := sup
  interfaces := #[]
  cf := none
  fields := #[]
  methods := #[]
  instanceTypes := #[]
  staticTypes := #[]
  resolved := #[]
  callSites := []
  init := .initialized
  statics := none
  mirror := none

def pool0 : Array CpInfo := pool [(5, u "<init>"), (0, u "()V"), (1, .class_ 10), (1, u "java/lang/Object")] 113

def k0c0 : Code := { maxStack := 0, maxLocals := 1, code := object_method_1_code, exceptionTable := #[], attributes := #[] }
def k0m0 : Method := { name := "<init>", desc := "()V", sig := { parameters := [], returnType := none }, accessFlags := 1, code := some k0c0 }
/-- java/lang/Object -/
def k0 : Class := { plain "java/lang/Object" none with
  accessFlags := 33
  interfaces := #[]
  cf := some (fileOf pool0 8 #[] #[{ accessFlags := 1, nameIndex := 5, descriptorIndex := 6, attributes := #[] }] 33 0 #[] #[])
  fields := #[]
  methods := #[k0m0]
  instanceTypes := #[]
  staticTypes := #[]
  resolved := Array.replicate 124 none
  statics := none }

def pool1 : Array CpInfo := pool [(2, .class_ 4), (1, u "java/lang/Object"), (0, u "<init>"), (0, u "()V"), (0, .integer 2147483647), (0, .methodref 9 10), (0, .class_ 11), (0, .nameAndType 12 13), (0, u "java/lang/Integer"), (0, u "valueOf"), (0, u "(I)Ljava/lang/Integer;"), (0, .methodref 15 16), (0, .class_ 17), (0, .nameAndType 18 19), (0, u "com/example/kido2/kido2/identity/PageRequest"), (0, u "of"), (0, u "(Ljava/lang/Integer;Ljava/lang/Integer;)Lcom/example/kido2/kido2/identity/PageRequest;"), (0, .methodref 15 21), (0, .nameAndType 22 23), (0, u "page"), (0, u "()I"), (0, .methodref 15 25), (0, .nameAndType 26 23), (0, u "size"), (0, .class_ 28), (0, u "com/example/kido2/kido2/identity/PageRequestOfPinLaw"), (2, u "law"), (0, u "(III)Z")] 3

def k1m0 : Method := { name := "<init>", desc := "()V", sig := { parameters := [], returnType := none }, accessFlags := 1, code := none }
def k1c1 : Code := { maxStack := 2, maxLocals := 12, code := code, exceptionTable := #[], attributes := #[] }
def k1m1 : Method := { name := "law", desc := "(III)Z", sig := { parameters := [.int, .int, .int], returnType := some .boolean }, accessFlags := 9, code := some k1c1 }
/-- com/example/kido2/kido2/identity/PageRequestOfPinLaw -/
def k1 : Class := { plain "com/example/kido2/kido2/identity/PageRequestOfPinLaw" (some 0) with
  accessFlags := 49
  interfaces := #[]
  cf := some (fileOf pool1 27 #[] #[{ accessFlags := 1, nameIndex := 5, descriptorIndex := 6, attributes := #[] }, { accessFlags := 9, nameIndex := 31, descriptorIndex := 32, attributes := #[] }] 49 2 #[] #[])
  fields := #[]
  methods := #[k1m0, k1m1]
  instanceTypes := #[]
  staticTypes := #[]
  resolved := Array.replicate 36 none
  statics := none }

def pool2 : Array CpInfo := pool [(1, .class_ 2), (0, u "java/io/Serializable"), (0, .class_ 4), (0, u "java/lang/Object")] 2

/-- java/io/Serializable -/
def k2 : Class := { plain "java/io/Serializable" (some 0) with
  accessFlags := 1537
  interfaces := #[]
  cf := some (fileOf pool2 1 #[] #[] 1537 3 #[] #[])
  fields := #[]
  methods := #[]
  instanceTypes := #[]
  staticTypes := #[]
  resolved := Array.replicate 7 none
  statics := none }

def pool3 : Array CpInfo := pool [(1, .methodref 2 3), (0, .class_ 4), (0, .nameAndType 5 6), (0, u "java/lang/Object"), (0, u "<init>"), (0, u "()V"), (1, .class_ 10), (1, u "java/lang/Number"), (2, .class_ 14), (0, u "java/io/Serializable"), (0, u "serialVersionUID"), (0, u "J")] 20

def k3c0 : Code := { maxStack := 1, maxLocals := 1, code := jdk_18_method_1_code, exceptionTable := #[], attributes := #[] }
def k3m0 : Method := { name := "<init>", desc := "()V", sig := { parameters := [], returnType := none }, accessFlags := 1, code := some k3c0 }
/-- java/lang/Number -/
def k3 : Class := { plain "java/lang/Number" (some 0) with
  accessFlags := 1057
  interfaces := #[2]
  cf := some (fileOf pool3 8 #[] #[{ accessFlags := 1, nameIndex := 5, descriptorIndex := 6, attributes := #[] }] 1057 2 #[13] #[{ accessFlags := 26, nameIndex := 15, descriptorIndex := 16, attributes := #[] }])
  fields := #[{ name := "serialVersionUID", type := .long, accessFlags := 26, slot := 0, constantValue := 0 }]
  methods := #[k3m0]
  instanceTypes := #[]
  staticTypes := #[.long]
  resolved := Array.replicate 37 none
  statics := none }

def pool4 : Array CpInfo := pool [(1, .class_ 2), (0, u "java/lang/Comparable"), (0, .class_ 4), (0, u "java/lang/Object")] 7

/-- java/lang/Comparable -/
def k4 : Class := { plain "java/lang/Comparable" (some 0) with
  accessFlags := 1537
  interfaces := #[]
  cf := some (fileOf pool4 1 #[] #[] 1537 3 #[] #[])
  fields := #[]
  methods := #[]
  instanceTypes := #[]
  staticTypes := #[]
  resolved := Array.replicate 12 none
  statics := none }

def pool5 : Array CpInfo := pool [(1, .class_ 2), (0, u "java/lang/constant/Constable"), (0, .class_ 4), (0, u "java/lang/Object")] 6

/-- java/lang/constant/Constable -/
def k5 : Class := { plain "java/lang/constant/Constable" (some 0) with
  accessFlags := 1537
  interfaces := #[]
  cf := some (fileOf pool5 1 #[] #[] 1537 3 #[] #[])
  fields := #[]
  methods := #[]
  instanceTypes := #[]
  staticTypes := #[]
  resolved := Array.replicate 11 none
  statics := none }

def pool6 : Array CpInfo := pool [(1, .class_ 2), (0, u "java/lang/constant/ConstantDesc"), (0, .class_ 4), (0, u "java/lang/Object")] 32

/-- java/lang/constant/ConstantDesc -/
def k6 : Class := { plain "java/lang/constant/ConstantDesc" (some 0) with
  accessFlags := 1537
  interfaces := #[]
  cf := some (fileOf pool6 1 #[] #[] 1537 3 #[] #[])
  fields := #[]
  methods := #[]
  instanceTypes := #[]
  staticTypes := #[]
  resolved := Array.replicate 37 none
  statics := none }

def pool7 : Array CpInfo := pool [(1, .class_ 2), (0, u "java/lang/Integer"), (16, u "digits"), (0, u "[C"), (46, u "<init>"), (17, u "DigitOnes"), (0, u "[B"), (2, u "DigitTens"), (10, .nameAndType 67 101), (0, u "()V"), (19, u "()I"), (65, u "valueOf"), (0, u "(I)Ljava/lang/Integer;"), (0, .class_ 190), (0, u "java/lang/Integer$IntegerCache"), (0, .fieldref 189 192), (0, .nameAndType 193 194), (0, u "high"), (0, u "I"), (0, .fieldref 189 196), (0, .nameAndType 197 198), (0, u "cache"), (0, u "[Ljava/lang/Integer;"), (0, .methodref 1 200), (0, .nameAndType 67 201), (0, u "(I)V"), (0, .methodref 203 100), (0, .class_ 204), (0, u "java/lang/Number"), (0, .fieldref 1 206), (0, .nameAndType 207 194), (0, u "value"), (5, u "intValue"), (88, u "TYPE"), (0, u "Ljava/lang/Class;"), (0, .class_ 305), (0, u "java/lang/Comparable"), (0, .class_ 307), (0, u "java/lang/constant/Constable"), (0, .class_ 309), (0, u "java/lang/constant/ConstantDesc"), (0, u "MIN_VALUE"), (1, u "MAX_VALUE"), (3, u "SIZE"), (1, u "BYTES"), (1, u "serialVersionUID"), (0, u "J")] 131

def k7c0 : Code := { maxStack := 3, maxLocals := 1, code := jdk_33_method_22_code, exceptionTable := #[], attributes := #[] }
def k7m0 : Method := { name := "valueOf", desc := "(I)Ljava/lang/Integer;", sig := { parameters := [.int], returnType := some (.object "java/lang/Integer") }, accessFlags := 9, code := some k7c0 }
def k7c1 : Code := { maxStack := 2, maxLocals := 2, code := jdk_33_method_23_code, exceptionTable := #[], attributes := #[] }
def k7m1 : Method := { name := "<init>", desc := "(I)V", sig := { parameters := [.int], returnType := none }, accessFlags := 1, code := some k7c1 }
def k7c2 : Code := { maxStack := 1, maxLocals := 1, code := jdk_33_method_27_code, exceptionTable := #[], attributes := #[] }
def k7m2 : Method := { name := "intValue", desc := "()I", sig := { parameters := [], returnType := some .int }, accessFlags := 1, code := some k7c2 }
/-- java/lang/Integer -/
def k7 : Class := { plain "java/lang/Integer" (some 3) with
  accessFlags := 49
  interfaces := #[4, 5, 6]
  cf := some (fileOf pool7 1 #[.nestMembers #[189]] #[{ accessFlags := 9, nameIndex := 187, descriptorIndex := 188, attributes := #[] }, { accessFlags := 1, nameIndex := 67, descriptorIndex := 201, attributes := #[] }, { accessFlags := 1, nameIndex := 213, descriptorIndex := 121, attributes := #[] }] 49 203 #[304, 306, 308] #[{ accessFlags := 25, nameIndex := 310, descriptorIndex := 194, attributes := #[] }, { accessFlags := 25, nameIndex := 312, descriptorIndex := 194, attributes := #[] }, { accessFlags := 25, nameIndex := 302, descriptorIndex := 303, attributes := #[] }, { accessFlags := 24, nameIndex := 19, descriptorIndex := 20, attributes := #[] }, { accessFlags := 24, nameIndex := 89, descriptorIndex := 86, attributes := #[] }, { accessFlags := 24, nameIndex := 85, descriptorIndex := 86, attributes := #[] }, { accessFlags := 18, nameIndex := 207, descriptorIndex := 194, attributes := #[] }, { accessFlags := 25, nameIndex := 316, descriptorIndex := 194, attributes := #[] }, { accessFlags := 25, nameIndex := 318, descriptorIndex := 194, attributes := #[] }, { accessFlags := 26, nameIndex := 320, descriptorIndex := 321, attributes := #[] }])
  fields := #[{ name := "MIN_VALUE", type := .int, accessFlags := 25, slot := 0, constantValue := 0 }, { name := "MAX_VALUE", type := .int, accessFlags := 25, slot := 1, constantValue := 0 }, { name := "TYPE", type := (.object "java/lang/Class"), accessFlags := 25, slot := 2, constantValue := 0 }, { name := "digits", type := (.array .char), accessFlags := 24, slot := 3, constantValue := 0 }, { name := "DigitTens", type := (.array .byte), accessFlags := 24, slot := 4, constantValue := 0 }, { name := "DigitOnes", type := (.array .byte), accessFlags := 24, slot := 5, constantValue := 0 }, { name := "value", type := .int, accessFlags := 18, slot := 0, constantValue := 0 }, { name := "SIZE", type := .int, accessFlags := 25, slot := 6, constantValue := 0 }, { name := "BYTES", type := .int, accessFlags := 25, slot := 7, constantValue := 0 }, { name := "serialVersionUID", type := .long, accessFlags := 26, slot := 8, constantValue := 0 }]
  methods := #[k7m0, k7m1, k7m2]
  instanceTypes := #[.int]
  staticTypes := #[.int, .int, (.object "java/lang/Class"), (.array .char), (.array .byte), (.array .byte), .int, .int, .long]
  resolved := Array.replicate 453 none
  statics := none }

def pool8 : Array CpInfo := pool [(2, .class_ 4), (1, u "java/lang/Object"), (0, u "<init>"), (0, u "()V"), (0, .class_ 8), (0, u "java/lang/Integer"), (7, .class_ 18), (1, u "java/lang/Integer$IntegerCache"), (0, u "$assertionsDisabled"), (0, u "Z"), (26, u "high"), (0, u "I"), (8, u "archivedCache"), (0, u "[Ljava/lang/Integer;"), (12, u "cache"), (0, u "low")] 27

def k8m0 : Method := { name := "<init>", desc := "()V", sig := { parameters := [], returnType := none }, accessFlags := 2, code := none }
/-- java/lang/Integer$IntegerCache -/
def k8 : Class := { plain "java/lang/Integer$IntegerCache" (some 0) with
  accessFlags := 48
  interfaces := #[]
  cf := some (fileOf pool8 16 #[.nestHost 7] #[{ accessFlags := 2, nameIndex := 5, descriptorIndex := 6, attributes := #[] }] 48 2 #[] #[{ accessFlags := 24, nameIndex := 72, descriptorIndex := 48, attributes := #[] }, { accessFlags := 24, nameIndex := 47, descriptorIndex := 48, attributes := #[] }, { accessFlags := 24, nameIndex := 71, descriptorIndex := 58, attributes := #[] }, { accessFlags := 8, nameIndex := 57, descriptorIndex := 58, attributes := #[] }, { accessFlags := 4120, nameIndex := 19, descriptorIndex := 20, attributes := #[] }])
  fields := #[{ name := "low", type := .int, accessFlags := 24, slot := 0, constantValue := 0 }, { name := "high", type := .int, accessFlags := 24, slot := 1, constantValue := 0 }, { name := "cache", type := (.array (.object "java/lang/Integer")), accessFlags := 24, slot := 2, constantValue := 0 }, { name := "archivedCache", type := (.array (.object "java/lang/Integer")), accessFlags := 8, slot := 3, constantValue := 0 }, { name := "$assertionsDisabled", type := .boolean, accessFlags := 4120, slot := 4, constantValue := 0 }]
  methods := #[k8m0]
  instanceTypes := #[]
  staticTypes := #[.int, .int, (.array (.object "java/lang/Integer")), (.array (.object "java/lang/Integer")), .boolean]
  resolved := Array.replicate 100 none
  statics := some 0 }

def pool9 : Array CpInfo := pool [(1, .methodref 2 3), (0, .class_ 4), (0, .nameAndType 5 6), (0, u "java/lang/Object"), (0, u "<init>"), (0, u "()V"), (0, .class_ 8), (0, u "java/lang/Record")] 13

def k9c0 : Code := { maxStack := 1, maxLocals := 1, code := jdk_30_method_1_code, exceptionTable := #[], attributes := #[] }
def k9m0 : Method := { name := "<init>", desc := "()V", sig := { parameters := [], returnType := none }, accessFlags := 4, code := some k9c0 }
/-- java/lang/Record -/
def k9 : Class := { plain "java/lang/Record" (some 0) with
  accessFlags := 1057
  interfaces := #[]
  cf := some (fileOf pool9 7 #[] #[{ accessFlags := 4, nameIndex := 5, descriptorIndex := 6, attributes := #[] }] 1057 2 #[] #[])
  fields := #[]
  methods := #[k9m0]
  instanceTypes := #[]
  staticTypes := #[]
  resolved := Array.replicate 22 none
  statics := none }

def pool10 : Array CpInfo := pool [(1, .methodref 2 3), (0, .class_ 4), (0, .nameAndType 5 6), (0, u "java/lang/Record"), (0, u "<init>"), (0, u "()V"), (7, .class_ 15), (0, u "com/example/kido2/kido2/identity/PageRequest"), (2, .fieldref 14 19), (0, .nameAndType 20 21), (0, u "page"), (0, u "I"), (0, .fieldref 14 23), (0, .nameAndType 24 21), (0, u "size"), (0, .methodref 26 27), (0, .class_ 28), (0, .nameAndType 29 30), (0, u "java/lang/Integer"), (0, u "intValue"), (0, u "()I"), (0, .methodref 14 32), (0, .nameAndType 5 33), (0, u "(II)V"), (12, u "DEFAULT_SIZE"), (2, u "MAX_SIZE"), (5, u "of"), (0, u "(Ljava/lang/Integer;Ljava/lang/Integer;)Lcom/example/kido2/kido2/identity/PageRequest;")] 25

def k10c0 : Code := { maxStack := 3, maxLocals := 3, code := prog_12_method_1_code, exceptionTable := #[], attributes := #[] }
def k10m0 : Method := { name := "<init>", desc := "(II)V", sig := { parameters := [.int, .int], returnType := none }, accessFlags := 1, code := some k10c0 }
def k10c1 : Code := { maxStack := 4, maxLocals := 2, code := prog_12_method_2_code, exceptionTable := #[], attributes := #[] }
def k10m1 : Method := { name := "of", desc := "(Ljava/lang/Integer;Ljava/lang/Integer;)Lcom/example/kido2/kido2/identity/PageRequest;", sig := { parameters := [(.object "java/lang/Integer"), (.object "java/lang/Integer")], returnType := some (.object "com/example/kido2/kido2/identity/PageRequest") }, accessFlags := 9, code := some k10c1 }
def k10c2 : Code := { maxStack := 1, maxLocals := 1, code := prog_12_method_7_code, exceptionTable := #[], attributes := #[] }
def k10m2 : Method := { name := "page", desc := "()I", sig := { parameters := [], returnType := some .int }, accessFlags := 1, code := some k10c2 }
def k10c3 : Code := { maxStack := 1, maxLocals := 1, code := prog_12_method_8_code, exceptionTable := #[], attributes := #[] }
def k10m3 : Method := { name := "size", desc := "()I", sig := { parameters := [], returnType := some .int }, accessFlags := 1, code := some k10c3 }
/-- com/example/kido2/kido2/identity/PageRequest -/
def k10 : Class := { plain "com/example/kido2/kido2/identity/PageRequest" (some 9) with
  accessFlags := 49
  interfaces := #[]
  cf := some (fileOf pool10 14 #[] #[{ accessFlags := 1, nameIndex := 5, descriptorIndex := 33, attributes := #[] }, { accessFlags := 9, nameIndex := 55, descriptorIndex := 56, attributes := #[] }, { accessFlags := 1, nameIndex := 20, descriptorIndex := 30, attributes := #[] }, { accessFlags := 1, nameIndex := 24, descriptorIndex := 30, attributes := #[] }] 49 2 #[] #[{ accessFlags := 18, nameIndex := 20, descriptorIndex := 21, attributes := #[] }, { accessFlags := 18, nameIndex := 24, descriptorIndex := 21, attributes := #[] }, { accessFlags := 26, nameIndex := 46, descriptorIndex := 21, attributes := #[] }, { accessFlags := 26, nameIndex := 49, descriptorIndex := 21, attributes := #[] }])
  fields := #[{ name := "page", type := .int, accessFlags := 18, slot := 0, constantValue := 0 }, { name := "size", type := .int, accessFlags := 18, slot := 1, constantValue := 0 }, { name := "DEFAULT_SIZE", type := .int, accessFlags := 26, slot := 0, constantValue := 0 }, { name := "MAX_SIZE", type := .int, accessFlags := 26, slot := 1, constantValue := 0 }]
  methods := #[k10m0, k10m1, k10m2, k10m3]
  instanceTypes := #[.int, .int]
  staticTypes := #[.int, .int]
  resolved := Array.replicate 82 none
  statics := none }

def pool11 : Array CpInfo := pool [(1, u "java/lang/Cloneable"), (0, .class_ 1), (0, u "java/lang/Object"), (0, .class_ 3)] 3

/-- java/lang/Cloneable -/
def k11 : Class := { plain "java/lang/Cloneable" (some 0) with
  accessFlags := 1537
  interfaces := #[]
  cf := some (fileOf pool11 2 #[] #[] 1537 4 #[] #[])
  fields := #[]
  methods := #[]
  instanceTypes := #[]
  staticTypes := #[]
  resolved := Array.replicate 8 none
  statics := none }

/-- the primitive byte -/
def k12 : Class := { plain "byte" none with kind := .primitive 'B', accessFlags := 0x411 }
/-- [B -/
def k13 : Class := { plain "[B" (some 0) with kind := .array 12 .byte, interfaces := #[11, 2], accessFlags := 1041 }

/-- the primitive int -/
def k14 : Class := { plain "int" none with kind := .primitive 'I', accessFlags := 0x411 }
/-- [I -/
def k15 : Class := { plain "[I" (some 0) with kind := .array 14 .int, interfaces := #[11, 2], accessFlags := 1041 }

/-- [Ljava/lang/Integer; -/
def k16 : Class := { plain "[Ljava/lang/Integer;" (some 0) with kind := .array 7 (.object "java/lang/Integer"), interfaces := #[11, 2], accessFlags := 1041 }

def heap : Heap := #[{ cls := 8, slots := #[.int 0, .int 127, .ref 1, .null, .int 0], vm := .statics 8 },
  { cls := 16, slots := #[.ref 2, .ref 3, .ref 4, .ref 5, .ref 6, .ref 7, .ref 8, .ref 9, .ref 10, .ref 11, .ref 12, .ref 13, .ref 14, .ref 15, .ref 16, .ref 17, .ref 18, .ref 19, .ref 20, .ref 21, .ref 22, .ref 23, .ref 24, .ref 25, .ref 26, .ref 27, .ref 28, .ref 29, .ref 30, .ref 31, .ref 32, .ref 33, .ref 34, .ref 35, .ref 36, .ref 37, .ref 38, .ref 39, .ref 40, .ref 41, .ref 42, .ref 43, .ref 44, .ref 45, .ref 46, .ref 47, .ref 48, .ref 49, .ref 50, .ref 51, .ref 52, .ref 53, .ref 54, .ref 55, .ref 56, .ref 57, .ref 58, .ref 59, .ref 60, .ref 61, .ref 62, .ref 63, .ref 64, .ref 65, .ref 66, .ref 67, .ref 68, .ref 69, .ref 70, .ref 71, .ref 72, .ref 73, .ref 74, .ref 75, .ref 76, .ref 77, .ref 78, .ref 79, .ref 80, .ref 81, .ref 82, .ref 83, .ref 84, .ref 85, .ref 86, .ref 87, .ref 88, .ref 89, .ref 90, .ref 91, .ref 92, .ref 93, .ref 94, .ref 95, .ref 96, .ref 97, .ref 98, .ref 99, .ref 100, .ref 101, .ref 102, .ref 103, .ref 104, .ref 105, .ref 106, .ref 107, .ref 108, .ref 109, .ref 110, .ref 111, .ref 112, .ref 113, .ref 114, .ref 115, .ref 116, .ref 117, .ref 118, .ref 119, .ref 120, .ref 121, .ref 122, .ref 123, .ref 124, .ref 125, .ref 126, .ref 127, .ref 128, .ref 129, .ref 130, .ref 131, .ref 132, .ref 133, .ref 134, .ref 135, .ref 136, .ref 137, .ref 138, .ref 139, .ref 140, .ref 141, .ref 142, .ref 143, .ref 144, .ref 145, .ref 146, .ref 147, .ref 148, .ref 149, .ref 150, .ref 151, .ref 152, .ref 153, .ref 154, .ref 155, .ref 156, .ref 157, .ref 158, .ref 159, .ref 160, .ref 161, .ref 162, .ref 163, .ref 164, .ref 165, .ref 166, .ref 167, .ref 168, .ref 169, .ref 170, .ref 171, .ref 172, .ref 173, .ref 174, .ref 175, .ref 176, .ref 177, .ref 178, .ref 179, .ref 180, .ref 181, .ref 182, .ref 183, .ref 184, .ref 185, .ref 186, .ref 187, .ref 188, .ref 189, .ref 190, .ref 191, .ref 192, .ref 193, .ref 194, .ref 195, .ref 196, .ref 197, .ref 198, .ref 199, .ref 200, .ref 201, .ref 202, .ref 203, .ref 204, .ref 205, .ref 206, .ref 207, .ref 208, .ref 209, .ref 210, .ref 211, .ref 212, .ref 213, .ref 214, .ref 215, .ref 216, .ref 217, .ref 218, .ref 219, .ref 220, .ref 221, .ref 222, .ref 223, .ref 224, .ref 225, .ref 226, .ref 227, .ref 228, .ref 229, .ref 230, .ref 231, .ref 232, .ref 233, .ref 234, .ref 235, .ref 236, .ref 237, .ref 238, .ref 239, .ref 240, .ref 241, .ref 242, .ref 243, .ref 244, .ref 245, .ref 246, .ref 247, .ref 248, .ref 249, .ref 250, .ref 251, .ref 252, .ref 253, .ref 254, .ref 255, .ref 256, .ref 257], vm := .none },
  { cls := 7, slots := #[.int (-128)], vm := .none },
  { cls := 7, slots := #[.int (-127)], vm := .none },
  { cls := 7, slots := #[.int (-126)], vm := .none },
  { cls := 7, slots := #[.int (-125)], vm := .none },
  { cls := 7, slots := #[.int (-124)], vm := .none },
  { cls := 7, slots := #[.int (-123)], vm := .none },
  { cls := 7, slots := #[.int (-122)], vm := .none },
  { cls := 7, slots := #[.int (-121)], vm := .none },
  { cls := 7, slots := #[.int (-120)], vm := .none },
  { cls := 7, slots := #[.int (-119)], vm := .none },
  { cls := 7, slots := #[.int (-118)], vm := .none },
  { cls := 7, slots := #[.int (-117)], vm := .none },
  { cls := 7, slots := #[.int (-116)], vm := .none },
  { cls := 7, slots := #[.int (-115)], vm := .none },
  { cls := 7, slots := #[.int (-114)], vm := .none },
  { cls := 7, slots := #[.int (-113)], vm := .none },
  { cls := 7, slots := #[.int (-112)], vm := .none },
  { cls := 7, slots := #[.int (-111)], vm := .none },
  { cls := 7, slots := #[.int (-110)], vm := .none },
  { cls := 7, slots := #[.int (-109)], vm := .none },
  { cls := 7, slots := #[.int (-108)], vm := .none },
  { cls := 7, slots := #[.int (-107)], vm := .none },
  { cls := 7, slots := #[.int (-106)], vm := .none },
  { cls := 7, slots := #[.int (-105)], vm := .none },
  { cls := 7, slots := #[.int (-104)], vm := .none },
  { cls := 7, slots := #[.int (-103)], vm := .none },
  { cls := 7, slots := #[.int (-102)], vm := .none },
  { cls := 7, slots := #[.int (-101)], vm := .none },
  { cls := 7, slots := #[.int (-100)], vm := .none },
  { cls := 7, slots := #[.int (-99)], vm := .none },
  { cls := 7, slots := #[.int (-98)], vm := .none },
  { cls := 7, slots := #[.int (-97)], vm := .none },
  { cls := 7, slots := #[.int (-96)], vm := .none },
  { cls := 7, slots := #[.int (-95)], vm := .none },
  { cls := 7, slots := #[.int (-94)], vm := .none },
  { cls := 7, slots := #[.int (-93)], vm := .none },
  { cls := 7, slots := #[.int (-92)], vm := .none },
  { cls := 7, slots := #[.int (-91)], vm := .none },
  { cls := 7, slots := #[.int (-90)], vm := .none },
  { cls := 7, slots := #[.int (-89)], vm := .none },
  { cls := 7, slots := #[.int (-88)], vm := .none },
  { cls := 7, slots := #[.int (-87)], vm := .none },
  { cls := 7, slots := #[.int (-86)], vm := .none },
  { cls := 7, slots := #[.int (-85)], vm := .none },
  { cls := 7, slots := #[.int (-84)], vm := .none },
  { cls := 7, slots := #[.int (-83)], vm := .none },
  { cls := 7, slots := #[.int (-82)], vm := .none },
  { cls := 7, slots := #[.int (-81)], vm := .none },
  { cls := 7, slots := #[.int (-80)], vm := .none },
  { cls := 7, slots := #[.int (-79)], vm := .none },
  { cls := 7, slots := #[.int (-78)], vm := .none },
  { cls := 7, slots := #[.int (-77)], vm := .none },
  { cls := 7, slots := #[.int (-76)], vm := .none },
  { cls := 7, slots := #[.int (-75)], vm := .none },
  { cls := 7, slots := #[.int (-74)], vm := .none },
  { cls := 7, slots := #[.int (-73)], vm := .none },
  { cls := 7, slots := #[.int (-72)], vm := .none },
  { cls := 7, slots := #[.int (-71)], vm := .none },
  { cls := 7, slots := #[.int (-70)], vm := .none },
  { cls := 7, slots := #[.int (-69)], vm := .none },
  { cls := 7, slots := #[.int (-68)], vm := .none },
  { cls := 7, slots := #[.int (-67)], vm := .none },
  { cls := 7, slots := #[.int (-66)], vm := .none },
  { cls := 7, slots := #[.int (-65)], vm := .none },
  { cls := 7, slots := #[.int (-64)], vm := .none },
  { cls := 7, slots := #[.int (-63)], vm := .none },
  { cls := 7, slots := #[.int (-62)], vm := .none },
  { cls := 7, slots := #[.int (-61)], vm := .none },
  { cls := 7, slots := #[.int (-60)], vm := .none },
  { cls := 7, slots := #[.int (-59)], vm := .none },
  { cls := 7, slots := #[.int (-58)], vm := .none },
  { cls := 7, slots := #[.int (-57)], vm := .none },
  { cls := 7, slots := #[.int (-56)], vm := .none },
  { cls := 7, slots := #[.int (-55)], vm := .none },
  { cls := 7, slots := #[.int (-54)], vm := .none },
  { cls := 7, slots := #[.int (-53)], vm := .none },
  { cls := 7, slots := #[.int (-52)], vm := .none },
  { cls := 7, slots := #[.int (-51)], vm := .none },
  { cls := 7, slots := #[.int (-50)], vm := .none },
  { cls := 7, slots := #[.int (-49)], vm := .none },
  { cls := 7, slots := #[.int (-48)], vm := .none },
  { cls := 7, slots := #[.int (-47)], vm := .none },
  { cls := 7, slots := #[.int (-46)], vm := .none },
  { cls := 7, slots := #[.int (-45)], vm := .none },
  { cls := 7, slots := #[.int (-44)], vm := .none },
  { cls := 7, slots := #[.int (-43)], vm := .none },
  { cls := 7, slots := #[.int (-42)], vm := .none },
  { cls := 7, slots := #[.int (-41)], vm := .none },
  { cls := 7, slots := #[.int (-40)], vm := .none },
  { cls := 7, slots := #[.int (-39)], vm := .none },
  { cls := 7, slots := #[.int (-38)], vm := .none },
  { cls := 7, slots := #[.int (-37)], vm := .none },
  { cls := 7, slots := #[.int (-36)], vm := .none },
  { cls := 7, slots := #[.int (-35)], vm := .none },
  { cls := 7, slots := #[.int (-34)], vm := .none },
  { cls := 7, slots := #[.int (-33)], vm := .none },
  { cls := 7, slots := #[.int (-32)], vm := .none },
  { cls := 7, slots := #[.int (-31)], vm := .none },
  { cls := 7, slots := #[.int (-30)], vm := .none },
  { cls := 7, slots := #[.int (-29)], vm := .none },
  { cls := 7, slots := #[.int (-28)], vm := .none },
  { cls := 7, slots := #[.int (-27)], vm := .none },
  { cls := 7, slots := #[.int (-26)], vm := .none },
  { cls := 7, slots := #[.int (-25)], vm := .none },
  { cls := 7, slots := #[.int (-24)], vm := .none },
  { cls := 7, slots := #[.int (-23)], vm := .none },
  { cls := 7, slots := #[.int (-22)], vm := .none },
  { cls := 7, slots := #[.int (-21)], vm := .none },
  { cls := 7, slots := #[.int (-20)], vm := .none },
  { cls := 7, slots := #[.int (-19)], vm := .none },
  { cls := 7, slots := #[.int (-18)], vm := .none },
  { cls := 7, slots := #[.int (-17)], vm := .none },
  { cls := 7, slots := #[.int (-16)], vm := .none },
  { cls := 7, slots := #[.int (-15)], vm := .none },
  { cls := 7, slots := #[.int (-14)], vm := .none },
  { cls := 7, slots := #[.int (-13)], vm := .none },
  { cls := 7, slots := #[.int (-12)], vm := .none },
  { cls := 7, slots := #[.int (-11)], vm := .none },
  { cls := 7, slots := #[.int (-10)], vm := .none },
  { cls := 7, slots := #[.int (-9)], vm := .none },
  { cls := 7, slots := #[.int (-8)], vm := .none },
  { cls := 7, slots := #[.int (-7)], vm := .none },
  { cls := 7, slots := #[.int (-6)], vm := .none },
  { cls := 7, slots := #[.int (-5)], vm := .none },
  { cls := 7, slots := #[.int (-4)], vm := .none },
  { cls := 7, slots := #[.int (-3)], vm := .none },
  { cls := 7, slots := #[.int (-2)], vm := .none },
  { cls := 7, slots := #[.int (-1)], vm := .none },
  { cls := 7, slots := #[.int 0], vm := .none },
  { cls := 7, slots := #[.int 1], vm := .none },
  { cls := 7, slots := #[.int 2], vm := .none },
  { cls := 7, slots := #[.int 3], vm := .none },
  { cls := 7, slots := #[.int 4], vm := .none },
  { cls := 7, slots := #[.int 5], vm := .none },
  { cls := 7, slots := #[.int 6], vm := .none },
  { cls := 7, slots := #[.int 7], vm := .none },
  { cls := 7, slots := #[.int 8], vm := .none },
  { cls := 7, slots := #[.int 9], vm := .none },
  { cls := 7, slots := #[.int 10], vm := .none },
  { cls := 7, slots := #[.int 11], vm := .none },
  { cls := 7, slots := #[.int 12], vm := .none },
  { cls := 7, slots := #[.int 13], vm := .none },
  { cls := 7, slots := #[.int 14], vm := .none },
  { cls := 7, slots := #[.int 15], vm := .none },
  { cls := 7, slots := #[.int 16], vm := .none },
  { cls := 7, slots := #[.int 17], vm := .none },
  { cls := 7, slots := #[.int 18], vm := .none },
  { cls := 7, slots := #[.int 19], vm := .none },
  { cls := 7, slots := #[.int 20], vm := .none },
  { cls := 7, slots := #[.int 21], vm := .none },
  { cls := 7, slots := #[.int 22], vm := .none },
  { cls := 7, slots := #[.int 23], vm := .none },
  { cls := 7, slots := #[.int 24], vm := .none },
  { cls := 7, slots := #[.int 25], vm := .none },
  { cls := 7, slots := #[.int 26], vm := .none },
  { cls := 7, slots := #[.int 27], vm := .none },
  { cls := 7, slots := #[.int 28], vm := .none },
  { cls := 7, slots := #[.int 29], vm := .none },
  { cls := 7, slots := #[.int 30], vm := .none },
  { cls := 7, slots := #[.int 31], vm := .none },
  { cls := 7, slots := #[.int 32], vm := .none },
  { cls := 7, slots := #[.int 33], vm := .none },
  { cls := 7, slots := #[.int 34], vm := .none },
  { cls := 7, slots := #[.int 35], vm := .none },
  { cls := 7, slots := #[.int 36], vm := .none },
  { cls := 7, slots := #[.int 37], vm := .none },
  { cls := 7, slots := #[.int 38], vm := .none },
  { cls := 7, slots := #[.int 39], vm := .none },
  { cls := 7, slots := #[.int 40], vm := .none },
  { cls := 7, slots := #[.int 41], vm := .none },
  { cls := 7, slots := #[.int 42], vm := .none },
  { cls := 7, slots := #[.int 43], vm := .none },
  { cls := 7, slots := #[.int 44], vm := .none },
  { cls := 7, slots := #[.int 45], vm := .none },
  { cls := 7, slots := #[.int 46], vm := .none },
  { cls := 7, slots := #[.int 47], vm := .none },
  { cls := 7, slots := #[.int 48], vm := .none },
  { cls := 7, slots := #[.int 49], vm := .none },
  { cls := 7, slots := #[.int 50], vm := .none },
  { cls := 7, slots := #[.int 51], vm := .none },
  { cls := 7, slots := #[.int 52], vm := .none },
  { cls := 7, slots := #[.int 53], vm := .none },
  { cls := 7, slots := #[.int 54], vm := .none },
  { cls := 7, slots := #[.int 55], vm := .none },
  { cls := 7, slots := #[.int 56], vm := .none },
  { cls := 7, slots := #[.int 57], vm := .none },
  { cls := 7, slots := #[.int 58], vm := .none },
  { cls := 7, slots := #[.int 59], vm := .none },
  { cls := 7, slots := #[.int 60], vm := .none },
  { cls := 7, slots := #[.int 61], vm := .none },
  { cls := 7, slots := #[.int 62], vm := .none },
  { cls := 7, slots := #[.int 63], vm := .none },
  { cls := 7, slots := #[.int 64], vm := .none },
  { cls := 7, slots := #[.int 65], vm := .none },
  { cls := 7, slots := #[.int 66], vm := .none },
  { cls := 7, slots := #[.int 67], vm := .none },
  { cls := 7, slots := #[.int 68], vm := .none },
  { cls := 7, slots := #[.int 69], vm := .none },
  { cls := 7, slots := #[.int 70], vm := .none },
  { cls := 7, slots := #[.int 71], vm := .none },
  { cls := 7, slots := #[.int 72], vm := .none },
  { cls := 7, slots := #[.int 73], vm := .none },
  { cls := 7, slots := #[.int 74], vm := .none },
  { cls := 7, slots := #[.int 75], vm := .none },
  { cls := 7, slots := #[.int 76], vm := .none },
  { cls := 7, slots := #[.int 77], vm := .none },
  { cls := 7, slots := #[.int 78], vm := .none },
  { cls := 7, slots := #[.int 79], vm := .none },
  { cls := 7, slots := #[.int 80], vm := .none },
  { cls := 7, slots := #[.int 81], vm := .none },
  { cls := 7, slots := #[.int 82], vm := .none },
  { cls := 7, slots := #[.int 83], vm := .none },
  { cls := 7, slots := #[.int 84], vm := .none },
  { cls := 7, slots := #[.int 85], vm := .none },
  { cls := 7, slots := #[.int 86], vm := .none },
  { cls := 7, slots := #[.int 87], vm := .none },
  { cls := 7, slots := #[.int 88], vm := .none },
  { cls := 7, slots := #[.int 89], vm := .none },
  { cls := 7, slots := #[.int 90], vm := .none },
  { cls := 7, slots := #[.int 91], vm := .none },
  { cls := 7, slots := #[.int 92], vm := .none },
  { cls := 7, slots := #[.int 93], vm := .none },
  { cls := 7, slots := #[.int 94], vm := .none },
  { cls := 7, slots := #[.int 95], vm := .none },
  { cls := 7, slots := #[.int 96], vm := .none },
  { cls := 7, slots := #[.int 97], vm := .none },
  { cls := 7, slots := #[.int 98], vm := .none },
  { cls := 7, slots := #[.int 99], vm := .none },
  { cls := 7, slots := #[.int 100], vm := .none },
  { cls := 7, slots := #[.int 101], vm := .none },
  { cls := 7, slots := #[.int 102], vm := .none },
  { cls := 7, slots := #[.int 103], vm := .none },
  { cls := 7, slots := #[.int 104], vm := .none },
  { cls := 7, slots := #[.int 105], vm := .none },
  { cls := 7, slots := #[.int 106], vm := .none },
  { cls := 7, slots := #[.int 107], vm := .none },
  { cls := 7, slots := #[.int 108], vm := .none },
  { cls := 7, slots := #[.int 109], vm := .none },
  { cls := 7, slots := #[.int 110], vm := .none },
  { cls := 7, slots := #[.int 111], vm := .none },
  { cls := 7, slots := #[.int 112], vm := .none },
  { cls := 7, slots := #[.int 113], vm := .none },
  { cls := 7, slots := #[.int 114], vm := .none },
  { cls := 7, slots := #[.int 115], vm := .none },
  { cls := 7, slots := #[.int 116], vm := .none },
  { cls := 7, slots := #[.int 117], vm := .none },
  { cls := 7, slots := #[.int 118], vm := .none },
  { cls := 7, slots := #[.int 119], vm := .none },
  { cls := 7, slots := #[.int 120], vm := .none },
  { cls := 7, slots := #[.int 121], vm := .none },
  { cls := 7, slots := #[.int 122], vm := .none },
  { cls := 7, slots := #[.int 123], vm := .none },
  { cls := 7, slots := #[.int 124], vm := .none },
  { cls := 7, slots := #[.int 125], vm := .none },
  { cls := 7, slots := #[.int 126], vm := .none },
  { cls := 7, slots := #[.int 127], vm := .none }]
def classes : Array Class := #[k0, k1, k2, k3, k4, k5, k6, k7, k8, k9, k10, k11, k12, k13, k14, k15, k16]
def interned : List (Array UInt16 × Addr) := []
def slotsUsed : Nat := 517
def theMethod : MethodId := ⟨1, 1⟩
def args0 : Array Value := #[.int 5, .int 5, .int 5]
def aboutOver (below : List Frame) : State where
  vm := { classes := classes, interned := interned.toArray }
  heap := heap
  slotsUsed := slotsUsed
  threads := #[{ frames := .invoking theMethod args0 :: below }]
def below0 : List Frame := [.native { method := ⟨0, 0⟩, args := #[] }]
def about1 : State := aboutOver below0
def p0 : Program := .bare "" "" ""
def e0 : Env := launch0.env 0 0 0
theorem w_frames : about1.frames = Frame.invoking theMethod args0 :: below0 := rfl
set_option maxRecDepth 65536 in
theorem w_args : argsFit about1.vm theMethod args0 = true := by decide +kernel
set_option maxRecDepth 65536 in
theorem w_heap : heapFits about1 = true := by decide +kernel
set_option maxRecDepth 65536 in
theorem w_runnable : about1.curStatus? = some .runnable := by decide +kernel
set_option maxRecDepth 65536 in
theorem w_alone : about1.alone = true := by decide +kernel
set_option maxRecDepth 65536 in
theorem w_named : about1.methodNamed? x = some theMethod := by decide +kernel
set_option maxRecDepth 65536 in
theorem w_hears : about1.hears theMethod below0 = true := by decide +kernel
set_option maxRecDepth 65536 in
theorem w_ripe : about1.ripe theMethod args0 below0 = true := by decide +kernel
theorem w_running : about1.status = .running := rfl
set_option maxRecDepth 65536 in
theorem w_room : about1.hasRoom e0.platform room_1 = true :=
  launch0.hasRoom_least _ room_1 (by decide +kernel) (by decide +kernel) (by decide +kernel) (by decide +kernel) (by decide +kernel) (by decide +kernel)
theorem allAtoms_all (ts : List Jvm.Cond) (a : Array Jvm.Value) (st : Jvm.State) : (allAtoms ts).before a st = ts.all (fun c => c.before a st) := by
  induction ts with
  | nil => rfl
  | cons c t ih =>
    show (Jvm.Cond.and c (allAtoms t)).before a st = _
    rw [Jvm.Cond.before_and, ih, List.all_cons]
def words1 : List Jvm.Cond := Jvm.Cond.code x code maxLocals ret :: tables_1
/-- a 'code' word, met by the world's own term for the bytes: nothing is compared byte by byte -/
theorem code_word {y : MethodName} {bytes : ByteArray} {mx : Nat} {rt : Option FieldType} {a : Array Value} {s : State} {m : MethodId} {meth : Method} {c : Code} (h1 : s.methodNamed? y = some m) (h2 : s.vm.method? m = some meth) (h3 : meth.code = some c) (h4 : c.code = bytes)
    (h5 : (c.maxLocals == mx && c.exceptionTable.isEmpty && decide (c.maxStack ≤ mostOperands) && decide (meth.sig.returnType = rt) && !meth.locks && decide (parseMethodDescriptor y.desc = some meth.sig)) = true) : (Jvm.Cond.code y bytes mx rt).before a s = true := by
  simp only [Bool.and_eq_true, beq_iff_eq, Bool.not_eq_true', decide_eq_true_eq] at h5
  obtain ⟨⟨⟨⟨⟨g1, g2⟩, g3⟩, g4⟩, g5⟩, g6⟩ := h5
  simp [Cond.before, Cond.holds, Cond.value, h1, h2, h3, h4, g1, g2, g3, g4, g5, g6]
def isCode : Jvm.Cond → Bool
  | .code _ _ _ _ => true
  | _ => false
theorem all_split {L : List Jvm.Cond} {P : Jvm.Cond → Bool} (h1 : L.all (fun c => isCode c || P c) = true) (h2 : ∀ c ∈ L.filter isCode, P c = true) : L.all P = true := by
  refine List.all_eq_true.mpr fun c hc => ?_
  have h := List.all_eq_true.mp h1 c hc
  rcases Bool.eq_false_or_eq_true (isCode c) with hi | hi
  · exact h2 c (List.mem_filter.mpr ⟨hc, hi⟩)
  · simpa [hi] using h
set_option maxRecDepth 65536 in
theorem w_c0 : (Jvm.Cond.code x code maxLocals ret).before args0 about1 = true := code_word (m := ⟨1, 1⟩) (meth := k1m1) (c := k1c1) (by decide +kernel) rfl rfl rfl (by decide +kernel)
set_option maxRecDepth 65536 in
theorem w_c1 : (Jvm.Cond.code ({ cls := "java/lang/Integer", name := "valueOf", desc := "(I)Ljava/lang/Integer;" } : Jvm.MethodName) jdk_33_method_22_code (1 : Nat) (Option.some (Jvm.ClassFile.FieldType.object "java/lang/Integer"))).before args0 about1 = true := code_word (m := ⟨7, 0⟩) (meth := k7m0) (c := k7c0) (by decide +kernel) rfl rfl rfl (by decide +kernel)
set_option maxRecDepth 65536 in
theorem w_c2 : (Jvm.Cond.code ({ cls := "com/example/kido2/kido2/identity/PageRequest", name := "of", desc := "(Ljava/lang/Integer;Ljava/lang/Integer;)Lcom/example/kido2/kido2/identity/PageRequest;" } : Jvm.MethodName) prog_12_method_2_code (2 : Nat) (Option.some (Jvm.ClassFile.FieldType.object "com/example/kido2/kido2/identity/PageRequest"))).before args0 about1 = true := code_word (m := ⟨10, 1⟩) (meth := k10m1) (c := k10c1) (by decide +kernel) rfl rfl rfl (by decide +kernel)
set_option maxRecDepth 65536 in
theorem w_c3 : (Jvm.Cond.code ({ cls := "java/lang/Integer", name := "intValue", desc := "()I" } : Jvm.MethodName) jdk_33_method_27_code (1 : Nat) (Option.some Jvm.ClassFile.FieldType.int)).before args0 about1 = true := code_word (m := ⟨7, 2⟩) (meth := k7m2) (c := k7c2) (by decide +kernel) rfl rfl rfl (by decide +kernel)
set_option maxRecDepth 65536 in
theorem w_c4 : (Jvm.Cond.code ({ cls := "com/example/kido2/kido2/identity/PageRequest", name := "<init>", desc := "(II)V" } : Jvm.MethodName) prog_12_method_1_code (3 : Nat) (Option.none : Option Jvm.ClassFile.FieldType)).before args0 about1 = true := code_word (m := ⟨10, 0⟩) (meth := k10m0) (c := k10c0) (by decide +kernel) rfl rfl rfl (by decide +kernel)
set_option maxRecDepth 65536 in
theorem w_c5 : (Jvm.Cond.code ({ cls := "java/lang/Record", name := "<init>", desc := "()V" } : Jvm.MethodName) jdk_30_method_1_code (1 : Nat) (Option.none : Option Jvm.ClassFile.FieldType)).before args0 about1 = true := code_word (m := ⟨9, 0⟩) (meth := k9m0) (c := k9c0) (by decide +kernel) rfl rfl rfl (by decide +kernel)
set_option maxRecDepth 65536 in
theorem w_c6 : (Jvm.Cond.code ({ cls := "java/lang/Object", name := "<init>", desc := "()V" } : Jvm.MethodName) object_method_1_code (1 : Nat) (Option.none : Option Jvm.ClassFile.FieldType)).before args0 about1 = true := code_word (m := ⟨0, 0⟩) (meth := k0m0) (c := k0c0) (by decide +kernel) rfl rfl rfl (by decide +kernel)
set_option maxRecDepth 65536 in
theorem w_c7 : (Jvm.Cond.code ({ cls := "com/example/kido2/kido2/identity/PageRequest", name := "page", desc := "()I" } : Jvm.MethodName) prog_12_method_7_code (1 : Nat) (Option.some Jvm.ClassFile.FieldType.int)).before args0 about1 = true := code_word (m := ⟨10, 2⟩) (meth := k10m2) (c := k10c2) (by decide +kernel) rfl rfl rfl (by decide +kernel)
set_option maxRecDepth 65536 in
theorem w_c8 : (Jvm.Cond.code ({ cls := "com/example/kido2/kido2/identity/PageRequest", name := "size", desc := "()I" } : Jvm.MethodName) prog_12_method_8_code (1 : Nat) (Option.some Jvm.ClassFile.FieldType.int)).before args0 about1 = true := code_word (m := ⟨10, 3⟩) (meth := k10m3) (c := k10c3) (by decide +kernel) rfl rfl rfl (by decide +kernel)
set_option maxRecDepth 65536 in
theorem w_c9 : (Jvm.Cond.code ({ cls := "java/lang/Integer", name := "<init>", desc := "(I)V" } : Jvm.MethodName) jdk_33_method_23_code (2 : Nat) (Option.none : Option Jvm.ClassFile.FieldType)).before args0 about1 = true := code_word (m := ⟨7, 1⟩) (meth := k7m1) (c := k7c1) (by decide +kernel) rfl rfl rfl (by decide +kernel)
set_option maxRecDepth 65536 in
theorem w_c10 : (Jvm.Cond.code ({ cls := "java/lang/Number", name := "<init>", desc := "()V" } : Jvm.MethodName) jdk_18_method_1_code (1 : Nat) (Option.none : Option Jvm.ClassFile.FieldType)).before args0 about1 = true := code_word (m := ⟨3, 0⟩) (meth := k3m0) (c := k3c0) (by decide +kernel) rfl rfl rfl (by decide +kernel)
def codes1 : List Jvm.Cond := [Jvm.Cond.code x code maxLocals ret, Jvm.Cond.code ({ cls := "java/lang/Integer", name := "valueOf", desc := "(I)Ljava/lang/Integer;" } : Jvm.MethodName) jdk_33_method_22_code (1 : Nat) (Option.some (Jvm.ClassFile.FieldType.object "java/lang/Integer")), Jvm.Cond.code ({ cls := "com/example/kido2/kido2/identity/PageRequest", name := "of", desc := "(Ljava/lang/Integer;Ljava/lang/Integer;)Lcom/example/kido2/kido2/identity/PageRequest;" } : Jvm.MethodName) prog_12_method_2_code (2 : Nat) (Option.some (Jvm.ClassFile.FieldType.object "com/example/kido2/kido2/identity/PageRequest")), Jvm.Cond.code ({ cls := "java/lang/Integer", name := "intValue", desc := "()I" } : Jvm.MethodName) jdk_33_method_27_code (1 : Nat) (Option.some Jvm.ClassFile.FieldType.int), Jvm.Cond.code ({ cls := "com/example/kido2/kido2/identity/PageRequest", name := "<init>", desc := "(II)V" } : Jvm.MethodName) prog_12_method_1_code (3 : Nat) (Option.none : Option Jvm.ClassFile.FieldType), Jvm.Cond.code ({ cls := "java/lang/Record", name := "<init>", desc := "()V" } : Jvm.MethodName) jdk_30_method_1_code (1 : Nat) (Option.none : Option Jvm.ClassFile.FieldType), Jvm.Cond.code ({ cls := "java/lang/Object", name := "<init>", desc := "()V" } : Jvm.MethodName) object_method_1_code (1 : Nat) (Option.none : Option Jvm.ClassFile.FieldType), Jvm.Cond.code ({ cls := "com/example/kido2/kido2/identity/PageRequest", name := "page", desc := "()I" } : Jvm.MethodName) prog_12_method_7_code (1 : Nat) (Option.some Jvm.ClassFile.FieldType.int), Jvm.Cond.code ({ cls := "com/example/kido2/kido2/identity/PageRequest", name := "size", desc := "()I" } : Jvm.MethodName) prog_12_method_8_code (1 : Nat) (Option.some Jvm.ClassFile.FieldType.int), Jvm.Cond.code ({ cls := "java/lang/Integer", name := "<init>", desc := "(I)V" } : Jvm.MethodName) jdk_33_method_23_code (2 : Nat) (Option.none : Option Jvm.ClassFile.FieldType), Jvm.Cond.code ({ cls := "java/lang/Number", name := "<init>", desc := "()V" } : Jvm.MethodName) jdk_18_method_1_code (1 : Nat) (Option.none : Option Jvm.ClassFile.FieldType)]
set_option maxRecDepth 65536 in
theorem codes_eq : words1.filter isCode = codes1 := rfl
theorem w_codes : ∀ c ∈ words1.filter isCode, c.before args0 about1 = true := by
  rw [codes_eq]
  intro c hc
  simp only [codes1, List.mem_cons, List.not_mem_nil, or_false] at hc
  rcases hc with rfl | rfl | rfl | rfl | rfl | rfl | rfl | rfl | rfl | rfl | rfl
  · exact w_c0
  · exact w_c1
  · exact w_c2
  · exact w_c3
  · exact w_c4
  · exact w_c5
  · exact w_c6
  · exact w_c7
  · exact w_c8
  · exact w_c9
  · exact w_c10
set_option maxRecDepth 65536 in
theorem w_t1 : (words1.take 24).all (fun c => isCode c || c.before args0 about1) = true := by decide +kernel
set_option maxRecDepth 65536 in
theorem w_t2 : ((words1.drop 24).take 24).all (fun c => isCode c || c.before args0 about1) = true := by decide +kernel
set_option maxRecDepth 65536 in
theorem w_t3 : ((words1.drop 24).drop 24).all (fun c => isCode c || c.before args0 about1) = true := by decide +kernel
theorem w_tables : (allAtoms (Jvm.Cond.code x code maxLocals ret :: tables_1)).before args0 about1 = true := by
  rw [allAtoms_all]
  show words1.all (fun c => c.before args0 about1) = true
  refine all_split ?_ w_codes
  rw [← List.take_append_drop 24 words1, List.all_append, w_t1, ← List.take_append_drop 24 (words1.drop 24), List.all_append, w_t2, w_t3]
  rfl
set_option maxRecDepth 65536 in
theorem w_rest : rest_1_c.before args0 about1 = true := by decide +kernel
set_option maxRecDepth 65536 in
theorem w_case : (Jvm.Cond.and given_1 narrow_1).before args0 about1 = true := by decide +kernel
theorem w_applies : (headSpec (Jvm.Cond.code x code maxLocals ret :: tables_1) room_1).applies x e0.platform about1 = true :=
  (Spec.applies_iff w_frames).mpr ⟨w_running, w_runnable, w_alone, w_named, w_hears, w_ripe, w_room, w_tables⟩
theorem atStart : AtStart classFile x code maxLocals ret World_1 tables_1 room_1 Calls_1 rest_1 Pre_1 launch0 p0 e0 about1 theMethod args0 below0 :=
  ⟨lists_1, trivial, launch0.admits_env _ _ _, launch0.least_env, fairChoices_fair.cas, fairChoices_fair.clock, w_frames, w_args, w_heap, w_applies, trivial, w_rest, w_case⟩
end start1
theorem witness_1 : WitnessClaimed_1 := ⟨start1.p0, start1.e0, start1.about1, start1.theMethod, start1.args0, start1.below0, start1.atStart⟩
end Jvm.Pilot.@@N@@
