import JvmDerived
import JvmDerived.Pilot.@@N@@Statement
import JvmDerived.Pilot.@@N@@Code
set_option linter.unusedVariables false
set_option linter.unusedSimpArgs false
namespace Jvm.RoadKit
open Sem ClassFile Op Lib Jvm.Stand Jvm.Free Jvm.LawKit
section New
variable {p : Program} {l : Launch} {e : Env} {R : Room} {s : State} {m : MethodId} {args : Array Value} {below : List Frame} {meth : Method} {c : Code} {T : State} {locs : List Loc} {cells slots : Nat}
theorem retI (X : Stand p l e R s m args below meth c T locs cells slots) (hx : p.tables.exec = Jvm.exec) {pc : Nat} {Ls : Array Slot} {z : Int32} {rest : List Value} (hret : meth.sig.returnType = some .int) (hd : decode c.code pc = .ok (.ireturn, 1)) {fs : List Frame}
    (hl : ∀ (f : JFrame) (acts : List Action), f.method = m → f.locked = none → f.entered = [] → (doReturn e (T.setTop f) acts (some (.int z))).1 = T.setFrames fs) : Steps p.tables e below (T.setTop (mkF m pc Ls (.int z :: rest))) (T.setFrames fs) := by
  have hm' : T.vm.method? m = some meth := X.method'
  have hn : narrow .int (.int z) = .int z := rfl
  show Steps p.tables e below (T.setTop { method := m, pc := pc, locals := Ls, stack := _ :: rest, locked := none }) _
  jvm_step X.here [X.here.top, hx, hd, hm', hret, hn]
  first | (intro acts; rw [hl _ acts rfl rfl rfl]) | rw [hl _ _ rfl rfl rfl]
  exact Steps.refl _
theorem retL (X : Stand p l e R s m args below meth c T locs cells slots) (hx : p.tables.exec = Jvm.exec) {pc : Nat} {Ls : Array Slot} {z : Int64} {rest : List Value} (hret : meth.sig.returnType = some .long) (hd : decode c.code pc = .ok (.lreturn, 1)) {fs : List Frame}
    (hl : ∀ (f : JFrame) (acts : List Action), f.method = m → f.locked = none → f.entered = [] → (doReturn e (T.setTop f) acts (some (.long z))).1 = T.setFrames fs) : Steps p.tables e below (T.setTop (mkF m pc Ls (.long z :: rest))) (T.setFrames fs) := by
  have hm' : T.vm.method? m = some meth := X.method'
  have hn : narrow .long (.long z) = .long z := rfl
  show Steps p.tables e below (T.setTop { method := m, pc := pc, locals := Ls, stack := _ :: rest, locked := none }) _
  jvm_step X.here [X.here.top, hx, hd, hm', hret, hn]
  first | (intro acts; rw [hl _ acts rfl rfl rfl]) | rw [hl _ _ rfl rfl rfl]
  exact Steps.refl _
theorem retA (X : Stand p l e R s m args below meth c T locs cells slots) (hx : p.tables.exec = Jvm.exec) {pc : Nat} {Ls : Array Slot} {z : Value} {ty : FieldType} {rest : List Value} (hv : z.isRef = true) (hty : ty.isReference = true) (hret : meth.sig.returnType = some ty) (hd : decode c.code pc = .ok (.areturn, 1)) {fs : List Frame}
    (hl : ∀ (f : JFrame) (acts : List Action), f.method = m → f.locked = none → f.entered = [] → (doReturn e (T.setTop f) acts (some z)).1 = T.setFrames fs) : Steps p.tables e below (T.setTop (mkF m pc Ls (z :: rest))) (T.setFrames fs) := by
  have hm' : T.vm.method? m = some meth := X.method'
  show Steps p.tables e below (T.setTop { method := m, pc := pc, locals := Ls, stack := _ :: rest, locked := none }) _
  jvm_step X.here [X.here.top, hx, hd, hm', hret, hv, hty]
  first | (intro acts; rw [hl _ acts rfl rfl rfl]) | rw [hl _ _ rfl rfl rfl]
  exact Steps.refl _
end New
theorem own_fw {tb : Tables} {e : Env} {below : List Frame} {A B : State} {P : State → Outcome → Prop} (h : ∀ t, Steps tb e below A t → Steps tb e below B t) (k : ∃ t o, Steps tb e below A t ∧ P t o) : ∃ t o, Steps tb e below B t ∧ P t o := by
  obtain ⟨t, o, h1, h2⟩ := k
  exact ⟨t, o, h t h1, h2⟩
def own_irem (x y : Int32) : Int32 := x - (x / y) * y
def own_lrem (x y : Int64) : Int64 := x - (x / y) * y
end Jvm.RoadKit
namespace Jvm.Pilot.@@N@@
open Jvm Jvm.ClassFile Sem Op Lib Jvm.Free Jvm.Stand Jvm.LawKit Jvm.RoadKit Bundle Jvm.Pilot.@@N@@.Jvm.D
theorem d1_0 : decode prog_48_method_7_code 0 = .ok (.aload_n 0, 1) := by decide +kernel
theorem d1_1 : decode prog_48_method_7_code 1 = .ok (.getstatic 3, 3) := by decide +kernel
theorem d1_4 : decode prog_48_method_7_code 4 = .ok (.if_acmp .ne 9, 3) := by decide +kernel
theorem d1_7 : decode prog_48_method_7_code 7 = .ok (.getstatic 7, 3) := by decide +kernel
theorem d1_10 : decode prog_48_method_7_code 10 = .ok (.goto 6, 3) := by decide +kernel
theorem d1_13 : decode prog_48_method_7_code 13 = .ok (.getstatic 3, 3) := by decide +kernel
theorem d1_16 : decode prog_48_method_7_code 16 = .ok (.areturn, 1) := by decide +kernel
theorem pn1 : plainName "com/example/finalmark/finalmark/Side" = true := by first | (simp [plainName, overriddenIn]; done) | decide +kernel
theorem ef1 (m : MethodId) (r0 : Addr) : entryFrame m #[(.ref r0)] 1 = mkF m 0 #[.val (.ref r0)] [] := by first | (simp [entryFrame, mkF, argsToLocals, Value.category]; done) | rfl
def Q1 (Z : State) (r0 z : Addr) (h0 : Heap) (n0 : Nat) (v : Option Value) (h : Heap) (L : List Loc) : Prop := v = some (.ref z) ∧ Fr n0 L ∧ h = h0
set_option maxRecDepth 65536 in
set_option maxHeartbeats 40000000 in
theorem rm1a (l : Launch) (Z : State) (a0 : Array Value) (hw : ∀ d ∈ tables_1, d.before a0 Z = true) (ws : List Jvm.Cond) (r0 : Addr) (bid : Addr) (off : Addr) (h0 : Heap) (n0 : Nat) (Z0 : n0 ≤ h0.size) (S_BID : Sta Z h0 "com/example/finalmark/finalmark/Side" "BID" "Lcom/example/finalmark/finalmark/Side;" (.ref bid)) (S_OFF : Sta Z h0 "com/example/finalmark/finalmark/Side" "OFFER" "Lcom/example/finalmark/finalmark/Side;" (.ref off)) (hq : r0 = bid) :
    MetFree l (⟨"com/example/finalmark/finalmark/Side", "opposite", "()Lcom/example/finalmark/finalmark/Side;"⟩ : MethodName) (head1 (Jvm.Cond.code (⟨"com/example/finalmark/finalmark/Side", "opposite", "()Lcom/example/finalmark/finalmark/Side;"⟩ : MethodName) prog_48_method_7_code 1 (some (.object "com/example/finalmark/finalmark/Side")) :: ws) ({ frames := 0, cells := 0, slots := 0, locals := 0 } : Room)) (fun a U => a = #[(.ref r0)] ∧ Z.Warmed39 U.vm ∧ U.heap = h0) (fun _ _ _ _ _ => True) (fun _ U o U' => ∃ v L, o = .returned v ∧ Q1 Z r0 off h0 n0 v U'.heap L ∧ FrameEnd U o U' L ({ frames := 0, cells := 0, slots := 0, locals := 0 } : Room).cells ({ frames := 0, cells := 0, slots := 0, locals := 0 } : Room).slots) := by
  refine MetFree.of_bodySF (plainFor_of_name pn1) hisR ?_
  intro p e s m args below meth c s₁ Bd hml0 hP hK
  obtain ⟨rfl, hZ, hh⟩ := hP
  have hx := Bd.exec
  have hby := Bd.bytes
  have hml : c.maxLocals = 1 := hml0
  have hown : s.vm.findClass "com/example/finalmark/finalmark/Side" = some m.cls := findClass_of_methodNamed Bd.named
  have hnm := (name_of_methodNamed Bd.named Bd.method).1
  have X0 : Stand p l e ({ frames := 0, cells := 0, slots := 0, locals := 0 } : Room) s m #[(.ref r0)] below meth c s₁ [] 0 0 := Stand.of_body Bd
  have e0 : s₁.heap = h0 := by rw [← hh, Bd.state]; rfl
  have N0 := Fr.nil n0
  refine own_fw (A := s₁.setTop (mkF m 0 #[.val (.ref r0)] [])) (fun t k => castTop (ef1 m r0) k) ?_
  refine own_fw (A := s₁.setTop (mkF m 1 #[.val (.ref r0)] [(.ref r0)])) (fun t k => ?_) ?_
  · show Steps p.tables e below (s₁.setTop (mkF m 0 #[.val (.ref r0)] [])) t
    refine XS.aloadN X0.here hx rfl (hb hby d1_0) rfl rfl ?_
    exact k
  obtain ⟨T1_1, X1_1, e1_1, st1_1⟩ := getS2 X0 hx hZ hown (host := "") (Or.inl (hw _ (List.mem_of_getElem? (i := 10) rfl))) Via.refl e0 S_BID (g := (mkF m 1 #[.val (.ref r0)] [(.ref r0)])) rfl (hb hby d1_1)
  refine own_fw st1_1 ?_
  refine own_fw (A := T1_1.setTop (mkF m 7 #[.val (.ref r0)] [])) (fun t k => ?_) ?_
  · refine Jvm.RoadKit.acmp (g := (mkF m 4 #[.val (.ref r0)] [(.ref bid), (.ref r0)])) X1_1 hx rfl rfl rfl (pc0 := 4) (pc' := 7) (same := true) rfl (hb hby d1_4) rfl (decide_eq_true (congrArg Value.ref hq)) (by decide) (by decide) ?_
    exact k
  obtain ⟨T1_2, X1_2, e1_2, st1_2⟩ := getS2 X1_1 hx hZ hown (host := "") (Or.inl (hw _ (List.mem_of_getElem? (i := 11) rfl))) Via.refl e1_1 S_OFF (g := (mkF m 7 #[.val (.ref r0)] [])) rfl (hb hby d1_7)
  refine own_fw st1_2 ?_
  refine own_fw (A := T1_2.setTop (mkF m 16 #[.val (.ref r0)] [(.ref off)])) (fun t k => ?_) ?_
  · show Steps p.tables e below (T1_2.setTop (mkF m 10 #[.val (.ref r0)] [(.ref off)])) t
    refine XS.goto X1_2.here hx rfl (pc0 := 10) (pc' := 16) rfl (hb hby d1_10) (by decide) (by decide) ?_
    exact k
  obtain ⟨fs, hr, hrun, hended, hW, hsame⟩ := X1_2.leave (v := some (.ref off)) (fun h => by rw [Bd.returns] at h; cases h)
  refine ⟨_, _, retA (ty := (.object "com/example/finalmark/finalmark/Side")) X1_2 hx rfl rfl Bd.returns (hb hby d1_16) hr, hrun, hended, _, _, rfl, ?_, ⟨_, rfl⟩, hW, hsame.mono (by decide) (by decide)⟩
  have eh : (T1_2.setFrames fs).heap = h0 := e1_2
  rw [eh]
  exact ⟨rfl, N0, rfl⟩
set_option maxRecDepth 65536 in
set_option maxHeartbeats 40000000 in
theorem rm1b (l : Launch) (Z : State) (a0 : Array Value) (hw : ∀ d ∈ tables_1, d.before a0 Z = true) (ws : List Jvm.Cond) (r0 : Addr) (bid : Addr) (off : Addr) (h0 : Heap) (n0 : Nat) (Z0 : n0 ≤ h0.size) (S_BID : Sta Z h0 "com/example/finalmark/finalmark/Side" "BID" "Lcom/example/finalmark/finalmark/Side;" (.ref bid)) (S_OFF : Sta Z h0 "com/example/finalmark/finalmark/Side" "OFFER" "Lcom/example/finalmark/finalmark/Side;" (.ref off)) (hq : ¬ (r0 = bid)) :
    MetFree l (⟨"com/example/finalmark/finalmark/Side", "opposite", "()Lcom/example/finalmark/finalmark/Side;"⟩ : MethodName) (head1 (Jvm.Cond.code (⟨"com/example/finalmark/finalmark/Side", "opposite", "()Lcom/example/finalmark/finalmark/Side;"⟩ : MethodName) prog_48_method_7_code 1 (some (.object "com/example/finalmark/finalmark/Side")) :: ws) ({ frames := 0, cells := 0, slots := 0, locals := 0 } : Room)) (fun a U => a = #[(.ref r0)] ∧ Z.Warmed39 U.vm ∧ U.heap = h0) (fun _ _ _ _ _ => True) (fun _ U o U' => ∃ v L, o = .returned v ∧ Q1 Z r0 bid h0 n0 v U'.heap L ∧ FrameEnd U o U' L ({ frames := 0, cells := 0, slots := 0, locals := 0 } : Room).cells ({ frames := 0, cells := 0, slots := 0, locals := 0 } : Room).slots) := by
  refine MetFree.of_bodySF (plainFor_of_name pn1) hisR ?_
  intro p e s m args below meth c s₁ Bd hml0 hP hK
  obtain ⟨rfl, hZ, hh⟩ := hP
  have hx := Bd.exec
  have hby := Bd.bytes
  have hml : c.maxLocals = 1 := hml0
  have hown : s.vm.findClass "com/example/finalmark/finalmark/Side" = some m.cls := findClass_of_methodNamed Bd.named
  have hnm := (name_of_methodNamed Bd.named Bd.method).1
  have X0 : Stand p l e ({ frames := 0, cells := 0, slots := 0, locals := 0 } : Room) s m #[(.ref r0)] below meth c s₁ [] 0 0 := Stand.of_body Bd
  have e0 : s₁.heap = h0 := by rw [← hh, Bd.state]; rfl
  have N0 := Fr.nil n0
  refine own_fw (A := s₁.setTop (mkF m 0 #[.val (.ref r0)] [])) (fun t k => castTop (ef1 m r0) k) ?_
  refine own_fw (A := s₁.setTop (mkF m 1 #[.val (.ref r0)] [(.ref r0)])) (fun t k => ?_) ?_
  · show Steps p.tables e below (s₁.setTop (mkF m 0 #[.val (.ref r0)] [])) t
    refine XS.aloadN X0.here hx rfl (hb hby d1_0) rfl rfl ?_
    exact k
  obtain ⟨T1_1, X1_1, e1_1, st1_1⟩ := getS2 X0 hx hZ hown (host := "") (Or.inl (hw _ (List.mem_of_getElem? (i := 10) rfl))) Via.refl e0 S_BID (g := (mkF m 1 #[.val (.ref r0)] [(.ref r0)])) rfl (hb hby d1_1)
  refine own_fw st1_1 ?_
  refine own_fw (A := T1_1.setTop (mkF m 13 #[.val (.ref r0)] [])) (fun t k => ?_) ?_
  · refine Jvm.RoadKit.acmp (g := (mkF m 4 #[.val (.ref r0)] [(.ref bid), (.ref r0)])) X1_1 hx rfl rfl rfl (pc0 := 4) (pc' := 13) (same := false) rfl (hb hby d1_4) rfl (decide_eq_false fun q => hq (Value.ref.inj q)) (by decide) (by decide) ?_
    exact k
  obtain ⟨T1_2, X1_2, e1_2, st1_2⟩ := getS2 X1_1 hx hZ hown (host := "") (Or.inl (hw _ (List.mem_of_getElem? (i := 10) rfl))) Via.refl e1_1 S_BID (g := (mkF m 13 #[.val (.ref r0)] [])) rfl (hb hby d1_13)
  refine own_fw st1_2 ?_
  obtain ⟨fs, hr, hrun, hended, hW, hsame⟩ := X1_2.leave (v := some (.ref bid)) (fun h => by rw [Bd.returns] at h; cases h)
  refine ⟨_, _, retA (ty := (.object "com/example/finalmark/finalmark/Side")) X1_2 hx rfl rfl Bd.returns (hb hby d1_16) hr, hrun, hended, _, _, rfl, ?_, ⟨_, rfl⟩, hW, hsame.mono (by decide) (by decide)⟩
  have eh : (T1_2.setFrames fs).heap = h0 := e1_2
  rw [eh]
  exact ⟨rfl, N0, rfl⟩
theorem pn0 : plainName "com/example/finalmark/finalmark/SideOppositePinLaw" = true := by first | (simp [plainName, overriddenIn]; done) | decide +kernel
theorem pd0_0 : parseMethodDescriptor "()Lcom/example/finalmark/finalmark/Side;" = some ⟨[], some (.object "com/example/finalmark/finalmark/Side")⟩ := by decide +kernel
theorem ef0 (m : MethodId) (p0 : Int32) : entryFrame m #[(.int p0)] maxLocals = mkF m 0 #[.val (.int p0), .unset, .unset, .unset, .unset] [] := by first | (simp [entryFrame, mkF, argsToLocals, Value.category, maxLocals]; done) | rfl
def Q0 (Z : State) (p0 : Int32) (h0 : Heap) (n0 : Nat) (v : Option Value) (h : Heap) (L : List Loc) : Prop := v = some (.int 1) ∧ Fr n0 L
set_option maxRecDepth 65536 in
set_option maxHeartbeats 40000000 in
theorem rm0 (l : Launch) (Z : State) (a0 : Array Value) (hw : ∀ d ∈ tables_1, d.before a0 Z = true) (ws : List Jvm.Cond) (p0 : Int32) (bid : Addr) (off : Addr) (h0 : Heap) (n0 : Nat) (Z0 : n0 ≤ h0.size) (S_BID : Sta Z h0 "com/example/finalmark/finalmark/Side" "BID" "Lcom/example/finalmark/finalmark/Side;" (.ref bid)) (S_OFF : Sta Z h0 "com/example/finalmark/finalmark/Side" "OFFER" "Lcom/example/finalmark/finalmark/Side;" (.ref off)) (E_bid : Exa Z h0 bid "com/example/finalmark/finalmark/Side") (E_off : Exa Z h0 off "com/example/finalmark/finalmark/Side") (hne : ¬ (off = bid)) :
    MetFree l x (head1 (Jvm.Cond.code x code maxLocals ret :: ws) room_1) (fun a U => a = #[(.int p0)] ∧ Z.Warmed39 U.vm ∧ U.heap = h0) (fun _ _ _ _ _ => True) (fun _ U o U' => ∃ v L, o = .returned v ∧ Q0 Z p0 h0 n0 v U'.heap L ∧ FrameEnd U o U' L room_1.cells room_1.slots) := by
  refine MetFree.of_bodySF (plainFor_of_name pn0) hisR ?_
  intro p e s m args below meth c s₁ Bd hml0 hP hK
  obtain ⟨rfl, hZ, hh⟩ := hP
  have hx := Bd.exec
  have hby := Bd.bytes
  have hml : c.maxLocals = 5 := hml0
  have hown : s.vm.findClass "com/example/finalmark/finalmark/SideOppositePinLaw" = some m.cls := findClass_of_methodNamed Bd.named
  have hnm := (name_of_methodNamed Bd.named Bd.method).1
  have X0 : Stand p l e room_1 s m #[(.int p0)] below meth c s₁ [] 0 0 := Stand.of_body Bd
  have e0 : s₁.heap = h0 := by rw [← hh, Bd.state]; rfl
  have N0 := Fr.nil n0
  refine own_fw (A := s₁.setTop (mkF m 0 #[.val (.int p0), .unset, .unset, .unset, .unset] [])) (fun t k => castTop (ef0 m p0) k) ?_
  refine own_fw (A := s₁.setTop (mkF m 3 #[.val (.int p0), .unset, .unset, .unset, .unset] [(.int (p0 &&& (1 : Int32)))])) (fun t k => ?_) ?_
  · show Steps p.tables e below (s₁.setTop (mkF m 0 #[.val (.int p0), .unset, .unset, .unset, .unset] [])) t
    refine XS.iloadN X0.here hx rfl (hb hby at_0) rfl ?_
    show Steps p.tables e below (s₁.setTop (mkF m 1 #[.val (.int p0), .unset, .unset, .unset, .unset] [(.int p0)])) t
    refine XS.iconst X0.here hx rfl (hb hby at_1) ?_
    show Steps p.tables e below (s₁.setTop (mkF m 2 #[.val (.int p0), .unset, .unset, .unset, .unset] [(.int (1 : Int32)), (.int p0)])) t
    refine XS.iand X0.here hx rfl (hb hby at_2) rfl ?_
    exact k
  by_cases hc0_1 : (p0 &&& (1 : Int32)) = (0 : Int32)
  · refine own_fw (A := s₁.setTop (mkF m 6 #[.val (.int p0), .unset, .unset, .unset, .unset] [])) (fun t k => ?_) ?_
    · show Steps p.tables e below (s₁.setTop (mkF m 3 #[.val (.int p0), .unset, .unset, .unset, .unset] [(.int (p0 &&& (1 : Int32)))])) t
      refine XS.ifNo X0.here hx rfl (hb hby at_3) rfl ((if0 _ _).trans (teq hc0_1).2) ?_
      exact k
    refine own_fw (A := s₁.setTop (mkF m 16 #[.val (.int p0), .val (.int (1 : Int32)), .unset, .unset, .unset] [])) (fun t k => ?_) ?_
    · show Steps p.tables e below (s₁.setTop (mkF m 6 #[.val (.int p0), .unset, .unset, .unset, .unset] [])) t
      refine XS.iconst X0.here hx rfl (hb hby at_6) ?_
      show Steps p.tables e below (s₁.setTop (mkF m 7 #[.val (.int p0), .unset, .unset, .unset, .unset] [(.int (1 : Int32))])) t
      refine XS.goto X0.here hx rfl (pc0 := 7) (pc' := 11) rfl (hb hby at_7) (by decide) (by decide) ?_
      show Steps p.tables e below (s₁.setTop (mkF m 11 #[.val (.int p0), .unset, .unset, .unset, .unset] [(.int (1 : Int32))])) t
      refine XS.istoreN X0.here hx rfl (hb hby at_11) rfl (l' := #[.val (.int p0), .val (.int (1 : Int32)), .unset, .unset, .unset]) rfl ?_
      show Steps p.tables e below (s₁.setTop (mkF m 12 #[.val (.int p0), .val (.int (1 : Int32)), .unset, .unset, .unset] [])) t
      refine XS.iloadN X0.here hx rfl (hb hby at_12) rfl ?_
      show Steps p.tables e below (s₁.setTop (mkF m 13 #[.val (.int p0), .val (.int (1 : Int32)), .unset, .unset, .unset] [(.int (1 : Int32))])) t
      refine XS.ifNo X0.here hx rfl (hb hby at_13) rfl ((if0 _ _).trans (feq (by decide : ¬ ((1 : Int32) = (0 : Int32)))).1) ?_
      exact k
    obtain ⟨T0_1, X0_1, e0_1, st0_1⟩ := getS2 X0 hx hZ hown (host := "") (Or.inl (hw _ (List.mem_of_getElem? (i := 0) rfl))) Via.refl e0 S_BID (g := (mkF m 16 #[.val (.int p0), .val (.int (1 : Int32)), .unset, .unset, .unset] [])) rfl (hb hby at_16)
    refine own_fw st0_1 ?_
    refine own_fw (A := T0_1.setTop (mkF m 30 #[.val (.int p0), .val (.int (1 : Int32)), .val (.ref bid), .unset, .unset] [])) (fun t k => ?_) ?_
    · show Steps p.tables e below (T0_1.setTop (mkF m 19 #[.val (.int p0), .val (.int (1 : Int32)), .unset, .unset, .unset] [(.ref bid)])) t
      refine XS.goto X0_1.here hx rfl (pc0 := 19) (pc' := 25) rfl (hb hby at_19) (by decide) (by decide) ?_
      show Steps p.tables e below (T0_1.setTop (mkF m 25 #[.val (.int p0), .val (.int (1 : Int32)), .unset, .unset, .unset] [(.ref bid)])) t
      refine XS.astoreN X0_1.here hx rfl (hb hby at_25) rfl rfl (l' := #[.val (.int p0), .val (.int (1 : Int32)), .val (.ref bid), .unset, .unset]) rfl ?_
      show Steps p.tables e below (T0_1.setTop (mkF m 26 #[.val (.int p0), .val (.int (1 : Int32)), .val (.ref bid), .unset, .unset] [])) t
      refine XS.iloadN X0_1.here hx rfl (hb hby at_26) rfl ?_
      show Steps p.tables e below (T0_1.setTop (mkF m 27 #[.val (.int p0), .val (.int (1 : Int32)), .val (.ref bid), .unset, .unset] [(.int (1 : Int32))])) t
      refine XS.ifNo X0_1.here hx rfl (hb hby at_27) rfl ((if0 _ _).trans (feq (by decide : ¬ ((1 : Int32) = (0 : Int32)))).1) ?_
      exact k
    obtain ⟨T0_2, X0_2, e0_2, st0_2⟩ := getS2 X0_1 hx hZ hown (host := "") (Or.inl (hw _ (List.mem_of_getElem? (i := 3) rfl))) Via.refl e0_1 S_OFF (g := (mkF m 30 #[.val (.int p0), .val (.int (1 : Int32)), .val (.ref bid), .unset, .unset] [])) rfl (hb hby at_30)
    refine own_fw st0_2 ?_
    refine own_fw (A := T0_2.setTop (mkF m 41 #[.val (.int p0), .val (.int (1 : Int32)), .val (.ref bid), .val (.ref off), .unset] [(.ref bid)])) (fun t k => ?_) ?_
    · show Steps p.tables e below (T0_2.setTop (mkF m 33 #[.val (.int p0), .val (.int (1 : Int32)), .val (.ref bid), .unset, .unset] [(.ref off)])) t
      refine XS.goto X0_2.here hx rfl (pc0 := 33) (pc' := 39) rfl (hb hby at_33) (by decide) (by decide) ?_
      show Steps p.tables e below (T0_2.setTop (mkF m 39 #[.val (.int p0), .val (.int (1 : Int32)), .val (.ref bid), .unset, .unset] [(.ref off)])) t
      refine XS.astoreN X0_2.here hx rfl (hb hby at_39) rfl rfl (l' := #[.val (.int p0), .val (.int (1 : Int32)), .val (.ref bid), .val (.ref off), .unset]) rfl ?_
      show Steps p.tables e below (T0_2.setTop (mkF m 40 #[.val (.int p0), .val (.int (1 : Int32)), .val (.ref bid), .val (.ref off), .unset] [])) t
      refine XS.aloadN X0_2.here hx rfl (hb hby at_40) rfl rfl ?_
      exact k
    obtain ⟨cq0_3, kq0_3, q0_3a, q0_3b, q0_3c⟩ := isOf hZ e0_2 E_bid
    obtain ⟨_, _, ⟨T0_3, L0_3, k0_3, n0_3⟩, -, X0_3, ⟨Lc0_3, hQ0_3, l0_3, y0_3, z0_3⟩, st0_3⟩ := X0_2.virtualBack hx (y := (⟨"com/example/finalmark/finalmark/Side", "opposite", "()Lcom/example/finalmark/finalmark/Side;"⟩ : MethodName)) (z := (⟨"com/example/finalmark/finalmark/Side", "opposite", "()Lcom/example/finalmark/finalmark/Side;"⟩ : MethodName)) hown (mvT hZ (hw _ (List.mem_of_getElem? (i := 5) rfl))) (mvT hZ (hw _ (List.mem_of_getElem? (i := 6) rfl))) (notFace_of_selects (args := #[]) (mvT hZ (hw _ (List.mem_of_getElem? (i := 8) rfl)))) (mvT hZ (hw _ (List.mem_of_getElem? (i := 8) rfl))) (mvT hZ (hw _ (List.mem_of_getElem? (i := 7) rfl))) (by decide) (backOf (W := 0) (rm1a l Z a0 hw [] bid bid off h0 n0 Z0 S_BID S_OFF rfl) hZ (hw _ (List.mem_of_getElem? (i := 9) rfl)) (hw _ (List.mem_of_getElem? (i := 1) rfl)) (by decide) (by decide)) q0_3a q0_3c (g := (mkF m 41 #[.val (.int p0), .val (.int (1 : Int32)), .val (.ref bid), .val (.ref off), .unset] [(.ref bid)])) rfl (by rw [hml]; rfl) (Steps.refl _) (argsL := []) (rest := []) (lenOf pd0_0 rfl) rfl (by show 2 * 0 + _ ≤ _; exact Nat.le_of_eq rfl) (hb hby at_41) (fun _ _ => ⟨rfl, e0_2, (by decide : 0 + 0 ≤ _), (by decide : 0 + 0 ≤ _)⟩)
    dsimp only [Pt.U, Pt.locs, Pt.cells, Pt.slots] at X0_3 l0_3 y0_3 z0_3 st0_3 hQ0_3
    subst l0_3 y0_3 z0_3
    obtain ⟨rfl, N0_3q, e0_3⟩ := hQ0_3
    have N0_3 := Fr.app N0 N0_3q
    refine own_fw (fun t k => st0_3.trans k) ?_
    refine own_fw (A := T0_3.setTop (mkF m 49 #[.val (.int p0), .val (.int (1 : Int32)), .val (.ref bid), .val (.ref off), .val (.ref off)] [(.ref off), (.ref off)])) (fun t k => ?_) ?_
    · show Steps p.tables e below (T0_3.setTop (mkF m 44 #[.val (.int p0), .val (.int (1 : Int32)), .val (.ref bid), .val (.ref off), .unset] [(.ref off)])) t
      refine XS.astore X0_3.here hx rfl (hb hby at_44) rfl rfl (l' := #[.val (.int p0), .val (.int (1 : Int32)), .val (.ref bid), .val (.ref off), .val (.ref off)]) rfl ?_
      show Steps p.tables e below (T0_3.setTop (mkF m 46 #[.val (.int p0), .val (.int (1 : Int32)), .val (.ref bid), .val (.ref off), .val (.ref off)] [])) t
      refine XS.aload X0_3.here hx rfl (hb hby at_46) rfl rfl ?_
      show Steps p.tables e below (T0_3.setTop (mkF m 48 #[.val (.int p0), .val (.int (1 : Int32)), .val (.ref bid), .val (.ref off), .val (.ref off)] [(.ref off)])) t
      refine XS.aloadN X0_3.here hx rfl (hb hby at_48) rfl rfl ?_
      exact k
    refine own_fw (A := T0_3.setTop (mkF m 54 #[.val (.int p0), .val (.int (1 : Int32)), .val (.ref bid), .val (.ref off), .val (.ref off)] [])) (fun t k => ?_) ?_
    · refine Jvm.RoadKit.acmp (g := (mkF m 49 #[.val (.int p0), .val (.int (1 : Int32)), .val (.ref bid), .val (.ref off), .val (.ref off)] [(.ref off), (.ref off)])) X0_3 hx rfl rfl rfl (pc0 := 49) (pc' := 54) (same := true) rfl (hb hby at_49) rfl (decide_eq_true rfl) (by decide) (by decide) ?_
      exact k
    refine own_fw (A := T0_3.setTop (mkF m 57 #[.val (.int p0), .val (.int (1 : Int32)), .val (.ref bid), .val (.ref off), .val (.ref off)] [(.ref bid), (.ref off)])) (fun t k => ?_) ?_
    · show Steps p.tables e below (T0_3.setTop (mkF m 54 #[.val (.int p0), .val (.int (1 : Int32)), .val (.ref bid), .val (.ref off), .val (.ref off)] [])) t
      refine XS.aload X0_3.here hx rfl (hb hby at_54) rfl rfl ?_
      show Steps p.tables e below (T0_3.setTop (mkF m 56 #[.val (.int p0), .val (.int (1 : Int32)), .val (.ref bid), .val (.ref off), .val (.ref off)] [(.ref off)])) t
      refine XS.aloadN X0_3.here hx rfl (hb hby at_56) rfl rfl ?_
      exact k
    refine own_fw (A := T0_3.setTop (mkF m 62 #[.val (.int p0), .val (.int (1 : Int32)), .val (.ref bid), .val (.ref off), .val (.ref off)] [])) (fun t k => ?_) ?_
    · refine Jvm.RoadKit.acmp (g := (mkF m 57 #[.val (.int p0), .val (.int (1 : Int32)), .val (.ref bid), .val (.ref off), .val (.ref off)] [(.ref bid), (.ref off)])) X0_3 hx rfl rfl rfl (pc0 := 57) (pc' := 62) (same := false) rfl (hb hby at_57) rfl (decide_eq_false fun q => hne (Value.ref.inj q)) (by decide) (by decide) ?_
      exact k
    refine own_fw (A := T0_3.setTop (mkF m 64 #[.val (.int p0), .val (.int (1 : Int32)), .val (.ref bid), .val (.ref off), .val (.ref off)] [(.ref off)])) (fun t k => ?_) ?_
    · show Steps p.tables e below (T0_3.setTop (mkF m 62 #[.val (.int p0), .val (.int (1 : Int32)), .val (.ref bid), .val (.ref off), .val (.ref off)] [])) t
      refine XS.aload X0_3.here hx rfl (hb hby at_62) rfl rfl ?_
      exact k
    obtain ⟨cq0_4, kq0_4, q0_4a, q0_4b, q0_4c⟩ := isOf hZ e0_3 E_off
    obtain ⟨_, _, ⟨T0_4, L0_4, k0_4, n0_4⟩, -, X0_4, ⟨Lc0_4, hQ0_4, l0_4, y0_4, z0_4⟩, st0_4⟩ := X0_3.virtualBack hx (y := (⟨"com/example/finalmark/finalmark/Side", "opposite", "()Lcom/example/finalmark/finalmark/Side;"⟩ : MethodName)) (z := (⟨"com/example/finalmark/finalmark/Side", "opposite", "()Lcom/example/finalmark/finalmark/Side;"⟩ : MethodName)) hown (mvT hZ (hw _ (List.mem_of_getElem? (i := 5) rfl))) (mvT hZ (hw _ (List.mem_of_getElem? (i := 6) rfl))) (notFace_of_selects (args := #[]) (mvT hZ (hw _ (List.mem_of_getElem? (i := 8) rfl)))) (mvT hZ (hw _ (List.mem_of_getElem? (i := 8) rfl))) (mvT hZ (hw _ (List.mem_of_getElem? (i := 7) rfl))) (by decide) (backOf (W := 0) (rm1b l Z a0 hw [] off bid off h0 n0 Z0 S_BID S_OFF hne) hZ (hw _ (List.mem_of_getElem? (i := 9) rfl)) (hw _ (List.mem_of_getElem? (i := 1) rfl)) (by decide) (by decide)) q0_4a q0_4c (g := (mkF m 64 #[.val (.int p0), .val (.int (1 : Int32)), .val (.ref bid), .val (.ref off), .val (.ref off)] [(.ref off)])) rfl (by rw [hml]; rfl) (Steps.refl _) (argsL := []) (rest := []) (lenOf pd0_0 rfl) rfl (by show 2 * 0 + _ ≤ _; exact Nat.le_of_eq rfl) (hb hby at_64) (fun _ _ => ⟨rfl, e0_3, (by decide : 0 + 0 ≤ _), (by decide : 0 + 0 ≤ _)⟩)
    dsimp only [Pt.U, Pt.locs, Pt.cells, Pt.slots] at X0_4 l0_4 y0_4 z0_4 st0_4 hQ0_4
    subst l0_4 y0_4 z0_4
    obtain ⟨rfl, N0_4q, e0_4⟩ := hQ0_4
    have N0_4 := Fr.app N0_3 N0_4q
    refine own_fw (fun t k => st0_4.trans k) ?_
    refine own_fw (A := T0_4.setTop (mkF m 68 #[.val (.int p0), .val (.int (1 : Int32)), .val (.ref bid), .val (.ref off), .val (.ref off)] [(.ref bid), (.ref bid)])) (fun t k => ?_) ?_
    · show Steps p.tables e below (T0_4.setTop (mkF m 67 #[.val (.int p0), .val (.int (1 : Int32)), .val (.ref bid), .val (.ref off), .val (.ref off)] [(.ref bid)])) t
      refine XS.aloadN X0_4.here hx rfl (hb hby at_67) rfl rfl ?_
      exact k
    refine own_fw (A := T0_4.setTop (mkF m 71 #[.val (.int p0), .val (.int (1 : Int32)), .val (.ref bid), .val (.ref off), .val (.ref off)] [])) (fun t k => ?_) ?_
    · refine Jvm.RoadKit.acmp (g := (mkF m 68 #[.val (.int p0), .val (.int (1 : Int32)), .val (.ref bid), .val (.ref off), .val (.ref off)] [(.ref bid), (.ref bid)])) X0_4 hx rfl rfl rfl (pc0 := 68) (pc' := 71) (same := true) rfl (hb hby at_68) rfl (decide_eq_true rfl) (by decide) (by decide) ?_
      exact k
    refine own_fw (A := T0_4.setTop (mkF m 76 #[.val (.int p0), .val (.int (1 : Int32)), .val (.ref bid), .val (.ref off), .val (.ref off)] [(.int (1 : Int32))])) (fun t k => ?_) ?_
    · show Steps p.tables e below (T0_4.setTop (mkF m 71 #[.val (.int p0), .val (.int (1 : Int32)), .val (.ref bid), .val (.ref off), .val (.ref off)] [])) t
      refine XS.iconst X0_4.here hx rfl (hb hby at_71) ?_
      show Steps p.tables e below (T0_4.setTop (mkF m 72 #[.val (.int p0), .val (.int (1 : Int32)), .val (.ref bid), .val (.ref off), .val (.ref off)] [(.int (1 : Int32))])) t
      refine XS.goto X0_4.here hx rfl (pc0 := 72) (pc' := 76) rfl (hb hby at_72) (by decide) (by decide) ?_
      exact k
    obtain ⟨fs, hr, hrun, hended, hW, hsame⟩ := X0_4.leave (v := some (.int (nar .boolean (1 : Int32)))) (fun h => by rw [Bd.returns] at h; cases h)
    refine ⟨_, _, retN X0_4 hx (t := .boolean) Bd.returns (by simp) (hb hby at_76) hr, hrun, hended, _, _, rfl, ?_, ⟨_, rfl⟩, hW, hsame.mono (by decide) (by decide)⟩
    have eh : (T0_4.setFrames fs).heap = h0 := e0_4
    rw [eh]
    exact ⟨rfl, N0_4⟩
  · refine own_fw (A := s₁.setTop (mkF m 10 #[.val (.int p0), .unset, .unset, .unset, .unset] [])) (fun t k => ?_) ?_
    · show Steps p.tables e below (s₁.setTop (mkF m 3 #[.val (.int p0), .unset, .unset, .unset, .unset] [(.int (p0 &&& (1 : Int32)))])) t
      refine XS.ifYes X0.here hx rfl (pc0 := 3) (pc' := 10) rfl (hb hby at_3) rfl ((if0 _ _).trans (feq hc0_1).2) (by decide) (by decide) ?_
      exact k
    refine own_fw (A := s₁.setTop (mkF m 22 #[.val (.int p0), .val (.int (0 : Int32)), .unset, .unset, .unset] [])) (fun t k => ?_) ?_
    · show Steps p.tables e below (s₁.setTop (mkF m 10 #[.val (.int p0), .unset, .unset, .unset, .unset] [])) t
      refine XS.iconst X0.here hx rfl (hb hby at_10) ?_
      show Steps p.tables e below (s₁.setTop (mkF m 11 #[.val (.int p0), .unset, .unset, .unset, .unset] [(.int (0 : Int32))])) t
      refine XS.istoreN X0.here hx rfl (hb hby at_11) rfl (l' := #[.val (.int p0), .val (.int (0 : Int32)), .unset, .unset, .unset]) rfl ?_
      show Steps p.tables e below (s₁.setTop (mkF m 12 #[.val (.int p0), .val (.int (0 : Int32)), .unset, .unset, .unset] [])) t
      refine XS.iloadN X0.here hx rfl (hb hby at_12) rfl ?_
      show Steps p.tables e below (s₁.setTop (mkF m 13 #[.val (.int p0), .val (.int (0 : Int32)), .unset, .unset, .unset] [(.int (0 : Int32))])) t
      refine XS.ifYes X0.here hx rfl (pc0 := 13) (pc' := 22) rfl (hb hby at_13) rfl ((if0 _ _).trans (teq (rfl : (0 : Int32) = (0 : Int32))).1) (by decide) (by decide) ?_
      exact k
    obtain ⟨T0_5, X0_5, e0_5, st0_5⟩ := getS2 X0 hx hZ hown (host := "") (Or.inl (hw _ (List.mem_of_getElem? (i := 3) rfl))) Via.refl e0 S_OFF (g := (mkF m 22 #[.val (.int p0), .val (.int (0 : Int32)), .unset, .unset, .unset] [])) rfl (hb hby at_22)
    refine own_fw st0_5 ?_
    refine own_fw (A := T0_5.setTop (mkF m 36 #[.val (.int p0), .val (.int (0 : Int32)), .val (.ref off), .unset, .unset] [])) (fun t k => ?_) ?_
    · show Steps p.tables e below (T0_5.setTop (mkF m 25 #[.val (.int p0), .val (.int (0 : Int32)), .unset, .unset, .unset] [(.ref off)])) t
      refine XS.astoreN X0_5.here hx rfl (hb hby at_25) rfl rfl (l' := #[.val (.int p0), .val (.int (0 : Int32)), .val (.ref off), .unset, .unset]) rfl ?_
      show Steps p.tables e below (T0_5.setTop (mkF m 26 #[.val (.int p0), .val (.int (0 : Int32)), .val (.ref off), .unset, .unset] [])) t
      refine XS.iloadN X0_5.here hx rfl (hb hby at_26) rfl ?_
      show Steps p.tables e below (T0_5.setTop (mkF m 27 #[.val (.int p0), .val (.int (0 : Int32)), .val (.ref off), .unset, .unset] [(.int (0 : Int32))])) t
      refine XS.ifYes X0_5.here hx rfl (pc0 := 27) (pc' := 36) rfl (hb hby at_27) rfl ((if0 _ _).trans (teq (rfl : (0 : Int32) = (0 : Int32))).1) (by decide) (by decide) ?_
      exact k
    obtain ⟨T0_6, X0_6, e0_6, st0_6⟩ := getS2 X0_5 hx hZ hown (host := "") (Or.inl (hw _ (List.mem_of_getElem? (i := 0) rfl))) Via.refl e0_5 S_BID (g := (mkF m 36 #[.val (.int p0), .val (.int (0 : Int32)), .val (.ref off), .unset, .unset] [])) rfl (hb hby at_36)
    refine own_fw st0_6 ?_
    refine own_fw (A := T0_6.setTop (mkF m 41 #[.val (.int p0), .val (.int (0 : Int32)), .val (.ref off), .val (.ref bid), .unset] [(.ref off)])) (fun t k => ?_) ?_
    · show Steps p.tables e below (T0_6.setTop (mkF m 39 #[.val (.int p0), .val (.int (0 : Int32)), .val (.ref off), .unset, .unset] [(.ref bid)])) t
      refine XS.astoreN X0_6.here hx rfl (hb hby at_39) rfl rfl (l' := #[.val (.int p0), .val (.int (0 : Int32)), .val (.ref off), .val (.ref bid), .unset]) rfl ?_
      show Steps p.tables e below (T0_6.setTop (mkF m 40 #[.val (.int p0), .val (.int (0 : Int32)), .val (.ref off), .val (.ref bid), .unset] [])) t
      refine XS.aloadN X0_6.here hx rfl (hb hby at_40) rfl rfl ?_
      exact k
    obtain ⟨cq0_7, kq0_7, q0_7a, q0_7b, q0_7c⟩ := isOf hZ e0_6 E_off
    obtain ⟨_, _, ⟨T0_7, L0_7, k0_7, n0_7⟩, -, X0_7, ⟨Lc0_7, hQ0_7, l0_7, y0_7, z0_7⟩, st0_7⟩ := X0_6.virtualBack hx (y := (⟨"com/example/finalmark/finalmark/Side", "opposite", "()Lcom/example/finalmark/finalmark/Side;"⟩ : MethodName)) (z := (⟨"com/example/finalmark/finalmark/Side", "opposite", "()Lcom/example/finalmark/finalmark/Side;"⟩ : MethodName)) hown (mvT hZ (hw _ (List.mem_of_getElem? (i := 5) rfl))) (mvT hZ (hw _ (List.mem_of_getElem? (i := 6) rfl))) (notFace_of_selects (args := #[]) (mvT hZ (hw _ (List.mem_of_getElem? (i := 8) rfl)))) (mvT hZ (hw _ (List.mem_of_getElem? (i := 8) rfl))) (mvT hZ (hw _ (List.mem_of_getElem? (i := 7) rfl))) (by decide) (backOf (W := 0) (rm1b l Z a0 hw [] off bid off h0 n0 Z0 S_BID S_OFF hne) hZ (hw _ (List.mem_of_getElem? (i := 9) rfl)) (hw _ (List.mem_of_getElem? (i := 1) rfl)) (by decide) (by decide)) q0_7a q0_7c (g := (mkF m 41 #[.val (.int p0), .val (.int (0 : Int32)), .val (.ref off), .val (.ref bid), .unset] [(.ref off)])) rfl (by rw [hml]; rfl) (Steps.refl _) (argsL := []) (rest := []) (lenOf pd0_0 rfl) rfl (by show 2 * 0 + _ ≤ _; exact Nat.le_of_eq rfl) (hb hby at_41) (fun _ _ => ⟨rfl, e0_6, (by decide : 0 + 0 ≤ _), (by decide : 0 + 0 ≤ _)⟩)
    dsimp only [Pt.U, Pt.locs, Pt.cells, Pt.slots] at X0_7 l0_7 y0_7 z0_7 st0_7 hQ0_7
    subst l0_7 y0_7 z0_7
    obtain ⟨rfl, N0_7q, e0_7⟩ := hQ0_7
    have N0_7 := Fr.app N0 N0_7q
    refine own_fw (fun t k => st0_7.trans k) ?_
    refine own_fw (A := T0_7.setTop (mkF m 49 #[.val (.int p0), .val (.int (0 : Int32)), .val (.ref off), .val (.ref bid), .val (.ref bid)] [(.ref bid), (.ref bid)])) (fun t k => ?_) ?_
    · show Steps p.tables e below (T0_7.setTop (mkF m 44 #[.val (.int p0), .val (.int (0 : Int32)), .val (.ref off), .val (.ref bid), .unset] [(.ref bid)])) t
      refine XS.astore X0_7.here hx rfl (hb hby at_44) rfl rfl (l' := #[.val (.int p0), .val (.int (0 : Int32)), .val (.ref off), .val (.ref bid), .val (.ref bid)]) rfl ?_
      show Steps p.tables e below (T0_7.setTop (mkF m 46 #[.val (.int p0), .val (.int (0 : Int32)), .val (.ref off), .val (.ref bid), .val (.ref bid)] [])) t
      refine XS.aload X0_7.here hx rfl (hb hby at_46) rfl rfl ?_
      show Steps p.tables e below (T0_7.setTop (mkF m 48 #[.val (.int p0), .val (.int (0 : Int32)), .val (.ref off), .val (.ref bid), .val (.ref bid)] [(.ref bid)])) t
      refine XS.aloadN X0_7.here hx rfl (hb hby at_48) rfl rfl ?_
      exact k
    refine own_fw (A := T0_7.setTop (mkF m 54 #[.val (.int p0), .val (.int (0 : Int32)), .val (.ref off), .val (.ref bid), .val (.ref bid)] [])) (fun t k => ?_) ?_
    · refine Jvm.RoadKit.acmp (g := (mkF m 49 #[.val (.int p0), .val (.int (0 : Int32)), .val (.ref off), .val (.ref bid), .val (.ref bid)] [(.ref bid), (.ref bid)])) X0_7 hx rfl rfl rfl (pc0 := 49) (pc' := 54) (same := true) rfl (hb hby at_49) rfl (decide_eq_true rfl) (by decide) (by decide) ?_
      exact k
    refine own_fw (A := T0_7.setTop (mkF m 57 #[.val (.int p0), .val (.int (0 : Int32)), .val (.ref off), .val (.ref bid), .val (.ref bid)] [(.ref off), (.ref bid)])) (fun t k => ?_) ?_
    · show Steps p.tables e below (T0_7.setTop (mkF m 54 #[.val (.int p0), .val (.int (0 : Int32)), .val (.ref off), .val (.ref bid), .val (.ref bid)] [])) t
      refine XS.aload X0_7.here hx rfl (hb hby at_54) rfl rfl ?_
      show Steps p.tables e below (T0_7.setTop (mkF m 56 #[.val (.int p0), .val (.int (0 : Int32)), .val (.ref off), .val (.ref bid), .val (.ref bid)] [(.ref bid)])) t
      refine XS.aloadN X0_7.here hx rfl (hb hby at_56) rfl rfl ?_
      exact k
    refine own_fw (A := T0_7.setTop (mkF m 62 #[.val (.int p0), .val (.int (0 : Int32)), .val (.ref off), .val (.ref bid), .val (.ref bid)] [])) (fun t k => ?_) ?_
    · refine Jvm.RoadKit.acmp (g := (mkF m 57 #[.val (.int p0), .val (.int (0 : Int32)), .val (.ref off), .val (.ref bid), .val (.ref bid)] [(.ref off), (.ref bid)])) X0_7 hx rfl rfl rfl (pc0 := 57) (pc' := 62) (same := false) rfl (hb hby at_57) rfl (decide_eq_false fun q => hne (Value.ref.inj q).symm) (by decide) (by decide) ?_
      exact k
    refine own_fw (A := T0_7.setTop (mkF m 64 #[.val (.int p0), .val (.int (0 : Int32)), .val (.ref off), .val (.ref bid), .val (.ref bid)] [(.ref bid)])) (fun t k => ?_) ?_
    · show Steps p.tables e below (T0_7.setTop (mkF m 62 #[.val (.int p0), .val (.int (0 : Int32)), .val (.ref off), .val (.ref bid), .val (.ref bid)] [])) t
      refine XS.aload X0_7.here hx rfl (hb hby at_62) rfl rfl ?_
      exact k
    obtain ⟨cq0_8, kq0_8, q0_8a, q0_8b, q0_8c⟩ := isOf hZ e0_7 E_bid
    obtain ⟨_, _, ⟨T0_8, L0_8, k0_8, n0_8⟩, -, X0_8, ⟨Lc0_8, hQ0_8, l0_8, y0_8, z0_8⟩, st0_8⟩ := X0_7.virtualBack hx (y := (⟨"com/example/finalmark/finalmark/Side", "opposite", "()Lcom/example/finalmark/finalmark/Side;"⟩ : MethodName)) (z := (⟨"com/example/finalmark/finalmark/Side", "opposite", "()Lcom/example/finalmark/finalmark/Side;"⟩ : MethodName)) hown (mvT hZ (hw _ (List.mem_of_getElem? (i := 5) rfl))) (mvT hZ (hw _ (List.mem_of_getElem? (i := 6) rfl))) (notFace_of_selects (args := #[]) (mvT hZ (hw _ (List.mem_of_getElem? (i := 8) rfl)))) (mvT hZ (hw _ (List.mem_of_getElem? (i := 8) rfl))) (mvT hZ (hw _ (List.mem_of_getElem? (i := 7) rfl))) (by decide) (backOf (W := 0) (rm1a l Z a0 hw [] bid bid off h0 n0 Z0 S_BID S_OFF rfl) hZ (hw _ (List.mem_of_getElem? (i := 9) rfl)) (hw _ (List.mem_of_getElem? (i := 1) rfl)) (by decide) (by decide)) q0_8a q0_8c (g := (mkF m 64 #[.val (.int p0), .val (.int (0 : Int32)), .val (.ref off), .val (.ref bid), .val (.ref bid)] [(.ref bid)])) rfl (by rw [hml]; rfl) (Steps.refl _) (argsL := []) (rest := []) (lenOf pd0_0 rfl) rfl (by show 2 * 0 + _ ≤ _; exact Nat.le_of_eq rfl) (hb hby at_64) (fun _ _ => ⟨rfl, e0_7, (by decide : 0 + 0 ≤ _), (by decide : 0 + 0 ≤ _)⟩)
    dsimp only [Pt.U, Pt.locs, Pt.cells, Pt.slots] at X0_8 l0_8 y0_8 z0_8 st0_8 hQ0_8
    subst l0_8 y0_8 z0_8
    obtain ⟨rfl, N0_8q, e0_8⟩ := hQ0_8
    have N0_8 := Fr.app N0_7 N0_8q
    refine own_fw (fun t k => st0_8.trans k) ?_
    refine own_fw (A := T0_8.setTop (mkF m 68 #[.val (.int p0), .val (.int (0 : Int32)), .val (.ref off), .val (.ref bid), .val (.ref bid)] [(.ref off), (.ref off)])) (fun t k => ?_) ?_
    · show Steps p.tables e below (T0_8.setTop (mkF m 67 #[.val (.int p0), .val (.int (0 : Int32)), .val (.ref off), .val (.ref bid), .val (.ref bid)] [(.ref off)])) t
      refine XS.aloadN X0_8.here hx rfl (hb hby at_67) rfl rfl ?_
      exact k
    refine own_fw (A := T0_8.setTop (mkF m 71 #[.val (.int p0), .val (.int (0 : Int32)), .val (.ref off), .val (.ref bid), .val (.ref bid)] [])) (fun t k => ?_) ?_
    · refine Jvm.RoadKit.acmp (g := (mkF m 68 #[.val (.int p0), .val (.int (0 : Int32)), .val (.ref off), .val (.ref bid), .val (.ref bid)] [(.ref off), (.ref off)])) X0_8 hx rfl rfl rfl (pc0 := 68) (pc' := 71) (same := true) rfl (hb hby at_68) rfl (decide_eq_true rfl) (by decide) (by decide) ?_
      exact k
    refine own_fw (A := T0_8.setTop (mkF m 76 #[.val (.int p0), .val (.int (0 : Int32)), .val (.ref off), .val (.ref bid), .val (.ref bid)] [(.int (1 : Int32))])) (fun t k => ?_) ?_
    · show Steps p.tables e below (T0_8.setTop (mkF m 71 #[.val (.int p0), .val (.int (0 : Int32)), .val (.ref off), .val (.ref bid), .val (.ref bid)] [])) t
      refine XS.iconst X0_8.here hx rfl (hb hby at_71) ?_
      show Steps p.tables e below (T0_8.setTop (mkF m 72 #[.val (.int p0), .val (.int (0 : Int32)), .val (.ref off), .val (.ref bid), .val (.ref bid)] [(.int (1 : Int32))])) t
      refine XS.goto X0_8.here hx rfl (pc0 := 72) (pc' := 76) rfl (hb hby at_72) (by decide) (by decide) ?_
      exact k
    obtain ⟨fs, hr, hrun, hended, hW, hsame⟩ := X0_8.leave (v := some (.int (nar .boolean (1 : Int32)))) (fun h => by rw [Bd.returns] at h; cases h)
    refine ⟨_, _, retN X0_8 hx (t := .boolean) Bd.returns (by simp) (hb hby at_76) hr, hrun, hended, _, _, rfl, ?_, ⟨_, rfl⟩, hW, hsame.mono (by decide) (by decide)⟩
    have eh : (T0_8.setFrames fs).heap = h0 := e0_8
    rw [eh]
    exact ⟨rfl, N0_8⟩
set_option maxRecDepth 65536 in
set_option maxHeartbeats 40000000 in
theorem comes_1 {Post : Tables → Env → Array Value → State → Outcome → State → Prop} (hpost : ∀ tb e args s v u, (limb_1_1.after args s (.returned v) u = true ∧ limb_1_2.after args s (.returned v) u = true ∧ True) → FrameEnd s (.returned v) u (Jvm.fieldLocs frame_1_writes args s ++ Jvm.arrayLocs frame_1_arrays args s ++ Jvm.staticLocs frame_1_statics s) 0 0 → Post tb e args s (.returned v) u) :
    ArmFor flags0 classFile x code maxLocals ret World_1 tables_1 room_1 Calls_1 rest_1 Pre_1 Post := by
  intro l hfl _ _ p e ha hc hk s m args below hf hA hF happ hP
  obtain ⟨hcalls, hrest, hpre⟩ := hP
  obtain ⟨-, -, -, hnamed, -, -, -, hat⟩ := (Spec.applies_iff hf).mp happ
  obtain ⟨hg, hn⟩ := and_e (Cond.before_iff.mp (show (Jvm.Cond.and given_1 narrow_1).before args s = true from hpre))
  obtain ⟨g1, g2⟩ := and_e hg
  obtain ⟨w0, rfl⟩ : ∃ w0 : Value, args = #[w0] := by
    have hs : args.size = 1 := by simpa [Cond.value, given_1] using g1
    obtain ⟨L⟩ := args
    match L, hs with
    | [w0], _ => exact ⟨w0, rfl⟩
  have hw := fun d (hd : d ∈ tables_1) => atoms_spec (ws := Jvm.Cond.code x code maxLocals ret :: tables_1) hat d (List.mem_cons_of_mem _ hd)
  have hfit : Fit s := fun {y c} hc i hi => by
    obtain ⟨ha, rfl⟩ := Array.getElem?_eq_some_iff.mp hc
    have q := List.all_eq_true.mp ((Array.all_eq_true_iff_forall_mem.mp hF) _ (Array.getElem_mem ha)) i (List.mem_range.mpr hi)
    simpa [Array.getElem?_eq_getElem hi] using q
  obtain ⟨i0, ei0⟩ := is_v g2
  obtain rfl : w0 = (.int i0) := Option.some.inj ei0
  obtain ⟨m1, m2⟩ := and_e hn
  obtain ⟨m3, m4⟩ := and_e m2
  obtain ⟨m5, m6⟩ := and_e m4
  obtain ⟨bid, eb⟩ := exa_v m1
  obtain ⟨off, eo⟩ := exa_v m3
  have E_bid := Exa.start eb m1
  have E_off := Exa.start eo m3
  have S_BID := Sta.start eb (Or.inr ⟨(hw _ (List.mem_of_getElem? (i := 1) rfl)), (hw _ (List.mem_of_getElem? (i := 2) rfl))⟩)
  have S_OFF := Sta.start eo (Or.inr ⟨(hw _ (List.mem_of_getElem? (i := 1) rfl)), (hw _ (List.mem_of_getElem? (i := 4) rfl))⟩)
  have o1 := Jvm.Free.NT.SwA.eq_int (Cond.before_iff.mpr m5)
  have o2 := Jvm.Free.NT.SwA.eq_int (Cond.before_iff.mpr m6)
  rw [fld_at eo] at o1
  rw [fld_at eb] at o2
  have hne : ¬ (off = bid) := fun q => by
    rw [q, o2] at o1
    exact absurd (Value.int.inj (Option.some.inj o1)) (by decide)
  obtain ⟨n, o, h1, h2, h3, _, L, rfl, ⟨rfl, N⟩, hq⟩ := rm0 l s _ hw tables_1 i0 bid off s.heap s.heap.size (Nat.le_refl _) S_BID S_OFF E_bid E_off hne p e ha hc hk s m _ below hf ((Spec.applies_iff_loose hf).mp happ).1 ⟨rfl, State.Warmed39.refl s, rfl⟩ trivial
  refine ⟨n, _, h1, h2, h3, hpost _ _ _ _ _ _ ⟨Cond.after_iff.mpr rfl, Cond.after_iff.mpr (eq_i res_at (Term.int_eval (1)) rfl), trivial⟩ ⟨hq.1, hq.2.1, (hq.2.2.sift fun y hy => Or.inr (N y hy)).mono (by decide) (by decide)⟩⟩
theorem main_1_1 : Claimed_1_1 := comes_1 fun _ _ _ _ _ _ h hF => ⟨h.1, hF⟩
theorem main_1_2 : Claimed_1_2 := comes_1 fun _ _ _ _ _ _ h hF => ⟨h.2.1, hF⟩
end Jvm.Pilot.@@N@@
namespace Jvm.Pilot.@@N@@
open Jvm Jvm.ClassFile Sem Op Lib Jvm.Free Jvm.Stand Jvm.Pilot.@@N@@.Jvm.D
/-! MADE BY PROGRAM (witnessworld.py) out of the Statement's table words and the real class files: 12 classes; the members and pool entries that the words name. The judged class is class 1, her method 1. -/
namespace start1
open Jvm.ClassFile
def u (s : String) : CpInfo := .utf8 (stringToUtf16 s)
/-- a pool by its gaps: so many unusable entries, then the entry; so many at the end -/
def gap : Nat → List CpInfo → List CpInfo
  | 0, r => r
  | n + 1, r => .unusable :: gap n r
def poolList (es : List (Nat × CpInfo)) (last : Nat) : List CpInfo := es.foldr (fun e r => gap e.1 (e.2 :: r)) (gap last [])
def pool (es : List (Nat × CpInfo)) (last : Nat) : Array CpInfo := ⟨poolList es last⟩
def fileOf (pool : Array CpInfo) (this : Nat) (attrs : Array Attribute := #[]) (ms : Array MethodInfo := #[]) (fl : Nat := 33) (sup : Nat := 0) (ifs : Array Nat := #[]) (fds : Array FieldInfo := #[]) : ClassFile where
  minorVersion := 0
  majorVersion := 65
  constantPool := pool
  accessFlags := fl
  thisClass := this
  superClass := sup
  interfaces := ifs
  fields := fds
  methods := ms
  attributes := attrs
def plain (name : String) (sup : Option ClassId) : Class where
  name := name
  kind := .ordinary
  loader := none
  accessFlags := 33
  super := sup
  interfaces := #[]
  cf := none
  fields := #[]
  methods := #[]
  instanceTypes := #[]
  staticTypes := #[]
  resolved := #[]
  callSites := []
  init := .initialized
  statics := none
  mirror := none

def pool0 : Array CpInfo := pool [(5, u "<init>"), (0, u "()V"), (1, .class_ 10), (1, u "java/lang/Object")] 113

def k0m0 : Method := { name := "<init>", desc := "()V", sig := { parameters := [], returnType := none }, accessFlags := 1, code := none }
/-- java/lang/Object -/
def k0 : Class := { plain "java/lang/Object" none with
  accessFlags := 33
  interfaces := #[]
  cf := some (fileOf pool0 8 #[] #[{ accessFlags := 1, nameIndex := 5, descriptorIndex := 6, attributes := #[] }] 33 0 #[] #[])
  fields := #[]
  methods := #[k0m0]
  instanceTypes := #[]
  staticTypes := #[]
  resolved := Array.replicate 124 none
  statics := none }

def pool1 : Array CpInfo := pool [(2, .class_ 4), (1, u "java/lang/Object"), (0, u "<init>"), (0, u "()V"), (0, .fieldref 8 9), (0, .class_ 10), (0, .nameAndType 11 12), (0, u "com/example/finalmark/finalmark/Side"), (0, u "BID"), (0, u "Lcom/example/finalmark/finalmark/Side;"), (0, .fieldref 8 14), (0, .nameAndType 15 12), (0, u "OFFER"), (0, .methodref 8 17), (0, .nameAndType 18 19), (0, u "opposite"), (0, u "()Lcom/example/finalmark/finalmark/Side;"), (0, .class_ 21), (0, u "com/example/finalmark/finalmark/SideOppositePinLaw"), (2, u "law"), (0, u "(I)Z")] 3

def k1m0 : Method := { name := "<init>", desc := "()V", sig := { parameters := [], returnType := none }, accessFlags := 1, code := none }
def k1c1 : Code := { maxStack := 2, maxLocals := 5, code := code, exceptionTable := #[], attributes := #[] }
def k1m1 : Method := { name := "law", desc := "(I)Z", sig := { parameters := [.int], returnType := some .boolean }, accessFlags := 9, code := some k1c1 }
/-- com/example/finalmark/finalmark/SideOppositePinLaw -/
def k1 : Class := { plain "com/example/finalmark/finalmark/SideOppositePinLaw" (some 0) with
  accessFlags := 49
  interfaces := #[]
  cf := some (fileOf pool1 20 #[] #[{ accessFlags := 1, nameIndex := 5, descriptorIndex := 6, attributes := #[] }, { accessFlags := 9, nameIndex := 24, descriptorIndex := 25, attributes := #[] }] 49 2 #[] #[])
  fields := #[]
  methods := #[k1m0, k1m1]
  instanceTypes := #[]
  staticTypes := #[]
  resolved := Array.replicate 29 none
  statics := none }

def pool2 : Array CpInfo := pool [(1, .class_ 2), (0, u "java/lang/constant/Constable"), (0, .class_ 4), (0, u "java/lang/Object")] 6

/-- java/lang/constant/Constable -/
def k2 : Class := { plain "java/lang/constant/Constable" (some 0) with
  accessFlags := 1537
  interfaces := #[]
  cf := some (fileOf pool2 1 #[] #[] 1537 3 #[] #[])
  fields := #[]
  methods := #[]
  instanceTypes := #[]
  staticTypes := #[]
  resolved := Array.replicate 11 none
  statics := none }

def pool3 : Array CpInfo := pool [(1, .class_ 2), (0, u "java/lang/Comparable"), (0, .class_ 4), (0, u "java/lang/Object")] 7

/-- java/lang/Comparable -/
def k3 : Class := { plain "java/lang/Comparable" (some 0) with
  accessFlags := 1537
  interfaces := #[]
  cf := some (fileOf pool3 1 #[] #[] 1537 3 #[] #[])
  fields := #[]
  methods := #[]
  instanceTypes := #[]
  staticTypes := #[]
  resolved := Array.replicate 12 none
  statics := none }

def pool4 : Array CpInfo := pool [(1, .class_ 2), (0, u "java/io/Serializable"), (0, .class_ 4), (0, u "java/lang/Object")] 2

/-- java/io/Serializable -/
def k4 : Class := { plain "java/io/Serializable" (some 0) with
  accessFlags := 1537
  interfaces := #[]
  cf := some (fileOf pool4 1 #[] #[] 1537 3 #[] #[])
  fields := #[]
  methods := #[]
  instanceTypes := #[]
  staticTypes := #[]
  resolved := Array.replicate 7 none
  statics := none }

def pool5 : Array CpInfo := pool [(2, .class_ 4), (1, u "java/lang/Enum"), (0, u "name"), (0, u "Ljava/lang/String;"), (2, u "ordinal"), (0, u "I"), (1, .class_ 14), (1, u "java/lang/Object"), (4, u "hash"), (86, .class_ 108), (1, u "java/lang/Enum$EnumDesc"), (2, .class_ 112), (0, u "java/lang/constant/Constable"), (0, .class_ 114), (0, u "java/lang/Comparable"), (0, .class_ 116), (0, u "java/io/Serializable")] 87

/-- java/lang/Enum -/
def k5 : Class := { plain "java/lang/Enum" (some 0) with
  accessFlags := 1057
  interfaces := #[2, 3, 4]
  cf := some (fileOf pool5 2 #[.nestMembers #[106]] #[] 1057 12 #[111, 113, 115] #[{ accessFlags := 18, nameIndex := 5, descriptorIndex := 6, attributes := #[] }, { accessFlags := 18, nameIndex := 9, descriptorIndex := 10, attributes := #[] }, { accessFlags := 2, nameIndex := 19, descriptorIndex := 10, attributes := #[] }])
  fields := #[{ name := "name", type := (.object "java/lang/String"), accessFlags := 18, slot := 0, constantValue := 0 }, { name := "ordinal", type := .int, accessFlags := 18, slot := 1, constantValue := 0 }, { name := "hash", type := .int, accessFlags := 2, slot := 2, constantValue := 0 }]
  methods := #[]
  instanceTypes := #[(.object "java/lang/String"), .int, .int]
  staticTypes := #[]
  resolved := Array.replicate 204 none
  statics := none }

def pool6 : Array CpInfo := pool [(1, .class_ 2), (0, u "com/example/finalmark/finalmark/Side"), (0, .fieldref 1 4), (0, .nameAndType 5 6), (0, u "BID"), (0, u "Lcom/example/finalmark/finalmark/Side;"), (0, .fieldref 1 8), (0, .nameAndType 9 6), (0, u "OFFER"), (2, u "$VALUES"), (0, u "[Lcom/example/finalmark/finalmark/Side;"), (6, .class_ 22), (1, u "java/lang/Enum"), (8, u "bidOrOffer"), (0, u "Ljava/lang/String;"), (2, u "buyOrSell"), (50, u "BY_BID_OR_OFFER"), (0, u "Ljava/util/Map;"), (2, u "BY_BUY_OR_SELL"), (11, u "opposite"), (0, u "()Lcom/example/finalmark/finalmark/Side;")] 9

def k6c0 : Code := { maxStack := 2, maxLocals := 1, code := prog_48_method_7_code, exceptionTable := #[], attributes := #[] }
def k6m0 : Method := { name := "opposite", desc := "()Lcom/example/finalmark/finalmark/Side;", sig := { parameters := [], returnType := some (.object "com/example/finalmark/finalmark/Side") }, accessFlags := 0, code := some k6c0 }
/-- com/example/finalmark/finalmark/Side -/
def k6 : Class := { plain "com/example/finalmark/finalmark/Side" (some 5) with
  accessFlags := 16432
  interfaces := #[]
  cf := some (fileOf pool6 1 #[] #[{ accessFlags := 0, nameIndex := 102, descriptorIndex := 103, attributes := #[] }] 16432 20 #[] #[{ accessFlags := 16409, nameIndex := 5, descriptorIndex := 6, attributes := #[] }, { accessFlags := 16409, nameIndex := 9, descriptorIndex := 6, attributes := #[] }, { accessFlags := 24, nameIndex := 86, descriptorIndex := 87, attributes := #[] }, { accessFlags := 24, nameIndex := 90, descriptorIndex := 87, attributes := #[] }, { accessFlags := 18, nameIndex := 31, descriptorIndex := 32, attributes := #[] }, { accessFlags := 18, nameIndex := 35, descriptorIndex := 32, attributes := #[] }, { accessFlags := 4122, nameIndex := 12, descriptorIndex := 13, attributes := #[] }])
  fields := #[{ name := "BID", type := (.object "com/example/finalmark/finalmark/Side"), accessFlags := 16409, slot := 0, constantValue := 0 }, { name := "OFFER", type := (.object "com/example/finalmark/finalmark/Side"), accessFlags := 16409, slot := 1, constantValue := 0 }, { name := "BY_BID_OR_OFFER", type := (.object "java/util/Map"), accessFlags := 24, slot := 2, constantValue := 0 }, { name := "BY_BUY_OR_SELL", type := (.object "java/util/Map"), accessFlags := 24, slot := 3, constantValue := 0 }, { name := "bidOrOffer", type := (.object "java/lang/String"), accessFlags := 18, slot := 3, constantValue := 0 }, { name := "buyOrSell", type := (.object "java/lang/String"), accessFlags := 18, slot := 4, constantValue := 0 }, { name := "$VALUES", type := (.array (.object "com/example/finalmark/finalmark/Side")), accessFlags := 4122, slot := 4, constantValue := 0 }]
  methods := #[k6m0]
  instanceTypes := #[(.object "java/lang/String"), .int, .int, (.object "java/lang/String"), (.object "java/lang/String")]
  staticTypes := #[(.object "com/example/finalmark/finalmark/Side"), (.object "com/example/finalmark/finalmark/Side"), (.object "java/util/Map"), (.object "java/util/Map"), (.array (.object "com/example/finalmark/finalmark/Side"))]
  resolved := Array.replicate 113 none
  statics := some 0 }

def pool7 : Array CpInfo := pool [(1, u "java/lang/Cloneable"), (0, .class_ 1), (0, u "java/lang/Object"), (0, .class_ 3)] 3

/-- java/lang/Cloneable -/
def k7 : Class := { plain "java/lang/Cloneable" (some 0) with
  accessFlags := 1537
  interfaces := #[]
  cf := some (fileOf pool7 2 #[] #[] 1537 4 #[] #[])
  fields := #[]
  methods := #[]
  instanceTypes := #[]
  staticTypes := #[]
  resolved := Array.replicate 8 none
  statics := none }

/-- the primitive byte -/
def k8 : Class := { plain "byte" none with kind := .primitive 'B', accessFlags := 0x411 }
/-- [B -/
def k9 : Class := { plain "[B" (some 0) with kind := .array 8 .byte, interfaces := #[7, 4], accessFlags := 1041 }

/-- the primitive int -/
def k10 : Class := { plain "int" none with kind := .primitive 'I', accessFlags := 0x411 }
/-- [I -/
def k11 : Class := { plain "[I" (some 0) with kind := .array 10 .int, interfaces := #[7, 4], accessFlags := 1041 }

def heap : Heap := #[{ cls := 6, slots := #[.ref 1, .ref 2, .null, .null, .null], vm := .statics 6 },
  { cls := 6, slots := #[.null, .int 0, .int 0, .null, .null], vm := .none },
  { cls := 6, slots := #[.null, .int 1, .int 0, .null, .null], vm := .none }]
def classes : Array Class := #[k0, k1, k2, k3, k4, k5, k6, k7, k8, k9, k10, k11]
def interned : List (Array UInt16 × Addr) := []
def slotsUsed : Nat := 15
def theMethod : MethodId := ⟨1, 1⟩
def args0 : Array Value := #[.int 5]
def aboutOver (below : List Frame) : State where
  vm := { classes := classes, interned := interned.toArray }
  heap := heap
  slotsUsed := slotsUsed
  threads := #[{ frames := .invoking theMethod args0 :: below }]
def below0 : List Frame := [.native { method := ⟨0, 0⟩, args := #[] }]
def about1 : State := aboutOver below0
def p0 : Program := .bare "" "" ""
def e0 : Env := launch0.env 0 0 0
theorem w_frames : about1.frames = Frame.invoking theMethod args0 :: below0 := rfl
set_option maxRecDepth 65536 in
theorem w_args : argsFit about1.vm theMethod args0 = true := by decide +kernel
set_option maxRecDepth 65536 in
theorem w_heap : heapFits about1 = true := by decide +kernel
set_option maxRecDepth 65536 in
theorem w_runnable : about1.curStatus? = some .runnable := by decide +kernel
set_option maxRecDepth 65536 in
theorem w_alone : about1.alone = true := by decide +kernel
set_option maxRecDepth 65536 in
theorem w_named : about1.methodNamed? x = some theMethod := by decide +kernel
set_option maxRecDepth 65536 in
theorem w_hears : about1.hears theMethod below0 = true := by decide +kernel
set_option maxRecDepth 65536 in
theorem w_ripe : about1.ripe theMethod args0 below0 = true := by decide +kernel
theorem w_running : about1.status = .running := rfl
set_option maxRecDepth 65536 in
theorem w_room : about1.hasRoom e0.platform room_1 = true :=
  launch0.hasRoom_least _ room_1 (by decide +kernel) (by decide +kernel) (by decide +kernel) (by decide +kernel) (by decide +kernel) (by decide +kernel)
theorem allAtoms_all (ts : List Jvm.Cond) (a : Array Jvm.Value) (st : Jvm.State) : (allAtoms ts).before a st = ts.all (fun c => c.before a st) := by
  induction ts with
  | nil => rfl
  | cons c t ih =>
    show (Jvm.Cond.and c (allAtoms t)).before a st = _
    rw [Jvm.Cond.before_and, ih, List.all_cons]
def words1 : List Jvm.Cond := Jvm.Cond.code x code maxLocals ret :: tables_1
/-- a 'code' word, met by the world's own term for the bytes: nothing is compared byte by byte -/
theorem code_word {y : MethodName} {bytes : ByteArray} {mx : Nat} {rt : Option FieldType} {a : Array Value} {s : State} {m : MethodId} {meth : Method} {c : Code} (h1 : s.methodNamed? y = some m) (h2 : s.vm.method? m = some meth) (h3 : meth.code = some c) (h4 : c.code = bytes)
    (h5 : (c.maxLocals == mx && c.exceptionTable.isEmpty && decide (c.maxStack ≤ mostOperands) && decide (meth.sig.returnType = rt) && !meth.locks && decide (parseMethodDescriptor y.desc = some meth.sig)) = true) : (Jvm.Cond.code y bytes mx rt).before a s = true := by
  simp only [Bool.and_eq_true, beq_iff_eq, Bool.not_eq_true', decide_eq_true_eq] at h5
  obtain ⟨⟨⟨⟨⟨g1, g2⟩, g3⟩, g4⟩, g5⟩, g6⟩ := h5
  simp [Cond.before, Cond.holds, Cond.value, h1, h2, h3, h4, g1, g2, g3, g4, g5, g6]
def isCode : Jvm.Cond → Bool
  | .code _ _ _ _ => true
  | _ => false
theorem all_split {L : List Jvm.Cond} {P : Jvm.Cond → Bool} (h1 : L.all (fun c => isCode c || P c) = true) (h2 : ∀ c ∈ L.filter isCode, P c = true) : L.all P = true := by
  refine List.all_eq_true.mpr fun c hc => ?_
  have h := List.all_eq_true.mp h1 c hc
  rcases Bool.eq_false_or_eq_true (isCode c) with hi | hi
  · exact h2 c (List.mem_filter.mpr ⟨hc, hi⟩)
  · simpa [hi] using h
set_option maxRecDepth 65536 in
theorem w_c0 : (Jvm.Cond.code x code maxLocals ret).before args0 about1 = true := code_word (m := ⟨1, 1⟩) (meth := k1m1) (c := k1c1) (by decide +kernel) rfl rfl rfl (by decide +kernel)
set_option maxRecDepth 65536 in
theorem w_c1 : (Jvm.Cond.code ({ cls := "com/example/finalmark/finalmark/Side", name := "opposite", desc := "()Lcom/example/finalmark/finalmark/Side;" } : Jvm.MethodName) prog_48_method_7_code (1 : Nat) (Option.some (Jvm.ClassFile.FieldType.object "com/example/finalmark/finalmark/Side"))).before args0 about1 = true := code_word (m := ⟨6, 0⟩) (meth := k6m0) (c := k6c0) (by decide +kernel) rfl rfl rfl (by decide +kernel)
def codes1 : List Jvm.Cond := [Jvm.Cond.code x code maxLocals ret, Jvm.Cond.code ({ cls := "com/example/finalmark/finalmark/Side", name := "opposite", desc := "()Lcom/example/finalmark/finalmark/Side;" } : Jvm.MethodName) prog_48_method_7_code (1 : Nat) (Option.some (Jvm.ClassFile.FieldType.object "com/example/finalmark/finalmark/Side"))]
set_option maxRecDepth 65536 in
theorem codes_eq : words1.filter isCode = codes1 := rfl
theorem w_codes : ∀ c ∈ words1.filter isCode, c.before args0 about1 = true := by
  rw [codes_eq]
  intro c hc
  simp only [codes1, List.mem_cons, List.not_mem_nil, or_false] at hc
  rcases hc with rfl | rfl
  · exact w_c0
  · exact w_c1
set_option maxRecDepth 65536 in
theorem w_t1 : words1.all (fun c => isCode c || c.before args0 about1) = true := by decide +kernel
theorem w_tables : (allAtoms (Jvm.Cond.code x code maxLocals ret :: tables_1)).before args0 about1 = true := by
  rw [allAtoms_all]
  show words1.all (fun c => c.before args0 about1) = true
  refine all_split ?_ w_codes
  rw [w_t1]
set_option maxRecDepth 65536 in
theorem w_case : (Jvm.Cond.and given_1 narrow_1).before args0 about1 = true := by decide +kernel
theorem w_applies : (headSpec (Jvm.Cond.code x code maxLocals ret :: tables_1) room_1).applies x e0.platform about1 = true :=
  (Spec.applies_iff w_frames).mpr ⟨w_running, w_runnable, w_alone, w_named, w_hears, w_ripe, w_room, w_tables⟩
theorem atStart : AtStart classFile x code maxLocals ret World_1 tables_1 room_1 Calls_1 rest_1 Pre_1 launch0 p0 e0 about1 theMethod args0 below0 :=
  ⟨lists_1, trivial, launch0.admits_env _ _ _, launch0.least_env, fairChoices_fair.cas, fairChoices_fair.clock, w_frames, w_args, w_heap, w_applies, trivial, trivial, w_case⟩
end start1
theorem witness_1 : WitnessClaimed_1 := ⟨start1.p0, start1.e0, start1.about1, start1.theMethod, start1.args0, start1.below0, start1.atStart⟩
end Jvm.Pilot.@@N@@
