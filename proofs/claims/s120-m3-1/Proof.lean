import JvmDerived
import JvmDerived.Pilot.@@N@@Statement
import JvmDerived.Pilot.@@N@@Code
set_option linter.unusedVariables false
set_option linter.unusedSimpArgs false
namespace Jvm.RoadKit
open Sem ClassFile Op Lib Jvm.Stand Jvm.Free Jvm.LawKit
section New
variable {p : Program} {l : Launch} {e : Env} {R : Room} {s : State} {m : MethodId} {args : Array Value} {below : List Frame} {meth : Method} {c : Code} {T : State} {locs : List Loc} {cells slots : Nat}
theorem retI (X : Stand p l e R s m args below meth c T locs cells slots) (hx : p.tables.exec = Jvm.exec) {pc : Nat} {Ls : Array Slot} {z : Int32} {rest : List Value} (hret : meth.sig.returnType = some .int) (hd : decode c.code pc = .ok (.ireturn, 1)) {fs : List Frame}
    (hl : ∀ (f : JFrame) (acts : List Action), f.method = m → f.locked = none → f.entered = [] → (doReturn e (T.setTop f) acts (some (.int z))).1 = T.setFrames fs) : Steps p.tables e below (T.setTop (mkF m pc Ls (.int z :: rest))) (T.setFrames fs) := by
  have hm' : T.vm.method? m = some meth := X.method'
  have hn : narrow .int (.int z) = .int z := rfl
  show Steps p.tables e below (T.setTop { method := m, pc := pc, locals := Ls, stack := _ :: rest, locked := none }) _
  jvm_step X.here [X.here.top, hx, hd, hm', hret, hn]
  first | (intro acts; rw [hl _ acts rfl rfl rfl]) | rw [hl _ _ rfl rfl rfl]
  exact Steps.refl _
theorem retL (X : Stand p l e R s m args below meth c T locs cells slots) (hx : p.tables.exec = Jvm.exec) {pc : Nat} {Ls : Array Slot} {z : Int64} {rest : List Value} (hret : meth.sig.returnType = some .long) (hd : decode c.code pc = .ok (.lreturn, 1)) {fs : List Frame}
    (hl : ∀ (f : JFrame) (acts : List Action), f.method = m → f.locked = none → f.entered = [] → (doReturn e (T.setTop f) acts (some (.long z))).1 = T.setFrames fs) : Steps p.tables e below (T.setTop (mkF m pc Ls (.long z :: rest))) (T.setFrames fs) := by
  have hm' : T.vm.method? m = some meth := X.method'
  have hn : narrow .long (.long z) = .long z := rfl
  show Steps p.tables e below (T.setTop { method := m, pc := pc, locals := Ls, stack := _ :: rest, locked := none }) _
  jvm_step X.here [X.here.top, hx, hd, hm', hret, hn]
  first | (intro acts; rw [hl _ acts rfl rfl rfl]) | rw [hl _ _ rfl rfl rfl]
  exact Steps.refl _
theorem retA (X : Stand p l e R s m args below meth c T locs cells slots) (hx : p.tables.exec = Jvm.exec) {pc : Nat} {Ls : Array Slot} {z : Value} {ty : FieldType} {rest : List Value} (hv : z.isRef = true) (hty : ty.isReference = true) (hret : meth.sig.returnType = some ty) (hd : decode c.code pc = .ok (.areturn, 1)) {fs : List Frame}
    (hl : ∀ (f : JFrame) (acts : List Action), f.method = m → f.locked = none → f.entered = [] → (doReturn e (T.setTop f) acts (some z)).1 = T.setFrames fs) : Steps p.tables e below (T.setTop (mkF m pc Ls (z :: rest))) (T.setFrames fs) := by
  have hm' : T.vm.method? m = some meth := X.method'
  show Steps p.tables e below (T.setTop { method := m, pc := pc, locals := Ls, stack := _ :: rest, locked := none }) _
  jvm_step X.here [X.here.top, hx, hd, hm', hret, hv, hty]
  first | (intro acts; rw [hl _ acts rfl rfl rfl]) | rw [hl _ _ rfl rfl rfl]
  exact Steps.refl _
end New
theorem own_fw {tb : Tables} {e : Env} {below : List Frame} {A B : State} {P : State → Outcome → Prop} (h : ∀ t, Steps tb e below A t → Steps tb e below B t) (k : ∃ t o, Steps tb e below A t ∧ P t o) : ∃ t o, Steps tb e below B t ∧ P t o := by
  obtain ⟨t, o, h1, h2⟩ := k
  exact ⟨t, o, h t h1, h2⟩
def own_irem (x y : Int32) : Int32 := x - (x / y) * y
def own_lrem (x y : Int64) : Int64 := x - (x / y) * y
end Jvm.RoadKit
namespace Jvm.Pilot.@@N@@
open Jvm Jvm.ClassFile Sem Op Lib Jvm.Free Jvm.Stand Jvm.LawKit Jvm.RoadKit Bundle Jvm.Pilot.@@N@@.Jvm.D
def pickF (p0 : Int32) (jpeg png gif tiff bmp : Addr) : Addr := if p0 = (0 : Int32) then jpeg else if p0 = (1 : Int32) then png else if p0 = (2 : Int32) then gif else if p0 = (3 : Int32) then tiff else bmp
theorem d1_0 : decode method_2_code 0 = .ok (.iload_n 0, 1) := by decide +kernel
theorem d1_1 : decode method_2_code 1 = .ok (.ifCond .ne 7, 3) := by decide +kernel
theorem d1_4 : decode method_2_code 4 = .ok (.getstatic 7, 3) := by decide +kernel
theorem d1_7 : decode method_2_code 7 = .ok (.areturn, 1) := by decide +kernel
theorem d1_8 : decode method_2_code 8 = .ok (.iload_n 0, 1) := by decide +kernel
theorem d1_9 : decode method_2_code 9 = .ok (.iconst 1, 1) := by decide +kernel
theorem d1_10 : decode method_2_code 10 = .ok (.if_icmp .ne 7, 3) := by decide +kernel
theorem d1_13 : decode method_2_code 13 = .ok (.getstatic 13, 3) := by decide +kernel
theorem d1_16 : decode method_2_code 16 = .ok (.areturn, 1) := by decide +kernel
theorem d1_17 : decode method_2_code 17 = .ok (.iload_n 0, 1) := by decide +kernel
theorem d1_18 : decode method_2_code 18 = .ok (.iconst 2, 1) := by decide +kernel
theorem d1_19 : decode method_2_code 19 = .ok (.if_icmp .ne 7, 3) := by decide +kernel
theorem d1_22 : decode method_2_code 22 = .ok (.getstatic 16, 3) := by decide +kernel
theorem d1_25 : decode method_2_code 25 = .ok (.areturn, 1) := by decide +kernel
theorem d1_26 : decode method_2_code 26 = .ok (.iload_n 0, 1) := by decide +kernel
theorem d1_27 : decode method_2_code 27 = .ok (.iconst 3, 1) := by decide +kernel
theorem d1_28 : decode method_2_code 28 = .ok (.if_icmp .ne 7, 3) := by decide +kernel
theorem d1_31 : decode method_2_code 31 = .ok (.getstatic 19, 3) := by decide +kernel
theorem d1_34 : decode method_2_code 34 = .ok (.areturn, 1) := by decide +kernel
theorem d1_35 : decode method_2_code 35 = .ok (.getstatic 22, 3) := by decide +kernel
theorem d1_38 : decode method_2_code 38 = .ok (.areturn, 1) := by decide +kernel
theorem pn1 : plainName "collotype/model/ImageFormatVariationFormatPinLaw" = true := by first | (simp [plainName, overriddenIn]; done) | decide +kernel
theorem ef1 (m : MethodId) (p0 : Int32) : entryFrame m #[(.int p0)] 1 = mkF m 0 #[.val (.int p0)] [] := by first | (simp [entryFrame, mkF, argsToLocals, Value.category]; done) | rfl
def Q1 (Z : State) (p0 : Int32) (z : Addr) (h0 : Heap) (n0 : Nat) (v : Option Value) (h : Heap) (L : List Loc) : Prop := v = some (.ref z) ∧ Fr n0 L ∧ h = h0
set_option maxRecDepth 65536 in
set_option maxHeartbeats 40000000 in
theorem rm1 (l : Launch) (Z : State) (a0 : Array Value) (hw : ∀ d ∈ tables_1, d.before a0 Z = true) (ws : List Jvm.Cond) (p0 : Int32) (jpeg : Addr) (png : Addr) (gif : Addr) (tiff : Addr) (bmp : Addr) (z : Addr) (h0 : Heap) (n0 : Nat) (Z0 : n0 ≤ h0.size) (S_JPEG : Sta Z h0 "collotype/model/ImageFormat" "JPEG" "Lcollotype/model/ImageFormat;" (.ref jpeg)) (S_PNG : Sta Z h0 "collotype/model/ImageFormat" "PNG" "Lcollotype/model/ImageFormat;" (.ref png)) (S_GIF : Sta Z h0 "collotype/model/ImageFormat" "GIF" "Lcollotype/model/ImageFormat;" (.ref gif)) (S_TIFF : Sta Z h0 "collotype/model/ImageFormat" "TIFF" "Lcollotype/model/ImageFormat;" (.ref tiff)) (S_BMP : Sta Z h0 "collotype/model/ImageFormat" "BMP" "Lcollotype/model/ImageFormat;" (.ref bmp)) (hz : z = pickF p0 jpeg png gif tiff bmp) :
    MetFree l (⟨"collotype/model/ImageFormatVariationFormatPinLaw", "pick", "(I)Lcollotype/model/ImageFormat;"⟩ : MethodName) (head1 (Jvm.Cond.code (⟨"collotype/model/ImageFormatVariationFormatPinLaw", "pick", "(I)Lcollotype/model/ImageFormat;"⟩ : MethodName) method_2_code 1 (some (.object "collotype/model/ImageFormat")) :: ws) ({ frames := 0, cells := 0, slots := 0, locals := 0 } : Room)) (fun a U => a = #[(.int p0)] ∧ Z.Warmed39 U.vm ∧ U.heap = h0) (fun _ _ _ _ _ => True) (fun _ U o U' => ∃ v L, o = .returned v ∧ Q1 Z p0 z h0 n0 v U'.heap L ∧ FrameEnd U o U' L ({ frames := 0, cells := 0, slots := 0, locals := 0 } : Room).cells ({ frames := 0, cells := 0, slots := 0, locals := 0 } : Room).slots) := by
  refine MetFree.of_bodySF (plainFor_of_name pn1) hisR ?_
  intro p e s m args below meth c s₁ Bd hml0 hP hK
  obtain ⟨rfl, hZ, hh⟩ := hP
  have hx := Bd.exec
  have hby := Bd.bytes
  have hml : c.maxLocals = 1 := hml0
  have hown : s.vm.findClass "collotype/model/ImageFormatVariationFormatPinLaw" = some m.cls := findClass_of_methodNamed Bd.named
  have hnm := (name_of_methodNamed Bd.named Bd.method).1
  have X0 : Stand p l e ({ frames := 0, cells := 0, slots := 0, locals := 0 } : Room) s m #[(.int p0)] below meth c s₁ [] 0 0 := Stand.of_body Bd
  have e0 : s₁.heap = h0 := by rw [← hh, Bd.state]; rfl
  have N0 := Fr.nil n0
  refine own_fw (A := s₁.setTop (mkF m 0 #[.val (.int p0)] [])) (fun t k => castTop (ef1 m p0) k) ?_
  refine own_fw (A := s₁.setTop (mkF m 1 #[.val (.int p0)] [(.int p0)])) (fun t k => ?_) ?_
  · show Steps p.tables e below (s₁.setTop (mkF m 0 #[.val (.int p0)] [])) t
    refine XS.iloadN X0.here hx rfl (hb hby d1_0) rfl ?_
    exact k
  by_cases hc1_1 : p0 = (0 : Int32)
  · refine own_fw (A := s₁.setTop (mkF m 4 #[.val (.int p0)] [])) (fun t k => ?_) ?_
    · show Steps p.tables e below (s₁.setTop (mkF m 1 #[.val (.int p0)] [(.int p0)])) t
      refine XS.ifNo X0.here hx rfl (hb hby d1_1) rfl ((if0 _ _).trans (teq hc1_1).2) ?_
      exact k
    obtain ⟨T1_1, X1_1, e1_1, st1_1⟩ := getS2 X0 hx hZ hown (host := "") (Or.inl (hw _ (List.mem_of_getElem? (i := 5) rfl))) Via.refl e0 S_JPEG (g := (mkF m 4 #[.val (.int p0)] [])) rfl (hb hby d1_4)
    refine own_fw st1_1 ?_
    obtain ⟨fs, hr, hrun, hended, hW, hsame⟩ := X1_1.leave (v := some (.ref jpeg)) (fun h => by rw [Bd.returns] at h; cases h)
    refine ⟨_, _, retA (ty := (.object "collotype/model/ImageFormat")) X1_1 hx rfl rfl Bd.returns (hb hby d1_7) hr, hrun, hended, _, _, rfl, ?_, ⟨_, rfl⟩, hW, hsame.mono (by decide) (by decide)⟩
    have eh : (T1_1.setFrames fs).heap = h0 := e1_1
    rw [eh]
    exact ⟨by rw [hz, pickF, if_pos hc1_1], N0, rfl⟩
  · refine own_fw (A := s₁.setTop (mkF m 8 #[.val (.int p0)] [])) (fun t k => ?_) ?_
    · show Steps p.tables e below (s₁.setTop (mkF m 1 #[.val (.int p0)] [(.int p0)])) t
      refine XS.ifYes X0.here hx rfl (pc0 := 1) (pc' := 8) rfl (hb hby d1_1) rfl ((if0 _ _).trans (feq hc1_1).2) (by decide) (by decide) ?_
      exact k
    refine own_fw (A := s₁.setTop (mkF m 10 #[.val (.int p0)] [(.int (1 : Int32)), (.int p0)])) (fun t k => ?_) ?_
    · show Steps p.tables e below (s₁.setTop (mkF m 8 #[.val (.int p0)] [])) t
      refine XS.iloadN X0.here hx rfl (hb hby d1_8) rfl ?_
      show Steps p.tables e below (s₁.setTop (mkF m 9 #[.val (.int p0)] [(.int p0)])) t
      refine XS.iconst X0.here hx rfl (hb hby d1_9) ?_
      exact k
    by_cases hc1_2 : p0 = (1 : Int32)
    · refine own_fw (A := s₁.setTop (mkF m 13 #[.val (.int p0)] [])) (fun t k => ?_) ?_
      · show Steps p.tables e below (s₁.setTop (mkF m 10 #[.val (.int p0)] [(.int (1 : Int32)), (.int p0)])) t
        refine XS.icmpNo X0.here hx rfl (hb hby d1_10) rfl (teq hc1_2).2 ?_
        exact k
      obtain ⟨T1_2, X1_2, e1_2, st1_2⟩ := getS2 X0 hx hZ hown (host := "") (Or.inl (hw _ (List.mem_of_getElem? (i := 17) rfl))) Via.refl e0 S_PNG (g := (mkF m 13 #[.val (.int p0)] [])) rfl (hb hby d1_13)
      refine own_fw st1_2 ?_
      obtain ⟨fs, hr, hrun, hended, hW, hsame⟩ := X1_2.leave (v := some (.ref png)) (fun h => by rw [Bd.returns] at h; cases h)
      refine ⟨_, _, retA (ty := (.object "collotype/model/ImageFormat")) X1_2 hx rfl rfl Bd.returns (hb hby d1_16) hr, hrun, hended, _, _, rfl, ?_, ⟨_, rfl⟩, hW, hsame.mono (by decide) (by decide)⟩
      have eh : (T1_2.setFrames fs).heap = h0 := e1_2
      rw [eh]
      exact ⟨by rw [hz, pickF, if_neg hc1_1, if_pos hc1_2], N0, rfl⟩
    · refine own_fw (A := s₁.setTop (mkF m 17 #[.val (.int p0)] [])) (fun t k => ?_) ?_
      · show Steps p.tables e below (s₁.setTop (mkF m 10 #[.val (.int p0)] [(.int (1 : Int32)), (.int p0)])) t
        refine XS.icmpYes X0.here hx rfl (pc0 := 10) (pc' := 17) rfl (hb hby d1_10) rfl (feq hc1_2).2 (by decide) (by decide) ?_
        exact k
      refine own_fw (A := s₁.setTop (mkF m 19 #[.val (.int p0)] [(.int (2 : Int32)), (.int p0)])) (fun t k => ?_) ?_
      · show Steps p.tables e below (s₁.setTop (mkF m 17 #[.val (.int p0)] [])) t
        refine XS.iloadN X0.here hx rfl (hb hby d1_17) rfl ?_
        show Steps p.tables e below (s₁.setTop (mkF m 18 #[.val (.int p0)] [(.int p0)])) t
        refine XS.iconst X0.here hx rfl (hb hby d1_18) ?_
        exact k
      by_cases hc1_3 : p0 = (2 : Int32)
      · refine own_fw (A := s₁.setTop (mkF m 22 #[.val (.int p0)] [])) (fun t k => ?_) ?_
        · show Steps p.tables e below (s₁.setTop (mkF m 19 #[.val (.int p0)] [(.int (2 : Int32)), (.int p0)])) t
          refine XS.icmpNo X0.here hx rfl (hb hby d1_19) rfl (teq hc1_3).2 ?_
          exact k
        obtain ⟨T1_3, X1_3, e1_3, st1_3⟩ := getS2 X0 hx hZ hown (host := "") (Or.inl (hw _ (List.mem_of_getElem? (i := 22) rfl))) Via.refl e0 S_GIF (g := (mkF m 22 #[.val (.int p0)] [])) rfl (hb hby d1_22)
        refine own_fw st1_3 ?_
        obtain ⟨fs, hr, hrun, hended, hW, hsame⟩ := X1_3.leave (v := some (.ref gif)) (fun h => by rw [Bd.returns] at h; cases h)
        refine ⟨_, _, retA (ty := (.object "collotype/model/ImageFormat")) X1_3 hx rfl rfl Bd.returns (hb hby d1_25) hr, hrun, hended, _, _, rfl, ?_, ⟨_, rfl⟩, hW, hsame.mono (by decide) (by decide)⟩
        have eh : (T1_3.setFrames fs).heap = h0 := e1_3
        rw [eh]
        exact ⟨by rw [hz, pickF, if_neg hc1_1, if_neg hc1_2, if_pos hc1_3], N0, rfl⟩
      · refine own_fw (A := s₁.setTop (mkF m 26 #[.val (.int p0)] [])) (fun t k => ?_) ?_
        · show Steps p.tables e below (s₁.setTop (mkF m 19 #[.val (.int p0)] [(.int (2 : Int32)), (.int p0)])) t
          refine XS.icmpYes X0.here hx rfl (pc0 := 19) (pc' := 26) rfl (hb hby d1_19) rfl (feq hc1_3).2 (by decide) (by decide) ?_
          exact k
        refine own_fw (A := s₁.setTop (mkF m 28 #[.val (.int p0)] [(.int (3 : Int32)), (.int p0)])) (fun t k => ?_) ?_
        · show Steps p.tables e below (s₁.setTop (mkF m 26 #[.val (.int p0)] [])) t
          refine XS.iloadN X0.here hx rfl (hb hby d1_26) rfl ?_
          show Steps p.tables e below (s₁.setTop (mkF m 27 #[.val (.int p0)] [(.int p0)])) t
          refine XS.iconst X0.here hx rfl (hb hby d1_27) ?_
          exact k
        by_cases hc1_4 : p0 = (3 : Int32)
        · refine own_fw (A := s₁.setTop (mkF m 31 #[.val (.int p0)] [])) (fun t k => ?_) ?_
          · show Steps p.tables e below (s₁.setTop (mkF m 28 #[.val (.int p0)] [(.int (3 : Int32)), (.int p0)])) t
            refine XS.icmpNo X0.here hx rfl (hb hby d1_28) rfl (teq hc1_4).2 ?_
            exact k
          obtain ⟨T1_4, X1_4, e1_4, st1_4⟩ := getS2 X0 hx hZ hown (host := "") (Or.inl (hw _ (List.mem_of_getElem? (i := 15) rfl))) Via.refl e0 S_TIFF (g := (mkF m 31 #[.val (.int p0)] [])) rfl (hb hby d1_31)
          refine own_fw st1_4 ?_
          obtain ⟨fs, hr, hrun, hended, hW, hsame⟩ := X1_4.leave (v := some (.ref tiff)) (fun h => by rw [Bd.returns] at h; cases h)
          refine ⟨_, _, retA (ty := (.object "collotype/model/ImageFormat")) X1_4 hx rfl rfl Bd.returns (hb hby d1_34) hr, hrun, hended, _, _, rfl, ?_, ⟨_, rfl⟩, hW, hsame.mono (by decide) (by decide)⟩
          have eh : (T1_4.setFrames fs).heap = h0 := e1_4
          rw [eh]
          exact ⟨by rw [hz, pickF, if_neg hc1_1, if_neg hc1_2, if_neg hc1_3, if_pos hc1_4], N0, rfl⟩
        · refine own_fw (A := s₁.setTop (mkF m 35 #[.val (.int p0)] [])) (fun t k => ?_) ?_
          · show Steps p.tables e below (s₁.setTop (mkF m 28 #[.val (.int p0)] [(.int (3 : Int32)), (.int p0)])) t
            refine XS.icmpYes X0.here hx rfl (pc0 := 28) (pc' := 35) rfl (hb hby d1_28) rfl (feq hc1_4).2 (by decide) (by decide) ?_
            exact k
          obtain ⟨T1_5, X1_5, e1_5, st1_5⟩ := getS2 X0 hx hZ hown (host := "") (Or.inl (hw _ (List.mem_of_getElem? (i := 20) rfl))) Via.refl e0 S_BMP (g := (mkF m 35 #[.val (.int p0)] [])) rfl (hb hby d1_35)
          refine own_fw st1_5 ?_
          obtain ⟨fs, hr, hrun, hended, hW, hsame⟩ := X1_5.leave (v := some (.ref bmp)) (fun h => by rw [Bd.returns] at h; cases h)
          refine ⟨_, _, retA (ty := (.object "collotype/model/ImageFormat")) X1_5 hx rfl rfl Bd.returns (hb hby d1_38) hr, hrun, hended, _, _, rfl, ?_, ⟨_, rfl⟩, hW, hsame.mono (by decide) (by decide)⟩
          have eh : (T1_5.setFrames fs).heap = h0 := e1_5
          rw [eh]
          exact ⟨by rw [hz, pickF, if_neg hc1_1, if_neg hc1_2, if_neg hc1_3, if_neg hc1_4], N0, rfl⟩
theorem d2_0 : decode prog_69_method_6_code 0 = .ok (.aload_n 0, 1) := by decide +kernel
theorem d2_1 : decode prog_69_method_6_code 1 = .ok (.getfield 45, 3) := by decide +kernel
theorem d2_4 : decode prog_69_method_6_code 4 = .ok (.ifCond .eq 7, 3) := by decide +kernel
theorem d2_7 : decode prog_69_method_6_code 7 = .ok (.aload_n 0, 1) := by decide +kernel
theorem d2_8 : decode prog_69_method_6_code 8 = .ok (.goto 6, 3) := by decide +kernel
theorem d2_11 : decode prog_69_method_6_code 11 = .ok (.getstatic 7, 3) := by decide +kernel
theorem d2_14 : decode prog_69_method_6_code 14 = .ok (.areturn, 1) := by decide +kernel
theorem pn2 : plainName "collotype/model/ImageFormat" = true := by first | (simp [plainName, overriddenIn]; done) | decide +kernel
theorem ef2 (m : MethodId) (r0 : Addr) : entryFrame m #[(.ref r0)] 1 = mkF m 0 #[.val (.ref r0)] [] := by first | (simp [entryFrame, mkF, argsToLocals, Value.category]; done) | rfl
def Q2 (Z : State) (r0 z : Addr) (h0 : Heap) (n0 : Nat) (v : Option Value) (h : Heap) (L : List Loc) : Prop := v = some (.ref z) ∧ Fr n0 L ∧ h = h0
set_option maxRecDepth 65536 in
set_option maxHeartbeats 40000000 in
theorem rm2a (l : Launch) (Z : State) (a0 : Array Value) (hw : ∀ d ∈ tables_1, d.before a0 Z = true) (ws : List Jvm.Cond) (r0 : Addr) (png : Addr) (h0 : Heap) (n0 : Nat) (Z0 : n0 ≤ h0.size) (S_PNG : Sta Z h0 "collotype/model/ImageFormat" "PNG" "Lcollotype/model/ImageFormat;" (.ref png)) (F_v : Fld Z h0 r0 "collotype/model/ImageFormat" "variations" "Z" (.int (1 : Int32))) :
    MetFree l (⟨"collotype/model/ImageFormat", "variationFormat", "()Lcollotype/model/ImageFormat;"⟩ : MethodName) (head1 (Jvm.Cond.code (⟨"collotype/model/ImageFormat", "variationFormat", "()Lcollotype/model/ImageFormat;"⟩ : MethodName) prog_69_method_6_code 1 (some (.object "collotype/model/ImageFormat")) :: ws) ({ frames := 0, cells := 0, slots := 0, locals := 0 } : Room)) (fun a U => a = #[(.ref r0)] ∧ Z.Warmed39 U.vm ∧ U.heap = h0) (fun _ _ _ _ _ => True) (fun _ U o U' => ∃ v L, o = .returned v ∧ Q2 Z r0 r0 h0 n0 v U'.heap L ∧ FrameEnd U o U' L ({ frames := 0, cells := 0, slots := 0, locals := 0 } : Room).cells ({ frames := 0, cells := 0, slots := 0, locals := 0 } : Room).slots) := by
  refine MetFree.of_bodySF (plainFor_of_name pn2) hisR ?_
  intro p e s m args below meth c s₁ Bd hml0 hP hK
  obtain ⟨rfl, hZ, hh⟩ := hP
  have hx := Bd.exec
  have hby := Bd.bytes
  have hml : c.maxLocals = 1 := hml0
  have hown : s.vm.findClass "collotype/model/ImageFormat" = some m.cls := findClass_of_methodNamed Bd.named
  have hnm := (name_of_methodNamed Bd.named Bd.method).1
  have X0 : Stand p l e ({ frames := 0, cells := 0, slots := 0, locals := 0 } : Room) s m #[(.ref r0)] below meth c s₁ [] 0 0 := Stand.of_body Bd
  have e0 : s₁.heap = h0 := by rw [← hh, Bd.state]; rfl
  have N0 := Fr.nil n0
  refine own_fw (A := s₁.setTop (mkF m 0 #[.val (.ref r0)] [])) (fun t k => castTop (ef2 m r0) k) ?_
  refine own_fw (A := s₁.setTop (mkF m 1 #[.val (.ref r0)] [(.ref r0)])) (fun t k => ?_) ?_
  · show Steps p.tables e below (s₁.setTop (mkF m 0 #[.val (.ref r0)] [])) t
    refine XS.aloadN X0.here hx rfl (hb hby d2_0) rfl rfl ?_
    exact k
  obtain ⟨T2_1, X2_1, e2_1, st2_1⟩ := getF X0 hx hZ hown (host := "") (Or.inl (hw _ (List.mem_of_getElem? (i := 13) rfl))) Via.refl e0 F_v (g := (mkF m 1 #[.val (.ref r0)] [(.ref r0)])) rfl rfl (hb hby d2_1)
  refine own_fw st2_1 ?_
  refine own_fw (A := T2_1.setTop (mkF m 14 #[.val (.ref r0)] [(.ref r0)])) (fun t k => ?_) ?_
  · show Steps p.tables e below (T2_1.setTop (mkF m 4 #[.val (.ref r0)] [(.int (1 : Int32))])) t
    refine XS.ifNo X2_1.here hx rfl (hb hby d2_4) rfl ((if0 _ _).trans (feq (by decide : ¬ ((1 : Int32) = (0 : Int32)))).1) ?_
    show Steps p.tables e below (T2_1.setTop (mkF m 7 #[.val (.ref r0)] [])) t
    refine XS.aloadN X2_1.here hx rfl (hb hby d2_7) rfl rfl ?_
    show Steps p.tables e below (T2_1.setTop (mkF m 8 #[.val (.ref r0)] [(.ref r0)])) t
    refine XS.goto X2_1.here hx rfl (pc0 := 8) (pc' := 14) rfl (hb hby d2_8) (by decide) (by decide) ?_
    exact k
  obtain ⟨fs, hr, hrun, hended, hW, hsame⟩ := X2_1.leave (v := some (.ref r0)) (fun h => by rw [Bd.returns] at h; cases h)
  refine ⟨_, _, retA (ty := (.object "collotype/model/ImageFormat")) X2_1 hx rfl rfl Bd.returns (hb hby d2_14) hr, hrun, hended, _, _, rfl, ?_, ⟨_, rfl⟩, hW, hsame.mono (by decide) (by decide)⟩
  have eh : (T2_1.setFrames fs).heap = h0 := e2_1
  rw [eh]
  exact ⟨rfl, N0, rfl⟩
set_option maxRecDepth 65536 in
set_option maxHeartbeats 40000000 in
theorem rm2b (l : Launch) (Z : State) (a0 : Array Value) (hw : ∀ d ∈ tables_1, d.before a0 Z = true) (ws : List Jvm.Cond) (r0 : Addr) (png : Addr) (h0 : Heap) (n0 : Nat) (Z0 : n0 ≤ h0.size) (S_PNG : Sta Z h0 "collotype/model/ImageFormat" "PNG" "Lcollotype/model/ImageFormat;" (.ref png)) (F_v : Fld Z h0 r0 "collotype/model/ImageFormat" "variations" "Z" (.int (0 : Int32))) :
    MetFree l (⟨"collotype/model/ImageFormat", "variationFormat", "()Lcollotype/model/ImageFormat;"⟩ : MethodName) (head1 (Jvm.Cond.code (⟨"collotype/model/ImageFormat", "variationFormat", "()Lcollotype/model/ImageFormat;"⟩ : MethodName) prog_69_method_6_code 1 (some (.object "collotype/model/ImageFormat")) :: ws) ({ frames := 0, cells := 0, slots := 0, locals := 0 } : Room)) (fun a U => a = #[(.ref r0)] ∧ Z.Warmed39 U.vm ∧ U.heap = h0) (fun _ _ _ _ _ => True) (fun _ U o U' => ∃ v L, o = .returned v ∧ Q2 Z r0 png h0 n0 v U'.heap L ∧ FrameEnd U o U' L ({ frames := 0, cells := 0, slots := 0, locals := 0 } : Room).cells ({ frames := 0, cells := 0, slots := 0, locals := 0 } : Room).slots) := by
  refine MetFree.of_bodySF (plainFor_of_name pn2) hisR ?_
  intro p e s m args below meth c s₁ Bd hml0 hP hK
  obtain ⟨rfl, hZ, hh⟩ := hP
  have hx := Bd.exec
  have hby := Bd.bytes
  have hml : c.maxLocals = 1 := hml0
  have hown : s.vm.findClass "collotype/model/ImageFormat" = some m.cls := findClass_of_methodNamed Bd.named
  have hnm := (name_of_methodNamed Bd.named Bd.method).1
  have X0 : Stand p l e ({ frames := 0, cells := 0, slots := 0, locals := 0 } : Room) s m #[(.ref r0)] below meth c s₁ [] 0 0 := Stand.of_body Bd
  have e0 : s₁.heap = h0 := by rw [← hh, Bd.state]; rfl
  have N0 := Fr.nil n0
  refine own_fw (A := s₁.setTop (mkF m 0 #[.val (.ref r0)] [])) (fun t k => castTop (ef2 m r0) k) ?_
  refine own_fw (A := s₁.setTop (mkF m 1 #[.val (.ref r0)] [(.ref r0)])) (fun t k => ?_) ?_
  · show Steps p.tables e below (s₁.setTop (mkF m 0 #[.val (.ref r0)] [])) t
    refine XS.aloadN X0.here hx rfl (hb hby d2_0) rfl rfl ?_
    exact k
  obtain ⟨T2_1, X2_1, e2_1, st2_1⟩ := getF X0 hx hZ hown (host := "") (Or.inl (hw _ (List.mem_of_getElem? (i := 13) rfl))) Via.refl e0 F_v (g := (mkF m 1 #[.val (.ref r0)] [(.ref r0)])) rfl rfl (hb hby d2_1)
  refine own_fw st2_1 ?_
  refine own_fw (A := T2_1.setTop (mkF m 11 #[.val (.ref r0)] [])) (fun t k => ?_) ?_
  · show Steps p.tables e below (T2_1.setTop (mkF m 4 #[.val (.ref r0)] [(.int (0 : Int32))])) t
    refine XS.ifYes X2_1.here hx rfl (pc0 := 4) (pc' := 11) rfl (hb hby d2_4) rfl ((if0 _ _).trans (teq (rfl : (0 : Int32) = (0 : Int32))).1) (by decide) (by decide) ?_
    exact k
  obtain ⟨T2_2, X2_2, e2_2, st2_2⟩ := getS2 X2_1 hx hZ hown (host := "") (Or.inl (hw _ (List.mem_of_getElem? (i := 19) rfl))) Via.refl e2_1 S_PNG (g := (mkF m 11 #[.val (.ref r0)] [])) rfl (hb hby d2_11)
  refine own_fw st2_2 ?_
  obtain ⟨fs, hr, hrun, hended, hW, hsame⟩ := X2_2.leave (v := some (.ref png)) (fun h => by rw [Bd.returns] at h; cases h)
  refine ⟨_, _, retA (ty := (.object "collotype/model/ImageFormat")) X2_2 hx rfl rfl Bd.returns (hb hby d2_14) hr, hrun, hended, _, _, rfl, ?_, ⟨_, rfl⟩, hW, hsame.mono (by decide) (by decide)⟩
  have eh : (T2_2.setFrames fs).heap = h0 := e2_2
  rw [eh]
  exact ⟨rfl, N0, rfl⟩
theorem own_k5 (k : Int32) : own_irem (k &&& (2147483647 : Int32)) (5 : Int32) = 0 ∨ own_irem (k &&& (2147483647 : Int32)) (5 : Int32) = 1 ∨ own_irem (k &&& (2147483647 : Int32)) (5 : Int32) = 2 ∨ own_irem (k &&& (2147483647 : Int32)) (5 : Int32) = 3 ∨ own_irem (k &&& (2147483647 : Int32)) (5 : Int32) = 4 := by
  have h1 := c_and k 2147483647 (by decide)
  have h2 := (c_irem (k &&& 2147483647) 5 5 rfl).1 h1.1
  rw [← Jvm.irem_eq_mod] at h2
  change (own_irem (k &&& (2147483647 : Int32)) (5 : Int32)).toInt = _ at h2
  simp only [← Int32.toInt_inj, Int32.reduceToInt]
  omega
theorem pn0 : plainName "collotype/model/ImageFormatVariationFormatPinLaw" = true := by first | (simp [plainName, overriddenIn]; done) | decide +kernel
theorem pd0_0 : parseMethodDescriptor "(I)Lcollotype/model/ImageFormat;" = some ⟨[.int], some (.object "collotype/model/ImageFormat")⟩ := by decide +kernel
theorem pd0_1 : parseMethodDescriptor "()Lcollotype/model/ImageFormat;" = some ⟨[], some (.object "collotype/model/ImageFormat")⟩ := by decide +kernel
theorem ef0 (m : MethodId) (p0 : Int32) : entryFrame m #[(.int p0)] maxLocals = mkF m 0 #[.val (.int p0), .unset, .unset, .unset, .unset] [] := by first | (simp [entryFrame, mkF, argsToLocals, Value.category, maxLocals]; done) | rfl
def Q0 (Z : State) (p0 : Int32) (h0 : Heap) (n0 : Nat) (v : Option Value) (h : Heap) (L : List Loc) : Prop := v = some (.int 1) ∧ Fr n0 L
set_option maxRecDepth 65536 in
set_option maxHeartbeats 40000000 in
theorem rm0 (l : Launch) (Z : State) (a0 : Array Value) (hw : ∀ d ∈ tables_1, d.before a0 Z = true) (ws : List Jvm.Cond) (p0 : Int32) (jpeg : Addr) (png : Addr) (gif : Addr) (tiff : Addr) (bmp : Addr) (h0 : Heap) (n0 : Nat) (Z0 : n0 ≤ h0.size) (S_JPEG : Sta Z h0 "collotype/model/ImageFormat" "JPEG" "Lcollotype/model/ImageFormat;" (.ref jpeg)) (S_PNG : Sta Z h0 "collotype/model/ImageFormat" "PNG" "Lcollotype/model/ImageFormat;" (.ref png)) (S_GIF : Sta Z h0 "collotype/model/ImageFormat" "GIF" "Lcollotype/model/ImageFormat;" (.ref gif)) (S_TIFF : Sta Z h0 "collotype/model/ImageFormat" "TIFF" "Lcollotype/model/ImageFormat;" (.ref tiff)) (S_BMP : Sta Z h0 "collotype/model/ImageFormat" "BMP" "Lcollotype/model/ImageFormat;" (.ref bmp)) (E_jpeg : Exa Z h0 jpeg "collotype/model/ImageFormat") (F_jpeg : Fld Z h0 jpeg "collotype/model/ImageFormat" "variations" "Z" (.int (1 : Int32))) (E_png : Exa Z h0 png "collotype/model/ImageFormat") (F_png : Fld Z h0 png "collotype/model/ImageFormat" "variations" "Z" (.int (1 : Int32))) (E_gif : Exa Z h0 gif "collotype/model/ImageFormat") (F_gif : Fld Z h0 gif "collotype/model/ImageFormat" "variations" "Z" (.int (1 : Int32))) (E_tiff : Exa Z h0 tiff "collotype/model/ImageFormat") (F_tiff : Fld Z h0 tiff "collotype/model/ImageFormat" "variations" "Z" (.int (0 : Int32))) (E_bmp : Exa Z h0 bmp "collotype/model/ImageFormat") (F_bmp : Fld Z h0 bmp "collotype/model/ImageFormat" "variations" "Z" (.int (0 : Int32))) :
    MetFree l x (head1 (Jvm.Cond.code x code maxLocals ret :: ws) room_1) (fun a U => a = #[(.int p0)] ∧ Z.Warmed39 U.vm ∧ U.heap = h0) (fun _ _ _ _ _ => True) (fun _ U o U' => ∃ v L, o = .returned v ∧ Q0 Z p0 h0 n0 v U'.heap L ∧ FrameEnd U o U' L room_1.cells room_1.slots) := by
  refine MetFree.of_bodySF (plainFor_of_name pn0) hisR ?_
  intro p e s m args below meth c s₁ Bd hml0 hP hK
  obtain ⟨rfl, hZ, hh⟩ := hP
  have hx := Bd.exec
  have hby := Bd.bytes
  have hml : c.maxLocals = 5 := hml0
  have hown : s.vm.findClass "collotype/model/ImageFormatVariationFormatPinLaw" = some m.cls := findClass_of_methodNamed Bd.named
  have hnm := (name_of_methodNamed Bd.named Bd.method).1
  have X0 : Stand p l e room_1 s m #[(.int p0)] below meth c s₁ [] 0 0 := Stand.of_body Bd
  have e0 : s₁.heap = h0 := by rw [← hh, Bd.state]; rfl
  have N0 := Fr.nil n0
  refine own_fw (A := s₁.setTop (mkF m 0 #[.val (.int p0), .unset, .unset, .unset, .unset] [])) (fun t k => castTop (ef0 m p0) k) ?_
  refine own_fw (A := s₁.setTop (mkF m 7 #[.val (.int p0), .val (.int (own_irem (p0 &&& (2147483647 : Int32)) (5 : Int32))), .unset, .unset, .unset] [])) (fun t k => ?_) ?_
  · show Steps p.tables e below (s₁.setTop (mkF m 0 #[.val (.int p0), .unset, .unset, .unset, .unset] [])) t
    refine XS.iloadN X0.here hx rfl (hb hby at_0) rfl ?_
    show Steps p.tables e below (s₁.setTop (mkF m 1 #[.val (.int p0), .unset, .unset, .unset, .unset] [(.int p0)])) t
    refine X0.ldcInt hx hown (mvT hZ (hw _ (List.mem_of_getElem? (i := 0) rfl))) (g := (mkF m 1 #[.val (.int p0), .unset, .unset, .unset, .unset] [(.int p0)])) rfl (hb hby at_1) _ ?_
    show Steps p.tables e below (s₁.setTop (mkF m 3 #[.val (.int p0), .unset, .unset, .unset, .unset] [(.int (2147483647 : Int32)), (.int p0)])) t
    refine XS.iand X0.here hx rfl (hb hby at_3) rfl ?_
    show Steps p.tables e below (s₁.setTop (mkF m 4 #[.val (.int p0), .unset, .unset, .unset, .unset] [(.int (p0 &&& (2147483647 : Int32)))])) t
    refine XS.iconst X0.here hx rfl (hb hby at_4) ?_
    show Steps p.tables e below (s₁.setTop (mkF m 5 #[.val (.int p0), .unset, .unset, .unset, .unset] [(.int (5 : Int32)), (.int (p0 &&& (2147483647 : Int32)))])) t
    refine XS.irem X0.here hx rfl (hb hby at_5) rfl (by decide) ?_
    show Steps p.tables e below (s₁.setTop (mkF m 6 #[.val (.int p0), .unset, .unset, .unset, .unset] [(.int (own_irem (p0 &&& (2147483647 : Int32)) (5 : Int32)))])) t
    refine XS.istoreN X0.here hx rfl (hb hby at_6) rfl (l' := #[.val (.int p0), .val (.int (own_irem (p0 &&& (2147483647 : Int32)) (5 : Int32))), .unset, .unset, .unset]) rfl ?_
    exact k
  rcases own_k5 p0 with hk | hk | hk | hk | hk
  · refine own_fw (A := s₁.setTop (mkF m 8 #[.val (.int p0), .val (.int (own_irem (p0 &&& (2147483647 : Int32)) (5 : Int32))), .unset, .unset, .unset] [(.int (own_irem (p0 &&& (2147483647 : Int32)) (5 : Int32)))])) (fun t k => ?_) ?_
    · show Steps p.tables e below (s₁.setTop (mkF m 7 #[.val (.int p0), .val (.int (own_irem (p0 &&& (2147483647 : Int32)) (5 : Int32))), .unset, .unset, .unset] [])) t
      refine XS.iloadN X0.here hx rfl (hb hby at_7) rfl ?_
      exact k
    obtain ⟨_, _, ⟨T0_1, L0_1, k0_1, n0_1⟩, -, X0_1, ⟨Lc0_1, hQ0_1, l0_1, y0_1, z0_1⟩, st0_1⟩ := Jvm.LawKit.callS X0 hx (y := (⟨"collotype/model/ImageFormatVariationFormatPinLaw", "pick", "(I)Lcollotype/model/ImageFormat;"⟩ : MethodName)) hown (mvT hZ (hw _ (List.mem_of_getElem? (i := 1) rfl))) (mvT hZ (hw _ (List.mem_of_getElem? (i := 2) rfl))) (mvT hZ (hw _ (List.mem_of_getElem? (i := 3) rfl))) (mvT hZ (hw _ (List.mem_of_getElem? (i := 4) rfl))) (by decide) (backOf (W := 0) (rm1 l Z a0 hw [] ((own_irem (p0 &&& (2147483647 : Int32)) (5 : Int32))) jpeg png gif tiff bmp jpeg h0 n0 Z0 S_JPEG S_PNG S_GIF S_TIFF S_BMP (by rw [hk]; rfl)) hZ (hw _ (List.mem_of_getElem? (i := 4) rfl)) (hw _ (List.mem_of_getElem? (i := 3) rfl)) (by decide) (by decide)) (g := (mkF m 8 #[.val (.int p0), .val (.int (own_irem (p0 &&& (2147483647 : Int32)) (5 : Int32))), .unset, .unset, .unset] [(.int (own_irem (p0 &&& (2147483647 : Int32)) (5 : Int32)))])) rfl (by rw [hml]; rfl) (argsL := [(.int (own_irem (p0 &&& (2147483647 : Int32)) (5 : Int32)))]) (rest := []) (lenOf pd0_0 rfl) rfl (by show 2 * 0 + _ ≤ _; exact Nat.le_of_eq rfl) (hb hby at_8) (fun _ _ => ⟨rfl, e0, (by decide : 0 + 0 ≤ _), (by decide : 0 + 0 ≤ _)⟩)
    dsimp only [Pt.U, Pt.locs, Pt.cells, Pt.slots] at X0_1 l0_1 y0_1 z0_1 st0_1 hQ0_1
    subst l0_1 y0_1 z0_1
    obtain ⟨rfl, N0_1q, e0_1⟩ := hQ0_1
    have N0_1 := Fr.app N0 N0_1q
    refine own_fw st0_1 ?_
    refine own_fw (A := T0_1.setTop (mkF m 27 #[.val (.int p0), .val (.int (own_irem (p0 &&& (2147483647 : Int32)) (5 : Int32))), .val (.ref jpeg), .val (.ref jpeg), .unset] [(.ref jpeg)])) (fun t k => ?_) ?_
    · show Steps p.tables e below (T0_1.setTop (mkF m 11 #[.val (.int p0), .val (.int (own_irem (p0 &&& (2147483647 : Int32)) (5 : Int32))), .unset, .unset, .unset] [(.ref jpeg)])) t
      refine XS.astoreN X0_1.here hx rfl (hb hby at_11) rfl rfl (l' := #[.val (.int p0), .val (.int (own_irem (p0 &&& (2147483647 : Int32)) (5 : Int32))), .val (.ref jpeg), .unset, .unset]) rfl ?_
      show Steps p.tables e below (T0_1.setTop (mkF m 12 #[.val (.int p0), .val (.int (own_irem (p0 &&& (2147483647 : Int32)) (5 : Int32))), .val (.ref jpeg), .unset, .unset] [])) t
      refine XS.iloadN X0_1.here hx rfl (hb hby at_12) rfl ?_
      show Steps p.tables e below (T0_1.setTop (mkF m 13 #[.val (.int p0), .val (.int (own_irem (p0 &&& (2147483647 : Int32)) (5 : Int32))), .val (.ref jpeg), .unset, .unset] [(.int (own_irem (p0 &&& (2147483647 : Int32)) (5 : Int32)))])) t
      refine XS.iconst X0_1.here hx rfl (hb hby at_13) ?_
      show Steps p.tables e below (T0_1.setTop (mkF m 14 #[.val (.int p0), .val (.int (own_irem (p0 &&& (2147483647 : Int32)) (5 : Int32))), .val (.ref jpeg), .unset, .unset] [(.int (2 : Int32)), (.int (own_irem (p0 &&& (2147483647 : Int32)) (5 : Int32)))])) t
      refine XS.icmpNo X0_1.here hx rfl (hb hby at_14) rfl (flt (by rw [hk]; decide)).2.2.1 ?_
      show Steps p.tables e below (T0_1.setTop (mkF m 17 #[.val (.int p0), .val (.int (own_irem (p0 &&& (2147483647 : Int32)) (5 : Int32))), .val (.ref jpeg), .unset, .unset] [])) t
      refine XS.aloadN X0_1.here hx rfl (hb hby at_17) rfl rfl ?_
      show Steps p.tables e below (T0_1.setTop (mkF m 18 #[.val (.int p0), .val (.int (own_irem (p0 &&& (2147483647 : Int32)) (5 : Int32))), .val (.ref jpeg), .unset, .unset] [(.ref jpeg)])) t
      refine XS.astoreN X0_1.here hx rfl (hb hby at_18) rfl rfl (l' := #[.val (.int p0), .val (.int (own_irem (p0 &&& (2147483647 : Int32)) (5 : Int32))), .val (.ref jpeg), .val (.ref jpeg), .unset]) rfl ?_
      show Steps p.tables e below (T0_1.setTop (mkF m 19 #[.val (.int p0), .val (.int (own_irem (p0 &&& (2147483647 : Int32)) (5 : Int32))), .val (.ref jpeg), .val (.ref jpeg), .unset] [])) t
      refine XS.goto X0_1.here hx rfl (pc0 := 19) (pc' := 26) rfl (hb hby at_19) (by decide) (by decide) ?_
      show Steps p.tables e below (T0_1.setTop (mkF m 26 #[.val (.int p0), .val (.int (own_irem (p0 &&& (2147483647 : Int32)) (5 : Int32))), .val (.ref jpeg), .val (.ref jpeg), .unset] [])) t
      refine XS.aloadN X0_1.here hx rfl (hb hby at_26) rfl rfl ?_
      exact k
    obtain ⟨cq0_2, kq0_2, q0_2a, q0_2b, q0_2c⟩ := isOf hZ e0_1 E_jpeg
    obtain ⟨_, _, ⟨T0_2, L0_2, k0_2, n0_2⟩, -, X0_2, ⟨Lc0_2, hQ0_2, l0_2, y0_2, z0_2⟩, st0_2⟩ := X0_1.virtualBack hx (y := (⟨"collotype/model/ImageFormat", "variationFormat", "()Lcollotype/model/ImageFormat;"⟩ : MethodName)) (z := (⟨"collotype/model/ImageFormat", "variationFormat", "()Lcollotype/model/ImageFormat;"⟩ : MethodName)) hown (mvT hZ (hw _ (List.mem_of_getElem? (i := 8) rfl))) (mvT hZ (hw _ (List.mem_of_getElem? (i := 9) rfl))) (notFace_of_selects (args := #[]) (mvT hZ (hw _ (List.mem_of_getElem? (i := 11) rfl)))) (mvT hZ (hw _ (List.mem_of_getElem? (i := 11) rfl))) (mvT hZ (hw _ (List.mem_of_getElem? (i := 10) rfl))) (by decide) (backOf (W := 0) (rm2a l Z a0 hw [] jpeg png h0 n0 Z0 S_PNG F_jpeg) hZ (hw _ (List.mem_of_getElem? (i := 12) rfl)) (hw _ (List.mem_of_getElem? (i := 6) rfl)) (by decide) (by decide)) q0_2a q0_2c (g := (mkF m 27 #[.val (.int p0), .val (.int (own_irem (p0 &&& (2147483647 : Int32)) (5 : Int32))), .val (.ref jpeg), .val (.ref jpeg), .unset] [(.ref jpeg)])) rfl (by rw [hml]; rfl) (Steps.refl _) (argsL := []) (rest := []) (lenOf pd0_1 rfl) rfl (by show 2 * 0 + _ ≤ _; exact Nat.le_of_eq rfl) (hb hby at_27) (fun _ _ => ⟨rfl, e0_1, (by decide : 0 + 0 ≤ _), (by decide : 0 + 0 ≤ _)⟩)
    dsimp only [Pt.U, Pt.locs, Pt.cells, Pt.slots] at X0_2 l0_2 y0_2 z0_2 st0_2 hQ0_2
    subst l0_2 y0_2 z0_2
    obtain ⟨rfl, N0_2q, e0_2⟩ := hQ0_2
    have N0_2 := Fr.app N0_1 N0_2q
    refine own_fw (fun t k => st0_2.trans k) ?_
    refine own_fw (A := T0_2.setTop (mkF m 35 #[.val (.int p0), .val (.int (own_irem (p0 &&& (2147483647 : Int32)) (5 : Int32))), .val (.ref jpeg), .val (.ref jpeg), .val (.ref jpeg)] [(.ref jpeg), (.ref jpeg)])) (fun t k => ?_) ?_
    · show Steps p.tables e below (T0_2.setTop (mkF m 30 #[.val (.int p0), .val (.int (own_irem (p0 &&& (2147483647 : Int32)) (5 : Int32))), .val (.ref jpeg), .val (.ref jpeg), .unset] [(.ref jpeg)])) t
      refine XS.astore X0_2.here hx rfl (hb hby at_30) rfl rfl (l' := #[.val (.int p0), .val (.int (own_irem (p0 &&& (2147483647 : Int32)) (5 : Int32))), .val (.ref jpeg), .val (.ref jpeg), .val (.ref jpeg)]) rfl ?_
      show Steps p.tables e below (T0_2.setTop (mkF m 32 #[.val (.int p0), .val (.int (own_irem (p0 &&& (2147483647 : Int32)) (5 : Int32))), .val (.ref jpeg), .val (.ref jpeg), .val (.ref jpeg)] [])) t
      refine XS.aload X0_2.here hx rfl (hb hby at_32) rfl rfl ?_
      show Steps p.tables e below (T0_2.setTop (mkF m 34 #[.val (.int p0), .val (.int (own_irem (p0 &&& (2147483647 : Int32)) (5 : Int32))), .val (.ref jpeg), .val (.ref jpeg), .val (.ref jpeg)] [(.ref jpeg)])) t
      refine XS.aloadN X0_2.here hx rfl (hb hby at_34) rfl rfl ?_
      exact k
    refine own_fw (A := T0_2.setTop (mkF m 40 #[.val (.int p0), .val (.int (own_irem (p0 &&& (2147483647 : Int32)) (5 : Int32))), .val (.ref jpeg), .val (.ref jpeg), .val (.ref jpeg)] [])) (fun t k => ?_) ?_
    · refine Jvm.RoadKit.acmp (g := (mkF m 35 #[.val (.int p0), .val (.int (own_irem (p0 &&& (2147483647 : Int32)) (5 : Int32))), .val (.ref jpeg), .val (.ref jpeg), .val (.ref jpeg)] [(.ref jpeg), (.ref jpeg)])) X0_2 hx rfl rfl rfl (pc0 := 35) (pc' := 40) (same := true) rfl (hb hby at_35) rfl (decide_eq_true rfl) (by decide) (by decide) ?_
      exact k
    refine own_fw (A := T0_2.setTop (mkF m 42 #[.val (.int p0), .val (.int (own_irem (p0 &&& (2147483647 : Int32)) (5 : Int32))), .val (.ref jpeg), .val (.ref jpeg), .val (.ref jpeg)] [(.ref jpeg)])) (fun t k => ?_) ?_
    · show Steps p.tables e below (T0_2.setTop (mkF m 40 #[.val (.int p0), .val (.int (own_irem (p0 &&& (2147483647 : Int32)) (5 : Int32))), .val (.ref jpeg), .val (.ref jpeg), .val (.ref jpeg)] [])) t
      refine XS.aload X0_2.here hx rfl (hb hby at_40) rfl rfl ?_
      exact k
    obtain ⟨cq0_3, kq0_3, q0_3a, q0_3b, q0_3c⟩ := isOf hZ e0_2 E_jpeg
    obtain ⟨_, _, ⟨T0_3, L0_3, k0_3, n0_3⟩, -, X0_3, ⟨Lc0_3, hQ0_3, l0_3, y0_3, z0_3⟩, st0_3⟩ := X0_2.virtualBack hx (y := (⟨"collotype/model/ImageFormat", "variationFormat", "()Lcollotype/model/ImageFormat;"⟩ : MethodName)) (z := (⟨"collotype/model/ImageFormat", "variationFormat", "()Lcollotype/model/ImageFormat;"⟩ : MethodName)) hown (mvT hZ (hw _ (List.mem_of_getElem? (i := 8) rfl))) (mvT hZ (hw _ (List.mem_of_getElem? (i := 9) rfl))) (notFace_of_selects (args := #[]) (mvT hZ (hw _ (List.mem_of_getElem? (i := 11) rfl)))) (mvT hZ (hw _ (List.mem_of_getElem? (i := 11) rfl))) (mvT hZ (hw _ (List.mem_of_getElem? (i := 10) rfl))) (by decide) (backOf (W := 0) (rm2a l Z a0 hw [] jpeg png h0 n0 Z0 S_PNG F_jpeg) hZ (hw _ (List.mem_of_getElem? (i := 12) rfl)) (hw _ (List.mem_of_getElem? (i := 6) rfl)) (by decide) (by decide)) q0_3a q0_3c (g := (mkF m 42 #[.val (.int p0), .val (.int (own_irem (p0 &&& (2147483647 : Int32)) (5 : Int32))), .val (.ref jpeg), .val (.ref jpeg), .val (.ref jpeg)] [(.ref jpeg)])) rfl (by rw [hml]; rfl) (Steps.refl _) (argsL := []) (rest := []) (lenOf pd0_1 rfl) rfl (by show 2 * 0 + _ ≤ _; exact Nat.le_of_eq rfl) (hb hby at_42) (fun _ _ => ⟨rfl, e0_2, (by decide : 0 + 0 ≤ _), (by decide : 0 + 0 ≤ _)⟩)
    dsimp only [Pt.U, Pt.locs, Pt.cells, Pt.slots] at X0_3 l0_3 y0_3 z0_3 st0_3 hQ0_3
    subst l0_3 y0_3 z0_3
    obtain ⟨rfl, N0_3q, e0_3⟩ := hQ0_3
    have N0_3 := Fr.app N0_2 N0_3q
    refine own_fw (fun t k => st0_3.trans k) ?_
    refine own_fw (A := T0_3.setTop (mkF m 47 #[.val (.int p0), .val (.int (own_irem (p0 &&& (2147483647 : Int32)) (5 : Int32))), .val (.ref jpeg), .val (.ref jpeg), .val (.ref jpeg)] [(.ref jpeg), (.ref jpeg)])) (fun t k => ?_) ?_
    · show Steps p.tables e below (T0_3.setTop (mkF m 45 #[.val (.int p0), .val (.int (own_irem (p0 &&& (2147483647 : Int32)) (5 : Int32))), .val (.ref jpeg), .val (.ref jpeg), .val (.ref jpeg)] [(.ref jpeg)])) t
      refine XS.aload X0_3.here hx rfl (hb hby at_45) rfl rfl ?_
      exact k
    refine own_fw (A := T0_3.setTop (mkF m 50 #[.val (.int p0), .val (.int (own_irem (p0 &&& (2147483647 : Int32)) (5 : Int32))), .val (.ref jpeg), .val (.ref jpeg), .val (.ref jpeg)] [])) (fun t k => ?_) ?_
    · refine Jvm.RoadKit.acmp (g := (mkF m 47 #[.val (.int p0), .val (.int (own_irem (p0 &&& (2147483647 : Int32)) (5 : Int32))), .val (.ref jpeg), .val (.ref jpeg), .val (.ref jpeg)] [(.ref jpeg), (.ref jpeg)])) X0_3 hx rfl rfl rfl (pc0 := 47) (pc' := 50) (same := true) rfl (hb hby at_47) rfl (decide_eq_true rfl) (by decide) (by decide) ?_
      exact k
    refine own_fw (A := T0_3.setTop (mkF m 55 #[.val (.int p0), .val (.int (own_irem (p0 &&& (2147483647 : Int32)) (5 : Int32))), .val (.ref jpeg), .val (.ref jpeg), .val (.ref jpeg)] [(.int (1 : Int32))])) (fun t k => ?_) ?_
    · show Steps p.tables e below (T0_3.setTop (mkF m 50 #[.val (.int p0), .val (.int (own_irem (p0 &&& (2147483647 : Int32)) (5 : Int32))), .val (.ref jpeg), .val (.ref jpeg), .val (.ref jpeg)] [])) t
      refine XS.iconst X0_3.here hx rfl (hb hby at_50) ?_
      show Steps p.tables e below (T0_3.setTop (mkF m 51 #[.val (.int p0), .val (.int (own_irem (p0 &&& (2147483647 : Int32)) (5 : Int32))), .val (.ref jpeg), .val (.ref jpeg), .val (.ref jpeg)] [(.int (1 : Int32))])) t
      refine XS.goto X0_3.here hx rfl (pc0 := 51) (pc' := 55) rfl (hb hby at_51) (by decide) (by decide) ?_
      exact k
    obtain ⟨fs, hr, hrun, hended, hW, hsame⟩ := X0_3.leave (v := some (.int (nar .boolean (1 : Int32)))) (fun h => by rw [Bd.returns] at h; cases h)
    refine ⟨_, _, retN X0_3 hx (t := .boolean) Bd.returns (by simp) (hb hby at_55) hr, hrun, hended, _, _, rfl, ?_, ⟨_, rfl⟩, hW, hsame.mono (by decide) (by decide)⟩
    have eh : (T0_3.setFrames fs).heap = h0 := e0_3
    rw [eh]
    exact ⟨rfl, N0_3⟩
  · refine own_fw (A := s₁.setTop (mkF m 8 #[.val (.int p0), .val (.int (own_irem (p0 &&& (2147483647 : Int32)) (5 : Int32))), .unset, .unset, .unset] [(.int (own_irem (p0 &&& (2147483647 : Int32)) (5 : Int32)))])) (fun t k => ?_) ?_
    · show Steps p.tables e below (s₁.setTop (mkF m 7 #[.val (.int p0), .val (.int (own_irem (p0 &&& (2147483647 : Int32)) (5 : Int32))), .unset, .unset, .unset] [])) t
      refine XS.iloadN X0.here hx rfl (hb hby at_7) rfl ?_
      exact k
    obtain ⟨_, _, ⟨T0_4, L0_4, k0_4, n0_4⟩, -, X0_4, ⟨Lc0_4, hQ0_4, l0_4, y0_4, z0_4⟩, st0_4⟩ := Jvm.LawKit.callS X0 hx (y := (⟨"collotype/model/ImageFormatVariationFormatPinLaw", "pick", "(I)Lcollotype/model/ImageFormat;"⟩ : MethodName)) hown (mvT hZ (hw _ (List.mem_of_getElem? (i := 1) rfl))) (mvT hZ (hw _ (List.mem_of_getElem? (i := 2) rfl))) (mvT hZ (hw _ (List.mem_of_getElem? (i := 3) rfl))) (mvT hZ (hw _ (List.mem_of_getElem? (i := 4) rfl))) (by decide) (backOf (W := 0) (rm1 l Z a0 hw [] ((own_irem (p0 &&& (2147483647 : Int32)) (5 : Int32))) jpeg png gif tiff bmp png h0 n0 Z0 S_JPEG S_PNG S_GIF S_TIFF S_BMP (by rw [hk]; rfl)) hZ (hw _ (List.mem_of_getElem? (i := 4) rfl)) (hw _ (List.mem_of_getElem? (i := 3) rfl)) (by decide) (by decide)) (g := (mkF m 8 #[.val (.int p0), .val (.int (own_irem (p0 &&& (2147483647 : Int32)) (5 : Int32))), .unset, .unset, .unset] [(.int (own_irem (p0 &&& (2147483647 : Int32)) (5 : Int32)))])) rfl (by rw [hml]; rfl) (argsL := [(.int (own_irem (p0 &&& (2147483647 : Int32)) (5 : Int32)))]) (rest := []) (lenOf pd0_0 rfl) rfl (by show 2 * 0 + _ ≤ _; exact Nat.le_of_eq rfl) (hb hby at_8) (fun _ _ => ⟨rfl, e0, (by decide : 0 + 0 ≤ _), (by decide : 0 + 0 ≤ _)⟩)
    dsimp only [Pt.U, Pt.locs, Pt.cells, Pt.slots] at X0_4 l0_4 y0_4 z0_4 st0_4 hQ0_4
    subst l0_4 y0_4 z0_4
    obtain ⟨rfl, N0_4q, e0_4⟩ := hQ0_4
    have N0_4 := Fr.app N0 N0_4q
    refine own_fw st0_4 ?_
    refine own_fw (A := T0_4.setTop (mkF m 27 #[.val (.int p0), .val (.int (own_irem (p0 &&& (2147483647 : Int32)) (5 : Int32))), .val (.ref png), .val (.ref png), .unset] [(.ref png)])) (fun t k => ?_) ?_
    · show Steps p.tables e below (T0_4.setTop (mkF m 11 #[.val (.int p0), .val (.int (own_irem (p0 &&& (2147483647 : Int32)) (5 : Int32))), .unset, .unset, .unset] [(.ref png)])) t
      refine XS.astoreN X0_4.here hx rfl (hb hby at_11) rfl rfl (l' := #[.val (.int p0), .val (.int (own_irem (p0 &&& (2147483647 : Int32)) (5 : Int32))), .val (.ref png), .unset, .unset]) rfl ?_
      show Steps p.tables e below (T0_4.setTop (mkF m 12 #[.val (.int p0), .val (.int (own_irem (p0 &&& (2147483647 : Int32)) (5 : Int32))), .val (.ref png), .unset, .unset] [])) t
      refine XS.iloadN X0_4.here hx rfl (hb hby at_12) rfl ?_
      show Steps p.tables e below (T0_4.setTop (mkF m 13 #[.val (.int p0), .val (.int (own_irem (p0 &&& (2147483647 : Int32)) (5 : Int32))), .val (.ref png), .unset, .unset] [(.int (own_irem (p0 &&& (2147483647 : Int32)) (5 : Int32)))])) t
      refine XS.iconst X0_4.here hx rfl (hb hby at_13) ?_
      show Steps p.tables e below (T0_4.setTop (mkF m 14 #[.val (.int p0), .val (.int (own_irem (p0 &&& (2147483647 : Int32)) (5 : Int32))), .val (.ref png), .unset, .unset] [(.int (2 : Int32)), (.int (own_irem (p0 &&& (2147483647 : Int32)) (5 : Int32)))])) t
      refine XS.icmpNo X0_4.here hx rfl (hb hby at_14) rfl (flt (by rw [hk]; decide)).2.2.1 ?_
      show Steps p.tables e below (T0_4.setTop (mkF m 17 #[.val (.int p0), .val (.int (own_irem (p0 &&& (2147483647 : Int32)) (5 : Int32))), .val (.ref png), .unset, .unset] [])) t
      refine XS.aloadN X0_4.here hx rfl (hb hby at_17) rfl rfl ?_
      show Steps p.tables e below (T0_4.setTop (mkF m 18 #[.val (.int p0), .val (.int (own_irem (p0 &&& (2147483647 : Int32)) (5 : Int32))), .val (.ref png), .unset, .unset] [(.ref png)])) t
      refine XS.astoreN X0_4.here hx rfl (hb hby at_18) rfl rfl (l' := #[.val (.int p0), .val (.int (own_irem (p0 &&& (2147483647 : Int32)) (5 : Int32))), .val (.ref png), .val (.ref png), .unset]) rfl ?_
      show Steps p.tables e below (T0_4.setTop (mkF m 19 #[.val (.int p0), .val (.int (own_irem (p0 &&& (2147483647 : Int32)) (5 : Int32))), .val (.ref png), .val (.ref png), .unset] [])) t
      refine XS.goto X0_4.here hx rfl (pc0 := 19) (pc' := 26) rfl (hb hby at_19) (by decide) (by decide) ?_
      show Steps p.tables e below (T0_4.setTop (mkF m 26 #[.val (.int p0), .val (.int (own_irem (p0 &&& (2147483647 : Int32)) (5 : Int32))), .val (.ref png), .val (.ref png), .unset] [])) t
      refine XS.aloadN X0_4.here hx rfl (hb hby at_26) rfl rfl ?_
      exact k
    obtain ⟨cq0_5, kq0_5, q0_5a, q0_5b, q0_5c⟩ := isOf hZ e0_4 E_png
    obtain ⟨_, _, ⟨T0_5, L0_5, k0_5, n0_5⟩, -, X0_5, ⟨Lc0_5, hQ0_5, l0_5, y0_5, z0_5⟩, st0_5⟩ := X0_4.virtualBack hx (y := (⟨"collotype/model/ImageFormat", "variationFormat", "()Lcollotype/model/ImageFormat;"⟩ : MethodName)) (z := (⟨"collotype/model/ImageFormat", "variationFormat", "()Lcollotype/model/ImageFormat;"⟩ : MethodName)) hown (mvT hZ (hw _ (List.mem_of_getElem? (i := 8) rfl))) (mvT hZ (hw _ (List.mem_of_getElem? (i := 9) rfl))) (notFace_of_selects (args := #[]) (mvT hZ (hw _ (List.mem_of_getElem? (i := 11) rfl)))) (mvT hZ (hw _ (List.mem_of_getElem? (i := 11) rfl))) (mvT hZ (hw _ (List.mem_of_getElem? (i := 10) rfl))) (by decide) (backOf (W := 0) (rm2a l Z a0 hw [] png png h0 n0 Z0 S_PNG F_png) hZ (hw _ (List.mem_of_getElem? (i := 12) rfl)) (hw _ (List.mem_of_getElem? (i := 6) rfl)) (by decide) (by decide)) q0_5a q0_5c (g := (mkF m 27 #[.val (.int p0), .val (.int (own_irem (p0 &&& (2147483647 : Int32)) (5 : Int32))), .val (.ref png), .val (.ref png), .unset] [(.ref png)])) rfl (by rw [hml]; rfl) (Steps.refl _) (argsL := []) (rest := []) (lenOf pd0_1 rfl) rfl (by show 2 * 0 + _ ≤ _; exact Nat.le_of_eq rfl) (hb hby at_27) (fun _ _ => ⟨rfl, e0_4, (by decide : 0 + 0 ≤ _), (by decide : 0 + 0 ≤ _)⟩)
    dsimp only [Pt.U, Pt.locs, Pt.cells, Pt.slots] at X0_5 l0_5 y0_5 z0_5 st0_5 hQ0_5
    subst l0_5 y0_5 z0_5
    obtain ⟨rfl, N0_5q, e0_5⟩ := hQ0_5
    have N0_5 := Fr.app N0_4 N0_5q
    refine own_fw (fun t k => st0_5.trans k) ?_
    refine own_fw (A := T0_5.setTop (mkF m 35 #[.val (.int p0), .val (.int (own_irem (p0 &&& (2147483647 : Int32)) (5 : Int32))), .val (.ref png), .val (.ref png), .val (.ref png)] [(.ref png), (.ref png)])) (fun t k => ?_) ?_
    · show Steps p.tables e below (T0_5.setTop (mkF m 30 #[.val (.int p0), .val (.int (own_irem (p0 &&& (2147483647 : Int32)) (5 : Int32))), .val (.ref png), .val (.ref png), .unset] [(.ref png)])) t
      refine XS.astore X0_5.here hx rfl (hb hby at_30) rfl rfl (l' := #[.val (.int p0), .val (.int (own_irem (p0 &&& (2147483647 : Int32)) (5 : Int32))), .val (.ref png), .val (.ref png), .val (.ref png)]) rfl ?_
      show Steps p.tables e below (T0_5.setTop (mkF m 32 #[.val (.int p0), .val (.int (own_irem (p0 &&& (2147483647 : Int32)) (5 : Int32))), .val (.ref png), .val (.ref png), .val (.ref png)] [])) t
      refine XS.aload X0_5.here hx rfl (hb hby at_32) rfl rfl ?_
      show Steps p.tables e below (T0_5.setTop (mkF m 34 #[.val (.int p0), .val (.int (own_irem (p0 &&& (2147483647 : Int32)) (5 : Int32))), .val (.ref png), .val (.ref png), .val (.ref png)] [(.ref png)])) t
      refine XS.aloadN X0_5.here hx rfl (hb hby at_34) rfl rfl ?_
      exact k
    refine own_fw (A := T0_5.setTop (mkF m 40 #[.val (.int p0), .val (.int (own_irem (p0 &&& (2147483647 : Int32)) (5 : Int32))), .val (.ref png), .val (.ref png), .val (.ref png)] [])) (fun t k => ?_) ?_
    · refine Jvm.RoadKit.acmp (g := (mkF m 35 #[.val (.int p0), .val (.int (own_irem (p0 &&& (2147483647 : Int32)) (5 : Int32))), .val (.ref png), .val (.ref png), .val (.ref png)] [(.ref png), (.ref png)])) X0_5 hx rfl rfl rfl (pc0 := 35) (pc' := 40) (same := true) rfl (hb hby at_35) rfl (decide_eq_true rfl) (by decide) (by decide) ?_
      exact k
    refine own_fw (A := T0_5.setTop (mkF m 42 #[.val (.int p0), .val (.int (own_irem (p0 &&& (2147483647 : Int32)) (5 : Int32))), .val (.ref png), .val (.ref png), .val (.ref png)] [(.ref png)])) (fun t k => ?_) ?_
    · show Steps p.tables e below (T0_5.setTop (mkF m 40 #[.val (.int p0), .val (.int (own_irem (p0 &&& (2147483647 : Int32)) (5 : Int32))), .val (.ref png), .val (.ref png), .val (.ref png)] [])) t
      refine XS.aload X0_5.here hx rfl (hb hby at_40) rfl rfl ?_
      exact k
    obtain ⟨cq0_6, kq0_6, q0_6a, q0_6b, q0_6c⟩ := isOf hZ e0_5 E_png
    obtain ⟨_, _, ⟨T0_6, L0_6, k0_6, n0_6⟩, -, X0_6, ⟨Lc0_6, hQ0_6, l0_6, y0_6, z0_6⟩, st0_6⟩ := X0_5.virtualBack hx (y := (⟨"collotype/model/ImageFormat", "variationFormat", "()Lcollotype/model/ImageFormat;"⟩ : MethodName)) (z := (⟨"collotype/model/ImageFormat", "variationFormat", "()Lcollotype/model/ImageFormat;"⟩ : MethodName)) hown (mvT hZ (hw _ (List.mem_of_getElem? (i := 8) rfl))) (mvT hZ (hw _ (List.mem_of_getElem? (i := 9) rfl))) (notFace_of_selects (args := #[]) (mvT hZ (hw _ (List.mem_of_getElem? (i := 11) rfl)))) (mvT hZ (hw _ (List.mem_of_getElem? (i := 11) rfl))) (mvT hZ (hw _ (List.mem_of_getElem? (i := 10) rfl))) (by decide) (backOf (W := 0) (rm2a l Z a0 hw [] png png h0 n0 Z0 S_PNG F_png) hZ (hw _ (List.mem_of_getElem? (i := 12) rfl)) (hw _ (List.mem_of_getElem? (i := 6) rfl)) (by decide) (by decide)) q0_6a q0_6c (g := (mkF m 42 #[.val (.int p0), .val (.int (own_irem (p0 &&& (2147483647 : Int32)) (5 : Int32))), .val (.ref png), .val (.ref png), .val (.ref png)] [(.ref png)])) rfl (by rw [hml]; rfl) (Steps.refl _) (argsL := []) (rest := []) (lenOf pd0_1 rfl) rfl (by show 2 * 0 + _ ≤ _; exact Nat.le_of_eq rfl) (hb hby at_42) (fun _ _ => ⟨rfl, e0_5, (by decide : 0 + 0 ≤ _), (by decide : 0 + 0 ≤ _)⟩)
    dsimp only [Pt.U, Pt.locs, Pt.cells, Pt.slots] at X0_6 l0_6 y0_6 z0_6 st0_6 hQ0_6
    subst l0_6 y0_6 z0_6
    obtain ⟨rfl, N0_6q, e0_6⟩ := hQ0_6
    have N0_6 := Fr.app N0_5 N0_6q
    refine own_fw (fun t k => st0_6.trans k) ?_
    refine own_fw (A := T0_6.setTop (mkF m 47 #[.val (.int p0), .val (.int (own_irem (p0 &&& (2147483647 : Int32)) (5 : Int32))), .val (.ref png), .val (.ref png), .val (.ref png)] [(.ref png), (.ref png)])) (fun t k => ?_) ?_
    · show Steps p.tables e below (T0_6.setTop (mkF m 45 #[.val (.int p0), .val (.int (own_irem (p0 &&& (2147483647 : Int32)) (5 : Int32))), .val (.ref png), .val (.ref png), .val (.ref png)] [(.ref png)])) t
      refine XS.aload X0_6.here hx rfl (hb hby at_45) rfl rfl ?_
      exact k
    refine own_fw (A := T0_6.setTop (mkF m 50 #[.val (.int p0), .val (.int (own_irem (p0 &&& (2147483647 : Int32)) (5 : Int32))), .val (.ref png), .val (.ref png), .val (.ref png)] [])) (fun t k => ?_) ?_
    · refine Jvm.RoadKit.acmp (g := (mkF m 47 #[.val (.int p0), .val (.int (own_irem (p0 &&& (2147483647 : Int32)) (5 : Int32))), .val (.ref png), .val (.ref png), .val (.ref png)] [(.ref png), (.ref png)])) X0_6 hx rfl rfl rfl (pc0 := 47) (pc' := 50) (same := true) rfl (hb hby at_47) rfl (decide_eq_true rfl) (by decide) (by decide) ?_
      exact k
    refine own_fw (A := T0_6.setTop (mkF m 55 #[.val (.int p0), .val (.int (own_irem (p0 &&& (2147483647 : Int32)) (5 : Int32))), .val (.ref png), .val (.ref png), .val (.ref png)] [(.int (1 : Int32))])) (fun t k => ?_) ?_
    · show Steps p.tables e below (T0_6.setTop (mkF m 50 #[.val (.int p0), .val (.int (own_irem (p0 &&& (2147483647 : Int32)) (5 : Int32))), .val (.ref png), .val (.ref png), .val (.ref png)] [])) t
      refine XS.iconst X0_6.here hx rfl (hb hby at_50) ?_
      show Steps p.tables e below (T0_6.setTop (mkF m 51 #[.val (.int p0), .val (.int (own_irem (p0 &&& (2147483647 : Int32)) (5 : Int32))), .val (.ref png), .val (.ref png), .val (.ref png)] [(.int (1 : Int32))])) t
      refine XS.goto X0_6.here hx rfl (pc0 := 51) (pc' := 55) rfl (hb hby at_51) (by decide) (by decide) ?_
      exact k
    obtain ⟨fs, hr, hrun, hended, hW, hsame⟩ := X0_6.leave (v := some (.int (nar .boolean (1 : Int32)))) (fun h => by rw [Bd.returns] at h; cases h)
    refine ⟨_, _, retN X0_6 hx (t := .boolean) Bd.returns (by simp) (hb hby at_55) hr, hrun, hended, _, _, rfl, ?_, ⟨_, rfl⟩, hW, hsame.mono (by decide) (by decide)⟩
    have eh : (T0_6.setFrames fs).heap = h0 := e0_6
    rw [eh]
    exact ⟨rfl, N0_6⟩
  · refine own_fw (A := s₁.setTop (mkF m 8 #[.val (.int p0), .val (.int (own_irem (p0 &&& (2147483647 : Int32)) (5 : Int32))), .unset, .unset, .unset] [(.int (own_irem (p0 &&& (2147483647 : Int32)) (5 : Int32)))])) (fun t k => ?_) ?_
    · show Steps p.tables e below (s₁.setTop (mkF m 7 #[.val (.int p0), .val (.int (own_irem (p0 &&& (2147483647 : Int32)) (5 : Int32))), .unset, .unset, .unset] [])) t
      refine XS.iloadN X0.here hx rfl (hb hby at_7) rfl ?_
      exact k
    obtain ⟨_, _, ⟨T0_7, L0_7, k0_7, n0_7⟩, -, X0_7, ⟨Lc0_7, hQ0_7, l0_7, y0_7, z0_7⟩, st0_7⟩ := Jvm.LawKit.callS X0 hx (y := (⟨"collotype/model/ImageFormatVariationFormatPinLaw", "pick", "(I)Lcollotype/model/ImageFormat;"⟩ : MethodName)) hown (mvT hZ (hw _ (List.mem_of_getElem? (i := 1) rfl))) (mvT hZ (hw _ (List.mem_of_getElem? (i := 2) rfl))) (mvT hZ (hw _ (List.mem_of_getElem? (i := 3) rfl))) (mvT hZ (hw _ (List.mem_of_getElem? (i := 4) rfl))) (by decide) (backOf (W := 0) (rm1 l Z a0 hw [] ((own_irem (p0 &&& (2147483647 : Int32)) (5 : Int32))) jpeg png gif tiff bmp gif h0 n0 Z0 S_JPEG S_PNG S_GIF S_TIFF S_BMP (by rw [hk]; rfl)) hZ (hw _ (List.mem_of_getElem? (i := 4) rfl)) (hw _ (List.mem_of_getElem? (i := 3) rfl)) (by decide) (by decide)) (g := (mkF m 8 #[.val (.int p0), .val (.int (own_irem (p0 &&& (2147483647 : Int32)) (5 : Int32))), .unset, .unset, .unset] [(.int (own_irem (p0 &&& (2147483647 : Int32)) (5 : Int32)))])) rfl (by rw [hml]; rfl) (argsL := [(.int (own_irem (p0 &&& (2147483647 : Int32)) (5 : Int32)))]) (rest := []) (lenOf pd0_0 rfl) rfl (by show 2 * 0 + _ ≤ _; exact Nat.le_of_eq rfl) (hb hby at_8) (fun _ _ => ⟨rfl, e0, (by decide : 0 + 0 ≤ _), (by decide : 0 + 0 ≤ _)⟩)
    dsimp only [Pt.U, Pt.locs, Pt.cells, Pt.slots] at X0_7 l0_7 y0_7 z0_7 st0_7 hQ0_7
    subst l0_7 y0_7 z0_7
    obtain ⟨rfl, N0_7q, e0_7⟩ := hQ0_7
    have N0_7 := Fr.app N0 N0_7q
    refine own_fw st0_7 ?_
    refine own_fw (A := T0_7.setTop (mkF m 27 #[.val (.int p0), .val (.int (own_irem (p0 &&& (2147483647 : Int32)) (5 : Int32))), .val (.ref gif), .val (.ref gif), .unset] [(.ref gif)])) (fun t k => ?_) ?_
    · show Steps p.tables e below (T0_7.setTop (mkF m 11 #[.val (.int p0), .val (.int (own_irem (p0 &&& (2147483647 : Int32)) (5 : Int32))), .unset, .unset, .unset] [(.ref gif)])) t
      refine XS.astoreN X0_7.here hx rfl (hb hby at_11) rfl rfl (l' := #[.val (.int p0), .val (.int (own_irem (p0 &&& (2147483647 : Int32)) (5 : Int32))), .val (.ref gif), .unset, .unset]) rfl ?_
      show Steps p.tables e below (T0_7.setTop (mkF m 12 #[.val (.int p0), .val (.int (own_irem (p0 &&& (2147483647 : Int32)) (5 : Int32))), .val (.ref gif), .unset, .unset] [])) t
      refine XS.iloadN X0_7.here hx rfl (hb hby at_12) rfl ?_
      show Steps p.tables e below (T0_7.setTop (mkF m 13 #[.val (.int p0), .val (.int (own_irem (p0 &&& (2147483647 : Int32)) (5 : Int32))), .val (.ref gif), .unset, .unset] [(.int (own_irem (p0 &&& (2147483647 : Int32)) (5 : Int32)))])) t
      refine XS.iconst X0_7.here hx rfl (hb hby at_13) ?_
      show Steps p.tables e below (T0_7.setTop (mkF m 14 #[.val (.int p0), .val (.int (own_irem (p0 &&& (2147483647 : Int32)) (5 : Int32))), .val (.ref gif), .unset, .unset] [(.int (2 : Int32)), (.int (own_irem (p0 &&& (2147483647 : Int32)) (5 : Int32)))])) t
      refine XS.icmpNo X0_7.here hx rfl (hb hby at_14) rfl (flt (by rw [hk]; decide)).2.2.1 ?_
      show Steps p.tables e below (T0_7.setTop (mkF m 17 #[.val (.int p0), .val (.int (own_irem (p0 &&& (2147483647 : Int32)) (5 : Int32))), .val (.ref gif), .unset, .unset] [])) t
      refine XS.aloadN X0_7.here hx rfl (hb hby at_17) rfl rfl ?_
      show Steps p.tables e below (T0_7.setTop (mkF m 18 #[.val (.int p0), .val (.int (own_irem (p0 &&& (2147483647 : Int32)) (5 : Int32))), .val (.ref gif), .unset, .unset] [(.ref gif)])) t
      refine XS.astoreN X0_7.here hx rfl (hb hby at_18) rfl rfl (l' := #[.val (.int p0), .val (.int (own_irem (p0 &&& (2147483647 : Int32)) (5 : Int32))), .val (.ref gif), .val (.ref gif), .unset]) rfl ?_
      show Steps p.tables e below (T0_7.setTop (mkF m 19 #[.val (.int p0), .val (.int (own_irem (p0 &&& (2147483647 : Int32)) (5 : Int32))), .val (.ref gif), .val (.ref gif), .unset] [])) t
      refine XS.goto X0_7.here hx rfl (pc0 := 19) (pc' := 26) rfl (hb hby at_19) (by decide) (by decide) ?_
      show Steps p.tables e below (T0_7.setTop (mkF m 26 #[.val (.int p0), .val (.int (own_irem (p0 &&& (2147483647 : Int32)) (5 : Int32))), .val (.ref gif), .val (.ref gif), .unset] [])) t
      refine XS.aloadN X0_7.here hx rfl (hb hby at_26) rfl rfl ?_
      exact k
    obtain ⟨cq0_8, kq0_8, q0_8a, q0_8b, q0_8c⟩ := isOf hZ e0_7 E_gif
    obtain ⟨_, _, ⟨T0_8, L0_8, k0_8, n0_8⟩, -, X0_8, ⟨Lc0_8, hQ0_8, l0_8, y0_8, z0_8⟩, st0_8⟩ := X0_7.virtualBack hx (y := (⟨"collotype/model/ImageFormat", "variationFormat", "()Lcollotype/model/ImageFormat;"⟩ : MethodName)) (z := (⟨"collotype/model/ImageFormat", "variationFormat", "()Lcollotype/model/ImageFormat;"⟩ : MethodName)) hown (mvT hZ (hw _ (List.mem_of_getElem? (i := 8) rfl))) (mvT hZ (hw _ (List.mem_of_getElem? (i := 9) rfl))) (notFace_of_selects (args := #[]) (mvT hZ (hw _ (List.mem_of_getElem? (i := 11) rfl)))) (mvT hZ (hw _ (List.mem_of_getElem? (i := 11) rfl))) (mvT hZ (hw _ (List.mem_of_getElem? (i := 10) rfl))) (by decide) (backOf (W := 0) (rm2a l Z a0 hw [] gif png h0 n0 Z0 S_PNG F_gif) hZ (hw _ (List.mem_of_getElem? (i := 12) rfl)) (hw _ (List.mem_of_getElem? (i := 6) rfl)) (by decide) (by decide)) q0_8a q0_8c (g := (mkF m 27 #[.val (.int p0), .val (.int (own_irem (p0 &&& (2147483647 : Int32)) (5 : Int32))), .val (.ref gif), .val (.ref gif), .unset] [(.ref gif)])) rfl (by rw [hml]; rfl) (Steps.refl _) (argsL := []) (rest := []) (lenOf pd0_1 rfl) rfl (by show 2 * 0 + _ ≤ _; exact Nat.le_of_eq rfl) (hb hby at_27) (fun _ _ => ⟨rfl, e0_7, (by decide : 0 + 0 ≤ _), (by decide : 0 + 0 ≤ _)⟩)
    dsimp only [Pt.U, Pt.locs, Pt.cells, Pt.slots] at X0_8 l0_8 y0_8 z0_8 st0_8 hQ0_8
    subst l0_8 y0_8 z0_8
    obtain ⟨rfl, N0_8q, e0_8⟩ := hQ0_8
    have N0_8 := Fr.app N0_7 N0_8q
    refine own_fw (fun t k => st0_8.trans k) ?_
    refine own_fw (A := T0_8.setTop (mkF m 35 #[.val (.int p0), .val (.int (own_irem (p0 &&& (2147483647 : Int32)) (5 : Int32))), .val (.ref gif), .val (.ref gif), .val (.ref gif)] [(.ref gif), (.ref gif)])) (fun t k => ?_) ?_
    · show Steps p.tables e below (T0_8.setTop (mkF m 30 #[.val (.int p0), .val (.int (own_irem (p0 &&& (2147483647 : Int32)) (5 : Int32))), .val (.ref gif), .val (.ref gif), .unset] [(.ref gif)])) t
      refine XS.astore X0_8.here hx rfl (hb hby at_30) rfl rfl (l' := #[.val (.int p0), .val (.int (own_irem (p0 &&& (2147483647 : Int32)) (5 : Int32))), .val (.ref gif), .val (.ref gif), .val (.ref gif)]) rfl ?_
      show Steps p.tables e below (T0_8.setTop (mkF m 32 #[.val (.int p0), .val (.int (own_irem (p0 &&& (2147483647 : Int32)) (5 : Int32))), .val (.ref gif), .val (.ref gif), .val (.ref gif)] [])) t
      refine XS.aload X0_8.here hx rfl (hb hby at_32) rfl rfl ?_
      show Steps p.tables e below (T0_8.setTop (mkF m 34 #[.val (.int p0), .val (.int (own_irem (p0 &&& (2147483647 : Int32)) (5 : Int32))), .val (.ref gif), .val (.ref gif), .val (.ref gif)] [(.ref gif)])) t
      refine XS.aloadN X0_8.here hx rfl (hb hby at_34) rfl rfl ?_
      exact k
    refine own_fw (A := T0_8.setTop (mkF m 40 #[.val (.int p0), .val (.int (own_irem (p0 &&& (2147483647 : Int32)) (5 : Int32))), .val (.ref gif), .val (.ref gif), .val (.ref gif)] [])) (fun t k => ?_) ?_
    · refine Jvm.RoadKit.acmp (g := (mkF m 35 #[.val (.int p0), .val (.int (own_irem (p0 &&& (2147483647 : Int32)) (5 : Int32))), .val (.ref gif), .val (.ref gif), .val (.ref gif)] [(.ref gif), (.ref gif)])) X0_8 hx rfl rfl rfl (pc0 := 35) (pc' := 40) (same := true) rfl (hb hby at_35) rfl (decide_eq_true rfl) (by decide) (by decide) ?_
      exact k
    refine own_fw (A := T0_8.setTop (mkF m 42 #[.val (.int p0), .val (.int (own_irem (p0 &&& (2147483647 : Int32)) (5 : Int32))), .val (.ref gif), .val (.ref gif), .val (.ref gif)] [(.ref gif)])) (fun t k => ?_) ?_
    · show Steps p.tables e below (T0_8.setTop (mkF m 40 #[.val (.int p0), .val (.int (own_irem (p0 &&& (2147483647 : Int32)) (5 : Int32))), .val (.ref gif), .val (.ref gif), .val (.ref gif)] [])) t
      refine XS.aload X0_8.here hx rfl (hb hby at_40) rfl rfl ?_
      exact k
    obtain ⟨cq0_9, kq0_9, q0_9a, q0_9b, q0_9c⟩ := isOf hZ e0_8 E_gif
    obtain ⟨_, _, ⟨T0_9, L0_9, k0_9, n0_9⟩, -, X0_9, ⟨Lc0_9, hQ0_9, l0_9, y0_9, z0_9⟩, st0_9⟩ := X0_8.virtualBack hx (y := (⟨"collotype/model/ImageFormat", "variationFormat", "()Lcollotype/model/ImageFormat;"⟩ : MethodName)) (z := (⟨"collotype/model/ImageFormat", "variationFormat", "()Lcollotype/model/ImageFormat;"⟩ : MethodName)) hown (mvT hZ (hw _ (List.mem_of_getElem? (i := 8) rfl))) (mvT hZ (hw _ (List.mem_of_getElem? (i := 9) rfl))) (notFace_of_selects (args := #[]) (mvT hZ (hw _ (List.mem_of_getElem? (i := 11) rfl)))) (mvT hZ (hw _ (List.mem_of_getElem? (i := 11) rfl))) (mvT hZ (hw _ (List.mem_of_getElem? (i := 10) rfl))) (by decide) (backOf (W := 0) (rm2a l Z a0 hw [] gif png h0 n0 Z0 S_PNG F_gif) hZ (hw _ (List.mem_of_getElem? (i := 12) rfl)) (hw _ (List.mem_of_getElem? (i := 6) rfl)) (by decide) (by decide)) q0_9a q0_9c (g := (mkF m 42 #[.val (.int p0), .val (.int (own_irem (p0 &&& (2147483647 : Int32)) (5 : Int32))), .val (.ref gif), .val (.ref gif), .val (.ref gif)] [(.ref gif)])) rfl (by rw [hml]; rfl) (Steps.refl _) (argsL := []) (rest := []) (lenOf pd0_1 rfl) rfl (by show 2 * 0 + _ ≤ _; exact Nat.le_of_eq rfl) (hb hby at_42) (fun _ _ => ⟨rfl, e0_8, (by decide : 0 + 0 ≤ _), (by decide : 0 + 0 ≤ _)⟩)
    dsimp only [Pt.U, Pt.locs, Pt.cells, Pt.slots] at X0_9 l0_9 y0_9 z0_9 st0_9 hQ0_9
    subst l0_9 y0_9 z0_9
    obtain ⟨rfl, N0_9q, e0_9⟩ := hQ0_9
    have N0_9 := Fr.app N0_8 N0_9q
    refine own_fw (fun t k => st0_9.trans k) ?_
    refine own_fw (A := T0_9.setTop (mkF m 47 #[.val (.int p0), .val (.int (own_irem (p0 &&& (2147483647 : Int32)) (5 : Int32))), .val (.ref gif), .val (.ref gif), .val (.ref gif)] [(.ref gif), (.ref gif)])) (fun t k => ?_) ?_
    · show Steps p.tables e below (T0_9.setTop (mkF m 45 #[.val (.int p0), .val (.int (own_irem (p0 &&& (2147483647 : Int32)) (5 : Int32))), .val (.ref gif), .val (.ref gif), .val (.ref gif)] [(.ref gif)])) t
      refine XS.aload X0_9.here hx rfl (hb hby at_45) rfl rfl ?_
      exact k
    refine own_fw (A := T0_9.setTop (mkF m 50 #[.val (.int p0), .val (.int (own_irem (p0 &&& (2147483647 : Int32)) (5 : Int32))), .val (.ref gif), .val (.ref gif), .val (.ref gif)] [])) (fun t k => ?_) ?_
    · refine Jvm.RoadKit.acmp (g := (mkF m 47 #[.val (.int p0), .val (.int (own_irem (p0 &&& (2147483647 : Int32)) (5 : Int32))), .val (.ref gif), .val (.ref gif), .val (.ref gif)] [(.ref gif), (.ref gif)])) X0_9 hx rfl rfl rfl (pc0 := 47) (pc' := 50) (same := true) rfl (hb hby at_47) rfl (decide_eq_true rfl) (by decide) (by decide) ?_
      exact k
    refine own_fw (A := T0_9.setTop (mkF m 55 #[.val (.int p0), .val (.int (own_irem (p0 &&& (2147483647 : Int32)) (5 : Int32))), .val (.ref gif), .val (.ref gif), .val (.ref gif)] [(.int (1 : Int32))])) (fun t k => ?_) ?_
    · show Steps p.tables e below (T0_9.setTop (mkF m 50 #[.val (.int p0), .val (.int (own_irem (p0 &&& (2147483647 : Int32)) (5 : Int32))), .val (.ref gif), .val (.ref gif), .val (.ref gif)] [])) t
      refine XS.iconst X0_9.here hx rfl (hb hby at_50) ?_
      show Steps p.tables e below (T0_9.setTop (mkF m 51 #[.val (.int p0), .val (.int (own_irem (p0 &&& (2147483647 : Int32)) (5 : Int32))), .val (.ref gif), .val (.ref gif), .val (.ref gif)] [(.int (1 : Int32))])) t
      refine XS.goto X0_9.here hx rfl (pc0 := 51) (pc' := 55) rfl (hb hby at_51) (by decide) (by decide) ?_
      exact k
    obtain ⟨fs, hr, hrun, hended, hW, hsame⟩ := X0_9.leave (v := some (.int (nar .boolean (1 : Int32)))) (fun h => by rw [Bd.returns] at h; cases h)
    refine ⟨_, _, retN X0_9 hx (t := .boolean) Bd.returns (by simp) (hb hby at_55) hr, hrun, hended, _, _, rfl, ?_, ⟨_, rfl⟩, hW, hsame.mono (by decide) (by decide)⟩
    have eh : (T0_9.setFrames fs).heap = h0 := e0_9
    rw [eh]
    exact ⟨rfl, N0_9⟩
  · refine own_fw (A := s₁.setTop (mkF m 8 #[.val (.int p0), .val (.int (own_irem (p0 &&& (2147483647 : Int32)) (5 : Int32))), .unset, .unset, .unset] [(.int (own_irem (p0 &&& (2147483647 : Int32)) (5 : Int32)))])) (fun t k => ?_) ?_
    · show Steps p.tables e below (s₁.setTop (mkF m 7 #[.val (.int p0), .val (.int (own_irem (p0 &&& (2147483647 : Int32)) (5 : Int32))), .unset, .unset, .unset] [])) t
      refine XS.iloadN X0.here hx rfl (hb hby at_7) rfl ?_
      exact k
    obtain ⟨_, _, ⟨T0_10, L0_10, k0_10, n0_10⟩, -, X0_10, ⟨Lc0_10, hQ0_10, l0_10, y0_10, z0_10⟩, st0_10⟩ := Jvm.LawKit.callS X0 hx (y := (⟨"collotype/model/ImageFormatVariationFormatPinLaw", "pick", "(I)Lcollotype/model/ImageFormat;"⟩ : MethodName)) hown (mvT hZ (hw _ (List.mem_of_getElem? (i := 1) rfl))) (mvT hZ (hw _ (List.mem_of_getElem? (i := 2) rfl))) (mvT hZ (hw _ (List.mem_of_getElem? (i := 3) rfl))) (mvT hZ (hw _ (List.mem_of_getElem? (i := 4) rfl))) (by decide) (backOf (W := 0) (rm1 l Z a0 hw [] ((own_irem (p0 &&& (2147483647 : Int32)) (5 : Int32))) jpeg png gif tiff bmp tiff h0 n0 Z0 S_JPEG S_PNG S_GIF S_TIFF S_BMP (by rw [hk]; rfl)) hZ (hw _ (List.mem_of_getElem? (i := 4) rfl)) (hw _ (List.mem_of_getElem? (i := 3) rfl)) (by decide) (by decide)) (g := (mkF m 8 #[.val (.int p0), .val (.int (own_irem (p0 &&& (2147483647 : Int32)) (5 : Int32))), .unset, .unset, .unset] [(.int (own_irem (p0 &&& (2147483647 : Int32)) (5 : Int32)))])) rfl (by rw [hml]; rfl) (argsL := [(.int (own_irem (p0 &&& (2147483647 : Int32)) (5 : Int32)))]) (rest := []) (lenOf pd0_0 rfl) rfl (by show 2 * 0 + _ ≤ _; exact Nat.le_of_eq rfl) (hb hby at_8) (fun _ _ => ⟨rfl, e0, (by decide : 0 + 0 ≤ _), (by decide : 0 + 0 ≤ _)⟩)
    dsimp only [Pt.U, Pt.locs, Pt.cells, Pt.slots] at X0_10 l0_10 y0_10 z0_10 st0_10 hQ0_10
    subst l0_10 y0_10 z0_10
    obtain ⟨rfl, N0_10q, e0_10⟩ := hQ0_10
    have N0_10 := Fr.app N0 N0_10q
    refine own_fw st0_10 ?_
    refine own_fw (A := T0_10.setTop (mkF m 22 #[.val (.int p0), .val (.int (own_irem (p0 &&& (2147483647 : Int32)) (5 : Int32))), .val (.ref tiff), .unset, .unset] [])) (fun t k => ?_) ?_
    · show Steps p.tables e below (T0_10.setTop (mkF m 11 #[.val (.int p0), .val (.int (own_irem (p0 &&& (2147483647 : Int32)) (5 : Int32))), .unset, .unset, .unset] [(.ref tiff)])) t
      refine XS.astoreN X0_10.here hx rfl (hb hby at_11) rfl rfl (l' := #[.val (.int p0), .val (.int (own_irem (p0 &&& (2147483647 : Int32)) (5 : Int32))), .val (.ref tiff), .unset, .unset]) rfl ?_
      show Steps p.tables e below (T0_10.setTop (mkF m 12 #[.val (.int p0), .val (.int (own_irem (p0 &&& (2147483647 : Int32)) (5 : Int32))), .val (.ref tiff), .unset, .unset] [])) t
      refine XS.iloadN X0_10.here hx rfl (hb hby at_12) rfl ?_
      show Steps p.tables e below (T0_10.setTop (mkF m 13 #[.val (.int p0), .val (.int (own_irem (p0 &&& (2147483647 : Int32)) (5 : Int32))), .val (.ref tiff), .unset, .unset] [(.int (own_irem (p0 &&& (2147483647 : Int32)) (5 : Int32)))])) t
      refine XS.iconst X0_10.here hx rfl (hb hby at_13) ?_
      show Steps p.tables e below (T0_10.setTop (mkF m 14 #[.val (.int p0), .val (.int (own_irem (p0 &&& (2147483647 : Int32)) (5 : Int32))), .val (.ref tiff), .unset, .unset] [(.int (2 : Int32)), (.int (own_irem (p0 &&& (2147483647 : Int32)) (5 : Int32)))])) t
      refine XS.icmpYes X0_10.here hx rfl (pc0 := 14) (pc' := 22) rfl (hb hby at_14) rfl (tlt (by rw [hk]; decide)).2.2.1 (by decide) (by decide) ?_
      exact k
    obtain ⟨T0_11, X0_11, e0_11, st0_11⟩ := getS2 X0_10 hx hZ hown (host := "") (Or.inl (hw _ (List.mem_of_getElem? (i := 17) rfl))) Via.refl e0_10 S_PNG (g := (mkF m 22 #[.val (.int p0), .val (.int (own_irem (p0 &&& (2147483647 : Int32)) (5 : Int32))), .val (.ref tiff), .unset, .unset] [])) rfl (hb hby at_22)
    refine own_fw st0_11 ?_
    refine own_fw (A := T0_11.setTop (mkF m 27 #[.val (.int p0), .val (.int (own_irem (p0 &&& (2147483647 : Int32)) (5 : Int32))), .val (.ref tiff), .val (.ref png), .unset] [(.ref tiff)])) (fun t k => ?_) ?_
    · show Steps p.tables e below (T0_11.setTop (mkF m 25 #[.val (.int p0), .val (.int (own_irem (p0 &&& (2147483647 : Int32)) (5 : Int32))), .val (.ref tiff), .unset, .unset] [(.ref png)])) t
      refine XS.astoreN X0_11.here hx rfl (hb hby at_25) rfl rfl (l' := #[.val (.int p0), .val (.int (own_irem (p0 &&& (2147483647 : Int32)) (5 : Int32))), .val (.ref tiff), .val (.ref png), .unset]) rfl ?_
      show Steps p.tables e below (T0_11.setTop (mkF m 26 #[.val (.int p0), .val (.int (own_irem (p0 &&& (2147483647 : Int32)) (5 : Int32))), .val (.ref tiff), .val (.ref png), .unset] [])) t
      refine XS.aloadN X0_11.here hx rfl (hb hby at_26) rfl rfl ?_
      exact k
    obtain ⟨cq0_12, kq0_12, q0_12a, q0_12b, q0_12c⟩ := isOf hZ e0_11 E_tiff
    obtain ⟨_, _, ⟨T0_12, L0_12, k0_12, n0_12⟩, -, X0_12, ⟨Lc0_12, hQ0_12, l0_12, y0_12, z0_12⟩, st0_12⟩ := X0_11.virtualBack hx (y := (⟨"collotype/model/ImageFormat", "variationFormat", "()Lcollotype/model/ImageFormat;"⟩ : MethodName)) (z := (⟨"collotype/model/ImageFormat", "variationFormat", "()Lcollotype/model/ImageFormat;"⟩ : MethodName)) hown (mvT hZ (hw _ (List.mem_of_getElem? (i := 8) rfl))) (mvT hZ (hw _ (List.mem_of_getElem? (i := 9) rfl))) (notFace_of_selects (args := #[]) (mvT hZ (hw _ (List.mem_of_getElem? (i := 11) rfl)))) (mvT hZ (hw _ (List.mem_of_getElem? (i := 11) rfl))) (mvT hZ (hw _ (List.mem_of_getElem? (i := 10) rfl))) (by decide) (backOf (W := 0) (rm2b l Z a0 hw [] tiff png h0 n0 Z0 S_PNG F_tiff) hZ (hw _ (List.mem_of_getElem? (i := 12) rfl)) (hw _ (List.mem_of_getElem? (i := 6) rfl)) (by decide) (by decide)) q0_12a q0_12c (g := (mkF m 27 #[.val (.int p0), .val (.int (own_irem (p0 &&& (2147483647 : Int32)) (5 : Int32))), .val (.ref tiff), .val (.ref png), .unset] [(.ref tiff)])) rfl (by rw [hml]; rfl) (Steps.refl _) (argsL := []) (rest := []) (lenOf pd0_1 rfl) rfl (by show 2 * 0 + _ ≤ _; exact Nat.le_of_eq rfl) (hb hby at_27) (fun _ _ => ⟨rfl, e0_11, (by decide : 0 + 0 ≤ _), (by decide : 0 + 0 ≤ _)⟩)
    dsimp only [Pt.U, Pt.locs, Pt.cells, Pt.slots] at X0_12 l0_12 y0_12 z0_12 st0_12 hQ0_12
    subst l0_12 y0_12 z0_12
    obtain ⟨rfl, N0_12q, e0_12⟩ := hQ0_12
    have N0_12 := Fr.app N0_10 N0_12q
    refine own_fw (fun t k => st0_12.trans k) ?_
    refine own_fw (A := T0_12.setTop (mkF m 35 #[.val (.int p0), .val (.int (own_irem (p0 &&& (2147483647 : Int32)) (5 : Int32))), .val (.ref tiff), .val (.ref png), .val (.ref png)] [(.ref png), (.ref png)])) (fun t k => ?_) ?_
    · show Steps p.tables e below (T0_12.setTop (mkF m 30 #[.val (.int p0), .val (.int (own_irem (p0 &&& (2147483647 : Int32)) (5 : Int32))), .val (.ref tiff), .val (.ref png), .unset] [(.ref png)])) t
      refine XS.astore X0_12.here hx rfl (hb hby at_30) rfl rfl (l' := #[.val (.int p0), .val (.int (own_irem (p0 &&& (2147483647 : Int32)) (5 : Int32))), .val (.ref tiff), .val (.ref png), .val (.ref png)]) rfl ?_
      show Steps p.tables e below (T0_12.setTop (mkF m 32 #[.val (.int p0), .val (.int (own_irem (p0 &&& (2147483647 : Int32)) (5 : Int32))), .val (.ref tiff), .val (.ref png), .val (.ref png)] [])) t
      refine XS.aload X0_12.here hx rfl (hb hby at_32) rfl rfl ?_
      show Steps p.tables e below (T0_12.setTop (mkF m 34 #[.val (.int p0), .val (.int (own_irem (p0 &&& (2147483647 : Int32)) (5 : Int32))), .val (.ref tiff), .val (.ref png), .val (.ref png)] [(.ref png)])) t
      refine XS.aloadN X0_12.here hx rfl (hb hby at_34) rfl rfl ?_
      exact k
    refine own_fw (A := T0_12.setTop (mkF m 40 #[.val (.int p0), .val (.int (own_irem (p0 &&& (2147483647 : Int32)) (5 : Int32))), .val (.ref tiff), .val (.ref png), .val (.ref png)] [])) (fun t k => ?_) ?_
    · refine Jvm.RoadKit.acmp (g := (mkF m 35 #[.val (.int p0), .val (.int (own_irem (p0 &&& (2147483647 : Int32)) (5 : Int32))), .val (.ref tiff), .val (.ref png), .val (.ref png)] [(.ref png), (.ref png)])) X0_12 hx rfl rfl rfl (pc0 := 35) (pc' := 40) (same := true) rfl (hb hby at_35) rfl (decide_eq_true rfl) (by decide) (by decide) ?_
      exact k
    refine own_fw (A := T0_12.setTop (mkF m 42 #[.val (.int p0), .val (.int (own_irem (p0 &&& (2147483647 : Int32)) (5 : Int32))), .val (.ref tiff), .val (.ref png), .val (.ref png)] [(.ref png)])) (fun t k => ?_) ?_
    · show Steps p.tables e below (T0_12.setTop (mkF m 40 #[.val (.int p0), .val (.int (own_irem (p0 &&& (2147483647 : Int32)) (5 : Int32))), .val (.ref tiff), .val (.ref png), .val (.ref png)] [])) t
      refine XS.aload X0_12.here hx rfl (hb hby at_40) rfl rfl ?_
      exact k
    obtain ⟨cq0_13, kq0_13, q0_13a, q0_13b, q0_13c⟩ := isOf hZ e0_12 E_png
    obtain ⟨_, _, ⟨T0_13, L0_13, k0_13, n0_13⟩, -, X0_13, ⟨Lc0_13, hQ0_13, l0_13, y0_13, z0_13⟩, st0_13⟩ := X0_12.virtualBack hx (y := (⟨"collotype/model/ImageFormat", "variationFormat", "()Lcollotype/model/ImageFormat;"⟩ : MethodName)) (z := (⟨"collotype/model/ImageFormat", "variationFormat", "()Lcollotype/model/ImageFormat;"⟩ : MethodName)) hown (mvT hZ (hw _ (List.mem_of_getElem? (i := 8) rfl))) (mvT hZ (hw _ (List.mem_of_getElem? (i := 9) rfl))) (notFace_of_selects (args := #[]) (mvT hZ (hw _ (List.mem_of_getElem? (i := 11) rfl)))) (mvT hZ (hw _ (List.mem_of_getElem? (i := 11) rfl))) (mvT hZ (hw _ (List.mem_of_getElem? (i := 10) rfl))) (by decide) (backOf (W := 0) (rm2a l Z a0 hw [] png png h0 n0 Z0 S_PNG F_png) hZ (hw _ (List.mem_of_getElem? (i := 12) rfl)) (hw _ (List.mem_of_getElem? (i := 6) rfl)) (by decide) (by decide)) q0_13a q0_13c (g := (mkF m 42 #[.val (.int p0), .val (.int (own_irem (p0 &&& (2147483647 : Int32)) (5 : Int32))), .val (.ref tiff), .val (.ref png), .val (.ref png)] [(.ref png)])) rfl (by rw [hml]; rfl) (Steps.refl _) (argsL := []) (rest := []) (lenOf pd0_1 rfl) rfl (by show 2 * 0 + _ ≤ _; exact Nat.le_of_eq rfl) (hb hby at_42) (fun _ _ => ⟨rfl, e0_12, (by decide : 0 + 0 ≤ _), (by decide : 0 + 0 ≤ _)⟩)
    dsimp only [Pt.U, Pt.locs, Pt.cells, Pt.slots] at X0_13 l0_13 y0_13 z0_13 st0_13 hQ0_13
    subst l0_13 y0_13 z0_13
    obtain ⟨rfl, N0_13q, e0_13⟩ := hQ0_13
    have N0_13 := Fr.app N0_12 N0_13q
    refine own_fw (fun t k => st0_13.trans k) ?_
    refine own_fw (A := T0_13.setTop (mkF m 47 #[.val (.int p0), .val (.int (own_irem (p0 &&& (2147483647 : Int32)) (5 : Int32))), .val (.ref tiff), .val (.ref png), .val (.ref png)] [(.ref png), (.ref png)])) (fun t k => ?_) ?_
    · show Steps p.tables e below (T0_13.setTop (mkF m 45 #[.val (.int p0), .val (.int (own_irem (p0 &&& (2147483647 : Int32)) (5 : Int32))), .val (.ref tiff), .val (.ref png), .val (.ref png)] [(.ref png)])) t
      refine XS.aload X0_13.here hx rfl (hb hby at_45) rfl rfl ?_
      exact k
    refine own_fw (A := T0_13.setTop (mkF m 50 #[.val (.int p0), .val (.int (own_irem (p0 &&& (2147483647 : Int32)) (5 : Int32))), .val (.ref tiff), .val (.ref png), .val (.ref png)] [])) (fun t k => ?_) ?_
    · refine Jvm.RoadKit.acmp (g := (mkF m 47 #[.val (.int p0), .val (.int (own_irem (p0 &&& (2147483647 : Int32)) (5 : Int32))), .val (.ref tiff), .val (.ref png), .val (.ref png)] [(.ref png), (.ref png)])) X0_13 hx rfl rfl rfl (pc0 := 47) (pc' := 50) (same := true) rfl (hb hby at_47) rfl (decide_eq_true rfl) (by decide) (by decide) ?_
      exact k
    refine own_fw (A := T0_13.setTop (mkF m 55 #[.val (.int p0), .val (.int (own_irem (p0 &&& (2147483647 : Int32)) (5 : Int32))), .val (.ref tiff), .val (.ref png), .val (.ref png)] [(.int (1 : Int32))])) (fun t k => ?_) ?_
    · show Steps p.tables e below (T0_13.setTop (mkF m 50 #[.val (.int p0), .val (.int (own_irem (p0 &&& (2147483647 : Int32)) (5 : Int32))), .val (.ref tiff), .val (.ref png), .val (.ref png)] [])) t
      refine XS.iconst X0_13.here hx rfl (hb hby at_50) ?_
      show Steps p.tables e below (T0_13.setTop (mkF m 51 #[.val (.int p0), .val (.int (own_irem (p0 &&& (2147483647 : Int32)) (5 : Int32))), .val (.ref tiff), .val (.ref png), .val (.ref png)] [(.int (1 : Int32))])) t
      refine XS.goto X0_13.here hx rfl (pc0 := 51) (pc' := 55) rfl (hb hby at_51) (by decide) (by decide) ?_
      exact k
    obtain ⟨fs, hr, hrun, hended, hW, hsame⟩ := X0_13.leave (v := some (.int (nar .boolean (1 : Int32)))) (fun h => by rw [Bd.returns] at h; cases h)
    refine ⟨_, _, retN X0_13 hx (t := .boolean) Bd.returns (by simp) (hb hby at_55) hr, hrun, hended, _, _, rfl, ?_, ⟨_, rfl⟩, hW, hsame.mono (by decide) (by decide)⟩
    have eh : (T0_13.setFrames fs).heap = h0 := e0_13
    rw [eh]
    exact ⟨rfl, N0_13⟩
  · refine own_fw (A := s₁.setTop (mkF m 8 #[.val (.int p0), .val (.int (own_irem (p0 &&& (2147483647 : Int32)) (5 : Int32))), .unset, .unset, .unset] [(.int (own_irem (p0 &&& (2147483647 : Int32)) (5 : Int32)))])) (fun t k => ?_) ?_
    · show Steps p.tables e below (s₁.setTop (mkF m 7 #[.val (.int p0), .val (.int (own_irem (p0 &&& (2147483647 : Int32)) (5 : Int32))), .unset, .unset, .unset] [])) t
      refine XS.iloadN X0.here hx rfl (hb hby at_7) rfl ?_
      exact k
    obtain ⟨_, _, ⟨T0_14, L0_14, k0_14, n0_14⟩, -, X0_14, ⟨Lc0_14, hQ0_14, l0_14, y0_14, z0_14⟩, st0_14⟩ := Jvm.LawKit.callS X0 hx (y := (⟨"collotype/model/ImageFormatVariationFormatPinLaw", "pick", "(I)Lcollotype/model/ImageFormat;"⟩ : MethodName)) hown (mvT hZ (hw _ (List.mem_of_getElem? (i := 1) rfl))) (mvT hZ (hw _ (List.mem_of_getElem? (i := 2) rfl))) (mvT hZ (hw _ (List.mem_of_getElem? (i := 3) rfl))) (mvT hZ (hw _ (List.mem_of_getElem? (i := 4) rfl))) (by decide) (backOf (W := 0) (rm1 l Z a0 hw [] ((own_irem (p0 &&& (2147483647 : Int32)) (5 : Int32))) jpeg png gif tiff bmp bmp h0 n0 Z0 S_JPEG S_PNG S_GIF S_TIFF S_BMP (by rw [hk]; rfl)) hZ (hw _ (List.mem_of_getElem? (i := 4) rfl)) (hw _ (List.mem_of_getElem? (i := 3) rfl)) (by decide) (by decide)) (g := (mkF m 8 #[.val (.int p0), .val (.int (own_irem (p0 &&& (2147483647 : Int32)) (5 : Int32))), .unset, .unset, .unset] [(.int (own_irem (p0 &&& (2147483647 : Int32)) (5 : Int32)))])) rfl (by rw [hml]; rfl) (argsL := [(.int (own_irem (p0 &&& (2147483647 : Int32)) (5 : Int32)))]) (rest := []) (lenOf pd0_0 rfl) rfl (by show 2 * 0 + _ ≤ _; exact Nat.le_of_eq rfl) (hb hby at_8) (fun _ _ => ⟨rfl, e0, (by decide : 0 + 0 ≤ _), (by decide : 0 + 0 ≤ _)⟩)
    dsimp only [Pt.U, Pt.locs, Pt.cells, Pt.slots] at X0_14 l0_14 y0_14 z0_14 st0_14 hQ0_14
    subst l0_14 y0_14 z0_14
    obtain ⟨rfl, N0_14q, e0_14⟩ := hQ0_14
    have N0_14 := Fr.app N0 N0_14q
    refine own_fw st0_14 ?_
    refine own_fw (A := T0_14.setTop (mkF m 22 #[.val (.int p0), .val (.int (own_irem (p0 &&& (2147483647 : Int32)) (5 : Int32))), .val (.ref bmp), .unset, .unset] [])) (fun t k => ?_) ?_
    · show Steps p.tables e below (T0_14.setTop (mkF m 11 #[.val (.int p0), .val (.int (own_irem (p0 &&& (2147483647 : Int32)) (5 : Int32))), .unset, .unset, .unset] [(.ref bmp)])) t
      refine XS.astoreN X0_14.here hx rfl (hb hby at_11) rfl rfl (l' := #[.val (.int p0), .val (.int (own_irem (p0 &&& (2147483647 : Int32)) (5 : Int32))), .val (.ref bmp), .unset, .unset]) rfl ?_
      show Steps p.tables e below (T0_14.setTop (mkF m 12 #[.val (.int p0), .val (.int (own_irem (p0 &&& (2147483647 : Int32)) (5 : Int32))), .val (.ref bmp), .unset, .unset] [])) t
      refine XS.iloadN X0_14.here hx rfl (hb hby at_12) rfl ?_
      show Steps p.tables e below (T0_14.setTop (mkF m 13 #[.val (.int p0), .val (.int (own_irem (p0 &&& (2147483647 : Int32)) (5 : Int32))), .val (.ref bmp), .unset, .unset] [(.int (own_irem (p0 &&& (2147483647 : Int32)) (5 : Int32)))])) t
      refine XS.iconst X0_14.here hx rfl (hb hby at_13) ?_
      show Steps p.tables e below (T0_14.setTop (mkF m 14 #[.val (.int p0), .val (.int (own_irem (p0 &&& (2147483647 : Int32)) (5 : Int32))), .val (.ref bmp), .unset, .unset] [(.int (2 : Int32)), (.int (own_irem (p0 &&& (2147483647 : Int32)) (5 : Int32)))])) t
      refine XS.icmpYes X0_14.here hx rfl (pc0 := 14) (pc' := 22) rfl (hb hby at_14) rfl (tlt (by rw [hk]; decide)).2.2.1 (by decide) (by decide) ?_
      exact k
    obtain ⟨T0_15, X0_15, e0_15, st0_15⟩ := getS2 X0_14 hx hZ hown (host := "") (Or.inl (hw _ (List.mem_of_getElem? (i := 17) rfl))) Via.refl e0_14 S_PNG (g := (mkF m 22 #[.val (.int p0), .val (.int (own_irem (p0 &&& (2147483647 : Int32)) (5 : Int32))), .val (.ref bmp), .unset, .unset] [])) rfl (hb hby at_22)
    refine own_fw st0_15 ?_
    refine own_fw (A := T0_15.setTop (mkF m 27 #[.val (.int p0), .val (.int (own_irem (p0 &&& (2147483647 : Int32)) (5 : Int32))), .val (.ref bmp), .val (.ref png), .unset] [(.ref bmp)])) (fun t k => ?_) ?_
    · show Steps p.tables e below (T0_15.setTop (mkF m 25 #[.val (.int p0), .val (.int (own_irem (p0 &&& (2147483647 : Int32)) (5 : Int32))), .val (.ref bmp), .unset, .unset] [(.ref png)])) t
      refine XS.astoreN X0_15.here hx rfl (hb hby at_25) rfl rfl (l' := #[.val (.int p0), .val (.int (own_irem (p0 &&& (2147483647 : Int32)) (5 : Int32))), .val (.ref bmp), .val (.ref png), .unset]) rfl ?_
      show Steps p.tables e below (T0_15.setTop (mkF m 26 #[.val (.int p0), .val (.int (own_irem (p0 &&& (2147483647 : Int32)) (5 : Int32))), .val (.ref bmp), .val (.ref png), .unset] [])) t
      refine XS.aloadN X0_15.here hx rfl (hb hby at_26) rfl rfl ?_
      exact k
    obtain ⟨cq0_16, kq0_16, q0_16a, q0_16b, q0_16c⟩ := isOf hZ e0_15 E_bmp
    obtain ⟨_, _, ⟨T0_16, L0_16, k0_16, n0_16⟩, -, X0_16, ⟨Lc0_16, hQ0_16, l0_16, y0_16, z0_16⟩, st0_16⟩ := X0_15.virtualBack hx (y := (⟨"collotype/model/ImageFormat", "variationFormat", "()Lcollotype/model/ImageFormat;"⟩ : MethodName)) (z := (⟨"collotype/model/ImageFormat", "variationFormat", "()Lcollotype/model/ImageFormat;"⟩ : MethodName)) hown (mvT hZ (hw _ (List.mem_of_getElem? (i := 8) rfl))) (mvT hZ (hw _ (List.mem_of_getElem? (i := 9) rfl))) (notFace_of_selects (args := #[]) (mvT hZ (hw _ (List.mem_of_getElem? (i := 11) rfl)))) (mvT hZ (hw _ (List.mem_of_getElem? (i := 11) rfl))) (mvT hZ (hw _ (List.mem_of_getElem? (i := 10) rfl))) (by decide) (backOf (W := 0) (rm2b l Z a0 hw [] bmp png h0 n0 Z0 S_PNG F_bmp) hZ (hw _ (List.mem_of_getElem? (i := 12) rfl)) (hw _ (List.mem_of_getElem? (i := 6) rfl)) (by decide) (by decide)) q0_16a q0_16c (g := (mkF m 27 #[.val (.int p0), .val (.int (own_irem (p0 &&& (2147483647 : Int32)) (5 : Int32))), .val (.ref bmp), .val (.ref png), .unset] [(.ref bmp)])) rfl (by rw [hml]; rfl) (Steps.refl _) (argsL := []) (rest := []) (lenOf pd0_1 rfl) rfl (by show 2 * 0 + _ ≤ _; exact Nat.le_of_eq rfl) (hb hby at_27) (fun _ _ => ⟨rfl, e0_15, (by decide : 0 + 0 ≤ _), (by decide : 0 + 0 ≤ _)⟩)
    dsimp only [Pt.U, Pt.locs, Pt.cells, Pt.slots] at X0_16 l0_16 y0_16 z0_16 st0_16 hQ0_16
    subst l0_16 y0_16 z0_16
    obtain ⟨rfl, N0_16q, e0_16⟩ := hQ0_16
    have N0_16 := Fr.app N0_14 N0_16q
    refine own_fw (fun t k => st0_16.trans k) ?_
    refine own_fw (A := T0_16.setTop (mkF m 35 #[.val (.int p0), .val (.int (own_irem (p0 &&& (2147483647 : Int32)) (5 : Int32))), .val (.ref bmp), .val (.ref png), .val (.ref png)] [(.ref png), (.ref png)])) (fun t k => ?_) ?_
    · show Steps p.tables e below (T0_16.setTop (mkF m 30 #[.val (.int p0), .val (.int (own_irem (p0 &&& (2147483647 : Int32)) (5 : Int32))), .val (.ref bmp), .val (.ref png), .unset] [(.ref png)])) t
      refine XS.astore X0_16.here hx rfl (hb hby at_30) rfl rfl (l' := #[.val (.int p0), .val (.int (own_irem (p0 &&& (2147483647 : Int32)) (5 : Int32))), .val (.ref bmp), .val (.ref png), .val (.ref png)]) rfl ?_
      show Steps p.tables e below (T0_16.setTop (mkF m 32 #[.val (.int p0), .val (.int (own_irem (p0 &&& (2147483647 : Int32)) (5 : Int32))), .val (.ref bmp), .val (.ref png), .val (.ref png)] [])) t
      refine XS.aload X0_16.here hx rfl (hb hby at_32) rfl rfl ?_
      show Steps p.tables e below (T0_16.setTop (mkF m 34 #[.val (.int p0), .val (.int (own_irem (p0 &&& (2147483647 : Int32)) (5 : Int32))), .val (.ref bmp), .val (.ref png), .val (.ref png)] [(.ref png)])) t
      refine XS.aloadN X0_16.here hx rfl (hb hby at_34) rfl rfl ?_
      exact k
    refine own_fw (A := T0_16.setTop (mkF m 40 #[.val (.int p0), .val (.int (own_irem (p0 &&& (2147483647 : Int32)) (5 : Int32))), .val (.ref bmp), .val (.ref png), .val (.ref png)] [])) (fun t k => ?_) ?_
    · refine Jvm.RoadKit.acmp (g := (mkF m 35 #[.val (.int p0), .val (.int (own_irem (p0 &&& (2147483647 : Int32)) (5 : Int32))), .val (.ref bmp), .val (.ref png), .val (.ref png)] [(.ref png), (.ref png)])) X0_16 hx rfl rfl rfl (pc0 := 35) (pc' := 40) (same := true) rfl (hb hby at_35) rfl (decide_eq_true rfl) (by decide) (by decide) ?_
      exact k
    refine own_fw (A := T0_16.setTop (mkF m 42 #[.val (.int p0), .val (.int (own_irem (p0 &&& (2147483647 : Int32)) (5 : Int32))), .val (.ref bmp), .val (.ref png), .val (.ref png)] [(.ref png)])) (fun t k => ?_) ?_
    · show Steps p.tables e below (T0_16.setTop (mkF m 40 #[.val (.int p0), .val (.int (own_irem (p0 &&& (2147483647 : Int32)) (5 : Int32))), .val (.ref bmp), .val (.ref png), .val (.ref png)] [])) t
      refine XS.aload X0_16.here hx rfl (hb hby at_40) rfl rfl ?_
      exact k
    obtain ⟨cq0_17, kq0_17, q0_17a, q0_17b, q0_17c⟩ := isOf hZ e0_16 E_png
    obtain ⟨_, _, ⟨T0_17, L0_17, k0_17, n0_17⟩, -, X0_17, ⟨Lc0_17, hQ0_17, l0_17, y0_17, z0_17⟩, st0_17⟩ := X0_16.virtualBack hx (y := (⟨"collotype/model/ImageFormat", "variationFormat", "()Lcollotype/model/ImageFormat;"⟩ : MethodName)) (z := (⟨"collotype/model/ImageFormat", "variationFormat", "()Lcollotype/model/ImageFormat;"⟩ : MethodName)) hown (mvT hZ (hw _ (List.mem_of_getElem? (i := 8) rfl))) (mvT hZ (hw _ (List.mem_of_getElem? (i := 9) rfl))) (notFace_of_selects (args := #[]) (mvT hZ (hw _ (List.mem_of_getElem? (i := 11) rfl)))) (mvT hZ (hw _ (List.mem_of_getElem? (i := 11) rfl))) (mvT hZ (hw _ (List.mem_of_getElem? (i := 10) rfl))) (by decide) (backOf (W := 0) (rm2a l Z a0 hw [] png png h0 n0 Z0 S_PNG F_png) hZ (hw _ (List.mem_of_getElem? (i := 12) rfl)) (hw _ (List.mem_of_getElem? (i := 6) rfl)) (by decide) (by decide)) q0_17a q0_17c (g := (mkF m 42 #[.val (.int p0), .val (.int (own_irem (p0 &&& (2147483647 : Int32)) (5 : Int32))), .val (.ref bmp), .val (.ref png), .val (.ref png)] [(.ref png)])) rfl (by rw [hml]; rfl) (Steps.refl _) (argsL := []) (rest := []) (lenOf pd0_1 rfl) rfl (by show 2 * 0 + _ ≤ _; exact Nat.le_of_eq rfl) (hb hby at_42) (fun _ _ => ⟨rfl, e0_16, (by decide : 0 + 0 ≤ _), (by decide : 0 + 0 ≤ _)⟩)
    dsimp only [Pt.U, Pt.locs, Pt.cells, Pt.slots] at X0_17 l0_17 y0_17 z0_17 st0_17 hQ0_17
    subst l0_17 y0_17 z0_17
    obtain ⟨rfl, N0_17q, e0_17⟩ := hQ0_17
    have N0_17 := Fr.app N0_16 N0_17q
    refine own_fw (fun t k => st0_17.trans k) ?_
    refine own_fw (A := T0_17.setTop (mkF m 47 #[.val (.int p0), .val (.int (own_irem (p0 &&& (2147483647 : Int32)) (5 : Int32))), .val (.ref bmp), .val (.ref png), .val (.ref png)] [(.ref png), (.ref png)])) (fun t k => ?_) ?_
    · show Steps p.tables e below (T0_17.setTop (mkF m 45 #[.val (.int p0), .val (.int (own_irem (p0 &&& (2147483647 : Int32)) (5 : Int32))), .val (.ref bmp), .val (.ref png), .val (.ref png)] [(.ref png)])) t
      refine XS.aload X0_17.here hx rfl (hb hby at_45) rfl rfl ?_
      exact k
    refine own_fw (A := T0_17.setTop (mkF m 50 #[.val (.int p0), .val (.int (own_irem (p0 &&& (2147483647 : Int32)) (5 : Int32))), .val (.ref bmp), .val (.ref png), .val (.ref png)] [])) (fun t k => ?_) ?_
    · refine Jvm.RoadKit.acmp (g := (mkF m 47 #[.val (.int p0), .val (.int (own_irem (p0 &&& (2147483647 : Int32)) (5 : Int32))), .val (.ref bmp), .val (.ref png), .val (.ref png)] [(.ref png), (.ref png)])) X0_17 hx rfl rfl rfl (pc0 := 47) (pc' := 50) (same := true) rfl (hb hby at_47) rfl (decide_eq_true rfl) (by decide) (by decide) ?_
      exact k
    refine own_fw (A := T0_17.setTop (mkF m 55 #[.val (.int p0), .val (.int (own_irem (p0 &&& (2147483647 : Int32)) (5 : Int32))), .val (.ref bmp), .val (.ref png), .val (.ref png)] [(.int (1 : Int32))])) (fun t k => ?_) ?_
    · show Steps p.tables e below (T0_17.setTop (mkF m 50 #[.val (.int p0), .val (.int (own_irem (p0 &&& (2147483647 : Int32)) (5 : Int32))), .val (.ref bmp), .val (.ref png), .val (.ref png)] [])) t
      refine XS.iconst X0_17.here hx rfl (hb hby at_50) ?_
      show Steps p.tables e below (T0_17.setTop (mkF m 51 #[.val (.int p0), .val (.int (own_irem (p0 &&& (2147483647 : Int32)) (5 : Int32))), .val (.ref bmp), .val (.ref png), .val (.ref png)] [(.int (1 : Int32))])) t
      refine XS.goto X0_17.here hx rfl (pc0 := 51) (pc' := 55) rfl (hb hby at_51) (by decide) (by decide) ?_
      exact k
    obtain ⟨fs, hr, hrun, hended, hW, hsame⟩ := X0_17.leave (v := some (.int (nar .boolean (1 : Int32)))) (fun h => by rw [Bd.returns] at h; cases h)
    refine ⟨_, _, retN X0_17 hx (t := .boolean) Bd.returns (by simp) (hb hby at_55) hr, hrun, hended, _, _, rfl, ?_, ⟨_, rfl⟩, hW, hsame.mono (by decide) (by decide)⟩
    have eh : (T0_17.setFrames fs).heap = h0 := e0_17
    rw [eh]
    exact ⟨rfl, N0_17⟩
set_option maxRecDepth 65536 in
set_option maxHeartbeats 40000000 in
theorem comes_1 {Post : Tables → Env → Array Value → State → Outcome → State → Prop} (hpost : ∀ tb e args s v u, (limb_1_1.after args s (.returned v) u = true ∧ limb_1_2.after args s (.returned v) u = true ∧ True) → FrameEnd s (.returned v) u (Jvm.fieldLocs frame_1_writes args s ++ Jvm.arrayLocs frame_1_arrays args s ++ Jvm.staticLocs frame_1_statics s) 0 0 → Post tb e args s (.returned v) u) :
    ArmFor flags0 classFile x code maxLocals ret World_1 tables_1 room_1 Calls_1 rest_1 Pre_1 Post := by
  intro l hfl _ _ p e ha hc hk s m args below hf hA hF happ hP
  obtain ⟨hcalls, hrest, hpre⟩ := hP
  obtain ⟨-, -, -, hnamed, -, -, -, hat⟩ := (Spec.applies_iff hf).mp happ
  obtain ⟨hg, hn⟩ := and_e (Cond.before_iff.mp (show (Jvm.Cond.and given_1 narrow_1).before args s = true from hpre))
  obtain ⟨g1, g2⟩ := and_e hg
  obtain ⟨w0, rfl⟩ : ∃ w0 : Value, args = #[w0] := by
    have hs : args.size = 1 := by simpa [Cond.value, given_1] using g1
    obtain ⟨L⟩ := args
    match L, hs with
    | [w0], _ => exact ⟨w0, rfl⟩
  have hw := fun d (hd : d ∈ tables_1) => atoms_spec (ws := Jvm.Cond.code x code maxLocals ret :: tables_1) hat d (List.mem_cons_of_mem _ hd)
  have hfit : Fit s := fun {y c} hc i hi => by
    obtain ⟨ha, rfl⟩ := Array.getElem?_eq_some_iff.mp hc
    have q := List.all_eq_true.mp ((Array.all_eq_true_iff_forall_mem.mp hF) _ (Array.getElem_mem ha)) i (List.mem_range.mpr hi)
    simpa [Array.getElem?_eq_getElem hi] using q
  obtain ⟨i0, ei0⟩ := is_v g2
  obtain rfl : w0 = (.int i0) := Option.some.inj ei0
  obtain ⟨m0, c0⟩ := and_e hn
  obtain ⟨m1, c1⟩ := and_e c0
  obtain ⟨m2, c2⟩ := and_e c1
  obtain ⟨m3, c3⟩ := and_e c2
  obtain ⟨m4, c4⟩ := and_e c3
  obtain ⟨m5, c5⟩ := and_e c4
  obtain ⟨m6, c6⟩ := and_e c5
  obtain ⟨m7, c7⟩ := and_e c6
  obtain ⟨m8, c8⟩ := and_e c7
  obtain ⟨jpeg, ev_jpeg⟩ := exa_v m0
  have E_jpeg := Exa.start ev_jpeg m0
  have S_JPEG := Sta.start ev_jpeg (Or.inr ⟨(hw _ (List.mem_of_getElem? (i := 6) rfl)), (hw _ (List.mem_of_getElem? (i := 7) rfl))⟩)
  obtain ⟨tiff, ev_tiff⟩ := exa_v m2
  have E_tiff := Exa.start ev_tiff m2
  have S_TIFF := Sta.start ev_tiff (Or.inr ⟨(hw _ (List.mem_of_getElem? (i := 6) rfl)), (hw _ (List.mem_of_getElem? (i := 16) rfl))⟩)
  obtain ⟨png, ev_png⟩ := exa_v m3
  have E_png := Exa.start ev_png m3
  have S_PNG := Sta.start ev_png (Or.inr ⟨(hw _ (List.mem_of_getElem? (i := 6) rfl)), (hw _ (List.mem_of_getElem? (i := 18) rfl))⟩)
  obtain ⟨bmp, ev_bmp⟩ := exa_v m6
  have E_bmp := Exa.start ev_bmp m6
  have S_BMP := Sta.start ev_bmp (Or.inr ⟨(hw _ (List.mem_of_getElem? (i := 6) rfl)), (hw _ (List.mem_of_getElem? (i := 21) rfl))⟩)
  obtain ⟨gif, ev_gif⟩ := exa_v m8
  have E_gif := Exa.start ev_gif m8
  have S_GIF := Sta.start ev_gif (Or.inr ⟨(hw _ (List.mem_of_getElem? (i := 6) rfl)), (hw _ (List.mem_of_getElem? (i := 23) rfl))⟩)
  have o_jpeg := Jvm.Free.NT.SwA.eq_int (Cond.before_iff.mpr m1)
  rw [fld_at ev_jpeg] at o_jpeg
  have F_jpeg := Fld.start o_jpeg
  have o_tiff := Jvm.Free.NT.SwA.eq_int (Cond.before_iff.mpr m4)
  rw [fld_at ev_tiff] at o_tiff
  have F_tiff := Fld.start o_tiff
  have o_png := Jvm.Free.NT.SwA.eq_int (Cond.before_iff.mpr m5)
  rw [fld_at ev_png] at o_png
  have F_png := Fld.start o_png
  have o_bmp := Jvm.Free.NT.SwA.eq_int (Cond.before_iff.mpr m7)
  rw [fld_at ev_bmp] at o_bmp
  have F_bmp := Fld.start o_bmp
  have o_gif := Jvm.Free.NT.SwA.eq_int (Cond.before_iff.mpr c8)
  rw [fld_at ev_gif] at o_gif
  have F_gif := Fld.start o_gif
  obtain ⟨n, o, h1, h2, h3, _, L, rfl, ⟨rfl, N⟩, hq⟩ := rm0 l s _ hw tables_1 i0 jpeg png gif tiff bmp s.heap s.heap.size (Nat.le_refl _) S_JPEG S_PNG S_GIF S_TIFF S_BMP E_jpeg F_jpeg E_png F_png E_gif F_gif E_tiff F_tiff E_bmp F_bmp p e ha hc hk s m _ below hf ((Spec.applies_iff_loose hf).mp happ).1 ⟨rfl, State.Warmed39.refl s, rfl⟩ trivial
  refine ⟨n, _, h1, h2, h3, hpost _ _ _ _ _ _ ⟨Cond.after_iff.mpr rfl, Cond.after_iff.mpr (eq_i res_at (Term.int_eval (1)) rfl), trivial⟩ ⟨hq.1, hq.2.1, (hq.2.2.sift fun y hy => Or.inr (N y hy)).mono (by decide) (by decide)⟩⟩
theorem main_1_1 : Claimed_1_1 := comes_1 fun _ _ _ _ _ _ h hF => ⟨h.1, hF⟩
theorem main_1_2 : Claimed_1_2 := comes_1 fun _ _ _ _ _ _ h hF => ⟨h.2.1, hF⟩
end Jvm.Pilot.@@N@@
namespace Jvm.Pilot.@@N@@
open Jvm Jvm.ClassFile Sem Op Lib Jvm.Free Jvm.Stand Jvm.Pilot.@@N@@.Jvm.D
/-! MADE BY PROGRAM (witnessworld.py) out of the Statement's table words and the real class files: 12 classes; the members and pool entries that the words name. The judged class is class 1, her method 2. -/
namespace start1
open Jvm.ClassFile
def u (s : String) : CpInfo := .utf8 (stringToUtf16 s)
/-- a pool by its gaps: so many unusable entries, then the entry; so many at the end -/
def gap : Nat → List CpInfo → List CpInfo
  | 0, r => r
  | n + 1, r => .unusable :: gap n r
def poolList (es : List (Nat × CpInfo)) (last : Nat) : List CpInfo := es.foldr (fun e r => gap e.1 (e.2 :: r)) (gap last [])
def pool (es : List (Nat × CpInfo)) (last : Nat) : Array CpInfo := ⟨poolList es last⟩
def fileOf (pool : Array CpInfo) (this : Nat) (attrs : Array Attribute := #[]) (ms : Array MethodInfo := #[]) (fl : Nat := 33) (sup : Nat := 0) (ifs : Array Nat := #[]) (fds : Array FieldInfo := #[]) : ClassFile where
  minorVersion := 0
  majorVersion := 65
  constantPool := pool
  accessFlags := fl
  thisClass := this
  superClass := sup
  interfaces := ifs
  fields := fds
  methods := ms
  attributes := attrs
def plain (name : String) (sup : Option ClassId) : Class where
  name := name
  kind := .ordinary
  loader := none
  accessFlags := 33
  super := sup
  interfaces := #[]
  cf := none
  fields := #[]
  methods := #[]
  instanceTypes := #[]
  staticTypes := #[]
  resolved := #[]
  callSites := []
  init := .initialized
  statics := none
  mirror := none

def pool0 : Array CpInfo := pool [(5, u "<init>"), (0, u "()V"), (1, .class_ 10), (1, u "java/lang/Object")] 113

def k0m0 : Method := { name := "<init>", desc := "()V", sig := { parameters := [], returnType := none }, accessFlags := 1, code := none }
/-- java/lang/Object -/
def k0 : Class := { plain "java/lang/Object" none with
  accessFlags := 33
  interfaces := #[]
  cf := some (fileOf pool0 8 #[] #[{ accessFlags := 1, nameIndex := 5, descriptorIndex := 6, attributes := #[] }] 33 0 #[] #[])
  fields := #[]
  methods := #[k0m0]
  instanceTypes := #[]
  staticTypes := #[]
  resolved := Array.replicate 124 none
  statics := none }

def pool1 : Array CpInfo := pool [(2, .class_ 4), (1, u "java/lang/Object"), (0, u "<init>"), (0, u "()V"), (0, .fieldref 8 9), (0, .class_ 10), (0, .nameAndType 11 12), (0, u "collotype/model/ImageFormat"), (0, u "JPEG"), (0, u "Lcollotype/model/ImageFormat;"), (0, .fieldref 8 14), (0, .nameAndType 15 12), (0, u "PNG"), (0, .fieldref 8 17), (0, .nameAndType 18 12), (0, u "GIF"), (0, .fieldref 8 20), (0, .nameAndType 21 12), (0, u "TIFF"), (0, .fieldref 8 23), (0, .nameAndType 24 12), (0, u "BMP"), (0, .integer 2147483647), (0, .methodref 27 28), (0, .class_ 29), (0, .nameAndType 30 31), (0, u "collotype/model/ImageFormatVariationFormatPinLaw"), (0, u "pick"), (0, u "(I)Lcollotype/model/ImageFormat;"), (0, .methodref 8 33), (0, .nameAndType 34 35), (0, u "variationFormat"), (0, u "()Lcollotype/model/ImageFormat;"), (3, u "law"), (0, u "(I)Z")] 2

def k1m0 : Method := { name := "<init>", desc := "()V", sig := { parameters := [], returnType := none }, accessFlags := 2, code := none }
def k1c1 : Code := { maxStack := 2, maxLocals := 1, code := method_2_code, exceptionTable := #[], attributes := #[] }
def k1m1 : Method := { name := "pick", desc := "(I)Lcollotype/model/ImageFormat;", sig := { parameters := [.int], returnType := some (.object "collotype/model/ImageFormat") }, accessFlags := 10, code := some k1c1 }
def k1c2 : Code := { maxStack := 2, maxLocals := 5, code := code, exceptionTable := #[], attributes := #[] }
def k1m2 : Method := { name := "law", desc := "(I)Z", sig := { parameters := [.int], returnType := some .boolean }, accessFlags := 9, code := some k1c2 }
/-- collotype/model/ImageFormatVariationFormatPinLaw -/
def k1 : Class := { plain "collotype/model/ImageFormatVariationFormatPinLaw" (some 0) with
  accessFlags := 49
  interfaces := #[]
  cf := some (fileOf pool1 27 #[] #[{ accessFlags := 2, nameIndex := 5, descriptorIndex := 6, attributes := #[] }, { accessFlags := 10, nameIndex := 30, descriptorIndex := 31, attributes := #[] }, { accessFlags := 9, nameIndex := 39, descriptorIndex := 40, attributes := #[] }] 49 2 #[] #[])
  fields := #[]
  methods := #[k1m0, k1m1, k1m2]
  instanceTypes := #[]
  staticTypes := #[]
  resolved := Array.replicate 43 none
  statics := none }

def pool2 : Array CpInfo := pool [(1, .class_ 2), (0, u "java/lang/constant/Constable"), (0, .class_ 4), (0, u "java/lang/Object")] 6

/-- java/lang/constant/Constable -/
def k2 : Class := { plain "java/lang/constant/Constable" (some 0) with
  accessFlags := 1537
  interfaces := #[]
  cf := some (fileOf pool2 1 #[] #[] 1537 3 #[] #[])
  fields := #[]
  methods := #[]
  instanceTypes := #[]
  staticTypes := #[]
  resolved := Array.replicate 11 none
  statics := none }

def pool3 : Array CpInfo := pool [(1, .class_ 2), (0, u "java/lang/Comparable"), (0, .class_ 4), (0, u "java/lang/Object")] 7

/-- java/lang/Comparable -/
def k3 : Class := { plain "java/lang/Comparable" (some 0) with
  accessFlags := 1537
  interfaces := #[]
  cf := some (fileOf pool3 1 #[] #[] 1537 3 #[] #[])
  fields := #[]
  methods := #[]
  instanceTypes := #[]
  staticTypes := #[]
  resolved := Array.replicate 12 none
  statics := none }

def pool4 : Array CpInfo := pool [(1, .class_ 2), (0, u "java/io/Serializable"), (0, .class_ 4), (0, u "java/lang/Object")] 2

/-- java/io/Serializable -/
def k4 : Class := { plain "java/io/Serializable" (some 0) with
  accessFlags := 1537
  interfaces := #[]
  cf := some (fileOf pool4 1 #[] #[] 1537 3 #[] #[])
  fields := #[]
  methods := #[]
  instanceTypes := #[]
  staticTypes := #[]
  resolved := Array.replicate 7 none
  statics := none }

def pool5 : Array CpInfo := pool [(2, .class_ 4), (1, u "java/lang/Enum"), (0, u "name"), (0, u "Ljava/lang/String;"), (2, u "ordinal"), (0, u "I"), (1, .class_ 14), (1, u "java/lang/Object"), (4, u "hash"), (86, .class_ 108), (1, u "java/lang/Enum$EnumDesc"), (2, .class_ 112), (0, u "java/lang/constant/Constable"), (0, .class_ 114), (0, u "java/lang/Comparable"), (0, .class_ 116), (0, u "java/io/Serializable")] 87

/-- java/lang/Enum -/
def k5 : Class := { plain "java/lang/Enum" (some 0) with
  accessFlags := 1057
  interfaces := #[2, 3, 4]
  cf := some (fileOf pool5 2 #[.nestMembers #[106]] #[] 1057 12 #[111, 113, 115] #[{ accessFlags := 18, nameIndex := 5, descriptorIndex := 6, attributes := #[] }, { accessFlags := 18, nameIndex := 9, descriptorIndex := 10, attributes := #[] }, { accessFlags := 2, nameIndex := 19, descriptorIndex := 10, attributes := #[] }])
  fields := #[{ name := "name", type := (.object "java/lang/String"), accessFlags := 18, slot := 0, constantValue := 0 }, { name := "ordinal", type := .int, accessFlags := 18, slot := 1, constantValue := 0 }, { name := "hash", type := .int, accessFlags := 2, slot := 2, constantValue := 0 }]
  methods := #[]
  instanceTypes := #[(.object "java/lang/String"), .int, .int]
  staticTypes := #[]
  resolved := Array.replicate 204 none
  statics := none }

def pool6 : Array CpInfo := pool [(1, .class_ 2), (0, u "collotype/model/ImageFormat"), (2, u "JPEG"), (0, u "Lcollotype/model/ImageFormat;"), (0, .fieldref 1 8), (0, .nameAndType 9 6), (0, u "PNG"), (2, u "GIF"), (2, u "TIFF"), (2, u "BMP"), (2, u "$VALUES"), (0, u "[Lcollotype/model/ImageFormat;"), (6, .class_ 31), (1, u "java/lang/Enum"), (8, u "extension"), (0, u "Ljava/lang/String;"), (2, u "mediaType"), (0, .fieldref 1 46), (0, .nameAndType 47 48), (0, u "variations"), (0, u "Z"), (34, u "signatures"), (0, u "Ljava/util/List;"), (126, u "SIGNATURE_LENGTH"), (0, u "I"), (8, u "variationFormat"), (0, u "()Lcollotype/model/ImageFormat;")] 56

def k6c0 : Code := { maxStack := 1, maxLocals := 1, code := prog_69_method_6_code, exceptionTable := #[], attributes := #[] }
def k6m0 : Method := { name := "variationFormat", desc := "()Lcollotype/model/ImageFormat;", sig := { parameters := [], returnType := some (.object "collotype/model/ImageFormat") }, accessFlags := 1, code := some k6c0 }
/-- collotype/model/ImageFormat -/
def k6 : Class := { plain "collotype/model/ImageFormat" (some 5) with
  accessFlags := 16433
  interfaces := #[]
  cf := some (fileOf pool6 1 #[] #[{ accessFlags := 1, nameIndex := 221, descriptorIndex := 222, attributes := #[] }] 16433 29 #[] #[{ accessFlags := 16409, nameIndex := 5, descriptorIndex := 6, attributes := #[] }, { accessFlags := 16409, nameIndex := 9, descriptorIndex := 6, attributes := #[] }, { accessFlags := 16409, nameIndex := 12, descriptorIndex := 6, attributes := #[] }, { accessFlags := 16409, nameIndex := 15, descriptorIndex := 6, attributes := #[] }, { accessFlags := 16409, nameIndex := 18, descriptorIndex := 6, attributes := #[] }, { accessFlags := 25, nameIndex := 211, descriptorIndex := 212, attributes := #[] }, { accessFlags := 18, nameIndex := 40, descriptorIndex := 41, attributes := #[] }, { accessFlags := 18, nameIndex := 44, descriptorIndex := 41, attributes := #[] }, { accessFlags := 18, nameIndex := 47, descriptorIndex := 48, attributes := #[] }, { accessFlags := 18, nameIndex := 83, descriptorIndex := 84, attributes := #[] }, { accessFlags := 4122, nameIndex := 21, descriptorIndex := 22, attributes := #[] }])
  fields := #[{ name := "JPEG", type := (.object "collotype/model/ImageFormat"), accessFlags := 16409, slot := 0, constantValue := 0 }, { name := "PNG", type := (.object "collotype/model/ImageFormat"), accessFlags := 16409, slot := 1, constantValue := 0 }, { name := "GIF", type := (.object "collotype/model/ImageFormat"), accessFlags := 16409, slot := 2, constantValue := 0 }, { name := "TIFF", type := (.object "collotype/model/ImageFormat"), accessFlags := 16409, slot := 3, constantValue := 0 }, { name := "BMP", type := (.object "collotype/model/ImageFormat"), accessFlags := 16409, slot := 4, constantValue := 0 }, { name := "SIGNATURE_LENGTH", type := .int, accessFlags := 25, slot := 5, constantValue := 0 }, { name := "extension", type := (.object "java/lang/String"), accessFlags := 18, slot := 3, constantValue := 0 }, { name := "mediaType", type := (.object "java/lang/String"), accessFlags := 18, slot := 4, constantValue := 0 }, { name := "variations", type := .boolean, accessFlags := 18, slot := 5, constantValue := 0 }, { name := "signatures", type := (.object "java/util/List"), accessFlags := 18, slot := 6, constantValue := 0 }, { name := "$VALUES", type := (.array (.object "collotype/model/ImageFormat")), accessFlags := 4122, slot := 6, constantValue := 0 }]
  methods := #[k6m0]
  instanceTypes := #[(.object "java/lang/String"), .int, .int, (.object "java/lang/String"), (.object "java/lang/String"), .boolean, (.object "java/util/List")]
  staticTypes := #[(.object "collotype/model/ImageFormat"), (.object "collotype/model/ImageFormat"), (.object "collotype/model/ImageFormat"), (.object "collotype/model/ImageFormat"), (.object "collotype/model/ImageFormat"), .int, (.array (.object "collotype/model/ImageFormat"))]
  resolved := Array.replicate 279 none
  statics := some 0 }

def pool7 : Array CpInfo := pool [(1, u "java/lang/Cloneable"), (0, .class_ 1), (0, u "java/lang/Object"), (0, .class_ 3)] 3

/-- java/lang/Cloneable -/
def k7 : Class := { plain "java/lang/Cloneable" (some 0) with
  accessFlags := 1537
  interfaces := #[]
  cf := some (fileOf pool7 2 #[] #[] 1537 4 #[] #[])
  fields := #[]
  methods := #[]
  instanceTypes := #[]
  staticTypes := #[]
  resolved := Array.replicate 8 none
  statics := none }

/-- the primitive byte -/
def k8 : Class := { plain "byte" none with kind := .primitive 'B', accessFlags := 0x411 }
/-- [B -/
def k9 : Class := { plain "[B" (some 0) with kind := .array 8 .byte, interfaces := #[7, 4], accessFlags := 1041 }

/-- the primitive int -/
def k10 : Class := { plain "int" none with kind := .primitive 'I', accessFlags := 0x411 }
/-- [I -/
def k11 : Class := { plain "[I" (some 0) with kind := .array 10 .int, interfaces := #[7, 4], accessFlags := 1041 }

def heap : Heap := #[{ cls := 6, slots := #[.ref 1, .ref 2, .ref 3, .ref 4, .ref 5, .int 0, .null], vm := .statics 6 },
  { cls := 6, slots := #[.null, .int 0, .int 0, .null, .null, .int 1, .null], vm := .none },
  { cls := 6, slots := #[.null, .int 0, .int 0, .null, .null, .int 1, .null], vm := .none },
  { cls := 6, slots := #[.null, .int 0, .int 0, .null, .null, .int 1, .null], vm := .none },
  { cls := 6, slots := #[.null, .int 0, .int 0, .null, .null, .int 0, .null], vm := .none },
  { cls := 6, slots := #[.null, .int 0, .int 0, .null, .null, .int 0, .null], vm := .none }]
def classes : Array Class := #[k0, k1, k2, k3, k4, k5, k6, k7, k8, k9, k10, k11]
def interned : List (Array UInt16 × Addr) := []
def slotsUsed : Nat := 42
def theMethod : MethodId := ⟨1, 2⟩
def args0 : Array Value := #[.int 5]
def aboutOver (below : List Frame) : State where
  vm := { classes := classes, interned := interned.toArray }
  heap := heap
  slotsUsed := slotsUsed
  threads := #[{ frames := .invoking theMethod args0 :: below }]
def below0 : List Frame := [.native { method := ⟨0, 0⟩, args := #[] }]
def about1 : State := aboutOver below0
def p0 : Program := .bare "" "" ""
def e0 : Env := launch0.env 0 0 0
theorem w_frames : about1.frames = Frame.invoking theMethod args0 :: below0 := rfl
set_option maxRecDepth 65536 in
theorem w_args : argsFit about1.vm theMethod args0 = true := by decide +kernel
set_option maxRecDepth 65536 in
theorem w_heap : heapFits about1 = true := by decide +kernel
set_option maxRecDepth 65536 in
theorem w_runnable : about1.curStatus? = some .runnable := by decide +kernel
set_option maxRecDepth 65536 in
theorem w_alone : about1.alone = true := by decide +kernel
set_option maxRecDepth 65536 in
theorem w_named : about1.methodNamed? x = some theMethod := by decide +kernel
set_option maxRecDepth 65536 in
theorem w_hears : about1.hears theMethod below0 = true := by decide +kernel
set_option maxRecDepth 65536 in
theorem w_ripe : about1.ripe theMethod args0 below0 = true := by decide +kernel
theorem w_running : about1.status = .running := rfl
set_option maxRecDepth 65536 in
theorem w_room : about1.hasRoom e0.platform room_1 = true :=
  launch0.hasRoom_least _ room_1 (by decide +kernel) (by decide +kernel) (by decide +kernel) (by decide +kernel) (by decide +kernel) (by decide +kernel)
theorem allAtoms_all (ts : List Jvm.Cond) (a : Array Jvm.Value) (st : Jvm.State) : (allAtoms ts).before a st = ts.all (fun c => c.before a st) := by
  induction ts with
  | nil => rfl
  | cons c t ih =>
    show (Jvm.Cond.and c (allAtoms t)).before a st = _
    rw [Jvm.Cond.before_and, ih, List.all_cons]
def words1 : List Jvm.Cond := Jvm.Cond.code x code maxLocals ret :: tables_1
/-- a 'code' word, met by the world's own term for the bytes: nothing is compared byte by byte -/
theorem code_word {y : MethodName} {bytes : ByteArray} {mx : Nat} {rt : Option FieldType} {a : Array Value} {s : State} {m : MethodId} {meth : Method} {c : Code} (h1 : s.methodNamed? y = some m) (h2 : s.vm.method? m = some meth) (h3 : meth.code = some c) (h4 : c.code = bytes)
    (h5 : (c.maxLocals == mx && c.exceptionTable.isEmpty && decide (c.maxStack ≤ mostOperands) && decide (meth.sig.returnType = rt) && !meth.locks && decide (parseMethodDescriptor y.desc = some meth.sig)) = true) : (Jvm.Cond.code y bytes mx rt).before a s = true := by
  simp only [Bool.and_eq_true, beq_iff_eq, Bool.not_eq_true', decide_eq_true_eq] at h5
  obtain ⟨⟨⟨⟨⟨g1, g2⟩, g3⟩, g4⟩, g5⟩, g6⟩ := h5
  simp [Cond.before, Cond.holds, Cond.value, h1, h2, h3, h4, g1, g2, g3, g4, g5, g6]
def isCode : Jvm.Cond → Bool
  | .code _ _ _ _ => true
  | _ => false
theorem all_split {L : List Jvm.Cond} {P : Jvm.Cond → Bool} (h1 : L.all (fun c => isCode c || P c) = true) (h2 : ∀ c ∈ L.filter isCode, P c = true) : L.all P = true := by
  refine List.all_eq_true.mpr fun c hc => ?_
  have h := List.all_eq_true.mp h1 c hc
  rcases Bool.eq_false_or_eq_true (isCode c) with hi | hi
  · exact h2 c (List.mem_filter.mpr ⟨hc, hi⟩)
  · simpa [hi] using h
set_option maxRecDepth 65536 in
theorem w_c0 : (Jvm.Cond.code x code maxLocals ret).before args0 about1 = true := code_word (m := ⟨1, 2⟩) (meth := k1m2) (c := k1c2) (by decide +kernel) rfl rfl rfl (by decide +kernel)
set_option maxRecDepth 65536 in
theorem w_c1 : (Jvm.Cond.code ({ cls := "collotype/model/ImageFormatVariationFormatPinLaw", name := "pick", desc := "(I)Lcollotype/model/ImageFormat;" } : Jvm.MethodName) method_2_code (1 : Nat) (Option.some (Jvm.ClassFile.FieldType.object "collotype/model/ImageFormat"))).before args0 about1 = true := code_word (m := ⟨1, 1⟩) (meth := k1m1) (c := k1c1) (by decide +kernel) rfl rfl rfl (by decide +kernel)
set_option maxRecDepth 65536 in
theorem w_c2 : (Jvm.Cond.code ({ cls := "collotype/model/ImageFormat", name := "variationFormat", desc := "()Lcollotype/model/ImageFormat;" } : Jvm.MethodName) prog_69_method_6_code (1 : Nat) (Option.some (Jvm.ClassFile.FieldType.object "collotype/model/ImageFormat"))).before args0 about1 = true := code_word (m := ⟨6, 0⟩) (meth := k6m0) (c := k6c0) (by decide +kernel) rfl rfl rfl (by decide +kernel)
def codes1 : List Jvm.Cond := [Jvm.Cond.code x code maxLocals ret, Jvm.Cond.code ({ cls := "collotype/model/ImageFormatVariationFormatPinLaw", name := "pick", desc := "(I)Lcollotype/model/ImageFormat;" } : Jvm.MethodName) method_2_code (1 : Nat) (Option.some (Jvm.ClassFile.FieldType.object "collotype/model/ImageFormat")), Jvm.Cond.code ({ cls := "collotype/model/ImageFormat", name := "variationFormat", desc := "()Lcollotype/model/ImageFormat;" } : Jvm.MethodName) prog_69_method_6_code (1 : Nat) (Option.some (Jvm.ClassFile.FieldType.object "collotype/model/ImageFormat"))]
set_option maxRecDepth 65536 in
theorem codes_eq : words1.filter isCode = codes1 := rfl
theorem w_codes : ∀ c ∈ words1.filter isCode, c.before args0 about1 = true := by
  rw [codes_eq]
  intro c hc
  simp only [codes1, List.mem_cons, List.not_mem_nil, or_false] at hc
  rcases hc with rfl | rfl | rfl
  · exact w_c0
  · exact w_c1
  · exact w_c2
set_option maxRecDepth 65536 in
theorem w_t1 : (words1.take 24).all (fun c => isCode c || c.before args0 about1) = true := by decide +kernel
set_option maxRecDepth 65536 in
theorem w_t2 : (words1.drop 24).all (fun c => isCode c || c.before args0 about1) = true := by decide +kernel
theorem w_tables : (allAtoms (Jvm.Cond.code x code maxLocals ret :: tables_1)).before args0 about1 = true := by
  rw [allAtoms_all]
  show words1.all (fun c => c.before args0 about1) = true
  refine all_split ?_ w_codes
  rw [← List.take_append_drop 24 words1, List.all_append, w_t1, w_t2]
  rfl
set_option maxRecDepth 65536 in
theorem w_case : (Jvm.Cond.and given_1 narrow_1).before args0 about1 = true := by decide +kernel
theorem w_applies : (headSpec (Jvm.Cond.code x code maxLocals ret :: tables_1) room_1).applies x e0.platform about1 = true :=
  (Spec.applies_iff w_frames).mpr ⟨w_running, w_runnable, w_alone, w_named, w_hears, w_ripe, w_room, w_tables⟩
theorem atStart : AtStart classFile x code maxLocals ret World_1 tables_1 room_1 Calls_1 rest_1 Pre_1 launch0 p0 e0 about1 theMethod args0 below0 :=
  ⟨lists_1, trivial, launch0.admits_env _ _ _, launch0.least_env, fairChoices_fair.cas, fairChoices_fair.clock, w_frames, w_args, w_heap, w_applies, trivial, trivial, w_case⟩
end start1
theorem witness_1 : WitnessClaimed_1 := ⟨start1.p0, start1.e0, start1.about1, start1.theMethod, start1.args0, start1.below0, start1.atStart⟩
end Jvm.Pilot.@@N@@
