import JvmDerived
import JvmDerived.Pilot.@@N@@Statement
import JvmDerived.Pilot.@@N@@Code
set_option linter.unusedVariables false
set_option linter.unusedSimpArgs false
namespace Jvm.RoadKit
open Sem ClassFile Op Lib Jvm.Stand Jvm.Free Jvm.LawKit
section New
variable {p : Program} {l : Launch} {e : Env} {R : Room} {s : State} {m : MethodId} {args : Array Value} {below : List Frame} {meth : Method} {c : Code} {T : State} {locs : List Loc} {cells slots : Nat}
theorem retI (X : Stand p l e R s m args below meth c T locs cells slots) (hx : p.tables.exec = Jvm.exec) {pc : Nat} {Ls : Array Slot} {z : Int32} {rest : List Value} (hret : meth.sig.returnType = some .int) (hd : decode c.code pc = .ok (.ireturn, 1)) {fs : List Frame}
    (hl : ∀ (f : JFrame) (acts : List Action), f.method = m → f.locked = none → f.entered = [] → (doReturn e (T.setTop f) acts (some (.int z))).1 = T.setFrames fs) : Steps p.tables e below (T.setTop (mkF m pc Ls (.int z :: rest))) (T.setFrames fs) := by
  have hm' : T.vm.method? m = some meth := X.method'
  have hn : narrow .int (.int z) = .int z := rfl
  show Steps p.tables e below (T.setTop { method := m, pc := pc, locals := Ls, stack := _ :: rest, locked := none }) _
  jvm_step X.here [X.here.top, hx, hd, hm', hret, hn]
  first | (intro acts; rw [hl _ acts rfl rfl rfl]) | rw [hl _ _ rfl rfl rfl]
  exact Steps.refl _
theorem retL (X : Stand p l e R s m args below meth c T locs cells slots) (hx : p.tables.exec = Jvm.exec) {pc : Nat} {Ls : Array Slot} {z : Int64} {rest : List Value} (hret : meth.sig.returnType = some .long) (hd : decode c.code pc = .ok (.lreturn, 1)) {fs : List Frame}
    (hl : ∀ (f : JFrame) (acts : List Action), f.method = m → f.locked = none → f.entered = [] → (doReturn e (T.setTop f) acts (some (.long z))).1 = T.setFrames fs) : Steps p.tables e below (T.setTop (mkF m pc Ls (.long z :: rest))) (T.setFrames fs) := by
  have hm' : T.vm.method? m = some meth := X.method'
  have hn : narrow .long (.long z) = .long z := rfl
  show Steps p.tables e below (T.setTop { method := m, pc := pc, locals := Ls, stack := _ :: rest, locked := none }) _
  jvm_step X.here [X.here.top, hx, hd, hm', hret, hn]
  first | (intro acts; rw [hl _ acts rfl rfl rfl]) | rw [hl _ _ rfl rfl rfl]
  exact Steps.refl _
theorem retA (X : Stand p l e R s m args below meth c T locs cells slots) (hx : p.tables.exec = Jvm.exec) {pc : Nat} {Ls : Array Slot} {z : Value} {ty : FieldType} {rest : List Value} (hv : z.isRef = true) (hty : ty.isReference = true) (hret : meth.sig.returnType = some ty) (hd : decode c.code pc = .ok (.areturn, 1)) {fs : List Frame}
    (hl : ∀ (f : JFrame) (acts : List Action), f.method = m → f.locked = none → f.entered = [] → (doReturn e (T.setTop f) acts (some z)).1 = T.setFrames fs) : Steps p.tables e below (T.setTop (mkF m pc Ls (z :: rest))) (T.setFrames fs) := by
  have hm' : T.vm.method? m = some meth := X.method'
  show Steps p.tables e below (T.setTop { method := m, pc := pc, locals := Ls, stack := _ :: rest, locked := none }) _
  jvm_step X.here [X.here.top, hx, hd, hm', hret, hv, hty]
  first | (intro acts; rw [hl _ acts rfl rfl rfl]) | rw [hl _ _ rfl rfl rfl]
  exact Steps.refl _
end New
theorem own_fw {tb : Tables} {e : Env} {below : List Frame} {A B : State} {P : State → Outcome → Prop} (h : ∀ t, Steps tb e below A t → Steps tb e below B t) (k : ∃ t o, Steps tb e below A t ∧ P t o) : ∃ t o, Steps tb e below B t ∧ P t o := by
  obtain ⟨t, o, h1, h2⟩ := k
  exact ⟨t, o, h t h1, h2⟩
def own_irem (x y : Int32) : Int32 := x - (x / y) * y
def own_lrem (x y : Int64) : Int64 := x - (x / y) * y
end Jvm.RoadKit
namespace Jvm.Pilot.@@N@@
open Jvm Jvm.ClassFile Sem Op Lib Jvm.Free Jvm.Stand Jvm.LawKit Jvm.RoadKit Bundle Jvm.Pilot.@@N@@.Jvm.D
theorem d1_0 : decode prog_115_method_4_code 0 = .ok (.iload_n 0, 1) := by decide +kernel
theorem d1_1 : decode prog_115_method_4_code 1 = .ok (.bipush 97, 2) := by decide +kernel
theorem d1_3 : decode prog_115_method_4_code 3 = .ok (.if_icmp .lt 9, 3) := by decide +kernel
theorem d1_6 : decode prog_115_method_4_code 6 = .ok (.iload_n 0, 1) := by decide +kernel
theorem d1_7 : decode prog_115_method_4_code 7 = .ok (.bipush 122, 2) := by decide +kernel
theorem d1_9 : decode prog_115_method_4_code 9 = .ok (.if_icmp .le 15, 3) := by decide +kernel
theorem d1_12 : decode prog_115_method_4_code 12 = .ok (.iload_n 0, 1) := by decide +kernel
theorem d1_13 : decode prog_115_method_4_code 13 = .ok (.bipush 48, 2) := by decide +kernel
theorem d1_15 : decode prog_115_method_4_code 15 = .ok (.if_icmp .lt 11, 3) := by decide +kernel
theorem d1_18 : decode prog_115_method_4_code 18 = .ok (.iload_n 0, 1) := by decide +kernel
theorem d1_19 : decode prog_115_method_4_code 19 = .ok (.bipush 57, 2) := by decide +kernel
theorem d1_21 : decode prog_115_method_4_code 21 = .ok (.if_icmp .gt 5, 3) := by decide +kernel
theorem d1_24 : decode prog_115_method_4_code 24 = .ok (.iload_n 0, 1) := by decide +kernel
theorem d1_25 : decode prog_115_method_4_code 25 = .ok (.ireturn, 1) := by decide +kernel
theorem d1_26 : decode prog_115_method_4_code 26 = .ok (.iload_n 0, 1) := by decide +kernel
theorem d1_27 : decode prog_115_method_4_code 27 = .ok (.bipush 65, 2) := by decide +kernel
theorem d1_29 : decode prog_115_method_4_code 29 = .ok (.if_icmp .lt 15, 3) := by decide +kernel
theorem d1_32 : decode prog_115_method_4_code 32 = .ok (.iload_n 0, 1) := by decide +kernel
theorem d1_33 : decode prog_115_method_4_code 33 = .ok (.bipush 90, 2) := by decide +kernel
theorem d1_35 : decode prog_115_method_4_code 35 = .ok (.if_icmp .gt 9, 3) := by decide +kernel
theorem d1_38 : decode prog_115_method_4_code 38 = .ok (.iload_n 0, 1) := by decide +kernel
theorem d1_39 : decode prog_115_method_4_code 39 = .ok (.bipush 32, 2) := by decide +kernel
theorem d1_41 : decode prog_115_method_4_code 41 = .ok (.iadd, 1) := by decide +kernel
theorem d1_42 : decode prog_115_method_4_code 42 = .ok (.i2c, 1) := by decide +kernel
theorem d1_43 : decode prog_115_method_4_code 43 = .ok (.ireturn, 1) := by decide +kernel
theorem d1_44 : decode prog_115_method_4_code 44 = .ok (.iload_n 0, 1) := by decide +kernel
theorem d1_45 : decode prog_115_method_4_code 45 = .ok (.sipush 8490, 3) := by decide +kernel
theorem d1_48 : decode prog_115_method_4_code 48 = .ok (.if_icmp .ne 6, 3) := by decide +kernel
theorem d1_51 : decode prog_115_method_4_code 51 = .ok (.bipush 107, 2) := by decide +kernel
theorem d1_53 : decode prog_115_method_4_code 53 = .ok (.ireturn, 1) := by decide +kernel
theorem d1_54 : decode prog_115_method_4_code 54 = .ok (.iload_n 0, 1) := by decide +kernel
theorem d1_55 : decode prog_115_method_4_code 55 = .ok (.sipush 304, 3) := by decide +kernel
theorem d1_58 : decode prog_115_method_4_code 58 = .ok (.if_icmp .ne 8, 3) := by decide +kernel
theorem d1_61 : decode prog_115_method_4_code 61 = .ok (.bipush 105, 2) := by decide +kernel
theorem d1_63 : decode prog_115_method_4_code 63 = .ok (.goto 4, 3) := by decide +kernel
theorem d1_66 : decode prog_115_method_4_code 66 = .ok (.iconst 0, 1) := by decide +kernel
theorem d1_67 : decode prog_115_method_4_code 67 = .ok (.ireturn, 1) := by decide +kernel
theorem pn1 : plainName "com/example/coppice/coppice/index/Tokenizer" = true := by first | (simp [plainName, overriddenIn]; done) | decide +kernel
theorem ef1 (m : MethodId) (p0 : Int32) : entryFrame m #[(.int p0)] 1 = mkF m 0 #[.val (.int p0)] [] := by first | (simp [entryFrame, mkF, argsToLocals, Value.category]; done) | rfl
def tokF (p0 : Int32) : Int32 := (if p0 < (97 : Int32) then (if p0 < (48 : Int32) then (if p0 < (65 : Int32) then (if p0 = (8490 : Int32) then (nar .char (107 : Int32)) else (if p0 = (304 : Int32) then (nar .char (105 : Int32)) else (nar .char (0 : Int32)))) else (if (90 : Int32) < p0 then (if p0 = (8490 : Int32) then (nar .char (107 : Int32)) else (if p0 = (304 : Int32) then (nar .char (105 : Int32)) else (nar .char (0 : Int32)))) else (nar .char ((p0 + (32 : Int32)).toUInt32.toUInt16.toUInt32.toInt32)))) else (if (57 : Int32) < p0 then (if p0 < (65 : Int32) then (if p0 = (8490 : Int32) then (nar .char (107 : Int32)) else (if p0 = (304 : Int32) then (nar .char (105 : Int32)) else (nar .char (0 : Int32)))) else (if (90 : Int32) < p0 then (if p0 = (8490 : Int32) then (nar .char (107 : Int32)) else (if p0 = (304 : Int32) then (nar .char (105 : Int32)) else (nar .char (0 : Int32)))) else (nar .char ((p0 + (32 : Int32)).toUInt32.toUInt16.toUInt32.toInt32)))) else (nar .char p0))) else (if (122 : Int32) < p0 then (if p0 < (48 : Int32) then (if p0 < (65 : Int32) then (if p0 = (8490 : Int32) then (nar .char (107 : Int32)) else (if p0 = (304 : Int32) then (nar .char (105 : Int32)) else (nar .char (0 : Int32)))) else (if (90 : Int32) < p0 then (if p0 = (8490 : Int32) then (nar .char (107 : Int32)) else (if p0 = (304 : Int32) then (nar .char (105 : Int32)) else (nar .char (0 : Int32)))) else (nar .char ((p0 + (32 : Int32)).toUInt32.toUInt16.toUInt32.toInt32)))) else (if (57 : Int32) < p0 then (if p0 < (65 : Int32) then (if p0 = (8490 : Int32) then (nar .char (107 : Int32)) else (if p0 = (304 : Int32) then (nar .char (105 : Int32)) else (nar .char (0 : Int32)))) else (if (90 : Int32) < p0 then (if p0 = (8490 : Int32) then (nar .char (107 : Int32)) else (if p0 = (304 : Int32) then (nar .char (105 : Int32)) else (nar .char (0 : Int32)))) else (nar .char ((p0 + (32 : Int32)).toUInt32.toUInt16.toUInt32.toInt32)))) else (nar .char p0))) else (nar .char p0)))
def Q1 (Z : State) (p0 : Int32) (h0 : Heap) (n0 : Nat) (v : Option Value) (h : Heap) (L : List Loc) : Prop := v = some (.int (tokF p0)) ∧ Fr n0 L ∧ h = h0
set_option maxRecDepth 65536 in
set_option maxHeartbeats 40000000 in
theorem rm1 (l : Launch) (Z : State) (a0 : Array Value) (hw : ∀ d ∈ tables_1, d.before a0 Z = true) (ws : List Jvm.Cond) (p0 : Int32) (h0 : Heap) (n0 : Nat) (Z0 : n0 ≤ h0.size) :
    MetFree l (⟨"com/example/coppice/coppice/index/Tokenizer", "tokenCharacter", "(C)C"⟩ : MethodName) (head1 (Jvm.Cond.code (⟨"com/example/coppice/coppice/index/Tokenizer", "tokenCharacter", "(C)C"⟩ : MethodName) prog_115_method_4_code 1 (some .char) :: ws) ({ frames := 0, cells := 0, slots := 0, locals := 0 } : Room)) (fun a U => a = #[(.int p0)] ∧ Z.Warmed39 U.vm ∧ U.heap = h0) (fun _ _ _ _ _ => True) (fun _ U o U' => ∃ v L, o = .returned v ∧ Q1 Z p0 h0 n0 v U'.heap L ∧ FrameEnd U o U' L ({ frames := 0, cells := 0, slots := 0, locals := 0 } : Room).cells ({ frames := 0, cells := 0, slots := 0, locals := 0 } : Room).slots) := by
  refine MetFree.of_bodySF (plainFor_of_name pn1) hisR ?_
  intro p e s m args below meth c s₁ Bd hml0 hP hK
  obtain ⟨rfl, hZ, hh⟩ := hP
  have hx := Bd.exec
  have hby := Bd.bytes
  have hml : c.maxLocals = 1 := hml0
  have hown : s.vm.findClass "com/example/coppice/coppice/index/Tokenizer" = some m.cls := findClass_of_methodNamed Bd.named
  have hnm := (name_of_methodNamed Bd.named Bd.method).1
  have X0 : Stand p l e ({ frames := 0, cells := 0, slots := 0, locals := 0 } : Room) s m #[(.int p0)] below meth c s₁ [] 0 0 := Stand.of_body Bd
  have e0 : s₁.heap = h0 := by rw [← hh, Bd.state]; rfl
  have N0 := Fr.nil n0
  refine own_fw (A := s₁.setTop (mkF m 0 #[.val (.int p0)] [])) (fun t k => castTop (ef1 m p0) k) ?_
  refine own_fw (A := s₁.setTop (mkF m 3 #[.val (.int p0)] [(.int (97 : Int32)), (.int p0)])) (fun t k => ?_) ?_
  · show Steps p.tables e below (s₁.setTop (mkF m 0 #[.val (.int p0)] [])) t
    refine XS.iloadN X0.here hx rfl (hb hby d1_0) rfl ?_
    show Steps p.tables e below (s₁.setTop (mkF m 1 #[.val (.int p0)] [(.int p0)])) t
    refine XS.bipush X0.here hx rfl (hb hby d1_1) ?_
    exact k
  by_cases hc1_1 : p0 < (97 : Int32)
  · refine own_fw (A := s₁.setTop (mkF m 12 #[.val (.int p0)] [])) (fun t k => ?_) ?_
    · show Steps p.tables e below (s₁.setTop (mkF m 3 #[.val (.int p0)] [(.int (97 : Int32)), (.int p0)])) t
      refine XS.icmpYes X0.here hx rfl (pc0 := 3) (pc' := 12) rfl (hb hby d1_3) rfl (tlt hc1_1).1 (by decide) (by decide) ?_
      exact k
    refine own_fw (A := s₁.setTop (mkF m 15 #[.val (.int p0)] [(.int (48 : Int32)), (.int p0)])) (fun t k => ?_) ?_
    · show Steps p.tables e below (s₁.setTop (mkF m 12 #[.val (.int p0)] [])) t
      refine XS.iloadN X0.here hx rfl (hb hby d1_12) rfl ?_
      show Steps p.tables e below (s₁.setTop (mkF m 13 #[.val (.int p0)] [(.int p0)])) t
      refine XS.bipush X0.here hx rfl (hb hby d1_13) ?_
      exact k
    by_cases hc1_2 : p0 < (48 : Int32)
    · refine own_fw (A := s₁.setTop (mkF m 26 #[.val (.int p0)] [])) (fun t k => ?_) ?_
      · show Steps p.tables e below (s₁.setTop (mkF m 15 #[.val (.int p0)] [(.int (48 : Int32)), (.int p0)])) t
        refine XS.icmpYes X0.here hx rfl (pc0 := 15) (pc' := 26) rfl (hb hby d1_15) rfl (tlt hc1_2).1 (by decide) (by decide) ?_
        exact k
      refine own_fw (A := s₁.setTop (mkF m 29 #[.val (.int p0)] [(.int (65 : Int32)), (.int p0)])) (fun t k => ?_) ?_
      · show Steps p.tables e below (s₁.setTop (mkF m 26 #[.val (.int p0)] [])) t
        refine XS.iloadN X0.here hx rfl (hb hby d1_26) rfl ?_
        show Steps p.tables e below (s₁.setTop (mkF m 27 #[.val (.int p0)] [(.int p0)])) t
        refine XS.bipush X0.here hx rfl (hb hby d1_27) ?_
        exact k
      by_cases hc1_3 : p0 < (65 : Int32)
      · refine own_fw (A := s₁.setTop (mkF m 44 #[.val (.int p0)] [])) (fun t k => ?_) ?_
        · show Steps p.tables e below (s₁.setTop (mkF m 29 #[.val (.int p0)] [(.int (65 : Int32)), (.int p0)])) t
          refine XS.icmpYes X0.here hx rfl (pc0 := 29) (pc' := 44) rfl (hb hby d1_29) rfl (tlt hc1_3).1 (by decide) (by decide) ?_
          exact k
        refine own_fw (A := s₁.setTop (mkF m 48 #[.val (.int p0)] [(.int (8490 : Int32)), (.int p0)])) (fun t k => ?_) ?_
        · show Steps p.tables e below (s₁.setTop (mkF m 44 #[.val (.int p0)] [])) t
          refine XS.iloadN X0.here hx rfl (hb hby d1_44) rfl ?_
          show Steps p.tables e below (s₁.setTop (mkF m 45 #[.val (.int p0)] [(.int p0)])) t
          refine XS.sipush X0.here hx rfl (hb hby d1_45) ?_
          exact k
        by_cases hc1_4 : p0 = (8490 : Int32)
        · refine own_fw (A := s₁.setTop (mkF m 51 #[.val (.int p0)] [])) (fun t k => ?_) ?_
          · show Steps p.tables e below (s₁.setTop (mkF m 48 #[.val (.int p0)] [(.int (8490 : Int32)), (.int p0)])) t
            refine XS.icmpNo X0.here hx rfl (hb hby d1_48) rfl (teq hc1_4).2 ?_
            exact k
          refine own_fw (A := s₁.setTop (mkF m 53 #[.val (.int p0)] [(.int (107 : Int32))])) (fun t k => ?_) ?_
          · show Steps p.tables e below (s₁.setTop (mkF m 51 #[.val (.int p0)] [])) t
            refine XS.bipush X0.here hx rfl (hb hby d1_51) ?_
            exact k
          obtain ⟨fs, hr, hrun, hended, hW, hsame⟩ := X0.leave (v := some (.int (nar .char (107 : Int32)))) (fun h => by rw [Bd.returns] at h; cases h)
          refine ⟨_, _, retN X0 hx (t := .char) Bd.returns (by simp) (hb hby d1_53) hr, hrun, hended, _, _, rfl, ⟨(by rw [tokF, if_pos hc1_1, if_pos hc1_2, if_pos hc1_3, if_pos hc1_4]), N0, ?_⟩, ⟨_, rfl⟩, hW, hsame.mono (by decide) (by decide)⟩
          exact e0
        · refine own_fw (A := s₁.setTop (mkF m 54 #[.val (.int p0)] [])) (fun t k => ?_) ?_
          · show Steps p.tables e below (s₁.setTop (mkF m 48 #[.val (.int p0)] [(.int (8490 : Int32)), (.int p0)])) t
            refine XS.icmpYes X0.here hx rfl (pc0 := 48) (pc' := 54) rfl (hb hby d1_48) rfl (feq hc1_4).2 (by decide) (by decide) ?_
            exact k
          refine own_fw (A := s₁.setTop (mkF m 58 #[.val (.int p0)] [(.int (304 : Int32)), (.int p0)])) (fun t k => ?_) ?_
          · show Steps p.tables e below (s₁.setTop (mkF m 54 #[.val (.int p0)] [])) t
            refine XS.iloadN X0.here hx rfl (hb hby d1_54) rfl ?_
            show Steps p.tables e below (s₁.setTop (mkF m 55 #[.val (.int p0)] [(.int p0)])) t
            refine XS.sipush X0.here hx rfl (hb hby d1_55) ?_
            exact k
          by_cases hc1_5 : p0 = (304 : Int32)
          · refine own_fw (A := s₁.setTop (mkF m 61 #[.val (.int p0)] [])) (fun t k => ?_) ?_
            · show Steps p.tables e below (s₁.setTop (mkF m 58 #[.val (.int p0)] [(.int (304 : Int32)), (.int p0)])) t
              refine XS.icmpNo X0.here hx rfl (hb hby d1_58) rfl (teq hc1_5).2 ?_
              exact k
            refine own_fw (A := s₁.setTop (mkF m 67 #[.val (.int p0)] [(.int (105 : Int32))])) (fun t k => ?_) ?_
            · show Steps p.tables e below (s₁.setTop (mkF m 61 #[.val (.int p0)] [])) t
              refine XS.bipush X0.here hx rfl (hb hby d1_61) ?_
              show Steps p.tables e below (s₁.setTop (mkF m 63 #[.val (.int p0)] [(.int (105 : Int32))])) t
              refine XS.goto X0.here hx rfl (pc0 := 63) (pc' := 67) rfl (hb hby d1_63) (by decide) (by decide) ?_
              exact k
            obtain ⟨fs, hr, hrun, hended, hW, hsame⟩ := X0.leave (v := some (.int (nar .char (105 : Int32)))) (fun h => by rw [Bd.returns] at h; cases h)
            refine ⟨_, _, retN X0 hx (t := .char) Bd.returns (by simp) (hb hby d1_67) hr, hrun, hended, _, _, rfl, ⟨(by rw [tokF, if_pos hc1_1, if_pos hc1_2, if_pos hc1_3, if_neg hc1_4, if_pos hc1_5]), N0, ?_⟩, ⟨_, rfl⟩, hW, hsame.mono (by decide) (by decide)⟩
            exact e0
          · refine own_fw (A := s₁.setTop (mkF m 66 #[.val (.int p0)] [])) (fun t k => ?_) ?_
            · show Steps p.tables e below (s₁.setTop (mkF m 58 #[.val (.int p0)] [(.int (304 : Int32)), (.int p0)])) t
              refine XS.icmpYes X0.here hx rfl (pc0 := 58) (pc' := 66) rfl (hb hby d1_58) rfl (feq hc1_5).2 (by decide) (by decide) ?_
              exact k
            refine own_fw (A := s₁.setTop (mkF m 67 #[.val (.int p0)] [(.int (0 : Int32))])) (fun t k => ?_) ?_
            · show Steps p.tables e below (s₁.setTop (mkF m 66 #[.val (.int p0)] [])) t
              refine XS.iconst X0.here hx rfl (hb hby d1_66) ?_
              exact k
            obtain ⟨fs, hr, hrun, hended, hW, hsame⟩ := X0.leave (v := some (.int (nar .char (0 : Int32)))) (fun h => by rw [Bd.returns] at h; cases h)
            refine ⟨_, _, retN X0 hx (t := .char) Bd.returns (by simp) (hb hby d1_67) hr, hrun, hended, _, _, rfl, ⟨(by rw [tokF, if_pos hc1_1, if_pos hc1_2, if_pos hc1_3, if_neg hc1_4, if_neg hc1_5]), N0, ?_⟩, ⟨_, rfl⟩, hW, hsame.mono (by decide) (by decide)⟩
            exact e0
      · refine own_fw (A := s₁.setTop (mkF m 32 #[.val (.int p0)] [])) (fun t k => ?_) ?_
        · show Steps p.tables e below (s₁.setTop (mkF m 29 #[.val (.int p0)] [(.int (65 : Int32)), (.int p0)])) t
          refine XS.icmpNo X0.here hx rfl (hb hby d1_29) rfl (flt hc1_3).1 ?_
          exact k
        refine own_fw (A := s₁.setTop (mkF m 35 #[.val (.int p0)] [(.int (90 : Int32)), (.int p0)])) (fun t k => ?_) ?_
        · show Steps p.tables e below (s₁.setTop (mkF m 32 #[.val (.int p0)] [])) t
          refine XS.iloadN X0.here hx rfl (hb hby d1_32) rfl ?_
          show Steps p.tables e below (s₁.setTop (mkF m 33 #[.val (.int p0)] [(.int p0)])) t
          refine XS.bipush X0.here hx rfl (hb hby d1_33) ?_
          exact k
        by_cases hc1_6 : (90 : Int32) < p0
        · refine own_fw (A := s₁.setTop (mkF m 44 #[.val (.int p0)] [])) (fun t k => ?_) ?_
          · show Steps p.tables e below (s₁.setTop (mkF m 35 #[.val (.int p0)] [(.int (90 : Int32)), (.int p0)])) t
            refine XS.icmpYes X0.here hx rfl (pc0 := 35) (pc' := 44) rfl (hb hby d1_35) rfl (tlt hc1_6).2.2.1 (by decide) (by decide) ?_
            exact k
          refine own_fw (A := s₁.setTop (mkF m 48 #[.val (.int p0)] [(.int (8490 : Int32)), (.int p0)])) (fun t k => ?_) ?_
          · show Steps p.tables e below (s₁.setTop (mkF m 44 #[.val (.int p0)] [])) t
            refine XS.iloadN X0.here hx rfl (hb hby d1_44) rfl ?_
            show Steps p.tables e below (s₁.setTop (mkF m 45 #[.val (.int p0)] [(.int p0)])) t
            refine XS.sipush X0.here hx rfl (hb hby d1_45) ?_
            exact k
          by_cases hc1_7 : p0 = (8490 : Int32)
          · refine own_fw (A := s₁.setTop (mkF m 51 #[.val (.int p0)] [])) (fun t k => ?_) ?_
            · show Steps p.tables e below (s₁.setTop (mkF m 48 #[.val (.int p0)] [(.int (8490 : Int32)), (.int p0)])) t
              refine XS.icmpNo X0.here hx rfl (hb hby d1_48) rfl (teq hc1_7).2 ?_
              exact k
            refine own_fw (A := s₁.setTop (mkF m 53 #[.val (.int p0)] [(.int (107 : Int32))])) (fun t k => ?_) ?_
            · show Steps p.tables e below (s₁.setTop (mkF m 51 #[.val (.int p0)] [])) t
              refine XS.bipush X0.here hx rfl (hb hby d1_51) ?_
              exact k
            obtain ⟨fs, hr, hrun, hended, hW, hsame⟩ := X0.leave (v := some (.int (nar .char (107 : Int32)))) (fun h => by rw [Bd.returns] at h; cases h)
            refine ⟨_, _, retN X0 hx (t := .char) Bd.returns (by simp) (hb hby d1_53) hr, hrun, hended, _, _, rfl, ⟨(by rw [tokF, if_pos hc1_1, if_pos hc1_2, if_neg hc1_3, if_pos hc1_6, if_pos hc1_7]), N0, ?_⟩, ⟨_, rfl⟩, hW, hsame.mono (by decide) (by decide)⟩
            exact e0
          · refine own_fw (A := s₁.setTop (mkF m 54 #[.val (.int p0)] [])) (fun t k => ?_) ?_
            · show Steps p.tables e below (s₁.setTop (mkF m 48 #[.val (.int p0)] [(.int (8490 : Int32)), (.int p0)])) t
              refine XS.icmpYes X0.here hx rfl (pc0 := 48) (pc' := 54) rfl (hb hby d1_48) rfl (feq hc1_7).2 (by decide) (by decide) ?_
              exact k
            refine own_fw (A := s₁.setTop (mkF m 58 #[.val (.int p0)] [(.int (304 : Int32)), (.int p0)])) (fun t k => ?_) ?_
            · show Steps p.tables e below (s₁.setTop (mkF m 54 #[.val (.int p0)] [])) t
              refine XS.iloadN X0.here hx rfl (hb hby d1_54) rfl ?_
              show Steps p.tables e below (s₁.setTop (mkF m 55 #[.val (.int p0)] [(.int p0)])) t
              refine XS.sipush X0.here hx rfl (hb hby d1_55) ?_
              exact k
            by_cases hc1_8 : p0 = (304 : Int32)
            · refine own_fw (A := s₁.setTop (mkF m 61 #[.val (.int p0)] [])) (fun t k => ?_) ?_
              · show Steps p.tables e below (s₁.setTop (mkF m 58 #[.val (.int p0)] [(.int (304 : Int32)), (.int p0)])) t
                refine XS.icmpNo X0.here hx rfl (hb hby d1_58) rfl (teq hc1_8).2 ?_
                exact k
              refine own_fw (A := s₁.setTop (mkF m 67 #[.val (.int p0)] [(.int (105 : Int32))])) (fun t k => ?_) ?_
              · show Steps p.tables e below (s₁.setTop (mkF m 61 #[.val (.int p0)] [])) t
                refine XS.bipush X0.here hx rfl (hb hby d1_61) ?_
                show Steps p.tables e below (s₁.setTop (mkF m 63 #[.val (.int p0)] [(.int (105 : Int32))])) t
                refine XS.goto X0.here hx rfl (pc0 := 63) (pc' := 67) rfl (hb hby d1_63) (by decide) (by decide) ?_
                exact k
              obtain ⟨fs, hr, hrun, hended, hW, hsame⟩ := X0.leave (v := some (.int (nar .char (105 : Int32)))) (fun h => by rw [Bd.returns] at h; cases h)
              refine ⟨_, _, retN X0 hx (t := .char) Bd.returns (by simp) (hb hby d1_67) hr, hrun, hended, _, _, rfl, ⟨(by rw [tokF, if_pos hc1_1, if_pos hc1_2, if_neg hc1_3, if_pos hc1_6, if_neg hc1_7, if_pos hc1_8]), N0, ?_⟩, ⟨_, rfl⟩, hW, hsame.mono (by decide) (by decide)⟩
              exact e0
            · refine own_fw (A := s₁.setTop (mkF m 66 #[.val (.int p0)] [])) (fun t k => ?_) ?_
              · show Steps p.tables e below (s₁.setTop (mkF m 58 #[.val (.int p0)] [(.int (304 : Int32)), (.int p0)])) t
                refine XS.icmpYes X0.here hx rfl (pc0 := 58) (pc' := 66) rfl (hb hby d1_58) rfl (feq hc1_8).2 (by decide) (by decide) ?_
                exact k
              refine own_fw (A := s₁.setTop (mkF m 67 #[.val (.int p0)] [(.int (0 : Int32))])) (fun t k => ?_) ?_
              · show Steps p.tables e below (s₁.setTop (mkF m 66 #[.val (.int p0)] [])) t
                refine XS.iconst X0.here hx rfl (hb hby d1_66) ?_
                exact k
              obtain ⟨fs, hr, hrun, hended, hW, hsame⟩ := X0.leave (v := some (.int (nar .char (0 : Int32)))) (fun h => by rw [Bd.returns] at h; cases h)
              refine ⟨_, _, retN X0 hx (t := .char) Bd.returns (by simp) (hb hby d1_67) hr, hrun, hended, _, _, rfl, ⟨(by rw [tokF, if_pos hc1_1, if_pos hc1_2, if_neg hc1_3, if_pos hc1_6, if_neg hc1_7, if_neg hc1_8]), N0, ?_⟩, ⟨_, rfl⟩, hW, hsame.mono (by decide) (by decide)⟩
              exact e0
        · refine own_fw (A := s₁.setTop (mkF m 38 #[.val (.int p0)] [])) (fun t k => ?_) ?_
          · show Steps p.tables e below (s₁.setTop (mkF m 35 #[.val (.int p0)] [(.int (90 : Int32)), (.int p0)])) t
            refine XS.icmpNo X0.here hx rfl (hb hby d1_35) rfl (flt hc1_6).2.2.1 ?_
            exact k
          refine own_fw (A := s₁.setTop (mkF m 43 #[.val (.int p0)] [(.int ((p0 + (32 : Int32)).toUInt32.toUInt16.toUInt32.toInt32))])) (fun t k => ?_) ?_
          · show Steps p.tables e below (s₁.setTop (mkF m 38 #[.val (.int p0)] [])) t
            refine XS.iloadN X0.here hx rfl (hb hby d1_38) rfl ?_
            show Steps p.tables e below (s₁.setTop (mkF m 39 #[.val (.int p0)] [(.int p0)])) t
            refine XS.bipush X0.here hx rfl (hb hby d1_39) ?_
            show Steps p.tables e below (s₁.setTop (mkF m 41 #[.val (.int p0)] [(.int (32 : Int32)), (.int p0)])) t
            refine XS.iadd X0.here hx rfl (hb hby d1_41) rfl ?_
            show Steps p.tables e below (s₁.setTop (mkF m 42 #[.val (.int p0)] [(.int (p0 + (32 : Int32)))])) t
            refine XS.i2c X0.here hx rfl (hb hby d1_42) rfl ?_
            exact k
          obtain ⟨fs, hr, hrun, hended, hW, hsame⟩ := X0.leave (v := some (.int (nar .char ((p0 + (32 : Int32)).toUInt32.toUInt16.toUInt32.toInt32)))) (fun h => by rw [Bd.returns] at h; cases h)
          refine ⟨_, _, retN X0 hx (t := .char) Bd.returns (by simp) (hb hby d1_43) hr, hrun, hended, _, _, rfl, ⟨(by rw [tokF, if_pos hc1_1, if_pos hc1_2, if_neg hc1_3, if_neg hc1_6]), N0, ?_⟩, ⟨_, rfl⟩, hW, hsame.mono (by decide) (by decide)⟩
          exact e0
    · refine own_fw (A := s₁.setTop (mkF m 18 #[.val (.int p0)] [])) (fun t k => ?_) ?_
      · show Steps p.tables e below (s₁.setTop (mkF m 15 #[.val (.int p0)] [(.int (48 : Int32)), (.int p0)])) t
        refine XS.icmpNo X0.here hx rfl (hb hby d1_15) rfl (flt hc1_2).1 ?_
        exact k
      refine own_fw (A := s₁.setTop (mkF m 21 #[.val (.int p0)] [(.int (57 : Int32)), (.int p0)])) (fun t k => ?_) ?_
      · show Steps p.tables e below (s₁.setTop (mkF m 18 #[.val (.int p0)] [])) t
        refine XS.iloadN X0.here hx rfl (hb hby d1_18) rfl ?_
        show Steps p.tables e below (s₁.setTop (mkF m 19 #[.val (.int p0)] [(.int p0)])) t
        refine XS.bipush X0.here hx rfl (hb hby d1_19) ?_
        exact k
      by_cases hc1_9 : (57 : Int32) < p0
      · refine own_fw (A := s₁.setTop (mkF m 26 #[.val (.int p0)] [])) (fun t k => ?_) ?_
        · show Steps p.tables e below (s₁.setTop (mkF m 21 #[.val (.int p0)] [(.int (57 : Int32)), (.int p0)])) t
          refine XS.icmpYes X0.here hx rfl (pc0 := 21) (pc' := 26) rfl (hb hby d1_21) rfl (tlt hc1_9).2.2.1 (by decide) (by decide) ?_
          exact k
        refine own_fw (A := s₁.setTop (mkF m 29 #[.val (.int p0)] [(.int (65 : Int32)), (.int p0)])) (fun t k => ?_) ?_
        · show Steps p.tables e below (s₁.setTop (mkF m 26 #[.val (.int p0)] [])) t
          refine XS.iloadN X0.here hx rfl (hb hby d1_26) rfl ?_
          show Steps p.tables e below (s₁.setTop (mkF m 27 #[.val (.int p0)] [(.int p0)])) t
          refine XS.bipush X0.here hx rfl (hb hby d1_27) ?_
          exact k
        by_cases hc1_10 : p0 < (65 : Int32)
        · refine own_fw (A := s₁.setTop (mkF m 44 #[.val (.int p0)] [])) (fun t k => ?_) ?_
          · show Steps p.tables e below (s₁.setTop (mkF m 29 #[.val (.int p0)] [(.int (65 : Int32)), (.int p0)])) t
            refine XS.icmpYes X0.here hx rfl (pc0 := 29) (pc' := 44) rfl (hb hby d1_29) rfl (tlt hc1_10).1 (by decide) (by decide) ?_
            exact k
          refine own_fw (A := s₁.setTop (mkF m 48 #[.val (.int p0)] [(.int (8490 : Int32)), (.int p0)])) (fun t k => ?_) ?_
          · show Steps p.tables e below (s₁.setTop (mkF m 44 #[.val (.int p0)] [])) t
            refine XS.iloadN X0.here hx rfl (hb hby d1_44) rfl ?_
            show Steps p.tables e below (s₁.setTop (mkF m 45 #[.val (.int p0)] [(.int p0)])) t
            refine XS.sipush X0.here hx rfl (hb hby d1_45) ?_
            exact k
          by_cases hc1_11 : p0 = (8490 : Int32)
          · refine own_fw (A := s₁.setTop (mkF m 51 #[.val (.int p0)] [])) (fun t k => ?_) ?_
            · show Steps p.tables e below (s₁.setTop (mkF m 48 #[.val (.int p0)] [(.int (8490 : Int32)), (.int p0)])) t
              refine XS.icmpNo X0.here hx rfl (hb hby d1_48) rfl (teq hc1_11).2 ?_
              exact k
            refine own_fw (A := s₁.setTop (mkF m 53 #[.val (.int p0)] [(.int (107 : Int32))])) (fun t k => ?_) ?_
            · show Steps p.tables e below (s₁.setTop (mkF m 51 #[.val (.int p0)] [])) t
              refine XS.bipush X0.here hx rfl (hb hby d1_51) ?_
              exact k
            obtain ⟨fs, hr, hrun, hended, hW, hsame⟩ := X0.leave (v := some (.int (nar .char (107 : Int32)))) (fun h => by rw [Bd.returns] at h; cases h)
            refine ⟨_, _, retN X0 hx (t := .char) Bd.returns (by simp) (hb hby d1_53) hr, hrun, hended, _, _, rfl, ⟨(by rw [tokF, if_pos hc1_1, if_neg hc1_2, if_pos hc1_9, if_pos hc1_10, if_pos hc1_11]), N0, ?_⟩, ⟨_, rfl⟩, hW, hsame.mono (by decide) (by decide)⟩
            exact e0
          · refine own_fw (A := s₁.setTop (mkF m 54 #[.val (.int p0)] [])) (fun t k => ?_) ?_
            · show Steps p.tables e below (s₁.setTop (mkF m 48 #[.val (.int p0)] [(.int (8490 : Int32)), (.int p0)])) t
              refine XS.icmpYes X0.here hx rfl (pc0 := 48) (pc' := 54) rfl (hb hby d1_48) rfl (feq hc1_11).2 (by decide) (by decide) ?_
              exact k
            refine own_fw (A := s₁.setTop (mkF m 58 #[.val (.int p0)] [(.int (304 : Int32)), (.int p0)])) (fun t k => ?_) ?_
            · show Steps p.tables e below (s₁.setTop (mkF m 54 #[.val (.int p0)] [])) t
              refine XS.iloadN X0.here hx rfl (hb hby d1_54) rfl ?_
              show Steps p.tables e below (s₁.setTop (mkF m 55 #[.val (.int p0)] [(.int p0)])) t
              refine XS.sipush X0.here hx rfl (hb hby d1_55) ?_
              exact k
            by_cases hc1_12 : p0 = (304 : Int32)
            · refine own_fw (A := s₁.setTop (mkF m 61 #[.val (.int p0)] [])) (fun t k => ?_) ?_
              · show Steps p.tables e below (s₁.setTop (mkF m 58 #[.val (.int p0)] [(.int (304 : Int32)), (.int p0)])) t
                refine XS.icmpNo X0.here hx rfl (hb hby d1_58) rfl (teq hc1_12).2 ?_
                exact k
              refine own_fw (A := s₁.setTop (mkF m 67 #[.val (.int p0)] [(.int (105 : Int32))])) (fun t k => ?_) ?_
              · show Steps p.tables e below (s₁.setTop (mkF m 61 #[.val (.int p0)] [])) t
                refine XS.bipush X0.here hx rfl (hb hby d1_61) ?_
                show Steps p.tables e below (s₁.setTop (mkF m 63 #[.val (.int p0)] [(.int (105 : Int32))])) t
                refine XS.goto X0.here hx rfl (pc0 := 63) (pc' := 67) rfl (hb hby d1_63) (by decide) (by decide) ?_
                exact k
              obtain ⟨fs, hr, hrun, hended, hW, hsame⟩ := X0.leave (v := some (.int (nar .char (105 : Int32)))) (fun h => by rw [Bd.returns] at h; cases h)
              refine ⟨_, _, retN X0 hx (t := .char) Bd.returns (by simp) (hb hby d1_67) hr, hrun, hended, _, _, rfl, ⟨(by rw [tokF, if_pos hc1_1, if_neg hc1_2, if_pos hc1_9, if_pos hc1_10, if_neg hc1_11, if_pos hc1_12]), N0, ?_⟩, ⟨_, rfl⟩, hW, hsame.mono (by decide) (by decide)⟩
              exact e0
            · refine own_fw (A := s₁.setTop (mkF m 66 #[.val (.int p0)] [])) (fun t k => ?_) ?_
              · show Steps p.tables e below (s₁.setTop (mkF m 58 #[.val (.int p0)] [(.int (304 : Int32)), (.int p0)])) t
                refine XS.icmpYes X0.here hx rfl (pc0 := 58) (pc' := 66) rfl (hb hby d1_58) rfl (feq hc1_12).2 (by decide) (by decide) ?_
                exact k
              refine own_fw (A := s₁.setTop (mkF m 67 #[.val (.int p0)] [(.int (0 : Int32))])) (fun t k => ?_) ?_
              · show Steps p.tables e below (s₁.setTop (mkF m 66 #[.val (.int p0)] [])) t
                refine XS.iconst X0.here hx rfl (hb hby d1_66) ?_
                exact k
              obtain ⟨fs, hr, hrun, hended, hW, hsame⟩ := X0.leave (v := some (.int (nar .char (0 : Int32)))) (fun h => by rw [Bd.returns] at h; cases h)
              refine ⟨_, _, retN X0 hx (t := .char) Bd.returns (by simp) (hb hby d1_67) hr, hrun, hended, _, _, rfl, ⟨(by rw [tokF, if_pos hc1_1, if_neg hc1_2, if_pos hc1_9, if_pos hc1_10, if_neg hc1_11, if_neg hc1_12]), N0, ?_⟩, ⟨_, rfl⟩, hW, hsame.mono (by decide) (by decide)⟩
              exact e0
        · refine own_fw (A := s₁.setTop (mkF m 32 #[.val (.int p0)] [])) (fun t k => ?_) ?_
          · show Steps p.tables e below (s₁.setTop (mkF m 29 #[.val (.int p0)] [(.int (65 : Int32)), (.int p0)])) t
            refine XS.icmpNo X0.here hx rfl (hb hby d1_29) rfl (flt hc1_10).1 ?_
            exact k
          refine own_fw (A := s₁.setTop (mkF m 35 #[.val (.int p0)] [(.int (90 : Int32)), (.int p0)])) (fun t k => ?_) ?_
          · show Steps p.tables e below (s₁.setTop (mkF m 32 #[.val (.int p0)] [])) t
            refine XS.iloadN X0.here hx rfl (hb hby d1_32) rfl ?_
            show Steps p.tables e below (s₁.setTop (mkF m 33 #[.val (.int p0)] [(.int p0)])) t
            refine XS.bipush X0.here hx rfl (hb hby d1_33) ?_
            exact k
          by_cases hc1_13 : (90 : Int32) < p0
          · refine own_fw (A := s₁.setTop (mkF m 44 #[.val (.int p0)] [])) (fun t k => ?_) ?_
            · show Steps p.tables e below (s₁.setTop (mkF m 35 #[.val (.int p0)] [(.int (90 : Int32)), (.int p0)])) t
              refine XS.icmpYes X0.here hx rfl (pc0 := 35) (pc' := 44) rfl (hb hby d1_35) rfl (tlt hc1_13).2.2.1 (by decide) (by decide) ?_
              exact k
            refine own_fw (A := s₁.setTop (mkF m 48 #[.val (.int p0)] [(.int (8490 : Int32)), (.int p0)])) (fun t k => ?_) ?_
            · show Steps p.tables e below (s₁.setTop (mkF m 44 #[.val (.int p0)] [])) t
              refine XS.iloadN X0.here hx rfl (hb hby d1_44) rfl ?_
              show Steps p.tables e below (s₁.setTop (mkF m 45 #[.val (.int p0)] [(.int p0)])) t
              refine XS.sipush X0.here hx rfl (hb hby d1_45) ?_
              exact k
            by_cases hc1_14 : p0 = (8490 : Int32)
            · refine own_fw (A := s₁.setTop (mkF m 51 #[.val (.int p0)] [])) (fun t k => ?_) ?_
              · show Steps p.tables e below (s₁.setTop (mkF m 48 #[.val (.int p0)] [(.int (8490 : Int32)), (.int p0)])) t
                refine XS.icmpNo X0.here hx rfl (hb hby d1_48) rfl (teq hc1_14).2 ?_
                exact k
              refine own_fw (A := s₁.setTop (mkF m 53 #[.val (.int p0)] [(.int (107 : Int32))])) (fun t k => ?_) ?_
              · show Steps p.tables e below (s₁.setTop (mkF m 51 #[.val (.int p0)] [])) t
                refine XS.bipush X0.here hx rfl (hb hby d1_51) ?_
                exact k
              obtain ⟨fs, hr, hrun, hended, hW, hsame⟩ := X0.leave (v := some (.int (nar .char (107 : Int32)))) (fun h => by rw [Bd.returns] at h; cases h)
              refine ⟨_, _, retN X0 hx (t := .char) Bd.returns (by simp) (hb hby d1_53) hr, hrun, hended, _, _, rfl, ⟨(by rw [tokF, if_pos hc1_1, if_neg hc1_2, if_pos hc1_9, if_neg hc1_10, if_pos hc1_13, if_pos hc1_14]), N0, ?_⟩, ⟨_, rfl⟩, hW, hsame.mono (by decide) (by decide)⟩
              exact e0
            · refine own_fw (A := s₁.setTop (mkF m 54 #[.val (.int p0)] [])) (fun t k => ?_) ?_
              · show Steps p.tables e below (s₁.setTop (mkF m 48 #[.val (.int p0)] [(.int (8490 : Int32)), (.int p0)])) t
                refine XS.icmpYes X0.here hx rfl (pc0 := 48) (pc' := 54) rfl (hb hby d1_48) rfl (feq hc1_14).2 (by decide) (by decide) ?_
                exact k
              refine own_fw (A := s₁.setTop (mkF m 58 #[.val (.int p0)] [(.int (304 : Int32)), (.int p0)])) (fun t k => ?_) ?_
              · show Steps p.tables e below (s₁.setTop (mkF m 54 #[.val (.int p0)] [])) t
                refine XS.iloadN X0.here hx rfl (hb hby d1_54) rfl ?_
                show Steps p.tables e below (s₁.setTop (mkF m 55 #[.val (.int p0)] [(.int p0)])) t
                refine XS.sipush X0.here hx rfl (hb hby d1_55) ?_
                exact k
              by_cases hc1_15 : p0 = (304 : Int32)
              · refine own_fw (A := s₁.setTop (mkF m 61 #[.val (.int p0)] [])) (fun t k => ?_) ?_
                · show Steps p.tables e below (s₁.setTop (mkF m 58 #[.val (.int p0)] [(.int (304 : Int32)), (.int p0)])) t
                  refine XS.icmpNo X0.here hx rfl (hb hby d1_58) rfl (teq hc1_15).2 ?_
                  exact k
                refine own_fw (A := s₁.setTop (mkF m 67 #[.val (.int p0)] [(.int (105 : Int32))])) (fun t k => ?_) ?_
                · show Steps p.tables e below (s₁.setTop (mkF m 61 #[.val (.int p0)] [])) t
                  refine XS.bipush X0.here hx rfl (hb hby d1_61) ?_
                  show Steps p.tables e below (s₁.setTop (mkF m 63 #[.val (.int p0)] [(.int (105 : Int32))])) t
                  refine XS.goto X0.here hx rfl (pc0 := 63) (pc' := 67) rfl (hb hby d1_63) (by decide) (by decide) ?_
                  exact k
                obtain ⟨fs, hr, hrun, hended, hW, hsame⟩ := X0.leave (v := some (.int (nar .char (105 : Int32)))) (fun h => by rw [Bd.returns] at h; cases h)
                refine ⟨_, _, retN X0 hx (t := .char) Bd.returns (by simp) (hb hby d1_67) hr, hrun, hended, _, _, rfl, ⟨(by rw [tokF, if_pos hc1_1, if_neg hc1_2, if_pos hc1_9, if_neg hc1_10, if_pos hc1_13, if_neg hc1_14, if_pos hc1_15]), N0, ?_⟩, ⟨_, rfl⟩, hW, hsame.mono (by decide) (by decide)⟩
                exact e0
              · refine own_fw (A := s₁.setTop (mkF m 66 #[.val (.int p0)] [])) (fun t k => ?_) ?_
                · show Steps p.tables e below (s₁.setTop (mkF m 58 #[.val (.int p0)] [(.int (304 : Int32)), (.int p0)])) t
                  refine XS.icmpYes X0.here hx rfl (pc0 := 58) (pc' := 66) rfl (hb hby d1_58) rfl (feq hc1_15).2 (by decide) (by decide) ?_
                  exact k
                refine own_fw (A := s₁.setTop (mkF m 67 #[.val (.int p0)] [(.int (0 : Int32))])) (fun t k => ?_) ?_
                · show Steps p.tables e below (s₁.setTop (mkF m 66 #[.val (.int p0)] [])) t
                  refine XS.iconst X0.here hx rfl (hb hby d1_66) ?_
                  exact k
                obtain ⟨fs, hr, hrun, hended, hW, hsame⟩ := X0.leave (v := some (.int (nar .char (0 : Int32)))) (fun h => by rw [Bd.returns] at h; cases h)
                refine ⟨_, _, retN X0 hx (t := .char) Bd.returns (by simp) (hb hby d1_67) hr, hrun, hended, _, _, rfl, ⟨(by rw [tokF, if_pos hc1_1, if_neg hc1_2, if_pos hc1_9, if_neg hc1_10, if_pos hc1_13, if_neg hc1_14, if_neg hc1_15]), N0, ?_⟩, ⟨_, rfl⟩, hW, hsame.mono (by decide) (by decide)⟩
                exact e0
          · refine own_fw (A := s₁.setTop (mkF m 38 #[.val (.int p0)] [])) (fun t k => ?_) ?_
            · show Steps p.tables e below (s₁.setTop (mkF m 35 #[.val (.int p0)] [(.int (90 : Int32)), (.int p0)])) t
              refine XS.icmpNo X0.here hx rfl (hb hby d1_35) rfl (flt hc1_13).2.2.1 ?_
              exact k
            refine own_fw (A := s₁.setTop (mkF m 43 #[.val (.int p0)] [(.int ((p0 + (32 : Int32)).toUInt32.toUInt16.toUInt32.toInt32))])) (fun t k => ?_) ?_
            · show Steps p.tables e below (s₁.setTop (mkF m 38 #[.val (.int p0)] [])) t
              refine XS.iloadN X0.here hx rfl (hb hby d1_38) rfl ?_
              show Steps p.tables e below (s₁.setTop (mkF m 39 #[.val (.int p0)] [(.int p0)])) t
              refine XS.bipush X0.here hx rfl (hb hby d1_39) ?_
              show Steps p.tables e below (s₁.setTop (mkF m 41 #[.val (.int p0)] [(.int (32 : Int32)), (.int p0)])) t
              refine XS.iadd X0.here hx rfl (hb hby d1_41) rfl ?_
              show Steps p.tables e below (s₁.setTop (mkF m 42 #[.val (.int p0)] [(.int (p0 + (32 : Int32)))])) t
              refine XS.i2c X0.here hx rfl (hb hby d1_42) rfl ?_
              exact k
            obtain ⟨fs, hr, hrun, hended, hW, hsame⟩ := X0.leave (v := some (.int (nar .char ((p0 + (32 : Int32)).toUInt32.toUInt16.toUInt32.toInt32)))) (fun h => by rw [Bd.returns] at h; cases h)
            refine ⟨_, _, retN X0 hx (t := .char) Bd.returns (by simp) (hb hby d1_43) hr, hrun, hended, _, _, rfl, ⟨(by rw [tokF, if_pos hc1_1, if_neg hc1_2, if_pos hc1_9, if_neg hc1_10, if_neg hc1_13]), N0, ?_⟩, ⟨_, rfl⟩, hW, hsame.mono (by decide) (by decide)⟩
            exact e0
      · refine own_fw (A := s₁.setTop (mkF m 24 #[.val (.int p0)] [])) (fun t k => ?_) ?_
        · show Steps p.tables e below (s₁.setTop (mkF m 21 #[.val (.int p0)] [(.int (57 : Int32)), (.int p0)])) t
          refine XS.icmpNo X0.here hx rfl (hb hby d1_21) rfl (flt hc1_9).2.2.1 ?_
          exact k
        refine own_fw (A := s₁.setTop (mkF m 25 #[.val (.int p0)] [(.int p0)])) (fun t k => ?_) ?_
        · show Steps p.tables e below (s₁.setTop (mkF m 24 #[.val (.int p0)] [])) t
          refine XS.iloadN X0.here hx rfl (hb hby d1_24) rfl ?_
          exact k
        obtain ⟨fs, hr, hrun, hended, hW, hsame⟩ := X0.leave (v := some (.int (nar .char p0))) (fun h => by rw [Bd.returns] at h; cases h)
        refine ⟨_, _, retN X0 hx (t := .char) Bd.returns (by simp) (hb hby d1_25) hr, hrun, hended, _, _, rfl, ⟨(by rw [tokF, if_pos hc1_1, if_neg hc1_2, if_neg hc1_9]), N0, ?_⟩, ⟨_, rfl⟩, hW, hsame.mono (by decide) (by decide)⟩
        exact e0
  · refine own_fw (A := s₁.setTop (mkF m 6 #[.val (.int p0)] [])) (fun t k => ?_) ?_
    · show Steps p.tables e below (s₁.setTop (mkF m 3 #[.val (.int p0)] [(.int (97 : Int32)), (.int p0)])) t
      refine XS.icmpNo X0.here hx rfl (hb hby d1_3) rfl (flt hc1_1).1 ?_
      exact k
    refine own_fw (A := s₁.setTop (mkF m 9 #[.val (.int p0)] [(.int (122 : Int32)), (.int p0)])) (fun t k => ?_) ?_
    · show Steps p.tables e below (s₁.setTop (mkF m 6 #[.val (.int p0)] [])) t
      refine XS.iloadN X0.here hx rfl (hb hby d1_6) rfl ?_
      show Steps p.tables e below (s₁.setTop (mkF m 7 #[.val (.int p0)] [(.int p0)])) t
      refine XS.bipush X0.here hx rfl (hb hby d1_7) ?_
      exact k
    by_cases hc1_16 : (122 : Int32) < p0
    · refine own_fw (A := s₁.setTop (mkF m 12 #[.val (.int p0)] [])) (fun t k => ?_) ?_
      · show Steps p.tables e below (s₁.setTop (mkF m 9 #[.val (.int p0)] [(.int (122 : Int32)), (.int p0)])) t
        refine XS.icmpNo X0.here hx rfl (hb hby d1_9) rfl (tlt hc1_16).2.2.2 ?_
        exact k
      refine own_fw (A := s₁.setTop (mkF m 15 #[.val (.int p0)] [(.int (48 : Int32)), (.int p0)])) (fun t k => ?_) ?_
      · show Steps p.tables e below (s₁.setTop (mkF m 12 #[.val (.int p0)] [])) t
        refine XS.iloadN X0.here hx rfl (hb hby d1_12) rfl ?_
        show Steps p.tables e below (s₁.setTop (mkF m 13 #[.val (.int p0)] [(.int p0)])) t
        refine XS.bipush X0.here hx rfl (hb hby d1_13) ?_
        exact k
      by_cases hc1_17 : p0 < (48 : Int32)
      · refine own_fw (A := s₁.setTop (mkF m 26 #[.val (.int p0)] [])) (fun t k => ?_) ?_
        · show Steps p.tables e below (s₁.setTop (mkF m 15 #[.val (.int p0)] [(.int (48 : Int32)), (.int p0)])) t
          refine XS.icmpYes X0.here hx rfl (pc0 := 15) (pc' := 26) rfl (hb hby d1_15) rfl (tlt hc1_17).1 (by decide) (by decide) ?_
          exact k
        refine own_fw (A := s₁.setTop (mkF m 29 #[.val (.int p0)] [(.int (65 : Int32)), (.int p0)])) (fun t k => ?_) ?_
        · show Steps p.tables e below (s₁.setTop (mkF m 26 #[.val (.int p0)] [])) t
          refine XS.iloadN X0.here hx rfl (hb hby d1_26) rfl ?_
          show Steps p.tables e below (s₁.setTop (mkF m 27 #[.val (.int p0)] [(.int p0)])) t
          refine XS.bipush X0.here hx rfl (hb hby d1_27) ?_
          exact k
        by_cases hc1_18 : p0 < (65 : Int32)
        · refine own_fw (A := s₁.setTop (mkF m 44 #[.val (.int p0)] [])) (fun t k => ?_) ?_
          · show Steps p.tables e below (s₁.setTop (mkF m 29 #[.val (.int p0)] [(.int (65 : Int32)), (.int p0)])) t
            refine XS.icmpYes X0.here hx rfl (pc0 := 29) (pc' := 44) rfl (hb hby d1_29) rfl (tlt hc1_18).1 (by decide) (by decide) ?_
            exact k
          refine own_fw (A := s₁.setTop (mkF m 48 #[.val (.int p0)] [(.int (8490 : Int32)), (.int p0)])) (fun t k => ?_) ?_
          · show Steps p.tables e below (s₁.setTop (mkF m 44 #[.val (.int p0)] [])) t
            refine XS.iloadN X0.here hx rfl (hb hby d1_44) rfl ?_
            show Steps p.tables e below (s₁.setTop (mkF m 45 #[.val (.int p0)] [(.int p0)])) t
            refine XS.sipush X0.here hx rfl (hb hby d1_45) ?_
            exact k
          by_cases hc1_19 : p0 = (8490 : Int32)
          · refine own_fw (A := s₁.setTop (mkF m 51 #[.val (.int p0)] [])) (fun t k => ?_) ?_
            · show Steps p.tables e below (s₁.setTop (mkF m 48 #[.val (.int p0)] [(.int (8490 : Int32)), (.int p0)])) t
              refine XS.icmpNo X0.here hx rfl (hb hby d1_48) rfl (teq hc1_19).2 ?_
              exact k
            refine own_fw (A := s₁.setTop (mkF m 53 #[.val (.int p0)] [(.int (107 : Int32))])) (fun t k => ?_) ?_
            · show Steps p.tables e below (s₁.setTop (mkF m 51 #[.val (.int p0)] [])) t
              refine XS.bipush X0.here hx rfl (hb hby d1_51) ?_
              exact k
            obtain ⟨fs, hr, hrun, hended, hW, hsame⟩ := X0.leave (v := some (.int (nar .char (107 : Int32)))) (fun h => by rw [Bd.returns] at h; cases h)
            refine ⟨_, _, retN X0 hx (t := .char) Bd.returns (by simp) (hb hby d1_53) hr, hrun, hended, _, _, rfl, ⟨(by rw [tokF, if_neg hc1_1, if_pos hc1_16, if_pos hc1_17, if_pos hc1_18, if_pos hc1_19]), N0, ?_⟩, ⟨_, rfl⟩, hW, hsame.mono (by decide) (by decide)⟩
            exact e0
          · refine own_fw (A := s₁.setTop (mkF m 54 #[.val (.int p0)] [])) (fun t k => ?_) ?_
            · show Steps p.tables e below (s₁.setTop (mkF m 48 #[.val (.int p0)] [(.int (8490 : Int32)), (.int p0)])) t
              refine XS.icmpYes X0.here hx rfl (pc0 := 48) (pc' := 54) rfl (hb hby d1_48) rfl (feq hc1_19).2 (by decide) (by decide) ?_
              exact k
            refine own_fw (A := s₁.setTop (mkF m 58 #[.val (.int p0)] [(.int (304 : Int32)), (.int p0)])) (fun t k => ?_) ?_
            · show Steps p.tables e below (s₁.setTop (mkF m 54 #[.val (.int p0)] [])) t
              refine XS.iloadN X0.here hx rfl (hb hby d1_54) rfl ?_
              show Steps p.tables e below (s₁.setTop (mkF m 55 #[.val (.int p0)] [(.int p0)])) t
              refine XS.sipush X0.here hx rfl (hb hby d1_55) ?_
              exact k
            by_cases hc1_20 : p0 = (304 : Int32)
            · refine own_fw (A := s₁.setTop (mkF m 61 #[.val (.int p0)] [])) (fun t k => ?_) ?_
              · show Steps p.tables e below (s₁.setTop (mkF m 58 #[.val (.int p0)] [(.int (304 : Int32)), (.int p0)])) t
                refine XS.icmpNo X0.here hx rfl (hb hby d1_58) rfl (teq hc1_20).2 ?_
                exact k
              refine own_fw (A := s₁.setTop (mkF m 67 #[.val (.int p0)] [(.int (105 : Int32))])) (fun t k => ?_) ?_
              · show Steps p.tables e below (s₁.setTop (mkF m 61 #[.val (.int p0)] [])) t
                refine XS.bipush X0.here hx rfl (hb hby d1_61) ?_
                show Steps p.tables e below (s₁.setTop (mkF m 63 #[.val (.int p0)] [(.int (105 : Int32))])) t
                refine XS.goto X0.here hx rfl (pc0 := 63) (pc' := 67) rfl (hb hby d1_63) (by decide) (by decide) ?_
                exact k
              obtain ⟨fs, hr, hrun, hended, hW, hsame⟩ := X0.leave (v := some (.int (nar .char (105 : Int32)))) (fun h => by rw [Bd.returns] at h; cases h)
              refine ⟨_, _, retN X0 hx (t := .char) Bd.returns (by simp) (hb hby d1_67) hr, hrun, hended, _, _, rfl, ⟨(by rw [tokF, if_neg hc1_1, if_pos hc1_16, if_pos hc1_17, if_pos hc1_18, if_neg hc1_19, if_pos hc1_20]), N0, ?_⟩, ⟨_, rfl⟩, hW, hsame.mono (by decide) (by decide)⟩
              exact e0
            · refine own_fw (A := s₁.setTop (mkF m 66 #[.val (.int p0)] [])) (fun t k => ?_) ?_
              · show Steps p.tables e below (s₁.setTop (mkF m 58 #[.val (.int p0)] [(.int (304 : Int32)), (.int p0)])) t
                refine XS.icmpYes X0.here hx rfl (pc0 := 58) (pc' := 66) rfl (hb hby d1_58) rfl (feq hc1_20).2 (by decide) (by decide) ?_
                exact k
              refine own_fw (A := s₁.setTop (mkF m 67 #[.val (.int p0)] [(.int (0 : Int32))])) (fun t k => ?_) ?_
              · show Steps p.tables e below (s₁.setTop (mkF m 66 #[.val (.int p0)] [])) t
                refine XS.iconst X0.here hx rfl (hb hby d1_66) ?_
                exact k
              obtain ⟨fs, hr, hrun, hended, hW, hsame⟩ := X0.leave (v := some (.int (nar .char (0 : Int32)))) (fun h => by rw [Bd.returns] at h; cases h)
              refine ⟨_, _, retN X0 hx (t := .char) Bd.returns (by simp) (hb hby d1_67) hr, hrun, hended, _, _, rfl, ⟨(by rw [tokF, if_neg hc1_1, if_pos hc1_16, if_pos hc1_17, if_pos hc1_18, if_neg hc1_19, if_neg hc1_20]), N0, ?_⟩, ⟨_, rfl⟩, hW, hsame.mono (by decide) (by decide)⟩
              exact e0
        · refine own_fw (A := s₁.setTop (mkF m 32 #[.val (.int p0)] [])) (fun t k => ?_) ?_
          · show Steps p.tables e below (s₁.setTop (mkF m 29 #[.val (.int p0)] [(.int (65 : Int32)), (.int p0)])) t
            refine XS.icmpNo X0.here hx rfl (hb hby d1_29) rfl (flt hc1_18).1 ?_
            exact k
          refine own_fw (A := s₁.setTop (mkF m 35 #[.val (.int p0)] [(.int (90 : Int32)), (.int p0)])) (fun t k => ?_) ?_
          · show Steps p.tables e below (s₁.setTop (mkF m 32 #[.val (.int p0)] [])) t
            refine XS.iloadN X0.here hx rfl (hb hby d1_32) rfl ?_
            show Steps p.tables e below (s₁.setTop (mkF m 33 #[.val (.int p0)] [(.int p0)])) t
            refine XS.bipush X0.here hx rfl (hb hby d1_33) ?_
            exact k
          by_cases hc1_21 : (90 : Int32) < p0
          · refine own_fw (A := s₁.setTop (mkF m 44 #[.val (.int p0)] [])) (fun t k => ?_) ?_
            · show Steps p.tables e below (s₁.setTop (mkF m 35 #[.val (.int p0)] [(.int (90 : Int32)), (.int p0)])) t
              refine XS.icmpYes X0.here hx rfl (pc0 := 35) (pc' := 44) rfl (hb hby d1_35) rfl (tlt hc1_21).2.2.1 (by decide) (by decide) ?_
              exact k
            refine own_fw (A := s₁.setTop (mkF m 48 #[.val (.int p0)] [(.int (8490 : Int32)), (.int p0)])) (fun t k => ?_) ?_
            · show Steps p.tables e below (s₁.setTop (mkF m 44 #[.val (.int p0)] [])) t
              refine XS.iloadN X0.here hx rfl (hb hby d1_44) rfl ?_
              show Steps p.tables e below (s₁.setTop (mkF m 45 #[.val (.int p0)] [(.int p0)])) t
              refine XS.sipush X0.here hx rfl (hb hby d1_45) ?_
              exact k
            by_cases hc1_22 : p0 = (8490 : Int32)
            · refine own_fw (A := s₁.setTop (mkF m 51 #[.val (.int p0)] [])) (fun t k => ?_) ?_
              · show Steps p.tables e below (s₁.setTop (mkF m 48 #[.val (.int p0)] [(.int (8490 : Int32)), (.int p0)])) t
                refine XS.icmpNo X0.here hx rfl (hb hby d1_48) rfl (teq hc1_22).2 ?_
                exact k
              refine own_fw (A := s₁.setTop (mkF m 53 #[.val (.int p0)] [(.int (107 : Int32))])) (fun t k => ?_) ?_
              · show Steps p.tables e below (s₁.setTop (mkF m 51 #[.val (.int p0)] [])) t
                refine XS.bipush X0.here hx rfl (hb hby d1_51) ?_
                exact k
              obtain ⟨fs, hr, hrun, hended, hW, hsame⟩ := X0.leave (v := some (.int (nar .char (107 : Int32)))) (fun h => by rw [Bd.returns] at h; cases h)
              refine ⟨_, _, retN X0 hx (t := .char) Bd.returns (by simp) (hb hby d1_53) hr, hrun, hended, _, _, rfl, ⟨(by rw [tokF, if_neg hc1_1, if_pos hc1_16, if_pos hc1_17, if_neg hc1_18, if_pos hc1_21, if_pos hc1_22]), N0, ?_⟩, ⟨_, rfl⟩, hW, hsame.mono (by decide) (by decide)⟩
              exact e0
            · refine own_fw (A := s₁.setTop (mkF m 54 #[.val (.int p0)] [])) (fun t k => ?_) ?_
              · show Steps p.tables e below (s₁.setTop (mkF m 48 #[.val (.int p0)] [(.int (8490 : Int32)), (.int p0)])) t
                refine XS.icmpYes X0.here hx rfl (pc0 := 48) (pc' := 54) rfl (hb hby d1_48) rfl (feq hc1_22).2 (by decide) (by decide) ?_
                exact k
              refine own_fw (A := s₁.setTop (mkF m 58 #[.val (.int p0)] [(.int (304 : Int32)), (.int p0)])) (fun t k => ?_) ?_
              · show Steps p.tables e below (s₁.setTop (mkF m 54 #[.val (.int p0)] [])) t
                refine XS.iloadN X0.here hx rfl (hb hby d1_54) rfl ?_
                show Steps p.tables e below (s₁.setTop (mkF m 55 #[.val (.int p0)] [(.int p0)])) t
                refine XS.sipush X0.here hx rfl (hb hby d1_55) ?_
                exact k
              by_cases hc1_23 : p0 = (304 : Int32)
              · refine own_fw (A := s₁.setTop (mkF m 61 #[.val (.int p0)] [])) (fun t k => ?_) ?_
                · show Steps p.tables e below (s₁.setTop (mkF m 58 #[.val (.int p0)] [(.int (304 : Int32)), (.int p0)])) t
                  refine XS.icmpNo X0.here hx rfl (hb hby d1_58) rfl (teq hc1_23).2 ?_
                  exact k
                refine own_fw (A := s₁.setTop (mkF m 67 #[.val (.int p0)] [(.int (105 : Int32))])) (fun t k => ?_) ?_
                · show Steps p.tables e below (s₁.setTop (mkF m 61 #[.val (.int p0)] [])) t
                  refine XS.bipush X0.here hx rfl (hb hby d1_61) ?_
                  show Steps p.tables e below (s₁.setTop (mkF m 63 #[.val (.int p0)] [(.int (105 : Int32))])) t
                  refine XS.goto X0.here hx rfl (pc0 := 63) (pc' := 67) rfl (hb hby d1_63) (by decide) (by decide) ?_
                  exact k
                obtain ⟨fs, hr, hrun, hended, hW, hsame⟩ := X0.leave (v := some (.int (nar .char (105 : Int32)))) (fun h => by rw [Bd.returns] at h; cases h)
                refine ⟨_, _, retN X0 hx (t := .char) Bd.returns (by simp) (hb hby d1_67) hr, hrun, hended, _, _, rfl, ⟨(by rw [tokF, if_neg hc1_1, if_pos hc1_16, if_pos hc1_17, if_neg hc1_18, if_pos hc1_21, if_neg hc1_22, if_pos hc1_23]), N0, ?_⟩, ⟨_, rfl⟩, hW, hsame.mono (by decide) (by decide)⟩
                exact e0
              · refine own_fw (A := s₁.setTop (mkF m 66 #[.val (.int p0)] [])) (fun t k => ?_) ?_
                · show Steps p.tables e below (s₁.setTop (mkF m 58 #[.val (.int p0)] [(.int (304 : Int32)), (.int p0)])) t
                  refine XS.icmpYes X0.here hx rfl (pc0 := 58) (pc' := 66) rfl (hb hby d1_58) rfl (feq hc1_23).2 (by decide) (by decide) ?_
                  exact k
                refine own_fw (A := s₁.setTop (mkF m 67 #[.val (.int p0)] [(.int (0 : Int32))])) (fun t k => ?_) ?_
                · show Steps p.tables e below (s₁.setTop (mkF m 66 #[.val (.int p0)] [])) t
                  refine XS.iconst X0.here hx rfl (hb hby d1_66) ?_
                  exact k
                obtain ⟨fs, hr, hrun, hended, hW, hsame⟩ := X0.leave (v := some (.int (nar .char (0 : Int32)))) (fun h => by rw [Bd.returns] at h; cases h)
                refine ⟨_, _, retN X0 hx (t := .char) Bd.returns (by simp) (hb hby d1_67) hr, hrun, hended, _, _, rfl, ⟨(by rw [tokF, if_neg hc1_1, if_pos hc1_16, if_pos hc1_17, if_neg hc1_18, if_pos hc1_21, if_neg hc1_22, if_neg hc1_23]), N0, ?_⟩, ⟨_, rfl⟩, hW, hsame.mono (by decide) (by decide)⟩
                exact e0
          · refine own_fw (A := s₁.setTop (mkF m 38 #[.val (.int p0)] [])) (fun t k => ?_) ?_
            · show Steps p.tables e below (s₁.setTop (mkF m 35 #[.val (.int p0)] [(.int (90 : Int32)), (.int p0)])) t
              refine XS.icmpNo X0.here hx rfl (hb hby d1_35) rfl (flt hc1_21).2.2.1 ?_
              exact k
            refine own_fw (A := s₁.setTop (mkF m 43 #[.val (.int p0)] [(.int ((p0 + (32 : Int32)).toUInt32.toUInt16.toUInt32.toInt32))])) (fun t k => ?_) ?_
            · show Steps p.tables e below (s₁.setTop (mkF m 38 #[.val (.int p0)] [])) t
              refine XS.iloadN X0.here hx rfl (hb hby d1_38) rfl ?_
              show Steps p.tables e below (s₁.setTop (mkF m 39 #[.val (.int p0)] [(.int p0)])) t
              refine XS.bipush X0.here hx rfl (hb hby d1_39) ?_
              show Steps p.tables e below (s₁.setTop (mkF m 41 #[.val (.int p0)] [(.int (32 : Int32)), (.int p0)])) t
              refine XS.iadd X0.here hx rfl (hb hby d1_41) rfl ?_
              show Steps p.tables e below (s₁.setTop (mkF m 42 #[.val (.int p0)] [(.int (p0 + (32 : Int32)))])) t
              refine XS.i2c X0.here hx rfl (hb hby d1_42) rfl ?_
              exact k
            obtain ⟨fs, hr, hrun, hended, hW, hsame⟩ := X0.leave (v := some (.int (nar .char ((p0 + (32 : Int32)).toUInt32.toUInt16.toUInt32.toInt32)))) (fun h => by rw [Bd.returns] at h; cases h)
            refine ⟨_, _, retN X0 hx (t := .char) Bd.returns (by simp) (hb hby d1_43) hr, hrun, hended, _, _, rfl, ⟨(by rw [tokF, if_neg hc1_1, if_pos hc1_16, if_pos hc1_17, if_neg hc1_18, if_neg hc1_21]), N0, ?_⟩, ⟨_, rfl⟩, hW, hsame.mono (by decide) (by decide)⟩
            exact e0
      · refine own_fw (A := s₁.setTop (mkF m 18 #[.val (.int p0)] [])) (fun t k => ?_) ?_
        · show Steps p.tables e below (s₁.setTop (mkF m 15 #[.val (.int p0)] [(.int (48 : Int32)), (.int p0)])) t
          refine XS.icmpNo X0.here hx rfl (hb hby d1_15) rfl (flt hc1_17).1 ?_
          exact k
        refine own_fw (A := s₁.setTop (mkF m 21 #[.val (.int p0)] [(.int (57 : Int32)), (.int p0)])) (fun t k => ?_) ?_
        · show Steps p.tables e below (s₁.setTop (mkF m 18 #[.val (.int p0)] [])) t
          refine XS.iloadN X0.here hx rfl (hb hby d1_18) rfl ?_
          show Steps p.tables e below (s₁.setTop (mkF m 19 #[.val (.int p0)] [(.int p0)])) t
          refine XS.bipush X0.here hx rfl (hb hby d1_19) ?_
          exact k
        by_cases hc1_24 : (57 : Int32) < p0
        · refine own_fw (A := s₁.setTop (mkF m 26 #[.val (.int p0)] [])) (fun t k => ?_) ?_
          · show Steps p.tables e below (s₁.setTop (mkF m 21 #[.val (.int p0)] [(.int (57 : Int32)), (.int p0)])) t
            refine XS.icmpYes X0.here hx rfl (pc0 := 21) (pc' := 26) rfl (hb hby d1_21) rfl (tlt hc1_24).2.2.1 (by decide) (by decide) ?_
            exact k
          refine own_fw (A := s₁.setTop (mkF m 29 #[.val (.int p0)] [(.int (65 : Int32)), (.int p0)])) (fun t k => ?_) ?_
          · show Steps p.tables e below (s₁.setTop (mkF m 26 #[.val (.int p0)] [])) t
            refine XS.iloadN X0.here hx rfl (hb hby d1_26) rfl ?_
            show Steps p.tables e below (s₁.setTop (mkF m 27 #[.val (.int p0)] [(.int p0)])) t
            refine XS.bipush X0.here hx rfl (hb hby d1_27) ?_
            exact k
          by_cases hc1_25 : p0 < (65 : Int32)
          · refine own_fw (A := s₁.setTop (mkF m 44 #[.val (.int p0)] [])) (fun t k => ?_) ?_
            · show Steps p.tables e below (s₁.setTop (mkF m 29 #[.val (.int p0)] [(.int (65 : Int32)), (.int p0)])) t
              refine XS.icmpYes X0.here hx rfl (pc0 := 29) (pc' := 44) rfl (hb hby d1_29) rfl (tlt hc1_25).1 (by decide) (by decide) ?_
              exact k
            refine own_fw (A := s₁.setTop (mkF m 48 #[.val (.int p0)] [(.int (8490 : Int32)), (.int p0)])) (fun t k => ?_) ?_
            · show Steps p.tables e below (s₁.setTop (mkF m 44 #[.val (.int p0)] [])) t
              refine XS.iloadN X0.here hx rfl (hb hby d1_44) rfl ?_
              show Steps p.tables e below (s₁.setTop (mkF m 45 #[.val (.int p0)] [(.int p0)])) t
              refine XS.sipush X0.here hx rfl (hb hby d1_45) ?_
              exact k
            by_cases hc1_26 : p0 = (8490 : Int32)
            · refine own_fw (A := s₁.setTop (mkF m 51 #[.val (.int p0)] [])) (fun t k => ?_) ?_
              · show Steps p.tables e below (s₁.setTop (mkF m 48 #[.val (.int p0)] [(.int (8490 : Int32)), (.int p0)])) t
                refine XS.icmpNo X0.here hx rfl (hb hby d1_48) rfl (teq hc1_26).2 ?_
                exact k
              refine own_fw (A := s₁.setTop (mkF m 53 #[.val (.int p0)] [(.int (107 : Int32))])) (fun t k => ?_) ?_
              · show Steps p.tables e below (s₁.setTop (mkF m 51 #[.val (.int p0)] [])) t
                refine XS.bipush X0.here hx rfl (hb hby d1_51) ?_
                exact k
              obtain ⟨fs, hr, hrun, hended, hW, hsame⟩ := X0.leave (v := some (.int (nar .char (107 : Int32)))) (fun h => by rw [Bd.returns] at h; cases h)
              refine ⟨_, _, retN X0 hx (t := .char) Bd.returns (by simp) (hb hby d1_53) hr, hrun, hended, _, _, rfl, ⟨(by rw [tokF, if_neg hc1_1, if_pos hc1_16, if_neg hc1_17, if_pos hc1_24, if_pos hc1_25, if_pos hc1_26]), N0, ?_⟩, ⟨_, rfl⟩, hW, hsame.mono (by decide) (by decide)⟩
              exact e0
            · refine own_fw (A := s₁.setTop (mkF m 54 #[.val (.int p0)] [])) (fun t k => ?_) ?_
              · show Steps p.tables e below (s₁.setTop (mkF m 48 #[.val (.int p0)] [(.int (8490 : Int32)), (.int p0)])) t
                refine XS.icmpYes X0.here hx rfl (pc0 := 48) (pc' := 54) rfl (hb hby d1_48) rfl (feq hc1_26).2 (by decide) (by decide) ?_
                exact k
              refine own_fw (A := s₁.setTop (mkF m 58 #[.val (.int p0)] [(.int (304 : Int32)), (.int p0)])) (fun t k => ?_) ?_
              · show Steps p.tables e below (s₁.setTop (mkF m 54 #[.val (.int p0)] [])) t
                refine XS.iloadN X0.here hx rfl (hb hby d1_54) rfl ?_
                show Steps p.tables e below (s₁.setTop (mkF m 55 #[.val (.int p0)] [(.int p0)])) t
                refine XS.sipush X0.here hx rfl (hb hby d1_55) ?_
                exact k
              by_cases hc1_27 : p0 = (304 : Int32)
              · refine own_fw (A := s₁.setTop (mkF m 61 #[.val (.int p0)] [])) (fun t k => ?_) ?_
                · show Steps p.tables e below (s₁.setTop (mkF m 58 #[.val (.int p0)] [(.int (304 : Int32)), (.int p0)])) t
                  refine XS.icmpNo X0.here hx rfl (hb hby d1_58) rfl (teq hc1_27).2 ?_
                  exact k
                refine own_fw (A := s₁.setTop (mkF m 67 #[.val (.int p0)] [(.int (105 : Int32))])) (fun t k => ?_) ?_
                · show Steps p.tables e below (s₁.setTop (mkF m 61 #[.val (.int p0)] [])) t
                  refine XS.bipush X0.here hx rfl (hb hby d1_61) ?_
                  show Steps p.tables e below (s₁.setTop (mkF m 63 #[.val (.int p0)] [(.int (105 : Int32))])) t
                  refine XS.goto X0.here hx rfl (pc0 := 63) (pc' := 67) rfl (hb hby d1_63) (by decide) (by decide) ?_
                  exact k
                obtain ⟨fs, hr, hrun, hended, hW, hsame⟩ := X0.leave (v := some (.int (nar .char (105 : Int32)))) (fun h => by rw [Bd.returns] at h; cases h)
                refine ⟨_, _, retN X0 hx (t := .char) Bd.returns (by simp) (hb hby d1_67) hr, hrun, hended, _, _, rfl, ⟨(by rw [tokF, if_neg hc1_1, if_pos hc1_16, if_neg hc1_17, if_pos hc1_24, if_pos hc1_25, if_neg hc1_26, if_pos hc1_27]), N0, ?_⟩, ⟨_, rfl⟩, hW, hsame.mono (by decide) (by decide)⟩
                exact e0
              · refine own_fw (A := s₁.setTop (mkF m 66 #[.val (.int p0)] [])) (fun t k => ?_) ?_
                · show Steps p.tables e below (s₁.setTop (mkF m 58 #[.val (.int p0)] [(.int (304 : Int32)), (.int p0)])) t
                  refine XS.icmpYes X0.here hx rfl (pc0 := 58) (pc' := 66) rfl (hb hby d1_58) rfl (feq hc1_27).2 (by decide) (by decide) ?_
                  exact k
                refine own_fw (A := s₁.setTop (mkF m 67 #[.val (.int p0)] [(.int (0 : Int32))])) (fun t k => ?_) ?_
                · show Steps p.tables e below (s₁.setTop (mkF m 66 #[.val (.int p0)] [])) t
                  refine XS.iconst X0.here hx rfl (hb hby d1_66) ?_
                  exact k
                obtain ⟨fs, hr, hrun, hended, hW, hsame⟩ := X0.leave (v := some (.int (nar .char (0 : Int32)))) (fun h => by rw [Bd.returns] at h; cases h)
                refine ⟨_, _, retN X0 hx (t := .char) Bd.returns (by simp) (hb hby d1_67) hr, hrun, hended, _, _, rfl, ⟨(by rw [tokF, if_neg hc1_1, if_pos hc1_16, if_neg hc1_17, if_pos hc1_24, if_pos hc1_25, if_neg hc1_26, if_neg hc1_27]), N0, ?_⟩, ⟨_, rfl⟩, hW, hsame.mono (by decide) (by decide)⟩
                exact e0
          · refine own_fw (A := s₁.setTop (mkF m 32 #[.val (.int p0)] [])) (fun t k => ?_) ?_
            · show Steps p.tables e below (s₁.setTop (mkF m 29 #[.val (.int p0)] [(.int (65 : Int32)), (.int p0)])) t
              refine XS.icmpNo X0.here hx rfl (hb hby d1_29) rfl (flt hc1_25).1 ?_
              exact k
            refine own_fw (A := s₁.setTop (mkF m 35 #[.val (.int p0)] [(.int (90 : Int32)), (.int p0)])) (fun t k => ?_) ?_
            · show Steps p.tables e below (s₁.setTop (mkF m 32 #[.val (.int p0)] [])) t
              refine XS.iloadN X0.here hx rfl (hb hby d1_32) rfl ?_
              show Steps p.tables e below (s₁.setTop (mkF m 33 #[.val (.int p0)] [(.int p0)])) t
              refine XS.bipush X0.here hx rfl (hb hby d1_33) ?_
              exact k
            by_cases hc1_28 : (90 : Int32) < p0
            · refine own_fw (A := s₁.setTop (mkF m 44 #[.val (.int p0)] [])) (fun t k => ?_) ?_
              · show Steps p.tables e below (s₁.setTop (mkF m 35 #[.val (.int p0)] [(.int (90 : Int32)), (.int p0)])) t
                refine XS.icmpYes X0.here hx rfl (pc0 := 35) (pc' := 44) rfl (hb hby d1_35) rfl (tlt hc1_28).2.2.1 (by decide) (by decide) ?_
                exact k
              refine own_fw (A := s₁.setTop (mkF m 48 #[.val (.int p0)] [(.int (8490 : Int32)), (.int p0)])) (fun t k => ?_) ?_
              · show Steps p.tables e below (s₁.setTop (mkF m 44 #[.val (.int p0)] [])) t
                refine XS.iloadN X0.here hx rfl (hb hby d1_44) rfl ?_
                show Steps p.tables e below (s₁.setTop (mkF m 45 #[.val (.int p0)] [(.int p0)])) t
                refine XS.sipush X0.here hx rfl (hb hby d1_45) ?_
                exact k
              by_cases hc1_29 : p0 = (8490 : Int32)
              · refine own_fw (A := s₁.setTop (mkF m 51 #[.val (.int p0)] [])) (fun t k => ?_) ?_
                · show Steps p.tables e below (s₁.setTop (mkF m 48 #[.val (.int p0)] [(.int (8490 : Int32)), (.int p0)])) t
                  refine XS.icmpNo X0.here hx rfl (hb hby d1_48) rfl (teq hc1_29).2 ?_
                  exact k
                refine own_fw (A := s₁.setTop (mkF m 53 #[.val (.int p0)] [(.int (107 : Int32))])) (fun t k => ?_) ?_
                · show Steps p.tables e below (s₁.setTop (mkF m 51 #[.val (.int p0)] [])) t
                  refine XS.bipush X0.here hx rfl (hb hby d1_51) ?_
                  exact k
                obtain ⟨fs, hr, hrun, hended, hW, hsame⟩ := X0.leave (v := some (.int (nar .char (107 : Int32)))) (fun h => by rw [Bd.returns] at h; cases h)
                refine ⟨_, _, retN X0 hx (t := .char) Bd.returns (by simp) (hb hby d1_53) hr, hrun, hended, _, _, rfl, ⟨(by rw [tokF, if_neg hc1_1, if_pos hc1_16, if_neg hc1_17, if_pos hc1_24, if_neg hc1_25, if_pos hc1_28, if_pos hc1_29]), N0, ?_⟩, ⟨_, rfl⟩, hW, hsame.mono (by decide) (by decide)⟩
                exact e0
              · refine own_fw (A := s₁.setTop (mkF m 54 #[.val (.int p0)] [])) (fun t k => ?_) ?_
                · show Steps p.tables e below (s₁.setTop (mkF m 48 #[.val (.int p0)] [(.int (8490 : Int32)), (.int p0)])) t
                  refine XS.icmpYes X0.here hx rfl (pc0 := 48) (pc' := 54) rfl (hb hby d1_48) rfl (feq hc1_29).2 (by decide) (by decide) ?_
                  exact k
                refine own_fw (A := s₁.setTop (mkF m 58 #[.val (.int p0)] [(.int (304 : Int32)), (.int p0)])) (fun t k => ?_) ?_
                · show Steps p.tables e below (s₁.setTop (mkF m 54 #[.val (.int p0)] [])) t
                  refine XS.iloadN X0.here hx rfl (hb hby d1_54) rfl ?_
                  show Steps p.tables e below (s₁.setTop (mkF m 55 #[.val (.int p0)] [(.int p0)])) t
                  refine XS.sipush X0.here hx rfl (hb hby d1_55) ?_
                  exact k
                by_cases hc1_30 : p0 = (304 : Int32)
                · refine own_fw (A := s₁.setTop (mkF m 61 #[.val (.int p0)] [])) (fun t k => ?_) ?_
                  · show Steps p.tables e below (s₁.setTop (mkF m 58 #[.val (.int p0)] [(.int (304 : Int32)), (.int p0)])) t
                    refine XS.icmpNo X0.here hx rfl (hb hby d1_58) rfl (teq hc1_30).2 ?_
                    exact k
                  refine own_fw (A := s₁.setTop (mkF m 67 #[.val (.int p0)] [(.int (105 : Int32))])) (fun t k => ?_) ?_
                  · show Steps p.tables e below (s₁.setTop (mkF m 61 #[.val (.int p0)] [])) t
                    refine XS.bipush X0.here hx rfl (hb hby d1_61) ?_
                    show Steps p.tables e below (s₁.setTop (mkF m 63 #[.val (.int p0)] [(.int (105 : Int32))])) t
                    refine XS.goto X0.here hx rfl (pc0 := 63) (pc' := 67) rfl (hb hby d1_63) (by decide) (by decide) ?_
                    exact k
                  obtain ⟨fs, hr, hrun, hended, hW, hsame⟩ := X0.leave (v := some (.int (nar .char (105 : Int32)))) (fun h => by rw [Bd.returns] at h; cases h)
                  refine ⟨_, _, retN X0 hx (t := .char) Bd.returns (by simp) (hb hby d1_67) hr, hrun, hended, _, _, rfl, ⟨(by rw [tokF, if_neg hc1_1, if_pos hc1_16, if_neg hc1_17, if_pos hc1_24, if_neg hc1_25, if_pos hc1_28, if_neg hc1_29, if_pos hc1_30]), N0, ?_⟩, ⟨_, rfl⟩, hW, hsame.mono (by decide) (by decide)⟩
                  exact e0
                · refine own_fw (A := s₁.setTop (mkF m 66 #[.val (.int p0)] [])) (fun t k => ?_) ?_
                  · show Steps p.tables e below (s₁.setTop (mkF m 58 #[.val (.int p0)] [(.int (304 : Int32)), (.int p0)])) t
                    refine XS.icmpYes X0.here hx rfl (pc0 := 58) (pc' := 66) rfl (hb hby d1_58) rfl (feq hc1_30).2 (by decide) (by decide) ?_
                    exact k
                  refine own_fw (A := s₁.setTop (mkF m 67 #[.val (.int p0)] [(.int (0 : Int32))])) (fun t k => ?_) ?_
                  · show Steps p.tables e below (s₁.setTop (mkF m 66 #[.val (.int p0)] [])) t
                    refine XS.iconst X0.here hx rfl (hb hby d1_66) ?_
                    exact k
                  obtain ⟨fs, hr, hrun, hended, hW, hsame⟩ := X0.leave (v := some (.int (nar .char (0 : Int32)))) (fun h => by rw [Bd.returns] at h; cases h)
                  refine ⟨_, _, retN X0 hx (t := .char) Bd.returns (by simp) (hb hby d1_67) hr, hrun, hended, _, _, rfl, ⟨(by rw [tokF, if_neg hc1_1, if_pos hc1_16, if_neg hc1_17, if_pos hc1_24, if_neg hc1_25, if_pos hc1_28, if_neg hc1_29, if_neg hc1_30]), N0, ?_⟩, ⟨_, rfl⟩, hW, hsame.mono (by decide) (by decide)⟩
                  exact e0
            · refine own_fw (A := s₁.setTop (mkF m 38 #[.val (.int p0)] [])) (fun t k => ?_) ?_
              · show Steps p.tables e below (s₁.setTop (mkF m 35 #[.val (.int p0)] [(.int (90 : Int32)), (.int p0)])) t
                refine XS.icmpNo X0.here hx rfl (hb hby d1_35) rfl (flt hc1_28).2.2.1 ?_
                exact k
              refine own_fw (A := s₁.setTop (mkF m 43 #[.val (.int p0)] [(.int ((p0 + (32 : Int32)).toUInt32.toUInt16.toUInt32.toInt32))])) (fun t k => ?_) ?_
              · show Steps p.tables e below (s₁.setTop (mkF m 38 #[.val (.int p0)] [])) t
                refine XS.iloadN X0.here hx rfl (hb hby d1_38) rfl ?_
                show Steps p.tables e below (s₁.setTop (mkF m 39 #[.val (.int p0)] [(.int p0)])) t
                refine XS.bipush X0.here hx rfl (hb hby d1_39) ?_
                show Steps p.tables e below (s₁.setTop (mkF m 41 #[.val (.int p0)] [(.int (32 : Int32)), (.int p0)])) t
                refine XS.iadd X0.here hx rfl (hb hby d1_41) rfl ?_
                show Steps p.tables e below (s₁.setTop (mkF m 42 #[.val (.int p0)] [(.int (p0 + (32 : Int32)))])) t
                refine XS.i2c X0.here hx rfl (hb hby d1_42) rfl ?_
                exact k
              obtain ⟨fs, hr, hrun, hended, hW, hsame⟩ := X0.leave (v := some (.int (nar .char ((p0 + (32 : Int32)).toUInt32.toUInt16.toUInt32.toInt32)))) (fun h => by rw [Bd.returns] at h; cases h)
              refine ⟨_, _, retN X0 hx (t := .char) Bd.returns (by simp) (hb hby d1_43) hr, hrun, hended, _, _, rfl, ⟨(by rw [tokF, if_neg hc1_1, if_pos hc1_16, if_neg hc1_17, if_pos hc1_24, if_neg hc1_25, if_neg hc1_28]), N0, ?_⟩, ⟨_, rfl⟩, hW, hsame.mono (by decide) (by decide)⟩
              exact e0
        · refine own_fw (A := s₁.setTop (mkF m 24 #[.val (.int p0)] [])) (fun t k => ?_) ?_
          · show Steps p.tables e below (s₁.setTop (mkF m 21 #[.val (.int p0)] [(.int (57 : Int32)), (.int p0)])) t
            refine XS.icmpNo X0.here hx rfl (hb hby d1_21) rfl (flt hc1_24).2.2.1 ?_
            exact k
          refine own_fw (A := s₁.setTop (mkF m 25 #[.val (.int p0)] [(.int p0)])) (fun t k => ?_) ?_
          · show Steps p.tables e below (s₁.setTop (mkF m 24 #[.val (.int p0)] [])) t
            refine XS.iloadN X0.here hx rfl (hb hby d1_24) rfl ?_
            exact k
          obtain ⟨fs, hr, hrun, hended, hW, hsame⟩ := X0.leave (v := some (.int (nar .char p0))) (fun h => by rw [Bd.returns] at h; cases h)
          refine ⟨_, _, retN X0 hx (t := .char) Bd.returns (by simp) (hb hby d1_25) hr, hrun, hended, _, _, rfl, ⟨(by rw [tokF, if_neg hc1_1, if_pos hc1_16, if_neg hc1_17, if_neg hc1_24]), N0, ?_⟩, ⟨_, rfl⟩, hW, hsame.mono (by decide) (by decide)⟩
          exact e0
    · refine own_fw (A := s₁.setTop (mkF m 24 #[.val (.int p0)] [])) (fun t k => ?_) ?_
      · show Steps p.tables e below (s₁.setTop (mkF m 9 #[.val (.int p0)] [(.int (122 : Int32)), (.int p0)])) t
        refine XS.icmpYes X0.here hx rfl (pc0 := 9) (pc' := 24) rfl (hb hby d1_9) rfl (flt hc1_16).2.2.2 (by decide) (by decide) ?_
        exact k
      refine own_fw (A := s₁.setTop (mkF m 25 #[.val (.int p0)] [(.int p0)])) (fun t k => ?_) ?_
      · show Steps p.tables e below (s₁.setTop (mkF m 24 #[.val (.int p0)] [])) t
        refine XS.iloadN X0.here hx rfl (hb hby d1_24) rfl ?_
        exact k
      obtain ⟨fs, hr, hrun, hended, hW, hsame⟩ := X0.leave (v := some (.int (nar .char p0))) (fun h => by rw [Bd.returns] at h; cases h)
      refine ⟨_, _, retN X0 hx (t := .char) Bd.returns (by simp) (hb hby d1_25) hr, hrun, hended, _, _, rfl, ⟨(by rw [tokF, if_neg hc1_1, if_neg hc1_16]), N0, ?_⟩, ⟨_, rfl⟩, hW, hsame.mono (by decide) (by decide)⟩
      exact e0
theorem d2_0 : decode method_3_code 0 = .ok (.iload_n 0, 1) := by decide +kernel
theorem d2_1 : decode method_3_code 1 = .ok (.sipush 8490, 3) := by decide +kernel
theorem d2_4 : decode method_3_code 4 = .ok (.if_icmp .ne 6, 3) := by decide +kernel
theorem d2_7 : decode method_3_code 7 = .ok (.bipush 107, 2) := by decide +kernel
theorem d2_9 : decode method_3_code 9 = .ok (.ireturn, 1) := by decide +kernel
theorem d2_10 : decode method_3_code 10 = .ok (.iload_n 0, 1) := by decide +kernel
theorem d2_11 : decode method_3_code 11 = .ok (.sipush 304, 3) := by decide +kernel
theorem d2_14 : decode method_3_code 14 = .ok (.if_icmp .ne 6, 3) := by decide +kernel
theorem d2_17 : decode method_3_code 17 = .ok (.bipush 105, 2) := by decide +kernel
theorem d2_19 : decode method_3_code 19 = .ok (.ireturn, 1) := by decide +kernel
theorem d2_20 : decode method_3_code 20 = .ok (.iload_n 0, 1) := by decide +kernel
theorem d2_21 : decode method_3_code 21 = .ok (.bipush 65, 2) := by decide +kernel
theorem d2_23 : decode method_3_code 23 = .ok (.if_icmp .lt 16, 3) := by decide +kernel
theorem d2_26 : decode method_3_code 26 = .ok (.iload_n 0, 1) := by decide +kernel
theorem d2_27 : decode method_3_code 27 = .ok (.bipush 90, 2) := by decide +kernel
theorem d2_29 : decode method_3_code 29 = .ok (.if_icmp .gt 10, 3) := by decide +kernel
theorem d2_32 : decode method_3_code 32 = .ok (.iload_n 0, 1) := by decide +kernel
theorem d2_33 : decode method_3_code 33 = .ok (.bipush 32, 2) := by decide +kernel
theorem d2_35 : decode method_3_code 35 = .ok (.ior, 1) := by decide +kernel
theorem d2_36 : decode method_3_code 36 = .ok (.goto 4, 3) := by decide +kernel
theorem d2_39 : decode method_3_code 39 = .ok (.iload_n 0, 1) := by decide +kernel
theorem d2_40 : decode method_3_code 40 = .ok (.istore_n 1, 1) := by decide +kernel
theorem d2_41 : decode method_3_code 41 = .ok (.iload_n 1, 1) := by decide +kernel
theorem d2_42 : decode method_3_code 42 = .ok (.bipush 97, 2) := by decide +kernel
theorem d2_44 : decode method_3_code 44 = .ok (.if_icmp .lt 11, 3) := by decide +kernel
theorem d2_47 : decode method_3_code 47 = .ok (.iload_n 1, 1) := by decide +kernel
theorem d2_48 : decode method_3_code 48 = .ok (.bipush 122, 2) := by decide +kernel
theorem d2_50 : decode method_3_code 50 = .ok (.if_icmp .gt 5, 3) := by decide +kernel
theorem d2_53 : decode method_3_code 53 = .ok (.iload_n 1, 1) := by decide +kernel
theorem d2_54 : decode method_3_code 54 = .ok (.ireturn, 1) := by decide +kernel
theorem d2_55 : decode method_3_code 55 = .ok (.iload_n 1, 1) := by decide +kernel
theorem d2_56 : decode method_3_code 56 = .ok (.bipush 48, 2) := by decide +kernel
theorem d2_58 : decode method_3_code 58 = .ok (.if_icmp .lt 11, 3) := by decide +kernel
theorem d2_61 : decode method_3_code 61 = .ok (.iload_n 1, 1) := by decide +kernel
theorem d2_62 : decode method_3_code 62 = .ok (.bipush 57, 2) := by decide +kernel
theorem d2_64 : decode method_3_code 64 = .ok (.if_icmp .gt 5, 3) := by decide +kernel
theorem d2_67 : decode method_3_code 67 = .ok (.iload_n 1, 1) := by decide +kernel
theorem d2_68 : decode method_3_code 68 = .ok (.ireturn, 1) := by decide +kernel
theorem d2_69 : decode method_3_code 69 = .ok (.iconst 0, 1) := by decide +kernel
theorem d2_70 : decode method_3_code 70 = .ok (.ireturn, 1) := by decide +kernel
theorem pn2 : plainName "com/example/coppice/coppice/index/TokenizerTokenCharacterPinLaw" = true := by first | (simp [plainName, overriddenIn]; done) | decide +kernel
theorem ef2 (m : MethodId) (p0 : Int32) : entryFrame m #[(.int p0)] 2 = mkF m 0 #[.val (.int p0), .unset] [] := by first | (simp [entryFrame, mkF, argsToLocals, Value.category]; done) | rfl
def expF (p0 : Int32) : Int32 := (if p0 = (8490 : Int32) then (107 : Int32) else (if p0 = (304 : Int32) then (105 : Int32) else (if p0 < (65 : Int32) then (if p0 < (97 : Int32) then (if p0 < (48 : Int32) then (0 : Int32) else (if (57 : Int32) < p0 then (0 : Int32) else p0)) else (if (122 : Int32) < p0 then (if p0 < (48 : Int32) then (0 : Int32) else (if (57 : Int32) < p0 then (0 : Int32) else p0)) else p0)) else (if (90 : Int32) < p0 then (if p0 < (97 : Int32) then (if p0 < (48 : Int32) then (0 : Int32) else (if (57 : Int32) < p0 then (0 : Int32) else p0)) else (if (122 : Int32) < p0 then (if p0 < (48 : Int32) then (0 : Int32) else (if (57 : Int32) < p0 then (0 : Int32) else p0)) else p0)) else (if (p0 ||| (32 : Int32)) < (97 : Int32) then (if (p0 ||| (32 : Int32)) < (48 : Int32) then (0 : Int32) else (if (57 : Int32) < (p0 ||| (32 : Int32)) then (0 : Int32) else (p0 ||| (32 : Int32)))) else (if (122 : Int32) < (p0 ||| (32 : Int32)) then (if (p0 ||| (32 : Int32)) < (48 : Int32) then (0 : Int32) else (if (57 : Int32) < (p0 ||| (32 : Int32)) then (0 : Int32) else (p0 ||| (32 : Int32)))) else (p0 ||| (32 : Int32))))))))
def Q2 (Z : State) (p0 : Int32) (h0 : Heap) (n0 : Nat) (v : Option Value) (h : Heap) (L : List Loc) : Prop := v = some (.int (expF p0)) ∧ Fr n0 L ∧ h = h0
set_option maxRecDepth 65536 in
set_option maxHeartbeats 40000000 in
theorem rm2 (l : Launch) (Z : State) (a0 : Array Value) (hw : ∀ d ∈ tables_1, d.before a0 Z = true) (ws : List Jvm.Cond) (p0 : Int32) (h0 : Heap) (n0 : Nat) (Z0 : n0 ≤ h0.size) :
    MetFree l (⟨"com/example/coppice/coppice/index/TokenizerTokenCharacterPinLaw", "expected", "(I)I"⟩ : MethodName) (head1 (Jvm.Cond.code (⟨"com/example/coppice/coppice/index/TokenizerTokenCharacterPinLaw", "expected", "(I)I"⟩ : MethodName) method_3_code 2 (some .int) :: ws) ({ frames := 0, cells := 0, slots := 0, locals := 0 } : Room)) (fun a U => a = #[(.int p0)] ∧ Z.Warmed39 U.vm ∧ U.heap = h0) (fun _ _ _ _ _ => True) (fun _ U o U' => ∃ v L, o = .returned v ∧ Q2 Z p0 h0 n0 v U'.heap L ∧ FrameEnd U o U' L ({ frames := 0, cells := 0, slots := 0, locals := 0 } : Room).cells ({ frames := 0, cells := 0, slots := 0, locals := 0 } : Room).slots) := by
  refine MetFree.of_bodySF (plainFor_of_name pn2) hisR ?_
  intro p e s m args below meth c s₁ Bd hml0 hP hK
  obtain ⟨rfl, hZ, hh⟩ := hP
  have hx := Bd.exec
  have hby := Bd.bytes
  have hml : c.maxLocals = 2 := hml0
  have hown : s.vm.findClass "com/example/coppice/coppice/index/TokenizerTokenCharacterPinLaw" = some m.cls := findClass_of_methodNamed Bd.named
  have hnm := (name_of_methodNamed Bd.named Bd.method).1
  have X0 : Stand p l e ({ frames := 0, cells := 0, slots := 0, locals := 0 } : Room) s m #[(.int p0)] below meth c s₁ [] 0 0 := Stand.of_body Bd
  have e0 : s₁.heap = h0 := by rw [← hh, Bd.state]; rfl
  have N0 := Fr.nil n0
  refine own_fw (A := s₁.setTop (mkF m 0 #[.val (.int p0), .unset] [])) (fun t k => castTop (ef2 m p0) k) ?_
  refine own_fw (A := s₁.setTop (mkF m 4 #[.val (.int p0), .unset] [(.int (8490 : Int32)), (.int p0)])) (fun t k => ?_) ?_
  · show Steps p.tables e below (s₁.setTop (mkF m 0 #[.val (.int p0), .unset] [])) t
    refine XS.iloadN X0.here hx rfl (hb hby d2_0) rfl ?_
    show Steps p.tables e below (s₁.setTop (mkF m 1 #[.val (.int p0), .unset] [(.int p0)])) t
    refine XS.sipush X0.here hx rfl (hb hby d2_1) ?_
    exact k
  by_cases hc2_1 : p0 = (8490 : Int32)
  · refine own_fw (A := s₁.setTop (mkF m 7 #[.val (.int p0), .unset] [])) (fun t k => ?_) ?_
    · show Steps p.tables e below (s₁.setTop (mkF m 4 #[.val (.int p0), .unset] [(.int (8490 : Int32)), (.int p0)])) t
      refine XS.icmpNo X0.here hx rfl (hb hby d2_4) rfl (teq hc2_1).2 ?_
      exact k
    refine own_fw (A := s₁.setTop (mkF m 9 #[.val (.int p0), .unset] [(.int (107 : Int32))])) (fun t k => ?_) ?_
    · show Steps p.tables e below (s₁.setTop (mkF m 7 #[.val (.int p0), .unset] [])) t
      refine XS.bipush X0.here hx rfl (hb hby d2_7) ?_
      exact k
    obtain ⟨fs, hr, hrun, hended, hW, hsame⟩ := X0.leave (v := some (.int (107 : Int32))) (fun h => by rw [Bd.returns] at h; cases h)
    refine ⟨_, _, retI X0 hx Bd.returns (hb hby d2_9) hr, hrun, hended, _, _, rfl, ⟨(by rw [expF, if_pos hc2_1]), N0, ?_⟩, ⟨_, rfl⟩, hW, hsame.mono (by decide) (by decide)⟩
    exact e0
  · refine own_fw (A := s₁.setTop (mkF m 10 #[.val (.int p0), .unset] [])) (fun t k => ?_) ?_
    · show Steps p.tables e below (s₁.setTop (mkF m 4 #[.val (.int p0), .unset] [(.int (8490 : Int32)), (.int p0)])) t
      refine XS.icmpYes X0.here hx rfl (pc0 := 4) (pc' := 10) rfl (hb hby d2_4) rfl (feq hc2_1).2 (by decide) (by decide) ?_
      exact k
    refine own_fw (A := s₁.setTop (mkF m 14 #[.val (.int p0), .unset] [(.int (304 : Int32)), (.int p0)])) (fun t k => ?_) ?_
    · show Steps p.tables e below (s₁.setTop (mkF m 10 #[.val (.int p0), .unset] [])) t
      refine XS.iloadN X0.here hx rfl (hb hby d2_10) rfl ?_
      show Steps p.tables e below (s₁.setTop (mkF m 11 #[.val (.int p0), .unset] [(.int p0)])) t
      refine XS.sipush X0.here hx rfl (hb hby d2_11) ?_
      exact k
    by_cases hc2_2 : p0 = (304 : Int32)
    · refine own_fw (A := s₁.setTop (mkF m 17 #[.val (.int p0), .unset] [])) (fun t k => ?_) ?_
      · show Steps p.tables e below (s₁.setTop (mkF m 14 #[.val (.int p0), .unset] [(.int (304 : Int32)), (.int p0)])) t
        refine XS.icmpNo X0.here hx rfl (hb hby d2_14) rfl (teq hc2_2).2 ?_
        exact k
      refine own_fw (A := s₁.setTop (mkF m 19 #[.val (.int p0), .unset] [(.int (105 : Int32))])) (fun t k => ?_) ?_
      · show Steps p.tables e below (s₁.setTop (mkF m 17 #[.val (.int p0), .unset] [])) t
        refine XS.bipush X0.here hx rfl (hb hby d2_17) ?_
        exact k
      obtain ⟨fs, hr, hrun, hended, hW, hsame⟩ := X0.leave (v := some (.int (105 : Int32))) (fun h => by rw [Bd.returns] at h; cases h)
      refine ⟨_, _, retI X0 hx Bd.returns (hb hby d2_19) hr, hrun, hended, _, _, rfl, ⟨(by rw [expF, if_neg hc2_1, if_pos hc2_2]), N0, ?_⟩, ⟨_, rfl⟩, hW, hsame.mono (by decide) (by decide)⟩
      exact e0
    · refine own_fw (A := s₁.setTop (mkF m 20 #[.val (.int p0), .unset] [])) (fun t k => ?_) ?_
      · show Steps p.tables e below (s₁.setTop (mkF m 14 #[.val (.int p0), .unset] [(.int (304 : Int32)), (.int p0)])) t
        refine XS.icmpYes X0.here hx rfl (pc0 := 14) (pc' := 20) rfl (hb hby d2_14) rfl (feq hc2_2).2 (by decide) (by decide) ?_
        exact k
      refine own_fw (A := s₁.setTop (mkF m 23 #[.val (.int p0), .unset] [(.int (65 : Int32)), (.int p0)])) (fun t k => ?_) ?_
      · show Steps p.tables e below (s₁.setTop (mkF m 20 #[.val (.int p0), .unset] [])) t
        refine XS.iloadN X0.here hx rfl (hb hby d2_20) rfl ?_
        show Steps p.tables e below (s₁.setTop (mkF m 21 #[.val (.int p0), .unset] [(.int p0)])) t
        refine XS.bipush X0.here hx rfl (hb hby d2_21) ?_
        exact k
      by_cases hc2_3 : p0 < (65 : Int32)
      · refine own_fw (A := s₁.setTop (mkF m 39 #[.val (.int p0), .unset] [])) (fun t k => ?_) ?_
        · show Steps p.tables e below (s₁.setTop (mkF m 23 #[.val (.int p0), .unset] [(.int (65 : Int32)), (.int p0)])) t
          refine XS.icmpYes X0.here hx rfl (pc0 := 23) (pc' := 39) rfl (hb hby d2_23) rfl (tlt hc2_3).1 (by decide) (by decide) ?_
          exact k
        refine own_fw (A := s₁.setTop (mkF m 44 #[.val (.int p0), .val (.int p0)] [(.int (97 : Int32)), (.int p0)])) (fun t k => ?_) ?_
        · show Steps p.tables e below (s₁.setTop (mkF m 39 #[.val (.int p0), .unset] [])) t
          refine XS.iloadN X0.here hx rfl (hb hby d2_39) rfl ?_
          show Steps p.tables e below (s₁.setTop (mkF m 40 #[.val (.int p0), .unset] [(.int p0)])) t
          refine XS.istoreN X0.here hx rfl (hb hby d2_40) rfl (l' := #[.val (.int p0), .val (.int p0)]) rfl ?_
          show Steps p.tables e below (s₁.setTop (mkF m 41 #[.val (.int p0), .val (.int p0)] [])) t
          refine XS.iloadN X0.here hx rfl (hb hby d2_41) rfl ?_
          show Steps p.tables e below (s₁.setTop (mkF m 42 #[.val (.int p0), .val (.int p0)] [(.int p0)])) t
          refine XS.bipush X0.here hx rfl (hb hby d2_42) ?_
          exact k
        by_cases hc2_4 : p0 < (97 : Int32)
        · refine own_fw (A := s₁.setTop (mkF m 55 #[.val (.int p0), .val (.int p0)] [])) (fun t k => ?_) ?_
          · show Steps p.tables e below (s₁.setTop (mkF m 44 #[.val (.int p0), .val (.int p0)] [(.int (97 : Int32)), (.int p0)])) t
            refine XS.icmpYes X0.here hx rfl (pc0 := 44) (pc' := 55) rfl (hb hby d2_44) rfl (tlt hc2_4).1 (by decide) (by decide) ?_
            exact k
          refine own_fw (A := s₁.setTop (mkF m 58 #[.val (.int p0), .val (.int p0)] [(.int (48 : Int32)), (.int p0)])) (fun t k => ?_) ?_
          · show Steps p.tables e below (s₁.setTop (mkF m 55 #[.val (.int p0), .val (.int p0)] [])) t
            refine XS.iloadN X0.here hx rfl (hb hby d2_55) rfl ?_
            show Steps p.tables e below (s₁.setTop (mkF m 56 #[.val (.int p0), .val (.int p0)] [(.int p0)])) t
            refine XS.bipush X0.here hx rfl (hb hby d2_56) ?_
            exact k
          by_cases hc2_5 : p0 < (48 : Int32)
          · refine own_fw (A := s₁.setTop (mkF m 69 #[.val (.int p0), .val (.int p0)] [])) (fun t k => ?_) ?_
            · show Steps p.tables e below (s₁.setTop (mkF m 58 #[.val (.int p0), .val (.int p0)] [(.int (48 : Int32)), (.int p0)])) t
              refine XS.icmpYes X0.here hx rfl (pc0 := 58) (pc' := 69) rfl (hb hby d2_58) rfl (tlt hc2_5).1 (by decide) (by decide) ?_
              exact k
            refine own_fw (A := s₁.setTop (mkF m 70 #[.val (.int p0), .val (.int p0)] [(.int (0 : Int32))])) (fun t k => ?_) ?_
            · show Steps p.tables e below (s₁.setTop (mkF m 69 #[.val (.int p0), .val (.int p0)] [])) t
              refine XS.iconst X0.here hx rfl (hb hby d2_69) ?_
              exact k
            obtain ⟨fs, hr, hrun, hended, hW, hsame⟩ := X0.leave (v := some (.int (0 : Int32))) (fun h => by rw [Bd.returns] at h; cases h)
            refine ⟨_, _, retI X0 hx Bd.returns (hb hby d2_70) hr, hrun, hended, _, _, rfl, ⟨(by rw [expF, if_neg hc2_1, if_neg hc2_2, if_pos hc2_3, if_pos hc2_4, if_pos hc2_5]), N0, ?_⟩, ⟨_, rfl⟩, hW, hsame.mono (by decide) (by decide)⟩
            exact e0
          · refine own_fw (A := s₁.setTop (mkF m 61 #[.val (.int p0), .val (.int p0)] [])) (fun t k => ?_) ?_
            · show Steps p.tables e below (s₁.setTop (mkF m 58 #[.val (.int p0), .val (.int p0)] [(.int (48 : Int32)), (.int p0)])) t
              refine XS.icmpNo X0.here hx rfl (hb hby d2_58) rfl (flt hc2_5).1 ?_
              exact k
            refine own_fw (A := s₁.setTop (mkF m 64 #[.val (.int p0), .val (.int p0)] [(.int (57 : Int32)), (.int p0)])) (fun t k => ?_) ?_
            · show Steps p.tables e below (s₁.setTop (mkF m 61 #[.val (.int p0), .val (.int p0)] [])) t
              refine XS.iloadN X0.here hx rfl (hb hby d2_61) rfl ?_
              show Steps p.tables e below (s₁.setTop (mkF m 62 #[.val (.int p0), .val (.int p0)] [(.int p0)])) t
              refine XS.bipush X0.here hx rfl (hb hby d2_62) ?_
              exact k
            by_cases hc2_6 : (57 : Int32) < p0
            · refine own_fw (A := s₁.setTop (mkF m 69 #[.val (.int p0), .val (.int p0)] [])) (fun t k => ?_) ?_
              · show Steps p.tables e below (s₁.setTop (mkF m 64 #[.val (.int p0), .val (.int p0)] [(.int (57 : Int32)), (.int p0)])) t
                refine XS.icmpYes X0.here hx rfl (pc0 := 64) (pc' := 69) rfl (hb hby d2_64) rfl (tlt hc2_6).2.2.1 (by decide) (by decide) ?_
                exact k
              refine own_fw (A := s₁.setTop (mkF m 70 #[.val (.int p0), .val (.int p0)] [(.int (0 : Int32))])) (fun t k => ?_) ?_
              · show Steps p.tables e below (s₁.setTop (mkF m 69 #[.val (.int p0), .val (.int p0)] [])) t
                refine XS.iconst X0.here hx rfl (hb hby d2_69) ?_
                exact k
              obtain ⟨fs, hr, hrun, hended, hW, hsame⟩ := X0.leave (v := some (.int (0 : Int32))) (fun h => by rw [Bd.returns] at h; cases h)
              refine ⟨_, _, retI X0 hx Bd.returns (hb hby d2_70) hr, hrun, hended, _, _, rfl, ⟨(by rw [expF, if_neg hc2_1, if_neg hc2_2, if_pos hc2_3, if_pos hc2_4, if_neg hc2_5, if_pos hc2_6]), N0, ?_⟩, ⟨_, rfl⟩, hW, hsame.mono (by decide) (by decide)⟩
              exact e0
            · refine own_fw (A := s₁.setTop (mkF m 67 #[.val (.int p0), .val (.int p0)] [])) (fun t k => ?_) ?_
              · show Steps p.tables e below (s₁.setTop (mkF m 64 #[.val (.int p0), .val (.int p0)] [(.int (57 : Int32)), (.int p0)])) t
                refine XS.icmpNo X0.here hx rfl (hb hby d2_64) rfl (flt hc2_6).2.2.1 ?_
                exact k
              refine own_fw (A := s₁.setTop (mkF m 68 #[.val (.int p0), .val (.int p0)] [(.int p0)])) (fun t k => ?_) ?_
              · show Steps p.tables e below (s₁.setTop (mkF m 67 #[.val (.int p0), .val (.int p0)] [])) t
                refine XS.iloadN X0.here hx rfl (hb hby d2_67) rfl ?_
                exact k
              obtain ⟨fs, hr, hrun, hended, hW, hsame⟩ := X0.leave (v := some (.int p0)) (fun h => by rw [Bd.returns] at h; cases h)
              refine ⟨_, _, retI X0 hx Bd.returns (hb hby d2_68) hr, hrun, hended, _, _, rfl, ⟨(by rw [expF, if_neg hc2_1, if_neg hc2_2, if_pos hc2_3, if_pos hc2_4, if_neg hc2_5, if_neg hc2_6]), N0, ?_⟩, ⟨_, rfl⟩, hW, hsame.mono (by decide) (by decide)⟩
              exact e0
        · refine own_fw (A := s₁.setTop (mkF m 47 #[.val (.int p0), .val (.int p0)] [])) (fun t k => ?_) ?_
          · show Steps p.tables e below (s₁.setTop (mkF m 44 #[.val (.int p0), .val (.int p0)] [(.int (97 : Int32)), (.int p0)])) t
            refine XS.icmpNo X0.here hx rfl (hb hby d2_44) rfl (flt hc2_4).1 ?_
            exact k
          refine own_fw (A := s₁.setTop (mkF m 50 #[.val (.int p0), .val (.int p0)] [(.int (122 : Int32)), (.int p0)])) (fun t k => ?_) ?_
          · show Steps p.tables e below (s₁.setTop (mkF m 47 #[.val (.int p0), .val (.int p0)] [])) t
            refine XS.iloadN X0.here hx rfl (hb hby d2_47) rfl ?_
            show Steps p.tables e below (s₁.setTop (mkF m 48 #[.val (.int p0), .val (.int p0)] [(.int p0)])) t
            refine XS.bipush X0.here hx rfl (hb hby d2_48) ?_
            exact k
          by_cases hc2_7 : (122 : Int32) < p0
          · refine own_fw (A := s₁.setTop (mkF m 55 #[.val (.int p0), .val (.int p0)] [])) (fun t k => ?_) ?_
            · show Steps p.tables e below (s₁.setTop (mkF m 50 #[.val (.int p0), .val (.int p0)] [(.int (122 : Int32)), (.int p0)])) t
              refine XS.icmpYes X0.here hx rfl (pc0 := 50) (pc' := 55) rfl (hb hby d2_50) rfl (tlt hc2_7).2.2.1 (by decide) (by decide) ?_
              exact k
            refine own_fw (A := s₁.setTop (mkF m 58 #[.val (.int p0), .val (.int p0)] [(.int (48 : Int32)), (.int p0)])) (fun t k => ?_) ?_
            · show Steps p.tables e below (s₁.setTop (mkF m 55 #[.val (.int p0), .val (.int p0)] [])) t
              refine XS.iloadN X0.here hx rfl (hb hby d2_55) rfl ?_
              show Steps p.tables e below (s₁.setTop (mkF m 56 #[.val (.int p0), .val (.int p0)] [(.int p0)])) t
              refine XS.bipush X0.here hx rfl (hb hby d2_56) ?_
              exact k
            by_cases hc2_8 : p0 < (48 : Int32)
            · refine own_fw (A := s₁.setTop (mkF m 69 #[.val (.int p0), .val (.int p0)] [])) (fun t k => ?_) ?_
              · show Steps p.tables e below (s₁.setTop (mkF m 58 #[.val (.int p0), .val (.int p0)] [(.int (48 : Int32)), (.int p0)])) t
                refine XS.icmpYes X0.here hx rfl (pc0 := 58) (pc' := 69) rfl (hb hby d2_58) rfl (tlt hc2_8).1 (by decide) (by decide) ?_
                exact k
              refine own_fw (A := s₁.setTop (mkF m 70 #[.val (.int p0), .val (.int p0)] [(.int (0 : Int32))])) (fun t k => ?_) ?_
              · show Steps p.tables e below (s₁.setTop (mkF m 69 #[.val (.int p0), .val (.int p0)] [])) t
                refine XS.iconst X0.here hx rfl (hb hby d2_69) ?_
                exact k
              obtain ⟨fs, hr, hrun, hended, hW, hsame⟩ := X0.leave (v := some (.int (0 : Int32))) (fun h => by rw [Bd.returns] at h; cases h)
              refine ⟨_, _, retI X0 hx Bd.returns (hb hby d2_70) hr, hrun, hended, _, _, rfl, ⟨(by rw [expF, if_neg hc2_1, if_neg hc2_2, if_pos hc2_3, if_neg hc2_4, if_pos hc2_7, if_pos hc2_8]), N0, ?_⟩, ⟨_, rfl⟩, hW, hsame.mono (by decide) (by decide)⟩
              exact e0
            · refine own_fw (A := s₁.setTop (mkF m 61 #[.val (.int p0), .val (.int p0)] [])) (fun t k => ?_) ?_
              · show Steps p.tables e below (s₁.setTop (mkF m 58 #[.val (.int p0), .val (.int p0)] [(.int (48 : Int32)), (.int p0)])) t
                refine XS.icmpNo X0.here hx rfl (hb hby d2_58) rfl (flt hc2_8).1 ?_
                exact k
              refine own_fw (A := s₁.setTop (mkF m 64 #[.val (.int p0), .val (.int p0)] [(.int (57 : Int32)), (.int p0)])) (fun t k => ?_) ?_
              · show Steps p.tables e below (s₁.setTop (mkF m 61 #[.val (.int p0), .val (.int p0)] [])) t
                refine XS.iloadN X0.here hx rfl (hb hby d2_61) rfl ?_
                show Steps p.tables e below (s₁.setTop (mkF m 62 #[.val (.int p0), .val (.int p0)] [(.int p0)])) t
                refine XS.bipush X0.here hx rfl (hb hby d2_62) ?_
                exact k
              by_cases hc2_9 : (57 : Int32) < p0
              · refine own_fw (A := s₁.setTop (mkF m 69 #[.val (.int p0), .val (.int p0)] [])) (fun t k => ?_) ?_
                · show Steps p.tables e below (s₁.setTop (mkF m 64 #[.val (.int p0), .val (.int p0)] [(.int (57 : Int32)), (.int p0)])) t
                  refine XS.icmpYes X0.here hx rfl (pc0 := 64) (pc' := 69) rfl (hb hby d2_64) rfl (tlt hc2_9).2.2.1 (by decide) (by decide) ?_
                  exact k
                refine own_fw (A := s₁.setTop (mkF m 70 #[.val (.int p0), .val (.int p0)] [(.int (0 : Int32))])) (fun t k => ?_) ?_
                · show Steps p.tables e below (s₁.setTop (mkF m 69 #[.val (.int p0), .val (.int p0)] [])) t
                  refine XS.iconst X0.here hx rfl (hb hby d2_69) ?_
                  exact k
                obtain ⟨fs, hr, hrun, hended, hW, hsame⟩ := X0.leave (v := some (.int (0 : Int32))) (fun h => by rw [Bd.returns] at h; cases h)
                refine ⟨_, _, retI X0 hx Bd.returns (hb hby d2_70) hr, hrun, hended, _, _, rfl, ⟨(by rw [expF, if_neg hc2_1, if_neg hc2_2, if_pos hc2_3, if_neg hc2_4, if_pos hc2_7, if_neg hc2_8, if_pos hc2_9]), N0, ?_⟩, ⟨_, rfl⟩, hW, hsame.mono (by decide) (by decide)⟩
                exact e0
              · refine own_fw (A := s₁.setTop (mkF m 67 #[.val (.int p0), .val (.int p0)] [])) (fun t k => ?_) ?_
                · show Steps p.tables e below (s₁.setTop (mkF m 64 #[.val (.int p0), .val (.int p0)] [(.int (57 : Int32)), (.int p0)])) t
                  refine XS.icmpNo X0.here hx rfl (hb hby d2_64) rfl (flt hc2_9).2.2.1 ?_
                  exact k
                refine own_fw (A := s₁.setTop (mkF m 68 #[.val (.int p0), .val (.int p0)] [(.int p0)])) (fun t k => ?_) ?_
                · show Steps p.tables e below (s₁.setTop (mkF m 67 #[.val (.int p0), .val (.int p0)] [])) t
                  refine XS.iloadN X0.here hx rfl (hb hby d2_67) rfl ?_
                  exact k
                obtain ⟨fs, hr, hrun, hended, hW, hsame⟩ := X0.leave (v := some (.int p0)) (fun h => by rw [Bd.returns] at h; cases h)
                refine ⟨_, _, retI X0 hx Bd.returns (hb hby d2_68) hr, hrun, hended, _, _, rfl, ⟨(by rw [expF, if_neg hc2_1, if_neg hc2_2, if_pos hc2_3, if_neg hc2_4, if_pos hc2_7, if_neg hc2_8, if_neg hc2_9]), N0, ?_⟩, ⟨_, rfl⟩, hW, hsame.mono (by decide) (by decide)⟩
                exact e0
          · refine own_fw (A := s₁.setTop (mkF m 53 #[.val (.int p0), .val (.int p0)] [])) (fun t k => ?_) ?_
            · show Steps p.tables e below (s₁.setTop (mkF m 50 #[.val (.int p0), .val (.int p0)] [(.int (122 : Int32)), (.int p0)])) t
              refine XS.icmpNo X0.here hx rfl (hb hby d2_50) rfl (flt hc2_7).2.2.1 ?_
              exact k
            refine own_fw (A := s₁.setTop (mkF m 54 #[.val (.int p0), .val (.int p0)] [(.int p0)])) (fun t k => ?_) ?_
            · show Steps p.tables e below (s₁.setTop (mkF m 53 #[.val (.int p0), .val (.int p0)] [])) t
              refine XS.iloadN X0.here hx rfl (hb hby d2_53) rfl ?_
              exact k
            obtain ⟨fs, hr, hrun, hended, hW, hsame⟩ := X0.leave (v := some (.int p0)) (fun h => by rw [Bd.returns] at h; cases h)
            refine ⟨_, _, retI X0 hx Bd.returns (hb hby d2_54) hr, hrun, hended, _, _, rfl, ⟨(by rw [expF, if_neg hc2_1, if_neg hc2_2, if_pos hc2_3, if_neg hc2_4, if_neg hc2_7]), N0, ?_⟩, ⟨_, rfl⟩, hW, hsame.mono (by decide) (by decide)⟩
            exact e0
      · refine own_fw (A := s₁.setTop (mkF m 26 #[.val (.int p0), .unset] [])) (fun t k => ?_) ?_
        · show Steps p.tables e below (s₁.setTop (mkF m 23 #[.val (.int p0), .unset] [(.int (65 : Int32)), (.int p0)])) t
          refine XS.icmpNo X0.here hx rfl (hb hby d2_23) rfl (flt hc2_3).1 ?_
          exact k
        refine own_fw (A := s₁.setTop (mkF m 29 #[.val (.int p0), .unset] [(.int (90 : Int32)), (.int p0)])) (fun t k => ?_) ?_
        · show Steps p.tables e below (s₁.setTop (mkF m 26 #[.val (.int p0), .unset] [])) t
          refine XS.iloadN X0.here hx rfl (hb hby d2_26) rfl ?_
          show Steps p.tables e below (s₁.setTop (mkF m 27 #[.val (.int p0), .unset] [(.int p0)])) t
          refine XS.bipush X0.here hx rfl (hb hby d2_27) ?_
          exact k
        by_cases hc2_10 : (90 : Int32) < p0
        · refine own_fw (A := s₁.setTop (mkF m 39 #[.val (.int p0), .unset] [])) (fun t k => ?_) ?_
          · show Steps p.tables e below (s₁.setTop (mkF m 29 #[.val (.int p0), .unset] [(.int (90 : Int32)), (.int p0)])) t
            refine XS.icmpYes X0.here hx rfl (pc0 := 29) (pc' := 39) rfl (hb hby d2_29) rfl (tlt hc2_10).2.2.1 (by decide) (by decide) ?_
            exact k
          refine own_fw (A := s₁.setTop (mkF m 44 #[.val (.int p0), .val (.int p0)] [(.int (97 : Int32)), (.int p0)])) (fun t k => ?_) ?_
          · show Steps p.tables e below (s₁.setTop (mkF m 39 #[.val (.int p0), .unset] [])) t
            refine XS.iloadN X0.here hx rfl (hb hby d2_39) rfl ?_
            show Steps p.tables e below (s₁.setTop (mkF m 40 #[.val (.int p0), .unset] [(.int p0)])) t
            refine XS.istoreN X0.here hx rfl (hb hby d2_40) rfl (l' := #[.val (.int p0), .val (.int p0)]) rfl ?_
            show Steps p.tables e below (s₁.setTop (mkF m 41 #[.val (.int p0), .val (.int p0)] [])) t
            refine XS.iloadN X0.here hx rfl (hb hby d2_41) rfl ?_
            show Steps p.tables e below (s₁.setTop (mkF m 42 #[.val (.int p0), .val (.int p0)] [(.int p0)])) t
            refine XS.bipush X0.here hx rfl (hb hby d2_42) ?_
            exact k
          by_cases hc2_11 : p0 < (97 : Int32)
          · refine own_fw (A := s₁.setTop (mkF m 55 #[.val (.int p0), .val (.int p0)] [])) (fun t k => ?_) ?_
            · show Steps p.tables e below (s₁.setTop (mkF m 44 #[.val (.int p0), .val (.int p0)] [(.int (97 : Int32)), (.int p0)])) t
              refine XS.icmpYes X0.here hx rfl (pc0 := 44) (pc' := 55) rfl (hb hby d2_44) rfl (tlt hc2_11).1 (by decide) (by decide) ?_
              exact k
            refine own_fw (A := s₁.setTop (mkF m 58 #[.val (.int p0), .val (.int p0)] [(.int (48 : Int32)), (.int p0)])) (fun t k => ?_) ?_
            · show Steps p.tables e below (s₁.setTop (mkF m 55 #[.val (.int p0), .val (.int p0)] [])) t
              refine XS.iloadN X0.here hx rfl (hb hby d2_55) rfl ?_
              show Steps p.tables e below (s₁.setTop (mkF m 56 #[.val (.int p0), .val (.int p0)] [(.int p0)])) t
              refine XS.bipush X0.here hx rfl (hb hby d2_56) ?_
              exact k
            by_cases hc2_12 : p0 < (48 : Int32)
            · refine own_fw (A := s₁.setTop (mkF m 69 #[.val (.int p0), .val (.int p0)] [])) (fun t k => ?_) ?_
              · show Steps p.tables e below (s₁.setTop (mkF m 58 #[.val (.int p0), .val (.int p0)] [(.int (48 : Int32)), (.int p0)])) t
                refine XS.icmpYes X0.here hx rfl (pc0 := 58) (pc' := 69) rfl (hb hby d2_58) rfl (tlt hc2_12).1 (by decide) (by decide) ?_
                exact k
              refine own_fw (A := s₁.setTop (mkF m 70 #[.val (.int p0), .val (.int p0)] [(.int (0 : Int32))])) (fun t k => ?_) ?_
              · show Steps p.tables e below (s₁.setTop (mkF m 69 #[.val (.int p0), .val (.int p0)] [])) t
                refine XS.iconst X0.here hx rfl (hb hby d2_69) ?_
                exact k
              obtain ⟨fs, hr, hrun, hended, hW, hsame⟩ := X0.leave (v := some (.int (0 : Int32))) (fun h => by rw [Bd.returns] at h; cases h)
              refine ⟨_, _, retI X0 hx Bd.returns (hb hby d2_70) hr, hrun, hended, _, _, rfl, ⟨(by rw [expF, if_neg hc2_1, if_neg hc2_2, if_neg hc2_3, if_pos hc2_10, if_pos hc2_11, if_pos hc2_12]), N0, ?_⟩, ⟨_, rfl⟩, hW, hsame.mono (by decide) (by decide)⟩
              exact e0
            · refine own_fw (A := s₁.setTop (mkF m 61 #[.val (.int p0), .val (.int p0)] [])) (fun t k => ?_) ?_
              · show Steps p.tables e below (s₁.setTop (mkF m 58 #[.val (.int p0), .val (.int p0)] [(.int (48 : Int32)), (.int p0)])) t
                refine XS.icmpNo X0.here hx rfl (hb hby d2_58) rfl (flt hc2_12).1 ?_
                exact k
              refine own_fw (A := s₁.setTop (mkF m 64 #[.val (.int p0), .val (.int p0)] [(.int (57 : Int32)), (.int p0)])) (fun t k => ?_) ?_
              · show Steps p.tables e below (s₁.setTop (mkF m 61 #[.val (.int p0), .val (.int p0)] [])) t
                refine XS.iloadN X0.here hx rfl (hb hby d2_61) rfl ?_
                show Steps p.tables e below (s₁.setTop (mkF m 62 #[.val (.int p0), .val (.int p0)] [(.int p0)])) t
                refine XS.bipush X0.here hx rfl (hb hby d2_62) ?_
                exact k
              by_cases hc2_13 : (57 : Int32) < p0
              · refine own_fw (A := s₁.setTop (mkF m 69 #[.val (.int p0), .val (.int p0)] [])) (fun t k => ?_) ?_
                · show Steps p.tables e below (s₁.setTop (mkF m 64 #[.val (.int p0), .val (.int p0)] [(.int (57 : Int32)), (.int p0)])) t
                  refine XS.icmpYes X0.here hx rfl (pc0 := 64) (pc' := 69) rfl (hb hby d2_64) rfl (tlt hc2_13).2.2.1 (by decide) (by decide) ?_
                  exact k
                refine own_fw (A := s₁.setTop (mkF m 70 #[.val (.int p0), .val (.int p0)] [(.int (0 : Int32))])) (fun t k => ?_) ?_
                · show Steps p.tables e below (s₁.setTop (mkF m 69 #[.val (.int p0), .val (.int p0)] [])) t
                  refine XS.iconst X0.here hx rfl (hb hby d2_69) ?_
                  exact k
                obtain ⟨fs, hr, hrun, hended, hW, hsame⟩ := X0.leave (v := some (.int (0 : Int32))) (fun h => by rw [Bd.returns] at h; cases h)
                refine ⟨_, _, retI X0 hx Bd.returns (hb hby d2_70) hr, hrun, hended, _, _, rfl, ⟨(by rw [expF, if_neg hc2_1, if_neg hc2_2, if_neg hc2_3, if_pos hc2_10, if_pos hc2_11, if_neg hc2_12, if_pos hc2_13]), N0, ?_⟩, ⟨_, rfl⟩, hW, hsame.mono (by decide) (by decide)⟩
                exact e0
              · refine own_fw (A := s₁.setTop (mkF m 67 #[.val (.int p0), .val (.int p0)] [])) (fun t k => ?_) ?_
                · show Steps p.tables e below (s₁.setTop (mkF m 64 #[.val (.int p0), .val (.int p0)] [(.int (57 : Int32)), (.int p0)])) t
                  refine XS.icmpNo X0.here hx rfl (hb hby d2_64) rfl (flt hc2_13).2.2.1 ?_
                  exact k
                refine own_fw (A := s₁.setTop (mkF m 68 #[.val (.int p0), .val (.int p0)] [(.int p0)])) (fun t k => ?_) ?_
                · show Steps p.tables e below (s₁.setTop (mkF m 67 #[.val (.int p0), .val (.int p0)] [])) t
                  refine XS.iloadN X0.here hx rfl (hb hby d2_67) rfl ?_
                  exact k
                obtain ⟨fs, hr, hrun, hended, hW, hsame⟩ := X0.leave (v := some (.int p0)) (fun h => by rw [Bd.returns] at h; cases h)
                refine ⟨_, _, retI X0 hx Bd.returns (hb hby d2_68) hr, hrun, hended, _, _, rfl, ⟨(by rw [expF, if_neg hc2_1, if_neg hc2_2, if_neg hc2_3, if_pos hc2_10, if_pos hc2_11, if_neg hc2_12, if_neg hc2_13]), N0, ?_⟩, ⟨_, rfl⟩, hW, hsame.mono (by decide) (by decide)⟩
                exact e0
          · refine own_fw (A := s₁.setTop (mkF m 47 #[.val (.int p0), .val (.int p0)] [])) (fun t k => ?_) ?_
            · show Steps p.tables e below (s₁.setTop (mkF m 44 #[.val (.int p0), .val (.int p0)] [(.int (97 : Int32)), (.int p0)])) t
              refine XS.icmpNo X0.here hx rfl (hb hby d2_44) rfl (flt hc2_11).1 ?_
              exact k
            refine own_fw (A := s₁.setTop (mkF m 50 #[.val (.int p0), .val (.int p0)] [(.int (122 : Int32)), (.int p0)])) (fun t k => ?_) ?_
            · show Steps p.tables e below (s₁.setTop (mkF m 47 #[.val (.int p0), .val (.int p0)] [])) t
              refine XS.iloadN X0.here hx rfl (hb hby d2_47) rfl ?_
              show Steps p.tables e below (s₁.setTop (mkF m 48 #[.val (.int p0), .val (.int p0)] [(.int p0)])) t
              refine XS.bipush X0.here hx rfl (hb hby d2_48) ?_
              exact k
            by_cases hc2_14 : (122 : Int32) < p0
            · refine own_fw (A := s₁.setTop (mkF m 55 #[.val (.int p0), .val (.int p0)] [])) (fun t k => ?_) ?_
              · show Steps p.tables e below (s₁.setTop (mkF m 50 #[.val (.int p0), .val (.int p0)] [(.int (122 : Int32)), (.int p0)])) t
                refine XS.icmpYes X0.here hx rfl (pc0 := 50) (pc' := 55) rfl (hb hby d2_50) rfl (tlt hc2_14).2.2.1 (by decide) (by decide) ?_
                exact k
              refine own_fw (A := s₁.setTop (mkF m 58 #[.val (.int p0), .val (.int p0)] [(.int (48 : Int32)), (.int p0)])) (fun t k => ?_) ?_
              · show Steps p.tables e below (s₁.setTop (mkF m 55 #[.val (.int p0), .val (.int p0)] [])) t
                refine XS.iloadN X0.here hx rfl (hb hby d2_55) rfl ?_
                show Steps p.tables e below (s₁.setTop (mkF m 56 #[.val (.int p0), .val (.int p0)] [(.int p0)])) t
                refine XS.bipush X0.here hx rfl (hb hby d2_56) ?_
                exact k
              by_cases hc2_15 : p0 < (48 : Int32)
              · refine own_fw (A := s₁.setTop (mkF m 69 #[.val (.int p0), .val (.int p0)] [])) (fun t k => ?_) ?_
                · show Steps p.tables e below (s₁.setTop (mkF m 58 #[.val (.int p0), .val (.int p0)] [(.int (48 : Int32)), (.int p0)])) t
                  refine XS.icmpYes X0.here hx rfl (pc0 := 58) (pc' := 69) rfl (hb hby d2_58) rfl (tlt hc2_15).1 (by decide) (by decide) ?_
                  exact k
                refine own_fw (A := s₁.setTop (mkF m 70 #[.val (.int p0), .val (.int p0)] [(.int (0 : Int32))])) (fun t k => ?_) ?_
                · show Steps p.tables e below (s₁.setTop (mkF m 69 #[.val (.int p0), .val (.int p0)] [])) t
                  refine XS.iconst X0.here hx rfl (hb hby d2_69) ?_
                  exact k
                obtain ⟨fs, hr, hrun, hended, hW, hsame⟩ := X0.leave (v := some (.int (0 : Int32))) (fun h => by rw [Bd.returns] at h; cases h)
                refine ⟨_, _, retI X0 hx Bd.returns (hb hby d2_70) hr, hrun, hended, _, _, rfl, ⟨(by rw [expF, if_neg hc2_1, if_neg hc2_2, if_neg hc2_3, if_pos hc2_10, if_neg hc2_11, if_pos hc2_14, if_pos hc2_15]), N0, ?_⟩, ⟨_, rfl⟩, hW, hsame.mono (by decide) (by decide)⟩
                exact e0
              · refine own_fw (A := s₁.setTop (mkF m 61 #[.val (.int p0), .val (.int p0)] [])) (fun t k => ?_) ?_
                · show Steps p.tables e below (s₁.setTop (mkF m 58 #[.val (.int p0), .val (.int p0)] [(.int (48 : Int32)), (.int p0)])) t
                  refine XS.icmpNo X0.here hx rfl (hb hby d2_58) rfl (flt hc2_15).1 ?_
                  exact k
                refine own_fw (A := s₁.setTop (mkF m 64 #[.val (.int p0), .val (.int p0)] [(.int (57 : Int32)), (.int p0)])) (fun t k => ?_) ?_
                · show Steps p.tables e below (s₁.setTop (mkF m 61 #[.val (.int p0), .val (.int p0)] [])) t
                  refine XS.iloadN X0.here hx rfl (hb hby d2_61) rfl ?_
                  show Steps p.tables e below (s₁.setTop (mkF m 62 #[.val (.int p0), .val (.int p0)] [(.int p0)])) t
                  refine XS.bipush X0.here hx rfl (hb hby d2_62) ?_
                  exact k
                by_cases hc2_16 : (57 : Int32) < p0
                · refine own_fw (A := s₁.setTop (mkF m 69 #[.val (.int p0), .val (.int p0)] [])) (fun t k => ?_) ?_
                  · show Steps p.tables e below (s₁.setTop (mkF m 64 #[.val (.int p0), .val (.int p0)] [(.int (57 : Int32)), (.int p0)])) t
                    refine XS.icmpYes X0.here hx rfl (pc0 := 64) (pc' := 69) rfl (hb hby d2_64) rfl (tlt hc2_16).2.2.1 (by decide) (by decide) ?_
                    exact k
                  refine own_fw (A := s₁.setTop (mkF m 70 #[.val (.int p0), .val (.int p0)] [(.int (0 : Int32))])) (fun t k => ?_) ?_
                  · show Steps p.tables e below (s₁.setTop (mkF m 69 #[.val (.int p0), .val (.int p0)] [])) t
                    refine XS.iconst X0.here hx rfl (hb hby d2_69) ?_
                    exact k
                  obtain ⟨fs, hr, hrun, hended, hW, hsame⟩ := X0.leave (v := some (.int (0 : Int32))) (fun h => by rw [Bd.returns] at h; cases h)
                  refine ⟨_, _, retI X0 hx Bd.returns (hb hby d2_70) hr, hrun, hended, _, _, rfl, ⟨(by rw [expF, if_neg hc2_1, if_neg hc2_2, if_neg hc2_3, if_pos hc2_10, if_neg hc2_11, if_pos hc2_14, if_neg hc2_15, if_pos hc2_16]), N0, ?_⟩, ⟨_, rfl⟩, hW, hsame.mono (by decide) (by decide)⟩
                  exact e0
                · refine own_fw (A := s₁.setTop (mkF m 67 #[.val (.int p0), .val (.int p0)] [])) (fun t k => ?_) ?_
                  · show Steps p.tables e below (s₁.setTop (mkF m 64 #[.val (.int p0), .val (.int p0)] [(.int (57 : Int32)), (.int p0)])) t
                    refine XS.icmpNo X0.here hx rfl (hb hby d2_64) rfl (flt hc2_16).2.2.1 ?_
                    exact k
                  refine own_fw (A := s₁.setTop (mkF m 68 #[.val (.int p0), .val (.int p0)] [(.int p0)])) (fun t k => ?_) ?_
                  · show Steps p.tables e below (s₁.setTop (mkF m 67 #[.val (.int p0), .val (.int p0)] [])) t
                    refine XS.iloadN X0.here hx rfl (hb hby d2_67) rfl ?_
                    exact k
                  obtain ⟨fs, hr, hrun, hended, hW, hsame⟩ := X0.leave (v := some (.int p0)) (fun h => by rw [Bd.returns] at h; cases h)
                  refine ⟨_, _, retI X0 hx Bd.returns (hb hby d2_68) hr, hrun, hended, _, _, rfl, ⟨(by rw [expF, if_neg hc2_1, if_neg hc2_2, if_neg hc2_3, if_pos hc2_10, if_neg hc2_11, if_pos hc2_14, if_neg hc2_15, if_neg hc2_16]), N0, ?_⟩, ⟨_, rfl⟩, hW, hsame.mono (by decide) (by decide)⟩
                  exact e0
            · refine own_fw (A := s₁.setTop (mkF m 53 #[.val (.int p0), .val (.int p0)] [])) (fun t k => ?_) ?_
              · show Steps p.tables e below (s₁.setTop (mkF m 50 #[.val (.int p0), .val (.int p0)] [(.int (122 : Int32)), (.int p0)])) t
                refine XS.icmpNo X0.here hx rfl (hb hby d2_50) rfl (flt hc2_14).2.2.1 ?_
                exact k
              refine own_fw (A := s₁.setTop (mkF m 54 #[.val (.int p0), .val (.int p0)] [(.int p0)])) (fun t k => ?_) ?_
              · show Steps p.tables e below (s₁.setTop (mkF m 53 #[.val (.int p0), .val (.int p0)] [])) t
                refine XS.iloadN X0.here hx rfl (hb hby d2_53) rfl ?_
                exact k
              obtain ⟨fs, hr, hrun, hended, hW, hsame⟩ := X0.leave (v := some (.int p0)) (fun h => by rw [Bd.returns] at h; cases h)
              refine ⟨_, _, retI X0 hx Bd.returns (hb hby d2_54) hr, hrun, hended, _, _, rfl, ⟨(by rw [expF, if_neg hc2_1, if_neg hc2_2, if_neg hc2_3, if_pos hc2_10, if_neg hc2_11, if_neg hc2_14]), N0, ?_⟩, ⟨_, rfl⟩, hW, hsame.mono (by decide) (by decide)⟩
              exact e0
        · refine own_fw (A := s₁.setTop (mkF m 32 #[.val (.int p0), .unset] [])) (fun t k => ?_) ?_
          · show Steps p.tables e below (s₁.setTop (mkF m 29 #[.val (.int p0), .unset] [(.int (90 : Int32)), (.int p0)])) t
            refine XS.icmpNo X0.here hx rfl (hb hby d2_29) rfl (flt hc2_10).2.2.1 ?_
            exact k
          refine own_fw (A := s₁.setTop (mkF m 44 #[.val (.int p0), .val (.int (p0 ||| (32 : Int32)))] [(.int (97 : Int32)), (.int (p0 ||| (32 : Int32)))])) (fun t k => ?_) ?_
          · show Steps p.tables e below (s₁.setTop (mkF m 32 #[.val (.int p0), .unset] [])) t
            refine XS.iloadN X0.here hx rfl (hb hby d2_32) rfl ?_
            show Steps p.tables e below (s₁.setTop (mkF m 33 #[.val (.int p0), .unset] [(.int p0)])) t
            refine XS.bipush X0.here hx rfl (hb hby d2_33) ?_
            show Steps p.tables e below (s₁.setTop (mkF m 35 #[.val (.int p0), .unset] [(.int (32 : Int32)), (.int p0)])) t
            refine XS.ior X0.here hx rfl (hb hby d2_35) rfl ?_
            show Steps p.tables e below (s₁.setTop (mkF m 36 #[.val (.int p0), .unset] [(.int (p0 ||| (32 : Int32)))])) t
            refine XS.goto X0.here hx rfl (pc0 := 36) (pc' := 40) rfl (hb hby d2_36) (by decide) (by decide) ?_
            show Steps p.tables e below (s₁.setTop (mkF m 40 #[.val (.int p0), .unset] [(.int (p0 ||| (32 : Int32)))])) t
            refine XS.istoreN X0.here hx rfl (hb hby d2_40) rfl (l' := #[.val (.int p0), .val (.int (p0 ||| (32 : Int32)))]) rfl ?_
            show Steps p.tables e below (s₁.setTop (mkF m 41 #[.val (.int p0), .val (.int (p0 ||| (32 : Int32)))] [])) t
            refine XS.iloadN X0.here hx rfl (hb hby d2_41) rfl ?_
            show Steps p.tables e below (s₁.setTop (mkF m 42 #[.val (.int p0), .val (.int (p0 ||| (32 : Int32)))] [(.int (p0 ||| (32 : Int32)))])) t
            refine XS.bipush X0.here hx rfl (hb hby d2_42) ?_
            exact k
          by_cases hc2_17 : (p0 ||| (32 : Int32)) < (97 : Int32)
          · refine own_fw (A := s₁.setTop (mkF m 55 #[.val (.int p0), .val (.int (p0 ||| (32 : Int32)))] [])) (fun t k => ?_) ?_
            · show Steps p.tables e below (s₁.setTop (mkF m 44 #[.val (.int p0), .val (.int (p0 ||| (32 : Int32)))] [(.int (97 : Int32)), (.int (p0 ||| (32 : Int32)))])) t
              refine XS.icmpYes X0.here hx rfl (pc0 := 44) (pc' := 55) rfl (hb hby d2_44) rfl (tlt hc2_17).1 (by decide) (by decide) ?_
              exact k
            refine own_fw (A := s₁.setTop (mkF m 58 #[.val (.int p0), .val (.int (p0 ||| (32 : Int32)))] [(.int (48 : Int32)), (.int (p0 ||| (32 : Int32)))])) (fun t k => ?_) ?_
            · show Steps p.tables e below (s₁.setTop (mkF m 55 #[.val (.int p0), .val (.int (p0 ||| (32 : Int32)))] [])) t
              refine XS.iloadN X0.here hx rfl (hb hby d2_55) rfl ?_
              show Steps p.tables e below (s₁.setTop (mkF m 56 #[.val (.int p0), .val (.int (p0 ||| (32 : Int32)))] [(.int (p0 ||| (32 : Int32)))])) t
              refine XS.bipush X0.here hx rfl (hb hby d2_56) ?_
              exact k
            by_cases hc2_18 : (p0 ||| (32 : Int32)) < (48 : Int32)
            · refine own_fw (A := s₁.setTop (mkF m 69 #[.val (.int p0), .val (.int (p0 ||| (32 : Int32)))] [])) (fun t k => ?_) ?_
              · show Steps p.tables e below (s₁.setTop (mkF m 58 #[.val (.int p0), .val (.int (p0 ||| (32 : Int32)))] [(.int (48 : Int32)), (.int (p0 ||| (32 : Int32)))])) t
                refine XS.icmpYes X0.here hx rfl (pc0 := 58) (pc' := 69) rfl (hb hby d2_58) rfl (tlt hc2_18).1 (by decide) (by decide) ?_
                exact k
              refine own_fw (A := s₁.setTop (mkF m 70 #[.val (.int p0), .val (.int (p0 ||| (32 : Int32)))] [(.int (0 : Int32))])) (fun t k => ?_) ?_
              · show Steps p.tables e below (s₁.setTop (mkF m 69 #[.val (.int p0), .val (.int (p0 ||| (32 : Int32)))] [])) t
                refine XS.iconst X0.here hx rfl (hb hby d2_69) ?_
                exact k
              obtain ⟨fs, hr, hrun, hended, hW, hsame⟩ := X0.leave (v := some (.int (0 : Int32))) (fun h => by rw [Bd.returns] at h; cases h)
              refine ⟨_, _, retI X0 hx Bd.returns (hb hby d2_70) hr, hrun, hended, _, _, rfl, ⟨(by rw [expF, if_neg hc2_1, if_neg hc2_2, if_neg hc2_3, if_neg hc2_10, if_pos hc2_17, if_pos hc2_18]), N0, ?_⟩, ⟨_, rfl⟩, hW, hsame.mono (by decide) (by decide)⟩
              exact e0
            · refine own_fw (A := s₁.setTop (mkF m 61 #[.val (.int p0), .val (.int (p0 ||| (32 : Int32)))] [])) (fun t k => ?_) ?_
              · show Steps p.tables e below (s₁.setTop (mkF m 58 #[.val (.int p0), .val (.int (p0 ||| (32 : Int32)))] [(.int (48 : Int32)), (.int (p0 ||| (32 : Int32)))])) t
                refine XS.icmpNo X0.here hx rfl (hb hby d2_58) rfl (flt hc2_18).1 ?_
                exact k
              refine own_fw (A := s₁.setTop (mkF m 64 #[.val (.int p0), .val (.int (p0 ||| (32 : Int32)))] [(.int (57 : Int32)), (.int (p0 ||| (32 : Int32)))])) (fun t k => ?_) ?_
              · show Steps p.tables e below (s₁.setTop (mkF m 61 #[.val (.int p0), .val (.int (p0 ||| (32 : Int32)))] [])) t
                refine XS.iloadN X0.here hx rfl (hb hby d2_61) rfl ?_
                show Steps p.tables e below (s₁.setTop (mkF m 62 #[.val (.int p0), .val (.int (p0 ||| (32 : Int32)))] [(.int (p0 ||| (32 : Int32)))])) t
                refine XS.bipush X0.here hx rfl (hb hby d2_62) ?_
                exact k
              by_cases hc2_19 : (57 : Int32) < (p0 ||| (32 : Int32))
              · refine own_fw (A := s₁.setTop (mkF m 69 #[.val (.int p0), .val (.int (p0 ||| (32 : Int32)))] [])) (fun t k => ?_) ?_
                · show Steps p.tables e below (s₁.setTop (mkF m 64 #[.val (.int p0), .val (.int (p0 ||| (32 : Int32)))] [(.int (57 : Int32)), (.int (p0 ||| (32 : Int32)))])) t
                  refine XS.icmpYes X0.here hx rfl (pc0 := 64) (pc' := 69) rfl (hb hby d2_64) rfl (tlt hc2_19).2.2.1 (by decide) (by decide) ?_
                  exact k
                refine own_fw (A := s₁.setTop (mkF m 70 #[.val (.int p0), .val (.int (p0 ||| (32 : Int32)))] [(.int (0 : Int32))])) (fun t k => ?_) ?_
                · show Steps p.tables e below (s₁.setTop (mkF m 69 #[.val (.int p0), .val (.int (p0 ||| (32 : Int32)))] [])) t
                  refine XS.iconst X0.here hx rfl (hb hby d2_69) ?_
                  exact k
                obtain ⟨fs, hr, hrun, hended, hW, hsame⟩ := X0.leave (v := some (.int (0 : Int32))) (fun h => by rw [Bd.returns] at h; cases h)
                refine ⟨_, _, retI X0 hx Bd.returns (hb hby d2_70) hr, hrun, hended, _, _, rfl, ⟨(by rw [expF, if_neg hc2_1, if_neg hc2_2, if_neg hc2_3, if_neg hc2_10, if_pos hc2_17, if_neg hc2_18, if_pos hc2_19]), N0, ?_⟩, ⟨_, rfl⟩, hW, hsame.mono (by decide) (by decide)⟩
                exact e0
              · refine own_fw (A := s₁.setTop (mkF m 67 #[.val (.int p0), .val (.int (p0 ||| (32 : Int32)))] [])) (fun t k => ?_) ?_
                · show Steps p.tables e below (s₁.setTop (mkF m 64 #[.val (.int p0), .val (.int (p0 ||| (32 : Int32)))] [(.int (57 : Int32)), (.int (p0 ||| (32 : Int32)))])) t
                  refine XS.icmpNo X0.here hx rfl (hb hby d2_64) rfl (flt hc2_19).2.2.1 ?_
                  exact k
                refine own_fw (A := s₁.setTop (mkF m 68 #[.val (.int p0), .val (.int (p0 ||| (32 : Int32)))] [(.int (p0 ||| (32 : Int32)))])) (fun t k => ?_) ?_
                · show Steps p.tables e below (s₁.setTop (mkF m 67 #[.val (.int p0), .val (.int (p0 ||| (32 : Int32)))] [])) t
                  refine XS.iloadN X0.here hx rfl (hb hby d2_67) rfl ?_
                  exact k
                obtain ⟨fs, hr, hrun, hended, hW, hsame⟩ := X0.leave (v := some (.int (p0 ||| (32 : Int32)))) (fun h => by rw [Bd.returns] at h; cases h)
                refine ⟨_, _, retI X0 hx Bd.returns (hb hby d2_68) hr, hrun, hended, _, _, rfl, ⟨(by rw [expF, if_neg hc2_1, if_neg hc2_2, if_neg hc2_3, if_neg hc2_10, if_pos hc2_17, if_neg hc2_18, if_neg hc2_19]), N0, ?_⟩, ⟨_, rfl⟩, hW, hsame.mono (by decide) (by decide)⟩
                exact e0
          · refine own_fw (A := s₁.setTop (mkF m 47 #[.val (.int p0), .val (.int (p0 ||| (32 : Int32)))] [])) (fun t k => ?_) ?_
            · show Steps p.tables e below (s₁.setTop (mkF m 44 #[.val (.int p0), .val (.int (p0 ||| (32 : Int32)))] [(.int (97 : Int32)), (.int (p0 ||| (32 : Int32)))])) t
              refine XS.icmpNo X0.here hx rfl (hb hby d2_44) rfl (flt hc2_17).1 ?_
              exact k
            refine own_fw (A := s₁.setTop (mkF m 50 #[.val (.int p0), .val (.int (p0 ||| (32 : Int32)))] [(.int (122 : Int32)), (.int (p0 ||| (32 : Int32)))])) (fun t k => ?_) ?_
            · show Steps p.tables e below (s₁.setTop (mkF m 47 #[.val (.int p0), .val (.int (p0 ||| (32 : Int32)))] [])) t
              refine XS.iloadN X0.here hx rfl (hb hby d2_47) rfl ?_
              show Steps p.tables e below (s₁.setTop (mkF m 48 #[.val (.int p0), .val (.int (p0 ||| (32 : Int32)))] [(.int (p0 ||| (32 : Int32)))])) t
              refine XS.bipush X0.here hx rfl (hb hby d2_48) ?_
              exact k
            by_cases hc2_20 : (122 : Int32) < (p0 ||| (32 : Int32))
            · refine own_fw (A := s₁.setTop (mkF m 55 #[.val (.int p0), .val (.int (p0 ||| (32 : Int32)))] [])) (fun t k => ?_) ?_
              · show Steps p.tables e below (s₁.setTop (mkF m 50 #[.val (.int p0), .val (.int (p0 ||| (32 : Int32)))] [(.int (122 : Int32)), (.int (p0 ||| (32 : Int32)))])) t
                refine XS.icmpYes X0.here hx rfl (pc0 := 50) (pc' := 55) rfl (hb hby d2_50) rfl (tlt hc2_20).2.2.1 (by decide) (by decide) ?_
                exact k
              refine own_fw (A := s₁.setTop (mkF m 58 #[.val (.int p0), .val (.int (p0 ||| (32 : Int32)))] [(.int (48 : Int32)), (.int (p0 ||| (32 : Int32)))])) (fun t k => ?_) ?_
              · show Steps p.tables e below (s₁.setTop (mkF m 55 #[.val (.int p0), .val (.int (p0 ||| (32 : Int32)))] [])) t
                refine XS.iloadN X0.here hx rfl (hb hby d2_55) rfl ?_
                show Steps p.tables e below (s₁.setTop (mkF m 56 #[.val (.int p0), .val (.int (p0 ||| (32 : Int32)))] [(.int (p0 ||| (32 : Int32)))])) t
                refine XS.bipush X0.here hx rfl (hb hby d2_56) ?_
                exact k
              by_cases hc2_21 : (p0 ||| (32 : Int32)) < (48 : Int32)
              · refine own_fw (A := s₁.setTop (mkF m 69 #[.val (.int p0), .val (.int (p0 ||| (32 : Int32)))] [])) (fun t k => ?_) ?_
                · show Steps p.tables e below (s₁.setTop (mkF m 58 #[.val (.int p0), .val (.int (p0 ||| (32 : Int32)))] [(.int (48 : Int32)), (.int (p0 ||| (32 : Int32)))])) t
                  refine XS.icmpYes X0.here hx rfl (pc0 := 58) (pc' := 69) rfl (hb hby d2_58) rfl (tlt hc2_21).1 (by decide) (by decide) ?_
                  exact k
                refine own_fw (A := s₁.setTop (mkF m 70 #[.val (.int p0), .val (.int (p0 ||| (32 : Int32)))] [(.int (0 : Int32))])) (fun t k => ?_) ?_
                · show Steps p.tables e below (s₁.setTop (mkF m 69 #[.val (.int p0), .val (.int (p0 ||| (32 : Int32)))] [])) t
                  refine XS.iconst X0.here hx rfl (hb hby d2_69) ?_
                  exact k
                obtain ⟨fs, hr, hrun, hended, hW, hsame⟩ := X0.leave (v := some (.int (0 : Int32))) (fun h => by rw [Bd.returns] at h; cases h)
                refine ⟨_, _, retI X0 hx Bd.returns (hb hby d2_70) hr, hrun, hended, _, _, rfl, ⟨(by rw [expF, if_neg hc2_1, if_neg hc2_2, if_neg hc2_3, if_neg hc2_10, if_neg hc2_17, if_pos hc2_20, if_pos hc2_21]), N0, ?_⟩, ⟨_, rfl⟩, hW, hsame.mono (by decide) (by decide)⟩
                exact e0
              · refine own_fw (A := s₁.setTop (mkF m 61 #[.val (.int p0), .val (.int (p0 ||| (32 : Int32)))] [])) (fun t k => ?_) ?_
                · show Steps p.tables e below (s₁.setTop (mkF m 58 #[.val (.int p0), .val (.int (p0 ||| (32 : Int32)))] [(.int (48 : Int32)), (.int (p0 ||| (32 : Int32)))])) t
                  refine XS.icmpNo X0.here hx rfl (hb hby d2_58) rfl (flt hc2_21).1 ?_
                  exact k
                refine own_fw (A := s₁.setTop (mkF m 64 #[.val (.int p0), .val (.int (p0 ||| (32 : Int32)))] [(.int (57 : Int32)), (.int (p0 ||| (32 : Int32)))])) (fun t k => ?_) ?_
                · show Steps p.tables e below (s₁.setTop (mkF m 61 #[.val (.int p0), .val (.int (p0 ||| (32 : Int32)))] [])) t
                  refine XS.iloadN X0.here hx rfl (hb hby d2_61) rfl ?_
                  show Steps p.tables e below (s₁.setTop (mkF m 62 #[.val (.int p0), .val (.int (p0 ||| (32 : Int32)))] [(.int (p0 ||| (32 : Int32)))])) t
                  refine XS.bipush X0.here hx rfl (hb hby d2_62) ?_
                  exact k
                by_cases hc2_22 : (57 : Int32) < (p0 ||| (32 : Int32))
                · refine own_fw (A := s₁.setTop (mkF m 69 #[.val (.int p0), .val (.int (p0 ||| (32 : Int32)))] [])) (fun t k => ?_) ?_
                  · show Steps p.tables e below (s₁.setTop (mkF m 64 #[.val (.int p0), .val (.int (p0 ||| (32 : Int32)))] [(.int (57 : Int32)), (.int (p0 ||| (32 : Int32)))])) t
                    refine XS.icmpYes X0.here hx rfl (pc0 := 64) (pc' := 69) rfl (hb hby d2_64) rfl (tlt hc2_22).2.2.1 (by decide) (by decide) ?_
                    exact k
                  refine own_fw (A := s₁.setTop (mkF m 70 #[.val (.int p0), .val (.int (p0 ||| (32 : Int32)))] [(.int (0 : Int32))])) (fun t k => ?_) ?_
                  · show Steps p.tables e below (s₁.setTop (mkF m 69 #[.val (.int p0), .val (.int (p0 ||| (32 : Int32)))] [])) t
                    refine XS.iconst X0.here hx rfl (hb hby d2_69) ?_
                    exact k
                  obtain ⟨fs, hr, hrun, hended, hW, hsame⟩ := X0.leave (v := some (.int (0 : Int32))) (fun h => by rw [Bd.returns] at h; cases h)
                  refine ⟨_, _, retI X0 hx Bd.returns (hb hby d2_70) hr, hrun, hended, _, _, rfl, ⟨(by rw [expF, if_neg hc2_1, if_neg hc2_2, if_neg hc2_3, if_neg hc2_10, if_neg hc2_17, if_pos hc2_20, if_neg hc2_21, if_pos hc2_22]), N0, ?_⟩, ⟨_, rfl⟩, hW, hsame.mono (by decide) (by decide)⟩
                  exact e0
                · refine own_fw (A := s₁.setTop (mkF m 67 #[.val (.int p0), .val (.int (p0 ||| (32 : Int32)))] [])) (fun t k => ?_) ?_
                  · show Steps p.tables e below (s₁.setTop (mkF m 64 #[.val (.int p0), .val (.int (p0 ||| (32 : Int32)))] [(.int (57 : Int32)), (.int (p0 ||| (32 : Int32)))])) t
                    refine XS.icmpNo X0.here hx rfl (hb hby d2_64) rfl (flt hc2_22).2.2.1 ?_
                    exact k
                  refine own_fw (A := s₁.setTop (mkF m 68 #[.val (.int p0), .val (.int (p0 ||| (32 : Int32)))] [(.int (p0 ||| (32 : Int32)))])) (fun t k => ?_) ?_
                  · show Steps p.tables e below (s₁.setTop (mkF m 67 #[.val (.int p0), .val (.int (p0 ||| (32 : Int32)))] [])) t
                    refine XS.iloadN X0.here hx rfl (hb hby d2_67) rfl ?_
                    exact k
                  obtain ⟨fs, hr, hrun, hended, hW, hsame⟩ := X0.leave (v := some (.int (p0 ||| (32 : Int32)))) (fun h => by rw [Bd.returns] at h; cases h)
                  refine ⟨_, _, retI X0 hx Bd.returns (hb hby d2_68) hr, hrun, hended, _, _, rfl, ⟨(by rw [expF, if_neg hc2_1, if_neg hc2_2, if_neg hc2_3, if_neg hc2_10, if_neg hc2_17, if_pos hc2_20, if_neg hc2_21, if_neg hc2_22]), N0, ?_⟩, ⟨_, rfl⟩, hW, hsame.mono (by decide) (by decide)⟩
                  exact e0
            · refine own_fw (A := s₁.setTop (mkF m 53 #[.val (.int p0), .val (.int (p0 ||| (32 : Int32)))] [])) (fun t k => ?_) ?_
              · show Steps p.tables e below (s₁.setTop (mkF m 50 #[.val (.int p0), .val (.int (p0 ||| (32 : Int32)))] [(.int (122 : Int32)), (.int (p0 ||| (32 : Int32)))])) t
                refine XS.icmpNo X0.here hx rfl (hb hby d2_50) rfl (flt hc2_20).2.2.1 ?_
                exact k
              refine own_fw (A := s₁.setTop (mkF m 54 #[.val (.int p0), .val (.int (p0 ||| (32 : Int32)))] [(.int (p0 ||| (32 : Int32)))])) (fun t k => ?_) ?_
              · show Steps p.tables e below (s₁.setTop (mkF m 53 #[.val (.int p0), .val (.int (p0 ||| (32 : Int32)))] [])) t
                refine XS.iloadN X0.here hx rfl (hb hby d2_53) rfl ?_
                exact k
              obtain ⟨fs, hr, hrun, hended, hW, hsame⟩ := X0.leave (v := some (.int (p0 ||| (32 : Int32)))) (fun h => by rw [Bd.returns] at h; cases h)
              refine ⟨_, _, retI X0 hx Bd.returns (hb hby d2_54) hr, hrun, hended, _, _, rfl, ⟨(by rw [expF, if_neg hc2_1, if_neg hc2_2, if_neg hc2_3, if_neg hc2_10, if_neg hc2_17, if_neg hc2_20]), N0, ?_⟩, ⟨_, rfl⟩, hW, hsame.mono (by decide) (by decide)⟩
              exact e0
theorem own_bit (x : BitVec 32) (h : x.getLsbD 5 = true) : x ||| 32#32 = x := by
  apply BitVec.eq_of_getLsbD_eq
  intro i hi
  rw [BitVec.getLsbD_or]
  have : (32#32).getLsbD i = decide (i = 5) := by
    show (BitVec.twoPow 32 5).getLsbD i = _
    rw [BitVec.getLsbD_twoPow]
    simp [eq_comm]
  rw [this]
  by_cases h5 : i = 5
  · subst h5; rw [h]; rfl
  · simp [h5]
theorem own_nobit (x : BitVec 32) (h : x.getLsbD 5 = false) : x ||| 32#32 = x + 32#32 := by
  rw [BitVec.add_eq_or_of_and_eq_zero]
  apply BitVec.eq_of_getLsbD_eq
  intro i hi
  rw [BitVec.getLsbD_and]
  have : (32#32).getLsbD i = decide (i = 5) := by
    show (BitVec.twoPow 32 5).getLsbD i = _
    rw [BitVec.getLsbD_twoPow]
    simp [eq_comm]
  rw [this]
  by_cases h5 : i = 5
  · subst h5; rw [h]; rfl
  · simp [h5]
theorem own_oi (x : Int32) (h0 : 0 ≤ x.toInt) : (x.toInt / 32 % 2 = 1 → (x ||| (32 : Int32)).toInt = x.toInt) ∧ (¬ x.toInt / 32 % 2 = 1 → x.toInt < 65536 → (x ||| (32 : Int32)).toInt = x.toInt + 32) := by
  have e : x.toInt = (x.toBitVec.toNat : Int) := by
    have := x.toBitVec.toInt_eq_toNat_cond
    have h2 : x.toInt = x.toBitVec.toInt := rfl
    rw [h2] at h0 ⊢
    have := x.toBitVec.isLt
    split at * <;> omega
  have hb : x.toBitVec.getLsbD 5 = decide (x.toBitVec.toNat / 32 % 2 = 1) := by
    show x.toBitVec.toNat.testBit 5 = _
    rw [Nat.testBit_eq_decide_div_mod_eq]
  constructor
  · intro h
    have q : (x ||| (32 : Int32)) = x := by
      rw [← Int32.toBitVec_inj, Int32.toBitVec_or]
      exact own_bit _ (by rw [hb]; exact decide_eq_true (by omega))
    rw [q]
  · intro h h1
    have q : (x ||| (32 : Int32)) = x + 32 := by
      rw [← Int32.toBitVec_inj, Int32.toBitVec_or, Int32.toBitVec_add]
      exact own_nobit _ (by rw [hb]; exact decide_eq_false (by omega))
    rw [q]
    have h3 := c_iadd x 32
    have h4 := rng32 (x + 32)
    have h5 : (32 : Int32).toInt = 32 := rfl
    omega
theorem own_i2c (x : Int32) (h0 : 0 ≤ x.toInt) (h1 : x.toInt < 65536) : x.toUInt32.toUInt16.toUInt32.toInt32 = x := by
  have h := c_i2c x
  rw [← Int32.toInt_inj]
  omega
def own_S (x v : Int) : Prop := (65 ≤ x ∧ x ≤ 90 → v = x + 32) ∧ ((97 ≤ x ∧ x ≤ 122) ∨ (48 ≤ x ∧ x ≤ 57) → v = x) ∧ (x = 8490 → v = 107) ∧ (x = 304 → v = 105) ∧ (¬ (65 ≤ x ∧ x ≤ 90) → ¬ (97 ≤ x ∧ x ≤ 122) → ¬ (48 ≤ x ∧ x ≤ 57) → x ≠ 8490 → x ≠ 304 → v = 0)
set_option maxHeartbeats 4000000 in
theorem own_tokS (x : Int32) (h0 : 0 ≤ x.toInt) (h1 : x.toInt < 65536) : own_S x.toInt (tokF x).toInt := by
  have s1 := c_iadd x 32
  have r1 := rng32 (x + 32)
  have s2 := c_i2c (x + 32)
  have s3 := c_i2c (x + 32).toUInt32.toUInt16.toUInt32.toInt32
  have z : (32 : Int32).toInt = 32 := rfl
  have u : x.toInt ≤ 90 → (x + 32).toUInt32.toUInt16.toUInt32.toInt32.toUInt32.toUInt16.toUInt32.toInt32.toInt = x.toInt + 32 := by intro; omega
  clear s1 r1 s2 s3 z
  have n1 : (107 : Int32).toUInt32.toUInt16.toUInt32.toInt32 = 107 := by decide
  have n2 : (105 : Int32).toUInt32.toUInt16.toUInt32.toInt32 = 105 := by decide
  have n3 : (0 : Int32).toUInt32.toUInt16.toUInt32.toInt32 = 0 := by decide
  rw [tokF]
  simp only [own_S, nar, own_i2c x h0 h1, n1, n2, n3]
  simp only [Int32.lt_iff_toInt_lt, ← Int32.toInt_inj, Int32.reduceToInt] at *
  repeat' split
  all_goals (try simp only [Int32.reduceToInt])
  all_goals refine ⟨?_, ?_, ?_, ?_, ?_⟩ <;> intros <;> first | trivial | omega
set_option maxHeartbeats 4000000 in
theorem own_expS (x : Int32) (h0 : 0 ≤ x.toInt) (h1 : x.toInt < 65536) : own_S x.toInt (expF x).toInt := by
  obtain ⟨q1, q2⟩ := own_oi x h0
  have u : 65 ≤ x.toInt → x.toInt ≤ 90 → (x ||| (32 : Int32)).toInt = x.toInt + 32 := by intros; omega
  clear q1 q2
  rw [expF]
  simp only [own_S]
  simp only [Int32.lt_iff_toInt_lt, ← Int32.toInt_inj, Int32.reduceToInt] at *
  repeat' split
  all_goals (try simp only [Int32.reduceToInt])
  all_goals refine ⟨?_, ?_, ?_, ?_, ?_⟩ <;> intros <;> first | trivial | omega
theorem own_tok (x : Int32) (h0 : 0 ≤ x.toInt) (h1 : x.toInt < 65536) : tokF x = expF x := by
  have a := own_tokS x h0 h1
  have b := own_expS x h0 h1
  rw [← Int32.toInt_inj]
  simp only [own_S] at a b
  omega
theorem own_rng (x : Int32) (h0 : 0 ≤ x.toInt) (h1 : x.toInt < 65536) : (tokF x).toInt = 0 ∨ (48 ≤ (tokF x).toInt ∧ (tokF x).toInt ≤ 57) ∨ (97 ≤ (tokF x).toInt ∧ (tokF x).toInt ≤ 122) := by
  have a := own_tokS x h0 h1
  simp only [own_S] at a
  omega
theorem own_fix (x : Int32) (h : (48 ≤ x.toInt ∧ x.toInt ≤ 57) ∨ (97 ≤ x.toInt ∧ x.toInt ≤ 122)) : tokF x = x := by
  have a := own_tokS x (by omega) (by omega)
  simp only [own_S] at a
  rw [← Int32.toInt_inj]
  omega
theorem own_b22 (p : Int32) : tokF ((p &&& (65535 : Int32)).toUInt32.toUInt16.toUInt32.toInt32) = expF (p &&& (65535 : Int32)) := by
  have h := c_and p 65535 (by decide)
  have z : (65535 : Int32).toInt = 65535 := rfl
  rw [own_i2c _ h.1 (by omega)]
  exact own_tok _ h.1 (by omega)
theorem own_b36 (p : Int32) (hne : ¬ tokF ((p &&& (65535 : Int32)).toUInt32.toUInt16.toUInt32.toInt32) = (0 : Int32)) : tokF (tokF ((p &&& (65535 : Int32)).toUInt32.toUInt16.toUInt32.toInt32)) = tokF ((p &&& (65535 : Int32)).toUInt32.toUInt16.toUInt32.toInt32) := by
  obtain ⟨-, h0, h1⟩ := c_i2c (p &&& (65535 : Int32))
  rw [← Int32.toInt_inj] at hne
  have z : (0 : Int32).toInt = 0 := rfl
  exact own_fix _ (by have := own_rng _ h0 h1; omega)
theorem pn0 : plainName "com/example/coppice/coppice/index/TokenizerTokenCharacterPinLaw" = true := by first | (simp [plainName, overriddenIn]; done) | decide +kernel
theorem pd0_0 : parseMethodDescriptor "(C)C" = some ⟨[.char], some .char⟩ := by decide +kernel
theorem pd0_1 : parseMethodDescriptor "(I)I" = some ⟨[.int], some .int⟩ := by decide +kernel
theorem ef0 (m : MethodId) (p0 : Int32) : entryFrame m #[(.int p0)] maxLocals = mkF m 0 #[.val (.int p0), .unset, .unset, .unset, .unset] [] := by first | (simp [entryFrame, mkF, argsToLocals, Value.category, maxLocals]; done) | rfl
def Q0 (Z : State) (p0 : Int32) (h0 : Heap) (n0 : Nat) (v : Option Value) (h : Heap) (L : List Loc) : Prop := v = some (.int 1) ∧ Fr n0 L
set_option maxRecDepth 65536 in
set_option maxHeartbeats 40000000 in
theorem rm0 (l : Launch) (Z : State) (a0 : Array Value) (hw : ∀ d ∈ tables_1, d.before a0 Z = true) (ws : List Jvm.Cond) (p0 : Int32) (h0 : Heap) (n0 : Nat) (Z0 : n0 ≤ h0.size) :
    MetFree l x (head1 (Jvm.Cond.code x code maxLocals ret :: ws) room_1) (fun a U => a = #[(.int p0)] ∧ Z.Warmed39 U.vm ∧ U.heap = h0) (fun _ _ _ _ _ => True) (fun _ U o U' => ∃ v L, o = .returned v ∧ Q0 Z p0 h0 n0 v U'.heap L ∧ FrameEnd U o U' L room_1.cells room_1.slots) := by
  refine MetFree.of_bodySF (plainFor_of_name pn0) hisR ?_
  intro p e s m args below meth c s₁ Bd hml0 hP hK
  obtain ⟨rfl, hZ, hh⟩ := hP
  have hx := Bd.exec
  have hby := Bd.bytes
  have hml : c.maxLocals = 5 := hml0
  have hown : s.vm.findClass "com/example/coppice/coppice/index/TokenizerTokenCharacterPinLaw" = some m.cls := findClass_of_methodNamed Bd.named
  have hnm := (name_of_methodNamed Bd.named Bd.method).1
  have X0 : Stand p l e room_1 s m #[(.int p0)] below meth c s₁ [] 0 0 := Stand.of_body Bd
  have e0 : s₁.heap = h0 := by rw [← hh, Bd.state]; rfl
  have N0 := Fr.nil n0
  refine own_fw (A := s₁.setTop (mkF m 0 #[.val (.int p0), .unset, .unset, .unset, .unset] [])) (fun t k => castTop (ef0 m p0) k) ?_
  refine own_fw (A := s₁.setTop (mkF m 9 #[.val (.int p0), .val (.int (p0 &&& (65535 : Int32))), .val (.int ((p0 &&& (65535 : Int32)).toUInt32.toUInt16.toUInt32.toInt32)), .unset, .unset] [(.int ((p0 &&& (65535 : Int32)).toUInt32.toUInt16.toUInt32.toInt32))])) (fun t k => ?_) ?_
  · show Steps p.tables e below (s₁.setTop (mkF m 0 #[.val (.int p0), .unset, .unset, .unset, .unset] [])) t
    refine XS.iloadN X0.here hx rfl (hb hby at_0) rfl ?_
    show Steps p.tables e below (s₁.setTop (mkF m 1 #[.val (.int p0), .unset, .unset, .unset, .unset] [(.int p0)])) t
    refine X0.ldcInt hx hown (mvT hZ (hw _ (List.mem_of_getElem? (i := 0) rfl))) (g := (mkF m 1 #[.val (.int p0), .unset, .unset, .unset, .unset] [(.int p0)])) rfl (hb hby at_1) _ ?_
    show Steps p.tables e below (s₁.setTop (mkF m 3 #[.val (.int p0), .unset, .unset, .unset, .unset] [(.int (65535 : Int32)), (.int p0)])) t
    refine XS.iand X0.here hx rfl (hb hby at_3) rfl ?_
    show Steps p.tables e below (s₁.setTop (mkF m 4 #[.val (.int p0), .unset, .unset, .unset, .unset] [(.int (p0 &&& (65535 : Int32)))])) t
    refine XS.istoreN X0.here hx rfl (hb hby at_4) rfl (l' := #[.val (.int p0), .val (.int (p0 &&& (65535 : Int32))), .unset, .unset, .unset]) rfl ?_
    show Steps p.tables e below (s₁.setTop (mkF m 5 #[.val (.int p0), .val (.int (p0 &&& (65535 : Int32))), .unset, .unset, .unset] [])) t
    refine XS.iloadN X0.here hx rfl (hb hby at_5) rfl ?_
    show Steps p.tables e below (s₁.setTop (mkF m 6 #[.val (.int p0), .val (.int (p0 &&& (65535 : Int32))), .unset, .unset, .unset] [(.int (p0 &&& (65535 : Int32)))])) t
    refine XS.i2c X0.here hx rfl (hb hby at_6) rfl ?_
    show Steps p.tables e below (s₁.setTop (mkF m 7 #[.val (.int p0), .val (.int (p0 &&& (65535 : Int32))), .unset, .unset, .unset] [(.int ((p0 &&& (65535 : Int32)).toUInt32.toUInt16.toUInt32.toInt32))])) t
    refine XS.istoreN X0.here hx rfl (hb hby at_7) rfl (l' := #[.val (.int p0), .val (.int (p0 &&& (65535 : Int32))), .val (.int ((p0 &&& (65535 : Int32)).toUInt32.toUInt16.toUInt32.toInt32)), .unset, .unset]) rfl ?_
    show Steps p.tables e below (s₁.setTop (mkF m 8 #[.val (.int p0), .val (.int (p0 &&& (65535 : Int32))), .val (.int ((p0 &&& (65535 : Int32)).toUInt32.toUInt16.toUInt32.toInt32)), .unset, .unset] [])) t
    refine XS.iloadN X0.here hx rfl (hb hby at_8) rfl ?_
    exact k
  obtain ⟨_, _, ⟨T0_1, L0_1, k0_1, n0_1⟩, -, X0_1, ⟨Lc0_1, hQ0_1, l0_1, y0_1, z0_1⟩, st0_1⟩ := Jvm.LawKit.callS X0 hx (y := (⟨"com/example/coppice/coppice/index/Tokenizer", "tokenCharacter", "(C)C"⟩ : MethodName)) hown (mvT hZ (hw _ (List.mem_of_getElem? (i := 1) rfl))) (mvT hZ (hw _ (List.mem_of_getElem? (i := 2) rfl))) (mvT hZ (hw _ (List.mem_of_getElem? (i := 3) rfl))) (mvT hZ (hw _ (List.mem_of_getElem? (i := 4) rfl))) (by decide) (backOf (W := 0) (rm1 l Z a0 hw [] (((p0 &&& (65535 : Int32)).toUInt32.toUInt16.toUInt32.toInt32)) h0 n0 Z0 ) hZ (hw _ (List.mem_of_getElem? (i := 4) rfl)) (hw _ (List.mem_of_getElem? (i := 3) rfl)) (by decide) (by decide)) (g := (mkF m 9 #[.val (.int p0), .val (.int (p0 &&& (65535 : Int32))), .val (.int ((p0 &&& (65535 : Int32)).toUInt32.toUInt16.toUInt32.toInt32)), .unset, .unset] [(.int ((p0 &&& (65535 : Int32)).toUInt32.toUInt16.toUInt32.toInt32))])) rfl (by rw [hml]; rfl) (argsL := [(.int ((p0 &&& (65535 : Int32)).toUInt32.toUInt16.toUInt32.toInt32))]) (rest := []) (lenOf pd0_0 rfl) rfl (by show 2 * 0 + _ ≤ _; exact Nat.le_of_eq rfl) (hb hby at_9) (fun _ _ => ⟨rfl, e0, (by decide : 0 + 0 ≤ _), (by decide : 0 + 0 ≤ _)⟩)
  dsimp only [Pt.U, Pt.locs, Pt.cells, Pt.slots] at X0_1 l0_1 y0_1 z0_1 st0_1 hQ0_1
  subst l0_1 y0_1 z0_1
  obtain ⟨rfl, N0_1q, e0_1⟩ := hQ0_1
  have N0_1 := Fr.app N0 N0_1q
  refine own_fw st0_1 ?_
  refine own_fw (A := T0_1.setTop (mkF m 14 #[.val (.int p0), .val (.int (p0 &&& (65535 : Int32))), .val (.int ((p0 &&& (65535 : Int32)).toUInt32.toUInt16.toUInt32.toInt32)), .val (.int (tokF ((p0 &&& (65535 : Int32)).toUInt32.toUInt16.toUInt32.toInt32))), .unset] [(.int (p0 &&& (65535 : Int32)))])) (fun t k => ?_) ?_
  · show Steps p.tables e below (T0_1.setTop (mkF m 12 #[.val (.int p0), .val (.int (p0 &&& (65535 : Int32))), .val (.int ((p0 &&& (65535 : Int32)).toUInt32.toUInt16.toUInt32.toInt32)), .unset, .unset] [(.int (tokF ((p0 &&& (65535 : Int32)).toUInt32.toUInt16.toUInt32.toInt32)))])) t
    refine XS.istoreN X0_1.here hx rfl (hb hby at_12) rfl (l' := #[.val (.int p0), .val (.int (p0 &&& (65535 : Int32))), .val (.int ((p0 &&& (65535 : Int32)).toUInt32.toUInt16.toUInt32.toInt32)), .val (.int (tokF ((p0 &&& (65535 : Int32)).toUInt32.toUInt16.toUInt32.toInt32))), .unset]) rfl ?_
    show Steps p.tables e below (T0_1.setTop (mkF m 13 #[.val (.int p0), .val (.int (p0 &&& (65535 : Int32))), .val (.int ((p0 &&& (65535 : Int32)).toUInt32.toUInt16.toUInt32.toInt32)), .val (.int (tokF ((p0 &&& (65535 : Int32)).toUInt32.toUInt16.toUInt32.toInt32))), .unset] [])) t
    refine XS.iloadN X0_1.here hx rfl (hb hby at_13) rfl ?_
    exact k
  obtain ⟨_, _, ⟨T0_2, L0_2, k0_2, n0_2⟩, -, X0_2, ⟨Lc0_2, hQ0_2, l0_2, y0_2, z0_2⟩, st0_2⟩ := Jvm.LawKit.callS X0_1 hx (y := (⟨"com/example/coppice/coppice/index/TokenizerTokenCharacterPinLaw", "expected", "(I)I"⟩ : MethodName)) hown (mvT hZ (hw _ (List.mem_of_getElem? (i := 5) rfl))) (mvT hZ (hw _ (List.mem_of_getElem? (i := 6) rfl))) (mvT hZ (hw _ (List.mem_of_getElem? (i := 7) rfl))) (mvT hZ (hw _ (List.mem_of_getElem? (i := 8) rfl))) (by decide) (backOf (W := 0) (rm2 l Z a0 hw [] ((p0 &&& (65535 : Int32))) h0 n0 Z0 ) hZ (hw _ (List.mem_of_getElem? (i := 8) rfl)) (hw _ (List.mem_of_getElem? (i := 7) rfl)) (by decide) (by decide)) (g := (mkF m 14 #[.val (.int p0), .val (.int (p0 &&& (65535 : Int32))), .val (.int ((p0 &&& (65535 : Int32)).toUInt32.toUInt16.toUInt32.toInt32)), .val (.int (tokF ((p0 &&& (65535 : Int32)).toUInt32.toUInt16.toUInt32.toInt32))), .unset] [(.int (p0 &&& (65535 : Int32)))])) rfl (by rw [hml]; rfl) (argsL := [(.int (p0 &&& (65535 : Int32)))]) (rest := []) (lenOf pd0_1 rfl) rfl (by show 2 * 0 + _ ≤ _; exact Nat.le_of_eq rfl) (hb hby at_14) (fun _ _ => ⟨rfl, e0_1, (by decide : 0 + 0 ≤ _), (by decide : 0 + 0 ≤ _)⟩)
  dsimp only [Pt.U, Pt.locs, Pt.cells, Pt.slots] at X0_2 l0_2 y0_2 z0_2 st0_2 hQ0_2
  subst l0_2 y0_2 z0_2
  obtain ⟨rfl, N0_2q, e0_2⟩ := hQ0_2
  have N0_2 := Fr.app N0_1 N0_2q
  refine own_fw st0_2 ?_
  refine own_fw (A := T0_2.setTop (mkF m 28 #[.val (.int p0), .val (.int (p0 &&& (65535 : Int32))), .val (.int ((p0 &&& (65535 : Int32)).toUInt32.toUInt16.toUInt32.toInt32)), .val (.int (tokF ((p0 &&& (65535 : Int32)).toUInt32.toUInt16.toUInt32.toInt32))), .val (.int (expF (p0 &&& (65535 : Int32))))] [(.int (tokF ((p0 &&& (65535 : Int32)).toUInt32.toUInt16.toUInt32.toInt32)))])) (fun t k => ?_) ?_
  · show Steps p.tables e below (T0_2.setTop (mkF m 17 #[.val (.int p0), .val (.int (p0 &&& (65535 : Int32))), .val (.int ((p0 &&& (65535 : Int32)).toUInt32.toUInt16.toUInt32.toInt32)), .val (.int (tokF ((p0 &&& (65535 : Int32)).toUInt32.toUInt16.toUInt32.toInt32))), .unset] [(.int (expF (p0 &&& (65535 : Int32))))])) t
    refine XS.istore X0_2.here hx rfl (hb hby at_17) rfl (l' := #[.val (.int p0), .val (.int (p0 &&& (65535 : Int32))), .val (.int ((p0 &&& (65535 : Int32)).toUInt32.toUInt16.toUInt32.toInt32)), .val (.int (tokF ((p0 &&& (65535 : Int32)).toUInt32.toUInt16.toUInt32.toInt32))), .val (.int (expF (p0 &&& (65535 : Int32))))]) rfl ?_
    show Steps p.tables e below (T0_2.setTop (mkF m 19 #[.val (.int p0), .val (.int (p0 &&& (65535 : Int32))), .val (.int ((p0 &&& (65535 : Int32)).toUInt32.toUInt16.toUInt32.toInt32)), .val (.int (tokF ((p0 &&& (65535 : Int32)).toUInt32.toUInt16.toUInt32.toInt32))), .val (.int (expF (p0 &&& (65535 : Int32))))] [])) t
    refine XS.iloadN X0_2.here hx rfl (hb hby at_19) rfl ?_
    show Steps p.tables e below (T0_2.setTop (mkF m 20 #[.val (.int p0), .val (.int (p0 &&& (65535 : Int32))), .val (.int ((p0 &&& (65535 : Int32)).toUInt32.toUInt16.toUInt32.toInt32)), .val (.int (tokF ((p0 &&& (65535 : Int32)).toUInt32.toUInt16.toUInt32.toInt32))), .val (.int (expF (p0 &&& (65535 : Int32))))] [(.int (tokF ((p0 &&& (65535 : Int32)).toUInt32.toUInt16.toUInt32.toInt32)))])) t
    refine XS.iload X0_2.here hx rfl (hb hby at_20) rfl ?_
    show Steps p.tables e below (T0_2.setTop (mkF m 22 #[.val (.int p0), .val (.int (p0 &&& (65535 : Int32))), .val (.int ((p0 &&& (65535 : Int32)).toUInt32.toUInt16.toUInt32.toInt32)), .val (.int (tokF ((p0 &&& (65535 : Int32)).toUInt32.toUInt16.toUInt32.toInt32))), .val (.int (expF (p0 &&& (65535 : Int32))))] [(.int (expF (p0 &&& (65535 : Int32)))), (.int (tokF ((p0 &&& (65535 : Int32)).toUInt32.toUInt16.toUInt32.toInt32)))])) t
    refine XS.icmpYes X0_2.here hx rfl (pc0 := 22) (pc' := 27) rfl (hb hby at_22) rfl (teq (own_b22 p0)).1 (by decide) (by decide) ?_
    show Steps p.tables e below (T0_2.setTop (mkF m 27 #[.val (.int p0), .val (.int (p0 &&& (65535 : Int32))), .val (.int ((p0 &&& (65535 : Int32)).toUInt32.toUInt16.toUInt32.toInt32)), .val (.int (tokF ((p0 &&& (65535 : Int32)).toUInt32.toUInt16.toUInt32.toInt32))), .val (.int (expF (p0 &&& (65535 : Int32))))] [])) t
    refine XS.iloadN X0_2.here hx rfl (hb hby at_27) rfl ?_
    exact k
  by_cases hc0_1 : (tokF ((p0 &&& (65535 : Int32)).toUInt32.toUInt16.toUInt32.toInt32)) = (0 : Int32)
  · refine own_fw (A := T0_2.setTop (mkF m 41 #[.val (.int p0), .val (.int (p0 &&& (65535 : Int32))), .val (.int ((p0 &&& (65535 : Int32)).toUInt32.toUInt16.toUInt32.toInt32)), .val (.int (tokF ((p0 &&& (65535 : Int32)).toUInt32.toUInt16.toUInt32.toInt32))), .val (.int (expF (p0 &&& (65535 : Int32))))] [])) (fun t k => ?_) ?_
    · show Steps p.tables e below (T0_2.setTop (mkF m 28 #[.val (.int p0), .val (.int (p0 &&& (65535 : Int32))), .val (.int ((p0 &&& (65535 : Int32)).toUInt32.toUInt16.toUInt32.toInt32)), .val (.int (tokF ((p0 &&& (65535 : Int32)).toUInt32.toUInt16.toUInt32.toInt32))), .val (.int (expF (p0 &&& (65535 : Int32))))] [(.int (tokF ((p0 &&& (65535 : Int32)).toUInt32.toUInt16.toUInt32.toInt32)))])) t
      refine XS.ifYes X0_2.here hx rfl (pc0 := 28) (pc' := 41) rfl (hb hby at_28) rfl ((if0 _ _).trans (teq hc0_1).1) (by decide) (by decide) ?_
      exact k
    refine own_fw (A := T0_2.setTop (mkF m 42 #[.val (.int p0), .val (.int (p0 &&& (65535 : Int32))), .val (.int ((p0 &&& (65535 : Int32)).toUInt32.toUInt16.toUInt32.toInt32)), .val (.int (tokF ((p0 &&& (65535 : Int32)).toUInt32.toUInt16.toUInt32.toInt32))), .val (.int (expF (p0 &&& (65535 : Int32))))] [(.int (1 : Int32))])) (fun t k => ?_) ?_
    · show Steps p.tables e below (T0_2.setTop (mkF m 41 #[.val (.int p0), .val (.int (p0 &&& (65535 : Int32))), .val (.int ((p0 &&& (65535 : Int32)).toUInt32.toUInt16.toUInt32.toInt32)), .val (.int (tokF ((p0 &&& (65535 : Int32)).toUInt32.toUInt16.toUInt32.toInt32))), .val (.int (expF (p0 &&& (65535 : Int32))))] [])) t
      refine XS.iconst X0_2.here hx rfl (hb hby at_41) ?_
      exact k
    obtain ⟨fs, hr, hrun, hended, hW, hsame⟩ := X0_2.leave (v := some (.int (nar .boolean (1 : Int32)))) (fun h => by rw [Bd.returns] at h; cases h)
    exact ⟨_, _, retN X0_2 hx (t := .boolean) Bd.returns (by simp) (hb hby at_42) hr, hrun, hended, _, _, rfl, ⟨rfl, N0_2⟩, ⟨_, rfl⟩, hW, hsame.mono (by decide) (by decide)⟩
  · refine own_fw (A := T0_2.setTop (mkF m 31 #[.val (.int p0), .val (.int (p0 &&& (65535 : Int32))), .val (.int ((p0 &&& (65535 : Int32)).toUInt32.toUInt16.toUInt32.toInt32)), .val (.int (tokF ((p0 &&& (65535 : Int32)).toUInt32.toUInt16.toUInt32.toInt32))), .val (.int (expF (p0 &&& (65535 : Int32))))] [])) (fun t k => ?_) ?_
    · show Steps p.tables e below (T0_2.setTop (mkF m 28 #[.val (.int p0), .val (.int (p0 &&& (65535 : Int32))), .val (.int ((p0 &&& (65535 : Int32)).toUInt32.toUInt16.toUInt32.toInt32)), .val (.int (tokF ((p0 &&& (65535 : Int32)).toUInt32.toUInt16.toUInt32.toInt32))), .val (.int (expF (p0 &&& (65535 : Int32))))] [(.int (tokF ((p0 &&& (65535 : Int32)).toUInt32.toUInt16.toUInt32.toInt32)))])) t
      refine XS.ifNo X0_2.here hx rfl (hb hby at_28) rfl ((if0 _ _).trans (feq hc0_1).1) ?_
      exact k
    refine own_fw (A := T0_2.setTop (mkF m 32 #[.val (.int p0), .val (.int (p0 &&& (65535 : Int32))), .val (.int ((p0 &&& (65535 : Int32)).toUInt32.toUInt16.toUInt32.toInt32)), .val (.int (tokF ((p0 &&& (65535 : Int32)).toUInt32.toUInt16.toUInt32.toInt32))), .val (.int (expF (p0 &&& (65535 : Int32))))] [(.int (tokF ((p0 &&& (65535 : Int32)).toUInt32.toUInt16.toUInt32.toInt32)))])) (fun t k => ?_) ?_
    · show Steps p.tables e below (T0_2.setTop (mkF m 31 #[.val (.int p0), .val (.int (p0 &&& (65535 : Int32))), .val (.int ((p0 &&& (65535 : Int32)).toUInt32.toUInt16.toUInt32.toInt32)), .val (.int (tokF ((p0 &&& (65535 : Int32)).toUInt32.toUInt16.toUInt32.toInt32))), .val (.int (expF (p0 &&& (65535 : Int32))))] [])) t
      refine XS.iloadN X0_2.here hx rfl (hb hby at_31) rfl ?_
      exact k
    obtain ⟨_, _, ⟨T0_3, L0_3, k0_3, n0_3⟩, -, X0_3, ⟨Lc0_3, hQ0_3, l0_3, y0_3, z0_3⟩, st0_3⟩ := Jvm.LawKit.callS X0_2 hx (y := (⟨"com/example/coppice/coppice/index/Tokenizer", "tokenCharacter", "(C)C"⟩ : MethodName)) hown (mvT hZ (hw _ (List.mem_of_getElem? (i := 1) rfl))) (mvT hZ (hw _ (List.mem_of_getElem? (i := 2) rfl))) (mvT hZ (hw _ (List.mem_of_getElem? (i := 3) rfl))) (mvT hZ (hw _ (List.mem_of_getElem? (i := 4) rfl))) (by decide) (backOf (W := 0) (rm1 l Z a0 hw [] ((tokF ((p0 &&& (65535 : Int32)).toUInt32.toUInt16.toUInt32.toInt32))) h0 n0 Z0 ) hZ (hw _ (List.mem_of_getElem? (i := 4) rfl)) (hw _ (List.mem_of_getElem? (i := 3) rfl)) (by decide) (by decide)) (g := (mkF m 32 #[.val (.int p0), .val (.int (p0 &&& (65535 : Int32))), .val (.int ((p0 &&& (65535 : Int32)).toUInt32.toUInt16.toUInt32.toInt32)), .val (.int (tokF ((p0 &&& (65535 : Int32)).toUInt32.toUInt16.toUInt32.toInt32))), .val (.int (expF (p0 &&& (65535 : Int32))))] [(.int (tokF ((p0 &&& (65535 : Int32)).toUInt32.toUInt16.toUInt32.toInt32)))])) rfl (by rw [hml]; rfl) (argsL := [(.int (tokF ((p0 &&& (65535 : Int32)).toUInt32.toUInt16.toUInt32.toInt32)))]) (rest := []) (lenOf pd0_0 rfl) rfl (by show 2 * 0 + _ ≤ _; exact Nat.le_of_eq rfl) (hb hby at_32) (fun _ _ => ⟨rfl, e0_2, (by decide : 0 + 0 ≤ _), (by decide : 0 + 0 ≤ _)⟩)
    dsimp only [Pt.U, Pt.locs, Pt.cells, Pt.slots] at X0_3 l0_3 y0_3 z0_3 st0_3 hQ0_3
    subst l0_3 y0_3 z0_3
    obtain ⟨rfl, N0_3q, e0_3⟩ := hQ0_3
    have N0_3 := Fr.app N0_2 N0_3q
    refine own_fw st0_3 ?_
    refine own_fw (A := T0_3.setTop (mkF m 42 #[.val (.int p0), .val (.int (p0 &&& (65535 : Int32))), .val (.int ((p0 &&& (65535 : Int32)).toUInt32.toUInt16.toUInt32.toInt32)), .val (.int (tokF ((p0 &&& (65535 : Int32)).toUInt32.toUInt16.toUInt32.toInt32))), .val (.int (expF (p0 &&& (65535 : Int32))))] [(.int (1 : Int32))])) (fun t k => ?_) ?_
    · show Steps p.tables e below (T0_3.setTop (mkF m 35 #[.val (.int p0), .val (.int (p0 &&& (65535 : Int32))), .val (.int ((p0 &&& (65535 : Int32)).toUInt32.toUInt16.toUInt32.toInt32)), .val (.int (tokF ((p0 &&& (65535 : Int32)).toUInt32.toUInt16.toUInt32.toInt32))), .val (.int (expF (p0 &&& (65535 : Int32))))] [(.int (tokF (tokF ((p0 &&& (65535 : Int32)).toUInt32.toUInt16.toUInt32.toInt32))))])) t
      refine XS.iloadN X0_3.here hx rfl (hb hby at_35) rfl ?_
      show Steps p.tables e below (T0_3.setTop (mkF m 36 #[.val (.int p0), .val (.int (p0 &&& (65535 : Int32))), .val (.int ((p0 &&& (65535 : Int32)).toUInt32.toUInt16.toUInt32.toInt32)), .val (.int (tokF ((p0 &&& (65535 : Int32)).toUInt32.toUInt16.toUInt32.toInt32))), .val (.int (expF (p0 &&& (65535 : Int32))))] [(.int (tokF ((p0 &&& (65535 : Int32)).toUInt32.toUInt16.toUInt32.toInt32))), (.int (tokF (tokF ((p0 &&& (65535 : Int32)).toUInt32.toUInt16.toUInt32.toInt32))))])) t
      refine XS.icmpYes X0_3.here hx rfl (pc0 := 36) (pc' := 41) rfl (hb hby at_36) rfl (teq (own_b36 p0 hc0_1)).1 (by decide) (by decide) ?_
      show Steps p.tables e below (T0_3.setTop (mkF m 41 #[.val (.int p0), .val (.int (p0 &&& (65535 : Int32))), .val (.int ((p0 &&& (65535 : Int32)).toUInt32.toUInt16.toUInt32.toInt32)), .val (.int (tokF ((p0 &&& (65535 : Int32)).toUInt32.toUInt16.toUInt32.toInt32))), .val (.int (expF (p0 &&& (65535 : Int32))))] [])) t
      refine XS.iconst X0_3.here hx rfl (hb hby at_41) ?_
      exact k
    obtain ⟨fs, hr, hrun, hended, hW, hsame⟩ := X0_3.leave (v := some (.int (nar .boolean (1 : Int32)))) (fun h => by rw [Bd.returns] at h; cases h)
    exact ⟨_, _, retN X0_3 hx (t := .boolean) Bd.returns (by simp) (hb hby at_42) hr, hrun, hended, _, _, rfl, ⟨rfl, N0_3⟩, ⟨_, rfl⟩, hW, hsame.mono (by decide) (by decide)⟩
set_option maxRecDepth 65536 in
set_option maxHeartbeats 40000000 in
theorem comes_1 {Post : Tables → Env → Array Value → State → Outcome → State → Prop} (hpost : ∀ tb e args s v u, (limb_1_1.after args s (.returned v) u = true ∧ limb_1_2.after args s (.returned v) u = true ∧ True) → FrameEnd s (.returned v) u (Jvm.fieldLocs frame_1_writes args s ++ Jvm.arrayLocs frame_1_arrays args s ++ Jvm.staticLocs frame_1_statics s) 0 0 → Post tb e args s (.returned v) u) :
    ArmFor flags0 classFile x code maxLocals ret World_1 tables_1 room_1 Calls_1 rest_1 Pre_1 Post := by
  intro l hfl _ _ p e ha hc hk s m args below hf hA hF happ hP
  obtain ⟨hcalls, hrest, hpre⟩ := hP
  obtain ⟨-, -, -, hnamed, -, -, -, hat⟩ := (Spec.applies_iff hf).mp happ
  obtain ⟨hg, hn⟩ := and_e (Cond.before_iff.mp (show (Jvm.Cond.and given_1 narrow_1).before args s = true from hpre))
  obtain ⟨g1, g2⟩ := and_e hg
  obtain ⟨w0, rfl⟩ : ∃ w0 : Value, args = #[w0] := by
    have hs : args.size = 1 := by simpa [Cond.value, given_1] using g1
    obtain ⟨L⟩ := args
    match L, hs with
    | [w0], _ => exact ⟨w0, rfl⟩
  have hw := fun d (hd : d ∈ tables_1) => atoms_spec (ws := Jvm.Cond.code x code maxLocals ret :: tables_1) hat d (List.mem_cons_of_mem _ hd)
  have hfit : Fit s := fun {y c} hc i hi => by
    obtain ⟨ha, rfl⟩ := Array.getElem?_eq_some_iff.mp hc
    have q := List.all_eq_true.mp ((Array.all_eq_true_iff_forall_mem.mp hF) _ (Array.getElem_mem ha)) i (List.mem_range.mpr hi)
    simpa [Array.getElem?_eq_getElem hi] using q
  obtain ⟨i0, ei0⟩ := is_v g2
  obtain rfl : w0 = (.int i0) := Option.some.inj ei0
  obtain ⟨n, o, h1, h2, h3, _, L, rfl, ⟨rfl, N⟩, hq⟩ := rm0 l s _ hw tables_1 i0  s.heap s.heap.size (Nat.le_refl _)  p e ha hc hk s m _ below hf ((Spec.applies_iff_loose hf).mp happ).1 ⟨rfl, State.Warmed39.refl s, rfl⟩ trivial
  refine ⟨n, _, h1, h2, h3, hpost _ _ _ _ _ _ ⟨Cond.after_iff.mpr rfl, Cond.after_iff.mpr (eq_i res_at (Term.int_eval (1)) rfl), trivial⟩ ⟨hq.1, hq.2.1, (hq.2.2.sift fun y hy => Or.inr (N y hy)).mono (by decide) (by decide)⟩⟩
theorem main_1_1 : Claimed_1_1 := comes_1 fun _ _ _ _ _ _ h hF => ⟨h.1, hF⟩
theorem main_1_2 : Claimed_1_2 := comes_1 fun _ _ _ _ _ _ h hF => ⟨h.2.1, hF⟩
end Jvm.Pilot.@@N@@
namespace Jvm.Pilot.@@N@@
open Jvm Jvm.ClassFile Sem Op Lib Jvm.Free Jvm.Stand Jvm.Pilot.@@N@@.Jvm.D
/-! MADE BY PROGRAM (witnessworld.py) out of the Statement's table words and the real class files: 9 classes; the members and pool entries that the words name. The judged class is class 1, her method 1. -/
namespace start1
open Jvm.ClassFile
def u (s : String) : CpInfo := .utf8 (stringToUtf16 s)
/-- a pool by its gaps: so many unusable entries, then the entry; so many at the end -/
def gap : Nat → List CpInfo → List CpInfo
  | 0, r => r
  | n + 1, r => .unusable :: gap n r
def poolList (es : List (Nat × CpInfo)) (last : Nat) : List CpInfo := es.foldr (fun e r => gap e.1 (e.2 :: r)) (gap last [])
def pool (es : List (Nat × CpInfo)) (last : Nat) : Array CpInfo := ⟨poolList es last⟩
def fileOf (pool : Array CpInfo) (this : Nat) (attrs : Array Attribute := #[]) (ms : Array MethodInfo := #[]) (fl : Nat := 33) (sup : Nat := 0) (ifs : Array Nat := #[]) (fds : Array FieldInfo := #[]) : ClassFile where
  minorVersion := 0
  majorVersion := 65
  constantPool := pool
  accessFlags := fl
  thisClass := this
  superClass := sup
  interfaces := ifs
  fields := fds
  methods := ms
  attributes := attrs
def plain (name : String) (sup : Option ClassId) : Class where
  name := name
  kind := .ordinary
  loader := none
  accessFlags := 33
  super := sup
  interfaces := #[]
  cf := none
  fields := #[]
  methods := #[]
  instanceTypes := #[]
  staticTypes := #[]
  resolved := #[]
  callSites := []
  init := .initialized
  statics := none
  mirror := none

def pool0 : Array CpInfo := pool [(5, u "<init>"), (0, u "()V"), (1, .class_ 10), (1, u "java/lang/Object")] 113

def k0m0 : Method := { name := "<init>", desc := "()V", sig := { parameters := [], returnType := none }, accessFlags := 1, code := none }
/-- java/lang/Object -/
def k0 : Class := { plain "java/lang/Object" none with
  accessFlags := 33
  interfaces := #[]
  cf := some (fileOf pool0 8 #[] #[{ accessFlags := 1, nameIndex := 5, descriptorIndex := 6, attributes := #[] }] 33 0 #[] #[])
  fields := #[]
  methods := #[k0m0]
  instanceTypes := #[]
  staticTypes := #[]
  resolved := Array.replicate 124 none
  statics := none }

def pool1 : Array CpInfo := pool [(2, .class_ 4), (1, u "java/lang/Object"), (0, u "<init>"), (0, u "()V"), (0, .integer 65535), (0, .methodref 9 10), (0, .class_ 11), (0, .nameAndType 12 13), (0, u "com/example/coppice/coppice/index/Tokenizer"), (0, u "tokenCharacter"), (0, u "(C)C"), (0, .methodref 15 16), (0, .class_ 17), (0, .nameAndType 18 19), (0, u "com/example/coppice/coppice/index/TokenizerTokenCharacterPinLaw"), (0, u "expected"), (0, u "(I)I"), (2, u "law"), (0, u "(I)Z")] 3

def k1m0 : Method := { name := "<init>", desc := "()V", sig := { parameters := [], returnType := none }, accessFlags := 2, code := none }
def k1c1 : Code := { maxStack := 2, maxLocals := 5, code := code, exceptionTable := #[], attributes := #[] }
def k1m1 : Method := { name := "law", desc := "(I)Z", sig := { parameters := [.int], returnType := some .boolean }, accessFlags := 9, code := some k1c1 }
def k1c2 : Code := { maxStack := 2, maxLocals := 2, code := method_3_code, exceptionTable := #[], attributes := #[] }
def k1m2 : Method := { name := "expected", desc := "(I)I", sig := { parameters := [.int], returnType := some .int }, accessFlags := 10, code := some k1c2 }
/-- com/example/coppice/coppice/index/TokenizerTokenCharacterPinLaw -/
def k1 : Class := { plain "com/example/coppice/coppice/index/TokenizerTokenCharacterPinLaw" (some 0) with
  accessFlags := 49
  interfaces := #[]
  cf := some (fileOf pool1 15 #[] #[{ accessFlags := 2, nameIndex := 5, descriptorIndex := 6, attributes := #[] }, { accessFlags := 9, nameIndex := 22, descriptorIndex := 23, attributes := #[] }, { accessFlags := 10, nameIndex := 18, descriptorIndex := 19, attributes := #[] }] 49 2 #[] #[])
  fields := #[]
  methods := #[k1m0, k1m1, k1m2]
  instanceTypes := #[]
  staticTypes := #[]
  resolved := Array.replicate 27 none
  statics := none }

def pool2 : Array CpInfo := pool [(2, .class_ 4), (1, u "java/lang/Object"), (0, u "<init>"), (0, u "()V"), (14, .class_ 23), (1, u "com/example/coppice/coppice/index/Tokenizer"), (4, u "tokenCharacter"), (0, u "(C)C"), (1, .class_ 33), (1, u "com/example/coppice/coppice/index/Tokenizer$Sink")] 59

def k2m0 : Method := { name := "<init>", desc := "()V", sig := { parameters := [], returnType := none }, accessFlags := 2, code := none }
def k2c1 : Code := { maxStack := 2, maxLocals := 1, code := prog_115_method_4_code, exceptionTable := #[], attributes := #[] }
def k2m1 : Method := { name := "tokenCharacter", desc := "(C)C", sig := { parameters := [.char], returnType := some .char }, accessFlags := 9, code := some k2c1 }
/-- com/example/coppice/coppice/index/Tokenizer -/
def k2 : Class := { plain "com/example/coppice/coppice/index/Tokenizer" (some 0) with
  accessFlags := 49
  interfaces := #[]
  cf := some (fileOf pool2 21 #[.nestMembers #[31]] #[{ accessFlags := 2, nameIndex := 5, descriptorIndex := 6, attributes := #[] }, { accessFlags := 9, nameIndex := 28, descriptorIndex := 29, attributes := #[] }] 49 2 #[] #[])
  fields := #[]
  methods := #[k2m0, k2m1]
  instanceTypes := #[]
  staticTypes := #[]
  resolved := Array.replicate 93 none
  statics := none }

def pool3 : Array CpInfo := pool [(1, u "java/lang/Cloneable"), (0, .class_ 1), (0, u "java/lang/Object"), (0, .class_ 3)] 3

/-- java/lang/Cloneable -/
def k3 : Class := { plain "java/lang/Cloneable" (some 0) with
  accessFlags := 1537
  interfaces := #[]
  cf := some (fileOf pool3 2 #[] #[] 1537 4 #[] #[])
  fields := #[]
  methods := #[]
  instanceTypes := #[]
  staticTypes := #[]
  resolved := Array.replicate 8 none
  statics := none }

def pool4 : Array CpInfo := pool [(1, u "java/io/Serializable"), (0, .class_ 1), (0, u "java/lang/Object"), (0, .class_ 3)] 3

/-- java/io/Serializable -/
def k4 : Class := { plain "java/io/Serializable" (some 0) with
  accessFlags := 1537
  interfaces := #[]
  cf := some (fileOf pool4 2 #[] #[] 1537 4 #[] #[])
  fields := #[]
  methods := #[]
  instanceTypes := #[]
  staticTypes := #[]
  resolved := Array.replicate 8 none
  statics := none }

/-- the primitive byte -/
def k5 : Class := { plain "byte" none with kind := .primitive 'B', accessFlags := 0x411 }
/-- [B -/
def k6 : Class := { plain "[B" (some 0) with kind := .array 5 .byte, interfaces := #[3, 4], accessFlags := 1041 }

/-- the primitive int -/
def k7 : Class := { plain "int" none with kind := .primitive 'I', accessFlags := 0x411 }
/-- [I -/
def k8 : Class := { plain "[I" (some 0) with kind := .array 7 .int, interfaces := #[3, 4], accessFlags := 1041 }

def heap : Heap := #[]
def classes : Array Class := #[k0, k1, k2, k3, k4, k5, k6, k7, k8]
def interned : List (Array UInt16 × Addr) := []
def slotsUsed : Nat := 0
def theMethod : MethodId := ⟨1, 1⟩
def args0 : Array Value := #[.int 5]
def aboutOver (below : List Frame) : State where
  vm := { classes := classes, interned := interned.toArray }
  heap := heap
  slotsUsed := slotsUsed
  threads := #[{ frames := .invoking theMethod args0 :: below }]
def below0 : List Frame := [.native { method := ⟨0, 0⟩, args := #[] }]
def about1 : State := aboutOver below0
def p0 : Program := .bare "" "" ""
def e0 : Env := launch0.env 0 0 0
theorem w_frames : about1.frames = Frame.invoking theMethod args0 :: below0 := rfl
set_option maxRecDepth 65536 in
theorem w_args : argsFit about1.vm theMethod args0 = true := by decide +kernel
set_option maxRecDepth 65536 in
theorem w_heap : heapFits about1 = true := by decide +kernel
set_option maxRecDepth 65536 in
theorem w_runnable : about1.curStatus? = some .runnable := by decide +kernel
set_option maxRecDepth 65536 in
theorem w_alone : about1.alone = true := by decide +kernel
set_option maxRecDepth 65536 in
theorem w_named : about1.methodNamed? x = some theMethod := by decide +kernel
set_option maxRecDepth 65536 in
theorem w_hears : about1.hears theMethod below0 = true := by decide +kernel
set_option maxRecDepth 65536 in
theorem w_ripe : about1.ripe theMethod args0 below0 = true := by decide +kernel
theorem w_running : about1.status = .running := rfl
set_option maxRecDepth 65536 in
theorem w_room : about1.hasRoom e0.platform room_1 = true :=
  launch0.hasRoom_least _ room_1 (by decide +kernel) (by decide +kernel) (by decide +kernel) (by decide +kernel) (by decide +kernel) (by decide +kernel)
theorem allAtoms_all (ts : List Jvm.Cond) (a : Array Jvm.Value) (st : Jvm.State) : (allAtoms ts).before a st = ts.all (fun c => c.before a st) := by
  induction ts with
  | nil => rfl
  | cons c t ih =>
    show (Jvm.Cond.and c (allAtoms t)).before a st = _
    rw [Jvm.Cond.before_and, ih, List.all_cons]
def words1 : List Jvm.Cond := Jvm.Cond.code x code maxLocals ret :: tables_1
/-- a 'code' word, met by the world's own term for the bytes: nothing is compared byte by byte -/
theorem code_word {y : MethodName} {bytes : ByteArray} {mx : Nat} {rt : Option FieldType} {a : Array Value} {s : State} {m : MethodId} {meth : Method} {c : Code} (h1 : s.methodNamed? y = some m) (h2 : s.vm.method? m = some meth) (h3 : meth.code = some c) (h4 : c.code = bytes)
    (h5 : (c.maxLocals == mx && c.exceptionTable.isEmpty && decide (c.maxStack ≤ mostOperands) && decide (meth.sig.returnType = rt) && !meth.locks && decide (parseMethodDescriptor y.desc = some meth.sig)) = true) : (Jvm.Cond.code y bytes mx rt).before a s = true := by
  simp only [Bool.and_eq_true, beq_iff_eq, Bool.not_eq_true', decide_eq_true_eq] at h5
  obtain ⟨⟨⟨⟨⟨g1, g2⟩, g3⟩, g4⟩, g5⟩, g6⟩ := h5
  simp [Cond.before, Cond.holds, Cond.value, h1, h2, h3, h4, g1, g2, g3, g4, g5, g6]
def isCode : Jvm.Cond → Bool
  | .code _ _ _ _ => true
  | _ => false
theorem all_split {L : List Jvm.Cond} {P : Jvm.Cond → Bool} (h1 : L.all (fun c => isCode c || P c) = true) (h2 : ∀ c ∈ L.filter isCode, P c = true) : L.all P = true := by
  refine List.all_eq_true.mpr fun c hc => ?_
  have h := List.all_eq_true.mp h1 c hc
  rcases Bool.eq_false_or_eq_true (isCode c) with hi | hi
  · exact h2 c (List.mem_filter.mpr ⟨hc, hi⟩)
  · simpa [hi] using h
set_option maxRecDepth 65536 in
theorem w_c0 : (Jvm.Cond.code x code maxLocals ret).before args0 about1 = true := code_word (m := ⟨1, 1⟩) (meth := k1m1) (c := k1c1) (by decide +kernel) rfl rfl rfl (by decide +kernel)
set_option maxRecDepth 65536 in
theorem w_c1 : (Jvm.Cond.code ({ cls := "com/example/coppice/coppice/index/Tokenizer", name := "tokenCharacter", desc := "(C)C" } : Jvm.MethodName) prog_115_method_4_code (1 : Nat) (Option.some Jvm.ClassFile.FieldType.char)).before args0 about1 = true := code_word (m := ⟨2, 1⟩) (meth := k2m1) (c := k2c1) (by decide +kernel) rfl rfl rfl (by decide +kernel)
set_option maxRecDepth 65536 in
theorem w_c2 : (Jvm.Cond.code ({ cls := "com/example/coppice/coppice/index/TokenizerTokenCharacterPinLaw", name := "expected", desc := "(I)I" } : Jvm.MethodName) method_3_code (2 : Nat) (Option.some Jvm.ClassFile.FieldType.int)).before args0 about1 = true := code_word (m := ⟨1, 2⟩) (meth := k1m2) (c := k1c2) (by decide +kernel) rfl rfl rfl (by decide +kernel)
def codes1 : List Jvm.Cond := [Jvm.Cond.code x code maxLocals ret, Jvm.Cond.code ({ cls := "com/example/coppice/coppice/index/Tokenizer", name := "tokenCharacter", desc := "(C)C" } : Jvm.MethodName) prog_115_method_4_code (1 : Nat) (Option.some Jvm.ClassFile.FieldType.char), Jvm.Cond.code ({ cls := "com/example/coppice/coppice/index/TokenizerTokenCharacterPinLaw", name := "expected", desc := "(I)I" } : Jvm.MethodName) method_3_code (2 : Nat) (Option.some Jvm.ClassFile.FieldType.int)]
set_option maxRecDepth 65536 in
theorem codes_eq : words1.filter isCode = codes1 := rfl
theorem w_codes : ∀ c ∈ words1.filter isCode, c.before args0 about1 = true := by
  rw [codes_eq]
  intro c hc
  simp only [codes1, List.mem_cons, List.not_mem_nil, or_false] at hc
  rcases hc with rfl | rfl | rfl
  · exact w_c0
  · exact w_c1
  · exact w_c2
set_option maxRecDepth 65536 in
theorem w_t1 : words1.all (fun c => isCode c || c.before args0 about1) = true := by decide +kernel
theorem w_tables : (allAtoms (Jvm.Cond.code x code maxLocals ret :: tables_1)).before args0 about1 = true := by
  rw [allAtoms_all]
  show words1.all (fun c => c.before args0 about1) = true
  refine all_split ?_ w_codes
  rw [w_t1]
set_option maxRecDepth 65536 in
theorem w_case : (Jvm.Cond.and given_1 narrow_1).before args0 about1 = true := by decide +kernel
theorem w_applies : (headSpec (Jvm.Cond.code x code maxLocals ret :: tables_1) room_1).applies x e0.platform about1 = true :=
  (Spec.applies_iff w_frames).mpr ⟨w_running, w_runnable, w_alone, w_named, w_hears, w_ripe, w_room, w_tables⟩
theorem atStart : AtStart classFile x code maxLocals ret World_1 tables_1 room_1 Calls_1 rest_1 Pre_1 launch0 p0 e0 about1 theMethod args0 below0 :=
  ⟨lists_1, trivial, launch0.admits_env _ _ _, launch0.least_env, fairChoices_fair.cas, fairChoices_fair.clock, w_frames, w_args, w_heap, w_applies, trivial, trivial, w_case⟩
end start1
theorem witness_1 : WitnessClaimed_1 := ⟨start1.p0, start1.e0, start1.about1, start1.theMethod, start1.args0, start1.below0, start1.atStart⟩
end Jvm.Pilot.@@N@@
