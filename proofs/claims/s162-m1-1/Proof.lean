import JvmDerived
import JvmDerived.Pilot.@@N@@Statement
import JvmDerived.Pilot.@@N@@Code
set_option linter.unusedVariables false
set_option linter.unusedSimpArgs false
namespace Jvm.RoadKit
open Sem ClassFile Op Lib Jvm.Stand Jvm.Free Jvm.LawKit
section New
variable {p : Program} {l : Launch} {e : Env} {R : Room} {s : State} {m : MethodId} {args : Array Value} {below : List Frame} {meth : Method} {c : Code} {T : State} {locs : List Loc} {cells slots : Nat}
theorem retI (X : Stand p l e R s m args below meth c T locs cells slots) (hx : p.tables.exec = Jvm.exec) {pc : Nat} {Ls : Array Slot} {z : Int32} {rest : List Value} (hret : meth.sig.returnType = some .int) (hd : decode c.code pc = .ok (.ireturn, 1)) {fs : List Frame}
    (hl : ∀ (f : JFrame) (acts : List Action), f.method = m → f.locked = none → f.entered = [] → (doReturn e (T.setTop f) acts (some (.int z))).1 = T.setFrames fs) : Steps p.tables e below (T.setTop (mkF m pc Ls (.int z :: rest))) (T.setFrames fs) := by
  have hm' : T.vm.method? m = some meth := X.method'
  have hn : narrow .int (.int z) = .int z := rfl
  show Steps p.tables e below (T.setTop { method := m, pc := pc, locals := Ls, stack := _ :: rest, locked := none }) _
  jvm_step X.here [X.here.top, hx, hd, hm', hret, hn]
  first | (intro acts; rw [hl _ acts rfl rfl rfl]) | rw [hl _ _ rfl rfl rfl]
  exact Steps.refl _
theorem retL (X : Stand p l e R s m args below meth c T locs cells slots) (hx : p.tables.exec = Jvm.exec) {pc : Nat} {Ls : Array Slot} {z : Int64} {rest : List Value} (hret : meth.sig.returnType = some .long) (hd : decode c.code pc = .ok (.lreturn, 1)) {fs : List Frame}
    (hl : ∀ (f : JFrame) (acts : List Action), f.method = m → f.locked = none → f.entered = [] → (doReturn e (T.setTop f) acts (some (.long z))).1 = T.setFrames fs) : Steps p.tables e below (T.setTop (mkF m pc Ls (.long z :: rest))) (T.setFrames fs) := by
  have hm' : T.vm.method? m = some meth := X.method'
  have hn : narrow .long (.long z) = .long z := rfl
  show Steps p.tables e below (T.setTop { method := m, pc := pc, locals := Ls, stack := _ :: rest, locked := none }) _
  jvm_step X.here [X.here.top, hx, hd, hm', hret, hn]
  first | (intro acts; rw [hl _ acts rfl rfl rfl]) | rw [hl _ _ rfl rfl rfl]
  exact Steps.refl _
theorem retA (X : Stand p l e R s m args below meth c T locs cells slots) (hx : p.tables.exec = Jvm.exec) {pc : Nat} {Ls : Array Slot} {z : Value} {ty : FieldType} {rest : List Value} (hv : z.isRef = true) (hty : ty.isReference = true) (hret : meth.sig.returnType = some ty) (hd : decode c.code pc = .ok (.areturn, 1)) {fs : List Frame}
    (hl : ∀ (f : JFrame) (acts : List Action), f.method = m → f.locked = none → f.entered = [] → (doReturn e (T.setTop f) acts (some z)).1 = T.setFrames fs) : Steps p.tables e below (T.setTop (mkF m pc Ls (z :: rest))) (T.setFrames fs) := by
  have hm' : T.vm.method? m = some meth := X.method'
  show Steps p.tables e below (T.setTop { method := m, pc := pc, locals := Ls, stack := _ :: rest, locked := none }) _
  jvm_step X.here [X.here.top, hx, hd, hm', hret, hv, hty]
  first | (intro acts; rw [hl _ acts rfl rfl rfl]) | rw [hl _ _ rfl rfl rfl]
  exact Steps.refl _
end New
theorem own_fw {tb : Tables} {e : Env} {below : List Frame} {A B : State} {P : State → Outcome → Prop} (h : ∀ t, Steps tb e below A t → Steps tb e below B t) (k : ∃ t o, Steps tb e below A t ∧ P t o) : ∃ t o, Steps tb e below B t ∧ P t o := by
  obtain ⟨t, o, h1, h2⟩ := k
  exact ⟨t, o, h t h1, h2⟩
def own_irem (x y : Int32) : Int32 := x - (x / y) * y
def own_lrem (x y : Int64) : Int64 := x - (x / y) * y
end Jvm.RoadKit
namespace Jvm.Pilot.@@N@@
open Jvm Jvm.ClassFile Sem Op Lib Jvm.Free Jvm.Stand Jvm.LawKit Jvm.RoadKit Bundle Jvm.Pilot.@@N@@.Jvm.D
theorem d1_0 : decode prog_1_method_12_code 0 = .ok (.iload_n 0, 1) := by decide +kernel
theorem d1_1 : decode prog_1_method_12_code 1 = .ok (.bipush 97, 2) := by decide +kernel
theorem d1_3 : decode prog_1_method_12_code 3 = .ok (.if_icmp .lt 9, 3) := by decide +kernel
theorem d1_6 : decode prog_1_method_12_code 6 = .ok (.iload_n 0, 1) := by decide +kernel
theorem d1_7 : decode prog_1_method_12_code 7 = .ok (.bipush 122, 2) := by decide +kernel
theorem d1_9 : decode prog_1_method_12_code 9 = .ok (.if_icmp .le 15, 3) := by decide +kernel
theorem d1_12 : decode prog_1_method_12_code 12 = .ok (.iload_n 0, 1) := by decide +kernel
theorem d1_13 : decode prog_1_method_12_code 13 = .ok (.bipush 65, 2) := by decide +kernel
theorem d1_15 : decode prog_1_method_12_code 15 = .ok (.if_icmp .lt 13, 3) := by decide +kernel
theorem d1_18 : decode prog_1_method_12_code 18 = .ok (.iload_n 0, 1) := by decide +kernel
theorem d1_19 : decode prog_1_method_12_code 19 = .ok (.bipush 90, 2) := by decide +kernel
theorem d1_21 : decode prog_1_method_12_code 21 = .ok (.if_icmp .gt 7, 3) := by decide +kernel
theorem d1_24 : decode prog_1_method_12_code 24 = .ok (.iconst 1, 1) := by decide +kernel
theorem d1_25 : decode prog_1_method_12_code 25 = .ok (.goto 4, 3) := by decide +kernel
theorem d1_28 : decode prog_1_method_12_code 28 = .ok (.iconst 0, 1) := by decide +kernel
theorem d1_29 : decode prog_1_method_12_code 29 = .ok (.istore_n 1, 1) := by decide +kernel
theorem d1_30 : decode prog_1_method_12_code 30 = .ok (.iload_n 0, 1) := by decide +kernel
theorem d1_31 : decode prog_1_method_12_code 31 = .ok (.bipush 48, 2) := by decide +kernel
theorem d1_33 : decode prog_1_method_12_code 33 = .ok (.if_icmp .lt 13, 3) := by decide +kernel
theorem d1_36 : decode prog_1_method_12_code 36 = .ok (.iload_n 0, 1) := by decide +kernel
theorem d1_37 : decode prog_1_method_12_code 37 = .ok (.bipush 57, 2) := by decide +kernel
theorem d1_39 : decode prog_1_method_12_code 39 = .ok (.if_icmp .gt 7, 3) := by decide +kernel
theorem d1_42 : decode prog_1_method_12_code 42 = .ok (.iconst 1, 1) := by decide +kernel
theorem d1_43 : decode prog_1_method_12_code 43 = .ok (.goto 4, 3) := by decide +kernel
theorem d1_46 : decode prog_1_method_12_code 46 = .ok (.iconst 0, 1) := by decide +kernel
theorem d1_47 : decode prog_1_method_12_code 47 = .ok (.istore_n 2, 1) := by decide +kernel
theorem d1_48 : decode prog_1_method_12_code 48 = .ok (.iload_n 1, 1) := by decide +kernel
theorem d1_49 : decode prog_1_method_12_code 49 = .ok (.ifCond .ne 19, 3) := by decide +kernel
theorem d1_52 : decode prog_1_method_12_code 52 = .ok (.iload_n 2, 1) := by decide +kernel
theorem d1_53 : decode prog_1_method_12_code 53 = .ok (.ifCond .ne 15, 3) := by decide +kernel
theorem d1_56 : decode prog_1_method_12_code 56 = .ok (.iload_n 0, 1) := by decide +kernel
theorem d1_57 : decode prog_1_method_12_code 57 = .ok (.bipush 45, 2) := by decide +kernel
theorem d1_59 : decode prog_1_method_12_code 59 = .ok (.if_icmp .eq 9, 3) := by decide +kernel
theorem d1_62 : decode prog_1_method_12_code 62 = .ok (.iload_n 0, 1) := by decide +kernel
theorem d1_63 : decode prog_1_method_12_code 63 = .ok (.bipush 46, 2) := by decide +kernel
theorem d1_65 : decode prog_1_method_12_code 65 = .ok (.if_icmp .ne 7, 3) := by decide +kernel
theorem d1_68 : decode prog_1_method_12_code 68 = .ok (.iconst 1, 1) := by decide +kernel
theorem d1_69 : decode prog_1_method_12_code 69 = .ok (.goto 4, 3) := by decide +kernel
theorem d1_72 : decode prog_1_method_12_code 72 = .ok (.iconst 0, 1) := by decide +kernel
theorem d1_73 : decode prog_1_method_12_code 73 = .ok (.ireturn, 1) := by decide +kernel
theorem pn1 : plainName "com/example/access_decision/accessdecision/AccessContext" = true := by first | (simp [plainName, overriddenIn]; done) | decide +kernel
theorem ef1 (m : MethodId) (p0 : Int32) : entryFrame m #[(.int p0)] 3 = mkF m 0 #[.val (.int p0), .unset, .unset] [] := by first | (simp [entryFrame, mkF, argsToLocals, Value.category]; done) | rfl
def hLet (p0 : Int32) : Int32 := (if p0 < (97 : Int32) then (if p0 < (65 : Int32) then (0 : Int32) else (if (90 : Int32) < p0 then (0 : Int32) else (1 : Int32))) else (if (122 : Int32) < p0 then (if p0 < (65 : Int32) then (0 : Int32) else (if (90 : Int32) < p0 then (0 : Int32) else (1 : Int32))) else (1 : Int32)))
def hDig (p0 : Int32) : Int32 := (if p0 < (48 : Int32) then (0 : Int32) else (if (57 : Int32) < p0 then (0 : Int32) else (1 : Int32)))
def hostF (p0 : Int32) : Int32 := (if (hLet p0) = (0 : Int32) then (if (hDig p0) = (0 : Int32) then (if p0 = (45 : Int32) then (nar .boolean (1 : Int32)) else (if p0 = (46 : Int32) then (nar .boolean (1 : Int32)) else (nar .boolean (0 : Int32)))) else (nar .boolean (1 : Int32))) else (nar .boolean (1 : Int32)))
def Q1 (Z : State) (p0 : Int32) (h0 : Heap) (n0 : Nat) (v : Option Value) (h : Heap) (L : List Loc) : Prop := v = some (.int (hostF p0)) ∧ Fr n0 L ∧ h = h0
set_option maxRecDepth 65536 in
set_option maxHeartbeats 40000000 in
theorem rm1 (l : Launch) (Z : State) (a0 : Array Value) (hw : ∀ d ∈ tables_1, d.before a0 Z = true) (ws : List Jvm.Cond) (p0 : Int32) (h0 : Heap) (n0 : Nat) (Z0 : n0 ≤ h0.size) :
    MetFree l (⟨"com/example/access_decision/accessdecision/AccessContext", "isHostNameCharacter", "(C)Z"⟩ : MethodName) (head1 (Jvm.Cond.code (⟨"com/example/access_decision/accessdecision/AccessContext", "isHostNameCharacter", "(C)Z"⟩ : MethodName) prog_1_method_12_code 3 (some .boolean) :: ws) ({ frames := 0, cells := 0, slots := 0, locals := 0 } : Room)) (fun a U => a = #[(.int p0)] ∧ Z.Warmed39 U.vm ∧ U.heap = h0) (fun _ _ _ _ _ => True) (fun _ U o U' => ∃ v L, o = .returned v ∧ Q1 Z p0 h0 n0 v U'.heap L ∧ FrameEnd U o U' L ({ frames := 0, cells := 0, slots := 0, locals := 0 } : Room).cells ({ frames := 0, cells := 0, slots := 0, locals := 0 } : Room).slots) := by
  refine MetFree.of_bodySF (plainFor_of_name pn1) hisR ?_
  intro p e s m args below meth c s₁ Bd hml0 hP hK
  obtain ⟨rfl, hZ, hh⟩ := hP
  have hx := Bd.exec
  have hby := Bd.bytes
  have hml : c.maxLocals = 3 := hml0
  have hown : s.vm.findClass "com/example/access_decision/accessdecision/AccessContext" = some m.cls := findClass_of_methodNamed Bd.named
  have hnm := (name_of_methodNamed Bd.named Bd.method).1
  have X0 : Stand p l e ({ frames := 0, cells := 0, slots := 0, locals := 0 } : Room) s m #[(.int p0)] below meth c s₁ [] 0 0 := Stand.of_body Bd
  have e0 : s₁.heap = h0 := by rw [← hh, Bd.state]; rfl
  have N0 := Fr.nil n0
  refine own_fw (A := s₁.setTop (mkF m 0 #[.val (.int p0), .unset, .unset] [])) (fun t k => castTop (ef1 m p0) k) ?_
  have sg1_0 : ∀ t, Steps p.tables e below (s₁.setTop (mkF m 29 #[.val (.int p0), .unset, .unset] [(.int (hLet p0))])) t → Steps p.tables e below (s₁.setTop (mkF m 0 #[.val (.int p0), .unset, .unset] [])) t := by
    intro t k
    show Steps p.tables e below (s₁.setTop (mkF m 0 #[.val (.int p0), .unset, .unset] [])) t
    refine XS.iloadN X0.here hx rfl (hb hby d1_0) rfl ?_
    show Steps p.tables e below (s₁.setTop (mkF m 1 #[.val (.int p0), .unset, .unset] [(.int p0)])) t
    refine XS.bipush X0.here hx rfl (hb hby d1_1) ?_
    show Steps p.tables e below (s₁.setTop (mkF m 3 #[.val (.int p0), .unset, .unset] [(.int (97 : Int32)), (.int p0)])) t
    by_cases hc1_1 : p0 < (97 : Int32)
    · refine XS.icmpYes X0.here hx rfl (pc0 := 3) (pc' := 12) rfl (hb hby d1_3) rfl (tlt hc1_1).1 (by decide) (by decide) ?_
      show Steps p.tables e below (s₁.setTop (mkF m 12 #[.val (.int p0), .unset, .unset] [])) t
      refine XS.iloadN X0.here hx rfl (hb hby d1_12) rfl ?_
      show Steps p.tables e below (s₁.setTop (mkF m 13 #[.val (.int p0), .unset, .unset] [(.int p0)])) t
      refine XS.bipush X0.here hx rfl (hb hby d1_13) ?_
      show Steps p.tables e below (s₁.setTop (mkF m 15 #[.val (.int p0), .unset, .unset] [(.int (65 : Int32)), (.int p0)])) t
      by_cases hc1_2 : p0 < (65 : Int32)
      · refine XS.icmpYes X0.here hx rfl (pc0 := 15) (pc' := 28) rfl (hb hby d1_15) rfl (tlt hc1_2).1 (by decide) (by decide) ?_
        show Steps p.tables e below (s₁.setTop (mkF m 28 #[.val (.int p0), .unset, .unset] [])) t
        refine XS.iconst X0.here hx rfl (hb hby d1_28) ?_
        have q : hLet p0 = (0 : Int32) := by rw [hLet, if_pos hc1_1, if_pos hc1_2]
        rw [q] at k
        exact k
      · refine XS.icmpNo X0.here hx rfl (hb hby d1_15) rfl (flt hc1_2).1 ?_
        show Steps p.tables e below (s₁.setTop (mkF m 18 #[.val (.int p0), .unset, .unset] [])) t
        refine XS.iloadN X0.here hx rfl (hb hby d1_18) rfl ?_
        show Steps p.tables e below (s₁.setTop (mkF m 19 #[.val (.int p0), .unset, .unset] [(.int p0)])) t
        refine XS.bipush X0.here hx rfl (hb hby d1_19) ?_
        show Steps p.tables e below (s₁.setTop (mkF m 21 #[.val (.int p0), .unset, .unset] [(.int (90 : Int32)), (.int p0)])) t
        by_cases hc1_3 : (90 : Int32) < p0
        · refine XS.icmpYes X0.here hx rfl (pc0 := 21) (pc' := 28) rfl (hb hby d1_21) rfl (tlt hc1_3).2.2.1 (by decide) (by decide) ?_
          show Steps p.tables e below (s₁.setTop (mkF m 28 #[.val (.int p0), .unset, .unset] [])) t
          refine XS.iconst X0.here hx rfl (hb hby d1_28) ?_
          have q : hLet p0 = (0 : Int32) := by rw [hLet, if_pos hc1_1, if_neg hc1_2, if_pos hc1_3]
          rw [q] at k
          exact k
        · refine XS.icmpNo X0.here hx rfl (hb hby d1_21) rfl (flt hc1_3).2.2.1 ?_
          show Steps p.tables e below (s₁.setTop (mkF m 24 #[.val (.int p0), .unset, .unset] [])) t
          refine XS.iconst X0.here hx rfl (hb hby d1_24) ?_
          show Steps p.tables e below (s₁.setTop (mkF m 25 #[.val (.int p0), .unset, .unset] [(.int (1 : Int32))])) t
          refine XS.goto X0.here hx rfl (pc0 := 25) (pc' := 29) rfl (hb hby d1_25) (by decide) (by decide) ?_
          have q : hLet p0 = (1 : Int32) := by rw [hLet, if_pos hc1_1, if_neg hc1_2, if_neg hc1_3]
          rw [q] at k
          exact k
    · refine XS.icmpNo X0.here hx rfl (hb hby d1_3) rfl (flt hc1_1).1 ?_
      show Steps p.tables e below (s₁.setTop (mkF m 6 #[.val (.int p0), .unset, .unset] [])) t
      refine XS.iloadN X0.here hx rfl (hb hby d1_6) rfl ?_
      show Steps p.tables e below (s₁.setTop (mkF m 7 #[.val (.int p0), .unset, .unset] [(.int p0)])) t
      refine XS.bipush X0.here hx rfl (hb hby d1_7) ?_
      show Steps p.tables e below (s₁.setTop (mkF m 9 #[.val (.int p0), .unset, .unset] [(.int (122 : Int32)), (.int p0)])) t
      by_cases hc1_4 : (122 : Int32) < p0
      · refine XS.icmpNo X0.here hx rfl (hb hby d1_9) rfl (tlt hc1_4).2.2.2 ?_
        show Steps p.tables e below (s₁.setTop (mkF m 12 #[.val (.int p0), .unset, .unset] [])) t
        refine XS.iloadN X0.here hx rfl (hb hby d1_12) rfl ?_
        show Steps p.tables e below (s₁.setTop (mkF m 13 #[.val (.int p0), .unset, .unset] [(.int p0)])) t
        refine XS.bipush X0.here hx rfl (hb hby d1_13) ?_
        show Steps p.tables e below (s₁.setTop (mkF m 15 #[.val (.int p0), .unset, .unset] [(.int (65 : Int32)), (.int p0)])) t
        by_cases hc1_5 : p0 < (65 : Int32)
        · refine XS.icmpYes X0.here hx rfl (pc0 := 15) (pc' := 28) rfl (hb hby d1_15) rfl (tlt hc1_5).1 (by decide) (by decide) ?_
          show Steps p.tables e below (s₁.setTop (mkF m 28 #[.val (.int p0), .unset, .unset] [])) t
          refine XS.iconst X0.here hx rfl (hb hby d1_28) ?_
          have q : hLet p0 = (0 : Int32) := by rw [hLet, if_neg hc1_1, if_pos hc1_4, if_pos hc1_5]
          rw [q] at k
          exact k
        · refine XS.icmpNo X0.here hx rfl (hb hby d1_15) rfl (flt hc1_5).1 ?_
          show Steps p.tables e below (s₁.setTop (mkF m 18 #[.val (.int p0), .unset, .unset] [])) t
          refine XS.iloadN X0.here hx rfl (hb hby d1_18) rfl ?_
          show Steps p.tables e below (s₁.setTop (mkF m 19 #[.val (.int p0), .unset, .unset] [(.int p0)])) t
          refine XS.bipush X0.here hx rfl (hb hby d1_19) ?_
          show Steps p.tables e below (s₁.setTop (mkF m 21 #[.val (.int p0), .unset, .unset] [(.int (90 : Int32)), (.int p0)])) t
          by_cases hc1_6 : (90 : Int32) < p0
          · refine XS.icmpYes X0.here hx rfl (pc0 := 21) (pc' := 28) rfl (hb hby d1_21) rfl (tlt hc1_6).2.2.1 (by decide) (by decide) ?_
            show Steps p.tables e below (s₁.setTop (mkF m 28 #[.val (.int p0), .unset, .unset] [])) t
            refine XS.iconst X0.here hx rfl (hb hby d1_28) ?_
            have q : hLet p0 = (0 : Int32) := by rw [hLet, if_neg hc1_1, if_pos hc1_4, if_neg hc1_5, if_pos hc1_6]
            rw [q] at k
            exact k
          · refine XS.icmpNo X0.here hx rfl (hb hby d1_21) rfl (flt hc1_6).2.2.1 ?_
            show Steps p.tables e below (s₁.setTop (mkF m 24 #[.val (.int p0), .unset, .unset] [])) t
            refine XS.iconst X0.here hx rfl (hb hby d1_24) ?_
            show Steps p.tables e below (s₁.setTop (mkF m 25 #[.val (.int p0), .unset, .unset] [(.int (1 : Int32))])) t
            refine XS.goto X0.here hx rfl (pc0 := 25) (pc' := 29) rfl (hb hby d1_25) (by decide) (by decide) ?_
            have q : hLet p0 = (1 : Int32) := by rw [hLet, if_neg hc1_1, if_pos hc1_4, if_neg hc1_5, if_neg hc1_6]
            rw [q] at k
            exact k
      · refine XS.icmpYes X0.here hx rfl (pc0 := 9) (pc' := 24) rfl (hb hby d1_9) rfl (flt hc1_4).2.2.2 (by decide) (by decide) ?_
        show Steps p.tables e below (s₁.setTop (mkF m 24 #[.val (.int p0), .unset, .unset] [])) t
        refine XS.iconst X0.here hx rfl (hb hby d1_24) ?_
        show Steps p.tables e below (s₁.setTop (mkF m 25 #[.val (.int p0), .unset, .unset] [(.int (1 : Int32))])) t
        refine XS.goto X0.here hx rfl (pc0 := 25) (pc' := 29) rfl (hb hby d1_25) (by decide) (by decide) ?_
        have q : hLet p0 = (1 : Int32) := by rw [hLet, if_neg hc1_1, if_neg hc1_4]
        rw [q] at k
        exact k
  refine own_fw sg1_0 ?_
  refine own_fw (A := s₁.setTop (mkF m 30 #[.val (.int p0), .val (.int (hLet p0)), .unset] [])) (fun t k => ?_) ?_
  · show Steps p.tables e below (s₁.setTop (mkF m 29 #[.val (.int p0), .unset, .unset] [(.int (hLet p0))])) t
    refine XS.istoreN X0.here hx rfl (hb hby d1_29) rfl (l' := #[.val (.int p0), .val (.int (hLet p0)), .unset]) rfl ?_
    exact k
  have sg1_30 : ∀ t, Steps p.tables e below (s₁.setTop (mkF m 47 #[.val (.int p0), .val (.int (hLet p0)), .unset] [(.int (hDig p0))])) t → Steps p.tables e below (s₁.setTop (mkF m 30 #[.val (.int p0), .val (.int (hLet p0)), .unset] [])) t := by
    intro t k
    show Steps p.tables e below (s₁.setTop (mkF m 30 #[.val (.int p0), .val (.int (hLet p0)), .unset] [])) t
    refine XS.iloadN X0.here hx rfl (hb hby d1_30) rfl ?_
    show Steps p.tables e below (s₁.setTop (mkF m 31 #[.val (.int p0), .val (.int (hLet p0)), .unset] [(.int p0)])) t
    refine XS.bipush X0.here hx rfl (hb hby d1_31) ?_
    show Steps p.tables e below (s₁.setTop (mkF m 33 #[.val (.int p0), .val (.int (hLet p0)), .unset] [(.int (48 : Int32)), (.int p0)])) t
    by_cases hc1_7 : p0 < (48 : Int32)
    · refine XS.icmpYes X0.here hx rfl (pc0 := 33) (pc' := 46) rfl (hb hby d1_33) rfl (tlt hc1_7).1 (by decide) (by decide) ?_
      show Steps p.tables e below (s₁.setTop (mkF m 46 #[.val (.int p0), .val (.int (hLet p0)), .unset] [])) t
      refine XS.iconst X0.here hx rfl (hb hby d1_46) ?_
      have q : hDig p0 = (0 : Int32) := by rw [hDig, if_pos hc1_7]
      rw [q] at k
      exact k
    · refine XS.icmpNo X0.here hx rfl (hb hby d1_33) rfl (flt hc1_7).1 ?_
      show Steps p.tables e below (s₁.setTop (mkF m 36 #[.val (.int p0), .val (.int (hLet p0)), .unset] [])) t
      refine XS.iloadN X0.here hx rfl (hb hby d1_36) rfl ?_
      show Steps p.tables e below (s₁.setTop (mkF m 37 #[.val (.int p0), .val (.int (hLet p0)), .unset] [(.int p0)])) t
      refine XS.bipush X0.here hx rfl (hb hby d1_37) ?_
      show Steps p.tables e below (s₁.setTop (mkF m 39 #[.val (.int p0), .val (.int (hLet p0)), .unset] [(.int (57 : Int32)), (.int p0)])) t
      by_cases hc1_8 : (57 : Int32) < p0
      · refine XS.icmpYes X0.here hx rfl (pc0 := 39) (pc' := 46) rfl (hb hby d1_39) rfl (tlt hc1_8).2.2.1 (by decide) (by decide) ?_
        show Steps p.tables e below (s₁.setTop (mkF m 46 #[.val (.int p0), .val (.int (hLet p0)), .unset] [])) t
        refine XS.iconst X0.here hx rfl (hb hby d1_46) ?_
        have q : hDig p0 = (0 : Int32) := by rw [hDig, if_neg hc1_7, if_pos hc1_8]
        rw [q] at k
        exact k
      · refine XS.icmpNo X0.here hx rfl (hb hby d1_39) rfl (flt hc1_8).2.2.1 ?_
        show Steps p.tables e below (s₁.setTop (mkF m 42 #[.val (.int p0), .val (.int (hLet p0)), .unset] [])) t
        refine XS.iconst X0.here hx rfl (hb hby d1_42) ?_
        show Steps p.tables e below (s₁.setTop (mkF m 43 #[.val (.int p0), .val (.int (hLet p0)), .unset] [(.int (1 : Int32))])) t
        refine XS.goto X0.here hx rfl (pc0 := 43) (pc' := 47) rfl (hb hby d1_43) (by decide) (by decide) ?_
        have q : hDig p0 = (1 : Int32) := by rw [hDig, if_neg hc1_7, if_neg hc1_8]
        rw [q] at k
        exact k
  refine own_fw sg1_30 ?_
  refine own_fw (A := s₁.setTop (mkF m 49 #[.val (.int p0), .val (.int (hLet p0)), .val (.int (hDig p0))] [(.int (hLet p0))])) (fun t k => ?_) ?_
  · show Steps p.tables e below (s₁.setTop (mkF m 47 #[.val (.int p0), .val (.int (hLet p0)), .unset] [(.int (hDig p0))])) t
    refine XS.istoreN X0.here hx rfl (hb hby d1_47) rfl (l' := #[.val (.int p0), .val (.int (hLet p0)), .val (.int (hDig p0))]) rfl ?_
    show Steps p.tables e below (s₁.setTop (mkF m 48 #[.val (.int p0), .val (.int (hLet p0)), .val (.int (hDig p0))] [])) t
    refine XS.iloadN X0.here hx rfl (hb hby d1_48) rfl ?_
    exact k
  by_cases hc1_9 : (hLet p0) = (0 : Int32)
  · refine own_fw (A := s₁.setTop (mkF m 52 #[.val (.int p0), .val (.int (hLet p0)), .val (.int (hDig p0))] [])) (fun t k => ?_) ?_
    · show Steps p.tables e below (s₁.setTop (mkF m 49 #[.val (.int p0), .val (.int (hLet p0)), .val (.int (hDig p0))] [(.int (hLet p0))])) t
      refine XS.ifNo X0.here hx rfl (hb hby d1_49) rfl ((if0 _ _).trans (teq hc1_9).2) ?_
      exact k
    refine own_fw (A := s₁.setTop (mkF m 53 #[.val (.int p0), .val (.int (hLet p0)), .val (.int (hDig p0))] [(.int (hDig p0))])) (fun t k => ?_) ?_
    · show Steps p.tables e below (s₁.setTop (mkF m 52 #[.val (.int p0), .val (.int (hLet p0)), .val (.int (hDig p0))] [])) t
      refine XS.iloadN X0.here hx rfl (hb hby d1_52) rfl ?_
      exact k
    by_cases hc1_10 : (hDig p0) = (0 : Int32)
    · refine own_fw (A := s₁.setTop (mkF m 56 #[.val (.int p0), .val (.int (hLet p0)), .val (.int (hDig p0))] [])) (fun t k => ?_) ?_
      · show Steps p.tables e below (s₁.setTop (mkF m 53 #[.val (.int p0), .val (.int (hLet p0)), .val (.int (hDig p0))] [(.int (hDig p0))])) t
        refine XS.ifNo X0.here hx rfl (hb hby d1_53) rfl ((if0 _ _).trans (teq hc1_10).2) ?_
        exact k
      refine own_fw (A := s₁.setTop (mkF m 59 #[.val (.int p0), .val (.int (hLet p0)), .val (.int (hDig p0))] [(.int (45 : Int32)), (.int p0)])) (fun t k => ?_) ?_
      · show Steps p.tables e below (s₁.setTop (mkF m 56 #[.val (.int p0), .val (.int (hLet p0)), .val (.int (hDig p0))] [])) t
        refine XS.iloadN X0.here hx rfl (hb hby d1_56) rfl ?_
        show Steps p.tables e below (s₁.setTop (mkF m 57 #[.val (.int p0), .val (.int (hLet p0)), .val (.int (hDig p0))] [(.int p0)])) t
        refine XS.bipush X0.here hx rfl (hb hby d1_57) ?_
        exact k
      by_cases hc1_11 : p0 = (45 : Int32)
      · refine own_fw (A := s₁.setTop (mkF m 68 #[.val (.int p0), .val (.int (hLet p0)), .val (.int (hDig p0))] [])) (fun t k => ?_) ?_
        · show Steps p.tables e below (s₁.setTop (mkF m 59 #[.val (.int p0), .val (.int (hLet p0)), .val (.int (hDig p0))] [(.int (45 : Int32)), (.int p0)])) t
          refine XS.icmpYes X0.here hx rfl (pc0 := 59) (pc' := 68) rfl (hb hby d1_59) rfl (teq hc1_11).1 (by decide) (by decide) ?_
          exact k
        refine own_fw (A := s₁.setTop (mkF m 73 #[.val (.int p0), .val (.int (hLet p0)), .val (.int (hDig p0))] [(.int (1 : Int32))])) (fun t k => ?_) ?_
        · show Steps p.tables e below (s₁.setTop (mkF m 68 #[.val (.int p0), .val (.int (hLet p0)), .val (.int (hDig p0))] [])) t
          refine XS.iconst X0.here hx rfl (hb hby d1_68) ?_
          show Steps p.tables e below (s₁.setTop (mkF m 69 #[.val (.int p0), .val (.int (hLet p0)), .val (.int (hDig p0))] [(.int (1 : Int32))])) t
          refine XS.goto X0.here hx rfl (pc0 := 69) (pc' := 73) rfl (hb hby d1_69) (by decide) (by decide) ?_
          exact k
        obtain ⟨fs, hr, hrun, hended, hW, hsame⟩ := X0.leave (v := some (.int (nar .boolean (1 : Int32)))) (fun h => by rw [Bd.returns] at h; cases h)
        refine ⟨_, _, retN X0 hx (t := .boolean) Bd.returns (by simp) (hb hby d1_73) hr, hrun, hended, _, _, rfl, ⟨(by rw [hostF, if_pos hc1_9, if_pos hc1_10, if_pos hc1_11]), N0, ?_⟩, ⟨_, rfl⟩, hW, hsame.mono (by decide) (by decide)⟩
        exact e0
      · refine own_fw (A := s₁.setTop (mkF m 62 #[.val (.int p0), .val (.int (hLet p0)), .val (.int (hDig p0))] [])) (fun t k => ?_) ?_
        · show Steps p.tables e below (s₁.setTop (mkF m 59 #[.val (.int p0), .val (.int (hLet p0)), .val (.int (hDig p0))] [(.int (45 : Int32)), (.int p0)])) t
          refine XS.icmpNo X0.here hx rfl (hb hby d1_59) rfl (feq hc1_11).1 ?_
          exact k
        refine own_fw (A := s₁.setTop (mkF m 65 #[.val (.int p0), .val (.int (hLet p0)), .val (.int (hDig p0))] [(.int (46 : Int32)), (.int p0)])) (fun t k => ?_) ?_
        · show Steps p.tables e below (s₁.setTop (mkF m 62 #[.val (.int p0), .val (.int (hLet p0)), .val (.int (hDig p0))] [])) t
          refine XS.iloadN X0.here hx rfl (hb hby d1_62) rfl ?_
          show Steps p.tables e below (s₁.setTop (mkF m 63 #[.val (.int p0), .val (.int (hLet p0)), .val (.int (hDig p0))] [(.int p0)])) t
          refine XS.bipush X0.here hx rfl (hb hby d1_63) ?_
          exact k
        by_cases hc1_12 : p0 = (46 : Int32)
        · refine own_fw (A := s₁.setTop (mkF m 68 #[.val (.int p0), .val (.int (hLet p0)), .val (.int (hDig p0))] [])) (fun t k => ?_) ?_
          · show Steps p.tables e below (s₁.setTop (mkF m 65 #[.val (.int p0), .val (.int (hLet p0)), .val (.int (hDig p0))] [(.int (46 : Int32)), (.int p0)])) t
            refine XS.icmpNo X0.here hx rfl (hb hby d1_65) rfl (teq hc1_12).2 ?_
            exact k
          refine own_fw (A := s₁.setTop (mkF m 73 #[.val (.int p0), .val (.int (hLet p0)), .val (.int (hDig p0))] [(.int (1 : Int32))])) (fun t k => ?_) ?_
          · show Steps p.tables e below (s₁.setTop (mkF m 68 #[.val (.int p0), .val (.int (hLet p0)), .val (.int (hDig p0))] [])) t
            refine XS.iconst X0.here hx rfl (hb hby d1_68) ?_
            show Steps p.tables e below (s₁.setTop (mkF m 69 #[.val (.int p0), .val (.int (hLet p0)), .val (.int (hDig p0))] [(.int (1 : Int32))])) t
            refine XS.goto X0.here hx rfl (pc0 := 69) (pc' := 73) rfl (hb hby d1_69) (by decide) (by decide) ?_
            exact k
          obtain ⟨fs, hr, hrun, hended, hW, hsame⟩ := X0.leave (v := some (.int (nar .boolean (1 : Int32)))) (fun h => by rw [Bd.returns] at h; cases h)
          refine ⟨_, _, retN X0 hx (t := .boolean) Bd.returns (by simp) (hb hby d1_73) hr, hrun, hended, _, _, rfl, ⟨(by rw [hostF, if_pos hc1_9, if_pos hc1_10, if_neg hc1_11, if_pos hc1_12]), N0, ?_⟩, ⟨_, rfl⟩, hW, hsame.mono (by decide) (by decide)⟩
          exact e0
        · refine own_fw (A := s₁.setTop (mkF m 72 #[.val (.int p0), .val (.int (hLet p0)), .val (.int (hDig p0))] [])) (fun t k => ?_) ?_
          · show Steps p.tables e below (s₁.setTop (mkF m 65 #[.val (.int p0), .val (.int (hLet p0)), .val (.int (hDig p0))] [(.int (46 : Int32)), (.int p0)])) t
            refine XS.icmpYes X0.here hx rfl (pc0 := 65) (pc' := 72) rfl (hb hby d1_65) rfl (feq hc1_12).2 (by decide) (by decide) ?_
            exact k
          refine own_fw (A := s₁.setTop (mkF m 73 #[.val (.int p0), .val (.int (hLet p0)), .val (.int (hDig p0))] [(.int (0 : Int32))])) (fun t k => ?_) ?_
          · show Steps p.tables e below (s₁.setTop (mkF m 72 #[.val (.int p0), .val (.int (hLet p0)), .val (.int (hDig p0))] [])) t
            refine XS.iconst X0.here hx rfl (hb hby d1_72) ?_
            exact k
          obtain ⟨fs, hr, hrun, hended, hW, hsame⟩ := X0.leave (v := some (.int (nar .boolean (0 : Int32)))) (fun h => by rw [Bd.returns] at h; cases h)
          refine ⟨_, _, retN X0 hx (t := .boolean) Bd.returns (by simp) (hb hby d1_73) hr, hrun, hended, _, _, rfl, ⟨(by rw [hostF, if_pos hc1_9, if_pos hc1_10, if_neg hc1_11, if_neg hc1_12]), N0, ?_⟩, ⟨_, rfl⟩, hW, hsame.mono (by decide) (by decide)⟩
          exact e0
    · refine own_fw (A := s₁.setTop (mkF m 68 #[.val (.int p0), .val (.int (hLet p0)), .val (.int (hDig p0))] [])) (fun t k => ?_) ?_
      · show Steps p.tables e below (s₁.setTop (mkF m 53 #[.val (.int p0), .val (.int (hLet p0)), .val (.int (hDig p0))] [(.int (hDig p0))])) t
        refine XS.ifYes X0.here hx rfl (pc0 := 53) (pc' := 68) rfl (hb hby d1_53) rfl ((if0 _ _).trans (feq hc1_10).2) (by decide) (by decide) ?_
        exact k
      refine own_fw (A := s₁.setTop (mkF m 73 #[.val (.int p0), .val (.int (hLet p0)), .val (.int (hDig p0))] [(.int (1 : Int32))])) (fun t k => ?_) ?_
      · show Steps p.tables e below (s₁.setTop (mkF m 68 #[.val (.int p0), .val (.int (hLet p0)), .val (.int (hDig p0))] [])) t
        refine XS.iconst X0.here hx rfl (hb hby d1_68) ?_
        show Steps p.tables e below (s₁.setTop (mkF m 69 #[.val (.int p0), .val (.int (hLet p0)), .val (.int (hDig p0))] [(.int (1 : Int32))])) t
        refine XS.goto X0.here hx rfl (pc0 := 69) (pc' := 73) rfl (hb hby d1_69) (by decide) (by decide) ?_
        exact k
      obtain ⟨fs, hr, hrun, hended, hW, hsame⟩ := X0.leave (v := some (.int (nar .boolean (1 : Int32)))) (fun h => by rw [Bd.returns] at h; cases h)
      refine ⟨_, _, retN X0 hx (t := .boolean) Bd.returns (by simp) (hb hby d1_73) hr, hrun, hended, _, _, rfl, ⟨(by rw [hostF, if_pos hc1_9, if_neg hc1_10]), N0, ?_⟩, ⟨_, rfl⟩, hW, hsame.mono (by decide) (by decide)⟩
      exact e0
  · refine own_fw (A := s₁.setTop (mkF m 68 #[.val (.int p0), .val (.int (hLet p0)), .val (.int (hDig p0))] [])) (fun t k => ?_) ?_
    · show Steps p.tables e below (s₁.setTop (mkF m 49 #[.val (.int p0), .val (.int (hLet p0)), .val (.int (hDig p0))] [(.int (hLet p0))])) t
      refine XS.ifYes X0.here hx rfl (pc0 := 49) (pc' := 68) rfl (hb hby d1_49) rfl ((if0 _ _).trans (feq hc1_9).2) (by decide) (by decide) ?_
      exact k
    refine own_fw (A := s₁.setTop (mkF m 73 #[.val (.int p0), .val (.int (hLet p0)), .val (.int (hDig p0))] [(.int (1 : Int32))])) (fun t k => ?_) ?_
    · show Steps p.tables e below (s₁.setTop (mkF m 68 #[.val (.int p0), .val (.int (hLet p0)), .val (.int (hDig p0))] [])) t
      refine XS.iconst X0.here hx rfl (hb hby d1_68) ?_
      show Steps p.tables e below (s₁.setTop (mkF m 69 #[.val (.int p0), .val (.int (hLet p0)), .val (.int (hDig p0))] [(.int (1 : Int32))])) t
      refine XS.goto X0.here hx rfl (pc0 := 69) (pc' := 73) rfl (hb hby d1_69) (by decide) (by decide) ?_
      exact k
    obtain ⟨fs, hr, hrun, hended, hW, hsame⟩ := X0.leave (v := some (.int (nar .boolean (1 : Int32)))) (fun h => by rw [Bd.returns] at h; cases h)
    refine ⟨_, _, retN X0 hx (t := .boolean) Bd.returns (by simp) (hb hby d1_73) hr, hrun, hended, _, _, rfl, ⟨(by rw [hostF, if_neg hc1_9]), N0, ?_⟩, ⟨_, rfl⟩, hW, hsame.mono (by decide) (by decide)⟩
    exact e0
theorem own_bit (x : BitVec 32) (h : x.getLsbD 5 = true) : x ||| 32#32 = x := by
  apply BitVec.eq_of_getLsbD_eq
  intro i hi
  rw [BitVec.getLsbD_or]
  have : (32#32).getLsbD i = decide (i = 5) := by
    show (BitVec.twoPow 32 5).getLsbD i = _
    rw [BitVec.getLsbD_twoPow]
    simp [eq_comm]
  rw [this]
  by_cases h5 : i = 5
  · subst h5; rw [h]; rfl
  · simp [h5]
theorem own_nobit (x : BitVec 32) (h : x.getLsbD 5 = false) : x ||| 32#32 = x + 32#32 := by
  rw [BitVec.add_eq_or_of_and_eq_zero]
  apply BitVec.eq_of_getLsbD_eq
  intro i hi
  rw [BitVec.getLsbD_and]
  have : (32#32).getLsbD i = decide (i = 5) := by
    show (BitVec.twoPow 32 5).getLsbD i = _
    rw [BitVec.getLsbD_twoPow]
    simp [eq_comm]
  rw [this]
  by_cases h5 : i = 5
  · subst h5; rw [h]; rfl
  · simp [h5]
theorem own_oi (x : Int32) (h0 : 0 ≤ x.toInt) : (x.toInt / 32 % 2 = 1 → (x ||| (32 : Int32)).toInt = x.toInt) ∧ (¬ x.toInt / 32 % 2 = 1 → x.toInt < 65536 → (x ||| (32 : Int32)).toInt = x.toInt + 32) := by
  have e : x.toInt = (x.toBitVec.toNat : Int) := by
    have := x.toBitVec.toInt_eq_toNat_cond
    have h2 : x.toInt = x.toBitVec.toInt := rfl
    rw [h2] at h0 ⊢
    have := x.toBitVec.isLt
    split at * <;> omega
  have hb : x.toBitVec.getLsbD 5 = decide (x.toBitVec.toNat / 32 % 2 = 1) := by
    show x.toBitVec.toNat.testBit 5 = _
    rw [Nat.testBit_eq_decide_div_mod_eq]
  constructor
  · intro h
    have q : (x ||| (32 : Int32)) = x := by
      rw [← Int32.toBitVec_inj, Int32.toBitVec_or]
      exact own_bit _ (by rw [hb]; exact decide_eq_true (by omega))
    rw [q]
  · intro h h1
    have q : (x ||| (32 : Int32)) = x + 32 := by
      rw [← Int32.toBitVec_inj, Int32.toBitVec_or, Int32.toBitVec_add]
      exact own_nobit _ (by rw [hb]; exact decide_eq_false (by omega))
    rw [q]
    have h3 := c_iadd x 32
    have h4 := rng32 (x + 32)
    have h5 : (32 : Int32).toInt = 32 := rfl
    omega
theorem own_i2c (x : Int32) (h0 : 0 ≤ x.toInt) (h1 : x.toInt < 65536) : x.toUInt32.toUInt16.toUInt32.toInt32 = x := by
  have h := c_i2c x
  rw [← Int32.toInt_inj]
  omega
theorem pn0 : plainName "com/example/access_decision/accessdecision/AccessContextIsHostNameCharacterPinLaw" = true := by first | (simp [plainName, overriddenIn]; done) | decide +kernel
theorem pd0_0 : parseMethodDescriptor "(C)Z" = some ⟨[.char], some .boolean⟩ := by decide +kernel
theorem ef0 (m : MethodId) (p0 : Int32) : entryFrame m #[(.int p0)] maxLocals = mkF m 0 #[.val (.int p0), .unset, .unset, .unset, .unset, .unset, .unset, .unset, .unset] [] := by first | (simp [entryFrame, mkF, argsToLocals, Value.category, maxLocals]; done) | rfl
def gLet (p0 : Int32) : Int32 := (if ((p0.toUInt32.toUInt16.toUInt32.toInt32) ||| (32 : Int32)) < (97 : Int32) then (0 : Int32) else (if (122 : Int32) < ((p0.toUInt32.toUInt16.toUInt32.toInt32) ||| (32 : Int32)) then (0 : Int32) else (1 : Int32)))
def gDig (p0 : Int32) : Int32 := (if ((p0.toUInt32.toUInt16.toUInt32.toInt32) - (48 : Int32)) < (0 : Int32) then (0 : Int32) else (if ((p0.toUInt32.toUInt16.toUInt32.toInt32) - (48 : Int32)) < (10 : Int32) then (1 : Int32) else (0 : Int32)))
def gPun (p0 : Int32) : Int32 := (if ((p0.toUInt32.toUInt16.toUInt32.toInt32) - (45 : Int32)) = (0 : Int32) then (1 : Int32) else (if ((p0.toUInt32.toUInt16.toUInt32.toInt32) - (45 : Int32)) = (1 : Int32) then (1 : Int32) else (0 : Int32)))
def gExp (p0 : Int32) : Int32 := (if (gLet p0) = (0 : Int32) then (if (gDig p0) = (0 : Int32) then (if (gPun p0) = (0 : Int32) then (0 : Int32) else (1 : Int32)) else (1 : Int32)) else (1 : Int32))
theorem own_let (p0 : Int32) : gLet p0 = hLet (p0.toUInt32.toUInt16.toUInt32.toInt32) := by
  obtain ⟨-, h0, h1⟩ := c_i2c p0
  rw [gLet, hLet]
  generalize p0.toUInt32.toUInt16.toUInt32.toInt32 = c at *
  obtain ⟨q1, q2⟩ := own_oi c h0
  simp only [Int32.lt_iff_toInt_lt, Int32.reduceToInt]
  repeat' split
  all_goals first | rfl | (exfalso; omega)
theorem own_dig (p0 : Int32) : gDig p0 = hDig (p0.toUInt32.toUInt16.toUInt32.toInt32) := by
  obtain ⟨-, h0, h1⟩ := c_i2c p0
  rw [gDig, hDig]
  generalize p0.toUInt32.toUInt16.toUInt32.toInt32 = c at *
  have s1 := c_isub c 48
  have r1 := rng32 (c - 48)
  simp only [Int32.lt_iff_toInt_lt, Int32.reduceToInt] at *
  repeat' split
  all_goals first | rfl | (exfalso; omega)
theorem own_pun (p0 : Int32) : gPun p0 = if (p0.toUInt32.toUInt16.toUInt32.toInt32) = (45 : Int32) then (1 : Int32) else (if (p0.toUInt32.toUInt16.toUInt32.toInt32) = (46 : Int32) then 1 else 0) := by
  obtain ⟨-, h0, h1⟩ := c_i2c p0
  rw [gPun]
  generalize p0.toUInt32.toUInt16.toUInt32.toInt32 = c at *
  have s1 := c_isub c 45
  have r1 := rng32 (c - 45)
  simp only [← Int32.toInt_inj, Int32.reduceToInt] at *
  repeat' split
  all_goals first | rfl | (exfalso; omega)
theorem own_main (p0 : Int32) : hostF (p0.toUInt32.toUInt16.toUInt32.toInt32) = gExp p0 := by
  rw [gExp, hostF, own_let, own_dig, own_pun]
  repeat' split
  all_goals first | rfl | (simp_all; done)
def Q0 (Z : State) (p0 : Int32) (h0 : Heap) (n0 : Nat) (v : Option Value) (h : Heap) (L : List Loc) : Prop := v = some (.int 1) ∧ Fr n0 L
set_option maxRecDepth 65536 in
set_option maxHeartbeats 40000000 in
theorem rm0 (l : Launch) (Z : State) (a0 : Array Value) (hw : ∀ d ∈ tables_1, d.before a0 Z = true) (ws : List Jvm.Cond) (p0 : Int32) (h0 : Heap) (n0 : Nat) (Z0 : n0 ≤ h0.size) :
    MetFree l x (head1 (Jvm.Cond.code x code maxLocals ret :: ws) room_1) (fun a U => a = #[(.int p0)] ∧ Z.Warmed39 U.vm ∧ U.heap = h0) (fun _ _ _ _ _ => True) (fun _ U o U' => ∃ v L, o = .returned v ∧ Q0 Z p0 h0 n0 v U'.heap L ∧ FrameEnd U o U' L room_1.cells room_1.slots) := by
  refine MetFree.of_bodySF (plainFor_of_name pn0) hisR ?_
  intro p e s m args below meth c s₁ Bd hml0 hP hK
  obtain ⟨rfl, hZ, hh⟩ := hP
  have hx := Bd.exec
  have hby := Bd.bytes
  have hml : c.maxLocals = 9 := hml0
  have hown : s.vm.findClass "com/example/access_decision/accessdecision/AccessContextIsHostNameCharacterPinLaw" = some m.cls := findClass_of_methodNamed Bd.named
  have hnm := (name_of_methodNamed Bd.named Bd.method).1
  have X0 : Stand p l e room_1 s m #[(.int p0)] below meth c s₁ [] 0 0 := Stand.of_body Bd
  have e0 : s₁.heap = h0 := by rw [← hh, Bd.state]; rfl
  have N0 := Fr.nil n0
  refine own_fw (A := s₁.setTop (mkF m 0 #[.val (.int p0), .unset, .unset, .unset, .unset, .unset, .unset, .unset, .unset] [])) (fun t k => castTop (ef0 m p0) k) ?_
  refine own_fw (A := s₁.setTop (mkF m 8 #[.val (.int p0), .val (.int (p0.toUInt32.toUInt16.toUInt32.toInt32)), .val (.int ((p0.toUInt32.toUInt16.toUInt32.toInt32) ||| (32 : Int32))), .unset, .unset, .unset, .unset, .unset, .unset] [])) (fun t k => ?_) ?_
  · show Steps p.tables e below (s₁.setTop (mkF m 0 #[.val (.int p0), .unset, .unset, .unset, .unset, .unset, .unset, .unset, .unset] [])) t
    refine XS.iloadN X0.here hx rfl (hb hby at_0) rfl ?_
    show Steps p.tables e below (s₁.setTop (mkF m 1 #[.val (.int p0), .unset, .unset, .unset, .unset, .unset, .unset, .unset, .unset] [(.int p0)])) t
    refine XS.i2c X0.here hx rfl (hb hby at_1) rfl ?_
    show Steps p.tables e below (s₁.setTop (mkF m 2 #[.val (.int p0), .unset, .unset, .unset, .unset, .unset, .unset, .unset, .unset] [(.int (p0.toUInt32.toUInt16.toUInt32.toInt32))])) t
    refine XS.istoreN X0.here hx rfl (hb hby at_2) rfl (l' := #[.val (.int p0), .val (.int (p0.toUInt32.toUInt16.toUInt32.toInt32)), .unset, .unset, .unset, .unset, .unset, .unset, .unset]) rfl ?_
    show Steps p.tables e below (s₁.setTop (mkF m 3 #[.val (.int p0), .val (.int (p0.toUInt32.toUInt16.toUInt32.toInt32)), .unset, .unset, .unset, .unset, .unset, .unset, .unset] [])) t
    refine XS.iloadN X0.here hx rfl (hb hby at_3) rfl ?_
    show Steps p.tables e below (s₁.setTop (mkF m 4 #[.val (.int p0), .val (.int (p0.toUInt32.toUInt16.toUInt32.toInt32)), .unset, .unset, .unset, .unset, .unset, .unset, .unset] [(.int (p0.toUInt32.toUInt16.toUInt32.toInt32))])) t
    refine XS.bipush X0.here hx rfl (hb hby at_4) ?_
    show Steps p.tables e below (s₁.setTop (mkF m 6 #[.val (.int p0), .val (.int (p0.toUInt32.toUInt16.toUInt32.toInt32)), .unset, .unset, .unset, .unset, .unset, .unset, .unset] [(.int (32 : Int32)), (.int (p0.toUInt32.toUInt16.toUInt32.toInt32))])) t
    refine XS.ior X0.here hx rfl (hb hby at_6) rfl ?_
    show Steps p.tables e below (s₁.setTop (mkF m 7 #[.val (.int p0), .val (.int (p0.toUInt32.toUInt16.toUInt32.toInt32)), .unset, .unset, .unset, .unset, .unset, .unset, .unset] [(.int ((p0.toUInt32.toUInt16.toUInt32.toInt32) ||| (32 : Int32)))])) t
    refine XS.istoreN X0.here hx rfl (hb hby at_7) rfl (l' := #[.val (.int p0), .val (.int (p0.toUInt32.toUInt16.toUInt32.toInt32)), .val (.int ((p0.toUInt32.toUInt16.toUInt32.toInt32) ||| (32 : Int32))), .unset, .unset, .unset, .unset, .unset, .unset]) rfl ?_
    exact k
  have sg0_8 : ∀ t, Steps p.tables e below (s₁.setTop (mkF m 25 #[.val (.int p0), .val (.int (p0.toUInt32.toUInt16.toUInt32.toInt32)), .val (.int ((p0.toUInt32.toUInt16.toUInt32.toInt32) ||| (32 : Int32))), .unset, .unset, .unset, .unset, .unset, .unset] [(.int (gLet p0))])) t → Steps p.tables e below (s₁.setTop (mkF m 8 #[.val (.int p0), .val (.int (p0.toUInt32.toUInt16.toUInt32.toInt32)), .val (.int ((p0.toUInt32.toUInt16.toUInt32.toInt32) ||| (32 : Int32))), .unset, .unset, .unset, .unset, .unset, .unset] [])) t := by
    intro t k
    show Steps p.tables e below (s₁.setTop (mkF m 8 #[.val (.int p0), .val (.int (p0.toUInt32.toUInt16.toUInt32.toInt32)), .val (.int ((p0.toUInt32.toUInt16.toUInt32.toInt32) ||| (32 : Int32))), .unset, .unset, .unset, .unset, .unset, .unset] [])) t
    refine XS.iloadN X0.here hx rfl (hb hby at_8) rfl ?_
    show Steps p.tables e below (s₁.setTop (mkF m 9 #[.val (.int p0), .val (.int (p0.toUInt32.toUInt16.toUInt32.toInt32)), .val (.int ((p0.toUInt32.toUInt16.toUInt32.toInt32) ||| (32 : Int32))), .unset, .unset, .unset, .unset, .unset, .unset] [(.int ((p0.toUInt32.toUInt16.toUInt32.toInt32) ||| (32 : Int32)))])) t
    refine XS.bipush X0.here hx rfl (hb hby at_9) ?_
    show Steps p.tables e below (s₁.setTop (mkF m 11 #[.val (.int p0), .val (.int (p0.toUInt32.toUInt16.toUInt32.toInt32)), .val (.int ((p0.toUInt32.toUInt16.toUInt32.toInt32) ||| (32 : Int32))), .unset, .unset, .unset, .unset, .unset, .unset] [(.int (97 : Int32)), (.int ((p0.toUInt32.toUInt16.toUInt32.toInt32) ||| (32 : Int32)))])) t
    by_cases hc0_1 : ((p0.toUInt32.toUInt16.toUInt32.toInt32) ||| (32 : Int32)) < (97 : Int32)
    · refine XS.icmpYes X0.here hx rfl (pc0 := 11) (pc' := 24) rfl (hb hby at_11) rfl (tlt hc0_1).1 (by decide) (by decide) ?_
      show Steps p.tables e below (s₁.setTop (mkF m 24 #[.val (.int p0), .val (.int (p0.toUInt32.toUInt16.toUInt32.toInt32)), .val (.int ((p0.toUInt32.toUInt16.toUInt32.toInt32) ||| (32 : Int32))), .unset, .unset, .unset, .unset, .unset, .unset] [])) t
      refine XS.iconst X0.here hx rfl (hb hby at_24) ?_
      have q : gLet p0 = (0 : Int32) := by rw [gLet, if_pos hc0_1]
      rw [q] at k
      exact k
    · refine XS.icmpNo X0.here hx rfl (hb hby at_11) rfl (flt hc0_1).1 ?_
      show Steps p.tables e below (s₁.setTop (mkF m 14 #[.val (.int p0), .val (.int (p0.toUInt32.toUInt16.toUInt32.toInt32)), .val (.int ((p0.toUInt32.toUInt16.toUInt32.toInt32) ||| (32 : Int32))), .unset, .unset, .unset, .unset, .unset, .unset] [])) t
      refine XS.iloadN X0.here hx rfl (hb hby at_14) rfl ?_
      show Steps p.tables e below (s₁.setTop (mkF m 15 #[.val (.int p0), .val (.int (p0.toUInt32.toUInt16.toUInt32.toInt32)), .val (.int ((p0.toUInt32.toUInt16.toUInt32.toInt32) ||| (32 : Int32))), .unset, .unset, .unset, .unset, .unset, .unset] [(.int ((p0.toUInt32.toUInt16.toUInt32.toInt32) ||| (32 : Int32)))])) t
      refine XS.bipush X0.here hx rfl (hb hby at_15) ?_
      show Steps p.tables e below (s₁.setTop (mkF m 17 #[.val (.int p0), .val (.int (p0.toUInt32.toUInt16.toUInt32.toInt32)), .val (.int ((p0.toUInt32.toUInt16.toUInt32.toInt32) ||| (32 : Int32))), .unset, .unset, .unset, .unset, .unset, .unset] [(.int (122 : Int32)), (.int ((p0.toUInt32.toUInt16.toUInt32.toInt32) ||| (32 : Int32)))])) t
      by_cases hc0_2 : (122 : Int32) < ((p0.toUInt32.toUInt16.toUInt32.toInt32) ||| (32 : Int32))
      · refine XS.icmpYes X0.here hx rfl (pc0 := 17) (pc' := 24) rfl (hb hby at_17) rfl (tlt hc0_2).2.2.1 (by decide) (by decide) ?_
        show Steps p.tables e below (s₁.setTop (mkF m 24 #[.val (.int p0), .val (.int (p0.toUInt32.toUInt16.toUInt32.toInt32)), .val (.int ((p0.toUInt32.toUInt16.toUInt32.toInt32) ||| (32 : Int32))), .unset, .unset, .unset, .unset, .unset, .unset] [])) t
        refine XS.iconst X0.here hx rfl (hb hby at_24) ?_
        have q : gLet p0 = (0 : Int32) := by rw [gLet, if_neg hc0_1, if_pos hc0_2]
        rw [q] at k
        exact k
      · refine XS.icmpNo X0.here hx rfl (hb hby at_17) rfl (flt hc0_2).2.2.1 ?_
        show Steps p.tables e below (s₁.setTop (mkF m 20 #[.val (.int p0), .val (.int (p0.toUInt32.toUInt16.toUInt32.toInt32)), .val (.int ((p0.toUInt32.toUInt16.toUInt32.toInt32) ||| (32 : Int32))), .unset, .unset, .unset, .unset, .unset, .unset] [])) t
        refine XS.iconst X0.here hx rfl (hb hby at_20) ?_
        show Steps p.tables e below (s₁.setTop (mkF m 21 #[.val (.int p0), .val (.int (p0.toUInt32.toUInt16.toUInt32.toInt32)), .val (.int ((p0.toUInt32.toUInt16.toUInt32.toInt32) ||| (32 : Int32))), .unset, .unset, .unset, .unset, .unset, .unset] [(.int (1 : Int32))])) t
        refine XS.goto X0.here hx rfl (pc0 := 21) (pc' := 25) rfl (hb hby at_21) (by decide) (by decide) ?_
        have q : gLet p0 = (1 : Int32) := by rw [gLet, if_neg hc0_1, if_neg hc0_2]
        rw [q] at k
        exact k
  refine own_fw sg0_8 ?_
  refine own_fw (A := s₁.setTop (mkF m 32 #[.val (.int p0), .val (.int (p0.toUInt32.toUInt16.toUInt32.toInt32)), .val (.int ((p0.toUInt32.toUInt16.toUInt32.toInt32) ||| (32 : Int32))), .val (.int (gLet p0)), .val (.int ((p0.toUInt32.toUInt16.toUInt32.toInt32) - (48 : Int32))), .unset, .unset, .unset, .unset] [])) (fun t k => ?_) ?_
  · show Steps p.tables e below (s₁.setTop (mkF m 25 #[.val (.int p0), .val (.int (p0.toUInt32.toUInt16.toUInt32.toInt32)), .val (.int ((p0.toUInt32.toUInt16.toUInt32.toInt32) ||| (32 : Int32))), .unset, .unset, .unset, .unset, .unset, .unset] [(.int (gLet p0))])) t
    refine XS.istoreN X0.here hx rfl (hb hby at_25) rfl (l' := #[.val (.int p0), .val (.int (p0.toUInt32.toUInt16.toUInt32.toInt32)), .val (.int ((p0.toUInt32.toUInt16.toUInt32.toInt32) ||| (32 : Int32))), .val (.int (gLet p0)), .unset, .unset, .unset, .unset, .unset]) rfl ?_
    show Steps p.tables e below (s₁.setTop (mkF m 26 #[.val (.int p0), .val (.int (p0.toUInt32.toUInt16.toUInt32.toInt32)), .val (.int ((p0.toUInt32.toUInt16.toUInt32.toInt32) ||| (32 : Int32))), .val (.int (gLet p0)), .unset, .unset, .unset, .unset, .unset] [])) t
    refine XS.iloadN X0.here hx rfl (hb hby at_26) rfl ?_
    show Steps p.tables e below (s₁.setTop (mkF m 27 #[.val (.int p0), .val (.int (p0.toUInt32.toUInt16.toUInt32.toInt32)), .val (.int ((p0.toUInt32.toUInt16.toUInt32.toInt32) ||| (32 : Int32))), .val (.int (gLet p0)), .unset, .unset, .unset, .unset, .unset] [(.int (p0.toUInt32.toUInt16.toUInt32.toInt32))])) t
    refine XS.bipush X0.here hx rfl (hb hby at_27) ?_
    show Steps p.tables e below (s₁.setTop (mkF m 29 #[.val (.int p0), .val (.int (p0.toUInt32.toUInt16.toUInt32.toInt32)), .val (.int ((p0.toUInt32.toUInt16.toUInt32.toInt32) ||| (32 : Int32))), .val (.int (gLet p0)), .unset, .unset, .unset, .unset, .unset] [(.int (48 : Int32)), (.int (p0.toUInt32.toUInt16.toUInt32.toInt32))])) t
    refine XS.isub X0.here hx rfl (hb hby at_29) rfl ?_
    show Steps p.tables e below (s₁.setTop (mkF m 30 #[.val (.int p0), .val (.int (p0.toUInt32.toUInt16.toUInt32.toInt32)), .val (.int ((p0.toUInt32.toUInt16.toUInt32.toInt32) ||| (32 : Int32))), .val (.int (gLet p0)), .unset, .unset, .unset, .unset, .unset] [(.int ((p0.toUInt32.toUInt16.toUInt32.toInt32) - (48 : Int32)))])) t
    refine XS.istore X0.here hx rfl (hb hby at_30) rfl (l' := #[.val (.int p0), .val (.int (p0.toUInt32.toUInt16.toUInt32.toInt32)), .val (.int ((p0.toUInt32.toUInt16.toUInt32.toInt32) ||| (32 : Int32))), .val (.int (gLet p0)), .val (.int ((p0.toUInt32.toUInt16.toUInt32.toInt32) - (48 : Int32))), .unset, .unset, .unset, .unset]) rfl ?_
    exact k
  have sg0_32 : ∀ t, Steps p.tables e below (s₁.setTop (mkF m 49 #[.val (.int p0), .val (.int (p0.toUInt32.toUInt16.toUInt32.toInt32)), .val (.int ((p0.toUInt32.toUInt16.toUInt32.toInt32) ||| (32 : Int32))), .val (.int (gLet p0)), .val (.int ((p0.toUInt32.toUInt16.toUInt32.toInt32) - (48 : Int32))), .unset, .unset, .unset, .unset] [(.int (gDig p0))])) t → Steps p.tables e below (s₁.setTop (mkF m 32 #[.val (.int p0), .val (.int (p0.toUInt32.toUInt16.toUInt32.toInt32)), .val (.int ((p0.toUInt32.toUInt16.toUInt32.toInt32) ||| (32 : Int32))), .val (.int (gLet p0)), .val (.int ((p0.toUInt32.toUInt16.toUInt32.toInt32) - (48 : Int32))), .unset, .unset, .unset, .unset] [])) t := by
    intro t k
    show Steps p.tables e below (s₁.setTop (mkF m 32 #[.val (.int p0), .val (.int (p0.toUInt32.toUInt16.toUInt32.toInt32)), .val (.int ((p0.toUInt32.toUInt16.toUInt32.toInt32) ||| (32 : Int32))), .val (.int (gLet p0)), .val (.int ((p0.toUInt32.toUInt16.toUInt32.toInt32) - (48 : Int32))), .unset, .unset, .unset, .unset] [])) t
    refine XS.iload X0.here hx rfl (hb hby at_32) rfl ?_
    show Steps p.tables e below (s₁.setTop (mkF m 34 #[.val (.int p0), .val (.int (p0.toUInt32.toUInt16.toUInt32.toInt32)), .val (.int ((p0.toUInt32.toUInt16.toUInt32.toInt32) ||| (32 : Int32))), .val (.int (gLet p0)), .val (.int ((p0.toUInt32.toUInt16.toUInt32.toInt32) - (48 : Int32))), .unset, .unset, .unset, .unset] [(.int ((p0.toUInt32.toUInt16.toUInt32.toInt32) - (48 : Int32)))])) t
    by_cases hc0_3 : ((p0.toUInt32.toUInt16.toUInt32.toInt32) - (48 : Int32)) < (0 : Int32)
    · refine XS.ifYes X0.here hx rfl (pc0 := 34) (pc' := 48) rfl (hb hby at_34) rfl ((if0 _ _).trans (tlt hc0_3).1) (by decide) (by decide) ?_
      show Steps p.tables e below (s₁.setTop (mkF m 48 #[.val (.int p0), .val (.int (p0.toUInt32.toUInt16.toUInt32.toInt32)), .val (.int ((p0.toUInt32.toUInt16.toUInt32.toInt32) ||| (32 : Int32))), .val (.int (gLet p0)), .val (.int ((p0.toUInt32.toUInt16.toUInt32.toInt32) - (48 : Int32))), .unset, .unset, .unset, .unset] [])) t
      refine XS.iconst X0.here hx rfl (hb hby at_48) ?_
      have q : gDig p0 = (0 : Int32) := by rw [gDig, if_pos hc0_3]
      rw [q] at k
      exact k
    · refine XS.ifNo X0.here hx rfl (hb hby at_34) rfl ((if0 _ _).trans (flt hc0_3).1) ?_
      show Steps p.tables e below (s₁.setTop (mkF m 37 #[.val (.int p0), .val (.int (p0.toUInt32.toUInt16.toUInt32.toInt32)), .val (.int ((p0.toUInt32.toUInt16.toUInt32.toInt32) ||| (32 : Int32))), .val (.int (gLet p0)), .val (.int ((p0.toUInt32.toUInt16.toUInt32.toInt32) - (48 : Int32))), .unset, .unset, .unset, .unset] [])) t
      refine XS.iload X0.here hx rfl (hb hby at_37) rfl ?_
      show Steps p.tables e below (s₁.setTop (mkF m 39 #[.val (.int p0), .val (.int (p0.toUInt32.toUInt16.toUInt32.toInt32)), .val (.int ((p0.toUInt32.toUInt16.toUInt32.toInt32) ||| (32 : Int32))), .val (.int (gLet p0)), .val (.int ((p0.toUInt32.toUInt16.toUInt32.toInt32) - (48 : Int32))), .unset, .unset, .unset, .unset] [(.int ((p0.toUInt32.toUInt16.toUInt32.toInt32) - (48 : Int32)))])) t
      refine XS.bipush X0.here hx rfl (hb hby at_39) ?_
      show Steps p.tables e below (s₁.setTop (mkF m 41 #[.val (.int p0), .val (.int (p0.toUInt32.toUInt16.toUInt32.toInt32)), .val (.int ((p0.toUInt32.toUInt16.toUInt32.toInt32) ||| (32 : Int32))), .val (.int (gLet p0)), .val (.int ((p0.toUInt32.toUInt16.toUInt32.toInt32) - (48 : Int32))), .unset, .unset, .unset, .unset] [(.int (10 : Int32)), (.int ((p0.toUInt32.toUInt16.toUInt32.toInt32) - (48 : Int32)))])) t
      by_cases hc0_4 : ((p0.toUInt32.toUInt16.toUInt32.toInt32) - (48 : Int32)) < (10 : Int32)
      · refine XS.icmpNo X0.here hx rfl (hb hby at_41) rfl (tlt hc0_4).2.1 ?_
        show Steps p.tables e below (s₁.setTop (mkF m 44 #[.val (.int p0), .val (.int (p0.toUInt32.toUInt16.toUInt32.toInt32)), .val (.int ((p0.toUInt32.toUInt16.toUInt32.toInt32) ||| (32 : Int32))), .val (.int (gLet p0)), .val (.int ((p0.toUInt32.toUInt16.toUInt32.toInt32) - (48 : Int32))), .unset, .unset, .unset, .unset] [])) t
        refine XS.iconst X0.here hx rfl (hb hby at_44) ?_
        show Steps p.tables e below (s₁.setTop (mkF m 45 #[.val (.int p0), .val (.int (p0.toUInt32.toUInt16.toUInt32.toInt32)), .val (.int ((p0.toUInt32.toUInt16.toUInt32.toInt32) ||| (32 : Int32))), .val (.int (gLet p0)), .val (.int ((p0.toUInt32.toUInt16.toUInt32.toInt32) - (48 : Int32))), .unset, .unset, .unset, .unset] [(.int (1 : Int32))])) t
        refine XS.goto X0.here hx rfl (pc0 := 45) (pc' := 49) rfl (hb hby at_45) (by decide) (by decide) ?_
        have q : gDig p0 = (1 : Int32) := by rw [gDig, if_neg hc0_3, if_pos hc0_4]
        rw [q] at k
        exact k
      · refine XS.icmpYes X0.here hx rfl (pc0 := 41) (pc' := 48) rfl (hb hby at_41) rfl (flt hc0_4).2.1 (by decide) (by decide) ?_
        show Steps p.tables e below (s₁.setTop (mkF m 48 #[.val (.int p0), .val (.int (p0.toUInt32.toUInt16.toUInt32.toInt32)), .val (.int ((p0.toUInt32.toUInt16.toUInt32.toInt32) ||| (32 : Int32))), .val (.int (gLet p0)), .val (.int ((p0.toUInt32.toUInt16.toUInt32.toInt32) - (48 : Int32))), .unset, .unset, .unset, .unset] [])) t
        refine XS.iconst X0.here hx rfl (hb hby at_48) ?_
        have q : gDig p0 = (0 : Int32) := by rw [gDig, if_neg hc0_3, if_neg hc0_4]
        rw [q] at k
        exact k
  refine own_fw sg0_32 ?_
  refine own_fw (A := s₁.setTop (mkF m 57 #[.val (.int p0), .val (.int (p0.toUInt32.toUInt16.toUInt32.toInt32)), .val (.int ((p0.toUInt32.toUInt16.toUInt32.toInt32) ||| (32 : Int32))), .val (.int (gLet p0)), .val (.int ((p0.toUInt32.toUInt16.toUInt32.toInt32) - (48 : Int32))), .val (.int (gDig p0)), .val (.int ((p0.toUInt32.toUInt16.toUInt32.toInt32) - (45 : Int32))), .unset, .unset] [])) (fun t k => ?_) ?_
  · show Steps p.tables e below (s₁.setTop (mkF m 49 #[.val (.int p0), .val (.int (p0.toUInt32.toUInt16.toUInt32.toInt32)), .val (.int ((p0.toUInt32.toUInt16.toUInt32.toInt32) ||| (32 : Int32))), .val (.int (gLet p0)), .val (.int ((p0.toUInt32.toUInt16.toUInt32.toInt32) - (48 : Int32))), .unset, .unset, .unset, .unset] [(.int (gDig p0))])) t
    refine XS.istore X0.here hx rfl (hb hby at_49) rfl (l' := #[.val (.int p0), .val (.int (p0.toUInt32.toUInt16.toUInt32.toInt32)), .val (.int ((p0.toUInt32.toUInt16.toUInt32.toInt32) ||| (32 : Int32))), .val (.int (gLet p0)), .val (.int ((p0.toUInt32.toUInt16.toUInt32.toInt32) - (48 : Int32))), .val (.int (gDig p0)), .unset, .unset, .unset]) rfl ?_
    show Steps p.tables e below (s₁.setTop (mkF m 51 #[.val (.int p0), .val (.int (p0.toUInt32.toUInt16.toUInt32.toInt32)), .val (.int ((p0.toUInt32.toUInt16.toUInt32.toInt32) ||| (32 : Int32))), .val (.int (gLet p0)), .val (.int ((p0.toUInt32.toUInt16.toUInt32.toInt32) - (48 : Int32))), .val (.int (gDig p0)), .unset, .unset, .unset] [])) t
    refine XS.iloadN X0.here hx rfl (hb hby at_51) rfl ?_
    show Steps p.tables e below (s₁.setTop (mkF m 52 #[.val (.int p0), .val (.int (p0.toUInt32.toUInt16.toUInt32.toInt32)), .val (.int ((p0.toUInt32.toUInt16.toUInt32.toInt32) ||| (32 : Int32))), .val (.int (gLet p0)), .val (.int ((p0.toUInt32.toUInt16.toUInt32.toInt32) - (48 : Int32))), .val (.int (gDig p0)), .unset, .unset, .unset] [(.int (p0.toUInt32.toUInt16.toUInt32.toInt32))])) t
    refine XS.bipush X0.here hx rfl (hb hby at_52) ?_
    show Steps p.tables e below (s₁.setTop (mkF m 54 #[.val (.int p0), .val (.int (p0.toUInt32.toUInt16.toUInt32.toInt32)), .val (.int ((p0.toUInt32.toUInt16.toUInt32.toInt32) ||| (32 : Int32))), .val (.int (gLet p0)), .val (.int ((p0.toUInt32.toUInt16.toUInt32.toInt32) - (48 : Int32))), .val (.int (gDig p0)), .unset, .unset, .unset] [(.int (45 : Int32)), (.int (p0.toUInt32.toUInt16.toUInt32.toInt32))])) t
    refine XS.isub X0.here hx rfl (hb hby at_54) rfl ?_
    show Steps p.tables e below (s₁.setTop (mkF m 55 #[.val (.int p0), .val (.int (p0.toUInt32.toUInt16.toUInt32.toInt32)), .val (.int ((p0.toUInt32.toUInt16.toUInt32.toInt32) ||| (32 : Int32))), .val (.int (gLet p0)), .val (.int ((p0.toUInt32.toUInt16.toUInt32.toInt32) - (48 : Int32))), .val (.int (gDig p0)), .unset, .unset, .unset] [(.int ((p0.toUInt32.toUInt16.toUInt32.toInt32) - (45 : Int32)))])) t
    refine XS.istore X0.here hx rfl (hb hby at_55) rfl (l' := #[.val (.int p0), .val (.int (p0.toUInt32.toUInt16.toUInt32.toInt32)), .val (.int ((p0.toUInt32.toUInt16.toUInt32.toInt32) ||| (32 : Int32))), .val (.int (gLet p0)), .val (.int ((p0.toUInt32.toUInt16.toUInt32.toInt32) - (48 : Int32))), .val (.int (gDig p0)), .val (.int ((p0.toUInt32.toUInt16.toUInt32.toInt32) - (45 : Int32))), .unset, .unset]) rfl ?_
    exact k
  have sg0_57 : ∀ t, Steps p.tables e below (s₁.setTop (mkF m 73 #[.val (.int p0), .val (.int (p0.toUInt32.toUInt16.toUInt32.toInt32)), .val (.int ((p0.toUInt32.toUInt16.toUInt32.toInt32) ||| (32 : Int32))), .val (.int (gLet p0)), .val (.int ((p0.toUInt32.toUInt16.toUInt32.toInt32) - (48 : Int32))), .val (.int (gDig p0)), .val (.int ((p0.toUInt32.toUInt16.toUInt32.toInt32) - (45 : Int32))), .unset, .unset] [(.int (gPun p0))])) t → Steps p.tables e below (s₁.setTop (mkF m 57 #[.val (.int p0), .val (.int (p0.toUInt32.toUInt16.toUInt32.toInt32)), .val (.int ((p0.toUInt32.toUInt16.toUInt32.toInt32) ||| (32 : Int32))), .val (.int (gLet p0)), .val (.int ((p0.toUInt32.toUInt16.toUInt32.toInt32) - (48 : Int32))), .val (.int (gDig p0)), .val (.int ((p0.toUInt32.toUInt16.toUInt32.toInt32) - (45 : Int32))), .unset, .unset] [])) t := by
    intro t k
    show Steps p.tables e below (s₁.setTop (mkF m 57 #[.val (.int p0), .val (.int (p0.toUInt32.toUInt16.toUInt32.toInt32)), .val (.int ((p0.toUInt32.toUInt16.toUInt32.toInt32) ||| (32 : Int32))), .val (.int (gLet p0)), .val (.int ((p0.toUInt32.toUInt16.toUInt32.toInt32) - (48 : Int32))), .val (.int (gDig p0)), .val (.int ((p0.toUInt32.toUInt16.toUInt32.toInt32) - (45 : Int32))), .unset, .unset] [])) t
    refine XS.iload X0.here hx rfl (hb hby at_57) rfl ?_
    show Steps p.tables e below (s₁.setTop (mkF m 59 #[.val (.int p0), .val (.int (p0.toUInt32.toUInt16.toUInt32.toInt32)), .val (.int ((p0.toUInt32.toUInt16.toUInt32.toInt32) ||| (32 : Int32))), .val (.int (gLet p0)), .val (.int ((p0.toUInt32.toUInt16.toUInt32.toInt32) - (48 : Int32))), .val (.int (gDig p0)), .val (.int ((p0.toUInt32.toUInt16.toUInt32.toInt32) - (45 : Int32))), .unset, .unset] [(.int ((p0.toUInt32.toUInt16.toUInt32.toInt32) - (45 : Int32)))])) t
    by_cases hc0_5 : ((p0.toUInt32.toUInt16.toUInt32.toInt32) - (45 : Int32)) = (0 : Int32)
    · refine XS.ifYes X0.here hx rfl (pc0 := 59) (pc' := 68) rfl (hb hby at_59) rfl ((if0 _ _).trans (teq hc0_5).1) (by decide) (by decide) ?_
      show Steps p.tables e below (s₁.setTop (mkF m 68 #[.val (.int p0), .val (.int (p0.toUInt32.toUInt16.toUInt32.toInt32)), .val (.int ((p0.toUInt32.toUInt16.toUInt32.toInt32) ||| (32 : Int32))), .val (.int (gLet p0)), .val (.int ((p0.toUInt32.toUInt16.toUInt32.toInt32) - (48 : Int32))), .val (.int (gDig p0)), .val (.int ((p0.toUInt32.toUInt16.toUInt32.toInt32) - (45 : Int32))), .unset, .unset] [])) t
      refine XS.iconst X0.here hx rfl (hb hby at_68) ?_
      show Steps p.tables e below (s₁.setTop (mkF m 69 #[.val (.int p0), .val (.int (p0.toUInt32.toUInt16.toUInt32.toInt32)), .val (.int ((p0.toUInt32.toUInt16.toUInt32.toInt32) ||| (32 : Int32))), .val (.int (gLet p0)), .val (.int ((p0.toUInt32.toUInt16.toUInt32.toInt32) - (48 : Int32))), .val (.int (gDig p0)), .val (.int ((p0.toUInt32.toUInt16.toUInt32.toInt32) - (45 : Int32))), .unset, .unset] [(.int (1 : Int32))])) t
      refine XS.goto X0.here hx rfl (pc0 := 69) (pc' := 73) rfl (hb hby at_69) (by decide) (by decide) ?_
      have q : gPun p0 = (1 : Int32) := by rw [gPun, if_pos hc0_5]
      rw [q] at k
      exact k
    · refine XS.ifNo X0.here hx rfl (hb hby at_59) rfl ((if0 _ _).trans (feq hc0_5).1) ?_
      show Steps p.tables e below (s₁.setTop (mkF m 62 #[.val (.int p0), .val (.int (p0.toUInt32.toUInt16.toUInt32.toInt32)), .val (.int ((p0.toUInt32.toUInt16.toUInt32.toInt32) ||| (32 : Int32))), .val (.int (gLet p0)), .val (.int ((p0.toUInt32.toUInt16.toUInt32.toInt32) - (48 : Int32))), .val (.int (gDig p0)), .val (.int ((p0.toUInt32.toUInt16.toUInt32.toInt32) - (45 : Int32))), .unset, .unset] [])) t
      refine XS.iload X0.here hx rfl (hb hby at_62) rfl ?_
      show Steps p.tables e below (s₁.setTop (mkF m 64 #[.val (.int p0), .val (.int (p0.toUInt32.toUInt16.toUInt32.toInt32)), .val (.int ((p0.toUInt32.toUInt16.toUInt32.toInt32) ||| (32 : Int32))), .val (.int (gLet p0)), .val (.int ((p0.toUInt32.toUInt16.toUInt32.toInt32) - (48 : Int32))), .val (.int (gDig p0)), .val (.int ((p0.toUInt32.toUInt16.toUInt32.toInt32) - (45 : Int32))), .unset, .unset] [(.int ((p0.toUInt32.toUInt16.toUInt32.toInt32) - (45 : Int32)))])) t
      refine XS.iconst X0.here hx rfl (hb hby at_64) ?_
      show Steps p.tables e below (s₁.setTop (mkF m 65 #[.val (.int p0), .val (.int (p0.toUInt32.toUInt16.toUInt32.toInt32)), .val (.int ((p0.toUInt32.toUInt16.toUInt32.toInt32) ||| (32 : Int32))), .val (.int (gLet p0)), .val (.int ((p0.toUInt32.toUInt16.toUInt32.toInt32) - (48 : Int32))), .val (.int (gDig p0)), .val (.int ((p0.toUInt32.toUInt16.toUInt32.toInt32) - (45 : Int32))), .unset, .unset] [(.int (1 : Int32)), (.int ((p0.toUInt32.toUInt16.toUInt32.toInt32) - (45 : Int32)))])) t
      by_cases hc0_6 : ((p0.toUInt32.toUInt16.toUInt32.toInt32) - (45 : Int32)) = (1 : Int32)
      · refine XS.icmpNo X0.here hx rfl (hb hby at_65) rfl (teq hc0_6).2 ?_
        show Steps p.tables e below (s₁.setTop (mkF m 68 #[.val (.int p0), .val (.int (p0.toUInt32.toUInt16.toUInt32.toInt32)), .val (.int ((p0.toUInt32.toUInt16.toUInt32.toInt32) ||| (32 : Int32))), .val (.int (gLet p0)), .val (.int ((p0.toUInt32.toUInt16.toUInt32.toInt32) - (48 : Int32))), .val (.int (gDig p0)), .val (.int ((p0.toUInt32.toUInt16.toUInt32.toInt32) - (45 : Int32))), .unset, .unset] [])) t
        refine XS.iconst X0.here hx rfl (hb hby at_68) ?_
        show Steps p.tables e below (s₁.setTop (mkF m 69 #[.val (.int p0), .val (.int (p0.toUInt32.toUInt16.toUInt32.toInt32)), .val (.int ((p0.toUInt32.toUInt16.toUInt32.toInt32) ||| (32 : Int32))), .val (.int (gLet p0)), .val (.int ((p0.toUInt32.toUInt16.toUInt32.toInt32) - (48 : Int32))), .val (.int (gDig p0)), .val (.int ((p0.toUInt32.toUInt16.toUInt32.toInt32) - (45 : Int32))), .unset, .unset] [(.int (1 : Int32))])) t
        refine XS.goto X0.here hx rfl (pc0 := 69) (pc' := 73) rfl (hb hby at_69) (by decide) (by decide) ?_
        have q : gPun p0 = (1 : Int32) := by rw [gPun, if_neg hc0_5, if_pos hc0_6]
        rw [q] at k
        exact k
      · refine XS.icmpYes X0.here hx rfl (pc0 := 65) (pc' := 72) rfl (hb hby at_65) rfl (feq hc0_6).2 (by decide) (by decide) ?_
        show Steps p.tables e below (s₁.setTop (mkF m 72 #[.val (.int p0), .val (.int (p0.toUInt32.toUInt16.toUInt32.toInt32)), .val (.int ((p0.toUInt32.toUInt16.toUInt32.toInt32) ||| (32 : Int32))), .val (.int (gLet p0)), .val (.int ((p0.toUInt32.toUInt16.toUInt32.toInt32) - (48 : Int32))), .val (.int (gDig p0)), .val (.int ((p0.toUInt32.toUInt16.toUInt32.toInt32) - (45 : Int32))), .unset, .unset] [])) t
        refine XS.iconst X0.here hx rfl (hb hby at_72) ?_
        have q : gPun p0 = (0 : Int32) := by rw [gPun, if_neg hc0_5, if_neg hc0_6]
        rw [q] at k
        exact k
  refine own_fw sg0_57 ?_
  refine own_fw (A := s₁.setTop (mkF m 75 #[.val (.int p0), .val (.int (p0.toUInt32.toUInt16.toUInt32.toInt32)), .val (.int ((p0.toUInt32.toUInt16.toUInt32.toInt32) ||| (32 : Int32))), .val (.int (gLet p0)), .val (.int ((p0.toUInt32.toUInt16.toUInt32.toInt32) - (48 : Int32))), .val (.int (gDig p0)), .val (.int ((p0.toUInt32.toUInt16.toUInt32.toInt32) - (45 : Int32))), .val (.int (gPun p0)), .unset] [])) (fun t k => ?_) ?_
  · show Steps p.tables e below (s₁.setTop (mkF m 73 #[.val (.int p0), .val (.int (p0.toUInt32.toUInt16.toUInt32.toInt32)), .val (.int ((p0.toUInt32.toUInt16.toUInt32.toInt32) ||| (32 : Int32))), .val (.int (gLet p0)), .val (.int ((p0.toUInt32.toUInt16.toUInt32.toInt32) - (48 : Int32))), .val (.int (gDig p0)), .val (.int ((p0.toUInt32.toUInt16.toUInt32.toInt32) - (45 : Int32))), .unset, .unset] [(.int (gPun p0))])) t
    refine XS.istore X0.here hx rfl (hb hby at_73) rfl (l' := #[.val (.int p0), .val (.int (p0.toUInt32.toUInt16.toUInt32.toInt32)), .val (.int ((p0.toUInt32.toUInt16.toUInt32.toInt32) ||| (32 : Int32))), .val (.int (gLet p0)), .val (.int ((p0.toUInt32.toUInt16.toUInt32.toInt32) - (48 : Int32))), .val (.int (gDig p0)), .val (.int ((p0.toUInt32.toUInt16.toUInt32.toInt32) - (45 : Int32))), .val (.int (gPun p0)), .unset]) rfl ?_
    exact k
  have sg0_75 : ∀ t, Steps p.tables e below (s₁.setTop (mkF m 94 #[.val (.int p0), .val (.int (p0.toUInt32.toUInt16.toUInt32.toInt32)), .val (.int ((p0.toUInt32.toUInt16.toUInt32.toInt32) ||| (32 : Int32))), .val (.int (gLet p0)), .val (.int ((p0.toUInt32.toUInt16.toUInt32.toInt32) - (48 : Int32))), .val (.int (gDig p0)), .val (.int ((p0.toUInt32.toUInt16.toUInt32.toInt32) - (45 : Int32))), .val (.int (gPun p0)), .unset] [(.int (gExp p0))])) t → Steps p.tables e below (s₁.setTop (mkF m 75 #[.val (.int p0), .val (.int (p0.toUInt32.toUInt16.toUInt32.toInt32)), .val (.int ((p0.toUInt32.toUInt16.toUInt32.toInt32) ||| (32 : Int32))), .val (.int (gLet p0)), .val (.int ((p0.toUInt32.toUInt16.toUInt32.toInt32) - (48 : Int32))), .val (.int (gDig p0)), .val (.int ((p0.toUInt32.toUInt16.toUInt32.toInt32) - (45 : Int32))), .val (.int (gPun p0)), .unset] [])) t := by
    intro t k
    show Steps p.tables e below (s₁.setTop (mkF m 75 #[.val (.int p0), .val (.int (p0.toUInt32.toUInt16.toUInt32.toInt32)), .val (.int ((p0.toUInt32.toUInt16.toUInt32.toInt32) ||| (32 : Int32))), .val (.int (gLet p0)), .val (.int ((p0.toUInt32.toUInt16.toUInt32.toInt32) - (48 : Int32))), .val (.int (gDig p0)), .val (.int ((p0.toUInt32.toUInt16.toUInt32.toInt32) - (45 : Int32))), .val (.int (gPun p0)), .unset] [])) t
    refine XS.iloadN X0.here hx rfl (hb hby at_75) rfl ?_
    show Steps p.tables e below (s₁.setTop (mkF m 76 #[.val (.int p0), .val (.int (p0.toUInt32.toUInt16.toUInt32.toInt32)), .val (.int ((p0.toUInt32.toUInt16.toUInt32.toInt32) ||| (32 : Int32))), .val (.int (gLet p0)), .val (.int ((p0.toUInt32.toUInt16.toUInt32.toInt32) - (48 : Int32))), .val (.int (gDig p0)), .val (.int ((p0.toUInt32.toUInt16.toUInt32.toInt32) - (45 : Int32))), .val (.int (gPun p0)), .unset] [(.int (gLet p0))])) t
    by_cases hc0_7 : (gLet p0) = (0 : Int32)
    · refine XS.ifNo X0.here hx rfl (hb hby at_76) rfl ((if0 _ _).trans (teq hc0_7).2) ?_
      show Steps p.tables e below (s₁.setTop (mkF m 79 #[.val (.int p0), .val (.int (p0.toUInt32.toUInt16.toUInt32.toInt32)), .val (.int ((p0.toUInt32.toUInt16.toUInt32.toInt32) ||| (32 : Int32))), .val (.int (gLet p0)), .val (.int ((p0.toUInt32.toUInt16.toUInt32.toInt32) - (48 : Int32))), .val (.int (gDig p0)), .val (.int ((p0.toUInt32.toUInt16.toUInt32.toInt32) - (45 : Int32))), .val (.int (gPun p0)), .unset] [])) t
      refine XS.iload X0.here hx rfl (hb hby at_79) rfl ?_
      show Steps p.tables e below (s₁.setTop (mkF m 81 #[.val (.int p0), .val (.int (p0.toUInt32.toUInt16.toUInt32.toInt32)), .val (.int ((p0.toUInt32.toUInt16.toUInt32.toInt32) ||| (32 : Int32))), .val (.int (gLet p0)), .val (.int ((p0.toUInt32.toUInt16.toUInt32.toInt32) - (48 : Int32))), .val (.int (gDig p0)), .val (.int ((p0.toUInt32.toUInt16.toUInt32.toInt32) - (45 : Int32))), .val (.int (gPun p0)), .unset] [(.int (gDig p0))])) t
      by_cases hc0_8 : (gDig p0) = (0 : Int32)
      · refine XS.ifNo X0.here hx rfl (hb hby at_81) rfl ((if0 _ _).trans (teq hc0_8).2) ?_
        show Steps p.tables e below (s₁.setTop (mkF m 84 #[.val (.int p0), .val (.int (p0.toUInt32.toUInt16.toUInt32.toInt32)), .val (.int ((p0.toUInt32.toUInt16.toUInt32.toInt32) ||| (32 : Int32))), .val (.int (gLet p0)), .val (.int ((p0.toUInt32.toUInt16.toUInt32.toInt32) - (48 : Int32))), .val (.int (gDig p0)), .val (.int ((p0.toUInt32.toUInt16.toUInt32.toInt32) - (45 : Int32))), .val (.int (gPun p0)), .unset] [])) t
        refine XS.iload X0.here hx rfl (hb hby at_84) rfl ?_
        show Steps p.tables e below (s₁.setTop (mkF m 86 #[.val (.int p0), .val (.int (p0.toUInt32.toUInt16.toUInt32.toInt32)), .val (.int ((p0.toUInt32.toUInt16.toUInt32.toInt32) ||| (32 : Int32))), .val (.int (gLet p0)), .val (.int ((p0.toUInt32.toUInt16.toUInt32.toInt32) - (48 : Int32))), .val (.int (gDig p0)), .val (.int ((p0.toUInt32.toUInt16.toUInt32.toInt32) - (45 : Int32))), .val (.int (gPun p0)), .unset] [(.int (gPun p0))])) t
        by_cases hc0_9 : (gPun p0) = (0 : Int32)
        · refine XS.ifYes X0.here hx rfl (pc0 := 86) (pc' := 93) rfl (hb hby at_86) rfl ((if0 _ _).trans (teq hc0_9).1) (by decide) (by decide) ?_
          show Steps p.tables e below (s₁.setTop (mkF m 93 #[.val (.int p0), .val (.int (p0.toUInt32.toUInt16.toUInt32.toInt32)), .val (.int ((p0.toUInt32.toUInt16.toUInt32.toInt32) ||| (32 : Int32))), .val (.int (gLet p0)), .val (.int ((p0.toUInt32.toUInt16.toUInt32.toInt32) - (48 : Int32))), .val (.int (gDig p0)), .val (.int ((p0.toUInt32.toUInt16.toUInt32.toInt32) - (45 : Int32))), .val (.int (gPun p0)), .unset] [])) t
          refine XS.iconst X0.here hx rfl (hb hby at_93) ?_
          have q : gExp p0 = (0 : Int32) := by rw [gExp, if_pos hc0_7, if_pos hc0_8, if_pos hc0_9]
          rw [q] at k
          exact k
        · refine XS.ifNo X0.here hx rfl (hb hby at_86) rfl ((if0 _ _).trans (feq hc0_9).1) ?_
          show Steps p.tables e below (s₁.setTop (mkF m 89 #[.val (.int p0), .val (.int (p0.toUInt32.toUInt16.toUInt32.toInt32)), .val (.int ((p0.toUInt32.toUInt16.toUInt32.toInt32) ||| (32 : Int32))), .val (.int (gLet p0)), .val (.int ((p0.toUInt32.toUInt16.toUInt32.toInt32) - (48 : Int32))), .val (.int (gDig p0)), .val (.int ((p0.toUInt32.toUInt16.toUInt32.toInt32) - (45 : Int32))), .val (.int (gPun p0)), .unset] [])) t
          refine XS.iconst X0.here hx rfl (hb hby at_89) ?_
          show Steps p.tables e below (s₁.setTop (mkF m 90 #[.val (.int p0), .val (.int (p0.toUInt32.toUInt16.toUInt32.toInt32)), .val (.int ((p0.toUInt32.toUInt16.toUInt32.toInt32) ||| (32 : Int32))), .val (.int (gLet p0)), .val (.int ((p0.toUInt32.toUInt16.toUInt32.toInt32) - (48 : Int32))), .val (.int (gDig p0)), .val (.int ((p0.toUInt32.toUInt16.toUInt32.toInt32) - (45 : Int32))), .val (.int (gPun p0)), .unset] [(.int (1 : Int32))])) t
          refine XS.goto X0.here hx rfl (pc0 := 90) (pc' := 94) rfl (hb hby at_90) (by decide) (by decide) ?_
          have q : gExp p0 = (1 : Int32) := by rw [gExp, if_pos hc0_7, if_pos hc0_8, if_neg hc0_9]
          rw [q] at k
          exact k
      · refine XS.ifYes X0.here hx rfl (pc0 := 81) (pc' := 89) rfl (hb hby at_81) rfl ((if0 _ _).trans (feq hc0_8).2) (by decide) (by decide) ?_
        show Steps p.tables e below (s₁.setTop (mkF m 89 #[.val (.int p0), .val (.int (p0.toUInt32.toUInt16.toUInt32.toInt32)), .val (.int ((p0.toUInt32.toUInt16.toUInt32.toInt32) ||| (32 : Int32))), .val (.int (gLet p0)), .val (.int ((p0.toUInt32.toUInt16.toUInt32.toInt32) - (48 : Int32))), .val (.int (gDig p0)), .val (.int ((p0.toUInt32.toUInt16.toUInt32.toInt32) - (45 : Int32))), .val (.int (gPun p0)), .unset] [])) t
        refine XS.iconst X0.here hx rfl (hb hby at_89) ?_
        show Steps p.tables e below (s₁.setTop (mkF m 90 #[.val (.int p0), .val (.int (p0.toUInt32.toUInt16.toUInt32.toInt32)), .val (.int ((p0.toUInt32.toUInt16.toUInt32.toInt32) ||| (32 : Int32))), .val (.int (gLet p0)), .val (.int ((p0.toUInt32.toUInt16.toUInt32.toInt32) - (48 : Int32))), .val (.int (gDig p0)), .val (.int ((p0.toUInt32.toUInt16.toUInt32.toInt32) - (45 : Int32))), .val (.int (gPun p0)), .unset] [(.int (1 : Int32))])) t
        refine XS.goto X0.here hx rfl (pc0 := 90) (pc' := 94) rfl (hb hby at_90) (by decide) (by decide) ?_
        have q : gExp p0 = (1 : Int32) := by rw [gExp, if_pos hc0_7, if_neg hc0_8]
        rw [q] at k
        exact k
    · refine XS.ifYes X0.here hx rfl (pc0 := 76) (pc' := 89) rfl (hb hby at_76) rfl ((if0 _ _).trans (feq hc0_7).2) (by decide) (by decide) ?_
      show Steps p.tables e below (s₁.setTop (mkF m 89 #[.val (.int p0), .val (.int (p0.toUInt32.toUInt16.toUInt32.toInt32)), .val (.int ((p0.toUInt32.toUInt16.toUInt32.toInt32) ||| (32 : Int32))), .val (.int (gLet p0)), .val (.int ((p0.toUInt32.toUInt16.toUInt32.toInt32) - (48 : Int32))), .val (.int (gDig p0)), .val (.int ((p0.toUInt32.toUInt16.toUInt32.toInt32) - (45 : Int32))), .val (.int (gPun p0)), .unset] [])) t
      refine XS.iconst X0.here hx rfl (hb hby at_89) ?_
      show Steps p.tables e below (s₁.setTop (mkF m 90 #[.val (.int p0), .val (.int (p0.toUInt32.toUInt16.toUInt32.toInt32)), .val (.int ((p0.toUInt32.toUInt16.toUInt32.toInt32) ||| (32 : Int32))), .val (.int (gLet p0)), .val (.int ((p0.toUInt32.toUInt16.toUInt32.toInt32) - (48 : Int32))), .val (.int (gDig p0)), .val (.int ((p0.toUInt32.toUInt16.toUInt32.toInt32) - (45 : Int32))), .val (.int (gPun p0)), .unset] [(.int (1 : Int32))])) t
      refine XS.goto X0.here hx rfl (pc0 := 90) (pc' := 94) rfl (hb hby at_90) (by decide) (by decide) ?_
      have q : gExp p0 = (1 : Int32) := by rw [gExp, if_neg hc0_7]
      rw [q] at k
      exact k
  refine own_fw sg0_75 ?_
  refine own_fw (A := s₁.setTop (mkF m 97 #[.val (.int p0), .val (.int (p0.toUInt32.toUInt16.toUInt32.toInt32)), .val (.int ((p0.toUInt32.toUInt16.toUInt32.toInt32) ||| (32 : Int32))), .val (.int (gLet p0)), .val (.int ((p0.toUInt32.toUInt16.toUInt32.toInt32) - (48 : Int32))), .val (.int (gDig p0)), .val (.int ((p0.toUInt32.toUInt16.toUInt32.toInt32) - (45 : Int32))), .val (.int (gPun p0)), .val (.int (gExp p0))] [(.int (p0.toUInt32.toUInt16.toUInt32.toInt32))])) (fun t k => ?_) ?_
  · show Steps p.tables e below (s₁.setTop (mkF m 94 #[.val (.int p0), .val (.int (p0.toUInt32.toUInt16.toUInt32.toInt32)), .val (.int ((p0.toUInt32.toUInt16.toUInt32.toInt32) ||| (32 : Int32))), .val (.int (gLet p0)), .val (.int ((p0.toUInt32.toUInt16.toUInt32.toInt32) - (48 : Int32))), .val (.int (gDig p0)), .val (.int ((p0.toUInt32.toUInt16.toUInt32.toInt32) - (45 : Int32))), .val (.int (gPun p0)), .unset] [(.int (gExp p0))])) t
    refine XS.istore X0.here hx rfl (hb hby at_94) rfl (l' := #[.val (.int p0), .val (.int (p0.toUInt32.toUInt16.toUInt32.toInt32)), .val (.int ((p0.toUInt32.toUInt16.toUInt32.toInt32) ||| (32 : Int32))), .val (.int (gLet p0)), .val (.int ((p0.toUInt32.toUInt16.toUInt32.toInt32) - (48 : Int32))), .val (.int (gDig p0)), .val (.int ((p0.toUInt32.toUInt16.toUInt32.toInt32) - (45 : Int32))), .val (.int (gPun p0)), .val (.int (gExp p0))]) rfl ?_
    show Steps p.tables e below (s₁.setTop (mkF m 96 #[.val (.int p0), .val (.int (p0.toUInt32.toUInt16.toUInt32.toInt32)), .val (.int ((p0.toUInt32.toUInt16.toUInt32.toInt32) ||| (32 : Int32))), .val (.int (gLet p0)), .val (.int ((p0.toUInt32.toUInt16.toUInt32.toInt32) - (48 : Int32))), .val (.int (gDig p0)), .val (.int ((p0.toUInt32.toUInt16.toUInt32.toInt32) - (45 : Int32))), .val (.int (gPun p0)), .val (.int (gExp p0))] [])) t
    refine XS.iloadN X0.here hx rfl (hb hby at_96) rfl ?_
    exact k
  obtain ⟨_, _, ⟨T0_1, L0_1, k0_1, n0_1⟩, -, X0_1, ⟨Lc0_1, hQ0_1, l0_1, y0_1, z0_1⟩, st0_1⟩ := Jvm.LawKit.callS X0 hx (y := (⟨"com/example/access_decision/accessdecision/AccessContext", "isHostNameCharacter", "(C)Z"⟩ : MethodName)) hown (mvT hZ (hw _ (List.mem_of_getElem? (i := 0) rfl))) (mvT hZ (hw _ (List.mem_of_getElem? (i := 1) rfl))) (mvT hZ (hw _ (List.mem_of_getElem? (i := 2) rfl))) (mvT hZ (hw _ (List.mem_of_getElem? (i := 3) rfl))) (by decide) (backOf (W := 0) (rm1 l Z a0 hw [] ((p0.toUInt32.toUInt16.toUInt32.toInt32)) h0 n0 Z0 ) hZ (hw _ (List.mem_of_getElem? (i := 3) rfl)) (hw _ (List.mem_of_getElem? (i := 2) rfl)) (by decide) (by decide)) (g := (mkF m 97 #[.val (.int p0), .val (.int (p0.toUInt32.toUInt16.toUInt32.toInt32)), .val (.int ((p0.toUInt32.toUInt16.toUInt32.toInt32) ||| (32 : Int32))), .val (.int (gLet p0)), .val (.int ((p0.toUInt32.toUInt16.toUInt32.toInt32) - (48 : Int32))), .val (.int (gDig p0)), .val (.int ((p0.toUInt32.toUInt16.toUInt32.toInt32) - (45 : Int32))), .val (.int (gPun p0)), .val (.int (gExp p0))] [(.int (p0.toUInt32.toUInt16.toUInt32.toInt32))])) rfl (by rw [hml]; rfl) (argsL := [(.int (p0.toUInt32.toUInt16.toUInt32.toInt32))]) (rest := []) (lenOf pd0_0 rfl) rfl (by show 2 * 0 + _ ≤ _; exact Nat.le_of_eq rfl) (hb hby at_97) (fun _ _ => ⟨rfl, e0, (by decide : 0 + 0 ≤ _), (by decide : 0 + 0 ≤ _)⟩)
  dsimp only [Pt.U, Pt.locs, Pt.cells, Pt.slots] at X0_1 l0_1 y0_1 z0_1 st0_1 hQ0_1
  subst l0_1 y0_1 z0_1
  obtain ⟨rfl, N0_1q, e0_1⟩ := hQ0_1
  have N0_1 := Fr.app N0 N0_1q
  refine own_fw st0_1 ?_
  refine own_fw (A := T0_1.setTop (mkF m 110 #[.val (.int p0), .val (.int (p0.toUInt32.toUInt16.toUInt32.toInt32)), .val (.int ((p0.toUInt32.toUInt16.toUInt32.toInt32) ||| (32 : Int32))), .val (.int (gLet p0)), .val (.int ((p0.toUInt32.toUInt16.toUInt32.toInt32) - (48 : Int32))), .val (.int (gDig p0)), .val (.int ((p0.toUInt32.toUInt16.toUInt32.toInt32) - (45 : Int32))), .val (.int (gPun p0)), .val (.int (gExp p0))] [(.int (1 : Int32))])) (fun t k => ?_) ?_
  · show Steps p.tables e below (T0_1.setTop (mkF m 100 #[.val (.int p0), .val (.int (p0.toUInt32.toUInt16.toUInt32.toInt32)), .val (.int ((p0.toUInt32.toUInt16.toUInt32.toInt32) ||| (32 : Int32))), .val (.int (gLet p0)), .val (.int ((p0.toUInt32.toUInt16.toUInt32.toInt32) - (48 : Int32))), .val (.int (gDig p0)), .val (.int ((p0.toUInt32.toUInt16.toUInt32.toInt32) - (45 : Int32))), .val (.int (gPun p0)), .val (.int (gExp p0))] [(.int (hostF (p0.toUInt32.toUInt16.toUInt32.toInt32)))])) t
    refine XS.iload X0_1.here hx rfl (hb hby at_100) rfl ?_
    show Steps p.tables e below (T0_1.setTop (mkF m 102 #[.val (.int p0), .val (.int (p0.toUInt32.toUInt16.toUInt32.toInt32)), .val (.int ((p0.toUInt32.toUInt16.toUInt32.toInt32) ||| (32 : Int32))), .val (.int (gLet p0)), .val (.int ((p0.toUInt32.toUInt16.toUInt32.toInt32) - (48 : Int32))), .val (.int (gDig p0)), .val (.int ((p0.toUInt32.toUInt16.toUInt32.toInt32) - (45 : Int32))), .val (.int (gPun p0)), .val (.int (gExp p0))] [(.int (gExp p0)), (.int (hostF (p0.toUInt32.toUInt16.toUInt32.toInt32)))])) t
    refine XS.icmpNo X0_1.here hx rfl (hb hby at_102) rfl (teq (own_main p0)).2 ?_
    show Steps p.tables e below (T0_1.setTop (mkF m 105 #[.val (.int p0), .val (.int (p0.toUInt32.toUInt16.toUInt32.toInt32)), .val (.int ((p0.toUInt32.toUInt16.toUInt32.toInt32) ||| (32 : Int32))), .val (.int (gLet p0)), .val (.int ((p0.toUInt32.toUInt16.toUInt32.toInt32) - (48 : Int32))), .val (.int (gDig p0)), .val (.int ((p0.toUInt32.toUInt16.toUInt32.toInt32) - (45 : Int32))), .val (.int (gPun p0)), .val (.int (gExp p0))] [])) t
    refine XS.iconst X0_1.here hx rfl (hb hby at_105) ?_
    show Steps p.tables e below (T0_1.setTop (mkF m 106 #[.val (.int p0), .val (.int (p0.toUInt32.toUInt16.toUInt32.toInt32)), .val (.int ((p0.toUInt32.toUInt16.toUInt32.toInt32) ||| (32 : Int32))), .val (.int (gLet p0)), .val (.int ((p0.toUInt32.toUInt16.toUInt32.toInt32) - (48 : Int32))), .val (.int (gDig p0)), .val (.int ((p0.toUInt32.toUInt16.toUInt32.toInt32) - (45 : Int32))), .val (.int (gPun p0)), .val (.int (gExp p0))] [(.int (1 : Int32))])) t
    refine XS.goto X0_1.here hx rfl (pc0 := 106) (pc' := 110) rfl (hb hby at_106) (by decide) (by decide) ?_
    exact k
  obtain ⟨fs, hr, hrun, hended, hW, hsame⟩ := X0_1.leave (v := some (.int (nar .boolean (1 : Int32)))) (fun h => by rw [Bd.returns] at h; cases h)
  exact ⟨_, _, retN X0_1 hx (t := .boolean) Bd.returns (by simp) (hb hby at_110) hr, hrun, hended, _, _, rfl, ⟨rfl, N0_1⟩, ⟨_, rfl⟩, hW, hsame.mono (by decide) (by decide)⟩
set_option maxRecDepth 65536 in
set_option maxHeartbeats 40000000 in
theorem comes_1 {Post : Tables → Env → Array Value → State → Outcome → State → Prop} (hpost : ∀ tb e args s v u, (limb_1_1.after args s (.returned v) u = true ∧ limb_1_2.after args s (.returned v) u = true ∧ True) → FrameEnd s (.returned v) u (Jvm.fieldLocs frame_1_writes args s ++ Jvm.arrayLocs frame_1_arrays args s ++ Jvm.staticLocs frame_1_statics s) 0 0 → Post tb e args s (.returned v) u) :
    ArmFor flags0 classFile x code maxLocals ret World_1 tables_1 room_1 Calls_1 rest_1 Pre_1 Post := by
  intro l hfl _ _ p e ha hc hk s m args below hf hA hF happ hP
  obtain ⟨hcalls, hrest, hpre⟩ := hP
  obtain ⟨-, -, -, hnamed, -, -, -, hat⟩ := (Spec.applies_iff hf).mp happ
  obtain ⟨hg, hn⟩ := and_e (Cond.before_iff.mp (show (Jvm.Cond.and given_1 narrow_1).before args s = true from hpre))
  obtain ⟨g1, g2⟩ := and_e hg
  obtain ⟨w0, rfl⟩ : ∃ w0 : Value, args = #[w0] := by
    have hs : args.size = 1 := by simpa [Cond.value, given_1] using g1
    obtain ⟨L⟩ := args
    match L, hs with
    | [w0], _ => exact ⟨w0, rfl⟩
  have hw := fun d (hd : d ∈ tables_1) => atoms_spec (ws := Jvm.Cond.code x code maxLocals ret :: tables_1) hat d (List.mem_cons_of_mem _ hd)
  have hfit : Fit s := fun {y c} hc i hi => by
    obtain ⟨ha, rfl⟩ := Array.getElem?_eq_some_iff.mp hc
    have q := List.all_eq_true.mp ((Array.all_eq_true_iff_forall_mem.mp hF) _ (Array.getElem_mem ha)) i (List.mem_range.mpr hi)
    simpa [Array.getElem?_eq_getElem hi] using q
  obtain ⟨i0, ei0⟩ := is_v g2
  obtain rfl : w0 = (.int i0) := Option.some.inj ei0
  obtain ⟨n, o, h1, h2, h3, _, L, rfl, ⟨rfl, N⟩, hq⟩ := rm0 l s _ hw tables_1 i0  s.heap s.heap.size (Nat.le_refl _)  p e ha hc hk s m _ below hf ((Spec.applies_iff_loose hf).mp happ).1 ⟨rfl, State.Warmed39.refl s, rfl⟩ trivial
  refine ⟨n, _, h1, h2, h3, hpost _ _ _ _ _ _ ⟨Cond.after_iff.mpr rfl, Cond.after_iff.mpr (eq_i res_at (Term.int_eval (1)) rfl), trivial⟩ ⟨hq.1, hq.2.1, (hq.2.2.sift fun y hy => Or.inr (N y hy)).mono (by decide) (by decide)⟩⟩
theorem main_1_1 : Claimed_1_1 := comes_1 fun _ _ _ _ _ _ h hF => ⟨h.1, hF⟩
theorem main_1_2 : Claimed_1_2 := comes_1 fun _ _ _ _ _ _ h hF => ⟨h.2.1, hF⟩
end Jvm.Pilot.@@N@@
namespace Jvm.Pilot.@@N@@
open Jvm Jvm.ClassFile Sem Op Lib Jvm.Free Jvm.Stand Jvm.Pilot.@@N@@.Jvm.D
/-! MADE BY PROGRAM (witnessworld.py) out of the Statement's table words and the real class files: 9 classes; the members and pool entries that the words name. The judged class is class 1, her method 1. -/
namespace start1
open Jvm.ClassFile
def u (s : String) : CpInfo := .utf8 (stringToUtf16 s)
/-- a pool by its gaps: so many unusable entries, then the entry; so many at the end -/
def gap : Nat → List CpInfo → List CpInfo
  | 0, r => r
  | n + 1, r => .unusable :: gap n r
def poolList (es : List (Nat × CpInfo)) (last : Nat) : List CpInfo := es.foldr (fun e r => gap e.1 (e.2 :: r)) (gap last [])
def pool (es : List (Nat × CpInfo)) (last : Nat) : Array CpInfo := ⟨poolList es last⟩
def fileOf (pool : Array CpInfo) (this : Nat) (attrs : Array Attribute := #[]) (ms : Array MethodInfo := #[]) (fl : Nat := 33) (sup : Nat := 0) (ifs : Array Nat := #[]) (fds : Array FieldInfo := #[]) : ClassFile where
  minorVersion := 0
  majorVersion := 65
  constantPool := pool
  accessFlags := fl
  thisClass := this
  superClass := sup
  interfaces := ifs
  fields := fds
  methods := ms
  attributes := attrs
def plain (name : String) (sup : Option ClassId) : Class where
  name := name
  kind := .ordinary
  loader := none
  accessFlags := 33
  super := sup
  interfaces := #[]
  cf := none
  fields := #[]
  methods := #[]
  instanceTypes := #[]
  staticTypes := #[]
  resolved := #[]
  callSites := []
  init := .initialized
  statics := none
  mirror := none

def pool0 : Array CpInfo := pool [(5, u "<init>"), (0, u "()V"), (1, .class_ 10), (1, u "java/lang/Object")] 113

def k0m0 : Method := { name := "<init>", desc := "()V", sig := { parameters := [], returnType := none }, accessFlags := 1, code := none }
/-- java/lang/Object -/
def k0 : Class := { plain "java/lang/Object" none with
  accessFlags := 33
  interfaces := #[]
  cf := some (fileOf pool0 8 #[] #[{ accessFlags := 1, nameIndex := 5, descriptorIndex := 6, attributes := #[] }] 33 0 #[] #[])
  fields := #[]
  methods := #[k0m0]
  instanceTypes := #[]
  staticTypes := #[]
  resolved := Array.replicate 124 none
  statics := none }

def pool1 : Array CpInfo := pool [(2, .class_ 4), (1, u "java/lang/Object"), (0, u "<init>"), (0, u "()V"), (0, .methodref 8 9), (0, .class_ 10), (0, .nameAndType 11 12), (0, u "com/example/access_decision/accessdecision/AccessContext"), (0, u "isHostNameCharacter"), (0, u "(C)Z"), (0, .class_ 14), (0, u "com/example/access_decision/accessdecision/AccessContextIsHostNameCharacterPinLaw"), (2, u "law"), (0, u "(I)Z")] 3

def k1m0 : Method := { name := "<init>", desc := "()V", sig := { parameters := [], returnType := none }, accessFlags := 2, code := none }
def k1c1 : Code := { maxStack := 2, maxLocals := 9, code := code, exceptionTable := #[], attributes := #[] }
def k1m1 : Method := { name := "law", desc := "(I)Z", sig := { parameters := [.int], returnType := some .boolean }, accessFlags := 9, code := some k1c1 }
/-- com/example/access_decision/accessdecision/AccessContextIsHostNameCharacterPinLaw -/
def k1 : Class := { plain "com/example/access_decision/accessdecision/AccessContextIsHostNameCharacterPinLaw" (some 0) with
  accessFlags := 49
  interfaces := #[]
  cf := some (fileOf pool1 13 #[] #[{ accessFlags := 2, nameIndex := 5, descriptorIndex := 6, attributes := #[] }, { accessFlags := 9, nameIndex := 17, descriptorIndex := 18, attributes := #[] }] 49 2 #[] #[])
  fields := #[]
  methods := #[k1m0, k1m1]
  instanceTypes := #[]
  staticTypes := #[]
  resolved := Array.replicate 22 none
  statics := none }

def pool2 : Array CpInfo := pool [(19, .class_ 21), (1, u "com/example/access_decision/accessdecision/AccessContext"), (20, .class_ 44), (1, u "java/lang/Object"), (3, u "time"), (0, u "Ljava/time/OffsetDateTime;"), (2, u "location"), (0, u "Ljava/lang/String;"), (2, u "activeGroups"), (0, u "Ljava/util/List;"), (2, u "active"), (0, u "Ljava/util/Set;"), (2, u "clearance"), (0, u "Lcom/example/access_decision/accessdecision/Clearance;"), (49, u "NONE"), (0, u "Lcom/example/access_decision/accessdecision/AccessContext;"), (25, u "isHostNameCharacter"), (0, u "(C)Z"), (3, u "LONGEST_HOST_NAME"), (0, u "I")] 47

def k2c0 : Code := { maxStack := 2, maxLocals := 3, code := prog_1_method_12_code, exceptionTable := #[], attributes := #[] }
def k2m0 : Method := { name := "isHostNameCharacter", desc := "(C)Z", sig := { parameters := [.char], returnType := some .boolean }, accessFlags := 8, code := some k2c0 }
/-- com/example/access_decision/accessdecision/AccessContext -/
def k2 : Class := { plain "com/example/access_decision/accessdecision/AccessContext" (some 0) with
  accessFlags := 49
  interfaces := #[]
  cf := some (fileOf pool2 19 #[] #[{ accessFlags := 8, nameIndex := 142, descriptorIndex := 143, attributes := #[] }] 49 42 #[] #[{ accessFlags := 26, nameIndex := 147, descriptorIndex := 148, attributes := #[] }, { accessFlags := 26, nameIndex := 115, descriptorIndex := 116, attributes := #[] }, { accessFlags := 18, nameIndex := 48, descriptorIndex := 49, attributes := #[] }, { accessFlags := 18, nameIndex := 52, descriptorIndex := 53, attributes := #[] }, { accessFlags := 18, nameIndex := 56, descriptorIndex := 57, attributes := #[] }, { accessFlags := 18, nameIndex := 60, descriptorIndex := 61, attributes := #[] }, { accessFlags := 18, nameIndex := 64, descriptorIndex := 65, attributes := #[] }])
  fields := #[{ name := "LONGEST_HOST_NAME", type := .int, accessFlags := 26, slot := 0, constantValue := 0 }, { name := "NONE", type := (.object "com/example/access_decision/accessdecision/AccessContext"), accessFlags := 26, slot := 1, constantValue := 0 }, { name := "time", type := (.object "java/time/OffsetDateTime"), accessFlags := 18, slot := 0, constantValue := 0 }, { name := "location", type := (.object "java/lang/String"), accessFlags := 18, slot := 1, constantValue := 0 }, { name := "activeGroups", type := (.object "java/util/List"), accessFlags := 18, slot := 2, constantValue := 0 }, { name := "active", type := (.object "java/util/Set"), accessFlags := 18, slot := 3, constantValue := 0 }, { name := "clearance", type := (.object "com/example/access_decision/accessdecision/Clearance"), accessFlags := 18, slot := 4, constantValue := 0 }]
  methods := #[k2m0]
  instanceTypes := #[(.object "java/time/OffsetDateTime"), (.object "java/lang/String"), (.object "java/util/List"), (.object "java/util/Set"), (.object "com/example/access_decision/accessdecision/Clearance")]
  staticTypes := #[.int, (.object "com/example/access_decision/accessdecision/AccessContext")]
  resolved := Array.replicate 196 none
  statics := none }

def pool3 : Array CpInfo := pool [(1, u "java/lang/Cloneable"), (0, .class_ 1), (0, u "java/lang/Object"), (0, .class_ 3)] 3

/-- java/lang/Cloneable -/
def k3 : Class := { plain "java/lang/Cloneable" (some 0) with
  accessFlags := 1537
  interfaces := #[]
  cf := some (fileOf pool3 2 #[] #[] 1537 4 #[] #[])
  fields := #[]
  methods := #[]
  instanceTypes := #[]
  staticTypes := #[]
  resolved := Array.replicate 8 none
  statics := none }

def pool4 : Array CpInfo := pool [(1, u "java/io/Serializable"), (0, .class_ 1), (0, u "java/lang/Object"), (0, .class_ 3)] 3

/-- java/io/Serializable -/
def k4 : Class := { plain "java/io/Serializable" (some 0) with
  accessFlags := 1537
  interfaces := #[]
  cf := some (fileOf pool4 2 #[] #[] 1537 4 #[] #[])
  fields := #[]
  methods := #[]
  instanceTypes := #[]
  staticTypes := #[]
  resolved := Array.replicate 8 none
  statics := none }

/-- the primitive byte -/
def k5 : Class := { plain "byte" none with kind := .primitive 'B', accessFlags := 0x411 }
/-- [B -/
def k6 : Class := { plain "[B" (some 0) with kind := .array 5 .byte, interfaces := #[3, 4], accessFlags := 1041 }

/-- the primitive int -/
def k7 : Class := { plain "int" none with kind := .primitive 'I', accessFlags := 0x411 }
/-- [I -/
def k8 : Class := { plain "[I" (some 0) with kind := .array 7 .int, interfaces := #[3, 4], accessFlags := 1041 }

def heap : Heap := #[]
def classes : Array Class := #[k0, k1, k2, k3, k4, k5, k6, k7, k8]
def interned : List (Array UInt16 × Addr) := []
def slotsUsed : Nat := 0
def theMethod : MethodId := ⟨1, 1⟩
def args0 : Array Value := #[.int 5]
def aboutOver (below : List Frame) : State where
  vm := { classes := classes, interned := interned.toArray }
  heap := heap
  slotsUsed := slotsUsed
  threads := #[{ frames := .invoking theMethod args0 :: below }]
def below0 : List Frame := [.native { method := ⟨0, 0⟩, args := #[] }]
def about1 : State := aboutOver below0
def p0 : Program := .bare "" "" ""
def e0 : Env := launch0.env 0 0 0
theorem w_frames : about1.frames = Frame.invoking theMethod args0 :: below0 := rfl
set_option maxRecDepth 65536 in
theorem w_args : argsFit about1.vm theMethod args0 = true := by decide +kernel
set_option maxRecDepth 65536 in
theorem w_heap : heapFits about1 = true := by decide +kernel
set_option maxRecDepth 65536 in
theorem w_runnable : about1.curStatus? = some .runnable := by decide +kernel
set_option maxRecDepth 65536 in
theorem w_alone : about1.alone = true := by decide +kernel
set_option maxRecDepth 65536 in
theorem w_named : about1.methodNamed? x = some theMethod := by decide +kernel
set_option maxRecDepth 65536 in
theorem w_hears : about1.hears theMethod below0 = true := by decide +kernel
set_option maxRecDepth 65536 in
theorem w_ripe : about1.ripe theMethod args0 below0 = true := by decide +kernel
theorem w_running : about1.status = .running := rfl
set_option maxRecDepth 65536 in
theorem w_room : about1.hasRoom e0.platform room_1 = true :=
  launch0.hasRoom_least _ room_1 (by decide +kernel) (by decide +kernel) (by decide +kernel) (by decide +kernel) (by decide +kernel) (by decide +kernel)
theorem allAtoms_all (ts : List Jvm.Cond) (a : Array Jvm.Value) (st : Jvm.State) : (allAtoms ts).before a st = ts.all (fun c => c.before a st) := by
  induction ts with
  | nil => rfl
  | cons c t ih =>
    show (Jvm.Cond.and c (allAtoms t)).before a st = _
    rw [Jvm.Cond.before_and, ih, List.all_cons]
def words1 : List Jvm.Cond := Jvm.Cond.code x code maxLocals ret :: tables_1
/-- a 'code' word, met by the world's own term for the bytes: nothing is compared byte by byte -/
theorem code_word {y : MethodName} {bytes : ByteArray} {mx : Nat} {rt : Option FieldType} {a : Array Value} {s : State} {m : MethodId} {meth : Method} {c : Code} (h1 : s.methodNamed? y = some m) (h2 : s.vm.method? m = some meth) (h3 : meth.code = some c) (h4 : c.code = bytes)
    (h5 : (c.maxLocals == mx && c.exceptionTable.isEmpty && decide (c.maxStack ≤ mostOperands) && decide (meth.sig.returnType = rt) && !meth.locks && decide (parseMethodDescriptor y.desc = some meth.sig)) = true) : (Jvm.Cond.code y bytes mx rt).before a s = true := by
  simp only [Bool.and_eq_true, beq_iff_eq, Bool.not_eq_true', decide_eq_true_eq] at h5
  obtain ⟨⟨⟨⟨⟨g1, g2⟩, g3⟩, g4⟩, g5⟩, g6⟩ := h5
  simp [Cond.before, Cond.holds, Cond.value, h1, h2, h3, h4, g1, g2, g3, g4, g5, g6]
def isCode : Jvm.Cond → Bool
  | .code _ _ _ _ => true
  | _ => false
theorem all_split {L : List Jvm.Cond} {P : Jvm.Cond → Bool} (h1 : L.all (fun c => isCode c || P c) = true) (h2 : ∀ c ∈ L.filter isCode, P c = true) : L.all P = true := by
  refine List.all_eq_true.mpr fun c hc => ?_
  have h := List.all_eq_true.mp h1 c hc
  rcases Bool.eq_false_or_eq_true (isCode c) with hi | hi
  · exact h2 c (List.mem_filter.mpr ⟨hc, hi⟩)
  · simpa [hi] using h
set_option maxRecDepth 65536 in
theorem w_c0 : (Jvm.Cond.code x code maxLocals ret).before args0 about1 = true := code_word (m := ⟨1, 1⟩) (meth := k1m1) (c := k1c1) (by decide +kernel) rfl rfl rfl (by decide +kernel)
set_option maxRecDepth 65536 in
theorem w_c1 : (Jvm.Cond.code ({ cls := "com/example/access_decision/accessdecision/AccessContext", name := "isHostNameCharacter", desc := "(C)Z" } : Jvm.MethodName) prog_1_method_12_code (3 : Nat) (Option.some Jvm.ClassFile.FieldType.boolean)).before args0 about1 = true := code_word (m := ⟨2, 0⟩) (meth := k2m0) (c := k2c0) (by decide +kernel) rfl rfl rfl (by decide +kernel)
def codes1 : List Jvm.Cond := [Jvm.Cond.code x code maxLocals ret, Jvm.Cond.code ({ cls := "com/example/access_decision/accessdecision/AccessContext", name := "isHostNameCharacter", desc := "(C)Z" } : Jvm.MethodName) prog_1_method_12_code (3 : Nat) (Option.some Jvm.ClassFile.FieldType.boolean)]
set_option maxRecDepth 65536 in
theorem codes_eq : words1.filter isCode = codes1 := rfl
theorem w_codes : ∀ c ∈ words1.filter isCode, c.before args0 about1 = true := by
  rw [codes_eq]
  intro c hc
  simp only [codes1, List.mem_cons, List.not_mem_nil, or_false] at hc
  rcases hc with rfl | rfl
  · exact w_c0
  · exact w_c1
set_option maxRecDepth 65536 in
theorem w_t1 : words1.all (fun c => isCode c || c.before args0 about1) = true := by decide +kernel
theorem w_tables : (allAtoms (Jvm.Cond.code x code maxLocals ret :: tables_1)).before args0 about1 = true := by
  rw [allAtoms_all]
  show words1.all (fun c => c.before args0 about1) = true
  refine all_split ?_ w_codes
  rw [w_t1]
set_option maxRecDepth 65536 in
theorem w_case : (Jvm.Cond.and given_1 narrow_1).before args0 about1 = true := by decide +kernel
theorem w_applies : (headSpec (Jvm.Cond.code x code maxLocals ret :: tables_1) room_1).applies x e0.platform about1 = true :=
  (Spec.applies_iff w_frames).mpr ⟨w_running, w_runnable, w_alone, w_named, w_hears, w_ripe, w_room, w_tables⟩
theorem atStart : AtStart classFile x code maxLocals ret World_1 tables_1 room_1 Calls_1 rest_1 Pre_1 launch0 p0 e0 about1 theMethod args0 below0 :=
  ⟨lists_1, trivial, launch0.admits_env _ _ _, launch0.least_env, fairChoices_fair.cas, fairChoices_fair.clock, w_frames, w_args, w_heap, w_applies, trivial, trivial, w_case⟩
end start1
theorem witness_1 : WitnessClaimed_1 := ⟨start1.p0, start1.e0, start1.about1, start1.theMethod, start1.args0, start1.below0, start1.atStart⟩
end Jvm.Pilot.@@N@@
