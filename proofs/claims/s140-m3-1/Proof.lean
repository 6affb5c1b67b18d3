import JvmDerived
import JvmDerived.Pilot.@@N@@Statement
import JvmDerived.Pilot.@@N@@Code
set_option linter.unusedVariables false
set_option linter.unusedSimpArgs false
namespace Jvm.RoadKit
open Sem ClassFile Op Lib Jvm.Stand Jvm.Free Jvm.LawKit
section New
variable {p : Program} {l : Launch} {e : Env} {R : Room} {s : State} {m : MethodId} {args : Array Value} {below : List Frame} {meth : Method} {c : Code} {T : State} {locs : List Loc} {cells slots : Nat}
theorem retI (X : Stand p l e R s m args below meth c T locs cells slots) (hx : p.tables.exec = Jvm.exec) {pc : Nat} {Ls : Array Slot} {z : Int32} {rest : List Value} (hret : meth.sig.returnType = some .int) (hd : decode c.code pc = .ok (.ireturn, 1)) {fs : List Frame}
    (hl : ∀ (f : JFrame) (acts : List Action), f.method = m → f.locked = none → f.entered = [] → (doReturn e (T.setTop f) acts (some (.int z))).1 = T.setFrames fs) : Steps p.tables e below (T.setTop (mkF m pc Ls (.int z :: rest))) (T.setFrames fs) := by
  have hm' : T.vm.method? m = some meth := X.method'
  have hn : narrow .int (.int z) = .int z := rfl
  show Steps p.tables e below (T.setTop { method := m, pc := pc, locals := Ls, stack := _ :: rest, locked := none }) _
  jvm_step X.here [X.here.top, hx, hd, hm', hret, hn]
  first | (intro acts; rw [hl _ acts rfl rfl rfl]) | rw [hl _ _ rfl rfl rfl]
  exact Steps.refl _
theorem retL (X : Stand p l e R s m args below meth c T locs cells slots) (hx : p.tables.exec = Jvm.exec) {pc : Nat} {Ls : Array Slot} {z : Int64} {rest : List Value} (hret : meth.sig.returnType = some .long) (hd : decode c.code pc = .ok (.lreturn, 1)) {fs : List Frame}
    (hl : ∀ (f : JFrame) (acts : List Action), f.method = m → f.locked = none → f.entered = [] → (doReturn e (T.setTop f) acts (some (.long z))).1 = T.setFrames fs) : Steps p.tables e below (T.setTop (mkF m pc Ls (.long z :: rest))) (T.setFrames fs) := by
  have hm' : T.vm.method? m = some meth := X.method'
  have hn : narrow .long (.long z) = .long z := rfl
  show Steps p.tables e below (T.setTop { method := m, pc := pc, locals := Ls, stack := _ :: rest, locked := none }) _
  jvm_step X.here [X.here.top, hx, hd, hm', hret, hn]
  first | (intro acts; rw [hl _ acts rfl rfl rfl]) | rw [hl _ _ rfl rfl rfl]
  exact Steps.refl _
theorem retA (X : Stand p l e R s m args below meth c T locs cells slots) (hx : p.tables.exec = Jvm.exec) {pc : Nat} {Ls : Array Slot} {z : Value} {ty : FieldType} {rest : List Value} (hv : z.isRef = true) (hty : ty.isReference = true) (hret : meth.sig.returnType = some ty) (hd : decode c.code pc = .ok (.areturn, 1)) {fs : List Frame}
    (hl : ∀ (f : JFrame) (acts : List Action), f.method = m → f.locked = none → f.entered = [] → (doReturn e (T.setTop f) acts (some z)).1 = T.setFrames fs) : Steps p.tables e below (T.setTop (mkF m pc Ls (z :: rest))) (T.setFrames fs) := by
  have hm' : T.vm.method? m = some meth := X.method'
  show Steps p.tables e below (T.setTop { method := m, pc := pc, locals := Ls, stack := _ :: rest, locked := none }) _
  jvm_step X.here [X.here.top, hx, hd, hm', hret, hv, hty]
  first | (intro acts; rw [hl _ acts rfl rfl rfl]) | rw [hl _ _ rfl rfl rfl]
  exact Steps.refl _
end New
theorem own_fw {tb : Tables} {e : Env} {below : List Frame} {A B : State} {P : State → Outcome → Prop} (h : ∀ t, Steps tb e below A t → Steps tb e below B t) (k : ∃ t o, Steps tb e below A t ∧ P t o) : ∃ t o, Steps tb e below B t ∧ P t o := by
  obtain ⟨t, o, h1, h2⟩ := k
  exact ⟨t, o, h t h1, h2⟩
theorem own_hide {p : Program} {l : Launch} {e : Env} {R : Room} {s : State} {m : MethodId} {args : Array Value} {below : List Frame} {meth : Method} {c : Code} {T : State} {locs : List Loc} {cells slots k : Nat} (X : Stand p l e R s m args below meth c T locs cells slots) (N : Fr k locs) : ∃ L, Stand p l e R s m args below meth c T L cells slots ∧ Fr k L := ⟨_, X, N⟩
theorem own_ret {r : Option FieldType} {t : FieldType} {v : Option Value} (h : r = some t) : r = none → v = none := fun q => by rw [h] at q; cases q
def own_irem (x y : Int32) : Int32 := x - (x / y) * y
def own_lrem (x y : Int64) : Int64 := x - (x / y) * y
end Jvm.RoadKit
namespace Jvm.Pilot.@@N@@
open Jvm Jvm.ClassFile Sem Op Lib Jvm.Free Jvm.Stand Jvm.LawKit Jvm.RoadKit Bundle Jvm.Pilot.@@N@@.Jvm.D
theorem ox_aload {tb : Tables} [Ours tb] {e : Env} {below : List Frame} {T target : State} {m : MethodId} {c : Code} {pc : Nat} {Ls : Array Slot} {S : List Value} (h : At T m c below) (hx : tb.exec = Jvm.exec) {k : Nat} {v : Value} (hd : decode c.code pc = .ok (.aload k, 2)) (hl : Ls[k]? = some (.val v)) (hv : v.isRef = true) (hr : Steps tb e below (T.setTop (mkF m (pc + 2) (Ls) (v :: S))) target) : Steps tb e below (T.setTop (mkF m pc Ls S)) target := XS.aload (g := mkF m pc Ls S) h hx rfl hd hl hv hr
theorem ox_aloadN {tb : Tables} [Ours tb] {e : Env} {below : List Frame} {T target : State} {m : MethodId} {c : Code} {pc : Nat} {Ls : Array Slot} {S : List Value} (h : At T m c below) (hx : tb.exec = Jvm.exec) {k : Fin 4} {v : Value} (hd : decode c.code pc = .ok (.aload_n k, 1)) (hl : Ls[k.val]? = some (.val v)) (hv : v.isRef = true) (hr : Steps tb e below (T.setTop (mkF m (pc + 1) (Ls) (v :: S))) target) : Steps tb e below (T.setTop (mkF m pc Ls S)) target := XS.aloadN (g := mkF m pc Ls S) h hx rfl hd hl hv hr
theorem ox_astore {tb : Tables} [Ours tb] {e : Env} {below : List Frame} {T target : State} {m : MethodId} {c : Code} {pc : Nat} {Ls : Array Slot} {S : List Value} (h : At T m c below) (hx : tb.exec = Jvm.exec) {k : Nat} {x : Value} {rest : List Value} {l' : Array Slot} (hd : decode c.code pc = .ok (.astore k, 2)) (hs : S = x :: rest) (hv : x.isRef = true) (hl : storeLocals Ls k x = some l') (hr : Steps tb e below (T.setTop (mkF m (pc + 2) (l') (rest))) target) : Steps tb e below (T.setTop (mkF m pc Ls S)) target := XS.astore (g := mkF m pc Ls S) h hx rfl hd hs hv hl hr
theorem ox_astoreN {tb : Tables} [Ours tb] {e : Env} {below : List Frame} {T target : State} {m : MethodId} {c : Code} {pc : Nat} {Ls : Array Slot} {S : List Value} (h : At T m c below) (hx : tb.exec = Jvm.exec) {k : Fin 4} {x : Value} {rest : List Value} {l' : Array Slot} (hd : decode c.code pc = .ok (.astore_n k, 1)) (hs : S = x :: rest) (hv : x.isRef = true) (hl : storeLocals Ls k.val x = some l') (hr : Steps tb e below (T.setTop (mkF m (pc + 1) (l') (rest))) target) : Steps tb e below (T.setTop (mkF m pc Ls S)) target := XS.astoreN (g := mkF m pc Ls S) h hx rfl hd hs hv hl hr
theorem ox_bipush {tb : Tables} [Ours tb] {e : Env} {below : List Frame} {T target : State} {m : MethodId} {c : Code} {pc : Nat} {Ls : Array Slot} {S : List Value} (h : At T m c below) (hx : tb.exec = Jvm.exec) {i : Int} (hd : decode c.code pc = .ok (.bipush i, 2)) (hr : Steps tb e below (T.setTop (mkF m (pc + 2) (Ls) (.int (Int8.ofInt i).toInt32 :: S))) target) : Steps tb e below (T.setTop (mkF m pc Ls S)) target := XS.bipush (g := mkF m pc Ls S) h hx rfl hd hr
theorem ox_dup {tb : Tables} [Ours tb] {e : Env} {below : List Frame} {T target : State} {m : MethodId} {c : Code} {pc : Nat} {Ls : Array Slot} {S : List Value} (h : At T m c below) (hx : tb.exec = Jvm.exec) {x : Value} {rest : List Value} (hd : decode c.code pc = .ok (.dup, 1)) (hs : S = x :: rest) (hc : x.category = 1) (hr : Steps tb e below (T.setTop (mkF m (pc + 1) (Ls) (x :: x :: rest))) target) : Steps tb e below (T.setTop (mkF m pc Ls S)) target := XS.dup (g := mkF m pc Ls S) h hx rfl hd hs hc hr
theorem ox_dupX1 {tb : Tables} [Ours tb] {e : Env} {below : List Frame} {T target : State} {m : MethodId} {c : Code} {pc : Nat} {Ls : Array Slot} {S : List Value} (h : At T m c below) (hx : tb.exec = Jvm.exec) {x y : Value} {rest : List Value} (hd : decode c.code pc = .ok (.dup_x1, 1)) (hs : S = x :: y :: rest) (hc : x.category = 1) (hc2 : y.category = 1) (hr : Steps tb e below (T.setTop (mkF m (pc + 1) (Ls) (x :: y :: x :: rest))) target) : Steps tb e below (T.setTop (mkF m pc Ls S)) target := XS.dupX1 (g := mkF m pc Ls S) h hx rfl hd hs hc hc2 hr
theorem ox_goto {tb : Tables} [Ours tb] {e : Env} {below : List Frame} {T target : State} {m : MethodId} {c : Code} {pc : Nat} {Ls : Array Slot} {S : List Value} (h : At T m c below) (hx : tb.exec = Jvm.exec) {o : Int} {pc0 pc' : Nat} (hpc : pc = pc0) (hd : decode c.code pc = .ok (.goto o, 3)) (ho : 0 ≤ (pc0 : Int) + o) (hp : ((pc0 : Int) + o).toNat = pc') (hr : Steps tb e below (T.setTop (mkF m (pc') (Ls) (S))) target) : Steps tb e below (T.setTop (mkF m pc Ls S)) target := XS.goto (g := mkF m pc Ls S) h hx rfl hpc hd ho hp hr
theorem ox_iadd {tb : Tables} [Ours tb] {e : Env} {below : List Frame} {T target : State} {m : MethodId} {c : Code} {pc : Nat} {Ls : Array Slot} {S : List Value} (h : At T m c below) (hx : tb.exec = Jvm.exec) {x y : Int32} {rest : List Value} (hd : decode c.code pc = .ok (.iadd, 1)) (hs : S = .int y :: .int x :: rest) (hr : Steps tb e below (T.setTop (mkF m (pc + 1) (Ls) (.int (x + y) :: rest))) target) : Steps tb e below (T.setTop (mkF m pc Ls S)) target := XS.iadd (g := mkF m pc Ls S) h hx rfl hd hs hr
theorem ox_iand {tb : Tables} [Ours tb] {e : Env} {below : List Frame} {T target : State} {m : MethodId} {c : Code} {pc : Nat} {Ls : Array Slot} {S : List Value} (h : At T m c below) (hx : tb.exec = Jvm.exec) {x y : Int32} {rest : List Value} (hd : decode c.code pc = .ok (.iand, 1)) (hs : S = .int y :: .int x :: rest) (hr : Steps tb e below (T.setTop (mkF m (pc + 1) (Ls) (.int (x &&& y) :: rest))) target) : Steps tb e below (T.setTop (mkF m pc Ls S)) target := XS.iand (g := mkF m pc Ls S) h hx rfl hd hs hr
theorem ox_icmpNo {tb : Tables} [Ours tb] {e : Env} {below : List Frame} {T target : State} {m : MethodId} {c : Code} {pc : Nat} {Ls : Array Slot} {S : List Value} (h : At T m c below) (hx : tb.exec = Jvm.exec) {cd : ClassFile.Cond} {o : Int} {x y : Int32} {rest : List Value} (hd : decode c.code pc = .ok (.if_icmp cd o, 3)) (hs : S = .int y :: .int x :: rest) (hc : if_icmp.holds cd x y = false) (hr : Steps tb e below (T.setTop (mkF m (pc + 3) (Ls) (rest))) target) : Steps tb e below (T.setTop (mkF m pc Ls S)) target := XS.icmpNo (g := mkF m pc Ls S) h hx rfl hd hs hc hr
theorem ox_icmpYes {tb : Tables} [Ours tb] {e : Env} {below : List Frame} {T target : State} {m : MethodId} {c : Code} {pc : Nat} {Ls : Array Slot} {S : List Value} (h : At T m c below) (hx : tb.exec = Jvm.exec) {cd : ClassFile.Cond} {x y : Int32} {rest : List Value} {o : Int} {pc0 pc' : Nat} (hpc : pc = pc0) (hd : decode c.code pc = .ok (.if_icmp cd o, 3)) (hs : S = .int y :: .int x :: rest) (hc : if_icmp.holds cd x y = true) (ho : 0 ≤ (pc0 : Int) + o) (hp : ((pc0 : Int) + o).toNat = pc') (hr : Steps tb e below (T.setTop (mkF m (pc') (Ls) (rest))) target) : Steps tb e below (T.setTop (mkF m pc Ls S)) target := XS.icmpYes (g := mkF m pc Ls S) h hx rfl hpc hd hs hc ho hp hr
theorem ox_iconst {tb : Tables} [Ours tb] {e : Env} {below : List Frame} {T target : State} {m : MethodId} {c : Code} {pc : Nat} {Ls : Array Slot} {S : List Value} (h : At T m c below) (hx : tb.exec = Jvm.exec) {i : Int} (hd : decode c.code pc = .ok (.iconst i, 1)) (hr : Steps tb e below (T.setTop (mkF m (pc + 1) (Ls) (.int (Int32.ofInt i) :: S))) target) : Steps tb e below (T.setTop (mkF m pc Ls S)) target := XS.iconst (g := mkF m pc Ls S) h hx rfl hd hr
theorem ox_ifNo {tb : Tables} [Ours tb] {e : Env} {below : List Frame} {T target : State} {m : MethodId} {c : Code} {pc : Nat} {Ls : Array Slot} {S : List Value} (h : At T m c below) (hx : tb.exec = Jvm.exec) {cd : ClassFile.Cond} {o : Int} {x : Int32} {rest : List Value} (hd : decode c.code pc = .ok (.ifCond cd o, 3)) (hs : S = .int x :: rest) (hc : ifCond.holds cd x = false) (hr : Steps tb e below (T.setTop (mkF m (pc + 3) (Ls) (rest))) target) : Steps tb e below (T.setTop (mkF m pc Ls S)) target := XS.ifNo (g := mkF m pc Ls S) h hx rfl hd hs hc hr
theorem ox_ifYes {tb : Tables} [Ours tb] {e : Env} {below : List Frame} {T target : State} {m : MethodId} {c : Code} {pc : Nat} {Ls : Array Slot} {S : List Value} (h : At T m c below) (hx : tb.exec = Jvm.exec) {cd : ClassFile.Cond} {x : Int32} {rest : List Value} {o : Int} {pc0 pc' : Nat} (hpc : pc = pc0) (hd : decode c.code pc = .ok (.ifCond cd o, 3)) (hs : S = .int x :: rest) (hc : ifCond.holds cd x = true) (ho : 0 ≤ (pc0 : Int) + o) (hp : ((pc0 : Int) + o).toNat = pc') (hr : Steps tb e below (T.setTop (mkF m (pc') (Ls) (rest))) target) : Steps tb e below (T.setTop (mkF m pc Ls S)) target := XS.ifYes (g := mkF m pc Ls S) h hx rfl hpc hd hs hc ho hp hr
theorem ox_iinc {tb : Tables} [Ours tb] {e : Env} {below : List Frame} {T target : State} {m : MethodId} {c : Code} {pc : Nat} {Ls : Array Slot} {S : List Value} (h : At T m c below) (hx : tb.exec = Jvm.exec) {k : Nat} {cst : Int} {x : Int32} {l' : Array Slot} (hd : decode c.code pc = .ok (.iinc k cst, 3)) (hl : Ls[k]? = some (.val (.int x))) (hl' : storeLocals Ls k (.int (x + Int32.ofInt cst)) = some l') (hr : Steps tb e below (T.setTop (mkF m (pc + 3) (l') (S))) target) : Steps tb e below (T.setTop (mkF m pc Ls S)) target := XS.iinc (g := mkF m pc Ls S) h hx rfl hd hl hl' hr
theorem ox_iload {tb : Tables} [Ours tb] {e : Env} {below : List Frame} {T target : State} {m : MethodId} {c : Code} {pc : Nat} {Ls : Array Slot} {S : List Value} (h : At T m c below) (hx : tb.exec = Jvm.exec) {k : Nat} {v : Int32} (hd : decode c.code pc = .ok (.iload k, 2)) (hl : Ls[k]? = some (.val (.int v))) (hr : Steps tb e below (T.setTop (mkF m (pc + 2) (Ls) (.int v :: S))) target) : Steps tb e below (T.setTop (mkF m pc Ls S)) target := XS.iload (g := mkF m pc Ls S) h hx rfl hd hl hr
theorem ox_iloadN {tb : Tables} [Ours tb] {e : Env} {below : List Frame} {T target : State} {m : MethodId} {c : Code} {pc : Nat} {Ls : Array Slot} {S : List Value} (h : At T m c below) (hx : tb.exec = Jvm.exec) {k : Fin 4} {v : Int32} (hd : decode c.code pc = .ok (.iload_n k, 1)) (hl : Ls[k.val]? = some (.val (.int v))) (hr : Steps tb e below (T.setTop (mkF m (pc + 1) (Ls) (.int v :: S))) target) : Steps tb e below (T.setTop (mkF m pc Ls S)) target := XS.iloadN (g := mkF m pc Ls S) h hx rfl hd hl hr
theorem ox_imul {tb : Tables} [Ours tb] {e : Env} {below : List Frame} {T target : State} {m : MethodId} {c : Code} {pc : Nat} {Ls : Array Slot} {S : List Value} (h : At T m c below) (hx : tb.exec = Jvm.exec) {x y : Int32} {rest : List Value} (hd : decode c.code pc = .ok (.imul, 1)) (hs : S = .int y :: .int x :: rest) (hr : Steps tb e below (T.setTop (mkF m (pc + 1) (Ls) (.int (x * y) :: rest))) target) : Steps tb e below (T.setTop (mkF m pc Ls S)) target := XS.imul (g := mkF m pc Ls S) h hx rfl hd hs hr
theorem ox_irem {tb : Tables} [Ours tb] {e : Env} {below : List Frame} {T target : State} {m : MethodId} {c : Code} {pc : Nat} {Ls : Array Slot} {S : List Value} (h : At T m c below) (hx : tb.exec = Jvm.exec) {x y : Int32} {rest : List Value} (hd : decode c.code pc = .ok (.irem, 1)) (hs : S = .int y :: .int x :: rest) (hy : y ≠ 0) (hr : Steps tb e below (T.setTop (mkF m (pc + 1) (Ls) (.int (x - (x / y) * y) :: rest))) target) : Steps tb e below (T.setTop (mkF m pc Ls S)) target := XS.irem (g := mkF m pc Ls S) h hx rfl hd hs hy hr
theorem ox_istore {tb : Tables} [Ours tb] {e : Env} {below : List Frame} {T target : State} {m : MethodId} {c : Code} {pc : Nat} {Ls : Array Slot} {S : List Value} (h : At T m c below) (hx : tb.exec = Jvm.exec) {k : Nat} {x : Int32} {rest : List Value} {l' : Array Slot} (hd : decode c.code pc = .ok (.istore k, 2)) (hs : S = .int x :: rest) (hl : storeLocals Ls k (.int x) = some l') (hr : Steps tb e below (T.setTop (mkF m (pc + 2) (l') (rest))) target) : Steps tb e below (T.setTop (mkF m pc Ls S)) target := XS.istore (g := mkF m pc Ls S) h hx rfl hd hs hl hr
theorem ox_istoreN {tb : Tables} [Ours tb] {e : Env} {below : List Frame} {T target : State} {m : MethodId} {c : Code} {pc : Nat} {Ls : Array Slot} {S : List Value} (h : At T m c below) (hx : tb.exec = Jvm.exec) {k : Fin 4} {x : Int32} {rest : List Value} {l' : Array Slot} (hd : decode c.code pc = .ok (.istore_n k, 1)) (hs : S = .int x :: rest) (hl : storeLocals Ls k.val (.int x) = some l') (hr : Steps tb e below (T.setTop (mkF m (pc + 1) (l') (rest))) target) : Steps tb e below (T.setTop (mkF m pc Ls S)) target := XS.istoreN (g := mkF m pc Ls S) h hx rfl hd hs hl hr
theorem ox_isub {tb : Tables} [Ours tb] {e : Env} {below : List Frame} {T target : State} {m : MethodId} {c : Code} {pc : Nat} {Ls : Array Slot} {S : List Value} (h : At T m c below) (hx : tb.exec = Jvm.exec) {x y : Int32} {rest : List Value} (hd : decode c.code pc = .ok (.isub, 1)) (hs : S = .int y :: .int x :: rest) (hr : Steps tb e below (T.setTop (mkF m (pc + 1) (Ls) (.int (x - y) :: rest))) target) : Steps tb e below (T.setTop (mkF m pc Ls S)) target := XS.isub (g := mkF m pc Ls S) h hx rfl hd hs hr
theorem ox_iushr {tb : Tables} [Ours tb] {e : Env} {below : List Frame} {T target : State} {m : MethodId} {c : Code} {pc : Nat} {Ls : Array Slot} {S : List Value} (h : At T m c below) (hx : tb.exec = Jvm.exec) {x : Int32} {y : Int32} {rest : List Value} (hd : decode c.code pc = .ok (.iushr, 1)) (hs : S = .int y :: .int x :: rest) (hr : Steps tb e below (T.setTop (mkF m (pc + 1) (Ls) (.int ((x.toUInt32 >>> (y &&& 31).toUInt32).toInt32) :: rest))) target) : Steps tb e below (T.setTop (mkF m pc Ls S)) target := XS.iushr (g := mkF m pc Ls S) h hx rfl hd hs hr
theorem ox_pop {tb : Tables} [Ours tb] {e : Env} {below : List Frame} {T target : State} {m : MethodId} {c : Code} {pc : Nat} {Ls : Array Slot} {S : List Value} (h : At T m c below) (hx : tb.exec = Jvm.exec) {x : Value} {rest : List Value} (hd : decode c.code pc = .ok (.pop, 1)) (hs : S = x :: rest) (hc : x.category = 1) (hr : Steps tb e below (T.setTop (mkF m (pc + 1) (Ls) (rest))) target) : Steps tb e below (T.setTop (mkF m pc Ls S)) target := XS.pop (g := mkF m pc Ls S) h hx rfl hd hs hc hr
theorem ox_sipush {tb : Tables} [Ours tb] {e : Env} {below : List Frame} {T target : State} {m : MethodId} {c : Code} {pc : Nat} {Ls : Array Slot} {S : List Value} (h : At T m c below) (hx : tb.exec = Jvm.exec) {i : Int} (hd : decode c.code pc = .ok (.sipush i, 3)) (hr : Steps tb e below (T.setTop (mkF m (pc + 3) (Ls) (.int (Int16.ofInt i).toInt32 :: S))) target) : Steps tb e below (T.setTop (mkF m pc Ls S)) target := XS.sipush (g := mkF m pc Ls S) h hx rfl hd hr
theorem own_w {Z : State} {a0 : Array Value} (hw : ∀ d ∈ tables_1, d.before a0 Z = true) (i : Nat) {d : Jvm.Cond} (h : tables_1[i]? = some d) : d.before a0 Z = true := hw _ (List.mem_of_getElem? h)
theorem own_mr {x w : Nat} (h : 2 * 0 + x = w) : 2 * 0 + x ≤ w := Nat.le_of_eq h
abbrev mN0 : MethodName := ⟨"com/example/dolqa/dolqa/data/UnaryRelation", "size", "()I"⟩
abbrev mN1 : MethodName := ⟨"com/example/dolqa/dolqa/data/UnaryRelation", "member", "(I)I"⟩
abbrev mN2 : MethodName := ⟨"com/example/dolqa/dolqa/data/UnaryRelation$Builder", "add", "(I)Lcom/example/dolqa/dolqa/data/UnaryRelation$Builder;"⟩
abbrev mN3 : MethodName := ⟨"java/util/ArrayList", "add", "(Ljava/lang/Object;)Z"⟩
abbrev mN4 : MethodName := ⟨"java/util/ArrayList$Itr", "hasNext", "()Z"⟩
abbrev mN5 : MethodName := ⟨"java/util/ArrayList$Itr", "next", "()Ljava/lang/Object;"⟩
abbrev mN6 : MethodName := ⟨"java/lang/Math", "max", "(II)I"⟩
abbrev mN7 : MethodName := ⟨"com/example/dolqa/dolqa/data/UnaryRelation$Builder", "build", "()Lcom/example/dolqa/dolqa/data/UnaryRelation;"⟩
abbrev mN8 : MethodName := ⟨"java/util/ArrayList", "add", "(Ljava/lang/Object;[Ljava/lang/Object;I)V"⟩
abbrev mN9 : MethodName := ⟨"java/util/ArrayList$Itr", "checkForComodification", "()V"⟩
abbrev mN10 : MethodName := ⟨"java/util/Iterator", "hasNext", "()Z"⟩
abbrev mN11 : MethodName := ⟨"java/lang/Math", "min", "(II)I"⟩
abbrev mN12 : MethodName := ⟨"com/example/dolqa/dolqa/data/UnaryRelation", "<init>", "([I)V"⟩
abbrev mN13 : MethodName := ⟨"com/example/dolqa/dolqa/data/UnaryRelation$Builder", "<init>", "()V"⟩
abbrev mN14 : MethodName := ⟨"java/util/ArrayList", "<init>", "()V"⟩
abbrev mN15 : MethodName := ⟨"java/util/ArrayList", "iterator", "()Ljava/util/Iterator;"⟩
abbrev mN16 : MethodName := ⟨"com/example/dolqa/dolqa/data/UnaryRelation", "union", "(Ljava/util/List;)Lcom/example/dolqa/dolqa/data/UnaryRelation;"⟩
abbrev mN17 : MethodName := ⟨"java/util/Iterator", "next", "()Ljava/lang/Object;"⟩
abbrev mN18 : MethodName := ⟨"java/util/AbstractCollection", "<init>", "()V"⟩
abbrev mN19 : MethodName := ⟨"java/util/AbstractList", "<init>", "()V"⟩
abbrev mN20 : MethodName := ⟨"java/util/ArrayList", "grow", "(I)[Ljava/lang/Object;"⟩
abbrev mN21 : MethodName := ⟨"java/util/ArrayList", "grow", "()[Ljava/lang/Object;"⟩
abbrev mN22 : MethodName := ⟨"java/util/ArrayList$Itr", "<init>", "(Ljava/util/ArrayList;)V"⟩
abbrev mN23 : MethodName := ⟨"java/util/ArrayList", "size", "()I"⟩
theorem own_and {a b : Jvm.Cond} {args : Array Value} {s : State} (h1 : a.before args s = true) (h2 : b.before args s = true) : (Jvm.Cond.and a b).before args s = true := by
  rw [Cond.before_and, h1, h2]; rfl
theorem own_tt {args : Array Value} {s : State} : (Jvm.Cond.tt).before args s = true := rfl
def IA (Z : State) (h : Heap) (a : Addr) (k : ClassId) (n : Nat) (xs : List Int32) : Prop := Arv Z h a k .int (Int32.ofNat n) (xs.map Value.int) (.int 0) ∧ n ≤ 100 ∧ xs.length ≤ n
theorem own_small {n : Nat} (h : n ≤ 100) : (Int32.ofNat n).toNatClampNeg = n := by
  have : (Int32.ofNat n).toInt = n := Int32.toInt_ofNat_small (by omega)
  show (Int32.ofNat n).toInt.toNat = n
  omega
theorem own_nneg {n : Nat} (h : n ≤ 100) : ¬ Int32.ofNat n < 0 := by
  have e : (Int32.ofNat n).toInt = n := Int32.toInt_ofNat_small (by omega)
  rw [Int32.lt_iff_toInt_lt, e]
  have z : (0 : Int32).toInt = 0 := rfl
  omega
theorem own_htab {Z s : State} {a0 args : Array Value} (hZ : Z.Warmed39 s.vm) (hw : ∀ d ∈ tables_1, d.before a0 Z = true) : Jvm.Free.JA.CopyOfI.tab.before args s = true := by
  refine XT.unparts (mvT hZ (own_w hw 32 rfl)) ?_
  intro w h
  have hm : (XT.tabOf JP.Math_min_II.yN JP.Math_min_II.yB 2 (some .int) JP.Math_min_II.site).before args s = true := by
    refine XT.unparts (mvT hZ (own_w hw 4 rfl)) ?_
    intro w h
    rcases List.mem_cons.mp h with rfl | h
    · exact mvT hZ (own_w hw 3 rfl)
    · cases h
  simp only [Jvm.Free.JA.CopyOfI.site, XT.cloneW, XT.staticW, XT.acW, List.cons_append, List.nil_append, List.mem_cons, List.not_mem_nil, or_false] at h
  rcases h with rfl | rfl | rfl | rfl | rfl | rfl | rfl | rfl | rfl | rfl | rfl | rfl | rfl | rfl | rfl | rfl | rfl
  · exact mvT hZ (own_w hw 31 rfl)
  · exact mvT hZ (own_w hw 61 rfl)
  · exact mvT hZ (own_w hw 62 rfl)
  · exact mvA hZ (own_w hw 14 rfl)
  · exact hm
  · exact mvT hZ (own_w hw 54 rfl)
  · exact mvT hZ (own_w hw 55 rfl)
  · exact mvT hZ (own_w hw 59 rfl)
  · exact mvT hZ (own_w hw 57 rfl)
  · exact mvT hZ (own_w hw 58 rfl)
  · exact mvT hZ (own_w hw 60 rfl)
  · exact mvT hZ (own_w hw 33 rfl)
  · exact mvT hZ (own_w hw 2 rfl)
  · exact mvT hZ (own_w hw 34 rfl)
  · exact mvT hZ (own_w hw 37 rfl)
  · exact mvT hZ (own_w hw 35 rfl)
  · exact mvT hZ (own_w hw 36 rfl)
theorem own_fit (xs : List Int32) (j : Nat) : fits .int ((xs.map Value.int).getD j (.int 0)) = true := by
  rw [List.getD_eq_getElem?_getD, List.getElem?_map]
  cases xs[j]? <;> rfl
theorem own_take {cl : Cell} {xs : List Int32} {cap n j : Nat} (hlen : xs.length ≤ cap) (S : cl.slots.size = cap) (Hs : Has cl (xs.map Value.int) (.int 0)) (hj : j < n) : cl.slots.getD j (defaultValue .int) = ((xs.take n).map Value.int).getD j (.int 0) := by
  have e : ((xs.take n).map Value.int).getD j (.int 0) = (xs.map Value.int).getD j (.int 0) := by
    rw [List.getD_eq_getElem?_getD, List.getD_eq_getElem?_getD, List.getElem?_map, List.getElem?_map, List.getElem?_take_of_lt hj]
  rw [e, Array.getD_eq_getD_getElem?]
  by_cases hc : j < cap
  · rw [Hs j (by omega)]; rfl
  · rw [Array.getElem?_eq_none (by omega), List.getD_eq_getElem?_getD, List.getElem?_eq_none (by rw [List.length_map]; omega)]; rfl
theorem pdCP : parseMethodDescriptor "([II)[I" = some ⟨[.array .int, .int], some (.array .int)⟩ := by decide +kernel
theorem own_more {p : Program} {l : Launch} {e : Env} {R : Room} {s : State} {m : MethodId} {args : Array Value} {below : List Frame} {meth : Method} {c : Code} {T : State} {locs : List Loc} {cells slots cells' slots' : Nat} (X : Stand p l e R s m args below meth c T locs cells slots) (h1 : cells ≤ cells') (h2 : slots ≤ slots') : Stand p l e R s m args below meth c T locs cells' slots' := { X with same := X.same.mono h1 h2 }
set_option maxRecDepth 65536 in
theorem own_copy {p : Program} {l : Launch} {e : Env} {R : Room} {s : State} {m : MethodId} {args : Array Value} {below : List Frame} {meth : Method} {c : Code} {T : State} {locs : List Loc} {cells slots : Nat} {Z : State} {a0 : Array Value} {h : Heap}
    (X : Stand p l e R s m args below meth c T locs cells slots) (hx : p.tables.exec = Jvm.exec) (hZ : Z.Warmed39 s.vm) (hw : ∀ d ∈ tables_1, d.before a0 Z = true) (hown : s.vm.findClass "com/example/dolqa/dolqa/data/UnaryRelation$Builder" = some m.cls) (eT : T.heap = h)
    {a : Addr} {k : ClassId} {cap : Nat} {xs : List Int32} (A : IA Z h a k cap xs) (hI : Z.vm.findClass "[I" = some k) {n : Nat} (hn : n ≤ 100)
    {g : JFrame} (hg : g.method = m) (hsize : g.locals.size = c.maxLocals) {rest : List Value} (hs : g.stack = .int (Int32.ofNat n) :: .ref a :: rest) {W : Nat} (hW : 2 * g.monitorRoom + (rest.map fun v => v.category).sum ≤ W) (hd : decode c.code g.pc = .ok (.invokestatic 17, 3))
    (hfr : 2 ≤ R.frames) (hlo : W + 54 ≤ R.locals) (hc : cells + 1 ≤ R.cells) {N : Nat} (hN : n ≤ N) (hl : slots + N ≤ R.slots) :
    ∃ T' h', Stand p l e R s m args below meth c T' locs (cells + 1) (slots + N) ∧ T'.heap = h' ∧ Ext h h' ∧ IA Z h' h.size k n (xs.take n) ∧ ∀ target, Steps p.tables e below (T'.setTop { g with pc := g.pc + 3, stack := .ref h.size :: rest }) target → Steps p.tables e below (T.setTop g) target := by
  obtain ⟨⟨cl, Ar, q, S, Ng, Hs, G⟩, h100, hlen⟩ := A
  subst eT
  rw [own_small h100] at S
  obtain ⟨v, vm₁, B, hw1, XB, ⟨⟨hv, C, ⟨c1, c2, c3, c4⟩, c5, c6, c7, c8, c9⟩, hlo', hce, hsl⟩, st⟩ := Jvm.LawKit.callS X hx (y := (⟨"java/util/Arrays", "copyOf", "([II)[I"⟩ : MethodName)) hown (mvT hZ (own_w hw 29 rfl)) (mvT hZ (own_w hw 30 rfl)) (mvT hZ (own_w hw 31 rfl)) (mvT hZ (own_w hw 32 rfl)) (by decide)
    (Jvm.Free.JA.CopyOfI.pays (W := W) a cl n (own_htab hZ hw) hfr hlo) hg hsize (argsL := [.ref a, .int (Int32.ofNat n)]) (rest := rest) (lenOf pdCP rfl) hs hW hd
    (fun vm₁ hv => by
      have hal := (wtrans (U := T.setVm vm₁) hZ hv).alike
      exact ⟨hc, Nat.le_trans (Nat.add_le_add_left hN _) hl, rfl, ⟨Ar.1, State.isArrayOf_alike hal Ar.2.1, Ar.2.2, by rw [S]; omega⟩, by rw [hal.findClass, q]; exact hI, fun i v hiv => by
        have hi : i < cl.slots.size := (Array.getElem?_eq_some_iff.mp hiv).1
        have := Hs i hi
        rw [hiv] at this
        rw [Option.some.inj this]
        exact G i hi, by omega⟩)
  dsimp only [Pt.U, Pt.locs, Pt.cells, Pt.slots] at XB hlo' hce hsl st c1 c2 c9 hv
  have hsz : (T.setVm vm₁).heap.size = T.heap.size := rfl
  rw [hsz] at c1 hv
  subst hv
  rw [List.append_nil] at hlo'
  rw [hlo', hce, hsl] at XB
  have hal := (wtrans (U := B.U) hZ XB.warmed).alike
  refine ⟨B.U, _, own_more XB (Nat.le_refl _) (Nat.add_le_add_left hN _), rfl, ⟨Nat.le_of_lt (Array.getElem?_eq_some_iff.mp c1).1, fun z cz hz => c9 z cz hz⟩, ⟨⟨C, ⟨c1, State.isArrayOf_alike hal.symm c2, c3⟩, ?_, by rw [own_small hn]; exact c7, own_nneg hn, ?_, ?_⟩, hn, ?_⟩, st⟩
  · have := c6
    rw [hal.findClass, hI] at this
    exact (Option.some.inj this).symm
  · intro j hj
    rw [c7] at hj
    rw [c8 j hj]
    exact congrArg some (own_take hlen S Hs hj)
  · intro j hj
    rw [c7] at hj
    exact own_fit _ _
  · rw [List.length_take]; omega
theorem own_htabS {Z s : State} {a0 args : Array Value} (hZ : Z.Warmed39 s.vm) (hw : ∀ d ∈ tables_1, d.before a0 Z = true) : Jvm.Free.Str.AS1.tab.before args s = true := by
  refine own_and (mvT hZ (own_w hw 40 rfl)) (own_and (mvT hZ (own_w hw 41 rfl)) (own_and (mvT hZ (own_w hw 42 rfl)) (own_and ?_ (own_and (mvT hZ (own_w hw 31 rfl)) own_tt))))
  refine own_and (mvT hZ (own_w hw 44 rfl)) (own_and (mvT hZ (own_w hw 45 rfl)) (own_and (mvT hZ (own_w hw 46 rfl)) (own_and ?_ (own_and (mvT hZ (own_w hw 43 rfl)) own_tt))))
  refine own_and (mvT hZ (own_w hw 47 rfl)) (own_and (mvT hZ (own_w hw 48 rfl)) (own_and (mvT hZ (own_w hw 49 rfl)) (own_and ?_ (own_and (mvT hZ (own_w hw 43 rfl)) own_tt))))
  exact own_and (mvT hZ (own_w hw 50 rfl)) (mvT hZ (own_w hw 43 rfl))
theorem own_intAt {cl : Cell} {i : Nat} {z : Int32} (e : cl.slots[i]? = some (.int z)) : Jvm.Lib.StringLatin1.equals.intAt cl i = z := by
  show (match cl.slots[i]? with | some (.int x) => x | _ => 0) = z
  rw [e]
def own_un : Value → Int32
  | .int x => x
  | _ => 0
theorem own_slots {C : Cell} {n : Nat} (hs : C.slots.size = n) (hi : Jvm.Free.Str.Ints C) : C.slots.toList = ((List.range n).map (fun i => Jvm.Lib.StringLatin1.equals.intAt C i)).map Value.int := by
  apply List.ext_getElem?
  intro i
  rw [Array.getElem?_toList]
  by_cases h : i < n
  · rw [hi i (by omega), List.map_map, List.getElem?_map, List.getElem?_range h]; rfl
  · rw [Array.getElem?_eq_none (by omega), List.getElem?_eq_none (by simp; omega)]
theorem own_slots' {C : Cell} {xs : List Int32} (hs : C.slots.size = xs.length) (H : Has C (xs.map Value.int) (.int 0)) : C.slots.toList = xs.map Value.int := by
  apply List.ext_getElem?
  intro i
  rw [Array.getElem?_toList]
  by_cases h : i < xs.length
  · rw [H i (by omega), List.getD_eq_getElem?_getD, List.getElem?_eq_getElem (by simpa using h)]; rfl
  · rw [Array.getElem?_eq_none (by omega), List.getElem?_eq_none (by simp; omega)]
theorem own_unmap (xs : List Int32) : (xs.map Value.int).map own_un = xs := by
  rw [List.map_map]; exact List.map_id'' (fun _ => rfl) xs
theorem pdAS : parseMethodDescriptor "([I)V" = some ⟨[.array .int], none⟩ := by decide +kernel
set_option maxRecDepth 65536 in
theorem own_sort {p : Program} {l : Launch} {e : Env} {R : Room} {s : State} {m : MethodId} {args : Array Value} {below : List Frame} {meth : Method} {c : Code} {T : State} {locs : List Loc} {cells slots : Nat} {Z : State} {a0 : Array Value} {h : Heap}
    (X : Stand p l e R s m args below meth c T locs cells slots) (hx : p.tables.exec = Jvm.exec) (hZ : Z.Warmed39 s.vm) (hw : ∀ d ∈ tables_1, d.before a0 Z = true) (hown : s.vm.findClass "com/example/dolqa/dolqa/data/UnaryRelation$Builder" = some m.cls) (eT : T.heap = h)
    {a : Addr} {k : ClassId} {n : Nat} {xs : List Int32} (A : IA Z h a k n xs) (hn : n < 44) (hlen : xs.length = n)
    {g : JFrame} (hg : g.method = m) (hsize : g.locals.size = c.maxLocals) {rest : List Value} (hs : g.stack = .ref a :: rest) {W : Nat} (hW : 2 * g.monitorRoom + (rest.map fun v => v.category).sum ≤ W) (hd : decode c.code g.pc = .ok (.invokestatic 23, 3))
    (hfr : 5 ≤ R.frames) (hlo : W + (1 + 11) + 150 ≤ R.locals) (hc : cells ≤ R.cells) (hl : slots ≤ R.slots) :
    ∃ (T' : State) (h' : Heap) (L : List Loc) (ys : List Int32), Stand p l e R s m args below meth c T' (locs ++ L) cells slots ∧ (∀ x ∈ L, x.base = a) ∧ T'.heap = h' ∧ Keep h h' [a] ∧ IA Z h' a k n ys ∧ ys.length = n ∧ ys.Perm xs ∧ ys.Pairwise (· ≤ ·) ∧ ∀ target, Steps p.tables e below (T'.setTop { g with pc := g.pc + 3, stack := rest }) target → Steps p.tables e below (T.setTop g) target := by
  obtain ⟨⟨cl, Ar, q, S, Ng, Hs, G⟩, h100, hle⟩ := A
  subst eT
  rw [own_small h100] at S
  have hint : Jvm.Free.Str.Ints cl := fun i hi => by
    have e := Hs i hi
    have : ∃ z, (xs.map Value.int).getD i (.int 0) = .int z := by
      rw [List.getD_eq_getElem?_getD, List.getElem?_map]
      cases xs[i]? with
      | none => exact ⟨_, rfl⟩
      | some z => exact ⟨z, rfl⟩
    obtain ⟨z, hz⟩ := this
    rw [hz] at e
    rw [e, own_intAt e]
  obtain ⟨v, vm₁, B, hw1, XB, ⟨hv, ⟨C, b1, b2⟩, b3, b4, L, b5, b6, b7, b8⟩, st⟩ := Jvm.LawKit.callS X hx (y := (⟨"java/util/Arrays", "sort", "([I)V"⟩ : MethodName)) hown (mvT hZ (own_w hw 38 rfl)) (mvT hZ (own_w hw 39 rfl)) (mvT hZ (own_w hw 31 rfl)) (mvT hZ (own_w hw 40 rfl)) (by decide)
    (Jvm.Free.Str.AS1.pays (W := W) a cl (own_htabS hZ hw) hfr hlo) hg hsize (argsL := [.ref a]) (rest := rest) (lenOf pdAS rfl) hs hW hd
    (fun vm₁ hv => by
      have hal := (wtrans (U := T.setVm vm₁) hZ hv).alike
      exact ⟨hc, hl, rfl, ⟨Ar.1, State.isArrayOf_alike hal Ar.2.1, Ar.2.2, by rw [S]; omega, hint, Nat.zero_le _, Nat.le_refl _⟩, by rw [S]; omega⟩)
  dsimp only [Pt.U, Pt.locs, Pt.cells, Pt.slots] at XB b1 b3 b4 b6 b7 b8 st hv
  subst hv
  rw [b6, b7, b8] at XB
  have hal := (wtrans (U := B.U) hZ XB.warmed).alike
  obtain ⟨s1, s2, s3, s4, s5, s6, s7⟩ := b2
  have hsz : C.slots.size = n := by rw [s6, S]
  have e1 := own_slots hsz s7
  have e2 := own_slots' (by rw [S, hlen]) Hs
  rw [e1, e2] at s2
  have hl2 : ((List.range n).map (fun i => Jvm.Lib.StringLatin1.equals.intAt C i)).length = n := by simp
  refine ⟨B.U, _, L, (List.range n).map (fun i => Jvm.Lib.StringLatin1.equals.intAt C i), XB, b5, rfl, ⟨by rw [b4]; exact Nat.le_refl _, fun x cx hx hn => ?_, fun x cx hx => ?_⟩, ⟨⟨C, ⟨b1, ?_, by rw [s5]; exact Ar.2.2⟩, by rw [s4]; exact q, by rw [own_small h100]; exact hsz, Ng, ?_, fun i hi => own_fit _ _⟩, h100, by rw [hl2]; exact Nat.le_refl _⟩, hl2, ?_, ?_, st⟩
  · rw [b3 x (fun e => hn (by rw [e]; exact List.mem_singleton.mpr rfl))]; exact hx
  · by_cases e : x = a
    · subst e
      rw [Ar.1] at hx
      cases hx
      exact ⟨C, b1, s4, s5, s6⟩
    · exact ⟨cx, by rw [b3 x e]; exact hx, rfl, rfl, rfl⟩
  · obtain ⟨z1, z2⟩ := Ar.2.1
    exact ⟨by rw [s5]; exact z1, by rw [s4]; exact z2⟩
  · intro i hi
    rw [s7 i hi, List.getD_eq_getElem?_getD, List.map_map, List.getElem?_map, List.getElem?_range (by omega)]; rfl
  · have := s2.map own_un
    rw [own_unmap, own_unmap] at this
    exact this
  · rw [List.pairwise_iff_getElem]
    intro i j hi hj hij
    rw [List.getElem_map, List.getElem_map, List.getElem_range, List.getElem_range]
    rw [hl2] at hj
    exact s1 i j (Nat.zero_le _) (Nat.le_of_lt hij) (by rw [S]; exact hj)
section IAfacts
variable {Z : State} {h h' : Heap} {a b : Addr} {k : ClassId} {n : Nat} {xs : List Int32} {ws : List Addr} {sl : Nat} {v : Value}
theorem IA.ext (A : IA Z h a k n xs) (E : Ext h h') : IA Z h' a k n xs := ⟨A.1.ext E, A.2⟩
theorem IA.other (A : IA Z h a k n xs) (W : Wr h h' b sl v) (q : a ≠ b) : IA Z h' a k n xs := ⟨A.1.other W q, A.2⟩
theorem IA.keep (A : IA Z h a k n xs) (K : Keep h h' ws) (q : a ∉ ws) : IA Z h' a k n xs := ⟨A.1.keep K q, A.2⟩
theorem IA.lt (A : IA Z h a k n xs) : a < h.size := A.1.lt
theorem IA.at (A : IA Z h a k n xs) {j : Nat} (hj : j < n) : ∃ cl, Arr Z h a cl .int ∧ ¬ (Int32.ofNat j < 0 ∨ cl.slots.size ≤ (Int32.ofNat j).toNatClampNeg) ∧ cl.slots[(Int32.ofNat j).toNatClampNeg]? = some (.int (xs.getD j 0)) := by
  obtain ⟨⟨cl, Ar, q, S, Ng, Hs, G⟩, h100, hlen⟩ := A
  rw [own_small h100] at S
  have hj' : j ≤ 100 := by omega
  refine ⟨cl, Ar, ?_, ?_⟩
  · rw [own_small hj']
    rintro (x | x)
    · exact own_nneg hj' x
    · omega
  · rw [own_small hj', Hs j (by omega), List.getD_eq_getElem?_getD, List.getD_eq_getElem?_getD, List.getElem?_map]
    cases xs[j]? <;> rfl
theorem IA.len (A : IA Z h a k n xs) : ∃ cl, Arr Z h a cl .int ∧ cl.slots.size.toInt32 = Int32.ofNat n := by
  obtain ⟨⟨cl, Ar, q, S, Ng, Hs, G⟩, h100, hlen⟩ := A
  exact ⟨cl, Ar, len_of S Ng⟩
theorem IA.put (A : IA Z h a k n xs) {j : Nat} {x : Int32} (hj : j < xs.length) (W : Wr h h' a (Int32.ofNat j).toNatClampNeg (.int x)) : IA Z h' a k n (xs.set j x) := by
  obtain ⟨⟨cl, Ar, q, S, Ng, Hs, G⟩, h100, hlen⟩ := A
  have := Arv.set Ar q S Ng Hs G (v := .int x) rfl W j (own_small (by omega)) (by rw [List.length_map]; exact hj)
  refine ⟨?_, h100, by rw [List.length_set]; exact hlen⟩
  rw [List.map_set]
  exact this
theorem IA.pad (A : IA Z h a k n xs) (hj : xs.length < n) : IA Z h a k n (xs ++ [0]) := by
  refine ⟨A.1.pad fun i => ?_, A.2.1, by rw [List.length_append]; exact hj⟩
  rw [List.map_append]
  exact pad_rep (xs.map Value.int) (.int 0) 1 i
theorem IA.push (A : IA Z h a k n xs) {x : Int32} (hj : xs.length < n) (W : Wr h h' a (Int32.ofNat xs.length).toNatClampNeg (.int x)) : IA Z h' a k n (xs ++ [x]) := by
  have := (A.pad hj).put (j := xs.length) (by simp) W
  rw [List.set_append_right _ _ (Nat.le_refl _), Nat.sub_self] at this
  exact this
theorem IA.new {z : Int32} (A : Arr Z h a (newA k .int (Int32.ofNat n)) .int) (hn : n ≤ 100) : IA Z h a k n [] := ⟨Arv.new A (own_nneg hn), hn, Nat.zero_le _⟩
theorem own_kls {z : Int32} (A : Arr Z h a (newA k .int z) .int) (E : Exa Z h a "[I") : Z.vm.findClass "[I" = some k := by
  obtain ⟨cell, kk, e1, e2, -⟩ := E
  rw [A.1] at e1
  cases e1
  exact e2
end IAfacts
theorem own_succ (n : Nat) : Int32.ofNat n + 1 = Int32.ofNat (n + 1) := (Int32.ofNat_add n 1).symm
theorem d11_0 : decode prog_8_method_1_code 0 = .ok (.aload_n 0, 1) := by decide +kernel
theorem d11_1 : decode prog_8_method_1_code 1 = .ok (.invokespecial 1, 3) := by decide +kernel
theorem d11_4 : decode prog_8_method_1_code 4 = .ok (.aload_n 0, 1) := by decide +kernel
theorem d11_5 : decode prog_8_method_1_code 5 = .ok (.aload_n 1, 1) := by decide +kernel
theorem d11_6 : decode prog_8_method_1_code 6 = .ok (.putfield 7, 3) := by decide +kernel
theorem d11_9 : decode prog_8_method_1_code 9 = .ok (.return_, 1) := by decide +kernel
theorem pn11 : plainName "com/example/dolqa/dolqa/data/UnaryRelation" = true := by first | (simp [plainName, overriddenIn]; done) | decide +kernel
theorem ef11 (m : MethodId) (r0 : Addr) (r1 : Addr) : entryFrame m #[(.ref r0), (.ref r1)] 2 = mkF m 0 #[.val (.ref r0), .val (.ref r1)] [] := by first | (simp [entryFrame, mkF, argsToLocals, Value.category]; done) | rfl
def Q11 (Z : State) (r0 r1 : Addr) (h0 : Heap) (n0 : Nat) (w : Option Value) (h : Heap) (L : List Loc) : Prop := w = none ∧ Fr n0 L ∧ Keep h0 h [r0] ∧ Exa Z h r0 "com/example/dolqa/dolqa/data/UnaryRelation" ∧ Fld Z h r0 "com/example/dolqa/dolqa/data/UnaryRelation" "members" "[I" (.ref r1)
set_option maxRecDepth 65536 in
set_option maxHeartbeats 40000000 in
theorem rm11 (l : Launch) (Z : State) (a0 : Array Value) (hw : ∀ d ∈ tables_1, d.before a0 Z = true) (ws : List Jvm.Cond) (r0 : Addr) (r1 : Addr) (h0 : Heap) (n0 : Nat) (Z0 : n0 ≤ h0.size) (E_r0 : Exa Z h0 r0 "com/example/dolqa/dolqa/data/UnaryRelation") (F_m : Fld Z h0 r0 "com/example/dolqa/dolqa/data/UnaryRelation" "members" "[I" .null) (g_r0 : n0 ≤ r0) :
    MetFree l mN12 (head1 (Jvm.Cond.code mN12 prog_8_method_1_code 2 none :: ws) ({ frames := 1, cells := 0, slots := 0, locals := 12 } : Room)) (fun a U => a = #[(.ref r0), (.ref r1)] ∧ Z.Warmed39 U.vm ∧ U.heap = h0) (fun _ _ _ _ _ => True) (fun _ U o U' => ∃ v L, o = .returned v ∧ Q11 Z r0 r1 h0 n0 v U'.heap L ∧ FrameEnd U o U' L ({ frames := 1, cells := 0, slots := 0, locals := 12 } : Room).cells ({ frames := 1, cells := 0, slots := 0, locals := 12 } : Room).slots) := by
  refine MetFree.of_bodySF (plainFor_of_name pn11) hisR ?_
  intro p e s m args below meth c s₁ Bd hml0 hP hK
  obtain ⟨rfl, hZ, hh⟩ := hP
  have hx := Bd.exec
  have hby := Bd.bytes
  have hml : c.maxLocals = 2 := hml0
  have hown : s.vm.findClass "com/example/dolqa/dolqa/data/UnaryRelation" = some m.cls := findClass_of_methodNamed Bd.named
  have hnm := (name_of_methodNamed Bd.named Bd.method).1
  have X0 : Stand p l e ({ frames := 1, cells := 0, slots := 0, locals := 12 } : Room) s m #[(.ref r0), (.ref r1)] below meth c s₁ [] 0 0 := Stand.of_body Bd
  have e0 : s₁.heap = h0 := by rw [← hh, Bd.state]; rfl
  have N0 := Fr.nil n0
  refine own_fw (A := s₁.setTop (mkF m 0 #[.val (.ref r0), .val (.ref r1)] [])) (fun t k => castTop (ef11 m r0 r1) k) ?_
  refine own_fw (A := s₁.setTop (mkF m 1 #[.val (.ref r0), .val (.ref r1)] [(.ref r0)])) (fun t k => ?_) ?_
  · refine ox_aloadN X0.here hx (hb hby d11_0) rfl rfl ?_
    exact k
  obtain ⟨T11_1, X11_1, e11_1, st11_1⟩ := initO X0 hx hZ hown (own_w hw 66 rfl) (own_w hw 12 rfl) (own_w hw 13 rfl) e0 (g := (mkF m 1 #[.val (.ref r0), .val (.ref r1)] [(.ref r0)])) rfl (by rw [hml]; rfl) rfl (hb hby d11_1) (by decide) (W := 0) (own_mr rfl) (by decide)
  refine own_fw st11_1 ?_
  refine own_fw (A := T11_1.setTop (mkF m 6 #[.val (.ref r0), .val (.ref r1)] [(.ref r1), (.ref r0)])) (fun t k => ?_) ?_
  · refine ox_aloadN X11_1.here hx (hb hby d11_4) rfl rfl ?_
    refine ox_aloadN X11_1.here hx (hb hby d11_5) rfl rfl ?_
    exact k
  obtain ⟨T11_2, h11_2, X11_2, e11_2, W11_2, st11_2⟩ := putF X11_1 hx hZ hown (host := "") (Or.inl (own_w hw 67 rfl)) Via.refl e11_1 F_m E_r0 (Or.inr ⟨(own_w hw 68 rfl), rfl, hnm⟩) (own_w hw 52 rfl) (ty := (.array .int)) (by decide) rfl rfl (g := (mkF m 6 #[.val (.ref r0), .val (.ref r1)] [(.ref r1), (.ref r0)])) rfl rfl (hb hby d11_6)
  have Fw11_2 := F_m.same W11_2
  have N11_2 := Fr.snoc X11_2 N0 g_r0
  refine own_fw st11_2 ?_
  obtain ⟨fs, hr, hrun, hended, hW, hsame⟩ := X11_2.leave (v := none) (fun _ => rfl) (BodyLoose.notSynchronized Bd)
  refine ⟨_, _, X11_2.returnOut hx Bd.returns (hb hby d11_9) hr, hrun, hended, _, _, rfl, ?_, ⟨_, rfl⟩, hW, hsame.mono (by decide) (by decide)⟩
  have eh : (T11_2.setFrames fs).heap = h11_2 := e11_2
  rw [eh]
  exact ⟨rfl, N11_2, ((Keep.refl h0 [r0]).wr W11_2 (Or.inl (List.mem_of_getElem? (i := 0) rfl))), (E_r0.wr W11_2), Fw11_2⟩
theorem d26_0 : decode prog_8_method_4_code 0 = .ok (.aload_n 0, 1) := by decide +kernel
theorem d26_1 : decode prog_8_method_4_code 1 = .ok (.getfield 7, 3) := by decide +kernel
theorem d26_4 : decode prog_8_method_4_code 4 = .ok (.arraylength, 1) := by decide +kernel
theorem d26_5 : decode prog_8_method_4_code 5 = .ok (.ireturn, 1) := by decide +kernel
theorem pn26 : plainName "com/example/dolqa/dolqa/data/UnaryRelation" = true := by first | (simp [plainName, overriddenIn]; done) | decide +kernel
theorem ef26 (m : MethodId) (r0 : Addr) : entryFrame m #[(.ref r0)] 1 = mkF m 0 #[.val (.ref r0)] [] := by first | (simp [entryFrame, mkF, argsToLocals, Value.category]; done) | rfl
def Q26 (Z : State) (nn : Nat) (h0 : Heap) (n0 : Nat) (w : Option Value) (h : Heap) (L : List Loc) : Prop := w = some (.int (Int32.ofNat nn)) ∧ Fr n0 L ∧ h = h0
set_option maxRecDepth 65536 in
set_option maxHeartbeats 40000000 in
theorem rm26 (l : Launch) (Z : State) (a0 : Array Value) (hw : ∀ d ∈ tables_1, d.before a0 Z = true) (ws : List Jvm.Cond) (r0 : Addr) (mm : Addr) (k : ClassId) (nn : Nat) (xs : List Int32) (h0 : Heap) (n0 : Nat) (Z0 : n0 ≤ h0.size) (F_m : Fld Z h0 r0 "com/example/dolqa/dolqa/data/UnaryRelation" "members" "[I" (.ref mm)) (I_m : IA Z h0 mm k nn xs) :
    MetFree l mN0 (head1 (Jvm.Cond.code mN0 prog_8_method_4_code 1 (some .int) :: ws) ({ frames := 0, cells := 0, slots := 0, locals := 0 } : Room)) (fun a U => a = #[(.ref r0)] ∧ Z.Warmed39 U.vm ∧ U.heap = h0) (fun _ _ _ _ _ => True) (fun _ U o U' => ∃ v L, o = .returned v ∧ Q26 Z nn h0 n0 v U'.heap L ∧ FrameEnd U o U' L ({ frames := 0, cells := 0, slots := 0, locals := 0 } : Room).cells ({ frames := 0, cells := 0, slots := 0, locals := 0 } : Room).slots) := by
  refine MetFree.of_bodySF (plainFor_of_name pn26) hisR ?_
  intro p e s m args below meth c s₁ Bd hml0 hP hK
  obtain ⟨rfl, hZ, hh⟩ := hP
  have hx := Bd.exec
  have hby := Bd.bytes
  have hml : c.maxLocals = 1 := hml0
  have hown : s.vm.findClass "com/example/dolqa/dolqa/data/UnaryRelation" = some m.cls := findClass_of_methodNamed Bd.named
  have hnm := (name_of_methodNamed Bd.named Bd.method).1
  have X0 : Stand p l e ({ frames := 0, cells := 0, slots := 0, locals := 0 } : Room) s m #[(.ref r0)] below meth c s₁ [] 0 0 := Stand.of_body Bd
  have e0 : s₁.heap = h0 := by rw [← hh, Bd.state]; rfl
  have N0 := Fr.nil n0
  refine own_fw (A := s₁.setTop (mkF m 0 #[.val (.ref r0)] [])) (fun t k => castTop (ef26 m r0) k) ?_
  refine own_fw (A := s₁.setTop (mkF m 1 #[.val (.ref r0)] [(.ref r0)])) (fun t k => ?_) ?_
  · refine ox_aloadN X0.here hx (hb hby d26_0) rfl rfl ?_
    exact k
  obtain ⟨T26_1, X26_1, e26_1, st26_1⟩ := getF X0 hx hZ hown (host := "") (Or.inl (own_w hw 67 rfl)) Via.refl e0 F_m (g := (mkF m 1 #[.val (.ref r0)] [(.ref r0)])) rfl rfl (hb hby d26_1)
  refine own_fw st26_1 ?_
  obtain ⟨cl26_2, Ar26_2, Sz26_2⟩ := IA.len I_m
  have st26_2 := X26_1.arraylength hx (by rw [e26_1]; exact Ar26_2.1) (State.isArrayOf_alike hZ.alike Ar26_2.2.1) (g := (mkF m 4 #[.val (.ref r0)] [(.ref mm)])) rfl rfl (hb hby d26_4)
  rw [Sz26_2] at st26_2
  refine own_fw st26_2 ?_
  obtain ⟨fs, hr, hrun, hended, hW, hsame⟩ := X26_1.leave (v := some (.int (Int32.ofNat nn))) (own_ret Bd.returns) (BodyLoose.notSynchronized Bd)
  refine ⟨_, _, retI X26_1 hx Bd.returns (hb hby d26_5) hr, hrun, hended, _, _, rfl, ?_, ⟨_, rfl⟩, hW, hsame.mono (by decide) (by decide)⟩
  have eh : (T26_1.setFrames fs).heap = h0 := e26_1
  rw [eh]
  exact ⟨rfl, N0, rfl⟩
theorem d28_0 : decode prog_8_method_5_code 0 = .ok (.aload_n 0, 1) := by decide +kernel
theorem d28_1 : decode prog_8_method_5_code 1 = .ok (.getfield 7, 3) := by decide +kernel
theorem d28_4 : decode prog_8_method_5_code 4 = .ok (.iload_n 1, 1) := by decide +kernel
theorem d28_5 : decode prog_8_method_5_code 5 = .ok (.iaload, 1) := by decide +kernel
theorem d28_6 : decode prog_8_method_5_code 6 = .ok (.ireturn, 1) := by decide +kernel
theorem pn28 : plainName "com/example/dolqa/dolqa/data/UnaryRelation" = true := by first | (simp [plainName, overriddenIn]; done) | decide +kernel
theorem ef28 (m : MethodId) (r0 : Addr) (p1 : Int32) : entryFrame m #[(.ref r0), (.int p1)] 2 = mkF m 0 #[.val (.ref r0), .val (.int p1)] [] := by first | (simp [entryFrame, mkF, argsToLocals, Value.category]; done) | rfl
def Q28 (Z : State) (z : Int32) (h0 : Heap) (n0 : Nat) (w : Option Value) (h : Heap) (L : List Loc) : Prop := w = some (.int z) ∧ Fr n0 L ∧ h = h0
set_option maxRecDepth 65536 in
set_option maxHeartbeats 40000000 in
theorem rm28 (l : Launch) (Z : State) (a0 : Array Value) (hw : ∀ d ∈ tables_1, d.before a0 Z = true) (ws : List Jvm.Cond) (r0 : Addr) (mm : Addr) (k : ClassId) (nn : Nat) (xs : List Int32) (jj : Nat) (h0 : Heap) (n0 : Nat) (Z0 : n0 ≤ h0.size) (F_m : Fld Z h0 r0 "com/example/dolqa/dolqa/data/UnaryRelation" "members" "[I" (.ref mm)) (I_m : IA Z h0 mm k nn xs) (hj : jj < nn) :
    MetFree l mN1 (head1 (Jvm.Cond.code mN1 prog_8_method_5_code 2 (some .int) :: ws) ({ frames := 0, cells := 0, slots := 0, locals := 0 } : Room)) (fun a U => a = #[(.ref r0), (.int (Int32.ofNat jj))] ∧ Z.Warmed39 U.vm ∧ U.heap = h0) (fun _ _ _ _ _ => True) (fun _ U o U' => ∃ v L, o = .returned v ∧ Q28 Z (xs.getD jj 0) h0 n0 v U'.heap L ∧ FrameEnd U o U' L ({ frames := 0, cells := 0, slots := 0, locals := 0 } : Room).cells ({ frames := 0, cells := 0, slots := 0, locals := 0 } : Room).slots) := by
  refine MetFree.of_bodySF (plainFor_of_name pn28) hisR ?_
  intro p e s m args below meth c s₁ Bd hml0 hP hK
  obtain ⟨rfl, hZ, hh⟩ := hP
  have hx := Bd.exec
  have hby := Bd.bytes
  have hml : c.maxLocals = 2 := hml0
  have hown : s.vm.findClass "com/example/dolqa/dolqa/data/UnaryRelation" = some m.cls := findClass_of_methodNamed Bd.named
  have hnm := (name_of_methodNamed Bd.named Bd.method).1
  have X0 : Stand p l e ({ frames := 0, cells := 0, slots := 0, locals := 0 } : Room) s m #[(.ref r0), (.int (Int32.ofNat jj))] below meth c s₁ [] 0 0 := Stand.of_body Bd
  have e0 : s₁.heap = h0 := by rw [← hh, Bd.state]; rfl
  have N0 := Fr.nil n0
  refine own_fw (A := s₁.setTop (mkF m 0 #[.val (.ref r0), .val (.int (Int32.ofNat jj))] [])) (fun t k => castTop (ef28 m r0 (Int32.ofNat jj)) k) ?_
  refine own_fw (A := s₁.setTop (mkF m 1 #[.val (.ref r0), .val (.int (Int32.ofNat jj))] [(.ref r0)])) (fun t k => ?_) ?_
  · refine ox_aloadN X0.here hx (hb hby d28_0) rfl rfl ?_
    exact k
  obtain ⟨T28_1, X28_1, e28_1, st28_1⟩ := getF X0 hx hZ hown (host := "") (Or.inl (own_w hw 67 rfl)) Via.refl e0 F_m (g := (mkF m 1 #[.val (.ref r0), .val (.int (Int32.ofNat jj))] [(.ref r0)])) rfl rfl (hb hby d28_1)
  refine own_fw st28_1 ?_
  refine own_fw (A := T28_1.setTop (mkF m 5 #[.val (.ref r0), .val (.int (Int32.ofNat jj))] [(.int (Int32.ofNat jj)), (.ref mm)])) (fun t k => ?_) ?_
  · refine ox_iloadN X28_1.here hx (hb hby d28_4) rfl ?_
    exact k
  obtain ⟨cl28_2, Ar28_2, hin28_2, hat28_2⟩ := IA.at I_m (j := jj) hj
  refine own_fw (X28_1.iaload hx (j := (Int32.ofNat jj)) (v := .int (xs.getD jj 0)) (by rw [e28_1]; exact Ar28_2.1) (State.isArrayOf_alike hZ.alike Ar28_2.2.1) Ar28_2.2.2 hin28_2 hat28_2 (g := (mkF m 5 #[.val (.ref r0), .val (.int (Int32.ofNat jj))] [(.int (Int32.ofNat jj)), (.ref mm)])) rfl rfl (hb hby d28_5)) ?_
  obtain ⟨fs, hr, hrun, hended, hW, hsame⟩ := X28_1.leave (v := some (.int (xs.getD jj 0))) (own_ret Bd.returns) (BodyLoose.notSynchronized Bd)
  refine ⟨_, _, retI X28_1 hx Bd.returns (hb hby d28_6) hr, hrun, hended, _, _, rfl, ?_, ⟨_, rfl⟩, hW, hsame.mono (by decide) (by decide)⟩
  have eh : (T28_1.setFrames fs).heap = h0 := e28_1
  rw [eh]
  exact ⟨rfl, N0, rfl⟩
theorem d2_0 : decode prog_9_method_1_code 0 = .ok (.aload_n 0, 1) := by decide +kernel
theorem d2_1 : decode prog_9_method_1_code 1 = .ok (.invokespecial 1, 3) := by decide +kernel
theorem d2_4 : decode prog_9_method_1_code 4 = .ok (.aload_n 0, 1) := by decide +kernel
theorem d2_5 : decode prog_9_method_1_code 5 = .ok (.bipush 16, 2) := by decide +kernel
theorem d2_7 : decode prog_9_method_1_code 7 = .ok (.newarray .int, 2) := by decide +kernel
theorem d2_9 : decode prog_9_method_1_code 9 = .ok (.putfield 7, 3) := by decide +kernel
theorem d2_12 : decode prog_9_method_1_code 12 = .ok (.return_, 1) := by decide +kernel
theorem pn2 : plainName "com/example/dolqa/dolqa/data/UnaryRelation$Builder" = true := by first | (simp [plainName, overriddenIn]; done) | decide +kernel
theorem ef2 (m : MethodId) (r0 : Addr) : entryFrame m #[(.ref r0)] 1 = mkF m 0 #[.val (.ref r0)] [] := by first | (simp [entryFrame, mkF, argsToLocals, Value.category]; done) | rfl
def Q2 (Z : State) (r0 : Addr) (h0 : Heap) (n0 : Nat) (w : Option Value) (h : Heap) (L : List Loc) : Prop := ∃ ia k, w = none ∧ Fr n0 L ∧ Keep h0 h [r0] ∧ Exa Z h r0 "com/example/dolqa/dolqa/data/UnaryRelation$Builder" ∧ Fld Z h r0 "com/example/dolqa/dolqa/data/UnaryRelation$Builder" "ids" "[I" (.ref ia) ∧ Fld Z h r0 "com/example/dolqa/dolqa/data/UnaryRelation$Builder" "count" "I" (.int (0 : Int32)) ∧ IA Z h ia k 16 [] ∧ Z.vm.findClass "[I" = some k ∧ h0.size ≤ ia
set_option maxRecDepth 65536 in
set_option maxHeartbeats 40000000 in
theorem rm2 (l : Launch) (Z : State) (a0 : Array Value) (hw : ∀ d ∈ tables_1, d.before a0 Z = true) (ws : List Jvm.Cond) (r0 : Addr) (h0 : Heap) (n0 : Nat) (Z0 : n0 ≤ h0.size) (E_r0 : Exa Z h0 r0 "com/example/dolqa/dolqa/data/UnaryRelation$Builder") (F_i : Fld Z h0 r0 "com/example/dolqa/dolqa/data/UnaryRelation$Builder" "ids" "[I" .null) (F_c : Fld Z h0 r0 "com/example/dolqa/dolqa/data/UnaryRelation$Builder" "count" "I" (.int (0 : Int32))) (g_r0 : n0 ≤ r0) :
    MetFree l mN13 (head1 (Jvm.Cond.code mN13 prog_9_method_1_code 1 none :: ws) ({ frames := 1, cells := 1, slots := 16, locals := 12 } : Room)) (fun a U => a = #[(.ref r0)] ∧ Z.Warmed39 U.vm ∧ U.heap = h0) (fun _ _ _ _ _ => True) (fun _ U o U' => ∃ v L, o = .returned v ∧ Q2 Z r0 h0 n0 v U'.heap L ∧ FrameEnd U o U' L ({ frames := 1, cells := 1, slots := 16, locals := 12 } : Room).cells ({ frames := 1, cells := 1, slots := 16, locals := 12 } : Room).slots) := by
  refine MetFree.of_bodySF (plainFor_of_name pn2) hisR ?_
  intro p e s m args below meth c s₁ Bd hml0 hP hK
  obtain ⟨rfl, hZ, hh⟩ := hP
  have hx := Bd.exec
  have hby := Bd.bytes
  have hml : c.maxLocals = 1 := hml0
  have hown : s.vm.findClass "com/example/dolqa/dolqa/data/UnaryRelation$Builder" = some m.cls := findClass_of_methodNamed Bd.named
  have hnm := (name_of_methodNamed Bd.named Bd.method).1
  have X0 : Stand p l e ({ frames := 1, cells := 1, slots := 16, locals := 12 } : Room) s m #[(.ref r0)] below meth c s₁ [] 0 0 := Stand.of_body Bd
  have e0 : s₁.heap = h0 := by rw [← hh, Bd.state]; rfl
  have N0 := Fr.nil n0
  refine own_fw (A := s₁.setTop (mkF m 0 #[.val (.ref r0)] [])) (fun t k => castTop (ef2 m r0) k) ?_
  refine own_fw (A := s₁.setTop (mkF m 1 #[.val (.ref r0)] [(.ref r0)])) (fun t k => ?_) ?_
  · refine ox_aloadN X0.here hx (hb hby d2_0) rfl rfl ?_
    exact k
  obtain ⟨T2_1, X2_1, e2_1, st2_1⟩ := initO X0 hx hZ hown (own_w hw 11 rfl) (own_w hw 12 rfl) (own_w hw 13 rfl) e0 (g := (mkF m 1 #[.val (.ref r0)] [(.ref r0)])) rfl (by rw [hml]; rfl) rfl (hb hby d2_1) (by decide) (W := 0) (own_mr rfl) (by decide)
  refine own_fw st2_1 ?_
  refine own_fw (A := T2_1.setTop (mkF m 7 #[.val (.ref r0)] [(.int (16 : Int32)), (.ref r0)])) (fun t k => ?_) ?_
  · refine ox_aloadN X2_1.here hx (hb hby d2_4) rfl rfl ?_
    refine ox_bipush X2_1.here hx (hb hby d2_5) ?_
    exact k
  obtain ⟨T2_2, h2_2, k2_2, X2_2, e2_2, E2_2, A2_2, Ex2_2, st2_2⟩ := newPE X2_1 hx hZ (own_w hw 14 rfl) e2_1 (g := (mkF m 7 #[.val (.ref r0)] [(.int (16 : Int32)), (.ref r0)])) rfl (hb hby d2_7) rfl (by decide) (cap := 16) (by decide) (by decide) (by decide) (by decide) (ad := "[I") (by decide)
  obtain ⟨b2_2, g2_2⟩ : ∃ z, z = h0.size := ⟨_, rfl⟩
  rw [← g2_2] at A2_2 Ex2_2 st2_2
  have ne_r0_b2_2 : r0 ≠ b2_2 := Nat.ne_of_lt (Nat.lt_of_lt_of_le E_r0.lt (Nat.le_of_eq g2_2.symm))
  have sz_b2_2 : h0.size ≤ b2_2 := Nat.le_trans (Keep.refl h0 [r0]).1 (Nat.le_of_eq g2_2.symm)
  have I_b2_2 : IA Z h2_2 b2_2 k2_2 16 [] := IA.new (z := 0) A2_2 (by decide)
  have hk_b2_2 := own_kls A2_2 Ex2_2
  refine own_fw st2_2 ?_
  obtain ⟨T2_3, h2_3, X2_3, e2_3, W2_3, st2_3⟩ := putF X2_2 hx hZ hown (host := "") (Or.inl (own_w hw 15 rfl)) Via.refl e2_2 (F_i.ext E2_2) (E_r0.ext E2_2) (Or.inl (own_w hw 16 rfl)) (own_w hw 6 rfl) (ty := (.array .int)) (by decide) rfl rfl (g := (mkF m 9 #[.val (.ref r0)] [(.ref b2_2), (.ref r0)])) rfl rfl (hb hby d2_9)
  have Fw2_3 := (F_i.ext E2_2).same W2_3
  have N2_3 := Fr.snoc X2_3 N0 g_r0
  refine own_fw st2_3 ?_
  obtain ⟨fs, hr, hrun, hended, hW, hsame⟩ := X2_3.leave (v := none) (fun _ => rfl) (BodyLoose.notSynchronized Bd)
  refine ⟨_, _, X2_3.returnOut hx Bd.returns (hb hby d2_12) hr, hrun, hended, _, _, rfl, ?_, ⟨_, rfl⟩, hW, hsame.mono (by decide) (by decide)⟩
  have eh : (T2_3.setFrames fs).heap = h2_3 := e2_3
  rw [eh]
  exact ⟨b2_2, k2_2, rfl, N2_3, (((Keep.refl h0 [r0]).ext E2_2).wr W2_3 (Or.inl (List.mem_of_getElem? (i := 0) rfl))), ((E_r0.ext E2_2).wr W2_3), Fw2_3, ((F_c.ext E2_2).other W2_3 (Or.inr (slot_ne (Or.inl (own_w hw 23 rfl)) (Or.inl (own_w hw 16 rfl)) (by decide) (t := .int) (t' := (.array .int)) (by decide) (by decide)))), (I_b2_2.other W2_3 (Ne.symm ne_r0_b2_2)), hk_b2_2, sz_b2_2⟩
theorem d4_0 : decode prog_9_method_2_code 0 = .ok (.aload_n 0, 1) := by decide +kernel
theorem d4_1 : decode prog_9_method_2_code 1 = .ok (.getfield 13, 3) := by decide +kernel
theorem d4_4 : decode prog_9_method_2_code 4 = .ok (.aload_n 0, 1) := by decide +kernel
theorem d4_5 : decode prog_9_method_2_code 5 = .ok (.getfield 7, 3) := by decide +kernel
theorem d4_8 : decode prog_9_method_2_code 8 = .ok (.arraylength, 1) := by decide +kernel
theorem d4_9 : decode prog_9_method_2_code 9 = .ok (.if_icmp .ne 20, 3) := by decide +kernel
theorem d4_12 : decode prog_9_method_2_code 12 = .ok (.aload_n 0, 1) := by decide +kernel
theorem d4_13 : decode prog_9_method_2_code 13 = .ok (.aload_n 0, 1) := by decide +kernel
theorem d4_14 : decode prog_9_method_2_code 14 = .ok (.getfield 7, 3) := by decide +kernel
theorem d4_17 : decode prog_9_method_2_code 17 = .ok (.aload_n 0, 1) := by decide +kernel
theorem d4_18 : decode prog_9_method_2_code 18 = .ok (.getfield 13, 3) := by decide +kernel
theorem d4_21 : decode prog_9_method_2_code 21 = .ok (.iconst 2, 1) := by decide +kernel
theorem d4_22 : decode prog_9_method_2_code 22 = .ok (.imul, 1) := by decide +kernel
theorem d4_23 : decode prog_9_method_2_code 23 = .ok (.invokestatic 17, 3) := by decide +kernel
theorem d4_26 : decode prog_9_method_2_code 26 = .ok (.putfield 7, 3) := by decide +kernel
theorem d4_29 : decode prog_9_method_2_code 29 = .ok (.aload_n 0, 1) := by decide +kernel
theorem d4_30 : decode prog_9_method_2_code 30 = .ok (.getfield 7, 3) := by decide +kernel
theorem d4_33 : decode prog_9_method_2_code 33 = .ok (.aload_n 0, 1) := by decide +kernel
theorem d4_34 : decode prog_9_method_2_code 34 = .ok (.dup, 1) := by decide +kernel
theorem d4_35 : decode prog_9_method_2_code 35 = .ok (.getfield 13, 3) := by decide +kernel
theorem d4_38 : decode prog_9_method_2_code 38 = .ok (.dup_x1, 1) := by decide +kernel
theorem d4_39 : decode prog_9_method_2_code 39 = .ok (.iconst 1, 1) := by decide +kernel
theorem d4_40 : decode prog_9_method_2_code 40 = .ok (.iadd, 1) := by decide +kernel
theorem d4_41 : decode prog_9_method_2_code 41 = .ok (.putfield 13, 3) := by decide +kernel
theorem d4_44 : decode prog_9_method_2_code 44 = .ok (.iload_n 1, 1) := by decide +kernel
theorem d4_45 : decode prog_9_method_2_code 45 = .ok (.iastore, 1) := by decide +kernel
theorem d4_46 : decode prog_9_method_2_code 46 = .ok (.aload_n 0, 1) := by decide +kernel
theorem d4_47 : decode prog_9_method_2_code 47 = .ok (.areturn, 1) := by decide +kernel
theorem pn4 : plainName "com/example/dolqa/dolqa/data/UnaryRelation$Builder" = true := by first | (simp [plainName, overriddenIn]; done) | decide +kernel
theorem ef4 (m : MethodId) (r0 : Addr) (p1 : Int32) : entryFrame m #[(.ref r0), (.int p1)] 2 = mkF m 0 #[.val (.ref r0), .val (.int p1)] [] := by first | (simp [entryFrame, mkF, argsToLocals, Value.category]; done) | rfl
def Q4 (Z : State) (r0 ia : Addr) (k : ClassId) (xs' : List Int32) (cap2 : Nat) (h0 : Heap) (n0 : Nat) (w : Option Value) (h : Heap) (L : List Loc) : Prop := ∃ ia2, w = some (.ref r0) ∧ Fr n0 L ∧ Keep h0 h [r0, ia] ∧ Exa Z h r0 "com/example/dolqa/dolqa/data/UnaryRelation$Builder" ∧ Fld Z h r0 "com/example/dolqa/dolqa/data/UnaryRelation$Builder" "ids" "[I" (.ref ia2) ∧ Fld Z h r0 "com/example/dolqa/dolqa/data/UnaryRelation$Builder" "count" "I" (.int (Int32.ofNat xs'.length)) ∧ IA Z h ia2 k cap2 xs' ∧ (ia2 = ia ∨ h0.size ≤ ia2)
theorem IA.cong {Z : State} {h : Heap} {a : Addr} {k : ClassId} {n : Nat} {xs ys : List Int32} (A : IA Z h a k n xs) (e : xs = ys) : IA Z h a k n ys := e ▸ A
theorem own_cnt {Z : State} {h : Heap} {a : Addr} {C n d : String} {x y : Int32} (F : Fld Z h a C n d (.int x)) (e : x = y) : Fld Z h a C n d (.int y) := e ▸ F
set_option maxRecDepth 65536 in
set_option maxHeartbeats 40000000 in
theorem rmBA_n (l : Launch) (Z : State) (a0 : Array Value) (hw : ∀ d ∈ tables_1, d.before a0 Z = true) (ws : List Jvm.Cond) (r0 : Addr) (p1 : Int32) (ia : Addr) (k : ClassId) (xs : List Int32) (cap : Nat) (h0 : Heap) (n0 : Nat) (Z0 : n0 ≤ h0.size) (E_r0 : Exa Z h0 r0 "com/example/dolqa/dolqa/data/UnaryRelation$Builder") (F_i : Fld Z h0 r0 "com/example/dolqa/dolqa/data/UnaryRelation$Builder" "ids" "[I" (.ref ia)) (F_c : Fld Z h0 r0 "com/example/dolqa/dolqa/data/UnaryRelation$Builder" "count" "I" (.int (Int32.ofNat xs.length))) (I_a : IA Z h0 ia k cap xs) (hk : Z.vm.findClass "[I" = some k) (hne : ia ≠ r0) (g_r0 : n0 ≤ r0) (g_ia : n0 ≤ ia) (hlt : xs.length < cap) (hcap : ¬ (Int32.ofNat xs.length = Int32.ofNat cap)) :
    MetFree l mN2 (head1 (Jvm.Cond.code mN2 prog_9_method_2_code 2 (some (.object "com/example/dolqa/dolqa/data/UnaryRelation$Builder")) :: ws) ({ frames := 0, cells := 0, slots := 0, locals := 0 } : Room)) (fun a U => a = #[(.ref r0), (.int p1)] ∧ Z.Warmed39 U.vm ∧ U.heap = h0) (fun _ _ _ _ _ => True) (fun _ U o U' => ∃ v L, o = .returned v ∧ Q4 Z r0 ia k (xs ++ [p1]) cap h0 n0 v U'.heap L ∧ FrameEnd U o U' L ({ frames := 0, cells := 0, slots := 0, locals := 0 } : Room).cells ({ frames := 0, cells := 0, slots := 0, locals := 0 } : Room).slots) := by
  refine MetFree.of_bodySF (plainFor_of_name pn4) hisR ?_
  intro p e s m args below meth c s₁ Bd hml0 hP hK
  obtain ⟨rfl, hZ, hh⟩ := hP
  have hx := Bd.exec
  have hby := Bd.bytes
  have hml : c.maxLocals = 2 := hml0
  have hown : s.vm.findClass "com/example/dolqa/dolqa/data/UnaryRelation$Builder" = some m.cls := findClass_of_methodNamed Bd.named
  have hnm := (name_of_methodNamed Bd.named Bd.method).1
  have X0 : Stand p l e ({ frames := 0, cells := 0, slots := 0, locals := 0 } : Room) s m #[(.ref r0), (.int p1)] below meth c s₁ [] 0 0 := Stand.of_body Bd
  have e0 : s₁.heap = h0 := by rw [← hh, Bd.state]; rfl
  have N0 := Fr.nil n0
  refine own_fw (A := s₁.setTop (mkF m 0 #[.val (.ref r0), .val (.int p1)] [])) (fun t k => castTop (ef4 m r0 p1) k) ?_
  refine own_fw (A := s₁.setTop (mkF m 1 #[.val (.ref r0), .val (.int p1)] [(.ref r0)])) (fun t k => ?_) ?_
  · refine ox_aloadN X0.here hx (hb hby d4_0) rfl rfl ?_
    exact k
  obtain ⟨T4_1, X4_1, e4_1, st4_1⟩ := getF X0 hx hZ hown (host := "") (Or.inl (own_w hw 22 rfl)) Via.refl e0 F_c (g := (mkF m 1 #[.val (.ref r0), .val (.int p1)] [(.ref r0)])) rfl rfl (hb hby d4_1)
  refine own_fw st4_1 ?_
  refine own_fw (A := T4_1.setTop (mkF m 5 #[.val (.ref r0), .val (.int p1)] [(.ref r0), (.int (Int32.ofNat xs.length))])) (fun t k => ?_) ?_
  · refine ox_aloadN X4_1.here hx (hb hby d4_4) rfl rfl ?_
    exact k
  obtain ⟨T4_2, X4_2, e4_2, st4_2⟩ := getF X4_1 hx hZ hown (host := "") (Or.inl (own_w hw 15 rfl)) Via.refl e4_1 F_i (g := (mkF m 5 #[.val (.ref r0), .val (.int p1)] [(.ref r0), (.int (Int32.ofNat xs.length))])) rfl rfl (hb hby d4_5)
  refine own_fw st4_2 ?_
  obtain ⟨cl4_3, Ar4_3, Sz4_3⟩ := IA.len I_a
  have st4_3 := X4_2.arraylength hx (by rw [e4_2]; exact Ar4_3.1) (State.isArrayOf_alike hZ.alike Ar4_3.2.1) (g := (mkF m 8 #[.val (.ref r0), .val (.int p1)] [(.ref ia), (.int (Int32.ofNat xs.length))])) rfl rfl (hb hby d4_8)
  rw [Sz4_3] at st4_3
  refine own_fw st4_3 ?_
  refine own_fw (A := T4_2.setTop (mkF m 30 #[.val (.ref r0), .val (.int p1)] [(.ref r0)])) (fun t k => ?_) ?_
  · refine ox_icmpYes X4_2.here hx (pc0 := 9) (pc' := 29) rfl (hb hby d4_9) rfl (feq hcap).2 (by decide) (by decide) ?_
    refine ox_aloadN X4_2.here hx (hb hby d4_29) rfl rfl ?_
    exact k
  obtain ⟨T4_4, X4_4, e4_4, st4_4⟩ := getF X4_2 hx hZ hown (host := "") (Or.inl (own_w hw 15 rfl)) Via.refl e4_2 F_i (g := (mkF m 30 #[.val (.ref r0), .val (.int p1)] [(.ref r0)])) rfl rfl (hb hby d4_30)
  refine own_fw st4_4 ?_
  refine own_fw (A := T4_4.setTop (mkF m 35 #[.val (.ref r0), .val (.int p1)] [(.ref r0), (.ref r0), (.ref ia)])) (fun t k => ?_) ?_
  · refine ox_aloadN X4_4.here hx (hb hby d4_33) rfl rfl ?_
    refine ox_dup X4_4.here hx (hb hby d4_34) rfl rfl ?_
    exact k
  obtain ⟨T4_5, X4_5, e4_5, st4_5⟩ := getF X4_4 hx hZ hown (host := "") (Or.inl (own_w hw 22 rfl)) Via.refl e4_4 F_c (g := (mkF m 35 #[.val (.ref r0), .val (.int p1)] [(.ref r0), (.ref r0), (.ref ia)])) rfl rfl (hb hby d4_35)
  refine own_fw st4_5 ?_
  refine own_fw (A := T4_5.setTop (mkF m 41 #[.val (.ref r0), .val (.int p1)] [(.int ((Int32.ofNat xs.length) + (1 : Int32))), (.ref r0), (.int (Int32.ofNat xs.length)), (.ref ia)])) (fun t k => ?_) ?_
  · refine ox_dupX1 X4_5.here hx (hb hby d4_38) rfl rfl rfl ?_
    refine ox_iconst X4_5.here hx (hb hby d4_39) ?_
    refine ox_iadd X4_5.here hx (hb hby d4_40) rfl ?_
    exact k
  obtain ⟨T4_6, h4_6, X4_6, e4_6, W4_6, st4_6⟩ := putF X4_5 hx hZ hown (host := "") (Or.inl (own_w hw 22 rfl)) Via.refl e4_5 F_c E_r0 (Or.inl (own_w hw 23 rfl)) (own_w hw 6 rfl) (ty := .int) (by decide) rfl rfl (g := (mkF m 41 #[.val (.ref r0), .val (.int p1)] [(.int ((Int32.ofNat xs.length) + (1 : Int32))), (.ref r0), (.int (Int32.ofNat xs.length)), (.ref ia)])) rfl rfl (hb hby d4_41)
  have Fw4_6 := F_c.same W4_6
  have N4_6 := Fr.snoc X4_6 N0 g_r0
  refine own_fw st4_6 ?_
  refine own_fw (A := T4_6.setTop (mkF m 45 #[.val (.ref r0), .val (.int p1)] [(.int p1), (.int (Int32.ofNat xs.length)), (.ref ia)])) (fun t k => ?_) ?_
  · refine ox_iloadN X4_6.here hx (hb hby d4_44) rfl ?_
    exact k
  obtain ⟨cl4_7, Ar4_7, hin4_7, hat4_7⟩ := IA.at (I_a.other W4_6 hne) (j := xs.length) hlt
  obtain ⟨T4_7, h4_7, X4_7, e4_7, W4_7, st4_7⟩ := stI X4_6 hx hZ e4_6 Ar4_7 (j := (Int32.ofNat xs.length)) hin4_7 (g := (mkF m 45 #[.val (.ref r0), .val (.int p1)] [(.int p1), (.int (Int32.ofNat xs.length)), (.ref ia)])) rfl rfl (hb hby d4_45)
  have I4_7 : IA Z h4_7 ia k cap (xs ++ [p1]) := IA.push (I_a.other W4_6 hne) hlt W4_7
  have N4_7 := Fr.snoc X4_7 N4_6 g_ia
  refine own_fw st4_7 ?_
  refine own_fw (A := T4_7.setTop (mkF m 47 #[.val (.ref r0), .val (.int p1)] [(.ref r0)])) (fun t k => ?_) ?_
  · refine ox_aloadN X4_7.here hx (hb hby d4_46) rfl rfl ?_
    exact k
  obtain ⟨fs, hr, hrun, hended, hW, hsame⟩ := X4_7.leave (v := some (.ref r0)) (own_ret Bd.returns) (BodyLoose.notSynchronized Bd)
  refine ⟨_, _, retA (ty := (.object "com/example/dolqa/dolqa/data/UnaryRelation$Builder")) X4_7 hx rfl rfl Bd.returns (hb hby d4_47) hr, hrun, hended, _, _, rfl, ?_, ⟨_, rfl⟩, hW, hsame.mono (by decide) (by decide)⟩
  have eh : (T4_7.setFrames fs).heap = h4_7 := e4_7
  rw [eh]
  exact ⟨ia, rfl, N4_7, (((Keep.refl h0 [r0, ia]).wr W4_6 (Or.inl (List.mem_of_getElem? (i := 0) rfl))).wr W4_7 (Or.inl (List.mem_of_getElem? (i := 1) rfl))), ((E_r0.wr W4_6).wr W4_7), ((F_i.other W4_6 (Or.inr (slot_ne (Or.inl (own_w hw 16 rfl)) (Or.inl (own_w hw 23 rfl)) (by decide) (t := (.array .int)) (t' := .int) (by decide) (by decide)))).other W4_7 (Or.inl (Ne.symm hne))), (own_cnt (Fw4_6.other W4_7 (Or.inl (Ne.symm hne))) (by rw [own_succ, List.length_append]; rfl)), I4_7, Or.inl rfl⟩
set_option maxRecDepth 65536 in
set_option maxHeartbeats 40000000 in
theorem rmBA_g (l : Launch) (Z : State) (a0 : Array Value) (hw : ∀ d ∈ tables_1, d.before a0 Z = true) (ws : List Jvm.Cond) (r0 : Addr) (p1 : Int32) (ia : Addr) (k : ClassId) (xs : List Int32) (h0 : Heap) (n0 : Nat) (Z0 : n0 ≤ h0.size) (E_r0 : Exa Z h0 r0 "com/example/dolqa/dolqa/data/UnaryRelation$Builder") (F_i : Fld Z h0 r0 "com/example/dolqa/dolqa/data/UnaryRelation$Builder" "ids" "[I" (.ref ia)) (F_c : Fld Z h0 r0 "com/example/dolqa/dolqa/data/UnaryRelation$Builder" "count" "I" (.int (16 : Int32))) (I_a : IA Z h0 ia k 16 xs) (hk : Z.vm.findClass "[I" = some k) (hne : ia ≠ r0) (g_r0 : n0 ≤ r0) (g_ia : n0 ≤ ia) (hlen : xs.length = 16) :
    MetFree l mN2 (head1 (Jvm.Cond.code mN2 prog_9_method_2_code 2 (some (.object "com/example/dolqa/dolqa/data/UnaryRelation$Builder")) :: ws) ({ frames := 2, cells := 1, slots := 32, locals := 55 } : Room)) (fun a U => a = #[(.ref r0), (.int p1)] ∧ Z.Warmed39 U.vm ∧ U.heap = h0) (fun _ _ _ _ _ => True) (fun _ U o U' => ∃ v L, o = .returned v ∧ Q4 Z r0 ia k (xs ++ [p1]) 32 h0 n0 v U'.heap L ∧ FrameEnd U o U' L ({ frames := 2, cells := 1, slots := 32, locals := 55 } : Room).cells ({ frames := 2, cells := 1, slots := 32, locals := 55 } : Room).slots) := by
  refine MetFree.of_bodySF (plainFor_of_name pn4) hisR ?_
  intro p e s m args below meth c s₁ Bd hml0 hP hK
  obtain ⟨rfl, hZ, hh⟩ := hP
  have hx := Bd.exec
  have hby := Bd.bytes
  have hml : c.maxLocals = 2 := hml0
  have hown : s.vm.findClass "com/example/dolqa/dolqa/data/UnaryRelation$Builder" = some m.cls := findClass_of_methodNamed Bd.named
  have hnm := (name_of_methodNamed Bd.named Bd.method).1
  have X0 : Stand p l e ({ frames := 2, cells := 1, slots := 32, locals := 55 } : Room) s m #[(.ref r0), (.int p1)] below meth c s₁ [] 0 0 := Stand.of_body Bd
  have e0 : s₁.heap = h0 := by rw [← hh, Bd.state]; rfl
  have N0 := Fr.nil n0
  refine own_fw (A := s₁.setTop (mkF m 0 #[.val (.ref r0), .val (.int p1)] [])) (fun t k => castTop (ef4 m r0 p1) k) ?_
  refine own_fw (A := s₁.setTop (mkF m 1 #[.val (.ref r0), .val (.int p1)] [(.ref r0)])) (fun t k => ?_) ?_
  · refine ox_aloadN X0.here hx (hb hby d4_0) rfl rfl ?_
    exact k
  obtain ⟨T4_1, X4_1, e4_1, st4_1⟩ := getF X0 hx hZ hown (host := "") (Or.inl (own_w hw 22 rfl)) Via.refl e0 F_c (g := (mkF m 1 #[.val (.ref r0), .val (.int p1)] [(.ref r0)])) rfl rfl (hb hby d4_1)
  refine own_fw st4_1 ?_
  refine own_fw (A := T4_1.setTop (mkF m 5 #[.val (.ref r0), .val (.int p1)] [(.ref r0), (.int (16 : Int32))])) (fun t k => ?_) ?_
  · refine ox_aloadN X4_1.here hx (hb hby d4_4) rfl rfl ?_
    exact k
  obtain ⟨T4_2, X4_2, e4_2, st4_2⟩ := getF X4_1 hx hZ hown (host := "") (Or.inl (own_w hw 15 rfl)) Via.refl e4_1 F_i (g := (mkF m 5 #[.val (.ref r0), .val (.int p1)] [(.ref r0), (.int (16 : Int32))])) rfl rfl (hb hby d4_5)
  refine own_fw st4_2 ?_
  obtain ⟨cl4_3, Ar4_3, Sz4_3⟩ := IA.len I_a
  have st4_3 := X4_2.arraylength hx (by rw [e4_2]; exact Ar4_3.1) (State.isArrayOf_alike hZ.alike Ar4_3.2.1) (g := (mkF m 8 #[.val (.ref r0), .val (.int p1)] [(.ref ia), (.int (16 : Int32))])) rfl rfl (hb hby d4_8)
  rw [Sz4_3] at st4_3
  refine own_fw st4_3 ?_
  refine own_fw (A := T4_2.setTop (mkF m 14 #[.val (.ref r0), .val (.int p1)] [(.ref r0), (.ref r0)])) (fun t k => ?_) ?_
  · refine ox_icmpNo X4_2.here hx (hb hby d4_9) rfl (teq (by decide)).2 ?_
    refine ox_aloadN X4_2.here hx (hb hby d4_12) rfl rfl ?_
    refine ox_aloadN X4_2.here hx (hb hby d4_13) rfl rfl ?_
    exact k
  obtain ⟨T4_4, X4_4, e4_4, st4_4⟩ := getF X4_2 hx hZ hown (host := "") (Or.inl (own_w hw 15 rfl)) Via.refl e4_2 F_i (g := (mkF m 14 #[.val (.ref r0), .val (.int p1)] [(.ref r0), (.ref r0)])) rfl rfl (hb hby d4_14)
  refine own_fw st4_4 ?_
  refine own_fw (A := T4_4.setTop (mkF m 18 #[.val (.ref r0), .val (.int p1)] [(.ref r0), (.ref ia), (.ref r0)])) (fun t k => ?_) ?_
  · refine ox_aloadN X4_4.here hx (hb hby d4_17) rfl rfl ?_
    exact k
  obtain ⟨T4_5, X4_5, e4_5, st4_5⟩ := getF X4_4 hx hZ hown (host := "") (Or.inl (own_w hw 22 rfl)) Via.refl e4_4 F_c (g := (mkF m 18 #[.val (.ref r0), .val (.int p1)] [(.ref r0), (.ref ia), (.ref r0)])) rfl rfl (hb hby d4_18)
  refine own_fw st4_5 ?_
  refine own_fw (A := T4_5.setTop (mkF m 23 #[.val (.ref r0), .val (.int p1)] [(.int (32 : Int32)), (.ref ia), (.ref r0)])) (fun t k => ?_) ?_
  · refine ox_iconst X4_5.here hx (hb hby d4_21) ?_
    refine ox_imul X4_5.here hx (hb hby d4_22) rfl ?_
    exact k
  obtain ⟨T4_6, h4_6, X4_6, e4_6, E4_6, I4_6, st4_6⟩ := own_copy X4_5 hx hZ hw hown e4_5 I_a hk (n := 32) (by decide) (g := (mkF m 23 #[.val (.ref r0), .val (.int p1)] [(.int (32 : Int32)), (.ref ia), (.ref r0)])) rfl (by rw [hml]; rfl) (rest := [(.ref r0)]) rfl (W := 1) (own_mr rfl) (hb hby d4_23) (by decide) (by decide) (by decide) (N := 32) (by decide) (by decide)
  obtain ⟨b4_6, g4_6⟩ : ∃ z, z = h0.size := ⟨_, rfl⟩
  rw [← g4_6] at I4_6 st4_6
  have ne_r0_b4_6 : r0 ≠ b4_6 := Nat.ne_of_lt (Nat.lt_of_lt_of_le E_r0.lt (Nat.le_of_eq g4_6.symm))
  have g_b4_6 : n0 ≤ b4_6 := Nat.le_trans Z0 (Nat.le_of_eq g4_6.symm)
  have sz_b4_6 : h0.size ≤ b4_6 := Nat.le_trans (Keep.refl h0 [r0, ia]).1 (Nat.le_of_eq g4_6.symm)
  refine own_fw st4_6 ?_
  obtain ⟨T4_7, h4_7, X4_7, e4_7, W4_7, st4_7⟩ := putF X4_6 hx hZ hown (host := "") (Or.inl (own_w hw 15 rfl)) Via.refl e4_6 (F_i.ext E4_6) (E_r0.ext E4_6) (Or.inl (own_w hw 16 rfl)) (own_w hw 6 rfl) (ty := (.array .int)) (by decide) rfl rfl (g := (mkF m 26 #[.val (.ref r0), .val (.int p1)] [(.ref b4_6), (.ref r0)])) rfl rfl (hb hby d4_26)
  have Fw4_7 := (F_i.ext E4_6).same W4_7
  have N4_7 := Fr.snoc X4_7 N0 g_r0
  refine own_fw st4_7 ?_
  refine own_fw (A := T4_7.setTop (mkF m 30 #[.val (.ref r0), .val (.int p1)] [(.ref r0)])) (fun t k => ?_) ?_
  · refine ox_aloadN X4_7.here hx (hb hby d4_29) rfl rfl ?_
    exact k
  obtain ⟨T4_8, X4_8, e4_8, st4_8⟩ := getF X4_7 hx hZ hown (host := "") (Or.inl (own_w hw 15 rfl)) Via.refl e4_7 Fw4_7 (g := (mkF m 30 #[.val (.ref r0), .val (.int p1)] [(.ref r0)])) rfl rfl (hb hby d4_30)
  refine own_fw st4_8 ?_
  refine own_fw (A := T4_8.setTop (mkF m 35 #[.val (.ref r0), .val (.int p1)] [(.ref r0), (.ref r0), (.ref b4_6)])) (fun t k => ?_) ?_
  · refine ox_aloadN X4_8.here hx (hb hby d4_33) rfl rfl ?_
    refine ox_dup X4_8.here hx (hb hby d4_34) rfl rfl ?_
    exact k
  obtain ⟨T4_9, X4_9, e4_9, st4_9⟩ := getF X4_8 hx hZ hown (host := "") (Or.inl (own_w hw 22 rfl)) Via.refl e4_8 ((F_c.ext E4_6).other W4_7 (Or.inr (slot_ne (Or.inl (own_w hw 23 rfl)) (Or.inl (own_w hw 16 rfl)) (by decide) (t := .int) (t' := (.array .int)) (by decide) (by decide)))) (g := (mkF m 35 #[.val (.ref r0), .val (.int p1)] [(.ref r0), (.ref r0), (.ref b4_6)])) rfl rfl (hb hby d4_35)
  refine own_fw st4_9 ?_
  refine own_fw (A := T4_9.setTop (mkF m 41 #[.val (.ref r0), .val (.int p1)] [(.int (17 : Int32)), (.ref r0), (.int (16 : Int32)), (.ref b4_6)])) (fun t k => ?_) ?_
  · refine ox_dupX1 X4_9.here hx (hb hby d4_38) rfl rfl rfl ?_
    refine ox_iconst X4_9.here hx (hb hby d4_39) ?_
    refine ox_iadd X4_9.here hx (hb hby d4_40) rfl ?_
    exact k
  obtain ⟨T4_10, h4_10, X4_10, e4_10, W4_10, st4_10⟩ := putF X4_9 hx hZ hown (host := "") (Or.inl (own_w hw 22 rfl)) Via.refl e4_9 ((F_c.ext E4_6).other W4_7 (Or.inr (slot_ne (Or.inl (own_w hw 23 rfl)) (Or.inl (own_w hw 16 rfl)) (by decide) (t := .int) (t' := (.array .int)) (by decide) (by decide)))) ((E_r0.ext E4_6).wr W4_7) (Or.inl (own_w hw 23 rfl)) (own_w hw 6 rfl) (ty := .int) (by decide) rfl rfl (g := (mkF m 41 #[.val (.ref r0), .val (.int p1)] [(.int (17 : Int32)), (.ref r0), (.int (16 : Int32)), (.ref b4_6)])) rfl rfl (hb hby d4_41)
  have Fw4_10 := ((F_c.ext E4_6).other W4_7 (Or.inr (slot_ne (Or.inl (own_w hw 23 rfl)) (Or.inl (own_w hw 16 rfl)) (by decide) (t := .int) (t' := (.array .int)) (by decide) (by decide)))).same W4_10
  have N4_10 := Fr.snoc X4_10 N4_7 g_r0
  refine own_fw st4_10 ?_
  refine own_fw (A := T4_10.setTop (mkF m 45 #[.val (.ref r0), .val (.int p1)] [(.int p1), (.int (16 : Int32)), (.ref b4_6)])) (fun t k => ?_) ?_
  · refine ox_iloadN X4_10.here hx (hb hby d4_44) rfl ?_
    exact k
  obtain ⟨cl4_11, Ar4_11, hin4_11, hat4_11⟩ := IA.at ((I4_6.other W4_7 (Ne.symm ne_r0_b4_6)).other W4_10 (Ne.symm ne_r0_b4_6)) (j := 16) (by decide)
  obtain ⟨T4_11, h4_11, X4_11, e4_11, W4_11, st4_11⟩ := stI X4_10 hx hZ e4_10 Ar4_11 (j := (Int32.ofNat 16)) hin4_11 (g := (mkF m 45 #[.val (.ref r0), .val (.int p1)] [(.int p1), (.int (16 : Int32)), (.ref b4_6)])) rfl rfl (hb hby d4_45)
  have I4_11 : IA Z h4_11 b4_6 k 32 (xs ++ [p1]) := IA.push (IA.cong ((I4_6.other W4_7 (Ne.symm ne_r0_b4_6)).other W4_10 (Ne.symm ne_r0_b4_6)) (List.take_of_length_le (by omega))) (show xs.length < 32 by omega) (by rw [hlen]; exact W4_11)
  have N4_11 := Fr.snoc X4_11 N4_10 g_b4_6
  refine own_fw st4_11 ?_
  refine own_fw (A := T4_11.setTop (mkF m 47 #[.val (.ref r0), .val (.int p1)] [(.ref r0)])) (fun t k => ?_) ?_
  · refine ox_aloadN X4_11.here hx (hb hby d4_46) rfl rfl ?_
    exact k
  obtain ⟨fs, hr, hrun, hended, hW, hsame⟩ := X4_11.leave (v := some (.ref r0)) (own_ret Bd.returns) (BodyLoose.notSynchronized Bd)
  refine ⟨_, _, retA (ty := (.object "com/example/dolqa/dolqa/data/UnaryRelation$Builder")) X4_11 hx rfl rfl Bd.returns (hb hby d4_47) hr, hrun, hended, _, _, rfl, ?_, ⟨_, rfl⟩, hW, hsame.mono (by decide) (by decide)⟩
  have eh : (T4_11.setFrames fs).heap = h4_11 := e4_11
  rw [eh]
  exact ⟨b4_6, rfl, N4_11, (((((Keep.refl h0 [r0, ia]).ext E4_6).wr W4_7 (Or.inl (List.mem_of_getElem? (i := 0) rfl))).wr W4_10 (Or.inl (List.mem_of_getElem? (i := 0) rfl))).wr W4_11 (Or.inr sz_b4_6)), ((((E_r0.ext E4_6).wr W4_7).wr W4_10).wr W4_11), ((Fw4_7.other W4_10 (Or.inr (slot_ne (Or.inl (own_w hw 16 rfl)) (Or.inl (own_w hw 23 rfl)) (by decide) (t := (.array .int)) (t' := .int) (by decide) (by decide)))).other W4_11 (Or.inl ne_r0_b4_6)), (own_cnt (Fw4_10.other W4_11 (Or.inl ne_r0_b4_6)) (by rw [List.length_append, hlen]; rfl)), I4_11, Or.inr sz_b4_6⟩
def own_inv (ys zs : List Int32) (i d : Nat) : Prop := d ≤ i ∧ i ≤ ys.length ∧ zs.length = ys.length ∧ (∀ j, i ≤ j + 1 → zs[j]? = ys[j]?) ∧ (zs.take d).Pairwise (· < ·) ∧ ∀ v, v ∈ zs.take d ↔ v ∈ ys.take i
theorem own_inv_0 (ys : List Int32) : own_inv ys ys 0 0 := ⟨Nat.le_refl _, Nat.zero_le _, rfl, fun _ _ => rfl, by simp, fun v => by simp⟩
theorem own_inv_at {ys zs : List Int32} {i d : Nat} (I : own_inv ys zs i d) {j : Nat} (hj : i ≤ j + 1) : zs.getD j 0 = ys.getD j 0 := by
  rw [List.getD_eq_getElem?_getD, List.getD_eq_getElem?_getD, I.2.2.2.1 j hj]
theorem own_inv_s {ys zs : List Int32} {i d : Nat} (I : own_inv ys zs i d) (hi : i < ys.length) (h0 : 0 < i) (he : ys.getD i 0 = ys.getD (i - 1) 0) : own_inv ys zs (i + 1) d := by
  obtain ⟨a, b, c, e, f, g⟩ := I
  refine ⟨by omega, hi, c, fun j hj => e j (by omega), f, fun v => ?_⟩
  rw [g v, List.take_succ_eq_append_getElem hi, List.mem_append, List.mem_singleton]
  constructor
  · exact Or.inl
  · rintro (q | q)
    · exact q
    · subst q
      rw [List.getD_eq_getElem?_getD, List.getD_eq_getElem?_getD, List.getElem?_eq_getElem hi, List.getElem?_eq_getElem (by omega)] at he
      have he : ys[i] = ys[i - 1] := he
      rw [he]
      have : (ys.take i)[i - 1]'(by rw [List.length_take]; omega) = ys[i - 1] := List.getElem_take
      rw [← this]
      exact List.getElem_mem _
theorem own_inv_w {ys zs : List Int32} {i d : Nat} (hs : ys.Pairwise (· ≤ ·)) (I : own_inv ys zs i d) (hi : i < ys.length) (hne : i = 0 ∨ ¬ ys.getD i 0 = ys.getD (i - 1) 0) : own_inv ys (zs.set d (zs.getD i 0)) (i + 1) (d + 1) := by
  have hat := own_inv_at I (Nat.le_succ i)
  obtain ⟨a, b, c, e, f, g⟩ := I
  rw [hat]
  have hy : ys.getD i 0 = ys[i] := by rw [List.getD_eq_getElem?_getD, List.getElem?_eq_getElem hi]; rfl
  have ht : (zs.set d (ys.getD i 0)).take (d + 1) = zs.take d ++ [ys[i]] := by
    rw [List.take_succ_eq_append_getElem (by rw [List.length_set]; omega), List.take_set_of_le (Nat.le_refl _), List.getElem_set_self, hy]
  refine ⟨by omega, hi, by rw [List.length_set]; exact c, fun j hj => ?_, ?_, fun v => ?_⟩
  · by_cases hd : d = j
    · subst hd
      have : d = i := by omega
      subst this
      rw [List.getElem?_set_self (by omega), hy, List.getElem?_eq_getElem hi]
    · rw [List.getElem?_set_ne hd]; exact e j (by omega)
  · rw [ht, List.pairwise_append]
    refine ⟨f, by simp, fun x hx y hy' => ?_⟩
    rw [List.mem_singleton] at hy'
    subst hy'
    have hx := (g x).mp hx
    obtain ⟨q, hq, rfl⟩ := List.getElem_of_mem hx
    rw [List.length_take] at hq
    rw [List.getElem_take]
    rcases hne with rfl | hne
    · omega
    · have p1 : ys[q] ≤ ys[i - 1] := by
        by_cases hqi : q = i - 1
        · subst hqi; exact Int32.le_refl _
        · exact List.pairwise_iff_getElem.mp hs q (i - 1) (by omega) (by omega) (by omega)
      have p2 : ys[i - 1] ≤ ys[i] := List.pairwise_iff_getElem.mp hs (i - 1) i (by omega) hi (by omega)
      have p3 : ¬ ys[i] = ys[i - 1] := by
        intro q; apply hne
        rw [hy, q, List.getD_eq_getElem?_getD, List.getElem?_eq_getElem (by omega)]; rfl
      rw [Int32.le_iff_toInt_le] at p1 p2
      rw [← Int32.toInt_inj] at p3
      show ys[q] < ys[i]
      rw [Int32.lt_iff_toInt_lt]
      omega
  · rw [ht, List.take_succ_eq_append_getElem hi, List.mem_append, List.mem_append, g v]
theorem own_uniq : ∀ (A B : List Int32), A.Pairwise (· < ·) → B.Pairwise (· < ·) → (∀ v, v ∈ A ↔ v ∈ B) → A = B
  | [], [], _, _, _ => rfl
  | [], b :: B, _, _, h => by have := (h b).mpr (List.mem_cons_self ..); cases this
  | a :: A, [], _, _, h => by have := (h a).mp (List.mem_cons_self ..); cases this
  | a :: A, b :: B, hA, hB, h => by
    rw [List.pairwise_cons] at hA hB
    have hab : a = b := by
      rcases List.mem_cons.mp ((h a).mp (List.mem_cons_self ..)) with q | q
      · exact q
      · rcases List.mem_cons.mp ((h b).mpr (List.mem_cons_self ..)) with r | r
        · exact r.symm
        · have x := hB.1 a q
          have y := hA.1 b r
          rw [Int32.lt_iff_toInt_lt] at x y
          omega
    subst hab
    congr 1
    refine own_uniq A B hA.2 hB.2 fun v => ⟨fun q => ?_, fun q => ?_⟩
    · rcases List.mem_cons.mp ((h v).mp (List.mem_cons_of_mem _ q)) with r | r
      · subst r; have := hA.1 v q; rw [Int32.lt_iff_toInt_lt] at this; omega
      · exact r
    · rcases List.mem_cons.mp ((h v).mpr (List.mem_cons_of_mem _ q)) with r | r
      · subst r; have := hB.1 v q; rw [Int32.lt_iff_toInt_lt] at this; omega
      · exact r
theorem own_pred {n : Nat} (h : 0 < n) : Int32.ofNat n - 1 = Int32.ofNat (n - 1) := by
  obtain ⟨m, rfl⟩ : ∃ m, n = m + 1 := ⟨n - 1, by omega⟩
  rw [← own_succ, Nat.add_sub_cancel]
  exact Int32.add_sub_cancel _ _
theorem own_lt32 {i n : Nat} (hn : n ≤ 100) (h : i < n) : Int32.ofNat i < Int32.ofNat n := by
  rw [Int32.lt_iff_toInt_lt, Int32.toInt_ofNat_small (by omega), Int32.toInt_ofNat_small (by omega)]
  omega
theorem own_ne0 {i : Nat} (hn : i ≤ 100) (h : ¬ Int32.ofNat i = 0) : 0 < i := by
  rcases Nat.eq_zero_or_pos i with rfl | q
  · exact absurd rfl h
  · exact q
theorem own_eq0 {i : Nat} (hn : i ≤ 100) (h : Int32.ofNat i = 0) : i = 0 := by
  rw [← Int32.toInt_inj, Int32.toInt_ofNat_small (by omega)] at h
  have z : (0 : Int32).toInt = 0 := rfl
  omega
theorem d5_0 : decode prog_9_method_3_code 0 = .ok (.aload_n 0, 1) := by decide +kernel
theorem d5_1 : decode prog_9_method_3_code 1 = .ok (.getfield 7, 3) := by decide +kernel
theorem d5_4 : decode prog_9_method_3_code 4 = .ok (.aload_n 0, 1) := by decide +kernel
theorem d5_5 : decode prog_9_method_3_code 5 = .ok (.getfield 13, 3) := by decide +kernel
theorem d5_8 : decode prog_9_method_3_code 8 = .ok (.invokestatic 17, 3) := by decide +kernel
theorem d5_11 : decode prog_9_method_3_code 11 = .ok (.astore_n 1, 1) := by decide +kernel
theorem d5_12 : decode prog_9_method_3_code 12 = .ok (.aload_n 1, 1) := by decide +kernel
theorem d5_13 : decode prog_9_method_3_code 13 = .ok (.invokestatic 23, 3) := by decide +kernel
theorem d5_16 : decode prog_9_method_3_code 16 = .ok (.iconst 0, 1) := by decide +kernel
theorem d5_17 : decode prog_9_method_3_code 17 = .ok (.istore_n 2, 1) := by decide +kernel
theorem d5_18 : decode prog_9_method_3_code 18 = .ok (.iconst 0, 1) := by decide +kernel
theorem d5_19 : decode prog_9_method_3_code 19 = .ok (.istore_n 3, 1) := by decide +kernel
theorem d5_20 : decode prog_9_method_3_code 20 = .ok (.iload_n 3, 1) := by decide +kernel
theorem d5_21 : decode prog_9_method_3_code 21 = .ok (.aload_n 1, 1) := by decide +kernel
theorem d5_22 : decode prog_9_method_3_code 22 = .ok (.arraylength, 1) := by decide +kernel
theorem d5_23 : decode prog_9_method_3_code 23 = .ok (.if_icmp .ge 33, 3) := by decide +kernel
theorem d5_26 : decode prog_9_method_3_code 26 = .ok (.iload_n 3, 1) := by decide +kernel
theorem d5_27 : decode prog_9_method_3_code 27 = .ok (.ifCond .eq 14, 3) := by decide +kernel
theorem d5_30 : decode prog_9_method_3_code 30 = .ok (.aload_n 1, 1) := by decide +kernel
theorem d5_31 : decode prog_9_method_3_code 31 = .ok (.iload_n 3, 1) := by decide +kernel
theorem d5_32 : decode prog_9_method_3_code 32 = .ok (.iaload, 1) := by decide +kernel
theorem d5_33 : decode prog_9_method_3_code 33 = .ok (.aload_n 1, 1) := by decide +kernel
theorem d5_34 : decode prog_9_method_3_code 34 = .ok (.iload_n 3, 1) := by decide +kernel
theorem d5_35 : decode prog_9_method_3_code 35 = .ok (.iconst 1, 1) := by decide +kernel
theorem d5_36 : decode prog_9_method_3_code 36 = .ok (.isub, 1) := by decide +kernel
theorem d5_37 : decode prog_9_method_3_code 37 = .ok (.iaload, 1) := by decide +kernel
theorem d5_38 : decode prog_9_method_3_code 38 = .ok (.if_icmp .eq 12, 3) := by decide +kernel
theorem d5_41 : decode prog_9_method_3_code 41 = .ok (.aload_n 1, 1) := by decide +kernel
theorem d5_42 : decode prog_9_method_3_code 42 = .ok (.iload_n 2, 1) := by decide +kernel
theorem d5_43 : decode prog_9_method_3_code 43 = .ok (.iinc 2 1, 3) := by decide +kernel
theorem d5_46 : decode prog_9_method_3_code 46 = .ok (.aload_n 1, 1) := by decide +kernel
theorem d5_47 : decode prog_9_method_3_code 47 = .ok (.iload_n 3, 1) := by decide +kernel
theorem d5_48 : decode prog_9_method_3_code 48 = .ok (.iaload, 1) := by decide +kernel
theorem d5_49 : decode prog_9_method_3_code 49 = .ok (.iastore, 1) := by decide +kernel
theorem d5_50 : decode prog_9_method_3_code 50 = .ok (.iinc 3 1, 3) := by decide +kernel
theorem d5_53 : decode prog_9_method_3_code 53 = .ok (.goto (-33), 3) := by decide +kernel
theorem d5_56 : decode prog_9_method_3_code 56 = .ok (.new 27, 3) := by decide +kernel
theorem d5_59 : decode prog_9_method_3_code 59 = .ok (.dup, 1) := by decide +kernel
theorem d5_60 : decode prog_9_method_3_code 60 = .ok (.aload_n 1, 1) := by decide +kernel
theorem d5_61 : decode prog_9_method_3_code 61 = .ok (.iload_n 2, 1) := by decide +kernel
theorem d5_62 : decode prog_9_method_3_code 62 = .ok (.invokestatic 17, 3) := by decide +kernel
theorem d5_65 : decode prog_9_method_3_code 65 = .ok (.invokespecial 29, 3) := by decide +kernel
theorem d5_68 : decode prog_9_method_3_code 68 = .ok (.areturn, 1) := by decide +kernel
theorem pn5 : plainName "com/example/dolqa/dolqa/data/UnaryRelation$Builder" = true := by first | (simp [plainName, overriddenIn]; done) | decide +kernel
theorem pd5_0 : parseMethodDescriptor "([I)V" = some ⟨[(.array .int)], none⟩ := by decide +kernel
theorem ef5 (m : MethodId) (r0 : Addr) : entryFrame m #[(.ref r0)] 4 = mkF m 0 #[.val (.ref r0), .unset, .unset, .unset] [] := by first | (simp [entryFrame, mkF, argsToLocals, Value.category]; done) | rfl
set_option maxRecDepth 65536 in
set_option maxHeartbeats 4000000 in
theorem own_dd {p : Program} {l : Launch} {e : Env} {R : Room} {s : State} {m : MethodId} {args : Array Value} {below : List Frame} {meth : Method} {c : Code} {Z : State} {a0 : Array Value} {n0 : Nat} {hA : Heap} {r0 b : Addr} {k : ClassId} {ys : List Int32} {N CE SL : Nat} {P : State → Outcome → Prop} (hx : p.tables.exec = Jvm.exec) (hZ : Z.Warmed39 s.vm) (hby : c.code = prog_9_method_3_code) (hml : c.maxLocals = 4) (g_b : n0 ≤ b) (hN : ys.length = N) (h100 : N ≤ 100) (hs : ys.Pairwise (· ≤ ·))
    (cont : ∀ (T : State) (h : Heap) (locs : List Loc) (d : Nat) (zs : List Int32), Stand p l e R s m args below meth c T locs CE SL → T.heap = h → IA Z h b k N zs → Fr n0 locs → Keep hA h [b] → own_inv ys zs N d → ∃ t o, Steps p.tables e below (T.setTop (mkF m 56 #[.val (.ref r0), .val (.ref b), .val (.int (Int32.ofNat d)), .val (.int (Int32.ofNat N))] [])) t ∧ P t o) :
    ∀ (rem : Nat) (T : State) (h : Heap) (locs : List Loc) (i d : Nat) (zs : List Int32), i + rem = N → Stand p l e R s m args below meth c T locs CE SL → T.heap = h → IA Z h b k N zs → Fr n0 locs → Keep hA h [b] → own_inv ys zs i d → ∃ t o, Steps p.tables e below (T.setTop (mkF m 20 #[.val (.ref r0), .val (.ref b), .val (.int (Int32.ofNat d)), .val (.int (Int32.ofNat i))] [])) t ∧ P t o := by
  intro rem
  induction rem with
  | zero =>
    intro T0 h1 locs i d zs hi X0 e0 I_b N0 K0 inv
    have hiN : i = N := by omega
    rw [hiN] at inv ⊢
    refine own_fw (A := T0.setTop (mkF m 21 #[.val (.ref r0), .val (.ref b), .val (.int (Int32.ofNat d)), .val (.int (Int32.ofNat N))] [(.int (Int32.ofNat N))])) (fun t k => ?_) ?_
    · refine ox_iloadN X0.here hx (hb hby d5_20) rfl ?_
      exact k
    refine own_fw (A := T0.setTop (mkF m 22 #[.val (.ref r0), .val (.ref b), .val (.int (Int32.ofNat d)), .val (.int (Int32.ofNat N))] [(.ref b), (.int (Int32.ofNat N))])) (fun t k => ?_) ?_
    · refine ox_aloadN X0.here hx (hb hby d5_21) rfl rfl ?_
      exact k
    obtain ⟨cl5_1, Ar5_1, Sz5_1⟩ := IA.len I_b
    have st5_1 := X0.arraylength hx (by rw [e0]; exact Ar5_1.1) (State.isArrayOf_alike hZ.alike Ar5_1.2.1) (g := (mkF m 22 #[.val (.ref r0), .val (.ref b), .val (.int (Int32.ofNat d)), .val (.int (Int32.ofNat N))] [(.ref b), (.int (Int32.ofNat N))])) rfl rfl (hb hby d5_22)
    rw [Sz5_1] at st5_1
    refine own_fw st5_1 ?_
    refine own_fw (A := T0.setTop (mkF m 56 #[.val (.ref r0), .val (.ref b), .val (.int (Int32.ofNat d)), .val (.int (Int32.ofNat N))] [])) (fun t k => ?_) ?_
    · refine ox_icmpYes X0.here hx (pc0 := 23) (pc' := 56) rfl (hb hby d5_23) rfl (flt (Int32.lt_irrefl : ¬ ((Int32.ofNat N) < (Int32.ofNat N)))).2.1 (by decide) (by decide) ?_
      exact k
    exact cont _ _ _ _ _ X0 e0 I_b N0 K0 inv
  | succ rem ih =>
    intro T0 h1 locs i d zs hi X0 e0 I_b N0 K0 inv
    have hlt : i < N := by omega
    refine own_fw (A := T0.setTop (mkF m 21 #[.val (.ref r0), .val (.ref b), .val (.int (Int32.ofNat d)), .val (.int (Int32.ofNat i))] [(.int (Int32.ofNat i))])) (fun t k => ?_) ?_
    · refine ox_iloadN X0.here hx (hb hby d5_20) rfl ?_
      exact k
    refine own_fw (A := T0.setTop (mkF m 22 #[.val (.ref r0), .val (.ref b), .val (.int (Int32.ofNat d)), .val (.int (Int32.ofNat i))] [(.ref b), (.int (Int32.ofNat i))])) (fun t k => ?_) ?_
    · refine ox_aloadN X0.here hx (hb hby d5_21) rfl rfl ?_
      exact k
    obtain ⟨cl5_1, Ar5_1, Sz5_1⟩ := IA.len I_b
    have st5_1 := X0.arraylength hx (by rw [e0]; exact Ar5_1.1) (State.isArrayOf_alike hZ.alike Ar5_1.2.1) (g := (mkF m 22 #[.val (.ref r0), .val (.ref b), .val (.int (Int32.ofNat d)), .val (.int (Int32.ofNat i))] [(.ref b), (.int (Int32.ofNat i))])) rfl rfl (hb hby d5_22)
    rw [Sz5_1] at st5_1
    refine own_fw st5_1 ?_
    refine own_fw (A := T0.setTop (mkF m 27 #[.val (.ref r0), .val (.ref b), .val (.int (Int32.ofNat d)), .val (.int (Int32.ofNat i))] [(.int (Int32.ofNat i))])) (fun t k => ?_) ?_
    · refine ox_icmpNo X0.here hx (hb hby d5_23) rfl (tlt (own_lt32 h100 hlt)).2.1 ?_
      refine ox_iloadN X0.here hx (hb hby d5_26) rfl ?_
      exact k
    by_cases hc5_1 : (Int32.ofNat i) = (0 : Int32)
    · refine own_fw (A := T0.setTop (mkF m 41 #[.val (.ref r0), .val (.ref b), .val (.int (Int32.ofNat d)), .val (.int (Int32.ofNat i))] [])) (fun t k => ?_) ?_
      · refine ox_ifYes X0.here hx (pc0 := 27) (pc' := 41) rfl (hb hby d5_27) rfl ((if0 _ _).trans (teq hc5_1).1) (by decide) (by decide) ?_
        exact k
      refine own_fw (A := T0.setTop (mkF m 48 #[.val (.ref r0), .val (.ref b), .val (.int ((Int32.ofNat d) + (1 : Int32))), .val (.int (Int32.ofNat i))] [(.int (Int32.ofNat i)), (.ref b), (.int (Int32.ofNat d)), (.ref b)])) (fun t k => ?_) ?_
      · refine ox_aloadN X0.here hx (hb hby d5_41) rfl rfl ?_
        refine ox_iloadN X0.here hx (hb hby d5_42) rfl ?_
        refine ox_iinc X0.here hx (hb hby d5_43) rfl (l' := #[.val (.ref r0), .val (.ref b), .val (.int ((Int32.ofNat d) + (1 : Int32))), .val (.int (Int32.ofNat i))]) rfl ?_
        refine ox_aloadN X0.here hx (hb hby d5_46) rfl rfl ?_
        refine ox_iloadN X0.here hx (hb hby d5_47) rfl ?_
        exact k
      obtain ⟨cl5_2, Ar5_2, hin5_2, hat5_2⟩ := IA.at I_b (j := i) hlt
      refine own_fw (X0.iaload hx (j := (Int32.ofNat i)) (v := .int (zs.getD i 0)) (by rw [e0]; exact Ar5_2.1) (State.isArrayOf_alike hZ.alike Ar5_2.2.1) Ar5_2.2.2 hin5_2 hat5_2 (g := (mkF m 48 #[.val (.ref r0), .val (.ref b), .val (.int ((Int32.ofNat d) + (1 : Int32))), .val (.int (Int32.ofNat i))] [(.int (Int32.ofNat i)), (.ref b), (.int (Int32.ofNat d)), (.ref b)])) rfl rfl (hb hby d5_48)) ?_
      obtain ⟨cl5_3, Ar5_3, hin5_3, hat5_3⟩ := IA.at I_b (j := d) (show d < N by have := inv.1; omega)
      obtain ⟨T5_3, h5_3, X5_3, e5_3, W5_3, st5_3⟩ := stI X0 hx hZ e0 Ar5_3 (j := (Int32.ofNat d)) hin5_3 (g := (mkF m 49 #[.val (.ref r0), .val (.ref b), .val (.int ((Int32.ofNat d) + (1 : Int32))), .val (.int (Int32.ofNat i))] [(.int (zs.getD i 0)), (.int (Int32.ofNat d)), (.ref b)])) rfl rfl (hb hby d5_49)
      have I5_3 : IA Z h5_3 b k N (zs.set d (zs.getD i 0)) := IA.put I_b (j := d) (show d < zs.length by have := inv.1; have := inv.2.2.1; omega) W5_3
      have N5_3 := Fr.snoc X5_3 N0 g_b
      refine own_fw st5_3 ?_
      refine own_fw (A := T5_3.setTop (mkF m 20 #[.val (.ref r0), .val (.ref b), .val (.int ((Int32.ofNat d) + (1 : Int32))), .val (.int ((Int32.ofNat i) + (1 : Int32)))] [])) (fun t k => ?_) ?_
      · refine ox_iinc X5_3.here hx (hb hby d5_50) rfl (l' := #[.val (.ref r0), .val (.ref b), .val (.int ((Int32.ofNat d) + (1 : Int32))), .val (.int ((Int32.ofNat i) + (1 : Int32)))]) rfl ?_
        refine ox_goto X5_3.here hx (pc0 := 53) (pc' := 20) rfl (hb hby d5_53) (by decide) (by decide) ?_
        exact k
      rw [own_succ i, own_succ d]
      exact ih _ _ _ (i + 1) (d + 1) _ (by omega) X5_3 e5_3 I5_3 N5_3 (K0.wr W5_3 (Or.inl (List.mem_of_getElem? (i := 0) rfl))) (own_inv_w hs inv (by omega) (Or.inl (own_eq0 (by omega) hc5_1)))
    · refine own_fw (A := T0.setTop (mkF m 30 #[.val (.ref r0), .val (.ref b), .val (.int (Int32.ofNat d)), .val (.int (Int32.ofNat i))] [])) (fun t k => ?_) ?_
      · refine ox_ifNo X0.here hx (hb hby d5_27) rfl ((if0 _ _).trans (feq hc5_1).1) ?_
        exact k
      refine own_fw (A := T0.setTop (mkF m 32 #[.val (.ref r0), .val (.ref b), .val (.int (Int32.ofNat d)), .val (.int (Int32.ofNat i))] [(.int (Int32.ofNat i)), (.ref b)])) (fun t k => ?_) ?_
      · refine ox_aloadN X0.here hx (hb hby d5_30) rfl rfl ?_
        refine ox_iloadN X0.here hx (hb hby d5_31) rfl ?_
        exact k
      obtain ⟨cl5_4, Ar5_4, hin5_4, hat5_4⟩ := IA.at I_b (j := i) hlt
      refine own_fw (X0.iaload hx (j := (Int32.ofNat i)) (v := .int (zs.getD i 0)) (by rw [e0]; exact Ar5_4.1) (State.isArrayOf_alike hZ.alike Ar5_4.2.1) Ar5_4.2.2 hin5_4 hat5_4 (g := (mkF m 32 #[.val (.ref r0), .val (.ref b), .val (.int (Int32.ofNat d)), .val (.int (Int32.ofNat i))] [(.int (Int32.ofNat i)), (.ref b)])) rfl rfl (hb hby d5_32)) ?_
      refine own_fw (A := T0.setTop (mkF m 37 #[.val (.ref r0), .val (.ref b), .val (.int (Int32.ofNat d)), .val (.int (Int32.ofNat i))] [(.int ((Int32.ofNat i) - (1 : Int32))), (.ref b), (.int (zs.getD i 0))])) (fun t k => ?_) ?_
      · refine ox_aloadN X0.here hx (hb hby d5_33) rfl rfl ?_
        refine ox_iloadN X0.here hx (hb hby d5_34) rfl ?_
        refine ox_iconst X0.here hx (hb hby d5_35) ?_
        refine ox_isub X0.here hx (hb hby d5_36) rfl ?_
        exact k
      rw [own_pred (own_ne0 (by omega) hc5_1)]
      obtain ⟨cl5_5, Ar5_5, hin5_5, hat5_5⟩ := IA.at I_b (j := (i - 1)) (show i - 1 < N by omega)
      refine own_fw (X0.iaload hx (j := (Int32.ofNat (i - 1))) (v := .int (zs.getD (i - 1) 0)) (by rw [e0]; exact Ar5_5.1) (State.isArrayOf_alike hZ.alike Ar5_5.2.1) Ar5_5.2.2 hin5_5 hat5_5 (g := (mkF m 37 #[.val (.ref r0), .val (.ref b), .val (.int (Int32.ofNat d)), .val (.int (Int32.ofNat i))] [(.int (Int32.ofNat (i - 1))), (.ref b), (.int (zs.getD i 0))])) rfl rfl (hb hby d5_37)) ?_
      by_cases hc5_2 : (zs.getD i 0) = (zs.getD (i - 1) 0)
      · refine own_fw (A := T0.setTop (mkF m 50 #[.val (.ref r0), .val (.ref b), .val (.int (Int32.ofNat d)), .val (.int (Int32.ofNat i))] [])) (fun t k => ?_) ?_
        · refine ox_icmpYes X0.here hx (pc0 := 38) (pc' := 50) rfl (hb hby d5_38) rfl (teq hc5_2).1 (by decide) (by decide) ?_
          exact k
        refine own_fw (A := T0.setTop (mkF m 20 #[.val (.ref r0), .val (.ref b), .val (.int (Int32.ofNat d)), .val (.int ((Int32.ofNat i) + (1 : Int32)))] [])) (fun t k => ?_) ?_
        · refine ox_iinc X0.here hx (hb hby d5_50) rfl (l' := #[.val (.ref r0), .val (.ref b), .val (.int (Int32.ofNat d)), .val (.int ((Int32.ofNat i) + (1 : Int32)))]) rfl ?_
          refine ox_goto X0.here hx (pc0 := 53) (pc' := 20) rfl (hb hby d5_53) (by decide) (by decide) ?_
          exact k
        rw [own_succ i]
        exact ih _ _ _ (i + 1) d _ (by omega) X0 e0 I_b N0 K0 (own_inv_s inv (by omega) (own_ne0 (by omega) hc5_1) (by have q := hc5_2; rw [own_inv_at inv (Nat.le_succ i), own_inv_at inv (show i ≤ i - 1 + 1 by omega)] at q; exact q))
      · refine own_fw (A := T0.setTop (mkF m 41 #[.val (.ref r0), .val (.ref b), .val (.int (Int32.ofNat d)), .val (.int (Int32.ofNat i))] [])) (fun t k => ?_) ?_
        · refine ox_icmpNo X0.here hx (hb hby d5_38) rfl (feq hc5_2).1 ?_
          exact k
        refine own_fw (A := T0.setTop (mkF m 48 #[.val (.ref r0), .val (.ref b), .val (.int ((Int32.ofNat d) + (1 : Int32))), .val (.int (Int32.ofNat i))] [(.int (Int32.ofNat i)), (.ref b), (.int (Int32.ofNat d)), (.ref b)])) (fun t k => ?_) ?_
        · refine ox_aloadN X0.here hx (hb hby d5_41) rfl rfl ?_
          refine ox_iloadN X0.here hx (hb hby d5_42) rfl ?_
          refine ox_iinc X0.here hx (hb hby d5_43) rfl (l' := #[.val (.ref r0), .val (.ref b), .val (.int ((Int32.ofNat d) + (1 : Int32))), .val (.int (Int32.ofNat i))]) rfl ?_
          refine ox_aloadN X0.here hx (hb hby d5_46) rfl rfl ?_
          refine ox_iloadN X0.here hx (hb hby d5_47) rfl ?_
          exact k
        obtain ⟨cl5_6, Ar5_6, hin5_6, hat5_6⟩ := IA.at I_b (j := i) hlt
        refine own_fw (X0.iaload hx (j := (Int32.ofNat i)) (v := .int (zs.getD i 0)) (by rw [e0]; exact Ar5_6.1) (State.isArrayOf_alike hZ.alike Ar5_6.2.1) Ar5_6.2.2 hin5_6 hat5_6 (g := (mkF m 48 #[.val (.ref r0), .val (.ref b), .val (.int ((Int32.ofNat d) + (1 : Int32))), .val (.int (Int32.ofNat i))] [(.int (Int32.ofNat i)), (.ref b), (.int (Int32.ofNat d)), (.ref b)])) rfl rfl (hb hby d5_48)) ?_
        obtain ⟨cl5_7, Ar5_7, hin5_7, hat5_7⟩ := IA.at I_b (j := d) (show d < N by have := inv.1; omega)
        obtain ⟨T5_7, h5_7, X5_7, e5_7, W5_7, st5_7⟩ := stI X0 hx hZ e0 Ar5_7 (j := (Int32.ofNat d)) hin5_7 (g := (mkF m 49 #[.val (.ref r0), .val (.ref b), .val (.int ((Int32.ofNat d) + (1 : Int32))), .val (.int (Int32.ofNat i))] [(.int (zs.getD i 0)), (.int (Int32.ofNat d)), (.ref b)])) rfl rfl (hb hby d5_49)
        have I5_7 : IA Z h5_7 b k N (zs.set d (zs.getD i 0)) := IA.put I_b (j := d) (show d < zs.length by have := inv.1; have := inv.2.2.1; omega) W5_7
        have N5_7 := Fr.snoc X5_7 N0 g_b
        refine own_fw st5_7 ?_
        refine own_fw (A := T5_7.setTop (mkF m 20 #[.val (.ref r0), .val (.ref b), .val (.int ((Int32.ofNat d) + (1 : Int32))), .val (.int ((Int32.ofNat i) + (1 : Int32)))] [])) (fun t k => ?_) ?_
        · refine ox_iinc X5_7.here hx (hb hby d5_50) rfl (l' := #[.val (.ref r0), .val (.ref b), .val (.int ((Int32.ofNat d) + (1 : Int32))), .val (.int ((Int32.ofNat i) + (1 : Int32)))]) rfl ?_
          refine ox_goto X5_7.here hx (pc0 := 53) (pc' := 20) rfl (hb hby d5_53) (by decide) (by decide) ?_
          exact k
        rw [own_succ i, own_succ d]
        exact ih _ _ _ (i + 1) (d + 1) _ (by omega) X5_7 e5_7 I5_7 N5_7 (K0.wr W5_7 (Or.inl (List.mem_of_getElem? (i := 0) rfl))) (own_inv_w hs inv (by omega) (Or.inr (by have q := hc5_2; rw [own_inv_at inv (Nat.le_succ i), own_inv_at inv (show i ≤ i - 1 + 1 by omega)] at q; exact q)))
theorem IA.cong2 {Z : State} {h : Heap} {a : Addr} {k : ClassId} {n m : Nat} {xs : List Int32} (A : IA Z h a k n xs) (e : n = m) : IA Z h a k m xs := e ▸ A
def Q5 (Z : State) (k : ClassId) (xs : List Int32) (h0 : Heap) (n0 : Nat) (w : Option Value) (h : Heap) (L : List Loc) : Prop := ∃ u mm D, w = some (.ref u) ∧ Fr n0 L ∧ Keep h0 h [] ∧ Exa Z h u "com/example/dolqa/dolqa/data/UnaryRelation" ∧ Fld Z h u "com/example/dolqa/dolqa/data/UnaryRelation" "members" "[I" (.ref mm) ∧ IA Z h mm k D.length D ∧ D.Pairwise (· < ·) ∧ (∀ v, v ∈ D ↔ v ∈ xs) ∧ h0.size ≤ u ∧ h0.size ≤ mm
set_option maxRecDepth 65536 in
set_option maxHeartbeats 40000000 in
theorem rm5 (l : Launch) (Z : State) (a0 : Array Value) (hw : ∀ d ∈ tables_1, d.before a0 Z = true) (ws : List Jvm.Cond) (r0 : Addr) (ia : Addr) (k : ClassId) (xs : List Int32) (cap : Nat) (h0 : Heap) (n0 : Nat) (Z0 : n0 ≤ h0.size) (F_i : Fld Z h0 r0 "com/example/dolqa/dolqa/data/UnaryRelation$Builder" "ids" "[I" (.ref ia)) (F_c : Fld Z h0 r0 "com/example/dolqa/dolqa/data/UnaryRelation$Builder" "count" "I" (.int (Int32.ofNat xs.length))) (I_a : IA Z h0 ia k cap xs) (hk : Z.vm.findClass "[I" = some k) (hne : ia ≠ r0) (h18 : xs.length ≤ 18) :
    MetFree l mN7 (head1 (Jvm.Cond.code mN7 prog_9_method_3_code 4 (some (.object "com/example/dolqa/dolqa/data/UnaryRelation")) :: ws) ({ frames := 5, cells := 3, slots := 37, locals := 162 } : Room)) (fun a U => a = #[(.ref r0)] ∧ Z.Warmed39 U.vm ∧ U.heap = h0) (fun _ _ _ _ _ => True) (fun _ U o U' => ∃ v L, o = .returned v ∧ Q5 Z k xs h0 n0 v U'.heap L ∧ FrameEnd U o U' L ({ frames := 5, cells := 3, slots := 37, locals := 162 } : Room).cells ({ frames := 5, cells := 3, slots := 37, locals := 162 } : Room).slots) := by
  refine MetFree.of_bodySF (plainFor_of_name pn5) hisR ?_
  intro p e s m args below meth c s₁ Bd hml0 hP hK
  obtain ⟨rfl, hZ, hh⟩ := hP
  have hx := Bd.exec
  have hby := Bd.bytes
  have hml : c.maxLocals = 4 := hml0
  have hown : s.vm.findClass "com/example/dolqa/dolqa/data/UnaryRelation$Builder" = some m.cls := findClass_of_methodNamed Bd.named
  have hnm := (name_of_methodNamed Bd.named Bd.method).1
  have X0 : Stand p l e ({ frames := 5, cells := 3, slots := 37, locals := 162 } : Room) s m #[(.ref r0)] below meth c s₁ [] 0 0 := Stand.of_body Bd
  have e0 : s₁.heap = h0 := by rw [← hh, Bd.state]; rfl
  have N0 := Fr.nil n0
  refine own_fw (A := s₁.setTop (mkF m 0 #[.val (.ref r0), .unset, .unset, .unset] [])) (fun t k => castTop (ef5 m r0) k) ?_
  refine own_fw (A := s₁.setTop (mkF m 1 #[.val (.ref r0), .unset, .unset, .unset] [(.ref r0)])) (fun t k => ?_) ?_
  · refine ox_aloadN X0.here hx (hb hby d5_0) rfl rfl ?_
    exact k
  obtain ⟨T5_1, X5_1, e5_1, st5_1⟩ := getF X0 hx hZ hown (host := "") (Or.inl (own_w hw 15 rfl)) Via.refl e0 F_i (g := (mkF m 1 #[.val (.ref r0), .unset, .unset, .unset] [(.ref r0)])) rfl rfl (hb hby d5_1)
  refine own_fw st5_1 ?_
  refine own_fw (A := T5_1.setTop (mkF m 5 #[.val (.ref r0), .unset, .unset, .unset] [(.ref r0), (.ref ia)])) (fun t k => ?_) ?_
  · refine ox_aloadN X5_1.here hx (hb hby d5_4) rfl rfl ?_
    exact k
  obtain ⟨T5_2, X5_2, e5_2, st5_2⟩ := getF X5_1 hx hZ hown (host := "") (Or.inl (own_w hw 22 rfl)) Via.refl e5_1 F_c (g := (mkF m 5 #[.val (.ref r0), .unset, .unset, .unset] [(.ref r0), (.ref ia)])) rfl rfl (hb hby d5_5)
  refine own_fw st5_2 ?_
  obtain ⟨T5_3, h5_3, X5_3, e5_3, E5_3, I5_3, st5_3⟩ := own_copy X5_2 hx hZ hw hown e5_2 I_a hk (n := xs.length) (by omega) (g := (mkF m 8 #[.val (.ref r0), .unset, .unset, .unset] [(.int (Int32.ofNat xs.length)), (.ref ia)])) rfl (by rw [hml]; rfl) (rest := []) rfl (W := 0) (own_mr rfl) (hb hby d5_8) (by decide) (by decide) (by decide) (N := 18) (by omega) (by decide)
  obtain ⟨b5_3, g5_3⟩ : ∃ z, z = h0.size := ⟨_, rfl⟩
  rw [← g5_3] at I5_3 st5_3
  have g_b5_3 : n0 ≤ b5_3 := Nat.le_trans Z0 (Nat.le_of_eq g5_3.symm)
  have sz_b5_3 : h0.size ≤ b5_3 := Nat.le_trans (Keep.refl h0 []).1 (Nat.le_of_eq g5_3.symm)
  refine own_fw st5_3 ?_
  refine own_fw (A := T5_3.setTop (mkF m 13 #[.val (.ref r0), .val (.ref b5_3), .unset, .unset] [(.ref b5_3)])) (fun t k => ?_) ?_
  · refine ox_astoreN X5_3.here hx (hb hby d5_11) rfl rfl (l' := #[.val (.ref r0), .val (.ref b5_3), .unset, .unset]) rfl ?_
    refine ox_aloadN X5_3.here hx (hb hby d5_12) rfl rfl ?_
    exact k
  obtain ⟨T5_4, h5_4, Ls5_4, ys, X5_4, Lb5_4, e5_4, K5_4, I5_4, yl, yp, ysd, st5_4⟩ := own_sort X5_3 hx hZ hw hown e5_3 (IA.cong I5_3 (List.take_length (l := xs))) (by omega) rfl (g := (mkF m 13 #[.val (.ref r0), .val (.ref b5_3), .unset, .unset] [(.ref b5_3)])) rfl (by rw [hml]; rfl) (rest := []) rfl (W := 0) (own_mr rfl) (hb hby d5_13) (by decide) (by decide) (by decide) (by decide)
  have N5_4 := Fr.app N0 (fun y hy => by rw [Lb5_4 y hy]; exact g_b5_3)
  refine own_fw st5_4 ?_
  refine own_fw (A := T5_4.setTop (mkF m 20 #[.val (.ref r0), .val (.ref b5_3), .val (.int (0 : Int32)), .val (.int (0 : Int32))] [])) (fun t k => ?_) ?_
  · refine ox_iconst X5_4.here hx (hb hby d5_16) ?_
    refine ox_istoreN X5_4.here hx (hb hby d5_17) rfl (l' := #[.val (.ref r0), .val (.ref b5_3), .val (.int (0 : Int32)), .unset]) rfl ?_
    refine ox_iconst X5_4.here hx (hb hby d5_18) ?_
    refine ox_istoreN X5_4.here hx (hb hby d5_19) rfl (l' := #[.val (.ref r0), .val (.ref b5_3), .val (.int (0 : Int32)), .val (.int (0 : Int32))]) rfl ?_
    exact k
  refine own_dd (a0 := a0) (hA := h5_4) (N := xs.length) (ys := ys) hx hZ hby hml g_b5_3 yl (by omega) ysd (fun T5_5 h5_5 L5_5 dd zs X5_5 e5_5 I5_5 N5_5 K5_5 inv => ?_) xs.length _ _ _ 0 0 ys (by omega) X5_4 e5_4 I5_4 N5_4 (Keep.refl _ _) (own_inv_0 ys)
  have hdd : dd ≤ xs.length := inv.1
  obtain ⟨T5_6, h5_6, X5_6, e5_6, E5_6, A5_6, D5_6, -, st5_6⟩ := newO X5_5 hx hZ hown (own_w hw 51 rfl) (own_w hw 52 rfl) (own_w hw 53 rfl) e5_5 (g := (mkF m 56 #[.val (.ref r0), .val (.ref b5_3), .val (.int (Int32.ofNat dd)), .val (.int (Int32.ofNat xs.length))] [])) rfl (hb hby d5_56) (by decide) (by decide)
  obtain ⟨b5_6, g5_6⟩ : ∃ z, z = h5_5.size := ⟨_, rfl⟩
  rw [← g5_6] at A5_6 D5_6 st5_6
  have g_b5_6 : n0 ≤ b5_6 := Nat.le_trans (Nat.le_trans (Nat.le_trans (Nat.le_trans Z0 E5_3.1) K5_4.1) K5_5.1) (Nat.le_of_eq g5_6.symm)
  have sz_b5_6 : h0.size ≤ b5_6 := Nat.le_trans ((((Keep.refl h0 []).ext E5_3).trans K5_4 (allS (Or.inr sz_b5_3) all0)).trans K5_5 (allS (Or.inr sz_b5_3) all0)).1 (Nat.le_of_eq g5_6.symm)
  have F_members_b5_6 : Fld Z h5_6 b5_6 "com/example/dolqa/dolqa/data/UnaryRelation" "members" "[I" .null := D5_6 (Or.inr (own_w hw 68 rfl)) (ty := (.array .int)) (by decide)
  refine own_fw st5_6 ?_
  refine own_fw (A := T5_6.setTop (mkF m 62 #[.val (.ref r0), .val (.ref b5_3), .val (.int (Int32.ofNat dd)), .val (.int (Int32.ofNat xs.length))] [(.int (Int32.ofNat dd)), (.ref b5_3), (.ref b5_6), (.ref b5_6)])) (fun t k => ?_) ?_
  · refine ox_dup X5_6.here hx (hb hby d5_59) rfl rfl ?_
    refine ox_aloadN X5_6.here hx (hb hby d5_60) rfl rfl ?_
    refine ox_iloadN X5_6.here hx (hb hby d5_61) rfl ?_
    exact k
  obtain ⟨T5_7, h5_7, X5_7, e5_7, E5_7, I5_7, st5_7⟩ := own_copy X5_6 hx hZ hw hown e5_6 (I5_5.ext E5_6) hk (n := dd) (by omega) (g := (mkF m 62 #[.val (.ref r0), .val (.ref b5_3), .val (.int (Int32.ofNat dd)), .val (.int (Int32.ofNat xs.length))] [(.int (Int32.ofNat dd)), (.ref b5_3), (.ref b5_6), (.ref b5_6)])) rfl (by rw [hml]; rfl) (rest := [(.ref b5_6), (.ref b5_6)]) rfl (W := 2) (own_mr rfl) (hb hby d5_62) (by decide) (by decide) (by decide) (N := 18) (by omega) (by decide)
  obtain ⟨b5_7, g5_7⟩ : ∃ z, z = h5_6.size := ⟨_, rfl⟩
  rw [← g5_7] at I5_7 st5_7
  have ne_b5_6_b5_7 : b5_6 ≠ b5_7 := Nat.ne_of_lt (Nat.lt_of_lt_of_le F_members_b5_6.lt (Nat.le_of_eq g5_7.symm))
  have sz_b5_7 : h0.size ≤ b5_7 := Nat.le_trans (((((Keep.refl h0 []).ext E5_3).trans K5_4 (allS (Or.inr sz_b5_3) all0)).trans K5_5 (allS (Or.inr sz_b5_3) all0)).ext E5_6).1 (Nat.le_of_eq g5_7.symm)
  refine own_fw st5_7 ?_
  obtain ⟨_, _, ⟨T5_8, L5_8, k5_8, n5_8⟩, -, X5_8, ⟨Lc5_8, hQ5_8, l5_8, y5_8, z5_8⟩, st5_8⟩ := X5_7.specialBack hx (y := mN12) rfl hown (mvT hZ (own_w hw 63 rfl)) (mvT hZ (own_w hw 64 rfl)) (mvT hZ (own_w hw 65 rfl)) (by decide) (backOf (W := 1) (rm11 l Z a0 hw [] b5_6 b5_7 h5_7 n0 (Nat.le_trans (Nat.le_trans (Nat.le_trans (Nat.le_trans (Nat.le_trans Z0 E5_3.1) K5_4.1) K5_5.1) E5_6.1) E5_7.1) (A5_6.ext E5_7) (F_members_b5_6.ext E5_7) g_b5_6) hZ (own_w hw 65 rfl) (own_w hw 53 rfl) (by decide) (by decide)) (g := (mkF m 65 #[.val (.ref r0), .val (.ref b5_3), .val (.int (Int32.ofNat dd)), .val (.int (Int32.ofNat xs.length))] [(.ref b5_7), (.ref b5_6), (.ref b5_6)])) rfl (by rw [hml]; rfl) (Steps.refl _) (a := b5_6) (argsL := [(.ref b5_7)]) (rest := [(.ref b5_6)]) (lenOf pd5_0 rfl) rfl (own_mr rfl) (hb hby d5_65) (fun _ _ => ⟨rfl, e5_7, (by decide : 3 + 0 ≤ _), (by decide : 37 + 0 ≤ _)⟩)
  dsimp only [Pt.U, Pt.locs, Pt.cells, Pt.slots] at X5_8 l5_8 y5_8 z5_8 st5_8 hQ5_8
  subst l5_8 y5_8 z5_8
  obtain ⟨rfl, N5_8q, K5_8, Ex5_8, Fm5_8⟩ := hQ5_8
  have N5_8 := Fr.app N5_5 N5_8q
  refine own_fw (fun t k => st5_8.trans k) ?_
  obtain ⟨i1, i2, i3, i4, i5, i6⟩ := inv
  obtain ⟨fs, hr, hrun, hended, hW, hsame⟩ := X5_8.leave (v := some (.ref b5_6)) (own_ret Bd.returns) (BodyLoose.notSynchronized Bd)
  refine ⟨_, _, retA (ty := (.object "com/example/dolqa/dolqa/data/UnaryRelation")) X5_8 hx rfl rfl Bd.returns (hb hby d5_68) hr, hrun, hended, _, _, rfl, ?_, ⟨_, rfl⟩, hW, hsame.mono (by decide) (by decide)⟩
  have eh : (T5_8.setFrames fs).heap = T5_8.heap := rfl
  rw [eh]
  exact ⟨b5_6, b5_7, _, rfl, N5_8, (((((((Keep.refl h0 []).ext E5_3).trans K5_4 (allS (Or.inr sz_b5_3) all0)).trans K5_5 (allS (Or.inr sz_b5_3) all0)).ext E5_6).ext E5_7).trans K5_8 (allS (Or.inr sz_b5_6) all0)), Ex5_8, Fm5_8, IA.cong2 (I5_7.keep K5_8 (fun q => (Ne.symm ne_b5_6_b5_7) (List.mem_singleton.mp q))) (by rw [List.length_take]; omega), i5, fun v => by rw [i6 v, ← yl, List.take_length, yp.mem_iff], sz_b5_6, sz_b5_7⟩
def f_min (p0 p1 : Int32) : Int32 := (if p1 < p0 then p1 else p0)
def Q1 (Z : State) (z : Int32) (h0 : Heap) (n0 : Nat) (w : Option Value) (h : Heap) (L : List Loc) : Prop := w = some (.int z) ∧ Fr n0 L ∧ h = h0
theorem d1_0 : decode jdk_29_method_69_code 0 = .ok (.iload_n 0, 1) := by decide +kernel
theorem d1_1 : decode jdk_29_method_69_code 1 = .ok (.iload_n 1, 1) := by decide +kernel
theorem d1_2 : decode jdk_29_method_69_code 2 = .ok (.if_icmp .gt 7, 3) := by decide +kernel
theorem d1_5 : decode jdk_29_method_69_code 5 = .ok (.iload_n 0, 1) := by decide +kernel
theorem d1_6 : decode jdk_29_method_69_code 6 = .ok (.goto 4, 3) := by decide +kernel
theorem d1_9 : decode jdk_29_method_69_code 9 = .ok (.iload_n 1, 1) := by decide +kernel
theorem d1_10 : decode jdk_29_method_69_code 10 = .ok (.ireturn, 1) := by decide +kernel
theorem ef1 (m : MethodId) (p0 : Int32) (p1 : Int32) : entryFrame m #[(.int p0), (.int p1)] 2 = mkF m 0 #[.val (.int p0), .val (.int p1)] [] := by first | (simp [entryFrame, mkF, argsToLocals, Value.category]; done) | rfl
set_option maxRecDepth 65536 in
set_option maxHeartbeats 40000000 in
theorem rm1 (l : Launch) (Z : State) (a0 : Array Value) (hw : ∀ d ∈ tables_1, d.before a0 Z = true) (ws : List Jvm.Cond) (p0 : Int32) (p1 : Int32) (h0 : Heap) (n0 : Nat) (Z0 : n0 ≤ h0.size) :
    MetFree l mN11 (head1 (Jvm.Cond.code mN11 jdk_29_method_69_code 2 (some .int) :: ws) ({ frames := 0, cells := 0, slots := 0, locals := 0 } : Room)) (fun a U => a = #[(.int p0), (.int p1)] ∧ Z.Warmed39 U.vm ∧ U.heap = h0) (fun _ _ _ _ _ => True) (fun _ U o U' => ∃ v L, o = .returned v ∧ Q1 Z (f_min p0 p1) h0 n0 v U'.heap L ∧ FrameEnd U o U' L ({ frames := 0, cells := 0, slots := 0, locals := 0 } : Room).cells ({ frames := 0, cells := 0, slots := 0, locals := 0 } : Room).slots) := by
  refine MetFree.of_bodySF (Jvm.Free.JP.mathPlain rfl (by decide +kernel)) hisR ?_
  intro p e s m args below meth c s₁ Bd hml0 hP hK
  obtain ⟨rfl, hZ, hh⟩ := hP
  have hx := Bd.exec
  have hby := Bd.bytes
  have hml : c.maxLocals = 2 := hml0
  have hown : s.vm.findClass "java/lang/Math" = some m.cls := findClass_of_methodNamed Bd.named
  have hnm := (name_of_methodNamed Bd.named Bd.method).1
  have X0 : Stand p l e ({ frames := 0, cells := 0, slots := 0, locals := 0 } : Room) s m #[(.int p0), (.int p1)] below meth c s₁ [] 0 0 := Stand.of_body Bd
  have e0 : s₁.heap = h0 := by rw [← hh, Bd.state]; rfl
  have N0 := Fr.nil n0
  refine own_fw (A := s₁.setTop (mkF m 0 #[.val (.int p0), .val (.int p1)] [])) (fun t k => castTop (ef1 m p0 p1) k) ?_
  refine own_fw (A := s₁.setTop (mkF m 2 #[.val (.int p0), .val (.int p1)] [(.int p1), (.int p0)])) (fun t k => ?_) ?_
  · refine ox_iloadN X0.here hx (hb hby d1_0) rfl ?_
    refine ox_iloadN X0.here hx (hb hby d1_1) rfl ?_
    exact k
  by_cases hc1_1 : p1 < p0
  · refine own_fw (A := s₁.setTop (mkF m 9 #[.val (.int p0), .val (.int p1)] [])) (fun t k => ?_) ?_
    · refine ox_icmpYes X0.here hx (pc0 := 2) (pc' := 9) rfl (hb hby d1_2) rfl (tlt hc1_1).2.2.1 (by decide) (by decide) ?_
      exact k
    refine own_fw (A := s₁.setTop (mkF m 10 #[.val (.int p0), .val (.int p1)] [(.int p1)])) (fun t k => ?_) ?_
    · refine ox_iloadN X0.here hx (hb hby d1_9) rfl ?_
      exact k
    obtain ⟨fs, hr, hrun, hended, hW, hsame⟩ := X0.leave (v := some (.int p1)) (own_ret Bd.returns) (BodyLoose.notSynchronized Bd)
    refine ⟨_, _, retI X0 hx Bd.returns (hb hby d1_10) hr, hrun, hended, _, _, rfl, ?_, ⟨_, rfl⟩, hW, hsame.mono (by decide) (by decide)⟩
    have eh : (s₁.setFrames fs).heap = h0 := e0
    rw [eh]
    exact ⟨by rw [f_min, if_pos hc1_1], N0, rfl⟩
  · refine own_fw (A := s₁.setTop (mkF m 5 #[.val (.int p0), .val (.int p1)] [])) (fun t k => ?_) ?_
    · refine ox_icmpNo X0.here hx (hb hby d1_2) rfl (flt hc1_1).2.2.1 ?_
      exact k
    refine own_fw (A := s₁.setTop (mkF m 10 #[.val (.int p0), .val (.int p1)] [(.int p0)])) (fun t k => ?_) ?_
    · refine ox_iloadN X0.here hx (hb hby d1_5) rfl ?_
      refine ox_goto X0.here hx (pc0 := 6) (pc' := 10) rfl (hb hby d1_6) (by decide) (by decide) ?_
      exact k
    obtain ⟨fs, hr, hrun, hended, hW, hsame⟩ := X0.leave (v := some (.int p0)) (own_ret Bd.returns) (BodyLoose.notSynchronized Bd)
    refine ⟨_, _, retI X0 hx Bd.returns (hb hby d1_10) hr, hrun, hended, _, _, rfl, ?_, ⟨_, rfl⟩, hW, hsame.mono (by decide) (by decide)⟩
    have eh : (s₁.setFrames fs).heap = h0 := e0
    rw [eh]
    exact ⟨by rw [f_min, if_neg hc1_1], N0, rfl⟩
def f_max (p0 p1 : Int32) : Int32 := (if p0 < p1 then p1 else p0)
def Q19 (Z : State) (z : Int32) (h0 : Heap) (n0 : Nat) (w : Option Value) (h : Heap) (L : List Loc) : Prop := w = some (.int z) ∧ Fr n0 L ∧ h = h0
theorem d19_0 : decode jdk_29_method_65_code 0 = .ok (.iload_n 0, 1) := by decide +kernel
theorem d19_1 : decode jdk_29_method_65_code 1 = .ok (.iload_n 1, 1) := by decide +kernel
theorem d19_2 : decode jdk_29_method_65_code 2 = .ok (.if_icmp .lt 7, 3) := by decide +kernel
theorem d19_5 : decode jdk_29_method_65_code 5 = .ok (.iload_n 0, 1) := by decide +kernel
theorem d19_6 : decode jdk_29_method_65_code 6 = .ok (.goto 4, 3) := by decide +kernel
theorem d19_9 : decode jdk_29_method_65_code 9 = .ok (.iload_n 1, 1) := by decide +kernel
theorem d19_10 : decode jdk_29_method_65_code 10 = .ok (.ireturn, 1) := by decide +kernel
theorem ef19 (m : MethodId) (p0 : Int32) (p1 : Int32) : entryFrame m #[(.int p0), (.int p1)] 2 = mkF m 0 #[.val (.int p0), .val (.int p1)] [] := by first | (simp [entryFrame, mkF, argsToLocals, Value.category]; done) | rfl
set_option maxRecDepth 65536 in
set_option maxHeartbeats 40000000 in
theorem rm19 (l : Launch) (Z : State) (a0 : Array Value) (hw : ∀ d ∈ tables_1, d.before a0 Z = true) (ws : List Jvm.Cond) (p0 : Int32) (p1 : Int32) (h0 : Heap) (n0 : Nat) (Z0 : n0 ≤ h0.size) :
    MetFree l mN6 (head1 (Jvm.Cond.code mN6 jdk_29_method_65_code 2 (some .int) :: ws) ({ frames := 0, cells := 0, slots := 0, locals := 0 } : Room)) (fun a U => a = #[(.int p0), (.int p1)] ∧ Z.Warmed39 U.vm ∧ U.heap = h0) (fun _ _ _ _ _ => True) (fun _ U o U' => ∃ v L, o = .returned v ∧ Q19 Z (f_max p0 p1) h0 n0 v U'.heap L ∧ FrameEnd U o U' L ({ frames := 0, cells := 0, slots := 0, locals := 0 } : Room).cells ({ frames := 0, cells := 0, slots := 0, locals := 0 } : Room).slots) := by
  refine MetFree.of_bodySF (Jvm.Free.JP.mathPlain rfl (by decide +kernel)) hisR ?_
  intro p e s m args below meth c s₁ Bd hml0 hP hK
  obtain ⟨rfl, hZ, hh⟩ := hP
  have hx := Bd.exec
  have hby := Bd.bytes
  have hml : c.maxLocals = 2 := hml0
  have hown : s.vm.findClass "java/lang/Math" = some m.cls := findClass_of_methodNamed Bd.named
  have hnm := (name_of_methodNamed Bd.named Bd.method).1
  have X0 : Stand p l e ({ frames := 0, cells := 0, slots := 0, locals := 0 } : Room) s m #[(.int p0), (.int p1)] below meth c s₁ [] 0 0 := Stand.of_body Bd
  have e0 : s₁.heap = h0 := by rw [← hh, Bd.state]; rfl
  have N0 := Fr.nil n0
  refine own_fw (A := s₁.setTop (mkF m 0 #[.val (.int p0), .val (.int p1)] [])) (fun t k => castTop (ef19 m p0 p1) k) ?_
  refine own_fw (A := s₁.setTop (mkF m 2 #[.val (.int p0), .val (.int p1)] [(.int p1), (.int p0)])) (fun t k => ?_) ?_
  · refine ox_iloadN X0.here hx (hb hby d19_0) rfl ?_
    refine ox_iloadN X0.here hx (hb hby d19_1) rfl ?_
    exact k
  by_cases hc19_1 : p0 < p1
  · refine own_fw (A := s₁.setTop (mkF m 9 #[.val (.int p0), .val (.int p1)] [])) (fun t k => ?_) ?_
    · refine ox_icmpYes X0.here hx (pc0 := 2) (pc' := 9) rfl (hb hby d19_2) rfl (tlt hc19_1).1 (by decide) (by decide) ?_
      exact k
    refine own_fw (A := s₁.setTop (mkF m 10 #[.val (.int p0), .val (.int p1)] [(.int p1)])) (fun t k => ?_) ?_
    · refine ox_iloadN X0.here hx (hb hby d19_9) rfl ?_
      exact k
    obtain ⟨fs, hr, hrun, hended, hW, hsame⟩ := X0.leave (v := some (.int p1)) (own_ret Bd.returns) (BodyLoose.notSynchronized Bd)
    refine ⟨_, _, retI X0 hx Bd.returns (hb hby d19_10) hr, hrun, hended, _, _, rfl, ?_, ⟨_, rfl⟩, hW, hsame.mono (by decide) (by decide)⟩
    have eh : (s₁.setFrames fs).heap = h0 := e0
    rw [eh]
    exact ⟨by rw [f_max, if_pos hc19_1], N0, rfl⟩
  · refine own_fw (A := s₁.setTop (mkF m 5 #[.val (.int p0), .val (.int p1)] [])) (fun t k => ?_) ?_
    · refine ox_icmpNo X0.here hx (hb hby d19_2) rfl (flt hc19_1).1 ?_
      exact k
    refine own_fw (A := s₁.setTop (mkF m 10 #[.val (.int p0), .val (.int p1)] [(.int p0)])) (fun t k => ?_) ?_
    · refine ox_iloadN X0.here hx (hb hby d19_5) rfl ?_
      refine ox_goto X0.here hx (pc0 := 6) (pc' := 10) rfl (hb hby d19_6) (by decide) (by decide) ?_
      exact k
    obtain ⟨fs, hr, hrun, hended, hW, hsame⟩ := X0.leave (v := some (.int p0)) (own_ret Bd.returns) (BodyLoose.notSynchronized Bd)
    refine ⟨_, _, retI X0 hx Bd.returns (hb hby d19_10) hr, hrun, hended, _, _, rfl, ?_, ⟨_, rfl⟩, hW, hsame.mono (by decide) (by decide)⟩
    have eh : (s₁.setFrames fs).heap = h0 := e0
    rw [eh]
    exact ⟨by rw [f_max, if_neg hc19_1], N0, rfl⟩
set_option maxRecDepth 65536 in
set_option maxHeartbeats 40000000 in
theorem rmMax10 (l : Launch) (Z : State) (a0 : Array Value) (hw : ∀ d ∈ tables_1, d.before a0 Z = true) (ws : List Jvm.Cond)  (h0 : Heap) (n0 : Nat) (Z0 : n0 ≤ h0.size) :
    MetFree l mN6 (head1 (Jvm.Cond.code mN6 jdk_29_method_65_code 2 (some .int) :: ws) ({ frames := 0, cells := 0, slots := 0, locals := 0 } : Room)) (fun a U => a = #[(.int (10 : Int32)), (.int (1 : Int32))] ∧ Z.Warmed39 U.vm ∧ U.heap = h0) (fun _ _ _ _ _ => True) (fun _ U o U' => ∃ v L, o = .returned v ∧ Q19 Z (10 : Int32) h0 n0 v U'.heap L ∧ FrameEnd U o U' L ({ frames := 0, cells := 0, slots := 0, locals := 0 } : Room).cells ({ frames := 0, cells := 0, slots := 0, locals := 0 } : Room).slots) := by
  refine MetFree.of_bodySF (Jvm.Free.JP.mathPlain rfl (by decide +kernel)) hisR ?_
  intro p e s m args below meth c s₁ Bd hml0 hP hK
  obtain ⟨rfl, hZ, hh⟩ := hP
  have hx := Bd.exec
  have hby := Bd.bytes
  have hml : c.maxLocals = 2 := hml0
  have hown : s.vm.findClass "java/lang/Math" = some m.cls := findClass_of_methodNamed Bd.named
  have hnm := (name_of_methodNamed Bd.named Bd.method).1
  have X0 : Stand p l e ({ frames := 0, cells := 0, slots := 0, locals := 0 } : Room) s m #[(.int (10 : Int32)), (.int (1 : Int32))] below meth c s₁ [] 0 0 := Stand.of_body Bd
  have e0 : s₁.heap = h0 := by rw [← hh, Bd.state]; rfl
  have N0 := Fr.nil n0
  refine own_fw (A := s₁.setTop (mkF m 0 #[.val (.int (10 : Int32)), .val (.int (1 : Int32))] [])) (fun t k => castTop (ef19 m (10 : Int32) (1 : Int32)) k) ?_
  refine own_fw (A := s₁.setTop (mkF m 10 #[.val (.int (10 : Int32)), .val (.int (1 : Int32))] [(.int (10 : Int32))])) (fun t k => ?_) ?_
  · refine ox_iloadN X0.here hx (hb hby d19_0) rfl ?_
    refine ox_iloadN X0.here hx (hb hby d19_1) rfl ?_
    refine ox_icmpNo X0.here hx (hb hby d19_2) rfl (flt (by decide : ¬ ((10 : Int32) < (1 : Int32)))).1 ?_
    refine ox_iloadN X0.here hx (hb hby d19_5) rfl ?_
    refine ox_goto X0.here hx (pc0 := 6) (pc' := 10) rfl (hb hby d19_6) (by decide) (by decide) ?_
    exact k
  obtain ⟨fs, hr, hrun, hended, hW, hsame⟩ := X0.leave (v := some (.int (10 : Int32))) (own_ret Bd.returns) (BodyLoose.notSynchronized Bd)
  refine ⟨_, _, retI X0 hx Bd.returns (hb hby d19_10) hr, hrun, hended, _, _, rfl, ?_, ⟨_, rfl⟩, hW, hsame.mono (by decide) (by decide)⟩
  have eh : (s₁.setFrames fs).heap = h0 := e0
  rw [eh]
  exact ⟨rfl, N0, rfl⟩
theorem d14_0 : decode jdk_22_method_1_code 0 = .ok (.aload_n 0, 1) := by decide +kernel
theorem d14_1 : decode jdk_22_method_1_code 1 = .ok (.invokespecial 1, 3) := by decide +kernel
theorem d14_4 : decode jdk_22_method_1_code 4 = .ok (.return_, 1) := by decide +kernel
theorem pn14 : plainName "java/util/AbstractCollection" = true := by first | (simp [plainName, overriddenIn]; done) | decide +kernel
theorem ef14 (m : MethodId) (r0 : Addr) : entryFrame m #[(.ref r0)] 1 = mkF m 0 #[.val (.ref r0)] [] := by first | (simp [entryFrame, mkF, argsToLocals, Value.category]; done) | rfl
def Q14 (Z : State)  (h0 : Heap) (n0 : Nat) (w : Option Value) (h : Heap) (L : List Loc) : Prop := w = none ∧ Fr n0 L ∧ h = h0
set_option maxRecDepth 65536 in
set_option maxHeartbeats 40000000 in
theorem rm14 (l : Launch) (Z : State) (a0 : Array Value) (hw : ∀ d ∈ tables_1, d.before a0 Z = true) (ws : List Jvm.Cond) (r0 : Addr) (h0 : Heap) (n0 : Nat) (Z0 : n0 ≤ h0.size) :
    MetFree l mN18 (head1 (Jvm.Cond.code mN18 jdk_22_method_1_code 1 none :: ws) ({ frames := 1, cells := 0, slots := 0, locals := 12 } : Room)) (fun a U => a = #[(.ref r0)] ∧ Z.Warmed39 U.vm ∧ U.heap = h0) (fun _ _ _ _ _ => True) (fun _ U o U' => ∃ v L, o = .returned v ∧ Q14 Z  h0 n0 v U'.heap L ∧ FrameEnd U o U' L ({ frames := 1, cells := 0, slots := 0, locals := 12 } : Room).cells ({ frames := 1, cells := 0, slots := 0, locals := 12 } : Room).slots) := by
  refine MetFree.of_bodySF (plainFor_of_name pn14) hisR ?_
  intro p e s m args below meth c s₁ Bd hml0 hP hK
  obtain ⟨rfl, hZ, hh⟩ := hP
  have hx := Bd.exec
  have hby := Bd.bytes
  have hml : c.maxLocals = 1 := hml0
  have hown : s.vm.findClass "java/util/AbstractCollection" = some m.cls := findClass_of_methodNamed Bd.named
  have hnm := (name_of_methodNamed Bd.named Bd.method).1
  have X0 : Stand p l e ({ frames := 1, cells := 0, slots := 0, locals := 12 } : Room) s m #[(.ref r0)] below meth c s₁ [] 0 0 := Stand.of_body Bd
  have e0 : s₁.heap = h0 := by rw [← hh, Bd.state]; rfl
  have N0 := Fr.nil n0
  refine own_fw (A := s₁.setTop (mkF m 0 #[.val (.ref r0)] [])) (fun t k => castTop (ef14 m r0) k) ?_
  refine own_fw (A := s₁.setTop (mkF m 1 #[.val (.ref r0)] [(.ref r0)])) (fun t k => ?_) ?_
  · refine ox_aloadN X0.here hx (hb hby d14_0) rfl rfl ?_
    exact k
  obtain ⟨T14_1, X14_1, e14_1, st14_1⟩ := initO X0 hx hZ hown (own_w hw 89 rfl) (own_w hw 12 rfl) (own_w hw 13 rfl) e0 (g := (mkF m 1 #[.val (.ref r0)] [(.ref r0)])) rfl (by rw [hml]; rfl) rfl (hb hby d14_1) (by decide) (W := 0) (own_mr rfl) (by decide)
  refine own_fw st14_1 ?_
  obtain ⟨fs, hr, hrun, hended, hW, hsame⟩ := X14_1.leave (v := none) (fun _ => rfl) (BodyLoose.notSynchronized Bd)
  refine ⟨_, _, X14_1.returnOut hx Bd.returns (hb hby d14_4) hr, hrun, hended, _, _, rfl, ?_, ⟨_, rfl⟩, hW, hsame.mono (by decide) (by decide)⟩
  have eh : (T14_1.setFrames fs).heap = h0 := e14_1
  rw [eh]
  exact ⟨rfl, N0, rfl⟩
theorem d13_0 : decode jdk_39_method_1_code 0 = .ok (.aload_n 0, 1) := by decide +kernel
theorem d13_1 : decode jdk_39_method_1_code 1 = .ok (.invokespecial 1, 3) := by decide +kernel
theorem d13_4 : decode jdk_39_method_1_code 4 = .ok (.aload_n 0, 1) := by decide +kernel
theorem d13_5 : decode jdk_39_method_1_code 5 = .ok (.iconst 0, 1) := by decide +kernel
theorem d13_6 : decode jdk_39_method_1_code 6 = .ok (.putfield 7, 3) := by decide +kernel
theorem d13_9 : decode jdk_39_method_1_code 9 = .ok (.return_, 1) := by decide +kernel
theorem pn13 : plainName "java/util/AbstractList" = true := by first | (simp [plainName, overriddenIn]; done) | decide +kernel
theorem pd13_0 : parseMethodDescriptor "()V" = some ⟨[], none⟩ := by decide +kernel
theorem ef13 (m : MethodId) (r0 : Addr) : entryFrame m #[(.ref r0)] 1 = mkF m 0 #[.val (.ref r0)] [] := by first | (simp [entryFrame, mkF, argsToLocals, Value.category]; done) | rfl
def Q13 (Z : State) (r0 : Addr) (h0 : Heap) (n0 : Nat) (w : Option Value) (h : Heap) (L : List Loc) : Prop := w = none ∧ Fr n0 L ∧ Keep h0 h [r0] ∧ Exa Z h r0 "java/util/ArrayList" ∧ Fld Z h r0 "java/util/ArrayList" "elementData" "[Ljava/lang/Object;" .null ∧ Fld Z h r0 "java/util/ArrayList" "size" "I" (.int (0 : Int32)) ∧ Fld Z h r0 "java/util/AbstractList" "modCount" "I" (.int (0 : Int32))
set_option maxRecDepth 65536 in
set_option maxHeartbeats 40000000 in
theorem rm13 (l : Launch) (Z : State) (a0 : Array Value) (hw : ∀ d ∈ tables_1, d.before a0 Z = true) (ws : List Jvm.Cond) (r0 : Addr) (h0 : Heap) (n0 : Nat) (Z0 : n0 ≤ h0.size) (E_r0 : Exa Z h0 r0 "java/util/ArrayList") (F_e : Fld Z h0 r0 "java/util/ArrayList" "elementData" "[Ljava/lang/Object;" .null) (F_s : Fld Z h0 r0 "java/util/ArrayList" "size" "I" (.int (0 : Int32))) (F_m : Fld Z h0 r0 "java/util/AbstractList" "modCount" "I" (.int (0 : Int32))) (g_r0 : n0 ≤ r0) :
    MetFree l mN19 (head1 (Jvm.Cond.code mN19 jdk_39_method_1_code 1 none :: ws) ({ frames := 2, cells := 0, slots := 0, locals := 24 } : Room)) (fun a U => a = #[(.ref r0)] ∧ Z.Warmed39 U.vm ∧ U.heap = h0) (fun _ _ _ _ _ => True) (fun _ U o U' => ∃ v L, o = .returned v ∧ Q13 Z r0 h0 n0 v U'.heap L ∧ FrameEnd U o U' L ({ frames := 2, cells := 0, slots := 0, locals := 24 } : Room).cells ({ frames := 2, cells := 0, slots := 0, locals := 24 } : Room).slots) := by
  refine MetFree.of_bodySF (plainFor_of_name pn13) hisR ?_
  intro p e s m args below meth c s₁ Bd hml0 hP hK
  obtain ⟨rfl, hZ, hh⟩ := hP
  have hx := Bd.exec
  have hby := Bd.bytes
  have hml : c.maxLocals = 1 := hml0
  have hown : s.vm.findClass "java/util/AbstractList" = some m.cls := findClass_of_methodNamed Bd.named
  have hnm := (name_of_methodNamed Bd.named Bd.method).1
  have X0 : Stand p l e ({ frames := 2, cells := 0, slots := 0, locals := 24 } : Room) s m #[(.ref r0)] below meth c s₁ [] 0 0 := Stand.of_body Bd
  have e0 : s₁.heap = h0 := by rw [← hh, Bd.state]; rfl
  have N0 := Fr.nil n0
  refine own_fw (A := s₁.setTop (mkF m 0 #[.val (.ref r0)] [])) (fun t k => castTop (ef13 m r0) k) ?_
  refine own_fw (A := s₁.setTop (mkF m 1 #[.val (.ref r0)] [(.ref r0)])) (fun t k => ?_) ?_
  · refine ox_aloadN X0.here hx (hb hby d13_0) rfl rfl ?_
    exact k
  obtain ⟨_, _, ⟨T13_1, L13_1, k13_1, n13_1⟩, -, X13_1, ⟨Lc13_1, hQ13_1, l13_1, y13_1, z13_1⟩, st13_1⟩ := X0.specialBack hx (y := mN18) rfl hown (mvT hZ (own_w hw 83 rfl)) (mvT hZ (own_w hw 84 rfl)) (mvT hZ (own_w hw 88 rfl)) (by decide) (backOf (W := 0) (rm14 l Z a0 hw [] r0 h0 n0 Z0 ) hZ (own_w hw 88 rfl) (own_w hw 87 rfl) (by decide) (by decide)) (g := (mkF m 1 #[.val (.ref r0)] [(.ref r0)])) rfl (by rw [hml]; rfl) (Steps.refl _) (a := r0) (argsL := []) (rest := []) (lenOf pd13_0 rfl) rfl (own_mr rfl) (hb hby d13_1) (fun _ _ => ⟨rfl, e0, (by decide : 0 + 0 ≤ _), (by decide : 0 + 0 ≤ _)⟩)
  dsimp only [Pt.U, Pt.locs, Pt.cells, Pt.slots] at X13_1 l13_1 y13_1 z13_1 st13_1 hQ13_1
  subst l13_1 y13_1 z13_1
  obtain ⟨rfl, N13_1q, e13_1⟩ := hQ13_1
  have N13_1 := Fr.app N0 N13_1q
  refine own_fw (fun t k => st13_1.trans k) ?_
  refine own_fw (A := T13_1.setTop (mkF m 6 #[.val (.ref r0)] [(.int (0 : Int32)), (.ref r0)])) (fun t k => ?_) ?_
  · refine ox_aloadN X13_1.here hx (hb hby d13_4) rfl rfl ?_
    refine ox_iconst X13_1.here hx (hb hby d13_5) ?_
    exact k
  obtain ⟨T13_2, h13_2, X13_2, e13_2, W13_2, st13_2⟩ := putF X13_1 hx hZ hown (host := "") (Or.inl (own_w hw 90 rfl)) Via.refl e13_1 F_m E_r0 (Or.inl (own_w hw 91 rfl)) (own_w hw 72 rfl) (ty := .int) (by decide) rfl rfl (g := (mkF m 6 #[.val (.ref r0)] [(.int (0 : Int32)), (.ref r0)])) rfl rfl (hb hby d13_6)
  have Fw13_2 := F_m.same W13_2
  have N13_2 := Fr.snoc X13_2 N13_1 g_r0
  refine own_fw st13_2 ?_
  obtain ⟨fs, hr, hrun, hended, hW, hsame⟩ := X13_2.leave (v := none) (fun _ => rfl) (BodyLoose.notSynchronized Bd)
  refine ⟨_, _, X13_2.returnOut hx Bd.returns (hb hby d13_9) hr, hrun, hended, _, _, rfl, ?_, ⟨_, rfl⟩, hW, hsame.mono (by decide) (by decide)⟩
  have eh : (T13_2.setFrames fs).heap = h13_2 := e13_2
  rw [eh]
  exact ⟨rfl, N13_2, ((Keep.refl h0 [r0]).wr W13_2 (Or.inl (List.mem_of_getElem? (i := 0) rfl))), (E_r0.wr W13_2), (F_e.other W13_2 (Or.inr (slot_ne (Or.inl (own_w hw 94 rfl)) (Or.inl (own_w hw 91 rfl)) (by decide) (t := (.array (.object "java/lang/Object"))) (t' := .int) (by decide) (by decide)))), (F_s.other W13_2 (Or.inr (slot_ne (Or.inl (own_w hw 103 rfl)) (Or.inl (own_w hw 91 rfl)) (by decide) (t := .int) (t' := .int) (by decide) (by decide)))), Fw13_2⟩
theorem d12_0 : decode jdk_38_method_2_code 0 = .ok (.aload_n 0, 1) := by decide +kernel
theorem d12_1 : decode jdk_38_method_2_code 1 = .ok (.invokespecial 1, 3) := by decide +kernel
theorem d12_4 : decode jdk_38_method_2_code 4 = .ok (.aload_n 0, 1) := by decide +kernel
theorem d12_5 : decode jdk_38_method_2_code 5 = .ok (.getstatic 39, 3) := by decide +kernel
theorem d12_8 : decode jdk_38_method_2_code 8 = .ok (.putfield 9, 3) := by decide +kernel
theorem d12_11 : decode jdk_38_method_2_code 11 = .ok (.return_, 1) := by decide +kernel
theorem pn12 : plainName "java/util/ArrayList" = true := by first | (simp [plainName, overriddenIn]; done) | decide +kernel
theorem pd12_0 : parseMethodDescriptor "()V" = some ⟨[], none⟩ := by decide +kernel
theorem ef12 (m : MethodId) (r0 : Addr) : entryFrame m #[(.ref r0)] 1 = mkF m 0 #[.val (.ref r0)] [] := by first | (simp [entryFrame, mkF, argsToLocals, Value.category]; done) | rfl
def Q12 (Z : State) (r0 d0 : Addr) (h0 : Heap) (n0 : Nat) (w : Option Value) (h : Heap) (L : List Loc) : Prop := w = none ∧ Fr n0 L ∧ Keep h0 h [r0] ∧ Exa Z h r0 "java/util/ArrayList" ∧ Fld Z h r0 "java/util/ArrayList" "elementData" "[Ljava/lang/Object;" (.ref d0) ∧ Fld Z h r0 "java/util/ArrayList" "size" "I" (.int (0 : Int32)) ∧ Fld Z h r0 "java/util/AbstractList" "modCount" "I" (.int (0 : Int32))
set_option maxRecDepth 65536 in
set_option maxHeartbeats 40000000 in
theorem rm12 (l : Launch) (Z : State) (a0 : Array Value) (hw : ∀ d ∈ tables_1, d.before a0 Z = true) (ws : List Jvm.Cond) (r0 : Addr) (d0 : Addr) (k0 : ClassId) (h0 : Heap) (n0 : Nat) (Z0 : n0 ≤ h0.size) (E_r0 : Exa Z h0 r0 "java/util/ArrayList") (F_e : Fld Z h0 r0 "java/util/ArrayList" "elementData" "[Ljava/lang/Object;" .null) (F_s : Fld Z h0 r0 "java/util/ArrayList" "size" "I" (.int (0 : Int32))) (F_m : Fld Z h0 r0 "java/util/AbstractList" "modCount" "I" (.int (0 : Int32))) (g_r0 : n0 ≤ r0) (O_0 : Old Z n0 h0) (S_d : Sta Z Z.heap "java/util/ArrayList" "DEFAULTCAPACITY_EMPTY_ELEMENTDATA" "[Ljava/lang/Object;" (.ref d0)) (V_d : Arv Z Z.heap d0 k0 (.object "java/lang/Object") 0 [] .null) :
    MetFree l mN14 (head1 (Jvm.Cond.code mN14 jdk_38_method_2_code 1 none :: ws) ({ frames := 3, cells := 0, slots := 0, locals := 36 } : Room)) (fun a U => a = #[(.ref r0)] ∧ Z.Warmed39 U.vm ∧ U.heap = h0) (fun _ _ _ _ _ => True) (fun _ U o U' => ∃ v L, o = .returned v ∧ Q12 Z r0 d0 h0 n0 v U'.heap L ∧ FrameEnd U o U' L ({ frames := 3, cells := 0, slots := 0, locals := 36 } : Room).cells ({ frames := 3, cells := 0, slots := 0, locals := 36 } : Room).slots) := by
  refine MetFree.of_bodySF (plainFor_of_name pn12) hisR ?_
  intro p e s m args below meth c s₁ Bd hml0 hP hK
  obtain ⟨rfl, hZ, hh⟩ := hP
  have hx := Bd.exec
  have hby := Bd.bytes
  have hml : c.maxLocals = 1 := hml0
  have hown : s.vm.findClass "java/util/ArrayList" = some m.cls := findClass_of_methodNamed Bd.named
  have hnm := (name_of_methodNamed Bd.named Bd.method).1
  have X0 : Stand p l e ({ frames := 3, cells := 0, slots := 0, locals := 36 } : Room) s m #[(.ref r0)] below meth c s₁ [] 0 0 := Stand.of_body Bd
  have e0 : s₁.heap = h0 := by rw [← hh, Bd.state]; rfl
  have N0 := Fr.nil n0
  refine own_fw (A := s₁.setTop (mkF m 0 #[.val (.ref r0)] [])) (fun t k => castTop (ef12 m r0) k) ?_
  refine own_fw (A := s₁.setTop (mkF m 1 #[.val (.ref r0)] [(.ref r0)])) (fun t k => ?_) ?_
  · refine ox_aloadN X0.here hx (hb hby d12_0) rfl rfl ?_
    exact k
  obtain ⟨_, _, ⟨T12_1, L12_1, k12_1, n12_1⟩, -, X12_1, ⟨Lc12_1, hQ12_1, l12_1, y12_1, z12_1⟩, st12_1⟩ := X0.specialBack hx (y := mN19) rfl hown (mvT hZ (own_w hw 77 rfl)) (mvT hZ (own_w hw 78 rfl)) (mvT hZ (own_w hw 82 rfl)) (by decide) (backOf (W := 0) (rm13 l Z a0 hw [] r0 h0 n0 Z0 E_r0 F_e F_s F_m g_r0) hZ (own_w hw 82 rfl) (own_w hw 81 rfl) (by decide) (by decide)) (g := (mkF m 1 #[.val (.ref r0)] [(.ref r0)])) rfl (by rw [hml]; rfl) (Steps.refl _) (a := r0) (argsL := []) (rest := []) (lenOf pd12_0 rfl) rfl (own_mr rfl) (hb hby d12_1) (fun _ _ => ⟨rfl, e0, (by decide : 0 + 0 ≤ _), (by decide : 0 + 0 ≤ _)⟩)
  dsimp only [Pt.U, Pt.locs, Pt.cells, Pt.slots] at X12_1 l12_1 y12_1 z12_1 st12_1 hQ12_1
  subst l12_1 y12_1 z12_1
  obtain ⟨rfl, N12_1q, K12_1, Ex12_1, Fe12_1, Fs12_1, Fm12_1⟩ := hQ12_1
  have N12_1 := Fr.app N0 N12_1q
  refine own_fw (fun t k => st12_1.trans k) ?_
  refine own_fw (A := T12_1.setTop (mkF m 5 #[.val (.ref r0)] [(.ref r0)])) (fun t k => ?_) ?_
  · refine ox_aloadN X12_1.here hx (hb hby d12_4) rfl rfl ?_
    exact k
  obtain ⟨T12_2, X12_2, e12_2, st12_2⟩ := getS2 X12_1 hx hZ hown (host := "") (Or.inl (own_w hw 92 rfl)) Via.refl rfl (S_d.ext (O_0.keep K12_1 (allS g_r0 all0)).2) (g := (mkF m 5 #[.val (.ref r0)] [(.ref r0)])) rfl (hb hby d12_5)
  refine own_fw st12_2 ?_
  obtain ⟨T12_3, h12_3, X12_3, e12_3, W12_3, st12_3⟩ := putF X12_2 hx hZ hown (host := "") (Or.inl (own_w hw 93 rfl)) Via.refl e12_2 Fe12_1 Ex12_1 (Or.inl (own_w hw 94 rfl)) (own_w hw 72 rfl) (ty := (.array (.object "java/lang/Object"))) (by decide) rfl rfl (g := (mkF m 8 #[.val (.ref r0)] [(.ref d0), (.ref r0)])) rfl rfl (hb hby d12_8)
  have Fw12_3 := Fe12_1.same W12_3
  have N12_3 := Fr.snoc X12_3 N12_1 g_r0
  refine own_fw st12_3 ?_
  obtain ⟨fs, hr, hrun, hended, hW, hsame⟩ := X12_3.leave (v := none) (fun _ => rfl) (BodyLoose.notSynchronized Bd)
  refine ⟨_, _, X12_3.returnOut hx Bd.returns (hb hby d12_11) hr, hrun, hended, _, _, rfl, ?_, ⟨_, rfl⟩, hW, hsame.mono (by decide) (by decide)⟩
  have eh : (T12_3.setFrames fs).heap = h12_3 := e12_3
  rw [eh]
  exact ⟨rfl, N12_3, (((Keep.refl h0 [r0]).trans K12_1 (allS (Or.inl (List.mem_of_getElem? (i := 0) rfl)) all0)).wr W12_3 (Or.inl (List.mem_of_getElem? (i := 0) rfl))), (Ex12_1.wr W12_3), Fw12_3, (Fs12_1.other W12_3 (Or.inr (slot_ne (Or.inl (own_w hw 103 rfl)) (Or.inl (own_w hw 94 rfl)) (by decide) (t := .int) (t' := (.array (.object "java/lang/Object"))) (by decide) (by decide)))), (Fm12_1.other W12_3 (Or.inr (slot_ne (Or.inl (own_w hw 91 rfl)) (Or.inl (own_w hw 94 rfl)) (by decide) (t := .int) (t' := (.array (.object "java/lang/Object"))) (by decide) (by decide))))⟩
theorem d18_0 : decode jdk_38_method_6_code 0 = .ok (.aload_n 0, 1) := by decide +kernel
theorem d18_1 : decode jdk_38_method_6_code 1 = .ok (.getfield 9, 3) := by decide +kernel
theorem d18_4 : decode jdk_38_method_6_code 4 = .ok (.arraylength, 1) := by decide +kernel
theorem d18_5 : decode jdk_38_method_6_code 5 = .ok (.istore_n 2, 1) := by decide +kernel
theorem d18_6 : decode jdk_38_method_6_code 6 = .ok (.iload_n 2, 1) := by decide +kernel
theorem d18_7 : decode jdk_38_method_6_code 7 = .ok (.ifCond .gt 13, 3) := by decide +kernel
theorem d18_10 : decode jdk_38_method_6_code 10 = .ok (.aload_n 0, 1) := by decide +kernel
theorem d18_11 : decode jdk_38_method_6_code 11 = .ok (.getfield 9, 3) := by decide +kernel
theorem d18_14 : decode jdk_38_method_6_code 14 = .ok (.getstatic 39, 3) := by decide +kernel
theorem d18_17 : decode jdk_38_method_6_code 17 = .ok (.if_acmp .eq 28, 3) := by decide +kernel
theorem d18_45 : decode jdk_38_method_6_code 45 = .ok (.aload_n 0, 1) := by decide +kernel
theorem d18_46 : decode jdk_38_method_6_code 46 = .ok (.bipush 10, 2) := by decide +kernel
theorem d18_48 : decode jdk_38_method_6_code 48 = .ok (.iload_n 1, 1) := by decide +kernel
theorem d18_49 : decode jdk_38_method_6_code 49 = .ok (.invokestatic 79, 3) := by decide +kernel
theorem d18_52 : decode jdk_38_method_6_code 52 = .ok (.anewarray 7, 3) := by decide +kernel
theorem d18_55 : decode jdk_38_method_6_code 55 = .ok (.dup_x1, 1) := by decide +kernel
theorem d18_56 : decode jdk_38_method_6_code 56 = .ok (.putfield 9, 3) := by decide +kernel
theorem d18_59 : decode jdk_38_method_6_code 59 = .ok (.areturn, 1) := by decide +kernel
theorem pn18 : plainName "java/util/ArrayList" = true := by first | (simp [plainName, overriddenIn]; done) | decide +kernel
theorem pd18_0 : parseMethodDescriptor "(II)I" = some ⟨[.int, .int], some .int⟩ := by decide +kernel
theorem ef18 (m : MethodId) (r0 : Addr) (p1 : Int32) : entryFrame m #[(.ref r0), (.int p1)] 4 = mkF m 0 #[.val (.ref r0), .val (.int p1), .unset, .unset] [] := by first | (simp [entryFrame, mkF, argsToLocals, Value.category]; done) | rfl
def Q18 (Z : State) (r0 : Addr) (h0 : Heap) (n0 : Nat) (w : Option Value) (h : Heap) (L : List Loc) : Prop := ∃ b kb, w = some (.ref b) ∧ Fr n0 L ∧ Keep h0 h [r0] ∧ Exa Z h r0 "java/util/ArrayList" ∧ Fld Z h r0 "java/util/ArrayList" "elementData" "[Ljava/lang/Object;" (.ref b) ∧ Fld Z h r0 "java/util/ArrayList" "size" "I" (.int (0 : Int32)) ∧ Fld Z h r0 "java/util/AbstractList" "modCount" "I" (.int (1 : Int32)) ∧ Arv Z h b kb (.object "java/lang/Object") 10 [.null, .null, .null, .null, .null, .null, .null, .null, .null, .null] .null ∧ Ovr Z kb "java/lang/Object" ∧ h0.size ≤ b
set_option maxRecDepth 65536 in
set_option maxHeartbeats 40000000 in
theorem rm18 (l : Launch) (Z : State) (a0 : Array Value) (hw : ∀ d ∈ tables_1, d.before a0 Z = true) (ws : List Jvm.Cond) (r0 : Addr) (d0 : Addr) (k0 : ClassId) (h0 : Heap) (n0 : Nat) (Z0 : n0 ≤ h0.size) (E_r0 : Exa Z h0 r0 "java/util/ArrayList") (F_e : Fld Z h0 r0 "java/util/ArrayList" "elementData" "[Ljava/lang/Object;" (.ref d0)) (F_s : Fld Z h0 r0 "java/util/ArrayList" "size" "I" (.int (0 : Int32))) (F_m : Fld Z h0 r0 "java/util/AbstractList" "modCount" "I" (.int (1 : Int32))) (g_r0 : n0 ≤ r0) (O_0 : Old Z n0 h0) (S_d : Sta Z Z.heap "java/util/ArrayList" "DEFAULTCAPACITY_EMPTY_ELEMENTDATA" "[Ljava/lang/Object;" (.ref d0)) (V_d : Arv Z Z.heap d0 k0 (.object "java/lang/Object") 0 [] .null) :
    MetFree l mN20 (head1 (Jvm.Cond.code mN20 jdk_38_method_6_code 4 (some (.array (.object "java/lang/Object"))) :: ws) ({ frames := 1, cells := 1, slots := 10, locals := 14 } : Room)) (fun a U => a = #[(.ref r0), (.int (1 : Int32))] ∧ Z.Warmed39 U.vm ∧ U.heap = h0) (fun _ _ _ _ _ => True) (fun _ U o U' => ∃ v L, o = .returned v ∧ Q18 Z r0 h0 n0 v U'.heap L ∧ FrameEnd U o U' L ({ frames := 1, cells := 1, slots := 10, locals := 14 } : Room).cells ({ frames := 1, cells := 1, slots := 10, locals := 14 } : Room).slots) := by
  refine MetFree.of_bodySF (plainFor_of_name pn18) hisR ?_
  intro p e s m args below meth c s₁ Bd hml0 hP hK
  obtain ⟨rfl, hZ, hh⟩ := hP
  have hx := Bd.exec
  have hby := Bd.bytes
  have hml : c.maxLocals = 4 := hml0
  have hown : s.vm.findClass "java/util/ArrayList" = some m.cls := findClass_of_methodNamed Bd.named
  have hnm := (name_of_methodNamed Bd.named Bd.method).1
  have X0 : Stand p l e ({ frames := 1, cells := 1, slots := 10, locals := 14 } : Room) s m #[(.ref r0), (.int (1 : Int32))] below meth c s₁ [] 0 0 := Stand.of_body Bd
  have e0 : s₁.heap = h0 := by rw [← hh, Bd.state]; rfl
  have N0 := Fr.nil n0
  refine own_fw (A := s₁.setTop (mkF m 0 #[.val (.ref r0), .val (.int (1 : Int32)), .unset, .unset] [])) (fun t k => castTop (ef18 m r0 (1 : Int32)) k) ?_
  refine own_fw (A := s₁.setTop (mkF m 1 #[.val (.ref r0), .val (.int (1 : Int32)), .unset, .unset] [(.ref r0)])) (fun t k => ?_) ?_
  · refine ox_aloadN X0.here hx (hb hby d18_0) rfl rfl ?_
    exact k
  obtain ⟨T18_1, X18_1, e18_1, st18_1⟩ := getF X0 hx hZ hown (host := "") (Or.inl (own_w hw 93 rfl)) Via.refl e0 F_e (g := (mkF m 1 #[.val (.ref r0), .val (.int (1 : Int32)), .unset, .unset] [(.ref r0)])) rfl rfl (hb hby d18_1)
  refine own_fw st18_1 ?_
  obtain ⟨cl18_2, Ar18_2, q18_2, S18_2, Ng18_2, Hs18_2, G18_2⟩ := id (V_d.ext O_0.2)
  have st18_2 := X18_1.arraylength hx (by rw [e18_1]; exact Ar18_2.1) (State.isArrayOf_alike hZ.alike Ar18_2.2.1) (g := (mkF m 4 #[.val (.ref r0), .val (.int (1 : Int32)), .unset, .unset] [(.ref d0)])) rfl rfl (hb hby d18_4)
  rw [len_of S18_2 Ng18_2] at st18_2
  refine own_fw st18_2 ?_
  refine own_fw (A := T18_1.setTop (mkF m 11 #[.val (.ref r0), .val (.int (1 : Int32)), .val (.int (0 : Int32)), .unset] [(.ref r0)])) (fun t k => ?_) ?_
  · refine ox_istoreN X18_1.here hx (hb hby d18_5) rfl (l' := #[.val (.ref r0), .val (.int (1 : Int32)), .val (.int (0 : Int32)), .unset]) rfl ?_
    refine ox_iloadN X18_1.here hx (hb hby d18_6) rfl ?_
    refine ox_ifNo X18_1.here hx (hb hby d18_7) rfl ((if0 _ _).trans (flt (Int32.lt_irrefl : ¬ ((0 : Int32) < (0 : Int32)))).2.2.1) ?_
    refine ox_aloadN X18_1.here hx (hb hby d18_10) rfl rfl ?_
    exact k
  obtain ⟨T18_3, X18_3, e18_3, st18_3⟩ := getF X18_1 hx hZ hown (host := "") (Or.inl (own_w hw 93 rfl)) Via.refl e18_1 F_e (g := (mkF m 11 #[.val (.ref r0), .val (.int (1 : Int32)), .val (.int (0 : Int32)), .unset] [(.ref r0)])) rfl rfl (hb hby d18_11)
  refine own_fw st18_3 ?_
  obtain ⟨T18_4, X18_4, e18_4, st18_4⟩ := getS2 X18_3 hx hZ hown (host := "") (Or.inl (own_w hw 92 rfl)) Via.refl e18_3 (S_d.ext O_0.2) (g := (mkF m 14 #[.val (.ref r0), .val (.int (1 : Int32)), .val (.int (0 : Int32)), .unset] [(.ref d0)])) rfl (hb hby d18_14)
  refine own_fw st18_4 ?_
  refine own_fw (A := T18_4.setTop (mkF m 45 #[.val (.ref r0), .val (.int (1 : Int32)), .val (.int (0 : Int32)), .unset] [])) (fun t k => ?_) ?_
  · refine Jvm.RoadKit.acmp (g := (mkF m 17 #[.val (.ref r0), .val (.int (1 : Int32)), .val (.int (0 : Int32)), .unset] [(.ref d0), (.ref d0)])) X18_4 hx rfl rfl rfl (pc0 := 17) (pc' := 45) (same := true) rfl (hb hby d18_17) rfl (decide_eq_true rfl) (by decide) (by decide) ?_
    exact k
  refine own_fw (A := T18_4.setTop (mkF m 49 #[.val (.ref r0), .val (.int (1 : Int32)), .val (.int (0 : Int32)), .unset] [(.int (1 : Int32)), (.int (10 : Int32)), (.ref r0)])) (fun t k => ?_) ?_
  · refine ox_aloadN X18_4.here hx (hb hby d18_45) rfl rfl ?_
    refine ox_bipush X18_4.here hx (hb hby d18_46) ?_
    refine ox_iloadN X18_4.here hx (hb hby d18_48) rfl ?_
    exact k
  obtain ⟨_, _, ⟨T18_5, L18_5, k18_5, n18_5⟩, -, X18_5, ⟨Lc18_5, hQ18_5, l18_5, y18_5, z18_5⟩, st18_5⟩ := Jvm.LawKit.callS X18_4 hx (y := mN6) hown (mvT hZ (own_w hw 119 rfl)) (mvT hZ (own_w hw 120 rfl)) (mvT hZ (own_w hw 3 rfl)) (mvT hZ (own_w hw 121 rfl)) (by decide) (backOf (W := 1) (rmMax10 l Z a0 hw []  h0 n0 Z0 ) hZ (own_w hw 121 rfl) (own_w hw 3 rfl) (by decide) (by decide)) (g := (mkF m 49 #[.val (.ref r0), .val (.int (1 : Int32)), .val (.int (0 : Int32)), .unset] [(.int (1 : Int32)), (.int (10 : Int32)), (.ref r0)])) rfl (by rw [hml]; rfl) (argsL := [(.int (10 : Int32)), (.int (1 : Int32))]) (rest := [(.ref r0)]) (lenOf pd18_0 rfl) rfl (own_mr rfl) (hb hby d18_49) (fun _ _ => ⟨rfl, e18_4, (by decide : 0 + 0 ≤ _), (by decide : 0 + 0 ≤ _)⟩)
  dsimp only [Pt.U, Pt.locs, Pt.cells, Pt.slots] at X18_5 l18_5 y18_5 z18_5 st18_5 hQ18_5
  subst l18_5 y18_5 z18_5
  obtain ⟨rfl, N18_5q, e18_5⟩ := hQ18_5
  have N18_5 := Fr.app N0 N18_5q
  refine own_fw st18_5 ?_
  obtain ⟨T18_6, h18_6, k18_6, X18_6, e18_6, E18_6, A18_6, O18_6, st18_6⟩ := newR X18_5 hx hZ hown (own_w hw 122 rfl) (own_w hw 123 rfl) e18_5 (g := (mkF m 52 #[.val (.ref r0), .val (.int (1 : Int32)), .val (.int (0 : Int32)), .unset] [(.int (10 : Int32)), (.ref r0)])) rfl (hb hby d18_52) rfl (by decide) (cap := 10) (by decide) (by decide) (by decide) (by decide)
  obtain ⟨b18_6, g18_6⟩ : ∃ z, z = h0.size := ⟨_, rfl⟩
  rw [← g18_6] at A18_6 st18_6
  have ne_r0_b18_6 : r0 ≠ b18_6 := Nat.ne_of_lt (Nat.lt_of_lt_of_le E_r0.lt (Nat.le_of_eq g18_6.symm))
  have sz_b18_6 : h0.size ≤ b18_6 := Nat.le_trans (Keep.refl h0 [r0]).1 (Nat.le_of_eq g18_6.symm)
  have V_b18_6 : Arv Z h18_6 b18_6 k18_6 (.object "java/lang/Object") (10 : Int32) [.null, .null, .null, .null, .null, .null, .null, .null, .null, .null] .null := (Arv.new A18_6 (by decide)).pad (pad_rep [] .null 10)
  refine own_fw st18_6 ?_
  refine own_fw (A := T18_6.setTop (mkF m 56 #[.val (.ref r0), .val (.int (1 : Int32)), .val (.int (0 : Int32)), .unset] [(.ref b18_6), (.ref r0), (.ref b18_6)])) (fun t k => ?_) ?_
  · refine ox_dupX1 X18_6.here hx (hb hby d18_55) rfl rfl rfl ?_
    exact k
  obtain ⟨T18_7, h18_7, X18_7, e18_7, W18_7, st18_7⟩ := putF X18_6 hx hZ hown (host := "") (Or.inl (own_w hw 93 rfl)) Via.refl e18_6 (F_e.ext E18_6) (E_r0.ext E18_6) (Or.inl (own_w hw 94 rfl)) (own_w hw 72 rfl) (ty := (.array (.object "java/lang/Object"))) (by decide) rfl rfl (g := (mkF m 56 #[.val (.ref r0), .val (.int (1 : Int32)), .val (.int (0 : Int32)), .unset] [(.ref b18_6), (.ref r0), (.ref b18_6)])) rfl rfl (hb hby d18_56)
  have Fw18_7 := (F_e.ext E18_6).same W18_7
  have N18_7 := Fr.snoc X18_7 N18_5 g_r0
  refine own_fw st18_7 ?_
  obtain ⟨fs, hr, hrun, hended, hW, hsame⟩ := X18_7.leave (v := some (.ref b18_6)) (own_ret Bd.returns) (BodyLoose.notSynchronized Bd)
  refine ⟨_, _, retA (ty := (.array (.object "java/lang/Object"))) X18_7 hx rfl rfl Bd.returns (hb hby d18_59) hr, hrun, hended, _, _, rfl, ?_, ⟨_, rfl⟩, hW, hsame.mono (by decide) (by decide)⟩
  have eh : (T18_7.setFrames fs).heap = h18_7 := e18_7
  rw [eh]
  exact ⟨b18_6, k18_6, rfl, N18_7, (((Keep.refl h0 [r0]).ext E18_6).wr W18_7 (Or.inl (List.mem_of_getElem? (i := 0) rfl))), ((E_r0.ext E18_6).wr W18_7), Fw18_7, ((F_s.ext E18_6).other W18_7 (Or.inr (slot_ne (Or.inl (own_w hw 103 rfl)) (Or.inl (own_w hw 94 rfl)) (by decide) (t := .int) (t' := (.array (.object "java/lang/Object"))) (by decide) (by decide)))), ((F_m.ext E18_6).other W18_7 (Or.inr (slot_ne (Or.inl (own_w hw 91 rfl)) (Or.inl (own_w hw 94 rfl)) (by decide) (t := .int) (t' := (.array (.object "java/lang/Object"))) (by decide) (by decide)))), (V_b18_6.other W18_7 (Ne.symm ne_r0_b18_6)), O18_6, sz_b18_6⟩
theorem d17_0 : decode jdk_38_method_7_code 0 = .ok (.aload_n 0, 1) := by decide +kernel
theorem d17_1 : decode jdk_38_method_7_code 1 = .ok (.aload_n 0, 1) := by decide +kernel
theorem d17_2 : decode jdk_38_method_7_code 2 = .ok (.getfield 48, 3) := by decide +kernel
theorem d17_5 : decode jdk_38_method_7_code 5 = .ok (.iconst 1, 1) := by decide +kernel
theorem d17_6 : decode jdk_38_method_7_code 6 = .ok (.iadd, 1) := by decide +kernel
theorem d17_7 : decode jdk_38_method_7_code 7 = .ok (.invokevirtual 69, 3) := by decide +kernel
theorem d17_10 : decode jdk_38_method_7_code 10 = .ok (.areturn, 1) := by decide +kernel
theorem pn17 : plainName "java/util/ArrayList" = true := by first | (simp [plainName, overriddenIn]; done) | decide +kernel
theorem pd17_0 : parseMethodDescriptor "(I)[Ljava/lang/Object;" = some ⟨[.int], some (.array (.object "java/lang/Object"))⟩ := by decide +kernel
theorem ef17 (m : MethodId) (r0 : Addr) : entryFrame m #[(.ref r0)] 1 = mkF m 0 #[.val (.ref r0)] [] := by first | (simp [entryFrame, mkF, argsToLocals, Value.category]; done) | rfl
def Q17 (Z : State) (r0 : Addr) (h0 : Heap) (n0 : Nat) (w : Option Value) (h : Heap) (L : List Loc) : Prop := ∃ b kb, w = some (.ref b) ∧ Fr n0 L ∧ Keep h0 h [r0] ∧ Exa Z h r0 "java/util/ArrayList" ∧ Fld Z h r0 "java/util/ArrayList" "elementData" "[Ljava/lang/Object;" (.ref b) ∧ Fld Z h r0 "java/util/ArrayList" "size" "I" (.int (0 : Int32)) ∧ Fld Z h r0 "java/util/AbstractList" "modCount" "I" (.int (1 : Int32)) ∧ Arv Z h b kb (.object "java/lang/Object") 10 [.null, .null, .null, .null, .null, .null, .null, .null, .null, .null] .null ∧ Ovr Z kb "java/lang/Object" ∧ h0.size ≤ b
set_option maxRecDepth 65536 in
set_option maxHeartbeats 40000000 in
theorem rm17 (l : Launch) (Z : State) (a0 : Array Value) (hw : ∀ d ∈ tables_1, d.before a0 Z = true) (ws : List Jvm.Cond) (r0 : Addr) (d0 : Addr) (k0 : ClassId) (h0 : Heap) (n0 : Nat) (Z0 : n0 ≤ h0.size) (E_r0 : Exa Z h0 r0 "java/util/ArrayList") (F_e : Fld Z h0 r0 "java/util/ArrayList" "elementData" "[Ljava/lang/Object;" (.ref d0)) (F_s : Fld Z h0 r0 "java/util/ArrayList" "size" "I" (.int (0 : Int32))) (F_m : Fld Z h0 r0 "java/util/AbstractList" "modCount" "I" (.int (1 : Int32))) (g_r0 : n0 ≤ r0) (O_0 : Old Z n0 h0) (S_d : Sta Z Z.heap "java/util/ArrayList" "DEFAULTCAPACITY_EMPTY_ELEMENTDATA" "[Ljava/lang/Object;" (.ref d0)) (V_d : Arv Z Z.heap d0 k0 (.object "java/lang/Object") 0 [] .null) :
    MetFree l mN21 (head1 (Jvm.Cond.code mN21 jdk_38_method_7_code 1 (some (.array (.object "java/lang/Object"))) :: ws) ({ frames := 2, cells := 1, slots := 10, locals := 29 } : Room)) (fun a U => a = #[(.ref r0)] ∧ Z.Warmed39 U.vm ∧ U.heap = h0) (fun _ _ _ _ _ => True) (fun _ U o U' => ∃ v L, o = .returned v ∧ Q17 Z r0 h0 n0 v U'.heap L ∧ FrameEnd U o U' L ({ frames := 2, cells := 1, slots := 10, locals := 29 } : Room).cells ({ frames := 2, cells := 1, slots := 10, locals := 29 } : Room).slots) := by
  refine MetFree.of_bodySF (plainFor_of_name pn17) hisR ?_
  intro p e s m args below meth c s₁ Bd hml0 hP hK
  obtain ⟨rfl, hZ, hh⟩ := hP
  have hx := Bd.exec
  have hby := Bd.bytes
  have hml : c.maxLocals = 1 := hml0
  have hown : s.vm.findClass "java/util/ArrayList" = some m.cls := findClass_of_methodNamed Bd.named
  have hnm := (name_of_methodNamed Bd.named Bd.method).1
  have X0 : Stand p l e ({ frames := 2, cells := 1, slots := 10, locals := 29 } : Room) s m #[(.ref r0)] below meth c s₁ [] 0 0 := Stand.of_body Bd
  have e0 : s₁.heap = h0 := by rw [← hh, Bd.state]; rfl
  have N0 := Fr.nil n0
  refine own_fw (A := s₁.setTop (mkF m 0 #[.val (.ref r0)] [])) (fun t k => castTop (ef17 m r0) k) ?_
  refine own_fw (A := s₁.setTop (mkF m 2 #[.val (.ref r0)] [(.ref r0), (.ref r0)])) (fun t k => ?_) ?_
  · refine ox_aloadN X0.here hx (hb hby d17_0) rfl rfl ?_
    refine ox_aloadN X0.here hx (hb hby d17_1) rfl rfl ?_
    exact k
  obtain ⟨T17_1, X17_1, e17_1, st17_1⟩ := getF X0 hx hZ hown (host := "") (Or.inl (own_w hw 102 rfl)) Via.refl e0 F_s (g := (mkF m 2 #[.val (.ref r0)] [(.ref r0), (.ref r0)])) rfl rfl (hb hby d17_2)
  refine own_fw st17_1 ?_
  refine own_fw (A := T17_1.setTop (mkF m 7 #[.val (.ref r0)] [(.int (1 : Int32)), (.ref r0)])) (fun t k => ?_) ?_
  · refine ox_iconst X17_1.here hx (hb hby d17_5) ?_
    refine ox_iadd X17_1.here hx (hb hby d17_6) rfl ?_
    exact k
  obtain ⟨cq17_2, q17_2, q17_2'⟩ := Exa.cell E_r0
  obtain ⟨_, _, ⟨T17_2, L17_2, k17_2, n17_2⟩, -, X17_2, ⟨Lc17_2, hQ17_2, l17_2, y17_2, z17_2⟩, st17_2⟩ := X17_1.privateBack hx (y := mN20) hown (mvT hZ (own_w hw 114 rfl)) (mvT hZ (own_w hw 115 rfl)) (mvT hZ (own_w hw 117 rfl)) (Cond.privateMethod_at (mvP hZ (own_w hw 116 rfl) (args := #[]))) (mvT hZ (own_w hw 118 rfl)) (by decide) (backOf (W := 0) (rm18 l Z a0 hw [] r0 d0 k0 h0 n0 Z0 E_r0 F_e F_s F_m g_r0 O_0 S_d V_d) hZ (own_w hw 118 rfl) (own_w hw 73 rfl) (by decide) (by decide)) (g := (mkF m 7 #[.val (.ref r0)] [(.int (1 : Int32)), (.ref r0)])) rfl (by rw [hml]; rfl) (Steps.refl _) (a := r0) (by rw [e17_1]; exact q17_2) q17_2' (argsL := [(.int (1 : Int32))]) (rest := []) (lenOf pd17_0 rfl) rfl (own_mr rfl) (hb hby d17_7) (fun _ _ => ⟨rfl, e17_1, (by decide : 0 + 1 ≤ _), (by decide : 0 + 10 ≤ _)⟩)
  dsimp only [Pt.U, Pt.locs, Pt.cells, Pt.slots] at X17_2 l17_2 y17_2 z17_2 st17_2 hQ17_2
  subst l17_2 y17_2 z17_2
  obtain ⟨bg17_2, kg17_2, rfl, N17_2q, K17_2, Ex17_2, Fe17_2, Fs17_2, Fm17_2, Vg17_2, Og17_2, zg17_2⟩ := hQ17_2
  have N17_2 := Fr.app N0 N17_2q
  have sz_bg17_2 : h0.size ≤ bg17_2 := Nat.le_trans (Keep.refl h0 [r0]).1 zg17_2
  refine own_fw (fun t k => st17_2.trans k) ?_
  obtain ⟨fs, hr, hrun, hended, hW, hsame⟩ := X17_2.leave (v := some (.ref bg17_2)) (own_ret Bd.returns) (BodyLoose.notSynchronized Bd)
  refine ⟨_, _, retA (ty := (.array (.object "java/lang/Object"))) X17_2 hx rfl rfl Bd.returns (hb hby d17_10) hr, hrun, hended, _, _, rfl, ?_, ⟨_, rfl⟩, hW, hsame.mono (by decide) (by decide)⟩
  have eh : (T17_2.setFrames fs).heap = T17_2.heap := rfl
  rw [eh]
  exact ⟨bg17_2, kg17_2, rfl, N17_2, ((Keep.refl h0 [r0]).trans K17_2 (allS (Or.inl (List.mem_of_getElem? (i := 0) rfl)) all0)), Ex17_2, Fe17_2, Fs17_2, Fm17_2, Vg17_2, Og17_2, sz_bg17_2⟩
theorem d16_0 : decode jdk_38_method_24_code 0 = .ok (.iload_n 3, 1) := by decide +kernel
theorem d16_1 : decode jdk_38_method_24_code 1 = .ok (.aload_n 2, 1) := by decide +kernel
theorem d16_2 : decode jdk_38_method_24_code 2 = .ok (.arraylength, 1) := by decide +kernel
theorem d16_3 : decode jdk_38_method_24_code 3 = .ok (.if_icmp .ne 8, 3) := by decide +kernel
theorem d16_6 : decode jdk_38_method_24_code 6 = .ok (.aload_n 0, 1) := by decide +kernel
theorem d16_7 : decode jdk_38_method_24_code 7 = .ok (.invokevirtual 129, 3) := by decide +kernel
theorem d16_10 : decode jdk_38_method_24_code 10 = .ok (.astore_n 2, 1) := by decide +kernel
theorem d16_11 : decode jdk_38_method_24_code 11 = .ok (.aload_n 2, 1) := by decide +kernel
theorem d16_12 : decode jdk_38_method_24_code 12 = .ok (.iload_n 3, 1) := by decide +kernel
theorem d16_13 : decode jdk_38_method_24_code 13 = .ok (.aload_n 1, 1) := by decide +kernel
theorem d16_14 : decode jdk_38_method_24_code 14 = .ok (.aastore, 1) := by decide +kernel
theorem d16_15 : decode jdk_38_method_24_code 15 = .ok (.aload_n 0, 1) := by decide +kernel
theorem d16_16 : decode jdk_38_method_24_code 16 = .ok (.iload_n 3, 1) := by decide +kernel
theorem d16_17 : decode jdk_38_method_24_code 17 = .ok (.iconst 1, 1) := by decide +kernel
theorem d16_18 : decode jdk_38_method_24_code 18 = .ok (.iadd, 1) := by decide +kernel
theorem d16_19 : decode jdk_38_method_24_code 19 = .ok (.putfield 48, 3) := by decide +kernel
theorem d16_22 : decode jdk_38_method_24_code 22 = .ok (.return_, 1) := by decide +kernel
theorem pn16 : plainName "java/util/ArrayList" = true := by first | (simp [plainName, overriddenIn]; done) | decide +kernel
theorem pd16_0 : parseMethodDescriptor "()[Ljava/lang/Object;" = some ⟨[], some (.array (.object "java/lang/Object"))⟩ := by decide +kernel
theorem ef16 (m : MethodId) (r0 : Addr) (r1 : Addr) (r2 : Addr) (p3 : Int32) : entryFrame m #[(.ref r0), (.ref r1), (.ref r2), (.int p3)] 4 = mkF m 0 #[.val (.ref r0), .val (.ref r1), .val (.ref r2), .val (.int p3)] [] := by first | (simp [entryFrame, mkF, argsToLocals, Value.category]; done) | rfl
def Q16 (Z : State) (r0 r1 : Addr) (h0 : Heap) (n0 : Nat) (w : Option Value) (h : Heap) (L : List Loc) : Prop := ∃ b kb, w = none ∧ Fr n0 L ∧ Keep h0 h [r0] ∧ Exa Z h r0 "java/util/ArrayList" ∧ Fld Z h r0 "java/util/ArrayList" "elementData" "[Ljava/lang/Object;" (.ref b) ∧ Fld Z h r0 "java/util/ArrayList" "size" "I" (.int (1 : Int32)) ∧ Fld Z h r0 "java/util/AbstractList" "modCount" "I" (.int (1 : Int32)) ∧ Arv Z h b kb (.object "java/lang/Object") 10 [(.ref r1), .null, .null, .null, .null, .null, .null, .null, .null, .null] .null ∧ Ovr Z kb "java/lang/Object" ∧ h0.size ≤ b
set_option maxRecDepth 65536 in
set_option maxHeartbeats 40000000 in
theorem rmA3_0 (l : Launch) (Z : State) (a0 : Array Value) (hw : ∀ d ∈ tables_1, d.before a0 Z = true) (ws : List Jvm.Cond) (r0 : Addr) (r1 : Addr) (d0 : Addr) (k0 : ClassId) (h0 : Heap) (n0 : Nat) (Z0 : n0 ≤ h0.size) (E_r0 : Exa Z h0 r0 "java/util/ArrayList") (F_e : Fld Z h0 r0 "java/util/ArrayList" "elementData" "[Ljava/lang/Object;" (.ref d0)) (F_s : Fld Z h0 r0 "java/util/ArrayList" "size" "I" (.int (0 : Int32))) (F_m : Fld Z h0 r0 "java/util/AbstractList" "modCount" "I" (.int (1 : Int32))) (E_r1 : Exa Z h0 r1 "com/example/dolqa/dolqa/data/UnaryRelation") (ne_r1 : r1 ≠ r0) (g_r0 : n0 ≤ r0) (O_0 : Old Z n0 h0) (S_d : Sta Z Z.heap "java/util/ArrayList" "DEFAULTCAPACITY_EMPTY_ELEMENTDATA" "[Ljava/lang/Object;" (.ref d0)) (V_d : Arv Z Z.heap d0 k0 (.object "java/lang/Object") 0 [] .null) :
    MetFree l mN8 (head1 (Jvm.Cond.code mN8 jdk_38_method_24_code 4 none :: ws) ({ frames := 3, cells := 1, slots := 10, locals := 41 } : Room)) (fun a U => a = #[(.ref r0), (.ref r1), (.ref d0), (.int (0 : Int32))] ∧ Z.Warmed39 U.vm ∧ U.heap = h0) (fun _ _ _ _ _ => True) (fun _ U o U' => ∃ v L, o = .returned v ∧ Q16 Z r0 r1 h0 n0 v U'.heap L ∧ FrameEnd U o U' L ({ frames := 3, cells := 1, slots := 10, locals := 41 } : Room).cells ({ frames := 3, cells := 1, slots := 10, locals := 41 } : Room).slots) := by
  refine MetFree.of_bodySF (plainFor_of_name pn16) hisR ?_
  intro p e s m args below meth c s₁ Bd hml0 hP hK
  obtain ⟨rfl, hZ, hh⟩ := hP
  have hx := Bd.exec
  have hby := Bd.bytes
  have hml : c.maxLocals = 4 := hml0
  have hown : s.vm.findClass "java/util/ArrayList" = some m.cls := findClass_of_methodNamed Bd.named
  have hnm := (name_of_methodNamed Bd.named Bd.method).1
  have X0 : Stand p l e ({ frames := 3, cells := 1, slots := 10, locals := 41 } : Room) s m #[(.ref r0), (.ref r1), (.ref d0), (.int (0 : Int32))] below meth c s₁ [] 0 0 := Stand.of_body Bd
  have e0 : s₁.heap = h0 := by rw [← hh, Bd.state]; rfl
  have N0 := Fr.nil n0
  refine own_fw (A := s₁.setTop (mkF m 0 #[.val (.ref r0), .val (.ref r1), .val (.ref d0), .val (.int (0 : Int32))] [])) (fun t k => castTop (ef16 m r0 r1 d0 (0 : Int32)) k) ?_
  refine own_fw (A := s₁.setTop (mkF m 2 #[.val (.ref r0), .val (.ref r1), .val (.ref d0), .val (.int (0 : Int32))] [(.ref d0), (.int (0 : Int32))])) (fun t k => ?_) ?_
  · refine ox_iloadN X0.here hx (hb hby d16_0) rfl ?_
    refine ox_aloadN X0.here hx (hb hby d16_1) rfl rfl ?_
    exact k
  obtain ⟨cl16_1, Ar16_1, q16_1, S16_1, Ng16_1, Hs16_1, G16_1⟩ := id (V_d.ext O_0.2)
  have st16_1 := X0.arraylength hx (by rw [e0]; exact Ar16_1.1) (State.isArrayOf_alike hZ.alike Ar16_1.2.1) (g := (mkF m 2 #[.val (.ref r0), .val (.ref r1), .val (.ref d0), .val (.int (0 : Int32))] [(.ref d0), (.int (0 : Int32))])) rfl rfl (hb hby d16_2)
  rw [len_of S16_1 Ng16_1] at st16_1
  refine own_fw st16_1 ?_
  refine own_fw (A := s₁.setTop (mkF m 7 #[.val (.ref r0), .val (.ref r1), .val (.ref d0), .val (.int (0 : Int32))] [(.ref r0)])) (fun t k => ?_) ?_
  · refine ox_icmpNo X0.here hx (hb hby d16_3) rfl (teq (rfl : (0 : Int32) = (0 : Int32))).2 ?_
    refine ox_aloadN X0.here hx (hb hby d16_6) rfl rfl ?_
    exact k
  obtain ⟨cq16_2, q16_2, q16_2'⟩ := Exa.cell E_r0
  obtain ⟨_, _, ⟨T16_2, L16_2, k16_2, n16_2⟩, -, X16_2, ⟨Lc16_2, hQ16_2, l16_2, y16_2, z16_2⟩, st16_2⟩ := X0.privateBack hx (y := mN21) hown (mvT hZ (own_w hw 109 rfl)) (mvT hZ (own_w hw 110 rfl)) (mvT hZ (own_w hw 112 rfl)) (Cond.privateMethod_at (mvP hZ (own_w hw 111 rfl) (args := #[]))) (mvT hZ (own_w hw 113 rfl)) (by decide) (backOf (W := 0) (rm17 l Z a0 hw [] r0 d0 k0 h0 n0 Z0 E_r0 F_e F_s F_m g_r0 O_0 S_d V_d) hZ (own_w hw 113 rfl) (own_w hw 73 rfl) (by decide) (by decide)) (g := (mkF m 7 #[.val (.ref r0), .val (.ref r1), .val (.ref d0), .val (.int (0 : Int32))] [(.ref r0)])) rfl (by rw [hml]; rfl) (Steps.refl _) (a := r0) (by rw [e0]; exact q16_2) q16_2' (argsL := []) (rest := []) (lenOf pd16_0 rfl) rfl (own_mr rfl) (hb hby d16_7) (fun _ _ => ⟨rfl, e0, (by decide : 0 + 1 ≤ _), (by decide : 0 + 10 ≤ _)⟩)
  dsimp only [Pt.U, Pt.locs, Pt.cells, Pt.slots] at X16_2 l16_2 y16_2 z16_2 st16_2 hQ16_2
  subst l16_2 y16_2 z16_2
  obtain ⟨bg16_2, kg16_2, rfl, N16_2q, K16_2, Ex16_2, Fe16_2, Fs16_2, Fm16_2, Vg16_2, Og16_2, zg16_2⟩ := hQ16_2
  have N16_2 := Fr.app N0 N16_2q
  have ne_r0_bg16_2 : r0 ≠ bg16_2 := Nat.ne_of_lt (Nat.lt_of_lt_of_le E_r0.lt zg16_2)
  have g_bg16_2 : n0 ≤ bg16_2 := Nat.le_trans Z0 zg16_2
  have sz_bg16_2 : h0.size ≤ bg16_2 := Nat.le_trans (Keep.refl h0 [r0]).1 zg16_2
  refine own_fw (fun t k => st16_2.trans k) ?_
  refine own_fw (A := T16_2.setTop (mkF m 14 #[.val (.ref r0), .val (.ref r1), .val (.ref bg16_2), .val (.int (0 : Int32))] [(.ref r1), (.int (0 : Int32)), (.ref bg16_2)])) (fun t k => ?_) ?_
  · refine ox_astoreN X16_2.here hx (hb hby d16_10) rfl rfl (l' := #[.val (.ref r0), .val (.ref r1), .val (.ref bg16_2), .val (.int (0 : Int32))]) rfl ?_
    refine ox_aloadN X16_2.here hx (hb hby d16_11) rfl rfl ?_
    refine ox_iloadN X16_2.here hx (hb hby d16_12) rfl ?_
    refine ox_aloadN X16_2.here hx (hb hby d16_13) rfl rfl ?_
    exact k
  obtain ⟨cl16_3, Ar16_3, q16_3, S16_3, Ng16_3, Hs16_3, G16_3⟩ := id Vg16_2
  have hin16_3 : ¬ ((0 : Int32) < 0 ∨ cl16_3.slots.size ≤ ((0 : Int32)).toNatClampNeg) := inb_of S16_3 ⟨by decide, by decide⟩
  obtain ⟨T16_3, h16_3, X16_3, e16_3, W16_3, st16_3⟩ := stR X16_2 hx hZ rfl Ar16_3 (j := (0 : Int32)) hin16_3 rfl (Sto.ofV Ar16_3 q16_3 Og16_2 (Ins.of_exa (E_r1.keep K16_2) (own_w hw 124 rfl))) (g := (mkF m 14 #[.val (.ref r0), .val (.ref r1), .val (.ref bg16_2), .val (.int (0 : Int32))] [(.ref r1), (.int (0 : Int32)), (.ref bg16_2)])) rfl rfl (hb hby d16_14)
  have V16_3 : Arv Z h16_3 bg16_2 kg16_2 (.object "java/lang/Object") (10 : Int32) [(.ref r1), .null, .null, .null, .null, .null, .null, .null, .null, .null] .null := Arv.set Ar16_3 q16_3 S16_3 Ng16_3 Hs16_3 G16_3 rfl W16_3 0 rfl (Nat.le_of_ble_eq_true rfl)
  have N16_3 := Fr.snoc X16_3 N16_2 g_bg16_2
  refine own_fw st16_3 ?_
  refine own_fw (A := T16_3.setTop (mkF m 19 #[.val (.ref r0), .val (.ref r1), .val (.ref bg16_2), .val (.int (0 : Int32))] [(.int (1 : Int32)), (.ref r0)])) (fun t k => ?_) ?_
  · refine ox_aloadN X16_3.here hx (hb hby d16_15) rfl rfl ?_
    refine ox_iloadN X16_3.here hx (hb hby d16_16) rfl ?_
    refine ox_iconst X16_3.here hx (hb hby d16_17) ?_
    refine ox_iadd X16_3.here hx (hb hby d16_18) rfl ?_
    exact k
  obtain ⟨T16_4, h16_4, X16_4, e16_4, W16_4, st16_4⟩ := putF X16_3 hx hZ hown (host := "") (Or.inl (own_w hw 102 rfl)) Via.refl e16_3 (Fs16_2.other W16_3 (Or.inl ne_r0_bg16_2)) (Ex16_2.wr W16_3) (Or.inl (own_w hw 103 rfl)) (own_w hw 72 rfl) (ty := .int) (by decide) rfl rfl (g := (mkF m 19 #[.val (.ref r0), .val (.ref r1), .val (.ref bg16_2), .val (.int (0 : Int32))] [(.int (1 : Int32)), (.ref r0)])) rfl rfl (hb hby d16_19)
  have Fw16_4 := (Fs16_2.other W16_3 (Or.inl ne_r0_bg16_2)).same W16_4
  have N16_4 := Fr.snoc X16_4 N16_3 g_r0
  refine own_fw st16_4 ?_
  obtain ⟨fs, hr, hrun, hended, hW, hsame⟩ := X16_4.leave (v := none) (fun _ => rfl) (BodyLoose.notSynchronized Bd)
  refine ⟨_, _, X16_4.returnOut hx Bd.returns (hb hby d16_22) hr, hrun, hended, _, _, rfl, ?_, ⟨_, rfl⟩, hW, hsame.mono (by decide) (by decide)⟩
  have eh : (T16_4.setFrames fs).heap = h16_4 := e16_4
  rw [eh]
  exact ⟨bg16_2, kg16_2, rfl, N16_4, ((((Keep.refl h0 [r0]).trans K16_2 (allS (Or.inl (List.mem_of_getElem? (i := 0) rfl)) all0)).wr W16_3 (Or.inr sz_bg16_2)).wr W16_4 (Or.inl (List.mem_of_getElem? (i := 0) rfl))), ((Ex16_2.wr W16_3).wr W16_4), ((Fe16_2.other W16_3 (Or.inl ne_r0_bg16_2)).other W16_4 (Or.inr (slot_ne (Or.inl (own_w hw 94 rfl)) (Or.inl (own_w hw 103 rfl)) (by decide) (t := (.array (.object "java/lang/Object"))) (t' := .int) (by decide) (by decide)))), Fw16_4, ((Fm16_2.other W16_3 (Or.inl ne_r0_bg16_2)).other W16_4 (Or.inr (slot_ne (Or.inl (own_w hw 91 rfl)) (Or.inl (own_w hw 103 rfl)) (by decide) (t := .int) (t' := .int) (by decide) (by decide)))), (V16_3.other W16_4 (Ne.symm ne_r0_bg16_2)), Og16_2, sz_bg16_2⟩
theorem d15_0 : decode jdk_38_method_25_code 0 = .ok (.aload_n 0, 1) := by decide +kernel
theorem d15_1 : decode jdk_38_method_25_code 1 = .ok (.dup, 1) := by decide +kernel
theorem d15_2 : decode jdk_38_method_25_code 2 = .ok (.getfield 63, 3) := by decide +kernel
theorem d15_5 : decode jdk_38_method_25_code 5 = .ok (.iconst 1, 1) := by decide +kernel
theorem d15_6 : decode jdk_38_method_25_code 6 = .ok (.iadd, 1) := by decide +kernel
theorem d15_7 : decode jdk_38_method_25_code 7 = .ok (.putfield 63, 3) := by decide +kernel
theorem d15_10 : decode jdk_38_method_25_code 10 = .ok (.aload_n 0, 1) := by decide +kernel
theorem d15_11 : decode jdk_38_method_25_code 11 = .ok (.aload_n 1, 1) := by decide +kernel
theorem d15_12 : decode jdk_38_method_25_code 12 = .ok (.aload_n 0, 1) := by decide +kernel
theorem d15_13 : decode jdk_38_method_25_code 13 = .ok (.getfield 9, 3) := by decide +kernel
theorem d15_16 : decode jdk_38_method_25_code 16 = .ok (.aload_n 0, 1) := by decide +kernel
theorem d15_17 : decode jdk_38_method_25_code 17 = .ok (.getfield 48, 3) := by decide +kernel
theorem d15_20 : decode jdk_38_method_25_code 20 = .ok (.invokevirtual 131, 3) := by decide +kernel
theorem d15_23 : decode jdk_38_method_25_code 23 = .ok (.iconst 1, 1) := by decide +kernel
theorem d15_24 : decode jdk_38_method_25_code 24 = .ok (.ireturn, 1) := by decide +kernel
theorem pn15 : plainName "java/util/ArrayList" = true := by first | (simp [plainName, overriddenIn]; done) | decide +kernel
theorem pd15_0 : parseMethodDescriptor "(Ljava/lang/Object;[Ljava/lang/Object;I)V" = some ⟨[(.object "java/lang/Object"), (.array (.object "java/lang/Object")), .int], none⟩ := by decide +kernel
theorem ef15 (m : MethodId) (r0 : Addr) (r1 : Addr) : entryFrame m #[(.ref r0), (.ref r1)] 2 = mkF m 0 #[.val (.ref r0), .val (.ref r1)] [] := by first | (simp [entryFrame, mkF, argsToLocals, Value.category]; done) | rfl
def Q15 (Z : State) (r0 r1 : Addr) (h0 : Heap) (n0 : Nat) (w : Option Value) (h : Heap) (L : List Loc) : Prop := ∃ b kb, w = some (.int (1 : Int32)) ∧ Fr n0 L ∧ Keep h0 h [r0] ∧ Exa Z h r0 "java/util/ArrayList" ∧ Fld Z h r0 "java/util/ArrayList" "elementData" "[Ljava/lang/Object;" (.ref b) ∧ Fld Z h r0 "java/util/ArrayList" "size" "I" (.int (1 : Int32)) ∧ Fld Z h r0 "java/util/AbstractList" "modCount" "I" (.int (1 : Int32)) ∧ Arv Z h b kb (.object "java/lang/Object") 10 [(.ref r1), .null, .null, .null, .null, .null, .null, .null, .null, .null] .null ∧ Ovr Z kb "java/lang/Object" ∧ h0.size ≤ b
set_option maxRecDepth 65536 in
set_option maxHeartbeats 40000000 in
theorem rmA1_0 (l : Launch) (Z : State) (a0 : Array Value) (hw : ∀ d ∈ tables_1, d.before a0 Z = true) (ws : List Jvm.Cond) (r0 : Addr) (r1 : Addr) (d0 : Addr) (k0 : ClassId) (h0 : Heap) (n0 : Nat) (Z0 : n0 ≤ h0.size) (E_r0 : Exa Z h0 r0 "java/util/ArrayList") (F_e : Fld Z h0 r0 "java/util/ArrayList" "elementData" "[Ljava/lang/Object;" (.ref d0)) (F_s : Fld Z h0 r0 "java/util/ArrayList" "size" "I" (.int (0 : Int32))) (F_m : Fld Z h0 r0 "java/util/AbstractList" "modCount" "I" (.int (0 : Int32))) (E_r1 : Exa Z h0 r1 "com/example/dolqa/dolqa/data/UnaryRelation") (ne_r1 : r1 ≠ r0) (g_r0 : n0 ≤ r0) (O_0 : Old Z n0 h0) (S_d : Sta Z Z.heap "java/util/ArrayList" "DEFAULTCAPACITY_EMPTY_ELEMENTDATA" "[Ljava/lang/Object;" (.ref d0)) (V_d : Arv Z Z.heap d0 k0 (.object "java/lang/Object") 0 [] .null) :
    MetFree l mN3 (head1 (Jvm.Cond.code mN3 jdk_38_method_25_code 2 (some .boolean) :: ws) ({ frames := 4, cells := 1, slots := 10, locals := 56 } : Room)) (fun a U => a = #[(.ref r0), (.ref r1)] ∧ Z.Warmed39 U.vm ∧ U.heap = h0) (fun _ _ _ _ _ => True) (fun _ U o U' => ∃ v L, o = .returned v ∧ Q15 Z r0 r1 h0 n0 v U'.heap L ∧ FrameEnd U o U' L ({ frames := 4, cells := 1, slots := 10, locals := 56 } : Room).cells ({ frames := 4, cells := 1, slots := 10, locals := 56 } : Room).slots) := by
  refine MetFree.of_bodySF (plainFor_of_name pn15) hisR ?_
  intro p e s m args below meth c s₁ Bd hml0 hP hK
  obtain ⟨rfl, hZ, hh⟩ := hP
  have hx := Bd.exec
  have hby := Bd.bytes
  have hml : c.maxLocals = 2 := hml0
  have hown : s.vm.findClass "java/util/ArrayList" = some m.cls := findClass_of_methodNamed Bd.named
  have hnm := (name_of_methodNamed Bd.named Bd.method).1
  have X0 : Stand p l e ({ frames := 4, cells := 1, slots := 10, locals := 56 } : Room) s m #[(.ref r0), (.ref r1)] below meth c s₁ [] 0 0 := Stand.of_body Bd
  have e0 : s₁.heap = h0 := by rw [← hh, Bd.state]; rfl
  have N0 := Fr.nil n0
  refine own_fw (A := s₁.setTop (mkF m 0 #[.val (.ref r0), .val (.ref r1)] [])) (fun t k => castTop (ef15 m r0 r1) k) ?_
  refine own_fw (A := s₁.setTop (mkF m 2 #[.val (.ref r0), .val (.ref r1)] [(.ref r0), (.ref r0)])) (fun t k => ?_) ?_
  · refine ox_aloadN X0.here hx (hb hby d15_0) rfl rfl ?_
    refine ox_dup X0.here hx (hb hby d15_1) rfl rfl ?_
    exact k
  obtain ⟨T15_1, X15_1, e15_1, st15_1⟩ := getF X0 hx hZ hown (host := "") (Or.inl (own_w hw 100 rfl)) (Via.of (own_w hw 101 rfl)) e0 F_m (g := (mkF m 2 #[.val (.ref r0), .val (.ref r1)] [(.ref r0), (.ref r0)])) rfl rfl (hb hby d15_2)
  refine own_fw st15_1 ?_
  refine own_fw (A := T15_1.setTop (mkF m 7 #[.val (.ref r0), .val (.ref r1)] [(.int (1 : Int32)), (.ref r0)])) (fun t k => ?_) ?_
  · refine ox_iconst X15_1.here hx (hb hby d15_5) ?_
    refine ox_iadd X15_1.here hx (hb hby d15_6) rfl ?_
    exact k
  obtain ⟨T15_2, h15_2, X15_2, e15_2, W15_2, st15_2⟩ := putF X15_1 hx hZ hown (host := "") (Or.inl (own_w hw 100 rfl)) (Via.of (own_w hw 101 rfl)) e15_1 F_m E_r0 (Or.inl (own_w hw 91 rfl)) (own_w hw 72 rfl) (ty := .int) (by decide) rfl rfl (g := (mkF m 7 #[.val (.ref r0), .val (.ref r1)] [(.int (1 : Int32)), (.ref r0)])) rfl rfl (hb hby d15_7)
  have Fw15_2 := F_m.same W15_2
  have N15_2 := Fr.snoc X15_2 N0 g_r0
  refine own_fw st15_2 ?_
  refine own_fw (A := T15_2.setTop (mkF m 13 #[.val (.ref r0), .val (.ref r1)] [(.ref r0), (.ref r1), (.ref r0)])) (fun t k => ?_) ?_
  · refine ox_aloadN X15_2.here hx (hb hby d15_10) rfl rfl ?_
    refine ox_aloadN X15_2.here hx (hb hby d15_11) rfl rfl ?_
    refine ox_aloadN X15_2.here hx (hb hby d15_12) rfl rfl ?_
    exact k
  obtain ⟨T15_3, X15_3, e15_3, st15_3⟩ := getF X15_2 hx hZ hown (host := "") (Or.inl (own_w hw 93 rfl)) Via.refl e15_2 (F_e.other W15_2 (Or.inr (slot_ne (Or.inl (own_w hw 94 rfl)) (Or.inl (own_w hw 91 rfl)) (by decide) (t := (.array (.object "java/lang/Object"))) (t' := .int) (by decide) (by decide)))) (g := (mkF m 13 #[.val (.ref r0), .val (.ref r1)] [(.ref r0), (.ref r1), (.ref r0)])) rfl rfl (hb hby d15_13)
  refine own_fw st15_3 ?_
  refine own_fw (A := T15_3.setTop (mkF m 17 #[.val (.ref r0), .val (.ref r1)] [(.ref r0), (.ref d0), (.ref r1), (.ref r0)])) (fun t k => ?_) ?_
  · refine ox_aloadN X15_3.here hx (hb hby d15_16) rfl rfl ?_
    exact k
  obtain ⟨T15_4, X15_4, e15_4, st15_4⟩ := getF X15_3 hx hZ hown (host := "") (Or.inl (own_w hw 102 rfl)) Via.refl e15_3 (F_s.other W15_2 (Or.inr (slot_ne (Or.inl (own_w hw 103 rfl)) (Or.inl (own_w hw 91 rfl)) (by decide) (t := .int) (t' := .int) (by decide) (by decide)))) (g := (mkF m 17 #[.val (.ref r0), .val (.ref r1)] [(.ref r0), (.ref d0), (.ref r1), (.ref r0)])) rfl rfl (hb hby d15_17)
  refine own_fw st15_4 ?_
  obtain ⟨cq15_5, q15_5, q15_5'⟩ := Exa.cell (E_r0.wr W15_2)
  obtain ⟨_, _, ⟨T15_5, L15_5, k15_5, n15_5⟩, -, X15_5, ⟨Lc15_5, hQ15_5, l15_5, y15_5, z15_5⟩, st15_5⟩ := X15_4.privateBack hx (y := mN8) hown (mvT hZ (own_w hw 104 rfl)) (mvT hZ (own_w hw 105 rfl)) (mvT hZ (own_w hw 107 rfl)) (Cond.privateMethod_at (mvP hZ (own_w hw 106 rfl) (args := #[]))) (mvT hZ (own_w hw 108 rfl)) (by decide) (backOf (W := 0) (rmA3_0 l Z a0 hw [] r0 r1 d0 k0 h15_2 n0 (Nat.le_trans Z0 (Keep.of_wr W15_2).1) (E_r0.wr W15_2) (F_e.other W15_2 (Or.inr (slot_ne (Or.inl (own_w hw 94 rfl)) (Or.inl (own_w hw 91 rfl)) (by decide) (t := (.array (.object "java/lang/Object"))) (t' := .int) (by decide) (by decide)))) (F_s.other W15_2 (Or.inr (slot_ne (Or.inl (own_w hw 103 rfl)) (Or.inl (own_w hw 91 rfl)) (by decide) (t := .int) (t' := .int) (by decide) (by decide)))) Fw15_2 (E_r1.wr W15_2) ne_r1 g_r0 (O_0.wr W15_2 g_r0) S_d V_d) hZ (own_w hw 108 rfl) (own_w hw 73 rfl) (by decide) (by decide)) (g := (mkF m 20 #[.val (.ref r0), .val (.ref r1)] [(.int (0 : Int32)), (.ref d0), (.ref r1), (.ref r0)])) rfl (by rw [hml]; rfl) (Steps.refl _) (a := r0) (by rw [e15_4]; exact q15_5) q15_5' (argsL := [(.ref r1), (.ref d0), (.int (0 : Int32))]) (rest := []) (lenOf pd15_0 rfl) rfl (own_mr rfl) (hb hby d15_20) (fun _ _ => ⟨rfl, e15_4, (by decide : 0 + 1 ≤ _), (by decide : 0 + 10 ≤ _)⟩)
  dsimp only [Pt.U, Pt.locs, Pt.cells, Pt.slots] at X15_5 l15_5 y15_5 z15_5 st15_5 hQ15_5
  subst l15_5 y15_5 z15_5
  obtain ⟨ba15_5, kg15_5, rfl, N15_5q, K15_5, Ex15_5, Fe15_5, Fs15_5, Fm15_5, Vg15_5, Og15_5, zg15_5⟩ := hQ15_5
  have N15_5 := Fr.app N15_2 N15_5q
  have sz_ba15_5 : h0.size ≤ ba15_5 := Nat.le_trans ((Keep.refl h0 [r0]).wr W15_2 (Or.inl (List.mem_of_getElem? (i := 0) rfl))).1 zg15_5
  refine own_fw (fun t k => st15_5.trans k) ?_
  refine own_fw (A := T15_5.setTop (mkF m 24 #[.val (.ref r0), .val (.ref r1)] [(.int (1 : Int32))])) (fun t k => ?_) ?_
  · refine ox_iconst X15_5.here hx (hb hby d15_23) ?_
    exact k
  obtain ⟨fs, hr, hrun, hended, hW, hsame⟩ := X15_5.leave (v := some (.int (nar .boolean (1 : Int32)))) (own_ret Bd.returns) (BodyLoose.notSynchronized Bd)
  refine ⟨_, _, retN X15_5 hx (t := .boolean) Bd.returns (by simp) (hb hby d15_24) hr, hrun, hended, _, _, rfl, ?_, ⟨_, rfl⟩, hW, hsame.mono (by decide) (by decide)⟩
  have eh : (T15_5.setFrames fs).heap = T15_5.heap := rfl
  rw [eh]
  exact ⟨ba15_5, kg15_5, rfl, N15_5, (((Keep.refl h0 [r0]).wr W15_2 (Or.inl (List.mem_of_getElem? (i := 0) rfl))).trans K15_5 (allS (Or.inl (List.mem_of_getElem? (i := 0) rfl)) all0)), Ex15_5, Fe15_5, Fs15_5, Fm15_5, Vg15_5, Og15_5, sz_ba15_5⟩
def QA3_1 (Z : State) (r0 r1 ea x0 : Addr) (kb : ClassId) (h0 : Heap) (n0 : Nat) (w : Option Value) (h : Heap) (L : List Loc) : Prop := w = none ∧ Fr n0 L ∧ Keep h0 h [r0, ea] ∧ Exa Z h r0 "java/util/ArrayList" ∧ Fld Z h r0 "java/util/ArrayList" "elementData" "[Ljava/lang/Object;" (.ref ea) ∧ Fld Z h r0 "java/util/ArrayList" "size" "I" (.int (2 : Int32)) ∧ Fld Z h r0 "java/util/AbstractList" "modCount" "I" (.int (2 : Int32)) ∧ Arv Z h ea kb (.object "java/lang/Object") 10 [(.ref x0), (.ref r1), .null, .null, .null, .null, .null, .null, .null, .null] .null
def QA1_1 (Z : State) (r0 r1 ea x0 : Addr) (kb : ClassId) (h0 : Heap) (n0 : Nat) (w : Option Value) (h : Heap) (L : List Loc) : Prop := w = some (.int (1 : Int32)) ∧ Fr n0 L ∧ Keep h0 h [r0, ea] ∧ Exa Z h r0 "java/util/ArrayList" ∧ Fld Z h r0 "java/util/ArrayList" "elementData" "[Ljava/lang/Object;" (.ref ea) ∧ Fld Z h r0 "java/util/ArrayList" "size" "I" (.int (2 : Int32)) ∧ Fld Z h r0 "java/util/AbstractList" "modCount" "I" (.int (2 : Int32)) ∧ Arv Z h ea kb (.object "java/lang/Object") 10 [(.ref x0), (.ref r1), .null, .null, .null, .null, .null, .null, .null, .null] .null
set_option maxRecDepth 65536 in
set_option maxHeartbeats 40000000 in
theorem rmA3_1 (l : Launch) (Z : State) (a0 : Array Value) (hw : ∀ d ∈ tables_1, d.before a0 Z = true) (ws : List Jvm.Cond) (r0 : Addr) (r1 : Addr) (ea : Addr) (x0 : Addr) (kb : ClassId) (h0 : Heap) (n0 : Nat) (Z0 : n0 ≤ h0.size) (E_r0 : Exa Z h0 r0 "java/util/ArrayList") (F_e : Fld Z h0 r0 "java/util/ArrayList" "elementData" "[Ljava/lang/Object;" (.ref ea)) (F_s : Fld Z h0 r0 "java/util/ArrayList" "size" "I" (.int (1 : Int32))) (F_m : Fld Z h0 r0 "java/util/AbstractList" "modCount" "I" (.int (2 : Int32))) (E_r1 : Exa Z h0 r1 "com/example/dolqa/dolqa/data/UnaryRelation") (ne_r1 : r1 ≠ r0) (V_e : Arv Z h0 ea kb (.object "java/lang/Object") 10 [(.ref x0), .null, .null, .null, .null, .null, .null, .null, .null, .null] .null) (O_e : Ovr Z kb "java/lang/Object") (ne_ea : ea ≠ r0) (ne_r1e : r1 ≠ ea) (g_r0 : n0 ≤ r0) (g_ea : n0 ≤ ea) :
    MetFree l mN8 (head1 (Jvm.Cond.code mN8 jdk_38_method_24_code 4 none :: ws) ({ frames := 0, cells := 0, slots := 0, locals := 0 } : Room)) (fun a U => a = #[(.ref r0), (.ref r1), (.ref ea), (.int (1 : Int32))] ∧ Z.Warmed39 U.vm ∧ U.heap = h0) (fun _ _ _ _ _ => True) (fun _ U o U' => ∃ v L, o = .returned v ∧ QA3_1 Z r0 r1 ea x0 kb h0 n0 v U'.heap L ∧ FrameEnd U o U' L ({ frames := 0, cells := 0, slots := 0, locals := 0 } : Room).cells ({ frames := 0, cells := 0, slots := 0, locals := 0 } : Room).slots) := by
  refine MetFree.of_bodySF (plainFor_of_name pn16) hisR ?_
  intro p e s m args below meth c s₁ Bd hml0 hP hK
  obtain ⟨rfl, hZ, hh⟩ := hP
  have hx := Bd.exec
  have hby := Bd.bytes
  have hml : c.maxLocals = 4 := hml0
  have hown : s.vm.findClass "java/util/ArrayList" = some m.cls := findClass_of_methodNamed Bd.named
  have hnm := (name_of_methodNamed Bd.named Bd.method).1
  have X0 : Stand p l e ({ frames := 0, cells := 0, slots := 0, locals := 0 } : Room) s m #[(.ref r0), (.ref r1), (.ref ea), (.int (1 : Int32))] below meth c s₁ [] 0 0 := Stand.of_body Bd
  have e0 : s₁.heap = h0 := by rw [← hh, Bd.state]; rfl
  have N0 := Fr.nil n0
  refine own_fw (A := s₁.setTop (mkF m 0 #[.val (.ref r0), .val (.ref r1), .val (.ref ea), .val (.int (1 : Int32))] [])) (fun t k => castTop (ef16 m r0 r1 ea (1 : Int32)) k) ?_
  refine own_fw (A := s₁.setTop (mkF m 2 #[.val (.ref r0), .val (.ref r1), .val (.ref ea), .val (.int (1 : Int32))] [(.ref ea), (.int (1 : Int32))])) (fun t k => ?_) ?_
  · refine ox_iloadN X0.here hx (hb hby d16_0) rfl ?_
    refine ox_aloadN X0.here hx (hb hby d16_1) rfl rfl ?_
    exact k
  obtain ⟨cl16_1, Ar16_1, q16_1, S16_1, Ng16_1, Hs16_1, G16_1⟩ := id V_e
  have st16_1 := X0.arraylength hx (by rw [e0]; exact Ar16_1.1) (State.isArrayOf_alike hZ.alike Ar16_1.2.1) (g := (mkF m 2 #[.val (.ref r0), .val (.ref r1), .val (.ref ea), .val (.int (1 : Int32))] [(.ref ea), (.int (1 : Int32))])) rfl rfl (hb hby d16_2)
  rw [len_of S16_1 Ng16_1] at st16_1
  refine own_fw st16_1 ?_
  refine own_fw (A := s₁.setTop (mkF m 14 #[.val (.ref r0), .val (.ref r1), .val (.ref ea), .val (.int (1 : Int32))] [(.ref r1), (.int (1 : Int32)), (.ref ea)])) (fun t k => ?_) ?_
  · refine ox_icmpYes X0.here hx (pc0 := 3) (pc' := 11) rfl (hb hby d16_3) rfl (feq (by decide : ¬ ((1 : Int32) = (10 : Int32)))).2 (by decide) (by decide) ?_
    refine ox_aloadN X0.here hx (hb hby d16_11) rfl rfl ?_
    refine ox_iloadN X0.here hx (hb hby d16_12) rfl ?_
    refine ox_aloadN X0.here hx (hb hby d16_13) rfl rfl ?_
    exact k
  obtain ⟨cl16_2, Ar16_2, q16_2, S16_2, Ng16_2, Hs16_2, G16_2⟩ := id V_e
  have hin16_2 : ¬ ((1 : Int32) < 0 ∨ cl16_2.slots.size ≤ ((1 : Int32)).toNatClampNeg) := inb_of S16_2 ⟨by decide, by decide⟩
  obtain ⟨T16_2, h16_2, X16_2, e16_2, W16_2, st16_2⟩ := stR X0 hx hZ e0 Ar16_2 (j := (1 : Int32)) hin16_2 rfl (Sto.ofV Ar16_2 q16_2 O_e (Ins.of_exa E_r1 (own_w hw 124 rfl))) (g := (mkF m 14 #[.val (.ref r0), .val (.ref r1), .val (.ref ea), .val (.int (1 : Int32))] [(.ref r1), (.int (1 : Int32)), (.ref ea)])) rfl rfl (hb hby d16_14)
  have V16_2 : Arv Z h16_2 ea kb (.object "java/lang/Object") (10 : Int32) [(.ref x0), (.ref r1), .null, .null, .null, .null, .null, .null, .null, .null] .null := Arv.set Ar16_2 q16_2 S16_2 Ng16_2 Hs16_2 G16_2 rfl W16_2 1 rfl (Nat.le_of_ble_eq_true rfl)
  have N16_2 := Fr.snoc X16_2 N0 g_ea
  refine own_fw st16_2 ?_
  refine own_fw (A := T16_2.setTop (mkF m 19 #[.val (.ref r0), .val (.ref r1), .val (.ref ea), .val (.int (1 : Int32))] [(.int (2 : Int32)), (.ref r0)])) (fun t k => ?_) ?_
  · refine ox_aloadN X16_2.here hx (hb hby d16_15) rfl rfl ?_
    refine ox_iloadN X16_2.here hx (hb hby d16_16) rfl ?_
    refine ox_iconst X16_2.here hx (hb hby d16_17) ?_
    refine ox_iadd X16_2.here hx (hb hby d16_18) rfl ?_
    exact k
  obtain ⟨T16_3, h16_3, X16_3, e16_3, W16_3, st16_3⟩ := putF X16_2 hx hZ hown (host := "") (Or.inl (own_w hw 102 rfl)) Via.refl e16_2 (F_s.other W16_2 (Or.inl (Ne.symm ne_ea))) (E_r0.wr W16_2) (Or.inl (own_w hw 103 rfl)) (own_w hw 72 rfl) (ty := .int) (by decide) rfl rfl (g := (mkF m 19 #[.val (.ref r0), .val (.ref r1), .val (.ref ea), .val (.int (1 : Int32))] [(.int (2 : Int32)), (.ref r0)])) rfl rfl (hb hby d16_19)
  have Fw16_3 := (F_s.other W16_2 (Or.inl (Ne.symm ne_ea))).same W16_3
  have N16_3 := Fr.snoc X16_3 N16_2 g_r0
  refine own_fw st16_3 ?_
  obtain ⟨fs, hr, hrun, hended, hW, hsame⟩ := X16_3.leave (v := none) (fun _ => rfl) (BodyLoose.notSynchronized Bd)
  refine ⟨_, _, X16_3.returnOut hx Bd.returns (hb hby d16_22) hr, hrun, hended, _, _, rfl, ?_, ⟨_, rfl⟩, hW, hsame.mono (by decide) (by decide)⟩
  have eh : (T16_3.setFrames fs).heap = h16_3 := e16_3
  rw [eh]
  exact ⟨rfl, N16_3, (((Keep.refl h0 [r0, ea]).wr W16_2 (Or.inl (List.mem_of_getElem? (i := 1) rfl))).wr W16_3 (Or.inl (List.mem_of_getElem? (i := 0) rfl))), ((E_r0.wr W16_2).wr W16_3), ((F_e.other W16_2 (Or.inl (Ne.symm ne_ea))).other W16_3 (Or.inr (slot_ne (Or.inl (own_w hw 94 rfl)) (Or.inl (own_w hw 103 rfl)) (by decide) (t := (.array (.object "java/lang/Object"))) (t' := .int) (by decide) (by decide)))), Fw16_3, ((F_m.other W16_2 (Or.inl (Ne.symm ne_ea))).other W16_3 (Or.inr (slot_ne (Or.inl (own_w hw 91 rfl)) (Or.inl (own_w hw 103 rfl)) (by decide) (t := .int) (t' := .int) (by decide) (by decide)))), (V16_2.other W16_3 ne_ea)⟩
set_option maxRecDepth 65536 in
set_option maxHeartbeats 40000000 in
theorem rmA1_1 (l : Launch) (Z : State) (a0 : Array Value) (hw : ∀ d ∈ tables_1, d.before a0 Z = true) (ws : List Jvm.Cond) (r0 : Addr) (r1 : Addr) (ea : Addr) (x0 : Addr) (kb : ClassId) (h0 : Heap) (n0 : Nat) (Z0 : n0 ≤ h0.size) (E_r0 : Exa Z h0 r0 "java/util/ArrayList") (F_e : Fld Z h0 r0 "java/util/ArrayList" "elementData" "[Ljava/lang/Object;" (.ref ea)) (F_s : Fld Z h0 r0 "java/util/ArrayList" "size" "I" (.int (1 : Int32))) (F_m : Fld Z h0 r0 "java/util/AbstractList" "modCount" "I" (.int (1 : Int32))) (E_r1 : Exa Z h0 r1 "com/example/dolqa/dolqa/data/UnaryRelation") (ne_r1 : r1 ≠ r0) (V_e : Arv Z h0 ea kb (.object "java/lang/Object") 10 [(.ref x0), .null, .null, .null, .null, .null, .null, .null, .null, .null] .null) (O_e : Ovr Z kb "java/lang/Object") (ne_ea : ea ≠ r0) (ne_r1e : r1 ≠ ea) (g_r0 : n0 ≤ r0) (g_ea : n0 ≤ ea) :
    MetFree l mN3 (head1 (Jvm.Cond.code mN3 jdk_38_method_25_code 2 (some .boolean) :: ws) ({ frames := 1, cells := 0, slots := 0, locals := 15 } : Room)) (fun a U => a = #[(.ref r0), (.ref r1)] ∧ Z.Warmed39 U.vm ∧ U.heap = h0) (fun _ _ _ _ _ => True) (fun _ U o U' => ∃ v L, o = .returned v ∧ QA1_1 Z r0 r1 ea x0 kb h0 n0 v U'.heap L ∧ FrameEnd U o U' L ({ frames := 1, cells := 0, slots := 0, locals := 15 } : Room).cells ({ frames := 1, cells := 0, slots := 0, locals := 15 } : Room).slots) := by
  refine MetFree.of_bodySF (plainFor_of_name pn15) hisR ?_
  intro p e s m args below meth c s₁ Bd hml0 hP hK
  obtain ⟨rfl, hZ, hh⟩ := hP
  have hx := Bd.exec
  have hby := Bd.bytes
  have hml : c.maxLocals = 2 := hml0
  have hown : s.vm.findClass "java/util/ArrayList" = some m.cls := findClass_of_methodNamed Bd.named
  have hnm := (name_of_methodNamed Bd.named Bd.method).1
  have X0 : Stand p l e ({ frames := 1, cells := 0, slots := 0, locals := 15 } : Room) s m #[(.ref r0), (.ref r1)] below meth c s₁ [] 0 0 := Stand.of_body Bd
  have e0 : s₁.heap = h0 := by rw [← hh, Bd.state]; rfl
  have N0 := Fr.nil n0
  refine own_fw (A := s₁.setTop (mkF m 0 #[.val (.ref r0), .val (.ref r1)] [])) (fun t k => castTop (ef15 m r0 r1) k) ?_
  refine own_fw (A := s₁.setTop (mkF m 2 #[.val (.ref r0), .val (.ref r1)] [(.ref r0), (.ref r0)])) (fun t k => ?_) ?_
  · refine ox_aloadN X0.here hx (hb hby d15_0) rfl rfl ?_
    refine ox_dup X0.here hx (hb hby d15_1) rfl rfl ?_
    exact k
  obtain ⟨T15_1, X15_1, e15_1, st15_1⟩ := getF X0 hx hZ hown (host := "") (Or.inl (own_w hw 100 rfl)) (Via.of (own_w hw 101 rfl)) e0 F_m (g := (mkF m 2 #[.val (.ref r0), .val (.ref r1)] [(.ref r0), (.ref r0)])) rfl rfl (hb hby d15_2)
  refine own_fw st15_1 ?_
  refine own_fw (A := T15_1.setTop (mkF m 7 #[.val (.ref r0), .val (.ref r1)] [(.int (2 : Int32)), (.ref r0)])) (fun t k => ?_) ?_
  · refine ox_iconst X15_1.here hx (hb hby d15_5) ?_
    refine ox_iadd X15_1.here hx (hb hby d15_6) rfl ?_
    exact k
  obtain ⟨T15_2, h15_2, X15_2, e15_2, W15_2, st15_2⟩ := putF X15_1 hx hZ hown (host := "") (Or.inl (own_w hw 100 rfl)) (Via.of (own_w hw 101 rfl)) e15_1 F_m E_r0 (Or.inl (own_w hw 91 rfl)) (own_w hw 72 rfl) (ty := .int) (by decide) rfl rfl (g := (mkF m 7 #[.val (.ref r0), .val (.ref r1)] [(.int (2 : Int32)), (.ref r0)])) rfl rfl (hb hby d15_7)
  have Fw15_2 := F_m.same W15_2
  have N15_2 := Fr.snoc X15_2 N0 g_r0
  refine own_fw st15_2 ?_
  refine own_fw (A := T15_2.setTop (mkF m 13 #[.val (.ref r0), .val (.ref r1)] [(.ref r0), (.ref r1), (.ref r0)])) (fun t k => ?_) ?_
  · refine ox_aloadN X15_2.here hx (hb hby d15_10) rfl rfl ?_
    refine ox_aloadN X15_2.here hx (hb hby d15_11) rfl rfl ?_
    refine ox_aloadN X15_2.here hx (hb hby d15_12) rfl rfl ?_
    exact k
  obtain ⟨T15_3, X15_3, e15_3, st15_3⟩ := getF X15_2 hx hZ hown (host := "") (Or.inl (own_w hw 93 rfl)) Via.refl e15_2 (F_e.other W15_2 (Or.inr (slot_ne (Or.inl (own_w hw 94 rfl)) (Or.inl (own_w hw 91 rfl)) (by decide) (t := (.array (.object "java/lang/Object"))) (t' := .int) (by decide) (by decide)))) (g := (mkF m 13 #[.val (.ref r0), .val (.ref r1)] [(.ref r0), (.ref r1), (.ref r0)])) rfl rfl (hb hby d15_13)
  refine own_fw st15_3 ?_
  refine own_fw (A := T15_3.setTop (mkF m 17 #[.val (.ref r0), .val (.ref r1)] [(.ref r0), (.ref ea), (.ref r1), (.ref r0)])) (fun t k => ?_) ?_
  · refine ox_aloadN X15_3.here hx (hb hby d15_16) rfl rfl ?_
    exact k
  obtain ⟨T15_4, X15_4, e15_4, st15_4⟩ := getF X15_3 hx hZ hown (host := "") (Or.inl (own_w hw 102 rfl)) Via.refl e15_3 (F_s.other W15_2 (Or.inr (slot_ne (Or.inl (own_w hw 103 rfl)) (Or.inl (own_w hw 91 rfl)) (by decide) (t := .int) (t' := .int) (by decide) (by decide)))) (g := (mkF m 17 #[.val (.ref r0), .val (.ref r1)] [(.ref r0), (.ref ea), (.ref r1), (.ref r0)])) rfl rfl (hb hby d15_17)
  refine own_fw st15_4 ?_
  obtain ⟨cq15_5, q15_5, q15_5'⟩ := Exa.cell (E_r0.wr W15_2)
  obtain ⟨_, _, ⟨T15_5, L15_5, k15_5, n15_5⟩, -, X15_5, ⟨Lc15_5, hQ15_5, l15_5, y15_5, z15_5⟩, st15_5⟩ := X15_4.privateBack hx (y := mN8) hown (mvT hZ (own_w hw 104 rfl)) (mvT hZ (own_w hw 105 rfl)) (mvT hZ (own_w hw 107 rfl)) (Cond.privateMethod_at (mvP hZ (own_w hw 106 rfl) (args := #[]))) (mvT hZ (own_w hw 108 rfl)) (by decide) (backOf (W := 0) (rmA3_1 l Z a0 hw [] r0 r1 ea x0 kb h15_2 n0 (Nat.le_trans Z0 (Keep.of_wr W15_2).1) (E_r0.wr W15_2) (F_e.other W15_2 (Or.inr (slot_ne (Or.inl (own_w hw 94 rfl)) (Or.inl (own_w hw 91 rfl)) (by decide) (t := (.array (.object "java/lang/Object"))) (t' := .int) (by decide) (by decide)))) (F_s.other W15_2 (Or.inr (slot_ne (Or.inl (own_w hw 103 rfl)) (Or.inl (own_w hw 91 rfl)) (by decide) (t := .int) (t' := .int) (by decide) (by decide)))) Fw15_2 (E_r1.wr W15_2) ne_r1 (V_e.other W15_2 ne_ea) O_e ne_ea ne_r1e g_r0 g_ea) hZ (own_w hw 108 rfl) (own_w hw 73 rfl) (by decide) (by decide)) (g := (mkF m 20 #[.val (.ref r0), .val (.ref r1)] [(.int (1 : Int32)), (.ref ea), (.ref r1), (.ref r0)])) rfl (by rw [hml]; rfl) (Steps.refl _) (a := r0) (by rw [e15_4]; exact q15_5) q15_5' (argsL := [(.ref r1), (.ref ea), (.int (1 : Int32))]) (rest := []) (lenOf pd15_0 rfl) rfl (own_mr rfl) (hb hby d15_20) (fun _ _ => ⟨rfl, e15_4, (by decide : 0 + 0 ≤ _), (by decide : 0 + 0 ≤ _)⟩)
  dsimp only [Pt.U, Pt.locs, Pt.cells, Pt.slots] at X15_5 l15_5 y15_5 z15_5 st15_5 hQ15_5
  subst l15_5 y15_5 z15_5
  obtain ⟨rfl, N15_5q, K15_5, Ex15_5, Fe15_5, Fs15_5, Fm15_5, Vg15_5⟩ := hQ15_5
  have N15_5 := Fr.app N15_2 N15_5q
  refine own_fw (fun t k => st15_5.trans k) ?_
  refine own_fw (A := T15_5.setTop (mkF m 24 #[.val (.ref r0), .val (.ref r1)] [(.int (1 : Int32))])) (fun t k => ?_) ?_
  · refine ox_iconst X15_5.here hx (hb hby d15_23) ?_
    exact k
  obtain ⟨fs, hr, hrun, hended, hW, hsame⟩ := X15_5.leave (v := some (.int (nar .boolean (1 : Int32)))) (own_ret Bd.returns) (BodyLoose.notSynchronized Bd)
  refine ⟨_, _, retN X15_5 hx (t := .boolean) Bd.returns (by simp) (hb hby d15_24) hr, hrun, hended, _, _, rfl, ?_, ⟨_, rfl⟩, hW, hsame.mono (by decide) (by decide)⟩
  have eh : (T15_5.setFrames fs).heap = T15_5.heap := rfl
  rw [eh]
  exact ⟨rfl, N15_5, (((Keep.refl h0 [r0, ea]).wr W15_2 (Or.inl (List.mem_of_getElem? (i := 0) rfl))).trans K15_5 (allS (Or.inl (List.mem_of_getElem? (i := 0) rfl)) (allS (Or.inl (List.mem_of_getElem? (i := 1) rfl)) all0))), Ex15_5, Fe15_5, Fs15_5, Fm15_5, Vg15_5⟩
theorem d22_0 : decode jdk_49_method_1_code 0 = .ok (.aload_n 0, 1) := by decide +kernel
theorem d22_1 : decode jdk_49_method_1_code 1 = .ok (.aload_n 1, 1) := by decide +kernel
theorem d22_2 : decode jdk_49_method_1_code 2 = .ok (.putfield 1, 3) := by decide +kernel
theorem d22_5 : decode jdk_49_method_1_code 5 = .ok (.aload_n 0, 1) := by decide +kernel
theorem d22_6 : decode jdk_49_method_1_code 6 = .ok (.invokespecial 7, 3) := by decide +kernel
theorem d22_9 : decode jdk_49_method_1_code 9 = .ok (.aload_n 0, 1) := by decide +kernel
theorem d22_10 : decode jdk_49_method_1_code 10 = .ok (.iconst (-1), 1) := by decide +kernel
theorem d22_11 : decode jdk_49_method_1_code 11 = .ok (.putfield 13, 3) := by decide +kernel
theorem d22_14 : decode jdk_49_method_1_code 14 = .ok (.aload_n 0, 1) := by decide +kernel
theorem d22_15 : decode jdk_49_method_1_code 15 = .ok (.aload_n 0, 1) := by decide +kernel
theorem d22_16 : decode jdk_49_method_1_code 16 = .ok (.getfield 1, 3) := by decide +kernel
theorem d22_19 : decode jdk_49_method_1_code 19 = .ok (.getfield 17, 3) := by decide +kernel
theorem d22_22 : decode jdk_49_method_1_code 22 = .ok (.putfield 22, 3) := by decide +kernel
theorem d22_25 : decode jdk_49_method_1_code 25 = .ok (.return_, 1) := by decide +kernel
theorem pn22 : plainName "java/util/ArrayList$Itr" = true := by first | (simp [plainName, overriddenIn]; done) | decide +kernel
theorem ef22 (m : MethodId) (r0 : Addr) (r1 : Addr) : entryFrame m #[(.ref r0), (.ref r1)] 2 = mkF m 0 #[.val (.ref r0), .val (.ref r1)] [] := by first | (simp [entryFrame, mkF, argsToLocals, Value.category]; done) | rfl
def Q22 (Z : State) (r0 r1 : Addr) (h0 : Heap) (n0 : Nat) (w : Option Value) (h : Heap) (L : List Loc) : Prop := w = none ∧ Fr n0 L ∧ Keep h0 h [r0] ∧ Exa Z h r0 "java/util/ArrayList$Itr" ∧ Fld Z h r0 "java/util/ArrayList$Itr" "cursor" "I" (.int (0 : Int32)) ∧ Fld Z h r0 "java/util/ArrayList$Itr" "lastRet" "I" (.int (-1 : Int32)) ∧ Fld Z h r0 "java/util/ArrayList$Itr" "expectedModCount" "I" (.int (2 : Int32)) ∧ Fld Z h r0 "java/util/ArrayList$Itr" "this$0" "Ljava/util/ArrayList;" (.ref r1)
set_option maxRecDepth 65536 in
set_option maxHeartbeats 40000000 in
theorem rm22 (l : Launch) (Z : State) (a0 : Array Value) (hw : ∀ d ∈ tables_1, d.before a0 Z = true) (ws : List Jvm.Cond) (r0 : Addr) (r1 : Addr) (ea : Addr) (h0 : Heap) (n0 : Nat) (Z0 : n0 ≤ h0.size) (Ei : Exa Z h0 r0 "java/util/ArrayList$Itr") (Ic : Fld Z h0 r0 "java/util/ArrayList$Itr" "cursor" "I" (.int (0 : Int32))) (Il : Fld Z h0 r0 "java/util/ArrayList$Itr" "lastRet" "I" (.int (0 : Int32))) (Ix : Fld Z h0 r0 "java/util/ArrayList$Itr" "expectedModCount" "I" (.int (0 : Int32))) (It : Fld Z h0 r0 "java/util/ArrayList$Itr" "this$0" "Ljava/util/ArrayList;" .null) (E_al : Exa Z h0 r1 "java/util/ArrayList") (F_e : Fld Z h0 r1 "java/util/ArrayList" "elementData" "[Ljava/lang/Object;" (.ref ea)) (F_s : Fld Z h0 r1 "java/util/ArrayList" "size" "I" (.int (2 : Int32))) (F_m : Fld Z h0 r1 "java/util/AbstractList" "modCount" "I" (.int (2 : Int32))) (ne_r1 : r1 ≠ r0) (g_r0 : n0 ≤ r0) :
    MetFree l mN22 (head1 (Jvm.Cond.code mN22 jdk_49_method_1_code 2 none :: ws) ({ frames := 1, cells := 0, slots := 0, locals := 12 } : Room)) (fun a U => a = #[(.ref r0), (.ref r1)] ∧ Z.Warmed39 U.vm ∧ U.heap = h0) (fun _ _ _ _ _ => True) (fun _ U o U' => ∃ v L, o = .returned v ∧ Q22 Z r0 r1 h0 n0 v U'.heap L ∧ FrameEnd U o U' L ({ frames := 1, cells := 0, slots := 0, locals := 12 } : Room).cells ({ frames := 1, cells := 0, slots := 0, locals := 12 } : Room).slots) := by
  refine MetFree.of_bodySF (plainFor_of_name pn22) hisR ?_
  intro p e s m args below meth c s₁ Bd hml0 hP hK
  obtain ⟨rfl, hZ, hh⟩ := hP
  have hx := Bd.exec
  have hby := Bd.bytes
  have hml : c.maxLocals = 2 := hml0
  have hown : s.vm.findClass "java/util/ArrayList$Itr" = some m.cls := findClass_of_methodNamed Bd.named
  have hnm := (name_of_methodNamed Bd.named Bd.method).1
  have X0 : Stand p l e ({ frames := 1, cells := 0, slots := 0, locals := 12 } : Room) s m #[(.ref r0), (.ref r1)] below meth c s₁ [] 0 0 := Stand.of_body Bd
  have e0 : s₁.heap = h0 := by rw [← hh, Bd.state]; rfl
  have N0 := Fr.nil n0
  refine own_fw (A := s₁.setTop (mkF m 0 #[.val (.ref r0), .val (.ref r1)] [])) (fun t k => castTop (ef22 m r0 r1) k) ?_
  refine own_fw (A := s₁.setTop (mkF m 2 #[.val (.ref r0), .val (.ref r1)] [(.ref r1), (.ref r0)])) (fun t k => ?_) ?_
  · refine ox_aloadN X0.here hx (hb hby d22_0) rfl rfl ?_
    refine ox_aloadN X0.here hx (hb hby d22_1) rfl rfl ?_
    exact k
  obtain ⟨T22_1, h22_1, X22_1, e22_1, W22_1, st22_1⟩ := putF X0 hx hZ hown (host := "") (Or.inl (own_w hw 146 rfl)) Via.refl e0 It Ei (Or.inr ⟨(own_w hw 147 rfl), rfl, hnm⟩) (own_w hw 140 rfl) (ty := (.object "java/util/ArrayList")) (by decide) rfl rfl (g := (mkF m 2 #[.val (.ref r0), .val (.ref r1)] [(.ref r1), (.ref r0)])) rfl rfl (hb hby d22_2)
  have Fw22_1 := It.same W22_1
  have N22_1 := Fr.snoc X22_1 N0 g_r0
  refine own_fw st22_1 ?_
  refine own_fw (A := T22_1.setTop (mkF m 6 #[.val (.ref r0), .val (.ref r1)] [(.ref r0)])) (fun t k => ?_) ?_
  · refine ox_aloadN X22_1.here hx (hb hby d22_5) rfl rfl ?_
    exact k
  obtain ⟨T22_2, X22_2, e22_2, st22_2⟩ := initO X22_1 hx hZ hown (own_w hw 148 rfl) (own_w hw 12 rfl) (own_w hw 13 rfl) e22_1 (g := (mkF m 6 #[.val (.ref r0), .val (.ref r1)] [(.ref r0)])) rfl (by rw [hml]; rfl) rfl (hb hby d22_6) (by decide) (W := 0) (own_mr rfl) (by decide)
  refine own_fw st22_2 ?_
  refine own_fw (A := T22_2.setTop (mkF m 11 #[.val (.ref r0), .val (.ref r1)] [(.int (-1 : Int32)), (.ref r0)])) (fun t k => ?_) ?_
  · refine ox_aloadN X22_2.here hx (hb hby d22_9) rfl rfl ?_
    refine ox_iconst X22_2.here hx (hb hby d22_10) ?_
    exact k
  obtain ⟨T22_3, h22_3, X22_3, e22_3, W22_3, st22_3⟩ := putF X22_2 hx hZ hown (host := "") (Or.inl (own_w hw 149 rfl)) Via.refl e22_2 (Il.other W22_1 (Or.inr (slot_ne (Or.inl (own_w hw 150 rfl)) (Or.inr (own_w hw 147 rfl)) (by decide) (t := .int) (t' := (.object "java/util/ArrayList")) (by decide) (by decide)))) (Ei.wr W22_1) (Or.inl (own_w hw 150 rfl)) (own_w hw 140 rfl) (ty := .int) (by decide) rfl rfl (g := (mkF m 11 #[.val (.ref r0), .val (.ref r1)] [(.int (-1 : Int32)), (.ref r0)])) rfl rfl (hb hby d22_11)
  have Fw22_3 := (Il.other W22_1 (Or.inr (slot_ne (Or.inl (own_w hw 150 rfl)) (Or.inr (own_w hw 147 rfl)) (by decide) (t := .int) (t' := (.object "java/util/ArrayList")) (by decide) (by decide)))).same W22_3
  have N22_3 := Fr.snoc X22_3 N22_1 g_r0
  refine own_fw st22_3 ?_
  refine own_fw (A := T22_3.setTop (mkF m 16 #[.val (.ref r0), .val (.ref r1)] [(.ref r0), (.ref r0)])) (fun t k => ?_) ?_
  · refine ox_aloadN X22_3.here hx (hb hby d22_14) rfl rfl ?_
    refine ox_aloadN X22_3.here hx (hb hby d22_15) rfl rfl ?_
    exact k
  obtain ⟨T22_4, X22_4, e22_4, st22_4⟩ := getF X22_3 hx hZ hown (host := "") (Or.inl (own_w hw 146 rfl)) Via.refl e22_3 (Fw22_1.other W22_3 (Or.inr (slot_ne (Or.inr (own_w hw 147 rfl)) (Or.inl (own_w hw 150 rfl)) (by decide) (t := (.object "java/util/ArrayList")) (t' := .int) (by decide) (by decide)))) (g := (mkF m 16 #[.val (.ref r0), .val (.ref r1)] [(.ref r0), (.ref r0)])) rfl rfl (hb hby d22_16)
  refine own_fw st22_4 ?_
  obtain ⟨T22_5, X22_5, e22_5, st22_5⟩ := getF X22_4 hx hZ hown (host := "") (Or.inl (own_w hw 151 rfl)) (Via.of (own_w hw 101 rfl)) e22_4 ((F_m.other W22_1 (Or.inl ne_r1)).other W22_3 (Or.inl ne_r1)) (g := (mkF m 19 #[.val (.ref r0), .val (.ref r1)] [(.ref r1), (.ref r0)])) rfl rfl (hb hby d22_19)
  refine own_fw st22_5 ?_
  obtain ⟨T22_6, h22_6, X22_6, e22_6, W22_6, st22_6⟩ := putF X22_5 hx hZ hown (host := "") (Or.inl (own_w hw 152 rfl)) Via.refl e22_5 ((Ix.other W22_1 (Or.inr (slot_ne (Or.inl (own_w hw 153 rfl)) (Or.inr (own_w hw 147 rfl)) (by decide) (t := .int) (t' := (.object "java/util/ArrayList")) (by decide) (by decide)))).other W22_3 (Or.inr (slot_ne (Or.inl (own_w hw 153 rfl)) (Or.inl (own_w hw 150 rfl)) (by decide) (t := .int) (t' := .int) (by decide) (by decide)))) ((Ei.wr W22_1).wr W22_3) (Or.inl (own_w hw 153 rfl)) (own_w hw 140 rfl) (ty := .int) (by decide) rfl rfl (g := (mkF m 22 #[.val (.ref r0), .val (.ref r1)] [(.int (2 : Int32)), (.ref r0)])) rfl rfl (hb hby d22_22)
  have Fw22_6 := ((Ix.other W22_1 (Or.inr (slot_ne (Or.inl (own_w hw 153 rfl)) (Or.inr (own_w hw 147 rfl)) (by decide) (t := .int) (t' := (.object "java/util/ArrayList")) (by decide) (by decide)))).other W22_3 (Or.inr (slot_ne (Or.inl (own_w hw 153 rfl)) (Or.inl (own_w hw 150 rfl)) (by decide) (t := .int) (t' := .int) (by decide) (by decide)))).same W22_6
  have N22_6 := Fr.snoc X22_6 N22_3 g_r0
  refine own_fw st22_6 ?_
  obtain ⟨fs, hr, hrun, hended, hW, hsame⟩ := X22_6.leave (v := none) (fun _ => rfl) (BodyLoose.notSynchronized Bd)
  refine ⟨_, _, X22_6.returnOut hx Bd.returns (hb hby d22_25) hr, hrun, hended, _, _, rfl, ?_, ⟨_, rfl⟩, hW, hsame.mono (by decide) (by decide)⟩
  have eh : (T22_6.setFrames fs).heap = h22_6 := e22_6
  rw [eh]
  exact ⟨rfl, N22_6, ((((Keep.refl h0 [r0]).wr W22_1 (Or.inl (List.mem_of_getElem? (i := 0) rfl))).wr W22_3 (Or.inl (List.mem_of_getElem? (i := 0) rfl))).wr W22_6 (Or.inl (List.mem_of_getElem? (i := 0) rfl))), (((Ei.wr W22_1).wr W22_3).wr W22_6), (((Ic.other W22_1 (Or.inr (slot_ne (Or.inl (own_w hw 164 rfl)) (Or.inr (own_w hw 147 rfl)) (by decide) (t := .int) (t' := (.object "java/util/ArrayList")) (by decide) (by decide)))).other W22_3 (Or.inr (slot_ne (Or.inl (own_w hw 164 rfl)) (Or.inl (own_w hw 150 rfl)) (by decide) (t := .int) (t' := .int) (by decide) (by decide)))).other W22_6 (Or.inr (slot_ne (Or.inl (own_w hw 164 rfl)) (Or.inl (own_w hw 153 rfl)) (by decide) (t := .int) (t' := .int) (by decide) (by decide)))), (Fw22_3.other W22_6 (Or.inr (slot_ne (Or.inl (own_w hw 150 rfl)) (Or.inl (own_w hw 153 rfl)) (by decide) (t := .int) (t' := .int) (by decide) (by decide)))), Fw22_6, ((Fw22_1.other W22_3 (Or.inr (slot_ne (Or.inr (own_w hw 147 rfl)) (Or.inl (own_w hw 150 rfl)) (by decide) (t := (.object "java/util/ArrayList")) (t' := .int) (by decide) (by decide)))).other W22_6 (Or.inr (slot_ne (Or.inr (own_w hw 147 rfl)) (Or.inl (own_w hw 153 rfl)) (by decide) (t := (.object "java/util/ArrayList")) (t' := .int) (by decide) (by decide))))⟩
theorem d21_0 : decode jdk_38_method_55_code 0 = .ok (.new 267, 3) := by decide +kernel
theorem d21_3 : decode jdk_38_method_55_code 3 = .ok (.dup, 1) := by decide +kernel
theorem d21_4 : decode jdk_38_method_55_code 4 = .ok (.aload_n 0, 1) := by decide +kernel
theorem d21_5 : decode jdk_38_method_55_code 5 = .ok (.invokespecial 269, 3) := by decide +kernel
theorem d21_8 : decode jdk_38_method_55_code 8 = .ok (.areturn, 1) := by decide +kernel
theorem pn21 : plainName "java/util/ArrayList" = true := by first | (simp [plainName, overriddenIn]; done) | decide +kernel
theorem pd21_0 : parseMethodDescriptor "(Ljava/util/ArrayList;)V" = some ⟨[(.object "java/util/ArrayList")], none⟩ := by decide +kernel
theorem ef21 (m : MethodId) (r0 : Addr) : entryFrame m #[(.ref r0)] 1 = mkF m 0 #[.val (.ref r0)] [] := by first | (simp [entryFrame, mkF, argsToLocals, Value.category]; done) | rfl
def Q21 (Z : State) (r0 : Addr) (h0 : Heap) (n0 : Nat) (w : Option Value) (h : Heap) (L : List Loc) : Prop := ∃ b, w = some (.ref b) ∧ Fr n0 L ∧ Keep h0 h [] ∧ Exa Z h b "java/util/ArrayList$Itr" ∧ Fld Z h b "java/util/ArrayList$Itr" "cursor" "I" (.int (0 : Int32)) ∧ Fld Z h b "java/util/ArrayList$Itr" "lastRet" "I" (.int (-1 : Int32)) ∧ Fld Z h b "java/util/ArrayList$Itr" "expectedModCount" "I" (.int (2 : Int32)) ∧ Fld Z h b "java/util/ArrayList$Itr" "this$0" "Ljava/util/ArrayList;" (.ref r0) ∧ h0.size ≤ b
set_option maxRecDepth 65536 in
set_option maxHeartbeats 40000000 in
theorem rm21 (l : Launch) (Z : State) (a0 : Array Value) (hw : ∀ d ∈ tables_1, d.before a0 Z = true) (ws : List Jvm.Cond) (r0 : Addr) (ea : Addr) (h0 : Heap) (n0 : Nat) (Z0 : n0 ≤ h0.size) (E_al : Exa Z h0 r0 "java/util/ArrayList") (F_e : Fld Z h0 r0 "java/util/ArrayList" "elementData" "[Ljava/lang/Object;" (.ref ea)) (F_s : Fld Z h0 r0 "java/util/ArrayList" "size" "I" (.int (2 : Int32))) (F_m : Fld Z h0 r0 "java/util/AbstractList" "modCount" "I" (.int (2 : Int32))) :
    MetFree l mN15 (head1 (Jvm.Cond.code mN15 jdk_38_method_55_code 1 (some (.object "java/util/Iterator")) :: ws) ({ frames := 2, cells := 1, slots := 4, locals := 26 } : Room)) (fun a U => a = #[(.ref r0)] ∧ Z.Warmed39 U.vm ∧ U.heap = h0) (fun _ _ _ _ _ => True) (fun _ U o U' => ∃ v L, o = .returned v ∧ Q21 Z r0 h0 n0 v U'.heap L ∧ FrameEnd U o U' L ({ frames := 2, cells := 1, slots := 4, locals := 26 } : Room).cells ({ frames := 2, cells := 1, slots := 4, locals := 26 } : Room).slots) := by
  refine MetFree.of_bodySF (plainFor_of_name pn21) hisR ?_
  intro p e s m args below meth c s₁ Bd hml0 hP hK
  obtain ⟨rfl, hZ, hh⟩ := hP
  have hx := Bd.exec
  have hby := Bd.bytes
  have hml : c.maxLocals = 1 := hml0
  have hown : s.vm.findClass "java/util/ArrayList" = some m.cls := findClass_of_methodNamed Bd.named
  have hnm := (name_of_methodNamed Bd.named Bd.method).1
  have X0 : Stand p l e ({ frames := 2, cells := 1, slots := 4, locals := 26 } : Room) s m #[(.ref r0)] below meth c s₁ [] 0 0 := Stand.of_body Bd
  have e0 : s₁.heap = h0 := by rw [← hh, Bd.state]; rfl
  have N0 := Fr.nil n0
  refine own_fw (A := s₁.setTop (mkF m 0 #[.val (.ref r0)] [])) (fun t k => castTop (ef21 m r0) k) ?_
  obtain ⟨T21_1, h21_1, X21_1, e21_1, E21_1, A21_1, D21_1, -, st21_1⟩ := newO X0 hx hZ hown (own_w hw 139 rfl) (own_w hw 140 rfl) (own_w hw 141 rfl) e0 (g := (mkF m 0 #[.val (.ref r0)] [])) rfl (hb hby d21_0) (by decide) (by decide)
  obtain ⟨b21_1, g21_1⟩ : ∃ z, z = h0.size := ⟨_, rfl⟩
  rw [← g21_1] at A21_1 D21_1 st21_1
  have ne_r0_b21_1 : r0 ≠ b21_1 := Nat.ne_of_lt (Nat.lt_of_lt_of_le E_al.lt (Nat.le_of_eq g21_1.symm))
  have g_b21_1 : n0 ≤ b21_1 := Nat.le_trans Z0 (Nat.le_of_eq g21_1.symm)
  have sz_b21_1 : h0.size ≤ b21_1 := Nat.le_trans (Keep.refl h0 []).1 (Nat.le_of_eq g21_1.symm)
  have F_this_0_b21_1 : Fld Z h21_1 b21_1 "java/util/ArrayList$Itr" "this$0" "Ljava/util/ArrayList;" .null := D21_1 (Or.inr (own_w hw 147 rfl)) (ty := (.object "java/util/ArrayList")) (by decide)
  have F_lastRet_b21_1 : Fld Z h21_1 b21_1 "java/util/ArrayList$Itr" "lastRet" "I" (.int (0 : Int32)) := D21_1 (Or.inl (own_w hw 150 rfl)) (ty := .int) (by decide)
  have F_expectedModCount_b21_1 : Fld Z h21_1 b21_1 "java/util/ArrayList$Itr" "expectedModCount" "I" (.int (0 : Int32)) := D21_1 (Or.inl (own_w hw 153 rfl)) (ty := .int) (by decide)
  have F_cursor_b21_1 : Fld Z h21_1 b21_1 "java/util/ArrayList$Itr" "cursor" "I" (.int (0 : Int32)) := D21_1 (Or.inl (own_w hw 164 rfl)) (ty := .int) (by decide)
  refine own_fw st21_1 ?_
  refine own_fw (A := T21_1.setTop (mkF m 5 #[.val (.ref r0)] [(.ref r0), (.ref b21_1), (.ref b21_1)])) (fun t k => ?_) ?_
  · refine ox_dup X21_1.here hx (hb hby d21_3) rfl rfl ?_
    refine ox_aloadN X21_1.here hx (hb hby d21_4) rfl rfl ?_
    exact k
  obtain ⟨_, _, ⟨T21_2, L21_2, k21_2, n21_2⟩, -, X21_2, ⟨Lc21_2, hQ21_2, l21_2, y21_2, z21_2⟩, st21_2⟩ := X21_1.specialBack hx (y := mN22) rfl hown (mvT hZ (own_w hw 142 rfl)) (mvT hZ (own_w hw 143 rfl)) (mvT hZ (own_w hw 145 rfl)) (by decide) (backOf (W := 1) (rm22 l Z a0 hw [] b21_1 r0 ea h21_1 n0 (Nat.le_trans Z0 E21_1.1) A21_1 F_cursor_b21_1 F_lastRet_b21_1 F_expectedModCount_b21_1 F_this_0_b21_1 (E_al.ext E21_1) (F_e.ext E21_1) (F_s.ext E21_1) (F_m.ext E21_1) ne_r0_b21_1 g_b21_1) hZ (own_w hw 145 rfl) (own_w hw 141 rfl) (by decide) (by decide)) (g := (mkF m 5 #[.val (.ref r0)] [(.ref r0), (.ref b21_1), (.ref b21_1)])) rfl (by rw [hml]; rfl) (Steps.refl _) (a := b21_1) (argsL := [(.ref r0)]) (rest := [(.ref b21_1)]) (lenOf pd21_0 rfl) rfl (own_mr rfl) (hb hby d21_5) (fun _ _ => ⟨rfl, e21_1, (by decide : 1 + 0 ≤ _), (by decide : 4 + 0 ≤ _)⟩)
  dsimp only [Pt.U, Pt.locs, Pt.cells, Pt.slots] at X21_2 l21_2 y21_2 z21_2 st21_2 hQ21_2
  subst l21_2 y21_2 z21_2
  obtain ⟨rfl, N21_2q, K21_2, Ei21_2, Ic21_2, Il21_2, Ix21_2, It21_2⟩ := hQ21_2
  have N21_2 := Fr.app N0 N21_2q
  refine own_fw (fun t k => st21_2.trans k) ?_
  obtain ⟨fs, hr, hrun, hended, hW, hsame⟩ := X21_2.leave (v := some (.ref b21_1)) (own_ret Bd.returns) (BodyLoose.notSynchronized Bd)
  refine ⟨_, _, retA (ty := (.object "java/util/Iterator")) X21_2 hx rfl rfl Bd.returns (hb hby d21_8) hr, hrun, hended, _, _, rfl, ?_, ⟨_, rfl⟩, hW, hsame.mono (by decide) (by decide)⟩
  have eh : (T21_2.setFrames fs).heap = T21_2.heap := rfl
  rw [eh]
  exact ⟨b21_1, rfl, N21_2, (((Keep.refl h0 []).ext E21_1).trans K21_2 (allS (Or.inr sz_b21_1) all0)), Ei21_2, Ic21_2, Il21_2, Ix21_2, It21_2, sz_b21_1⟩
theorem d23_0 : decode jdk_49_method_2_code 0 = .ok (.aload_n 0, 1) := by decide +kernel
theorem d23_1 : decode jdk_49_method_2_code 1 = .ok (.getfield 25, 3) := by decide +kernel
theorem d23_4 : decode jdk_49_method_2_code 4 = .ok (.aload_n 0, 1) := by decide +kernel
theorem d23_5 : decode jdk_49_method_2_code 5 = .ok (.getfield 1, 3) := by decide +kernel
theorem d23_8 : decode jdk_49_method_2_code 8 = .ok (.getfield 28, 3) := by decide +kernel
theorem d23_11 : decode jdk_49_method_2_code 11 = .ok (.if_icmp .eq 7, 3) := by decide +kernel
theorem d23_14 : decode jdk_49_method_2_code 14 = .ok (.iconst 1, 1) := by decide +kernel
theorem d23_15 : decode jdk_49_method_2_code 15 = .ok (.goto 4, 3) := by decide +kernel
theorem d23_18 : decode jdk_49_method_2_code 18 = .ok (.iconst 0, 1) := by decide +kernel
theorem d23_19 : decode jdk_49_method_2_code 19 = .ok (.ireturn, 1) := by decide +kernel
theorem pn23 : plainName "java/util/ArrayList$Itr" = true := by first | (simp [plainName, overriddenIn]; done) | decide +kernel
theorem ef23 (m : MethodId) (r0 : Addr) : entryFrame m #[(.ref r0)] 1 = mkF m 0 #[.val (.ref r0)] [] := by first | (simp [entryFrame, mkF, argsToLocals, Value.category]; done) | rfl
def f_hn (cu : Int32) : Int32 := (if cu = (2 : Int32) then (nar .boolean (0 : Int32)) else (nar .boolean (1 : Int32)))
def Q23 (Z : State) (z : Int32) (h0 : Heap) (n0 : Nat) (w : Option Value) (h : Heap) (L : List Loc) : Prop := w = some (.int z) ∧ Fr n0 L ∧ h = h0
set_option maxRecDepth 65536 in
set_option maxHeartbeats 40000000 in
theorem rm23 (l : Launch) (Z : State) (a0 : Array Value) (hw : ∀ d ∈ tables_1, d.before a0 Z = true) (ws : List Jvm.Cond) (r0 : Addr) (al : Addr) (cu : Int32) (h0 : Heap) (n0 : Nat) (Z0 : n0 ≤ h0.size) (Ic : Fld Z h0 r0 "java/util/ArrayList$Itr" "cursor" "I" (.int cu)) (It : Fld Z h0 r0 "java/util/ArrayList$Itr" "this$0" "Ljava/util/ArrayList;" (.ref al)) (F_s : Fld Z h0 al "java/util/ArrayList" "size" "I" (.int (2 : Int32))) :
    MetFree l mN4 (head1 (Jvm.Cond.code mN4 jdk_49_method_2_code 1 (some .boolean) :: ws) ({ frames := 0, cells := 0, slots := 0, locals := 0 } : Room)) (fun a U => a = #[(.ref r0)] ∧ Z.Warmed39 U.vm ∧ U.heap = h0) (fun _ _ _ _ _ => True) (fun _ U o U' => ∃ v L, o = .returned v ∧ Q23 Z (f_hn cu) h0 n0 v U'.heap L ∧ FrameEnd U o U' L ({ frames := 0, cells := 0, slots := 0, locals := 0 } : Room).cells ({ frames := 0, cells := 0, slots := 0, locals := 0 } : Room).slots) := by
  refine MetFree.of_bodySF (plainFor_of_name pn23) hisR ?_
  intro p e s m args below meth c s₁ Bd hml0 hP hK
  obtain ⟨rfl, hZ, hh⟩ := hP
  have hx := Bd.exec
  have hby := Bd.bytes
  have hml : c.maxLocals = 1 := hml0
  have hown : s.vm.findClass "java/util/ArrayList$Itr" = some m.cls := findClass_of_methodNamed Bd.named
  have hnm := (name_of_methodNamed Bd.named Bd.method).1
  have X0 : Stand p l e ({ frames := 0, cells := 0, slots := 0, locals := 0 } : Room) s m #[(.ref r0)] below meth c s₁ [] 0 0 := Stand.of_body Bd
  have e0 : s₁.heap = h0 := by rw [← hh, Bd.state]; rfl
  have N0 := Fr.nil n0
  refine own_fw (A := s₁.setTop (mkF m 0 #[.val (.ref r0)] [])) (fun t k => castTop (ef23 m r0) k) ?_
  refine own_fw (A := s₁.setTop (mkF m 1 #[.val (.ref r0)] [(.ref r0)])) (fun t k => ?_) ?_
  · refine ox_aloadN X0.here hx (hb hby d23_0) rfl rfl ?_
    exact k
  obtain ⟨T23_1, X23_1, e23_1, st23_1⟩ := getF X0 hx hZ hown (host := "") (Or.inl (own_w hw 163 rfl)) Via.refl e0 Ic (g := (mkF m 1 #[.val (.ref r0)] [(.ref r0)])) rfl rfl (hb hby d23_1)
  refine own_fw st23_1 ?_
  refine own_fw (A := T23_1.setTop (mkF m 5 #[.val (.ref r0)] [(.ref r0), (.int cu)])) (fun t k => ?_) ?_
  · refine ox_aloadN X23_1.here hx (hb hby d23_4) rfl rfl ?_
    exact k
  obtain ⟨T23_2, X23_2, e23_2, st23_2⟩ := getF X23_1 hx hZ hown (host := "") (Or.inl (own_w hw 146 rfl)) Via.refl e23_1 It (g := (mkF m 5 #[.val (.ref r0)] [(.ref r0), (.int cu)])) rfl rfl (hb hby d23_5)
  refine own_fw st23_2 ?_
  obtain ⟨T23_3, X23_3, e23_3, st23_3⟩ := getF X23_2 hx hZ hown (Or.inr (own_w hw 165 rfl)) Via.refl e23_2 F_s (g := (mkF m 8 #[.val (.ref r0)] [(.ref al), (.int cu)])) rfl rfl (hb hby d23_8)
  refine own_fw st23_3 ?_
  by_cases hc23_1 : cu = (2 : Int32)
  · refine own_fw (A := T23_3.setTop (mkF m 18 #[.val (.ref r0)] [])) (fun t k => ?_) ?_
    · refine ox_icmpYes X23_3.here hx (pc0 := 11) (pc' := 18) rfl (hb hby d23_11) rfl (teq hc23_1).1 (by decide) (by decide) ?_
      exact k
    refine own_fw (A := T23_3.setTop (mkF m 19 #[.val (.ref r0)] [(.int (0 : Int32))])) (fun t k => ?_) ?_
    · refine ox_iconst X23_3.here hx (hb hby d23_18) ?_
      exact k
    obtain ⟨fs, hr, hrun, hended, hW, hsame⟩ := X23_3.leave (v := some (.int (nar .boolean (0 : Int32)))) (own_ret Bd.returns) (BodyLoose.notSynchronized Bd)
    refine ⟨_, _, retN X23_3 hx (t := .boolean) Bd.returns (by simp) (hb hby d23_19) hr, hrun, hended, _, _, rfl, ?_, ⟨_, rfl⟩, hW, hsame.mono (by decide) (by decide)⟩
    have eh : (T23_3.setFrames fs).heap = h0 := e23_3
    rw [eh]
    exact ⟨by rw [f_hn, if_pos hc23_1], N0, rfl⟩
  · refine own_fw (A := T23_3.setTop (mkF m 14 #[.val (.ref r0)] [])) (fun t k => ?_) ?_
    · refine ox_icmpNo X23_3.here hx (hb hby d23_11) rfl (feq hc23_1).1 ?_
      exact k
    refine own_fw (A := T23_3.setTop (mkF m 19 #[.val (.ref r0)] [(.int (1 : Int32))])) (fun t k => ?_) ?_
    · refine ox_iconst X23_3.here hx (hb hby d23_14) ?_
      refine ox_goto X23_3.here hx (pc0 := 15) (pc' := 19) rfl (hb hby d23_15) (by decide) (by decide) ?_
      exact k
    obtain ⟨fs, hr, hrun, hended, hW, hsame⟩ := X23_3.leave (v := some (.int (nar .boolean (1 : Int32)))) (own_ret Bd.returns) (BodyLoose.notSynchronized Bd)
    refine ⟨_, _, retN X23_3 hx (t := .boolean) Bd.returns (by simp) (hb hby d23_19) hr, hrun, hended, _, _, rfl, ?_, ⟨_, rfl⟩, hW, hsame.mono (by decide) (by decide)⟩
    have eh : (T23_3.setFrames fs).heap = h0 := e23_3
    rw [eh]
    exact ⟨by rw [f_hn, if_neg hc23_1], N0, rfl⟩
theorem d25_0 : decode jdk_49_method_6_code 0 = .ok (.aload_n 0, 1) := by decide +kernel
theorem d25_1 : decode jdk_49_method_6_code 1 = .ok (.getfield 1, 3) := by decide +kernel
theorem d25_4 : decode jdk_49_method_6_code 4 = .ok (.getfield 17, 3) := by decide +kernel
theorem d25_7 : decode jdk_49_method_6_code 7 = .ok (.aload_n 0, 1) := by decide +kernel
theorem d25_8 : decode jdk_49_method_6_code 8 = .ok (.getfield 22, 3) := by decide +kernel
theorem d25_11 : decode jdk_49_method_6_code 11 = .ok (.if_icmp .eq 11, 3) := by decide +kernel
theorem d25_22 : decode jdk_49_method_6_code 22 = .ok (.return_, 1) := by decide +kernel
theorem pn25 : plainName "java/util/ArrayList$Itr" = true := by first | (simp [plainName, overriddenIn]; done) | decide +kernel
theorem ef25 (m : MethodId) (r0 : Addr) : entryFrame m #[(.ref r0)] 1 = mkF m 0 #[.val (.ref r0)] [] := by first | (simp [entryFrame, mkF, argsToLocals, Value.category]; done) | rfl
def Q25 (Z : State)  (h0 : Heap) (n0 : Nat) (w : Option Value) (h : Heap) (L : List Loc) : Prop := w = none ∧ Fr n0 L ∧ h = h0
set_option maxRecDepth 65536 in
set_option maxHeartbeats 40000000 in
theorem rm25 (l : Launch) (Z : State) (a0 : Array Value) (hw : ∀ d ∈ tables_1, d.before a0 Z = true) (ws : List Jvm.Cond) (r0 : Addr) (al : Addr) (h0 : Heap) (n0 : Nat) (Z0 : n0 ≤ h0.size) (Ix : Fld Z h0 r0 "java/util/ArrayList$Itr" "expectedModCount" "I" (.int (2 : Int32))) (It : Fld Z h0 r0 "java/util/ArrayList$Itr" "this$0" "Ljava/util/ArrayList;" (.ref al)) (F_m : Fld Z h0 al "java/util/AbstractList" "modCount" "I" (.int (2 : Int32))) :
    MetFree l mN9 (head1 (Jvm.Cond.code mN9 jdk_49_method_6_code 1 none :: ws) ({ frames := 0, cells := 0, slots := 0, locals := 0 } : Room)) (fun a U => a = #[(.ref r0)] ∧ Z.Warmed39 U.vm ∧ U.heap = h0) (fun _ _ _ _ _ => True) (fun _ U o U' => ∃ v L, o = .returned v ∧ Q25 Z  h0 n0 v U'.heap L ∧ FrameEnd U o U' L ({ frames := 0, cells := 0, slots := 0, locals := 0 } : Room).cells ({ frames := 0, cells := 0, slots := 0, locals := 0 } : Room).slots) := by
  refine MetFree.of_bodySF (plainFor_of_name pn25) hisR ?_
  intro p e s m args below meth c s₁ Bd hml0 hP hK
  obtain ⟨rfl, hZ, hh⟩ := hP
  have hx := Bd.exec
  have hby := Bd.bytes
  have hml : c.maxLocals = 1 := hml0
  have hown : s.vm.findClass "java/util/ArrayList$Itr" = some m.cls := findClass_of_methodNamed Bd.named
  have hnm := (name_of_methodNamed Bd.named Bd.method).1
  have X0 : Stand p l e ({ frames := 0, cells := 0, slots := 0, locals := 0 } : Room) s m #[(.ref r0)] below meth c s₁ [] 0 0 := Stand.of_body Bd
  have e0 : s₁.heap = h0 := by rw [← hh, Bd.state]; rfl
  have N0 := Fr.nil n0
  refine own_fw (A := s₁.setTop (mkF m 0 #[.val (.ref r0)] [])) (fun t k => castTop (ef25 m r0) k) ?_
  refine own_fw (A := s₁.setTop (mkF m 1 #[.val (.ref r0)] [(.ref r0)])) (fun t k => ?_) ?_
  · refine ox_aloadN X0.here hx (hb hby d25_0) rfl rfl ?_
    exact k
  obtain ⟨T25_1, X25_1, e25_1, st25_1⟩ := getF X0 hx hZ hown (host := "") (Or.inl (own_w hw 146 rfl)) Via.refl e0 It (g := (mkF m 1 #[.val (.ref r0)] [(.ref r0)])) rfl rfl (hb hby d25_1)
  refine own_fw st25_1 ?_
  obtain ⟨T25_2, X25_2, e25_2, st25_2⟩ := getF X25_1 hx hZ hown (host := "") (Or.inl (own_w hw 151 rfl)) (Via.of (own_w hw 101 rfl)) e25_1 F_m (g := (mkF m 4 #[.val (.ref r0)] [(.ref al)])) rfl rfl (hb hby d25_4)
  refine own_fw st25_2 ?_
  refine own_fw (A := T25_2.setTop (mkF m 8 #[.val (.ref r0)] [(.ref r0), (.int (2 : Int32))])) (fun t k => ?_) ?_
  · refine ox_aloadN X25_2.here hx (hb hby d25_7) rfl rfl ?_
    exact k
  obtain ⟨T25_3, X25_3, e25_3, st25_3⟩ := getF X25_2 hx hZ hown (host := "") (Or.inl (own_w hw 152 rfl)) Via.refl e25_2 Ix (g := (mkF m 8 #[.val (.ref r0)] [(.ref r0), (.int (2 : Int32))])) rfl rfl (hb hby d25_8)
  refine own_fw st25_3 ?_
  refine own_fw (A := T25_3.setTop (mkF m 22 #[.val (.ref r0)] [])) (fun t k => ?_) ?_
  · refine ox_icmpYes X25_3.here hx (pc0 := 11) (pc' := 22) rfl (hb hby d25_11) rfl (teq (rfl : (2 : Int32) = (2 : Int32))).1 (by decide) (by decide) ?_
    exact k
  obtain ⟨fs, hr, hrun, hended, hW, hsame⟩ := X25_3.leave (v := none) (fun _ => rfl) (BodyLoose.notSynchronized Bd)
  refine ⟨_, _, X25_3.returnOut hx Bd.returns (hb hby d25_22) hr, hrun, hended, _, _, rfl, ?_, ⟨_, rfl⟩, hW, hsame.mono (by decide) (by decide)⟩
  have eh : (T25_3.setFrames fs).heap = h0 := e25_3
  rw [eh]
  exact ⟨rfl, N0, rfl⟩
theorem d24_0 : decode jdk_49_method_3_code 0 = .ok (.aload_n 0, 1) := by decide +kernel
theorem d24_1 : decode jdk_49_method_3_code 1 = .ok (.invokevirtual 31, 3) := by decide +kernel
theorem d24_4 : decode jdk_49_method_3_code 4 = .ok (.aload_n 0, 1) := by decide +kernel
theorem d24_5 : decode jdk_49_method_3_code 5 = .ok (.getfield 25, 3) := by decide +kernel
theorem d24_8 : decode jdk_49_method_3_code 8 = .ok (.istore_n 1, 1) := by decide +kernel
theorem d24_9 : decode jdk_49_method_3_code 9 = .ok (.iload_n 1, 1) := by decide +kernel
theorem d24_10 : decode jdk_49_method_3_code 10 = .ok (.aload_n 0, 1) := by decide +kernel
theorem d24_11 : decode jdk_49_method_3_code 11 = .ok (.getfield 1, 3) := by decide +kernel
theorem d24_14 : decode jdk_49_method_3_code 14 = .ok (.getfield 28, 3) := by decide +kernel
theorem d24_17 : decode jdk_49_method_3_code 17 = .ok (.if_icmp .lt 11, 3) := by decide +kernel
theorem d24_28 : decode jdk_49_method_3_code 28 = .ok (.aload_n 0, 1) := by decide +kernel
theorem d24_29 : decode jdk_49_method_3_code 29 = .ok (.getfield 1, 3) := by decide +kernel
theorem d24_32 : decode jdk_49_method_3_code 32 = .ok (.getfield 37, 3) := by decide +kernel
theorem d24_35 : decode jdk_49_method_3_code 35 = .ok (.astore_n 2, 1) := by decide +kernel
theorem d24_36 : decode jdk_49_method_3_code 36 = .ok (.iload_n 1, 1) := by decide +kernel
theorem d24_37 : decode jdk_49_method_3_code 37 = .ok (.aload_n 2, 1) := by decide +kernel
theorem d24_38 : decode jdk_49_method_3_code 38 = .ok (.arraylength, 1) := by decide +kernel
theorem d24_39 : decode jdk_49_method_3_code 39 = .ok (.if_icmp .lt 11, 3) := by decide +kernel
theorem d24_50 : decode jdk_49_method_3_code 50 = .ok (.aload_n 0, 1) := by decide +kernel
theorem d24_51 : decode jdk_49_method_3_code 51 = .ok (.iload_n 1, 1) := by decide +kernel
theorem d24_52 : decode jdk_49_method_3_code 52 = .ok (.iconst 1, 1) := by decide +kernel
theorem d24_53 : decode jdk_49_method_3_code 53 = .ok (.iadd, 1) := by decide +kernel
theorem d24_54 : decode jdk_49_method_3_code 54 = .ok (.putfield 25, 3) := by decide +kernel
theorem d24_57 : decode jdk_49_method_3_code 57 = .ok (.aload_n 2, 1) := by decide +kernel
theorem d24_58 : decode jdk_49_method_3_code 58 = .ok (.aload_n 0, 1) := by decide +kernel
theorem d24_59 : decode jdk_49_method_3_code 59 = .ok (.iload_n 1, 1) := by decide +kernel
theorem d24_60 : decode jdk_49_method_3_code 60 = .ok (.dup_x1, 1) := by decide +kernel
theorem d24_61 : decode jdk_49_method_3_code 61 = .ok (.putfield 13, 3) := by decide +kernel
theorem d24_64 : decode jdk_49_method_3_code 64 = .ok (.aaload, 1) := by decide +kernel
theorem d24_65 : decode jdk_49_method_3_code 65 = .ok (.areturn, 1) := by decide +kernel
theorem pn24 : plainName "java/util/ArrayList$Itr" = true := by first | (simp [plainName, overriddenIn]; done) | decide +kernel
theorem pd24_0 : parseMethodDescriptor "()V" = some ⟨[], none⟩ := by decide +kernel
theorem ef24 (m : MethodId) (r0 : Addr) : entryFrame m #[(.ref r0)] 3 = mkF m 0 #[.val (.ref r0), .unset, .unset] [] := by first | (simp [entryFrame, mkF, argsToLocals, Value.category]; done) | rfl
def Q24 (Z : State) (r0 al x : Addr) (cu lr : Int32) (h0 : Heap) (n0 : Nat) (w : Option Value) (h : Heap) (L : List Loc) : Prop := w = some (.ref x) ∧ Fr n0 L ∧ Keep h0 h [r0] ∧ Exa Z h r0 "java/util/ArrayList$Itr" ∧ Fld Z h r0 "java/util/ArrayList$Itr" "cursor" "I" (.int cu) ∧ Fld Z h r0 "java/util/ArrayList$Itr" "lastRet" "I" (.int lr) ∧ Fld Z h r0 "java/util/ArrayList$Itr" "expectedModCount" "I" (.int (2 : Int32)) ∧ Fld Z h r0 "java/util/ArrayList$Itr" "this$0" "Ljava/util/ArrayList;" (.ref al)
set_option maxRecDepth 65536 in
set_option maxHeartbeats 40000000 in
theorem rmNX_0 (l : Launch) (Z : State) (a0 : Array Value) (hw : ∀ d ∈ tables_1, d.before a0 Z = true) (ws : List Jvm.Cond) (r0 : Addr) (al : Addr) (ea : Addr) (kb : ClassId) (x0 : Addr) (x1 : Addr) (h0 : Heap) (n0 : Nat) (Z0 : n0 ≤ h0.size) (Ei : Exa Z h0 r0 "java/util/ArrayList$Itr") (Ic : Fld Z h0 r0 "java/util/ArrayList$Itr" "cursor" "I" (.int (0 : Int32))) (Il : Fld Z h0 r0 "java/util/ArrayList$Itr" "lastRet" "I" (.int (-1 : Int32))) (Ix : Fld Z h0 r0 "java/util/ArrayList$Itr" "expectedModCount" "I" (.int (2 : Int32))) (It : Fld Z h0 r0 "java/util/ArrayList$Itr" "this$0" "Ljava/util/ArrayList;" (.ref al)) (E_al : Exa Z h0 al "java/util/ArrayList") (F_e : Fld Z h0 al "java/util/ArrayList" "elementData" "[Ljava/lang/Object;" (.ref ea)) (F_s : Fld Z h0 al "java/util/ArrayList" "size" "I" (.int (2 : Int32))) (F_m : Fld Z h0 al "java/util/AbstractList" "modCount" "I" (.int (2 : Int32))) (V_e : Arv Z h0 ea kb (.object "java/lang/Object") 10 [(.ref x0), (.ref x1), .null, .null, .null, .null, .null, .null, .null, .null] .null) (ne_al : al ≠ r0) (ne_ea : ea ≠ r0) (g_r0 : n0 ≤ r0) :
    MetFree l mN5 (head1 (Jvm.Cond.code mN5 jdk_49_method_3_code 3 (some (.object "java/lang/Object")) :: ws) ({ frames := 1, cells := 0, slots := 0, locals := 12 } : Room)) (fun a U => a = #[(.ref r0)] ∧ Z.Warmed39 U.vm ∧ U.heap = h0) (fun _ _ _ _ _ => True) (fun _ U o U' => ∃ v L, o = .returned v ∧ Q24 Z r0 al x0 1 0 h0 n0 v U'.heap L ∧ FrameEnd U o U' L ({ frames := 1, cells := 0, slots := 0, locals := 12 } : Room).cells ({ frames := 1, cells := 0, slots := 0, locals := 12 } : Room).slots) := by
  refine MetFree.of_bodySF (plainFor_of_name pn24) hisR ?_
  intro p e s m args below meth c s₁ Bd hml0 hP hK
  obtain ⟨rfl, hZ, hh⟩ := hP
  have hx := Bd.exec
  have hby := Bd.bytes
  have hml : c.maxLocals = 3 := hml0
  have hown : s.vm.findClass "java/util/ArrayList$Itr" = some m.cls := findClass_of_methodNamed Bd.named
  have hnm := (name_of_methodNamed Bd.named Bd.method).1
  have X0 : Stand p l e ({ frames := 1, cells := 0, slots := 0, locals := 12 } : Room) s m #[(.ref r0)] below meth c s₁ [] 0 0 := Stand.of_body Bd
  have e0 : s₁.heap = h0 := by rw [← hh, Bd.state]; rfl
  have N0 := Fr.nil n0
  refine own_fw (A := s₁.setTop (mkF m 0 #[.val (.ref r0), .unset, .unset] [])) (fun t k => castTop (ef24 m r0) k) ?_
  refine own_fw (A := s₁.setTop (mkF m 1 #[.val (.ref r0), .unset, .unset] [(.ref r0)])) (fun t k => ?_) ?_
  · refine ox_aloadN X0.here hx (hb hby d24_0) rfl rfl ?_
    exact k
  obtain ⟨cq24_1, kq24_1, q24_1a, q24_1b, q24_1c⟩ := isOf hZ e0 Ei
  obtain ⟨_, _, ⟨T24_1, L24_1, k24_1, n24_1⟩, -, X24_1, ⟨Lc24_1, hQ24_1, l24_1, y24_1, z24_1⟩, st24_1⟩ := X0.virtualBack hx (y := mN9) (z := mN9) hown (mvT hZ (own_w hw 174 rfl)) (mvT hZ (own_w hw 175 rfl)) (notFace_of_selects (args := #[]) (mvT hZ (own_w hw 177 rfl))) (mvT hZ (own_w hw 177 rfl)) (mvT hZ (own_w hw 176 rfl)) (by decide) (backOf (W := 0) (rm25 l Z a0 hw [] r0 al h0 n0 Z0 Ix It F_m) hZ (own_w hw 178 rfl) (own_w hw 141 rfl) (by decide) (by decide)) q24_1a q24_1c (g := (mkF m 1 #[.val (.ref r0), .unset, .unset] [(.ref r0)])) rfl (by rw [hml]; rfl) (Steps.refl _) (argsL := []) (rest := []) (lenOf pd24_0 rfl) rfl (own_mr rfl) (hb hby d24_1) (fun _ _ => ⟨rfl, e0, (by decide : 0 + 0 ≤ _), (by decide : 0 + 0 ≤ _)⟩)
  dsimp only [Pt.U, Pt.locs, Pt.cells, Pt.slots] at X24_1 l24_1 y24_1 z24_1 st24_1 hQ24_1
  subst l24_1 y24_1 z24_1
  obtain ⟨rfl, N24_1q, e24_1⟩ := hQ24_1
  have N24_1 := Fr.app N0 N24_1q
  refine own_fw (fun t k => st24_1.trans k) ?_
  refine own_fw (A := T24_1.setTop (mkF m 5 #[.val (.ref r0), .unset, .unset] [(.ref r0)])) (fun t k => ?_) ?_
  · refine ox_aloadN X24_1.here hx (hb hby d24_4) rfl rfl ?_
    exact k
  obtain ⟨T24_2, X24_2, e24_2, st24_2⟩ := getF X24_1 hx hZ hown (host := "") (Or.inl (own_w hw 163 rfl)) Via.refl e24_1 Ic (g := (mkF m 5 #[.val (.ref r0), .unset, .unset] [(.ref r0)])) rfl rfl (hb hby d24_5)
  refine own_fw st24_2 ?_
  refine own_fw (A := T24_2.setTop (mkF m 11 #[.val (.ref r0), .val (.int (0 : Int32)), .unset] [(.ref r0), (.int (0 : Int32))])) (fun t k => ?_) ?_
  · refine ox_istoreN X24_2.here hx (hb hby d24_8) rfl (l' := #[.val (.ref r0), .val (.int (0 : Int32)), .unset]) rfl ?_
    refine ox_iloadN X24_2.here hx (hb hby d24_9) rfl ?_
    refine ox_aloadN X24_2.here hx (hb hby d24_10) rfl rfl ?_
    exact k
  obtain ⟨T24_3, X24_3, e24_3, st24_3⟩ := getF X24_2 hx hZ hown (host := "") (Or.inl (own_w hw 146 rfl)) Via.refl e24_2 It (g := (mkF m 11 #[.val (.ref r0), .val (.int (0 : Int32)), .unset] [(.ref r0), (.int (0 : Int32))])) rfl rfl (hb hby d24_11)
  refine own_fw st24_3 ?_
  obtain ⟨T24_4, X24_4, e24_4, st24_4⟩ := getF X24_3 hx hZ hown (Or.inr (own_w hw 165 rfl)) Via.refl e24_3 F_s (g := (mkF m 14 #[.val (.ref r0), .val (.int (0 : Int32)), .unset] [(.ref al), (.int (0 : Int32))])) rfl rfl (hb hby d24_14)
  refine own_fw st24_4 ?_
  refine own_fw (A := T24_4.setTop (mkF m 29 #[.val (.ref r0), .val (.int (0 : Int32)), .unset] [(.ref r0)])) (fun t k => ?_) ?_
  · refine ox_icmpYes X24_4.here hx (pc0 := 17) (pc' := 28) rfl (hb hby d24_17) rfl (tlt (by decide : ((0 : Int32) < (2 : Int32)))).1 (by decide) (by decide) ?_
    refine ox_aloadN X24_4.here hx (hb hby d24_28) rfl rfl ?_
    exact k
  obtain ⟨T24_5, X24_5, e24_5, st24_5⟩ := getF X24_4 hx hZ hown (host := "") (Or.inl (own_w hw 146 rfl)) Via.refl e24_4 It (g := (mkF m 29 #[.val (.ref r0), .val (.int (0 : Int32)), .unset] [(.ref r0)])) rfl rfl (hb hby d24_29)
  refine own_fw st24_5 ?_
  obtain ⟨T24_6, X24_6, e24_6, st24_6⟩ := getF X24_5 hx hZ hown (host := "") (Or.inl (own_w hw 179 rfl)) Via.refl e24_5 F_e (g := (mkF m 32 #[.val (.ref r0), .val (.int (0 : Int32)), .unset] [(.ref al)])) rfl rfl (hb hby d24_32)
  refine own_fw st24_6 ?_
  refine own_fw (A := T24_6.setTop (mkF m 38 #[.val (.ref r0), .val (.int (0 : Int32)), .val (.ref ea)] [(.ref ea), (.int (0 : Int32))])) (fun t k => ?_) ?_
  · refine ox_astoreN X24_6.here hx (hb hby d24_35) rfl rfl (l' := #[.val (.ref r0), .val (.int (0 : Int32)), .val (.ref ea)]) rfl ?_
    refine ox_iloadN X24_6.here hx (hb hby d24_36) rfl ?_
    refine ox_aloadN X24_6.here hx (hb hby d24_37) rfl rfl ?_
    exact k
  obtain ⟨cl24_7, Ar24_7, q24_7, S24_7, Ng24_7, Hs24_7, G24_7⟩ := id V_e
  have st24_7 := X24_6.arraylength hx (by rw [e24_6]; exact Ar24_7.1) (State.isArrayOf_alike hZ.alike Ar24_7.2.1) (g := (mkF m 38 #[.val (.ref r0), .val (.int (0 : Int32)), .val (.ref ea)] [(.ref ea), (.int (0 : Int32))])) rfl rfl (hb hby d24_38)
  rw [len_of S24_7 Ng24_7] at st24_7
  refine own_fw st24_7 ?_
  refine own_fw (A := T24_6.setTop (mkF m 54 #[.val (.ref r0), .val (.int (0 : Int32)), .val (.ref ea)] [(.int (1 : Int32)), (.ref r0)])) (fun t k => ?_) ?_
  · refine ox_icmpYes X24_6.here hx (pc0 := 39) (pc' := 50) rfl (hb hby d24_39) rfl (tlt (by decide : ((0 : Int32) < (10 : Int32)))).1 (by decide) (by decide) ?_
    refine ox_aloadN X24_6.here hx (hb hby d24_50) rfl rfl ?_
    refine ox_iloadN X24_6.here hx (hb hby d24_51) rfl ?_
    refine ox_iconst X24_6.here hx (hb hby d24_52) ?_
    refine ox_iadd X24_6.here hx (hb hby d24_53) rfl ?_
    exact k
  obtain ⟨T24_8, h24_8, X24_8, e24_8, W24_8, st24_8⟩ := putF X24_6 hx hZ hown (host := "") (Or.inl (own_w hw 163 rfl)) Via.refl e24_6 Ic Ei (Or.inl (own_w hw 164 rfl)) (own_w hw 140 rfl) (ty := .int) (by decide) rfl rfl (g := (mkF m 54 #[.val (.ref r0), .val (.int (0 : Int32)), .val (.ref ea)] [(.int (1 : Int32)), (.ref r0)])) rfl rfl (hb hby d24_54)
  have Fw24_8 := Ic.same W24_8
  have N24_8 := Fr.snoc X24_8 N24_1 g_r0
  refine own_fw st24_8 ?_
  refine own_fw (A := T24_8.setTop (mkF m 61 #[.val (.ref r0), .val (.int (0 : Int32)), .val (.ref ea)] [(.int (0 : Int32)), (.ref r0), (.int (0 : Int32)), (.ref ea)])) (fun t k => ?_) ?_
  · refine ox_aloadN X24_8.here hx (hb hby d24_57) rfl rfl ?_
    refine ox_aloadN X24_8.here hx (hb hby d24_58) rfl rfl ?_
    refine ox_iloadN X24_8.here hx (hb hby d24_59) rfl ?_
    refine ox_dupX1 X24_8.here hx (hb hby d24_60) rfl rfl rfl ?_
    exact k
  obtain ⟨T24_9, h24_9, X24_9, e24_9, W24_9, st24_9⟩ := putF X24_8 hx hZ hown (host := "") (Or.inl (own_w hw 149 rfl)) Via.refl e24_8 (Il.other W24_8 (Or.inr (slot_ne (Or.inl (own_w hw 150 rfl)) (Or.inl (own_w hw 164 rfl)) (by decide) (t := .int) (t' := .int) (by decide) (by decide)))) (Ei.wr W24_8) (Or.inl (own_w hw 150 rfl)) (own_w hw 140 rfl) (ty := .int) (by decide) rfl rfl (g := (mkF m 61 #[.val (.ref r0), .val (.int (0 : Int32)), .val (.ref ea)] [(.int (0 : Int32)), (.ref r0), (.int (0 : Int32)), (.ref ea)])) rfl rfl (hb hby d24_61)
  have Fw24_9 := (Il.other W24_8 (Or.inr (slot_ne (Or.inl (own_w hw 150 rfl)) (Or.inl (own_w hw 164 rfl)) (by decide) (t := .int) (t' := .int) (by decide) (by decide)))).same W24_9
  have N24_9 := Fr.snoc X24_9 N24_8 g_r0
  refine own_fw st24_9 ?_
  obtain ⟨cl24_10, Ar24_10, q24_10, S24_10, Ng24_10, Hs24_10, G24_10⟩ := id ((V_e.other W24_8 ne_ea).other W24_9 ne_ea)
  have hin24_10 : ¬ ((0 : Int32) < 0 ∨ cl24_10.slots.size ≤ ((0 : Int32)).toNatClampNeg) := inb_of S24_10 ⟨by decide, by decide⟩
  refine own_fw (X24_9.aaload hx (j := (0 : Int32)) (v := (.ref x0)) (by rw [e24_9]; exact Ar24_10.1) (State.isArrayOf_alike hZ.alike Ar24_10.2.1) rfl Ar24_10.2.2 hin24_10 (Has.at Hs24_10 hin24_10 rfl) (g := (mkF m 64 #[.val (.ref r0), .val (.int (0 : Int32)), .val (.ref ea)] [(.int (0 : Int32)), (.ref ea)])) rfl rfl (hb hby d24_64)) ?_
  obtain ⟨fs, hr, hrun, hended, hW, hsame⟩ := X24_9.leave (v := some (.ref x0)) (own_ret Bd.returns) (BodyLoose.notSynchronized Bd)
  refine ⟨_, _, retA (ty := (.object "java/lang/Object")) X24_9 hx rfl rfl Bd.returns (hb hby d24_65) hr, hrun, hended, _, _, rfl, ?_, ⟨_, rfl⟩, hW, hsame.mono (by decide) (by decide)⟩
  have eh : (T24_9.setFrames fs).heap = h24_9 := e24_9
  rw [eh]
  exact ⟨rfl, N24_9, (((Keep.refl h0 [r0]).wr W24_8 (Or.inl (List.mem_of_getElem? (i := 0) rfl))).wr W24_9 (Or.inl (List.mem_of_getElem? (i := 0) rfl))), ((Ei.wr W24_8).wr W24_9), (Fw24_8.other W24_9 (Or.inr (slot_ne (Or.inl (own_w hw 164 rfl)) (Or.inl (own_w hw 150 rfl)) (by decide) (t := .int) (t' := .int) (by decide) (by decide)))), Fw24_9, ((Ix.other W24_8 (Or.inr (slot_ne (Or.inl (own_w hw 153 rfl)) (Or.inl (own_w hw 164 rfl)) (by decide) (t := .int) (t' := .int) (by decide) (by decide)))).other W24_9 (Or.inr (slot_ne (Or.inl (own_w hw 153 rfl)) (Or.inl (own_w hw 150 rfl)) (by decide) (t := .int) (t' := .int) (by decide) (by decide)))), ((It.other W24_8 (Or.inr (slot_ne (Or.inr (own_w hw 147 rfl)) (Or.inl (own_w hw 164 rfl)) (by decide) (t := (.object "java/util/ArrayList")) (t' := .int) (by decide) (by decide)))).other W24_9 (Or.inr (slot_ne (Or.inr (own_w hw 147 rfl)) (Or.inl (own_w hw 150 rfl)) (by decide) (t := (.object "java/util/ArrayList")) (t' := .int) (by decide) (by decide))))⟩
set_option maxRecDepth 65536 in
set_option maxHeartbeats 40000000 in
theorem rmNX_1 (l : Launch) (Z : State) (a0 : Array Value) (hw : ∀ d ∈ tables_1, d.before a0 Z = true) (ws : List Jvm.Cond) (r0 : Addr) (al : Addr) (ea : Addr) (kb : ClassId) (x0 : Addr) (x1 : Addr) (h0 : Heap) (n0 : Nat) (Z0 : n0 ≤ h0.size) (Ei : Exa Z h0 r0 "java/util/ArrayList$Itr") (Ic : Fld Z h0 r0 "java/util/ArrayList$Itr" "cursor" "I" (.int (1 : Int32))) (Il : Fld Z h0 r0 "java/util/ArrayList$Itr" "lastRet" "I" (.int (0 : Int32))) (Ix : Fld Z h0 r0 "java/util/ArrayList$Itr" "expectedModCount" "I" (.int (2 : Int32))) (It : Fld Z h0 r0 "java/util/ArrayList$Itr" "this$0" "Ljava/util/ArrayList;" (.ref al)) (E_al : Exa Z h0 al "java/util/ArrayList") (F_e : Fld Z h0 al "java/util/ArrayList" "elementData" "[Ljava/lang/Object;" (.ref ea)) (F_s : Fld Z h0 al "java/util/ArrayList" "size" "I" (.int (2 : Int32))) (F_m : Fld Z h0 al "java/util/AbstractList" "modCount" "I" (.int (2 : Int32))) (V_e : Arv Z h0 ea kb (.object "java/lang/Object") 10 [(.ref x0), (.ref x1), .null, .null, .null, .null, .null, .null, .null, .null] .null) (ne_al : al ≠ r0) (ne_ea : ea ≠ r0) (g_r0 : n0 ≤ r0) :
    MetFree l mN5 (head1 (Jvm.Cond.code mN5 jdk_49_method_3_code 3 (some (.object "java/lang/Object")) :: ws) ({ frames := 1, cells := 0, slots := 0, locals := 12 } : Room)) (fun a U => a = #[(.ref r0)] ∧ Z.Warmed39 U.vm ∧ U.heap = h0) (fun _ _ _ _ _ => True) (fun _ U o U' => ∃ v L, o = .returned v ∧ Q24 Z r0 al x1 2 1 h0 n0 v U'.heap L ∧ FrameEnd U o U' L ({ frames := 1, cells := 0, slots := 0, locals := 12 } : Room).cells ({ frames := 1, cells := 0, slots := 0, locals := 12 } : Room).slots) := by
  refine MetFree.of_bodySF (plainFor_of_name pn24) hisR ?_
  intro p e s m args below meth c s₁ Bd hml0 hP hK
  obtain ⟨rfl, hZ, hh⟩ := hP
  have hx := Bd.exec
  have hby := Bd.bytes
  have hml : c.maxLocals = 3 := hml0
  have hown : s.vm.findClass "java/util/ArrayList$Itr" = some m.cls := findClass_of_methodNamed Bd.named
  have hnm := (name_of_methodNamed Bd.named Bd.method).1
  have X0 : Stand p l e ({ frames := 1, cells := 0, slots := 0, locals := 12 } : Room) s m #[(.ref r0)] below meth c s₁ [] 0 0 := Stand.of_body Bd
  have e0 : s₁.heap = h0 := by rw [← hh, Bd.state]; rfl
  have N0 := Fr.nil n0
  refine own_fw (A := s₁.setTop (mkF m 0 #[.val (.ref r0), .unset, .unset] [])) (fun t k => castTop (ef24 m r0) k) ?_
  refine own_fw (A := s₁.setTop (mkF m 1 #[.val (.ref r0), .unset, .unset] [(.ref r0)])) (fun t k => ?_) ?_
  · refine ox_aloadN X0.here hx (hb hby d24_0) rfl rfl ?_
    exact k
  obtain ⟨cq24_1, kq24_1, q24_1a, q24_1b, q24_1c⟩ := isOf hZ e0 Ei
  obtain ⟨_, _, ⟨T24_1, L24_1, k24_1, n24_1⟩, -, X24_1, ⟨Lc24_1, hQ24_1, l24_1, y24_1, z24_1⟩, st24_1⟩ := X0.virtualBack hx (y := mN9) (z := mN9) hown (mvT hZ (own_w hw 174 rfl)) (mvT hZ (own_w hw 175 rfl)) (notFace_of_selects (args := #[]) (mvT hZ (own_w hw 177 rfl))) (mvT hZ (own_w hw 177 rfl)) (mvT hZ (own_w hw 176 rfl)) (by decide) (backOf (W := 0) (rm25 l Z a0 hw [] r0 al h0 n0 Z0 Ix It F_m) hZ (own_w hw 178 rfl) (own_w hw 141 rfl) (by decide) (by decide)) q24_1a q24_1c (g := (mkF m 1 #[.val (.ref r0), .unset, .unset] [(.ref r0)])) rfl (by rw [hml]; rfl) (Steps.refl _) (argsL := []) (rest := []) (lenOf pd24_0 rfl) rfl (own_mr rfl) (hb hby d24_1) (fun _ _ => ⟨rfl, e0, (by decide : 0 + 0 ≤ _), (by decide : 0 + 0 ≤ _)⟩)
  dsimp only [Pt.U, Pt.locs, Pt.cells, Pt.slots] at X24_1 l24_1 y24_1 z24_1 st24_1 hQ24_1
  subst l24_1 y24_1 z24_1
  obtain ⟨rfl, N24_1q, e24_1⟩ := hQ24_1
  have N24_1 := Fr.app N0 N24_1q
  refine own_fw (fun t k => st24_1.trans k) ?_
  refine own_fw (A := T24_1.setTop (mkF m 5 #[.val (.ref r0), .unset, .unset] [(.ref r0)])) (fun t k => ?_) ?_
  · refine ox_aloadN X24_1.here hx (hb hby d24_4) rfl rfl ?_
    exact k
  obtain ⟨T24_2, X24_2, e24_2, st24_2⟩ := getF X24_1 hx hZ hown (host := "") (Or.inl (own_w hw 163 rfl)) Via.refl e24_1 Ic (g := (mkF m 5 #[.val (.ref r0), .unset, .unset] [(.ref r0)])) rfl rfl (hb hby d24_5)
  refine own_fw st24_2 ?_
  refine own_fw (A := T24_2.setTop (mkF m 11 #[.val (.ref r0), .val (.int (1 : Int32)), .unset] [(.ref r0), (.int (1 : Int32))])) (fun t k => ?_) ?_
  · refine ox_istoreN X24_2.here hx (hb hby d24_8) rfl (l' := #[.val (.ref r0), .val (.int (1 : Int32)), .unset]) rfl ?_
    refine ox_iloadN X24_2.here hx (hb hby d24_9) rfl ?_
    refine ox_aloadN X24_2.here hx (hb hby d24_10) rfl rfl ?_
    exact k
  obtain ⟨T24_3, X24_3, e24_3, st24_3⟩ := getF X24_2 hx hZ hown (host := "") (Or.inl (own_w hw 146 rfl)) Via.refl e24_2 It (g := (mkF m 11 #[.val (.ref r0), .val (.int (1 : Int32)), .unset] [(.ref r0), (.int (1 : Int32))])) rfl rfl (hb hby d24_11)
  refine own_fw st24_3 ?_
  obtain ⟨T24_4, X24_4, e24_4, st24_4⟩ := getF X24_3 hx hZ hown (Or.inr (own_w hw 165 rfl)) Via.refl e24_3 F_s (g := (mkF m 14 #[.val (.ref r0), .val (.int (1 : Int32)), .unset] [(.ref al), (.int (1 : Int32))])) rfl rfl (hb hby d24_14)
  refine own_fw st24_4 ?_
  refine own_fw (A := T24_4.setTop (mkF m 29 #[.val (.ref r0), .val (.int (1 : Int32)), .unset] [(.ref r0)])) (fun t k => ?_) ?_
  · refine ox_icmpYes X24_4.here hx (pc0 := 17) (pc' := 28) rfl (hb hby d24_17) rfl (tlt (by decide : ((1 : Int32) < (2 : Int32)))).1 (by decide) (by decide) ?_
    refine ox_aloadN X24_4.here hx (hb hby d24_28) rfl rfl ?_
    exact k
  obtain ⟨T24_5, X24_5, e24_5, st24_5⟩ := getF X24_4 hx hZ hown (host := "") (Or.inl (own_w hw 146 rfl)) Via.refl e24_4 It (g := (mkF m 29 #[.val (.ref r0), .val (.int (1 : Int32)), .unset] [(.ref r0)])) rfl rfl (hb hby d24_29)
  refine own_fw st24_5 ?_
  obtain ⟨T24_6, X24_6, e24_6, st24_6⟩ := getF X24_5 hx hZ hown (host := "") (Or.inl (own_w hw 179 rfl)) Via.refl e24_5 F_e (g := (mkF m 32 #[.val (.ref r0), .val (.int (1 : Int32)), .unset] [(.ref al)])) rfl rfl (hb hby d24_32)
  refine own_fw st24_6 ?_
  refine own_fw (A := T24_6.setTop (mkF m 38 #[.val (.ref r0), .val (.int (1 : Int32)), .val (.ref ea)] [(.ref ea), (.int (1 : Int32))])) (fun t k => ?_) ?_
  · refine ox_astoreN X24_6.here hx (hb hby d24_35) rfl rfl (l' := #[.val (.ref r0), .val (.int (1 : Int32)), .val (.ref ea)]) rfl ?_
    refine ox_iloadN X24_6.here hx (hb hby d24_36) rfl ?_
    refine ox_aloadN X24_6.here hx (hb hby d24_37) rfl rfl ?_
    exact k
  obtain ⟨cl24_7, Ar24_7, q24_7, S24_7, Ng24_7, Hs24_7, G24_7⟩ := id V_e
  have st24_7 := X24_6.arraylength hx (by rw [e24_6]; exact Ar24_7.1) (State.isArrayOf_alike hZ.alike Ar24_7.2.1) (g := (mkF m 38 #[.val (.ref r0), .val (.int (1 : Int32)), .val (.ref ea)] [(.ref ea), (.int (1 : Int32))])) rfl rfl (hb hby d24_38)
  rw [len_of S24_7 Ng24_7] at st24_7
  refine own_fw st24_7 ?_
  refine own_fw (A := T24_6.setTop (mkF m 54 #[.val (.ref r0), .val (.int (1 : Int32)), .val (.ref ea)] [(.int (2 : Int32)), (.ref r0)])) (fun t k => ?_) ?_
  · refine ox_icmpYes X24_6.here hx (pc0 := 39) (pc' := 50) rfl (hb hby d24_39) rfl (tlt (by decide : ((1 : Int32) < (10 : Int32)))).1 (by decide) (by decide) ?_
    refine ox_aloadN X24_6.here hx (hb hby d24_50) rfl rfl ?_
    refine ox_iloadN X24_6.here hx (hb hby d24_51) rfl ?_
    refine ox_iconst X24_6.here hx (hb hby d24_52) ?_
    refine ox_iadd X24_6.here hx (hb hby d24_53) rfl ?_
    exact k
  obtain ⟨T24_8, h24_8, X24_8, e24_8, W24_8, st24_8⟩ := putF X24_6 hx hZ hown (host := "") (Or.inl (own_w hw 163 rfl)) Via.refl e24_6 Ic Ei (Or.inl (own_w hw 164 rfl)) (own_w hw 140 rfl) (ty := .int) (by decide) rfl rfl (g := (mkF m 54 #[.val (.ref r0), .val (.int (1 : Int32)), .val (.ref ea)] [(.int (2 : Int32)), (.ref r0)])) rfl rfl (hb hby d24_54)
  have Fw24_8 := Ic.same W24_8
  have N24_8 := Fr.snoc X24_8 N24_1 g_r0
  refine own_fw st24_8 ?_
  refine own_fw (A := T24_8.setTop (mkF m 61 #[.val (.ref r0), .val (.int (1 : Int32)), .val (.ref ea)] [(.int (1 : Int32)), (.ref r0), (.int (1 : Int32)), (.ref ea)])) (fun t k => ?_) ?_
  · refine ox_aloadN X24_8.here hx (hb hby d24_57) rfl rfl ?_
    refine ox_aloadN X24_8.here hx (hb hby d24_58) rfl rfl ?_
    refine ox_iloadN X24_8.here hx (hb hby d24_59) rfl ?_
    refine ox_dupX1 X24_8.here hx (hb hby d24_60) rfl rfl rfl ?_
    exact k
  obtain ⟨T24_9, h24_9, X24_9, e24_9, W24_9, st24_9⟩ := putF X24_8 hx hZ hown (host := "") (Or.inl (own_w hw 149 rfl)) Via.refl e24_8 (Il.other W24_8 (Or.inr (slot_ne (Or.inl (own_w hw 150 rfl)) (Or.inl (own_w hw 164 rfl)) (by decide) (t := .int) (t' := .int) (by decide) (by decide)))) (Ei.wr W24_8) (Or.inl (own_w hw 150 rfl)) (own_w hw 140 rfl) (ty := .int) (by decide) rfl rfl (g := (mkF m 61 #[.val (.ref r0), .val (.int (1 : Int32)), .val (.ref ea)] [(.int (1 : Int32)), (.ref r0), (.int (1 : Int32)), (.ref ea)])) rfl rfl (hb hby d24_61)
  have Fw24_9 := (Il.other W24_8 (Or.inr (slot_ne (Or.inl (own_w hw 150 rfl)) (Or.inl (own_w hw 164 rfl)) (by decide) (t := .int) (t' := .int) (by decide) (by decide)))).same W24_9
  have N24_9 := Fr.snoc X24_9 N24_8 g_r0
  refine own_fw st24_9 ?_
  obtain ⟨cl24_10, Ar24_10, q24_10, S24_10, Ng24_10, Hs24_10, G24_10⟩ := id ((V_e.other W24_8 ne_ea).other W24_9 ne_ea)
  have hin24_10 : ¬ ((1 : Int32) < 0 ∨ cl24_10.slots.size ≤ ((1 : Int32)).toNatClampNeg) := inb_of S24_10 ⟨by decide, by decide⟩
  refine own_fw (X24_9.aaload hx (j := (1 : Int32)) (v := (.ref x1)) (by rw [e24_9]; exact Ar24_10.1) (State.isArrayOf_alike hZ.alike Ar24_10.2.1) rfl Ar24_10.2.2 hin24_10 (Has.at Hs24_10 hin24_10 rfl) (g := (mkF m 64 #[.val (.ref r0), .val (.int (1 : Int32)), .val (.ref ea)] [(.int (1 : Int32)), (.ref ea)])) rfl rfl (hb hby d24_64)) ?_
  obtain ⟨fs, hr, hrun, hended, hW, hsame⟩ := X24_9.leave (v := some (.ref x1)) (own_ret Bd.returns) (BodyLoose.notSynchronized Bd)
  refine ⟨_, _, retA (ty := (.object "java/lang/Object")) X24_9 hx rfl rfl Bd.returns (hb hby d24_65) hr, hrun, hended, _, _, rfl, ?_, ⟨_, rfl⟩, hW, hsame.mono (by decide) (by decide)⟩
  have eh : (T24_9.setFrames fs).heap = h24_9 := e24_9
  rw [eh]
  exact ⟨rfl, N24_9, (((Keep.refl h0 [r0]).wr W24_8 (Or.inl (List.mem_of_getElem? (i := 0) rfl))).wr W24_9 (Or.inl (List.mem_of_getElem? (i := 0) rfl))), ((Ei.wr W24_8).wr W24_9), (Fw24_8.other W24_9 (Or.inr (slot_ne (Or.inl (own_w hw 164 rfl)) (Or.inl (own_w hw 150 rfl)) (by decide) (t := .int) (t' := .int) (by decide) (by decide)))), Fw24_9, ((Ix.other W24_8 (Or.inr (slot_ne (Or.inl (own_w hw 153 rfl)) (Or.inl (own_w hw 164 rfl)) (by decide) (t := .int) (t' := .int) (by decide) (by decide)))).other W24_9 (Or.inr (slot_ne (Or.inl (own_w hw 153 rfl)) (Or.inl (own_w hw 150 rfl)) (by decide) (t := .int) (t' := .int) (by decide) (by decide)))), ((It.other W24_8 (Or.inr (slot_ne (Or.inr (own_w hw 147 rfl)) (Or.inl (own_w hw 164 rfl)) (by decide) (t := (.object "java/util/ArrayList")) (t' := .int) (by decide) (by decide)))).other W24_9 (Or.inr (slot_ne (Or.inr (own_w hw 147 rfl)) (Or.inl (own_w hw 150 rfl)) (by decide) (t := (.object "java/util/ArrayList")) (t' := .int) (by decide) (by decide))))⟩
theorem d27_0 : decode jdk_38_method_8_code 0 = .ok (.aload_n 0, 1) := by decide +kernel
theorem d27_1 : decode jdk_38_method_8_code 1 = .ok (.getfield 48, 3) := by decide +kernel
theorem d27_4 : decode jdk_38_method_8_code 4 = .ok (.ireturn, 1) := by decide +kernel
theorem pn27 : plainName "java/util/ArrayList" = true := by first | (simp [plainName, overriddenIn]; done) | decide +kernel
theorem ef27 (m : MethodId) (r0 : Addr) : entryFrame m #[(.ref r0)] 1 = mkF m 0 #[.val (.ref r0)] [] := by first | (simp [entryFrame, mkF, argsToLocals, Value.category]; done) | rfl
def Q27 (Z : State) (z : Int32) (h0 : Heap) (n0 : Nat) (w : Option Value) (h : Heap) (L : List Loc) : Prop := w = some (.int z) ∧ Fr n0 L ∧ h = h0
set_option maxRecDepth 65536 in
set_option maxHeartbeats 40000000 in
theorem rm27 (l : Launch) (Z : State) (a0 : Array Value) (hw : ∀ d ∈ tables_1, d.before a0 Z = true) (ws : List Jvm.Cond) (r0 : Addr) (h0 : Heap) (n0 : Nat) (Z0 : n0 ≤ h0.size) (F_s : Fld Z h0 r0 "java/util/ArrayList" "size" "I" (.int (2 : Int32))) :
    MetFree l mN23 (head1 (Jvm.Cond.code mN23 jdk_38_method_8_code 1 (some .int) :: ws) ({ frames := 0, cells := 0, slots := 0, locals := 0 } : Room)) (fun a U => a = #[(.ref r0)] ∧ Z.Warmed39 U.vm ∧ U.heap = h0) (fun _ _ _ _ _ => True) (fun _ U o U' => ∃ v L, o = .returned v ∧ Q27 Z (2 : Int32) h0 n0 v U'.heap L ∧ FrameEnd U o U' L ({ frames := 0, cells := 0, slots := 0, locals := 0 } : Room).cells ({ frames := 0, cells := 0, slots := 0, locals := 0 } : Room).slots) := by
  refine MetFree.of_bodySF (plainFor_of_name pn27) hisR ?_
  intro p e s m args below meth c s₁ Bd hml0 hP hK
  obtain ⟨rfl, hZ, hh⟩ := hP
  have hx := Bd.exec
  have hby := Bd.bytes
  have hml : c.maxLocals = 1 := hml0
  have hown : s.vm.findClass "java/util/ArrayList" = some m.cls := findClass_of_methodNamed Bd.named
  have hnm := (name_of_methodNamed Bd.named Bd.method).1
  have X0 : Stand p l e ({ frames := 0, cells := 0, slots := 0, locals := 0 } : Room) s m #[(.ref r0)] below meth c s₁ [] 0 0 := Stand.of_body Bd
  have e0 : s₁.heap = h0 := by rw [← hh, Bd.state]; rfl
  have N0 := Fr.nil n0
  refine own_fw (A := s₁.setTop (mkF m 0 #[.val (.ref r0)] [])) (fun t k => castTop (ef27 m r0) k) ?_
  refine own_fw (A := s₁.setTop (mkF m 1 #[.val (.ref r0)] [(.ref r0)])) (fun t k => ?_) ?_
  · refine ox_aloadN X0.here hx (hb hby d27_0) rfl rfl ?_
    exact k
  obtain ⟨T27_1, X27_1, e27_1, st27_1⟩ := getF X0 hx hZ hown (host := "") (Or.inl (own_w hw 102 rfl)) Via.refl e0 F_s (g := (mkF m 1 #[.val (.ref r0)] [(.ref r0)])) rfl rfl (hb hby d27_1)
  refine own_fw st27_1 ?_
  obtain ⟨fs, hr, hrun, hended, hW, hsame⟩ := X27_1.leave (v := some (.int (2 : Int32))) (own_ret Bd.returns) (BodyLoose.notSynchronized Bd)
  refine ⟨_, _, retI X27_1 hx Bd.returns (hb hby d27_4) hr, hrun, hended, _, _, rfl, ?_, ⟨_, rfl⟩, hW, hsame.mono (by decide) (by decide)⟩
  have eh : (T27_1.setFrames fs).heap = h0 := e27_1
  rw [eh]
  exact ⟨rfl, N0, rfl⟩
theorem d20_0 : decode prog_8_method_6_code 0 = .ok (.new 23, 3) := by decide +kernel
theorem d20_3 : decode prog_8_method_6_code 3 = .ok (.dup, 1) := by decide +kernel
theorem d20_4 : decode prog_8_method_6_code 4 = .ok (.invokespecial 25, 3) := by decide +kernel
theorem d20_7 : decode prog_8_method_6_code 7 = .ok (.astore_n 1, 1) := by decide +kernel
theorem d20_8 : decode prog_8_method_6_code 8 = .ok (.aload_n 0, 1) := by decide +kernel
theorem d20_9 : decode prog_8_method_6_code 9 = .ok (.invokeinterface 26 1, 5) := by decide +kernel
theorem d20_14 : decode prog_8_method_6_code 14 = .ok (.astore_n 2, 1) := by decide +kernel
theorem d20_15 : decode prog_8_method_6_code 15 = .ok (.aload_n 2, 1) := by decide +kernel
theorem d20_16 : decode prog_8_method_6_code 16 = .ok (.invokeinterface 32 1, 5) := by decide +kernel
theorem d20_21 : decode prog_8_method_6_code 21 = .ok (.ifCond .eq 31, 3) := by decide +kernel
theorem d20_24 : decode prog_8_method_6_code 24 = .ok (.aload_n 2, 1) := by decide +kernel
theorem d20_25 : decode prog_8_method_6_code 25 = .ok (.invokeinterface 38 1, 5) := by decide +kernel
theorem d20_30 : decode prog_8_method_6_code 30 = .ok (.checkcast 8, 3) := by decide +kernel
theorem d20_33 : decode prog_8_method_6_code 33 = .ok (.astore_n 3, 1) := by decide +kernel
theorem d20_34 : decode prog_8_method_6_code 34 = .ok (.aload_n 3, 1) := by decide +kernel
theorem d20_35 : decode prog_8_method_6_code 35 = .ok (.invokevirtual 42, 3) := by decide +kernel
theorem d20_38 : decode prog_8_method_6_code 38 = .ok (.ifCond .le 11, 3) := by decide +kernel
theorem d20_41 : decode prog_8_method_6_code 41 = .ok (.aload_n 1, 1) := by decide +kernel
theorem d20_42 : decode prog_8_method_6_code 42 = .ok (.aload_n 3, 1) := by decide +kernel
theorem d20_43 : decode prog_8_method_6_code 43 = .ok (.invokeinterface 46 2, 5) := by decide +kernel
theorem d20_48 : decode prog_8_method_6_code 48 = .ok (.pop, 1) := by decide +kernel
theorem d20_49 : decode prog_8_method_6_code 49 = .ok (.goto (-34), 3) := by decide +kernel
theorem d20_52 : decode prog_8_method_6_code 52 = .ok (.aload_n 1, 1) := by decide +kernel
theorem d20_53 : decode prog_8_method_6_code 53 = .ok (.invokeinterface 50 1, 5) := by decide +kernel
theorem d20_58 : decode prog_8_method_6_code 58 = .ok (.iconst 1, 1) := by decide +kernel
theorem d20_59 : decode prog_8_method_6_code 59 = .ok (.if_icmp .gt 32, 3) := by decide +kernel
theorem d20_91 : decode prog_8_method_6_code 91 = .ok (.new 58, 3) := by decide +kernel
theorem d20_94 : decode prog_8_method_6_code 94 = .ok (.dup, 1) := by decide +kernel
theorem d20_95 : decode prog_8_method_6_code 95 = .ok (.invokespecial 60, 3) := by decide +kernel
theorem d20_98 : decode prog_8_method_6_code 98 = .ok (.astore_n 3, 1) := by decide +kernel
theorem d20_99 : decode prog_8_method_6_code 99 = .ok (.aload_n 1, 1) := by decide +kernel
theorem d20_100 : decode prog_8_method_6_code 100 = .ok (.invokeinterface 26 1, 5) := by decide +kernel
theorem d20_105 : decode prog_8_method_6_code 105 = .ok (.astore 4, 2) := by decide +kernel
theorem d20_107 : decode prog_8_method_6_code 107 = .ok (.aload 4, 2) := by decide +kernel
theorem d20_109 : decode prog_8_method_6_code 109 = .ok (.invokeinterface 32 1, 5) := by decide +kernel
theorem d20_114 : decode prog_8_method_6_code 114 = .ok (.ifCond .eq 49, 3) := by decide +kernel
theorem d20_117 : decode prog_8_method_6_code 117 = .ok (.aload 4, 2) := by decide +kernel
theorem d20_119 : decode prog_8_method_6_code 119 = .ok (.invokeinterface 38 1, 5) := by decide +kernel
theorem d20_124 : decode prog_8_method_6_code 124 = .ok (.checkcast 8, 3) := by decide +kernel
theorem d20_127 : decode prog_8_method_6_code 127 = .ok (.astore 5, 2) := by decide +kernel
theorem d20_129 : decode prog_8_method_6_code 129 = .ok (.iconst 0, 1) := by decide +kernel
theorem d20_130 : decode prog_8_method_6_code 130 = .ok (.istore 6, 2) := by decide +kernel
theorem d20_132 : decode prog_8_method_6_code 132 = .ok (.iload 6, 2) := by decide +kernel
theorem d20_134 : decode prog_8_method_6_code 134 = .ok (.aload 5, 2) := by decide +kernel
theorem d20_136 : decode prog_8_method_6_code 136 = .ok (.invokevirtual 42, 3) := by decide +kernel
theorem d20_139 : decode prog_8_method_6_code 139 = .ok (.if_icmp .ge 21, 3) := by decide +kernel
theorem d20_142 : decode prog_8_method_6_code 142 = .ok (.aload_n 3, 1) := by decide +kernel
theorem d20_143 : decode prog_8_method_6_code 143 = .ok (.aload 5, 2) := by decide +kernel
theorem d20_145 : decode prog_8_method_6_code 145 = .ok (.iload 6, 2) := by decide +kernel
theorem d20_147 : decode prog_8_method_6_code 147 = .ok (.invokevirtual 61, 3) := by decide +kernel
theorem d20_150 : decode prog_8_method_6_code 150 = .ok (.invokevirtual 65, 3) := by decide +kernel
theorem d20_153 : decode prog_8_method_6_code 153 = .ok (.pop, 1) := by decide +kernel
theorem d20_154 : decode prog_8_method_6_code 154 = .ok (.iinc 6 1, 3) := by decide +kernel
theorem d20_157 : decode prog_8_method_6_code 157 = .ok (.goto (-25), 3) := by decide +kernel
theorem d20_160 : decode prog_8_method_6_code 160 = .ok (.goto (-53), 3) := by decide +kernel
theorem d20_163 : decode prog_8_method_6_code 163 = .ok (.aload_n 3, 1) := by decide +kernel
theorem d20_164 : decode prog_8_method_6_code 164 = .ok (.invokevirtual 68, 3) := by decide +kernel
theorem d20_167 : decode prog_8_method_6_code 167 = .ok (.astore_n 2, 1) := by decide +kernel
theorem d20_168 : decode prog_8_method_6_code 168 = .ok (.aload_n 2, 1) := by decide +kernel
theorem d20_169 : decode prog_8_method_6_code 169 = .ok (.areturn, 1) := by decide +kernel
theorem pn20 : plainName "com/example/dolqa/dolqa/data/UnaryRelation" = true := by first | (simp [plainName, overriddenIn]; done) | decide +kernel
theorem pd20_0 : parseMethodDescriptor "()I" = some ⟨[], some .int⟩ := by decide +kernel
theorem pd20_1 : parseMethodDescriptor "(I)I" = some ⟨[.int], some .int⟩ := by decide +kernel
theorem pd20_2 : parseMethodDescriptor "(I)Lcom/example/dolqa/dolqa/data/UnaryRelation$Builder;" = some ⟨[.int], some (.object "com/example/dolqa/dolqa/data/UnaryRelation$Builder")⟩ := by decide +kernel
theorem pd20_3 : parseMethodDescriptor "()Lcom/example/dolqa/dolqa/data/UnaryRelation;" = some ⟨[], some (.object "com/example/dolqa/dolqa/data/UnaryRelation")⟩ := by decide +kernel
theorem pd20_4 : parseMethodDescriptor "()V" = some ⟨[], none⟩ := by decide +kernel
theorem pd20_5 : parseMethodDescriptor "()Z" = some ⟨[], some .boolean⟩ := by decide +kernel
theorem pd20_6 : parseMethodDescriptor "()Ljava/util/Iterator;" = some ⟨[], some (.object "java/util/Iterator")⟩ := by decide +kernel
theorem pd20_7 : parseMethodDescriptor "()Ljava/lang/Object;" = some ⟨[], some (.object "java/lang/Object")⟩ := by decide +kernel
theorem pd20_8 : parseMethodDescriptor "(Ljava/lang/Object;)Z" = some ⟨[(.object "java/lang/Object")], some .boolean⟩ := by decide +kernel
theorem ef20 (m : MethodId) (r0 : Addr) : entryFrame m #[(.ref r0)] 7 = mkF m 0 #[.val (.ref r0), .unset, .unset, .unset, .unset, .unset, .unset] [] := by first | (simp [entryFrame, mkF, argsToLocals, Value.category]; done) | rfl
def BD (Z : State) (n0 : Nat) (hA : Heap) (bd iaA : Addr) (kI : ClassId) (h : Heap) (ia : Addr) (cap : Nat) (xs : List Int32) : Prop := Keep hA h [bd, iaA] ∧ Exa Z h bd "com/example/dolqa/dolqa/data/UnaryRelation$Builder" ∧ Fld Z h bd "com/example/dolqa/dolqa/data/UnaryRelation$Builder" "ids" "[I" (.ref ia) ∧ Fld Z h bd "com/example/dolqa/dolqa/data/UnaryRelation$Builder" "count" "I" (.int (Int32.ofNat xs.length)) ∧ IA Z h ia kI cap xs ∧ (ia = iaA ∨ hA.size ≤ ia) ∧ n0 ≤ ia ∧ ia ≠ bd
theorem BD.cong {Z : State} {n0 : Nat} {hA : Heap} {bd iaA : Addr} {kI : ClassId} {h : Heap} {ia : Addr} {cap : Nat} {xs ys : List Int32} (B : BD Z n0 hA bd iaA kI h ia cap xs) (e : xs = ys) : BD Z n0 hA bd iaA kI h ia cap ys := e ▸ B
theorem own_bd_step {Z : State} {n0 : Nat} {hA : Heap} {bd iaA : Addr} {kI : ClassId} {h h' : Heap} {ia ia2 : Addr} {cap cap2 : Nat} {xs ys : List Int32} (hAn : n0 ≤ hA.size) (B : BD Z n0 hA bd iaA kI h ia cap xs) (K : Keep h h' [bd, ia]) (E : Exa Z h' bd "com/example/dolqa/dolqa/data/UnaryRelation$Builder") (Fi : Fld Z h' bd "com/example/dolqa/dolqa/data/UnaryRelation$Builder" "ids" "[I" (.ref ia2)) (Fc : Fld Z h' bd "com/example/dolqa/dolqa/data/UnaryRelation$Builder" "count" "I" (.int (Int32.ofNat ys.length))) (I : IA Z h' ia2 kI cap2 ys) (hs : ia2 = ia ∨ h.size ≤ ia2) : BD Z n0 hA bd iaA kI h' ia2 cap2 ys := by
  obtain ⟨b1, b2, b3, b4, b5, b6, b7, b8⟩ := B
  refine ⟨b1.trans K (allS (Or.inl (List.mem_of_getElem? (i := 0) rfl)) (allS ?_ all0)), E, Fi, Fc, I, ?_, ?_, ?_⟩
  · rcases b6 with rfl | q
    · exact Or.inl (List.mem_of_getElem? (i := 1) rfl)
    · exact Or.inr q
  · rcases hs with rfl | q
    · exact b6
    · exact Or.inr (Nat.le_trans b1.1 q)
  · rcases hs with rfl | q
    · exact b7
    · exact Nat.le_trans hAn (Nat.le_trans b1.1 q)
  · rcases hs with rfl | q
    · exact b8
    · exact fun w => Nat.lt_irrefl _ (Nat.lt_of_lt_of_le b2.lt (w ▸ q))
theorem own_nofull {a b : Nat} (h : a < b) (hb : b ≤ 100) : ¬ Int32.ofNat a = Int32.ofNat b := by
  intro q
  rw [← Int32.toInt_inj, Int32.toInt_ofNat_small (by omega), Int32.toInt_ofNat_small (by omega)] at q
  omega
theorem own_pos32 {n : Nat} (h : 0 < n) (hn : n ≤ 100) : (0 : Int32) < Int32.ofNat n := own_lt32 hn h
theorem own_takes {xs0 ms : List Int32} {j : Nat} (h : j < ms.length) : (xs0 ++ ms.take j) ++ [ms.getD j 0] = xs0 ++ ms.take (j + 1) := by
  rw [List.take_succ_eq_append_getElem h, List.append_assoc, List.getD_eq_getElem?_getD, List.getElem?_eq_getElem h]; rfl
theorem own_nia {x ia iaA : Addr} {hA : Heap} (h : ia = iaA ∨ hA.size ≤ ia) (q : x ≠ iaA) (l : x < hA.size) : x ≠ ia := by
  rcases h with rfl | h
  · exact q
  · exact fun w => Nat.lt_irrefl _ (Nat.lt_of_lt_of_le l (w ▸ h))
theorem own_szia {ia iaA : Addr} {hA : Heap} {n : Nat} (h : ia = iaA ∨ hA.size ≤ ia) (q : n ≤ iaA) (l : n ≤ hA.size) : n ≤ ia := by
  rcases h with rfl | h
  · exact q
  · exact Nat.le_trans l h
set_option maxRecDepth 65536 in
set_option maxHeartbeats 40000000 in
theorem own_ul_a {p : Program} {l : Launch} {e : Env} {s : State} {m : MethodId} {args : Array Value} {below : List Frame} {meth : Method} {c : Code} {Z : State} {a0 : Array Value} {n0 : Nat} {hA : Heap} {r0 al2 it1 bd it2 u mm iaA : Addr} {kI : ClassId} {ms xs0 : List Int32} {P : State → Outcome → Prop} (hx : p.tables.exec = Jvm.exec) (hZ : Z.Warmed39 s.vm) (hw : ∀ d ∈ tables_1, d.before a0 Z = true) (hown : s.vm.findClass "com/example/dolqa/dolqa/data/UnaryRelation" = some m.cls) (hby : c.code = prog_8_method_6_code) (hml : c.maxLocals = 7) (hk : Z.vm.findClass "[I" = some kI)
    (E_u : Exa Z hA u "com/example/dolqa/dolqa/data/UnaryRelation") (F_u : Fld Z hA u "com/example/dolqa/dolqa/data/UnaryRelation" "members" "[I" (.ref mm)) (I_m : IA Z hA mm kI ms.length ms) (nu1 : u ≠ bd) (nu2 : u ≠ iaA) (nm1 : mm ≠ bd) (nm2 : mm ≠ iaA) (hAn : n0 ≤ hA.size) (g_bd : n0 ≤ bd) (h18 : xs0.length + ms.length ≤ 18)
    (cont : ∀ (T : State) (h : Heap) (locs : List Loc) (ia : Addr) (cap : Nat), ((cap = 16 ∧ Stand p l e ({ frames := 6, cells := 11, slots := 150, locals := 200 } : Room) s m args below meth c T locs 6 39) ∨ (cap = 32 ∧ Stand p l e ({ frames := 6, cells := 11, slots := 150, locals := 200 } : Room) s m args below meth c T locs 7 71)) → T.heap = h → Fr n0 locs → BD Z n0 hA bd iaA kI h ia cap (xs0 ++ ms) → ∃ t o, Steps p.tables e below (T.setTop (mkF m 160 #[.val (.ref r0), .val (.ref al2), .val (.ref it1), .val (.ref bd), .val (.ref it2), .val (.ref u), .val (.int (Int32.ofNat ms.length))] [])) t ∧ P t o) :
    ∀ (rem : Nat) (T : State) (h : Heap) (locs : List Loc) (ia : Addr) (cap j : Nat), j + rem = ms.length → ((cap = 16 ∧ Stand p l e ({ frames := 6, cells := 11, slots := 150, locals := 200 } : Room) s m args below meth c T locs 6 39) ∨ (cap = 32 ∧ Stand p l e ({ frames := 6, cells := 11, slots := 150, locals := 200 } : Room) s m args below meth c T locs 7 71)) → T.heap = h → Fr n0 locs → BD Z n0 hA bd iaA kI h ia cap (xs0 ++ ms.take j) → ∃ t o, Steps p.tables e below (T.setTop (mkF m 132 #[.val (.ref r0), .val (.ref al2), .val (.ref it1), .val (.ref bd), .val (.ref it2), .val (.ref u), .val (.int (Int32.ofNat j))] [])) t ∧ P t o := by
  intro rem
  induction rem with
  | zero =>
    intro T0 h1 locs ia cap j hj S0 e0 N0 B
    have hjn : j = ms.length := by omega
    rw [hjn] at B ⊢
    obtain ⟨b1, b2, b3, b4, b5, b6, b7, b8⟩ := B
    rcases S0 with ⟨rfl, X0⟩ | ⟨rfl, X0⟩
    · refine own_fw (A := T0.setTop (mkF m 134 #[.val (.ref r0), .val (.ref al2), .val (.ref it1), .val (.ref bd), .val (.ref it2), .val (.ref u), .val (.int (Int32.ofNat ms.length))] [(.int (Int32.ofNat ms.length))])) (fun t k => ?_) ?_
      · refine ox_iload X0.here hx (hb hby d20_132) rfl ?_
        exact k
      refine own_fw (A := T0.setTop (mkF m 136 #[.val (.ref r0), .val (.ref al2), .val (.ref it1), .val (.ref bd), .val (.ref it2), .val (.ref u), .val (.int (Int32.ofNat ms.length))] [(.ref u), (.int (Int32.ofNat ms.length))])) (fun t k => ?_) ?_
      · refine ox_aload X0.here hx (hb hby d20_134) rfl rfl ?_
        exact k
      obtain ⟨cq20_1, kq20_1, q20_1a, q20_1b, q20_1c⟩ := isOf hZ e0 (E_u.keep b1)
      obtain ⟨_, _, ⟨T20_1, L20_1, k20_1, n20_1⟩, -, X20_1, ⟨Lc20_1, hQ20_1, l20_1, y20_1, z20_1⟩, st20_1⟩ := X0.virtualBack hx (y := mN0) (z := mN0) hown (mvT hZ (own_w hw 182 rfl)) (mvT hZ (own_w hw 183 rfl)) (notFace_of_selects (args := #[]) (mvT hZ (own_w hw 185 rfl))) (mvT hZ (own_w hw 185 rfl)) (mvT hZ (own_w hw 184 rfl)) (by decide) (backOf (W := 1) (rm26 l Z a0 hw [] u mm kI ms.length ms h1 n0 (Nat.le_trans hAn b1.1) (F_u.keep b1 (ninS nu1 (ninS nu2 nin0))) (I_m.keep b1 (ninS nm1 (ninS nm2 nin0)))) hZ (own_w hw 186 rfl) (own_w hw 53 rfl) (by decide) (by decide)) q20_1a q20_1c (g := (mkF m 136 #[.val (.ref r0), .val (.ref al2), .val (.ref it1), .val (.ref bd), .val (.ref it2), .val (.ref u), .val (.int (Int32.ofNat ms.length))] [(.ref u), (.int (Int32.ofNat ms.length))])) rfl (by rw [hml]; rfl) (Steps.refl _) (argsL := []) (rest := [(.int (Int32.ofNat ms.length))]) (lenOf pd20_0 rfl) rfl (own_mr rfl) (hb hby d20_136) (fun _ _ => ⟨rfl, e0, (by decide : 6 + 0 ≤ _), (by decide : 39 + 0 ≤ _)⟩)
      dsimp only [Pt.U, Pt.locs, Pt.cells, Pt.slots] at X20_1 l20_1 y20_1 z20_1 st20_1 hQ20_1
      subst l20_1 y20_1 z20_1
      obtain ⟨rfl, N20_1q, e20_1⟩ := hQ20_1
      have N20_1 := Fr.app N0 N20_1q
      refine own_fw (fun t k => st20_1.trans k) ?_
      refine own_fw (A := T20_1.setTop (mkF m 160 #[.val (.ref r0), .val (.ref al2), .val (.ref it1), .val (.ref bd), .val (.ref it2), .val (.ref u), .val (.int (Int32.ofNat ms.length))] [])) (fun t k => ?_) ?_
      · refine ox_icmpYes X20_1.here hx (pc0 := 139) (pc' := 160) rfl (hb hby d20_139) rfl (flt (Int32.lt_irrefl : ¬ ((Int32.ofNat ms.length) < (Int32.ofNat ms.length)))).2.1 (by decide) (by decide) ?_
        exact k
      exact cont _ _ _ _ _ (Or.inl ⟨rfl, X20_1⟩) e20_1 N20_1 (BD.cong ⟨b1, b2, b3, b4, b5, b6, b7, b8⟩ (by rw [List.take_length]))
    · refine own_fw (A := T0.setTop (mkF m 134 #[.val (.ref r0), .val (.ref al2), .val (.ref it1), .val (.ref bd), .val (.ref it2), .val (.ref u), .val (.int (Int32.ofNat ms.length))] [(.int (Int32.ofNat ms.length))])) (fun t k => ?_) ?_
      · refine ox_iload X0.here hx (hb hby d20_132) rfl ?_
        exact k
      refine own_fw (A := T0.setTop (mkF m 136 #[.val (.ref r0), .val (.ref al2), .val (.ref it1), .val (.ref bd), .val (.ref it2), .val (.ref u), .val (.int (Int32.ofNat ms.length))] [(.ref u), (.int (Int32.ofNat ms.length))])) (fun t k => ?_) ?_
      · refine ox_aload X0.here hx (hb hby d20_134) rfl rfl ?_
        exact k
      obtain ⟨cq20_1, kq20_1, q20_1a, q20_1b, q20_1c⟩ := isOf hZ e0 (E_u.keep b1)
      obtain ⟨_, _, ⟨T20_1, L20_1, k20_1, n20_1⟩, -, X20_1, ⟨Lc20_1, hQ20_1, l20_1, y20_1, z20_1⟩, st20_1⟩ := X0.virtualBack hx (y := mN0) (z := mN0) hown (mvT hZ (own_w hw 182 rfl)) (mvT hZ (own_w hw 183 rfl)) (notFace_of_selects (args := #[]) (mvT hZ (own_w hw 185 rfl))) (mvT hZ (own_w hw 185 rfl)) (mvT hZ (own_w hw 184 rfl)) (by decide) (backOf (W := 1) (rm26 l Z a0 hw [] u mm kI ms.length ms h1 n0 (Nat.le_trans hAn b1.1) (F_u.keep b1 (ninS nu1 (ninS nu2 nin0))) (I_m.keep b1 (ninS nm1 (ninS nm2 nin0)))) hZ (own_w hw 186 rfl) (own_w hw 53 rfl) (by decide) (by decide)) q20_1a q20_1c (g := (mkF m 136 #[.val (.ref r0), .val (.ref al2), .val (.ref it1), .val (.ref bd), .val (.ref it2), .val (.ref u), .val (.int (Int32.ofNat ms.length))] [(.ref u), (.int (Int32.ofNat ms.length))])) rfl (by rw [hml]; rfl) (Steps.refl _) (argsL := []) (rest := [(.int (Int32.ofNat ms.length))]) (lenOf pd20_0 rfl) rfl (own_mr rfl) (hb hby d20_136) (fun _ _ => ⟨rfl, e0, (by decide : 7 + 0 ≤ _), (by decide : 71 + 0 ≤ _)⟩)
      dsimp only [Pt.U, Pt.locs, Pt.cells, Pt.slots] at X20_1 l20_1 y20_1 z20_1 st20_1 hQ20_1
      subst l20_1 y20_1 z20_1
      obtain ⟨rfl, N20_1q, e20_1⟩ := hQ20_1
      have N20_1 := Fr.app N0 N20_1q
      refine own_fw (fun t k => st20_1.trans k) ?_
      refine own_fw (A := T20_1.setTop (mkF m 160 #[.val (.ref r0), .val (.ref al2), .val (.ref it1), .val (.ref bd), .val (.ref it2), .val (.ref u), .val (.int (Int32.ofNat ms.length))] [])) (fun t k => ?_) ?_
      · refine ox_icmpYes X20_1.here hx (pc0 := 139) (pc' := 160) rfl (hb hby d20_139) rfl (flt (Int32.lt_irrefl : ¬ ((Int32.ofNat ms.length) < (Int32.ofNat ms.length)))).2.1 (by decide) (by decide) ?_
        exact k
      exact cont _ _ _ _ _ (Or.inr ⟨rfl, X20_1⟩) e20_1 N20_1 (BD.cong ⟨b1, b2, b3, b4, b5, b6, b7, b8⟩ (by rw [List.take_length]))
  | succ rem ih =>
    intro T0 h1 locs ia cap j hj S0 e0 N0 B
    have hlt : j < ms.length := by omega
    have hlen : (xs0 ++ ms.take j).length = xs0.length + j := by rw [List.length_append, List.length_take]; omega
    obtain ⟨b1, b2, b3, b4, b5, b6, b7, b8⟩ := B
    have g_ia := b7
    have hcap := b5.2.2
    rcases S0 with ⟨rfl, X0⟩ | ⟨rfl, X0⟩
    · by_cases hl : (xs0 ++ ms.take j).length = 16
      · refine own_fw (A := T0.setTop (mkF m 134 #[.val (.ref r0), .val (.ref al2), .val (.ref it1), .val (.ref bd), .val (.ref it2), .val (.ref u), .val (.int (Int32.ofNat j))] [(.int (Int32.ofNat j))])) (fun t k => ?_) ?_
        · refine ox_iload X0.here hx (hb hby d20_132) rfl ?_
          exact k
        refine own_fw (A := T0.setTop (mkF m 136 #[.val (.ref r0), .val (.ref al2), .val (.ref it1), .val (.ref bd), .val (.ref it2), .val (.ref u), .val (.int (Int32.ofNat j))] [(.ref u), (.int (Int32.ofNat j))])) (fun t k => ?_) ?_
        · refine ox_aload X0.here hx (hb hby d20_134) rfl rfl ?_
          exact k
        obtain ⟨cq20_1, kq20_1, q20_1a, q20_1b, q20_1c⟩ := isOf hZ e0 (E_u.keep b1)
        obtain ⟨_, _, ⟨T20_1, L20_1, k20_1, n20_1⟩, -, X20_1, ⟨Lc20_1, hQ20_1, l20_1, y20_1, z20_1⟩, st20_1⟩ := X0.virtualBack hx (y := mN0) (z := mN0) hown (mvT hZ (own_w hw 182 rfl)) (mvT hZ (own_w hw 183 rfl)) (notFace_of_selects (args := #[]) (mvT hZ (own_w hw 185 rfl))) (mvT hZ (own_w hw 185 rfl)) (mvT hZ (own_w hw 184 rfl)) (by decide) (backOf (W := 1) (rm26 l Z a0 hw [] u mm kI ms.length ms h1 n0 (Nat.le_trans hAn b1.1) (F_u.keep b1 (ninS nu1 (ninS nu2 nin0))) (I_m.keep b1 (ninS nm1 (ninS nm2 nin0)))) hZ (own_w hw 186 rfl) (own_w hw 53 rfl) (by decide) (by decide)) q20_1a q20_1c (g := (mkF m 136 #[.val (.ref r0), .val (.ref al2), .val (.ref it1), .val (.ref bd), .val (.ref it2), .val (.ref u), .val (.int (Int32.ofNat j))] [(.ref u), (.int (Int32.ofNat j))])) rfl (by rw [hml]; rfl) (Steps.refl _) (argsL := []) (rest := [(.int (Int32.ofNat j))]) (lenOf pd20_0 rfl) rfl (own_mr rfl) (hb hby d20_136) (fun _ _ => ⟨rfl, e0, (by decide : 6 + 0 ≤ _), (by decide : 39 + 0 ≤ _)⟩)
        dsimp only [Pt.U, Pt.locs, Pt.cells, Pt.slots] at X20_1 l20_1 y20_1 z20_1 st20_1 hQ20_1
        subst l20_1 y20_1 z20_1
        obtain ⟨rfl, N20_1q, e20_1⟩ := hQ20_1
        have N20_1 := Fr.app N0 N20_1q
        refine own_fw (fun t k => st20_1.trans k) ?_
        refine own_fw (A := T20_1.setTop (mkF m 147 #[.val (.ref r0), .val (.ref al2), .val (.ref it1), .val (.ref bd), .val (.ref it2), .val (.ref u), .val (.int (Int32.ofNat j))] [(.int (Int32.ofNat j)), (.ref u), (.ref bd)])) (fun t k => ?_) ?_
        · refine ox_icmpNo X20_1.here hx (hb hby d20_139) rfl (tlt (own_lt32 (by omega) hlt)).2.1 ?_
          refine ox_aloadN X20_1.here hx (hb hby d20_142) rfl rfl ?_
          refine ox_aload X20_1.here hx (hb hby d20_143) rfl rfl ?_
          refine ox_iload X20_1.here hx (hb hby d20_145) rfl ?_
          exact k
        obtain ⟨cq20_2, kq20_2, q20_2a, q20_2b, q20_2c⟩ := isOf hZ e20_1 (E_u.keep b1)
        obtain ⟨_, _, ⟨T20_2, L20_2, k20_2, n20_2⟩, -, X20_2, ⟨Lc20_2, hQ20_2, l20_2, y20_2, z20_2⟩, st20_2⟩ := X20_1.virtualBack hx (y := mN1) (z := mN1) hown (mvT hZ (own_w hw 203 rfl)) (mvT hZ (own_w hw 204 rfl)) (notFace_of_selects (args := #[]) (mvT hZ (own_w hw 206 rfl))) (mvT hZ (own_w hw 206 rfl)) (mvT hZ (own_w hw 205 rfl)) (by decide) (backOf (W := 1) (rm28 l Z a0 hw [] u mm kI ms.length ms j h1 n0 (Nat.le_trans hAn b1.1) (F_u.keep b1 (ninS nu1 (ninS nu2 nin0))) (I_m.keep b1 (ninS nm1 (ninS nm2 nin0))) hlt) hZ (own_w hw 207 rfl) (own_w hw 53 rfl) (by decide) (by decide)) q20_2a q20_2c (g := (mkF m 147 #[.val (.ref r0), .val (.ref al2), .val (.ref it1), .val (.ref bd), .val (.ref it2), .val (.ref u), .val (.int (Int32.ofNat j))] [(.int (Int32.ofNat j)), (.ref u), (.ref bd)])) rfl (by rw [hml]; rfl) (Steps.refl _) (argsL := [(.int (Int32.ofNat j))]) (rest := [(.ref bd)]) (lenOf pd20_1 rfl) rfl (own_mr rfl) (hb hby d20_147) (fun _ _ => ⟨rfl, e20_1, (by decide : 6 + 0 ≤ _), (by decide : 39 + 0 ≤ _)⟩)
        dsimp only [Pt.U, Pt.locs, Pt.cells, Pt.slots] at X20_2 l20_2 y20_2 z20_2 st20_2 hQ20_2
        subst l20_2 y20_2 z20_2
        obtain ⟨rfl, N20_2q, e20_2⟩ := hQ20_2
        have N20_2 := Fr.app N20_1 N20_2q
        refine own_fw (fun t k => st20_2.trans k) ?_
        obtain ⟨cq20_3, kq20_3, q20_3a, q20_3b, q20_3c⟩ := isOf hZ e20_2 b2
        obtain ⟨_, _, ⟨T20_3, L20_3, k20_3, n20_3⟩, -, X20_3, ⟨Lc20_3, hQ20_3, l20_3, y20_3, z20_3⟩, st20_3⟩ := X20_2.virtualBack hx (y := mN2) (z := mN2) hown (mvT hZ (own_w hw 208 rfl)) (mvT hZ (own_w hw 18 rfl)) (notFace_of_selects (args := #[]) (mvT hZ (own_w hw 20 rfl))) (mvT hZ (own_w hw 20 rfl)) (mvT hZ (own_w hw 19 rfl)) (by decide) (backOf (W := 0) (rmBA_g l Z a0 hw [] bd (ms.getD j 0) ia kI (xs0 ++ ms.take j) h1 n0 (Nat.le_trans hAn b1.1) b2 b3 (own_cnt b4 (by rw [hl]; rfl)) b5 hk b8 g_bd g_ia hl) hZ (own_w hw 21 rfl) (own_w hw 7 rfl) (by decide) (by decide)) q20_3a q20_3c (g := (mkF m 150 #[.val (.ref r0), .val (.ref al2), .val (.ref it1), .val (.ref bd), .val (.ref it2), .val (.ref u), .val (.int (Int32.ofNat j))] [(.int (ms.getD j 0)), (.ref bd)])) rfl (by rw [hml]; rfl) (Steps.refl _) (argsL := [(.int (ms.getD j 0))]) (rest := []) (lenOf pd20_2 rfl) rfl (own_mr rfl) (hb hby d20_150) (fun _ _ => ⟨rfl, e20_2, (by decide : 6 + 1 ≤ _), (by decide : 39 + 32 ≤ _)⟩)
        dsimp only [Pt.U, Pt.locs, Pt.cells, Pt.slots] at X20_3 l20_3 y20_3 z20_3 st20_3 hQ20_3
        subst l20_3 y20_3 z20_3
        obtain ⟨ia20_3, rfl, N20_3q, K20_3, Ex20_3, Fi20_3, Fc20_3, Ia20_3, hs20_3⟩ := hQ20_3
        have N20_3 := Fr.app N20_2 N20_3q
        refine own_fw (fun t k => st20_3.trans k) ?_
        refine own_fw (A := T20_3.setTop (mkF m 132 #[.val (.ref r0), .val (.ref al2), .val (.ref it1), .val (.ref bd), .val (.ref it2), .val (.ref u), .val (.int ((Int32.ofNat j) + (1 : Int32)))] [])) (fun t k => ?_) ?_
        · refine ox_pop X20_3.here hx (hb hby d20_153) rfl rfl ?_
          refine ox_iinc X20_3.here hx (hb hby d20_154) rfl (l' := #[.val (.ref r0), .val (.ref al2), .val (.ref it1), .val (.ref bd), .val (.ref it2), .val (.ref u), .val (.int ((Int32.ofNat j) + (1 : Int32)))]) rfl ?_
          refine ox_goto X20_3.here hx (pc0 := 157) (pc' := 132) rfl (hb hby d20_157) (by decide) (by decide) ?_
          exact k
        rw [own_succ j]
        exact ih _ _ _ _ _ _ (by omega) (Or.inr ⟨rfl, X20_3⟩) rfl N20_3 (BD.cong (own_bd_step hAn ⟨b1, b2, b3, b4, b5, b6, b7, b8⟩ K20_3 Ex20_3 Fi20_3 Fc20_3 Ia20_3 hs20_3) (own_takes hlt))
      · refine own_fw (A := T0.setTop (mkF m 134 #[.val (.ref r0), .val (.ref al2), .val (.ref it1), .val (.ref bd), .val (.ref it2), .val (.ref u), .val (.int (Int32.ofNat j))] [(.int (Int32.ofNat j))])) (fun t k => ?_) ?_
        · refine ox_iload X0.here hx (hb hby d20_132) rfl ?_
          exact k
        refine own_fw (A := T0.setTop (mkF m 136 #[.val (.ref r0), .val (.ref al2), .val (.ref it1), .val (.ref bd), .val (.ref it2), .val (.ref u), .val (.int (Int32.ofNat j))] [(.ref u), (.int (Int32.ofNat j))])) (fun t k => ?_) ?_
        · refine ox_aload X0.here hx (hb hby d20_134) rfl rfl ?_
          exact k
        obtain ⟨cq20_1, kq20_1, q20_1a, q20_1b, q20_1c⟩ := isOf hZ e0 (E_u.keep b1)
        obtain ⟨_, _, ⟨T20_1, L20_1, k20_1, n20_1⟩, -, X20_1, ⟨Lc20_1, hQ20_1, l20_1, y20_1, z20_1⟩, st20_1⟩ := X0.virtualBack hx (y := mN0) (z := mN0) hown (mvT hZ (own_w hw 182 rfl)) (mvT hZ (own_w hw 183 rfl)) (notFace_of_selects (args := #[]) (mvT hZ (own_w hw 185 rfl))) (mvT hZ (own_w hw 185 rfl)) (mvT hZ (own_w hw 184 rfl)) (by decide) (backOf (W := 1) (rm26 l Z a0 hw [] u mm kI ms.length ms h1 n0 (Nat.le_trans hAn b1.1) (F_u.keep b1 (ninS nu1 (ninS nu2 nin0))) (I_m.keep b1 (ninS nm1 (ninS nm2 nin0)))) hZ (own_w hw 186 rfl) (own_w hw 53 rfl) (by decide) (by decide)) q20_1a q20_1c (g := (mkF m 136 #[.val (.ref r0), .val (.ref al2), .val (.ref it1), .val (.ref bd), .val (.ref it2), .val (.ref u), .val (.int (Int32.ofNat j))] [(.ref u), (.int (Int32.ofNat j))])) rfl (by rw [hml]; rfl) (Steps.refl _) (argsL := []) (rest := [(.int (Int32.ofNat j))]) (lenOf pd20_0 rfl) rfl (own_mr rfl) (hb hby d20_136) (fun _ _ => ⟨rfl, e0, (by decide : 6 + 0 ≤ _), (by decide : 39 + 0 ≤ _)⟩)
        dsimp only [Pt.U, Pt.locs, Pt.cells, Pt.slots] at X20_1 l20_1 y20_1 z20_1 st20_1 hQ20_1
        subst l20_1 y20_1 z20_1
        obtain ⟨rfl, N20_1q, e20_1⟩ := hQ20_1
        have N20_1 := Fr.app N0 N20_1q
        refine own_fw (fun t k => st20_1.trans k) ?_
        refine own_fw (A := T20_1.setTop (mkF m 147 #[.val (.ref r0), .val (.ref al2), .val (.ref it1), .val (.ref bd), .val (.ref it2), .val (.ref u), .val (.int (Int32.ofNat j))] [(.int (Int32.ofNat j)), (.ref u), (.ref bd)])) (fun t k => ?_) ?_
        · refine ox_icmpNo X20_1.here hx (hb hby d20_139) rfl (tlt (own_lt32 (by omega) hlt)).2.1 ?_
          refine ox_aloadN X20_1.here hx (hb hby d20_142) rfl rfl ?_
          refine ox_aload X20_1.here hx (hb hby d20_143) rfl rfl ?_
          refine ox_iload X20_1.here hx (hb hby d20_145) rfl ?_
          exact k
        obtain ⟨cq20_2, kq20_2, q20_2a, q20_2b, q20_2c⟩ := isOf hZ e20_1 (E_u.keep b1)
        obtain ⟨_, _, ⟨T20_2, L20_2, k20_2, n20_2⟩, -, X20_2, ⟨Lc20_2, hQ20_2, l20_2, y20_2, z20_2⟩, st20_2⟩ := X20_1.virtualBack hx (y := mN1) (z := mN1) hown (mvT hZ (own_w hw 203 rfl)) (mvT hZ (own_w hw 204 rfl)) (notFace_of_selects (args := #[]) (mvT hZ (own_w hw 206 rfl))) (mvT hZ (own_w hw 206 rfl)) (mvT hZ (own_w hw 205 rfl)) (by decide) (backOf (W := 1) (rm28 l Z a0 hw [] u mm kI ms.length ms j h1 n0 (Nat.le_trans hAn b1.1) (F_u.keep b1 (ninS nu1 (ninS nu2 nin0))) (I_m.keep b1 (ninS nm1 (ninS nm2 nin0))) hlt) hZ (own_w hw 207 rfl) (own_w hw 53 rfl) (by decide) (by decide)) q20_2a q20_2c (g := (mkF m 147 #[.val (.ref r0), .val (.ref al2), .val (.ref it1), .val (.ref bd), .val (.ref it2), .val (.ref u), .val (.int (Int32.ofNat j))] [(.int (Int32.ofNat j)), (.ref u), (.ref bd)])) rfl (by rw [hml]; rfl) (Steps.refl _) (argsL := [(.int (Int32.ofNat j))]) (rest := [(.ref bd)]) (lenOf pd20_1 rfl) rfl (own_mr rfl) (hb hby d20_147) (fun _ _ => ⟨rfl, e20_1, (by decide : 6 + 0 ≤ _), (by decide : 39 + 0 ≤ _)⟩)
        dsimp only [Pt.U, Pt.locs, Pt.cells, Pt.slots] at X20_2 l20_2 y20_2 z20_2 st20_2 hQ20_2
        subst l20_2 y20_2 z20_2
        obtain ⟨rfl, N20_2q, e20_2⟩ := hQ20_2
        have N20_2 := Fr.app N20_1 N20_2q
        refine own_fw (fun t k => st20_2.trans k) ?_
        obtain ⟨cq20_3, kq20_3, q20_3a, q20_3b, q20_3c⟩ := isOf hZ e20_2 b2
        obtain ⟨_, _, ⟨T20_3, L20_3, k20_3, n20_3⟩, -, X20_3, ⟨Lc20_3, hQ20_3, l20_3, y20_3, z20_3⟩, st20_3⟩ := X20_2.virtualBack hx (y := mN2) (z := mN2) hown (mvT hZ (own_w hw 208 rfl)) (mvT hZ (own_w hw 18 rfl)) (notFace_of_selects (args := #[]) (mvT hZ (own_w hw 20 rfl))) (mvT hZ (own_w hw 20 rfl)) (mvT hZ (own_w hw 19 rfl)) (by decide) (backOf (W := 0) (rmBA_n l Z a0 hw [] bd (ms.getD j 0) ia kI (xs0 ++ ms.take j) 16 h1 n0 (Nat.le_trans hAn b1.1) b2 b3 b4 b5 hk b8 g_bd g_ia (show (xs0 ++ ms.take j).length < 16 by omega) (own_nofull (show (xs0 ++ ms.take j).length < 16 by omega) (by decide))) hZ (own_w hw 21 rfl) (own_w hw 7 rfl) (by decide) (by decide)) q20_3a q20_3c (g := (mkF m 150 #[.val (.ref r0), .val (.ref al2), .val (.ref it1), .val (.ref bd), .val (.ref it2), .val (.ref u), .val (.int (Int32.ofNat j))] [(.int (ms.getD j 0)), (.ref bd)])) rfl (by rw [hml]; rfl) (Steps.refl _) (argsL := [(.int (ms.getD j 0))]) (rest := []) (lenOf pd20_2 rfl) rfl (own_mr rfl) (hb hby d20_150) (fun _ _ => ⟨rfl, e20_2, (by decide : 6 + 0 ≤ _), (by decide : 39 + 0 ≤ _)⟩)
        dsimp only [Pt.U, Pt.locs, Pt.cells, Pt.slots] at X20_3 l20_3 y20_3 z20_3 st20_3 hQ20_3
        subst l20_3 y20_3 z20_3
        obtain ⟨ia20_3, rfl, N20_3q, K20_3, Ex20_3, Fi20_3, Fc20_3, Ia20_3, hs20_3⟩ := hQ20_3
        have N20_3 := Fr.app N20_2 N20_3q
        refine own_fw (fun t k => st20_3.trans k) ?_
        refine own_fw (A := T20_3.setTop (mkF m 132 #[.val (.ref r0), .val (.ref al2), .val (.ref it1), .val (.ref bd), .val (.ref it2), .val (.ref u), .val (.int ((Int32.ofNat j) + (1 : Int32)))] [])) (fun t k => ?_) ?_
        · refine ox_pop X20_3.here hx (hb hby d20_153) rfl rfl ?_
          refine ox_iinc X20_3.here hx (hb hby d20_154) rfl (l' := #[.val (.ref r0), .val (.ref al2), .val (.ref it1), .val (.ref bd), .val (.ref it2), .val (.ref u), .val (.int ((Int32.ofNat j) + (1 : Int32)))]) rfl ?_
          refine ox_goto X20_3.here hx (pc0 := 157) (pc' := 132) rfl (hb hby d20_157) (by decide) (by decide) ?_
          exact k
        rw [own_succ j]
        exact ih _ _ _ _ _ _ (by omega) (Or.inl ⟨rfl, X20_3⟩) rfl N20_3 (BD.cong (own_bd_step hAn ⟨b1, b2, b3, b4, b5, b6, b7, b8⟩ K20_3 Ex20_3 Fi20_3 Fc20_3 Ia20_3 hs20_3) (own_takes hlt))
    · refine own_fw (A := T0.setTop (mkF m 134 #[.val (.ref r0), .val (.ref al2), .val (.ref it1), .val (.ref bd), .val (.ref it2), .val (.ref u), .val (.int (Int32.ofNat j))] [(.int (Int32.ofNat j))])) (fun t k => ?_) ?_
      · refine ox_iload X0.here hx (hb hby d20_132) rfl ?_
        exact k
      refine own_fw (A := T0.setTop (mkF m 136 #[.val (.ref r0), .val (.ref al2), .val (.ref it1), .val (.ref bd), .val (.ref it2), .val (.ref u), .val (.int (Int32.ofNat j))] [(.ref u), (.int (Int32.ofNat j))])) (fun t k => ?_) ?_
      · refine ox_aload X0.here hx (hb hby d20_134) rfl rfl ?_
        exact k
      obtain ⟨cq20_1, kq20_1, q20_1a, q20_1b, q20_1c⟩ := isOf hZ e0 (E_u.keep b1)
      obtain ⟨_, _, ⟨T20_1, L20_1, k20_1, n20_1⟩, -, X20_1, ⟨Lc20_1, hQ20_1, l20_1, y20_1, z20_1⟩, st20_1⟩ := X0.virtualBack hx (y := mN0) (z := mN0) hown (mvT hZ (own_w hw 182 rfl)) (mvT hZ (own_w hw 183 rfl)) (notFace_of_selects (args := #[]) (mvT hZ (own_w hw 185 rfl))) (mvT hZ (own_w hw 185 rfl)) (mvT hZ (own_w hw 184 rfl)) (by decide) (backOf (W := 1) (rm26 l Z a0 hw [] u mm kI ms.length ms h1 n0 (Nat.le_trans hAn b1.1) (F_u.keep b1 (ninS nu1 (ninS nu2 nin0))) (I_m.keep b1 (ninS nm1 (ninS nm2 nin0)))) hZ (own_w hw 186 rfl) (own_w hw 53 rfl) (by decide) (by decide)) q20_1a q20_1c (g := (mkF m 136 #[.val (.ref r0), .val (.ref al2), .val (.ref it1), .val (.ref bd), .val (.ref it2), .val (.ref u), .val (.int (Int32.ofNat j))] [(.ref u), (.int (Int32.ofNat j))])) rfl (by rw [hml]; rfl) (Steps.refl _) (argsL := []) (rest := [(.int (Int32.ofNat j))]) (lenOf pd20_0 rfl) rfl (own_mr rfl) (hb hby d20_136) (fun _ _ => ⟨rfl, e0, (by decide : 7 + 0 ≤ _), (by decide : 71 + 0 ≤ _)⟩)
      dsimp only [Pt.U, Pt.locs, Pt.cells, Pt.slots] at X20_1 l20_1 y20_1 z20_1 st20_1 hQ20_1
      subst l20_1 y20_1 z20_1
      obtain ⟨rfl, N20_1q, e20_1⟩ := hQ20_1
      have N20_1 := Fr.app N0 N20_1q
      refine own_fw (fun t k => st20_1.trans k) ?_
      refine own_fw (A := T20_1.setTop (mkF m 147 #[.val (.ref r0), .val (.ref al2), .val (.ref it1), .val (.ref bd), .val (.ref it2), .val (.ref u), .val (.int (Int32.ofNat j))] [(.int (Int32.ofNat j)), (.ref u), (.ref bd)])) (fun t k => ?_) ?_
      · refine ox_icmpNo X20_1.here hx (hb hby d20_139) rfl (tlt (own_lt32 (by omega) hlt)).2.1 ?_
        refine ox_aloadN X20_1.here hx (hb hby d20_142) rfl rfl ?_
        refine ox_aload X20_1.here hx (hb hby d20_143) rfl rfl ?_
        refine ox_iload X20_1.here hx (hb hby d20_145) rfl ?_
        exact k
      obtain ⟨cq20_2, kq20_2, q20_2a, q20_2b, q20_2c⟩ := isOf hZ e20_1 (E_u.keep b1)
      obtain ⟨_, _, ⟨T20_2, L20_2, k20_2, n20_2⟩, -, X20_2, ⟨Lc20_2, hQ20_2, l20_2, y20_2, z20_2⟩, st20_2⟩ := X20_1.virtualBack hx (y := mN1) (z := mN1) hown (mvT hZ (own_w hw 203 rfl)) (mvT hZ (own_w hw 204 rfl)) (notFace_of_selects (args := #[]) (mvT hZ (own_w hw 206 rfl))) (mvT hZ (own_w hw 206 rfl)) (mvT hZ (own_w hw 205 rfl)) (by decide) (backOf (W := 1) (rm28 l Z a0 hw [] u mm kI ms.length ms j h1 n0 (Nat.le_trans hAn b1.1) (F_u.keep b1 (ninS nu1 (ninS nu2 nin0))) (I_m.keep b1 (ninS nm1 (ninS nm2 nin0))) hlt) hZ (own_w hw 207 rfl) (own_w hw 53 rfl) (by decide) (by decide)) q20_2a q20_2c (g := (mkF m 147 #[.val (.ref r0), .val (.ref al2), .val (.ref it1), .val (.ref bd), .val (.ref it2), .val (.ref u), .val (.int (Int32.ofNat j))] [(.int (Int32.ofNat j)), (.ref u), (.ref bd)])) rfl (by rw [hml]; rfl) (Steps.refl _) (argsL := [(.int (Int32.ofNat j))]) (rest := [(.ref bd)]) (lenOf pd20_1 rfl) rfl (own_mr rfl) (hb hby d20_147) (fun _ _ => ⟨rfl, e20_1, (by decide : 7 + 0 ≤ _), (by decide : 71 + 0 ≤ _)⟩)
      dsimp only [Pt.U, Pt.locs, Pt.cells, Pt.slots] at X20_2 l20_2 y20_2 z20_2 st20_2 hQ20_2
      subst l20_2 y20_2 z20_2
      obtain ⟨rfl, N20_2q, e20_2⟩ := hQ20_2
      have N20_2 := Fr.app N20_1 N20_2q
      refine own_fw (fun t k => st20_2.trans k) ?_
      obtain ⟨cq20_3, kq20_3, q20_3a, q20_3b, q20_3c⟩ := isOf hZ e20_2 b2
      obtain ⟨_, _, ⟨T20_3, L20_3, k20_3, n20_3⟩, -, X20_3, ⟨Lc20_3, hQ20_3, l20_3, y20_3, z20_3⟩, st20_3⟩ := X20_2.virtualBack hx (y := mN2) (z := mN2) hown (mvT hZ (own_w hw 208 rfl)) (mvT hZ (own_w hw 18 rfl)) (notFace_of_selects (args := #[]) (mvT hZ (own_w hw 20 rfl))) (mvT hZ (own_w hw 20 rfl)) (mvT hZ (own_w hw 19 rfl)) (by decide) (backOf (W := 0) (rmBA_n l Z a0 hw [] bd (ms.getD j 0) ia kI (xs0 ++ ms.take j) 32 h1 n0 (Nat.le_trans hAn b1.1) b2 b3 b4 b5 hk b8 g_bd g_ia (show (xs0 ++ ms.take j).length < 32 by omega) (own_nofull (show (xs0 ++ ms.take j).length < 32 by omega) (by decide))) hZ (own_w hw 21 rfl) (own_w hw 7 rfl) (by decide) (by decide)) q20_3a q20_3c (g := (mkF m 150 #[.val (.ref r0), .val (.ref al2), .val (.ref it1), .val (.ref bd), .val (.ref it2), .val (.ref u), .val (.int (Int32.ofNat j))] [(.int (ms.getD j 0)), (.ref bd)])) rfl (by rw [hml]; rfl) (Steps.refl _) (argsL := [(.int (ms.getD j 0))]) (rest := []) (lenOf pd20_2 rfl) rfl (own_mr rfl) (hb hby d20_150) (fun _ _ => ⟨rfl, e20_2, (by decide : 7 + 0 ≤ _), (by decide : 71 + 0 ≤ _)⟩)
      dsimp only [Pt.U, Pt.locs, Pt.cells, Pt.slots] at X20_3 l20_3 y20_3 z20_3 st20_3 hQ20_3
      subst l20_3 y20_3 z20_3
      obtain ⟨ia20_3, rfl, N20_3q, K20_3, Ex20_3, Fi20_3, Fc20_3, Ia20_3, hs20_3⟩ := hQ20_3
      have N20_3 := Fr.app N20_2 N20_3q
      refine own_fw (fun t k => st20_3.trans k) ?_
      refine own_fw (A := T20_3.setTop (mkF m 132 #[.val (.ref r0), .val (.ref al2), .val (.ref it1), .val (.ref bd), .val (.ref it2), .val (.ref u), .val (.int ((Int32.ofNat j) + (1 : Int32)))] [])) (fun t k => ?_) ?_
      · refine ox_pop X20_3.here hx (hb hby d20_153) rfl rfl ?_
        refine ox_iinc X20_3.here hx (hb hby d20_154) rfl (l' := #[.val (.ref r0), .val (.ref al2), .val (.ref it1), .val (.ref bd), .val (.ref it2), .val (.ref u), .val (.int ((Int32.ofNat j) + (1 : Int32)))]) rfl ?_
        refine ox_goto X20_3.here hx (pc0 := 157) (pc' := 132) rfl (hb hby d20_157) (by decide) (by decide) ?_
        exact k
      rw [own_succ j]
      exact ih _ _ _ _ _ _ (by omega) (Or.inr ⟨rfl, X20_3⟩) rfl N20_3 (BD.cong (own_bd_step hAn ⟨b1, b2, b3, b4, b5, b6, b7, b8⟩ K20_3 Ex20_3 Fi20_3 Fc20_3 Ia20_3 hs20_3) (own_takes hlt))
set_option maxRecDepth 65536 in
set_option maxHeartbeats 40000000 in
theorem own_ul_b {p : Program} {l : Launch} {e : Env} {s : State} {m : MethodId} {args : Array Value} {below : List Frame} {meth : Method} {c : Code} {Z : State} {a0 : Array Value} {n0 : Nat} {hA : Heap} {r0 al2 it1 bd it2 u mm iaA : Addr} {kI : ClassId} {ms xs0 : List Int32} {P : State → Outcome → Prop} (hx : p.tables.exec = Jvm.exec) (hZ : Z.Warmed39 s.vm) (hw : ∀ d ∈ tables_1, d.before a0 Z = true) (hown : s.vm.findClass "com/example/dolqa/dolqa/data/UnaryRelation" = some m.cls) (hby : c.code = prog_8_method_6_code) (hml : c.maxLocals = 7) (hk : Z.vm.findClass "[I" = some kI)
    (E_u : Exa Z hA u "com/example/dolqa/dolqa/data/UnaryRelation") (F_u : Fld Z hA u "com/example/dolqa/dolqa/data/UnaryRelation" "members" "[I" (.ref mm)) (I_m : IA Z hA mm kI ms.length ms) (nu1 : u ≠ bd) (nu2 : u ≠ iaA) (nm1 : mm ≠ bd) (nm2 : mm ≠ iaA) (hAn : n0 ≤ hA.size) (g_bd : n0 ≤ bd) (h18 : xs0.length + ms.length ≤ 18)
    (cont : ∀ (T : State) (h : Heap) (locs : List Loc) (ia : Addr) (cap : Nat), ((cap = 16 ∧ Stand p l e ({ frames := 6, cells := 11, slots := 150, locals := 200 } : Room) s m args below meth c T locs 7 71) ∨ (cap = 32 ∧ Stand p l e ({ frames := 6, cells := 11, slots := 150, locals := 200 } : Room) s m args below meth c T locs 8 103)) → T.heap = h → Fr n0 locs → BD Z n0 hA bd iaA kI h ia cap (xs0 ++ ms) → ∃ t o, Steps p.tables e below (T.setTop (mkF m 160 #[.val (.ref r0), .val (.ref al2), .val (.ref it1), .val (.ref bd), .val (.ref it2), .val (.ref u), .val (.int (Int32.ofNat ms.length))] [])) t ∧ P t o) :
    ∀ (rem : Nat) (T : State) (h : Heap) (locs : List Loc) (ia : Addr) (cap j : Nat), j + rem = ms.length → ((cap = 16 ∧ Stand p l e ({ frames := 6, cells := 11, slots := 150, locals := 200 } : Room) s m args below meth c T locs 7 71) ∨ (cap = 32 ∧ Stand p l e ({ frames := 6, cells := 11, slots := 150, locals := 200 } : Room) s m args below meth c T locs 8 103)) → T.heap = h → Fr n0 locs → BD Z n0 hA bd iaA kI h ia cap (xs0 ++ ms.take j) → ∃ t o, Steps p.tables e below (T.setTop (mkF m 132 #[.val (.ref r0), .val (.ref al2), .val (.ref it1), .val (.ref bd), .val (.ref it2), .val (.ref u), .val (.int (Int32.ofNat j))] [])) t ∧ P t o := by
  intro rem
  induction rem with
  | zero =>
    intro T0 h1 locs ia cap j hj S0 e0 N0 B
    have hjn : j = ms.length := by omega
    rw [hjn] at B ⊢
    obtain ⟨b1, b2, b3, b4, b5, b6, b7, b8⟩ := B
    rcases S0 with ⟨rfl, X0⟩ | ⟨rfl, X0⟩
    · refine own_fw (A := T0.setTop (mkF m 134 #[.val (.ref r0), .val (.ref al2), .val (.ref it1), .val (.ref bd), .val (.ref it2), .val (.ref u), .val (.int (Int32.ofNat ms.length))] [(.int (Int32.ofNat ms.length))])) (fun t k => ?_) ?_
      · refine ox_iload X0.here hx (hb hby d20_132) rfl ?_
        exact k
      refine own_fw (A := T0.setTop (mkF m 136 #[.val (.ref r0), .val (.ref al2), .val (.ref it1), .val (.ref bd), .val (.ref it2), .val (.ref u), .val (.int (Int32.ofNat ms.length))] [(.ref u), (.int (Int32.ofNat ms.length))])) (fun t k => ?_) ?_
      · refine ox_aload X0.here hx (hb hby d20_134) rfl rfl ?_
        exact k
      obtain ⟨cq20_1, kq20_1, q20_1a, q20_1b, q20_1c⟩ := isOf hZ e0 (E_u.keep b1)
      obtain ⟨_, _, ⟨T20_1, L20_1, k20_1, n20_1⟩, -, X20_1, ⟨Lc20_1, hQ20_1, l20_1, y20_1, z20_1⟩, st20_1⟩ := X0.virtualBack hx (y := mN0) (z := mN0) hown (mvT hZ (own_w hw 182 rfl)) (mvT hZ (own_w hw 183 rfl)) (notFace_of_selects (args := #[]) (mvT hZ (own_w hw 185 rfl))) (mvT hZ (own_w hw 185 rfl)) (mvT hZ (own_w hw 184 rfl)) (by decide) (backOf (W := 1) (rm26 l Z a0 hw [] u mm kI ms.length ms h1 n0 (Nat.le_trans hAn b1.1) (F_u.keep b1 (ninS nu1 (ninS nu2 nin0))) (I_m.keep b1 (ninS nm1 (ninS nm2 nin0)))) hZ (own_w hw 186 rfl) (own_w hw 53 rfl) (by decide) (by decide)) q20_1a q20_1c (g := (mkF m 136 #[.val (.ref r0), .val (.ref al2), .val (.ref it1), .val (.ref bd), .val (.ref it2), .val (.ref u), .val (.int (Int32.ofNat ms.length))] [(.ref u), (.int (Int32.ofNat ms.length))])) rfl (by rw [hml]; rfl) (Steps.refl _) (argsL := []) (rest := [(.int (Int32.ofNat ms.length))]) (lenOf pd20_0 rfl) rfl (own_mr rfl) (hb hby d20_136) (fun _ _ => ⟨rfl, e0, (by decide : 7 + 0 ≤ _), (by decide : 71 + 0 ≤ _)⟩)
      dsimp only [Pt.U, Pt.locs, Pt.cells, Pt.slots] at X20_1 l20_1 y20_1 z20_1 st20_1 hQ20_1
      subst l20_1 y20_1 z20_1
      obtain ⟨rfl, N20_1q, e20_1⟩ := hQ20_1
      have N20_1 := Fr.app N0 N20_1q
      refine own_fw (fun t k => st20_1.trans k) ?_
      refine own_fw (A := T20_1.setTop (mkF m 160 #[.val (.ref r0), .val (.ref al2), .val (.ref it1), .val (.ref bd), .val (.ref it2), .val (.ref u), .val (.int (Int32.ofNat ms.length))] [])) (fun t k => ?_) ?_
      · refine ox_icmpYes X20_1.here hx (pc0 := 139) (pc' := 160) rfl (hb hby d20_139) rfl (flt (Int32.lt_irrefl : ¬ ((Int32.ofNat ms.length) < (Int32.ofNat ms.length)))).2.1 (by decide) (by decide) ?_
        exact k
      exact cont _ _ _ _ _ (Or.inl ⟨rfl, X20_1⟩) e20_1 N20_1 (BD.cong ⟨b1, b2, b3, b4, b5, b6, b7, b8⟩ (by rw [List.take_length]))
    · refine own_fw (A := T0.setTop (mkF m 134 #[.val (.ref r0), .val (.ref al2), .val (.ref it1), .val (.ref bd), .val (.ref it2), .val (.ref u), .val (.int (Int32.ofNat ms.length))] [(.int (Int32.ofNat ms.length))])) (fun t k => ?_) ?_
      · refine ox_iload X0.here hx (hb hby d20_132) rfl ?_
        exact k
      refine own_fw (A := T0.setTop (mkF m 136 #[.val (.ref r0), .val (.ref al2), .val (.ref it1), .val (.ref bd), .val (.ref it2), .val (.ref u), .val (.int (Int32.ofNat ms.length))] [(.ref u), (.int (Int32.ofNat ms.length))])) (fun t k => ?_) ?_
      · refine ox_aload X0.here hx (hb hby d20_134) rfl rfl ?_
        exact k
      obtain ⟨cq20_1, kq20_1, q20_1a, q20_1b, q20_1c⟩ := isOf hZ e0 (E_u.keep b1)
      obtain ⟨_, _, ⟨T20_1, L20_1, k20_1, n20_1⟩, -, X20_1, ⟨Lc20_1, hQ20_1, l20_1, y20_1, z20_1⟩, st20_1⟩ := X0.virtualBack hx (y := mN0) (z := mN0) hown (mvT hZ (own_w hw 182 rfl)) (mvT hZ (own_w hw 183 rfl)) (notFace_of_selects (args := #[]) (mvT hZ (own_w hw 185 rfl))) (mvT hZ (own_w hw 185 rfl)) (mvT hZ (own_w hw 184 rfl)) (by decide) (backOf (W := 1) (rm26 l Z a0 hw [] u mm kI ms.length ms h1 n0 (Nat.le_trans hAn b1.1) (F_u.keep b1 (ninS nu1 (ninS nu2 nin0))) (I_m.keep b1 (ninS nm1 (ninS nm2 nin0)))) hZ (own_w hw 186 rfl) (own_w hw 53 rfl) (by decide) (by decide)) q20_1a q20_1c (g := (mkF m 136 #[.val (.ref r0), .val (.ref al2), .val (.ref it1), .val (.ref bd), .val (.ref it2), .val (.ref u), .val (.int (Int32.ofNat ms.length))] [(.ref u), (.int (Int32.ofNat ms.length))])) rfl (by rw [hml]; rfl) (Steps.refl _) (argsL := []) (rest := [(.int (Int32.ofNat ms.length))]) (lenOf pd20_0 rfl) rfl (own_mr rfl) (hb hby d20_136) (fun _ _ => ⟨rfl, e0, (by decide : 8 + 0 ≤ _), (by decide : 103 + 0 ≤ _)⟩)
      dsimp only [Pt.U, Pt.locs, Pt.cells, Pt.slots] at X20_1 l20_1 y20_1 z20_1 st20_1 hQ20_1
      subst l20_1 y20_1 z20_1
      obtain ⟨rfl, N20_1q, e20_1⟩ := hQ20_1
      have N20_1 := Fr.app N0 N20_1q
      refine own_fw (fun t k => st20_1.trans k) ?_
      refine own_fw (A := T20_1.setTop (mkF m 160 #[.val (.ref r0), .val (.ref al2), .val (.ref it1), .val (.ref bd), .val (.ref it2), .val (.ref u), .val (.int (Int32.ofNat ms.length))] [])) (fun t k => ?_) ?_
      · refine ox_icmpYes X20_1.here hx (pc0 := 139) (pc' := 160) rfl (hb hby d20_139) rfl (flt (Int32.lt_irrefl : ¬ ((Int32.ofNat ms.length) < (Int32.ofNat ms.length)))).2.1 (by decide) (by decide) ?_
        exact k
      exact cont _ _ _ _ _ (Or.inr ⟨rfl, X20_1⟩) e20_1 N20_1 (BD.cong ⟨b1, b2, b3, b4, b5, b6, b7, b8⟩ (by rw [List.take_length]))
  | succ rem ih =>
    intro T0 h1 locs ia cap j hj S0 e0 N0 B
    have hlt : j < ms.length := by omega
    have hlen : (xs0 ++ ms.take j).length = xs0.length + j := by rw [List.length_append, List.length_take]; omega
    obtain ⟨b1, b2, b3, b4, b5, b6, b7, b8⟩ := B
    have g_ia := b7
    have hcap := b5.2.2
    rcases S0 with ⟨rfl, X0⟩ | ⟨rfl, X0⟩
    · by_cases hl : (xs0 ++ ms.take j).length = 16
      · refine own_fw (A := T0.setTop (mkF m 134 #[.val (.ref r0), .val (.ref al2), .val (.ref it1), .val (.ref bd), .val (.ref it2), .val (.ref u), .val (.int (Int32.ofNat j))] [(.int (Int32.ofNat j))])) (fun t k => ?_) ?_
        · refine ox_iload X0.here hx (hb hby d20_132) rfl ?_
          exact k
        refine own_fw (A := T0.setTop (mkF m 136 #[.val (.ref r0), .val (.ref al2), .val (.ref it1), .val (.ref bd), .val (.ref it2), .val (.ref u), .val (.int (Int32.ofNat j))] [(.ref u), (.int (Int32.ofNat j))])) (fun t k => ?_) ?_
        · refine ox_aload X0.here hx (hb hby d20_134) rfl rfl ?_
          exact k
        obtain ⟨cq20_1, kq20_1, q20_1a, q20_1b, q20_1c⟩ := isOf hZ e0 (E_u.keep b1)
        obtain ⟨_, _, ⟨T20_1, L20_1, k20_1, n20_1⟩, -, X20_1, ⟨Lc20_1, hQ20_1, l20_1, y20_1, z20_1⟩, st20_1⟩ := X0.virtualBack hx (y := mN0) (z := mN0) hown (mvT hZ (own_w hw 182 rfl)) (mvT hZ (own_w hw 183 rfl)) (notFace_of_selects (args := #[]) (mvT hZ (own_w hw 185 rfl))) (mvT hZ (own_w hw 185 rfl)) (mvT hZ (own_w hw 184 rfl)) (by decide) (backOf (W := 1) (rm26 l Z a0 hw [] u mm kI ms.length ms h1 n0 (Nat.le_trans hAn b1.1) (F_u.keep b1 (ninS nu1 (ninS nu2 nin0))) (I_m.keep b1 (ninS nm1 (ninS nm2 nin0)))) hZ (own_w hw 186 rfl) (own_w hw 53 rfl) (by decide) (by decide)) q20_1a q20_1c (g := (mkF m 136 #[.val (.ref r0), .val (.ref al2), .val (.ref it1), .val (.ref bd), .val (.ref it2), .val (.ref u), .val (.int (Int32.ofNat j))] [(.ref u), (.int (Int32.ofNat j))])) rfl (by rw [hml]; rfl) (Steps.refl _) (argsL := []) (rest := [(.int (Int32.ofNat j))]) (lenOf pd20_0 rfl) rfl (own_mr rfl) (hb hby d20_136) (fun _ _ => ⟨rfl, e0, (by decide : 7 + 0 ≤ _), (by decide : 71 + 0 ≤ _)⟩)
        dsimp only [Pt.U, Pt.locs, Pt.cells, Pt.slots] at X20_1 l20_1 y20_1 z20_1 st20_1 hQ20_1
        subst l20_1 y20_1 z20_1
        obtain ⟨rfl, N20_1q, e20_1⟩ := hQ20_1
        have N20_1 := Fr.app N0 N20_1q
        refine own_fw (fun t k => st20_1.trans k) ?_
        refine own_fw (A := T20_1.setTop (mkF m 147 #[.val (.ref r0), .val (.ref al2), .val (.ref it1), .val (.ref bd), .val (.ref it2), .val (.ref u), .val (.int (Int32.ofNat j))] [(.int (Int32.ofNat j)), (.ref u), (.ref bd)])) (fun t k => ?_) ?_
        · refine ox_icmpNo X20_1.here hx (hb hby d20_139) rfl (tlt (own_lt32 (by omega) hlt)).2.1 ?_
          refine ox_aloadN X20_1.here hx (hb hby d20_142) rfl rfl ?_
          refine ox_aload X20_1.here hx (hb hby d20_143) rfl rfl ?_
          refine ox_iload X20_1.here hx (hb hby d20_145) rfl ?_
          exact k
        obtain ⟨cq20_2, kq20_2, q20_2a, q20_2b, q20_2c⟩ := isOf hZ e20_1 (E_u.keep b1)
        obtain ⟨_, _, ⟨T20_2, L20_2, k20_2, n20_2⟩, -, X20_2, ⟨Lc20_2, hQ20_2, l20_2, y20_2, z20_2⟩, st20_2⟩ := X20_1.virtualBack hx (y := mN1) (z := mN1) hown (mvT hZ (own_w hw 203 rfl)) (mvT hZ (own_w hw 204 rfl)) (notFace_of_selects (args := #[]) (mvT hZ (own_w hw 206 rfl))) (mvT hZ (own_w hw 206 rfl)) (mvT hZ (own_w hw 205 rfl)) (by decide) (backOf (W := 1) (rm28 l Z a0 hw [] u mm kI ms.length ms j h1 n0 (Nat.le_trans hAn b1.1) (F_u.keep b1 (ninS nu1 (ninS nu2 nin0))) (I_m.keep b1 (ninS nm1 (ninS nm2 nin0))) hlt) hZ (own_w hw 207 rfl) (own_w hw 53 rfl) (by decide) (by decide)) q20_2a q20_2c (g := (mkF m 147 #[.val (.ref r0), .val (.ref al2), .val (.ref it1), .val (.ref bd), .val (.ref it2), .val (.ref u), .val (.int (Int32.ofNat j))] [(.int (Int32.ofNat j)), (.ref u), (.ref bd)])) rfl (by rw [hml]; rfl) (Steps.refl _) (argsL := [(.int (Int32.ofNat j))]) (rest := [(.ref bd)]) (lenOf pd20_1 rfl) rfl (own_mr rfl) (hb hby d20_147) (fun _ _ => ⟨rfl, e20_1, (by decide : 7 + 0 ≤ _), (by decide : 71 + 0 ≤ _)⟩)
        dsimp only [Pt.U, Pt.locs, Pt.cells, Pt.slots] at X20_2 l20_2 y20_2 z20_2 st20_2 hQ20_2
        subst l20_2 y20_2 z20_2
        obtain ⟨rfl, N20_2q, e20_2⟩ := hQ20_2
        have N20_2 := Fr.app N20_1 N20_2q
        refine own_fw (fun t k => st20_2.trans k) ?_
        obtain ⟨cq20_3, kq20_3, q20_3a, q20_3b, q20_3c⟩ := isOf hZ e20_2 b2
        obtain ⟨_, _, ⟨T20_3, L20_3, k20_3, n20_3⟩, -, X20_3, ⟨Lc20_3, hQ20_3, l20_3, y20_3, z20_3⟩, st20_3⟩ := X20_2.virtualBack hx (y := mN2) (z := mN2) hown (mvT hZ (own_w hw 208 rfl)) (mvT hZ (own_w hw 18 rfl)) (notFace_of_selects (args := #[]) (mvT hZ (own_w hw 20 rfl))) (mvT hZ (own_w hw 20 rfl)) (mvT hZ (own_w hw 19 rfl)) (by decide) (backOf (W := 0) (rmBA_g l Z a0 hw [] bd (ms.getD j 0) ia kI (xs0 ++ ms.take j) h1 n0 (Nat.le_trans hAn b1.1) b2 b3 (own_cnt b4 (by rw [hl]; rfl)) b5 hk b8 g_bd g_ia hl) hZ (own_w hw 21 rfl) (own_w hw 7 rfl) (by decide) (by decide)) q20_3a q20_3c (g := (mkF m 150 #[.val (.ref r0), .val (.ref al2), .val (.ref it1), .val (.ref bd), .val (.ref it2), .val (.ref u), .val (.int (Int32.ofNat j))] [(.int (ms.getD j 0)), (.ref bd)])) rfl (by rw [hml]; rfl) (Steps.refl _) (argsL := [(.int (ms.getD j 0))]) (rest := []) (lenOf pd20_2 rfl) rfl (own_mr rfl) (hb hby d20_150) (fun _ _ => ⟨rfl, e20_2, (by decide : 7 + 1 ≤ _), (by decide : 71 + 32 ≤ _)⟩)
        dsimp only [Pt.U, Pt.locs, Pt.cells, Pt.slots] at X20_3 l20_3 y20_3 z20_3 st20_3 hQ20_3
        subst l20_3 y20_3 z20_3
        obtain ⟨ia20_3, rfl, N20_3q, K20_3, Ex20_3, Fi20_3, Fc20_3, Ia20_3, hs20_3⟩ := hQ20_3
        have N20_3 := Fr.app N20_2 N20_3q
        refine own_fw (fun t k => st20_3.trans k) ?_
        refine own_fw (A := T20_3.setTop (mkF m 132 #[.val (.ref r0), .val (.ref al2), .val (.ref it1), .val (.ref bd), .val (.ref it2), .val (.ref u), .val (.int ((Int32.ofNat j) + (1 : Int32)))] [])) (fun t k => ?_) ?_
        · refine ox_pop X20_3.here hx (hb hby d20_153) rfl rfl ?_
          refine ox_iinc X20_3.here hx (hb hby d20_154) rfl (l' := #[.val (.ref r0), .val (.ref al2), .val (.ref it1), .val (.ref bd), .val (.ref it2), .val (.ref u), .val (.int ((Int32.ofNat j) + (1 : Int32)))]) rfl ?_
          refine ox_goto X20_3.here hx (pc0 := 157) (pc' := 132) rfl (hb hby d20_157) (by decide) (by decide) ?_
          exact k
        rw [own_succ j]
        exact ih _ _ _ _ _ _ (by omega) (Or.inr ⟨rfl, X20_3⟩) rfl N20_3 (BD.cong (own_bd_step hAn ⟨b1, b2, b3, b4, b5, b6, b7, b8⟩ K20_3 Ex20_3 Fi20_3 Fc20_3 Ia20_3 hs20_3) (own_takes hlt))
      · refine own_fw (A := T0.setTop (mkF m 134 #[.val (.ref r0), .val (.ref al2), .val (.ref it1), .val (.ref bd), .val (.ref it2), .val (.ref u), .val (.int (Int32.ofNat j))] [(.int (Int32.ofNat j))])) (fun t k => ?_) ?_
        · refine ox_iload X0.here hx (hb hby d20_132) rfl ?_
          exact k
        refine own_fw (A := T0.setTop (mkF m 136 #[.val (.ref r0), .val (.ref al2), .val (.ref it1), .val (.ref bd), .val (.ref it2), .val (.ref u), .val (.int (Int32.ofNat j))] [(.ref u), (.int (Int32.ofNat j))])) (fun t k => ?_) ?_
        · refine ox_aload X0.here hx (hb hby d20_134) rfl rfl ?_
          exact k
        obtain ⟨cq20_1, kq20_1, q20_1a, q20_1b, q20_1c⟩ := isOf hZ e0 (E_u.keep b1)
        obtain ⟨_, _, ⟨T20_1, L20_1, k20_1, n20_1⟩, -, X20_1, ⟨Lc20_1, hQ20_1, l20_1, y20_1, z20_1⟩, st20_1⟩ := X0.virtualBack hx (y := mN0) (z := mN0) hown (mvT hZ (own_w hw 182 rfl)) (mvT hZ (own_w hw 183 rfl)) (notFace_of_selects (args := #[]) (mvT hZ (own_w hw 185 rfl))) (mvT hZ (own_w hw 185 rfl)) (mvT hZ (own_w hw 184 rfl)) (by decide) (backOf (W := 1) (rm26 l Z a0 hw [] u mm kI ms.length ms h1 n0 (Nat.le_trans hAn b1.1) (F_u.keep b1 (ninS nu1 (ninS nu2 nin0))) (I_m.keep b1 (ninS nm1 (ninS nm2 nin0)))) hZ (own_w hw 186 rfl) (own_w hw 53 rfl) (by decide) (by decide)) q20_1a q20_1c (g := (mkF m 136 #[.val (.ref r0), .val (.ref al2), .val (.ref it1), .val (.ref bd), .val (.ref it2), .val (.ref u), .val (.int (Int32.ofNat j))] [(.ref u), (.int (Int32.ofNat j))])) rfl (by rw [hml]; rfl) (Steps.refl _) (argsL := []) (rest := [(.int (Int32.ofNat j))]) (lenOf pd20_0 rfl) rfl (own_mr rfl) (hb hby d20_136) (fun _ _ => ⟨rfl, e0, (by decide : 7 + 0 ≤ _), (by decide : 71 + 0 ≤ _)⟩)
        dsimp only [Pt.U, Pt.locs, Pt.cells, Pt.slots] at X20_1 l20_1 y20_1 z20_1 st20_1 hQ20_1
        subst l20_1 y20_1 z20_1
        obtain ⟨rfl, N20_1q, e20_1⟩ := hQ20_1
        have N20_1 := Fr.app N0 N20_1q
        refine own_fw (fun t k => st20_1.trans k) ?_
        refine own_fw (A := T20_1.setTop (mkF m 147 #[.val (.ref r0), .val (.ref al2), .val (.ref it1), .val (.ref bd), .val (.ref it2), .val (.ref u), .val (.int (Int32.ofNat j))] [(.int (Int32.ofNat j)), (.ref u), (.ref bd)])) (fun t k => ?_) ?_
        · refine ox_icmpNo X20_1.here hx (hb hby d20_139) rfl (tlt (own_lt32 (by omega) hlt)).2.1 ?_
          refine ox_aloadN X20_1.here hx (hb hby d20_142) rfl rfl ?_
          refine ox_aload X20_1.here hx (hb hby d20_143) rfl rfl ?_
          refine ox_iload X20_1.here hx (hb hby d20_145) rfl ?_
          exact k
        obtain ⟨cq20_2, kq20_2, q20_2a, q20_2b, q20_2c⟩ := isOf hZ e20_1 (E_u.keep b1)
        obtain ⟨_, _, ⟨T20_2, L20_2, k20_2, n20_2⟩, -, X20_2, ⟨Lc20_2, hQ20_2, l20_2, y20_2, z20_2⟩, st20_2⟩ := X20_1.virtualBack hx (y := mN1) (z := mN1) hown (mvT hZ (own_w hw 203 rfl)) (mvT hZ (own_w hw 204 rfl)) (notFace_of_selects (args := #[]) (mvT hZ (own_w hw 206 rfl))) (mvT hZ (own_w hw 206 rfl)) (mvT hZ (own_w hw 205 rfl)) (by decide) (backOf (W := 1) (rm28 l Z a0 hw [] u mm kI ms.length ms j h1 n0 (Nat.le_trans hAn b1.1) (F_u.keep b1 (ninS nu1 (ninS nu2 nin0))) (I_m.keep b1 (ninS nm1 (ninS nm2 nin0))) hlt) hZ (own_w hw 207 rfl) (own_w hw 53 rfl) (by decide) (by decide)) q20_2a q20_2c (g := (mkF m 147 #[.val (.ref r0), .val (.ref al2), .val (.ref it1), .val (.ref bd), .val (.ref it2), .val (.ref u), .val (.int (Int32.ofNat j))] [(.int (Int32.ofNat j)), (.ref u), (.ref bd)])) rfl (by rw [hml]; rfl) (Steps.refl _) (argsL := [(.int (Int32.ofNat j))]) (rest := [(.ref bd)]) (lenOf pd20_1 rfl) rfl (own_mr rfl) (hb hby d20_147) (fun _ _ => ⟨rfl, e20_1, (by decide : 7 + 0 ≤ _), (by decide : 71 + 0 ≤ _)⟩)
        dsimp only [Pt.U, Pt.locs, Pt.cells, Pt.slots] at X20_2 l20_2 y20_2 z20_2 st20_2 hQ20_2
        subst l20_2 y20_2 z20_2
        obtain ⟨rfl, N20_2q, e20_2⟩ := hQ20_2
        have N20_2 := Fr.app N20_1 N20_2q
        refine own_fw (fun t k => st20_2.trans k) ?_
        obtain ⟨cq20_3, kq20_3, q20_3a, q20_3b, q20_3c⟩ := isOf hZ e20_2 b2
        obtain ⟨_, _, ⟨T20_3, L20_3, k20_3, n20_3⟩, -, X20_3, ⟨Lc20_3, hQ20_3, l20_3, y20_3, z20_3⟩, st20_3⟩ := X20_2.virtualBack hx (y := mN2) (z := mN2) hown (mvT hZ (own_w hw 208 rfl)) (mvT hZ (own_w hw 18 rfl)) (notFace_of_selects (args := #[]) (mvT hZ (own_w hw 20 rfl))) (mvT hZ (own_w hw 20 rfl)) (mvT hZ (own_w hw 19 rfl)) (by decide) (backOf (W := 0) (rmBA_n l Z a0 hw [] bd (ms.getD j 0) ia kI (xs0 ++ ms.take j) 16 h1 n0 (Nat.le_trans hAn b1.1) b2 b3 b4 b5 hk b8 g_bd g_ia (show (xs0 ++ ms.take j).length < 16 by omega) (own_nofull (show (xs0 ++ ms.take j).length < 16 by omega) (by decide))) hZ (own_w hw 21 rfl) (own_w hw 7 rfl) (by decide) (by decide)) q20_3a q20_3c (g := (mkF m 150 #[.val (.ref r0), .val (.ref al2), .val (.ref it1), .val (.ref bd), .val (.ref it2), .val (.ref u), .val (.int (Int32.ofNat j))] [(.int (ms.getD j 0)), (.ref bd)])) rfl (by rw [hml]; rfl) (Steps.refl _) (argsL := [(.int (ms.getD j 0))]) (rest := []) (lenOf pd20_2 rfl) rfl (own_mr rfl) (hb hby d20_150) (fun _ _ => ⟨rfl, e20_2, (by decide : 7 + 0 ≤ _), (by decide : 71 + 0 ≤ _)⟩)
        dsimp only [Pt.U, Pt.locs, Pt.cells, Pt.slots] at X20_3 l20_3 y20_3 z20_3 st20_3 hQ20_3
        subst l20_3 y20_3 z20_3
        obtain ⟨ia20_3, rfl, N20_3q, K20_3, Ex20_3, Fi20_3, Fc20_3, Ia20_3, hs20_3⟩ := hQ20_3
        have N20_3 := Fr.app N20_2 N20_3q
        refine own_fw (fun t k => st20_3.trans k) ?_
        refine own_fw (A := T20_3.setTop (mkF m 132 #[.val (.ref r0), .val (.ref al2), .val (.ref it1), .val (.ref bd), .val (.ref it2), .val (.ref u), .val (.int ((Int32.ofNat j) + (1 : Int32)))] [])) (fun t k => ?_) ?_
        · refine ox_pop X20_3.here hx (hb hby d20_153) rfl rfl ?_
          refine ox_iinc X20_3.here hx (hb hby d20_154) rfl (l' := #[.val (.ref r0), .val (.ref al2), .val (.ref it1), .val (.ref bd), .val (.ref it2), .val (.ref u), .val (.int ((Int32.ofNat j) + (1 : Int32)))]) rfl ?_
          refine ox_goto X20_3.here hx (pc0 := 157) (pc' := 132) rfl (hb hby d20_157) (by decide) (by decide) ?_
          exact k
        rw [own_succ j]
        exact ih _ _ _ _ _ _ (by omega) (Or.inl ⟨rfl, X20_3⟩) rfl N20_3 (BD.cong (own_bd_step hAn ⟨b1, b2, b3, b4, b5, b6, b7, b8⟩ K20_3 Ex20_3 Fi20_3 Fc20_3 Ia20_3 hs20_3) (own_takes hlt))
    · refine own_fw (A := T0.setTop (mkF m 134 #[.val (.ref r0), .val (.ref al2), .val (.ref it1), .val (.ref bd), .val (.ref it2), .val (.ref u), .val (.int (Int32.ofNat j))] [(.int (Int32.ofNat j))])) (fun t k => ?_) ?_
      · refine ox_iload X0.here hx (hb hby d20_132) rfl ?_
        exact k
      refine own_fw (A := T0.setTop (mkF m 136 #[.val (.ref r0), .val (.ref al2), .val (.ref it1), .val (.ref bd), .val (.ref it2), .val (.ref u), .val (.int (Int32.ofNat j))] [(.ref u), (.int (Int32.ofNat j))])) (fun t k => ?_) ?_
      · refine ox_aload X0.here hx (hb hby d20_134) rfl rfl ?_
        exact k
      obtain ⟨cq20_1, kq20_1, q20_1a, q20_1b, q20_1c⟩ := isOf hZ e0 (E_u.keep b1)
      obtain ⟨_, _, ⟨T20_1, L20_1, k20_1, n20_1⟩, -, X20_1, ⟨Lc20_1, hQ20_1, l20_1, y20_1, z20_1⟩, st20_1⟩ := X0.virtualBack hx (y := mN0) (z := mN0) hown (mvT hZ (own_w hw 182 rfl)) (mvT hZ (own_w hw 183 rfl)) (notFace_of_selects (args := #[]) (mvT hZ (own_w hw 185 rfl))) (mvT hZ (own_w hw 185 rfl)) (mvT hZ (own_w hw 184 rfl)) (by decide) (backOf (W := 1) (rm26 l Z a0 hw [] u mm kI ms.length ms h1 n0 (Nat.le_trans hAn b1.1) (F_u.keep b1 (ninS nu1 (ninS nu2 nin0))) (I_m.keep b1 (ninS nm1 (ninS nm2 nin0)))) hZ (own_w hw 186 rfl) (own_w hw 53 rfl) (by decide) (by decide)) q20_1a q20_1c (g := (mkF m 136 #[.val (.ref r0), .val (.ref al2), .val (.ref it1), .val (.ref bd), .val (.ref it2), .val (.ref u), .val (.int (Int32.ofNat j))] [(.ref u), (.int (Int32.ofNat j))])) rfl (by rw [hml]; rfl) (Steps.refl _) (argsL := []) (rest := [(.int (Int32.ofNat j))]) (lenOf pd20_0 rfl) rfl (own_mr rfl) (hb hby d20_136) (fun _ _ => ⟨rfl, e0, (by decide : 8 + 0 ≤ _), (by decide : 103 + 0 ≤ _)⟩)
      dsimp only [Pt.U, Pt.locs, Pt.cells, Pt.slots] at X20_1 l20_1 y20_1 z20_1 st20_1 hQ20_1
      subst l20_1 y20_1 z20_1
      obtain ⟨rfl, N20_1q, e20_1⟩ := hQ20_1
      have N20_1 := Fr.app N0 N20_1q
      refine own_fw (fun t k => st20_1.trans k) ?_
      refine own_fw (A := T20_1.setTop (mkF m 147 #[.val (.ref r0), .val (.ref al2), .val (.ref it1), .val (.ref bd), .val (.ref it2), .val (.ref u), .val (.int (Int32.ofNat j))] [(.int (Int32.ofNat j)), (.ref u), (.ref bd)])) (fun t k => ?_) ?_
      · refine ox_icmpNo X20_1.here hx (hb hby d20_139) rfl (tlt (own_lt32 (by omega) hlt)).2.1 ?_
        refine ox_aloadN X20_1.here hx (hb hby d20_142) rfl rfl ?_
        refine ox_aload X20_1.here hx (hb hby d20_143) rfl rfl ?_
        refine ox_iload X20_1.here hx (hb hby d20_145) rfl ?_
        exact k
      obtain ⟨cq20_2, kq20_2, q20_2a, q20_2b, q20_2c⟩ := isOf hZ e20_1 (E_u.keep b1)
      obtain ⟨_, _, ⟨T20_2, L20_2, k20_2, n20_2⟩, -, X20_2, ⟨Lc20_2, hQ20_2, l20_2, y20_2, z20_2⟩, st20_2⟩ := X20_1.virtualBack hx (y := mN1) (z := mN1) hown (mvT hZ (own_w hw 203 rfl)) (mvT hZ (own_w hw 204 rfl)) (notFace_of_selects (args := #[]) (mvT hZ (own_w hw 206 rfl))) (mvT hZ (own_w hw 206 rfl)) (mvT hZ (own_w hw 205 rfl)) (by decide) (backOf (W := 1) (rm28 l Z a0 hw [] u mm kI ms.length ms j h1 n0 (Nat.le_trans hAn b1.1) (F_u.keep b1 (ninS nu1 (ninS nu2 nin0))) (I_m.keep b1 (ninS nm1 (ninS nm2 nin0))) hlt) hZ (own_w hw 207 rfl) (own_w hw 53 rfl) (by decide) (by decide)) q20_2a q20_2c (g := (mkF m 147 #[.val (.ref r0), .val (.ref al2), .val (.ref it1), .val (.ref bd), .val (.ref it2), .val (.ref u), .val (.int (Int32.ofNat j))] [(.int (Int32.ofNat j)), (.ref u), (.ref bd)])) rfl (by rw [hml]; rfl) (Steps.refl _) (argsL := [(.int (Int32.ofNat j))]) (rest := [(.ref bd)]) (lenOf pd20_1 rfl) rfl (own_mr rfl) (hb hby d20_147) (fun _ _ => ⟨rfl, e20_1, (by decide : 8 + 0 ≤ _), (by decide : 103 + 0 ≤ _)⟩)
      dsimp only [Pt.U, Pt.locs, Pt.cells, Pt.slots] at X20_2 l20_2 y20_2 z20_2 st20_2 hQ20_2
      subst l20_2 y20_2 z20_2
      obtain ⟨rfl, N20_2q, e20_2⟩ := hQ20_2
      have N20_2 := Fr.app N20_1 N20_2q
      refine own_fw (fun t k => st20_2.trans k) ?_
      obtain ⟨cq20_3, kq20_3, q20_3a, q20_3b, q20_3c⟩ := isOf hZ e20_2 b2
      obtain ⟨_, _, ⟨T20_3, L20_3, k20_3, n20_3⟩, -, X20_3, ⟨Lc20_3, hQ20_3, l20_3, y20_3, z20_3⟩, st20_3⟩ := X20_2.virtualBack hx (y := mN2) (z := mN2) hown (mvT hZ (own_w hw 208 rfl)) (mvT hZ (own_w hw 18 rfl)) (notFace_of_selects (args := #[]) (mvT hZ (own_w hw 20 rfl))) (mvT hZ (own_w hw 20 rfl)) (mvT hZ (own_w hw 19 rfl)) (by decide) (backOf (W := 0) (rmBA_n l Z a0 hw [] bd (ms.getD j 0) ia kI (xs0 ++ ms.take j) 32 h1 n0 (Nat.le_trans hAn b1.1) b2 b3 b4 b5 hk b8 g_bd g_ia (show (xs0 ++ ms.take j).length < 32 by omega) (own_nofull (show (xs0 ++ ms.take j).length < 32 by omega) (by decide))) hZ (own_w hw 21 rfl) (own_w hw 7 rfl) (by decide) (by decide)) q20_3a q20_3c (g := (mkF m 150 #[.val (.ref r0), .val (.ref al2), .val (.ref it1), .val (.ref bd), .val (.ref it2), .val (.ref u), .val (.int (Int32.ofNat j))] [(.int (ms.getD j 0)), (.ref bd)])) rfl (by rw [hml]; rfl) (Steps.refl _) (argsL := [(.int (ms.getD j 0))]) (rest := []) (lenOf pd20_2 rfl) rfl (own_mr rfl) (hb hby d20_150) (fun _ _ => ⟨rfl, e20_2, (by decide : 8 + 0 ≤ _), (by decide : 103 + 0 ≤ _)⟩)
      dsimp only [Pt.U, Pt.locs, Pt.cells, Pt.slots] at X20_3 l20_3 y20_3 z20_3 st20_3 hQ20_3
      subst l20_3 y20_3 z20_3
      obtain ⟨ia20_3, rfl, N20_3q, K20_3, Ex20_3, Fi20_3, Fc20_3, Ia20_3, hs20_3⟩ := hQ20_3
      have N20_3 := Fr.app N20_2 N20_3q
      refine own_fw (fun t k => st20_3.trans k) ?_
      refine own_fw (A := T20_3.setTop (mkF m 132 #[.val (.ref r0), .val (.ref al2), .val (.ref it1), .val (.ref bd), .val (.ref it2), .val (.ref u), .val (.int ((Int32.ofNat j) + (1 : Int32)))] [])) (fun t k => ?_) ?_
      · refine ox_pop X20_3.here hx (hb hby d20_153) rfl rfl ?_
        refine ox_iinc X20_3.here hx (hb hby d20_154) rfl (l' := #[.val (.ref r0), .val (.ref al2), .val (.ref it1), .val (.ref bd), .val (.ref it2), .val (.ref u), .val (.int ((Int32.ofNat j) + (1 : Int32)))]) rfl ?_
        refine ox_goto X20_3.here hx (pc0 := 157) (pc' := 132) rfl (hb hby d20_157) (by decide) (by decide) ?_
        exact k
      rw [own_succ j]
      exact ih _ _ _ _ _ _ (by omega) (Or.inr ⟨rfl, X20_3⟩) rfl N20_3 (BD.cong (own_bd_step hAn ⟨b1, b2, b3, b4, b5, b6, b7, b8⟩ K20_3 Ex20_3 Fi20_3 Fc20_3 Ia20_3 hs20_3) (own_takes hlt))
def Q20 (Z : State) (kI : ClassId) (ms1 ms2 : List Int32) (h0 : Heap) (n0 : Nat) (w : Option Value) (h : Heap) (L : List Loc) : Prop := ∃ u mm D, w = some (.ref u) ∧ Fr n0 L ∧ Keep h0 h [] ∧ Exa Z h u "com/example/dolqa/dolqa/data/UnaryRelation" ∧ Fld Z h u "com/example/dolqa/dolqa/data/UnaryRelation" "members" "[I" (.ref mm) ∧ IA Z h mm kI D.length D ∧ D.Pairwise (· < ·) ∧ (∀ v, v ∈ D ↔ v ∈ ms1 ∨ v ∈ ms2) ∧ h0.size ≤ u ∧ h0.size ≤ mm
set_option maxRecDepth 65536 in
set_option maxHeartbeats 40000000 in
theorem rm20 (l : Launch) (Z : State) (a0 : Array Value) (hw : ∀ d ∈ tables_1, d.before a0 Z = true) (ws : List Jvm.Cond) (r0 : Addr) (ea : Addr) (kb : ClassId) (u1 : Addr) (m1 : Addr) (u2 : Addr) (m2 : Addr) (kI : ClassId) (ms1 : List Int32) (ms2 : List Int32) (d0 : Addr) (k0 : ClassId) (h0 : Heap) (n0 : Nat) (Z0 : n0 ≤ h0.size) (E_al : Exa Z h0 r0 "java/util/ArrayList") (F_e : Fld Z h0 r0 "java/util/ArrayList" "elementData" "[Ljava/lang/Object;" (.ref ea)) (F_s : Fld Z h0 r0 "java/util/ArrayList" "size" "I" (.int (2 : Int32))) (F_m : Fld Z h0 r0 "java/util/AbstractList" "modCount" "I" (.int (2 : Int32))) (V_e : Arv Z h0 ea kb (.object "java/lang/Object") 10 [(.ref u1), (.ref u2), .null, .null, .null, .null, .null, .null, .null, .null] .null) (E_u1 : Exa Z h0 u1 "com/example/dolqa/dolqa/data/UnaryRelation") (F_u1 : Fld Z h0 u1 "com/example/dolqa/dolqa/data/UnaryRelation" "members" "[I" (.ref m1)) (I_1 : IA Z h0 m1 kI ms1.length ms1) (ps1 : 0 < ms1.length) (E_u2 : Exa Z h0 u2 "com/example/dolqa/dolqa/data/UnaryRelation") (F_u2 : Fld Z h0 u2 "com/example/dolqa/dolqa/data/UnaryRelation" "members" "[I" (.ref m2)) (I_2 : IA Z h0 m2 kI ms2.length ms2) (ps2 : 0 < ms2.length) (hk : Z.vm.findClass "[I" = some kI) (h18 : ms1.length + ms2.length ≤ 18) (O_0 : Old Z n0 h0) (S_d : Sta Z Z.heap "java/util/ArrayList" "DEFAULTCAPACITY_EMPTY_ELEMENTDATA" "[Ljava/lang/Object;" (.ref d0)) (V_d : Arv Z Z.heap d0 k0 (.object "java/lang/Object") 0 [] .null) :
    MetFree l mN16 (head1 (Jvm.Cond.code mN16 prog_8_method_6_code 7 (some (.object "com/example/dolqa/dolqa/data/UnaryRelation")) :: ws) ({ frames := 6, cells := 11, slots := 150, locals := 200 } : Room)) (fun a U => a = #[(.ref r0)] ∧ Z.Warmed39 U.vm ∧ U.heap = h0) (fun _ _ _ _ _ => True) (fun _ U o U' => ∃ v L, o = .returned v ∧ Q20 Z kI ms1 ms2 h0 n0 v U'.heap L ∧ FrameEnd U o U' L ({ frames := 6, cells := 11, slots := 150, locals := 200 } : Room).cells ({ frames := 6, cells := 11, slots := 150, locals := 200 } : Room).slots) := by
  refine MetFree.of_bodySF (plainFor_of_name pn20) hisR ?_
  intro p e s m args below meth c s₁ Bd hml0 hP hK
  obtain ⟨rfl, hZ, hh⟩ := hP
  have hx := Bd.exec
  have hby := Bd.bytes
  have hml : c.maxLocals = 7 := hml0
  have hown : s.vm.findClass "com/example/dolqa/dolqa/data/UnaryRelation" = some m.cls := findClass_of_methodNamed Bd.named
  have hnm := (name_of_methodNamed Bd.named Bd.method).1
  have X0 : Stand p l e ({ frames := 6, cells := 11, slots := 150, locals := 200 } : Room) s m #[(.ref r0)] below meth c s₁ [] 0 0 := Stand.of_body Bd
  have e0 : s₁.heap = h0 := by rw [← hh, Bd.state]; rfl
  have N0 := Fr.nil n0
  refine own_fw (A := s₁.setTop (mkF m 0 #[.val (.ref r0), .unset, .unset, .unset, .unset, .unset, .unset] [])) (fun t k => castTop (ef20 m r0) k) ?_
  obtain ⟨T20_1, h20_1, X20_1, e20_1, E20_1, A20_1, D20_1, -, st20_1⟩ := newO X0 hx hZ hown (own_w hw 128 rfl) (own_w hw 72 rfl) (own_w hw 73 rfl) e0 (g := (mkF m 0 #[.val (.ref r0), .unset, .unset, .unset, .unset, .unset, .unset] [])) rfl (hb hby d20_0) (by decide) (by decide)
  obtain ⟨b20_1, g20_1⟩ : ∃ z, z = h0.size := ⟨_, rfl⟩
  rw [← g20_1] at A20_1 D20_1 st20_1
  have ne_r0_b20_1 : r0 ≠ b20_1 := Nat.ne_of_lt (Nat.lt_of_lt_of_le E_al.lt (Nat.le_of_eq g20_1.symm))
  have ne_ea_b20_1 : ea ≠ b20_1 := Nat.ne_of_lt (Nat.lt_of_lt_of_le V_e.lt (Nat.le_of_eq g20_1.symm))
  have ne_u1_b20_1 : u1 ≠ b20_1 := Nat.ne_of_lt (Nat.lt_of_lt_of_le E_u1.lt (Nat.le_of_eq g20_1.symm))
  have ne_m1_b20_1 : m1 ≠ b20_1 := Nat.ne_of_lt (Nat.lt_of_lt_of_le I_1.lt (Nat.le_of_eq g20_1.symm))
  have ne_u2_b20_1 : u2 ≠ b20_1 := Nat.ne_of_lt (Nat.lt_of_lt_of_le E_u2.lt (Nat.le_of_eq g20_1.symm))
  have ne_m2_b20_1 : m2 ≠ b20_1 := Nat.ne_of_lt (Nat.lt_of_lt_of_le I_2.lt (Nat.le_of_eq g20_1.symm))
  have g_b20_1 : n0 ≤ b20_1 := Nat.le_trans Z0 (Nat.le_of_eq g20_1.symm)
  have sz_b20_1 : h0.size ≤ b20_1 := Nat.le_trans (Keep.refl h0 []).1 (Nat.le_of_eq g20_1.symm)
  have F_modCount_b20_1 : Fld Z h20_1 b20_1 "java/util/AbstractList" "modCount" "I" (.int (0 : Int32)) := D20_1 (Or.inl (own_w hw 91 rfl)) (ty := .int) (by decide)
  have F_elementData_b20_1 : Fld Z h20_1 b20_1 "java/util/ArrayList" "elementData" "[Ljava/lang/Object;" .null := D20_1 (Or.inl (own_w hw 94 rfl)) (ty := (.array (.object "java/lang/Object"))) (by decide)
  have F_size_b20_1 : Fld Z h20_1 b20_1 "java/util/ArrayList" "size" "I" (.int (0 : Int32)) := D20_1 (Or.inl (own_w hw 103 rfl)) (ty := .int) (by decide)
  refine own_fw st20_1 ?_
  refine own_fw (A := T20_1.setTop (mkF m 4 #[.val (.ref r0), .unset, .unset, .unset, .unset, .unset, .unset] [(.ref b20_1), (.ref b20_1)])) (fun t k => ?_) ?_
  · refine ox_dup X20_1.here hx (hb hby d20_3) rfl rfl ?_
    exact k
  obtain ⟨_, _, ⟨T20_2, L20_2, k20_2, n20_2⟩, -, X20_2, ⟨Lc20_2, hQ20_2, l20_2, y20_2, z20_2⟩, st20_2⟩ := X20_1.specialBack hx (y := mN14) rfl hown (mvT hZ (own_w hw 129 rfl)) (mvT hZ (own_w hw 75 rfl)) (mvT hZ (own_w hw 76 rfl)) (by decide) (backOf (W := 1) (rm12 l Z a0 hw [] b20_1 d0 k0 h20_1 n0 (Nat.le_trans Z0 E20_1.1) A20_1 F_elementData_b20_1 F_size_b20_1 F_modCount_b20_1 g_b20_1 (O_0.ext E20_1) S_d V_d) hZ (own_w hw 76 rfl) (own_w hw 73 rfl) (by decide) (by decide)) (g := (mkF m 4 #[.val (.ref r0), .unset, .unset, .unset, .unset, .unset, .unset] [(.ref b20_1), (.ref b20_1)])) rfl (by rw [hml]; rfl) (Steps.refl _) (a := b20_1) (argsL := []) (rest := [(.ref b20_1)]) (lenOf pd20_4 rfl) rfl (own_mr rfl) (hb hby d20_4) (fun _ _ => ⟨rfl, e20_1, (by decide : 1 + 0 ≤ _), (by decide : 3 + 0 ≤ _)⟩)
  dsimp only [Pt.U, Pt.locs, Pt.cells, Pt.slots] at X20_2 l20_2 y20_2 z20_2 st20_2 hQ20_2
  subst l20_2 y20_2 z20_2
  obtain ⟨rfl, N20_2q, K20_2, Ex20_2, Fe20_2, Fs20_2, Fm20_2⟩ := hQ20_2
  have N20_2 := Fr.app N0 N20_2q
  refine own_fw (fun t k => st20_2.trans k) ?_
  refine own_fw (A := T20_2.setTop (mkF m 9 #[.val (.ref r0), .val (.ref b20_1), .unset, .unset, .unset, .unset, .unset] [(.ref r0)])) (fun t k => ?_) ?_
  · refine ox_astoreN X20_2.here hx (hb hby d20_7) rfl rfl (l' := #[.val (.ref r0), .val (.ref b20_1), .unset, .unset, .unset, .unset, .unset]) rfl ?_
    refine ox_aloadN X20_2.here hx (hb hby d20_8) rfl rfl ?_
    exact k
  obtain ⟨cq20_3, kq20_3, q20_3a, q20_3b, q20_3c⟩ := isOf hZ rfl ((E_al.ext E20_1).keep K20_2)
  obtain ⟨_, _, ⟨T20_3, L20_3, k20_3, n20_3⟩, -, X20_3, ⟨Lc20_3, hQ20_3, l20_3, y20_3, z20_3⟩, st20_3⟩ := X20_2.interfaceBack hx (xi := (⟨"java/util/List", "iterator", "()Ljava/util/Iterator;"⟩ : MethodName)) (y := mN15) hown (mvT hZ (own_w hw 130 rfl)) (mvT hZ (own_w hw 131 rfl)) (mvT hZ (own_w hw 132 rfl)) (mvT hZ (own_w hw 133 rfl)) (mvT hZ (own_w hw 134 rfl)) (mvT hZ (own_w hw 135 rfl)) (mvT hZ (own_w hw 136 rfl)) (mvT hZ (own_w hw 137 rfl)) (by decide) (backOf (W := 0) (rm21 l Z a0 hw [] r0 ea T20_2.heap n0 (Nat.le_trans (Nat.le_trans Z0 E20_1.1) K20_2.1) ((E_al.ext E20_1).keep K20_2) ((F_e.ext E20_1).keep K20_2 (fun q => ne_r0_b20_1 (List.mem_singleton.mp q))) ((F_s.ext E20_1).keep K20_2 (fun q => ne_r0_b20_1 (List.mem_singleton.mp q))) ((F_m.ext E20_1).keep K20_2 (fun q => ne_r0_b20_1 (List.mem_singleton.mp q)))) hZ (own_w hw 138 rfl) (own_w hw 73 rfl) (by decide) (by decide)) q20_3a q20_3b q20_3c (g := (mkF m 9 #[.val (.ref r0), .val (.ref b20_1), .unset, .unset, .unset, .unset, .unset] [(.ref r0)])) rfl (by rw [hml]; rfl) (Steps.refl _) (argsL := []) (rest := []) (lenOf pd20_6 rfl) rfl (own_mr rfl) (hb hby d20_9) (fun _ _ => ⟨rfl, rfl, (by decide : 1 + 1 ≤ _), (by decide : 3 + 4 ≤ _)⟩)
  dsimp only [Pt.U, Pt.locs, Pt.cells, Pt.slots] at X20_3 l20_3 y20_3 z20_3 st20_3 hQ20_3
  subst l20_3 y20_3 z20_3
  obtain ⟨it20_3, rfl, N20_3q, K20_3, Ei20_3, Ic20_3, Il20_3, Ix20_3, It20_3, zg20_3⟩ := hQ20_3
  have N20_3 := Fr.app N20_2 N20_3q
  have ne_r0_it20_3 : r0 ≠ it20_3 := Nat.ne_of_lt (Nat.lt_of_lt_of_le ((E_al.ext E20_1).keep K20_2).lt zg20_3)
  have ne_ea_it20_3 : ea ≠ it20_3 := Nat.ne_of_lt (Nat.lt_of_lt_of_le ((V_e.ext E20_1).keep K20_2 (fun q => ne_ea_b20_1 (List.mem_singleton.mp q))).lt zg20_3)
  have ne_u1_it20_3 : u1 ≠ it20_3 := Nat.ne_of_lt (Nat.lt_of_lt_of_le ((E_u1.ext E20_1).keep K20_2).lt zg20_3)
  have ne_m1_it20_3 : m1 ≠ it20_3 := Nat.ne_of_lt (Nat.lt_of_lt_of_le ((I_1.ext E20_1).keep K20_2 (fun q => ne_m1_b20_1 (List.mem_singleton.mp q))).lt zg20_3)
  have ne_u2_it20_3 : u2 ≠ it20_3 := Nat.ne_of_lt (Nat.lt_of_lt_of_le ((E_u2.ext E20_1).keep K20_2).lt zg20_3)
  have ne_m2_it20_3 : m2 ≠ it20_3 := Nat.ne_of_lt (Nat.lt_of_lt_of_le ((I_2.ext E20_1).keep K20_2 (fun q => ne_m2_b20_1 (List.mem_singleton.mp q))).lt zg20_3)
  have ne_b20_1_it20_3 : b20_1 ≠ it20_3 := Nat.ne_of_lt (Nat.lt_of_lt_of_le Ex20_2.lt zg20_3)
  have g_it20_3 : n0 ≤ it20_3 := Nat.le_trans (Nat.le_trans (Nat.le_trans Z0 E20_1.1) K20_2.1) zg20_3
  have sz_it20_3 : h0.size ≤ it20_3 := Nat.le_trans (((Keep.refl h0 []).ext E20_1).trans K20_2 (allS (Or.inr sz_b20_1) all0)).1 zg20_3
  refine own_fw (fun t k => st20_3.trans k) ?_
  refine own_fw (A := T20_3.setTop (mkF m 16 #[.val (.ref r0), .val (.ref b20_1), .val (.ref it20_3), .unset, .unset, .unset, .unset] [(.ref it20_3)])) (fun t k => ?_) ?_
  · refine ox_astoreN X20_3.here hx (hb hby d20_14) rfl rfl (l' := #[.val (.ref r0), .val (.ref b20_1), .val (.ref it20_3), .unset, .unset, .unset, .unset]) rfl ?_
    refine ox_aloadN X20_3.here hx (hb hby d20_15) rfl rfl ?_
    exact k
  obtain ⟨cq20_4, kq20_4, q20_4a, q20_4b, q20_4c⟩ := isOf hZ rfl Ei20_3
  obtain ⟨_, _, ⟨T20_4, L20_4, k20_4, n20_4⟩, -, X20_4, ⟨Lc20_4, hQ20_4, l20_4, y20_4, z20_4⟩, st20_4⟩ := X20_3.interfaceBack hx (xi := mN10) (y := mN4) hown (mvT hZ (own_w hw 154 rfl)) (mvT hZ (own_w hw 155 rfl)) (mvT hZ (own_w hw 156 rfl)) (mvT hZ (own_w hw 157 rfl)) (mvT hZ (own_w hw 158 rfl)) (mvT hZ (own_w hw 159 rfl)) (mvT hZ (own_w hw 160 rfl)) (mvT hZ (own_w hw 161 rfl)) (by decide) (backOf (W := 0) (rm23 l Z a0 hw [] it20_3 r0 (0 : Int32) T20_3.heap n0 (Nat.le_trans (Nat.le_trans (Nat.le_trans Z0 E20_1.1) K20_2.1) K20_3.1) Ic20_3 It20_3 (((F_s.ext E20_1).keep K20_2 (fun q => ne_r0_b20_1 (List.mem_singleton.mp q))).keep K20_3 (fun q => nomatch q))) hZ (own_w hw 162 rfl) (own_w hw 141 rfl) (by decide) (by decide)) q20_4a q20_4b q20_4c (g := (mkF m 16 #[.val (.ref r0), .val (.ref b20_1), .val (.ref it20_3), .unset, .unset, .unset, .unset] [(.ref it20_3)])) rfl (by rw [hml]; rfl) (Steps.refl _) (argsL := []) (rest := []) (lenOf pd20_5 rfl) rfl (own_mr rfl) (hb hby d20_16) (fun _ _ => ⟨rfl, rfl, (by decide : 2 + 0 ≤ _), (by decide : 7 + 0 ≤ _)⟩)
  dsimp only [Pt.U, Pt.locs, Pt.cells, Pt.slots] at X20_4 l20_4 y20_4 z20_4 st20_4 hQ20_4
  subst l20_4 y20_4 z20_4
  obtain ⟨rfl, N20_4q, e20_4⟩ := hQ20_4
  have N20_4 := Fr.app N20_3 N20_4q
  refine own_fw (fun t k => st20_4.trans k) ?_
  refine own_fw (A := T20_4.setTop (mkF m 25 #[.val (.ref r0), .val (.ref b20_1), .val (.ref it20_3), .unset, .unset, .unset, .unset] [(.ref it20_3)])) (fun t k => ?_) ?_
  · refine ox_ifNo X20_4.here hx (hb hby d20_21) rfl ((if0 _ _).trans (feq (by decide +kernel)).1) ?_
    refine ox_aloadN X20_4.here hx (hb hby d20_24) rfl rfl ?_
    exact k
  obtain ⟨cq20_5, kq20_5, q20_5a, q20_5b, q20_5c⟩ := isOf hZ e20_4 Ei20_3
  obtain ⟨_, _, ⟨T20_5, L20_5, k20_5, n20_5⟩, -, X20_5, ⟨Lc20_5, hQ20_5, l20_5, y20_5, z20_5⟩, st20_5⟩ := X20_4.interfaceBack hx (xi := mN17) (y := mN5) hown (mvT hZ (own_w hw 166 rfl)) (mvT hZ (own_w hw 167 rfl)) (mvT hZ (own_w hw 168 rfl)) (mvT hZ (own_w hw 169 rfl)) (mvT hZ (own_w hw 170 rfl)) (mvT hZ (own_w hw 171 rfl)) (mvT hZ (own_w hw 172 rfl)) (mvT hZ (own_w hw 161 rfl)) (by decide) (backOf (W := 0) (rmNX_0 l Z a0 hw [] it20_3 r0 ea kb u1 u2 T20_3.heap n0 (Nat.le_trans (Nat.le_trans (Nat.le_trans Z0 E20_1.1) K20_2.1) K20_3.1) Ei20_3 Ic20_3 Il20_3 Ix20_3 It20_3 (((E_al.ext E20_1).keep K20_2).keep K20_3) (((F_e.ext E20_1).keep K20_2 (fun q => ne_r0_b20_1 (List.mem_singleton.mp q))).keep K20_3 (fun q => nomatch q)) (((F_s.ext E20_1).keep K20_2 (fun q => ne_r0_b20_1 (List.mem_singleton.mp q))).keep K20_3 (fun q => nomatch q)) (((F_m.ext E20_1).keep K20_2 (fun q => ne_r0_b20_1 (List.mem_singleton.mp q))).keep K20_3 (fun q => nomatch q)) (((V_e.ext E20_1).keep K20_2 (fun q => ne_ea_b20_1 (List.mem_singleton.mp q))).keep K20_3 (fun q => nomatch q)) ne_r0_it20_3 ne_ea_it20_3 g_it20_3) hZ (own_w hw 173 rfl) (own_w hw 141 rfl) (by decide) (by decide)) q20_5a q20_5b q20_5c (g := (mkF m 25 #[.val (.ref r0), .val (.ref b20_1), .val (.ref it20_3), .unset, .unset, .unset, .unset] [(.ref it20_3)])) rfl (by rw [hml]; rfl) (Steps.refl _) (argsL := []) (rest := []) (lenOf pd20_7 rfl) rfl (own_mr rfl) (hb hby d20_25) (fun _ _ => ⟨rfl, e20_4, (by decide : 2 + 0 ≤ _), (by decide : 7 + 0 ≤ _)⟩)
  dsimp only [Pt.U, Pt.locs, Pt.cells, Pt.slots] at X20_5 l20_5 y20_5 z20_5 st20_5 hQ20_5
  subst l20_5 y20_5 z20_5
  obtain ⟨rfl, N20_5q, K20_5, Ei20_5, Ic20_5, Il20_5, Ix20_5, It20_5⟩ := hQ20_5
  have N20_5 := Fr.app N20_4 N20_5q
  refine own_fw (fun t k => st20_5.trans k) ?_
  obtain ⟨T20_6, X20_6, e20_6, st20_6⟩ := castY X20_5 hx hZ hown (own_w hw 180 rfl) rfl (Ins.self ((((E_u1.ext E20_1).keep K20_2).keep K20_3).keep K20_5)) (g := (mkF m 30 #[.val (.ref r0), .val (.ref b20_1), .val (.ref it20_3), .unset, .unset, .unset, .unset] [(.ref u1)])) rfl rfl (hb hby d20_30)
  refine own_fw st20_6 ?_
  refine own_fw (A := T20_6.setTop (mkF m 35 #[.val (.ref r0), .val (.ref b20_1), .val (.ref it20_3), .val (.ref u1), .unset, .unset, .unset] [(.ref u1)])) (fun t k => ?_) ?_
  · refine ox_astoreN X20_6.here hx (hb hby d20_33) rfl rfl (l' := #[.val (.ref r0), .val (.ref b20_1), .val (.ref it20_3), .val (.ref u1), .unset, .unset, .unset]) rfl ?_
    refine ox_aloadN X20_6.here hx (hb hby d20_34) rfl rfl ?_
    exact k
  obtain ⟨cq20_7, kq20_7, q20_7a, q20_7b, q20_7c⟩ := isOf hZ e20_6 ((((E_u1.ext E20_1).keep K20_2).keep K20_3).keep K20_5)
  obtain ⟨_, _, ⟨T20_7, L20_7, k20_7, n20_7⟩, -, X20_7, ⟨Lc20_7, hQ20_7, l20_7, y20_7, z20_7⟩, st20_7⟩ := X20_6.virtualBack hx (y := mN0) (z := mN0) hown (mvT hZ (own_w hw 182 rfl)) (mvT hZ (own_w hw 183 rfl)) (notFace_of_selects (args := #[]) (mvT hZ (own_w hw 185 rfl))) (mvT hZ (own_w hw 185 rfl)) (mvT hZ (own_w hw 184 rfl)) (by decide) (backOf (W := 0) (rm26 l Z a0 hw [] u1 m1 kI ms1.length ms1 T20_5.heap n0 (Nat.le_trans (Nat.le_trans (Nat.le_trans (Nat.le_trans Z0 E20_1.1) K20_2.1) K20_3.1) K20_5.1) ((((F_u1.ext E20_1).keep K20_2 (fun q => ne_u1_b20_1 (List.mem_singleton.mp q))).keep K20_3 (fun q => nomatch q)).keep K20_5 (fun q => ne_u1_it20_3 (List.mem_singleton.mp q))) ((((I_1.ext E20_1).keep K20_2 (fun q => ne_m1_b20_1 (List.mem_singleton.mp q))).keep K20_3 (fun q => nomatch q)).keep K20_5 (fun q => ne_m1_it20_3 (List.mem_singleton.mp q)))) hZ (own_w hw 186 rfl) (own_w hw 53 rfl) (by decide) (by decide)) q20_7a q20_7c (g := (mkF m 35 #[.val (.ref r0), .val (.ref b20_1), .val (.ref it20_3), .val (.ref u1), .unset, .unset, .unset] [(.ref u1)])) rfl (by rw [hml]; rfl) (Steps.refl _) (argsL := []) (rest := []) (lenOf pd20_0 rfl) rfl (own_mr rfl) (hb hby d20_35) (fun _ _ => ⟨rfl, e20_6, (by decide : 2 + 0 ≤ _), (by decide : 7 + 0 ≤ _)⟩)
  dsimp only [Pt.U, Pt.locs, Pt.cells, Pt.slots] at X20_7 l20_7 y20_7 z20_7 st20_7 hQ20_7
  subst l20_7 y20_7 z20_7
  obtain ⟨rfl, N20_7q, e20_7⟩ := hQ20_7
  have N20_7 := Fr.app N20_5 N20_7q
  refine own_fw (fun t k => st20_7.trans k) ?_
  refine own_fw (A := T20_7.setTop (mkF m 43 #[.val (.ref r0), .val (.ref b20_1), .val (.ref it20_3), .val (.ref u1), .unset, .unset, .unset] [(.ref u1), (.ref b20_1)])) (fun t k => ?_) ?_
  · refine ox_ifNo X20_7.here hx (hb hby d20_38) rfl ((if0 _ _).trans (tlt (own_pos32 ps1 (by omega))).2.2.2) ?_
    refine ox_aloadN X20_7.here hx (hb hby d20_41) rfl rfl ?_
    refine ox_aloadN X20_7.here hx (hb hby d20_42) rfl rfl ?_
    exact k
  obtain ⟨cq20_8, kq20_8, q20_8a, q20_8b, q20_8c⟩ := isOf hZ e20_7 ((Ex20_2.keep K20_3).keep K20_5)
  obtain ⟨_, _, ⟨T20_8, L20_8, k20_8, n20_8⟩, -, X20_8, ⟨Lc20_8, hQ20_8, l20_8, y20_8, z20_8⟩, st20_8⟩ := X20_7.interfaceBack hx (xi := (⟨"java/util/List", "add", "(Ljava/lang/Object;)Z"⟩ : MethodName)) (y := mN3) hown (mvT hZ (own_w hw 187 rfl)) (mvT hZ (own_w hw 188 rfl)) (mvT hZ (own_w hw 189 rfl)) (mvT hZ (own_w hw 190 rfl)) (mvT hZ (own_w hw 97 rfl)) (mvT hZ (own_w hw 191 rfl)) (mvT hZ (own_w hw 192 rfl)) (mvT hZ (own_w hw 137 rfl)) (by decide) (backOf (W := 0) (rmA1_0 l Z a0 hw [] b20_1 u1 d0 k0 T20_5.heap n0 (Nat.le_trans (Nat.le_trans (Nat.le_trans (Nat.le_trans Z0 E20_1.1) K20_2.1) K20_3.1) K20_5.1) ((Ex20_2.keep K20_3).keep K20_5) ((Fe20_2.keep K20_3 (fun q => nomatch q)).keep K20_5 (fun q => ne_b20_1_it20_3 (List.mem_singleton.mp q))) ((Fs20_2.keep K20_3 (fun q => nomatch q)).keep K20_5 (fun q => ne_b20_1_it20_3 (List.mem_singleton.mp q))) ((Fm20_2.keep K20_3 (fun q => nomatch q)).keep K20_5 (fun q => ne_b20_1_it20_3 (List.mem_singleton.mp q))) ((((E_u1.ext E20_1).keep K20_2).keep K20_3).keep K20_5) ne_u1_b20_1 g_b20_1 ((((O_0.ext E20_1).keep K20_2 (allS g_b20_1 all0)).keep K20_3 all0).keep K20_5 (allS g_it20_3 all0)) S_d V_d) hZ (own_w hw 99 rfl) (own_w hw 73 rfl) (by decide) (by decide)) q20_8a q20_8b q20_8c (g := (mkF m 43 #[.val (.ref r0), .val (.ref b20_1), .val (.ref it20_3), .val (.ref u1), .unset, .unset, .unset] [(.ref u1), (.ref b20_1)])) rfl (by rw [hml]; rfl) (Steps.refl _) (argsL := [(.ref u1)]) (rest := []) (lenOf pd20_8 rfl) rfl (own_mr rfl) (hb hby d20_43) (fun _ _ => ⟨rfl, e20_7, (by decide : 2 + 1 ≤ _), (by decide : 7 + 10 ≤ _)⟩)
  dsimp only [Pt.U, Pt.locs, Pt.cells, Pt.slots] at X20_8 l20_8 y20_8 z20_8 st20_8 hQ20_8
  subst l20_8 y20_8 z20_8
  obtain ⟨ba20_8, kg20_8, rfl, N20_8q, K20_8, Ex20_8, Fe20_8, Fs20_8, Fm20_8, Vg20_8, Og20_8, zg20_8⟩ := hQ20_8
  have N20_8 := Fr.app N20_7 N20_8q
  have ne_r0_ba20_8 : r0 ≠ ba20_8 := Nat.ne_of_lt (Nat.lt_of_lt_of_le ((((E_al.ext E20_1).keep K20_2).keep K20_3).keep K20_5).lt zg20_8)
  have ne_u1_ba20_8 : u1 ≠ ba20_8 := Nat.ne_of_lt (Nat.lt_of_lt_of_le ((((E_u1.ext E20_1).keep K20_2).keep K20_3).keep K20_5).lt zg20_8)
  have ne_m1_ba20_8 : m1 ≠ ba20_8 := Nat.ne_of_lt (Nat.lt_of_lt_of_le ((((I_1.ext E20_1).keep K20_2 (fun q => ne_m1_b20_1 (List.mem_singleton.mp q))).keep K20_3 (fun q => nomatch q)).keep K20_5 (fun q => ne_m1_it20_3 (List.mem_singleton.mp q))).lt zg20_8)
  have ne_u2_ba20_8 : u2 ≠ ba20_8 := Nat.ne_of_lt (Nat.lt_of_lt_of_le ((((E_u2.ext E20_1).keep K20_2).keep K20_3).keep K20_5).lt zg20_8)
  have ne_m2_ba20_8 : m2 ≠ ba20_8 := Nat.ne_of_lt (Nat.lt_of_lt_of_le ((((I_2.ext E20_1).keep K20_2 (fun q => ne_m2_b20_1 (List.mem_singleton.mp q))).keep K20_3 (fun q => nomatch q)).keep K20_5 (fun q => ne_m2_it20_3 (List.mem_singleton.mp q))).lt zg20_8)
  have ne_b20_1_ba20_8 : b20_1 ≠ ba20_8 := Nat.ne_of_lt (Nat.lt_of_lt_of_le ((Ex20_2.keep K20_3).keep K20_5).lt zg20_8)
  have ne_it20_3_ba20_8 : it20_3 ≠ ba20_8 := Nat.ne_of_lt (Nat.lt_of_lt_of_le Ei20_5.lt zg20_8)
  have g_ba20_8 : n0 ≤ ba20_8 := Nat.le_trans (Nat.le_trans (Nat.le_trans (Nat.le_trans (Nat.le_trans Z0 E20_1.1) K20_2.1) K20_3.1) K20_5.1) zg20_8
  have sz_ba20_8 : h0.size ≤ ba20_8 := Nat.le_trans (((((Keep.refl h0 []).ext E20_1).trans K20_2 (allS (Or.inr sz_b20_1) all0)).trans K20_3 all0).trans K20_5 (allS (Or.inr sz_it20_3) all0)).1 zg20_8
  refine own_fw (fun t k => st20_8.trans k) ?_
  refine own_fw (A := T20_8.setTop (mkF m 16 #[.val (.ref r0), .val (.ref b20_1), .val (.ref it20_3), .val (.ref u1), .unset, .unset, .unset] [(.ref it20_3)])) (fun t k => ?_) ?_
  · refine ox_pop X20_8.here hx (hb hby d20_48) rfl rfl ?_
    refine ox_goto X20_8.here hx (pc0 := 49) (pc' := 15) rfl (hb hby d20_49) (by decide) (by decide) ?_
    refine ox_aloadN X20_8.here hx (hb hby d20_15) rfl rfl ?_
    exact k
  obtain ⟨cq20_9, kq20_9, q20_9a, q20_9b, q20_9c⟩ := isOf hZ rfl (Ei20_5.keep K20_8)
  obtain ⟨_, _, ⟨T20_9, L20_9, k20_9, n20_9⟩, -, X20_9, ⟨Lc20_9, hQ20_9, l20_9, y20_9, z20_9⟩, st20_9⟩ := X20_8.interfaceBack hx (xi := mN10) (y := mN4) hown (mvT hZ (own_w hw 154 rfl)) (mvT hZ (own_w hw 155 rfl)) (mvT hZ (own_w hw 156 rfl)) (mvT hZ (own_w hw 157 rfl)) (mvT hZ (own_w hw 158 rfl)) (mvT hZ (own_w hw 159 rfl)) (mvT hZ (own_w hw 160 rfl)) (mvT hZ (own_w hw 161 rfl)) (by decide) (backOf (W := 0) (rm23 l Z a0 hw [] it20_3 r0 (1 : Int32) T20_8.heap n0 (Nat.le_trans (Nat.le_trans (Nat.le_trans (Nat.le_trans (Nat.le_trans Z0 E20_1.1) K20_2.1) K20_3.1) K20_5.1) K20_8.1) (Ic20_5.keep K20_8 (fun q => (Ne.symm ne_b20_1_it20_3) (List.mem_singleton.mp q))) (It20_5.keep K20_8 (fun q => (Ne.symm ne_b20_1_it20_3) (List.mem_singleton.mp q))) (((((F_s.ext E20_1).keep K20_2 (fun q => ne_r0_b20_1 (List.mem_singleton.mp q))).keep K20_3 (fun q => nomatch q)).keep K20_5 (fun q => ne_r0_it20_3 (List.mem_singleton.mp q))).keep K20_8 (fun q => ne_r0_b20_1 (List.mem_singleton.mp q)))) hZ (own_w hw 162 rfl) (own_w hw 141 rfl) (by decide) (by decide)) q20_9a q20_9b q20_9c (g := (mkF m 16 #[.val (.ref r0), .val (.ref b20_1), .val (.ref it20_3), .val (.ref u1), .unset, .unset, .unset] [(.ref it20_3)])) rfl (by rw [hml]; rfl) (Steps.refl _) (argsL := []) (rest := []) (lenOf pd20_5 rfl) rfl (own_mr rfl) (hb hby d20_16) (fun _ _ => ⟨rfl, rfl, (by decide : 3 + 0 ≤ _), (by decide : 17 + 0 ≤ _)⟩)
  dsimp only [Pt.U, Pt.locs, Pt.cells, Pt.slots] at X20_9 l20_9 y20_9 z20_9 st20_9 hQ20_9
  subst l20_9 y20_9 z20_9
  obtain ⟨rfl, N20_9q, e20_9⟩ := hQ20_9
  have N20_9 := Fr.app N20_8 N20_9q
  refine own_fw (fun t k => st20_9.trans k) ?_
  refine own_fw (A := T20_9.setTop (mkF m 25 #[.val (.ref r0), .val (.ref b20_1), .val (.ref it20_3), .val (.ref u1), .unset, .unset, .unset] [(.ref it20_3)])) (fun t k => ?_) ?_
  · refine ox_ifNo X20_9.here hx (hb hby d20_21) rfl ((if0 _ _).trans (feq (by decide +kernel)).1) ?_
    refine ox_aloadN X20_9.here hx (hb hby d20_24) rfl rfl ?_
    exact k
  obtain ⟨cq20_10, kq20_10, q20_10a, q20_10b, q20_10c⟩ := isOf hZ e20_9 (Ei20_5.keep K20_8)
  obtain ⟨_, _, ⟨T20_10, L20_10, k20_10, n20_10⟩, -, X20_10, ⟨Lc20_10, hQ20_10, l20_10, y20_10, z20_10⟩, st20_10⟩ := X20_9.interfaceBack hx (xi := mN17) (y := mN5) hown (mvT hZ (own_w hw 166 rfl)) (mvT hZ (own_w hw 167 rfl)) (mvT hZ (own_w hw 168 rfl)) (mvT hZ (own_w hw 169 rfl)) (mvT hZ (own_w hw 170 rfl)) (mvT hZ (own_w hw 171 rfl)) (mvT hZ (own_w hw 172 rfl)) (mvT hZ (own_w hw 161 rfl)) (by decide) (backOf (W := 0) (rmNX_1 l Z a0 hw [] it20_3 r0 ea kb u1 u2 T20_8.heap n0 (Nat.le_trans (Nat.le_trans (Nat.le_trans (Nat.le_trans (Nat.le_trans Z0 E20_1.1) K20_2.1) K20_3.1) K20_5.1) K20_8.1) (Ei20_5.keep K20_8) (Ic20_5.keep K20_8 (fun q => (Ne.symm ne_b20_1_it20_3) (List.mem_singleton.mp q))) (Il20_5.keep K20_8 (fun q => (Ne.symm ne_b20_1_it20_3) (List.mem_singleton.mp q))) (Ix20_5.keep K20_8 (fun q => (Ne.symm ne_b20_1_it20_3) (List.mem_singleton.mp q))) (It20_5.keep K20_8 (fun q => (Ne.symm ne_b20_1_it20_3) (List.mem_singleton.mp q))) (((((E_al.ext E20_1).keep K20_2).keep K20_3).keep K20_5).keep K20_8) (((((F_e.ext E20_1).keep K20_2 (fun q => ne_r0_b20_1 (List.mem_singleton.mp q))).keep K20_3 (fun q => nomatch q)).keep K20_5 (fun q => ne_r0_it20_3 (List.mem_singleton.mp q))).keep K20_8 (fun q => ne_r0_b20_1 (List.mem_singleton.mp q))) (((((F_s.ext E20_1).keep K20_2 (fun q => ne_r0_b20_1 (List.mem_singleton.mp q))).keep K20_3 (fun q => nomatch q)).keep K20_5 (fun q => ne_r0_it20_3 (List.mem_singleton.mp q))).keep K20_8 (fun q => ne_r0_b20_1 (List.mem_singleton.mp q))) (((((F_m.ext E20_1).keep K20_2 (fun q => ne_r0_b20_1 (List.mem_singleton.mp q))).keep K20_3 (fun q => nomatch q)).keep K20_5 (fun q => ne_r0_it20_3 (List.mem_singleton.mp q))).keep K20_8 (fun q => ne_r0_b20_1 (List.mem_singleton.mp q))) (((((V_e.ext E20_1).keep K20_2 (fun q => ne_ea_b20_1 (List.mem_singleton.mp q))).keep K20_3 (fun q => nomatch q)).keep K20_5 (fun q => ne_ea_it20_3 (List.mem_singleton.mp q))).keep K20_8 (fun q => ne_ea_b20_1 (List.mem_singleton.mp q))) ne_r0_it20_3 ne_ea_it20_3 g_it20_3) hZ (own_w hw 173 rfl) (own_w hw 141 rfl) (by decide) (by decide)) q20_10a q20_10b q20_10c (g := (mkF m 25 #[.val (.ref r0), .val (.ref b20_1), .val (.ref it20_3), .val (.ref u1), .unset, .unset, .unset] [(.ref it20_3)])) rfl (by rw [hml]; rfl) (Steps.refl _) (argsL := []) (rest := []) (lenOf pd20_7 rfl) rfl (own_mr rfl) (hb hby d20_25) (fun _ _ => ⟨rfl, e20_9, (by decide : 3 + 0 ≤ _), (by decide : 17 + 0 ≤ _)⟩)
  dsimp only [Pt.U, Pt.locs, Pt.cells, Pt.slots] at X20_10 l20_10 y20_10 z20_10 st20_10 hQ20_10
  subst l20_10 y20_10 z20_10
  obtain ⟨rfl, N20_10q, K20_10, Ei20_10, Ic20_10, Il20_10, Ix20_10, It20_10⟩ := hQ20_10
  have N20_10 := Fr.app N20_9 N20_10q
  refine own_fw (fun t k => st20_10.trans k) ?_
  obtain ⟨T20_11, X20_11, e20_11, st20_11⟩ := castY X20_10 hx hZ hown (own_w hw 180 rfl) rfl (Ins.self ((((((E_u2.ext E20_1).keep K20_2).keep K20_3).keep K20_5).keep K20_8).keep K20_10)) (g := (mkF m 30 #[.val (.ref r0), .val (.ref b20_1), .val (.ref it20_3), .val (.ref u1), .unset, .unset, .unset] [(.ref u2)])) rfl rfl (hb hby d20_30)
  refine own_fw st20_11 ?_
  refine own_fw (A := T20_11.setTop (mkF m 35 #[.val (.ref r0), .val (.ref b20_1), .val (.ref it20_3), .val (.ref u2), .unset, .unset, .unset] [(.ref u2)])) (fun t k => ?_) ?_
  · refine ox_astoreN X20_11.here hx (hb hby d20_33) rfl rfl (l' := #[.val (.ref r0), .val (.ref b20_1), .val (.ref it20_3), .val (.ref u2), .unset, .unset, .unset]) rfl ?_
    refine ox_aloadN X20_11.here hx (hb hby d20_34) rfl rfl ?_
    exact k
  obtain ⟨cq20_12, kq20_12, q20_12a, q20_12b, q20_12c⟩ := isOf hZ e20_11 ((((((E_u2.ext E20_1).keep K20_2).keep K20_3).keep K20_5).keep K20_8).keep K20_10)
  obtain ⟨_, _, ⟨T20_12, L20_12, k20_12, n20_12⟩, -, X20_12, ⟨Lc20_12, hQ20_12, l20_12, y20_12, z20_12⟩, st20_12⟩ := X20_11.virtualBack hx (y := mN0) (z := mN0) hown (mvT hZ (own_w hw 182 rfl)) (mvT hZ (own_w hw 183 rfl)) (notFace_of_selects (args := #[]) (mvT hZ (own_w hw 185 rfl))) (mvT hZ (own_w hw 185 rfl)) (mvT hZ (own_w hw 184 rfl)) (by decide) (backOf (W := 0) (rm26 l Z a0 hw [] u2 m2 kI ms2.length ms2 T20_10.heap n0 (Nat.le_trans (Nat.le_trans (Nat.le_trans (Nat.le_trans (Nat.le_trans (Nat.le_trans Z0 E20_1.1) K20_2.1) K20_3.1) K20_5.1) K20_8.1) K20_10.1) ((((((F_u2.ext E20_1).keep K20_2 (fun q => ne_u2_b20_1 (List.mem_singleton.mp q))).keep K20_3 (fun q => nomatch q)).keep K20_5 (fun q => ne_u2_it20_3 (List.mem_singleton.mp q))).keep K20_8 (fun q => ne_u2_b20_1 (List.mem_singleton.mp q))).keep K20_10 (fun q => ne_u2_it20_3 (List.mem_singleton.mp q))) ((((((I_2.ext E20_1).keep K20_2 (fun q => ne_m2_b20_1 (List.mem_singleton.mp q))).keep K20_3 (fun q => nomatch q)).keep K20_5 (fun q => ne_m2_it20_3 (List.mem_singleton.mp q))).keep K20_8 (fun q => ne_m2_b20_1 (List.mem_singleton.mp q))).keep K20_10 (fun q => ne_m2_it20_3 (List.mem_singleton.mp q)))) hZ (own_w hw 186 rfl) (own_w hw 53 rfl) (by decide) (by decide)) q20_12a q20_12c (g := (mkF m 35 #[.val (.ref r0), .val (.ref b20_1), .val (.ref it20_3), .val (.ref u2), .unset, .unset, .unset] [(.ref u2)])) rfl (by rw [hml]; rfl) (Steps.refl _) (argsL := []) (rest := []) (lenOf pd20_0 rfl) rfl (own_mr rfl) (hb hby d20_35) (fun _ _ => ⟨rfl, e20_11, (by decide : 3 + 0 ≤ _), (by decide : 17 + 0 ≤ _)⟩)
  dsimp only [Pt.U, Pt.locs, Pt.cells, Pt.slots] at X20_12 l20_12 y20_12 z20_12 st20_12 hQ20_12
  subst l20_12 y20_12 z20_12
  obtain ⟨rfl, N20_12q, e20_12⟩ := hQ20_12
  have N20_12 := Fr.app N20_10 N20_12q
  refine own_fw (fun t k => st20_12.trans k) ?_
  refine own_fw (A := T20_12.setTop (mkF m 43 #[.val (.ref r0), .val (.ref b20_1), .val (.ref it20_3), .val (.ref u2), .unset, .unset, .unset] [(.ref u2), (.ref b20_1)])) (fun t k => ?_) ?_
  · refine ox_ifNo X20_12.here hx (hb hby d20_38) rfl ((if0 _ _).trans (tlt (own_pos32 ps2 (by omega))).2.2.2) ?_
    refine ox_aloadN X20_12.here hx (hb hby d20_41) rfl rfl ?_
    refine ox_aloadN X20_12.here hx (hb hby d20_42) rfl rfl ?_
    exact k
  obtain ⟨cq20_13, kq20_13, q20_13a, q20_13b, q20_13c⟩ := isOf hZ e20_12 (Ex20_8.keep K20_10)
  obtain ⟨_, _, ⟨T20_13, L20_13, k20_13, n20_13⟩, -, X20_13, ⟨Lc20_13, hQ20_13, l20_13, y20_13, z20_13⟩, st20_13⟩ := X20_12.interfaceBack hx (xi := (⟨"java/util/List", "add", "(Ljava/lang/Object;)Z"⟩ : MethodName)) (y := mN3) hown (mvT hZ (own_w hw 187 rfl)) (mvT hZ (own_w hw 188 rfl)) (mvT hZ (own_w hw 189 rfl)) (mvT hZ (own_w hw 190 rfl)) (mvT hZ (own_w hw 97 rfl)) (mvT hZ (own_w hw 191 rfl)) (mvT hZ (own_w hw 192 rfl)) (mvT hZ (own_w hw 137 rfl)) (by decide) (backOf (W := 0) (rmA1_1 l Z a0 hw [] b20_1 u2 ba20_8 u1 kg20_8 T20_10.heap n0 (Nat.le_trans (Nat.le_trans (Nat.le_trans (Nat.le_trans (Nat.le_trans (Nat.le_trans Z0 E20_1.1) K20_2.1) K20_3.1) K20_5.1) K20_8.1) K20_10.1) (Ex20_8.keep K20_10) (Fe20_8.keep K20_10 (fun q => ne_b20_1_it20_3 (List.mem_singleton.mp q))) (Fs20_8.keep K20_10 (fun q => ne_b20_1_it20_3 (List.mem_singleton.mp q))) (Fm20_8.keep K20_10 (fun q => ne_b20_1_it20_3 (List.mem_singleton.mp q))) ((((((E_u2.ext E20_1).keep K20_2).keep K20_3).keep K20_5).keep K20_8).keep K20_10) ne_u2_b20_1 (Vg20_8.keep K20_10 (fun q => (Ne.symm ne_it20_3_ba20_8) (List.mem_singleton.mp q))) Og20_8 (Ne.symm ne_b20_1_ba20_8) ne_u2_ba20_8 g_b20_1 g_ba20_8) hZ (own_w hw 99 rfl) (own_w hw 73 rfl) (by decide) (by decide)) q20_13a q20_13b q20_13c (g := (mkF m 43 #[.val (.ref r0), .val (.ref b20_1), .val (.ref it20_3), .val (.ref u2), .unset, .unset, .unset] [(.ref u2), (.ref b20_1)])) rfl (by rw [hml]; rfl) (Steps.refl _) (argsL := [(.ref u2)]) (rest := []) (lenOf pd20_8 rfl) rfl (own_mr rfl) (hb hby d20_43) (fun _ _ => ⟨rfl, e20_12, (by decide : 3 + 0 ≤ _), (by decide : 17 + 0 ≤ _)⟩)
  dsimp only [Pt.U, Pt.locs, Pt.cells, Pt.slots] at X20_13 l20_13 y20_13 z20_13 st20_13 hQ20_13
  subst l20_13 y20_13 z20_13
  obtain ⟨rfl, N20_13q, K20_13, Ex20_13, Fe20_13, Fs20_13, Fm20_13, Vg20_13⟩ := hQ20_13
  have N20_13 := Fr.app N20_12 N20_13q
  refine own_fw (fun t k => st20_13.trans k) ?_
  refine own_fw (A := T20_13.setTop (mkF m 16 #[.val (.ref r0), .val (.ref b20_1), .val (.ref it20_3), .val (.ref u2), .unset, .unset, .unset] [(.ref it20_3)])) (fun t k => ?_) ?_
  · refine ox_pop X20_13.here hx (hb hby d20_48) rfl rfl ?_
    refine ox_goto X20_13.here hx (pc0 := 49) (pc' := 15) rfl (hb hby d20_49) (by decide) (by decide) ?_
    refine ox_aloadN X20_13.here hx (hb hby d20_15) rfl rfl ?_
    exact k
  obtain ⟨cq20_14, kq20_14, q20_14a, q20_14b, q20_14c⟩ := isOf hZ rfl (Ei20_10.keep K20_13)
  obtain ⟨_, _, ⟨T20_14, L20_14, k20_14, n20_14⟩, -, X20_14, ⟨Lc20_14, hQ20_14, l20_14, y20_14, z20_14⟩, st20_14⟩ := X20_13.interfaceBack hx (xi := mN10) (y := mN4) hown (mvT hZ (own_w hw 154 rfl)) (mvT hZ (own_w hw 155 rfl)) (mvT hZ (own_w hw 156 rfl)) (mvT hZ (own_w hw 157 rfl)) (mvT hZ (own_w hw 158 rfl)) (mvT hZ (own_w hw 159 rfl)) (mvT hZ (own_w hw 160 rfl)) (mvT hZ (own_w hw 161 rfl)) (by decide) (backOf (W := 0) (rm23 l Z a0 hw [] it20_3 r0 (2 : Int32) T20_13.heap n0 (Nat.le_trans (Nat.le_trans (Nat.le_trans (Nat.le_trans (Nat.le_trans (Nat.le_trans (Nat.le_trans Z0 E20_1.1) K20_2.1) K20_3.1) K20_5.1) K20_8.1) K20_10.1) K20_13.1) (Ic20_10.keep K20_13 (by simp only [List.mem_cons, List.not_mem_nil, or_false, not_or]; exact ⟨(Ne.symm ne_b20_1_it20_3), ne_it20_3_ba20_8⟩)) (It20_10.keep K20_13 (by simp only [List.mem_cons, List.not_mem_nil, or_false, not_or]; exact ⟨(Ne.symm ne_b20_1_it20_3), ne_it20_3_ba20_8⟩)) (((((((F_s.ext E20_1).keep K20_2 (fun q => ne_r0_b20_1 (List.mem_singleton.mp q))).keep K20_3 (fun q => nomatch q)).keep K20_5 (fun q => ne_r0_it20_3 (List.mem_singleton.mp q))).keep K20_8 (fun q => ne_r0_b20_1 (List.mem_singleton.mp q))).keep K20_10 (fun q => ne_r0_it20_3 (List.mem_singleton.mp q))).keep K20_13 (by simp only [List.mem_cons, List.not_mem_nil, or_false, not_or]; exact ⟨ne_r0_b20_1, ne_r0_ba20_8⟩))) hZ (own_w hw 162 rfl) (own_w hw 141 rfl) (by decide) (by decide)) q20_14a q20_14b q20_14c (g := (mkF m 16 #[.val (.ref r0), .val (.ref b20_1), .val (.ref it20_3), .val (.ref u2), .unset, .unset, .unset] [(.ref it20_3)])) rfl (by rw [hml]; rfl) (Steps.refl _) (argsL := []) (rest := []) (lenOf pd20_5 rfl) rfl (own_mr rfl) (hb hby d20_16) (fun _ _ => ⟨rfl, rfl, (by decide : 3 + 0 ≤ _), (by decide : 17 + 0 ≤ _)⟩)
  dsimp only [Pt.U, Pt.locs, Pt.cells, Pt.slots] at X20_14 l20_14 y20_14 z20_14 st20_14 hQ20_14
  subst l20_14 y20_14 z20_14
  obtain ⟨rfl, N20_14q, e20_14⟩ := hQ20_14
  have N20_14 := Fr.app N20_13 N20_14q
  refine own_fw (fun t k => st20_14.trans k) ?_
  refine own_fw (A := T20_14.setTop (mkF m 53 #[.val (.ref r0), .val (.ref b20_1), .val (.ref it20_3), .val (.ref u2), .unset, .unset, .unset] [(.ref b20_1)])) (fun t k => ?_) ?_
  · refine ox_ifYes X20_14.here hx (pc0 := 21) (pc' := 52) rfl (hb hby d20_21) rfl ((if0 _ _).trans (teq (by decide +kernel)).1) (by decide) (by decide) ?_
    refine ox_aloadN X20_14.here hx (hb hby d20_52) rfl rfl ?_
    exact k
  obtain ⟨cq20_15, kq20_15, q20_15a, q20_15b, q20_15c⟩ := isOf hZ e20_14 Ex20_13
  obtain ⟨_, _, ⟨T20_15, L20_15, k20_15, n20_15⟩, -, X20_15, ⟨Lc20_15, hQ20_15, l20_15, y20_15, z20_15⟩, st20_15⟩ := X20_14.interfaceBack hx (xi := (⟨"java/util/List", "size", "()I"⟩ : MethodName)) (y := mN23) hown (mvT hZ (own_w hw 193 rfl)) (mvT hZ (own_w hw 194 rfl)) (mvT hZ (own_w hw 195 rfl)) (mvT hZ (own_w hw 196 rfl)) (mvT hZ (own_w hw 197 rfl)) (mvT hZ (own_w hw 198 rfl)) (mvT hZ (own_w hw 199 rfl)) (mvT hZ (own_w hw 137 rfl)) (by decide) (backOf (W := 0) (rm27 l Z a0 hw [] b20_1 T20_13.heap n0 (Nat.le_trans (Nat.le_trans (Nat.le_trans (Nat.le_trans (Nat.le_trans (Nat.le_trans (Nat.le_trans Z0 E20_1.1) K20_2.1) K20_3.1) K20_5.1) K20_8.1) K20_10.1) K20_13.1) Fs20_13) hZ (own_w hw 200 rfl) (own_w hw 73 rfl) (by decide) (by decide)) q20_15a q20_15b q20_15c (g := (mkF m 53 #[.val (.ref r0), .val (.ref b20_1), .val (.ref it20_3), .val (.ref u2), .unset, .unset, .unset] [(.ref b20_1)])) rfl (by rw [hml]; rfl) (Steps.refl _) (argsL := []) (rest := []) (lenOf pd20_0 rfl) rfl (own_mr rfl) (hb hby d20_53) (fun _ _ => ⟨rfl, e20_14, (by decide : 3 + 0 ≤ _), (by decide : 17 + 0 ≤ _)⟩)
  dsimp only [Pt.U, Pt.locs, Pt.cells, Pt.slots] at X20_15 l20_15 y20_15 z20_15 st20_15 hQ20_15
  subst l20_15 y20_15 z20_15
  obtain ⟨rfl, N20_15q, e20_15⟩ := hQ20_15
  have N20_15 := Fr.app N20_14 N20_15q
  refine own_fw (fun t k => st20_15.trans k) ?_
  refine own_fw (A := T20_15.setTop (mkF m 91 #[.val (.ref r0), .val (.ref b20_1), .val (.ref it20_3), .val (.ref u2), .unset, .unset, .unset] [])) (fun t k => ?_) ?_
  · refine ox_iconst X20_15.here hx (hb hby d20_58) ?_
    refine ox_icmpYes X20_15.here hx (pc0 := 59) (pc' := 91) rfl (hb hby d20_59) rfl (tlt (by decide : ((1 : Int32) < (2 : Int32)))).2.2.1 (by decide) (by decide) ?_
    exact k
  obtain ⟨T20_16, h20_16, X20_16, e20_16, E20_16, A20_16, D20_16, -, st20_16⟩ := newO X20_15 hx hZ hown (own_w hw 201 rfl) (own_w hw 6 rfl) (own_w hw 7 rfl) e20_15 (g := (mkF m 91 #[.val (.ref r0), .val (.ref b20_1), .val (.ref it20_3), .val (.ref u2), .unset, .unset, .unset] [])) rfl (hb hby d20_91) (by decide) (by decide)
  obtain ⟨b20_16, g20_16⟩ : ∃ z, z = T20_13.heap.size := ⟨_, rfl⟩
  rw [← g20_16] at A20_16 D20_16 st20_16
  have ne_u1_b20_16 : u1 ≠ b20_16 := Nat.ne_of_lt (Nat.lt_of_lt_of_le (((((((E_u1.ext E20_1).keep K20_2).keep K20_3).keep K20_5).keep K20_8).keep K20_10).keep K20_13).lt (Nat.le_of_eq g20_16.symm))
  have ne_m1_b20_16 : m1 ≠ b20_16 := Nat.ne_of_lt (Nat.lt_of_lt_of_le (((((((I_1.ext E20_1).keep K20_2 (fun q => ne_m1_b20_1 (List.mem_singleton.mp q))).keep K20_3 (fun q => nomatch q)).keep K20_5 (fun q => ne_m1_it20_3 (List.mem_singleton.mp q))).keep K20_8 (fun q => ne_m1_b20_1 (List.mem_singleton.mp q))).keep K20_10 (fun q => ne_m1_it20_3 (List.mem_singleton.mp q))).keep K20_13 (by simp only [List.mem_cons, List.not_mem_nil, or_false, not_or]; exact ⟨ne_m1_b20_1, ne_m1_ba20_8⟩)).lt (Nat.le_of_eq g20_16.symm))
  have ne_u2_b20_16 : u2 ≠ b20_16 := Nat.ne_of_lt (Nat.lt_of_lt_of_le (((((((E_u2.ext E20_1).keep K20_2).keep K20_3).keep K20_5).keep K20_8).keep K20_10).keep K20_13).lt (Nat.le_of_eq g20_16.symm))
  have ne_m2_b20_16 : m2 ≠ b20_16 := Nat.ne_of_lt (Nat.lt_of_lt_of_le (((((((I_2.ext E20_1).keep K20_2 (fun q => ne_m2_b20_1 (List.mem_singleton.mp q))).keep K20_3 (fun q => nomatch q)).keep K20_5 (fun q => ne_m2_it20_3 (List.mem_singleton.mp q))).keep K20_8 (fun q => ne_m2_b20_1 (List.mem_singleton.mp q))).keep K20_10 (fun q => ne_m2_it20_3 (List.mem_singleton.mp q))).keep K20_13 (by simp only [List.mem_cons, List.not_mem_nil, or_false, not_or]; exact ⟨ne_m2_b20_1, ne_m2_ba20_8⟩)).lt (Nat.le_of_eq g20_16.symm))
  have ne_b20_1_b20_16 : b20_1 ≠ b20_16 := Nat.ne_of_lt (Nat.lt_of_lt_of_le Ex20_13.lt (Nat.le_of_eq g20_16.symm))
  have ne_ba20_8_b20_16 : ba20_8 ≠ b20_16 := Nat.ne_of_lt (Nat.lt_of_lt_of_le Vg20_13.lt (Nat.le_of_eq g20_16.symm))
  have g_b20_16 : n0 ≤ b20_16 := Nat.le_trans (Nat.le_trans (Nat.le_trans (Nat.le_trans (Nat.le_trans (Nat.le_trans (Nat.le_trans (Nat.le_trans Z0 E20_1.1) K20_2.1) K20_3.1) K20_5.1) K20_8.1) K20_10.1) K20_13.1) (Nat.le_of_eq g20_16.symm)
  have sz_b20_16 : h0.size ≤ b20_16 := Nat.le_trans ((((((((Keep.refl h0 []).ext E20_1).trans K20_2 (allS (Or.inr sz_b20_1) all0)).trans K20_3 all0).trans K20_5 (allS (Or.inr sz_it20_3) all0)).trans K20_8 (allS (Or.inr sz_b20_1) all0)).trans K20_10 (allS (Or.inr sz_it20_3) all0)).trans K20_13 (allS (Or.inr sz_b20_1) (allS (Or.inr sz_ba20_8) all0))).1 (Nat.le_of_eq g20_16.symm)
  have F_ids_b20_16 : Fld Z h20_16 b20_16 "com/example/dolqa/dolqa/data/UnaryRelation$Builder" "ids" "[I" .null := D20_16 (Or.inl (own_w hw 16 rfl)) (ty := (.array .int)) (by decide)
  have F_count_b20_16 : Fld Z h20_16 b20_16 "com/example/dolqa/dolqa/data/UnaryRelation$Builder" "count" "I" (.int (0 : Int32)) := D20_16 (Or.inl (own_w hw 23 rfl)) (ty := .int) (by decide)
  refine own_fw st20_16 ?_
  refine own_fw (A := T20_16.setTop (mkF m 95 #[.val (.ref r0), .val (.ref b20_1), .val (.ref it20_3), .val (.ref u2), .unset, .unset, .unset] [(.ref b20_16), (.ref b20_16)])) (fun t k => ?_) ?_
  · refine ox_dup X20_16.here hx (hb hby d20_94) rfl rfl ?_
    exact k
  obtain ⟨_, _, ⟨T20_17, L20_17, k20_17, n20_17⟩, -, X20_17, ⟨Lc20_17, hQ20_17, l20_17, y20_17, z20_17⟩, st20_17⟩ := X20_16.specialBack hx (y := mN13) rfl hown (mvT hZ (own_w hw 202 rfl)) (mvT hZ (own_w hw 9 rfl)) (mvT hZ (own_w hw 10 rfl)) (by decide) (backOf (W := 1) (rm2 l Z a0 hw [] b20_16 h20_16 n0 (Nat.le_trans (Nat.le_trans (Nat.le_trans (Nat.le_trans (Nat.le_trans (Nat.le_trans (Nat.le_trans (Nat.le_trans Z0 E20_1.1) K20_2.1) K20_3.1) K20_5.1) K20_8.1) K20_10.1) K20_13.1) E20_16.1) A20_16 F_ids_b20_16 F_count_b20_16 g_b20_16) hZ (own_w hw 10 rfl) (own_w hw 7 rfl) (by decide) (by decide)) (g := (mkF m 95 #[.val (.ref r0), .val (.ref b20_1), .val (.ref it20_3), .val (.ref u2), .unset, .unset, .unset] [(.ref b20_16), (.ref b20_16)])) rfl (by rw [hml]; rfl) (Steps.refl _) (a := b20_16) (argsL := []) (rest := [(.ref b20_16)]) (lenOf pd20_4 rfl) rfl (own_mr rfl) (hb hby d20_95) (fun _ _ => ⟨rfl, e20_16, (by decide : 4 + 1 ≤ _), (by decide : 19 + 16 ≤ _)⟩)
  dsimp only [Pt.U, Pt.locs, Pt.cells, Pt.slots] at X20_17 l20_17 y20_17 z20_17 st20_17 hQ20_17
  subst l20_17 y20_17 z20_17
  obtain ⟨ia20_17, kx20_17, rfl, N20_17q, K20_17, Ex20_17, Fi20_17, Fc20_17, Ia20_17, hk20_17, zg20_17⟩ := hQ20_17
  have N20_17 := Fr.app N20_15 N20_17q
  have ne_u1_ia20_17 : u1 ≠ ia20_17 := Nat.ne_of_lt (Nat.lt_of_lt_of_le ((((((((E_u1.ext E20_1).keep K20_2).keep K20_3).keep K20_5).keep K20_8).keep K20_10).keep K20_13).ext E20_16).lt zg20_17)
  have ne_m1_ia20_17 : m1 ≠ ia20_17 := Nat.ne_of_lt (Nat.lt_of_lt_of_le ((((((((I_1.ext E20_1).keep K20_2 (fun q => ne_m1_b20_1 (List.mem_singleton.mp q))).keep K20_3 (fun q => nomatch q)).keep K20_5 (fun q => ne_m1_it20_3 (List.mem_singleton.mp q))).keep K20_8 (fun q => ne_m1_b20_1 (List.mem_singleton.mp q))).keep K20_10 (fun q => ne_m1_it20_3 (List.mem_singleton.mp q))).keep K20_13 (by simp only [List.mem_cons, List.not_mem_nil, or_false, not_or]; exact ⟨ne_m1_b20_1, ne_m1_ba20_8⟩)).ext E20_16).lt zg20_17)
  have ne_u2_ia20_17 : u2 ≠ ia20_17 := Nat.ne_of_lt (Nat.lt_of_lt_of_le ((((((((E_u2.ext E20_1).keep K20_2).keep K20_3).keep K20_5).keep K20_8).keep K20_10).keep K20_13).ext E20_16).lt zg20_17)
  have ne_m2_ia20_17 : m2 ≠ ia20_17 := Nat.ne_of_lt (Nat.lt_of_lt_of_le ((((((((I_2.ext E20_1).keep K20_2 (fun q => ne_m2_b20_1 (List.mem_singleton.mp q))).keep K20_3 (fun q => nomatch q)).keep K20_5 (fun q => ne_m2_it20_3 (List.mem_singleton.mp q))).keep K20_8 (fun q => ne_m2_b20_1 (List.mem_singleton.mp q))).keep K20_10 (fun q => ne_m2_it20_3 (List.mem_singleton.mp q))).keep K20_13 (by simp only [List.mem_cons, List.not_mem_nil, or_false, not_or]; exact ⟨ne_m2_b20_1, ne_m2_ba20_8⟩)).ext E20_16).lt zg20_17)
  have ne_b20_1_ia20_17 : b20_1 ≠ ia20_17 := Nat.ne_of_lt (Nat.lt_of_lt_of_le (Ex20_13.ext E20_16).lt zg20_17)
  have ne_ba20_8_ia20_17 : ba20_8 ≠ ia20_17 := Nat.ne_of_lt (Nat.lt_of_lt_of_le (Vg20_13.ext E20_16).lt zg20_17)
  have ne_b20_16_ia20_17 : b20_16 ≠ ia20_17 := Nat.ne_of_lt (Nat.lt_of_lt_of_le F_ids_b20_16.lt zg20_17)
  have g_ia20_17 : n0 ≤ ia20_17 := Nat.le_trans (Nat.le_trans (Nat.le_trans (Nat.le_trans (Nat.le_trans (Nat.le_trans (Nat.le_trans (Nat.le_trans (Nat.le_trans Z0 E20_1.1) K20_2.1) K20_3.1) K20_5.1) K20_8.1) K20_10.1) K20_13.1) E20_16.1) zg20_17
  have sz_ia20_17 : h0.size ≤ ia20_17 := Nat.le_trans (((((((((Keep.refl h0 []).ext E20_1).trans K20_2 (allS (Or.inr sz_b20_1) all0)).trans K20_3 all0).trans K20_5 (allS (Or.inr sz_it20_3) all0)).trans K20_8 (allS (Or.inr sz_b20_1) all0)).trans K20_10 (allS (Or.inr sz_it20_3) all0)).trans K20_13 (allS (Or.inr sz_b20_1) (allS (Or.inr sz_ba20_8) all0))).ext E20_16).1 zg20_17
  obtain rfl : kI = kx20_17 := Option.some.inj (hk.symm.trans hk20_17)
  refine own_fw (fun t k => st20_17.trans k) ?_
  refine own_fw (A := T20_17.setTop (mkF m 100 #[.val (.ref r0), .val (.ref b20_1), .val (.ref it20_3), .val (.ref b20_16), .unset, .unset, .unset] [(.ref b20_1)])) (fun t k => ?_) ?_
  · refine ox_astoreN X20_17.here hx (hb hby d20_98) rfl rfl (l' := #[.val (.ref r0), .val (.ref b20_1), .val (.ref it20_3), .val (.ref b20_16), .unset, .unset, .unset]) rfl ?_
    refine ox_aloadN X20_17.here hx (hb hby d20_99) rfl rfl ?_
    exact k
  obtain ⟨cq20_18, kq20_18, q20_18a, q20_18b, q20_18c⟩ := isOf hZ rfl ((Ex20_13.ext E20_16).keep K20_17)
  obtain ⟨_, _, ⟨T20_18, L20_18, k20_18, n20_18⟩, -, X20_18, ⟨Lc20_18, hQ20_18, l20_18, y20_18, z20_18⟩, st20_18⟩ := X20_17.interfaceBack hx (xi := (⟨"java/util/List", "iterator", "()Ljava/util/Iterator;"⟩ : MethodName)) (y := mN15) hown (mvT hZ (own_w hw 130 rfl)) (mvT hZ (own_w hw 131 rfl)) (mvT hZ (own_w hw 132 rfl)) (mvT hZ (own_w hw 133 rfl)) (mvT hZ (own_w hw 134 rfl)) (mvT hZ (own_w hw 135 rfl)) (mvT hZ (own_w hw 136 rfl)) (mvT hZ (own_w hw 137 rfl)) (by decide) (backOf (W := 0) (rm21 l Z a0 hw [] b20_1 ba20_8 T20_17.heap n0 (Nat.le_trans (Nat.le_trans (Nat.le_trans (Nat.le_trans (Nat.le_trans (Nat.le_trans (Nat.le_trans (Nat.le_trans (Nat.le_trans Z0 E20_1.1) K20_2.1) K20_3.1) K20_5.1) K20_8.1) K20_10.1) K20_13.1) E20_16.1) K20_17.1) ((Ex20_13.ext E20_16).keep K20_17) ((Fe20_13.ext E20_16).keep K20_17 (fun q => ne_b20_1_b20_16 (List.mem_singleton.mp q))) ((Fs20_13.ext E20_16).keep K20_17 (fun q => ne_b20_1_b20_16 (List.mem_singleton.mp q))) ((Fm20_13.ext E20_16).keep K20_17 (fun q => ne_b20_1_b20_16 (List.mem_singleton.mp q)))) hZ (own_w hw 138 rfl) (own_w hw 73 rfl) (by decide) (by decide)) q20_18a q20_18b q20_18c (g := (mkF m 100 #[.val (.ref r0), .val (.ref b20_1), .val (.ref it20_3), .val (.ref b20_16), .unset, .unset, .unset] [(.ref b20_1)])) rfl (by rw [hml]; rfl) (Steps.refl _) (argsL := []) (rest := []) (lenOf pd20_6 rfl) rfl (own_mr rfl) (hb hby d20_100) (fun _ _ => ⟨rfl, rfl, (by decide : 5 + 1 ≤ _), (by decide : 35 + 4 ≤ _)⟩)
  dsimp only [Pt.U, Pt.locs, Pt.cells, Pt.slots] at X20_18 l20_18 y20_18 z20_18 st20_18 hQ20_18
  subst l20_18 y20_18 z20_18
  obtain ⟨it20_18, rfl, N20_18q, K20_18, Ei20_18, Ic20_18, Il20_18, Ix20_18, It20_18, zg20_18⟩ := hQ20_18
  have N20_18 := Fr.app N20_17 N20_18q
  have ne_u1_it20_18 : u1 ≠ it20_18 := Nat.ne_of_lt (Nat.lt_of_lt_of_le (((((((((E_u1.ext E20_1).keep K20_2).keep K20_3).keep K20_5).keep K20_8).keep K20_10).keep K20_13).ext E20_16).keep K20_17).lt zg20_18)
  have ne_m1_it20_18 : m1 ≠ it20_18 := Nat.ne_of_lt (Nat.lt_of_lt_of_le (((((((((I_1.ext E20_1).keep K20_2 (fun q => ne_m1_b20_1 (List.mem_singleton.mp q))).keep K20_3 (fun q => nomatch q)).keep K20_5 (fun q => ne_m1_it20_3 (List.mem_singleton.mp q))).keep K20_8 (fun q => ne_m1_b20_1 (List.mem_singleton.mp q))).keep K20_10 (fun q => ne_m1_it20_3 (List.mem_singleton.mp q))).keep K20_13 (by simp only [List.mem_cons, List.not_mem_nil, or_false, not_or]; exact ⟨ne_m1_b20_1, ne_m1_ba20_8⟩)).ext E20_16).keep K20_17 (fun q => ne_m1_b20_16 (List.mem_singleton.mp q))).lt zg20_18)
  have ne_u2_it20_18 : u2 ≠ it20_18 := Nat.ne_of_lt (Nat.lt_of_lt_of_le (((((((((E_u2.ext E20_1).keep K20_2).keep K20_3).keep K20_5).keep K20_8).keep K20_10).keep K20_13).ext E20_16).keep K20_17).lt zg20_18)
  have ne_m2_it20_18 : m2 ≠ it20_18 := Nat.ne_of_lt (Nat.lt_of_lt_of_le (((((((((I_2.ext E20_1).keep K20_2 (fun q => ne_m2_b20_1 (List.mem_singleton.mp q))).keep K20_3 (fun q => nomatch q)).keep K20_5 (fun q => ne_m2_it20_3 (List.mem_singleton.mp q))).keep K20_8 (fun q => ne_m2_b20_1 (List.mem_singleton.mp q))).keep K20_10 (fun q => ne_m2_it20_3 (List.mem_singleton.mp q))).keep K20_13 (by simp only [List.mem_cons, List.not_mem_nil, or_false, not_or]; exact ⟨ne_m2_b20_1, ne_m2_ba20_8⟩)).ext E20_16).keep K20_17 (fun q => ne_m2_b20_16 (List.mem_singleton.mp q))).lt zg20_18)
  have ne_b20_1_it20_18 : b20_1 ≠ it20_18 := Nat.ne_of_lt (Nat.lt_of_lt_of_le ((Ex20_13.ext E20_16).keep K20_17).lt zg20_18)
  have ne_ba20_8_it20_18 : ba20_8 ≠ it20_18 := Nat.ne_of_lt (Nat.lt_of_lt_of_le ((Vg20_13.ext E20_16).keep K20_17 (fun q => ne_ba20_8_b20_16 (List.mem_singleton.mp q))).lt zg20_18)
  have ne_b20_16_it20_18 : b20_16 ≠ it20_18 := Nat.ne_of_lt (Nat.lt_of_lt_of_le Ex20_17.lt zg20_18)
  have ne_ia20_17_it20_18 : ia20_17 ≠ it20_18 := Nat.ne_of_lt (Nat.lt_of_lt_of_le Ia20_17.lt zg20_18)
  have g_it20_18 : n0 ≤ it20_18 := Nat.le_trans (Nat.le_trans (Nat.le_trans (Nat.le_trans (Nat.le_trans (Nat.le_trans (Nat.le_trans (Nat.le_trans (Nat.le_trans (Nat.le_trans Z0 E20_1.1) K20_2.1) K20_3.1) K20_5.1) K20_8.1) K20_10.1) K20_13.1) E20_16.1) K20_17.1) zg20_18
  have sz_it20_18 : h0.size ≤ it20_18 := Nat.le_trans ((((((((((Keep.refl h0 []).ext E20_1).trans K20_2 (allS (Or.inr sz_b20_1) all0)).trans K20_3 all0).trans K20_5 (allS (Or.inr sz_it20_3) all0)).trans K20_8 (allS (Or.inr sz_b20_1) all0)).trans K20_10 (allS (Or.inr sz_it20_3) all0)).trans K20_13 (allS (Or.inr sz_b20_1) (allS (Or.inr sz_ba20_8) all0))).ext E20_16).trans K20_17 (allS (Or.inr sz_b20_16) all0)).1 zg20_18
  refine own_fw (fun t k => st20_18.trans k) ?_
  refine own_fw (A := T20_18.setTop (mkF m 109 #[.val (.ref r0), .val (.ref b20_1), .val (.ref it20_3), .val (.ref b20_16), .val (.ref it20_18), .unset, .unset] [(.ref it20_18)])) (fun t k => ?_) ?_
  · refine ox_astore X20_18.here hx (hb hby d20_105) rfl rfl (l' := #[.val (.ref r0), .val (.ref b20_1), .val (.ref it20_3), .val (.ref b20_16), .val (.ref it20_18), .unset, .unset]) rfl ?_
    refine ox_aload X20_18.here hx (hb hby d20_107) rfl rfl ?_
    exact k
  obtain ⟨cq20_19, kq20_19, q20_19a, q20_19b, q20_19c⟩ := isOf hZ rfl Ei20_18
  obtain ⟨_, _, ⟨T20_19, L20_19, k20_19, n20_19⟩, -, X20_19, ⟨Lc20_19, hQ20_19, l20_19, y20_19, z20_19⟩, st20_19⟩ := X20_18.interfaceBack hx (xi := mN10) (y := mN4) hown (mvT hZ (own_w hw 154 rfl)) (mvT hZ (own_w hw 155 rfl)) (mvT hZ (own_w hw 156 rfl)) (mvT hZ (own_w hw 157 rfl)) (mvT hZ (own_w hw 158 rfl)) (mvT hZ (own_w hw 159 rfl)) (mvT hZ (own_w hw 160 rfl)) (mvT hZ (own_w hw 161 rfl)) (by decide) (backOf (W := 0) (rm23 l Z a0 hw [] it20_18 b20_1 (0 : Int32) T20_18.heap n0 (Nat.le_trans (Nat.le_trans (Nat.le_trans (Nat.le_trans (Nat.le_trans (Nat.le_trans (Nat.le_trans (Nat.le_trans (Nat.le_trans (Nat.le_trans Z0 E20_1.1) K20_2.1) K20_3.1) K20_5.1) K20_8.1) K20_10.1) K20_13.1) E20_16.1) K20_17.1) K20_18.1) Ic20_18 It20_18 (((Fs20_13.ext E20_16).keep K20_17 (fun q => ne_b20_1_b20_16 (List.mem_singleton.mp q))).keep K20_18 (fun q => nomatch q))) hZ (own_w hw 162 rfl) (own_w hw 141 rfl) (by decide) (by decide)) q20_19a q20_19b q20_19c (g := (mkF m 109 #[.val (.ref r0), .val (.ref b20_1), .val (.ref it20_3), .val (.ref b20_16), .val (.ref it20_18), .unset, .unset] [(.ref it20_18)])) rfl (by rw [hml]; rfl) (Steps.refl _) (argsL := []) (rest := []) (lenOf pd20_5 rfl) rfl (own_mr rfl) (hb hby d20_109) (fun _ _ => ⟨rfl, rfl, (by decide : 6 + 0 ≤ _), (by decide : 39 + 0 ≤ _)⟩)
  dsimp only [Pt.U, Pt.locs, Pt.cells, Pt.slots] at X20_19 l20_19 y20_19 z20_19 st20_19 hQ20_19
  subst l20_19 y20_19 z20_19
  obtain ⟨rfl, N20_19q, e20_19⟩ := hQ20_19
  have N20_19 := Fr.app N20_18 N20_19q
  refine own_fw (fun t k => st20_19.trans k) ?_
  refine own_fw (A := T20_19.setTop (mkF m 119 #[.val (.ref r0), .val (.ref b20_1), .val (.ref it20_3), .val (.ref b20_16), .val (.ref it20_18), .unset, .unset] [(.ref it20_18)])) (fun t k => ?_) ?_
  · refine ox_ifNo X20_19.here hx (hb hby d20_114) rfl ((if0 _ _).trans (feq (by decide +kernel)).1) ?_
    refine ox_aload X20_19.here hx (hb hby d20_117) rfl rfl ?_
    exact k
  obtain ⟨cq20_20, kq20_20, q20_20a, q20_20b, q20_20c⟩ := isOf hZ e20_19 Ei20_18
  obtain ⟨_, _, ⟨T20_20, L20_20, k20_20, n20_20⟩, -, X20_20, ⟨Lc20_20, hQ20_20, l20_20, y20_20, z20_20⟩, st20_20⟩ := X20_19.interfaceBack hx (xi := mN17) (y := mN5) hown (mvT hZ (own_w hw 166 rfl)) (mvT hZ (own_w hw 167 rfl)) (mvT hZ (own_w hw 168 rfl)) (mvT hZ (own_w hw 169 rfl)) (mvT hZ (own_w hw 170 rfl)) (mvT hZ (own_w hw 171 rfl)) (mvT hZ (own_w hw 172 rfl)) (mvT hZ (own_w hw 161 rfl)) (by decide) (backOf (W := 0) (rmNX_0 l Z a0 hw [] it20_18 b20_1 ba20_8 kg20_8 u1 u2 T20_18.heap n0 (Nat.le_trans (Nat.le_trans (Nat.le_trans (Nat.le_trans (Nat.le_trans (Nat.le_trans (Nat.le_trans (Nat.le_trans (Nat.le_trans (Nat.le_trans Z0 E20_1.1) K20_2.1) K20_3.1) K20_5.1) K20_8.1) K20_10.1) K20_13.1) E20_16.1) K20_17.1) K20_18.1) Ei20_18 Ic20_18 Il20_18 Ix20_18 It20_18 (((Ex20_13.ext E20_16).keep K20_17).keep K20_18) (((Fe20_13.ext E20_16).keep K20_17 (fun q => ne_b20_1_b20_16 (List.mem_singleton.mp q))).keep K20_18 (fun q => nomatch q)) (((Fs20_13.ext E20_16).keep K20_17 (fun q => ne_b20_1_b20_16 (List.mem_singleton.mp q))).keep K20_18 (fun q => nomatch q)) (((Fm20_13.ext E20_16).keep K20_17 (fun q => ne_b20_1_b20_16 (List.mem_singleton.mp q))).keep K20_18 (fun q => nomatch q)) (((Vg20_13.ext E20_16).keep K20_17 (fun q => ne_ba20_8_b20_16 (List.mem_singleton.mp q))).keep K20_18 (fun q => nomatch q)) ne_b20_1_it20_18 ne_ba20_8_it20_18 g_it20_18) hZ (own_w hw 173 rfl) (own_w hw 141 rfl) (by decide) (by decide)) q20_20a q20_20b q20_20c (g := (mkF m 119 #[.val (.ref r0), .val (.ref b20_1), .val (.ref it20_3), .val (.ref b20_16), .val (.ref it20_18), .unset, .unset] [(.ref it20_18)])) rfl (by rw [hml]; rfl) (Steps.refl _) (argsL := []) (rest := []) (lenOf pd20_7 rfl) rfl (own_mr rfl) (hb hby d20_119) (fun _ _ => ⟨rfl, e20_19, (by decide : 6 + 0 ≤ _), (by decide : 39 + 0 ≤ _)⟩)
  dsimp only [Pt.U, Pt.locs, Pt.cells, Pt.slots] at X20_20 l20_20 y20_20 z20_20 st20_20 hQ20_20
  subst l20_20 y20_20 z20_20
  obtain ⟨rfl, N20_20q, K20_20, Ei20_20, Ic20_20, Il20_20, Ix20_20, It20_20⟩ := hQ20_20
  have N20_20 := Fr.app N20_19 N20_20q
  refine own_fw (fun t k => st20_20.trans k) ?_
  obtain ⟨T20_21, X20_21, e20_21, st20_21⟩ := castY X20_20 hx hZ hown (own_w hw 180 rfl) rfl (Ins.self (((((((((((E_u1.ext E20_1).keep K20_2).keep K20_3).keep K20_5).keep K20_8).keep K20_10).keep K20_13).ext E20_16).keep K20_17).keep K20_18).keep K20_20)) (g := (mkF m 124 #[.val (.ref r0), .val (.ref b20_1), .val (.ref it20_3), .val (.ref b20_16), .val (.ref it20_18), .unset, .unset] [(.ref u1)])) rfl rfl (hb hby d20_124)
  refine own_fw st20_21 ?_
  refine own_fw (A := T20_21.setTop (mkF m 132 #[.val (.ref r0), .val (.ref b20_1), .val (.ref it20_3), .val (.ref b20_16), .val (.ref it20_18), .val (.ref u1), .val (.int (0 : Int32))] [])) (fun t k => ?_) ?_
  · refine ox_astore X20_21.here hx (hb hby d20_127) rfl rfl (l' := #[.val (.ref r0), .val (.ref b20_1), .val (.ref it20_3), .val (.ref b20_16), .val (.ref it20_18), .val (.ref u1), .unset]) rfl ?_
    refine ox_iconst X20_21.here hx (hb hby d20_129) ?_
    refine ox_istore X20_21.here hx (hb hby d20_130) rfl (l' := #[.val (.ref r0), .val (.ref b20_1), .val (.ref it20_3), .val (.ref b20_16), .val (.ref it20_18), .val (.ref u1), .val (.int (0 : Int32))]) rfl ?_
    exact k
  refine own_ul_a (hA := T20_20.heap) (iaA := ia20_17) (xs0 := []) (ms := ms1) hx hZ hw hown hby hml hk (((((((((((E_u1.ext E20_1).keep K20_2).keep K20_3).keep K20_5).keep K20_8).keep K20_10).keep K20_13).ext E20_16).keep K20_17).keep K20_18).keep K20_20) (((((((((((F_u1.ext E20_1).keep K20_2 (fun q => ne_u1_b20_1 (List.mem_singleton.mp q))).keep K20_3 (fun q => nomatch q)).keep K20_5 (fun q => ne_u1_it20_3 (List.mem_singleton.mp q))).keep K20_8 (fun q => ne_u1_b20_1 (List.mem_singleton.mp q))).keep K20_10 (fun q => ne_u1_it20_3 (List.mem_singleton.mp q))).keep K20_13 (by simp only [List.mem_cons, List.not_mem_nil, or_false, not_or]; exact ⟨ne_u1_b20_1, ne_u1_ba20_8⟩)).ext E20_16).keep K20_17 (fun q => ne_u1_b20_16 (List.mem_singleton.mp q))).keep K20_18 (fun q => nomatch q)).keep K20_20 (fun q => ne_u1_it20_18 (List.mem_singleton.mp q))) (((((((((((I_1.ext E20_1).keep K20_2 (fun q => ne_m1_b20_1 (List.mem_singleton.mp q))).keep K20_3 (fun q => nomatch q)).keep K20_5 (fun q => ne_m1_it20_3 (List.mem_singleton.mp q))).keep K20_8 (fun q => ne_m1_b20_1 (List.mem_singleton.mp q))).keep K20_10 (fun q => ne_m1_it20_3 (List.mem_singleton.mp q))).keep K20_13 (by simp only [List.mem_cons, List.not_mem_nil, or_false, not_or]; exact ⟨ne_m1_b20_1, ne_m1_ba20_8⟩)).ext E20_16).keep K20_17 (fun q => ne_m1_b20_16 (List.mem_singleton.mp q))).keep K20_18 (fun q => nomatch q)).keep K20_20 (fun q => ne_m1_it20_18 (List.mem_singleton.mp q))) ne_u1_b20_16 ne_u1_ia20_17 ne_m1_b20_16 ne_m1_ia20_17 (Nat.le_trans (Nat.le_trans (Nat.le_trans (Nat.le_trans (Nat.le_trans (Nat.le_trans (Nat.le_trans (Nat.le_trans (Nat.le_trans (Nat.le_trans (Nat.le_trans Z0 E20_1.1) K20_2.1) K20_3.1) K20_5.1) K20_8.1) K20_10.1) K20_13.1) E20_16.1) K20_17.1) K20_18.1) K20_20.1) g_b20_16 (by simp only [List.length_append, List.length_nil]; omega) (fun T20_22 h20_22 L20_22 ia20_22 cap20_22 S20_22 e20_22 N20_22 B20_22 => ?_) ms1.length _ _ _ ia20_17 16 0 (by omega) (Or.inl ⟨rfl, X20_21⟩) e20_21 N20_20 (BD.cong (xs := []) ⟨Keep.refl _ _, ((Ex20_17.keep K20_18).keep K20_20), ((Fi20_17.keep K20_18 (fun q => nomatch q)).keep K20_20 (fun q => ne_b20_16_it20_18 (List.mem_singleton.mp q))), ((Fc20_17.keep K20_18 (fun q => nomatch q)).keep K20_20 (fun q => ne_b20_16_it20_18 (List.mem_singleton.mp q))), ((Ia20_17.keep K20_18 (fun q => nomatch q)).keep K20_20 (fun q => ne_ia20_17_it20_18 (List.mem_singleton.mp q))), Or.inl rfl, g_ia20_17, (Ne.symm ne_b20_16_ia20_17)⟩ (by rw [List.take_zero, List.append_nil]))
  have X20_22 := S20_22.elim (fun q => own_more q.2 (by decide : _ ≤ 7) (by decide : _ ≤ 71)) (fun q => q.2)
  have hcap20_22 : cap20_22 = 16 ∨ cap20_22 = 32 := S20_22.elim (fun q => Or.inl q.1) (fun q => Or.inr q.1)
  obtain ⟨K20_22, Eb20_22, Fi20_22, Fc20_22, Ia20_22, hia20_22, gia20_22, nia20_22⟩ := B20_22
  have ne_u2_ia20_22 : u2 ≠ ia20_22 := own_nia hia20_22 ne_u2_ia20_17 (((((((((((E_u2.ext E20_1).keep K20_2).keep K20_3).keep K20_5).keep K20_8).keep K20_10).keep K20_13).ext E20_16).keep K20_17).keep K20_18).keep K20_20).lt
  have ne_m2_ia20_22 : m2 ≠ ia20_22 := own_nia hia20_22 ne_m2_ia20_17 (((((((((((I_2.ext E20_1).keep K20_2 (fun q => ne_m2_b20_1 (List.mem_singleton.mp q))).keep K20_3 (fun q => nomatch q)).keep K20_5 (fun q => ne_m2_it20_3 (List.mem_singleton.mp q))).keep K20_8 (fun q => ne_m2_b20_1 (List.mem_singleton.mp q))).keep K20_10 (fun q => ne_m2_it20_3 (List.mem_singleton.mp q))).keep K20_13 (by simp only [List.mem_cons, List.not_mem_nil, or_false, not_or]; exact ⟨ne_m2_b20_1, ne_m2_ba20_8⟩)).ext E20_16).keep K20_17 (fun q => ne_m2_b20_16 (List.mem_singleton.mp q))).keep K20_18 (fun q => nomatch q)).keep K20_20 (fun q => ne_m2_it20_18 (List.mem_singleton.mp q))).lt
  have ne_b20_1_ia20_22 : b20_1 ≠ ia20_22 := own_nia hia20_22 ne_b20_1_ia20_17 ((((Ex20_13.ext E20_16).keep K20_17).keep K20_18).keep K20_20).lt
  have ne_it20_18_ia20_22 : it20_18 ≠ ia20_22 := own_nia hia20_22 (Ne.symm ne_ia20_17_it20_18) Ei20_20.lt
  have g_ia20_22 := gia20_22
  have sz_ia20_22 : h0.size ≤ ia20_22 := own_szia hia20_22 sz_ia20_17 ((((((((((((Keep.refl h0 []).ext E20_1).trans K20_2 (allS (Or.inr sz_b20_1) all0)).trans K20_3 all0).trans K20_5 (allS (Or.inr sz_it20_3) all0)).trans K20_8 (allS (Or.inr sz_b20_1) all0)).trans K20_10 (allS (Or.inr sz_it20_3) all0)).trans K20_13 (allS (Or.inr sz_b20_1) (allS (Or.inr sz_ba20_8) all0))).ext E20_16).trans K20_17 (allS (Or.inr sz_b20_16) all0)).trans K20_18 all0).trans K20_20 (allS (Or.inr sz_it20_18) all0)).1
  refine own_fw (A := T20_22.setTop (mkF m 109 #[.val (.ref r0), .val (.ref b20_1), .val (.ref it20_3), .val (.ref b20_16), .val (.ref it20_18), .val (.ref u1), .val (.int (Int32.ofNat ms1.length))] [(.ref it20_18)])) (fun t k => ?_) ?_
  · refine ox_goto X20_22.here hx (pc0 := 160) (pc' := 107) rfl (hb hby d20_160) (by decide) (by decide) ?_
    refine ox_aload X20_22.here hx (hb hby d20_107) rfl rfl ?_
    exact k
  obtain ⟨cq20_23, kq20_23, q20_23a, q20_23b, q20_23c⟩ := isOf hZ e20_22 (Ei20_20.keep K20_22)
  obtain ⟨_, _, ⟨T20_23, L20_23, k20_23, n20_23⟩, -, X20_23, ⟨Lc20_23, hQ20_23, l20_23, y20_23, z20_23⟩, st20_23⟩ := X20_22.interfaceBack hx (xi := mN10) (y := mN4) hown (mvT hZ (own_w hw 154 rfl)) (mvT hZ (own_w hw 155 rfl)) (mvT hZ (own_w hw 156 rfl)) (mvT hZ (own_w hw 157 rfl)) (mvT hZ (own_w hw 158 rfl)) (mvT hZ (own_w hw 159 rfl)) (mvT hZ (own_w hw 160 rfl)) (mvT hZ (own_w hw 161 rfl)) (by decide) (backOf (W := 0) (rm23 l Z a0 hw [] it20_18 b20_1 (1 : Int32) h20_22 n0 (Nat.le_trans (Nat.le_trans (Nat.le_trans (Nat.le_trans (Nat.le_trans (Nat.le_trans (Nat.le_trans (Nat.le_trans (Nat.le_trans (Nat.le_trans (Nat.le_trans (Nat.le_trans Z0 E20_1.1) K20_2.1) K20_3.1) K20_5.1) K20_8.1) K20_10.1) K20_13.1) E20_16.1) K20_17.1) K20_18.1) K20_20.1) K20_22.1) (Ic20_20.keep K20_22 (by simp only [List.mem_cons, List.not_mem_nil, or_false, not_or]; exact ⟨(Ne.symm ne_b20_16_it20_18), (Ne.symm ne_ia20_17_it20_18)⟩)) (It20_20.keep K20_22 (by simp only [List.mem_cons, List.not_mem_nil, or_false, not_or]; exact ⟨(Ne.symm ne_b20_16_it20_18), (Ne.symm ne_ia20_17_it20_18)⟩)) (((((Fs20_13.ext E20_16).keep K20_17 (fun q => ne_b20_1_b20_16 (List.mem_singleton.mp q))).keep K20_18 (fun q => nomatch q)).keep K20_20 (fun q => ne_b20_1_it20_18 (List.mem_singleton.mp q))).keep K20_22 (by simp only [List.mem_cons, List.not_mem_nil, or_false, not_or]; exact ⟨ne_b20_1_b20_16, ne_b20_1_ia20_17⟩))) hZ (own_w hw 162 rfl) (own_w hw 141 rfl) (by decide) (by decide)) q20_23a q20_23b q20_23c (g := (mkF m 109 #[.val (.ref r0), .val (.ref b20_1), .val (.ref it20_3), .val (.ref b20_16), .val (.ref it20_18), .val (.ref u1), .val (.int (Int32.ofNat ms1.length))] [(.ref it20_18)])) rfl (by rw [hml]; rfl) (Steps.refl _) (argsL := []) (rest := []) (lenOf pd20_5 rfl) rfl (own_mr rfl) (hb hby d20_109) (fun _ _ => ⟨rfl, e20_22, (by decide : 7 + 0 ≤ _), (by decide : 71 + 0 ≤ _)⟩)
  dsimp only [Pt.U, Pt.locs, Pt.cells, Pt.slots] at X20_23 l20_23 y20_23 z20_23 st20_23 hQ20_23
  subst l20_23 y20_23 z20_23
  obtain ⟨rfl, N20_23q, e20_23⟩ := hQ20_23
  have N20_23 := Fr.app N20_22 N20_23q
  refine own_fw (fun t k => st20_23.trans k) ?_
  refine own_fw (A := T20_23.setTop (mkF m 119 #[.val (.ref r0), .val (.ref b20_1), .val (.ref it20_3), .val (.ref b20_16), .val (.ref it20_18), .val (.ref u1), .val (.int (Int32.ofNat ms1.length))] [(.ref it20_18)])) (fun t k => ?_) ?_
  · refine ox_ifNo X20_23.here hx (hb hby d20_114) rfl ((if0 _ _).trans (feq (by decide +kernel)).1) ?_
    refine ox_aload X20_23.here hx (hb hby d20_117) rfl rfl ?_
    exact k
  obtain ⟨cq20_24, kq20_24, q20_24a, q20_24b, q20_24c⟩ := isOf hZ e20_23 (Ei20_20.keep K20_22)
  obtain ⟨_, _, ⟨T20_24, L20_24, k20_24, n20_24⟩, -, X20_24, ⟨Lc20_24, hQ20_24, l20_24, y20_24, z20_24⟩, st20_24⟩ := X20_23.interfaceBack hx (xi := mN17) (y := mN5) hown (mvT hZ (own_w hw 166 rfl)) (mvT hZ (own_w hw 167 rfl)) (mvT hZ (own_w hw 168 rfl)) (mvT hZ (own_w hw 169 rfl)) (mvT hZ (own_w hw 170 rfl)) (mvT hZ (own_w hw 171 rfl)) (mvT hZ (own_w hw 172 rfl)) (mvT hZ (own_w hw 161 rfl)) (by decide) (backOf (W := 0) (rmNX_1 l Z a0 hw [] it20_18 b20_1 ba20_8 kg20_8 u1 u2 h20_22 n0 (Nat.le_trans (Nat.le_trans (Nat.le_trans (Nat.le_trans (Nat.le_trans (Nat.le_trans (Nat.le_trans (Nat.le_trans (Nat.le_trans (Nat.le_trans (Nat.le_trans (Nat.le_trans Z0 E20_1.1) K20_2.1) K20_3.1) K20_5.1) K20_8.1) K20_10.1) K20_13.1) E20_16.1) K20_17.1) K20_18.1) K20_20.1) K20_22.1) (Ei20_20.keep K20_22) (Ic20_20.keep K20_22 (by simp only [List.mem_cons, List.not_mem_nil, or_false, not_or]; exact ⟨(Ne.symm ne_b20_16_it20_18), (Ne.symm ne_ia20_17_it20_18)⟩)) (Il20_20.keep K20_22 (by simp only [List.mem_cons, List.not_mem_nil, or_false, not_or]; exact ⟨(Ne.symm ne_b20_16_it20_18), (Ne.symm ne_ia20_17_it20_18)⟩)) (Ix20_20.keep K20_22 (by simp only [List.mem_cons, List.not_mem_nil, or_false, not_or]; exact ⟨(Ne.symm ne_b20_16_it20_18), (Ne.symm ne_ia20_17_it20_18)⟩)) (It20_20.keep K20_22 (by simp only [List.mem_cons, List.not_mem_nil, or_false, not_or]; exact ⟨(Ne.symm ne_b20_16_it20_18), (Ne.symm ne_ia20_17_it20_18)⟩)) (((((Ex20_13.ext E20_16).keep K20_17).keep K20_18).keep K20_20).keep K20_22) (((((Fe20_13.ext E20_16).keep K20_17 (fun q => ne_b20_1_b20_16 (List.mem_singleton.mp q))).keep K20_18 (fun q => nomatch q)).keep K20_20 (fun q => ne_b20_1_it20_18 (List.mem_singleton.mp q))).keep K20_22 (by simp only [List.mem_cons, List.not_mem_nil, or_false, not_or]; exact ⟨ne_b20_1_b20_16, ne_b20_1_ia20_17⟩)) (((((Fs20_13.ext E20_16).keep K20_17 (fun q => ne_b20_1_b20_16 (List.mem_singleton.mp q))).keep K20_18 (fun q => nomatch q)).keep K20_20 (fun q => ne_b20_1_it20_18 (List.mem_singleton.mp q))).keep K20_22 (by simp only [List.mem_cons, List.not_mem_nil, or_false, not_or]; exact ⟨ne_b20_1_b20_16, ne_b20_1_ia20_17⟩)) (((((Fm20_13.ext E20_16).keep K20_17 (fun q => ne_b20_1_b20_16 (List.mem_singleton.mp q))).keep K20_18 (fun q => nomatch q)).keep K20_20 (fun q => ne_b20_1_it20_18 (List.mem_singleton.mp q))).keep K20_22 (by simp only [List.mem_cons, List.not_mem_nil, or_false, not_or]; exact ⟨ne_b20_1_b20_16, ne_b20_1_ia20_17⟩)) (((((Vg20_13.ext E20_16).keep K20_17 (fun q => ne_ba20_8_b20_16 (List.mem_singleton.mp q))).keep K20_18 (fun q => nomatch q)).keep K20_20 (fun q => ne_ba20_8_it20_18 (List.mem_singleton.mp q))).keep K20_22 (by simp only [List.mem_cons, List.not_mem_nil, or_false, not_or]; exact ⟨ne_ba20_8_b20_16, ne_ba20_8_ia20_17⟩)) ne_b20_1_it20_18 ne_ba20_8_it20_18 g_it20_18) hZ (own_w hw 173 rfl) (own_w hw 141 rfl) (by decide) (by decide)) q20_24a q20_24b q20_24c (g := (mkF m 119 #[.val (.ref r0), .val (.ref b20_1), .val (.ref it20_3), .val (.ref b20_16), .val (.ref it20_18), .val (.ref u1), .val (.int (Int32.ofNat ms1.length))] [(.ref it20_18)])) rfl (by rw [hml]; rfl) (Steps.refl _) (argsL := []) (rest := []) (lenOf pd20_7 rfl) rfl (own_mr rfl) (hb hby d20_119) (fun _ _ => ⟨rfl, e20_23, (by decide : 7 + 0 ≤ _), (by decide : 71 + 0 ≤ _)⟩)
  dsimp only [Pt.U, Pt.locs, Pt.cells, Pt.slots] at X20_24 l20_24 y20_24 z20_24 st20_24 hQ20_24
  subst l20_24 y20_24 z20_24
  obtain ⟨rfl, N20_24q, K20_24, Ei20_24, Ic20_24, Il20_24, Ix20_24, It20_24⟩ := hQ20_24
  have N20_24 := Fr.app N20_23 N20_24q
  refine own_fw (fun t k => st20_24.trans k) ?_
  obtain ⟨T20_25, X20_25, e20_25, st20_25⟩ := castY X20_24 hx hZ hown (own_w hw 180 rfl) rfl (Ins.self (((((((((((((E_u2.ext E20_1).keep K20_2).keep K20_3).keep K20_5).keep K20_8).keep K20_10).keep K20_13).ext E20_16).keep K20_17).keep K20_18).keep K20_20).keep K20_22).keep K20_24)) (g := (mkF m 124 #[.val (.ref r0), .val (.ref b20_1), .val (.ref it20_3), .val (.ref b20_16), .val (.ref it20_18), .val (.ref u1), .val (.int (Int32.ofNat ms1.length))] [(.ref u2)])) rfl rfl (hb hby d20_124)
  refine own_fw st20_25 ?_
  refine own_fw (A := T20_25.setTop (mkF m 132 #[.val (.ref r0), .val (.ref b20_1), .val (.ref it20_3), .val (.ref b20_16), .val (.ref it20_18), .val (.ref u2), .val (.int (0 : Int32))] [])) (fun t k => ?_) ?_
  · refine ox_astore X20_25.here hx (hb hby d20_127) rfl rfl (l' := #[.val (.ref r0), .val (.ref b20_1), .val (.ref it20_3), .val (.ref b20_16), .val (.ref it20_18), .val (.ref u2), .val (.int (Int32.ofNat ms1.length))]) rfl ?_
    refine ox_iconst X20_25.here hx (hb hby d20_129) ?_
    refine ox_istore X20_25.here hx (hb hby d20_130) rfl (l' := #[.val (.ref r0), .val (.ref b20_1), .val (.ref it20_3), .val (.ref b20_16), .val (.ref it20_18), .val (.ref u2), .val (.int (0 : Int32))]) rfl ?_
    exact k
  refine own_ul_b (hA := T20_24.heap) (iaA := ia20_22) (xs0 := ([] ++ ms1)) (ms := ms2) hx hZ hw hown hby hml hk (((((((((((((E_u2.ext E20_1).keep K20_2).keep K20_3).keep K20_5).keep K20_8).keep K20_10).keep K20_13).ext E20_16).keep K20_17).keep K20_18).keep K20_20).keep K20_22).keep K20_24) (((((((((((((F_u2.ext E20_1).keep K20_2 (fun q => ne_u2_b20_1 (List.mem_singleton.mp q))).keep K20_3 (fun q => nomatch q)).keep K20_5 (fun q => ne_u2_it20_3 (List.mem_singleton.mp q))).keep K20_8 (fun q => ne_u2_b20_1 (List.mem_singleton.mp q))).keep K20_10 (fun q => ne_u2_it20_3 (List.mem_singleton.mp q))).keep K20_13 (by simp only [List.mem_cons, List.not_mem_nil, or_false, not_or]; exact ⟨ne_u2_b20_1, ne_u2_ba20_8⟩)).ext E20_16).keep K20_17 (fun q => ne_u2_b20_16 (List.mem_singleton.mp q))).keep K20_18 (fun q => nomatch q)).keep K20_20 (fun q => ne_u2_it20_18 (List.mem_singleton.mp q))).keep K20_22 (by simp only [List.mem_cons, List.not_mem_nil, or_false, not_or]; exact ⟨ne_u2_b20_16, ne_u2_ia20_17⟩)).keep K20_24 (fun q => ne_u2_it20_18 (List.mem_singleton.mp q))) (((((((((((((I_2.ext E20_1).keep K20_2 (fun q => ne_m2_b20_1 (List.mem_singleton.mp q))).keep K20_3 (fun q => nomatch q)).keep K20_5 (fun q => ne_m2_it20_3 (List.mem_singleton.mp q))).keep K20_8 (fun q => ne_m2_b20_1 (List.mem_singleton.mp q))).keep K20_10 (fun q => ne_m2_it20_3 (List.mem_singleton.mp q))).keep K20_13 (by simp only [List.mem_cons, List.not_mem_nil, or_false, not_or]; exact ⟨ne_m2_b20_1, ne_m2_ba20_8⟩)).ext E20_16).keep K20_17 (fun q => ne_m2_b20_16 (List.mem_singleton.mp q))).keep K20_18 (fun q => nomatch q)).keep K20_20 (fun q => ne_m2_it20_18 (List.mem_singleton.mp q))).keep K20_22 (by simp only [List.mem_cons, List.not_mem_nil, or_false, not_or]; exact ⟨ne_m2_b20_16, ne_m2_ia20_17⟩)).keep K20_24 (fun q => ne_m2_it20_18 (List.mem_singleton.mp q))) ne_u2_b20_16 ne_u2_ia20_22 ne_m2_b20_16 ne_m2_ia20_22 (Nat.le_trans (Nat.le_trans (Nat.le_trans (Nat.le_trans (Nat.le_trans (Nat.le_trans (Nat.le_trans (Nat.le_trans (Nat.le_trans (Nat.le_trans (Nat.le_trans (Nat.le_trans (Nat.le_trans Z0 E20_1.1) K20_2.1) K20_3.1) K20_5.1) K20_8.1) K20_10.1) K20_13.1) E20_16.1) K20_17.1) K20_18.1) K20_20.1) K20_22.1) K20_24.1) g_b20_16 (by simp only [List.length_append, List.length_nil]; omega) (fun T20_26 h20_26 L20_26 ia20_26 cap20_26 S20_26 e20_26 N20_26 B20_26 => ?_) ms2.length _ _ _ ia20_22 cap20_22 0 (by omega) (hcap20_22.elim (fun q => Or.inl ⟨q, X20_25⟩) (fun q => Or.inr ⟨q, own_more X20_25 (by decide) (by decide)⟩)) e20_25 N20_24 (BD.cong (xs := ([] ++ ms1)) ⟨Keep.refl _ _, (Eb20_22.keep K20_24), (Fi20_22.keep K20_24 (fun q => ne_b20_16_it20_18 (List.mem_singleton.mp q))), (Fc20_22.keep K20_24 (fun q => ne_b20_16_it20_18 (List.mem_singleton.mp q))), (Ia20_22.keep K20_24 (fun q => (Ne.symm ne_it20_18_ia20_22) (List.mem_singleton.mp q))), Or.inl rfl, g_ia20_22, nia20_22⟩ (by rw [List.take_zero, List.append_nil]))
  have X20_26 := S20_26.elim (fun q => own_more q.2 (by decide : _ ≤ 8) (by decide : _ ≤ 103)) (fun q => q.2)
  have hcap20_26 : cap20_26 = 16 ∨ cap20_26 = 32 := S20_26.elim (fun q => Or.inl q.1) (fun q => Or.inr q.1)
  obtain ⟨K20_26, Eb20_26, Fi20_26, Fc20_26, Ia20_26, hia20_26, gia20_26, nia20_26⟩ := B20_26
  refine own_fw (A := T20_26.setTop (mkF m 109 #[.val (.ref r0), .val (.ref b20_1), .val (.ref it20_3), .val (.ref b20_16), .val (.ref it20_18), .val (.ref u2), .val (.int (Int32.ofNat ms2.length))] [(.ref it20_18)])) (fun t k => ?_) ?_
  · refine ox_goto X20_26.here hx (pc0 := 160) (pc' := 107) rfl (hb hby d20_160) (by decide) (by decide) ?_
    refine ox_aload X20_26.here hx (hb hby d20_107) rfl rfl ?_
    exact k
  obtain ⟨cq20_27, kq20_27, q20_27a, q20_27b, q20_27c⟩ := isOf hZ e20_26 (Ei20_24.keep K20_26)
  obtain ⟨_, _, ⟨T20_27, L20_27, k20_27, n20_27⟩, -, X20_27, ⟨Lc20_27, hQ20_27, l20_27, y20_27, z20_27⟩, st20_27⟩ := X20_26.interfaceBack hx (xi := mN10) (y := mN4) hown (mvT hZ (own_w hw 154 rfl)) (mvT hZ (own_w hw 155 rfl)) (mvT hZ (own_w hw 156 rfl)) (mvT hZ (own_w hw 157 rfl)) (mvT hZ (own_w hw 158 rfl)) (mvT hZ (own_w hw 159 rfl)) (mvT hZ (own_w hw 160 rfl)) (mvT hZ (own_w hw 161 rfl)) (by decide) (backOf (W := 0) (rm23 l Z a0 hw [] it20_18 b20_1 (2 : Int32) h20_26 n0 (Nat.le_trans (Nat.le_trans (Nat.le_trans (Nat.le_trans (Nat.le_trans (Nat.le_trans (Nat.le_trans (Nat.le_trans (Nat.le_trans (Nat.le_trans (Nat.le_trans (Nat.le_trans (Nat.le_trans (Nat.le_trans Z0 E20_1.1) K20_2.1) K20_3.1) K20_5.1) K20_8.1) K20_10.1) K20_13.1) E20_16.1) K20_17.1) K20_18.1) K20_20.1) K20_22.1) K20_24.1) K20_26.1) (Ic20_24.keep K20_26 (by simp only [List.mem_cons, List.not_mem_nil, or_false, not_or]; exact ⟨(Ne.symm ne_b20_16_it20_18), ne_it20_18_ia20_22⟩)) (It20_24.keep K20_26 (by simp only [List.mem_cons, List.not_mem_nil, or_false, not_or]; exact ⟨(Ne.symm ne_b20_16_it20_18), ne_it20_18_ia20_22⟩)) (((((((Fs20_13.ext E20_16).keep K20_17 (fun q => ne_b20_1_b20_16 (List.mem_singleton.mp q))).keep K20_18 (fun q => nomatch q)).keep K20_20 (fun q => ne_b20_1_it20_18 (List.mem_singleton.mp q))).keep K20_22 (by simp only [List.mem_cons, List.not_mem_nil, or_false, not_or]; exact ⟨ne_b20_1_b20_16, ne_b20_1_ia20_17⟩)).keep K20_24 (fun q => ne_b20_1_it20_18 (List.mem_singleton.mp q))).keep K20_26 (by simp only [List.mem_cons, List.not_mem_nil, or_false, not_or]; exact ⟨ne_b20_1_b20_16, ne_b20_1_ia20_22⟩))) hZ (own_w hw 162 rfl) (own_w hw 141 rfl) (by decide) (by decide)) q20_27a q20_27b q20_27c (g := (mkF m 109 #[.val (.ref r0), .val (.ref b20_1), .val (.ref it20_3), .val (.ref b20_16), .val (.ref it20_18), .val (.ref u2), .val (.int (Int32.ofNat ms2.length))] [(.ref it20_18)])) rfl (by rw [hml]; rfl) (Steps.refl _) (argsL := []) (rest := []) (lenOf pd20_5 rfl) rfl (own_mr rfl) (hb hby d20_109) (fun _ _ => ⟨rfl, e20_26, (by decide : 8 + 0 ≤ _), (by decide : 103 + 0 ≤ _)⟩)
  dsimp only [Pt.U, Pt.locs, Pt.cells, Pt.slots] at X20_27 l20_27 y20_27 z20_27 st20_27 hQ20_27
  subst l20_27 y20_27 z20_27
  obtain ⟨rfl, N20_27q, e20_27⟩ := hQ20_27
  have N20_27 := Fr.app N20_26 N20_27q
  refine own_fw (fun t k => st20_27.trans k) ?_
  refine own_fw (A := T20_27.setTop (mkF m 164 #[.val (.ref r0), .val (.ref b20_1), .val (.ref it20_3), .val (.ref b20_16), .val (.ref it20_18), .val (.ref u2), .val (.int (Int32.ofNat ms2.length))] [(.ref b20_16)])) (fun t k => ?_) ?_
  · refine ox_ifYes X20_27.here hx (pc0 := 114) (pc' := 163) rfl (hb hby d20_114) rfl ((if0 _ _).trans (teq (by decide +kernel)).1) (by decide) (by decide) ?_
    refine ox_aloadN X20_27.here hx (hb hby d20_163) rfl rfl ?_
    exact k
  obtain ⟨cq20_28, kq20_28, q20_28a, q20_28b, q20_28c⟩ := isOf hZ e20_27 Eb20_26
  obtain ⟨_, _, ⟨T20_28, L20_28, k20_28, n20_28⟩, -, X20_28, ⟨Lc20_28, hQ20_28, l20_28, y20_28, z20_28⟩, st20_28⟩ := X20_27.virtualBack hx (y := mN7) (z := mN7) hown (mvT hZ (own_w hw 209 rfl)) (mvT hZ (own_w hw 25 rfl)) (notFace_of_selects (args := #[]) (mvT hZ (own_w hw 27 rfl))) (mvT hZ (own_w hw 27 rfl)) (mvT hZ (own_w hw 26 rfl)) (by decide) (backOf (W := 0) (rm5 l Z a0 hw [] b20_16 ia20_26 kI (([] ++ ms1) ++ ms2) cap20_26 h20_26 n0 (Nat.le_trans (Nat.le_trans (Nat.le_trans (Nat.le_trans (Nat.le_trans (Nat.le_trans (Nat.le_trans (Nat.le_trans (Nat.le_trans (Nat.le_trans (Nat.le_trans (Nat.le_trans (Nat.le_trans (Nat.le_trans Z0 E20_1.1) K20_2.1) K20_3.1) K20_5.1) K20_8.1) K20_10.1) K20_13.1) E20_16.1) K20_17.1) K20_18.1) K20_20.1) K20_22.1) K20_24.1) K20_26.1) Fi20_26 Fc20_26 Ia20_26 hk nia20_26 (by simp only [List.length_append, List.length_nil]; omega)) hZ (own_w hw 28 rfl) (own_w hw 7 rfl) (by decide) (by decide)) q20_28a q20_28c (g := (mkF m 164 #[.val (.ref r0), .val (.ref b20_1), .val (.ref it20_3), .val (.ref b20_16), .val (.ref it20_18), .val (.ref u2), .val (.int (Int32.ofNat ms2.length))] [(.ref b20_16)])) rfl (by rw [hml]; rfl) (Steps.refl _) (argsL := []) (rest := []) (lenOf pd20_3 rfl) rfl (own_mr rfl) (hb hby d20_164) (fun _ _ => ⟨rfl, e20_27, (by decide : 8 + 3 ≤ _), (by decide : 103 + 37 ≤ _)⟩)
  dsimp only [Pt.U, Pt.locs, Pt.cells, Pt.slots] at X20_28 l20_28 y20_28 z20_28 st20_28 hQ20_28
  subst l20_28 y20_28 z20_28
  obtain ⟨ub20_28, mb20_28, D20_28, rfl, N20_28q, K20_28, Eu20_28, Fu20_28, Iu20_28, Pw20_28, Mm20_28, zu20_28, zm20_28⟩ := hQ20_28
  have N20_28 := Fr.app N20_27 N20_28q
  have sz_ub20_28 : h0.size ≤ ub20_28 := Nat.le_trans (((((((((((((((Keep.refl h0 []).ext E20_1).trans K20_2 (allS (Or.inr sz_b20_1) all0)).trans K20_3 all0).trans K20_5 (allS (Or.inr sz_it20_3) all0)).trans K20_8 (allS (Or.inr sz_b20_1) all0)).trans K20_10 (allS (Or.inr sz_it20_3) all0)).trans K20_13 (allS (Or.inr sz_b20_1) (allS (Or.inr sz_ba20_8) all0))).ext E20_16).trans K20_17 (allS (Or.inr sz_b20_16) all0)).trans K20_18 all0).trans K20_20 (allS (Or.inr sz_it20_18) all0)).trans K20_22 (allS (Or.inr sz_b20_16) (allS (Or.inr sz_ia20_17) all0))).trans K20_24 (allS (Or.inr sz_it20_18) all0)).trans K20_26 (allS (Or.inr sz_b20_16) (allS (Or.inr sz_ia20_22) all0))).1 zu20_28
  have sz_mb20_28 : h0.size ≤ mb20_28 := Nat.le_trans (((((((((((((((Keep.refl h0 []).ext E20_1).trans K20_2 (allS (Or.inr sz_b20_1) all0)).trans K20_3 all0).trans K20_5 (allS (Or.inr sz_it20_3) all0)).trans K20_8 (allS (Or.inr sz_b20_1) all0)).trans K20_10 (allS (Or.inr sz_it20_3) all0)).trans K20_13 (allS (Or.inr sz_b20_1) (allS (Or.inr sz_ba20_8) all0))).ext E20_16).trans K20_17 (allS (Or.inr sz_b20_16) all0)).trans K20_18 all0).trans K20_20 (allS (Or.inr sz_it20_18) all0)).trans K20_22 (allS (Or.inr sz_b20_16) (allS (Or.inr sz_ia20_17) all0))).trans K20_24 (allS (Or.inr sz_it20_18) all0)).trans K20_26 (allS (Or.inr sz_b20_16) (allS (Or.inr sz_ia20_22) all0))).1 zm20_28
  refine own_fw (fun t k => st20_28.trans k) ?_
  refine own_fw (A := T20_28.setTop (mkF m 169 #[.val (.ref r0), .val (.ref b20_1), .val (.ref ub20_28), .val (.ref b20_16), .val (.ref it20_18), .val (.ref u2), .val (.int (Int32.ofNat ms2.length))] [(.ref ub20_28)])) (fun t k => ?_) ?_
  · refine ox_astoreN X20_28.here hx (hb hby d20_167) rfl rfl (l' := #[.val (.ref r0), .val (.ref b20_1), .val (.ref ub20_28), .val (.ref b20_16), .val (.ref it20_18), .val (.ref u2), .val (.int (Int32.ofNat ms2.length))]) rfl ?_
    refine ox_aloadN X20_28.here hx (hb hby d20_168) rfl rfl ?_
    exact k
  obtain ⟨fs, hr, hrun, hended, hW, hsame⟩ := X20_28.leave (v := some (.ref ub20_28)) (own_ret Bd.returns) (BodyLoose.notSynchronized Bd)
  refine ⟨_, _, retA (ty := (.object "com/example/dolqa/dolqa/data/UnaryRelation")) X20_28 hx rfl rfl Bd.returns (hb hby d20_169) hr, hrun, hended, _, _, rfl, ?_, ⟨_, rfl⟩, hW, hsame.mono (by decide) (by decide)⟩
  have eh : (T20_28.setFrames fs).heap = T20_28.heap := rfl
  rw [eh]
  exact ⟨ub20_28, mb20_28, _, rfl, N20_28, ((((((((((((((((Keep.refl h0 []).ext E20_1).trans K20_2 (allS (Or.inr sz_b20_1) all0)).trans K20_3 all0).trans K20_5 (allS (Or.inr sz_it20_3) all0)).trans K20_8 (allS (Or.inr sz_b20_1) all0)).trans K20_10 (allS (Or.inr sz_it20_3) all0)).trans K20_13 (allS (Or.inr sz_b20_1) (allS (Or.inr sz_ba20_8) all0))).ext E20_16).trans K20_17 (allS (Or.inr sz_b20_16) all0)).trans K20_18 all0).trans K20_20 (allS (Or.inr sz_it20_18) all0)).trans K20_22 (allS (Or.inr sz_b20_16) (allS (Or.inr sz_ia20_17) all0))).trans K20_24 (allS (Or.inr sz_it20_18) all0)).trans K20_26 (allS (Or.inr sz_b20_16) (allS (Or.inr sz_ia20_22) all0))).trans K20_28 all0), Eu20_28, Fu20_28, Iu20_28, Pw20_28, fun v => by rw [Mm20_28 v, List.nil_append, List.mem_append], sz_ub20_28, sz_mb20_28⟩
abbrev own_r (b : Int32) : List Int32 := [b, b + (1 : Int32), b + (2 : Int32), b + (3 : Int32), b + (4 : Int32), b + (5 : Int32), b + (6 : Int32), b + (7 : Int32), b + (8 : Int32), b + (9 : Int32), b + (10 : Int32), b + (11 : Int32), b + (12 : Int32), b + (13 : Int32), b + (14 : Int32), b + (15 : Int32)]
theorem own_r_eq (b : Int32) : own_r b = (List.range 16).map (fun i => b + Int32.ofNat i) := by
  rw [show List.range 16 = [0, 1, 2, 3, 4, 5, 6, 7, 8, 9, 10, 11, 12, 13, 14, 15] from rfl]
  simp only [List.map]
  rw [show b + Int32.ofNat 0 = b from Int32.add_zero b]
  rfl
theorem own_bi {b : Int32} (hb : b.toInt ≤ 2147483632) {i : Nat} (hi : i < 16) : (b + Int32.ofNat i).toInt = b.toInt + i := by
  have h1 := c_iadd b (Int32.ofNat i)
  have h2 := rng32 (b + Int32.ofNat i)
  have h3 := rng32 b
  rw [Int32.toInt_ofNat_small (by omega)] at h1
  omega
theorem own_r_mem {b : Int32} (hb : b.toInt ≤ 2147483632) (v : Int32) : v ∈ own_r b ↔ b.toInt ≤ v.toInt ∧ v.toInt ≤ b.toInt + 15 := by
  rw [own_r_eq, List.mem_map]
  constructor
  · rintro ⟨i, hi, rfl⟩
    rw [List.mem_range] at hi
    rw [own_bi hb hi]
    omega
  · rintro ⟨h1, h2⟩
    refine ⟨(v.toInt - b.toInt).toNat, List.mem_range.mpr (by omega), ?_⟩
    rw [← Int32.toInt_inj, own_bi hb (by omega)]
    omega
theorem own_r_pw {b : Int32} (hb : b.toInt ≤ 2147483632) : (own_r b).Pairwise (· < ·) := by
  rw [own_r_eq, List.pairwise_map]
  refine List.Pairwise.imp_of_mem (fun {i j} hi hj hij => ?_) (List.pairwise_lt_range (n := 16))
  rw [List.mem_range] at hi hj
  rw [Int32.lt_iff_toInt_lt, own_bi hb hi, own_bi hb hj]
  omega
theorem own_lo (x y : Int32) : ((f_min x y = x ∧ f_max x y = y) ∨ (f_min x y = y ∧ f_max x y = x)) ∧ (f_min x y).toInt ≤ (f_max x y).toInt ∧ (x = y ↔ (f_min x y).toInt = (f_max x y).toInt) := by
  have e : (x = y ↔ x.toInt = y.toInt) := Int32.toInt_inj.symm
  rw [e, f_min, f_max]
  by_cases h1 : x < y
  · have h2 : ¬ y < x := by rw [Int32.lt_iff_toInt_lt] at *; omega
    simp only [h1, h2, if_true, if_false]
    rw [Int32.lt_iff_toInt_lt] at *
    first | (refine ⟨Or.inl ⟨trivial, trivial⟩, ?_, ?_⟩ <;> omega) | (refine ⟨Or.inl ⟨rfl, rfl⟩, ?_, ?_⟩ <;> omega) | (simp; omega)
  · by_cases h2 : y < x
    · simp only [h1, h2, if_true, if_false]
      rw [Int32.lt_iff_toInt_lt] at *
      first | (refine ⟨Or.inr ⟨trivial, trivial⟩, ?_, ?_⟩ <;> omega) | (refine ⟨Or.inr ⟨rfl, rfl⟩, ?_, ?_⟩ <;> omega) | (simp; omega)
    · have h3 : x = y := by rw [← Int32.toInt_inj]; rw [Int32.lt_iff_toInt_lt] at *; omega
      subst h3
      simp
def own_bl (b x y : Int32) : List Int32 := if f_min x y < b then (if ¬ x = y ∧ f_max x y < b then [f_min x y, f_max x y] else [f_min x y]) else []
def own_ab (b x y : Int32) : List Int32 := if b + 15 < f_max x y then (if ¬ x = y ∧ b + 15 < f_min x y then [f_min x y, f_max x y] else [f_max x y]) else []
def own_exp (b x y : Int32) : List Int32 := own_bl b x y ++ (own_r b ++ own_ab b x y)
theorem own_b15 {b : Int32} (hb : b.toInt ≤ 2147483632) : (b + 15).toInt = b.toInt + 15 := own_bi hb (i := 15) (by decide)
theorem own_bl_mem {b x y : Int32} (v : Int32) : v ∈ own_bl b x y ↔ (v = x ∨ v = y) ∧ v < b := by
  obtain ⟨h1, h2, h3⟩ := own_lo x y
  have hxy : (v = x ∨ v = y) ↔ (v = f_min x y ∨ v = f_max x y) := by
    rcases h1 with ⟨a, c⟩ | ⟨a, c⟩
    · rw [a, c]
    · rw [a, c]; exact Or.comm
  rw [hxy, own_bl]
  split
  · rename_i q1
    rw [Int32.lt_iff_toInt_lt] at q1
    split
    · rename_i q2
      rw [h3, Int32.lt_iff_toInt_lt] at q2
      simp only [List.mem_cons, List.not_mem_nil, or_false, ← Int32.toInt_inj, Int32.lt_iff_toInt_lt]; omega
    · rename_i q2
      rw [h3, Int32.lt_iff_toInt_lt] at q2
      simp only [List.mem_cons, List.not_mem_nil, or_false, ← Int32.toInt_inj, Int32.lt_iff_toInt_lt]; omega
  · rename_i q1
    rw [Int32.lt_iff_toInt_lt] at q1
    simp only [List.not_mem_nil, false_iff, ← Int32.toInt_inj, Int32.lt_iff_toInt_lt]; omega
theorem own_ab_mem {b x y : Int32} (v : Int32) : v ∈ own_ab b x y ↔ (v = x ∨ v = y) ∧ b + 15 < v := by
  obtain ⟨h1, h2, h3⟩ := own_lo x y
  have hxy : (v = x ∨ v = y) ↔ (v = f_min x y ∨ v = f_max x y) := by
    rcases h1 with ⟨a, c⟩ | ⟨a, c⟩
    · rw [a, c]
    · rw [a, c]; exact Or.comm
  rw [hxy, own_ab]
  split
  · rename_i q1
    rw [Int32.lt_iff_toInt_lt] at q1
    split
    · rename_i q2
      rw [h3, Int32.lt_iff_toInt_lt] at q2
      simp only [List.mem_cons, List.not_mem_nil, or_false, ← Int32.toInt_inj, Int32.lt_iff_toInt_lt]; omega
    · rename_i q2
      rw [h3, Int32.lt_iff_toInt_lt] at q2
      simp only [List.mem_cons, List.not_mem_nil, or_false, ← Int32.toInt_inj, Int32.lt_iff_toInt_lt]; omega
  · rename_i q1
    rw [Int32.lt_iff_toInt_lt] at q1
    simp only [List.not_mem_nil, false_iff, ← Int32.toInt_inj, Int32.lt_iff_toInt_lt]; omega
theorem own_bl_pw (b x y : Int32) : (own_bl b x y).Pairwise (· < ·) := by
  obtain ⟨h1, h2, h3⟩ := own_lo x y
  rw [own_bl]
  split
  · split
    · rename_i q
      rw [h3] at q
      simp only [List.pairwise_cons, List.mem_cons, List.not_mem_nil, or_false, forall_eq, List.Pairwise.nil, false_implies, implies_true, and_true, Int32.lt_iff_toInt_lt]
      omega
    · simp
  · simp
theorem own_ab_pw (b x y : Int32) : (own_ab b x y).Pairwise (· < ·) := by
  obtain ⟨h1, h2, h3⟩ := own_lo x y
  rw [own_ab]
  split
  · split
    · rename_i q
      rw [h3] at q
      simp only [List.pairwise_cons, List.mem_cons, List.not_mem_nil, or_false, forall_eq, List.Pairwise.nil, false_implies, implies_true, and_true, Int32.lt_iff_toInt_lt]
      omega
    · simp
  · simp
theorem own_isexp {b x y : Int32} {D : List Int32} (hb : b.toInt ≤ 2147483632) (hP : D.Pairwise (· < ·)) (hM : ∀ v, v ∈ D ↔ (v ∈ (([] ++ [y]) ++ [x] : List Int32)) ∨ v ∈ own_r b) : D = own_exp b x y := by
  refine own_uniq _ _ hP ?_ fun v => ?_
  · rw [own_exp, List.pairwise_append, List.pairwise_append]
    refine ⟨own_bl_pw b x y, ⟨own_r_pw hb, own_ab_pw b x y, fun u hu v hv => ?_⟩, fun u hu v hv => ?_⟩
    · rw [own_r_mem hb] at hu
      rw [own_ab_mem, Int32.lt_iff_toInt_lt, own_b15 hb] at hv
      rw [Int32.lt_iff_toInt_lt]; omega
    · rw [own_bl_mem, Int32.lt_iff_toInt_lt] at hu
      rw [List.mem_append, own_r_mem hb, own_ab_mem, Int32.lt_iff_toInt_lt, own_b15 hb] at hv
      rw [Int32.lt_iff_toInt_lt]; omega
  · have e1 : v ∈ own_exp b x y ↔ ((v = x ∨ v = y) ∧ v.toInt < b.toInt) ∨ (b.toInt ≤ v.toInt ∧ v.toInt ≤ b.toInt + 15) ∨ ((v = x ∨ v = y) ∧ b.toInt + 15 < v.toInt) := by rw [own_exp, List.mem_append, List.mem_append, own_bl_mem, own_ab_mem, own_r_mem hb, Int32.lt_iff_toInt_lt, Int32.lt_iff_toInt_lt, own_b15 hb]
    rw [hM v, e1, own_r_mem hb]
    simp only [List.nil_append, List.mem_append, List.mem_cons, List.not_mem_nil, or_false]
    by_cases q1 : v = x
    · subst q1; simp only [true_or, or_true, true_and, true_iff]; omega
    · by_cases q2 : v = y
      · subst q2; simp only [true_or, or_true, true_and, true_iff]; omega
      · simp only [q1, q2, false_or, false_and, or_false]
theorem own_some {D : List Int32} {y z : Int32} (Mm : ∀ v, v ∈ D ↔ v ∈ (([] ++ [y]) ++ [z] : List Int32)) : 0 < D.length := by
  have : z ∈ D := (Mm z).mpr (by simp)
  exact List.length_pos_of_mem this
theorem own_two {D : List Int32} {y z : Int32} (Pw : D.Pairwise (· < ·)) (Mm : ∀ v, v ∈ D ↔ v ∈ (([] ++ [y]) ++ [z] : List Int32)) : D.length ≤ 2 := by
  match D, Pw, Mm with
  | [], _, _ => simp
  | [_], _, _ => simp
  | [_, _], _, _ => simp
  | a :: b :: c :: T, Pw, Mm =>
    exfalso
    have ha := (Mm a).mp (by simp)
    have hb := (Mm b).mp (by simp)
    have hc := (Mm c).mp (by simp)
    simp only [List.pairwise_cons] at Pw
    have h1 := Pw.1 b (by simp)
    have h2 := Pw.2.1 c (by simp)
    simp only [List.nil_append, List.mem_append, List.mem_cons, List.not_mem_nil, or_false, ← Int32.toInt_inj, Int32.lt_iff_toInt_lt] at ha hb hc h1 h2
    omega
theorem own_bot {p0 : Int32} : (f_min p0 (2147483632 : Int32)).toInt ≤ 2147483632 := by
  obtain ⟨h1, h2, h3⟩ := own_lo p0 (2147483632 : Int32)
  have z : (2147483632 : Int32).toInt = 2147483632 := rfl
  rcases h1 with ⟨a, c⟩ | ⟨a, c⟩
  · rw [a] at h2 ⊢; rw [c, z] at h2; exact h2
  · rw [a, z]; exact Int.le_refl _
theorem pn0 : plainName "com/example/dolqa/dolqa/data/BuilderAddPinLaw" = true := by first | (simp [plainName, overriddenIn]; done) | decide +kernel
theorem pd0_0 : parseMethodDescriptor "(II)I" = some ⟨[.int, .int], some .int⟩ := by decide +kernel
theorem pd0_1 : parseMethodDescriptor "()V" = some ⟨[], none⟩ := by decide +kernel
theorem pd0_2 : parseMethodDescriptor "(I)Lcom/example/dolqa/dolqa/data/UnaryRelation$Builder;" = some ⟨[.int], some (.object "com/example/dolqa/dolqa/data/UnaryRelation$Builder")⟩ := by decide +kernel
theorem pd0_3 : parseMethodDescriptor "()Lcom/example/dolqa/dolqa/data/UnaryRelation;" = some ⟨[], some (.object "com/example/dolqa/dolqa/data/UnaryRelation")⟩ := by decide +kernel
theorem pd0_4 : parseMethodDescriptor "([I)V" = some ⟨[(.array .int)], none⟩ := by decide +kernel
theorem pd0_5 : parseMethodDescriptor "(Ljava/lang/Object;)Z" = some ⟨[(.object "java/lang/Object")], some .boolean⟩ := by decide +kernel
theorem pd0_6 : parseMethodDescriptor "(Ljava/util/List;)Lcom/example/dolqa/dolqa/data/UnaryRelation;" = some ⟨[(.object "java/util/List")], some (.object "com/example/dolqa/dolqa/data/UnaryRelation")⟩ := by decide +kernel
theorem pd0_7 : parseMethodDescriptor "()I" = some ⟨[], some .int⟩ := by decide +kernel
theorem pd0_8 : parseMethodDescriptor "(I)I" = some ⟨[.int], some .int⟩ := by decide +kernel
theorem ef0 (m : MethodId) (p0 : Int32) (p1 : Int32) (p2 : Int32) (p3 : Int32) (p4 : Int32) (p5 : Int32) : entryFrame m #[(.int p0), (.int p1), (.int p2), (.int p3), (.int p4), (.int p5)] maxLocals = mkF m 0 #[.val (.int p0), .val (.int p1), .val (.int p2), .val (.int p3), .val (.int p4), .val (.int p5), .unset, .unset, .unset, .unset, .unset, .unset, .unset, .unset, .unset, .unset, .unset, .unset, .unset, .unset, .unset, .unset, .unset, .unset, .unset, .unset] [] := by first | (simp [entryFrame, mkF, argsToLocals, Value.category, maxLocals]; done) | rfl
def j7 (p0 : Int32) (p1 : Int32) (p2 : Int32) (p3 : Int32) (p4 : Int32) (p5 : Int32) : Int32 := (if (p5 &&& (1 : Int32)) = (0 : Int32) then p1 else (((f_min p0 (2147483632 : Int32)) - (1 : Int32)) + (own_irem (p3 &&& (255 : Int32)) (18 : Int32))))
def j8a (p0 : Int32) (p1 : Int32) (p2 : Int32) (p3 : Int32) (p4 : Int32) (p5 : Int32) : Int32 := (if (p5 &&& (2 : Int32)) = (0 : Int32) then p2 else (((f_min p0 (2147483632 : Int32)) - (1 : Int32)) + (own_irem (((p3.toUInt32 >>> ((8 : Int32) &&& 31).toUInt32).toInt32) &&& (255 : Int32)) (18 : Int32))))
def j8 (p0 : Int32) (p1 : Int32) (p2 : Int32) (p3 : Int32) (p4 : Int32) (p5 : Int32) : Int32 := (if (p5 &&& (8 : Int32)) = (0 : Int32) then (j8a p0 p1 p2 p3 p4 p5) else (j7 p0 p1 p2 p3 p4 p5))
def j16 (p0 : Int32) (p1 : Int32) (p2 : Int32) (p3 : Int32) (p4 : Int32) (p5 : Int32) : Int32 := (if (j7 p0 p1 p2 p3 p4 p5) = (j8 p0 p1 p2 p3 p4 p5) then (0 : Int32) else (1 : Int32))
def j18 (p0 : Int32) (p1 : Int32) (p2 : Int32) (p3 : Int32) (p4 : Int32) (p5 : Int32) : Int32 := (if (f_min (j7 p0 p1 p2 p3 p4 p5) (j8 p0 p1 p2 p3 p4 p5)) < (f_min p0 (2147483632 : Int32)) then (1 : Int32) else (if ((f_min p0 (2147483632 : Int32)) + (15 : Int32)) < (f_min (j7 p0 p1 p2 p3 p4 p5) (j8 p0 p1 p2 p3 p4 p5)) then (1 : Int32) else (0 : Int32)))
def j19 (p0 : Int32) (p1 : Int32) (p2 : Int32) (p3 : Int32) (p4 : Int32) (p5 : Int32) : Int32 := (if (j16 p0 p1 p2 p3 p4 p5) = (0 : Int32) then (0 : Int32) else (if (f_max (j7 p0 p1 p2 p3 p4 p5) (j8 p0 p1 p2 p3 p4 p5)) < (f_min p0 (2147483632 : Int32)) then (1 : Int32) else (if ((f_min p0 (2147483632 : Int32)) + (15 : Int32)) < (f_max (j7 p0 p1 p2 p3 p4 p5) (j8 p0 p1 p2 p3 p4 p5)) then (1 : Int32) else (0 : Int32))))
def jb1 (p0 : Int32) (p1 : Int32) (p2 : Int32) (p3 : Int32) (p4 : Int32) (p5 : Int32) : Int32 := (if (j18 p0 p1 p2 p3 p4 p5) = (0 : Int32) then (0 : Int32) else (if (f_min (j7 p0 p1 p2 p3 p4 p5) (j8 p0 p1 p2 p3 p4 p5)) < (f_min p0 (2147483632 : Int32)) then (1 : Int32) else (0 : Int32)))
def jb2 (p0 : Int32) (p1 : Int32) (p2 : Int32) (p3 : Int32) (p4 : Int32) (p5 : Int32) : Int32 := (if (j19 p0 p1 p2 p3 p4 p5) = (0 : Int32) then (0 : Int32) else (if (f_max (j7 p0 p1 p2 p3 p4 p5) (j8 p0 p1 p2 p3 p4 p5)) < (f_min p0 (2147483632 : Int32)) then (1 : Int32) else (0 : Int32)))
def ja1 (p0 : Int32) (p1 : Int32) (p2 : Int32) (p3 : Int32) (p4 : Int32) (p5 : Int32) : Int32 := (if (j18 p0 p1 p2 p3 p4 p5) = (0 : Int32) then (0 : Int32) else (if ((f_min p0 (2147483632 : Int32)) + (15 : Int32)) < (f_min (j7 p0 p1 p2 p3 p4 p5) (j8 p0 p1 p2 p3 p4 p5)) then (1 : Int32) else (0 : Int32)))
def ja2 (p0 : Int32) (p1 : Int32) (p2 : Int32) (p3 : Int32) (p4 : Int32) (p5 : Int32) : Int32 := (if (j19 p0 p1 p2 p3 p4 p5) = (0 : Int32) then (0 : Int32) else (if ((f_min p0 (2147483632 : Int32)) + (15 : Int32)) < (f_max (j7 p0 p1 p2 p3 p4 p5) (j8 p0 p1 p2 p3 p4 p5)) then (1 : Int32) else (0 : Int32)))
def je1 (p0 : Int32) (p1 : Int32) (p2 : Int32) (p3 : Int32) (p4 : Int32) (p5 : Int32) : Int32 := (if (own_irem (p4 &&& (2147483647 : Int32)) ((((jb1 p0 p1 p2 p3 p4 p5) + (jb2 p0 p1 p2 p3 p4 p5)) + (16 : Int32)) + ((ja1 p0 p1 p2 p3 p4 p5) + (ja2 p0 p1 p2 p3 p4 p5)))) = (0 : Int32) then (f_min (j7 p0 p1 p2 p3 p4 p5) (j8 p0 p1 p2 p3 p4 p5)) else (f_max (j7 p0 p1 p2 p3 p4 p5) (j8 p0 p1 p2 p3 p4 p5)))
def je3 (p0 : Int32) (p1 : Int32) (p2 : Int32) (p3 : Int32) (p4 : Int32) (p5 : Int32) : Int32 := (if (((own_irem (p4 &&& (2147483647 : Int32)) ((((jb1 p0 p1 p2 p3 p4 p5) + (jb2 p0 p1 p2 p3 p4 p5)) + (16 : Int32)) + ((ja1 p0 p1 p2 p3 p4 p5) + (ja2 p0 p1 p2 p3 p4 p5)))) - ((jb1 p0 p1 p2 p3 p4 p5) + (jb2 p0 p1 p2 p3 p4 p5))) - (16 : Int32)) = (0 : Int32) then (if (j18 p0 p1 p2 p3 p4 p5) = (0 : Int32) then (f_max (j7 p0 p1 p2 p3 p4 p5) (j8 p0 p1 p2 p3 p4 p5)) else (if ((f_min p0 (2147483632 : Int32)) + (15 : Int32)) < (f_min (j7 p0 p1 p2 p3 p4 p5) (j8 p0 p1 p2 p3 p4 p5)) then (f_min (j7 p0 p1 p2 p3 p4 p5) (j8 p0 p1 p2 p3 p4 p5)) else (f_max (j7 p0 p1 p2 p3 p4 p5) (j8 p0 p1 p2 p3 p4 p5)))) else (f_max (j7 p0 p1 p2 p3 p4 p5) (j8 p0 p1 p2 p3 p4 p5)))
theorem own_nb (p0 p1 p2 p3 p4 p5 : Int32) : ((jb1 p0 p1 p2 p3 p4 p5) + (jb2 p0 p1 p2 p3 p4 p5)) = Int32.ofNat (own_bl (f_min p0 (2147483632 : Int32)) (j7 p0 p1 p2 p3 p4 p5) (j8 p0 p1 p2 p3 p4 p5)).length := by
  obtain ⟨h1, h2, h3⟩ := own_lo (j7 p0 p1 p2 p3 p4 p5) (j8 p0 p1 p2 p3 p4 p5)
  have hb := own_b15 (own_bot (p0 := p0))
  rw [jb1, jb2, own_bl]
  rcases Classical.em ((j7 p0 p1 p2 p3 p4 p5) = (j8 p0 p1 p2 p3 p4 p5)) with c3 | c3
  · have c3' := eq_true c3
    by_cases c1 : f_min (j7 p0 p1 p2 p3 p4 p5) (j8 p0 p1 p2 p3 p4 p5) < (f_min p0 (2147483632 : Int32)) <;> by_cases c4 : f_max (j7 p0 p1 p2 p3 p4 p5) (j8 p0 p1 p2 p3 p4 p5) < (f_min p0 (2147483632 : Int32)) <;> by_cases c2 : (f_min p0 (2147483632 : Int32)) + 15 < f_min (j7 p0 p1 p2 p3 p4 p5) (j8 p0 p1 p2 p3 p4 p5) <;> by_cases c5 : (f_min p0 (2147483632 : Int32)) + 15 < f_max (j7 p0 p1 p2 p3 p4 p5) (j8 p0 p1 p2 p3 p4 p5) <;> simp only [j18, j19, j16, c1, c2, c3', c4, c5, if_true, if_false, not_true, not_false_eq_true, true_and, false_and, and_true, and_false] <;> first | rfl | decide | (exfalso; simp only [h3, Int32.lt_iff_toInt_lt, hb] at c1 c2 c3 c4 c5; omega)
  · have c3' := eq_false c3
    by_cases c1 : f_min (j7 p0 p1 p2 p3 p4 p5) (j8 p0 p1 p2 p3 p4 p5) < (f_min p0 (2147483632 : Int32)) <;> by_cases c4 : f_max (j7 p0 p1 p2 p3 p4 p5) (j8 p0 p1 p2 p3 p4 p5) < (f_min p0 (2147483632 : Int32)) <;> by_cases c2 : (f_min p0 (2147483632 : Int32)) + 15 < f_min (j7 p0 p1 p2 p3 p4 p5) (j8 p0 p1 p2 p3 p4 p5) <;> by_cases c5 : (f_min p0 (2147483632 : Int32)) + 15 < f_max (j7 p0 p1 p2 p3 p4 p5) (j8 p0 p1 p2 p3 p4 p5) <;> simp only [j18, j19, j16, c1, c2, c3', c4, c5, if_true, if_false, not_true, not_false_eq_true, true_and, false_and, and_true, and_false] <;> first | rfl | decide | (exfalso; simp only [h3, Int32.lt_iff_toInt_lt, hb] at c1 c2 c3 c4 c5; omega)
theorem own_na (p0 p1 p2 p3 p4 p5 : Int32) : ((ja1 p0 p1 p2 p3 p4 p5) + (ja2 p0 p1 p2 p3 p4 p5)) = Int32.ofNat (own_ab (f_min p0 (2147483632 : Int32)) (j7 p0 p1 p2 p3 p4 p5) (j8 p0 p1 p2 p3 p4 p5)).length := by
  obtain ⟨h1, h2, h3⟩ := own_lo (j7 p0 p1 p2 p3 p4 p5) (j8 p0 p1 p2 p3 p4 p5)
  have hb := own_b15 (own_bot (p0 := p0))
  rw [ja1, ja2, own_ab]
  rcases Classical.em ((j7 p0 p1 p2 p3 p4 p5) = (j8 p0 p1 p2 p3 p4 p5)) with c3 | c3
  · have c3' := eq_true c3
    by_cases c1 : f_min (j7 p0 p1 p2 p3 p4 p5) (j8 p0 p1 p2 p3 p4 p5) < (f_min p0 (2147483632 : Int32)) <;> by_cases c4 : f_max (j7 p0 p1 p2 p3 p4 p5) (j8 p0 p1 p2 p3 p4 p5) < (f_min p0 (2147483632 : Int32)) <;> by_cases c2 : (f_min p0 (2147483632 : Int32)) + 15 < f_min (j7 p0 p1 p2 p3 p4 p5) (j8 p0 p1 p2 p3 p4 p5) <;> by_cases c5 : (f_min p0 (2147483632 : Int32)) + 15 < f_max (j7 p0 p1 p2 p3 p4 p5) (j8 p0 p1 p2 p3 p4 p5) <;> simp only [j18, j19, j16, c1, c2, c3', c4, c5, if_true, if_false, not_true, not_false_eq_true, true_and, false_and, and_true, and_false] <;> first | rfl | decide | (exfalso; simp only [h3, Int32.lt_iff_toInt_lt, hb] at c1 c2 c3 c4 c5; omega)
  · have c3' := eq_false c3
    by_cases c1 : f_min (j7 p0 p1 p2 p3 p4 p5) (j8 p0 p1 p2 p3 p4 p5) < (f_min p0 (2147483632 : Int32)) <;> by_cases c4 : f_max (j7 p0 p1 p2 p3 p4 p5) (j8 p0 p1 p2 p3 p4 p5) < (f_min p0 (2147483632 : Int32)) <;> by_cases c2 : (f_min p0 (2147483632 : Int32)) + 15 < f_min (j7 p0 p1 p2 p3 p4 p5) (j8 p0 p1 p2 p3 p4 p5) <;> by_cases c5 : (f_min p0 (2147483632 : Int32)) + 15 < f_max (j7 p0 p1 p2 p3 p4 p5) (j8 p0 p1 p2 p3 p4 p5) <;> simp only [j18, j19, j16, c1, c2, c3', c4, c5, if_true, if_false, not_true, not_false_eq_true, true_and, false_and, and_true, and_false] <;> first | rfl | decide | (exfalso; simp only [h3, Int32.lt_iff_toInt_lt, hb] at c1 c2 c3 c4 c5; omega)
theorem own_bl2 (b x y : Int32) : (own_bl b x y).length ≤ 2 := by rw [own_bl]; split <;> (try split) <;> simp
theorem own_ab2 (b x y : Int32) : (own_ab b x y).length ≤ 2 := by rw [own_ab]; split <;> (try split) <;> simp
theorem own_len (b x y : Int32) : (own_exp b x y).length = (own_bl b x y).length + 16 + (own_ab b x y).length := by
  rw [own_exp, List.length_append, List.length_append, Nat.add_assoc]; rfl
theorem own_N (p0 p1 p2 p3 p4 p5 : Int32) : ((((jb1 p0 p1 p2 p3 p4 p5) + (jb2 p0 p1 p2 p3 p4 p5)) + (16 : Int32)) + ((ja1 p0 p1 p2 p3 p4 p5) + (ja2 p0 p1 p2 p3 p4 p5))) = Int32.ofNat (own_exp (f_min p0 (2147483632 : Int32)) (j7 p0 p1 p2 p3 p4 p5) (j8 p0 p1 p2 p3 p4 p5)).length := by
  rw [own_nb, own_na, own_len, Int32.ofNat_add, Int32.ofNat_add]; rfl
theorem own_hn (p0 p1 p2 p3 p4 p5 : Int32) : Int32.ofNat (own_exp (f_min p0 (2147483632 : Int32)) (j7 p0 p1 p2 p3 p4 p5) (j8 p0 p1 p2 p3 p4 p5)).length = ((((jb1 p0 p1 p2 p3 p4 p5) + (jb2 p0 p1 p2 p3 p4 p5)) + (16 : Int32)) + ((ja1 p0 p1 p2 p3 p4 p5) + (ja2 p0 p1 p2 p3 p4 p5))) := (own_N p0 p1 p2 p3 p4 p5).symm
theorem own_nz (p0 p1 p2 p3 p4 p5 : Int32) : ((((jb1 p0 p1 p2 p3 p4 p5) + (jb2 p0 p1 p2 p3 p4 p5)) + (16 : Int32)) + ((ja1 p0 p1 p2 p3 p4 p5) + (ja2 p0 p1 p2 p3 p4 p5))) ≠ 0 := by
  rw [own_N]
  have h1 := own_bl2 (f_min p0 (2147483632 : Int32)) (j7 p0 p1 p2 p3 p4 p5) (j8 p0 p1 p2 p3 p4 p5)
  have h2 := own_ab2 (f_min p0 (2147483632 : Int32)) (j7 p0 p1 p2 p3 p4 p5) (j8 p0 p1 p2 p3 p4 p5)
  rw [own_len]
  intro q
  have := own_eq0 (by omega) q
  omega
def own_J (p0 p1 p2 p3 p4 p5 : Int32) : Nat := (own_irem (p4 &&& (2147483647 : Int32)) ((((jb1 p0 p1 p2 p3 p4 p5) + (jb2 p0 p1 p2 p3 p4 p5)) + (16 : Int32)) + ((ja1 p0 p1 p2 p3 p4 p5) + (ja2 p0 p1 p2 p3 p4 p5)))).toInt.toNat
theorem own_rr (p0 p1 p2 p3 p4 p5 : Int32) : 0 ≤ (own_irem (p4 &&& (2147483647 : Int32)) ((((jb1 p0 p1 p2 p3 p4 p5) + (jb2 p0 p1 p2 p3 p4 p5)) + (16 : Int32)) + ((ja1 p0 p1 p2 p3 p4 p5) + (ja2 p0 p1 p2 p3 p4 p5)))).toInt ∧ (own_irem (p4 &&& (2147483647 : Int32)) ((((jb1 p0 p1 p2 p3 p4 p5) + (jb2 p0 p1 p2 p3 p4 p5)) + (16 : Int32)) + ((ja1 p0 p1 p2 p3 p4 p5) + (ja2 p0 p1 p2 p3 p4 p5)))).toInt < (own_exp (f_min p0 (2147483632 : Int32)) (j7 p0 p1 p2 p3 p4 p5) (j8 p0 p1 p2 p3 p4 p5)).length := by
  have h1 := own_bl2 (f_min p0 (2147483632 : Int32)) (j7 p0 p1 p2 p3 p4 p5) (j8 p0 p1 p2 p3 p4 p5)
  have h2 := own_ab2 (f_min p0 (2147483632 : Int32)) (j7 p0 p1 p2 p3 p4 p5) (j8 p0 p1 p2 p3 p4 p5)
  have h3 := own_len (f_min p0 (2147483632 : Int32)) (j7 p0 p1 p2 p3 p4 p5) (j8 p0 p1 p2 p3 p4 p5)
  have h4 := (c_and p4 2147483647 (by decide)).1
  have h5 : ((((jb1 p0 p1 p2 p3 p4 p5) + (jb2 p0 p1 p2 p3 p4 p5)) + (16 : Int32)) + ((ja1 p0 p1 p2 p3 p4 p5) + (ja2 p0 p1 p2 p3 p4 p5))).toInt = (own_exp (f_min p0 (2147483632 : Int32)) (j7 p0 p1 p2 p3 p4 p5) (j8 p0 p1 p2 p3 p4 p5)).length := by rw [own_N, Int32.toInt_ofNat_small (by omega)]
  have h6 := ((c_iremV (p4 &&& 2147483647) ((((jb1 p0 p1 p2 p3 p4 p5) + (jb2 p0 p1 p2 p3 p4 p5)) + (16 : Int32)) + ((ja1 p0 p1 p2 p3 p4 p5) + (ja2 p0 p1 p2 p3 p4 p5)))).1 h4 (by omega))
  have h7 : (own_irem (p4 &&& (2147483647 : Int32)) ((((jb1 p0 p1 p2 p3 p4 p5) + (jb2 p0 p1 p2 p3 p4 p5)) + (16 : Int32)) + ((ja1 p0 p1 p2 p3 p4 p5) + (ja2 p0 p1 p2 p3 p4 p5)))) = (p4 &&& 2147483647) % ((((jb1 p0 p1 p2 p3 p4 p5) + (jb2 p0 p1 p2 p3 p4 p5)) + (16 : Int32)) + ((ja1 p0 p1 p2 p3 p4 p5) + (ja2 p0 p1 p2 p3 p4 p5))) := Jvm.irem_eq_mod _ _
  rw [h7]
  omega
theorem own_Jlt (p0 p1 p2 p3 p4 p5 : Int32) : own_J p0 p1 p2 p3 p4 p5 < (own_exp (f_min p0 (2147483632 : Int32)) (j7 p0 p1 p2 p3 p4 p5) (j8 p0 p1 p2 p3 p4 p5)).length := by
  have := own_rr p0 p1 p2 p3 p4 p5
  rw [own_J]; omega
theorem own_JR (p0 p1 p2 p3 p4 p5 : Int32) : (own_irem (p4 &&& (2147483647 : Int32)) ((((jb1 p0 p1 p2 p3 p4 p5) + (jb2 p0 p1 p2 p3 p4 p5)) + (16 : Int32)) + ((ja1 p0 p1 p2 p3 p4 p5) + (ja2 p0 p1 p2 p3 p4 p5)))) = Int32.ofNat (own_J p0 p1 p2 p3 p4 p5) := by
  have h := own_rr p0 p1 p2 p3 p4 p5
  have h1 := own_bl2 (f_min p0 (2147483632 : Int32)) (j7 p0 p1 p2 p3 p4 p5) (j8 p0 p1 p2 p3 p4 p5)
  have h2 := own_ab2 (f_min p0 (2147483632 : Int32)) (j7 p0 p1 p2 p3 p4 p5) (j8 p0 p1 p2 p3 p4 p5)
  have h3 := own_len (f_min p0 (2147483632 : Int32)) (j7 p0 p1 p2 p3 p4 p5) (j8 p0 p1 p2 p3 p4 p5)
  rw [← Int32.toInt_inj, own_J, Int32.toInt_ofNat_small (by omega)]
  omega
theorem own_at1 (p0 p1 p2 p3 p4 p5 : Int32) (h : (own_irem (p4 &&& (2147483647 : Int32)) ((((jb1 p0 p1 p2 p3 p4 p5) + (jb2 p0 p1 p2 p3 p4 p5)) + (16 : Int32)) + ((ja1 p0 p1 p2 p3 p4 p5) + (ja2 p0 p1 p2 p3 p4 p5)))) < ((jb1 p0 p1 p2 p3 p4 p5) + (jb2 p0 p1 p2 p3 p4 p5))) : (own_exp (f_min p0 (2147483632 : Int32)) (j7 p0 p1 p2 p3 p4 p5) (j8 p0 p1 p2 p3 p4 p5)).getD (own_J p0 p1 p2 p3 p4 p5) 0 = (je1 p0 p1 p2 p3 p4 p5) := by
  have h1 := own_bl2 (f_min p0 (2147483632 : Int32)) (j7 p0 p1 p2 p3 p4 p5) (j8 p0 p1 p2 p3 p4 p5)
  have h2 := own_ab2 (f_min p0 (2147483632 : Int32)) (j7 p0 p1 p2 p3 p4 p5) (j8 p0 p1 p2 p3 p4 p5)
  have h3 := own_len (f_min p0 (2147483632 : Int32)) (j7 p0 p1 p2 p3 p4 p5) (j8 p0 p1 p2 p3 p4 p5)
  have hJ := own_Jlt p0 p1 p2 p3 p4 p5
  rw [je1]
  rw [own_JR, own_nb, Int32.lt_iff_toInt_lt, Int32.toInt_ofNat_small (by omega), Int32.toInt_ofNat_small (by omega)] at h
  rw [own_JR]
  generalize own_J p0 p1 p2 p3 p4 p5 = J at *
  rw [own_exp, List.getD_eq_getElem?_getD, List.getElem?_append_left (by omega)]
  rw [own_bl] at h ⊢
  by_cases c1 : f_min (j7 p0 p1 p2 p3 p4 p5) (j8 p0 p1 p2 p3 p4 p5) < (f_min p0 (2147483632 : Int32))
  · rw [if_pos c1] at h ⊢
    by_cases c2 : ¬ (j7 p0 p1 p2 p3 p4 p5) = (j8 p0 p1 p2 p3 p4 p5) ∧ f_max (j7 p0 p1 p2 p3 p4 p5) (j8 p0 p1 p2 p3 p4 p5) < (f_min p0 (2147483632 : Int32))
    · rw [if_pos c2] at h ⊢
      match J, h with
      | 0, _ => rfl
      | 1, _ => rfl
      | n + 2, h => exact absurd h (by first | (simp; done) | (simp; omega))
    · rw [if_neg c2] at h ⊢
      match J, h with
      | 0, _ => rfl
      | n + 1, h => exact absurd h (by first | (simp; done) | (simp; omega))
  · rw [if_neg c1] at h
    exact absurd h (by first | (simp; done) | (simp; omega))
theorem own_osub {a b : Nat} (h : b ≤ a) : Int32.ofNat a - Int32.ofNat b = Int32.ofNat (a - b) := by
  obtain ⟨c, rfl⟩ : ∃ c, a = c + b := ⟨a - b, by omega⟩
  rw [Int32.ofNat_add, Nat.add_sub_cancel]
  exact Int32.add_sub_cancel _ _
theorem own_at2 (p0 p1 p2 p3 p4 p5 : Int32) (h : ¬ (own_irem (p4 &&& (2147483647 : Int32)) ((((jb1 p0 p1 p2 p3 p4 p5) + (jb2 p0 p1 p2 p3 p4 p5)) + (16 : Int32)) + ((ja1 p0 p1 p2 p3 p4 p5) + (ja2 p0 p1 p2 p3 p4 p5)))) < ((jb1 p0 p1 p2 p3 p4 p5) + (jb2 p0 p1 p2 p3 p4 p5))) (h' : (own_irem (p4 &&& (2147483647 : Int32)) ((((jb1 p0 p1 p2 p3 p4 p5) + (jb2 p0 p1 p2 p3 p4 p5)) + (16 : Int32)) + ((ja1 p0 p1 p2 p3 p4 p5) + (ja2 p0 p1 p2 p3 p4 p5)))) < (((jb1 p0 p1 p2 p3 p4 p5) + (jb2 p0 p1 p2 p3 p4 p5)) + (16 : Int32))) : (own_exp (f_min p0 (2147483632 : Int32)) (j7 p0 p1 p2 p3 p4 p5) (j8 p0 p1 p2 p3 p4 p5)).getD (own_J p0 p1 p2 p3 p4 p5) 0 = ((f_min p0 (2147483632 : Int32)) + ((own_irem (p4 &&& (2147483647 : Int32)) ((((jb1 p0 p1 p2 p3 p4 p5) + (jb2 p0 p1 p2 p3 p4 p5)) + (16 : Int32)) + ((ja1 p0 p1 p2 p3 p4 p5) + (ja2 p0 p1 p2 p3 p4 p5)))) - ((jb1 p0 p1 p2 p3 p4 p5) + (jb2 p0 p1 p2 p3 p4 p5)))) := by
  have h1 := own_bl2 (f_min p0 (2147483632 : Int32)) (j7 p0 p1 p2 p3 p4 p5) (j8 p0 p1 p2 p3 p4 p5)
  have h2 := own_ab2 (f_min p0 (2147483632 : Int32)) (j7 p0 p1 p2 p3 p4 p5) (j8 p0 p1 p2 p3 p4 p5)
  have h3 := own_len (f_min p0 (2147483632 : Int32)) (j7 p0 p1 p2 p3 p4 p5) (j8 p0 p1 p2 p3 p4 p5)
  have hJ := own_Jlt p0 p1 p2 p3 p4 p5
  have e16 : ((jb1 p0 p1 p2 p3 p4 p5) + (jb2 p0 p1 p2 p3 p4 p5)) + (16 : Int32) = Int32.ofNat ((own_bl (f_min p0 (2147483632 : Int32)) (j7 p0 p1 p2 p3 p4 p5) (j8 p0 p1 p2 p3 p4 p5)).length + 16) := by rw [own_nb, Int32.ofNat_add]; rfl
  rw [own_JR, e16, Int32.lt_iff_toInt_lt, Int32.toInt_ofNat_small (by omega), Int32.toInt_ofNat_small (by omega)] at h'
  rw [own_JR, own_nb, Int32.lt_iff_toInt_lt, Int32.toInt_ofNat_small (by omega), Int32.toInt_ofNat_small (by omega)] at h
  rw [own_JR, own_nb, own_osub (by omega)]
  generalize own_J p0 p1 p2 p3 p4 p5 = J at *
  rw [own_exp, List.getD_eq_getElem?_getD, List.getElem?_append_right (by omega), List.getElem?_append_left (by show _ < 16; omega), own_r_eq, List.getElem?_map, List.getElem?_range (by omega)]
  rfl
theorem own_at3 (p0 p1 p2 p3 p4 p5 : Int32) (h : ¬ (own_irem (p4 &&& (2147483647 : Int32)) ((((jb1 p0 p1 p2 p3 p4 p5) + (jb2 p0 p1 p2 p3 p4 p5)) + (16 : Int32)) + ((ja1 p0 p1 p2 p3 p4 p5) + (ja2 p0 p1 p2 p3 p4 p5)))) < ((jb1 p0 p1 p2 p3 p4 p5) + (jb2 p0 p1 p2 p3 p4 p5))) (h' : ¬ (own_irem (p4 &&& (2147483647 : Int32)) ((((jb1 p0 p1 p2 p3 p4 p5) + (jb2 p0 p1 p2 p3 p4 p5)) + (16 : Int32)) + ((ja1 p0 p1 p2 p3 p4 p5) + (ja2 p0 p1 p2 p3 p4 p5)))) < (((jb1 p0 p1 p2 p3 p4 p5) + (jb2 p0 p1 p2 p3 p4 p5)) + (16 : Int32))) : (own_exp (f_min p0 (2147483632 : Int32)) (j7 p0 p1 p2 p3 p4 p5) (j8 p0 p1 p2 p3 p4 p5)).getD (own_J p0 p1 p2 p3 p4 p5) 0 = (je3 p0 p1 p2 p3 p4 p5) := by
  have h1 := own_bl2 (f_min p0 (2147483632 : Int32)) (j7 p0 p1 p2 p3 p4 p5) (j8 p0 p1 p2 p3 p4 p5)
  have h2 := own_ab2 (f_min p0 (2147483632 : Int32)) (j7 p0 p1 p2 p3 p4 p5) (j8 p0 p1 p2 p3 p4 p5)
  have h3 := own_len (f_min p0 (2147483632 : Int32)) (j7 p0 p1 p2 p3 p4 p5) (j8 p0 p1 p2 p3 p4 p5)
  have hJ := own_Jlt p0 p1 p2 p3 p4 p5
  have e16 : ((jb1 p0 p1 p2 p3 p4 p5) + (jb2 p0 p1 p2 p3 p4 p5)) + (16 : Int32) = Int32.ofNat ((own_bl (f_min p0 (2147483632 : Int32)) (j7 p0 p1 p2 p3 p4 p5) (j8 p0 p1 p2 p3 p4 p5)).length + 16) := by rw [own_nb, Int32.ofNat_add]; rfl
  rw [own_JR, e16, Int32.lt_iff_toInt_lt, Int32.toInt_ofNat_small (by omega), Int32.toInt_ofNat_small (by omega)] at h'
  have e3 : ((own_irem (p4 &&& (2147483647 : Int32)) ((((jb1 p0 p1 p2 p3 p4 p5) + (jb2 p0 p1 p2 p3 p4 p5)) + (16 : Int32)) + ((ja1 p0 p1 p2 p3 p4 p5) + (ja2 p0 p1 p2 p3 p4 p5)))) - ((jb1 p0 p1 p2 p3 p4 p5) + (jb2 p0 p1 p2 p3 p4 p5))) - (16 : Int32) = Int32.ofNat (own_J p0 p1 p2 p3 p4 p5 - (own_bl (f_min p0 (2147483632 : Int32)) (j7 p0 p1 p2 p3 p4 p5) (j8 p0 p1 p2 p3 p4 p5)).length - 16) := by
    rw [own_JR, own_nb, own_osub (by omega), show (16 : Int32) = Int32.ofNat 16 from rfl, own_osub (by omega)]
  rw [je3, e3]
  obtain ⟨o1, o2, o3⟩ := own_lo (j7 p0 p1 p2 p3 p4 p5) (j8 p0 p1 p2 p3 p4 p5)
  have hb := own_b15 (own_bot (p0 := p0))
  generalize own_J p0 p1 p2 p3 p4 p5 = J at *
  rw [own_exp, List.getD_eq_getElem?_getD, List.getElem?_append_right (by omega), List.getElem?_append_right (by show 16 ≤ _; omega), show (own_r (f_min p0 (2147483632 : Int32))).length = 16 from rfl]
  have hJ' : J - (own_bl (f_min p0 (2147483632 : Int32)) (j7 p0 p1 p2 p3 p4 p5) (j8 p0 p1 p2 p3 p4 p5)).length - 16 < (own_ab (f_min p0 (2147483632 : Int32)) (j7 p0 p1 p2 p3 p4 p5) (j8 p0 p1 p2 p3 p4 p5)).length := by omega
  generalize J - (own_bl (f_min p0 (2147483632 : Int32)) (j7 p0 p1 p2 p3 p4 p5) (j8 p0 p1 p2 p3 p4 p5)).length - 16 = q at *
  rw [own_ab] at hJ' ⊢
  by_cases c5 : (f_min p0 (2147483632 : Int32)) + 15 < f_max (j7 p0 p1 p2 p3 p4 p5) (j8 p0 p1 p2 p3 p4 p5)
  · rw [if_pos c5] at hJ' ⊢
    by_cases c2 : ¬ (j7 p0 p1 p2 p3 p4 p5) = (j8 p0 p1 p2 p3 p4 p5) ∧ (f_min p0 (2147483632 : Int32)) + 15 < f_min (j7 p0 p1 p2 p3 p4 p5) (j8 p0 p1 p2 p3 p4 p5)
    · rw [if_pos c2] at hJ' ⊢
      have c1 : ¬ f_min (j7 p0 p1 p2 p3 p4 p5) (j8 p0 p1 p2 p3 p4 p5) < (f_min p0 (2147483632 : Int32)) := by have := c2.2; simp only [Int32.lt_iff_toInt_lt, hb] at *; omega
      match q, hJ' with
      | 0, _ =>
        rw [if_pos (show Int32.ofNat 0 = 0 from rfl), j18, if_neg c1, if_pos c2.2, if_neg (by decide), if_pos c2.2]
        rfl
      | 1, _ => rw [if_neg (by decide)]; rfl
      | n + 2, h => exact absurd h (by first | (simp; done) | (simp; omega))
    · rw [if_neg c2] at hJ' ⊢
      match q, hJ' with
      | 0, _ =>
        rw [if_pos (show Int32.ofNat 0 = 0 from rfl)]
        by_cases c3 : (j7 p0 p1 p2 p3 p4 p5) = (j8 p0 p1 p2 p3 p4 p5)
        · have hh : f_min (j7 p0 p1 p2 p3 p4 p5) (j8 p0 p1 p2 p3 p4 p5) = f_max (j7 p0 p1 p2 p3 p4 p5) (j8 p0 p1 p2 p3 p4 p5) := Int32.toInt_inj.mp (o3.mp c3)
          rw [hh]
          split
          · rfl
          · first | rfl | (split <;> rfl)
        · have c2' : ¬ (f_min p0 (2147483632 : Int32)) + 15 < f_min (j7 p0 p1 p2 p3 p4 p5) (j8 p0 p1 p2 p3 p4 p5) := fun w => c2 ⟨c3, w⟩
          rw [if_neg c2']
          split <;> rfl
      | n + 1, h => exact absurd h (by first | (simp; done) | (simp; omega))
  · rw [if_neg c5] at hJ'
    exact absurd hJ' (by first | (simp; done) | (simp; omega))
def Q0 (Z : State) (p0 p1 p2 p3 p4 p5 : Int32) (h0 : Heap) (n0 : Nat) (v : Option Value) (h : Heap) (L : List Loc) : Prop := v = some (.int 1) ∧ Fr n0 L
set_option maxRecDepth 65536 in
set_option maxHeartbeats 40000000 in
theorem rm0 (l : Launch) (Z : State) (a0 : Array Value) (hw : ∀ d ∈ tables_1, d.before a0 Z = true) (ws : List Jvm.Cond) (p0 : Int32) (p1 : Int32) (p2 : Int32) (p3 : Int32) (p4 : Int32) (p5 : Int32) (d0 : Addr) (k0 : ClassId) (h0 : Heap) (n0 : Nat) (Z0 : n0 ≤ h0.size) (O_0 : Old Z n0 h0) (S_d : Sta Z Z.heap "java/util/ArrayList" "DEFAULTCAPACITY_EMPTY_ELEMENTDATA" "[Ljava/lang/Object;" (.ref d0)) (V_d : Arv Z Z.heap d0 k0 (.object "java/lang/Object") 0 [] .null) :
    MetFree l x (head1 (Jvm.Cond.code x code maxLocals ret :: ws) room_1) (fun a U => a = #[(.int p0), (.int p1), (.int p2), (.int p3), (.int p4), (.int p5)] ∧ Z.Warmed39 U.vm ∧ U.heap = h0) (fun _ _ _ _ _ => True) (fun _ U o U' => ∃ v L, o = .returned v ∧ Q0 Z p0 p1 p2 p3 p4 p5 h0 n0 v U'.heap L ∧ FrameEnd U o U' L room_1.cells room_1.slots) := by
  refine MetFree.of_bodySF (plainFor_of_name pn0) hisR ?_
  intro p e s m args below meth c s₁ Bd hml0 hP hK
  obtain ⟨rfl, hZ, hh⟩ := hP
  have hx := Bd.exec
  have hby := Bd.bytes
  have hml : c.maxLocals = 26 := hml0
  have hown : s.vm.findClass "com/example/dolqa/dolqa/data/BuilderAddPinLaw" = some m.cls := findClass_of_methodNamed Bd.named
  have hnm := (name_of_methodNamed Bd.named Bd.method).1
  have X0 : Stand p l e room_1 s m #[(.int p0), (.int p1), (.int p2), (.int p3), (.int p4), (.int p5)] below meth c s₁ [] 0 0 := Stand.of_body Bd
  have e0 : s₁.heap = h0 := by rw [← hh, Bd.state]; rfl
  have N0 := Fr.nil n0
  refine own_fw (A := s₁.setTop (mkF m 0 #[.val (.int p0), .val (.int p1), .val (.int p2), .val (.int p3), .val (.int p4), .val (.int p5), .unset, .unset, .unset, .unset, .unset, .unset, .unset, .unset, .unset, .unset, .unset, .unset, .unset, .unset, .unset, .unset, .unset, .unset, .unset, .unset] [])) (fun t k => castTop (ef0 m p0 p1 p2 p3 p4 p5) k) ?_
  refine own_fw (A := s₁.setTop (mkF m 3 #[.val (.int p0), .val (.int p1), .val (.int p2), .val (.int p3), .val (.int p4), .val (.int p5), .unset, .unset, .unset, .unset, .unset, .unset, .unset, .unset, .unset, .unset, .unset, .unset, .unset, .unset, .unset, .unset, .unset, .unset, .unset, .unset] [(.int (2147483632 : Int32)), (.int p0)])) (fun t k => ?_) ?_
  · refine ox_iloadN X0.here hx (hb hby at_0) rfl ?_
    show Steps p.tables e below (s₁.setTop (mkF m 1 #[.val (.int p0), .val (.int p1), .val (.int p2), .val (.int p3), .val (.int p4), .val (.int p5), .unset, .unset, .unset, .unset, .unset, .unset, .unset, .unset, .unset, .unset, .unset, .unset, .unset, .unset, .unset, .unset, .unset, .unset, .unset, .unset] [(.int p0)])) t
    refine X0.ldcInt hx hown (mvT hZ (own_w hw 0 rfl)) (g := (mkF m 1 #[.val (.int p0), .val (.int p1), .val (.int p2), .val (.int p3), .val (.int p4), .val (.int p5), .unset, .unset, .unset, .unset, .unset, .unset, .unset, .unset, .unset, .unset, .unset, .unset, .unset, .unset, .unset, .unset, .unset, .unset, .unset, .unset] [(.int p0)])) rfl (hb hby at_1) _ ?_
    exact k
  obtain ⟨_, _, ⟨T0_1, L0_1, k0_1, n0_1⟩, -, X0_1, ⟨Lc0_1, hQ0_1, l0_1, y0_1, z0_1⟩, st0_1⟩ := Jvm.LawKit.callS X0 hx (y := mN11) hown (mvT hZ (own_w hw 1 rfl)) (mvT hZ (own_w hw 2 rfl)) (mvT hZ (own_w hw 3 rfl)) (mvT hZ (own_w hw 4 rfl)) (by decide) (backOf (W := 0) (rm1 l Z a0 hw [] (p0) ((2147483632 : Int32)) h0 n0 Z0 ) hZ (own_w hw 4 rfl) (own_w hw 3 rfl) (by decide) (by decide)) (g := (mkF m 3 #[.val (.int p0), .val (.int p1), .val (.int p2), .val (.int p3), .val (.int p4), .val (.int p5), .unset, .unset, .unset, .unset, .unset, .unset, .unset, .unset, .unset, .unset, .unset, .unset, .unset, .unset, .unset, .unset, .unset, .unset, .unset, .unset] [(.int (2147483632 : Int32)), (.int p0)])) rfl (by rw [hml]; rfl) (argsL := [(.int p0), (.int (2147483632 : Int32))]) (rest := []) (lenOf pd0_0 rfl) rfl (own_mr rfl) (hb hby at_3) (fun _ _ => ⟨rfl, e0, (by decide : 0 + 0 ≤ _), (by decide : 0 + 0 ≤ _)⟩)
  dsimp only [Pt.U, Pt.locs, Pt.cells, Pt.slots] at X0_1 l0_1 y0_1 z0_1 st0_1 hQ0_1
  subst l0_1 y0_1 z0_1
  obtain ⟨rfl, N0_1q, e0_1⟩ := hQ0_1
  have N0_1 := Fr.app N0 N0_1q
  refine own_fw st0_1 ?_
  obtain ⟨Lhd0_2, Xhd0_2, Nhd0_2⟩ := own_hide X0_1 N0_1
  refine own_fw (A := T0_1.setTop (mkF m 8 #[.val (.int p0), .val (.int p1), .val (.int p2), .val (.int p3), .val (.int p4), .val (.int p5), .val (.int (f_min p0 (2147483632 : Int32))), .unset, .unset, .unset, .unset, .unset, .unset, .unset, .unset, .unset, .unset, .unset, .unset, .unset, .unset, .unset, .unset, .unset, .unset, .unset] [])) (fun t k => ?_) ?_
  · refine ox_istore Xhd0_2.here hx (hb hby at_6) rfl (l' := #[.val (.int p0), .val (.int p1), .val (.int p2), .val (.int p3), .val (.int p4), .val (.int p5), .val (.int (f_min p0 (2147483632 : Int32))), .unset, .unset, .unset, .unset, .unset, .unset, .unset, .unset, .unset, .unset, .unset, .unset, .unset, .unset, .unset, .unset, .unset, .unset, .unset]) rfl ?_
    exact k
  have sg0_8 : ∀ t, Steps p.tables e below (T0_1.setTop (mkF m 32 #[.val (.int p0), .val (.int p1), .val (.int p2), .val (.int p3), .val (.int p4), .val (.int p5), .val (.int (f_min p0 (2147483632 : Int32))), .unset, .unset, .unset, .unset, .unset, .unset, .unset, .unset, .unset, .unset, .unset, .unset, .unset, .unset, .unset, .unset, .unset, .unset, .unset] [(.int (j7 p0 p1 p2 p3 p4 p5))])) t → Steps p.tables e below (T0_1.setTop (mkF m 8 #[.val (.int p0), .val (.int p1), .val (.int p2), .val (.int p3), .val (.int p4), .val (.int p5), .val (.int (f_min p0 (2147483632 : Int32))), .unset, .unset, .unset, .unset, .unset, .unset, .unset, .unset, .unset, .unset, .unset, .unset, .unset, .unset, .unset, .unset, .unset, .unset, .unset] [])) t := by
    intro t k
    refine ox_iload Xhd0_2.here hx (hb hby at_8) rfl ?_
    refine ox_iconst Xhd0_2.here hx (hb hby at_10) ?_
    refine ox_iand Xhd0_2.here hx (hb hby at_11) rfl ?_
    by_cases hc0_1 : (p5 &&& (1 : Int32)) = (0 : Int32)
    · refine ox_ifYes Xhd0_2.here hx (pc0 := 12) (pc' := 31) rfl (hb hby at_12) rfl ((if0 _ _).trans (teq hc0_1).1) (by decide) (by decide) ?_
      refine ox_iloadN Xhd0_2.here hx (hb hby at_31) rfl ?_
      have q : j7 p0 p1 p2 p3 p4 p5 = p1 := by rw [j7, if_pos hc0_1]
      rw [q] at k
      exact k
    · refine ox_ifNo Xhd0_2.here hx (hb hby at_12) rfl ((if0 _ _).trans (feq hc0_1).1) ?_
      refine ox_iload Xhd0_2.here hx (hb hby at_15) rfl ?_
      refine ox_iconst Xhd0_2.here hx (hb hby at_17) ?_
      refine ox_isub Xhd0_2.here hx (hb hby at_18) rfl ?_
      refine ox_iloadN Xhd0_2.here hx (hb hby at_19) rfl ?_
      refine ox_sipush Xhd0_2.here hx (hb hby at_20) ?_
      refine ox_iand Xhd0_2.here hx (hb hby at_23) rfl ?_
      refine ox_bipush Xhd0_2.here hx (hb hby at_24) ?_
      refine ox_irem Xhd0_2.here hx (hb hby at_26) rfl (by decide) ?_
      refine ox_iadd Xhd0_2.here hx (hb hby at_27) rfl ?_
      refine ox_goto Xhd0_2.here hx (pc0 := 28) (pc' := 32) rfl (hb hby at_28) (by decide) (by decide) ?_
      have q : j7 p0 p1 p2 p3 p4 p5 = (((f_min p0 (2147483632 : Int32)) - (1 : Int32)) + (own_irem (p3 &&& (255 : Int32)) (18 : Int32))) := by rw [j7, if_neg hc0_1]
      rw [q] at k
      exact k
  refine own_fw sg0_8 ?_
  refine own_fw (A := T0_1.setTop (mkF m 34 #[.val (.int p0), .val (.int p1), .val (.int p2), .val (.int p3), .val (.int p4), .val (.int p5), .val (.int (f_min p0 (2147483632 : Int32))), .val (.int (j7 p0 p1 p2 p3 p4 p5)), .unset, .unset, .unset, .unset, .unset, .unset, .unset, .unset, .unset, .unset, .unset, .unset, .unset, .unset, .unset, .unset, .unset, .unset] [])) (fun t k => ?_) ?_
  · refine ox_istore Xhd0_2.here hx (hb hby at_32) rfl (l' := #[.val (.int p0), .val (.int p1), .val (.int p2), .val (.int p3), .val (.int p4), .val (.int p5), .val (.int (f_min p0 (2147483632 : Int32))), .val (.int (j7 p0 p1 p2 p3 p4 p5)), .unset, .unset, .unset, .unset, .unset, .unset, .unset, .unset, .unset, .unset, .unset, .unset, .unset, .unset, .unset, .unset, .unset, .unset]) rfl ?_
    exact k
  have sg0_34 : ∀ t, Steps p.tables e below (T0_1.setTop (mkF m 61 #[.val (.int p0), .val (.int p1), .val (.int p2), .val (.int p3), .val (.int p4), .val (.int p5), .val (.int (f_min p0 (2147483632 : Int32))), .val (.int (j7 p0 p1 p2 p3 p4 p5)), .unset, .unset, .unset, .unset, .unset, .unset, .unset, .unset, .unset, .unset, .unset, .unset, .unset, .unset, .unset, .unset, .unset, .unset] [(.int (j8a p0 p1 p2 p3 p4 p5))])) t → Steps p.tables e below (T0_1.setTop (mkF m 34 #[.val (.int p0), .val (.int p1), .val (.int p2), .val (.int p3), .val (.int p4), .val (.int p5), .val (.int (f_min p0 (2147483632 : Int32))), .val (.int (j7 p0 p1 p2 p3 p4 p5)), .unset, .unset, .unset, .unset, .unset, .unset, .unset, .unset, .unset, .unset, .unset, .unset, .unset, .unset, .unset, .unset, .unset, .unset] [])) t := by
    intro t k
    refine ox_iload Xhd0_2.here hx (hb hby at_34) rfl ?_
    refine ox_iconst Xhd0_2.here hx (hb hby at_36) ?_
    refine ox_iand Xhd0_2.here hx (hb hby at_37) rfl ?_
    by_cases hc0_2 : (p5 &&& (2 : Int32)) = (0 : Int32)
    · refine ox_ifYes Xhd0_2.here hx (pc0 := 38) (pc' := 60) rfl (hb hby at_38) rfl ((if0 _ _).trans (teq hc0_2).1) (by decide) (by decide) ?_
      refine ox_iloadN Xhd0_2.here hx (hb hby at_60) rfl ?_
      have q : j8a p0 p1 p2 p3 p4 p5 = p2 := by rw [j8a, if_pos hc0_2]
      rw [q] at k
      exact k
    · refine ox_ifNo Xhd0_2.here hx (hb hby at_38) rfl ((if0 _ _).trans (feq hc0_2).1) ?_
      refine ox_iload Xhd0_2.here hx (hb hby at_41) rfl ?_
      refine ox_iconst Xhd0_2.here hx (hb hby at_43) ?_
      refine ox_isub Xhd0_2.here hx (hb hby at_44) rfl ?_
      refine ox_iloadN Xhd0_2.here hx (hb hby at_45) rfl ?_
      refine ox_bipush Xhd0_2.here hx (hb hby at_46) ?_
      refine ox_iushr Xhd0_2.here hx (hb hby at_48) rfl ?_
      refine ox_sipush Xhd0_2.here hx (hb hby at_49) ?_
      refine ox_iand Xhd0_2.here hx (hb hby at_52) rfl ?_
      refine ox_bipush Xhd0_2.here hx (hb hby at_53) ?_
      refine ox_irem Xhd0_2.here hx (hb hby at_55) rfl (by decide) ?_
      refine ox_iadd Xhd0_2.here hx (hb hby at_56) rfl ?_
      refine ox_goto Xhd0_2.here hx (pc0 := 57) (pc' := 61) rfl (hb hby at_57) (by decide) (by decide) ?_
      have q : j8a p0 p1 p2 p3 p4 p5 = (((f_min p0 (2147483632 : Int32)) - (1 : Int32)) + (own_irem (((p3.toUInt32 >>> ((8 : Int32) &&& 31).toUInt32).toInt32) &&& (255 : Int32)) (18 : Int32))) := by rw [j8a, if_neg hc0_2]
      rw [q] at k
      exact k
  refine own_fw sg0_34 ?_
  refine own_fw (A := T0_1.setTop (mkF m 63 #[.val (.int p0), .val (.int p1), .val (.int p2), .val (.int p3), .val (.int p4), .val (.int p5), .val (.int (f_min p0 (2147483632 : Int32))), .val (.int (j7 p0 p1 p2 p3 p4 p5)), .val (.int (j8a p0 p1 p2 p3 p4 p5)), .unset, .unset, .unset, .unset, .unset, .unset, .unset, .unset, .unset, .unset, .unset, .unset, .unset, .unset, .unset, .unset, .unset] [])) (fun t k => ?_) ?_
  · refine ox_istore Xhd0_2.here hx (hb hby at_61) rfl (l' := #[.val (.int p0), .val (.int p1), .val (.int p2), .val (.int p3), .val (.int p4), .val (.int p5), .val (.int (f_min p0 (2147483632 : Int32))), .val (.int (j7 p0 p1 p2 p3 p4 p5)), .val (.int (j8a p0 p1 p2 p3 p4 p5)), .unset, .unset, .unset, .unset, .unset, .unset, .unset, .unset, .unset, .unset, .unset, .unset, .unset, .unset, .unset, .unset, .unset]) rfl ?_
    exact k
  have sg0_63 : ∀ t, Steps p.tables e below (T0_1.setTop (mkF m 75 #[.val (.int p0), .val (.int p1), .val (.int p2), .val (.int p3), .val (.int p4), .val (.int p5), .val (.int (f_min p0 (2147483632 : Int32))), .val (.int (j7 p0 p1 p2 p3 p4 p5)), .val (.int (j8 p0 p1 p2 p3 p4 p5)), .unset, .unset, .unset, .unset, .unset, .unset, .unset, .unset, .unset, .unset, .unset, .unset, .unset, .unset, .unset, .unset, .unset] [])) t → Steps p.tables e below (T0_1.setTop (mkF m 63 #[.val (.int p0), .val (.int p1), .val (.int p2), .val (.int p3), .val (.int p4), .val (.int p5), .val (.int (f_min p0 (2147483632 : Int32))), .val (.int (j7 p0 p1 p2 p3 p4 p5)), .val (.int (j8a p0 p1 p2 p3 p4 p5)), .unset, .unset, .unset, .unset, .unset, .unset, .unset, .unset, .unset, .unset, .unset, .unset, .unset, .unset, .unset, .unset, .unset] [])) t := by
    intro t k
    refine ox_iload Xhd0_2.here hx (hb hby at_63) rfl ?_
    refine ox_bipush Xhd0_2.here hx (hb hby at_65) ?_
    refine ox_iand Xhd0_2.here hx (hb hby at_67) rfl ?_
    by_cases hc0_3 : (p5 &&& (8 : Int32)) = (0 : Int32)
    · refine ox_ifYes Xhd0_2.here hx (pc0 := 68) (pc' := 75) rfl (hb hby at_68) rfl ((if0 _ _).trans (teq hc0_3).1) (by decide) (by decide) ?_
      have q : j8 p0 p1 p2 p3 p4 p5 = (j8a p0 p1 p2 p3 p4 p5) := by rw [j8, if_pos hc0_3]
      rw [q] at k
      exact k
    · refine ox_ifNo Xhd0_2.here hx (hb hby at_68) rfl ((if0 _ _).trans (feq hc0_3).1) ?_
      refine ox_iload Xhd0_2.here hx (hb hby at_71) rfl ?_
      refine ox_istore Xhd0_2.here hx (hb hby at_73) rfl (l' := #[.val (.int p0), .val (.int p1), .val (.int p2), .val (.int p3), .val (.int p4), .val (.int p5), .val (.int (f_min p0 (2147483632 : Int32))), .val (.int (j7 p0 p1 p2 p3 p4 p5)), .val (.int (j7 p0 p1 p2 p3 p4 p5)), .unset, .unset, .unset, .unset, .unset, .unset, .unset, .unset, .unset, .unset, .unset, .unset, .unset, .unset, .unset, .unset, .unset]) rfl ?_
      have q : j8 p0 p1 p2 p3 p4 p5 = (j7 p0 p1 p2 p3 p4 p5) := by rw [j8, if_neg hc0_3]
      rw [q] at k
      exact k
  refine own_fw sg0_63 ?_
  obtain ⟨T0_3, h0_3, X0_3, e0_3, E0_3, A0_3, D0_3, -, st0_3⟩ := newO Xhd0_2 hx hZ hown (own_w hw 5 rfl) (own_w hw 6 rfl) (own_w hw 7 rfl) e0_1 (g := (mkF m 75 #[.val (.int p0), .val (.int p1), .val (.int p2), .val (.int p3), .val (.int p4), .val (.int p5), .val (.int (f_min p0 (2147483632 : Int32))), .val (.int (j7 p0 p1 p2 p3 p4 p5)), .val (.int (j8 p0 p1 p2 p3 p4 p5)), .unset, .unset, .unset, .unset, .unset, .unset, .unset, .unset, .unset, .unset, .unset, .unset, .unset, .unset, .unset, .unset, .unset] [])) rfl (hb hby at_75) (by decide) (by decide)
  obtain ⟨b0_3, g0_3⟩ : ∃ z, z = h0.size := ⟨_, rfl⟩
  rw [← g0_3] at A0_3 D0_3 st0_3
  have g_b0_3 : n0 ≤ b0_3 := Nat.le_trans Z0 (Nat.le_of_eq g0_3.symm)
  have F_ids_b0_3 : Fld Z h0_3 b0_3 "com/example/dolqa/dolqa/data/UnaryRelation$Builder" "ids" "[I" .null := D0_3 (Or.inl (own_w hw 16 rfl)) (ty := (.array .int)) (by decide)
  have F_count_b0_3 : Fld Z h0_3 b0_3 "com/example/dolqa/dolqa/data/UnaryRelation$Builder" "count" "I" (.int (0 : Int32)) := D0_3 (Or.inl (own_w hw 23 rfl)) (ty := .int) (by decide)
  refine own_fw st0_3 ?_
  refine own_fw (A := T0_3.setTop (mkF m 79 #[.val (.int p0), .val (.int p1), .val (.int p2), .val (.int p3), .val (.int p4), .val (.int p5), .val (.int (f_min p0 (2147483632 : Int32))), .val (.int (j7 p0 p1 p2 p3 p4 p5)), .val (.int (j8 p0 p1 p2 p3 p4 p5)), .unset, .unset, .unset, .unset, .unset, .unset, .unset, .unset, .unset, .unset, .unset, .unset, .unset, .unset, .unset, .unset, .unset] [(.ref b0_3), (.ref b0_3)])) (fun t k => ?_) ?_
  · refine ox_dup X0_3.here hx (hb hby at_78) rfl rfl ?_
    exact k
  obtain ⟨_, _, ⟨T0_4, L0_4, k0_4, n0_4⟩, -, X0_4, ⟨Lc0_4, hQ0_4, l0_4, y0_4, z0_4⟩, st0_4⟩ := X0_3.specialBack hx (y := mN13) rfl hown (mvT hZ (own_w hw 8 rfl)) (mvT hZ (own_w hw 9 rfl)) (mvT hZ (own_w hw 10 rfl)) (by decide) (backOf (W := 1) (rm2 l Z a0 hw [] b0_3 h0_3 n0 (Nat.le_trans Z0 E0_3.1) A0_3 F_ids_b0_3 F_count_b0_3 g_b0_3) hZ (own_w hw 10 rfl) (own_w hw 7 rfl) (by decide) (by decide)) (g := (mkF m 79 #[.val (.int p0), .val (.int p1), .val (.int p2), .val (.int p3), .val (.int p4), .val (.int p5), .val (.int (f_min p0 (2147483632 : Int32))), .val (.int (j7 p0 p1 p2 p3 p4 p5)), .val (.int (j8 p0 p1 p2 p3 p4 p5)), .unset, .unset, .unset, .unset, .unset, .unset, .unset, .unset, .unset, .unset, .unset, .unset, .unset, .unset, .unset, .unset, .unset] [(.ref b0_3), (.ref b0_3)])) rfl (by rw [hml]; rfl) (Steps.refl _) (a := b0_3) (argsL := []) (rest := [(.ref b0_3)]) (lenOf pd0_1 rfl) rfl (own_mr rfl) (hb hby at_79) (fun _ _ => ⟨rfl, e0_3, (by decide : 1 + 1 ≤ _), (by decide : 2 + 16 ≤ _)⟩)
  dsimp only [Pt.U, Pt.locs, Pt.cells, Pt.slots] at X0_4 l0_4 y0_4 z0_4 st0_4 hQ0_4
  subst l0_4 y0_4 z0_4
  obtain ⟨ia0_4, kI, rfl, N0_4q, K0_4, Ex0_4, Fi0_4, Fc0_4, Ia0_4, hk, zg0_4⟩ := hQ0_4
  have N0_4 := Fr.app Nhd0_2 N0_4q
  have ne_b0_3_ia0_4 : b0_3 ≠ ia0_4 := Nat.ne_of_lt (Nat.lt_of_lt_of_le F_ids_b0_3.lt zg0_4)
  have g_ia0_4 : n0 ≤ ia0_4 := Nat.le_trans (Nat.le_trans Z0 E0_3.1) zg0_4
  refine own_fw (fun t k => st0_4.trans k) ?_
  obtain ⟨Lhd0_5, Xhd0_5, Nhd0_5⟩ := own_hide X0_4 N0_4
  refine own_fw (A := T0_4.setTop (mkF m 88 #[.val (.int p0), .val (.int p1), .val (.int p2), .val (.int p3), .val (.int p4), .val (.int p5), .val (.int (f_min p0 (2147483632 : Int32))), .val (.int (j7 p0 p1 p2 p3 p4 p5)), .val (.int (j8 p0 p1 p2 p3 p4 p5)), .val (.ref b0_3), .unset, .unset, .unset, .unset, .unset, .unset, .unset, .unset, .unset, .unset, .unset, .unset, .unset, .unset, .unset, .unset] [(.int (j8 p0 p1 p2 p3 p4 p5)), (.ref b0_3)])) (fun t k => ?_) ?_
  · refine ox_astore Xhd0_5.here hx (hb hby at_82) rfl rfl (l' := #[.val (.int p0), .val (.int p1), .val (.int p2), .val (.int p3), .val (.int p4), .val (.int p5), .val (.int (f_min p0 (2147483632 : Int32))), .val (.int (j7 p0 p1 p2 p3 p4 p5)), .val (.int (j8 p0 p1 p2 p3 p4 p5)), .val (.ref b0_3), .unset, .unset, .unset, .unset, .unset, .unset, .unset, .unset, .unset, .unset, .unset, .unset, .unset, .unset, .unset, .unset]) rfl ?_
    refine ox_aload Xhd0_5.here hx (hb hby at_84) rfl rfl ?_
    refine ox_iload Xhd0_5.here hx (hb hby at_86) rfl ?_
    exact k
  obtain ⟨cq0_6, kq0_6, q0_6a, q0_6b, q0_6c⟩ := isOf hZ rfl Ex0_4
  obtain ⟨_, _, ⟨T0_6, L0_6, k0_6, n0_6⟩, -, X0_6, ⟨Lc0_6, hQ0_6, l0_6, y0_6, z0_6⟩, st0_6⟩ := Xhd0_5.virtualBack hx (y := mN2) (z := mN2) hown (mvT hZ (own_w hw 17 rfl)) (mvT hZ (own_w hw 18 rfl)) (notFace_of_selects (args := #[]) (mvT hZ (own_w hw 20 rfl))) (mvT hZ (own_w hw 20 rfl)) (mvT hZ (own_w hw 19 rfl)) (by decide) (backOf (W := 0) (rmBA_n l Z a0 hw [] b0_3 (j8 p0 p1 p2 p3 p4 p5) ia0_4 kI [] 16 T0_4.heap n0 (Nat.le_trans (Nat.le_trans Z0 E0_3.1) K0_4.1) Ex0_4 Fi0_4 Fc0_4 Ia0_4 hk (Ne.symm ne_b0_3_ia0_4) g_b0_3 g_ia0_4 (show 0 < 16 by decide) (own_nofull (show 0 < 16 by decide) (by decide))) hZ (own_w hw 21 rfl) (own_w hw 7 rfl) (by decide) (by decide)) q0_6a q0_6c (g := (mkF m 88 #[.val (.int p0), .val (.int p1), .val (.int p2), .val (.int p3), .val (.int p4), .val (.int p5), .val (.int (f_min p0 (2147483632 : Int32))), .val (.int (j7 p0 p1 p2 p3 p4 p5)), .val (.int (j8 p0 p1 p2 p3 p4 p5)), .val (.ref b0_3), .unset, .unset, .unset, .unset, .unset, .unset, .unset, .unset, .unset, .unset, .unset, .unset, .unset, .unset, .unset, .unset] [(.int (j8 p0 p1 p2 p3 p4 p5)), (.ref b0_3)])) rfl (by rw [hml]; rfl) (Steps.refl _) (argsL := [(.int (j8 p0 p1 p2 p3 p4 p5))]) (rest := []) (lenOf pd0_2 rfl) rfl (own_mr rfl) (hb hby at_88) (fun _ _ => ⟨rfl, rfl, (by decide : 2 + 0 ≤ _), (by decide : 18 + 0 ≤ _)⟩)
  dsimp only [Pt.U, Pt.locs, Pt.cells, Pt.slots] at X0_6 l0_6 y0_6 z0_6 st0_6 hQ0_6
  subst l0_6 y0_6 z0_6
  obtain ⟨ia0_6, rfl, N0_6q, K0_6, Ex0_6, Fi0_6, Fc0_6, Ia0_6, hs0_6⟩ := hQ0_6
  have N0_6 := Fr.app Nhd0_5 N0_6q
  have ne_ia0_6_b0_3 : ia0_6 ≠ b0_3 := (own_nia hs0_6 ne_b0_3_ia0_4 Ex0_4.lt).symm
  have g_ia0_6 : n0 ≤ ia0_6 := own_szia hs0_6 g_ia0_4 (Nat.le_trans (Nat.le_trans Z0 E0_3.1) K0_4.1)
  refine own_fw (fun t k => st0_6.trans k) ?_
  have fc0_7 := (((O_0.ext E0_3).keep K0_4 (allS g_b0_3 all0)).keep K0_6 (allS g_b0_3 (allS g_ia0_4 all0)))
  have fc0_8 := (Nat.le_trans (Nat.le_trans (Nat.le_trans Z0 E0_3.1) K0_4.1) K0_6.1)
  obtain ⟨Lhd0_9, Xhd0_9, Nhd0_9⟩ := own_hide X0_6 N0_6
  refine own_fw (A := T0_6.setTop (mkF m 93 #[.val (.int p0), .val (.int p1), .val (.int p2), .val (.int p3), .val (.int p4), .val (.int p5), .val (.int (f_min p0 (2147483632 : Int32))), .val (.int (j7 p0 p1 p2 p3 p4 p5)), .val (.int (j8 p0 p1 p2 p3 p4 p5)), .val (.ref b0_3), .unset, .unset, .unset, .unset, .unset, .unset, .unset, .unset, .unset, .unset, .unset, .unset, .unset, .unset, .unset, .unset] [(.int (j7 p0 p1 p2 p3 p4 p5)), (.ref b0_3)])) (fun t k => ?_) ?_
  · refine ox_iload Xhd0_9.here hx (hb hby at_91) rfl ?_
    exact k
  obtain ⟨cq0_10, kq0_10, q0_10a, q0_10b, q0_10c⟩ := isOf hZ rfl Ex0_6
  obtain ⟨_, _, ⟨T0_10, L0_10, k0_10, n0_10⟩, -, X0_10, ⟨Lc0_10, hQ0_10, l0_10, y0_10, z0_10⟩, st0_10⟩ := Xhd0_9.virtualBack hx (y := mN2) (z := mN2) hown (mvT hZ (own_w hw 17 rfl)) (mvT hZ (own_w hw 18 rfl)) (notFace_of_selects (args := #[]) (mvT hZ (own_w hw 20 rfl))) (mvT hZ (own_w hw 20 rfl)) (mvT hZ (own_w hw 19 rfl)) (by decide) (backOf (W := 0) (rmBA_n l Z a0 hw [] b0_3 (j7 p0 p1 p2 p3 p4 p5) ia0_6 kI ([] ++ [(j8 p0 p1 p2 p3 p4 p5)]) 16 T0_6.heap n0 fc0_8 Ex0_6 Fi0_6 Fc0_6 Ia0_6 hk ne_ia0_6_b0_3 g_b0_3 g_ia0_6 (show 1 < 16 by decide) (own_nofull (show 1 < 16 by decide) (by decide))) hZ (own_w hw 21 rfl) (own_w hw 7 rfl) (by decide) (by decide)) q0_10a q0_10c (g := (mkF m 93 #[.val (.int p0), .val (.int p1), .val (.int p2), .val (.int p3), .val (.int p4), .val (.int p5), .val (.int (f_min p0 (2147483632 : Int32))), .val (.int (j7 p0 p1 p2 p3 p4 p5)), .val (.int (j8 p0 p1 p2 p3 p4 p5)), .val (.ref b0_3), .unset, .unset, .unset, .unset, .unset, .unset, .unset, .unset, .unset, .unset, .unset, .unset, .unset, .unset, .unset, .unset] [(.int (j7 p0 p1 p2 p3 p4 p5)), (.ref b0_3)])) rfl (by rw [hml]; rfl) (Steps.refl _) (argsL := [(.int (j7 p0 p1 p2 p3 p4 p5))]) (rest := []) (lenOf pd0_2 rfl) rfl (own_mr rfl) (hb hby at_93) (fun _ _ => ⟨rfl, rfl, (by decide : 2 + 0 ≤ _), (by decide : 18 + 0 ≤ _)⟩)
  dsimp only [Pt.U, Pt.locs, Pt.cells, Pt.slots] at X0_10 l0_10 y0_10 z0_10 st0_10 hQ0_10
  subst l0_10 y0_10 z0_10
  obtain ⟨ia0_10, rfl, N0_10q, K0_10, Ex0_10, Fi0_10, Fc0_10, Ia0_10, hs0_10⟩ := hQ0_10
  have N0_10 := Fr.app Nhd0_9 N0_10q
  have ne_ia0_10_b0_3 : ia0_10 ≠ b0_3 := (own_nia hs0_10 (Ne.symm ne_ia0_6_b0_3) Ex0_6.lt).symm
  refine own_fw (fun t k => st0_10.trans k) ?_
  obtain ⟨Lhd0_11, Xhd0_11, Nhd0_11⟩ := own_hide X0_10 N0_10
  obtain ⟨cq0_12, kq0_12, q0_12a, q0_12b, q0_12c⟩ := isOf hZ rfl Ex0_10
  obtain ⟨_, _, ⟨T0_12, L0_12, k0_12, n0_12⟩, -, X0_12, ⟨Lc0_12, hQ0_12, l0_12, y0_12, z0_12⟩, st0_12⟩ := Xhd0_11.virtualBack hx (y := mN7) (z := mN7) hown (mvT hZ (own_w hw 24 rfl)) (mvT hZ (own_w hw 25 rfl)) (notFace_of_selects (args := #[]) (mvT hZ (own_w hw 27 rfl))) (mvT hZ (own_w hw 27 rfl)) (mvT hZ (own_w hw 26 rfl)) (by decide) (backOf (W := 0) (rm5 l Z a0 hw [] b0_3 ia0_10 kI (([] ++ [(j8 p0 p1 p2 p3 p4 p5)]) ++ [(j7 p0 p1 p2 p3 p4 p5)]) 16 T0_10.heap n0 (Nat.le_trans fc0_8 K0_10.1) Fi0_10 Fc0_10 Ia0_10 hk ne_ia0_10_b0_3 (show 2 ≤ 18 by decide)) hZ (own_w hw 28 rfl) (own_w hw 7 rfl) (by decide) (by decide)) q0_12a q0_12c (g := (mkF m 96 #[.val (.int p0), .val (.int p1), .val (.int p2), .val (.int p3), .val (.int p4), .val (.int p5), .val (.int (f_min p0 (2147483632 : Int32))), .val (.int (j7 p0 p1 p2 p3 p4 p5)), .val (.int (j8 p0 p1 p2 p3 p4 p5)), .val (.ref b0_3), .unset, .unset, .unset, .unset, .unset, .unset, .unset, .unset, .unset, .unset, .unset, .unset, .unset, .unset, .unset, .unset] [(.ref b0_3)])) rfl (by rw [hml]; rfl) (Steps.refl _) (argsL := []) (rest := []) (lenOf pd0_3 rfl) rfl (own_mr rfl) (hb hby at_96) (fun _ _ => ⟨rfl, rfl, (by decide : 2 + 3 ≤ _), (by decide : 18 + 37 ≤ _)⟩)
  dsimp only [Pt.U, Pt.locs, Pt.cells, Pt.slots] at X0_12 l0_12 y0_12 z0_12 st0_12 hQ0_12
  subst l0_12 y0_12 z0_12
  obtain ⟨ub0_12, mb0_12, D0_12, rfl, N0_12q, K0_12, Eu0_12, Fu0_12, Iu0_12, Pw0_12, Mm0_12, zu0_12, zm0_12⟩ := hQ0_12
  have N0_12 := Fr.app Nhd0_11 N0_12q
  refine own_fw (fun t k => st0_12.trans k) ?_
  have fc0_13 := ((fc0_7.keep K0_10 (allS g_b0_3 (allS g_ia0_6 all0))).keep K0_12 all0)
  obtain ⟨Lhd0_14, Xhd0_14, Nhd0_14⟩ := own_hide X0_12 N0_12
  refine own_fw (A := T0_12.setTop (mkF m 101 #[.val (.int p0), .val (.int p1), .val (.int p2), .val (.int p3), .val (.int p4), .val (.int p5), .val (.int (f_min p0 (2147483632 : Int32))), .val (.int (j7 p0 p1 p2 p3 p4 p5)), .val (.int (j8 p0 p1 p2 p3 p4 p5)), .val (.ref b0_3), .val (.ref ub0_12), .unset, .unset, .unset, .unset, .unset, .unset, .unset, .unset, .unset, .unset, .unset, .unset, .unset, .unset, .unset] [])) (fun t k => ?_) ?_
  · refine ox_astore Xhd0_14.here hx (hb hby at_99) rfl rfl (l' := #[.val (.int p0), .val (.int p1), .val (.int p2), .val (.int p3), .val (.int p4), .val (.int p5), .val (.int (f_min p0 (2147483632 : Int32))), .val (.int (j7 p0 p1 p2 p3 p4 p5)), .val (.int (j8 p0 p1 p2 p3 p4 p5)), .val (.ref b0_3), .val (.ref ub0_12), .unset, .unset, .unset, .unset, .unset, .unset, .unset, .unset, .unset, .unset, .unset, .unset, .unset, .unset, .unset]) rfl ?_
    exact k
  obtain ⟨T0_15, h0_15, X0_15, e0_15, E0_15, A0_15, D0_15, -, st0_15⟩ := newO Xhd0_14 hx hZ hown (own_w hw 69 rfl) (own_w hw 52 rfl) (own_w hw 53 rfl) rfl (g := (mkF m 101 #[.val (.int p0), .val (.int p1), .val (.int p2), .val (.int p3), .val (.int p4), .val (.int p5), .val (.int (f_min p0 (2147483632 : Int32))), .val (.int (j7 p0 p1 p2 p3 p4 p5)), .val (.int (j8 p0 p1 p2 p3 p4 p5)), .val (.ref b0_3), .val (.ref ub0_12), .unset, .unset, .unset, .unset, .unset, .unset, .unset, .unset, .unset, .unset, .unset, .unset, .unset, .unset, .unset] [])) rfl (hb hby at_101) (by decide) (by decide)
  obtain ⟨b0_15, g0_15⟩ : ∃ z, z = T0_12.heap.size := ⟨_, rfl⟩
  rw [← g0_15] at A0_15 D0_15 st0_15
  have ne_ub0_12_b0_15 : ub0_12 ≠ b0_15 := Nat.ne_of_lt (Nat.lt_of_lt_of_le Eu0_12.lt (Nat.le_of_eq g0_15.symm))
  have ne_mb0_12_b0_15 : mb0_12 ≠ b0_15 := Nat.ne_of_lt (Nat.lt_of_lt_of_le Iu0_12.lt (Nat.le_of_eq g0_15.symm))
  have g_b0_15 : n0 ≤ b0_15 := Nat.le_trans (Nat.le_trans (Nat.le_trans fc0_8 K0_10.1) K0_12.1) (Nat.le_of_eq g0_15.symm)
  have F_members_b0_15 : Fld Z h0_15 b0_15 "com/example/dolqa/dolqa/data/UnaryRelation" "members" "[I" .null := D0_15 (Or.inr (own_w hw 68 rfl)) (ty := (.array .int)) (by decide)
  refine own_fw st0_15 ?_
  have fc0_16 := (Nat.le_trans (Nat.le_trans (Nat.le_trans fc0_8 K0_10.1) K0_12.1) E0_15.1)
  refine own_fw (A := T0_15.setTop (mkF m 107 #[.val (.int p0), .val (.int p1), .val (.int p2), .val (.int p3), .val (.int p4), .val (.int p5), .val (.int (f_min p0 (2147483632 : Int32))), .val (.int (j7 p0 p1 p2 p3 p4 p5)), .val (.int (j8 p0 p1 p2 p3 p4 p5)), .val (.ref b0_3), .val (.ref ub0_12), .unset, .unset, .unset, .unset, .unset, .unset, .unset, .unset, .unset, .unset, .unset, .unset, .unset, .unset, .unset] [(.int (16 : Int32)), (.ref b0_15), (.ref b0_15)])) (fun t k => ?_) ?_
  · refine ox_dup X0_15.here hx (hb hby at_104) rfl rfl ?_
    refine ox_bipush X0_15.here hx (hb hby at_105) ?_
    exact k
  obtain ⟨T0_17, h0_17, k0_17, X0_17, e0_17, E0_17, A0_17, Ex0_17, st0_17⟩ := newPE X0_15 hx hZ (own_w hw 14 rfl) e0_15 (g := (mkF m 107 #[.val (.int p0), .val (.int p1), .val (.int p2), .val (.int p3), .val (.int p4), .val (.int p5), .val (.int (f_min p0 (2147483632 : Int32))), .val (.int (j7 p0 p1 p2 p3 p4 p5)), .val (.int (j8 p0 p1 p2 p3 p4 p5)), .val (.ref b0_3), .val (.ref ub0_12), .unset, .unset, .unset, .unset, .unset, .unset, .unset, .unset, .unset, .unset, .unset, .unset, .unset, .unset, .unset] [(.int (16 : Int32)), (.ref b0_15), (.ref b0_15)])) rfl (hb hby at_107) rfl (by decide) (cap := 16) (by decide) (by decide) (by decide) (by decide) (ad := "[I") (by decide)
  obtain ⟨b0_17, g0_17⟩ : ∃ z, z = h0_15.size := ⟨_, rfl⟩
  rw [← g0_17] at A0_17 Ex0_17 st0_17
  have ne_ub0_12_b0_17 : ub0_12 ≠ b0_17 := Nat.ne_of_lt (Nat.lt_of_lt_of_le (Eu0_12.ext E0_15).lt (Nat.le_of_eq g0_17.symm))
  have ne_mb0_12_b0_17 : mb0_12 ≠ b0_17 := Nat.ne_of_lt (Nat.lt_of_lt_of_le (Iu0_12.ext E0_15).lt (Nat.le_of_eq g0_17.symm))
  have ne_b0_15_b0_17 : b0_15 ≠ b0_17 := Nat.ne_of_lt (Nat.lt_of_lt_of_le F_members_b0_15.lt (Nat.le_of_eq g0_17.symm))
  have g_b0_17 : n0 ≤ b0_17 := Nat.le_trans fc0_16 (Nat.le_of_eq g0_17.symm)
  have I_b0_17 : IA Z h0_17 b0_17 k0_17 16 [] := IA.new (z := 0) A0_17 (by decide)
  have hk_b0_17 := own_kls A0_17 Ex0_17
  obtain rfl : kI = k0_17 := Option.some.inj (hk.symm.trans hk_b0_17)
  refine own_fw st0_17 ?_
  refine own_fw (A := T0_17.setTop (mkF m 113 #[.val (.int p0), .val (.int p1), .val (.int p2), .val (.int p3), .val (.int p4), .val (.int p5), .val (.int (f_min p0 (2147483632 : Int32))), .val (.int (j7 p0 p1 p2 p3 p4 p5)), .val (.int (j8 p0 p1 p2 p3 p4 p5)), .val (.ref b0_3), .val (.ref ub0_12), .unset, .unset, .unset, .unset, .unset, .unset, .unset, .unset, .unset, .unset, .unset, .unset, .unset, .unset, .unset] [(.int (f_min p0 (2147483632 : Int32))), (.int (0 : Int32)), (.ref b0_17), (.ref b0_17), (.ref b0_15), (.ref b0_15)])) (fun t k => ?_) ?_
  · refine ox_dup X0_17.here hx (hb hby at_109) rfl rfl ?_
    refine ox_iconst X0_17.here hx (hb hby at_110) ?_
    refine ox_iload X0_17.here hx (hb hby at_111) rfl ?_
    exact k
  obtain ⟨cl0_18, Ar0_18, hin0_18, hat0_18⟩ := IA.at I_b0_17 (j := 0) (by decide)
  obtain ⟨T0_18, h0_18, X0_18, e0_18, W0_18, st0_18⟩ := stI X0_17 hx hZ e0_17 Ar0_18 (j := (Int32.ofNat 0)) hin0_18 (g := (mkF m 113 #[.val (.int p0), .val (.int p1), .val (.int p2), .val (.int p3), .val (.int p4), .val (.int p5), .val (.int (f_min p0 (2147483632 : Int32))), .val (.int (j7 p0 p1 p2 p3 p4 p5)), .val (.int (j8 p0 p1 p2 p3 p4 p5)), .val (.ref b0_3), .val (.ref ub0_12), .unset, .unset, .unset, .unset, .unset, .unset, .unset, .unset, .unset, .unset, .unset, .unset, .unset, .unset, .unset] [(.int (f_min p0 (2147483632 : Int32))), (.int (0 : Int32)), (.ref b0_17), (.ref b0_17), (.ref b0_15), (.ref b0_15)])) rfl rfl (hb hby at_113)
  have I0_18 : IA Z h0_18 b0_17 kI 16 [(f_min p0 (2147483632 : Int32))] := IA.push I_b0_17 (show 0 < 16 by decide) W0_18
  have N0_18 := Fr.snoc X0_18 Nhd0_14 g_b0_17
  refine own_fw st0_18 ?_
  have fc0_19 := (((Fu0_12.ext E0_15).ext E0_17).other W0_18 (Or.inl ne_ub0_12_b0_17))
  have fc0_20 := ((F_members_b0_15.ext E0_17).other W0_18 (Or.inl ne_b0_15_b0_17))
  have fc0_21 := (Nat.le_trans (Nat.le_trans fc0_16 E0_17.1) (Keep.of_wr W0_18).1)
  obtain ⟨Lhd0_22, Xhd0_22, Nhd0_22⟩ := own_hide X0_18 N0_18
  refine own_fw (A := T0_18.setTop (mkF m 120 #[.val (.int p0), .val (.int p1), .val (.int p2), .val (.int p3), .val (.int p4), .val (.int p5), .val (.int (f_min p0 (2147483632 : Int32))), .val (.int (j7 p0 p1 p2 p3 p4 p5)), .val (.int (j8 p0 p1 p2 p3 p4 p5)), .val (.ref b0_3), .val (.ref ub0_12), .unset, .unset, .unset, .unset, .unset, .unset, .unset, .unset, .unset, .unset, .unset, .unset, .unset, .unset, .unset] [(.int ((f_min p0 (2147483632 : Int32)) + (1 : Int32))), (.int (1 : Int32)), (.ref b0_17), (.ref b0_17), (.ref b0_15), (.ref b0_15)])) (fun t k => ?_) ?_
  · refine ox_dup Xhd0_22.here hx (hb hby at_114) rfl rfl ?_
    refine ox_iconst Xhd0_22.here hx (hb hby at_115) ?_
    refine ox_iload Xhd0_22.here hx (hb hby at_116) rfl ?_
    refine ox_iconst Xhd0_22.here hx (hb hby at_118) ?_
    refine ox_iadd Xhd0_22.here hx (hb hby at_119) rfl ?_
    exact k
  obtain ⟨cl0_23, Ar0_23, hin0_23, hat0_23⟩ := IA.at I0_18 (j := 1) (by decide)
  obtain ⟨T0_23, h0_23, X0_23, e0_23, W0_23, st0_23⟩ := stI Xhd0_22 hx hZ e0_18 Ar0_23 (j := (Int32.ofNat 1)) hin0_23 (g := (mkF m 120 #[.val (.int p0), .val (.int p1), .val (.int p2), .val (.int p3), .val (.int p4), .val (.int p5), .val (.int (f_min p0 (2147483632 : Int32))), .val (.int (j7 p0 p1 p2 p3 p4 p5)), .val (.int (j8 p0 p1 p2 p3 p4 p5)), .val (.ref b0_3), .val (.ref ub0_12), .unset, .unset, .unset, .unset, .unset, .unset, .unset, .unset, .unset, .unset, .unset, .unset, .unset, .unset, .unset] [(.int ((f_min p0 (2147483632 : Int32)) + (1 : Int32))), (.int (1 : Int32)), (.ref b0_17), (.ref b0_17), (.ref b0_15), (.ref b0_15)])) rfl rfl (hb hby at_120)
  have I0_23 : IA Z h0_23 b0_17 kI 16 [(f_min p0 (2147483632 : Int32)), ((f_min p0 (2147483632 : Int32)) + (1 : Int32))] := IA.push I0_18 (show 1 < 16 by decide) W0_23
  have N0_23 := Fr.snoc X0_23 Nhd0_22 g_b0_17
  refine own_fw st0_23 ?_
  have fc0_24 := ((((fc0_13.ext E0_15).ext E0_17).wr W0_18 g_b0_17).wr W0_23 g_b0_17)
  have fc0_25 := ((((Iu0_12.ext E0_15).ext E0_17).other W0_18 ne_mb0_12_b0_17).other W0_23 ne_mb0_12_b0_17)
  obtain ⟨Lhd0_26, Xhd0_26, Nhd0_26⟩ := own_hide X0_23 N0_23
  refine own_fw (A := T0_23.setTop (mkF m 127 #[.val (.int p0), .val (.int p1), .val (.int p2), .val (.int p3), .val (.int p4), .val (.int p5), .val (.int (f_min p0 (2147483632 : Int32))), .val (.int (j7 p0 p1 p2 p3 p4 p5)), .val (.int (j8 p0 p1 p2 p3 p4 p5)), .val (.ref b0_3), .val (.ref ub0_12), .unset, .unset, .unset, .unset, .unset, .unset, .unset, .unset, .unset, .unset, .unset, .unset, .unset, .unset, .unset] [(.int ((f_min p0 (2147483632 : Int32)) + (2 : Int32))), (.int (2 : Int32)), (.ref b0_17), (.ref b0_17), (.ref b0_15), (.ref b0_15)])) (fun t k => ?_) ?_
  · refine ox_dup Xhd0_26.here hx (hb hby at_121) rfl rfl ?_
    refine ox_iconst Xhd0_26.here hx (hb hby at_122) ?_
    refine ox_iload Xhd0_26.here hx (hb hby at_123) rfl ?_
    refine ox_iconst Xhd0_26.here hx (hb hby at_125) ?_
    refine ox_iadd Xhd0_26.here hx (hb hby at_126) rfl ?_
    exact k
  obtain ⟨cl0_27, Ar0_27, hin0_27, hat0_27⟩ := IA.at I0_23 (j := 2) (by decide)
  obtain ⟨T0_27, h0_27, X0_27, e0_27, W0_27, st0_27⟩ := stI Xhd0_26 hx hZ e0_23 Ar0_27 (j := (Int32.ofNat 2)) hin0_27 (g := (mkF m 127 #[.val (.int p0), .val (.int p1), .val (.int p2), .val (.int p3), .val (.int p4), .val (.int p5), .val (.int (f_min p0 (2147483632 : Int32))), .val (.int (j7 p0 p1 p2 p3 p4 p5)), .val (.int (j8 p0 p1 p2 p3 p4 p5)), .val (.ref b0_3), .val (.ref ub0_12), .unset, .unset, .unset, .unset, .unset, .unset, .unset, .unset, .unset, .unset, .unset, .unset, .unset, .unset, .unset] [(.int ((f_min p0 (2147483632 : Int32)) + (2 : Int32))), (.int (2 : Int32)), (.ref b0_17), (.ref b0_17), (.ref b0_15), (.ref b0_15)])) rfl rfl (hb hby at_127)
  have I0_27 : IA Z h0_27 b0_17 kI 16 [(f_min p0 (2147483632 : Int32)), ((f_min p0 (2147483632 : Int32)) + (1 : Int32)), ((f_min p0 (2147483632 : Int32)) + (2 : Int32))] := IA.push I0_23 (show 2 < 16 by decide) W0_27
  have N0_27 := Fr.snoc X0_27 Nhd0_26 g_b0_17
  refine own_fw st0_27 ?_
  have fc0_28 := (((((Eu0_12.ext E0_15).ext E0_17).wr W0_18).wr W0_23).wr W0_27)
  have fc0_29 := ((fc0_19.other W0_23 (Or.inl ne_ub0_12_b0_17)).other W0_27 (Or.inl ne_ub0_12_b0_17))
  have fc0_30 := ((fc0_20.other W0_23 (Or.inl ne_b0_15_b0_17)).other W0_27 (Or.inl ne_b0_15_b0_17))
  have fc0_31 := (Nat.le_trans (Nat.le_trans fc0_21 (Keep.of_wr W0_23).1) (Keep.of_wr W0_27).1)
  obtain ⟨Lhd0_32, Xhd0_32, Nhd0_32⟩ := own_hide X0_27 N0_27
  refine own_fw (A := T0_27.setTop (mkF m 134 #[.val (.int p0), .val (.int p1), .val (.int p2), .val (.int p3), .val (.int p4), .val (.int p5), .val (.int (f_min p0 (2147483632 : Int32))), .val (.int (j7 p0 p1 p2 p3 p4 p5)), .val (.int (j8 p0 p1 p2 p3 p4 p5)), .val (.ref b0_3), .val (.ref ub0_12), .unset, .unset, .unset, .unset, .unset, .unset, .unset, .unset, .unset, .unset, .unset, .unset, .unset, .unset, .unset] [(.int ((f_min p0 (2147483632 : Int32)) + (3 : Int32))), (.int (3 : Int32)), (.ref b0_17), (.ref b0_17), (.ref b0_15), (.ref b0_15)])) (fun t k => ?_) ?_
  · refine ox_dup Xhd0_32.here hx (hb hby at_128) rfl rfl ?_
    refine ox_iconst Xhd0_32.here hx (hb hby at_129) ?_
    refine ox_iload Xhd0_32.here hx (hb hby at_130) rfl ?_
    refine ox_iconst Xhd0_32.here hx (hb hby at_132) ?_
    refine ox_iadd Xhd0_32.here hx (hb hby at_133) rfl ?_
    exact k
  obtain ⟨cl0_33, Ar0_33, hin0_33, hat0_33⟩ := IA.at I0_27 (j := 3) (by decide)
  obtain ⟨T0_33, h0_33, X0_33, e0_33, W0_33, st0_33⟩ := stI Xhd0_32 hx hZ e0_27 Ar0_33 (j := (Int32.ofNat 3)) hin0_33 (g := (mkF m 134 #[.val (.int p0), .val (.int p1), .val (.int p2), .val (.int p3), .val (.int p4), .val (.int p5), .val (.int (f_min p0 (2147483632 : Int32))), .val (.int (j7 p0 p1 p2 p3 p4 p5)), .val (.int (j8 p0 p1 p2 p3 p4 p5)), .val (.ref b0_3), .val (.ref ub0_12), .unset, .unset, .unset, .unset, .unset, .unset, .unset, .unset, .unset, .unset, .unset, .unset, .unset, .unset, .unset] [(.int ((f_min p0 (2147483632 : Int32)) + (3 : Int32))), (.int (3 : Int32)), (.ref b0_17), (.ref b0_17), (.ref b0_15), (.ref b0_15)])) rfl rfl (hb hby at_134)
  have I0_33 : IA Z h0_33 b0_17 kI 16 [(f_min p0 (2147483632 : Int32)), ((f_min p0 (2147483632 : Int32)) + (1 : Int32)), ((f_min p0 (2147483632 : Int32)) + (2 : Int32)), ((f_min p0 (2147483632 : Int32)) + (3 : Int32))] := IA.push I0_27 (show 3 < 16 by decide) W0_33
  have N0_33 := Fr.snoc X0_33 Nhd0_32 g_b0_17
  refine own_fw st0_33 ?_
  have fc0_34 := ((fc0_25.other W0_27 ne_mb0_12_b0_17).other W0_33 ne_mb0_12_b0_17)
  have fc0_35 := (((((A0_15.ext E0_17).wr W0_18).wr W0_23).wr W0_27).wr W0_33)
  obtain ⟨Lhd0_36, Xhd0_36, Nhd0_36⟩ := own_hide X0_33 N0_33
  refine own_fw (A := T0_33.setTop (mkF m 141 #[.val (.int p0), .val (.int p1), .val (.int p2), .val (.int p3), .val (.int p4), .val (.int p5), .val (.int (f_min p0 (2147483632 : Int32))), .val (.int (j7 p0 p1 p2 p3 p4 p5)), .val (.int (j8 p0 p1 p2 p3 p4 p5)), .val (.ref b0_3), .val (.ref ub0_12), .unset, .unset, .unset, .unset, .unset, .unset, .unset, .unset, .unset, .unset, .unset, .unset, .unset, .unset, .unset] [(.int ((f_min p0 (2147483632 : Int32)) + (4 : Int32))), (.int (4 : Int32)), (.ref b0_17), (.ref b0_17), (.ref b0_15), (.ref b0_15)])) (fun t k => ?_) ?_
  · refine ox_dup Xhd0_36.here hx (hb hby at_135) rfl rfl ?_
    refine ox_iconst Xhd0_36.here hx (hb hby at_136) ?_
    refine ox_iload Xhd0_36.here hx (hb hby at_137) rfl ?_
    refine ox_iconst Xhd0_36.here hx (hb hby at_139) ?_
    refine ox_iadd Xhd0_36.here hx (hb hby at_140) rfl ?_
    exact k
  obtain ⟨cl0_37, Ar0_37, hin0_37, hat0_37⟩ := IA.at I0_33 (j := 4) (by decide)
  obtain ⟨T0_37, h0_37, X0_37, e0_37, W0_37, st0_37⟩ := stI Xhd0_36 hx hZ e0_33 Ar0_37 (j := (Int32.ofNat 4)) hin0_37 (g := (mkF m 141 #[.val (.int p0), .val (.int p1), .val (.int p2), .val (.int p3), .val (.int p4), .val (.int p5), .val (.int (f_min p0 (2147483632 : Int32))), .val (.int (j7 p0 p1 p2 p3 p4 p5)), .val (.int (j8 p0 p1 p2 p3 p4 p5)), .val (.ref b0_3), .val (.ref ub0_12), .unset, .unset, .unset, .unset, .unset, .unset, .unset, .unset, .unset, .unset, .unset, .unset, .unset, .unset, .unset] [(.int ((f_min p0 (2147483632 : Int32)) + (4 : Int32))), (.int (4 : Int32)), (.ref b0_17), (.ref b0_17), (.ref b0_15), (.ref b0_15)])) rfl rfl (hb hby at_141)
  have I0_37 : IA Z h0_37 b0_17 kI 16 [(f_min p0 (2147483632 : Int32)), ((f_min p0 (2147483632 : Int32)) + (1 : Int32)), ((f_min p0 (2147483632 : Int32)) + (2 : Int32)), ((f_min p0 (2147483632 : Int32)) + (3 : Int32)), ((f_min p0 (2147483632 : Int32)) + (4 : Int32))] := IA.push I0_33 (show 4 < 16 by decide) W0_37
  have N0_37 := Fr.snoc X0_37 Nhd0_36 g_b0_17
  refine own_fw st0_37 ?_
  have fc0_38 := (((fc0_24.wr W0_27 g_b0_17).wr W0_33 g_b0_17).wr W0_37 g_b0_17)
  have fc0_39 := ((fc0_29.other W0_33 (Or.inl ne_ub0_12_b0_17)).other W0_37 (Or.inl ne_ub0_12_b0_17))
  have fc0_40 := ((fc0_30.other W0_33 (Or.inl ne_b0_15_b0_17)).other W0_37 (Or.inl ne_b0_15_b0_17))
  have fc0_41 := (Nat.le_trans (Nat.le_trans fc0_31 (Keep.of_wr W0_33).1) (Keep.of_wr W0_37).1)
  obtain ⟨Lhd0_42, Xhd0_42, Nhd0_42⟩ := own_hide X0_37 N0_37
  refine own_fw (A := T0_37.setTop (mkF m 148 #[.val (.int p0), .val (.int p1), .val (.int p2), .val (.int p3), .val (.int p4), .val (.int p5), .val (.int (f_min p0 (2147483632 : Int32))), .val (.int (j7 p0 p1 p2 p3 p4 p5)), .val (.int (j8 p0 p1 p2 p3 p4 p5)), .val (.ref b0_3), .val (.ref ub0_12), .unset, .unset, .unset, .unset, .unset, .unset, .unset, .unset, .unset, .unset, .unset, .unset, .unset, .unset, .unset] [(.int ((f_min p0 (2147483632 : Int32)) + (5 : Int32))), (.int (5 : Int32)), (.ref b0_17), (.ref b0_17), (.ref b0_15), (.ref b0_15)])) (fun t k => ?_) ?_
  · refine ox_dup Xhd0_42.here hx (hb hby at_142) rfl rfl ?_
    refine ox_iconst Xhd0_42.here hx (hb hby at_143) ?_
    refine ox_iload Xhd0_42.here hx (hb hby at_144) rfl ?_
    refine ox_iconst Xhd0_42.here hx (hb hby at_146) ?_
    refine ox_iadd Xhd0_42.here hx (hb hby at_147) rfl ?_
    exact k
  obtain ⟨cl0_43, Ar0_43, hin0_43, hat0_43⟩ := IA.at I0_37 (j := 5) (by decide)
  obtain ⟨T0_43, h0_43, X0_43, e0_43, W0_43, st0_43⟩ := stI Xhd0_42 hx hZ e0_37 Ar0_43 (j := (Int32.ofNat 5)) hin0_43 (g := (mkF m 148 #[.val (.int p0), .val (.int p1), .val (.int p2), .val (.int p3), .val (.int p4), .val (.int p5), .val (.int (f_min p0 (2147483632 : Int32))), .val (.int (j7 p0 p1 p2 p3 p4 p5)), .val (.int (j8 p0 p1 p2 p3 p4 p5)), .val (.ref b0_3), .val (.ref ub0_12), .unset, .unset, .unset, .unset, .unset, .unset, .unset, .unset, .unset, .unset, .unset, .unset, .unset, .unset, .unset] [(.int ((f_min p0 (2147483632 : Int32)) + (5 : Int32))), (.int (5 : Int32)), (.ref b0_17), (.ref b0_17), (.ref b0_15), (.ref b0_15)])) rfl rfl (hb hby at_148)
  have I0_43 : IA Z h0_43 b0_17 kI 16 [(f_min p0 (2147483632 : Int32)), ((f_min p0 (2147483632 : Int32)) + (1 : Int32)), ((f_min p0 (2147483632 : Int32)) + (2 : Int32)), ((f_min p0 (2147483632 : Int32)) + (3 : Int32)), ((f_min p0 (2147483632 : Int32)) + (4 : Int32)), ((f_min p0 (2147483632 : Int32)) + (5 : Int32))] := IA.push I0_37 (show 5 < 16 by decide) W0_43
  have N0_43 := Fr.snoc X0_43 Nhd0_42 g_b0_17
  refine own_fw st0_43 ?_
  have fc0_44 := ((fc0_34.other W0_37 ne_mb0_12_b0_17).other W0_43 ne_mb0_12_b0_17)
  obtain ⟨Lhd0_45, Xhd0_45, Nhd0_45⟩ := own_hide X0_43 N0_43
  refine own_fw (A := T0_43.setTop (mkF m 157 #[.val (.int p0), .val (.int p1), .val (.int p2), .val (.int p3), .val (.int p4), .val (.int p5), .val (.int (f_min p0 (2147483632 : Int32))), .val (.int (j7 p0 p1 p2 p3 p4 p5)), .val (.int (j8 p0 p1 p2 p3 p4 p5)), .val (.ref b0_3), .val (.ref ub0_12), .unset, .unset, .unset, .unset, .unset, .unset, .unset, .unset, .unset, .unset, .unset, .unset, .unset, .unset, .unset] [(.int ((f_min p0 (2147483632 : Int32)) + (6 : Int32))), (.int (6 : Int32)), (.ref b0_17), (.ref b0_17), (.ref b0_15), (.ref b0_15)])) (fun t k => ?_) ?_
  · refine ox_dup Xhd0_45.here hx (hb hby at_149) rfl rfl ?_
    refine ox_bipush Xhd0_45.here hx (hb hby at_150) ?_
    refine ox_iload Xhd0_45.here hx (hb hby at_152) rfl ?_
    refine ox_bipush Xhd0_45.here hx (hb hby at_154) ?_
    refine ox_iadd Xhd0_45.here hx (hb hby at_156) rfl ?_
    exact k
  obtain ⟨cl0_46, Ar0_46, hin0_46, hat0_46⟩ := IA.at I0_43 (j := 6) (by decide)
  obtain ⟨T0_46, h0_46, X0_46, e0_46, W0_46, st0_46⟩ := stI Xhd0_45 hx hZ e0_43 Ar0_46 (j := (Int32.ofNat 6)) hin0_46 (g := (mkF m 157 #[.val (.int p0), .val (.int p1), .val (.int p2), .val (.int p3), .val (.int p4), .val (.int p5), .val (.int (f_min p0 (2147483632 : Int32))), .val (.int (j7 p0 p1 p2 p3 p4 p5)), .val (.int (j8 p0 p1 p2 p3 p4 p5)), .val (.ref b0_3), .val (.ref ub0_12), .unset, .unset, .unset, .unset, .unset, .unset, .unset, .unset, .unset, .unset, .unset, .unset, .unset, .unset, .unset] [(.int ((f_min p0 (2147483632 : Int32)) + (6 : Int32))), (.int (6 : Int32)), (.ref b0_17), (.ref b0_17), (.ref b0_15), (.ref b0_15)])) rfl rfl (hb hby at_157)
  have I0_46 : IA Z h0_46 b0_17 kI 16 [(f_min p0 (2147483632 : Int32)), ((f_min p0 (2147483632 : Int32)) + (1 : Int32)), ((f_min p0 (2147483632 : Int32)) + (2 : Int32)), ((f_min p0 (2147483632 : Int32)) + (3 : Int32)), ((f_min p0 (2147483632 : Int32)) + (4 : Int32)), ((f_min p0 (2147483632 : Int32)) + (5 : Int32)), ((f_min p0 (2147483632 : Int32)) + (6 : Int32))] := IA.push I0_43 (show 6 < 16 by decide) W0_46
  have N0_46 := Fr.snoc X0_46 Nhd0_45 g_b0_17
  refine own_fw st0_46 ?_
  have fc0_47 := ((fc0_39.other W0_43 (Or.inl ne_ub0_12_b0_17)).other W0_46 (Or.inl ne_ub0_12_b0_17))
  have fc0_48 := ((fc0_40.other W0_43 (Or.inl ne_b0_15_b0_17)).other W0_46 (Or.inl ne_b0_15_b0_17))
  have fc0_49 := (Nat.le_trans (Nat.le_trans fc0_41 (Keep.of_wr W0_43).1) (Keep.of_wr W0_46).1)
  obtain ⟨Lhd0_50, Xhd0_50, Nhd0_50⟩ := own_hide X0_46 N0_46
  refine own_fw (A := T0_46.setTop (mkF m 166 #[.val (.int p0), .val (.int p1), .val (.int p2), .val (.int p3), .val (.int p4), .val (.int p5), .val (.int (f_min p0 (2147483632 : Int32))), .val (.int (j7 p0 p1 p2 p3 p4 p5)), .val (.int (j8 p0 p1 p2 p3 p4 p5)), .val (.ref b0_3), .val (.ref ub0_12), .unset, .unset, .unset, .unset, .unset, .unset, .unset, .unset, .unset, .unset, .unset, .unset, .unset, .unset, .unset] [(.int ((f_min p0 (2147483632 : Int32)) + (7 : Int32))), (.int (7 : Int32)), (.ref b0_17), (.ref b0_17), (.ref b0_15), (.ref b0_15)])) (fun t k => ?_) ?_
  · refine ox_dup Xhd0_50.here hx (hb hby at_158) rfl rfl ?_
    refine ox_bipush Xhd0_50.here hx (hb hby at_159) ?_
    refine ox_iload Xhd0_50.here hx (hb hby at_161) rfl ?_
    refine ox_bipush Xhd0_50.here hx (hb hby at_163) ?_
    refine ox_iadd Xhd0_50.here hx (hb hby at_165) rfl ?_
    exact k
  obtain ⟨cl0_51, Ar0_51, hin0_51, hat0_51⟩ := IA.at I0_46 (j := 7) (by decide)
  obtain ⟨T0_51, h0_51, X0_51, e0_51, W0_51, st0_51⟩ := stI Xhd0_50 hx hZ e0_46 Ar0_51 (j := (Int32.ofNat 7)) hin0_51 (g := (mkF m 166 #[.val (.int p0), .val (.int p1), .val (.int p2), .val (.int p3), .val (.int p4), .val (.int p5), .val (.int (f_min p0 (2147483632 : Int32))), .val (.int (j7 p0 p1 p2 p3 p4 p5)), .val (.int (j8 p0 p1 p2 p3 p4 p5)), .val (.ref b0_3), .val (.ref ub0_12), .unset, .unset, .unset, .unset, .unset, .unset, .unset, .unset, .unset, .unset, .unset, .unset, .unset, .unset, .unset] [(.int ((f_min p0 (2147483632 : Int32)) + (7 : Int32))), (.int (7 : Int32)), (.ref b0_17), (.ref b0_17), (.ref b0_15), (.ref b0_15)])) rfl rfl (hb hby at_166)
  have I0_51 : IA Z h0_51 b0_17 kI 16 [(f_min p0 (2147483632 : Int32)), ((f_min p0 (2147483632 : Int32)) + (1 : Int32)), ((f_min p0 (2147483632 : Int32)) + (2 : Int32)), ((f_min p0 (2147483632 : Int32)) + (3 : Int32)), ((f_min p0 (2147483632 : Int32)) + (4 : Int32)), ((f_min p0 (2147483632 : Int32)) + (5 : Int32)), ((f_min p0 (2147483632 : Int32)) + (6 : Int32)), ((f_min p0 (2147483632 : Int32)) + (7 : Int32))] := IA.push I0_46 (show 7 < 16 by decide) W0_51
  have N0_51 := Fr.snoc X0_51 Nhd0_50 g_b0_17
  refine own_fw st0_51 ?_
  have fc0_52 := (((fc0_38.wr W0_43 g_b0_17).wr W0_46 g_b0_17).wr W0_51 g_b0_17)
  have fc0_53 := (((((fc0_28.wr W0_33).wr W0_37).wr W0_43).wr W0_46).wr W0_51)
  have fc0_54 := ((fc0_44.other W0_46 ne_mb0_12_b0_17).other W0_51 ne_mb0_12_b0_17)
  obtain ⟨Lhd0_55, Xhd0_55, Nhd0_55⟩ := own_hide X0_51 N0_51
  refine own_fw (A := T0_51.setTop (mkF m 175 #[.val (.int p0), .val (.int p1), .val (.int p2), .val (.int p3), .val (.int p4), .val (.int p5), .val (.int (f_min p0 (2147483632 : Int32))), .val (.int (j7 p0 p1 p2 p3 p4 p5)), .val (.int (j8 p0 p1 p2 p3 p4 p5)), .val (.ref b0_3), .val (.ref ub0_12), .unset, .unset, .unset, .unset, .unset, .unset, .unset, .unset, .unset, .unset, .unset, .unset, .unset, .unset, .unset] [(.int ((f_min p0 (2147483632 : Int32)) + (8 : Int32))), (.int (8 : Int32)), (.ref b0_17), (.ref b0_17), (.ref b0_15), (.ref b0_15)])) (fun t k => ?_) ?_
  · refine ox_dup Xhd0_55.here hx (hb hby at_167) rfl rfl ?_
    refine ox_bipush Xhd0_55.here hx (hb hby at_168) ?_
    refine ox_iload Xhd0_55.here hx (hb hby at_170) rfl ?_
    refine ox_bipush Xhd0_55.here hx (hb hby at_172) ?_
    refine ox_iadd Xhd0_55.here hx (hb hby at_174) rfl ?_
    exact k
  obtain ⟨cl0_56, Ar0_56, hin0_56, hat0_56⟩ := IA.at I0_51 (j := 8) (by decide)
  obtain ⟨T0_56, h0_56, X0_56, e0_56, W0_56, st0_56⟩ := stI Xhd0_55 hx hZ e0_51 Ar0_56 (j := (Int32.ofNat 8)) hin0_56 (g := (mkF m 175 #[.val (.int p0), .val (.int p1), .val (.int p2), .val (.int p3), .val (.int p4), .val (.int p5), .val (.int (f_min p0 (2147483632 : Int32))), .val (.int (j7 p0 p1 p2 p3 p4 p5)), .val (.int (j8 p0 p1 p2 p3 p4 p5)), .val (.ref b0_3), .val (.ref ub0_12), .unset, .unset, .unset, .unset, .unset, .unset, .unset, .unset, .unset, .unset, .unset, .unset, .unset, .unset, .unset] [(.int ((f_min p0 (2147483632 : Int32)) + (8 : Int32))), (.int (8 : Int32)), (.ref b0_17), (.ref b0_17), (.ref b0_15), (.ref b0_15)])) rfl rfl (hb hby at_175)
  have I0_56 : IA Z h0_56 b0_17 kI 16 [(f_min p0 (2147483632 : Int32)), ((f_min p0 (2147483632 : Int32)) + (1 : Int32)), ((f_min p0 (2147483632 : Int32)) + (2 : Int32)), ((f_min p0 (2147483632 : Int32)) + (3 : Int32)), ((f_min p0 (2147483632 : Int32)) + (4 : Int32)), ((f_min p0 (2147483632 : Int32)) + (5 : Int32)), ((f_min p0 (2147483632 : Int32)) + (6 : Int32)), ((f_min p0 (2147483632 : Int32)) + (7 : Int32)), ((f_min p0 (2147483632 : Int32)) + (8 : Int32))] := IA.push I0_51 (show 8 < 16 by decide) W0_56
  have N0_56 := Fr.snoc X0_56 Nhd0_55 g_b0_17
  refine own_fw st0_56 ?_
  have fc0_57 := ((fc0_47.other W0_51 (Or.inl ne_ub0_12_b0_17)).other W0_56 (Or.inl ne_ub0_12_b0_17))
  have fc0_58 := ((fc0_48.other W0_51 (Or.inl ne_b0_15_b0_17)).other W0_56 (Or.inl ne_b0_15_b0_17))
  have fc0_59 := (((((fc0_35.wr W0_37).wr W0_43).wr W0_46).wr W0_51).wr W0_56)
  have fc0_60 := (Nat.le_trans (Nat.le_trans fc0_49 (Keep.of_wr W0_51).1) (Keep.of_wr W0_56).1)
  obtain ⟨Lhd0_61, Xhd0_61, Nhd0_61⟩ := own_hide X0_56 N0_56
  refine own_fw (A := T0_56.setTop (mkF m 184 #[.val (.int p0), .val (.int p1), .val (.int p2), .val (.int p3), .val (.int p4), .val (.int p5), .val (.int (f_min p0 (2147483632 : Int32))), .val (.int (j7 p0 p1 p2 p3 p4 p5)), .val (.int (j8 p0 p1 p2 p3 p4 p5)), .val (.ref b0_3), .val (.ref ub0_12), .unset, .unset, .unset, .unset, .unset, .unset, .unset, .unset, .unset, .unset, .unset, .unset, .unset, .unset, .unset] [(.int ((f_min p0 (2147483632 : Int32)) + (9 : Int32))), (.int (9 : Int32)), (.ref b0_17), (.ref b0_17), (.ref b0_15), (.ref b0_15)])) (fun t k => ?_) ?_
  · refine ox_dup Xhd0_61.here hx (hb hby at_176) rfl rfl ?_
    refine ox_bipush Xhd0_61.here hx (hb hby at_177) ?_
    refine ox_iload Xhd0_61.here hx (hb hby at_179) rfl ?_
    refine ox_bipush Xhd0_61.here hx (hb hby at_181) ?_
    refine ox_iadd Xhd0_61.here hx (hb hby at_183) rfl ?_
    exact k
  obtain ⟨cl0_62, Ar0_62, hin0_62, hat0_62⟩ := IA.at I0_56 (j := 9) (by decide)
  obtain ⟨T0_62, h0_62, X0_62, e0_62, W0_62, st0_62⟩ := stI Xhd0_61 hx hZ e0_56 Ar0_62 (j := (Int32.ofNat 9)) hin0_62 (g := (mkF m 184 #[.val (.int p0), .val (.int p1), .val (.int p2), .val (.int p3), .val (.int p4), .val (.int p5), .val (.int (f_min p0 (2147483632 : Int32))), .val (.int (j7 p0 p1 p2 p3 p4 p5)), .val (.int (j8 p0 p1 p2 p3 p4 p5)), .val (.ref b0_3), .val (.ref ub0_12), .unset, .unset, .unset, .unset, .unset, .unset, .unset, .unset, .unset, .unset, .unset, .unset, .unset, .unset, .unset] [(.int ((f_min p0 (2147483632 : Int32)) + (9 : Int32))), (.int (9 : Int32)), (.ref b0_17), (.ref b0_17), (.ref b0_15), (.ref b0_15)])) rfl rfl (hb hby at_184)
  have I0_62 : IA Z h0_62 b0_17 kI 16 [(f_min p0 (2147483632 : Int32)), ((f_min p0 (2147483632 : Int32)) + (1 : Int32)), ((f_min p0 (2147483632 : Int32)) + (2 : Int32)), ((f_min p0 (2147483632 : Int32)) + (3 : Int32)), ((f_min p0 (2147483632 : Int32)) + (4 : Int32)), ((f_min p0 (2147483632 : Int32)) + (5 : Int32)), ((f_min p0 (2147483632 : Int32)) + (6 : Int32)), ((f_min p0 (2147483632 : Int32)) + (7 : Int32)), ((f_min p0 (2147483632 : Int32)) + (8 : Int32)), ((f_min p0 (2147483632 : Int32)) + (9 : Int32))] := IA.push I0_56 (show 9 < 16 by decide) W0_62
  have N0_62 := Fr.snoc X0_62 Nhd0_61 g_b0_17
  refine own_fw st0_62 ?_
  have fc0_63 := ((fc0_54.other W0_56 ne_mb0_12_b0_17).other W0_62 ne_mb0_12_b0_17)
  obtain ⟨Lhd0_64, Xhd0_64, Nhd0_64⟩ := own_hide X0_62 N0_62
  refine own_fw (A := T0_62.setTop (mkF m 193 #[.val (.int p0), .val (.int p1), .val (.int p2), .val (.int p3), .val (.int p4), .val (.int p5), .val (.int (f_min p0 (2147483632 : Int32))), .val (.int (j7 p0 p1 p2 p3 p4 p5)), .val (.int (j8 p0 p1 p2 p3 p4 p5)), .val (.ref b0_3), .val (.ref ub0_12), .unset, .unset, .unset, .unset, .unset, .unset, .unset, .unset, .unset, .unset, .unset, .unset, .unset, .unset, .unset] [(.int ((f_min p0 (2147483632 : Int32)) + (10 : Int32))), (.int (10 : Int32)), (.ref b0_17), (.ref b0_17), (.ref b0_15), (.ref b0_15)])) (fun t k => ?_) ?_
  · refine ox_dup Xhd0_64.here hx (hb hby at_185) rfl rfl ?_
    refine ox_bipush Xhd0_64.here hx (hb hby at_186) ?_
    refine ox_iload Xhd0_64.here hx (hb hby at_188) rfl ?_
    refine ox_bipush Xhd0_64.here hx (hb hby at_190) ?_
    refine ox_iadd Xhd0_64.here hx (hb hby at_192) rfl ?_
    exact k
  obtain ⟨cl0_65, Ar0_65, hin0_65, hat0_65⟩ := IA.at I0_62 (j := 10) (by decide)
  obtain ⟨T0_65, h0_65, X0_65, e0_65, W0_65, st0_65⟩ := stI Xhd0_64 hx hZ e0_62 Ar0_65 (j := (Int32.ofNat 10)) hin0_65 (g := (mkF m 193 #[.val (.int p0), .val (.int p1), .val (.int p2), .val (.int p3), .val (.int p4), .val (.int p5), .val (.int (f_min p0 (2147483632 : Int32))), .val (.int (j7 p0 p1 p2 p3 p4 p5)), .val (.int (j8 p0 p1 p2 p3 p4 p5)), .val (.ref b0_3), .val (.ref ub0_12), .unset, .unset, .unset, .unset, .unset, .unset, .unset, .unset, .unset, .unset, .unset, .unset, .unset, .unset, .unset] [(.int ((f_min p0 (2147483632 : Int32)) + (10 : Int32))), (.int (10 : Int32)), (.ref b0_17), (.ref b0_17), (.ref b0_15), (.ref b0_15)])) rfl rfl (hb hby at_193)
  have I0_65 : IA Z h0_65 b0_17 kI 16 [(f_min p0 (2147483632 : Int32)), ((f_min p0 (2147483632 : Int32)) + (1 : Int32)), ((f_min p0 (2147483632 : Int32)) + (2 : Int32)), ((f_min p0 (2147483632 : Int32)) + (3 : Int32)), ((f_min p0 (2147483632 : Int32)) + (4 : Int32)), ((f_min p0 (2147483632 : Int32)) + (5 : Int32)), ((f_min p0 (2147483632 : Int32)) + (6 : Int32)), ((f_min p0 (2147483632 : Int32)) + (7 : Int32)), ((f_min p0 (2147483632 : Int32)) + (8 : Int32)), ((f_min p0 (2147483632 : Int32)) + (9 : Int32)), ((f_min p0 (2147483632 : Int32)) + (10 : Int32))] := IA.push I0_62 (show 10 < 16 by decide) W0_65
  have N0_65 := Fr.snoc X0_65 Nhd0_64 g_b0_17
  refine own_fw st0_65 ?_
  have fc0_66 := (((fc0_52.wr W0_56 g_b0_17).wr W0_62 g_b0_17).wr W0_65 g_b0_17)
  have fc0_67 := ((fc0_57.other W0_62 (Or.inl ne_ub0_12_b0_17)).other W0_65 (Or.inl ne_ub0_12_b0_17))
  have fc0_68 := ((fc0_58.other W0_62 (Or.inl ne_b0_15_b0_17)).other W0_65 (Or.inl ne_b0_15_b0_17))
  have fc0_69 := (Nat.le_trans (Nat.le_trans fc0_60 (Keep.of_wr W0_62).1) (Keep.of_wr W0_65).1)
  obtain ⟨Lhd0_70, Xhd0_70, Nhd0_70⟩ := own_hide X0_65 N0_65
  refine own_fw (A := T0_65.setTop (mkF m 202 #[.val (.int p0), .val (.int p1), .val (.int p2), .val (.int p3), .val (.int p4), .val (.int p5), .val (.int (f_min p0 (2147483632 : Int32))), .val (.int (j7 p0 p1 p2 p3 p4 p5)), .val (.int (j8 p0 p1 p2 p3 p4 p5)), .val (.ref b0_3), .val (.ref ub0_12), .unset, .unset, .unset, .unset, .unset, .unset, .unset, .unset, .unset, .unset, .unset, .unset, .unset, .unset, .unset] [(.int ((f_min p0 (2147483632 : Int32)) + (11 : Int32))), (.int (11 : Int32)), (.ref b0_17), (.ref b0_17), (.ref b0_15), (.ref b0_15)])) (fun t k => ?_) ?_
  · refine ox_dup Xhd0_70.here hx (hb hby at_194) rfl rfl ?_
    refine ox_bipush Xhd0_70.here hx (hb hby at_195) ?_
    refine ox_iload Xhd0_70.here hx (hb hby at_197) rfl ?_
    refine ox_bipush Xhd0_70.here hx (hb hby at_199) ?_
    refine ox_iadd Xhd0_70.here hx (hb hby at_201) rfl ?_
    exact k
  obtain ⟨cl0_71, Ar0_71, hin0_71, hat0_71⟩ := IA.at I0_65 (j := 11) (by decide)
  obtain ⟨T0_71, h0_71, X0_71, e0_71, W0_71, st0_71⟩ := stI Xhd0_70 hx hZ e0_65 Ar0_71 (j := (Int32.ofNat 11)) hin0_71 (g := (mkF m 202 #[.val (.int p0), .val (.int p1), .val (.int p2), .val (.int p3), .val (.int p4), .val (.int p5), .val (.int (f_min p0 (2147483632 : Int32))), .val (.int (j7 p0 p1 p2 p3 p4 p5)), .val (.int (j8 p0 p1 p2 p3 p4 p5)), .val (.ref b0_3), .val (.ref ub0_12), .unset, .unset, .unset, .unset, .unset, .unset, .unset, .unset, .unset, .unset, .unset, .unset, .unset, .unset, .unset] [(.int ((f_min p0 (2147483632 : Int32)) + (11 : Int32))), (.int (11 : Int32)), (.ref b0_17), (.ref b0_17), (.ref b0_15), (.ref b0_15)])) rfl rfl (hb hby at_202)
  have I0_71 : IA Z h0_71 b0_17 kI 16 [(f_min p0 (2147483632 : Int32)), ((f_min p0 (2147483632 : Int32)) + (1 : Int32)), ((f_min p0 (2147483632 : Int32)) + (2 : Int32)), ((f_min p0 (2147483632 : Int32)) + (3 : Int32)), ((f_min p0 (2147483632 : Int32)) + (4 : Int32)), ((f_min p0 (2147483632 : Int32)) + (5 : Int32)), ((f_min p0 (2147483632 : Int32)) + (6 : Int32)), ((f_min p0 (2147483632 : Int32)) + (7 : Int32)), ((f_min p0 (2147483632 : Int32)) + (8 : Int32)), ((f_min p0 (2147483632 : Int32)) + (9 : Int32)), ((f_min p0 (2147483632 : Int32)) + (10 : Int32)), ((f_min p0 (2147483632 : Int32)) + (11 : Int32))] := IA.push I0_65 (show 11 < 16 by decide) W0_71
  have N0_71 := Fr.snoc X0_71 Nhd0_70 g_b0_17
  refine own_fw st0_71 ?_
  have fc0_72 := ((fc0_63.other W0_65 ne_mb0_12_b0_17).other W0_71 ne_mb0_12_b0_17)
  obtain ⟨Lhd0_73, Xhd0_73, Nhd0_73⟩ := own_hide X0_71 N0_71
  refine own_fw (A := T0_71.setTop (mkF m 211 #[.val (.int p0), .val (.int p1), .val (.int p2), .val (.int p3), .val (.int p4), .val (.int p5), .val (.int (f_min p0 (2147483632 : Int32))), .val (.int (j7 p0 p1 p2 p3 p4 p5)), .val (.int (j8 p0 p1 p2 p3 p4 p5)), .val (.ref b0_3), .val (.ref ub0_12), .unset, .unset, .unset, .unset, .unset, .unset, .unset, .unset, .unset, .unset, .unset, .unset, .unset, .unset, .unset] [(.int ((f_min p0 (2147483632 : Int32)) + (12 : Int32))), (.int (12 : Int32)), (.ref b0_17), (.ref b0_17), (.ref b0_15), (.ref b0_15)])) (fun t k => ?_) ?_
  · refine ox_dup Xhd0_73.here hx (hb hby at_203) rfl rfl ?_
    refine ox_bipush Xhd0_73.here hx (hb hby at_204) ?_
    refine ox_iload Xhd0_73.here hx (hb hby at_206) rfl ?_
    refine ox_bipush Xhd0_73.here hx (hb hby at_208) ?_
    refine ox_iadd Xhd0_73.here hx (hb hby at_210) rfl ?_
    exact k
  obtain ⟨cl0_74, Ar0_74, hin0_74, hat0_74⟩ := IA.at I0_71 (j := 12) (by decide)
  obtain ⟨T0_74, h0_74, X0_74, e0_74, W0_74, st0_74⟩ := stI Xhd0_73 hx hZ e0_71 Ar0_74 (j := (Int32.ofNat 12)) hin0_74 (g := (mkF m 211 #[.val (.int p0), .val (.int p1), .val (.int p2), .val (.int p3), .val (.int p4), .val (.int p5), .val (.int (f_min p0 (2147483632 : Int32))), .val (.int (j7 p0 p1 p2 p3 p4 p5)), .val (.int (j8 p0 p1 p2 p3 p4 p5)), .val (.ref b0_3), .val (.ref ub0_12), .unset, .unset, .unset, .unset, .unset, .unset, .unset, .unset, .unset, .unset, .unset, .unset, .unset, .unset, .unset] [(.int ((f_min p0 (2147483632 : Int32)) + (12 : Int32))), (.int (12 : Int32)), (.ref b0_17), (.ref b0_17), (.ref b0_15), (.ref b0_15)])) rfl rfl (hb hby at_211)
  have I0_74 : IA Z h0_74 b0_17 kI 16 [(f_min p0 (2147483632 : Int32)), ((f_min p0 (2147483632 : Int32)) + (1 : Int32)), ((f_min p0 (2147483632 : Int32)) + (2 : Int32)), ((f_min p0 (2147483632 : Int32)) + (3 : Int32)), ((f_min p0 (2147483632 : Int32)) + (4 : Int32)), ((f_min p0 (2147483632 : Int32)) + (5 : Int32)), ((f_min p0 (2147483632 : Int32)) + (6 : Int32)), ((f_min p0 (2147483632 : Int32)) + (7 : Int32)), ((f_min p0 (2147483632 : Int32)) + (8 : Int32)), ((f_min p0 (2147483632 : Int32)) + (9 : Int32)), ((f_min p0 (2147483632 : Int32)) + (10 : Int32)), ((f_min p0 (2147483632 : Int32)) + (11 : Int32)), ((f_min p0 (2147483632 : Int32)) + (12 : Int32))] := IA.push I0_71 (show 12 < 16 by decide) W0_74
  have N0_74 := Fr.snoc X0_74 Nhd0_73 g_b0_17
  refine own_fw st0_74 ?_
  have fc0_75 := (((((fc0_53.wr W0_56).wr W0_62).wr W0_65).wr W0_71).wr W0_74)
  have fc0_76 := ((fc0_67.other W0_71 (Or.inl ne_ub0_12_b0_17)).other W0_74 (Or.inl ne_ub0_12_b0_17))
  have fc0_77 := ((fc0_68.other W0_71 (Or.inl ne_b0_15_b0_17)).other W0_74 (Or.inl ne_b0_15_b0_17))
  have fc0_78 := (Nat.le_trans (Nat.le_trans fc0_69 (Keep.of_wr W0_71).1) (Keep.of_wr W0_74).1)
  obtain ⟨Lhd0_79, Xhd0_79, Nhd0_79⟩ := own_hide X0_74 N0_74
  refine own_fw (A := T0_74.setTop (mkF m 220 #[.val (.int p0), .val (.int p1), .val (.int p2), .val (.int p3), .val (.int p4), .val (.int p5), .val (.int (f_min p0 (2147483632 : Int32))), .val (.int (j7 p0 p1 p2 p3 p4 p5)), .val (.int (j8 p0 p1 p2 p3 p4 p5)), .val (.ref b0_3), .val (.ref ub0_12), .unset, .unset, .unset, .unset, .unset, .unset, .unset, .unset, .unset, .unset, .unset, .unset, .unset, .unset, .unset] [(.int ((f_min p0 (2147483632 : Int32)) + (13 : Int32))), (.int (13 : Int32)), (.ref b0_17), (.ref b0_17), (.ref b0_15), (.ref b0_15)])) (fun t k => ?_) ?_
  · refine ox_dup Xhd0_79.here hx (hb hby at_212) rfl rfl ?_
    refine ox_bipush Xhd0_79.here hx (hb hby at_213) ?_
    refine ox_iload Xhd0_79.here hx (hb hby at_215) rfl ?_
    refine ox_bipush Xhd0_79.here hx (hb hby at_217) ?_
    refine ox_iadd Xhd0_79.here hx (hb hby at_219) rfl ?_
    exact k
  obtain ⟨cl0_80, Ar0_80, hin0_80, hat0_80⟩ := IA.at I0_74 (j := 13) (by decide)
  obtain ⟨T0_80, h0_80, X0_80, e0_80, W0_80, st0_80⟩ := stI Xhd0_79 hx hZ e0_74 Ar0_80 (j := (Int32.ofNat 13)) hin0_80 (g := (mkF m 220 #[.val (.int p0), .val (.int p1), .val (.int p2), .val (.int p3), .val (.int p4), .val (.int p5), .val (.int (f_min p0 (2147483632 : Int32))), .val (.int (j7 p0 p1 p2 p3 p4 p5)), .val (.int (j8 p0 p1 p2 p3 p4 p5)), .val (.ref b0_3), .val (.ref ub0_12), .unset, .unset, .unset, .unset, .unset, .unset, .unset, .unset, .unset, .unset, .unset, .unset, .unset, .unset, .unset] [(.int ((f_min p0 (2147483632 : Int32)) + (13 : Int32))), (.int (13 : Int32)), (.ref b0_17), (.ref b0_17), (.ref b0_15), (.ref b0_15)])) rfl rfl (hb hby at_220)
  have I0_80 : IA Z h0_80 b0_17 kI 16 [(f_min p0 (2147483632 : Int32)), ((f_min p0 (2147483632 : Int32)) + (1 : Int32)), ((f_min p0 (2147483632 : Int32)) + (2 : Int32)), ((f_min p0 (2147483632 : Int32)) + (3 : Int32)), ((f_min p0 (2147483632 : Int32)) + (4 : Int32)), ((f_min p0 (2147483632 : Int32)) + (5 : Int32)), ((f_min p0 (2147483632 : Int32)) + (6 : Int32)), ((f_min p0 (2147483632 : Int32)) + (7 : Int32)), ((f_min p0 (2147483632 : Int32)) + (8 : Int32)), ((f_min p0 (2147483632 : Int32)) + (9 : Int32)), ((f_min p0 (2147483632 : Int32)) + (10 : Int32)), ((f_min p0 (2147483632 : Int32)) + (11 : Int32)), ((f_min p0 (2147483632 : Int32)) + (12 : Int32)), ((f_min p0 (2147483632 : Int32)) + (13 : Int32))] := IA.push I0_74 (show 13 < 16 by decide) W0_80
  have N0_80 := Fr.snoc X0_80 Nhd0_79 g_b0_17
  refine own_fw st0_80 ?_
  have fc0_81 := (((fc0_66.wr W0_71 g_b0_17).wr W0_74 g_b0_17).wr W0_80 g_b0_17)
  have fc0_82 := ((fc0_72.other W0_74 ne_mb0_12_b0_17).other W0_80 ne_mb0_12_b0_17)
  have fc0_83 := (((((fc0_59.wr W0_62).wr W0_65).wr W0_71).wr W0_74).wr W0_80)
  obtain ⟨Lhd0_84, Xhd0_84, Nhd0_84⟩ := own_hide X0_80 N0_80
  refine own_fw (A := T0_80.setTop (mkF m 229 #[.val (.int p0), .val (.int p1), .val (.int p2), .val (.int p3), .val (.int p4), .val (.int p5), .val (.int (f_min p0 (2147483632 : Int32))), .val (.int (j7 p0 p1 p2 p3 p4 p5)), .val (.int (j8 p0 p1 p2 p3 p4 p5)), .val (.ref b0_3), .val (.ref ub0_12), .unset, .unset, .unset, .unset, .unset, .unset, .unset, .unset, .unset, .unset, .unset, .unset, .unset, .unset, .unset] [(.int ((f_min p0 (2147483632 : Int32)) + (14 : Int32))), (.int (14 : Int32)), (.ref b0_17), (.ref b0_17), (.ref b0_15), (.ref b0_15)])) (fun t k => ?_) ?_
  · refine ox_dup Xhd0_84.here hx (hb hby at_221) rfl rfl ?_
    refine ox_bipush Xhd0_84.here hx (hb hby at_222) ?_
    refine ox_iload Xhd0_84.here hx (hb hby at_224) rfl ?_
    refine ox_bipush Xhd0_84.here hx (hb hby at_226) ?_
    refine ox_iadd Xhd0_84.here hx (hb hby at_228) rfl ?_
    exact k
  obtain ⟨cl0_85, Ar0_85, hin0_85, hat0_85⟩ := IA.at I0_80 (j := 14) (by decide)
  obtain ⟨T0_85, h0_85, X0_85, e0_85, W0_85, st0_85⟩ := stI Xhd0_84 hx hZ e0_80 Ar0_85 (j := (Int32.ofNat 14)) hin0_85 (g := (mkF m 229 #[.val (.int p0), .val (.int p1), .val (.int p2), .val (.int p3), .val (.int p4), .val (.int p5), .val (.int (f_min p0 (2147483632 : Int32))), .val (.int (j7 p0 p1 p2 p3 p4 p5)), .val (.int (j8 p0 p1 p2 p3 p4 p5)), .val (.ref b0_3), .val (.ref ub0_12), .unset, .unset, .unset, .unset, .unset, .unset, .unset, .unset, .unset, .unset, .unset, .unset, .unset, .unset, .unset] [(.int ((f_min p0 (2147483632 : Int32)) + (14 : Int32))), (.int (14 : Int32)), (.ref b0_17), (.ref b0_17), (.ref b0_15), (.ref b0_15)])) rfl rfl (hb hby at_229)
  have I0_85 : IA Z h0_85 b0_17 kI 16 [(f_min p0 (2147483632 : Int32)), ((f_min p0 (2147483632 : Int32)) + (1 : Int32)), ((f_min p0 (2147483632 : Int32)) + (2 : Int32)), ((f_min p0 (2147483632 : Int32)) + (3 : Int32)), ((f_min p0 (2147483632 : Int32)) + (4 : Int32)), ((f_min p0 (2147483632 : Int32)) + (5 : Int32)), ((f_min p0 (2147483632 : Int32)) + (6 : Int32)), ((f_min p0 (2147483632 : Int32)) + (7 : Int32)), ((f_min p0 (2147483632 : Int32)) + (8 : Int32)), ((f_min p0 (2147483632 : Int32)) + (9 : Int32)), ((f_min p0 (2147483632 : Int32)) + (10 : Int32)), ((f_min p0 (2147483632 : Int32)) + (11 : Int32)), ((f_min p0 (2147483632 : Int32)) + (12 : Int32)), ((f_min p0 (2147483632 : Int32)) + (13 : Int32)), ((f_min p0 (2147483632 : Int32)) + (14 : Int32))] := IA.push I0_80 (show 14 < 16 by decide) W0_85
  have N0_85 := Fr.snoc X0_85 Nhd0_84 g_b0_17
  refine own_fw st0_85 ?_
  have fc0_86 := ((fc0_76.other W0_80 (Or.inl ne_ub0_12_b0_17)).other W0_85 (Or.inl ne_ub0_12_b0_17))
  have fc0_87 := ((fc0_77.other W0_80 (Or.inl ne_b0_15_b0_17)).other W0_85 (Or.inl ne_b0_15_b0_17))
  have fc0_88 := (Nat.le_trans (Nat.le_trans fc0_78 (Keep.of_wr W0_80).1) (Keep.of_wr W0_85).1)
  obtain ⟨Lhd0_89, Xhd0_89, Nhd0_89⟩ := own_hide X0_85 N0_85
  refine own_fw (A := T0_85.setTop (mkF m 238 #[.val (.int p0), .val (.int p1), .val (.int p2), .val (.int p3), .val (.int p4), .val (.int p5), .val (.int (f_min p0 (2147483632 : Int32))), .val (.int (j7 p0 p1 p2 p3 p4 p5)), .val (.int (j8 p0 p1 p2 p3 p4 p5)), .val (.ref b0_3), .val (.ref ub0_12), .unset, .unset, .unset, .unset, .unset, .unset, .unset, .unset, .unset, .unset, .unset, .unset, .unset, .unset, .unset] [(.int ((f_min p0 (2147483632 : Int32)) + (15 : Int32))), (.int (15 : Int32)), (.ref b0_17), (.ref b0_17), (.ref b0_15), (.ref b0_15)])) (fun t k => ?_) ?_
  · refine ox_dup Xhd0_89.here hx (hb hby at_230) rfl rfl ?_
    refine ox_bipush Xhd0_89.here hx (hb hby at_231) ?_
    refine ox_iload Xhd0_89.here hx (hb hby at_233) rfl ?_
    refine ox_bipush Xhd0_89.here hx (hb hby at_235) ?_
    refine ox_iadd Xhd0_89.here hx (hb hby at_237) rfl ?_
    exact k
  obtain ⟨cl0_90, Ar0_90, hin0_90, hat0_90⟩ := IA.at I0_85 (j := 15) (by decide)
  obtain ⟨T0_90, h0_90, X0_90, e0_90, W0_90, st0_90⟩ := stI Xhd0_89 hx hZ e0_85 Ar0_90 (j := (Int32.ofNat 15)) hin0_90 (g := (mkF m 238 #[.val (.int p0), .val (.int p1), .val (.int p2), .val (.int p3), .val (.int p4), .val (.int p5), .val (.int (f_min p0 (2147483632 : Int32))), .val (.int (j7 p0 p1 p2 p3 p4 p5)), .val (.int (j8 p0 p1 p2 p3 p4 p5)), .val (.ref b0_3), .val (.ref ub0_12), .unset, .unset, .unset, .unset, .unset, .unset, .unset, .unset, .unset, .unset, .unset, .unset, .unset, .unset, .unset] [(.int ((f_min p0 (2147483632 : Int32)) + (15 : Int32))), (.int (15 : Int32)), (.ref b0_17), (.ref b0_17), (.ref b0_15), (.ref b0_15)])) rfl rfl (hb hby at_238)
  have I0_90 : IA Z h0_90 b0_17 kI 16 [(f_min p0 (2147483632 : Int32)), ((f_min p0 (2147483632 : Int32)) + (1 : Int32)), ((f_min p0 (2147483632 : Int32)) + (2 : Int32)), ((f_min p0 (2147483632 : Int32)) + (3 : Int32)), ((f_min p0 (2147483632 : Int32)) + (4 : Int32)), ((f_min p0 (2147483632 : Int32)) + (5 : Int32)), ((f_min p0 (2147483632 : Int32)) + (6 : Int32)), ((f_min p0 (2147483632 : Int32)) + (7 : Int32)), ((f_min p0 (2147483632 : Int32)) + (8 : Int32)), ((f_min p0 (2147483632 : Int32)) + (9 : Int32)), ((f_min p0 (2147483632 : Int32)) + (10 : Int32)), ((f_min p0 (2147483632 : Int32)) + (11 : Int32)), ((f_min p0 (2147483632 : Int32)) + (12 : Int32)), ((f_min p0 (2147483632 : Int32)) + (13 : Int32)), ((f_min p0 (2147483632 : Int32)) + (14 : Int32)), ((f_min p0 (2147483632 : Int32)) + (15 : Int32))] := IA.push I0_85 (show 15 < 16 by decide) W0_90
  have N0_90 := Fr.snoc X0_90 Nhd0_89 g_b0_17
  refine own_fw st0_90 ?_
  have fc0_91 := ((fc0_82.other W0_85 ne_mb0_12_b0_17).other W0_90 ne_mb0_12_b0_17)
  obtain ⟨Lhd0_92, Xhd0_92, Nhd0_92⟩ := own_hide X0_90 N0_90
  obtain ⟨_, _, ⟨T0_93, L0_93, k0_93, n0_93⟩, -, X0_93, ⟨Lc0_93, hQ0_93, l0_93, y0_93, z0_93⟩, st0_93⟩ := Xhd0_92.specialBack hx (y := mN12) rfl hown (mvT hZ (own_w hw 70 rfl)) (mvT hZ (own_w hw 64 rfl)) (mvT hZ (own_w hw 65 rfl)) (by decide) (backOf (W := 1) (rm11 l Z a0 hw [] b0_15 b0_17 h0_90 n0 (Nat.le_trans fc0_88 (Keep.of_wr W0_90).1) ((fc0_83.wr W0_85).wr W0_90) (fc0_87.other W0_90 (Or.inl ne_b0_15_b0_17)) g_b0_15) hZ (own_w hw 65 rfl) (own_w hw 53 rfl) (by decide) (by decide)) (g := (mkF m 239 #[.val (.int p0), .val (.int p1), .val (.int p2), .val (.int p3), .val (.int p4), .val (.int p5), .val (.int (f_min p0 (2147483632 : Int32))), .val (.int (j7 p0 p1 p2 p3 p4 p5)), .val (.int (j8 p0 p1 p2 p3 p4 p5)), .val (.ref b0_3), .val (.ref ub0_12), .unset, .unset, .unset, .unset, .unset, .unset, .unset, .unset, .unset, .unset, .unset, .unset, .unset, .unset, .unset] [(.ref b0_17), (.ref b0_15), (.ref b0_15)])) rfl (by rw [hml]; rfl) (Steps.refl _) (a := b0_15) (argsL := [(.ref b0_17)]) (rest := [(.ref b0_15)]) (lenOf pd0_4 rfl) rfl (own_mr rfl) (hb hby at_239) (fun _ _ => ⟨rfl, e0_90, (by decide : 7 + 0 ≤ _), (by decide : 72 + 0 ≤ _)⟩)
  dsimp only [Pt.U, Pt.locs, Pt.cells, Pt.slots] at X0_93 l0_93 y0_93 z0_93 st0_93 hQ0_93
  subst l0_93 y0_93 z0_93
  obtain ⟨rfl, N0_93q, K0_93, Ex0_93, Fm0_93⟩ := hQ0_93
  have N0_93 := Fr.app Nhd0_92 N0_93q
  refine own_fw (fun t k => st0_93.trans k) ?_
  have fc0_94 := (((fc0_81.wr W0_85 g_b0_17).wr W0_90 g_b0_17).keep K0_93 (allS g_b0_15 all0))
  have fc0_95 := ((fc0_86.other W0_90 (Or.inl ne_ub0_12_b0_17)).keep K0_93 (fun q => ne_ub0_12_b0_15 (List.mem_singleton.mp q)))
  have fc0_96 := (fc0_91.keep K0_93 (fun q => ne_mb0_12_b0_15 (List.mem_singleton.mp q)))
  have fc0_97 := (I0_90.keep K0_93 (fun q => (Ne.symm ne_b0_15_b0_17) (List.mem_singleton.mp q)))
  have fc0_98 := (Nat.le_trans (Nat.le_trans fc0_88 (Keep.of_wr W0_90).1) K0_93.1)
  obtain ⟨Lhd0_99, Xhd0_99, Nhd0_99⟩ := own_hide X0_93 N0_93
  refine own_fw (A := T0_93.setTop (mkF m 244 #[.val (.int p0), .val (.int p1), .val (.int p2), .val (.int p3), .val (.int p4), .val (.int p5), .val (.int (f_min p0 (2147483632 : Int32))), .val (.int (j7 p0 p1 p2 p3 p4 p5)), .val (.int (j8 p0 p1 p2 p3 p4 p5)), .val (.ref b0_3), .val (.ref ub0_12), .val (.ref b0_15), .unset, .unset, .unset, .unset, .unset, .unset, .unset, .unset, .unset, .unset, .unset, .unset, .unset, .unset] [])) (fun t k => ?_) ?_
  · refine ox_astore Xhd0_99.here hx (hb hby at_242) rfl rfl (l' := #[.val (.int p0), .val (.int p1), .val (.int p2), .val (.int p3), .val (.int p4), .val (.int p5), .val (.int (f_min p0 (2147483632 : Int32))), .val (.int (j7 p0 p1 p2 p3 p4 p5)), .val (.int (j8 p0 p1 p2 p3 p4 p5)), .val (.ref b0_3), .val (.ref ub0_12), .val (.ref b0_15), .unset, .unset, .unset, .unset, .unset, .unset, .unset, .unset, .unset, .unset, .unset, .unset, .unset, .unset]) rfl ?_
    exact k
  obtain ⟨T0_100, h0_100, X0_100, e0_100, E0_100, A0_100, D0_100, -, st0_100⟩ := newO Xhd0_99 hx hZ hown (own_w hw 71 rfl) (own_w hw 72 rfl) (own_w hw 73 rfl) rfl (g := (mkF m 244 #[.val (.int p0), .val (.int p1), .val (.int p2), .val (.int p3), .val (.int p4), .val (.int p5), .val (.int (f_min p0 (2147483632 : Int32))), .val (.int (j7 p0 p1 p2 p3 p4 p5)), .val (.int (j8 p0 p1 p2 p3 p4 p5)), .val (.ref b0_3), .val (.ref ub0_12), .val (.ref b0_15), .unset, .unset, .unset, .unset, .unset, .unset, .unset, .unset, .unset, .unset, .unset, .unset, .unset, .unset] [])) rfl (hb hby at_244) (by decide) (by decide)
  obtain ⟨b0_100, g0_100⟩ : ∃ z, z = T0_93.heap.size := ⟨_, rfl⟩
  rw [← g0_100] at A0_100 D0_100 st0_100
  have ne_ub0_12_b0_100 : ub0_12 ≠ b0_100 := Nat.ne_of_lt (Nat.lt_of_lt_of_le ((((fc0_75.wr W0_80).wr W0_85).wr W0_90).keep K0_93).lt (Nat.le_of_eq g0_100.symm))
  have ne_mb0_12_b0_100 : mb0_12 ≠ b0_100 := Nat.ne_of_lt (Nat.lt_of_lt_of_le fc0_96.lt (Nat.le_of_eq g0_100.symm))
  have ne_b0_15_b0_100 : b0_15 ≠ b0_100 := Nat.ne_of_lt (Nat.lt_of_lt_of_le Ex0_93.lt (Nat.le_of_eq g0_100.symm))
  have ne_b0_17_b0_100 : b0_17 ≠ b0_100 := Nat.ne_of_lt (Nat.lt_of_lt_of_le fc0_97.lt (Nat.le_of_eq g0_100.symm))
  have g_b0_100 : n0 ≤ b0_100 := Nat.le_trans fc0_98 (Nat.le_of_eq g0_100.symm)
  have F_modCount_b0_100 : Fld Z h0_100 b0_100 "java/util/AbstractList" "modCount" "I" (.int (0 : Int32)) := D0_100 (Or.inl (own_w hw 91 rfl)) (ty := .int) (by decide)
  have F_elementData_b0_100 : Fld Z h0_100 b0_100 "java/util/ArrayList" "elementData" "[Ljava/lang/Object;" .null := D0_100 (Or.inl (own_w hw 94 rfl)) (ty := (.array (.object "java/lang/Object"))) (by decide)
  have F_size_b0_100 : Fld Z h0_100 b0_100 "java/util/ArrayList" "size" "I" (.int (0 : Int32)) := D0_100 (Or.inl (own_w hw 103 rfl)) (ty := .int) (by decide)
  refine own_fw st0_100 ?_
  have fc0_101 := (((((fc0_75.wr W0_80).wr W0_85).wr W0_90).keep K0_93).ext E0_100)
  refine own_fw (A := T0_100.setTop (mkF m 248 #[.val (.int p0), .val (.int p1), .val (.int p2), .val (.int p3), .val (.int p4), .val (.int p5), .val (.int (f_min p0 (2147483632 : Int32))), .val (.int (j7 p0 p1 p2 p3 p4 p5)), .val (.int (j8 p0 p1 p2 p3 p4 p5)), .val (.ref b0_3), .val (.ref ub0_12), .val (.ref b0_15), .unset, .unset, .unset, .unset, .unset, .unset, .unset, .unset, .unset, .unset, .unset, .unset, .unset, .unset] [(.ref b0_100), (.ref b0_100)])) (fun t k => ?_) ?_
  · refine ox_dup X0_100.here hx (hb hby at_247) rfl rfl ?_
    exact k
  obtain ⟨_, _, ⟨T0_102, L0_102, k0_102, n0_102⟩, -, X0_102, ⟨Lc0_102, hQ0_102, l0_102, y0_102, z0_102⟩, st0_102⟩ := X0_100.specialBack hx (y := mN14) rfl hown (mvT hZ (own_w hw 74 rfl)) (mvT hZ (own_w hw 75 rfl)) (mvT hZ (own_w hw 76 rfl)) (by decide) (backOf (W := 1) (rm12 l Z a0 hw [] b0_100 d0 k0 h0_100 n0 (Nat.le_trans fc0_98 E0_100.1) A0_100 F_elementData_b0_100 F_size_b0_100 F_modCount_b0_100 g_b0_100 (fc0_94.ext E0_100) S_d V_d) hZ (own_w hw 76 rfl) (own_w hw 73 rfl) (by decide) (by decide)) (g := (mkF m 248 #[.val (.int p0), .val (.int p1), .val (.int p2), .val (.int p3), .val (.int p4), .val (.int p5), .val (.int (f_min p0 (2147483632 : Int32))), .val (.int (j7 p0 p1 p2 p3 p4 p5)), .val (.int (j8 p0 p1 p2 p3 p4 p5)), .val (.ref b0_3), .val (.ref ub0_12), .val (.ref b0_15), .unset, .unset, .unset, .unset, .unset, .unset, .unset, .unset, .unset, .unset, .unset, .unset, .unset, .unset] [(.ref b0_100), (.ref b0_100)])) rfl (by rw [hml]; rfl) (Steps.refl _) (a := b0_100) (argsL := []) (rest := [(.ref b0_100)]) (lenOf pd0_1 rfl) rfl (own_mr rfl) (hb hby at_248) (fun _ _ => ⟨rfl, e0_100, (by decide : 8 + 0 ≤ _), (by decide : 75 + 0 ≤ _)⟩)
  dsimp only [Pt.U, Pt.locs, Pt.cells, Pt.slots] at X0_102 l0_102 y0_102 z0_102 st0_102 hQ0_102
  subst l0_102 y0_102 z0_102
  obtain ⟨rfl, N0_102q, K0_102, Ex0_102, Fe0_102, Fs0_102, Fm0_102⟩ := hQ0_102
  have N0_102 := Fr.app Nhd0_99 N0_102q
  refine own_fw (fun t k => st0_102.trans k) ?_
  have fc0_103 := ((fc0_95.ext E0_100).keep K0_102 (fun q => ne_ub0_12_b0_100 (List.mem_singleton.mp q)))
  have fc0_104 := ((fc0_96.ext E0_100).keep K0_102 (fun q => ne_mb0_12_b0_100 (List.mem_singleton.mp q)))
  have fc0_105 := ((fc0_97.ext E0_100).keep K0_102 (fun q => ne_b0_17_b0_100 (List.mem_singleton.mp q)))
  have fc0_106 := ((Fm0_93.ext E0_100).keep K0_102 (fun q => ne_b0_15_b0_100 (List.mem_singleton.mp q)))
  obtain ⟨Lhd0_107, Xhd0_107, Nhd0_107⟩ := own_hide X0_102 N0_102
  refine own_fw (A := T0_102.setTop (mkF m 257 #[.val (.int p0), .val (.int p1), .val (.int p2), .val (.int p3), .val (.int p4), .val (.int p5), .val (.int (f_min p0 (2147483632 : Int32))), .val (.int (j7 p0 p1 p2 p3 p4 p5)), .val (.int (j8 p0 p1 p2 p3 p4 p5)), .val (.ref b0_3), .val (.ref ub0_12), .val (.ref b0_15), .val (.ref b0_100), .unset, .unset, .unset, .unset, .unset, .unset, .unset, .unset, .unset, .unset, .unset, .unset, .unset] [(.int (p5 &&& (4 : Int32)))])) (fun t k => ?_) ?_
  · refine ox_astore Xhd0_107.here hx (hb hby at_251) rfl rfl (l' := #[.val (.int p0), .val (.int p1), .val (.int p2), .val (.int p3), .val (.int p4), .val (.int p5), .val (.int (f_min p0 (2147483632 : Int32))), .val (.int (j7 p0 p1 p2 p3 p4 p5)), .val (.int (j8 p0 p1 p2 p3 p4 p5)), .val (.ref b0_3), .val (.ref ub0_12), .val (.ref b0_15), .val (.ref b0_100), .unset, .unset, .unset, .unset, .unset, .unset, .unset, .unset, .unset, .unset, .unset, .unset, .unset]) rfl ?_
    refine ox_iload Xhd0_107.here hx (hb hby at_253) rfl ?_
    refine ox_iconst Xhd0_107.here hx (hb hby at_255) ?_
    refine ox_iand Xhd0_107.here hx (hb hby at_256) rfl ?_
    exact k
  by_cases hc0_4 : (p5 &&& (4 : Int32)) = (0 : Int32)
  · refine own_fw (A := T0_102.setTop (mkF m 279 #[.val (.int p0), .val (.int p1), .val (.int p2), .val (.int p3), .val (.int p4), .val (.int p5), .val (.int (f_min p0 (2147483632 : Int32))), .val (.int (j7 p0 p1 p2 p3 p4 p5)), .val (.int (j8 p0 p1 p2 p3 p4 p5)), .val (.ref b0_3), .val (.ref ub0_12), .val (.ref b0_15), .val (.ref b0_100), .unset, .unset, .unset, .unset, .unset, .unset, .unset, .unset, .unset, .unset, .unset, .unset, .unset] [])) (fun t k => ?_) ?_
    · refine ox_ifYes Xhd0_107.here hx (pc0 := 257) (pc' := 279) rfl (hb hby at_257) rfl ((if0 _ _).trans (teq hc0_4).1) (by decide) (by decide) ?_
      exact k
    refine own_fw (A := T0_102.setTop (mkF m 283 #[.val (.int p0), .val (.int p1), .val (.int p2), .val (.int p3), .val (.int p4), .val (.int p5), .val (.int (f_min p0 (2147483632 : Int32))), .val (.int (j7 p0 p1 p2 p3 p4 p5)), .val (.int (j8 p0 p1 p2 p3 p4 p5)), .val (.ref b0_3), .val (.ref ub0_12), .val (.ref b0_15), .val (.ref b0_100), .unset, .unset, .unset, .unset, .unset, .unset, .unset, .unset, .unset, .unset, .unset, .unset, .unset] [(.ref b0_15), (.ref b0_100)])) (fun t k => ?_) ?_
    · refine ox_aload Xhd0_107.here hx (hb hby at_279) rfl rfl ?_
      refine ox_aload Xhd0_107.here hx (hb hby at_281) rfl rfl ?_
      exact k
    obtain ⟨cq0_108, kq0_108, q0_108a, q0_108b, q0_108c⟩ := isOf hZ rfl Ex0_102
    obtain ⟨_, _, ⟨T0_108, L0_108, k0_108, n0_108⟩, -, X0_108, ⟨Lc0_108, hQ0_108, l0_108, y0_108, z0_108⟩, st0_108⟩ := Xhd0_107.virtualBack hx (y := mN3) (z := mN3) hown (mvT hZ (own_w hw 95 rfl)) (mvT hZ (own_w hw 96 rfl)) (notFace_of_selects (args := #[]) (mvT hZ (own_w hw 98 rfl))) (mvT hZ (own_w hw 98 rfl)) (mvT hZ (own_w hw 97 rfl)) (by decide) (backOf (W := 0) (rmA1_0 l Z a0 hw [] b0_100 b0_15 d0 k0 T0_102.heap n0 (Nat.le_trans (Nat.le_trans fc0_98 E0_100.1) K0_102.1) Ex0_102 Fe0_102 Fs0_102 Fm0_102 ((Ex0_93.ext E0_100).keep K0_102) ne_b0_15_b0_100 g_b0_100 ((fc0_94.ext E0_100).keep K0_102 (allS g_b0_100 all0)) S_d V_d) hZ (own_w hw 99 rfl) (own_w hw 73 rfl) (by decide) (by decide)) q0_108a q0_108c (g := (mkF m 283 #[.val (.int p0), .val (.int p1), .val (.int p2), .val (.int p3), .val (.int p4), .val (.int p5), .val (.int (f_min p0 (2147483632 : Int32))), .val (.int (j7 p0 p1 p2 p3 p4 p5)), .val (.int (j8 p0 p1 p2 p3 p4 p5)), .val (.ref b0_3), .val (.ref ub0_12), .val (.ref b0_15), .val (.ref b0_100), .unset, .unset, .unset, .unset, .unset, .unset, .unset, .unset, .unset, .unset, .unset, .unset, .unset] [(.ref b0_15), (.ref b0_100)])) rfl (by rw [hml]; rfl) (Steps.refl _) (argsL := [(.ref b0_15)]) (rest := []) (lenOf pd0_5 rfl) rfl (own_mr rfl) (hb hby at_283) (fun _ _ => ⟨rfl, rfl, (by decide : 8 + 1 ≤ _), (by decide : 75 + 10 ≤ _)⟩)
    dsimp only [Pt.U, Pt.locs, Pt.cells, Pt.slots] at X0_108 l0_108 y0_108 z0_108 st0_108 hQ0_108
    subst l0_108 y0_108 z0_108
    obtain ⟨ba0_108, kg0_108, rfl, N0_108q, K0_108, Ex0_108, Fe0_108, Fs0_108, Fm0_108, Vg0_108, Og0_108, zg0_108⟩ := hQ0_108
    have N0_108 := Fr.app Nhd0_107 N0_108q
    have ne_ub0_12_ba0_108 : ub0_12 ≠ ba0_108 := Nat.ne_of_lt (Nat.lt_of_lt_of_le (fc0_101.keep K0_102).lt zg0_108)
    have ne_mb0_12_ba0_108 : mb0_12 ≠ ba0_108 := Nat.ne_of_lt (Nat.lt_of_lt_of_le fc0_104.lt zg0_108)
    have ne_b0_15_ba0_108 : b0_15 ≠ ba0_108 := Nat.ne_of_lt (Nat.lt_of_lt_of_le ((Ex0_93.ext E0_100).keep K0_102).lt zg0_108)
    have ne_b0_17_ba0_108 : b0_17 ≠ ba0_108 := Nat.ne_of_lt (Nat.lt_of_lt_of_le fc0_105.lt zg0_108)
    have ne_b0_100_ba0_108 : b0_100 ≠ ba0_108 := Nat.ne_of_lt (Nat.lt_of_lt_of_le Ex0_102.lt zg0_108)
    have g_ba0_108 : n0 ≤ ba0_108 := Nat.le_trans (Nat.le_trans (Nat.le_trans fc0_98 E0_100.1) K0_102.1) zg0_108
    refine own_fw (fun t k => st0_108.trans k) ?_
    have fc0_109 := (((fc0_94.ext E0_100).keep K0_102 (allS g_b0_100 all0)).keep K0_108 (allS g_b0_100 all0))
    have fc0_110 := (fc0_103.keep K0_108 (fun q => ne_ub0_12_b0_100 (List.mem_singleton.mp q)))
    have fc0_111 := (fc0_104.keep K0_108 (fun q => ne_mb0_12_b0_100 (List.mem_singleton.mp q)))
    have fc0_112 := (fc0_105.keep K0_108 (fun q => ne_b0_17_b0_100 (List.mem_singleton.mp q)))
    have fc0_113 := (fc0_106.keep K0_108 (fun q => ne_b0_15_b0_100 (List.mem_singleton.mp q)))
    have fc0_114 := (Nat.le_trans (Nat.le_trans (Nat.le_trans fc0_98 E0_100.1) K0_102.1) K0_108.1)
    obtain ⟨Lhd0_115, Xhd0_115, Nhd0_115⟩ := own_hide X0_108 N0_108
    refine own_fw (A := T0_108.setTop (mkF m 291 #[.val (.int p0), .val (.int p1), .val (.int p2), .val (.int p3), .val (.int p4), .val (.int p5), .val (.int (f_min p0 (2147483632 : Int32))), .val (.int (j7 p0 p1 p2 p3 p4 p5)), .val (.int (j8 p0 p1 p2 p3 p4 p5)), .val (.ref b0_3), .val (.ref ub0_12), .val (.ref b0_15), .val (.ref b0_100), .unset, .unset, .unset, .unset, .unset, .unset, .unset, .unset, .unset, .unset, .unset, .unset, .unset] [(.ref ub0_12), (.ref b0_100)])) (fun t k => ?_) ?_
    · refine ox_pop Xhd0_115.here hx (hb hby at_286) rfl rfl ?_
      refine ox_aload Xhd0_115.here hx (hb hby at_287) rfl rfl ?_
      refine ox_aload Xhd0_115.here hx (hb hby at_289) rfl rfl ?_
      exact k
    obtain ⟨cq0_116, kq0_116, q0_116a, q0_116b, q0_116c⟩ := isOf hZ rfl Ex0_108
    obtain ⟨_, _, ⟨T0_116, L0_116, k0_116, n0_116⟩, -, X0_116, ⟨Lc0_116, hQ0_116, l0_116, y0_116, z0_116⟩, st0_116⟩ := Xhd0_115.virtualBack hx (y := mN3) (z := mN3) hown (mvT hZ (own_w hw 95 rfl)) (mvT hZ (own_w hw 96 rfl)) (notFace_of_selects (args := #[]) (mvT hZ (own_w hw 98 rfl))) (mvT hZ (own_w hw 98 rfl)) (mvT hZ (own_w hw 97 rfl)) (by decide) (backOf (W := 0) (rmA1_1 l Z a0 hw [] b0_100 ub0_12 ba0_108 b0_15 kg0_108 T0_108.heap n0 fc0_114 Ex0_108 Fe0_108 Fs0_108 Fm0_108 ((fc0_101.keep K0_102).keep K0_108) ne_ub0_12_b0_100 Vg0_108 Og0_108 (Ne.symm ne_b0_100_ba0_108) ne_ub0_12_ba0_108 g_b0_100 g_ba0_108) hZ (own_w hw 99 rfl) (own_w hw 73 rfl) (by decide) (by decide)) q0_116a q0_116c (g := (mkF m 291 #[.val (.int p0), .val (.int p1), .val (.int p2), .val (.int p3), .val (.int p4), .val (.int p5), .val (.int (f_min p0 (2147483632 : Int32))), .val (.int (j7 p0 p1 p2 p3 p4 p5)), .val (.int (j8 p0 p1 p2 p3 p4 p5)), .val (.ref b0_3), .val (.ref ub0_12), .val (.ref b0_15), .val (.ref b0_100), .unset, .unset, .unset, .unset, .unset, .unset, .unset, .unset, .unset, .unset, .unset, .unset, .unset] [(.ref ub0_12), (.ref b0_100)])) rfl (by rw [hml]; rfl) (Steps.refl _) (argsL := [(.ref ub0_12)]) (rest := []) (lenOf pd0_5 rfl) rfl (own_mr rfl) (hb hby at_291) (fun _ _ => ⟨rfl, rfl, (by decide : 9 + 0 ≤ _), (by decide : 85 + 0 ≤ _)⟩)
    dsimp only [Pt.U, Pt.locs, Pt.cells, Pt.slots] at X0_116 l0_116 y0_116 z0_116 st0_116 hQ0_116
    subst l0_116 y0_116 z0_116
    obtain ⟨rfl, N0_116q, K0_116, Ex0_116, Fe0_116, Fs0_116, Fm0_116, Vg0_116⟩ := hQ0_116
    have N0_116 := Fr.app Nhd0_115 N0_116q
    refine own_fw (fun t k => st0_116.trans k) ?_
    have fc0_117 := (fc0_110.keep K0_116 (by simp only [List.mem_cons, List.not_mem_nil, or_false, not_or]; exact ⟨ne_ub0_12_b0_100, ne_ub0_12_ba0_108⟩))
    have fc0_118 := (fc0_111.keep K0_116 (by simp only [List.mem_cons, List.not_mem_nil, or_false, not_or]; exact ⟨ne_mb0_12_b0_100, ne_mb0_12_ba0_108⟩))
    have fc0_119 := ((((Ex0_93.ext E0_100).keep K0_102).keep K0_108).keep K0_116)
    have fc0_120 := (fc0_112.keep K0_116 (by simp only [List.mem_cons, List.not_mem_nil, or_false, not_or]; exact ⟨ne_b0_17_b0_100, ne_b0_17_ba0_108⟩))
    have fc0_121 := (fc0_113.keep K0_116 (by simp only [List.mem_cons, List.not_mem_nil, or_false, not_or]; exact ⟨ne_b0_15_b0_100, ne_b0_15_ba0_108⟩))
    obtain ⟨Lhd0_122, Xhd0_122, Nhd0_122⟩ := own_hide X0_116 N0_116
    refine own_fw (A := T0_116.setTop (mkF m 297 #[.val (.int p0), .val (.int p1), .val (.int p2), .val (.int p3), .val (.int p4), .val (.int p5), .val (.int (f_min p0 (2147483632 : Int32))), .val (.int (j7 p0 p1 p2 p3 p4 p5)), .val (.int (j8 p0 p1 p2 p3 p4 p5)), .val (.ref b0_3), .val (.ref ub0_12), .val (.ref b0_15), .val (.ref b0_100), .unset, .unset, .unset, .unset, .unset, .unset, .unset, .unset, .unset, .unset, .unset, .unset, .unset] [(.ref b0_100)])) (fun t k => ?_) ?_
    · refine ox_pop Xhd0_122.here hx (hb hby at_294) rfl rfl ?_
      refine ox_aload Xhd0_122.here hx (hb hby at_295) rfl rfl ?_
      exact k
    obtain ⟨_, _, ⟨T0_123, L0_123, k0_123, n0_123⟩, -, X0_123, ⟨Lc0_123, hQ0_123, l0_123, y0_123, z0_123⟩, st0_123⟩ := Jvm.LawKit.callS Xhd0_122 hx (y := mN16) hown (mvT hZ (own_w hw 125 rfl)) (mvT hZ (own_w hw 126 rfl)) (mvT hZ (own_w hw 53 rfl)) (mvT hZ (own_w hw 127 rfl)) (by decide) (backOf (W := 0) (rm20 l Z a0 hw [] b0_100 ba0_108 kg0_108 b0_15 b0_17 ub0_12 mb0_12 kI [(f_min p0 (2147483632 : Int32)), ((f_min p0 (2147483632 : Int32)) + (1 : Int32)), ((f_min p0 (2147483632 : Int32)) + (2 : Int32)), ((f_min p0 (2147483632 : Int32)) + (3 : Int32)), ((f_min p0 (2147483632 : Int32)) + (4 : Int32)), ((f_min p0 (2147483632 : Int32)) + (5 : Int32)), ((f_min p0 (2147483632 : Int32)) + (6 : Int32)), ((f_min p0 (2147483632 : Int32)) + (7 : Int32)), ((f_min p0 (2147483632 : Int32)) + (8 : Int32)), ((f_min p0 (2147483632 : Int32)) + (9 : Int32)), ((f_min p0 (2147483632 : Int32)) + (10 : Int32)), ((f_min p0 (2147483632 : Int32)) + (11 : Int32)), ((f_min p0 (2147483632 : Int32)) + (12 : Int32)), ((f_min p0 (2147483632 : Int32)) + (13 : Int32)), ((f_min p0 (2147483632 : Int32)) + (14 : Int32)), ((f_min p0 (2147483632 : Int32)) + (15 : Int32))] D0_12 d0 k0 T0_116.heap n0 (Nat.le_trans fc0_114 K0_116.1) Ex0_116 Fe0_116 Fs0_116 Fm0_116 Vg0_116 fc0_119 fc0_121 fc0_120 (show 0 < 16 by decide) (((fc0_101.keep K0_102).keep K0_108).keep K0_116) fc0_117 fc0_118 (own_some (z := (j7 p0 p1 p2 p3 p4 p5)) Mm0_12) hk (by have q := own_two Pw0_12 Mm0_12; show 16 + _ ≤ 18; omega) (fc0_109.keep K0_116 (allS g_b0_100 (allS g_ba0_108 all0))) S_d V_d) hZ (own_w hw 127 rfl) (own_w hw 53 rfl) (by decide) (by decide)) (g := (mkF m 297 #[.val (.int p0), .val (.int p1), .val (.int p2), .val (.int p3), .val (.int p4), .val (.int p5), .val (.int (f_min p0 (2147483632 : Int32))), .val (.int (j7 p0 p1 p2 p3 p4 p5)), .val (.int (j8 p0 p1 p2 p3 p4 p5)), .val (.ref b0_3), .val (.ref ub0_12), .val (.ref b0_15), .val (.ref b0_100), .unset, .unset, .unset, .unset, .unset, .unset, .unset, .unset, .unset, .unset, .unset, .unset, .unset] [(.ref b0_100)])) rfl (by rw [hml]; rfl) (argsL := [(.ref b0_100)]) (rest := []) (lenOf pd0_6 rfl) rfl (own_mr rfl) (hb hby at_297) (fun _ _ => ⟨rfl, rfl, (by decide : 9 + 11 ≤ _), (by decide : 85 + 150 ≤ _)⟩)
    dsimp only [Pt.U, Pt.locs, Pt.cells, Pt.slots] at X0_123 l0_123 y0_123 z0_123 st0_123 hQ0_123
    subst l0_123 y0_123 z0_123
    obtain ⟨uu0_123, mu0_123, D0_123, rfl, N0_123q, K0_123, Eu0_123, Fu0_123, Iu0_123, Pw0_123, Mm0_123, zu0_123, zm0_123⟩ := hQ0_123
    have N0_123 := Fr.app Nhd0_122 N0_123q
    have hD0_123 := own_isexp (b := (f_min p0 (2147483632 : Int32))) (x := (j7 p0 p1 p2 p3 p4 p5)) (y := (j8 p0 p1 p2 p3 p4 p5)) own_bot Pw0_123 (fun v => by rw [Mm0_123 v, Mm0_12 v]; exact Or.comm)
    subst hD0_123
    refine own_fw st0_123 ?_
    obtain ⟨Lhd0_126, Xhd0_126, Nhd0_126⟩ := own_hide X0_123 N0_123
    refine own_fw (A := T0_123.setTop (mkF m 306 #[.val (.int p0), .val (.int p1), .val (.int p2), .val (.int p3), .val (.int p4), .val (.int p5), .val (.int (f_min p0 (2147483632 : Int32))), .val (.int (j7 p0 p1 p2 p3 p4 p5)), .val (.int (j8 p0 p1 p2 p3 p4 p5)), .val (.ref b0_3), .val (.ref ub0_12), .val (.ref b0_15), .val (.ref b0_100), .val (.ref uu0_123), .unset, .unset, .unset, .unset, .unset, .unset, .unset, .unset, .unset, .unset, .unset, .unset] [(.int (j8 p0 p1 p2 p3 p4 p5)), (.int (j7 p0 p1 p2 p3 p4 p5))])) (fun t k => ?_) ?_
    · refine ox_astore Xhd0_126.here hx (hb hby at_300) rfl rfl (l' := #[.val (.int p0), .val (.int p1), .val (.int p2), .val (.int p3), .val (.int p4), .val (.int p5), .val (.int (f_min p0 (2147483632 : Int32))), .val (.int (j7 p0 p1 p2 p3 p4 p5)), .val (.int (j8 p0 p1 p2 p3 p4 p5)), .val (.ref b0_3), .val (.ref ub0_12), .val (.ref b0_15), .val (.ref b0_100), .val (.ref uu0_123), .unset, .unset, .unset, .unset, .unset, .unset, .unset, .unset, .unset, .unset, .unset, .unset]) rfl ?_
      refine ox_iload Xhd0_126.here hx (hb hby at_302) rfl ?_
      refine ox_iload Xhd0_126.here hx (hb hby at_304) rfl ?_
      exact k
    obtain ⟨_, _, ⟨T0_127, L0_127, k0_127, n0_127⟩, -, X0_127, ⟨Lc0_127, hQ0_127, l0_127, y0_127, z0_127⟩, st0_127⟩ := Jvm.LawKit.callS Xhd0_126 hx (y := mN11) hown (mvT hZ (own_w hw 1 rfl)) (mvT hZ (own_w hw 2 rfl)) (mvT hZ (own_w hw 3 rfl)) (mvT hZ (own_w hw 4 rfl)) (by decide) (backOf (W := 0) (rm1 l Z a0 hw [] ((j7 p0 p1 p2 p3 p4 p5)) ((j8 p0 p1 p2 p3 p4 p5)) T0_123.heap n0 (Nat.le_trans (Nat.le_trans fc0_114 K0_116.1) K0_123.1) ) hZ (own_w hw 4 rfl) (own_w hw 3 rfl) (by decide) (by decide)) (g := (mkF m 306 #[.val (.int p0), .val (.int p1), .val (.int p2), .val (.int p3), .val (.int p4), .val (.int p5), .val (.int (f_min p0 (2147483632 : Int32))), .val (.int (j7 p0 p1 p2 p3 p4 p5)), .val (.int (j8 p0 p1 p2 p3 p4 p5)), .val (.ref b0_3), .val (.ref ub0_12), .val (.ref b0_15), .val (.ref b0_100), .val (.ref uu0_123), .unset, .unset, .unset, .unset, .unset, .unset, .unset, .unset, .unset, .unset, .unset, .unset] [(.int (j8 p0 p1 p2 p3 p4 p5)), (.int (j7 p0 p1 p2 p3 p4 p5))])) rfl (by rw [hml]; rfl) (argsL := [(.int (j7 p0 p1 p2 p3 p4 p5)), (.int (j8 p0 p1 p2 p3 p4 p5))]) (rest := []) (lenOf pd0_0 rfl) rfl (own_mr rfl) (hb hby at_306) (fun _ _ => ⟨rfl, rfl, (by decide : 20 + 0 ≤ _), (by decide : 235 + 0 ≤ _)⟩)
    dsimp only [Pt.U, Pt.locs, Pt.cells, Pt.slots] at X0_127 l0_127 y0_127 z0_127 st0_127 hQ0_127
    subst l0_127 y0_127 z0_127
    obtain ⟨rfl, N0_127q, e0_127⟩ := hQ0_127
    have N0_127 := Fr.app Nhd0_126 N0_127q
    refine own_fw st0_127 ?_
    obtain ⟨Lhd0_128, Xhd0_128, Nhd0_128⟩ := own_hide X0_127 N0_127
    refine own_fw (A := T0_127.setTop (mkF m 315 #[.val (.int p0), .val (.int p1), .val (.int p2), .val (.int p3), .val (.int p4), .val (.int p5), .val (.int (f_min p0 (2147483632 : Int32))), .val (.int (j7 p0 p1 p2 p3 p4 p5)), .val (.int (j8 p0 p1 p2 p3 p4 p5)), .val (.ref b0_3), .val (.ref ub0_12), .val (.ref b0_15), .val (.ref b0_100), .val (.ref uu0_123), .val (.int (f_min (j7 p0 p1 p2 p3 p4 p5) (j8 p0 p1 p2 p3 p4 p5))), .unset, .unset, .unset, .unset, .unset, .unset, .unset, .unset, .unset, .unset, .unset] [(.int (j8 p0 p1 p2 p3 p4 p5)), (.int (j7 p0 p1 p2 p3 p4 p5))])) (fun t k => ?_) ?_
    · refine ox_istore Xhd0_128.here hx (hb hby at_309) rfl (l' := #[.val (.int p0), .val (.int p1), .val (.int p2), .val (.int p3), .val (.int p4), .val (.int p5), .val (.int (f_min p0 (2147483632 : Int32))), .val (.int (j7 p0 p1 p2 p3 p4 p5)), .val (.int (j8 p0 p1 p2 p3 p4 p5)), .val (.ref b0_3), .val (.ref ub0_12), .val (.ref b0_15), .val (.ref b0_100), .val (.ref uu0_123), .val (.int (f_min (j7 p0 p1 p2 p3 p4 p5) (j8 p0 p1 p2 p3 p4 p5))), .unset, .unset, .unset, .unset, .unset, .unset, .unset, .unset, .unset, .unset, .unset]) rfl ?_
      refine ox_iload Xhd0_128.here hx (hb hby at_311) rfl ?_
      refine ox_iload Xhd0_128.here hx (hb hby at_313) rfl ?_
      exact k
    obtain ⟨_, _, ⟨T0_129, L0_129, k0_129, n0_129⟩, -, X0_129, ⟨Lc0_129, hQ0_129, l0_129, y0_129, z0_129⟩, st0_129⟩ := Jvm.LawKit.callS Xhd0_128 hx (y := mN6) hown (mvT hZ (own_w hw 210 rfl)) (mvT hZ (own_w hw 120 rfl)) (mvT hZ (own_w hw 3 rfl)) (mvT hZ (own_w hw 121 rfl)) (by decide) (backOf (W := 0) (rm19 l Z a0 hw [] ((j7 p0 p1 p2 p3 p4 p5)) ((j8 p0 p1 p2 p3 p4 p5)) T0_123.heap n0 (Nat.le_trans (Nat.le_trans fc0_114 K0_116.1) K0_123.1) ) hZ (own_w hw 121 rfl) (own_w hw 3 rfl) (by decide) (by decide)) (g := (mkF m 315 #[.val (.int p0), .val (.int p1), .val (.int p2), .val (.int p3), .val (.int p4), .val (.int p5), .val (.int (f_min p0 (2147483632 : Int32))), .val (.int (j7 p0 p1 p2 p3 p4 p5)), .val (.int (j8 p0 p1 p2 p3 p4 p5)), .val (.ref b0_3), .val (.ref ub0_12), .val (.ref b0_15), .val (.ref b0_100), .val (.ref uu0_123), .val (.int (f_min (j7 p0 p1 p2 p3 p4 p5) (j8 p0 p1 p2 p3 p4 p5))), .unset, .unset, .unset, .unset, .unset, .unset, .unset, .unset, .unset, .unset, .unset] [(.int (j8 p0 p1 p2 p3 p4 p5)), (.int (j7 p0 p1 p2 p3 p4 p5))])) rfl (by rw [hml]; rfl) (argsL := [(.int (j7 p0 p1 p2 p3 p4 p5)), (.int (j8 p0 p1 p2 p3 p4 p5))]) (rest := []) (lenOf pd0_0 rfl) rfl (own_mr rfl) (hb hby at_315) (fun _ _ => ⟨rfl, e0_127, (by decide : 20 + 0 ≤ _), (by decide : 235 + 0 ≤ _)⟩)
    dsimp only [Pt.U, Pt.locs, Pt.cells, Pt.slots] at X0_129 l0_129 y0_129 z0_129 st0_129 hQ0_129
    subst l0_129 y0_129 z0_129
    obtain ⟨rfl, N0_129q, e0_129⟩ := hQ0_129
    have N0_129 := Fr.app Nhd0_128 N0_129q
    refine own_fw st0_129 ?_
    obtain ⟨Lhd0_130, Xhd0_130, Nhd0_130⟩ := own_hide X0_129 N0_129
    refine own_fw (A := T0_129.setTop (mkF m 320 #[.val (.int p0), .val (.int p1), .val (.int p2), .val (.int p3), .val (.int p4), .val (.int p5), .val (.int (f_min p0 (2147483632 : Int32))), .val (.int (j7 p0 p1 p2 p3 p4 p5)), .val (.int (j8 p0 p1 p2 p3 p4 p5)), .val (.ref b0_3), .val (.ref ub0_12), .val (.ref b0_15), .val (.ref b0_100), .val (.ref uu0_123), .val (.int (f_min (j7 p0 p1 p2 p3 p4 p5) (j8 p0 p1 p2 p3 p4 p5))), .val (.int (f_max (j7 p0 p1 p2 p3 p4 p5) (j8 p0 p1 p2 p3 p4 p5))), .unset, .unset, .unset, .unset, .unset, .unset, .unset, .unset, .unset, .unset] [])) (fun t k => ?_) ?_
    · refine ox_istore Xhd0_130.here hx (hb hby at_318) rfl (l' := #[.val (.int p0), .val (.int p1), .val (.int p2), .val (.int p3), .val (.int p4), .val (.int p5), .val (.int (f_min p0 (2147483632 : Int32))), .val (.int (j7 p0 p1 p2 p3 p4 p5)), .val (.int (j8 p0 p1 p2 p3 p4 p5)), .val (.ref b0_3), .val (.ref ub0_12), .val (.ref b0_15), .val (.ref b0_100), .val (.ref uu0_123), .val (.int (f_min (j7 p0 p1 p2 p3 p4 p5) (j8 p0 p1 p2 p3 p4 p5))), .val (.int (f_max (j7 p0 p1 p2 p3 p4 p5) (j8 p0 p1 p2 p3 p4 p5))), .unset, .unset, .unset, .unset, .unset, .unset, .unset, .unset, .unset, .unset]) rfl ?_
      exact k
    have sg0_320 : ∀ t, Steps p.tables e below (T0_129.setTop (mkF m 332 #[.val (.int p0), .val (.int p1), .val (.int p2), .val (.int p3), .val (.int p4), .val (.int p5), .val (.int (f_min p0 (2147483632 : Int32))), .val (.int (j7 p0 p1 p2 p3 p4 p5)), .val (.int (j8 p0 p1 p2 p3 p4 p5)), .val (.ref b0_3), .val (.ref ub0_12), .val (.ref b0_15), .val (.ref b0_100), .val (.ref uu0_123), .val (.int (f_min (j7 p0 p1 p2 p3 p4 p5) (j8 p0 p1 p2 p3 p4 p5))), .val (.int (f_max (j7 p0 p1 p2 p3 p4 p5) (j8 p0 p1 p2 p3 p4 p5))), .unset, .unset, .unset, .unset, .unset, .unset, .unset, .unset, .unset, .unset] [(.int (j16 p0 p1 p2 p3 p4 p5))])) t → Steps p.tables e below (T0_129.setTop (mkF m 320 #[.val (.int p0), .val (.int p1), .val (.int p2), .val (.int p3), .val (.int p4), .val (.int p5), .val (.int (f_min p0 (2147483632 : Int32))), .val (.int (j7 p0 p1 p2 p3 p4 p5)), .val (.int (j8 p0 p1 p2 p3 p4 p5)), .val (.ref b0_3), .val (.ref ub0_12), .val (.ref b0_15), .val (.ref b0_100), .val (.ref uu0_123), .val (.int (f_min (j7 p0 p1 p2 p3 p4 p5) (j8 p0 p1 p2 p3 p4 p5))), .val (.int (f_max (j7 p0 p1 p2 p3 p4 p5) (j8 p0 p1 p2 p3 p4 p5))), .unset, .unset, .unset, .unset, .unset, .unset, .unset, .unset, .unset, .unset] [])) t := by
      intro t k
      refine ox_iload Xhd0_130.here hx (hb hby at_320) rfl ?_
      refine ox_iload Xhd0_130.here hx (hb hby at_322) rfl ?_
      by_cases hc0_5 : (j7 p0 p1 p2 p3 p4 p5) = (j8 p0 p1 p2 p3 p4 p5)
      · refine ox_icmpYes Xhd0_130.here hx (pc0 := 324) (pc' := 331) rfl (hb hby at_324) rfl (teq hc0_5).1 (by decide) (by decide) ?_
        refine ox_iconst Xhd0_130.here hx (hb hby at_331) ?_
        have q : j16 p0 p1 p2 p3 p4 p5 = (0 : Int32) := by rw [j16, if_pos hc0_5]
        rw [q] at k
        exact k
      · refine ox_icmpNo Xhd0_130.here hx (hb hby at_324) rfl (feq hc0_5).1 ?_
        refine ox_iconst Xhd0_130.here hx (hb hby at_327) ?_
        refine ox_goto Xhd0_130.here hx (pc0 := 328) (pc' := 332) rfl (hb hby at_328) (by decide) (by decide) ?_
        have q : j16 p0 p1 p2 p3 p4 p5 = (1 : Int32) := by rw [j16, if_neg hc0_5]
        rw [q] at k
        exact k
    refine own_fw sg0_320 ?_
    refine own_fw (A := T0_129.setTop (mkF m 341 #[.val (.int p0), .val (.int p1), .val (.int p2), .val (.int p3), .val (.int p4), .val (.int p5), .val (.int (f_min p0 (2147483632 : Int32))), .val (.int (j7 p0 p1 p2 p3 p4 p5)), .val (.int (j8 p0 p1 p2 p3 p4 p5)), .val (.ref b0_3), .val (.ref ub0_12), .val (.ref b0_15), .val (.ref b0_100), .val (.ref uu0_123), .val (.int (f_min (j7 p0 p1 p2 p3 p4 p5) (j8 p0 p1 p2 p3 p4 p5))), .val (.int (f_max (j7 p0 p1 p2 p3 p4 p5) (j8 p0 p1 p2 p3 p4 p5))), .val (.int (j16 p0 p1 p2 p3 p4 p5)), .val (.int ((f_min p0 (2147483632 : Int32)) + (15 : Int32))), .unset, .unset, .unset, .unset, .unset, .unset, .unset, .unset] [])) (fun t k => ?_) ?_
    · refine ox_istore Xhd0_130.here hx (hb hby at_332) rfl (l' := #[.val (.int p0), .val (.int p1), .val (.int p2), .val (.int p3), .val (.int p4), .val (.int p5), .val (.int (f_min p0 (2147483632 : Int32))), .val (.int (j7 p0 p1 p2 p3 p4 p5)), .val (.int (j8 p0 p1 p2 p3 p4 p5)), .val (.ref b0_3), .val (.ref ub0_12), .val (.ref b0_15), .val (.ref b0_100), .val (.ref uu0_123), .val (.int (f_min (j7 p0 p1 p2 p3 p4 p5) (j8 p0 p1 p2 p3 p4 p5))), .val (.int (f_max (j7 p0 p1 p2 p3 p4 p5) (j8 p0 p1 p2 p3 p4 p5))), .val (.int (j16 p0 p1 p2 p3 p4 p5)), .unset, .unset, .unset, .unset, .unset, .unset, .unset, .unset, .unset]) rfl ?_
      refine ox_iload Xhd0_130.here hx (hb hby at_334) rfl ?_
      refine ox_bipush Xhd0_130.here hx (hb hby at_336) ?_
      refine ox_iadd Xhd0_130.here hx (hb hby at_338) rfl ?_
      refine ox_istore Xhd0_130.here hx (hb hby at_339) rfl (l' := #[.val (.int p0), .val (.int p1), .val (.int p2), .val (.int p3), .val (.int p4), .val (.int p5), .val (.int (f_min p0 (2147483632 : Int32))), .val (.int (j7 p0 p1 p2 p3 p4 p5)), .val (.int (j8 p0 p1 p2 p3 p4 p5)), .val (.ref b0_3), .val (.ref ub0_12), .val (.ref b0_15), .val (.ref b0_100), .val (.ref uu0_123), .val (.int (f_min (j7 p0 p1 p2 p3 p4 p5) (j8 p0 p1 p2 p3 p4 p5))), .val (.int (f_max (j7 p0 p1 p2 p3 p4 p5) (j8 p0 p1 p2 p3 p4 p5))), .val (.int (j16 p0 p1 p2 p3 p4 p5)), .val (.int ((f_min p0 (2147483632 : Int32)) + (15 : Int32))), .unset, .unset, .unset, .unset, .unset, .unset, .unset, .unset]) rfl ?_
      exact k
    have sg0_341 : ∀ t, Steps p.tables e below (T0_129.setTop (mkF m 360 #[.val (.int p0), .val (.int p1), .val (.int p2), .val (.int p3), .val (.int p4), .val (.int p5), .val (.int (f_min p0 (2147483632 : Int32))), .val (.int (j7 p0 p1 p2 p3 p4 p5)), .val (.int (j8 p0 p1 p2 p3 p4 p5)), .val (.ref b0_3), .val (.ref ub0_12), .val (.ref b0_15), .val (.ref b0_100), .val (.ref uu0_123), .val (.int (f_min (j7 p0 p1 p2 p3 p4 p5) (j8 p0 p1 p2 p3 p4 p5))), .val (.int (f_max (j7 p0 p1 p2 p3 p4 p5) (j8 p0 p1 p2 p3 p4 p5))), .val (.int (j16 p0 p1 p2 p3 p4 p5)), .val (.int ((f_min p0 (2147483632 : Int32)) + (15 : Int32))), .unset, .unset, .unset, .unset, .unset, .unset, .unset, .unset] [(.int (j18 p0 p1 p2 p3 p4 p5))])) t → Steps p.tables e below (T0_129.setTop (mkF m 341 #[.val (.int p0), .val (.int p1), .val (.int p2), .val (.int p3), .val (.int p4), .val (.int p5), .val (.int (f_min p0 (2147483632 : Int32))), .val (.int (j7 p0 p1 p2 p3 p4 p5)), .val (.int (j8 p0 p1 p2 p3 p4 p5)), .val (.ref b0_3), .val (.ref ub0_12), .val (.ref b0_15), .val (.ref b0_100), .val (.ref uu0_123), .val (.int (f_min (j7 p0 p1 p2 p3 p4 p5) (j8 p0 p1 p2 p3 p4 p5))), .val (.int (f_max (j7 p0 p1 p2 p3 p4 p5) (j8 p0 p1 p2 p3 p4 p5))), .val (.int (j16 p0 p1 p2 p3 p4 p5)), .val (.int ((f_min p0 (2147483632 : Int32)) + (15 : Int32))), .unset, .unset, .unset, .unset, .unset, .unset, .unset, .unset] [])) t := by
      intro t k
      refine ox_iload Xhd0_130.here hx (hb hby at_341) rfl ?_
      refine ox_iload Xhd0_130.here hx (hb hby at_343) rfl ?_
      by_cases hc0_6 : (f_min (j7 p0 p1 p2 p3 p4 p5) (j8 p0 p1 p2 p3 p4 p5)) < (f_min p0 (2147483632 : Int32))
      · refine ox_icmpYes Xhd0_130.here hx (pc0 := 345) (pc' := 355) rfl (hb hby at_345) rfl (tlt hc0_6).1 (by decide) (by decide) ?_
        refine ox_iconst Xhd0_130.here hx (hb hby at_355) ?_
        refine ox_goto Xhd0_130.here hx (pc0 := 356) (pc' := 360) rfl (hb hby at_356) (by decide) (by decide) ?_
        have q : j18 p0 p1 p2 p3 p4 p5 = (1 : Int32) := by rw [j18, if_pos hc0_6]
        rw [q] at k
        exact k
      · refine ox_icmpNo Xhd0_130.here hx (hb hby at_345) rfl (flt hc0_6).1 ?_
        refine ox_iload Xhd0_130.here hx (hb hby at_348) rfl ?_
        refine ox_iload Xhd0_130.here hx (hb hby at_350) rfl ?_
        by_cases hc0_7 : ((f_min p0 (2147483632 : Int32)) + (15 : Int32)) < (f_min (j7 p0 p1 p2 p3 p4 p5) (j8 p0 p1 p2 p3 p4 p5))
        · refine ox_icmpNo Xhd0_130.here hx (hb hby at_352) rfl (tlt hc0_7).2.2.2 ?_
          refine ox_iconst Xhd0_130.here hx (hb hby at_355) ?_
          refine ox_goto Xhd0_130.here hx (pc0 := 356) (pc' := 360) rfl (hb hby at_356) (by decide) (by decide) ?_
          have q : j18 p0 p1 p2 p3 p4 p5 = (1 : Int32) := by rw [j18, if_neg hc0_6, if_pos hc0_7]
          rw [q] at k
          exact k
        · refine ox_icmpYes Xhd0_130.here hx (pc0 := 352) (pc' := 359) rfl (hb hby at_352) rfl (flt hc0_7).2.2.2 (by decide) (by decide) ?_
          refine ox_iconst Xhd0_130.here hx (hb hby at_359) ?_
          have q : j18 p0 p1 p2 p3 p4 p5 = (0 : Int32) := by rw [j18, if_neg hc0_6, if_neg hc0_7]
          rw [q] at k
          exact k
    refine own_fw sg0_341 ?_
    refine own_fw (A := T0_129.setTop (mkF m 362 #[.val (.int p0), .val (.int p1), .val (.int p2), .val (.int p3), .val (.int p4), .val (.int p5), .val (.int (f_min p0 (2147483632 : Int32))), .val (.int (j7 p0 p1 p2 p3 p4 p5)), .val (.int (j8 p0 p1 p2 p3 p4 p5)), .val (.ref b0_3), .val (.ref ub0_12), .val (.ref b0_15), .val (.ref b0_100), .val (.ref uu0_123), .val (.int (f_min (j7 p0 p1 p2 p3 p4 p5) (j8 p0 p1 p2 p3 p4 p5))), .val (.int (f_max (j7 p0 p1 p2 p3 p4 p5) (j8 p0 p1 p2 p3 p4 p5))), .val (.int (j16 p0 p1 p2 p3 p4 p5)), .val (.int ((f_min p0 (2147483632 : Int32)) + (15 : Int32))), .val (.int (j18 p0 p1 p2 p3 p4 p5)), .unset, .unset, .unset, .unset, .unset, .unset, .unset] [])) (fun t k => ?_) ?_
    · refine ox_istore Xhd0_130.here hx (hb hby at_360) rfl (l' := #[.val (.int p0), .val (.int p1), .val (.int p2), .val (.int p3), .val (.int p4), .val (.int p5), .val (.int (f_min p0 (2147483632 : Int32))), .val (.int (j7 p0 p1 p2 p3 p4 p5)), .val (.int (j8 p0 p1 p2 p3 p4 p5)), .val (.ref b0_3), .val (.ref ub0_12), .val (.ref b0_15), .val (.ref b0_100), .val (.ref uu0_123), .val (.int (f_min (j7 p0 p1 p2 p3 p4 p5) (j8 p0 p1 p2 p3 p4 p5))), .val (.int (f_max (j7 p0 p1 p2 p3 p4 p5) (j8 p0 p1 p2 p3 p4 p5))), .val (.int (j16 p0 p1 p2 p3 p4 p5)), .val (.int ((f_min p0 (2147483632 : Int32)) + (15 : Int32))), .val (.int (j18 p0 p1 p2 p3 p4 p5)), .unset, .unset, .unset, .unset, .unset, .unset, .unset]) rfl ?_
      exact k
    have sg0_362 : ∀ t, Steps p.tables e below (T0_129.setTop (mkF m 386 #[.val (.int p0), .val (.int p1), .val (.int p2), .val (.int p3), .val (.int p4), .val (.int p5), .val (.int (f_min p0 (2147483632 : Int32))), .val (.int (j7 p0 p1 p2 p3 p4 p5)), .val (.int (j8 p0 p1 p2 p3 p4 p5)), .val (.ref b0_3), .val (.ref ub0_12), .val (.ref b0_15), .val (.ref b0_100), .val (.ref uu0_123), .val (.int (f_min (j7 p0 p1 p2 p3 p4 p5) (j8 p0 p1 p2 p3 p4 p5))), .val (.int (f_max (j7 p0 p1 p2 p3 p4 p5) (j8 p0 p1 p2 p3 p4 p5))), .val (.int (j16 p0 p1 p2 p3 p4 p5)), .val (.int ((f_min p0 (2147483632 : Int32)) + (15 : Int32))), .val (.int (j18 p0 p1 p2 p3 p4 p5)), .unset, .unset, .unset, .unset, .unset, .unset, .unset] [(.int (j19 p0 p1 p2 p3 p4 p5))])) t → Steps p.tables e below (T0_129.setTop (mkF m 362 #[.val (.int p0), .val (.int p1), .val (.int p2), .val (.int p3), .val (.int p4), .val (.int p5), .val (.int (f_min p0 (2147483632 : Int32))), .val (.int (j7 p0 p1 p2 p3 p4 p5)), .val (.int (j8 p0 p1 p2 p3 p4 p5)), .val (.ref b0_3), .val (.ref ub0_12), .val (.ref b0_15), .val (.ref b0_100), .val (.ref uu0_123), .val (.int (f_min (j7 p0 p1 p2 p3 p4 p5) (j8 p0 p1 p2 p3 p4 p5))), .val (.int (f_max (j7 p0 p1 p2 p3 p4 p5) (j8 p0 p1 p2 p3 p4 p5))), .val (.int (j16 p0 p1 p2 p3 p4 p5)), .val (.int ((f_min p0 (2147483632 : Int32)) + (15 : Int32))), .val (.int (j18 p0 p1 p2 p3 p4 p5)), .unset, .unset, .unset, .unset, .unset, .unset, .unset] [])) t := by
      intro t k
      refine ox_iload Xhd0_130.here hx (hb hby at_362) rfl ?_
      by_cases hc0_8 : (j16 p0 p1 p2 p3 p4 p5) = (0 : Int32)
      · refine ox_ifYes Xhd0_130.here hx (pc0 := 364) (pc' := 385) rfl (hb hby at_364) rfl ((if0 _ _).trans (teq hc0_8).1) (by decide) (by decide) ?_
        refine ox_iconst Xhd0_130.here hx (hb hby at_385) ?_
        have q : j19 p0 p1 p2 p3 p4 p5 = (0 : Int32) := by rw [j19, if_pos hc0_8]
        rw [q] at k
        exact k
      · refine ox_ifNo Xhd0_130.here hx (hb hby at_364) rfl ((if0 _ _).trans (feq hc0_8).1) ?_
        refine ox_iload Xhd0_130.here hx (hb hby at_367) rfl ?_
        refine ox_iload Xhd0_130.here hx (hb hby at_369) rfl ?_
        by_cases hc0_9 : (f_max (j7 p0 p1 p2 p3 p4 p5) (j8 p0 p1 p2 p3 p4 p5)) < (f_min p0 (2147483632 : Int32))
        · refine ox_icmpYes Xhd0_130.here hx (pc0 := 371) (pc' := 381) rfl (hb hby at_371) rfl (tlt hc0_9).1 (by decide) (by decide) ?_
          refine ox_iconst Xhd0_130.here hx (hb hby at_381) ?_
          refine ox_goto Xhd0_130.here hx (pc0 := 382) (pc' := 386) rfl (hb hby at_382) (by decide) (by decide) ?_
          have q : j19 p0 p1 p2 p3 p4 p5 = (1 : Int32) := by rw [j19, if_neg hc0_8, if_pos hc0_9]
          rw [q] at k
          exact k
        · refine ox_icmpNo Xhd0_130.here hx (hb hby at_371) rfl (flt hc0_9).1 ?_
          refine ox_iload Xhd0_130.here hx (hb hby at_374) rfl ?_
          refine ox_iload Xhd0_130.here hx (hb hby at_376) rfl ?_
          by_cases hc0_10 : ((f_min p0 (2147483632 : Int32)) + (15 : Int32)) < (f_max (j7 p0 p1 p2 p3 p4 p5) (j8 p0 p1 p2 p3 p4 p5))
          · refine ox_icmpNo Xhd0_130.here hx (hb hby at_378) rfl (tlt hc0_10).2.2.2 ?_
            refine ox_iconst Xhd0_130.here hx (hb hby at_381) ?_
            refine ox_goto Xhd0_130.here hx (pc0 := 382) (pc' := 386) rfl (hb hby at_382) (by decide) (by decide) ?_
            have q : j19 p0 p1 p2 p3 p4 p5 = (1 : Int32) := by rw [j19, if_neg hc0_8, if_neg hc0_9, if_pos hc0_10]
            rw [q] at k
            exact k
          · refine ox_icmpYes Xhd0_130.here hx (pc0 := 378) (pc' := 385) rfl (hb hby at_378) rfl (flt hc0_10).2.2.2 (by decide) (by decide) ?_
            refine ox_iconst Xhd0_130.here hx (hb hby at_385) ?_
            have q : j19 p0 p1 p2 p3 p4 p5 = (0 : Int32) := by rw [j19, if_neg hc0_8, if_neg hc0_9, if_neg hc0_10]
            rw [q] at k
            exact k
    refine own_fw sg0_362 ?_
    refine own_fw (A := T0_129.setTop (mkF m 388 #[.val (.int p0), .val (.int p1), .val (.int p2), .val (.int p3), .val (.int p4), .val (.int p5), .val (.int (f_min p0 (2147483632 : Int32))), .val (.int (j7 p0 p1 p2 p3 p4 p5)), .val (.int (j8 p0 p1 p2 p3 p4 p5)), .val (.ref b0_3), .val (.ref ub0_12), .val (.ref b0_15), .val (.ref b0_100), .val (.ref uu0_123), .val (.int (f_min (j7 p0 p1 p2 p3 p4 p5) (j8 p0 p1 p2 p3 p4 p5))), .val (.int (f_max (j7 p0 p1 p2 p3 p4 p5) (j8 p0 p1 p2 p3 p4 p5))), .val (.int (j16 p0 p1 p2 p3 p4 p5)), .val (.int ((f_min p0 (2147483632 : Int32)) + (15 : Int32))), .val (.int (j18 p0 p1 p2 p3 p4 p5)), .val (.int (j19 p0 p1 p2 p3 p4 p5)), .unset, .unset, .unset, .unset, .unset, .unset] [])) (fun t k => ?_) ?_
    · refine ox_istore Xhd0_130.here hx (hb hby at_386) rfl (l' := #[.val (.int p0), .val (.int p1), .val (.int p2), .val (.int p3), .val (.int p4), .val (.int p5), .val (.int (f_min p0 (2147483632 : Int32))), .val (.int (j7 p0 p1 p2 p3 p4 p5)), .val (.int (j8 p0 p1 p2 p3 p4 p5)), .val (.ref b0_3), .val (.ref ub0_12), .val (.ref b0_15), .val (.ref b0_100), .val (.ref uu0_123), .val (.int (f_min (j7 p0 p1 p2 p3 p4 p5) (j8 p0 p1 p2 p3 p4 p5))), .val (.int (f_max (j7 p0 p1 p2 p3 p4 p5) (j8 p0 p1 p2 p3 p4 p5))), .val (.int (j16 p0 p1 p2 p3 p4 p5)), .val (.int ((f_min p0 (2147483632 : Int32)) + (15 : Int32))), .val (.int (j18 p0 p1 p2 p3 p4 p5)), .val (.int (j19 p0 p1 p2 p3 p4 p5)), .unset, .unset, .unset, .unset, .unset, .unset]) rfl ?_
      exact k
    have sg0_388 : ∀ t, Steps p.tables e below (T0_129.setTop (mkF m 405 #[.val (.int p0), .val (.int p1), .val (.int p2), .val (.int p3), .val (.int p4), .val (.int p5), .val (.int (f_min p0 (2147483632 : Int32))), .val (.int (j7 p0 p1 p2 p3 p4 p5)), .val (.int (j8 p0 p1 p2 p3 p4 p5)), .val (.ref b0_3), .val (.ref ub0_12), .val (.ref b0_15), .val (.ref b0_100), .val (.ref uu0_123), .val (.int (f_min (j7 p0 p1 p2 p3 p4 p5) (j8 p0 p1 p2 p3 p4 p5))), .val (.int (f_max (j7 p0 p1 p2 p3 p4 p5) (j8 p0 p1 p2 p3 p4 p5))), .val (.int (j16 p0 p1 p2 p3 p4 p5)), .val (.int ((f_min p0 (2147483632 : Int32)) + (15 : Int32))), .val (.int (j18 p0 p1 p2 p3 p4 p5)), .val (.int (j19 p0 p1 p2 p3 p4 p5)), .unset, .unset, .unset, .unset, .unset, .unset] [(.int (jb1 p0 p1 p2 p3 p4 p5))])) t → Steps p.tables e below (T0_129.setTop (mkF m 388 #[.val (.int p0), .val (.int p1), .val (.int p2), .val (.int p3), .val (.int p4), .val (.int p5), .val (.int (f_min p0 (2147483632 : Int32))), .val (.int (j7 p0 p1 p2 p3 p4 p5)), .val (.int (j8 p0 p1 p2 p3 p4 p5)), .val (.ref b0_3), .val (.ref ub0_12), .val (.ref b0_15), .val (.ref b0_100), .val (.ref uu0_123), .val (.int (f_min (j7 p0 p1 p2 p3 p4 p5) (j8 p0 p1 p2 p3 p4 p5))), .val (.int (f_max (j7 p0 p1 p2 p3 p4 p5) (j8 p0 p1 p2 p3 p4 p5))), .val (.int (j16 p0 p1 p2 p3 p4 p5)), .val (.int ((f_min p0 (2147483632 : Int32)) + (15 : Int32))), .val (.int (j18 p0 p1 p2 p3 p4 p5)), .val (.int (j19 p0 p1 p2 p3 p4 p5)), .unset, .unset, .unset, .unset, .unset, .unset] [])) t := by
      intro t k
      refine ox_iload Xhd0_130.here hx (hb hby at_388) rfl ?_
      by_cases hc0_11 : (j18 p0 p1 p2 p3 p4 p5) = (0 : Int32)
      · refine ox_ifYes Xhd0_130.here hx (pc0 := 390) (pc' := 404) rfl (hb hby at_390) rfl ((if0 _ _).trans (teq hc0_11).1) (by decide) (by decide) ?_
        refine ox_iconst Xhd0_130.here hx (hb hby at_404) ?_
        have q : jb1 p0 p1 p2 p3 p4 p5 = (0 : Int32) := by rw [jb1, if_pos hc0_11]
        rw [q] at k
        exact k
      · refine ox_ifNo Xhd0_130.here hx (hb hby at_390) rfl ((if0 _ _).trans (feq hc0_11).1) ?_
        refine ox_iload Xhd0_130.here hx (hb hby at_393) rfl ?_
        refine ox_iload Xhd0_130.here hx (hb hby at_395) rfl ?_
        by_cases hc0_12 : (f_min (j7 p0 p1 p2 p3 p4 p5) (j8 p0 p1 p2 p3 p4 p5)) < (f_min p0 (2147483632 : Int32))
        · refine ox_icmpNo Xhd0_130.here hx (hb hby at_397) rfl (tlt hc0_12).2.1 ?_
          refine ox_iconst Xhd0_130.here hx (hb hby at_400) ?_
          refine ox_goto Xhd0_130.here hx (pc0 := 401) (pc' := 405) rfl (hb hby at_401) (by decide) (by decide) ?_
          have q : jb1 p0 p1 p2 p3 p4 p5 = (1 : Int32) := by rw [jb1, if_neg hc0_11, if_pos hc0_12]
          rw [q] at k
          exact k
        · refine ox_icmpYes Xhd0_130.here hx (pc0 := 397) (pc' := 404) rfl (hb hby at_397) rfl (flt hc0_12).2.1 (by decide) (by decide) ?_
          refine ox_iconst Xhd0_130.here hx (hb hby at_404) ?_
          have q : jb1 p0 p1 p2 p3 p4 p5 = (0 : Int32) := by rw [jb1, if_neg hc0_11, if_neg hc0_12]
          rw [q] at k
          exact k
    refine own_fw sg0_388 ?_
    have sg0_405 : ∀ t, Steps p.tables e below (T0_129.setTop (mkF m 422 #[.val (.int p0), .val (.int p1), .val (.int p2), .val (.int p3), .val (.int p4), .val (.int p5), .val (.int (f_min p0 (2147483632 : Int32))), .val (.int (j7 p0 p1 p2 p3 p4 p5)), .val (.int (j8 p0 p1 p2 p3 p4 p5)), .val (.ref b0_3), .val (.ref ub0_12), .val (.ref b0_15), .val (.ref b0_100), .val (.ref uu0_123), .val (.int (f_min (j7 p0 p1 p2 p3 p4 p5) (j8 p0 p1 p2 p3 p4 p5))), .val (.int (f_max (j7 p0 p1 p2 p3 p4 p5) (j8 p0 p1 p2 p3 p4 p5))), .val (.int (j16 p0 p1 p2 p3 p4 p5)), .val (.int ((f_min p0 (2147483632 : Int32)) + (15 : Int32))), .val (.int (j18 p0 p1 p2 p3 p4 p5)), .val (.int (j19 p0 p1 p2 p3 p4 p5)), .unset, .unset, .unset, .unset, .unset, .unset] [(.int (jb2 p0 p1 p2 p3 p4 p5)), (.int (jb1 p0 p1 p2 p3 p4 p5))])) t → Steps p.tables e below (T0_129.setTop (mkF m 405 #[.val (.int p0), .val (.int p1), .val (.int p2), .val (.int p3), .val (.int p4), .val (.int p5), .val (.int (f_min p0 (2147483632 : Int32))), .val (.int (j7 p0 p1 p2 p3 p4 p5)), .val (.int (j8 p0 p1 p2 p3 p4 p5)), .val (.ref b0_3), .val (.ref ub0_12), .val (.ref b0_15), .val (.ref b0_100), .val (.ref uu0_123), .val (.int (f_min (j7 p0 p1 p2 p3 p4 p5) (j8 p0 p1 p2 p3 p4 p5))), .val (.int (f_max (j7 p0 p1 p2 p3 p4 p5) (j8 p0 p1 p2 p3 p4 p5))), .val (.int (j16 p0 p1 p2 p3 p4 p5)), .val (.int ((f_min p0 (2147483632 : Int32)) + (15 : Int32))), .val (.int (j18 p0 p1 p2 p3 p4 p5)), .val (.int (j19 p0 p1 p2 p3 p4 p5)), .unset, .unset, .unset, .unset, .unset, .unset] [(.int (jb1 p0 p1 p2 p3 p4 p5))])) t := by
      intro t k
      refine ox_iload Xhd0_130.here hx (hb hby at_405) rfl ?_
      by_cases hc0_13 : (j19 p0 p1 p2 p3 p4 p5) = (0 : Int32)
      · refine ox_ifYes Xhd0_130.here hx (pc0 := 407) (pc' := 421) rfl (hb hby at_407) rfl ((if0 _ _).trans (teq hc0_13).1) (by decide) (by decide) ?_
        refine ox_iconst Xhd0_130.here hx (hb hby at_421) ?_
        have q : jb2 p0 p1 p2 p3 p4 p5 = (0 : Int32) := by rw [jb2, if_pos hc0_13]
        rw [q] at k
        exact k
      · refine ox_ifNo Xhd0_130.here hx (hb hby at_407) rfl ((if0 _ _).trans (feq hc0_13).1) ?_
        refine ox_iload Xhd0_130.here hx (hb hby at_410) rfl ?_
        refine ox_iload Xhd0_130.here hx (hb hby at_412) rfl ?_
        by_cases hc0_14 : (f_max (j7 p0 p1 p2 p3 p4 p5) (j8 p0 p1 p2 p3 p4 p5)) < (f_min p0 (2147483632 : Int32))
        · refine ox_icmpNo Xhd0_130.here hx (hb hby at_414) rfl (tlt hc0_14).2.1 ?_
          refine ox_iconst Xhd0_130.here hx (hb hby at_417) ?_
          refine ox_goto Xhd0_130.here hx (pc0 := 418) (pc' := 422) rfl (hb hby at_418) (by decide) (by decide) ?_
          have q : jb2 p0 p1 p2 p3 p4 p5 = (1 : Int32) := by rw [jb2, if_neg hc0_13, if_pos hc0_14]
          rw [q] at k
          exact k
        · refine ox_icmpYes Xhd0_130.here hx (pc0 := 414) (pc' := 421) rfl (hb hby at_414) rfl (flt hc0_14).2.1 (by decide) (by decide) ?_
          refine ox_iconst Xhd0_130.here hx (hb hby at_421) ?_
          have q : jb2 p0 p1 p2 p3 p4 p5 = (0 : Int32) := by rw [jb2, if_neg hc0_13, if_neg hc0_14]
          rw [q] at k
          exact k
    refine own_fw sg0_405 ?_
    refine own_fw (A := T0_129.setTop (mkF m 425 #[.val (.int p0), .val (.int p1), .val (.int p2), .val (.int p3), .val (.int p4), .val (.int p5), .val (.int (f_min p0 (2147483632 : Int32))), .val (.int (j7 p0 p1 p2 p3 p4 p5)), .val (.int (j8 p0 p1 p2 p3 p4 p5)), .val (.ref b0_3), .val (.ref ub0_12), .val (.ref b0_15), .val (.ref b0_100), .val (.ref uu0_123), .val (.int (f_min (j7 p0 p1 p2 p3 p4 p5) (j8 p0 p1 p2 p3 p4 p5))), .val (.int (f_max (j7 p0 p1 p2 p3 p4 p5) (j8 p0 p1 p2 p3 p4 p5))), .val (.int (j16 p0 p1 p2 p3 p4 p5)), .val (.int ((f_min p0 (2147483632 : Int32)) + (15 : Int32))), .val (.int (j18 p0 p1 p2 p3 p4 p5)), .val (.int (j19 p0 p1 p2 p3 p4 p5)), .val (.int ((jb1 p0 p1 p2 p3 p4 p5) + (jb2 p0 p1 p2 p3 p4 p5))), .unset, .unset, .unset, .unset, .unset] [])) (fun t k => ?_) ?_
    · refine ox_iadd Xhd0_130.here hx (hb hby at_422) rfl ?_
      refine ox_istore Xhd0_130.here hx (hb hby at_423) rfl (l' := #[.val (.int p0), .val (.int p1), .val (.int p2), .val (.int p3), .val (.int p4), .val (.int p5), .val (.int (f_min p0 (2147483632 : Int32))), .val (.int (j7 p0 p1 p2 p3 p4 p5)), .val (.int (j8 p0 p1 p2 p3 p4 p5)), .val (.ref b0_3), .val (.ref ub0_12), .val (.ref b0_15), .val (.ref b0_100), .val (.ref uu0_123), .val (.int (f_min (j7 p0 p1 p2 p3 p4 p5) (j8 p0 p1 p2 p3 p4 p5))), .val (.int (f_max (j7 p0 p1 p2 p3 p4 p5) (j8 p0 p1 p2 p3 p4 p5))), .val (.int (j16 p0 p1 p2 p3 p4 p5)), .val (.int ((f_min p0 (2147483632 : Int32)) + (15 : Int32))), .val (.int (j18 p0 p1 p2 p3 p4 p5)), .val (.int (j19 p0 p1 p2 p3 p4 p5)), .val (.int ((jb1 p0 p1 p2 p3 p4 p5) + (jb2 p0 p1 p2 p3 p4 p5))), .unset, .unset, .unset, .unset, .unset]) rfl ?_
      exact k
    have sg0_425 : ∀ t, Steps p.tables e below (T0_129.setTop (mkF m 442 #[.val (.int p0), .val (.int p1), .val (.int p2), .val (.int p3), .val (.int p4), .val (.int p5), .val (.int (f_min p0 (2147483632 : Int32))), .val (.int (j7 p0 p1 p2 p3 p4 p5)), .val (.int (j8 p0 p1 p2 p3 p4 p5)), .val (.ref b0_3), .val (.ref ub0_12), .val (.ref b0_15), .val (.ref b0_100), .val (.ref uu0_123), .val (.int (f_min (j7 p0 p1 p2 p3 p4 p5) (j8 p0 p1 p2 p3 p4 p5))), .val (.int (f_max (j7 p0 p1 p2 p3 p4 p5) (j8 p0 p1 p2 p3 p4 p5))), .val (.int (j16 p0 p1 p2 p3 p4 p5)), .val (.int ((f_min p0 (2147483632 : Int32)) + (15 : Int32))), .val (.int (j18 p0 p1 p2 p3 p4 p5)), .val (.int (j19 p0 p1 p2 p3 p4 p5)), .val (.int ((jb1 p0 p1 p2 p3 p4 p5) + (jb2 p0 p1 p2 p3 p4 p5))), .unset, .unset, .unset, .unset, .unset] [(.int (ja1 p0 p1 p2 p3 p4 p5))])) t → Steps p.tables e below (T0_129.setTop (mkF m 425 #[.val (.int p0), .val (.int p1), .val (.int p2), .val (.int p3), .val (.int p4), .val (.int p5), .val (.int (f_min p0 (2147483632 : Int32))), .val (.int (j7 p0 p1 p2 p3 p4 p5)), .val (.int (j8 p0 p1 p2 p3 p4 p5)), .val (.ref b0_3), .val (.ref ub0_12), .val (.ref b0_15), .val (.ref b0_100), .val (.ref uu0_123), .val (.int (f_min (j7 p0 p1 p2 p3 p4 p5) (j8 p0 p1 p2 p3 p4 p5))), .val (.int (f_max (j7 p0 p1 p2 p3 p4 p5) (j8 p0 p1 p2 p3 p4 p5))), .val (.int (j16 p0 p1 p2 p3 p4 p5)), .val (.int ((f_min p0 (2147483632 : Int32)) + (15 : Int32))), .val (.int (j18 p0 p1 p2 p3 p4 p5)), .val (.int (j19 p0 p1 p2 p3 p4 p5)), .val (.int ((jb1 p0 p1 p2 p3 p4 p5) + (jb2 p0 p1 p2 p3 p4 p5))), .unset, .unset, .unset, .unset, .unset] [])) t := by
      intro t k
      refine ox_iload Xhd0_130.here hx (hb hby at_425) rfl ?_
      by_cases hc0_15 : (j18 p0 p1 p2 p3 p4 p5) = (0 : Int32)
      · refine ox_ifYes Xhd0_130.here hx (pc0 := 427) (pc' := 441) rfl (hb hby at_427) rfl ((if0 _ _).trans (teq hc0_15).1) (by decide) (by decide) ?_
        refine ox_iconst Xhd0_130.here hx (hb hby at_441) ?_
        have q : ja1 p0 p1 p2 p3 p4 p5 = (0 : Int32) := by rw [ja1, if_pos hc0_15]
        rw [q] at k
        exact k
      · refine ox_ifNo Xhd0_130.here hx (hb hby at_427) rfl ((if0 _ _).trans (feq hc0_15).1) ?_
        refine ox_iload Xhd0_130.here hx (hb hby at_430) rfl ?_
        refine ox_iload Xhd0_130.here hx (hb hby at_432) rfl ?_
        by_cases hc0_16 : ((f_min p0 (2147483632 : Int32)) + (15 : Int32)) < (f_min (j7 p0 p1 p2 p3 p4 p5) (j8 p0 p1 p2 p3 p4 p5))
        · refine ox_icmpNo Xhd0_130.here hx (hb hby at_434) rfl (tlt hc0_16).2.2.2 ?_
          refine ox_iconst Xhd0_130.here hx (hb hby at_437) ?_
          refine ox_goto Xhd0_130.here hx (pc0 := 438) (pc' := 442) rfl (hb hby at_438) (by decide) (by decide) ?_
          have q : ja1 p0 p1 p2 p3 p4 p5 = (1 : Int32) := by rw [ja1, if_neg hc0_15, if_pos hc0_16]
          rw [q] at k
          exact k
        · refine ox_icmpYes Xhd0_130.here hx (pc0 := 434) (pc' := 441) rfl (hb hby at_434) rfl (flt hc0_16).2.2.2 (by decide) (by decide) ?_
          refine ox_iconst Xhd0_130.here hx (hb hby at_441) ?_
          have q : ja1 p0 p1 p2 p3 p4 p5 = (0 : Int32) := by rw [ja1, if_neg hc0_15, if_neg hc0_16]
          rw [q] at k
          exact k
    refine own_fw sg0_425 ?_
    have sg0_442 : ∀ t, Steps p.tables e below (T0_129.setTop (mkF m 459 #[.val (.int p0), .val (.int p1), .val (.int p2), .val (.int p3), .val (.int p4), .val (.int p5), .val (.int (f_min p0 (2147483632 : Int32))), .val (.int (j7 p0 p1 p2 p3 p4 p5)), .val (.int (j8 p0 p1 p2 p3 p4 p5)), .val (.ref b0_3), .val (.ref ub0_12), .val (.ref b0_15), .val (.ref b0_100), .val (.ref uu0_123), .val (.int (f_min (j7 p0 p1 p2 p3 p4 p5) (j8 p0 p1 p2 p3 p4 p5))), .val (.int (f_max (j7 p0 p1 p2 p3 p4 p5) (j8 p0 p1 p2 p3 p4 p5))), .val (.int (j16 p0 p1 p2 p3 p4 p5)), .val (.int ((f_min p0 (2147483632 : Int32)) + (15 : Int32))), .val (.int (j18 p0 p1 p2 p3 p4 p5)), .val (.int (j19 p0 p1 p2 p3 p4 p5)), .val (.int ((jb1 p0 p1 p2 p3 p4 p5) + (jb2 p0 p1 p2 p3 p4 p5))), .unset, .unset, .unset, .unset, .unset] [(.int (ja2 p0 p1 p2 p3 p4 p5)), (.int (ja1 p0 p1 p2 p3 p4 p5))])) t → Steps p.tables e below (T0_129.setTop (mkF m 442 #[.val (.int p0), .val (.int p1), .val (.int p2), .val (.int p3), .val (.int p4), .val (.int p5), .val (.int (f_min p0 (2147483632 : Int32))), .val (.int (j7 p0 p1 p2 p3 p4 p5)), .val (.int (j8 p0 p1 p2 p3 p4 p5)), .val (.ref b0_3), .val (.ref ub0_12), .val (.ref b0_15), .val (.ref b0_100), .val (.ref uu0_123), .val (.int (f_min (j7 p0 p1 p2 p3 p4 p5) (j8 p0 p1 p2 p3 p4 p5))), .val (.int (f_max (j7 p0 p1 p2 p3 p4 p5) (j8 p0 p1 p2 p3 p4 p5))), .val (.int (j16 p0 p1 p2 p3 p4 p5)), .val (.int ((f_min p0 (2147483632 : Int32)) + (15 : Int32))), .val (.int (j18 p0 p1 p2 p3 p4 p5)), .val (.int (j19 p0 p1 p2 p3 p4 p5)), .val (.int ((jb1 p0 p1 p2 p3 p4 p5) + (jb2 p0 p1 p2 p3 p4 p5))), .unset, .unset, .unset, .unset, .unset] [(.int (ja1 p0 p1 p2 p3 p4 p5))])) t := by
      intro t k
      refine ox_iload Xhd0_130.here hx (hb hby at_442) rfl ?_
      by_cases hc0_17 : (j19 p0 p1 p2 p3 p4 p5) = (0 : Int32)
      · refine ox_ifYes Xhd0_130.here hx (pc0 := 444) (pc' := 458) rfl (hb hby at_444) rfl ((if0 _ _).trans (teq hc0_17).1) (by decide) (by decide) ?_
        refine ox_iconst Xhd0_130.here hx (hb hby at_458) ?_
        have q : ja2 p0 p1 p2 p3 p4 p5 = (0 : Int32) := by rw [ja2, if_pos hc0_17]
        rw [q] at k
        exact k
      · refine ox_ifNo Xhd0_130.here hx (hb hby at_444) rfl ((if0 _ _).trans (feq hc0_17).1) ?_
        refine ox_iload Xhd0_130.here hx (hb hby at_447) rfl ?_
        refine ox_iload Xhd0_130.here hx (hb hby at_449) rfl ?_
        by_cases hc0_18 : ((f_min p0 (2147483632 : Int32)) + (15 : Int32)) < (f_max (j7 p0 p1 p2 p3 p4 p5) (j8 p0 p1 p2 p3 p4 p5))
        · refine ox_icmpNo Xhd0_130.here hx (hb hby at_451) rfl (tlt hc0_18).2.2.2 ?_
          refine ox_iconst Xhd0_130.here hx (hb hby at_454) ?_
          refine ox_goto Xhd0_130.here hx (pc0 := 455) (pc' := 459) rfl (hb hby at_455) (by decide) (by decide) ?_
          have q : ja2 p0 p1 p2 p3 p4 p5 = (1 : Int32) := by rw [ja2, if_neg hc0_17, if_pos hc0_18]
          rw [q] at k
          exact k
        · refine ox_icmpYes Xhd0_130.here hx (pc0 := 451) (pc' := 458) rfl (hb hby at_451) rfl (flt hc0_18).2.2.2 (by decide) (by decide) ?_
          refine ox_iconst Xhd0_130.here hx (hb hby at_458) ?_
          have q : ja2 p0 p1 p2 p3 p4 p5 = (0 : Int32) := by rw [ja2, if_neg hc0_17, if_neg hc0_18]
          rw [q] at k
          exact k
    refine own_fw sg0_442 ?_
    refine own_fw (A := T0_129.setTop (mkF m 474 #[.val (.int p0), .val (.int p1), .val (.int p2), .val (.int p3), .val (.int p4), .val (.int p5), .val (.int (f_min p0 (2147483632 : Int32))), .val (.int (j7 p0 p1 p2 p3 p4 p5)), .val (.int (j8 p0 p1 p2 p3 p4 p5)), .val (.ref b0_3), .val (.ref ub0_12), .val (.ref b0_15), .val (.ref b0_100), .val (.ref uu0_123), .val (.int (f_min (j7 p0 p1 p2 p3 p4 p5) (j8 p0 p1 p2 p3 p4 p5))), .val (.int (f_max (j7 p0 p1 p2 p3 p4 p5) (j8 p0 p1 p2 p3 p4 p5))), .val (.int (j16 p0 p1 p2 p3 p4 p5)), .val (.int ((f_min p0 (2147483632 : Int32)) + (15 : Int32))), .val (.int (j18 p0 p1 p2 p3 p4 p5)), .val (.int (j19 p0 p1 p2 p3 p4 p5)), .val (.int ((jb1 p0 p1 p2 p3 p4 p5) + (jb2 p0 p1 p2 p3 p4 p5))), .val (.int ((ja1 p0 p1 p2 p3 p4 p5) + (ja2 p0 p1 p2 p3 p4 p5))), .val (.int ((((jb1 p0 p1 p2 p3 p4 p5) + (jb2 p0 p1 p2 p3 p4 p5)) + (16 : Int32)) + ((ja1 p0 p1 p2 p3 p4 p5) + (ja2 p0 p1 p2 p3 p4 p5)))), .unset, .unset, .unset] [(.ref uu0_123)])) (fun t k => ?_) ?_
    · refine ox_iadd Xhd0_130.here hx (hb hby at_459) rfl ?_
      refine ox_istore Xhd0_130.here hx (hb hby at_460) rfl (l' := #[.val (.int p0), .val (.int p1), .val (.int p2), .val (.int p3), .val (.int p4), .val (.int p5), .val (.int (f_min p0 (2147483632 : Int32))), .val (.int (j7 p0 p1 p2 p3 p4 p5)), .val (.int (j8 p0 p1 p2 p3 p4 p5)), .val (.ref b0_3), .val (.ref ub0_12), .val (.ref b0_15), .val (.ref b0_100), .val (.ref uu0_123), .val (.int (f_min (j7 p0 p1 p2 p3 p4 p5) (j8 p0 p1 p2 p3 p4 p5))), .val (.int (f_max (j7 p0 p1 p2 p3 p4 p5) (j8 p0 p1 p2 p3 p4 p5))), .val (.int (j16 p0 p1 p2 p3 p4 p5)), .val (.int ((f_min p0 (2147483632 : Int32)) + (15 : Int32))), .val (.int (j18 p0 p1 p2 p3 p4 p5)), .val (.int (j19 p0 p1 p2 p3 p4 p5)), .val (.int ((jb1 p0 p1 p2 p3 p4 p5) + (jb2 p0 p1 p2 p3 p4 p5))), .val (.int ((ja1 p0 p1 p2 p3 p4 p5) + (ja2 p0 p1 p2 p3 p4 p5))), .unset, .unset, .unset, .unset]) rfl ?_
      refine ox_iload Xhd0_130.here hx (hb hby at_462) rfl ?_
      refine ox_bipush Xhd0_130.here hx (hb hby at_464) ?_
      refine ox_iadd Xhd0_130.here hx (hb hby at_466) rfl ?_
      refine ox_iload Xhd0_130.here hx (hb hby at_467) rfl ?_
      refine ox_iadd Xhd0_130.here hx (hb hby at_469) rfl ?_
      refine ox_istore Xhd0_130.here hx (hb hby at_470) rfl (l' := #[.val (.int p0), .val (.int p1), .val (.int p2), .val (.int p3), .val (.int p4), .val (.int p5), .val (.int (f_min p0 (2147483632 : Int32))), .val (.int (j7 p0 p1 p2 p3 p4 p5)), .val (.int (j8 p0 p1 p2 p3 p4 p5)), .val (.ref b0_3), .val (.ref ub0_12), .val (.ref b0_15), .val (.ref b0_100), .val (.ref uu0_123), .val (.int (f_min (j7 p0 p1 p2 p3 p4 p5) (j8 p0 p1 p2 p3 p4 p5))), .val (.int (f_max (j7 p0 p1 p2 p3 p4 p5) (j8 p0 p1 p2 p3 p4 p5))), .val (.int (j16 p0 p1 p2 p3 p4 p5)), .val (.int ((f_min p0 (2147483632 : Int32)) + (15 : Int32))), .val (.int (j18 p0 p1 p2 p3 p4 p5)), .val (.int (j19 p0 p1 p2 p3 p4 p5)), .val (.int ((jb1 p0 p1 p2 p3 p4 p5) + (jb2 p0 p1 p2 p3 p4 p5))), .val (.int ((ja1 p0 p1 p2 p3 p4 p5) + (ja2 p0 p1 p2 p3 p4 p5))), .val (.int ((((jb1 p0 p1 p2 p3 p4 p5) + (jb2 p0 p1 p2 p3 p4 p5)) + (16 : Int32)) + ((ja1 p0 p1 p2 p3 p4 p5) + (ja2 p0 p1 p2 p3 p4 p5)))), .unset, .unset, .unset]) rfl ?_
      refine ox_aload Xhd0_130.here hx (hb hby at_472) rfl rfl ?_
      exact k
    obtain ⟨cq0_131, kq0_131, q0_131a, q0_131b, q0_131c⟩ := isOf hZ e0_129 Eu0_123
    obtain ⟨_, _, ⟨T0_131, L0_131, k0_131, n0_131⟩, -, X0_131, ⟨Lc0_131, hQ0_131, l0_131, y0_131, z0_131⟩, st0_131⟩ := Xhd0_130.virtualBack hx (y := mN0) (z := mN0) hown (mvT hZ (own_w hw 211 rfl)) (mvT hZ (own_w hw 183 rfl)) (notFace_of_selects (args := #[]) (mvT hZ (own_w hw 185 rfl))) (mvT hZ (own_w hw 185 rfl)) (mvT hZ (own_w hw 184 rfl)) (by decide) (backOf (W := 0) (rm26 l Z a0 hw [] uu0_123 mu0_123 kI (own_exp (f_min p0 (2147483632 : Int32)) (j7 p0 p1 p2 p3 p4 p5) (j8 p0 p1 p2 p3 p4 p5)).length (own_exp (f_min p0 (2147483632 : Int32)) (j7 p0 p1 p2 p3 p4 p5) (j8 p0 p1 p2 p3 p4 p5)) T0_123.heap n0 (Nat.le_trans (Nat.le_trans fc0_114 K0_116.1) K0_123.1) Fu0_123 Iu0_123) hZ (own_w hw 186 rfl) (own_w hw 53 rfl) (by decide) (by decide)) q0_131a q0_131c (g := (mkF m 474 #[.val (.int p0), .val (.int p1), .val (.int p2), .val (.int p3), .val (.int p4), .val (.int p5), .val (.int (f_min p0 (2147483632 : Int32))), .val (.int (j7 p0 p1 p2 p3 p4 p5)), .val (.int (j8 p0 p1 p2 p3 p4 p5)), .val (.ref b0_3), .val (.ref ub0_12), .val (.ref b0_15), .val (.ref b0_100), .val (.ref uu0_123), .val (.int (f_min (j7 p0 p1 p2 p3 p4 p5) (j8 p0 p1 p2 p3 p4 p5))), .val (.int (f_max (j7 p0 p1 p2 p3 p4 p5) (j8 p0 p1 p2 p3 p4 p5))), .val (.int (j16 p0 p1 p2 p3 p4 p5)), .val (.int ((f_min p0 (2147483632 : Int32)) + (15 : Int32))), .val (.int (j18 p0 p1 p2 p3 p4 p5)), .val (.int (j19 p0 p1 p2 p3 p4 p5)), .val (.int ((jb1 p0 p1 p2 p3 p4 p5) + (jb2 p0 p1 p2 p3 p4 p5))), .val (.int ((ja1 p0 p1 p2 p3 p4 p5) + (ja2 p0 p1 p2 p3 p4 p5))), .val (.int ((((jb1 p0 p1 p2 p3 p4 p5) + (jb2 p0 p1 p2 p3 p4 p5)) + (16 : Int32)) + ((ja1 p0 p1 p2 p3 p4 p5) + (ja2 p0 p1 p2 p3 p4 p5)))), .unset, .unset, .unset] [(.ref uu0_123)])) rfl (by rw [hml]; rfl) (Steps.refl _) (argsL := []) (rest := []) (lenOf pd0_7 rfl) rfl (own_mr rfl) (hb hby at_474) (fun _ _ => ⟨rfl, e0_129, (by decide : 20 + 0 ≤ _), (by decide : 235 + 0 ≤ _)⟩)
    dsimp only [Pt.U, Pt.locs, Pt.cells, Pt.slots] at X0_131 l0_131 y0_131 z0_131 st0_131 hQ0_131
    subst l0_131 y0_131 z0_131
    obtain ⟨rfl, N0_131q, e0_131⟩ := hQ0_131
    have N0_131 := Fr.app Nhd0_130 N0_131q
    refine own_fw (fun t k => st0_131.trans k) ?_
    obtain ⟨Lhd0_132, Xhd0_132, Nhd0_132⟩ := own_hide X0_131 N0_131
    refine own_fw (A := T0_131.setTop (mkF m 498 #[.val (.int p0), .val (.int p1), .val (.int p2), .val (.int p3), .val (.int p4), .val (.int p5), .val (.int (f_min p0 (2147483632 : Int32))), .val (.int (j7 p0 p1 p2 p3 p4 p5)), .val (.int (j8 p0 p1 p2 p3 p4 p5)), .val (.ref b0_3), .val (.ref ub0_12), .val (.ref b0_15), .val (.ref b0_100), .val (.ref uu0_123), .val (.int (f_min (j7 p0 p1 p2 p3 p4 p5) (j8 p0 p1 p2 p3 p4 p5))), .val (.int (f_max (j7 p0 p1 p2 p3 p4 p5) (j8 p0 p1 p2 p3 p4 p5))), .val (.int (j16 p0 p1 p2 p3 p4 p5)), .val (.int ((f_min p0 (2147483632 : Int32)) + (15 : Int32))), .val (.int (j18 p0 p1 p2 p3 p4 p5)), .val (.int (j19 p0 p1 p2 p3 p4 p5)), .val (.int ((jb1 p0 p1 p2 p3 p4 p5) + (jb2 p0 p1 p2 p3 p4 p5))), .val (.int ((ja1 p0 p1 p2 p3 p4 p5) + (ja2 p0 p1 p2 p3 p4 p5))), .val (.int ((((jb1 p0 p1 p2 p3 p4 p5) + (jb2 p0 p1 p2 p3 p4 p5)) + (16 : Int32)) + ((ja1 p0 p1 p2 p3 p4 p5) + (ja2 p0 p1 p2 p3 p4 p5)))), .val (.int (own_irem (p4 &&& (2147483647 : Int32)) ((((jb1 p0 p1 p2 p3 p4 p5) + (jb2 p0 p1 p2 p3 p4 p5)) + (16 : Int32)) + ((ja1 p0 p1 p2 p3 p4 p5) + (ja2 p0 p1 p2 p3 p4 p5))))), .unset, .unset] [(.int ((jb1 p0 p1 p2 p3 p4 p5) + (jb2 p0 p1 p2 p3 p4 p5))), (.int (own_irem (p4 &&& (2147483647 : Int32)) ((((jb1 p0 p1 p2 p3 p4 p5) + (jb2 p0 p1 p2 p3 p4 p5)) + (16 : Int32)) + ((ja1 p0 p1 p2 p3 p4 p5) + (ja2 p0 p1 p2 p3 p4 p5)))))])) (fun t k => ?_) ?_
    · refine ox_iload Xhd0_132.here hx (hb hby at_477) rfl ?_
      refine ox_icmpYes Xhd0_132.here hx (pc0 := 479) (pc' := 484) rfl (hb hby at_479) rfl (teq (own_hn p0 p1 p2 p3 p4 p5)).1 (by decide) (by decide) ?_
      refine ox_iload Xhd0_132.here hx (hb hby at_484) rfl ?_
      show Steps p.tables e below (T0_131.setTop (mkF m 486 #[.val (.int p0), .val (.int p1), .val (.int p2), .val (.int p3), .val (.int p4), .val (.int p5), .val (.int (f_min p0 (2147483632 : Int32))), .val (.int (j7 p0 p1 p2 p3 p4 p5)), .val (.int (j8 p0 p1 p2 p3 p4 p5)), .val (.ref b0_3), .val (.ref ub0_12), .val (.ref b0_15), .val (.ref b0_100), .val (.ref uu0_123), .val (.int (f_min (j7 p0 p1 p2 p3 p4 p5) (j8 p0 p1 p2 p3 p4 p5))), .val (.int (f_max (j7 p0 p1 p2 p3 p4 p5) (j8 p0 p1 p2 p3 p4 p5))), .val (.int (j16 p0 p1 p2 p3 p4 p5)), .val (.int ((f_min p0 (2147483632 : Int32)) + (15 : Int32))), .val (.int (j18 p0 p1 p2 p3 p4 p5)), .val (.int (j19 p0 p1 p2 p3 p4 p5)), .val (.int ((jb1 p0 p1 p2 p3 p4 p5) + (jb2 p0 p1 p2 p3 p4 p5))), .val (.int ((ja1 p0 p1 p2 p3 p4 p5) + (ja2 p0 p1 p2 p3 p4 p5))), .val (.int ((((jb1 p0 p1 p2 p3 p4 p5) + (jb2 p0 p1 p2 p3 p4 p5)) + (16 : Int32)) + ((ja1 p0 p1 p2 p3 p4 p5) + (ja2 p0 p1 p2 p3 p4 p5)))), .unset, .unset, .unset] [(.int p4)])) t
      refine Xhd0_132.ldcInt hx hown (mvT hZ (own_w hw 212 rfl)) (g := (mkF m 486 #[.val (.int p0), .val (.int p1), .val (.int p2), .val (.int p3), .val (.int p4), .val (.int p5), .val (.int (f_min p0 (2147483632 : Int32))), .val (.int (j7 p0 p1 p2 p3 p4 p5)), .val (.int (j8 p0 p1 p2 p3 p4 p5)), .val (.ref b0_3), .val (.ref ub0_12), .val (.ref b0_15), .val (.ref b0_100), .val (.ref uu0_123), .val (.int (f_min (j7 p0 p1 p2 p3 p4 p5) (j8 p0 p1 p2 p3 p4 p5))), .val (.int (f_max (j7 p0 p1 p2 p3 p4 p5) (j8 p0 p1 p2 p3 p4 p5))), .val (.int (j16 p0 p1 p2 p3 p4 p5)), .val (.int ((f_min p0 (2147483632 : Int32)) + (15 : Int32))), .val (.int (j18 p0 p1 p2 p3 p4 p5)), .val (.int (j19 p0 p1 p2 p3 p4 p5)), .val (.int ((jb1 p0 p1 p2 p3 p4 p5) + (jb2 p0 p1 p2 p3 p4 p5))), .val (.int ((ja1 p0 p1 p2 p3 p4 p5) + (ja2 p0 p1 p2 p3 p4 p5))), .val (.int ((((jb1 p0 p1 p2 p3 p4 p5) + (jb2 p0 p1 p2 p3 p4 p5)) + (16 : Int32)) + ((ja1 p0 p1 p2 p3 p4 p5) + (ja2 p0 p1 p2 p3 p4 p5)))), .unset, .unset, .unset] [(.int p4)])) rfl (hb hby at_486) _ ?_
      refine ox_iand Xhd0_132.here hx (hb hby at_488) rfl ?_
      refine ox_iload Xhd0_132.here hx (hb hby at_489) rfl ?_
      refine ox_irem Xhd0_132.here hx (hb hby at_491) rfl (own_nz p0 p1 p2 p3 p4 p5) ?_
      refine ox_istore Xhd0_132.here hx (hb hby at_492) rfl (l' := #[.val (.int p0), .val (.int p1), .val (.int p2), .val (.int p3), .val (.int p4), .val (.int p5), .val (.int (f_min p0 (2147483632 : Int32))), .val (.int (j7 p0 p1 p2 p3 p4 p5)), .val (.int (j8 p0 p1 p2 p3 p4 p5)), .val (.ref b0_3), .val (.ref ub0_12), .val (.ref b0_15), .val (.ref b0_100), .val (.ref uu0_123), .val (.int (f_min (j7 p0 p1 p2 p3 p4 p5) (j8 p0 p1 p2 p3 p4 p5))), .val (.int (f_max (j7 p0 p1 p2 p3 p4 p5) (j8 p0 p1 p2 p3 p4 p5))), .val (.int (j16 p0 p1 p2 p3 p4 p5)), .val (.int ((f_min p0 (2147483632 : Int32)) + (15 : Int32))), .val (.int (j18 p0 p1 p2 p3 p4 p5)), .val (.int (j19 p0 p1 p2 p3 p4 p5)), .val (.int ((jb1 p0 p1 p2 p3 p4 p5) + (jb2 p0 p1 p2 p3 p4 p5))), .val (.int ((ja1 p0 p1 p2 p3 p4 p5) + (ja2 p0 p1 p2 p3 p4 p5))), .val (.int ((((jb1 p0 p1 p2 p3 p4 p5) + (jb2 p0 p1 p2 p3 p4 p5)) + (16 : Int32)) + ((ja1 p0 p1 p2 p3 p4 p5) + (ja2 p0 p1 p2 p3 p4 p5)))), .val (.int (own_irem (p4 &&& (2147483647 : Int32)) ((((jb1 p0 p1 p2 p3 p4 p5) + (jb2 p0 p1 p2 p3 p4 p5)) + (16 : Int32)) + ((ja1 p0 p1 p2 p3 p4 p5) + (ja2 p0 p1 p2 p3 p4 p5))))), .unset, .unset]) rfl ?_
      refine ox_iload Xhd0_132.here hx (hb hby at_494) rfl ?_
      refine ox_iload Xhd0_132.here hx (hb hby at_496) rfl ?_
      exact k
    by_cases hc0_19 : (own_irem (p4 &&& (2147483647 : Int32)) ((((jb1 p0 p1 p2 p3 p4 p5) + (jb2 p0 p1 p2 p3 p4 p5)) + (16 : Int32)) + ((ja1 p0 p1 p2 p3 p4 p5) + (ja2 p0 p1 p2 p3 p4 p5)))) < ((jb1 p0 p1 p2 p3 p4 p5) + (jb2 p0 p1 p2 p3 p4 p5))
    · refine own_fw (A := T0_131.setTop (mkF m 501 #[.val (.int p0), .val (.int p1), .val (.int p2), .val (.int p3), .val (.int p4), .val (.int p5), .val (.int (f_min p0 (2147483632 : Int32))), .val (.int (j7 p0 p1 p2 p3 p4 p5)), .val (.int (j8 p0 p1 p2 p3 p4 p5)), .val (.ref b0_3), .val (.ref ub0_12), .val (.ref b0_15), .val (.ref b0_100), .val (.ref uu0_123), .val (.int (f_min (j7 p0 p1 p2 p3 p4 p5) (j8 p0 p1 p2 p3 p4 p5))), .val (.int (f_max (j7 p0 p1 p2 p3 p4 p5) (j8 p0 p1 p2 p3 p4 p5))), .val (.int (j16 p0 p1 p2 p3 p4 p5)), .val (.int ((f_min p0 (2147483632 : Int32)) + (15 : Int32))), .val (.int (j18 p0 p1 p2 p3 p4 p5)), .val (.int (j19 p0 p1 p2 p3 p4 p5)), .val (.int ((jb1 p0 p1 p2 p3 p4 p5) + (jb2 p0 p1 p2 p3 p4 p5))), .val (.int ((ja1 p0 p1 p2 p3 p4 p5) + (ja2 p0 p1 p2 p3 p4 p5))), .val (.int ((((jb1 p0 p1 p2 p3 p4 p5) + (jb2 p0 p1 p2 p3 p4 p5)) + (16 : Int32)) + ((ja1 p0 p1 p2 p3 p4 p5) + (ja2 p0 p1 p2 p3 p4 p5)))), .val (.int (own_irem (p4 &&& (2147483647 : Int32)) ((((jb1 p0 p1 p2 p3 p4 p5) + (jb2 p0 p1 p2 p3 p4 p5)) + (16 : Int32)) + ((ja1 p0 p1 p2 p3 p4 p5) + (ja2 p0 p1 p2 p3 p4 p5))))), .unset, .unset] [])) (fun t k => ?_) ?_
      · refine ox_icmpNo Xhd0_132.here hx (hb hby at_498) rfl (tlt hc0_19).2.1 ?_
        exact k
      have sg0_501 : ∀ t, Steps p.tables e below (T0_131.setTop (mkF m 513 #[.val (.int p0), .val (.int p1), .val (.int p2), .val (.int p3), .val (.int p4), .val (.int p5), .val (.int (f_min p0 (2147483632 : Int32))), .val (.int (j7 p0 p1 p2 p3 p4 p5)), .val (.int (j8 p0 p1 p2 p3 p4 p5)), .val (.ref b0_3), .val (.ref ub0_12), .val (.ref b0_15), .val (.ref b0_100), .val (.ref uu0_123), .val (.int (f_min (j7 p0 p1 p2 p3 p4 p5) (j8 p0 p1 p2 p3 p4 p5))), .val (.int (f_max (j7 p0 p1 p2 p3 p4 p5) (j8 p0 p1 p2 p3 p4 p5))), .val (.int (j16 p0 p1 p2 p3 p4 p5)), .val (.int ((f_min p0 (2147483632 : Int32)) + (15 : Int32))), .val (.int (j18 p0 p1 p2 p3 p4 p5)), .val (.int (j19 p0 p1 p2 p3 p4 p5)), .val (.int ((jb1 p0 p1 p2 p3 p4 p5) + (jb2 p0 p1 p2 p3 p4 p5))), .val (.int ((ja1 p0 p1 p2 p3 p4 p5) + (ja2 p0 p1 p2 p3 p4 p5))), .val (.int ((((jb1 p0 p1 p2 p3 p4 p5) + (jb2 p0 p1 p2 p3 p4 p5)) + (16 : Int32)) + ((ja1 p0 p1 p2 p3 p4 p5) + (ja2 p0 p1 p2 p3 p4 p5)))), .val (.int (own_irem (p4 &&& (2147483647 : Int32)) ((((jb1 p0 p1 p2 p3 p4 p5) + (jb2 p0 p1 p2 p3 p4 p5)) + (16 : Int32)) + ((ja1 p0 p1 p2 p3 p4 p5) + (ja2 p0 p1 p2 p3 p4 p5))))), .unset, .unset] [(.int (je1 p0 p1 p2 p3 p4 p5))])) t → Steps p.tables e below (T0_131.setTop (mkF m 501 #[.val (.int p0), .val (.int p1), .val (.int p2), .val (.int p3), .val (.int p4), .val (.int p5), .val (.int (f_min p0 (2147483632 : Int32))), .val (.int (j7 p0 p1 p2 p3 p4 p5)), .val (.int (j8 p0 p1 p2 p3 p4 p5)), .val (.ref b0_3), .val (.ref ub0_12), .val (.ref b0_15), .val (.ref b0_100), .val (.ref uu0_123), .val (.int (f_min (j7 p0 p1 p2 p3 p4 p5) (j8 p0 p1 p2 p3 p4 p5))), .val (.int (f_max (j7 p0 p1 p2 p3 p4 p5) (j8 p0 p1 p2 p3 p4 p5))), .val (.int (j16 p0 p1 p2 p3 p4 p5)), .val (.int ((f_min p0 (2147483632 : Int32)) + (15 : Int32))), .val (.int (j18 p0 p1 p2 p3 p4 p5)), .val (.int (j19 p0 p1 p2 p3 p4 p5)), .val (.int ((jb1 p0 p1 p2 p3 p4 p5) + (jb2 p0 p1 p2 p3 p4 p5))), .val (.int ((ja1 p0 p1 p2 p3 p4 p5) + (ja2 p0 p1 p2 p3 p4 p5))), .val (.int ((((jb1 p0 p1 p2 p3 p4 p5) + (jb2 p0 p1 p2 p3 p4 p5)) + (16 : Int32)) + ((ja1 p0 p1 p2 p3 p4 p5) + (ja2 p0 p1 p2 p3 p4 p5)))), .val (.int (own_irem (p4 &&& (2147483647 : Int32)) ((((jb1 p0 p1 p2 p3 p4 p5) + (jb2 p0 p1 p2 p3 p4 p5)) + (16 : Int32)) + ((ja1 p0 p1 p2 p3 p4 p5) + (ja2 p0 p1 p2 p3 p4 p5))))), .unset, .unset] [])) t := by
        intro t k
        refine ox_iload Xhd0_132.here hx (hb hby at_501) rfl ?_
        by_cases hc0_20 : (own_irem (p4 &&& (2147483647 : Int32)) ((((jb1 p0 p1 p2 p3 p4 p5) + (jb2 p0 p1 p2 p3 p4 p5)) + (16 : Int32)) + ((ja1 p0 p1 p2 p3 p4 p5) + (ja2 p0 p1 p2 p3 p4 p5)))) = (0 : Int32)
        · refine ox_ifNo Xhd0_132.here hx (hb hby at_503) rfl ((if0 _ _).trans (teq hc0_20).2) ?_
          refine ox_iload Xhd0_132.here hx (hb hby at_506) rfl ?_
          refine ox_goto Xhd0_132.here hx (pc0 := 508) (pc' := 513) rfl (hb hby at_508) (by decide) (by decide) ?_
          have q : je1 p0 p1 p2 p3 p4 p5 = (f_min (j7 p0 p1 p2 p3 p4 p5) (j8 p0 p1 p2 p3 p4 p5)) := by rw [je1, if_pos hc0_20]
          rw [q] at k
          exact k
        · refine ox_ifYes Xhd0_132.here hx (pc0 := 503) (pc' := 511) rfl (hb hby at_503) rfl ((if0 _ _).trans (feq hc0_20).2) (by decide) (by decide) ?_
          refine ox_iload Xhd0_132.here hx (hb hby at_511) rfl ?_
          have q : je1 p0 p1 p2 p3 p4 p5 = (f_max (j7 p0 p1 p2 p3 p4 p5) (j8 p0 p1 p2 p3 p4 p5)) := by rw [je1, if_neg hc0_20]
          rw [q] at k
          exact k
      refine own_fw sg0_501 ?_
      refine own_fw (A := T0_131.setTop (mkF m 586 #[.val (.int p0), .val (.int p1), .val (.int p2), .val (.int p3), .val (.int p4), .val (.int p5), .val (.int (f_min p0 (2147483632 : Int32))), .val (.int (j7 p0 p1 p2 p3 p4 p5)), .val (.int (j8 p0 p1 p2 p3 p4 p5)), .val (.ref b0_3), .val (.ref ub0_12), .val (.ref b0_15), .val (.ref b0_100), .val (.ref uu0_123), .val (.int (f_min (j7 p0 p1 p2 p3 p4 p5) (j8 p0 p1 p2 p3 p4 p5))), .val (.int (f_max (j7 p0 p1 p2 p3 p4 p5) (j8 p0 p1 p2 p3 p4 p5))), .val (.int (j16 p0 p1 p2 p3 p4 p5)), .val (.int ((f_min p0 (2147483632 : Int32)) + (15 : Int32))), .val (.int (j18 p0 p1 p2 p3 p4 p5)), .val (.int (j19 p0 p1 p2 p3 p4 p5)), .val (.int ((jb1 p0 p1 p2 p3 p4 p5) + (jb2 p0 p1 p2 p3 p4 p5))), .val (.int ((ja1 p0 p1 p2 p3 p4 p5) + (ja2 p0 p1 p2 p3 p4 p5))), .val (.int ((((jb1 p0 p1 p2 p3 p4 p5) + (jb2 p0 p1 p2 p3 p4 p5)) + (16 : Int32)) + ((ja1 p0 p1 p2 p3 p4 p5) + (ja2 p0 p1 p2 p3 p4 p5)))), .val (.int (own_irem (p4 &&& (2147483647 : Int32)) ((((jb1 p0 p1 p2 p3 p4 p5) + (jb2 p0 p1 p2 p3 p4 p5)) + (16 : Int32)) + ((ja1 p0 p1 p2 p3 p4 p5) + (ja2 p0 p1 p2 p3 p4 p5))))), .val (.int (je1 p0 p1 p2 p3 p4 p5)), .unset] [(.int (own_irem (p4 &&& (2147483647 : Int32)) ((((jb1 p0 p1 p2 p3 p4 p5) + (jb2 p0 p1 p2 p3 p4 p5)) + (16 : Int32)) + ((ja1 p0 p1 p2 p3 p4 p5) + (ja2 p0 p1 p2 p3 p4 p5))))), (.ref uu0_123)])) (fun t k => ?_) ?_
      · refine ox_istore Xhd0_132.here hx (hb hby at_513) rfl (l' := #[.val (.int p0), .val (.int p1), .val (.int p2), .val (.int p3), .val (.int p4), .val (.int p5), .val (.int (f_min p0 (2147483632 : Int32))), .val (.int (j7 p0 p1 p2 p3 p4 p5)), .val (.int (j8 p0 p1 p2 p3 p4 p5)), .val (.ref b0_3), .val (.ref ub0_12), .val (.ref b0_15), .val (.ref b0_100), .val (.ref uu0_123), .val (.int (f_min (j7 p0 p1 p2 p3 p4 p5) (j8 p0 p1 p2 p3 p4 p5))), .val (.int (f_max (j7 p0 p1 p2 p3 p4 p5) (j8 p0 p1 p2 p3 p4 p5))), .val (.int (j16 p0 p1 p2 p3 p4 p5)), .val (.int ((f_min p0 (2147483632 : Int32)) + (15 : Int32))), .val (.int (j18 p0 p1 p2 p3 p4 p5)), .val (.int (j19 p0 p1 p2 p3 p4 p5)), .val (.int ((jb1 p0 p1 p2 p3 p4 p5) + (jb2 p0 p1 p2 p3 p4 p5))), .val (.int ((ja1 p0 p1 p2 p3 p4 p5) + (ja2 p0 p1 p2 p3 p4 p5))), .val (.int ((((jb1 p0 p1 p2 p3 p4 p5) + (jb2 p0 p1 p2 p3 p4 p5)) + (16 : Int32)) + ((ja1 p0 p1 p2 p3 p4 p5) + (ja2 p0 p1 p2 p3 p4 p5)))), .val (.int (own_irem (p4 &&& (2147483647 : Int32)) ((((jb1 p0 p1 p2 p3 p4 p5) + (jb2 p0 p1 p2 p3 p4 p5)) + (16 : Int32)) + ((ja1 p0 p1 p2 p3 p4 p5) + (ja2 p0 p1 p2 p3 p4 p5))))), .val (.int (je1 p0 p1 p2 p3 p4 p5)), .unset]) rfl ?_
        refine ox_goto Xhd0_132.here hx (pc0 := 515) (pc' := 582) rfl (hb hby at_515) (by decide) (by decide) ?_
        refine ox_aload Xhd0_132.here hx (hb hby at_582) rfl rfl ?_
        refine ox_iload Xhd0_132.here hx (hb hby at_584) rfl ?_
        exact k
      refine own_fw (A := T0_131.setTop (mkF m 586 #[.val (.int p0), .val (.int p1), .val (.int p2), .val (.int p3), .val (.int p4), .val (.int p5), .val (.int (f_min p0 (2147483632 : Int32))), .val (.int (j7 p0 p1 p2 p3 p4 p5)), .val (.int (j8 p0 p1 p2 p3 p4 p5)), .val (.ref b0_3), .val (.ref ub0_12), .val (.ref b0_15), .val (.ref b0_100), .val (.ref uu0_123), .val (.int (f_min (j7 p0 p1 p2 p3 p4 p5) (j8 p0 p1 p2 p3 p4 p5))), .val (.int (f_max (j7 p0 p1 p2 p3 p4 p5) (j8 p0 p1 p2 p3 p4 p5))), .val (.int (j16 p0 p1 p2 p3 p4 p5)), .val (.int ((f_min p0 (2147483632 : Int32)) + (15 : Int32))), .val (.int (j18 p0 p1 p2 p3 p4 p5)), .val (.int (j19 p0 p1 p2 p3 p4 p5)), .val (.int ((jb1 p0 p1 p2 p3 p4 p5) + (jb2 p0 p1 p2 p3 p4 p5))), .val (.int ((ja1 p0 p1 p2 p3 p4 p5) + (ja2 p0 p1 p2 p3 p4 p5))), .val (.int ((((jb1 p0 p1 p2 p3 p4 p5) + (jb2 p0 p1 p2 p3 p4 p5)) + (16 : Int32)) + ((ja1 p0 p1 p2 p3 p4 p5) + (ja2 p0 p1 p2 p3 p4 p5)))), .val (.int (own_irem (p4 &&& (2147483647 : Int32)) ((((jb1 p0 p1 p2 p3 p4 p5) + (jb2 p0 p1 p2 p3 p4 p5)) + (16 : Int32)) + ((ja1 p0 p1 p2 p3 p4 p5) + (ja2 p0 p1 p2 p3 p4 p5))))), .val (.int (je1 p0 p1 p2 p3 p4 p5)), .unset] [(.int (Int32.ofNat (own_J p0 p1 p2 p3 p4 p5))), (.ref uu0_123)])) (fun t k => castTop (congrArg (fun z => (mkF m 586 #[.val (.int p0), .val (.int p1), .val (.int p2), .val (.int p3), .val (.int p4), .val (.int p5), .val (.int (f_min p0 (2147483632 : Int32))), .val (.int (j7 p0 p1 p2 p3 p4 p5)), .val (.int (j8 p0 p1 p2 p3 p4 p5)), .val (.ref b0_3), .val (.ref ub0_12), .val (.ref b0_15), .val (.ref b0_100), .val (.ref uu0_123), .val (.int (f_min (j7 p0 p1 p2 p3 p4 p5) (j8 p0 p1 p2 p3 p4 p5))), .val (.int (f_max (j7 p0 p1 p2 p3 p4 p5) (j8 p0 p1 p2 p3 p4 p5))), .val (.int (j16 p0 p1 p2 p3 p4 p5)), .val (.int ((f_min p0 (2147483632 : Int32)) + (15 : Int32))), .val (.int (j18 p0 p1 p2 p3 p4 p5)), .val (.int (j19 p0 p1 p2 p3 p4 p5)), .val (.int ((jb1 p0 p1 p2 p3 p4 p5) + (jb2 p0 p1 p2 p3 p4 p5))), .val (.int ((ja1 p0 p1 p2 p3 p4 p5) + (ja2 p0 p1 p2 p3 p4 p5))), .val (.int ((((jb1 p0 p1 p2 p3 p4 p5) + (jb2 p0 p1 p2 p3 p4 p5)) + (16 : Int32)) + ((ja1 p0 p1 p2 p3 p4 p5) + (ja2 p0 p1 p2 p3 p4 p5)))), .val (.int (own_irem (p4 &&& (2147483647 : Int32)) ((((jb1 p0 p1 p2 p3 p4 p5) + (jb2 p0 p1 p2 p3 p4 p5)) + (16 : Int32)) + ((ja1 p0 p1 p2 p3 p4 p5) + (ja2 p0 p1 p2 p3 p4 p5))))), .val (.int (je1 p0 p1 p2 p3 p4 p5)), .unset] [(.int z), (.ref uu0_123)])) (own_JR p0 p1 p2 p3 p4 p5)) k) ?_
      obtain ⟨cq0_133, kq0_133, q0_133a, q0_133b, q0_133c⟩ := isOf hZ e0_131 Eu0_123
      obtain ⟨_, _, ⟨T0_133, L0_133, k0_133, n0_133⟩, -, X0_133, ⟨Lc0_133, hQ0_133, l0_133, y0_133, z0_133⟩, st0_133⟩ := Xhd0_132.virtualBack hx (y := mN1) (z := mN1) hown (mvT hZ (own_w hw 213 rfl)) (mvT hZ (own_w hw 204 rfl)) (notFace_of_selects (args := #[]) (mvT hZ (own_w hw 206 rfl))) (mvT hZ (own_w hw 206 rfl)) (mvT hZ (own_w hw 205 rfl)) (by decide) (backOf (W := 0) (rm28 l Z a0 hw [] uu0_123 mu0_123 kI (own_exp (f_min p0 (2147483632 : Int32)) (j7 p0 p1 p2 p3 p4 p5) (j8 p0 p1 p2 p3 p4 p5)).length (own_exp (f_min p0 (2147483632 : Int32)) (j7 p0 p1 p2 p3 p4 p5) (j8 p0 p1 p2 p3 p4 p5)) (own_J p0 p1 p2 p3 p4 p5) T0_123.heap n0 (Nat.le_trans (Nat.le_trans fc0_114 K0_116.1) K0_123.1) Fu0_123 Iu0_123 (own_Jlt p0 p1 p2 p3 p4 p5)) hZ (own_w hw 207 rfl) (own_w hw 53 rfl) (by decide) (by decide)) q0_133a q0_133c (g := (mkF m 586 #[.val (.int p0), .val (.int p1), .val (.int p2), .val (.int p3), .val (.int p4), .val (.int p5), .val (.int (f_min p0 (2147483632 : Int32))), .val (.int (j7 p0 p1 p2 p3 p4 p5)), .val (.int (j8 p0 p1 p2 p3 p4 p5)), .val (.ref b0_3), .val (.ref ub0_12), .val (.ref b0_15), .val (.ref b0_100), .val (.ref uu0_123), .val (.int (f_min (j7 p0 p1 p2 p3 p4 p5) (j8 p0 p1 p2 p3 p4 p5))), .val (.int (f_max (j7 p0 p1 p2 p3 p4 p5) (j8 p0 p1 p2 p3 p4 p5))), .val (.int (j16 p0 p1 p2 p3 p4 p5)), .val (.int ((f_min p0 (2147483632 : Int32)) + (15 : Int32))), .val (.int (j18 p0 p1 p2 p3 p4 p5)), .val (.int (j19 p0 p1 p2 p3 p4 p5)), .val (.int ((jb1 p0 p1 p2 p3 p4 p5) + (jb2 p0 p1 p2 p3 p4 p5))), .val (.int ((ja1 p0 p1 p2 p3 p4 p5) + (ja2 p0 p1 p2 p3 p4 p5))), .val (.int ((((jb1 p0 p1 p2 p3 p4 p5) + (jb2 p0 p1 p2 p3 p4 p5)) + (16 : Int32)) + ((ja1 p0 p1 p2 p3 p4 p5) + (ja2 p0 p1 p2 p3 p4 p5)))), .val (.int (own_irem (p4 &&& (2147483647 : Int32)) ((((jb1 p0 p1 p2 p3 p4 p5) + (jb2 p0 p1 p2 p3 p4 p5)) + (16 : Int32)) + ((ja1 p0 p1 p2 p3 p4 p5) + (ja2 p0 p1 p2 p3 p4 p5))))), .val (.int (je1 p0 p1 p2 p3 p4 p5)), .unset] [(.int (Int32.ofNat (own_J p0 p1 p2 p3 p4 p5))), (.ref uu0_123)])) rfl (by rw [hml]; rfl) (Steps.refl _) (argsL := [(.int (Int32.ofNat (own_J p0 p1 p2 p3 p4 p5)))]) (rest := []) (lenOf pd0_8 rfl) rfl (own_mr rfl) (hb hby at_586) (fun _ _ => ⟨rfl, e0_131, (by decide : 20 + 0 ≤ _), (by decide : 235 + 0 ≤ _)⟩)
      dsimp only [Pt.U, Pt.locs, Pt.cells, Pt.slots] at X0_133 l0_133 y0_133 z0_133 st0_133 hQ0_133
      subst l0_133 y0_133 z0_133
      obtain ⟨rfl, N0_133q, e0_133⟩ := hQ0_133
      have N0_133 := Fr.app Nhd0_132 N0_133q
      refine own_fw (fun t k => st0_133.trans k) ?_
      obtain ⟨Lhd0_134, Xhd0_134, Nhd0_134⟩ := own_hide X0_133 N0_133
      refine own_fw (A := T0_133.setTop (mkF m 599 #[.val (.int p0), .val (.int p1), .val (.int p2), .val (.int p3), .val (.int p4), .val (.int p5), .val (.int (f_min p0 (2147483632 : Int32))), .val (.int (j7 p0 p1 p2 p3 p4 p5)), .val (.int (j8 p0 p1 p2 p3 p4 p5)), .val (.ref b0_3), .val (.ref ub0_12), .val (.ref b0_15), .val (.ref b0_100), .val (.ref uu0_123), .val (.int (f_min (j7 p0 p1 p2 p3 p4 p5) (j8 p0 p1 p2 p3 p4 p5))), .val (.int (f_max (j7 p0 p1 p2 p3 p4 p5) (j8 p0 p1 p2 p3 p4 p5))), .val (.int (j16 p0 p1 p2 p3 p4 p5)), .val (.int ((f_min p0 (2147483632 : Int32)) + (15 : Int32))), .val (.int (j18 p0 p1 p2 p3 p4 p5)), .val (.int (j19 p0 p1 p2 p3 p4 p5)), .val (.int ((jb1 p0 p1 p2 p3 p4 p5) + (jb2 p0 p1 p2 p3 p4 p5))), .val (.int ((ja1 p0 p1 p2 p3 p4 p5) + (ja2 p0 p1 p2 p3 p4 p5))), .val (.int ((((jb1 p0 p1 p2 p3 p4 p5) + (jb2 p0 p1 p2 p3 p4 p5)) + (16 : Int32)) + ((ja1 p0 p1 p2 p3 p4 p5) + (ja2 p0 p1 p2 p3 p4 p5)))), .val (.int (own_irem (p4 &&& (2147483647 : Int32)) ((((jb1 p0 p1 p2 p3 p4 p5) + (jb2 p0 p1 p2 p3 p4 p5)) + (16 : Int32)) + ((ja1 p0 p1 p2 p3 p4 p5) + (ja2 p0 p1 p2 p3 p4 p5))))), .val (.int (je1 p0 p1 p2 p3 p4 p5)), .unset] [(.int (1 : Int32))])) (fun t k => ?_) ?_
      · refine ox_iload Xhd0_134.here hx (hb hby at_589) rfl ?_
        refine ox_icmpNo Xhd0_134.here hx (hb hby at_591) rfl (teq (own_at1 p0 p1 p2 p3 p4 p5 hc0_19)).2 ?_
        refine ox_iconst Xhd0_134.here hx (hb hby at_594) ?_
        refine ox_goto Xhd0_134.here hx (pc0 := 595) (pc' := 599) rfl (hb hby at_595) (by decide) (by decide) ?_
        exact k
      obtain ⟨fs, hr, hrun, hended, hW, hsame⟩ := Xhd0_134.leave (v := some (.int (nar .boolean (1 : Int32)))) (own_ret Bd.returns) (BodyLoose.notSynchronized Bd)
      refine ⟨_, _, retN Xhd0_134 hx (t := .boolean) Bd.returns (by simp) (hb hby at_599) hr, hrun, hended, _, _, rfl, ?_, ⟨_, rfl⟩, hW, hsame.mono (by decide) (by decide)⟩
      have eh : (T0_133.setFrames fs).heap = T0_123.heap := e0_133
      rw [eh]
      exact ⟨rfl, Nhd0_134⟩
    · refine own_fw (A := T0_131.setTop (mkF m 518 #[.val (.int p0), .val (.int p1), .val (.int p2), .val (.int p3), .val (.int p4), .val (.int p5), .val (.int (f_min p0 (2147483632 : Int32))), .val (.int (j7 p0 p1 p2 p3 p4 p5)), .val (.int (j8 p0 p1 p2 p3 p4 p5)), .val (.ref b0_3), .val (.ref ub0_12), .val (.ref b0_15), .val (.ref b0_100), .val (.ref uu0_123), .val (.int (f_min (j7 p0 p1 p2 p3 p4 p5) (j8 p0 p1 p2 p3 p4 p5))), .val (.int (f_max (j7 p0 p1 p2 p3 p4 p5) (j8 p0 p1 p2 p3 p4 p5))), .val (.int (j16 p0 p1 p2 p3 p4 p5)), .val (.int ((f_min p0 (2147483632 : Int32)) + (15 : Int32))), .val (.int (j18 p0 p1 p2 p3 p4 p5)), .val (.int (j19 p0 p1 p2 p3 p4 p5)), .val (.int ((jb1 p0 p1 p2 p3 p4 p5) + (jb2 p0 p1 p2 p3 p4 p5))), .val (.int ((ja1 p0 p1 p2 p3 p4 p5) + (ja2 p0 p1 p2 p3 p4 p5))), .val (.int ((((jb1 p0 p1 p2 p3 p4 p5) + (jb2 p0 p1 p2 p3 p4 p5)) + (16 : Int32)) + ((ja1 p0 p1 p2 p3 p4 p5) + (ja2 p0 p1 p2 p3 p4 p5)))), .val (.int (own_irem (p4 &&& (2147483647 : Int32)) ((((jb1 p0 p1 p2 p3 p4 p5) + (jb2 p0 p1 p2 p3 p4 p5)) + (16 : Int32)) + ((ja1 p0 p1 p2 p3 p4 p5) + (ja2 p0 p1 p2 p3 p4 p5))))), .unset, .unset] [])) (fun t k => ?_) ?_
      · refine ox_icmpYes Xhd0_132.here hx (pc0 := 498) (pc' := 518) rfl (hb hby at_498) rfl (flt hc0_19).2.1 (by decide) (by decide) ?_
        exact k
      refine own_fw (A := T0_131.setTop (mkF m 525 #[.val (.int p0), .val (.int p1), .val (.int p2), .val (.int p3), .val (.int p4), .val (.int p5), .val (.int (f_min p0 (2147483632 : Int32))), .val (.int (j7 p0 p1 p2 p3 p4 p5)), .val (.int (j8 p0 p1 p2 p3 p4 p5)), .val (.ref b0_3), .val (.ref ub0_12), .val (.ref b0_15), .val (.ref b0_100), .val (.ref uu0_123), .val (.int (f_min (j7 p0 p1 p2 p3 p4 p5) (j8 p0 p1 p2 p3 p4 p5))), .val (.int (f_max (j7 p0 p1 p2 p3 p4 p5) (j8 p0 p1 p2 p3 p4 p5))), .val (.int (j16 p0 p1 p2 p3 p4 p5)), .val (.int ((f_min p0 (2147483632 : Int32)) + (15 : Int32))), .val (.int (j18 p0 p1 p2 p3 p4 p5)), .val (.int (j19 p0 p1 p2 p3 p4 p5)), .val (.int ((jb1 p0 p1 p2 p3 p4 p5) + (jb2 p0 p1 p2 p3 p4 p5))), .val (.int ((ja1 p0 p1 p2 p3 p4 p5) + (ja2 p0 p1 p2 p3 p4 p5))), .val (.int ((((jb1 p0 p1 p2 p3 p4 p5) + (jb2 p0 p1 p2 p3 p4 p5)) + (16 : Int32)) + ((ja1 p0 p1 p2 p3 p4 p5) + (ja2 p0 p1 p2 p3 p4 p5)))), .val (.int (own_irem (p4 &&& (2147483647 : Int32)) ((((jb1 p0 p1 p2 p3 p4 p5) + (jb2 p0 p1 p2 p3 p4 p5)) + (16 : Int32)) + ((ja1 p0 p1 p2 p3 p4 p5) + (ja2 p0 p1 p2 p3 p4 p5))))), .unset, .unset] [(.int (((jb1 p0 p1 p2 p3 p4 p5) + (jb2 p0 p1 p2 p3 p4 p5)) + (16 : Int32))), (.int (own_irem (p4 &&& (2147483647 : Int32)) ((((jb1 p0 p1 p2 p3 p4 p5) + (jb2 p0 p1 p2 p3 p4 p5)) + (16 : Int32)) + ((ja1 p0 p1 p2 p3 p4 p5) + (ja2 p0 p1 p2 p3 p4 p5)))))])) (fun t k => ?_) ?_
      · refine ox_iload Xhd0_132.here hx (hb hby at_518) rfl ?_
        refine ox_iload Xhd0_132.here hx (hb hby at_520) rfl ?_
        refine ox_bipush Xhd0_132.here hx (hb hby at_522) ?_
        refine ox_iadd Xhd0_132.here hx (hb hby at_524) rfl ?_
        exact k
      by_cases hc0_21 : (own_irem (p4 &&& (2147483647 : Int32)) ((((jb1 p0 p1 p2 p3 p4 p5) + (jb2 p0 p1 p2 p3 p4 p5)) + (16 : Int32)) + ((ja1 p0 p1 p2 p3 p4 p5) + (ja2 p0 p1 p2 p3 p4 p5)))) < (((jb1 p0 p1 p2 p3 p4 p5) + (jb2 p0 p1 p2 p3 p4 p5)) + (16 : Int32))
      · refine own_fw (A := T0_131.setTop (mkF m 528 #[.val (.int p0), .val (.int p1), .val (.int p2), .val (.int p3), .val (.int p4), .val (.int p5), .val (.int (f_min p0 (2147483632 : Int32))), .val (.int (j7 p0 p1 p2 p3 p4 p5)), .val (.int (j8 p0 p1 p2 p3 p4 p5)), .val (.ref b0_3), .val (.ref ub0_12), .val (.ref b0_15), .val (.ref b0_100), .val (.ref uu0_123), .val (.int (f_min (j7 p0 p1 p2 p3 p4 p5) (j8 p0 p1 p2 p3 p4 p5))), .val (.int (f_max (j7 p0 p1 p2 p3 p4 p5) (j8 p0 p1 p2 p3 p4 p5))), .val (.int (j16 p0 p1 p2 p3 p4 p5)), .val (.int ((f_min p0 (2147483632 : Int32)) + (15 : Int32))), .val (.int (j18 p0 p1 p2 p3 p4 p5)), .val (.int (j19 p0 p1 p2 p3 p4 p5)), .val (.int ((jb1 p0 p1 p2 p3 p4 p5) + (jb2 p0 p1 p2 p3 p4 p5))), .val (.int ((ja1 p0 p1 p2 p3 p4 p5) + (ja2 p0 p1 p2 p3 p4 p5))), .val (.int ((((jb1 p0 p1 p2 p3 p4 p5) + (jb2 p0 p1 p2 p3 p4 p5)) + (16 : Int32)) + ((ja1 p0 p1 p2 p3 p4 p5) + (ja2 p0 p1 p2 p3 p4 p5)))), .val (.int (own_irem (p4 &&& (2147483647 : Int32)) ((((jb1 p0 p1 p2 p3 p4 p5) + (jb2 p0 p1 p2 p3 p4 p5)) + (16 : Int32)) + ((ja1 p0 p1 p2 p3 p4 p5) + (ja2 p0 p1 p2 p3 p4 p5))))), .unset, .unset] [])) (fun t k => ?_) ?_
        · refine ox_icmpNo Xhd0_132.here hx (hb hby at_525) rfl (tlt hc0_21).2.1 ?_
          exact k
        refine own_fw (A := T0_131.setTop (mkF m 586 #[.val (.int p0), .val (.int p1), .val (.int p2), .val (.int p3), .val (.int p4), .val (.int p5), .val (.int (f_min p0 (2147483632 : Int32))), .val (.int (j7 p0 p1 p2 p3 p4 p5)), .val (.int (j8 p0 p1 p2 p3 p4 p5)), .val (.ref b0_3), .val (.ref ub0_12), .val (.ref b0_15), .val (.ref b0_100), .val (.ref uu0_123), .val (.int (f_min (j7 p0 p1 p2 p3 p4 p5) (j8 p0 p1 p2 p3 p4 p5))), .val (.int (f_max (j7 p0 p1 p2 p3 p4 p5) (j8 p0 p1 p2 p3 p4 p5))), .val (.int (j16 p0 p1 p2 p3 p4 p5)), .val (.int ((f_min p0 (2147483632 : Int32)) + (15 : Int32))), .val (.int (j18 p0 p1 p2 p3 p4 p5)), .val (.int (j19 p0 p1 p2 p3 p4 p5)), .val (.int ((jb1 p0 p1 p2 p3 p4 p5) + (jb2 p0 p1 p2 p3 p4 p5))), .val (.int ((ja1 p0 p1 p2 p3 p4 p5) + (ja2 p0 p1 p2 p3 p4 p5))), .val (.int ((((jb1 p0 p1 p2 p3 p4 p5) + (jb2 p0 p1 p2 p3 p4 p5)) + (16 : Int32)) + ((ja1 p0 p1 p2 p3 p4 p5) + (ja2 p0 p1 p2 p3 p4 p5)))), .val (.int (own_irem (p4 &&& (2147483647 : Int32)) ((((jb1 p0 p1 p2 p3 p4 p5) + (jb2 p0 p1 p2 p3 p4 p5)) + (16 : Int32)) + ((ja1 p0 p1 p2 p3 p4 p5) + (ja2 p0 p1 p2 p3 p4 p5))))), .val (.int ((f_min p0 (2147483632 : Int32)) + ((own_irem (p4 &&& (2147483647 : Int32)) ((((jb1 p0 p1 p2 p3 p4 p5) + (jb2 p0 p1 p2 p3 p4 p5)) + (16 : Int32)) + ((ja1 p0 p1 p2 p3 p4 p5) + (ja2 p0 p1 p2 p3 p4 p5)))) - ((jb1 p0 p1 p2 p3 p4 p5) + (jb2 p0 p1 p2 p3 p4 p5))))), .unset] [(.int (own_irem (p4 &&& (2147483647 : Int32)) ((((jb1 p0 p1 p2 p3 p4 p5) + (jb2 p0 p1 p2 p3 p4 p5)) + (16 : Int32)) + ((ja1 p0 p1 p2 p3 p4 p5) + (ja2 p0 p1 p2 p3 p4 p5))))), (.ref uu0_123)])) (fun t k => ?_) ?_
        · refine ox_iload Xhd0_132.here hx (hb hby at_528) rfl ?_
          refine ox_iload Xhd0_132.here hx (hb hby at_530) rfl ?_
          refine ox_iload Xhd0_132.here hx (hb hby at_532) rfl ?_
          refine ox_isub Xhd0_132.here hx (hb hby at_534) rfl ?_
          refine ox_iadd Xhd0_132.here hx (hb hby at_535) rfl ?_
          refine ox_istore Xhd0_132.here hx (hb hby at_536) rfl (l' := #[.val (.int p0), .val (.int p1), .val (.int p2), .val (.int p3), .val (.int p4), .val (.int p5), .val (.int (f_min p0 (2147483632 : Int32))), .val (.int (j7 p0 p1 p2 p3 p4 p5)), .val (.int (j8 p0 p1 p2 p3 p4 p5)), .val (.ref b0_3), .val (.ref ub0_12), .val (.ref b0_15), .val (.ref b0_100), .val (.ref uu0_123), .val (.int (f_min (j7 p0 p1 p2 p3 p4 p5) (j8 p0 p1 p2 p3 p4 p5))), .val (.int (f_max (j7 p0 p1 p2 p3 p4 p5) (j8 p0 p1 p2 p3 p4 p5))), .val (.int (j16 p0 p1 p2 p3 p4 p5)), .val (.int ((f_min p0 (2147483632 : Int32)) + (15 : Int32))), .val (.int (j18 p0 p1 p2 p3 p4 p5)), .val (.int (j19 p0 p1 p2 p3 p4 p5)), .val (.int ((jb1 p0 p1 p2 p3 p4 p5) + (jb2 p0 p1 p2 p3 p4 p5))), .val (.int ((ja1 p0 p1 p2 p3 p4 p5) + (ja2 p0 p1 p2 p3 p4 p5))), .val (.int ((((jb1 p0 p1 p2 p3 p4 p5) + (jb2 p0 p1 p2 p3 p4 p5)) + (16 : Int32)) + ((ja1 p0 p1 p2 p3 p4 p5) + (ja2 p0 p1 p2 p3 p4 p5)))), .val (.int (own_irem (p4 &&& (2147483647 : Int32)) ((((jb1 p0 p1 p2 p3 p4 p5) + (jb2 p0 p1 p2 p3 p4 p5)) + (16 : Int32)) + ((ja1 p0 p1 p2 p3 p4 p5) + (ja2 p0 p1 p2 p3 p4 p5))))), .val (.int ((f_min p0 (2147483632 : Int32)) + ((own_irem (p4 &&& (2147483647 : Int32)) ((((jb1 p0 p1 p2 p3 p4 p5) + (jb2 p0 p1 p2 p3 p4 p5)) + (16 : Int32)) + ((ja1 p0 p1 p2 p3 p4 p5) + (ja2 p0 p1 p2 p3 p4 p5)))) - ((jb1 p0 p1 p2 p3 p4 p5) + (jb2 p0 p1 p2 p3 p4 p5))))), .unset]) rfl ?_
          refine ox_goto Xhd0_132.here hx (pc0 := 538) (pc' := 582) rfl (hb hby at_538) (by decide) (by decide) ?_
          refine ox_aload Xhd0_132.here hx (hb hby at_582) rfl rfl ?_
          refine ox_iload Xhd0_132.here hx (hb hby at_584) rfl ?_
          exact k
        refine own_fw (A := T0_131.setTop (mkF m 586 #[.val (.int p0), .val (.int p1), .val (.int p2), .val (.int p3), .val (.int p4), .val (.int p5), .val (.int (f_min p0 (2147483632 : Int32))), .val (.int (j7 p0 p1 p2 p3 p4 p5)), .val (.int (j8 p0 p1 p2 p3 p4 p5)), .val (.ref b0_3), .val (.ref ub0_12), .val (.ref b0_15), .val (.ref b0_100), .val (.ref uu0_123), .val (.int (f_min (j7 p0 p1 p2 p3 p4 p5) (j8 p0 p1 p2 p3 p4 p5))), .val (.int (f_max (j7 p0 p1 p2 p3 p4 p5) (j8 p0 p1 p2 p3 p4 p5))), .val (.int (j16 p0 p1 p2 p3 p4 p5)), .val (.int ((f_min p0 (2147483632 : Int32)) + (15 : Int32))), .val (.int (j18 p0 p1 p2 p3 p4 p5)), .val (.int (j19 p0 p1 p2 p3 p4 p5)), .val (.int ((jb1 p0 p1 p2 p3 p4 p5) + (jb2 p0 p1 p2 p3 p4 p5))), .val (.int ((ja1 p0 p1 p2 p3 p4 p5) + (ja2 p0 p1 p2 p3 p4 p5))), .val (.int ((((jb1 p0 p1 p2 p3 p4 p5) + (jb2 p0 p1 p2 p3 p4 p5)) + (16 : Int32)) + ((ja1 p0 p1 p2 p3 p4 p5) + (ja2 p0 p1 p2 p3 p4 p5)))), .val (.int (own_irem (p4 &&& (2147483647 : Int32)) ((((jb1 p0 p1 p2 p3 p4 p5) + (jb2 p0 p1 p2 p3 p4 p5)) + (16 : Int32)) + ((ja1 p0 p1 p2 p3 p4 p5) + (ja2 p0 p1 p2 p3 p4 p5))))), .val (.int ((f_min p0 (2147483632 : Int32)) + ((own_irem (p4 &&& (2147483647 : Int32)) ((((jb1 p0 p1 p2 p3 p4 p5) + (jb2 p0 p1 p2 p3 p4 p5)) + (16 : Int32)) + ((ja1 p0 p1 p2 p3 p4 p5) + (ja2 p0 p1 p2 p3 p4 p5)))) - ((jb1 p0 p1 p2 p3 p4 p5) + (jb2 p0 p1 p2 p3 p4 p5))))), .unset] [(.int (Int32.ofNat (own_J p0 p1 p2 p3 p4 p5))), (.ref uu0_123)])) (fun t k => castTop (congrArg (fun z => (mkF m 586 #[.val (.int p0), .val (.int p1), .val (.int p2), .val (.int p3), .val (.int p4), .val (.int p5), .val (.int (f_min p0 (2147483632 : Int32))), .val (.int (j7 p0 p1 p2 p3 p4 p5)), .val (.int (j8 p0 p1 p2 p3 p4 p5)), .val (.ref b0_3), .val (.ref ub0_12), .val (.ref b0_15), .val (.ref b0_100), .val (.ref uu0_123), .val (.int (f_min (j7 p0 p1 p2 p3 p4 p5) (j8 p0 p1 p2 p3 p4 p5))), .val (.int (f_max (j7 p0 p1 p2 p3 p4 p5) (j8 p0 p1 p2 p3 p4 p5))), .val (.int (j16 p0 p1 p2 p3 p4 p5)), .val (.int ((f_min p0 (2147483632 : Int32)) + (15 : Int32))), .val (.int (j18 p0 p1 p2 p3 p4 p5)), .val (.int (j19 p0 p1 p2 p3 p4 p5)), .val (.int ((jb1 p0 p1 p2 p3 p4 p5) + (jb2 p0 p1 p2 p3 p4 p5))), .val (.int ((ja1 p0 p1 p2 p3 p4 p5) + (ja2 p0 p1 p2 p3 p4 p5))), .val (.int ((((jb1 p0 p1 p2 p3 p4 p5) + (jb2 p0 p1 p2 p3 p4 p5)) + (16 : Int32)) + ((ja1 p0 p1 p2 p3 p4 p5) + (ja2 p0 p1 p2 p3 p4 p5)))), .val (.int (own_irem (p4 &&& (2147483647 : Int32)) ((((jb1 p0 p1 p2 p3 p4 p5) + (jb2 p0 p1 p2 p3 p4 p5)) + (16 : Int32)) + ((ja1 p0 p1 p2 p3 p4 p5) + (ja2 p0 p1 p2 p3 p4 p5))))), .val (.int ((f_min p0 (2147483632 : Int32)) + ((own_irem (p4 &&& (2147483647 : Int32)) ((((jb1 p0 p1 p2 p3 p4 p5) + (jb2 p0 p1 p2 p3 p4 p5)) + (16 : Int32)) + ((ja1 p0 p1 p2 p3 p4 p5) + (ja2 p0 p1 p2 p3 p4 p5)))) - ((jb1 p0 p1 p2 p3 p4 p5) + (jb2 p0 p1 p2 p3 p4 p5))))), .unset] [(.int z), (.ref uu0_123)])) (own_JR p0 p1 p2 p3 p4 p5)) k) ?_
        obtain ⟨cq0_135, kq0_135, q0_135a, q0_135b, q0_135c⟩ := isOf hZ e0_131 Eu0_123
        obtain ⟨_, _, ⟨T0_135, L0_135, k0_135, n0_135⟩, -, X0_135, ⟨Lc0_135, hQ0_135, l0_135, y0_135, z0_135⟩, st0_135⟩ := Xhd0_132.virtualBack hx (y := mN1) (z := mN1) hown (mvT hZ (own_w hw 213 rfl)) (mvT hZ (own_w hw 204 rfl)) (notFace_of_selects (args := #[]) (mvT hZ (own_w hw 206 rfl))) (mvT hZ (own_w hw 206 rfl)) (mvT hZ (own_w hw 205 rfl)) (by decide) (backOf (W := 0) (rm28 l Z a0 hw [] uu0_123 mu0_123 kI (own_exp (f_min p0 (2147483632 : Int32)) (j7 p0 p1 p2 p3 p4 p5) (j8 p0 p1 p2 p3 p4 p5)).length (own_exp (f_min p0 (2147483632 : Int32)) (j7 p0 p1 p2 p3 p4 p5) (j8 p0 p1 p2 p3 p4 p5)) (own_J p0 p1 p2 p3 p4 p5) T0_123.heap n0 (Nat.le_trans (Nat.le_trans fc0_114 K0_116.1) K0_123.1) Fu0_123 Iu0_123 (own_Jlt p0 p1 p2 p3 p4 p5)) hZ (own_w hw 207 rfl) (own_w hw 53 rfl) (by decide) (by decide)) q0_135a q0_135c (g := (mkF m 586 #[.val (.int p0), .val (.int p1), .val (.int p2), .val (.int p3), .val (.int p4), .val (.int p5), .val (.int (f_min p0 (2147483632 : Int32))), .val (.int (j7 p0 p1 p2 p3 p4 p5)), .val (.int (j8 p0 p1 p2 p3 p4 p5)), .val (.ref b0_3), .val (.ref ub0_12), .val (.ref b0_15), .val (.ref b0_100), .val (.ref uu0_123), .val (.int (f_min (j7 p0 p1 p2 p3 p4 p5) (j8 p0 p1 p2 p3 p4 p5))), .val (.int (f_max (j7 p0 p1 p2 p3 p4 p5) (j8 p0 p1 p2 p3 p4 p5))), .val (.int (j16 p0 p1 p2 p3 p4 p5)), .val (.int ((f_min p0 (2147483632 : Int32)) + (15 : Int32))), .val (.int (j18 p0 p1 p2 p3 p4 p5)), .val (.int (j19 p0 p1 p2 p3 p4 p5)), .val (.int ((jb1 p0 p1 p2 p3 p4 p5) + (jb2 p0 p1 p2 p3 p4 p5))), .val (.int ((ja1 p0 p1 p2 p3 p4 p5) + (ja2 p0 p1 p2 p3 p4 p5))), .val (.int ((((jb1 p0 p1 p2 p3 p4 p5) + (jb2 p0 p1 p2 p3 p4 p5)) + (16 : Int32)) + ((ja1 p0 p1 p2 p3 p4 p5) + (ja2 p0 p1 p2 p3 p4 p5)))), .val (.int (own_irem (p4 &&& (2147483647 : Int32)) ((((jb1 p0 p1 p2 p3 p4 p5) + (jb2 p0 p1 p2 p3 p4 p5)) + (16 : Int32)) + ((ja1 p0 p1 p2 p3 p4 p5) + (ja2 p0 p1 p2 p3 p4 p5))))), .val (.int ((f_min p0 (2147483632 : Int32)) + ((own_irem (p4 &&& (2147483647 : Int32)) ((((jb1 p0 p1 p2 p3 p4 p5) + (jb2 p0 p1 p2 p3 p4 p5)) + (16 : Int32)) + ((ja1 p0 p1 p2 p3 p4 p5) + (ja2 p0 p1 p2 p3 p4 p5)))) - ((jb1 p0 p1 p2 p3 p4 p5) + (jb2 p0 p1 p2 p3 p4 p5))))), .unset] [(.int (Int32.ofNat (own_J p0 p1 p2 p3 p4 p5))), (.ref uu0_123)])) rfl (by rw [hml]; rfl) (Steps.refl _) (argsL := [(.int (Int32.ofNat (own_J p0 p1 p2 p3 p4 p5)))]) (rest := []) (lenOf pd0_8 rfl) rfl (own_mr rfl) (hb hby at_586) (fun _ _ => ⟨rfl, e0_131, (by decide : 20 + 0 ≤ _), (by decide : 235 + 0 ≤ _)⟩)
        dsimp only [Pt.U, Pt.locs, Pt.cells, Pt.slots] at X0_135 l0_135 y0_135 z0_135 st0_135 hQ0_135
        subst l0_135 y0_135 z0_135
        obtain ⟨rfl, N0_135q, e0_135⟩ := hQ0_135
        have N0_135 := Fr.app Nhd0_132 N0_135q
        refine own_fw (fun t k => st0_135.trans k) ?_
        obtain ⟨Lhd0_136, Xhd0_136, Nhd0_136⟩ := own_hide X0_135 N0_135
        refine own_fw (A := T0_135.setTop (mkF m 599 #[.val (.int p0), .val (.int p1), .val (.int p2), .val (.int p3), .val (.int p4), .val (.int p5), .val (.int (f_min p0 (2147483632 : Int32))), .val (.int (j7 p0 p1 p2 p3 p4 p5)), .val (.int (j8 p0 p1 p2 p3 p4 p5)), .val (.ref b0_3), .val (.ref ub0_12), .val (.ref b0_15), .val (.ref b0_100), .val (.ref uu0_123), .val (.int (f_min (j7 p0 p1 p2 p3 p4 p5) (j8 p0 p1 p2 p3 p4 p5))), .val (.int (f_max (j7 p0 p1 p2 p3 p4 p5) (j8 p0 p1 p2 p3 p4 p5))), .val (.int (j16 p0 p1 p2 p3 p4 p5)), .val (.int ((f_min p0 (2147483632 : Int32)) + (15 : Int32))), .val (.int (j18 p0 p1 p2 p3 p4 p5)), .val (.int (j19 p0 p1 p2 p3 p4 p5)), .val (.int ((jb1 p0 p1 p2 p3 p4 p5) + (jb2 p0 p1 p2 p3 p4 p5))), .val (.int ((ja1 p0 p1 p2 p3 p4 p5) + (ja2 p0 p1 p2 p3 p4 p5))), .val (.int ((((jb1 p0 p1 p2 p3 p4 p5) + (jb2 p0 p1 p2 p3 p4 p5)) + (16 : Int32)) + ((ja1 p0 p1 p2 p3 p4 p5) + (ja2 p0 p1 p2 p3 p4 p5)))), .val (.int (own_irem (p4 &&& (2147483647 : Int32)) ((((jb1 p0 p1 p2 p3 p4 p5) + (jb2 p0 p1 p2 p3 p4 p5)) + (16 : Int32)) + ((ja1 p0 p1 p2 p3 p4 p5) + (ja2 p0 p1 p2 p3 p4 p5))))), .val (.int ((f_min p0 (2147483632 : Int32)) + ((own_irem (p4 &&& (2147483647 : Int32)) ((((jb1 p0 p1 p2 p3 p4 p5) + (jb2 p0 p1 p2 p3 p4 p5)) + (16 : Int32)) + ((ja1 p0 p1 p2 p3 p4 p5) + (ja2 p0 p1 p2 p3 p4 p5)))) - ((jb1 p0 p1 p2 p3 p4 p5) + (jb2 p0 p1 p2 p3 p4 p5))))), .unset] [(.int (1 : Int32))])) (fun t k => ?_) ?_
        · refine ox_iload Xhd0_136.here hx (hb hby at_589) rfl ?_
          refine ox_icmpNo Xhd0_136.here hx (hb hby at_591) rfl (teq (own_at2 p0 p1 p2 p3 p4 p5 hc0_19 hc0_21)).2 ?_
          refine ox_iconst Xhd0_136.here hx (hb hby at_594) ?_
          refine ox_goto Xhd0_136.here hx (pc0 := 595) (pc' := 599) rfl (hb hby at_595) (by decide) (by decide) ?_
          exact k
        obtain ⟨fs, hr, hrun, hended, hW, hsame⟩ := Xhd0_136.leave (v := some (.int (nar .boolean (1 : Int32)))) (own_ret Bd.returns) (BodyLoose.notSynchronized Bd)
        refine ⟨_, _, retN Xhd0_136 hx (t := .boolean) Bd.returns (by simp) (hb hby at_599) hr, hrun, hended, _, _, rfl, ?_, ⟨_, rfl⟩, hW, hsame.mono (by decide) (by decide)⟩
        have eh : (T0_135.setFrames fs).heap = T0_123.heap := e0_135
        rw [eh]
        exact ⟨rfl, Nhd0_136⟩
      · refine own_fw (A := T0_131.setTop (mkF m 541 #[.val (.int p0), .val (.int p1), .val (.int p2), .val (.int p3), .val (.int p4), .val (.int p5), .val (.int (f_min p0 (2147483632 : Int32))), .val (.int (j7 p0 p1 p2 p3 p4 p5)), .val (.int (j8 p0 p1 p2 p3 p4 p5)), .val (.ref b0_3), .val (.ref ub0_12), .val (.ref b0_15), .val (.ref b0_100), .val (.ref uu0_123), .val (.int (f_min (j7 p0 p1 p2 p3 p4 p5) (j8 p0 p1 p2 p3 p4 p5))), .val (.int (f_max (j7 p0 p1 p2 p3 p4 p5) (j8 p0 p1 p2 p3 p4 p5))), .val (.int (j16 p0 p1 p2 p3 p4 p5)), .val (.int ((f_min p0 (2147483632 : Int32)) + (15 : Int32))), .val (.int (j18 p0 p1 p2 p3 p4 p5)), .val (.int (j19 p0 p1 p2 p3 p4 p5)), .val (.int ((jb1 p0 p1 p2 p3 p4 p5) + (jb2 p0 p1 p2 p3 p4 p5))), .val (.int ((ja1 p0 p1 p2 p3 p4 p5) + (ja2 p0 p1 p2 p3 p4 p5))), .val (.int ((((jb1 p0 p1 p2 p3 p4 p5) + (jb2 p0 p1 p2 p3 p4 p5)) + (16 : Int32)) + ((ja1 p0 p1 p2 p3 p4 p5) + (ja2 p0 p1 p2 p3 p4 p5)))), .val (.int (own_irem (p4 &&& (2147483647 : Int32)) ((((jb1 p0 p1 p2 p3 p4 p5) + (jb2 p0 p1 p2 p3 p4 p5)) + (16 : Int32)) + ((ja1 p0 p1 p2 p3 p4 p5) + (ja2 p0 p1 p2 p3 p4 p5))))), .unset, .unset] [])) (fun t k => ?_) ?_
        · refine ox_icmpYes Xhd0_132.here hx (pc0 := 525) (pc' := 541) rfl (hb hby at_525) rfl (flt hc0_21).2.1 (by decide) (by decide) ?_
          exact k
        refine own_fw (A := T0_131.setTop (mkF m 551 #[.val (.int p0), .val (.int p1), .val (.int p2), .val (.int p3), .val (.int p4), .val (.int p5), .val (.int (f_min p0 (2147483632 : Int32))), .val (.int (j7 p0 p1 p2 p3 p4 p5)), .val (.int (j8 p0 p1 p2 p3 p4 p5)), .val (.ref b0_3), .val (.ref ub0_12), .val (.ref b0_15), .val (.ref b0_100), .val (.ref uu0_123), .val (.int (f_min (j7 p0 p1 p2 p3 p4 p5) (j8 p0 p1 p2 p3 p4 p5))), .val (.int (f_max (j7 p0 p1 p2 p3 p4 p5) (j8 p0 p1 p2 p3 p4 p5))), .val (.int (j16 p0 p1 p2 p3 p4 p5)), .val (.int ((f_min p0 (2147483632 : Int32)) + (15 : Int32))), .val (.int (j18 p0 p1 p2 p3 p4 p5)), .val (.int (j19 p0 p1 p2 p3 p4 p5)), .val (.int ((jb1 p0 p1 p2 p3 p4 p5) + (jb2 p0 p1 p2 p3 p4 p5))), .val (.int ((ja1 p0 p1 p2 p3 p4 p5) + (ja2 p0 p1 p2 p3 p4 p5))), .val (.int ((((jb1 p0 p1 p2 p3 p4 p5) + (jb2 p0 p1 p2 p3 p4 p5)) + (16 : Int32)) + ((ja1 p0 p1 p2 p3 p4 p5) + (ja2 p0 p1 p2 p3 p4 p5)))), .val (.int (own_irem (p4 &&& (2147483647 : Int32)) ((((jb1 p0 p1 p2 p3 p4 p5) + (jb2 p0 p1 p2 p3 p4 p5)) + (16 : Int32)) + ((ja1 p0 p1 p2 p3 p4 p5) + (ja2 p0 p1 p2 p3 p4 p5))))), .unset, .val (.int (((own_irem (p4 &&& (2147483647 : Int32)) ((((jb1 p0 p1 p2 p3 p4 p5) + (jb2 p0 p1 p2 p3 p4 p5)) + (16 : Int32)) + ((ja1 p0 p1 p2 p3 p4 p5) + (ja2 p0 p1 p2 p3 p4 p5)))) - ((jb1 p0 p1 p2 p3 p4 p5) + (jb2 p0 p1 p2 p3 p4 p5))) - (16 : Int32)))] [])) (fun t k => ?_) ?_
        · refine ox_iload Xhd0_132.here hx (hb hby at_541) rfl ?_
          refine ox_iload Xhd0_132.here hx (hb hby at_543) rfl ?_
          refine ox_isub Xhd0_132.here hx (hb hby at_545) rfl ?_
          refine ox_bipush Xhd0_132.here hx (hb hby at_546) ?_
          refine ox_isub Xhd0_132.here hx (hb hby at_548) rfl ?_
          refine ox_istore Xhd0_132.here hx (hb hby at_549) rfl (l' := #[.val (.int p0), .val (.int p1), .val (.int p2), .val (.int p3), .val (.int p4), .val (.int p5), .val (.int (f_min p0 (2147483632 : Int32))), .val (.int (j7 p0 p1 p2 p3 p4 p5)), .val (.int (j8 p0 p1 p2 p3 p4 p5)), .val (.ref b0_3), .val (.ref ub0_12), .val (.ref b0_15), .val (.ref b0_100), .val (.ref uu0_123), .val (.int (f_min (j7 p0 p1 p2 p3 p4 p5) (j8 p0 p1 p2 p3 p4 p5))), .val (.int (f_max (j7 p0 p1 p2 p3 p4 p5) (j8 p0 p1 p2 p3 p4 p5))), .val (.int (j16 p0 p1 p2 p3 p4 p5)), .val (.int ((f_min p0 (2147483632 : Int32)) + (15 : Int32))), .val (.int (j18 p0 p1 p2 p3 p4 p5)), .val (.int (j19 p0 p1 p2 p3 p4 p5)), .val (.int ((jb1 p0 p1 p2 p3 p4 p5) + (jb2 p0 p1 p2 p3 p4 p5))), .val (.int ((ja1 p0 p1 p2 p3 p4 p5) + (ja2 p0 p1 p2 p3 p4 p5))), .val (.int ((((jb1 p0 p1 p2 p3 p4 p5) + (jb2 p0 p1 p2 p3 p4 p5)) + (16 : Int32)) + ((ja1 p0 p1 p2 p3 p4 p5) + (ja2 p0 p1 p2 p3 p4 p5)))), .val (.int (own_irem (p4 &&& (2147483647 : Int32)) ((((jb1 p0 p1 p2 p3 p4 p5) + (jb2 p0 p1 p2 p3 p4 p5)) + (16 : Int32)) + ((ja1 p0 p1 p2 p3 p4 p5) + (ja2 p0 p1 p2 p3 p4 p5))))), .unset, .val (.int (((own_irem (p4 &&& (2147483647 : Int32)) ((((jb1 p0 p1 p2 p3 p4 p5) + (jb2 p0 p1 p2 p3 p4 p5)) + (16 : Int32)) + ((ja1 p0 p1 p2 p3 p4 p5) + (ja2 p0 p1 p2 p3 p4 p5)))) - ((jb1 p0 p1 p2 p3 p4 p5) + (jb2 p0 p1 p2 p3 p4 p5))) - (16 : Int32)))]) rfl ?_
          exact k
        have sg0_551 : ∀ t, Steps p.tables e below (T0_131.setTop (mkF m 580 #[.val (.int p0), .val (.int p1), .val (.int p2), .val (.int p3), .val (.int p4), .val (.int p5), .val (.int (f_min p0 (2147483632 : Int32))), .val (.int (j7 p0 p1 p2 p3 p4 p5)), .val (.int (j8 p0 p1 p2 p3 p4 p5)), .val (.ref b0_3), .val (.ref ub0_12), .val (.ref b0_15), .val (.ref b0_100), .val (.ref uu0_123), .val (.int (f_min (j7 p0 p1 p2 p3 p4 p5) (j8 p0 p1 p2 p3 p4 p5))), .val (.int (f_max (j7 p0 p1 p2 p3 p4 p5) (j8 p0 p1 p2 p3 p4 p5))), .val (.int (j16 p0 p1 p2 p3 p4 p5)), .val (.int ((f_min p0 (2147483632 : Int32)) + (15 : Int32))), .val (.int (j18 p0 p1 p2 p3 p4 p5)), .val (.int (j19 p0 p1 p2 p3 p4 p5)), .val (.int ((jb1 p0 p1 p2 p3 p4 p5) + (jb2 p0 p1 p2 p3 p4 p5))), .val (.int ((ja1 p0 p1 p2 p3 p4 p5) + (ja2 p0 p1 p2 p3 p4 p5))), .val (.int ((((jb1 p0 p1 p2 p3 p4 p5) + (jb2 p0 p1 p2 p3 p4 p5)) + (16 : Int32)) + ((ja1 p0 p1 p2 p3 p4 p5) + (ja2 p0 p1 p2 p3 p4 p5)))), .val (.int (own_irem (p4 &&& (2147483647 : Int32)) ((((jb1 p0 p1 p2 p3 p4 p5) + (jb2 p0 p1 p2 p3 p4 p5)) + (16 : Int32)) + ((ja1 p0 p1 p2 p3 p4 p5) + (ja2 p0 p1 p2 p3 p4 p5))))), .unset, .val (.int (((own_irem (p4 &&& (2147483647 : Int32)) ((((jb1 p0 p1 p2 p3 p4 p5) + (jb2 p0 p1 p2 p3 p4 p5)) + (16 : Int32)) + ((ja1 p0 p1 p2 p3 p4 p5) + (ja2 p0 p1 p2 p3 p4 p5)))) - ((jb1 p0 p1 p2 p3 p4 p5) + (jb2 p0 p1 p2 p3 p4 p5))) - (16 : Int32)))] [(.int (je3 p0 p1 p2 p3 p4 p5))])) t → Steps p.tables e below (T0_131.setTop (mkF m 551 #[.val (.int p0), .val (.int p1), .val (.int p2), .val (.int p3), .val (.int p4), .val (.int p5), .val (.int (f_min p0 (2147483632 : Int32))), .val (.int (j7 p0 p1 p2 p3 p4 p5)), .val (.int (j8 p0 p1 p2 p3 p4 p5)), .val (.ref b0_3), .val (.ref ub0_12), .val (.ref b0_15), .val (.ref b0_100), .val (.ref uu0_123), .val (.int (f_min (j7 p0 p1 p2 p3 p4 p5) (j8 p0 p1 p2 p3 p4 p5))), .val (.int (f_max (j7 p0 p1 p2 p3 p4 p5) (j8 p0 p1 p2 p3 p4 p5))), .val (.int (j16 p0 p1 p2 p3 p4 p5)), .val (.int ((f_min p0 (2147483632 : Int32)) + (15 : Int32))), .val (.int (j18 p0 p1 p2 p3 p4 p5)), .val (.int (j19 p0 p1 p2 p3 p4 p5)), .val (.int ((jb1 p0 p1 p2 p3 p4 p5) + (jb2 p0 p1 p2 p3 p4 p5))), .val (.int ((ja1 p0 p1 p2 p3 p4 p5) + (ja2 p0 p1 p2 p3 p4 p5))), .val (.int ((((jb1 p0 p1 p2 p3 p4 p5) + (jb2 p0 p1 p2 p3 p4 p5)) + (16 : Int32)) + ((ja1 p0 p1 p2 p3 p4 p5) + (ja2 p0 p1 p2 p3 p4 p5)))), .val (.int (own_irem (p4 &&& (2147483647 : Int32)) ((((jb1 p0 p1 p2 p3 p4 p5) + (jb2 p0 p1 p2 p3 p4 p5)) + (16 : Int32)) + ((ja1 p0 p1 p2 p3 p4 p5) + (ja2 p0 p1 p2 p3 p4 p5))))), .unset, .val (.int (((own_irem (p4 &&& (2147483647 : Int32)) ((((jb1 p0 p1 p2 p3 p4 p5) + (jb2 p0 p1 p2 p3 p4 p5)) + (16 : Int32)) + ((ja1 p0 p1 p2 p3 p4 p5) + (ja2 p0 p1 p2 p3 p4 p5)))) - ((jb1 p0 p1 p2 p3 p4 p5) + (jb2 p0 p1 p2 p3 p4 p5))) - (16 : Int32)))] [])) t := by
          intro t k
          refine ox_iload Xhd0_132.here hx (hb hby at_551) rfl ?_
          by_cases hc0_22 : (((own_irem (p4 &&& (2147483647 : Int32)) ((((jb1 p0 p1 p2 p3 p4 p5) + (jb2 p0 p1 p2 p3 p4 p5)) + (16 : Int32)) + ((ja1 p0 p1 p2 p3 p4 p5) + (ja2 p0 p1 p2 p3 p4 p5)))) - ((jb1 p0 p1 p2 p3 p4 p5) + (jb2 p0 p1 p2 p3 p4 p5))) - (16 : Int32)) = (0 : Int32)
          · refine ox_ifNo Xhd0_132.here hx (hb hby at_553) rfl ((if0 _ _).trans (teq hc0_22).2) ?_
            refine ox_iload Xhd0_132.here hx (hb hby at_556) rfl ?_
            by_cases hc0_23 : (j18 p0 p1 p2 p3 p4 p5) = (0 : Int32)
            · refine ox_ifYes Xhd0_132.here hx (pc0 := 558) (pc' := 573) rfl (hb hby at_558) rfl ((if0 _ _).trans (teq hc0_23).1) (by decide) (by decide) ?_
              refine ox_iload Xhd0_132.here hx (hb hby at_573) rfl ?_
              refine ox_goto Xhd0_132.here hx (pc0 := 575) (pc' := 580) rfl (hb hby at_575) (by decide) (by decide) ?_
              have q : je3 p0 p1 p2 p3 p4 p5 = (f_max (j7 p0 p1 p2 p3 p4 p5) (j8 p0 p1 p2 p3 p4 p5)) := by rw [je3, if_pos hc0_22, if_pos hc0_23]
              rw [q] at k
              exact k
            · refine ox_ifNo Xhd0_132.here hx (hb hby at_558) rfl ((if0 _ _).trans (feq hc0_23).1) ?_
              refine ox_iload Xhd0_132.here hx (hb hby at_561) rfl ?_
              refine ox_iload Xhd0_132.here hx (hb hby at_563) rfl ?_
              by_cases hc0_24 : ((f_min p0 (2147483632 : Int32)) + (15 : Int32)) < (f_min (j7 p0 p1 p2 p3 p4 p5) (j8 p0 p1 p2 p3 p4 p5))
              · refine ox_icmpNo Xhd0_132.here hx (hb hby at_565) rfl (tlt hc0_24).2.2.2 ?_
                refine ox_iload Xhd0_132.here hx (hb hby at_568) rfl ?_
                refine ox_goto Xhd0_132.here hx (pc0 := 570) (pc' := 580) rfl (hb hby at_570) (by decide) (by decide) ?_
                have q : je3 p0 p1 p2 p3 p4 p5 = (f_min (j7 p0 p1 p2 p3 p4 p5) (j8 p0 p1 p2 p3 p4 p5)) := by rw [je3, if_pos hc0_22, if_neg hc0_23, if_pos hc0_24]
                rw [q] at k
                exact k
              · refine ox_icmpYes Xhd0_132.here hx (pc0 := 565) (pc' := 573) rfl (hb hby at_565) rfl (flt hc0_24).2.2.2 (by decide) (by decide) ?_
                refine ox_iload Xhd0_132.here hx (hb hby at_573) rfl ?_
                refine ox_goto Xhd0_132.here hx (pc0 := 575) (pc' := 580) rfl (hb hby at_575) (by decide) (by decide) ?_
                have q : je3 p0 p1 p2 p3 p4 p5 = (f_max (j7 p0 p1 p2 p3 p4 p5) (j8 p0 p1 p2 p3 p4 p5)) := by rw [je3, if_pos hc0_22, if_neg hc0_23, if_neg hc0_24]
                rw [q] at k
                exact k
          · refine ox_ifYes Xhd0_132.here hx (pc0 := 553) (pc' := 578) rfl (hb hby at_553) rfl ((if0 _ _).trans (feq hc0_22).2) (by decide) (by decide) ?_
            refine ox_iload Xhd0_132.here hx (hb hby at_578) rfl ?_
            have q : je3 p0 p1 p2 p3 p4 p5 = (f_max (j7 p0 p1 p2 p3 p4 p5) (j8 p0 p1 p2 p3 p4 p5)) := by rw [je3, if_neg hc0_22]
            rw [q] at k
            exact k
        refine own_fw sg0_551 ?_
        refine own_fw (A := T0_131.setTop (mkF m 586 #[.val (.int p0), .val (.int p1), .val (.int p2), .val (.int p3), .val (.int p4), .val (.int p5), .val (.int (f_min p0 (2147483632 : Int32))), .val (.int (j7 p0 p1 p2 p3 p4 p5)), .val (.int (j8 p0 p1 p2 p3 p4 p5)), .val (.ref b0_3), .val (.ref ub0_12), .val (.ref b0_15), .val (.ref b0_100), .val (.ref uu0_123), .val (.int (f_min (j7 p0 p1 p2 p3 p4 p5) (j8 p0 p1 p2 p3 p4 p5))), .val (.int (f_max (j7 p0 p1 p2 p3 p4 p5) (j8 p0 p1 p2 p3 p4 p5))), .val (.int (j16 p0 p1 p2 p3 p4 p5)), .val (.int ((f_min p0 (2147483632 : Int32)) + (15 : Int32))), .val (.int (j18 p0 p1 p2 p3 p4 p5)), .val (.int (j19 p0 p1 p2 p3 p4 p5)), .val (.int ((jb1 p0 p1 p2 p3 p4 p5) + (jb2 p0 p1 p2 p3 p4 p5))), .val (.int ((ja1 p0 p1 p2 p3 p4 p5) + (ja2 p0 p1 p2 p3 p4 p5))), .val (.int ((((jb1 p0 p1 p2 p3 p4 p5) + (jb2 p0 p1 p2 p3 p4 p5)) + (16 : Int32)) + ((ja1 p0 p1 p2 p3 p4 p5) + (ja2 p0 p1 p2 p3 p4 p5)))), .val (.int (own_irem (p4 &&& (2147483647 : Int32)) ((((jb1 p0 p1 p2 p3 p4 p5) + (jb2 p0 p1 p2 p3 p4 p5)) + (16 : Int32)) + ((ja1 p0 p1 p2 p3 p4 p5) + (ja2 p0 p1 p2 p3 p4 p5))))), .val (.int (je3 p0 p1 p2 p3 p4 p5)), .val (.int (((own_irem (p4 &&& (2147483647 : Int32)) ((((jb1 p0 p1 p2 p3 p4 p5) + (jb2 p0 p1 p2 p3 p4 p5)) + (16 : Int32)) + ((ja1 p0 p1 p2 p3 p4 p5) + (ja2 p0 p1 p2 p3 p4 p5)))) - ((jb1 p0 p1 p2 p3 p4 p5) + (jb2 p0 p1 p2 p3 p4 p5))) - (16 : Int32)))] [(.int (own_irem (p4 &&& (2147483647 : Int32)) ((((jb1 p0 p1 p2 p3 p4 p5) + (jb2 p0 p1 p2 p3 p4 p5)) + (16 : Int32)) + ((ja1 p0 p1 p2 p3 p4 p5) + (ja2 p0 p1 p2 p3 p4 p5))))), (.ref uu0_123)])) (fun t k => ?_) ?_
        · refine ox_istore Xhd0_132.here hx (hb hby at_580) rfl (l' := #[.val (.int p0), .val (.int p1), .val (.int p2), .val (.int p3), .val (.int p4), .val (.int p5), .val (.int (f_min p0 (2147483632 : Int32))), .val (.int (j7 p0 p1 p2 p3 p4 p5)), .val (.int (j8 p0 p1 p2 p3 p4 p5)), .val (.ref b0_3), .val (.ref ub0_12), .val (.ref b0_15), .val (.ref b0_100), .val (.ref uu0_123), .val (.int (f_min (j7 p0 p1 p2 p3 p4 p5) (j8 p0 p1 p2 p3 p4 p5))), .val (.int (f_max (j7 p0 p1 p2 p3 p4 p5) (j8 p0 p1 p2 p3 p4 p5))), .val (.int (j16 p0 p1 p2 p3 p4 p5)), .val (.int ((f_min p0 (2147483632 : Int32)) + (15 : Int32))), .val (.int (j18 p0 p1 p2 p3 p4 p5)), .val (.int (j19 p0 p1 p2 p3 p4 p5)), .val (.int ((jb1 p0 p1 p2 p3 p4 p5) + (jb2 p0 p1 p2 p3 p4 p5))), .val (.int ((ja1 p0 p1 p2 p3 p4 p5) + (ja2 p0 p1 p2 p3 p4 p5))), .val (.int ((((jb1 p0 p1 p2 p3 p4 p5) + (jb2 p0 p1 p2 p3 p4 p5)) + (16 : Int32)) + ((ja1 p0 p1 p2 p3 p4 p5) + (ja2 p0 p1 p2 p3 p4 p5)))), .val (.int (own_irem (p4 &&& (2147483647 : Int32)) ((((jb1 p0 p1 p2 p3 p4 p5) + (jb2 p0 p1 p2 p3 p4 p5)) + (16 : Int32)) + ((ja1 p0 p1 p2 p3 p4 p5) + (ja2 p0 p1 p2 p3 p4 p5))))), .val (.int (je3 p0 p1 p2 p3 p4 p5)), .val (.int (((own_irem (p4 &&& (2147483647 : Int32)) ((((jb1 p0 p1 p2 p3 p4 p5) + (jb2 p0 p1 p2 p3 p4 p5)) + (16 : Int32)) + ((ja1 p0 p1 p2 p3 p4 p5) + (ja2 p0 p1 p2 p3 p4 p5)))) - ((jb1 p0 p1 p2 p3 p4 p5) + (jb2 p0 p1 p2 p3 p4 p5))) - (16 : Int32)))]) rfl ?_
          refine ox_aload Xhd0_132.here hx (hb hby at_582) rfl rfl ?_
          refine ox_iload Xhd0_132.here hx (hb hby at_584) rfl ?_
          exact k
        refine own_fw (A := T0_131.setTop (mkF m 586 #[.val (.int p0), .val (.int p1), .val (.int p2), .val (.int p3), .val (.int p4), .val (.int p5), .val (.int (f_min p0 (2147483632 : Int32))), .val (.int (j7 p0 p1 p2 p3 p4 p5)), .val (.int (j8 p0 p1 p2 p3 p4 p5)), .val (.ref b0_3), .val (.ref ub0_12), .val (.ref b0_15), .val (.ref b0_100), .val (.ref uu0_123), .val (.int (f_min (j7 p0 p1 p2 p3 p4 p5) (j8 p0 p1 p2 p3 p4 p5))), .val (.int (f_max (j7 p0 p1 p2 p3 p4 p5) (j8 p0 p1 p2 p3 p4 p5))), .val (.int (j16 p0 p1 p2 p3 p4 p5)), .val (.int ((f_min p0 (2147483632 : Int32)) + (15 : Int32))), .val (.int (j18 p0 p1 p2 p3 p4 p5)), .val (.int (j19 p0 p1 p2 p3 p4 p5)), .val (.int ((jb1 p0 p1 p2 p3 p4 p5) + (jb2 p0 p1 p2 p3 p4 p5))), .val (.int ((ja1 p0 p1 p2 p3 p4 p5) + (ja2 p0 p1 p2 p3 p4 p5))), .val (.int ((((jb1 p0 p1 p2 p3 p4 p5) + (jb2 p0 p1 p2 p3 p4 p5)) + (16 : Int32)) + ((ja1 p0 p1 p2 p3 p4 p5) + (ja2 p0 p1 p2 p3 p4 p5)))), .val (.int (own_irem (p4 &&& (2147483647 : Int32)) ((((jb1 p0 p1 p2 p3 p4 p5) + (jb2 p0 p1 p2 p3 p4 p5)) + (16 : Int32)) + ((ja1 p0 p1 p2 p3 p4 p5) + (ja2 p0 p1 p2 p3 p4 p5))))), .val (.int (je3 p0 p1 p2 p3 p4 p5)), .val (.int (((own_irem (p4 &&& (2147483647 : Int32)) ((((jb1 p0 p1 p2 p3 p4 p5) + (jb2 p0 p1 p2 p3 p4 p5)) + (16 : Int32)) + ((ja1 p0 p1 p2 p3 p4 p5) + (ja2 p0 p1 p2 p3 p4 p5)))) - ((jb1 p0 p1 p2 p3 p4 p5) + (jb2 p0 p1 p2 p3 p4 p5))) - (16 : Int32)))] [(.int (Int32.ofNat (own_J p0 p1 p2 p3 p4 p5))), (.ref uu0_123)])) (fun t k => castTop (congrArg (fun z => (mkF m 586 #[.val (.int p0), .val (.int p1), .val (.int p2), .val (.int p3), .val (.int p4), .val (.int p5), .val (.int (f_min p0 (2147483632 : Int32))), .val (.int (j7 p0 p1 p2 p3 p4 p5)), .val (.int (j8 p0 p1 p2 p3 p4 p5)), .val (.ref b0_3), .val (.ref ub0_12), .val (.ref b0_15), .val (.ref b0_100), .val (.ref uu0_123), .val (.int (f_min (j7 p0 p1 p2 p3 p4 p5) (j8 p0 p1 p2 p3 p4 p5))), .val (.int (f_max (j7 p0 p1 p2 p3 p4 p5) (j8 p0 p1 p2 p3 p4 p5))), .val (.int (j16 p0 p1 p2 p3 p4 p5)), .val (.int ((f_min p0 (2147483632 : Int32)) + (15 : Int32))), .val (.int (j18 p0 p1 p2 p3 p4 p5)), .val (.int (j19 p0 p1 p2 p3 p4 p5)), .val (.int ((jb1 p0 p1 p2 p3 p4 p5) + (jb2 p0 p1 p2 p3 p4 p5))), .val (.int ((ja1 p0 p1 p2 p3 p4 p5) + (ja2 p0 p1 p2 p3 p4 p5))), .val (.int ((((jb1 p0 p1 p2 p3 p4 p5) + (jb2 p0 p1 p2 p3 p4 p5)) + (16 : Int32)) + ((ja1 p0 p1 p2 p3 p4 p5) + (ja2 p0 p1 p2 p3 p4 p5)))), .val (.int (own_irem (p4 &&& (2147483647 : Int32)) ((((jb1 p0 p1 p2 p3 p4 p5) + (jb2 p0 p1 p2 p3 p4 p5)) + (16 : Int32)) + ((ja1 p0 p1 p2 p3 p4 p5) + (ja2 p0 p1 p2 p3 p4 p5))))), .val (.int (je3 p0 p1 p2 p3 p4 p5)), .val (.int (((own_irem (p4 &&& (2147483647 : Int32)) ((((jb1 p0 p1 p2 p3 p4 p5) + (jb2 p0 p1 p2 p3 p4 p5)) + (16 : Int32)) + ((ja1 p0 p1 p2 p3 p4 p5) + (ja2 p0 p1 p2 p3 p4 p5)))) - ((jb1 p0 p1 p2 p3 p4 p5) + (jb2 p0 p1 p2 p3 p4 p5))) - (16 : Int32)))] [(.int z), (.ref uu0_123)])) (own_JR p0 p1 p2 p3 p4 p5)) k) ?_
        obtain ⟨cq0_137, kq0_137, q0_137a, q0_137b, q0_137c⟩ := isOf hZ e0_131 Eu0_123
        obtain ⟨_, _, ⟨T0_137, L0_137, k0_137, n0_137⟩, -, X0_137, ⟨Lc0_137, hQ0_137, l0_137, y0_137, z0_137⟩, st0_137⟩ := Xhd0_132.virtualBack hx (y := mN1) (z := mN1) hown (mvT hZ (own_w hw 213 rfl)) (mvT hZ (own_w hw 204 rfl)) (notFace_of_selects (args := #[]) (mvT hZ (own_w hw 206 rfl))) (mvT hZ (own_w hw 206 rfl)) (mvT hZ (own_w hw 205 rfl)) (by decide) (backOf (W := 0) (rm28 l Z a0 hw [] uu0_123 mu0_123 kI (own_exp (f_min p0 (2147483632 : Int32)) (j7 p0 p1 p2 p3 p4 p5) (j8 p0 p1 p2 p3 p4 p5)).length (own_exp (f_min p0 (2147483632 : Int32)) (j7 p0 p1 p2 p3 p4 p5) (j8 p0 p1 p2 p3 p4 p5)) (own_J p0 p1 p2 p3 p4 p5) T0_123.heap n0 (Nat.le_trans (Nat.le_trans fc0_114 K0_116.1) K0_123.1) Fu0_123 Iu0_123 (own_Jlt p0 p1 p2 p3 p4 p5)) hZ (own_w hw 207 rfl) (own_w hw 53 rfl) (by decide) (by decide)) q0_137a q0_137c (g := (mkF m 586 #[.val (.int p0), .val (.int p1), .val (.int p2), .val (.int p3), .val (.int p4), .val (.int p5), .val (.int (f_min p0 (2147483632 : Int32))), .val (.int (j7 p0 p1 p2 p3 p4 p5)), .val (.int (j8 p0 p1 p2 p3 p4 p5)), .val (.ref b0_3), .val (.ref ub0_12), .val (.ref b0_15), .val (.ref b0_100), .val (.ref uu0_123), .val (.int (f_min (j7 p0 p1 p2 p3 p4 p5) (j8 p0 p1 p2 p3 p4 p5))), .val (.int (f_max (j7 p0 p1 p2 p3 p4 p5) (j8 p0 p1 p2 p3 p4 p5))), .val (.int (j16 p0 p1 p2 p3 p4 p5)), .val (.int ((f_min p0 (2147483632 : Int32)) + (15 : Int32))), .val (.int (j18 p0 p1 p2 p3 p4 p5)), .val (.int (j19 p0 p1 p2 p3 p4 p5)), .val (.int ((jb1 p0 p1 p2 p3 p4 p5) + (jb2 p0 p1 p2 p3 p4 p5))), .val (.int ((ja1 p0 p1 p2 p3 p4 p5) + (ja2 p0 p1 p2 p3 p4 p5))), .val (.int ((((jb1 p0 p1 p2 p3 p4 p5) + (jb2 p0 p1 p2 p3 p4 p5)) + (16 : Int32)) + ((ja1 p0 p1 p2 p3 p4 p5) + (ja2 p0 p1 p2 p3 p4 p5)))), .val (.int (own_irem (p4 &&& (2147483647 : Int32)) ((((jb1 p0 p1 p2 p3 p4 p5) + (jb2 p0 p1 p2 p3 p4 p5)) + (16 : Int32)) + ((ja1 p0 p1 p2 p3 p4 p5) + (ja2 p0 p1 p2 p3 p4 p5))))), .val (.int (je3 p0 p1 p2 p3 p4 p5)), .val (.int (((own_irem (p4 &&& (2147483647 : Int32)) ((((jb1 p0 p1 p2 p3 p4 p5) + (jb2 p0 p1 p2 p3 p4 p5)) + (16 : Int32)) + ((ja1 p0 p1 p2 p3 p4 p5) + (ja2 p0 p1 p2 p3 p4 p5)))) - ((jb1 p0 p1 p2 p3 p4 p5) + (jb2 p0 p1 p2 p3 p4 p5))) - (16 : Int32)))] [(.int (Int32.ofNat (own_J p0 p1 p2 p3 p4 p5))), (.ref uu0_123)])) rfl (by rw [hml]; rfl) (Steps.refl _) (argsL := [(.int (Int32.ofNat (own_J p0 p1 p2 p3 p4 p5)))]) (rest := []) (lenOf pd0_8 rfl) rfl (own_mr rfl) (hb hby at_586) (fun _ _ => ⟨rfl, e0_131, (by decide : 20 + 0 ≤ _), (by decide : 235 + 0 ≤ _)⟩)
        dsimp only [Pt.U, Pt.locs, Pt.cells, Pt.slots] at X0_137 l0_137 y0_137 z0_137 st0_137 hQ0_137
        subst l0_137 y0_137 z0_137
        obtain ⟨rfl, N0_137q, e0_137⟩ := hQ0_137
        have N0_137 := Fr.app Nhd0_132 N0_137q
        refine own_fw (fun t k => st0_137.trans k) ?_
        obtain ⟨Lhd0_138, Xhd0_138, Nhd0_138⟩ := own_hide X0_137 N0_137
        refine own_fw (A := T0_137.setTop (mkF m 599 #[.val (.int p0), .val (.int p1), .val (.int p2), .val (.int p3), .val (.int p4), .val (.int p5), .val (.int (f_min p0 (2147483632 : Int32))), .val (.int (j7 p0 p1 p2 p3 p4 p5)), .val (.int (j8 p0 p1 p2 p3 p4 p5)), .val (.ref b0_3), .val (.ref ub0_12), .val (.ref b0_15), .val (.ref b0_100), .val (.ref uu0_123), .val (.int (f_min (j7 p0 p1 p2 p3 p4 p5) (j8 p0 p1 p2 p3 p4 p5))), .val (.int (f_max (j7 p0 p1 p2 p3 p4 p5) (j8 p0 p1 p2 p3 p4 p5))), .val (.int (j16 p0 p1 p2 p3 p4 p5)), .val (.int ((f_min p0 (2147483632 : Int32)) + (15 : Int32))), .val (.int (j18 p0 p1 p2 p3 p4 p5)), .val (.int (j19 p0 p1 p2 p3 p4 p5)), .val (.int ((jb1 p0 p1 p2 p3 p4 p5) + (jb2 p0 p1 p2 p3 p4 p5))), .val (.int ((ja1 p0 p1 p2 p3 p4 p5) + (ja2 p0 p1 p2 p3 p4 p5))), .val (.int ((((jb1 p0 p1 p2 p3 p4 p5) + (jb2 p0 p1 p2 p3 p4 p5)) + (16 : Int32)) + ((ja1 p0 p1 p2 p3 p4 p5) + (ja2 p0 p1 p2 p3 p4 p5)))), .val (.int (own_irem (p4 &&& (2147483647 : Int32)) ((((jb1 p0 p1 p2 p3 p4 p5) + (jb2 p0 p1 p2 p3 p4 p5)) + (16 : Int32)) + ((ja1 p0 p1 p2 p3 p4 p5) + (ja2 p0 p1 p2 p3 p4 p5))))), .val (.int (je3 p0 p1 p2 p3 p4 p5)), .val (.int (((own_irem (p4 &&& (2147483647 : Int32)) ((((jb1 p0 p1 p2 p3 p4 p5) + (jb2 p0 p1 p2 p3 p4 p5)) + (16 : Int32)) + ((ja1 p0 p1 p2 p3 p4 p5) + (ja2 p0 p1 p2 p3 p4 p5)))) - ((jb1 p0 p1 p2 p3 p4 p5) + (jb2 p0 p1 p2 p3 p4 p5))) - (16 : Int32)))] [(.int (1 : Int32))])) (fun t k => ?_) ?_
        · refine ox_iload Xhd0_138.here hx (hb hby at_589) rfl ?_
          refine ox_icmpNo Xhd0_138.here hx (hb hby at_591) rfl (teq (own_at3 p0 p1 p2 p3 p4 p5 hc0_19 hc0_21)).2 ?_
          refine ox_iconst Xhd0_138.here hx (hb hby at_594) ?_
          refine ox_goto Xhd0_138.here hx (pc0 := 595) (pc' := 599) rfl (hb hby at_595) (by decide) (by decide) ?_
          exact k
        obtain ⟨fs, hr, hrun, hended, hW, hsame⟩ := Xhd0_138.leave (v := some (.int (nar .boolean (1 : Int32)))) (own_ret Bd.returns) (BodyLoose.notSynchronized Bd)
        refine ⟨_, _, retN Xhd0_138 hx (t := .boolean) Bd.returns (by simp) (hb hby at_599) hr, hrun, hended, _, _, rfl, ?_, ⟨_, rfl⟩, hW, hsame.mono (by decide) (by decide)⟩
        have eh : (T0_137.setFrames fs).heap = T0_123.heap := e0_137
        rw [eh]
        exact ⟨rfl, Nhd0_138⟩
  · refine own_fw (A := T0_102.setTop (mkF m 260 #[.val (.int p0), .val (.int p1), .val (.int p2), .val (.int p3), .val (.int p4), .val (.int p5), .val (.int (f_min p0 (2147483632 : Int32))), .val (.int (j7 p0 p1 p2 p3 p4 p5)), .val (.int (j8 p0 p1 p2 p3 p4 p5)), .val (.ref b0_3), .val (.ref ub0_12), .val (.ref b0_15), .val (.ref b0_100), .unset, .unset, .unset, .unset, .unset, .unset, .unset, .unset, .unset, .unset, .unset, .unset, .unset] [])) (fun t k => ?_) ?_
    · refine ox_ifNo Xhd0_107.here hx (hb hby at_257) rfl ((if0 _ _).trans (feq hc0_4).1) ?_
      exact k
    refine own_fw (A := T0_102.setTop (mkF m 264 #[.val (.int p0), .val (.int p1), .val (.int p2), .val (.int p3), .val (.int p4), .val (.int p5), .val (.int (f_min p0 (2147483632 : Int32))), .val (.int (j7 p0 p1 p2 p3 p4 p5)), .val (.int (j8 p0 p1 p2 p3 p4 p5)), .val (.ref b0_3), .val (.ref ub0_12), .val (.ref b0_15), .val (.ref b0_100), .unset, .unset, .unset, .unset, .unset, .unset, .unset, .unset, .unset, .unset, .unset, .unset, .unset] [(.ref ub0_12), (.ref b0_100)])) (fun t k => ?_) ?_
    · refine ox_aload Xhd0_107.here hx (hb hby at_260) rfl rfl ?_
      refine ox_aload Xhd0_107.here hx (hb hby at_262) rfl rfl ?_
      exact k
    obtain ⟨cq0_139, kq0_139, q0_139a, q0_139b, q0_139c⟩ := isOf hZ rfl Ex0_102
    obtain ⟨_, _, ⟨T0_139, L0_139, k0_139, n0_139⟩, -, X0_139, ⟨Lc0_139, hQ0_139, l0_139, y0_139, z0_139⟩, st0_139⟩ := Xhd0_107.virtualBack hx (y := mN3) (z := mN3) hown (mvT hZ (own_w hw 95 rfl)) (mvT hZ (own_w hw 96 rfl)) (notFace_of_selects (args := #[]) (mvT hZ (own_w hw 98 rfl))) (mvT hZ (own_w hw 98 rfl)) (mvT hZ (own_w hw 97 rfl)) (by decide) (backOf (W := 0) (rmA1_0 l Z a0 hw [] b0_100 ub0_12 d0 k0 T0_102.heap n0 (Nat.le_trans (Nat.le_trans fc0_98 E0_100.1) K0_102.1) Ex0_102 Fe0_102 Fs0_102 Fm0_102 (fc0_101.keep K0_102) ne_ub0_12_b0_100 g_b0_100 ((fc0_94.ext E0_100).keep K0_102 (allS g_b0_100 all0)) S_d V_d) hZ (own_w hw 99 rfl) (own_w hw 73 rfl) (by decide) (by decide)) q0_139a q0_139c (g := (mkF m 264 #[.val (.int p0), .val (.int p1), .val (.int p2), .val (.int p3), .val (.int p4), .val (.int p5), .val (.int (f_min p0 (2147483632 : Int32))), .val (.int (j7 p0 p1 p2 p3 p4 p5)), .val (.int (j8 p0 p1 p2 p3 p4 p5)), .val (.ref b0_3), .val (.ref ub0_12), .val (.ref b0_15), .val (.ref b0_100), .unset, .unset, .unset, .unset, .unset, .unset, .unset, .unset, .unset, .unset, .unset, .unset, .unset] [(.ref ub0_12), (.ref b0_100)])) rfl (by rw [hml]; rfl) (Steps.refl _) (argsL := [(.ref ub0_12)]) (rest := []) (lenOf pd0_5 rfl) rfl (own_mr rfl) (hb hby at_264) (fun _ _ => ⟨rfl, rfl, (by decide : 8 + 1 ≤ _), (by decide : 75 + 10 ≤ _)⟩)
    dsimp only [Pt.U, Pt.locs, Pt.cells, Pt.slots] at X0_139 l0_139 y0_139 z0_139 st0_139 hQ0_139
    subst l0_139 y0_139 z0_139
    obtain ⟨ba0_139, kg0_139, rfl, N0_139q, K0_139, Ex0_139, Fe0_139, Fs0_139, Fm0_139, Vg0_139, Og0_139, zg0_139⟩ := hQ0_139
    have N0_139 := Fr.app Nhd0_107 N0_139q
    have ne_ub0_12_ba0_139 : ub0_12 ≠ ba0_139 := Nat.ne_of_lt (Nat.lt_of_lt_of_le (fc0_101.keep K0_102).lt zg0_139)
    have ne_mb0_12_ba0_139 : mb0_12 ≠ ba0_139 := Nat.ne_of_lt (Nat.lt_of_lt_of_le fc0_104.lt zg0_139)
    have ne_b0_15_ba0_139 : b0_15 ≠ ba0_139 := Nat.ne_of_lt (Nat.lt_of_lt_of_le ((Ex0_93.ext E0_100).keep K0_102).lt zg0_139)
    have ne_b0_17_ba0_139 : b0_17 ≠ ba0_139 := Nat.ne_of_lt (Nat.lt_of_lt_of_le fc0_105.lt zg0_139)
    have ne_b0_100_ba0_139 : b0_100 ≠ ba0_139 := Nat.ne_of_lt (Nat.lt_of_lt_of_le Ex0_102.lt zg0_139)
    have g_ba0_139 : n0 ≤ ba0_139 := Nat.le_trans (Nat.le_trans (Nat.le_trans fc0_98 E0_100.1) K0_102.1) zg0_139
    refine own_fw (fun t k => st0_139.trans k) ?_
    have fc0_140 := (((fc0_94.ext E0_100).keep K0_102 (allS g_b0_100 all0)).keep K0_139 (allS g_b0_100 all0))
    have fc0_141 := (fc0_103.keep K0_139 (fun q => ne_ub0_12_b0_100 (List.mem_singleton.mp q)))
    have fc0_142 := (fc0_104.keep K0_139 (fun q => ne_mb0_12_b0_100 (List.mem_singleton.mp q)))
    have fc0_143 := (fc0_105.keep K0_139 (fun q => ne_b0_17_b0_100 (List.mem_singleton.mp q)))
    have fc0_144 := (fc0_106.keep K0_139 (fun q => ne_b0_15_b0_100 (List.mem_singleton.mp q)))
    have fc0_145 := (Nat.le_trans (Nat.le_trans (Nat.le_trans fc0_98 E0_100.1) K0_102.1) K0_139.1)
    obtain ⟨Lhd0_146, Xhd0_146, Nhd0_146⟩ := own_hide X0_139 N0_139
    refine own_fw (A := T0_139.setTop (mkF m 272 #[.val (.int p0), .val (.int p1), .val (.int p2), .val (.int p3), .val (.int p4), .val (.int p5), .val (.int (f_min p0 (2147483632 : Int32))), .val (.int (j7 p0 p1 p2 p3 p4 p5)), .val (.int (j8 p0 p1 p2 p3 p4 p5)), .val (.ref b0_3), .val (.ref ub0_12), .val (.ref b0_15), .val (.ref b0_100), .unset, .unset, .unset, .unset, .unset, .unset, .unset, .unset, .unset, .unset, .unset, .unset, .unset] [(.ref b0_15), (.ref b0_100)])) (fun t k => ?_) ?_
    · refine ox_pop Xhd0_146.here hx (hb hby at_267) rfl rfl ?_
      refine ox_aload Xhd0_146.here hx (hb hby at_268) rfl rfl ?_
      refine ox_aload Xhd0_146.here hx (hb hby at_270) rfl rfl ?_
      exact k
    obtain ⟨cq0_147, kq0_147, q0_147a, q0_147b, q0_147c⟩ := isOf hZ rfl Ex0_139
    obtain ⟨_, _, ⟨T0_147, L0_147, k0_147, n0_147⟩, -, X0_147, ⟨Lc0_147, hQ0_147, l0_147, y0_147, z0_147⟩, st0_147⟩ := Xhd0_146.virtualBack hx (y := mN3) (z := mN3) hown (mvT hZ (own_w hw 95 rfl)) (mvT hZ (own_w hw 96 rfl)) (notFace_of_selects (args := #[]) (mvT hZ (own_w hw 98 rfl))) (mvT hZ (own_w hw 98 rfl)) (mvT hZ (own_w hw 97 rfl)) (by decide) (backOf (W := 0) (rmA1_1 l Z a0 hw [] b0_100 b0_15 ba0_139 ub0_12 kg0_139 T0_139.heap n0 fc0_145 Ex0_139 Fe0_139 Fs0_139 Fm0_139 (((Ex0_93.ext E0_100).keep K0_102).keep K0_139) ne_b0_15_b0_100 Vg0_139 Og0_139 (Ne.symm ne_b0_100_ba0_139) ne_b0_15_ba0_139 g_b0_100 g_ba0_139) hZ (own_w hw 99 rfl) (own_w hw 73 rfl) (by decide) (by decide)) q0_147a q0_147c (g := (mkF m 272 #[.val (.int p0), .val (.int p1), .val (.int p2), .val (.int p3), .val (.int p4), .val (.int p5), .val (.int (f_min p0 (2147483632 : Int32))), .val (.int (j7 p0 p1 p2 p3 p4 p5)), .val (.int (j8 p0 p1 p2 p3 p4 p5)), .val (.ref b0_3), .val (.ref ub0_12), .val (.ref b0_15), .val (.ref b0_100), .unset, .unset, .unset, .unset, .unset, .unset, .unset, .unset, .unset, .unset, .unset, .unset, .unset] [(.ref b0_15), (.ref b0_100)])) rfl (by rw [hml]; rfl) (Steps.refl _) (argsL := [(.ref b0_15)]) (rest := []) (lenOf pd0_5 rfl) rfl (own_mr rfl) (hb hby at_272) (fun _ _ => ⟨rfl, rfl, (by decide : 9 + 0 ≤ _), (by decide : 85 + 0 ≤ _)⟩)
    dsimp only [Pt.U, Pt.locs, Pt.cells, Pt.slots] at X0_147 l0_147 y0_147 z0_147 st0_147 hQ0_147
    subst l0_147 y0_147 z0_147
    obtain ⟨rfl, N0_147q, K0_147, Ex0_147, Fe0_147, Fs0_147, Fm0_147, Vg0_147⟩ := hQ0_147
    have N0_147 := Fr.app Nhd0_146 N0_147q
    refine own_fw (fun t k => st0_147.trans k) ?_
    have fc0_148 := (fc0_141.keep K0_147 (by simp only [List.mem_cons, List.not_mem_nil, or_false, not_or]; exact ⟨ne_ub0_12_b0_100, ne_ub0_12_ba0_139⟩))
    have fc0_149 := (fc0_142.keep K0_147 (by simp only [List.mem_cons, List.not_mem_nil, or_false, not_or]; exact ⟨ne_mb0_12_b0_100, ne_mb0_12_ba0_139⟩))
    have fc0_150 := ((((Ex0_93.ext E0_100).keep K0_102).keep K0_139).keep K0_147)
    have fc0_151 := (fc0_143.keep K0_147 (by simp only [List.mem_cons, List.not_mem_nil, or_false, not_or]; exact ⟨ne_b0_17_b0_100, ne_b0_17_ba0_139⟩))
    have fc0_152 := (fc0_144.keep K0_147 (by simp only [List.mem_cons, List.not_mem_nil, or_false, not_or]; exact ⟨ne_b0_15_b0_100, ne_b0_15_ba0_139⟩))
    obtain ⟨Lhd0_153, Xhd0_153, Nhd0_153⟩ := own_hide X0_147 N0_147
    refine own_fw (A := T0_147.setTop (mkF m 297 #[.val (.int p0), .val (.int p1), .val (.int p2), .val (.int p3), .val (.int p4), .val (.int p5), .val (.int (f_min p0 (2147483632 : Int32))), .val (.int (j7 p0 p1 p2 p3 p4 p5)), .val (.int (j8 p0 p1 p2 p3 p4 p5)), .val (.ref b0_3), .val (.ref ub0_12), .val (.ref b0_15), .val (.ref b0_100), .unset, .unset, .unset, .unset, .unset, .unset, .unset, .unset, .unset, .unset, .unset, .unset, .unset] [(.ref b0_100)])) (fun t k => ?_) ?_
    · refine ox_pop Xhd0_153.here hx (hb hby at_275) rfl rfl ?_
      refine ox_goto Xhd0_153.here hx (pc0 := 276) (pc' := 295) rfl (hb hby at_276) (by decide) (by decide) ?_
      refine ox_aload Xhd0_153.here hx (hb hby at_295) rfl rfl ?_
      exact k
    obtain ⟨_, _, ⟨T0_154, L0_154, k0_154, n0_154⟩, -, X0_154, ⟨Lc0_154, hQ0_154, l0_154, y0_154, z0_154⟩, st0_154⟩ := Jvm.LawKit.callS Xhd0_153 hx (y := mN16) hown (mvT hZ (own_w hw 125 rfl)) (mvT hZ (own_w hw 126 rfl)) (mvT hZ (own_w hw 53 rfl)) (mvT hZ (own_w hw 127 rfl)) (by decide) (backOf (W := 0) (rm20 l Z a0 hw [] b0_100 ba0_139 kg0_139 ub0_12 mb0_12 b0_15 b0_17 kI D0_12 [(f_min p0 (2147483632 : Int32)), ((f_min p0 (2147483632 : Int32)) + (1 : Int32)), ((f_min p0 (2147483632 : Int32)) + (2 : Int32)), ((f_min p0 (2147483632 : Int32)) + (3 : Int32)), ((f_min p0 (2147483632 : Int32)) + (4 : Int32)), ((f_min p0 (2147483632 : Int32)) + (5 : Int32)), ((f_min p0 (2147483632 : Int32)) + (6 : Int32)), ((f_min p0 (2147483632 : Int32)) + (7 : Int32)), ((f_min p0 (2147483632 : Int32)) + (8 : Int32)), ((f_min p0 (2147483632 : Int32)) + (9 : Int32)), ((f_min p0 (2147483632 : Int32)) + (10 : Int32)), ((f_min p0 (2147483632 : Int32)) + (11 : Int32)), ((f_min p0 (2147483632 : Int32)) + (12 : Int32)), ((f_min p0 (2147483632 : Int32)) + (13 : Int32)), ((f_min p0 (2147483632 : Int32)) + (14 : Int32)), ((f_min p0 (2147483632 : Int32)) + (15 : Int32))] d0 k0 T0_147.heap n0 (Nat.le_trans fc0_145 K0_147.1) Ex0_147 Fe0_147 Fs0_147 Fm0_147 Vg0_147 (((fc0_101.keep K0_102).keep K0_139).keep K0_147) fc0_148 fc0_149 (own_some (z := (j7 p0 p1 p2 p3 p4 p5)) Mm0_12) fc0_150 fc0_152 fc0_151 (show 0 < 16 by decide) hk (by have q := own_two Pw0_12 Mm0_12; show _ + 16 ≤ 18; omega) (fc0_140.keep K0_147 (allS g_b0_100 (allS g_ba0_139 all0))) S_d V_d) hZ (own_w hw 127 rfl) (own_w hw 53 rfl) (by decide) (by decide)) (g := (mkF m 297 #[.val (.int p0), .val (.int p1), .val (.int p2), .val (.int p3), .val (.int p4), .val (.int p5), .val (.int (f_min p0 (2147483632 : Int32))), .val (.int (j7 p0 p1 p2 p3 p4 p5)), .val (.int (j8 p0 p1 p2 p3 p4 p5)), .val (.ref b0_3), .val (.ref ub0_12), .val (.ref b0_15), .val (.ref b0_100), .unset, .unset, .unset, .unset, .unset, .unset, .unset, .unset, .unset, .unset, .unset, .unset, .unset] [(.ref b0_100)])) rfl (by rw [hml]; rfl) (argsL := [(.ref b0_100)]) (rest := []) (lenOf pd0_6 rfl) rfl (own_mr rfl) (hb hby at_297) (fun _ _ => ⟨rfl, rfl, (by decide : 9 + 11 ≤ _), (by decide : 85 + 150 ≤ _)⟩)
    dsimp only [Pt.U, Pt.locs, Pt.cells, Pt.slots] at X0_154 l0_154 y0_154 z0_154 st0_154 hQ0_154
    subst l0_154 y0_154 z0_154
    obtain ⟨uu0_154, mu0_154, D0_154, rfl, N0_154q, K0_154, Eu0_154, Fu0_154, Iu0_154, Pw0_154, Mm0_154, zu0_154, zm0_154⟩ := hQ0_154
    have N0_154 := Fr.app Nhd0_153 N0_154q
    have hD0_154 := own_isexp (b := (f_min p0 (2147483632 : Int32))) (x := (j7 p0 p1 p2 p3 p4 p5)) (y := (j8 p0 p1 p2 p3 p4 p5)) own_bot Pw0_154 (fun v => by rw [Mm0_154 v, Mm0_12 v])
    subst hD0_154
    refine own_fw st0_154 ?_
    obtain ⟨Lhd0_157, Xhd0_157, Nhd0_157⟩ := own_hide X0_154 N0_154
    refine own_fw (A := T0_154.setTop (mkF m 306 #[.val (.int p0), .val (.int p1), .val (.int p2), .val (.int p3), .val (.int p4), .val (.int p5), .val (.int (f_min p0 (2147483632 : Int32))), .val (.int (j7 p0 p1 p2 p3 p4 p5)), .val (.int (j8 p0 p1 p2 p3 p4 p5)), .val (.ref b0_3), .val (.ref ub0_12), .val (.ref b0_15), .val (.ref b0_100), .val (.ref uu0_154), .unset, .unset, .unset, .unset, .unset, .unset, .unset, .unset, .unset, .unset, .unset, .unset] [(.int (j8 p0 p1 p2 p3 p4 p5)), (.int (j7 p0 p1 p2 p3 p4 p5))])) (fun t k => ?_) ?_
    · refine ox_astore Xhd0_157.here hx (hb hby at_300) rfl rfl (l' := #[.val (.int p0), .val (.int p1), .val (.int p2), .val (.int p3), .val (.int p4), .val (.int p5), .val (.int (f_min p0 (2147483632 : Int32))), .val (.int (j7 p0 p1 p2 p3 p4 p5)), .val (.int (j8 p0 p1 p2 p3 p4 p5)), .val (.ref b0_3), .val (.ref ub0_12), .val (.ref b0_15), .val (.ref b0_100), .val (.ref uu0_154), .unset, .unset, .unset, .unset, .unset, .unset, .unset, .unset, .unset, .unset, .unset, .unset]) rfl ?_
      refine ox_iload Xhd0_157.here hx (hb hby at_302) rfl ?_
      refine ox_iload Xhd0_157.here hx (hb hby at_304) rfl ?_
      exact k
    obtain ⟨_, _, ⟨T0_158, L0_158, k0_158, n0_158⟩, -, X0_158, ⟨Lc0_158, hQ0_158, l0_158, y0_158, z0_158⟩, st0_158⟩ := Jvm.LawKit.callS Xhd0_157 hx (y := mN11) hown (mvT hZ (own_w hw 1 rfl)) (mvT hZ (own_w hw 2 rfl)) (mvT hZ (own_w hw 3 rfl)) (mvT hZ (own_w hw 4 rfl)) (by decide) (backOf (W := 0) (rm1 l Z a0 hw [] ((j7 p0 p1 p2 p3 p4 p5)) ((j8 p0 p1 p2 p3 p4 p5)) T0_154.heap n0 (Nat.le_trans (Nat.le_trans fc0_145 K0_147.1) K0_154.1) ) hZ (own_w hw 4 rfl) (own_w hw 3 rfl) (by decide) (by decide)) (g := (mkF m 306 #[.val (.int p0), .val (.int p1), .val (.int p2), .val (.int p3), .val (.int p4), .val (.int p5), .val (.int (f_min p0 (2147483632 : Int32))), .val (.int (j7 p0 p1 p2 p3 p4 p5)), .val (.int (j8 p0 p1 p2 p3 p4 p5)), .val (.ref b0_3), .val (.ref ub0_12), .val (.ref b0_15), .val (.ref b0_100), .val (.ref uu0_154), .unset, .unset, .unset, .unset, .unset, .unset, .unset, .unset, .unset, .unset, .unset, .unset] [(.int (j8 p0 p1 p2 p3 p4 p5)), (.int (j7 p0 p1 p2 p3 p4 p5))])) rfl (by rw [hml]; rfl) (argsL := [(.int (j7 p0 p1 p2 p3 p4 p5)), (.int (j8 p0 p1 p2 p3 p4 p5))]) (rest := []) (lenOf pd0_0 rfl) rfl (own_mr rfl) (hb hby at_306) (fun _ _ => ⟨rfl, rfl, (by decide : 20 + 0 ≤ _), (by decide : 235 + 0 ≤ _)⟩)
    dsimp only [Pt.U, Pt.locs, Pt.cells, Pt.slots] at X0_158 l0_158 y0_158 z0_158 st0_158 hQ0_158
    subst l0_158 y0_158 z0_158
    obtain ⟨rfl, N0_158q, e0_158⟩ := hQ0_158
    have N0_158 := Fr.app Nhd0_157 N0_158q
    refine own_fw st0_158 ?_
    obtain ⟨Lhd0_159, Xhd0_159, Nhd0_159⟩ := own_hide X0_158 N0_158
    refine own_fw (A := T0_158.setTop (mkF m 315 #[.val (.int p0), .val (.int p1), .val (.int p2), .val (.int p3), .val (.int p4), .val (.int p5), .val (.int (f_min p0 (2147483632 : Int32))), .val (.int (j7 p0 p1 p2 p3 p4 p5)), .val (.int (j8 p0 p1 p2 p3 p4 p5)), .val (.ref b0_3), .val (.ref ub0_12), .val (.ref b0_15), .val (.ref b0_100), .val (.ref uu0_154), .val (.int (f_min (j7 p0 p1 p2 p3 p4 p5) (j8 p0 p1 p2 p3 p4 p5))), .unset, .unset, .unset, .unset, .unset, .unset, .unset, .unset, .unset, .unset, .unset] [(.int (j8 p0 p1 p2 p3 p4 p5)), (.int (j7 p0 p1 p2 p3 p4 p5))])) (fun t k => ?_) ?_
    · refine ox_istore Xhd0_159.here hx (hb hby at_309) rfl (l' := #[.val (.int p0), .val (.int p1), .val (.int p2), .val (.int p3), .val (.int p4), .val (.int p5), .val (.int (f_min p0 (2147483632 : Int32))), .val (.int (j7 p0 p1 p2 p3 p4 p5)), .val (.int (j8 p0 p1 p2 p3 p4 p5)), .val (.ref b0_3), .val (.ref ub0_12), .val (.ref b0_15), .val (.ref b0_100), .val (.ref uu0_154), .val (.int (f_min (j7 p0 p1 p2 p3 p4 p5) (j8 p0 p1 p2 p3 p4 p5))), .unset, .unset, .unset, .unset, .unset, .unset, .unset, .unset, .unset, .unset, .unset]) rfl ?_
      refine ox_iload Xhd0_159.here hx (hb hby at_311) rfl ?_
      refine ox_iload Xhd0_159.here hx (hb hby at_313) rfl ?_
      exact k
    obtain ⟨_, _, ⟨T0_160, L0_160, k0_160, n0_160⟩, -, X0_160, ⟨Lc0_160, hQ0_160, l0_160, y0_160, z0_160⟩, st0_160⟩ := Jvm.LawKit.callS Xhd0_159 hx (y := mN6) hown (mvT hZ (own_w hw 210 rfl)) (mvT hZ (own_w hw 120 rfl)) (mvT hZ (own_w hw 3 rfl)) (mvT hZ (own_w hw 121 rfl)) (by decide) (backOf (W := 0) (rm19 l Z a0 hw [] ((j7 p0 p1 p2 p3 p4 p5)) ((j8 p0 p1 p2 p3 p4 p5)) T0_154.heap n0 (Nat.le_trans (Nat.le_trans fc0_145 K0_147.1) K0_154.1) ) hZ (own_w hw 121 rfl) (own_w hw 3 rfl) (by decide) (by decide)) (g := (mkF m 315 #[.val (.int p0), .val (.int p1), .val (.int p2), .val (.int p3), .val (.int p4), .val (.int p5), .val (.int (f_min p0 (2147483632 : Int32))), .val (.int (j7 p0 p1 p2 p3 p4 p5)), .val (.int (j8 p0 p1 p2 p3 p4 p5)), .val (.ref b0_3), .val (.ref ub0_12), .val (.ref b0_15), .val (.ref b0_100), .val (.ref uu0_154), .val (.int (f_min (j7 p0 p1 p2 p3 p4 p5) (j8 p0 p1 p2 p3 p4 p5))), .unset, .unset, .unset, .unset, .unset, .unset, .unset, .unset, .unset, .unset, .unset] [(.int (j8 p0 p1 p2 p3 p4 p5)), (.int (j7 p0 p1 p2 p3 p4 p5))])) rfl (by rw [hml]; rfl) (argsL := [(.int (j7 p0 p1 p2 p3 p4 p5)), (.int (j8 p0 p1 p2 p3 p4 p5))]) (rest := []) (lenOf pd0_0 rfl) rfl (own_mr rfl) (hb hby at_315) (fun _ _ => ⟨rfl, e0_158, (by decide : 20 + 0 ≤ _), (by decide : 235 + 0 ≤ _)⟩)
    dsimp only [Pt.U, Pt.locs, Pt.cells, Pt.slots] at X0_160 l0_160 y0_160 z0_160 st0_160 hQ0_160
    subst l0_160 y0_160 z0_160
    obtain ⟨rfl, N0_160q, e0_160⟩ := hQ0_160
    have N0_160 := Fr.app Nhd0_159 N0_160q
    refine own_fw st0_160 ?_
    obtain ⟨Lhd0_161, Xhd0_161, Nhd0_161⟩ := own_hide X0_160 N0_160
    refine own_fw (A := T0_160.setTop (mkF m 320 #[.val (.int p0), .val (.int p1), .val (.int p2), .val (.int p3), .val (.int p4), .val (.int p5), .val (.int (f_min p0 (2147483632 : Int32))), .val (.int (j7 p0 p1 p2 p3 p4 p5)), .val (.int (j8 p0 p1 p2 p3 p4 p5)), .val (.ref b0_3), .val (.ref ub0_12), .val (.ref b0_15), .val (.ref b0_100), .val (.ref uu0_154), .val (.int (f_min (j7 p0 p1 p2 p3 p4 p5) (j8 p0 p1 p2 p3 p4 p5))), .val (.int (f_max (j7 p0 p1 p2 p3 p4 p5) (j8 p0 p1 p2 p3 p4 p5))), .unset, .unset, .unset, .unset, .unset, .unset, .unset, .unset, .unset, .unset] [])) (fun t k => ?_) ?_
    · refine ox_istore Xhd0_161.here hx (hb hby at_318) rfl (l' := #[.val (.int p0), .val (.int p1), .val (.int p2), .val (.int p3), .val (.int p4), .val (.int p5), .val (.int (f_min p0 (2147483632 : Int32))), .val (.int (j7 p0 p1 p2 p3 p4 p5)), .val (.int (j8 p0 p1 p2 p3 p4 p5)), .val (.ref b0_3), .val (.ref ub0_12), .val (.ref b0_15), .val (.ref b0_100), .val (.ref uu0_154), .val (.int (f_min (j7 p0 p1 p2 p3 p4 p5) (j8 p0 p1 p2 p3 p4 p5))), .val (.int (f_max (j7 p0 p1 p2 p3 p4 p5) (j8 p0 p1 p2 p3 p4 p5))), .unset, .unset, .unset, .unset, .unset, .unset, .unset, .unset, .unset, .unset]) rfl ?_
      exact k
    have sg0_320 : ∀ t, Steps p.tables e below (T0_160.setTop (mkF m 332 #[.val (.int p0), .val (.int p1), .val (.int p2), .val (.int p3), .val (.int p4), .val (.int p5), .val (.int (f_min p0 (2147483632 : Int32))), .val (.int (j7 p0 p1 p2 p3 p4 p5)), .val (.int (j8 p0 p1 p2 p3 p4 p5)), .val (.ref b0_3), .val (.ref ub0_12), .val (.ref b0_15), .val (.ref b0_100), .val (.ref uu0_154), .val (.int (f_min (j7 p0 p1 p2 p3 p4 p5) (j8 p0 p1 p2 p3 p4 p5))), .val (.int (f_max (j7 p0 p1 p2 p3 p4 p5) (j8 p0 p1 p2 p3 p4 p5))), .unset, .unset, .unset, .unset, .unset, .unset, .unset, .unset, .unset, .unset] [(.int (j16 p0 p1 p2 p3 p4 p5))])) t → Steps p.tables e below (T0_160.setTop (mkF m 320 #[.val (.int p0), .val (.int p1), .val (.int p2), .val (.int p3), .val (.int p4), .val (.int p5), .val (.int (f_min p0 (2147483632 : Int32))), .val (.int (j7 p0 p1 p2 p3 p4 p5)), .val (.int (j8 p0 p1 p2 p3 p4 p5)), .val (.ref b0_3), .val (.ref ub0_12), .val (.ref b0_15), .val (.ref b0_100), .val (.ref uu0_154), .val (.int (f_min (j7 p0 p1 p2 p3 p4 p5) (j8 p0 p1 p2 p3 p4 p5))), .val (.int (f_max (j7 p0 p1 p2 p3 p4 p5) (j8 p0 p1 p2 p3 p4 p5))), .unset, .unset, .unset, .unset, .unset, .unset, .unset, .unset, .unset, .unset] [])) t := by
      intro t k
      refine ox_iload Xhd0_161.here hx (hb hby at_320) rfl ?_
      refine ox_iload Xhd0_161.here hx (hb hby at_322) rfl ?_
      by_cases hc0_25 : (j7 p0 p1 p2 p3 p4 p5) = (j8 p0 p1 p2 p3 p4 p5)
      · refine ox_icmpYes Xhd0_161.here hx (pc0 := 324) (pc' := 331) rfl (hb hby at_324) rfl (teq hc0_25).1 (by decide) (by decide) ?_
        refine ox_iconst Xhd0_161.here hx (hb hby at_331) ?_
        have q : j16 p0 p1 p2 p3 p4 p5 = (0 : Int32) := by rw [j16, if_pos hc0_25]
        rw [q] at k
        exact k
      · refine ox_icmpNo Xhd0_161.here hx (hb hby at_324) rfl (feq hc0_25).1 ?_
        refine ox_iconst Xhd0_161.here hx (hb hby at_327) ?_
        refine ox_goto Xhd0_161.here hx (pc0 := 328) (pc' := 332) rfl (hb hby at_328) (by decide) (by decide) ?_
        have q : j16 p0 p1 p2 p3 p4 p5 = (1 : Int32) := by rw [j16, if_neg hc0_25]
        rw [q] at k
        exact k
    refine own_fw sg0_320 ?_
    refine own_fw (A := T0_160.setTop (mkF m 341 #[.val (.int p0), .val (.int p1), .val (.int p2), .val (.int p3), .val (.int p4), .val (.int p5), .val (.int (f_min p0 (2147483632 : Int32))), .val (.int (j7 p0 p1 p2 p3 p4 p5)), .val (.int (j8 p0 p1 p2 p3 p4 p5)), .val (.ref b0_3), .val (.ref ub0_12), .val (.ref b0_15), .val (.ref b0_100), .val (.ref uu0_154), .val (.int (f_min (j7 p0 p1 p2 p3 p4 p5) (j8 p0 p1 p2 p3 p4 p5))), .val (.int (f_max (j7 p0 p1 p2 p3 p4 p5) (j8 p0 p1 p2 p3 p4 p5))), .val (.int (j16 p0 p1 p2 p3 p4 p5)), .val (.int ((f_min p0 (2147483632 : Int32)) + (15 : Int32))), .unset, .unset, .unset, .unset, .unset, .unset, .unset, .unset] [])) (fun t k => ?_) ?_
    · refine ox_istore Xhd0_161.here hx (hb hby at_332) rfl (l' := #[.val (.int p0), .val (.int p1), .val (.int p2), .val (.int p3), .val (.int p4), .val (.int p5), .val (.int (f_min p0 (2147483632 : Int32))), .val (.int (j7 p0 p1 p2 p3 p4 p5)), .val (.int (j8 p0 p1 p2 p3 p4 p5)), .val (.ref b0_3), .val (.ref ub0_12), .val (.ref b0_15), .val (.ref b0_100), .val (.ref uu0_154), .val (.int (f_min (j7 p0 p1 p2 p3 p4 p5) (j8 p0 p1 p2 p3 p4 p5))), .val (.int (f_max (j7 p0 p1 p2 p3 p4 p5) (j8 p0 p1 p2 p3 p4 p5))), .val (.int (j16 p0 p1 p2 p3 p4 p5)), .unset, .unset, .unset, .unset, .unset, .unset, .unset, .unset, .unset]) rfl ?_
      refine ox_iload Xhd0_161.here hx (hb hby at_334) rfl ?_
      refine ox_bipush Xhd0_161.here hx (hb hby at_336) ?_
      refine ox_iadd Xhd0_161.here hx (hb hby at_338) rfl ?_
      refine ox_istore Xhd0_161.here hx (hb hby at_339) rfl (l' := #[.val (.int p0), .val (.int p1), .val (.int p2), .val (.int p3), .val (.int p4), .val (.int p5), .val (.int (f_min p0 (2147483632 : Int32))), .val (.int (j7 p0 p1 p2 p3 p4 p5)), .val (.int (j8 p0 p1 p2 p3 p4 p5)), .val (.ref b0_3), .val (.ref ub0_12), .val (.ref b0_15), .val (.ref b0_100), .val (.ref uu0_154), .val (.int (f_min (j7 p0 p1 p2 p3 p4 p5) (j8 p0 p1 p2 p3 p4 p5))), .val (.int (f_max (j7 p0 p1 p2 p3 p4 p5) (j8 p0 p1 p2 p3 p4 p5))), .val (.int (j16 p0 p1 p2 p3 p4 p5)), .val (.int ((f_min p0 (2147483632 : Int32)) + (15 : Int32))), .unset, .unset, .unset, .unset, .unset, .unset, .unset, .unset]) rfl ?_
      exact k
    have sg0_341 : ∀ t, Steps p.tables e below (T0_160.setTop (mkF m 360 #[.val (.int p0), .val (.int p1), .val (.int p2), .val (.int p3), .val (.int p4), .val (.int p5), .val (.int (f_min p0 (2147483632 : Int32))), .val (.int (j7 p0 p1 p2 p3 p4 p5)), .val (.int (j8 p0 p1 p2 p3 p4 p5)), .val (.ref b0_3), .val (.ref ub0_12), .val (.ref b0_15), .val (.ref b0_100), .val (.ref uu0_154), .val (.int (f_min (j7 p0 p1 p2 p3 p4 p5) (j8 p0 p1 p2 p3 p4 p5))), .val (.int (f_max (j7 p0 p1 p2 p3 p4 p5) (j8 p0 p1 p2 p3 p4 p5))), .val (.int (j16 p0 p1 p2 p3 p4 p5)), .val (.int ((f_min p0 (2147483632 : Int32)) + (15 : Int32))), .unset, .unset, .unset, .unset, .unset, .unset, .unset, .unset] [(.int (j18 p0 p1 p2 p3 p4 p5))])) t → Steps p.tables e below (T0_160.setTop (mkF m 341 #[.val (.int p0), .val (.int p1), .val (.int p2), .val (.int p3), .val (.int p4), .val (.int p5), .val (.int (f_min p0 (2147483632 : Int32))), .val (.int (j7 p0 p1 p2 p3 p4 p5)), .val (.int (j8 p0 p1 p2 p3 p4 p5)), .val (.ref b0_3), .val (.ref ub0_12), .val (.ref b0_15), .val (.ref b0_100), .val (.ref uu0_154), .val (.int (f_min (j7 p0 p1 p2 p3 p4 p5) (j8 p0 p1 p2 p3 p4 p5))), .val (.int (f_max (j7 p0 p1 p2 p3 p4 p5) (j8 p0 p1 p2 p3 p4 p5))), .val (.int (j16 p0 p1 p2 p3 p4 p5)), .val (.int ((f_min p0 (2147483632 : Int32)) + (15 : Int32))), .unset, .unset, .unset, .unset, .unset, .unset, .unset, .unset] [])) t := by
      intro t k
      refine ox_iload Xhd0_161.here hx (hb hby at_341) rfl ?_
      refine ox_iload Xhd0_161.here hx (hb hby at_343) rfl ?_
      by_cases hc0_26 : (f_min (j7 p0 p1 p2 p3 p4 p5) (j8 p0 p1 p2 p3 p4 p5)) < (f_min p0 (2147483632 : Int32))
      · refine ox_icmpYes Xhd0_161.here hx (pc0 := 345) (pc' := 355) rfl (hb hby at_345) rfl (tlt hc0_26).1 (by decide) (by decide) ?_
        refine ox_iconst Xhd0_161.here hx (hb hby at_355) ?_
        refine ox_goto Xhd0_161.here hx (pc0 := 356) (pc' := 360) rfl (hb hby at_356) (by decide) (by decide) ?_
        have q : j18 p0 p1 p2 p3 p4 p5 = (1 : Int32) := by rw [j18, if_pos hc0_26]
        rw [q] at k
        exact k
      · refine ox_icmpNo Xhd0_161.here hx (hb hby at_345) rfl (flt hc0_26).1 ?_
        refine ox_iload Xhd0_161.here hx (hb hby at_348) rfl ?_
        refine ox_iload Xhd0_161.here hx (hb hby at_350) rfl ?_
        by_cases hc0_27 : ((f_min p0 (2147483632 : Int32)) + (15 : Int32)) < (f_min (j7 p0 p1 p2 p3 p4 p5) (j8 p0 p1 p2 p3 p4 p5))
        · refine ox_icmpNo Xhd0_161.here hx (hb hby at_352) rfl (tlt hc0_27).2.2.2 ?_
          refine ox_iconst Xhd0_161.here hx (hb hby at_355) ?_
          refine ox_goto Xhd0_161.here hx (pc0 := 356) (pc' := 360) rfl (hb hby at_356) (by decide) (by decide) ?_
          have q : j18 p0 p1 p2 p3 p4 p5 = (1 : Int32) := by rw [j18, if_neg hc0_26, if_pos hc0_27]
          rw [q] at k
          exact k
        · refine ox_icmpYes Xhd0_161.here hx (pc0 := 352) (pc' := 359) rfl (hb hby at_352) rfl (flt hc0_27).2.2.2 (by decide) (by decide) ?_
          refine ox_iconst Xhd0_161.here hx (hb hby at_359) ?_
          have q : j18 p0 p1 p2 p3 p4 p5 = (0 : Int32) := by rw [j18, if_neg hc0_26, if_neg hc0_27]
          rw [q] at k
          exact k
    refine own_fw sg0_341 ?_
    refine own_fw (A := T0_160.setTop (mkF m 362 #[.val (.int p0), .val (.int p1), .val (.int p2), .val (.int p3), .val (.int p4), .val (.int p5), .val (.int (f_min p0 (2147483632 : Int32))), .val (.int (j7 p0 p1 p2 p3 p4 p5)), .val (.int (j8 p0 p1 p2 p3 p4 p5)), .val (.ref b0_3), .val (.ref ub0_12), .val (.ref b0_15), .val (.ref b0_100), .val (.ref uu0_154), .val (.int (f_min (j7 p0 p1 p2 p3 p4 p5) (j8 p0 p1 p2 p3 p4 p5))), .val (.int (f_max (j7 p0 p1 p2 p3 p4 p5) (j8 p0 p1 p2 p3 p4 p5))), .val (.int (j16 p0 p1 p2 p3 p4 p5)), .val (.int ((f_min p0 (2147483632 : Int32)) + (15 : Int32))), .val (.int (j18 p0 p1 p2 p3 p4 p5)), .unset, .unset, .unset, .unset, .unset, .unset, .unset] [])) (fun t k => ?_) ?_
    · refine ox_istore Xhd0_161.here hx (hb hby at_360) rfl (l' := #[.val (.int p0), .val (.int p1), .val (.int p2), .val (.int p3), .val (.int p4), .val (.int p5), .val (.int (f_min p0 (2147483632 : Int32))), .val (.int (j7 p0 p1 p2 p3 p4 p5)), .val (.int (j8 p0 p1 p2 p3 p4 p5)), .val (.ref b0_3), .val (.ref ub0_12), .val (.ref b0_15), .val (.ref b0_100), .val (.ref uu0_154), .val (.int (f_min (j7 p0 p1 p2 p3 p4 p5) (j8 p0 p1 p2 p3 p4 p5))), .val (.int (f_max (j7 p0 p1 p2 p3 p4 p5) (j8 p0 p1 p2 p3 p4 p5))), .val (.int (j16 p0 p1 p2 p3 p4 p5)), .val (.int ((f_min p0 (2147483632 : Int32)) + (15 : Int32))), .val (.int (j18 p0 p1 p2 p3 p4 p5)), .unset, .unset, .unset, .unset, .unset, .unset, .unset]) rfl ?_
      exact k
    have sg0_362 : ∀ t, Steps p.tables e below (T0_160.setTop (mkF m 386 #[.val (.int p0), .val (.int p1), .val (.int p2), .val (.int p3), .val (.int p4), .val (.int p5), .val (.int (f_min p0 (2147483632 : Int32))), .val (.int (j7 p0 p1 p2 p3 p4 p5)), .val (.int (j8 p0 p1 p2 p3 p4 p5)), .val (.ref b0_3), .val (.ref ub0_12), .val (.ref b0_15), .val (.ref b0_100), .val (.ref uu0_154), .val (.int (f_min (j7 p0 p1 p2 p3 p4 p5) (j8 p0 p1 p2 p3 p4 p5))), .val (.int (f_max (j7 p0 p1 p2 p3 p4 p5) (j8 p0 p1 p2 p3 p4 p5))), .val (.int (j16 p0 p1 p2 p3 p4 p5)), .val (.int ((f_min p0 (2147483632 : Int32)) + (15 : Int32))), .val (.int (j18 p0 p1 p2 p3 p4 p5)), .unset, .unset, .unset, .unset, .unset, .unset, .unset] [(.int (j19 p0 p1 p2 p3 p4 p5))])) t → Steps p.tables e below (T0_160.setTop (mkF m 362 #[.val (.int p0), .val (.int p1), .val (.int p2), .val (.int p3), .val (.int p4), .val (.int p5), .val (.int (f_min p0 (2147483632 : Int32))), .val (.int (j7 p0 p1 p2 p3 p4 p5)), .val (.int (j8 p0 p1 p2 p3 p4 p5)), .val (.ref b0_3), .val (.ref ub0_12), .val (.ref b0_15), .val (.ref b0_100), .val (.ref uu0_154), .val (.int (f_min (j7 p0 p1 p2 p3 p4 p5) (j8 p0 p1 p2 p3 p4 p5))), .val (.int (f_max (j7 p0 p1 p2 p3 p4 p5) (j8 p0 p1 p2 p3 p4 p5))), .val (.int (j16 p0 p1 p2 p3 p4 p5)), .val (.int ((f_min p0 (2147483632 : Int32)) + (15 : Int32))), .val (.int (j18 p0 p1 p2 p3 p4 p5)), .unset, .unset, .unset, .unset, .unset, .unset, .unset] [])) t := by
      intro t k
      refine ox_iload Xhd0_161.here hx (hb hby at_362) rfl ?_
      by_cases hc0_28 : (j16 p0 p1 p2 p3 p4 p5) = (0 : Int32)
      · refine ox_ifYes Xhd0_161.here hx (pc0 := 364) (pc' := 385) rfl (hb hby at_364) rfl ((if0 _ _).trans (teq hc0_28).1) (by decide) (by decide) ?_
        refine ox_iconst Xhd0_161.here hx (hb hby at_385) ?_
        have q : j19 p0 p1 p2 p3 p4 p5 = (0 : Int32) := by rw [j19, if_pos hc0_28]
        rw [q] at k
        exact k
      · refine ox_ifNo Xhd0_161.here hx (hb hby at_364) rfl ((if0 _ _).trans (feq hc0_28).1) ?_
        refine ox_iload Xhd0_161.here hx (hb hby at_367) rfl ?_
        refine ox_iload Xhd0_161.here hx (hb hby at_369) rfl ?_
        by_cases hc0_29 : (f_max (j7 p0 p1 p2 p3 p4 p5) (j8 p0 p1 p2 p3 p4 p5)) < (f_min p0 (2147483632 : Int32))
        · refine ox_icmpYes Xhd0_161.here hx (pc0 := 371) (pc' := 381) rfl (hb hby at_371) rfl (tlt hc0_29).1 (by decide) (by decide) ?_
          refine ox_iconst Xhd0_161.here hx (hb hby at_381) ?_
          refine ox_goto Xhd0_161.here hx (pc0 := 382) (pc' := 386) rfl (hb hby at_382) (by decide) (by decide) ?_
          have q : j19 p0 p1 p2 p3 p4 p5 = (1 : Int32) := by rw [j19, if_neg hc0_28, if_pos hc0_29]
          rw [q] at k
          exact k
        · refine ox_icmpNo Xhd0_161.here hx (hb hby at_371) rfl (flt hc0_29).1 ?_
          refine ox_iload Xhd0_161.here hx (hb hby at_374) rfl ?_
          refine ox_iload Xhd0_161.here hx (hb hby at_376) rfl ?_
          by_cases hc0_30 : ((f_min p0 (2147483632 : Int32)) + (15 : Int32)) < (f_max (j7 p0 p1 p2 p3 p4 p5) (j8 p0 p1 p2 p3 p4 p5))
          · refine ox_icmpNo Xhd0_161.here hx (hb hby at_378) rfl (tlt hc0_30).2.2.2 ?_
            refine ox_iconst Xhd0_161.here hx (hb hby at_381) ?_
            refine ox_goto Xhd0_161.here hx (pc0 := 382) (pc' := 386) rfl (hb hby at_382) (by decide) (by decide) ?_
            have q : j19 p0 p1 p2 p3 p4 p5 = (1 : Int32) := by rw [j19, if_neg hc0_28, if_neg hc0_29, if_pos hc0_30]
            rw [q] at k
            exact k
          · refine ox_icmpYes Xhd0_161.here hx (pc0 := 378) (pc' := 385) rfl (hb hby at_378) rfl (flt hc0_30).2.2.2 (by decide) (by decide) ?_
            refine ox_iconst Xhd0_161.here hx (hb hby at_385) ?_
            have q : j19 p0 p1 p2 p3 p4 p5 = (0 : Int32) := by rw [j19, if_neg hc0_28, if_neg hc0_29, if_neg hc0_30]
            rw [q] at k
            exact k
    refine own_fw sg0_362 ?_
    refine own_fw (A := T0_160.setTop (mkF m 388 #[.val (.int p0), .val (.int p1), .val (.int p2), .val (.int p3), .val (.int p4), .val (.int p5), .val (.int (f_min p0 (2147483632 : Int32))), .val (.int (j7 p0 p1 p2 p3 p4 p5)), .val (.int (j8 p0 p1 p2 p3 p4 p5)), .val (.ref b0_3), .val (.ref ub0_12), .val (.ref b0_15), .val (.ref b0_100), .val (.ref uu0_154), .val (.int (f_min (j7 p0 p1 p2 p3 p4 p5) (j8 p0 p1 p2 p3 p4 p5))), .val (.int (f_max (j7 p0 p1 p2 p3 p4 p5) (j8 p0 p1 p2 p3 p4 p5))), .val (.int (j16 p0 p1 p2 p3 p4 p5)), .val (.int ((f_min p0 (2147483632 : Int32)) + (15 : Int32))), .val (.int (j18 p0 p1 p2 p3 p4 p5)), .val (.int (j19 p0 p1 p2 p3 p4 p5)), .unset, .unset, .unset, .unset, .unset, .unset] [])) (fun t k => ?_) ?_
    · refine ox_istore Xhd0_161.here hx (hb hby at_386) rfl (l' := #[.val (.int p0), .val (.int p1), .val (.int p2), .val (.int p3), .val (.int p4), .val (.int p5), .val (.int (f_min p0 (2147483632 : Int32))), .val (.int (j7 p0 p1 p2 p3 p4 p5)), .val (.int (j8 p0 p1 p2 p3 p4 p5)), .val (.ref b0_3), .val (.ref ub0_12), .val (.ref b0_15), .val (.ref b0_100), .val (.ref uu0_154), .val (.int (f_min (j7 p0 p1 p2 p3 p4 p5) (j8 p0 p1 p2 p3 p4 p5))), .val (.int (f_max (j7 p0 p1 p2 p3 p4 p5) (j8 p0 p1 p2 p3 p4 p5))), .val (.int (j16 p0 p1 p2 p3 p4 p5)), .val (.int ((f_min p0 (2147483632 : Int32)) + (15 : Int32))), .val (.int (j18 p0 p1 p2 p3 p4 p5)), .val (.int (j19 p0 p1 p2 p3 p4 p5)), .unset, .unset, .unset, .unset, .unset, .unset]) rfl ?_
      exact k
    have sg0_388 : ∀ t, Steps p.tables e below (T0_160.setTop (mkF m 405 #[.val (.int p0), .val (.int p1), .val (.int p2), .val (.int p3), .val (.int p4), .val (.int p5), .val (.int (f_min p0 (2147483632 : Int32))), .val (.int (j7 p0 p1 p2 p3 p4 p5)), .val (.int (j8 p0 p1 p2 p3 p4 p5)), .val (.ref b0_3), .val (.ref ub0_12), .val (.ref b0_15), .val (.ref b0_100), .val (.ref uu0_154), .val (.int (f_min (j7 p0 p1 p2 p3 p4 p5) (j8 p0 p1 p2 p3 p4 p5))), .val (.int (f_max (j7 p0 p1 p2 p3 p4 p5) (j8 p0 p1 p2 p3 p4 p5))), .val (.int (j16 p0 p1 p2 p3 p4 p5)), .val (.int ((f_min p0 (2147483632 : Int32)) + (15 : Int32))), .val (.int (j18 p0 p1 p2 p3 p4 p5)), .val (.int (j19 p0 p1 p2 p3 p4 p5)), .unset, .unset, .unset, .unset, .unset, .unset] [(.int (jb1 p0 p1 p2 p3 p4 p5))])) t → Steps p.tables e below (T0_160.setTop (mkF m 388 #[.val (.int p0), .val (.int p1), .val (.int p2), .val (.int p3), .val (.int p4), .val (.int p5), .val (.int (f_min p0 (2147483632 : Int32))), .val (.int (j7 p0 p1 p2 p3 p4 p5)), .val (.int (j8 p0 p1 p2 p3 p4 p5)), .val (.ref b0_3), .val (.ref ub0_12), .val (.ref b0_15), .val (.ref b0_100), .val (.ref uu0_154), .val (.int (f_min (j7 p0 p1 p2 p3 p4 p5) (j8 p0 p1 p2 p3 p4 p5))), .val (.int (f_max (j7 p0 p1 p2 p3 p4 p5) (j8 p0 p1 p2 p3 p4 p5))), .val (.int (j16 p0 p1 p2 p3 p4 p5)), .val (.int ((f_min p0 (2147483632 : Int32)) + (15 : Int32))), .val (.int (j18 p0 p1 p2 p3 p4 p5)), .val (.int (j19 p0 p1 p2 p3 p4 p5)), .unset, .unset, .unset, .unset, .unset, .unset] [])) t := by
      intro t k
      refine ox_iload Xhd0_161.here hx (hb hby at_388) rfl ?_
      by_cases hc0_31 : (j18 p0 p1 p2 p3 p4 p5) = (0 : Int32)
      · refine ox_ifYes Xhd0_161.here hx (pc0 := 390) (pc' := 404) rfl (hb hby at_390) rfl ((if0 _ _).trans (teq hc0_31).1) (by decide) (by decide) ?_
        refine ox_iconst Xhd0_161.here hx (hb hby at_404) ?_
        have q : jb1 p0 p1 p2 p3 p4 p5 = (0 : Int32) := by rw [jb1, if_pos hc0_31]
        rw [q] at k
        exact k
      · refine ox_ifNo Xhd0_161.here hx (hb hby at_390) rfl ((if0 _ _).trans (feq hc0_31).1) ?_
        refine ox_iload Xhd0_161.here hx (hb hby at_393) rfl ?_
        refine ox_iload Xhd0_161.here hx (hb hby at_395) rfl ?_
        by_cases hc0_32 : (f_min (j7 p0 p1 p2 p3 p4 p5) (j8 p0 p1 p2 p3 p4 p5)) < (f_min p0 (2147483632 : Int32))
        · refine ox_icmpNo Xhd0_161.here hx (hb hby at_397) rfl (tlt hc0_32).2.1 ?_
          refine ox_iconst Xhd0_161.here hx (hb hby at_400) ?_
          refine ox_goto Xhd0_161.here hx (pc0 := 401) (pc' := 405) rfl (hb hby at_401) (by decide) (by decide) ?_
          have q : jb1 p0 p1 p2 p3 p4 p5 = (1 : Int32) := by rw [jb1, if_neg hc0_31, if_pos hc0_32]
          rw [q] at k
          exact k
        · refine ox_icmpYes Xhd0_161.here hx (pc0 := 397) (pc' := 404) rfl (hb hby at_397) rfl (flt hc0_32).2.1 (by decide) (by decide) ?_
          refine ox_iconst Xhd0_161.here hx (hb hby at_404) ?_
          have q : jb1 p0 p1 p2 p3 p4 p5 = (0 : Int32) := by rw [jb1, if_neg hc0_31, if_neg hc0_32]
          rw [q] at k
          exact k
    refine own_fw sg0_388 ?_
    have sg0_405 : ∀ t, Steps p.tables e below (T0_160.setTop (mkF m 422 #[.val (.int p0), .val (.int p1), .val (.int p2), .val (.int p3), .val (.int p4), .val (.int p5), .val (.int (f_min p0 (2147483632 : Int32))), .val (.int (j7 p0 p1 p2 p3 p4 p5)), .val (.int (j8 p0 p1 p2 p3 p4 p5)), .val (.ref b0_3), .val (.ref ub0_12), .val (.ref b0_15), .val (.ref b0_100), .val (.ref uu0_154), .val (.int (f_min (j7 p0 p1 p2 p3 p4 p5) (j8 p0 p1 p2 p3 p4 p5))), .val (.int (f_max (j7 p0 p1 p2 p3 p4 p5) (j8 p0 p1 p2 p3 p4 p5))), .val (.int (j16 p0 p1 p2 p3 p4 p5)), .val (.int ((f_min p0 (2147483632 : Int32)) + (15 : Int32))), .val (.int (j18 p0 p1 p2 p3 p4 p5)), .val (.int (j19 p0 p1 p2 p3 p4 p5)), .unset, .unset, .unset, .unset, .unset, .unset] [(.int (jb2 p0 p1 p2 p3 p4 p5)), (.int (jb1 p0 p1 p2 p3 p4 p5))])) t → Steps p.tables e below (T0_160.setTop (mkF m 405 #[.val (.int p0), .val (.int p1), .val (.int p2), .val (.int p3), .val (.int p4), .val (.int p5), .val (.int (f_min p0 (2147483632 : Int32))), .val (.int (j7 p0 p1 p2 p3 p4 p5)), .val (.int (j8 p0 p1 p2 p3 p4 p5)), .val (.ref b0_3), .val (.ref ub0_12), .val (.ref b0_15), .val (.ref b0_100), .val (.ref uu0_154), .val (.int (f_min (j7 p0 p1 p2 p3 p4 p5) (j8 p0 p1 p2 p3 p4 p5))), .val (.int (f_max (j7 p0 p1 p2 p3 p4 p5) (j8 p0 p1 p2 p3 p4 p5))), .val (.int (j16 p0 p1 p2 p3 p4 p5)), .val (.int ((f_min p0 (2147483632 : Int32)) + (15 : Int32))), .val (.int (j18 p0 p1 p2 p3 p4 p5)), .val (.int (j19 p0 p1 p2 p3 p4 p5)), .unset, .unset, .unset, .unset, .unset, .unset] [(.int (jb1 p0 p1 p2 p3 p4 p5))])) t := by
      intro t k
      refine ox_iload Xhd0_161.here hx (hb hby at_405) rfl ?_
      by_cases hc0_33 : (j19 p0 p1 p2 p3 p4 p5) = (0 : Int32)
      · refine ox_ifYes Xhd0_161.here hx (pc0 := 407) (pc' := 421) rfl (hb hby at_407) rfl ((if0 _ _).trans (teq hc0_33).1) (by decide) (by decide) ?_
        refine ox_iconst Xhd0_161.here hx (hb hby at_421) ?_
        have q : jb2 p0 p1 p2 p3 p4 p5 = (0 : Int32) := by rw [jb2, if_pos hc0_33]
        rw [q] at k
        exact k
      · refine ox_ifNo Xhd0_161.here hx (hb hby at_407) rfl ((if0 _ _).trans (feq hc0_33).1) ?_
        refine ox_iload Xhd0_161.here hx (hb hby at_410) rfl ?_
        refine ox_iload Xhd0_161.here hx (hb hby at_412) rfl ?_
        by_cases hc0_34 : (f_max (j7 p0 p1 p2 p3 p4 p5) (j8 p0 p1 p2 p3 p4 p5)) < (f_min p0 (2147483632 : Int32))
        · refine ox_icmpNo Xhd0_161.here hx (hb hby at_414) rfl (tlt hc0_34).2.1 ?_
          refine ox_iconst Xhd0_161.here hx (hb hby at_417) ?_
          refine ox_goto Xhd0_161.here hx (pc0 := 418) (pc' := 422) rfl (hb hby at_418) (by decide) (by decide) ?_
          have q : jb2 p0 p1 p2 p3 p4 p5 = (1 : Int32) := by rw [jb2, if_neg hc0_33, if_pos hc0_34]
          rw [q] at k
          exact k
        · refine ox_icmpYes Xhd0_161.here hx (pc0 := 414) (pc' := 421) rfl (hb hby at_414) rfl (flt hc0_34).2.1 (by decide) (by decide) ?_
          refine ox_iconst Xhd0_161.here hx (hb hby at_421) ?_
          have q : jb2 p0 p1 p2 p3 p4 p5 = (0 : Int32) := by rw [jb2, if_neg hc0_33, if_neg hc0_34]
          rw [q] at k
          exact k
    refine own_fw sg0_405 ?_
    refine own_fw (A := T0_160.setTop (mkF m 425 #[.val (.int p0), .val (.int p1), .val (.int p2), .val (.int p3), .val (.int p4), .val (.int p5), .val (.int (f_min p0 (2147483632 : Int32))), .val (.int (j7 p0 p1 p2 p3 p4 p5)), .val (.int (j8 p0 p1 p2 p3 p4 p5)), .val (.ref b0_3), .val (.ref ub0_12), .val (.ref b0_15), .val (.ref b0_100), .val (.ref uu0_154), .val (.int (f_min (j7 p0 p1 p2 p3 p4 p5) (j8 p0 p1 p2 p3 p4 p5))), .val (.int (f_max (j7 p0 p1 p2 p3 p4 p5) (j8 p0 p1 p2 p3 p4 p5))), .val (.int (j16 p0 p1 p2 p3 p4 p5)), .val (.int ((f_min p0 (2147483632 : Int32)) + (15 : Int32))), .val (.int (j18 p0 p1 p2 p3 p4 p5)), .val (.int (j19 p0 p1 p2 p3 p4 p5)), .val (.int ((jb1 p0 p1 p2 p3 p4 p5) + (jb2 p0 p1 p2 p3 p4 p5))), .unset, .unset, .unset, .unset, .unset] [])) (fun t k => ?_) ?_
    · refine ox_iadd Xhd0_161.here hx (hb hby at_422) rfl ?_
      refine ox_istore Xhd0_161.here hx (hb hby at_423) rfl (l' := #[.val (.int p0), .val (.int p1), .val (.int p2), .val (.int p3), .val (.int p4), .val (.int p5), .val (.int (f_min p0 (2147483632 : Int32))), .val (.int (j7 p0 p1 p2 p3 p4 p5)), .val (.int (j8 p0 p1 p2 p3 p4 p5)), .val (.ref b0_3), .val (.ref ub0_12), .val (.ref b0_15), .val (.ref b0_100), .val (.ref uu0_154), .val (.int (f_min (j7 p0 p1 p2 p3 p4 p5) (j8 p0 p1 p2 p3 p4 p5))), .val (.int (f_max (j7 p0 p1 p2 p3 p4 p5) (j8 p0 p1 p2 p3 p4 p5))), .val (.int (j16 p0 p1 p2 p3 p4 p5)), .val (.int ((f_min p0 (2147483632 : Int32)) + (15 : Int32))), .val (.int (j18 p0 p1 p2 p3 p4 p5)), .val (.int (j19 p0 p1 p2 p3 p4 p5)), .val (.int ((jb1 p0 p1 p2 p3 p4 p5) + (jb2 p0 p1 p2 p3 p4 p5))), .unset, .unset, .unset, .unset, .unset]) rfl ?_
      exact k
    have sg0_425 : ∀ t, Steps p.tables e below (T0_160.setTop (mkF m 442 #[.val (.int p0), .val (.int p1), .val (.int p2), .val (.int p3), .val (.int p4), .val (.int p5), .val (.int (f_min p0 (2147483632 : Int32))), .val (.int (j7 p0 p1 p2 p3 p4 p5)), .val (.int (j8 p0 p1 p2 p3 p4 p5)), .val (.ref b0_3), .val (.ref ub0_12), .val (.ref b0_15), .val (.ref b0_100), .val (.ref uu0_154), .val (.int (f_min (j7 p0 p1 p2 p3 p4 p5) (j8 p0 p1 p2 p3 p4 p5))), .val (.int (f_max (j7 p0 p1 p2 p3 p4 p5) (j8 p0 p1 p2 p3 p4 p5))), .val (.int (j16 p0 p1 p2 p3 p4 p5)), .val (.int ((f_min p0 (2147483632 : Int32)) + (15 : Int32))), .val (.int (j18 p0 p1 p2 p3 p4 p5)), .val (.int (j19 p0 p1 p2 p3 p4 p5)), .val (.int ((jb1 p0 p1 p2 p3 p4 p5) + (jb2 p0 p1 p2 p3 p4 p5))), .unset, .unset, .unset, .unset, .unset] [(.int (ja1 p0 p1 p2 p3 p4 p5))])) t → Steps p.tables e below (T0_160.setTop (mkF m 425 #[.val (.int p0), .val (.int p1), .val (.int p2), .val (.int p3), .val (.int p4), .val (.int p5), .val (.int (f_min p0 (2147483632 : Int32))), .val (.int (j7 p0 p1 p2 p3 p4 p5)), .val (.int (j8 p0 p1 p2 p3 p4 p5)), .val (.ref b0_3), .val (.ref ub0_12), .val (.ref b0_15), .val (.ref b0_100), .val (.ref uu0_154), .val (.int (f_min (j7 p0 p1 p2 p3 p4 p5) (j8 p0 p1 p2 p3 p4 p5))), .val (.int (f_max (j7 p0 p1 p2 p3 p4 p5) (j8 p0 p1 p2 p3 p4 p5))), .val (.int (j16 p0 p1 p2 p3 p4 p5)), .val (.int ((f_min p0 (2147483632 : Int32)) + (15 : Int32))), .val (.int (j18 p0 p1 p2 p3 p4 p5)), .val (.int (j19 p0 p1 p2 p3 p4 p5)), .val (.int ((jb1 p0 p1 p2 p3 p4 p5) + (jb2 p0 p1 p2 p3 p4 p5))), .unset, .unset, .unset, .unset, .unset] [])) t := by
      intro t k
      refine ox_iload Xhd0_161.here hx (hb hby at_425) rfl ?_
      by_cases hc0_35 : (j18 p0 p1 p2 p3 p4 p5) = (0 : Int32)
      · refine ox_ifYes Xhd0_161.here hx (pc0 := 427) (pc' := 441) rfl (hb hby at_427) rfl ((if0 _ _).trans (teq hc0_35).1) (by decide) (by decide) ?_
        refine ox_iconst Xhd0_161.here hx (hb hby at_441) ?_
        have q : ja1 p0 p1 p2 p3 p4 p5 = (0 : Int32) := by rw [ja1, if_pos hc0_35]
        rw [q] at k
        exact k
      · refine ox_ifNo Xhd0_161.here hx (hb hby at_427) rfl ((if0 _ _).trans (feq hc0_35).1) ?_
        refine ox_iload Xhd0_161.here hx (hb hby at_430) rfl ?_
        refine ox_iload Xhd0_161.here hx (hb hby at_432) rfl ?_
        by_cases hc0_36 : ((f_min p0 (2147483632 : Int32)) + (15 : Int32)) < (f_min (j7 p0 p1 p2 p3 p4 p5) (j8 p0 p1 p2 p3 p4 p5))
        · refine ox_icmpNo Xhd0_161.here hx (hb hby at_434) rfl (tlt hc0_36).2.2.2 ?_
          refine ox_iconst Xhd0_161.here hx (hb hby at_437) ?_
          refine ox_goto Xhd0_161.here hx (pc0 := 438) (pc' := 442) rfl (hb hby at_438) (by decide) (by decide) ?_
          have q : ja1 p0 p1 p2 p3 p4 p5 = (1 : Int32) := by rw [ja1, if_neg hc0_35, if_pos hc0_36]
          rw [q] at k
          exact k
        · refine ox_icmpYes Xhd0_161.here hx (pc0 := 434) (pc' := 441) rfl (hb hby at_434) rfl (flt hc0_36).2.2.2 (by decide) (by decide) ?_
          refine ox_iconst Xhd0_161.here hx (hb hby at_441) ?_
          have q : ja1 p0 p1 p2 p3 p4 p5 = (0 : Int32) := by rw [ja1, if_neg hc0_35, if_neg hc0_36]
          rw [q] at k
          exact k
    refine own_fw sg0_425 ?_
    have sg0_442 : ∀ t, Steps p.tables e below (T0_160.setTop (mkF m 459 #[.val (.int p0), .val (.int p1), .val (.int p2), .val (.int p3), .val (.int p4), .val (.int p5), .val (.int (f_min p0 (2147483632 : Int32))), .val (.int (j7 p0 p1 p2 p3 p4 p5)), .val (.int (j8 p0 p1 p2 p3 p4 p5)), .val (.ref b0_3), .val (.ref ub0_12), .val (.ref b0_15), .val (.ref b0_100), .val (.ref uu0_154), .val (.int (f_min (j7 p0 p1 p2 p3 p4 p5) (j8 p0 p1 p2 p3 p4 p5))), .val (.int (f_max (j7 p0 p1 p2 p3 p4 p5) (j8 p0 p1 p2 p3 p4 p5))), .val (.int (j16 p0 p1 p2 p3 p4 p5)), .val (.int ((f_min p0 (2147483632 : Int32)) + (15 : Int32))), .val (.int (j18 p0 p1 p2 p3 p4 p5)), .val (.int (j19 p0 p1 p2 p3 p4 p5)), .val (.int ((jb1 p0 p1 p2 p3 p4 p5) + (jb2 p0 p1 p2 p3 p4 p5))), .unset, .unset, .unset, .unset, .unset] [(.int (ja2 p0 p1 p2 p3 p4 p5)), (.int (ja1 p0 p1 p2 p3 p4 p5))])) t → Steps p.tables e below (T0_160.setTop (mkF m 442 #[.val (.int p0), .val (.int p1), .val (.int p2), .val (.int p3), .val (.int p4), .val (.int p5), .val (.int (f_min p0 (2147483632 : Int32))), .val (.int (j7 p0 p1 p2 p3 p4 p5)), .val (.int (j8 p0 p1 p2 p3 p4 p5)), .val (.ref b0_3), .val (.ref ub0_12), .val (.ref b0_15), .val (.ref b0_100), .val (.ref uu0_154), .val (.int (f_min (j7 p0 p1 p2 p3 p4 p5) (j8 p0 p1 p2 p3 p4 p5))), .val (.int (f_max (j7 p0 p1 p2 p3 p4 p5) (j8 p0 p1 p2 p3 p4 p5))), .val (.int (j16 p0 p1 p2 p3 p4 p5)), .val (.int ((f_min p0 (2147483632 : Int32)) + (15 : Int32))), .val (.int (j18 p0 p1 p2 p3 p4 p5)), .val (.int (j19 p0 p1 p2 p3 p4 p5)), .val (.int ((jb1 p0 p1 p2 p3 p4 p5) + (jb2 p0 p1 p2 p3 p4 p5))), .unset, .unset, .unset, .unset, .unset] [(.int (ja1 p0 p1 p2 p3 p4 p5))])) t := by
      intro t k
      refine ox_iload Xhd0_161.here hx (hb hby at_442) rfl ?_
      by_cases hc0_37 : (j19 p0 p1 p2 p3 p4 p5) = (0 : Int32)
      · refine ox_ifYes Xhd0_161.here hx (pc0 := 444) (pc' := 458) rfl (hb hby at_444) rfl ((if0 _ _).trans (teq hc0_37).1) (by decide) (by decide) ?_
        refine ox_iconst Xhd0_161.here hx (hb hby at_458) ?_
        have q : ja2 p0 p1 p2 p3 p4 p5 = (0 : Int32) := by rw [ja2, if_pos hc0_37]
        rw [q] at k
        exact k
      · refine ox_ifNo Xhd0_161.here hx (hb hby at_444) rfl ((if0 _ _).trans (feq hc0_37).1) ?_
        refine ox_iload Xhd0_161.here hx (hb hby at_447) rfl ?_
        refine ox_iload Xhd0_161.here hx (hb hby at_449) rfl ?_
        by_cases hc0_38 : ((f_min p0 (2147483632 : Int32)) + (15 : Int32)) < (f_max (j7 p0 p1 p2 p3 p4 p5) (j8 p0 p1 p2 p3 p4 p5))
        · refine ox_icmpNo Xhd0_161.here hx (hb hby at_451) rfl (tlt hc0_38).2.2.2 ?_
          refine ox_iconst Xhd0_161.here hx (hb hby at_454) ?_
          refine ox_goto Xhd0_161.here hx (pc0 := 455) (pc' := 459) rfl (hb hby at_455) (by decide) (by decide) ?_
          have q : ja2 p0 p1 p2 p3 p4 p5 = (1 : Int32) := by rw [ja2, if_neg hc0_37, if_pos hc0_38]
          rw [q] at k
          exact k
        · refine ox_icmpYes Xhd0_161.here hx (pc0 := 451) (pc' := 458) rfl (hb hby at_451) rfl (flt hc0_38).2.2.2 (by decide) (by decide) ?_
          refine ox_iconst Xhd0_161.here hx (hb hby at_458) ?_
          have q : ja2 p0 p1 p2 p3 p4 p5 = (0 : Int32) := by rw [ja2, if_neg hc0_37, if_neg hc0_38]
          rw [q] at k
          exact k
    refine own_fw sg0_442 ?_
    refine own_fw (A := T0_160.setTop (mkF m 474 #[.val (.int p0), .val (.int p1), .val (.int p2), .val (.int p3), .val (.int p4), .val (.int p5), .val (.int (f_min p0 (2147483632 : Int32))), .val (.int (j7 p0 p1 p2 p3 p4 p5)), .val (.int (j8 p0 p1 p2 p3 p4 p5)), .val (.ref b0_3), .val (.ref ub0_12), .val (.ref b0_15), .val (.ref b0_100), .val (.ref uu0_154), .val (.int (f_min (j7 p0 p1 p2 p3 p4 p5) (j8 p0 p1 p2 p3 p4 p5))), .val (.int (f_max (j7 p0 p1 p2 p3 p4 p5) (j8 p0 p1 p2 p3 p4 p5))), .val (.int (j16 p0 p1 p2 p3 p4 p5)), .val (.int ((f_min p0 (2147483632 : Int32)) + (15 : Int32))), .val (.int (j18 p0 p1 p2 p3 p4 p5)), .val (.int (j19 p0 p1 p2 p3 p4 p5)), .val (.int ((jb1 p0 p1 p2 p3 p4 p5) + (jb2 p0 p1 p2 p3 p4 p5))), .val (.int ((ja1 p0 p1 p2 p3 p4 p5) + (ja2 p0 p1 p2 p3 p4 p5))), .val (.int ((((jb1 p0 p1 p2 p3 p4 p5) + (jb2 p0 p1 p2 p3 p4 p5)) + (16 : Int32)) + ((ja1 p0 p1 p2 p3 p4 p5) + (ja2 p0 p1 p2 p3 p4 p5)))), .unset, .unset, .unset] [(.ref uu0_154)])) (fun t k => ?_) ?_
    · refine ox_iadd Xhd0_161.here hx (hb hby at_459) rfl ?_
      refine ox_istore Xhd0_161.here hx (hb hby at_460) rfl (l' := #[.val (.int p0), .val (.int p1), .val (.int p2), .val (.int p3), .val (.int p4), .val (.int p5), .val (.int (f_min p0 (2147483632 : Int32))), .val (.int (j7 p0 p1 p2 p3 p4 p5)), .val (.int (j8 p0 p1 p2 p3 p4 p5)), .val (.ref b0_3), .val (.ref ub0_12), .val (.ref b0_15), .val (.ref b0_100), .val (.ref uu0_154), .val (.int (f_min (j7 p0 p1 p2 p3 p4 p5) (j8 p0 p1 p2 p3 p4 p5))), .val (.int (f_max (j7 p0 p1 p2 p3 p4 p5) (j8 p0 p1 p2 p3 p4 p5))), .val (.int (j16 p0 p1 p2 p3 p4 p5)), .val (.int ((f_min p0 (2147483632 : Int32)) + (15 : Int32))), .val (.int (j18 p0 p1 p2 p3 p4 p5)), .val (.int (j19 p0 p1 p2 p3 p4 p5)), .val (.int ((jb1 p0 p1 p2 p3 p4 p5) + (jb2 p0 p1 p2 p3 p4 p5))), .val (.int ((ja1 p0 p1 p2 p3 p4 p5) + (ja2 p0 p1 p2 p3 p4 p5))), .unset, .unset, .unset, .unset]) rfl ?_
      refine ox_iload Xhd0_161.here hx (hb hby at_462) rfl ?_
      refine ox_bipush Xhd0_161.here hx (hb hby at_464) ?_
      refine ox_iadd Xhd0_161.here hx (hb hby at_466) rfl ?_
      refine ox_iload Xhd0_161.here hx (hb hby at_467) rfl ?_
      refine ox_iadd Xhd0_161.here hx (hb hby at_469) rfl ?_
      refine ox_istore Xhd0_161.here hx (hb hby at_470) rfl (l' := #[.val (.int p0), .val (.int p1), .val (.int p2), .val (.int p3), .val (.int p4), .val (.int p5), .val (.int (f_min p0 (2147483632 : Int32))), .val (.int (j7 p0 p1 p2 p3 p4 p5)), .val (.int (j8 p0 p1 p2 p3 p4 p5)), .val (.ref b0_3), .val (.ref ub0_12), .val (.ref b0_15), .val (.ref b0_100), .val (.ref uu0_154), .val (.int (f_min (j7 p0 p1 p2 p3 p4 p5) (j8 p0 p1 p2 p3 p4 p5))), .val (.int (f_max (j7 p0 p1 p2 p3 p4 p5) (j8 p0 p1 p2 p3 p4 p5))), .val (.int (j16 p0 p1 p2 p3 p4 p5)), .val (.int ((f_min p0 (2147483632 : Int32)) + (15 : Int32))), .val (.int (j18 p0 p1 p2 p3 p4 p5)), .val (.int (j19 p0 p1 p2 p3 p4 p5)), .val (.int ((jb1 p0 p1 p2 p3 p4 p5) + (jb2 p0 p1 p2 p3 p4 p5))), .val (.int ((ja1 p0 p1 p2 p3 p4 p5) + (ja2 p0 p1 p2 p3 p4 p5))), .val (.int ((((jb1 p0 p1 p2 p3 p4 p5) + (jb2 p0 p1 p2 p3 p4 p5)) + (16 : Int32)) + ((ja1 p0 p1 p2 p3 p4 p5) + (ja2 p0 p1 p2 p3 p4 p5)))), .unset, .unset, .unset]) rfl ?_
      refine ox_aload Xhd0_161.here hx (hb hby at_472) rfl rfl ?_
      exact k
    obtain ⟨cq0_162, kq0_162, q0_162a, q0_162b, q0_162c⟩ := isOf hZ e0_160 Eu0_154
    obtain ⟨_, _, ⟨T0_162, L0_162, k0_162, n0_162⟩, -, X0_162, ⟨Lc0_162, hQ0_162, l0_162, y0_162, z0_162⟩, st0_162⟩ := Xhd0_161.virtualBack hx (y := mN0) (z := mN0) hown (mvT hZ (own_w hw 211 rfl)) (mvT hZ (own_w hw 183 rfl)) (notFace_of_selects (args := #[]) (mvT hZ (own_w hw 185 rfl))) (mvT hZ (own_w hw 185 rfl)) (mvT hZ (own_w hw 184 rfl)) (by decide) (backOf (W := 0) (rm26 l Z a0 hw [] uu0_154 mu0_154 kI (own_exp (f_min p0 (2147483632 : Int32)) (j7 p0 p1 p2 p3 p4 p5) (j8 p0 p1 p2 p3 p4 p5)).length (own_exp (f_min p0 (2147483632 : Int32)) (j7 p0 p1 p2 p3 p4 p5) (j8 p0 p1 p2 p3 p4 p5)) T0_154.heap n0 (Nat.le_trans (Nat.le_trans fc0_145 K0_147.1) K0_154.1) Fu0_154 Iu0_154) hZ (own_w hw 186 rfl) (own_w hw 53 rfl) (by decide) (by decide)) q0_162a q0_162c (g := (mkF m 474 #[.val (.int p0), .val (.int p1), .val (.int p2), .val (.int p3), .val (.int p4), .val (.int p5), .val (.int (f_min p0 (2147483632 : Int32))), .val (.int (j7 p0 p1 p2 p3 p4 p5)), .val (.int (j8 p0 p1 p2 p3 p4 p5)), .val (.ref b0_3), .val (.ref ub0_12), .val (.ref b0_15), .val (.ref b0_100), .val (.ref uu0_154), .val (.int (f_min (j7 p0 p1 p2 p3 p4 p5) (j8 p0 p1 p2 p3 p4 p5))), .val (.int (f_max (j7 p0 p1 p2 p3 p4 p5) (j8 p0 p1 p2 p3 p4 p5))), .val (.int (j16 p0 p1 p2 p3 p4 p5)), .val (.int ((f_min p0 (2147483632 : Int32)) + (15 : Int32))), .val (.int (j18 p0 p1 p2 p3 p4 p5)), .val (.int (j19 p0 p1 p2 p3 p4 p5)), .val (.int ((jb1 p0 p1 p2 p3 p4 p5) + (jb2 p0 p1 p2 p3 p4 p5))), .val (.int ((ja1 p0 p1 p2 p3 p4 p5) + (ja2 p0 p1 p2 p3 p4 p5))), .val (.int ((((jb1 p0 p1 p2 p3 p4 p5) + (jb2 p0 p1 p2 p3 p4 p5)) + (16 : Int32)) + ((ja1 p0 p1 p2 p3 p4 p5) + (ja2 p0 p1 p2 p3 p4 p5)))), .unset, .unset, .unset] [(.ref uu0_154)])) rfl (by rw [hml]; rfl) (Steps.refl _) (argsL := []) (rest := []) (lenOf pd0_7 rfl) rfl (own_mr rfl) (hb hby at_474) (fun _ _ => ⟨rfl, e0_160, (by decide : 20 + 0 ≤ _), (by decide : 235 + 0 ≤ _)⟩)
    dsimp only [Pt.U, Pt.locs, Pt.cells, Pt.slots] at X0_162 l0_162 y0_162 z0_162 st0_162 hQ0_162
    subst l0_162 y0_162 z0_162
    obtain ⟨rfl, N0_162q, e0_162⟩ := hQ0_162
    have N0_162 := Fr.app Nhd0_161 N0_162q
    refine own_fw (fun t k => st0_162.trans k) ?_
    obtain ⟨Lhd0_163, Xhd0_163, Nhd0_163⟩ := own_hide X0_162 N0_162
    refine own_fw (A := T0_162.setTop (mkF m 498 #[.val (.int p0), .val (.int p1), .val (.int p2), .val (.int p3), .val (.int p4), .val (.int p5), .val (.int (f_min p0 (2147483632 : Int32))), .val (.int (j7 p0 p1 p2 p3 p4 p5)), .val (.int (j8 p0 p1 p2 p3 p4 p5)), .val (.ref b0_3), .val (.ref ub0_12), .val (.ref b0_15), .val (.ref b0_100), .val (.ref uu0_154), .val (.int (f_min (j7 p0 p1 p2 p3 p4 p5) (j8 p0 p1 p2 p3 p4 p5))), .val (.int (f_max (j7 p0 p1 p2 p3 p4 p5) (j8 p0 p1 p2 p3 p4 p5))), .val (.int (j16 p0 p1 p2 p3 p4 p5)), .val (.int ((f_min p0 (2147483632 : Int32)) + (15 : Int32))), .val (.int (j18 p0 p1 p2 p3 p4 p5)), .val (.int (j19 p0 p1 p2 p3 p4 p5)), .val (.int ((jb1 p0 p1 p2 p3 p4 p5) + (jb2 p0 p1 p2 p3 p4 p5))), .val (.int ((ja1 p0 p1 p2 p3 p4 p5) + (ja2 p0 p1 p2 p3 p4 p5))), .val (.int ((((jb1 p0 p1 p2 p3 p4 p5) + (jb2 p0 p1 p2 p3 p4 p5)) + (16 : Int32)) + ((ja1 p0 p1 p2 p3 p4 p5) + (ja2 p0 p1 p2 p3 p4 p5)))), .val (.int (own_irem (p4 &&& (2147483647 : Int32)) ((((jb1 p0 p1 p2 p3 p4 p5) + (jb2 p0 p1 p2 p3 p4 p5)) + (16 : Int32)) + ((ja1 p0 p1 p2 p3 p4 p5) + (ja2 p0 p1 p2 p3 p4 p5))))), .unset, .unset] [(.int ((jb1 p0 p1 p2 p3 p4 p5) + (jb2 p0 p1 p2 p3 p4 p5))), (.int (own_irem (p4 &&& (2147483647 : Int32)) ((((jb1 p0 p1 p2 p3 p4 p5) + (jb2 p0 p1 p2 p3 p4 p5)) + (16 : Int32)) + ((ja1 p0 p1 p2 p3 p4 p5) + (ja2 p0 p1 p2 p3 p4 p5)))))])) (fun t k => ?_) ?_
    · refine ox_iload Xhd0_163.here hx (hb hby at_477) rfl ?_
      refine ox_icmpYes Xhd0_163.here hx (pc0 := 479) (pc' := 484) rfl (hb hby at_479) rfl (teq (own_hn p0 p1 p2 p3 p4 p5)).1 (by decide) (by decide) ?_
      refine ox_iload Xhd0_163.here hx (hb hby at_484) rfl ?_
      show Steps p.tables e below (T0_162.setTop (mkF m 486 #[.val (.int p0), .val (.int p1), .val (.int p2), .val (.int p3), .val (.int p4), .val (.int p5), .val (.int (f_min p0 (2147483632 : Int32))), .val (.int (j7 p0 p1 p2 p3 p4 p5)), .val (.int (j8 p0 p1 p2 p3 p4 p5)), .val (.ref b0_3), .val (.ref ub0_12), .val (.ref b0_15), .val (.ref b0_100), .val (.ref uu0_154), .val (.int (f_min (j7 p0 p1 p2 p3 p4 p5) (j8 p0 p1 p2 p3 p4 p5))), .val (.int (f_max (j7 p0 p1 p2 p3 p4 p5) (j8 p0 p1 p2 p3 p4 p5))), .val (.int (j16 p0 p1 p2 p3 p4 p5)), .val (.int ((f_min p0 (2147483632 : Int32)) + (15 : Int32))), .val (.int (j18 p0 p1 p2 p3 p4 p5)), .val (.int (j19 p0 p1 p2 p3 p4 p5)), .val (.int ((jb1 p0 p1 p2 p3 p4 p5) + (jb2 p0 p1 p2 p3 p4 p5))), .val (.int ((ja1 p0 p1 p2 p3 p4 p5) + (ja2 p0 p1 p2 p3 p4 p5))), .val (.int ((((jb1 p0 p1 p2 p3 p4 p5) + (jb2 p0 p1 p2 p3 p4 p5)) + (16 : Int32)) + ((ja1 p0 p1 p2 p3 p4 p5) + (ja2 p0 p1 p2 p3 p4 p5)))), .unset, .unset, .unset] [(.int p4)])) t
      refine Xhd0_163.ldcInt hx hown (mvT hZ (own_w hw 212 rfl)) (g := (mkF m 486 #[.val (.int p0), .val (.int p1), .val (.int p2), .val (.int p3), .val (.int p4), .val (.int p5), .val (.int (f_min p0 (2147483632 : Int32))), .val (.int (j7 p0 p1 p2 p3 p4 p5)), .val (.int (j8 p0 p1 p2 p3 p4 p5)), .val (.ref b0_3), .val (.ref ub0_12), .val (.ref b0_15), .val (.ref b0_100), .val (.ref uu0_154), .val (.int (f_min (j7 p0 p1 p2 p3 p4 p5) (j8 p0 p1 p2 p3 p4 p5))), .val (.int (f_max (j7 p0 p1 p2 p3 p4 p5) (j8 p0 p1 p2 p3 p4 p5))), .val (.int (j16 p0 p1 p2 p3 p4 p5)), .val (.int ((f_min p0 (2147483632 : Int32)) + (15 : Int32))), .val (.int (j18 p0 p1 p2 p3 p4 p5)), .val (.int (j19 p0 p1 p2 p3 p4 p5)), .val (.int ((jb1 p0 p1 p2 p3 p4 p5) + (jb2 p0 p1 p2 p3 p4 p5))), .val (.int ((ja1 p0 p1 p2 p3 p4 p5) + (ja2 p0 p1 p2 p3 p4 p5))), .val (.int ((((jb1 p0 p1 p2 p3 p4 p5) + (jb2 p0 p1 p2 p3 p4 p5)) + (16 : Int32)) + ((ja1 p0 p1 p2 p3 p4 p5) + (ja2 p0 p1 p2 p3 p4 p5)))), .unset, .unset, .unset] [(.int p4)])) rfl (hb hby at_486) _ ?_
      refine ox_iand Xhd0_163.here hx (hb hby at_488) rfl ?_
      refine ox_iload Xhd0_163.here hx (hb hby at_489) rfl ?_
      refine ox_irem Xhd0_163.here hx (hb hby at_491) rfl (own_nz p0 p1 p2 p3 p4 p5) ?_
      refine ox_istore Xhd0_163.here hx (hb hby at_492) rfl (l' := #[.val (.int p0), .val (.int p1), .val (.int p2), .val (.int p3), .val (.int p4), .val (.int p5), .val (.int (f_min p0 (2147483632 : Int32))), .val (.int (j7 p0 p1 p2 p3 p4 p5)), .val (.int (j8 p0 p1 p2 p3 p4 p5)), .val (.ref b0_3), .val (.ref ub0_12), .val (.ref b0_15), .val (.ref b0_100), .val (.ref uu0_154), .val (.int (f_min (j7 p0 p1 p2 p3 p4 p5) (j8 p0 p1 p2 p3 p4 p5))), .val (.int (f_max (j7 p0 p1 p2 p3 p4 p5) (j8 p0 p1 p2 p3 p4 p5))), .val (.int (j16 p0 p1 p2 p3 p4 p5)), .val (.int ((f_min p0 (2147483632 : Int32)) + (15 : Int32))), .val (.int (j18 p0 p1 p2 p3 p4 p5)), .val (.int (j19 p0 p1 p2 p3 p4 p5)), .val (.int ((jb1 p0 p1 p2 p3 p4 p5) + (jb2 p0 p1 p2 p3 p4 p5))), .val (.int ((ja1 p0 p1 p2 p3 p4 p5) + (ja2 p0 p1 p2 p3 p4 p5))), .val (.int ((((jb1 p0 p1 p2 p3 p4 p5) + (jb2 p0 p1 p2 p3 p4 p5)) + (16 : Int32)) + ((ja1 p0 p1 p2 p3 p4 p5) + (ja2 p0 p1 p2 p3 p4 p5)))), .val (.int (own_irem (p4 &&& (2147483647 : Int32)) ((((jb1 p0 p1 p2 p3 p4 p5) + (jb2 p0 p1 p2 p3 p4 p5)) + (16 : Int32)) + ((ja1 p0 p1 p2 p3 p4 p5) + (ja2 p0 p1 p2 p3 p4 p5))))), .unset, .unset]) rfl ?_
      refine ox_iload Xhd0_163.here hx (hb hby at_494) rfl ?_
      refine ox_iload Xhd0_163.here hx (hb hby at_496) rfl ?_
      exact k
    by_cases hc0_39 : (own_irem (p4 &&& (2147483647 : Int32)) ((((jb1 p0 p1 p2 p3 p4 p5) + (jb2 p0 p1 p2 p3 p4 p5)) + (16 : Int32)) + ((ja1 p0 p1 p2 p3 p4 p5) + (ja2 p0 p1 p2 p3 p4 p5)))) < ((jb1 p0 p1 p2 p3 p4 p5) + (jb2 p0 p1 p2 p3 p4 p5))
    · refine own_fw (A := T0_162.setTop (mkF m 501 #[.val (.int p0), .val (.int p1), .val (.int p2), .val (.int p3), .val (.int p4), .val (.int p5), .val (.int (f_min p0 (2147483632 : Int32))), .val (.int (j7 p0 p1 p2 p3 p4 p5)), .val (.int (j8 p0 p1 p2 p3 p4 p5)), .val (.ref b0_3), .val (.ref ub0_12), .val (.ref b0_15), .val (.ref b0_100), .val (.ref uu0_154), .val (.int (f_min (j7 p0 p1 p2 p3 p4 p5) (j8 p0 p1 p2 p3 p4 p5))), .val (.int (f_max (j7 p0 p1 p2 p3 p4 p5) (j8 p0 p1 p2 p3 p4 p5))), .val (.int (j16 p0 p1 p2 p3 p4 p5)), .val (.int ((f_min p0 (2147483632 : Int32)) + (15 : Int32))), .val (.int (j18 p0 p1 p2 p3 p4 p5)), .val (.int (j19 p0 p1 p2 p3 p4 p5)), .val (.int ((jb1 p0 p1 p2 p3 p4 p5) + (jb2 p0 p1 p2 p3 p4 p5))), .val (.int ((ja1 p0 p1 p2 p3 p4 p5) + (ja2 p0 p1 p2 p3 p4 p5))), .val (.int ((((jb1 p0 p1 p2 p3 p4 p5) + (jb2 p0 p1 p2 p3 p4 p5)) + (16 : Int32)) + ((ja1 p0 p1 p2 p3 p4 p5) + (ja2 p0 p1 p2 p3 p4 p5)))), .val (.int (own_irem (p4 &&& (2147483647 : Int32)) ((((jb1 p0 p1 p2 p3 p4 p5) + (jb2 p0 p1 p2 p3 p4 p5)) + (16 : Int32)) + ((ja1 p0 p1 p2 p3 p4 p5) + (ja2 p0 p1 p2 p3 p4 p5))))), .unset, .unset] [])) (fun t k => ?_) ?_
      · refine ox_icmpNo Xhd0_163.here hx (hb hby at_498) rfl (tlt hc0_39).2.1 ?_
        exact k
      have sg0_501 : ∀ t, Steps p.tables e below (T0_162.setTop (mkF m 513 #[.val (.int p0), .val (.int p1), .val (.int p2), .val (.int p3), .val (.int p4), .val (.int p5), .val (.int (f_min p0 (2147483632 : Int32))), .val (.int (j7 p0 p1 p2 p3 p4 p5)), .val (.int (j8 p0 p1 p2 p3 p4 p5)), .val (.ref b0_3), .val (.ref ub0_12), .val (.ref b0_15), .val (.ref b0_100), .val (.ref uu0_154), .val (.int (f_min (j7 p0 p1 p2 p3 p4 p5) (j8 p0 p1 p2 p3 p4 p5))), .val (.int (f_max (j7 p0 p1 p2 p3 p4 p5) (j8 p0 p1 p2 p3 p4 p5))), .val (.int (j16 p0 p1 p2 p3 p4 p5)), .val (.int ((f_min p0 (2147483632 : Int32)) + (15 : Int32))), .val (.int (j18 p0 p1 p2 p3 p4 p5)), .val (.int (j19 p0 p1 p2 p3 p4 p5)), .val (.int ((jb1 p0 p1 p2 p3 p4 p5) + (jb2 p0 p1 p2 p3 p4 p5))), .val (.int ((ja1 p0 p1 p2 p3 p4 p5) + (ja2 p0 p1 p2 p3 p4 p5))), .val (.int ((((jb1 p0 p1 p2 p3 p4 p5) + (jb2 p0 p1 p2 p3 p4 p5)) + (16 : Int32)) + ((ja1 p0 p1 p2 p3 p4 p5) + (ja2 p0 p1 p2 p3 p4 p5)))), .val (.int (own_irem (p4 &&& (2147483647 : Int32)) ((((jb1 p0 p1 p2 p3 p4 p5) + (jb2 p0 p1 p2 p3 p4 p5)) + (16 : Int32)) + ((ja1 p0 p1 p2 p3 p4 p5) + (ja2 p0 p1 p2 p3 p4 p5))))), .unset, .unset] [(.int (je1 p0 p1 p2 p3 p4 p5))])) t → Steps p.tables e below (T0_162.setTop (mkF m 501 #[.val (.int p0), .val (.int p1), .val (.int p2), .val (.int p3), .val (.int p4), .val (.int p5), .val (.int (f_min p0 (2147483632 : Int32))), .val (.int (j7 p0 p1 p2 p3 p4 p5)), .val (.int (j8 p0 p1 p2 p3 p4 p5)), .val (.ref b0_3), .val (.ref ub0_12), .val (.ref b0_15), .val (.ref b0_100), .val (.ref uu0_154), .val (.int (f_min (j7 p0 p1 p2 p3 p4 p5) (j8 p0 p1 p2 p3 p4 p5))), .val (.int (f_max (j7 p0 p1 p2 p3 p4 p5) (j8 p0 p1 p2 p3 p4 p5))), .val (.int (j16 p0 p1 p2 p3 p4 p5)), .val (.int ((f_min p0 (2147483632 : Int32)) + (15 : Int32))), .val (.int (j18 p0 p1 p2 p3 p4 p5)), .val (.int (j19 p0 p1 p2 p3 p4 p5)), .val (.int ((jb1 p0 p1 p2 p3 p4 p5) + (jb2 p0 p1 p2 p3 p4 p5))), .val (.int ((ja1 p0 p1 p2 p3 p4 p5) + (ja2 p0 p1 p2 p3 p4 p5))), .val (.int ((((jb1 p0 p1 p2 p3 p4 p5) + (jb2 p0 p1 p2 p3 p4 p5)) + (16 : Int32)) + ((ja1 p0 p1 p2 p3 p4 p5) + (ja2 p0 p1 p2 p3 p4 p5)))), .val (.int (own_irem (p4 &&& (2147483647 : Int32)) ((((jb1 p0 p1 p2 p3 p4 p5) + (jb2 p0 p1 p2 p3 p4 p5)) + (16 : Int32)) + ((ja1 p0 p1 p2 p3 p4 p5) + (ja2 p0 p1 p2 p3 p4 p5))))), .unset, .unset] [])) t := by
        intro t k
        refine ox_iload Xhd0_163.here hx (hb hby at_501) rfl ?_
        by_cases hc0_40 : (own_irem (p4 &&& (2147483647 : Int32)) ((((jb1 p0 p1 p2 p3 p4 p5) + (jb2 p0 p1 p2 p3 p4 p5)) + (16 : Int32)) + ((ja1 p0 p1 p2 p3 p4 p5) + (ja2 p0 p1 p2 p3 p4 p5)))) = (0 : Int32)
        · refine ox_ifNo Xhd0_163.here hx (hb hby at_503) rfl ((if0 _ _).trans (teq hc0_40).2) ?_
          refine ox_iload Xhd0_163.here hx (hb hby at_506) rfl ?_
          refine ox_goto Xhd0_163.here hx (pc0 := 508) (pc' := 513) rfl (hb hby at_508) (by decide) (by decide) ?_
          have q : je1 p0 p1 p2 p3 p4 p5 = (f_min (j7 p0 p1 p2 p3 p4 p5) (j8 p0 p1 p2 p3 p4 p5)) := by rw [je1, if_pos hc0_40]
          rw [q] at k
          exact k
        · refine ox_ifYes Xhd0_163.here hx (pc0 := 503) (pc' := 511) rfl (hb hby at_503) rfl ((if0 _ _).trans (feq hc0_40).2) (by decide) (by decide) ?_
          refine ox_iload Xhd0_163.here hx (hb hby at_511) rfl ?_
          have q : je1 p0 p1 p2 p3 p4 p5 = (f_max (j7 p0 p1 p2 p3 p4 p5) (j8 p0 p1 p2 p3 p4 p5)) := by rw [je1, if_neg hc0_40]
          rw [q] at k
          exact k
      refine own_fw sg0_501 ?_
      refine own_fw (A := T0_162.setTop (mkF m 586 #[.val (.int p0), .val (.int p1), .val (.int p2), .val (.int p3), .val (.int p4), .val (.int p5), .val (.int (f_min p0 (2147483632 : Int32))), .val (.int (j7 p0 p1 p2 p3 p4 p5)), .val (.int (j8 p0 p1 p2 p3 p4 p5)), .val (.ref b0_3), .val (.ref ub0_12), .val (.ref b0_15), .val (.ref b0_100), .val (.ref uu0_154), .val (.int (f_min (j7 p0 p1 p2 p3 p4 p5) (j8 p0 p1 p2 p3 p4 p5))), .val (.int (f_max (j7 p0 p1 p2 p3 p4 p5) (j8 p0 p1 p2 p3 p4 p5))), .val (.int (j16 p0 p1 p2 p3 p4 p5)), .val (.int ((f_min p0 (2147483632 : Int32)) + (15 : Int32))), .val (.int (j18 p0 p1 p2 p3 p4 p5)), .val (.int (j19 p0 p1 p2 p3 p4 p5)), .val (.int ((jb1 p0 p1 p2 p3 p4 p5) + (jb2 p0 p1 p2 p3 p4 p5))), .val (.int ((ja1 p0 p1 p2 p3 p4 p5) + (ja2 p0 p1 p2 p3 p4 p5))), .val (.int ((((jb1 p0 p1 p2 p3 p4 p5) + (jb2 p0 p1 p2 p3 p4 p5)) + (16 : Int32)) + ((ja1 p0 p1 p2 p3 p4 p5) + (ja2 p0 p1 p2 p3 p4 p5)))), .val (.int (own_irem (p4 &&& (2147483647 : Int32)) ((((jb1 p0 p1 p2 p3 p4 p5) + (jb2 p0 p1 p2 p3 p4 p5)) + (16 : Int32)) + ((ja1 p0 p1 p2 p3 p4 p5) + (ja2 p0 p1 p2 p3 p4 p5))))), .val (.int (je1 p0 p1 p2 p3 p4 p5)), .unset] [(.int (own_irem (p4 &&& (2147483647 : Int32)) ((((jb1 p0 p1 p2 p3 p4 p5) + (jb2 p0 p1 p2 p3 p4 p5)) + (16 : Int32)) + ((ja1 p0 p1 p2 p3 p4 p5) + (ja2 p0 p1 p2 p3 p4 p5))))), (.ref uu0_154)])) (fun t k => ?_) ?_
      · refine ox_istore Xhd0_163.here hx (hb hby at_513) rfl (l' := #[.val (.int p0), .val (.int p1), .val (.int p2), .val (.int p3), .val (.int p4), .val (.int p5), .val (.int (f_min p0 (2147483632 : Int32))), .val (.int (j7 p0 p1 p2 p3 p4 p5)), .val (.int (j8 p0 p1 p2 p3 p4 p5)), .val (.ref b0_3), .val (.ref ub0_12), .val (.ref b0_15), .val (.ref b0_100), .val (.ref uu0_154), .val (.int (f_min (j7 p0 p1 p2 p3 p4 p5) (j8 p0 p1 p2 p3 p4 p5))), .val (.int (f_max (j7 p0 p1 p2 p3 p4 p5) (j8 p0 p1 p2 p3 p4 p5))), .val (.int (j16 p0 p1 p2 p3 p4 p5)), .val (.int ((f_min p0 (2147483632 : Int32)) + (15 : Int32))), .val (.int (j18 p0 p1 p2 p3 p4 p5)), .val (.int (j19 p0 p1 p2 p3 p4 p5)), .val (.int ((jb1 p0 p1 p2 p3 p4 p5) + (jb2 p0 p1 p2 p3 p4 p5))), .val (.int ((ja1 p0 p1 p2 p3 p4 p5) + (ja2 p0 p1 p2 p3 p4 p5))), .val (.int ((((jb1 p0 p1 p2 p3 p4 p5) + (jb2 p0 p1 p2 p3 p4 p5)) + (16 : Int32)) + ((ja1 p0 p1 p2 p3 p4 p5) + (ja2 p0 p1 p2 p3 p4 p5)))), .val (.int (own_irem (p4 &&& (2147483647 : Int32)) ((((jb1 p0 p1 p2 p3 p4 p5) + (jb2 p0 p1 p2 p3 p4 p5)) + (16 : Int32)) + ((ja1 p0 p1 p2 p3 p4 p5) + (ja2 p0 p1 p2 p3 p4 p5))))), .val (.int (je1 p0 p1 p2 p3 p4 p5)), .unset]) rfl ?_
        refine ox_goto Xhd0_163.here hx (pc0 := 515) (pc' := 582) rfl (hb hby at_515) (by decide) (by decide) ?_
        refine ox_aload Xhd0_163.here hx (hb hby at_582) rfl rfl ?_
        refine ox_iload Xhd0_163.here hx (hb hby at_584) rfl ?_
        exact k
      refine own_fw (A := T0_162.setTop (mkF m 586 #[.val (.int p0), .val (.int p1), .val (.int p2), .val (.int p3), .val (.int p4), .val (.int p5), .val (.int (f_min p0 (2147483632 : Int32))), .val (.int (j7 p0 p1 p2 p3 p4 p5)), .val (.int (j8 p0 p1 p2 p3 p4 p5)), .val (.ref b0_3), .val (.ref ub0_12), .val (.ref b0_15), .val (.ref b0_100), .val (.ref uu0_154), .val (.int (f_min (j7 p0 p1 p2 p3 p4 p5) (j8 p0 p1 p2 p3 p4 p5))), .val (.int (f_max (j7 p0 p1 p2 p3 p4 p5) (j8 p0 p1 p2 p3 p4 p5))), .val (.int (j16 p0 p1 p2 p3 p4 p5)), .val (.int ((f_min p0 (2147483632 : Int32)) + (15 : Int32))), .val (.int (j18 p0 p1 p2 p3 p4 p5)), .val (.int (j19 p0 p1 p2 p3 p4 p5)), .val (.int ((jb1 p0 p1 p2 p3 p4 p5) + (jb2 p0 p1 p2 p3 p4 p5))), .val (.int ((ja1 p0 p1 p2 p3 p4 p5) + (ja2 p0 p1 p2 p3 p4 p5))), .val (.int ((((jb1 p0 p1 p2 p3 p4 p5) + (jb2 p0 p1 p2 p3 p4 p5)) + (16 : Int32)) + ((ja1 p0 p1 p2 p3 p4 p5) + (ja2 p0 p1 p2 p3 p4 p5)))), .val (.int (own_irem (p4 &&& (2147483647 : Int32)) ((((jb1 p0 p1 p2 p3 p4 p5) + (jb2 p0 p1 p2 p3 p4 p5)) + (16 : Int32)) + ((ja1 p0 p1 p2 p3 p4 p5) + (ja2 p0 p1 p2 p3 p4 p5))))), .val (.int (je1 p0 p1 p2 p3 p4 p5)), .unset] [(.int (Int32.ofNat (own_J p0 p1 p2 p3 p4 p5))), (.ref uu0_154)])) (fun t k => castTop (congrArg (fun z => (mkF m 586 #[.val (.int p0), .val (.int p1), .val (.int p2), .val (.int p3), .val (.int p4), .val (.int p5), .val (.int (f_min p0 (2147483632 : Int32))), .val (.int (j7 p0 p1 p2 p3 p4 p5)), .val (.int (j8 p0 p1 p2 p3 p4 p5)), .val (.ref b0_3), .val (.ref ub0_12), .val (.ref b0_15), .val (.ref b0_100), .val (.ref uu0_154), .val (.int (f_min (j7 p0 p1 p2 p3 p4 p5) (j8 p0 p1 p2 p3 p4 p5))), .val (.int (f_max (j7 p0 p1 p2 p3 p4 p5) (j8 p0 p1 p2 p3 p4 p5))), .val (.int (j16 p0 p1 p2 p3 p4 p5)), .val (.int ((f_min p0 (2147483632 : Int32)) + (15 : Int32))), .val (.int (j18 p0 p1 p2 p3 p4 p5)), .val (.int (j19 p0 p1 p2 p3 p4 p5)), .val (.int ((jb1 p0 p1 p2 p3 p4 p5) + (jb2 p0 p1 p2 p3 p4 p5))), .val (.int ((ja1 p0 p1 p2 p3 p4 p5) + (ja2 p0 p1 p2 p3 p4 p5))), .val (.int ((((jb1 p0 p1 p2 p3 p4 p5) + (jb2 p0 p1 p2 p3 p4 p5)) + (16 : Int32)) + ((ja1 p0 p1 p2 p3 p4 p5) + (ja2 p0 p1 p2 p3 p4 p5)))), .val (.int (own_irem (p4 &&& (2147483647 : Int32)) ((((jb1 p0 p1 p2 p3 p4 p5) + (jb2 p0 p1 p2 p3 p4 p5)) + (16 : Int32)) + ((ja1 p0 p1 p2 p3 p4 p5) + (ja2 p0 p1 p2 p3 p4 p5))))), .val (.int (je1 p0 p1 p2 p3 p4 p5)), .unset] [(.int z), (.ref uu0_154)])) (own_JR p0 p1 p2 p3 p4 p5)) k) ?_
      obtain ⟨cq0_164, kq0_164, q0_164a, q0_164b, q0_164c⟩ := isOf hZ e0_162 Eu0_154
      obtain ⟨_, _, ⟨T0_164, L0_164, k0_164, n0_164⟩, -, X0_164, ⟨Lc0_164, hQ0_164, l0_164, y0_164, z0_164⟩, st0_164⟩ := Xhd0_163.virtualBack hx (y := mN1) (z := mN1) hown (mvT hZ (own_w hw 213 rfl)) (mvT hZ (own_w hw 204 rfl)) (notFace_of_selects (args := #[]) (mvT hZ (own_w hw 206 rfl))) (mvT hZ (own_w hw 206 rfl)) (mvT hZ (own_w hw 205 rfl)) (by decide) (backOf (W := 0) (rm28 l Z a0 hw [] uu0_154 mu0_154 kI (own_exp (f_min p0 (2147483632 : Int32)) (j7 p0 p1 p2 p3 p4 p5) (j8 p0 p1 p2 p3 p4 p5)).length (own_exp (f_min p0 (2147483632 : Int32)) (j7 p0 p1 p2 p3 p4 p5) (j8 p0 p1 p2 p3 p4 p5)) (own_J p0 p1 p2 p3 p4 p5) T0_154.heap n0 (Nat.le_trans (Nat.le_trans fc0_145 K0_147.1) K0_154.1) Fu0_154 Iu0_154 (own_Jlt p0 p1 p2 p3 p4 p5)) hZ (own_w hw 207 rfl) (own_w hw 53 rfl) (by decide) (by decide)) q0_164a q0_164c (g := (mkF m 586 #[.val (.int p0), .val (.int p1), .val (.int p2), .val (.int p3), .val (.int p4), .val (.int p5), .val (.int (f_min p0 (2147483632 : Int32))), .val (.int (j7 p0 p1 p2 p3 p4 p5)), .val (.int (j8 p0 p1 p2 p3 p4 p5)), .val (.ref b0_3), .val (.ref ub0_12), .val (.ref b0_15), .val (.ref b0_100), .val (.ref uu0_154), .val (.int (f_min (j7 p0 p1 p2 p3 p4 p5) (j8 p0 p1 p2 p3 p4 p5))), .val (.int (f_max (j7 p0 p1 p2 p3 p4 p5) (j8 p0 p1 p2 p3 p4 p5))), .val (.int (j16 p0 p1 p2 p3 p4 p5)), .val (.int ((f_min p0 (2147483632 : Int32)) + (15 : Int32))), .val (.int (j18 p0 p1 p2 p3 p4 p5)), .val (.int (j19 p0 p1 p2 p3 p4 p5)), .val (.int ((jb1 p0 p1 p2 p3 p4 p5) + (jb2 p0 p1 p2 p3 p4 p5))), .val (.int ((ja1 p0 p1 p2 p3 p4 p5) + (ja2 p0 p1 p2 p3 p4 p5))), .val (.int ((((jb1 p0 p1 p2 p3 p4 p5) + (jb2 p0 p1 p2 p3 p4 p5)) + (16 : Int32)) + ((ja1 p0 p1 p2 p3 p4 p5) + (ja2 p0 p1 p2 p3 p4 p5)))), .val (.int (own_irem (p4 &&& (2147483647 : Int32)) ((((jb1 p0 p1 p2 p3 p4 p5) + (jb2 p0 p1 p2 p3 p4 p5)) + (16 : Int32)) + ((ja1 p0 p1 p2 p3 p4 p5) + (ja2 p0 p1 p2 p3 p4 p5))))), .val (.int (je1 p0 p1 p2 p3 p4 p5)), .unset] [(.int (Int32.ofNat (own_J p0 p1 p2 p3 p4 p5))), (.ref uu0_154)])) rfl (by rw [hml]; rfl) (Steps.refl _) (argsL := [(.int (Int32.ofNat (own_J p0 p1 p2 p3 p4 p5)))]) (rest := []) (lenOf pd0_8 rfl) rfl (own_mr rfl) (hb hby at_586) (fun _ _ => ⟨rfl, e0_162, (by decide : 20 + 0 ≤ _), (by decide : 235 + 0 ≤ _)⟩)
      dsimp only [Pt.U, Pt.locs, Pt.cells, Pt.slots] at X0_164 l0_164 y0_164 z0_164 st0_164 hQ0_164
      subst l0_164 y0_164 z0_164
      obtain ⟨rfl, N0_164q, e0_164⟩ := hQ0_164
      have N0_164 := Fr.app Nhd0_163 N0_164q
      refine own_fw (fun t k => st0_164.trans k) ?_
      obtain ⟨Lhd0_165, Xhd0_165, Nhd0_165⟩ := own_hide X0_164 N0_164
      refine own_fw (A := T0_164.setTop (mkF m 599 #[.val (.int p0), .val (.int p1), .val (.int p2), .val (.int p3), .val (.int p4), .val (.int p5), .val (.int (f_min p0 (2147483632 : Int32))), .val (.int (j7 p0 p1 p2 p3 p4 p5)), .val (.int (j8 p0 p1 p2 p3 p4 p5)), .val (.ref b0_3), .val (.ref ub0_12), .val (.ref b0_15), .val (.ref b0_100), .val (.ref uu0_154), .val (.int (f_min (j7 p0 p1 p2 p3 p4 p5) (j8 p0 p1 p2 p3 p4 p5))), .val (.int (f_max (j7 p0 p1 p2 p3 p4 p5) (j8 p0 p1 p2 p3 p4 p5))), .val (.int (j16 p0 p1 p2 p3 p4 p5)), .val (.int ((f_min p0 (2147483632 : Int32)) + (15 : Int32))), .val (.int (j18 p0 p1 p2 p3 p4 p5)), .val (.int (j19 p0 p1 p2 p3 p4 p5)), .val (.int ((jb1 p0 p1 p2 p3 p4 p5) + (jb2 p0 p1 p2 p3 p4 p5))), .val (.int ((ja1 p0 p1 p2 p3 p4 p5) + (ja2 p0 p1 p2 p3 p4 p5))), .val (.int ((((jb1 p0 p1 p2 p3 p4 p5) + (jb2 p0 p1 p2 p3 p4 p5)) + (16 : Int32)) + ((ja1 p0 p1 p2 p3 p4 p5) + (ja2 p0 p1 p2 p3 p4 p5)))), .val (.int (own_irem (p4 &&& (2147483647 : Int32)) ((((jb1 p0 p1 p2 p3 p4 p5) + (jb2 p0 p1 p2 p3 p4 p5)) + (16 : Int32)) + ((ja1 p0 p1 p2 p3 p4 p5) + (ja2 p0 p1 p2 p3 p4 p5))))), .val (.int (je1 p0 p1 p2 p3 p4 p5)), .unset] [(.int (1 : Int32))])) (fun t k => ?_) ?_
      · refine ox_iload Xhd0_165.here hx (hb hby at_589) rfl ?_
        refine ox_icmpNo Xhd0_165.here hx (hb hby at_591) rfl (teq (own_at1 p0 p1 p2 p3 p4 p5 hc0_39)).2 ?_
        refine ox_iconst Xhd0_165.here hx (hb hby at_594) ?_
        refine ox_goto Xhd0_165.here hx (pc0 := 595) (pc' := 599) rfl (hb hby at_595) (by decide) (by decide) ?_
        exact k
      obtain ⟨fs, hr, hrun, hended, hW, hsame⟩ := Xhd0_165.leave (v := some (.int (nar .boolean (1 : Int32)))) (own_ret Bd.returns) (BodyLoose.notSynchronized Bd)
      refine ⟨_, _, retN Xhd0_165 hx (t := .boolean) Bd.returns (by simp) (hb hby at_599) hr, hrun, hended, _, _, rfl, ?_, ⟨_, rfl⟩, hW, hsame.mono (by decide) (by decide)⟩
      have eh : (T0_164.setFrames fs).heap = T0_154.heap := e0_164
      rw [eh]
      exact ⟨rfl, Nhd0_165⟩
    · refine own_fw (A := T0_162.setTop (mkF m 518 #[.val (.int p0), .val (.int p1), .val (.int p2), .val (.int p3), .val (.int p4), .val (.int p5), .val (.int (f_min p0 (2147483632 : Int32))), .val (.int (j7 p0 p1 p2 p3 p4 p5)), .val (.int (j8 p0 p1 p2 p3 p4 p5)), .val (.ref b0_3), .val (.ref ub0_12), .val (.ref b0_15), .val (.ref b0_100), .val (.ref uu0_154), .val (.int (f_min (j7 p0 p1 p2 p3 p4 p5) (j8 p0 p1 p2 p3 p4 p5))), .val (.int (f_max (j7 p0 p1 p2 p3 p4 p5) (j8 p0 p1 p2 p3 p4 p5))), .val (.int (j16 p0 p1 p2 p3 p4 p5)), .val (.int ((f_min p0 (2147483632 : Int32)) + (15 : Int32))), .val (.int (j18 p0 p1 p2 p3 p4 p5)), .val (.int (j19 p0 p1 p2 p3 p4 p5)), .val (.int ((jb1 p0 p1 p2 p3 p4 p5) + (jb2 p0 p1 p2 p3 p4 p5))), .val (.int ((ja1 p0 p1 p2 p3 p4 p5) + (ja2 p0 p1 p2 p3 p4 p5))), .val (.int ((((jb1 p0 p1 p2 p3 p4 p5) + (jb2 p0 p1 p2 p3 p4 p5)) + (16 : Int32)) + ((ja1 p0 p1 p2 p3 p4 p5) + (ja2 p0 p1 p2 p3 p4 p5)))), .val (.int (own_irem (p4 &&& (2147483647 : Int32)) ((((jb1 p0 p1 p2 p3 p4 p5) + (jb2 p0 p1 p2 p3 p4 p5)) + (16 : Int32)) + ((ja1 p0 p1 p2 p3 p4 p5) + (ja2 p0 p1 p2 p3 p4 p5))))), .unset, .unset] [])) (fun t k => ?_) ?_
      · refine ox_icmpYes Xhd0_163.here hx (pc0 := 498) (pc' := 518) rfl (hb hby at_498) rfl (flt hc0_39).2.1 (by decide) (by decide) ?_
        exact k
      refine own_fw (A := T0_162.setTop (mkF m 525 #[.val (.int p0), .val (.int p1), .val (.int p2), .val (.int p3), .val (.int p4), .val (.int p5), .val (.int (f_min p0 (2147483632 : Int32))), .val (.int (j7 p0 p1 p2 p3 p4 p5)), .val (.int (j8 p0 p1 p2 p3 p4 p5)), .val (.ref b0_3), .val (.ref ub0_12), .val (.ref b0_15), .val (.ref b0_100), .val (.ref uu0_154), .val (.int (f_min (j7 p0 p1 p2 p3 p4 p5) (j8 p0 p1 p2 p3 p4 p5))), .val (.int (f_max (j7 p0 p1 p2 p3 p4 p5) (j8 p0 p1 p2 p3 p4 p5))), .val (.int (j16 p0 p1 p2 p3 p4 p5)), .val (.int ((f_min p0 (2147483632 : Int32)) + (15 : Int32))), .val (.int (j18 p0 p1 p2 p3 p4 p5)), .val (.int (j19 p0 p1 p2 p3 p4 p5)), .val (.int ((jb1 p0 p1 p2 p3 p4 p5) + (jb2 p0 p1 p2 p3 p4 p5))), .val (.int ((ja1 p0 p1 p2 p3 p4 p5) + (ja2 p0 p1 p2 p3 p4 p5))), .val (.int ((((jb1 p0 p1 p2 p3 p4 p5) + (jb2 p0 p1 p2 p3 p4 p5)) + (16 : Int32)) + ((ja1 p0 p1 p2 p3 p4 p5) + (ja2 p0 p1 p2 p3 p4 p5)))), .val (.int (own_irem (p4 &&& (2147483647 : Int32)) ((((jb1 p0 p1 p2 p3 p4 p5) + (jb2 p0 p1 p2 p3 p4 p5)) + (16 : Int32)) + ((ja1 p0 p1 p2 p3 p4 p5) + (ja2 p0 p1 p2 p3 p4 p5))))), .unset, .unset] [(.int (((jb1 p0 p1 p2 p3 p4 p5) + (jb2 p0 p1 p2 p3 p4 p5)) + (16 : Int32))), (.int (own_irem (p4 &&& (2147483647 : Int32)) ((((jb1 p0 p1 p2 p3 p4 p5) + (jb2 p0 p1 p2 p3 p4 p5)) + (16 : Int32)) + ((ja1 p0 p1 p2 p3 p4 p5) + (ja2 p0 p1 p2 p3 p4 p5)))))])) (fun t k => ?_) ?_
      · refine ox_iload Xhd0_163.here hx (hb hby at_518) rfl ?_
        refine ox_iload Xhd0_163.here hx (hb hby at_520) rfl ?_
        refine ox_bipush Xhd0_163.here hx (hb hby at_522) ?_
        refine ox_iadd Xhd0_163.here hx (hb hby at_524) rfl ?_
        exact k
      by_cases hc0_41 : (own_irem (p4 &&& (2147483647 : Int32)) ((((jb1 p0 p1 p2 p3 p4 p5) + (jb2 p0 p1 p2 p3 p4 p5)) + (16 : Int32)) + ((ja1 p0 p1 p2 p3 p4 p5) + (ja2 p0 p1 p2 p3 p4 p5)))) < (((jb1 p0 p1 p2 p3 p4 p5) + (jb2 p0 p1 p2 p3 p4 p5)) + (16 : Int32))
      · refine own_fw (A := T0_162.setTop (mkF m 528 #[.val (.int p0), .val (.int p1), .val (.int p2), .val (.int p3), .val (.int p4), .val (.int p5), .val (.int (f_min p0 (2147483632 : Int32))), .val (.int (j7 p0 p1 p2 p3 p4 p5)), .val (.int (j8 p0 p1 p2 p3 p4 p5)), .val (.ref b0_3), .val (.ref ub0_12), .val (.ref b0_15), .val (.ref b0_100), .val (.ref uu0_154), .val (.int (f_min (j7 p0 p1 p2 p3 p4 p5) (j8 p0 p1 p2 p3 p4 p5))), .val (.int (f_max (j7 p0 p1 p2 p3 p4 p5) (j8 p0 p1 p2 p3 p4 p5))), .val (.int (j16 p0 p1 p2 p3 p4 p5)), .val (.int ((f_min p0 (2147483632 : Int32)) + (15 : Int32))), .val (.int (j18 p0 p1 p2 p3 p4 p5)), .val (.int (j19 p0 p1 p2 p3 p4 p5)), .val (.int ((jb1 p0 p1 p2 p3 p4 p5) + (jb2 p0 p1 p2 p3 p4 p5))), .val (.int ((ja1 p0 p1 p2 p3 p4 p5) + (ja2 p0 p1 p2 p3 p4 p5))), .val (.int ((((jb1 p0 p1 p2 p3 p4 p5) + (jb2 p0 p1 p2 p3 p4 p5)) + (16 : Int32)) + ((ja1 p0 p1 p2 p3 p4 p5) + (ja2 p0 p1 p2 p3 p4 p5)))), .val (.int (own_irem (p4 &&& (2147483647 : Int32)) ((((jb1 p0 p1 p2 p3 p4 p5) + (jb2 p0 p1 p2 p3 p4 p5)) + (16 : Int32)) + ((ja1 p0 p1 p2 p3 p4 p5) + (ja2 p0 p1 p2 p3 p4 p5))))), .unset, .unset] [])) (fun t k => ?_) ?_
        · refine ox_icmpNo Xhd0_163.here hx (hb hby at_525) rfl (tlt hc0_41).2.1 ?_
          exact k
        refine own_fw (A := T0_162.setTop (mkF m 586 #[.val (.int p0), .val (.int p1), .val (.int p2), .val (.int p3), .val (.int p4), .val (.int p5), .val (.int (f_min p0 (2147483632 : Int32))), .val (.int (j7 p0 p1 p2 p3 p4 p5)), .val (.int (j8 p0 p1 p2 p3 p4 p5)), .val (.ref b0_3), .val (.ref ub0_12), .val (.ref b0_15), .val (.ref b0_100), .val (.ref uu0_154), .val (.int (f_min (j7 p0 p1 p2 p3 p4 p5) (j8 p0 p1 p2 p3 p4 p5))), .val (.int (f_max (j7 p0 p1 p2 p3 p4 p5) (j8 p0 p1 p2 p3 p4 p5))), .val (.int (j16 p0 p1 p2 p3 p4 p5)), .val (.int ((f_min p0 (2147483632 : Int32)) + (15 : Int32))), .val (.int (j18 p0 p1 p2 p3 p4 p5)), .val (.int (j19 p0 p1 p2 p3 p4 p5)), .val (.int ((jb1 p0 p1 p2 p3 p4 p5) + (jb2 p0 p1 p2 p3 p4 p5))), .val (.int ((ja1 p0 p1 p2 p3 p4 p5) + (ja2 p0 p1 p2 p3 p4 p5))), .val (.int ((((jb1 p0 p1 p2 p3 p4 p5) + (jb2 p0 p1 p2 p3 p4 p5)) + (16 : Int32)) + ((ja1 p0 p1 p2 p3 p4 p5) + (ja2 p0 p1 p2 p3 p4 p5)))), .val (.int (own_irem (p4 &&& (2147483647 : Int32)) ((((jb1 p0 p1 p2 p3 p4 p5) + (jb2 p0 p1 p2 p3 p4 p5)) + (16 : Int32)) + ((ja1 p0 p1 p2 p3 p4 p5) + (ja2 p0 p1 p2 p3 p4 p5))))), .val (.int ((f_min p0 (2147483632 : Int32)) + ((own_irem (p4 &&& (2147483647 : Int32)) ((((jb1 p0 p1 p2 p3 p4 p5) + (jb2 p0 p1 p2 p3 p4 p5)) + (16 : Int32)) + ((ja1 p0 p1 p2 p3 p4 p5) + (ja2 p0 p1 p2 p3 p4 p5)))) - ((jb1 p0 p1 p2 p3 p4 p5) + (jb2 p0 p1 p2 p3 p4 p5))))), .unset] [(.int (own_irem (p4 &&& (2147483647 : Int32)) ((((jb1 p0 p1 p2 p3 p4 p5) + (jb2 p0 p1 p2 p3 p4 p5)) + (16 : Int32)) + ((ja1 p0 p1 p2 p3 p4 p5) + (ja2 p0 p1 p2 p3 p4 p5))))), (.ref uu0_154)])) (fun t k => ?_) ?_
        · refine ox_iload Xhd0_163.here hx (hb hby at_528) rfl ?_
          refine ox_iload Xhd0_163.here hx (hb hby at_530) rfl ?_
          refine ox_iload Xhd0_163.here hx (hb hby at_532) rfl ?_
          refine ox_isub Xhd0_163.here hx (hb hby at_534) rfl ?_
          refine ox_iadd Xhd0_163.here hx (hb hby at_535) rfl ?_
          refine ox_istore Xhd0_163.here hx (hb hby at_536) rfl (l' := #[.val (.int p0), .val (.int p1), .val (.int p2), .val (.int p3), .val (.int p4), .val (.int p5), .val (.int (f_min p0 (2147483632 : Int32))), .val (.int (j7 p0 p1 p2 p3 p4 p5)), .val (.int (j8 p0 p1 p2 p3 p4 p5)), .val (.ref b0_3), .val (.ref ub0_12), .val (.ref b0_15), .val (.ref b0_100), .val (.ref uu0_154), .val (.int (f_min (j7 p0 p1 p2 p3 p4 p5) (j8 p0 p1 p2 p3 p4 p5))), .val (.int (f_max (j7 p0 p1 p2 p3 p4 p5) (j8 p0 p1 p2 p3 p4 p5))), .val (.int (j16 p0 p1 p2 p3 p4 p5)), .val (.int ((f_min p0 (2147483632 : Int32)) + (15 : Int32))), .val (.int (j18 p0 p1 p2 p3 p4 p5)), .val (.int (j19 p0 p1 p2 p3 p4 p5)), .val (.int ((jb1 p0 p1 p2 p3 p4 p5) + (jb2 p0 p1 p2 p3 p4 p5))), .val (.int ((ja1 p0 p1 p2 p3 p4 p5) + (ja2 p0 p1 p2 p3 p4 p5))), .val (.int ((((jb1 p0 p1 p2 p3 p4 p5) + (jb2 p0 p1 p2 p3 p4 p5)) + (16 : Int32)) + ((ja1 p0 p1 p2 p3 p4 p5) + (ja2 p0 p1 p2 p3 p4 p5)))), .val (.int (own_irem (p4 &&& (2147483647 : Int32)) ((((jb1 p0 p1 p2 p3 p4 p5) + (jb2 p0 p1 p2 p3 p4 p5)) + (16 : Int32)) + ((ja1 p0 p1 p2 p3 p4 p5) + (ja2 p0 p1 p2 p3 p4 p5))))), .val (.int ((f_min p0 (2147483632 : Int32)) + ((own_irem (p4 &&& (2147483647 : Int32)) ((((jb1 p0 p1 p2 p3 p4 p5) + (jb2 p0 p1 p2 p3 p4 p5)) + (16 : Int32)) + ((ja1 p0 p1 p2 p3 p4 p5) + (ja2 p0 p1 p2 p3 p4 p5)))) - ((jb1 p0 p1 p2 p3 p4 p5) + (jb2 p0 p1 p2 p3 p4 p5))))), .unset]) rfl ?_
          refine ox_goto Xhd0_163.here hx (pc0 := 538) (pc' := 582) rfl (hb hby at_538) (by decide) (by decide) ?_
          refine ox_aload Xhd0_163.here hx (hb hby at_582) rfl rfl ?_
          refine ox_iload Xhd0_163.here hx (hb hby at_584) rfl ?_
          exact k
        refine own_fw (A := T0_162.setTop (mkF m 586 #[.val (.int p0), .val (.int p1), .val (.int p2), .val (.int p3), .val (.int p4), .val (.int p5), .val (.int (f_min p0 (2147483632 : Int32))), .val (.int (j7 p0 p1 p2 p3 p4 p5)), .val (.int (j8 p0 p1 p2 p3 p4 p5)), .val (.ref b0_3), .val (.ref ub0_12), .val (.ref b0_15), .val (.ref b0_100), .val (.ref uu0_154), .val (.int (f_min (j7 p0 p1 p2 p3 p4 p5) (j8 p0 p1 p2 p3 p4 p5))), .val (.int (f_max (j7 p0 p1 p2 p3 p4 p5) (j8 p0 p1 p2 p3 p4 p5))), .val (.int (j16 p0 p1 p2 p3 p4 p5)), .val (.int ((f_min p0 (2147483632 : Int32)) + (15 : Int32))), .val (.int (j18 p0 p1 p2 p3 p4 p5)), .val (.int (j19 p0 p1 p2 p3 p4 p5)), .val (.int ((jb1 p0 p1 p2 p3 p4 p5) + (jb2 p0 p1 p2 p3 p4 p5))), .val (.int ((ja1 p0 p1 p2 p3 p4 p5) + (ja2 p0 p1 p2 p3 p4 p5))), .val (.int ((((jb1 p0 p1 p2 p3 p4 p5) + (jb2 p0 p1 p2 p3 p4 p5)) + (16 : Int32)) + ((ja1 p0 p1 p2 p3 p4 p5) + (ja2 p0 p1 p2 p3 p4 p5)))), .val (.int (own_irem (p4 &&& (2147483647 : Int32)) ((((jb1 p0 p1 p2 p3 p4 p5) + (jb2 p0 p1 p2 p3 p4 p5)) + (16 : Int32)) + ((ja1 p0 p1 p2 p3 p4 p5) + (ja2 p0 p1 p2 p3 p4 p5))))), .val (.int ((f_min p0 (2147483632 : Int32)) + ((own_irem (p4 &&& (2147483647 : Int32)) ((((jb1 p0 p1 p2 p3 p4 p5) + (jb2 p0 p1 p2 p3 p4 p5)) + (16 : Int32)) + ((ja1 p0 p1 p2 p3 p4 p5) + (ja2 p0 p1 p2 p3 p4 p5)))) - ((jb1 p0 p1 p2 p3 p4 p5) + (jb2 p0 p1 p2 p3 p4 p5))))), .unset] [(.int (Int32.ofNat (own_J p0 p1 p2 p3 p4 p5))), (.ref uu0_154)])) (fun t k => castTop (congrArg (fun z => (mkF m 586 #[.val (.int p0), .val (.int p1), .val (.int p2), .val (.int p3), .val (.int p4), .val (.int p5), .val (.int (f_min p0 (2147483632 : Int32))), .val (.int (j7 p0 p1 p2 p3 p4 p5)), .val (.int (j8 p0 p1 p2 p3 p4 p5)), .val (.ref b0_3), .val (.ref ub0_12), .val (.ref b0_15), .val (.ref b0_100), .val (.ref uu0_154), .val (.int (f_min (j7 p0 p1 p2 p3 p4 p5) (j8 p0 p1 p2 p3 p4 p5))), .val (.int (f_max (j7 p0 p1 p2 p3 p4 p5) (j8 p0 p1 p2 p3 p4 p5))), .val (.int (j16 p0 p1 p2 p3 p4 p5)), .val (.int ((f_min p0 (2147483632 : Int32)) + (15 : Int32))), .val (.int (j18 p0 p1 p2 p3 p4 p5)), .val (.int (j19 p0 p1 p2 p3 p4 p5)), .val (.int ((jb1 p0 p1 p2 p3 p4 p5) + (jb2 p0 p1 p2 p3 p4 p5))), .val (.int ((ja1 p0 p1 p2 p3 p4 p5) + (ja2 p0 p1 p2 p3 p4 p5))), .val (.int ((((jb1 p0 p1 p2 p3 p4 p5) + (jb2 p0 p1 p2 p3 p4 p5)) + (16 : Int32)) + ((ja1 p0 p1 p2 p3 p4 p5) + (ja2 p0 p1 p2 p3 p4 p5)))), .val (.int (own_irem (p4 &&& (2147483647 : Int32)) ((((jb1 p0 p1 p2 p3 p4 p5) + (jb2 p0 p1 p2 p3 p4 p5)) + (16 : Int32)) + ((ja1 p0 p1 p2 p3 p4 p5) + (ja2 p0 p1 p2 p3 p4 p5))))), .val (.int ((f_min p0 (2147483632 : Int32)) + ((own_irem (p4 &&& (2147483647 : Int32)) ((((jb1 p0 p1 p2 p3 p4 p5) + (jb2 p0 p1 p2 p3 p4 p5)) + (16 : Int32)) + ((ja1 p0 p1 p2 p3 p4 p5) + (ja2 p0 p1 p2 p3 p4 p5)))) - ((jb1 p0 p1 p2 p3 p4 p5) + (jb2 p0 p1 p2 p3 p4 p5))))), .unset] [(.int z), (.ref uu0_154)])) (own_JR p0 p1 p2 p3 p4 p5)) k) ?_
        obtain ⟨cq0_166, kq0_166, q0_166a, q0_166b, q0_166c⟩ := isOf hZ e0_162 Eu0_154
        obtain ⟨_, _, ⟨T0_166, L0_166, k0_166, n0_166⟩, -, X0_166, ⟨Lc0_166, hQ0_166, l0_166, y0_166, z0_166⟩, st0_166⟩ := Xhd0_163.virtualBack hx (y := mN1) (z := mN1) hown (mvT hZ (own_w hw 213 rfl)) (mvT hZ (own_w hw 204 rfl)) (notFace_of_selects (args := #[]) (mvT hZ (own_w hw 206 rfl))) (mvT hZ (own_w hw 206 rfl)) (mvT hZ (own_w hw 205 rfl)) (by decide) (backOf (W := 0) (rm28 l Z a0 hw [] uu0_154 mu0_154 kI (own_exp (f_min p0 (2147483632 : Int32)) (j7 p0 p1 p2 p3 p4 p5) (j8 p0 p1 p2 p3 p4 p5)).length (own_exp (f_min p0 (2147483632 : Int32)) (j7 p0 p1 p2 p3 p4 p5) (j8 p0 p1 p2 p3 p4 p5)) (own_J p0 p1 p2 p3 p4 p5) T0_154.heap n0 (Nat.le_trans (Nat.le_trans fc0_145 K0_147.1) K0_154.1) Fu0_154 Iu0_154 (own_Jlt p0 p1 p2 p3 p4 p5)) hZ (own_w hw 207 rfl) (own_w hw 53 rfl) (by decide) (by decide)) q0_166a q0_166c (g := (mkF m 586 #[.val (.int p0), .val (.int p1), .val (.int p2), .val (.int p3), .val (.int p4), .val (.int p5), .val (.int (f_min p0 (2147483632 : Int32))), .val (.int (j7 p0 p1 p2 p3 p4 p5)), .val (.int (j8 p0 p1 p2 p3 p4 p5)), .val (.ref b0_3), .val (.ref ub0_12), .val (.ref b0_15), .val (.ref b0_100), .val (.ref uu0_154), .val (.int (f_min (j7 p0 p1 p2 p3 p4 p5) (j8 p0 p1 p2 p3 p4 p5))), .val (.int (f_max (j7 p0 p1 p2 p3 p4 p5) (j8 p0 p1 p2 p3 p4 p5))), .val (.int (j16 p0 p1 p2 p3 p4 p5)), .val (.int ((f_min p0 (2147483632 : Int32)) + (15 : Int32))), .val (.int (j18 p0 p1 p2 p3 p4 p5)), .val (.int (j19 p0 p1 p2 p3 p4 p5)), .val (.int ((jb1 p0 p1 p2 p3 p4 p5) + (jb2 p0 p1 p2 p3 p4 p5))), .val (.int ((ja1 p0 p1 p2 p3 p4 p5) + (ja2 p0 p1 p2 p3 p4 p5))), .val (.int ((((jb1 p0 p1 p2 p3 p4 p5) + (jb2 p0 p1 p2 p3 p4 p5)) + (16 : Int32)) + ((ja1 p0 p1 p2 p3 p4 p5) + (ja2 p0 p1 p2 p3 p4 p5)))), .val (.int (own_irem (p4 &&& (2147483647 : Int32)) ((((jb1 p0 p1 p2 p3 p4 p5) + (jb2 p0 p1 p2 p3 p4 p5)) + (16 : Int32)) + ((ja1 p0 p1 p2 p3 p4 p5) + (ja2 p0 p1 p2 p3 p4 p5))))), .val (.int ((f_min p0 (2147483632 : Int32)) + ((own_irem (p4 &&& (2147483647 : Int32)) ((((jb1 p0 p1 p2 p3 p4 p5) + (jb2 p0 p1 p2 p3 p4 p5)) + (16 : Int32)) + ((ja1 p0 p1 p2 p3 p4 p5) + (ja2 p0 p1 p2 p3 p4 p5)))) - ((jb1 p0 p1 p2 p3 p4 p5) + (jb2 p0 p1 p2 p3 p4 p5))))), .unset] [(.int (Int32.ofNat (own_J p0 p1 p2 p3 p4 p5))), (.ref uu0_154)])) rfl (by rw [hml]; rfl) (Steps.refl _) (argsL := [(.int (Int32.ofNat (own_J p0 p1 p2 p3 p4 p5)))]) (rest := []) (lenOf pd0_8 rfl) rfl (own_mr rfl) (hb hby at_586) (fun _ _ => ⟨rfl, e0_162, (by decide : 20 + 0 ≤ _), (by decide : 235 + 0 ≤ _)⟩)
        dsimp only [Pt.U, Pt.locs, Pt.cells, Pt.slots] at X0_166 l0_166 y0_166 z0_166 st0_166 hQ0_166
        subst l0_166 y0_166 z0_166
        obtain ⟨rfl, N0_166q, e0_166⟩ := hQ0_166
        have N0_166 := Fr.app Nhd0_163 N0_166q
        refine own_fw (fun t k => st0_166.trans k) ?_
        obtain ⟨Lhd0_167, Xhd0_167, Nhd0_167⟩ := own_hide X0_166 N0_166
        refine own_fw (A := T0_166.setTop (mkF m 599 #[.val (.int p0), .val (.int p1), .val (.int p2), .val (.int p3), .val (.int p4), .val (.int p5), .val (.int (f_min p0 (2147483632 : Int32))), .val (.int (j7 p0 p1 p2 p3 p4 p5)), .val (.int (j8 p0 p1 p2 p3 p4 p5)), .val (.ref b0_3), .val (.ref ub0_12), .val (.ref b0_15), .val (.ref b0_100), .val (.ref uu0_154), .val (.int (f_min (j7 p0 p1 p2 p3 p4 p5) (j8 p0 p1 p2 p3 p4 p5))), .val (.int (f_max (j7 p0 p1 p2 p3 p4 p5) (j8 p0 p1 p2 p3 p4 p5))), .val (.int (j16 p0 p1 p2 p3 p4 p5)), .val (.int ((f_min p0 (2147483632 : Int32)) + (15 : Int32))), .val (.int (j18 p0 p1 p2 p3 p4 p5)), .val (.int (j19 p0 p1 p2 p3 p4 p5)), .val (.int ((jb1 p0 p1 p2 p3 p4 p5) + (jb2 p0 p1 p2 p3 p4 p5))), .val (.int ((ja1 p0 p1 p2 p3 p4 p5) + (ja2 p0 p1 p2 p3 p4 p5))), .val (.int ((((jb1 p0 p1 p2 p3 p4 p5) + (jb2 p0 p1 p2 p3 p4 p5)) + (16 : Int32)) + ((ja1 p0 p1 p2 p3 p4 p5) + (ja2 p0 p1 p2 p3 p4 p5)))), .val (.int (own_irem (p4 &&& (2147483647 : Int32)) ((((jb1 p0 p1 p2 p3 p4 p5) + (jb2 p0 p1 p2 p3 p4 p5)) + (16 : Int32)) + ((ja1 p0 p1 p2 p3 p4 p5) + (ja2 p0 p1 p2 p3 p4 p5))))), .val (.int ((f_min p0 (2147483632 : Int32)) + ((own_irem (p4 &&& (2147483647 : Int32)) ((((jb1 p0 p1 p2 p3 p4 p5) + (jb2 p0 p1 p2 p3 p4 p5)) + (16 : Int32)) + ((ja1 p0 p1 p2 p3 p4 p5) + (ja2 p0 p1 p2 p3 p4 p5)))) - ((jb1 p0 p1 p2 p3 p4 p5) + (jb2 p0 p1 p2 p3 p4 p5))))), .unset] [(.int (1 : Int32))])) (fun t k => ?_) ?_
        · refine ox_iload Xhd0_167.here hx (hb hby at_589) rfl ?_
          refine ox_icmpNo Xhd0_167.here hx (hb hby at_591) rfl (teq (own_at2 p0 p1 p2 p3 p4 p5 hc0_39 hc0_41)).2 ?_
          refine ox_iconst Xhd0_167.here hx (hb hby at_594) ?_
          refine ox_goto Xhd0_167.here hx (pc0 := 595) (pc' := 599) rfl (hb hby at_595) (by decide) (by decide) ?_
          exact k
        obtain ⟨fs, hr, hrun, hended, hW, hsame⟩ := Xhd0_167.leave (v := some (.int (nar .boolean (1 : Int32)))) (own_ret Bd.returns) (BodyLoose.notSynchronized Bd)
        refine ⟨_, _, retN Xhd0_167 hx (t := .boolean) Bd.returns (by simp) (hb hby at_599) hr, hrun, hended, _, _, rfl, ?_, ⟨_, rfl⟩, hW, hsame.mono (by decide) (by decide)⟩
        have eh : (T0_166.setFrames fs).heap = T0_154.heap := e0_166
        rw [eh]
        exact ⟨rfl, Nhd0_167⟩
      · refine own_fw (A := T0_162.setTop (mkF m 541 #[.val (.int p0), .val (.int p1), .val (.int p2), .val (.int p3), .val (.int p4), .val (.int p5), .val (.int (f_min p0 (2147483632 : Int32))), .val (.int (j7 p0 p1 p2 p3 p4 p5)), .val (.int (j8 p0 p1 p2 p3 p4 p5)), .val (.ref b0_3), .val (.ref ub0_12), .val (.ref b0_15), .val (.ref b0_100), .val (.ref uu0_154), .val (.int (f_min (j7 p0 p1 p2 p3 p4 p5) (j8 p0 p1 p2 p3 p4 p5))), .val (.int (f_max (j7 p0 p1 p2 p3 p4 p5) (j8 p0 p1 p2 p3 p4 p5))), .val (.int (j16 p0 p1 p2 p3 p4 p5)), .val (.int ((f_min p0 (2147483632 : Int32)) + (15 : Int32))), .val (.int (j18 p0 p1 p2 p3 p4 p5)), .val (.int (j19 p0 p1 p2 p3 p4 p5)), .val (.int ((jb1 p0 p1 p2 p3 p4 p5) + (jb2 p0 p1 p2 p3 p4 p5))), .val (.int ((ja1 p0 p1 p2 p3 p4 p5) + (ja2 p0 p1 p2 p3 p4 p5))), .val (.int ((((jb1 p0 p1 p2 p3 p4 p5) + (jb2 p0 p1 p2 p3 p4 p5)) + (16 : Int32)) + ((ja1 p0 p1 p2 p3 p4 p5) + (ja2 p0 p1 p2 p3 p4 p5)))), .val (.int (own_irem (p4 &&& (2147483647 : Int32)) ((((jb1 p0 p1 p2 p3 p4 p5) + (jb2 p0 p1 p2 p3 p4 p5)) + (16 : Int32)) + ((ja1 p0 p1 p2 p3 p4 p5) + (ja2 p0 p1 p2 p3 p4 p5))))), .unset, .unset] [])) (fun t k => ?_) ?_
        · refine ox_icmpYes Xhd0_163.here hx (pc0 := 525) (pc' := 541) rfl (hb hby at_525) rfl (flt hc0_41).2.1 (by decide) (by decide) ?_
          exact k
        refine own_fw (A := T0_162.setTop (mkF m 551 #[.val (.int p0), .val (.int p1), .val (.int p2), .val (.int p3), .val (.int p4), .val (.int p5), .val (.int (f_min p0 (2147483632 : Int32))), .val (.int (j7 p0 p1 p2 p3 p4 p5)), .val (.int (j8 p0 p1 p2 p3 p4 p5)), .val (.ref b0_3), .val (.ref ub0_12), .val (.ref b0_15), .val (.ref b0_100), .val (.ref uu0_154), .val (.int (f_min (j7 p0 p1 p2 p3 p4 p5) (j8 p0 p1 p2 p3 p4 p5))), .val (.int (f_max (j7 p0 p1 p2 p3 p4 p5) (j8 p0 p1 p2 p3 p4 p5))), .val (.int (j16 p0 p1 p2 p3 p4 p5)), .val (.int ((f_min p0 (2147483632 : Int32)) + (15 : Int32))), .val (.int (j18 p0 p1 p2 p3 p4 p5)), .val (.int (j19 p0 p1 p2 p3 p4 p5)), .val (.int ((jb1 p0 p1 p2 p3 p4 p5) + (jb2 p0 p1 p2 p3 p4 p5))), .val (.int ((ja1 p0 p1 p2 p3 p4 p5) + (ja2 p0 p1 p2 p3 p4 p5))), .val (.int ((((jb1 p0 p1 p2 p3 p4 p5) + (jb2 p0 p1 p2 p3 p4 p5)) + (16 : Int32)) + ((ja1 p0 p1 p2 p3 p4 p5) + (ja2 p0 p1 p2 p3 p4 p5)))), .val (.int (own_irem (p4 &&& (2147483647 : Int32)) ((((jb1 p0 p1 p2 p3 p4 p5) + (jb2 p0 p1 p2 p3 p4 p5)) + (16 : Int32)) + ((ja1 p0 p1 p2 p3 p4 p5) + (ja2 p0 p1 p2 p3 p4 p5))))), .unset, .val (.int (((own_irem (p4 &&& (2147483647 : Int32)) ((((jb1 p0 p1 p2 p3 p4 p5) + (jb2 p0 p1 p2 p3 p4 p5)) + (16 : Int32)) + ((ja1 p0 p1 p2 p3 p4 p5) + (ja2 p0 p1 p2 p3 p4 p5)))) - ((jb1 p0 p1 p2 p3 p4 p5) + (jb2 p0 p1 p2 p3 p4 p5))) - (16 : Int32)))] [])) (fun t k => ?_) ?_
        · refine ox_iload Xhd0_163.here hx (hb hby at_541) rfl ?_
          refine ox_iload Xhd0_163.here hx (hb hby at_543) rfl ?_
          refine ox_isub Xhd0_163.here hx (hb hby at_545) rfl ?_
          refine ox_bipush Xhd0_163.here hx (hb hby at_546) ?_
          refine ox_isub Xhd0_163.here hx (hb hby at_548) rfl ?_
          refine ox_istore Xhd0_163.here hx (hb hby at_549) rfl (l' := #[.val (.int p0), .val (.int p1), .val (.int p2), .val (.int p3), .val (.int p4), .val (.int p5), .val (.int (f_min p0 (2147483632 : Int32))), .val (.int (j7 p0 p1 p2 p3 p4 p5)), .val (.int (j8 p0 p1 p2 p3 p4 p5)), .val (.ref b0_3), .val (.ref ub0_12), .val (.ref b0_15), .val (.ref b0_100), .val (.ref uu0_154), .val (.int (f_min (j7 p0 p1 p2 p3 p4 p5) (j8 p0 p1 p2 p3 p4 p5))), .val (.int (f_max (j7 p0 p1 p2 p3 p4 p5) (j8 p0 p1 p2 p3 p4 p5))), .val (.int (j16 p0 p1 p2 p3 p4 p5)), .val (.int ((f_min p0 (2147483632 : Int32)) + (15 : Int32))), .val (.int (j18 p0 p1 p2 p3 p4 p5)), .val (.int (j19 p0 p1 p2 p3 p4 p5)), .val (.int ((jb1 p0 p1 p2 p3 p4 p5) + (jb2 p0 p1 p2 p3 p4 p5))), .val (.int ((ja1 p0 p1 p2 p3 p4 p5) + (ja2 p0 p1 p2 p3 p4 p5))), .val (.int ((((jb1 p0 p1 p2 p3 p4 p5) + (jb2 p0 p1 p2 p3 p4 p5)) + (16 : Int32)) + ((ja1 p0 p1 p2 p3 p4 p5) + (ja2 p0 p1 p2 p3 p4 p5)))), .val (.int (own_irem (p4 &&& (2147483647 : Int32)) ((((jb1 p0 p1 p2 p3 p4 p5) + (jb2 p0 p1 p2 p3 p4 p5)) + (16 : Int32)) + ((ja1 p0 p1 p2 p3 p4 p5) + (ja2 p0 p1 p2 p3 p4 p5))))), .unset, .val (.int (((own_irem (p4 &&& (2147483647 : Int32)) ((((jb1 p0 p1 p2 p3 p4 p5) + (jb2 p0 p1 p2 p3 p4 p5)) + (16 : Int32)) + ((ja1 p0 p1 p2 p3 p4 p5) + (ja2 p0 p1 p2 p3 p4 p5)))) - ((jb1 p0 p1 p2 p3 p4 p5) + (jb2 p0 p1 p2 p3 p4 p5))) - (16 : Int32)))]) rfl ?_
          exact k
        have sg0_551 : ∀ t, Steps p.tables e below (T0_162.setTop (mkF m 580 #[.val (.int p0), .val (.int p1), .val (.int p2), .val (.int p3), .val (.int p4), .val (.int p5), .val (.int (f_min p0 (2147483632 : Int32))), .val (.int (j7 p0 p1 p2 p3 p4 p5)), .val (.int (j8 p0 p1 p2 p3 p4 p5)), .val (.ref b0_3), .val (.ref ub0_12), .val (.ref b0_15), .val (.ref b0_100), .val (.ref uu0_154), .val (.int (f_min (j7 p0 p1 p2 p3 p4 p5) (j8 p0 p1 p2 p3 p4 p5))), .val (.int (f_max (j7 p0 p1 p2 p3 p4 p5) (j8 p0 p1 p2 p3 p4 p5))), .val (.int (j16 p0 p1 p2 p3 p4 p5)), .val (.int ((f_min p0 (2147483632 : Int32)) + (15 : Int32))), .val (.int (j18 p0 p1 p2 p3 p4 p5)), .val (.int (j19 p0 p1 p2 p3 p4 p5)), .val (.int ((jb1 p0 p1 p2 p3 p4 p5) + (jb2 p0 p1 p2 p3 p4 p5))), .val (.int ((ja1 p0 p1 p2 p3 p4 p5) + (ja2 p0 p1 p2 p3 p4 p5))), .val (.int ((((jb1 p0 p1 p2 p3 p4 p5) + (jb2 p0 p1 p2 p3 p4 p5)) + (16 : Int32)) + ((ja1 p0 p1 p2 p3 p4 p5) + (ja2 p0 p1 p2 p3 p4 p5)))), .val (.int (own_irem (p4 &&& (2147483647 : Int32)) ((((jb1 p0 p1 p2 p3 p4 p5) + (jb2 p0 p1 p2 p3 p4 p5)) + (16 : Int32)) + ((ja1 p0 p1 p2 p3 p4 p5) + (ja2 p0 p1 p2 p3 p4 p5))))), .unset, .val (.int (((own_irem (p4 &&& (2147483647 : Int32)) ((((jb1 p0 p1 p2 p3 p4 p5) + (jb2 p0 p1 p2 p3 p4 p5)) + (16 : Int32)) + ((ja1 p0 p1 p2 p3 p4 p5) + (ja2 p0 p1 p2 p3 p4 p5)))) - ((jb1 p0 p1 p2 p3 p4 p5) + (jb2 p0 p1 p2 p3 p4 p5))) - (16 : Int32)))] [(.int (je3 p0 p1 p2 p3 p4 p5))])) t → Steps p.tables e below (T0_162.setTop (mkF m 551 #[.val (.int p0), .val (.int p1), .val (.int p2), .val (.int p3), .val (.int p4), .val (.int p5), .val (.int (f_min p0 (2147483632 : Int32))), .val (.int (j7 p0 p1 p2 p3 p4 p5)), .val (.int (j8 p0 p1 p2 p3 p4 p5)), .val (.ref b0_3), .val (.ref ub0_12), .val (.ref b0_15), .val (.ref b0_100), .val (.ref uu0_154), .val (.int (f_min (j7 p0 p1 p2 p3 p4 p5) (j8 p0 p1 p2 p3 p4 p5))), .val (.int (f_max (j7 p0 p1 p2 p3 p4 p5) (j8 p0 p1 p2 p3 p4 p5))), .val (.int (j16 p0 p1 p2 p3 p4 p5)), .val (.int ((f_min p0 (2147483632 : Int32)) + (15 : Int32))), .val (.int (j18 p0 p1 p2 p3 p4 p5)), .val (.int (j19 p0 p1 p2 p3 p4 p5)), .val (.int ((jb1 p0 p1 p2 p3 p4 p5) + (jb2 p0 p1 p2 p3 p4 p5))), .val (.int ((ja1 p0 p1 p2 p3 p4 p5) + (ja2 p0 p1 p2 p3 p4 p5))), .val (.int ((((jb1 p0 p1 p2 p3 p4 p5) + (jb2 p0 p1 p2 p3 p4 p5)) + (16 : Int32)) + ((ja1 p0 p1 p2 p3 p4 p5) + (ja2 p0 p1 p2 p3 p4 p5)))), .val (.int (own_irem (p4 &&& (2147483647 : Int32)) ((((jb1 p0 p1 p2 p3 p4 p5) + (jb2 p0 p1 p2 p3 p4 p5)) + (16 : Int32)) + ((ja1 p0 p1 p2 p3 p4 p5) + (ja2 p0 p1 p2 p3 p4 p5))))), .unset, .val (.int (((own_irem (p4 &&& (2147483647 : Int32)) ((((jb1 p0 p1 p2 p3 p4 p5) + (jb2 p0 p1 p2 p3 p4 p5)) + (16 : Int32)) + ((ja1 p0 p1 p2 p3 p4 p5) + (ja2 p0 p1 p2 p3 p4 p5)))) - ((jb1 p0 p1 p2 p3 p4 p5) + (jb2 p0 p1 p2 p3 p4 p5))) - (16 : Int32)))] [])) t := by
          intro t k
          refine ox_iload Xhd0_163.here hx (hb hby at_551) rfl ?_
          by_cases hc0_42 : (((own_irem (p4 &&& (2147483647 : Int32)) ((((jb1 p0 p1 p2 p3 p4 p5) + (jb2 p0 p1 p2 p3 p4 p5)) + (16 : Int32)) + ((ja1 p0 p1 p2 p3 p4 p5) + (ja2 p0 p1 p2 p3 p4 p5)))) - ((jb1 p0 p1 p2 p3 p4 p5) + (jb2 p0 p1 p2 p3 p4 p5))) - (16 : Int32)) = (0 : Int32)
          · refine ox_ifNo Xhd0_163.here hx (hb hby at_553) rfl ((if0 _ _).trans (teq hc0_42).2) ?_
            refine ox_iload Xhd0_163.here hx (hb hby at_556) rfl ?_
            by_cases hc0_43 : (j18 p0 p1 p2 p3 p4 p5) = (0 : Int32)
            · refine ox_ifYes Xhd0_163.here hx (pc0 := 558) (pc' := 573) rfl (hb hby at_558) rfl ((if0 _ _).trans (teq hc0_43).1) (by decide) (by decide) ?_
              refine ox_iload Xhd0_163.here hx (hb hby at_573) rfl ?_
              refine ox_goto Xhd0_163.here hx (pc0 := 575) (pc' := 580) rfl (hb hby at_575) (by decide) (by decide) ?_
              have q : je3 p0 p1 p2 p3 p4 p5 = (f_max (j7 p0 p1 p2 p3 p4 p5) (j8 p0 p1 p2 p3 p4 p5)) := by rw [je3, if_pos hc0_42, if_pos hc0_43]
              rw [q] at k
              exact k
            · refine ox_ifNo Xhd0_163.here hx (hb hby at_558) rfl ((if0 _ _).trans (feq hc0_43).1) ?_
              refine ox_iload Xhd0_163.here hx (hb hby at_561) rfl ?_
              refine ox_iload Xhd0_163.here hx (hb hby at_563) rfl ?_
              by_cases hc0_44 : ((f_min p0 (2147483632 : Int32)) + (15 : Int32)) < (f_min (j7 p0 p1 p2 p3 p4 p5) (j8 p0 p1 p2 p3 p4 p5))
              · refine ox_icmpNo Xhd0_163.here hx (hb hby at_565) rfl (tlt hc0_44).2.2.2 ?_
                refine ox_iload Xhd0_163.here hx (hb hby at_568) rfl ?_
                refine ox_goto Xhd0_163.here hx (pc0 := 570) (pc' := 580) rfl (hb hby at_570) (by decide) (by decide) ?_
                have q : je3 p0 p1 p2 p3 p4 p5 = (f_min (j7 p0 p1 p2 p3 p4 p5) (j8 p0 p1 p2 p3 p4 p5)) := by rw [je3, if_pos hc0_42, if_neg hc0_43, if_pos hc0_44]
                rw [q] at k
                exact k
              · refine ox_icmpYes Xhd0_163.here hx (pc0 := 565) (pc' := 573) rfl (hb hby at_565) rfl (flt hc0_44).2.2.2 (by decide) (by decide) ?_
                refine ox_iload Xhd0_163.here hx (hb hby at_573) rfl ?_
                refine ox_goto Xhd0_163.here hx (pc0 := 575) (pc' := 580) rfl (hb hby at_575) (by decide) (by decide) ?_
                have q : je3 p0 p1 p2 p3 p4 p5 = (f_max (j7 p0 p1 p2 p3 p4 p5) (j8 p0 p1 p2 p3 p4 p5)) := by rw [je3, if_pos hc0_42, if_neg hc0_43, if_neg hc0_44]
                rw [q] at k
                exact k
          · refine ox_ifYes Xhd0_163.here hx (pc0 := 553) (pc' := 578) rfl (hb hby at_553) rfl ((if0 _ _).trans (feq hc0_42).2) (by decide) (by decide) ?_
            refine ox_iload Xhd0_163.here hx (hb hby at_578) rfl ?_
            have q : je3 p0 p1 p2 p3 p4 p5 = (f_max (j7 p0 p1 p2 p3 p4 p5) (j8 p0 p1 p2 p3 p4 p5)) := by rw [je3, if_neg hc0_42]
            rw [q] at k
            exact k
        refine own_fw sg0_551 ?_
        refine own_fw (A := T0_162.setTop (mkF m 586 #[.val (.int p0), .val (.int p1), .val (.int p2), .val (.int p3), .val (.int p4), .val (.int p5), .val (.int (f_min p0 (2147483632 : Int32))), .val (.int (j7 p0 p1 p2 p3 p4 p5)), .val (.int (j8 p0 p1 p2 p3 p4 p5)), .val (.ref b0_3), .val (.ref ub0_12), .val (.ref b0_15), .val (.ref b0_100), .val (.ref uu0_154), .val (.int (f_min (j7 p0 p1 p2 p3 p4 p5) (j8 p0 p1 p2 p3 p4 p5))), .val (.int (f_max (j7 p0 p1 p2 p3 p4 p5) (j8 p0 p1 p2 p3 p4 p5))), .val (.int (j16 p0 p1 p2 p3 p4 p5)), .val (.int ((f_min p0 (2147483632 : Int32)) + (15 : Int32))), .val (.int (j18 p0 p1 p2 p3 p4 p5)), .val (.int (j19 p0 p1 p2 p3 p4 p5)), .val (.int ((jb1 p0 p1 p2 p3 p4 p5) + (jb2 p0 p1 p2 p3 p4 p5))), .val (.int ((ja1 p0 p1 p2 p3 p4 p5) + (ja2 p0 p1 p2 p3 p4 p5))), .val (.int ((((jb1 p0 p1 p2 p3 p4 p5) + (jb2 p0 p1 p2 p3 p4 p5)) + (16 : Int32)) + ((ja1 p0 p1 p2 p3 p4 p5) + (ja2 p0 p1 p2 p3 p4 p5)))), .val (.int (own_irem (p4 &&& (2147483647 : Int32)) ((((jb1 p0 p1 p2 p3 p4 p5) + (jb2 p0 p1 p2 p3 p4 p5)) + (16 : Int32)) + ((ja1 p0 p1 p2 p3 p4 p5) + (ja2 p0 p1 p2 p3 p4 p5))))), .val (.int (je3 p0 p1 p2 p3 p4 p5)), .val (.int (((own_irem (p4 &&& (2147483647 : Int32)) ((((jb1 p0 p1 p2 p3 p4 p5) + (jb2 p0 p1 p2 p3 p4 p5)) + (16 : Int32)) + ((ja1 p0 p1 p2 p3 p4 p5) + (ja2 p0 p1 p2 p3 p4 p5)))) - ((jb1 p0 p1 p2 p3 p4 p5) + (jb2 p0 p1 p2 p3 p4 p5))) - (16 : Int32)))] [(.int (own_irem (p4 &&& (2147483647 : Int32)) ((((jb1 p0 p1 p2 p3 p4 p5) + (jb2 p0 p1 p2 p3 p4 p5)) + (16 : Int32)) + ((ja1 p0 p1 p2 p3 p4 p5) + (ja2 p0 p1 p2 p3 p4 p5))))), (.ref uu0_154)])) (fun t k => ?_) ?_
        · refine ox_istore Xhd0_163.here hx (hb hby at_580) rfl (l' := #[.val (.int p0), .val (.int p1), .val (.int p2), .val (.int p3), .val (.int p4), .val (.int p5), .val (.int (f_min p0 (2147483632 : Int32))), .val (.int (j7 p0 p1 p2 p3 p4 p5)), .val (.int (j8 p0 p1 p2 p3 p4 p5)), .val (.ref b0_3), .val (.ref ub0_12), .val (.ref b0_15), .val (.ref b0_100), .val (.ref uu0_154), .val (.int (f_min (j7 p0 p1 p2 p3 p4 p5) (j8 p0 p1 p2 p3 p4 p5))), .val (.int (f_max (j7 p0 p1 p2 p3 p4 p5) (j8 p0 p1 p2 p3 p4 p5))), .val (.int (j16 p0 p1 p2 p3 p4 p5)), .val (.int ((f_min p0 (2147483632 : Int32)) + (15 : Int32))), .val (.int (j18 p0 p1 p2 p3 p4 p5)), .val (.int (j19 p0 p1 p2 p3 p4 p5)), .val (.int ((jb1 p0 p1 p2 p3 p4 p5) + (jb2 p0 p1 p2 p3 p4 p5))), .val (.int ((ja1 p0 p1 p2 p3 p4 p5) + (ja2 p0 p1 p2 p3 p4 p5))), .val (.int ((((jb1 p0 p1 p2 p3 p4 p5) + (jb2 p0 p1 p2 p3 p4 p5)) + (16 : Int32)) + ((ja1 p0 p1 p2 p3 p4 p5) + (ja2 p0 p1 p2 p3 p4 p5)))), .val (.int (own_irem (p4 &&& (2147483647 : Int32)) ((((jb1 p0 p1 p2 p3 p4 p5) + (jb2 p0 p1 p2 p3 p4 p5)) + (16 : Int32)) + ((ja1 p0 p1 p2 p3 p4 p5) + (ja2 p0 p1 p2 p3 p4 p5))))), .val (.int (je3 p0 p1 p2 p3 p4 p5)), .val (.int (((own_irem (p4 &&& (2147483647 : Int32)) ((((jb1 p0 p1 p2 p3 p4 p5) + (jb2 p0 p1 p2 p3 p4 p5)) + (16 : Int32)) + ((ja1 p0 p1 p2 p3 p4 p5) + (ja2 p0 p1 p2 p3 p4 p5)))) - ((jb1 p0 p1 p2 p3 p4 p5) + (jb2 p0 p1 p2 p3 p4 p5))) - (16 : Int32)))]) rfl ?_
          refine ox_aload Xhd0_163.here hx (hb hby at_582) rfl rfl ?_
          refine ox_iload Xhd0_163.here hx (hb hby at_584) rfl ?_
          exact k
        refine own_fw (A := T0_162.setTop (mkF m 586 #[.val (.int p0), .val (.int p1), .val (.int p2), .val (.int p3), .val (.int p4), .val (.int p5), .val (.int (f_min p0 (2147483632 : Int32))), .val (.int (j7 p0 p1 p2 p3 p4 p5)), .val (.int (j8 p0 p1 p2 p3 p4 p5)), .val (.ref b0_3), .val (.ref ub0_12), .val (.ref b0_15), .val (.ref b0_100), .val (.ref uu0_154), .val (.int (f_min (j7 p0 p1 p2 p3 p4 p5) (j8 p0 p1 p2 p3 p4 p5))), .val (.int (f_max (j7 p0 p1 p2 p3 p4 p5) (j8 p0 p1 p2 p3 p4 p5))), .val (.int (j16 p0 p1 p2 p3 p4 p5)), .val (.int ((f_min p0 (2147483632 : Int32)) + (15 : Int32))), .val (.int (j18 p0 p1 p2 p3 p4 p5)), .val (.int (j19 p0 p1 p2 p3 p4 p5)), .val (.int ((jb1 p0 p1 p2 p3 p4 p5) + (jb2 p0 p1 p2 p3 p4 p5))), .val (.int ((ja1 p0 p1 p2 p3 p4 p5) + (ja2 p0 p1 p2 p3 p4 p5))), .val (.int ((((jb1 p0 p1 p2 p3 p4 p5) + (jb2 p0 p1 p2 p3 p4 p5)) + (16 : Int32)) + ((ja1 p0 p1 p2 p3 p4 p5) + (ja2 p0 p1 p2 p3 p4 p5)))), .val (.int (own_irem (p4 &&& (2147483647 : Int32)) ((((jb1 p0 p1 p2 p3 p4 p5) + (jb2 p0 p1 p2 p3 p4 p5)) + (16 : Int32)) + ((ja1 p0 p1 p2 p3 p4 p5) + (ja2 p0 p1 p2 p3 p4 p5))))), .val (.int (je3 p0 p1 p2 p3 p4 p5)), .val (.int (((own_irem (p4 &&& (2147483647 : Int32)) ((((jb1 p0 p1 p2 p3 p4 p5) + (jb2 p0 p1 p2 p3 p4 p5)) + (16 : Int32)) + ((ja1 p0 p1 p2 p3 p4 p5) + (ja2 p0 p1 p2 p3 p4 p5)))) - ((jb1 p0 p1 p2 p3 p4 p5) + (jb2 p0 p1 p2 p3 p4 p5))) - (16 : Int32)))] [(.int (Int32.ofNat (own_J p0 p1 p2 p3 p4 p5))), (.ref uu0_154)])) (fun t k => castTop (congrArg (fun z => (mkF m 586 #[.val (.int p0), .val (.int p1), .val (.int p2), .val (.int p3), .val (.int p4), .val (.int p5), .val (.int (f_min p0 (2147483632 : Int32))), .val (.int (j7 p0 p1 p2 p3 p4 p5)), .val (.int (j8 p0 p1 p2 p3 p4 p5)), .val (.ref b0_3), .val (.ref ub0_12), .val (.ref b0_15), .val (.ref b0_100), .val (.ref uu0_154), .val (.int (f_min (j7 p0 p1 p2 p3 p4 p5) (j8 p0 p1 p2 p3 p4 p5))), .val (.int (f_max (j7 p0 p1 p2 p3 p4 p5) (j8 p0 p1 p2 p3 p4 p5))), .val (.int (j16 p0 p1 p2 p3 p4 p5)), .val (.int ((f_min p0 (2147483632 : Int32)) + (15 : Int32))), .val (.int (j18 p0 p1 p2 p3 p4 p5)), .val (.int (j19 p0 p1 p2 p3 p4 p5)), .val (.int ((jb1 p0 p1 p2 p3 p4 p5) + (jb2 p0 p1 p2 p3 p4 p5))), .val (.int ((ja1 p0 p1 p2 p3 p4 p5) + (ja2 p0 p1 p2 p3 p4 p5))), .val (.int ((((jb1 p0 p1 p2 p3 p4 p5) + (jb2 p0 p1 p2 p3 p4 p5)) + (16 : Int32)) + ((ja1 p0 p1 p2 p3 p4 p5) + (ja2 p0 p1 p2 p3 p4 p5)))), .val (.int (own_irem (p4 &&& (2147483647 : Int32)) ((((jb1 p0 p1 p2 p3 p4 p5) + (jb2 p0 p1 p2 p3 p4 p5)) + (16 : Int32)) + ((ja1 p0 p1 p2 p3 p4 p5) + (ja2 p0 p1 p2 p3 p4 p5))))), .val (.int (je3 p0 p1 p2 p3 p4 p5)), .val (.int (((own_irem (p4 &&& (2147483647 : Int32)) ((((jb1 p0 p1 p2 p3 p4 p5) + (jb2 p0 p1 p2 p3 p4 p5)) + (16 : Int32)) + ((ja1 p0 p1 p2 p3 p4 p5) + (ja2 p0 p1 p2 p3 p4 p5)))) - ((jb1 p0 p1 p2 p3 p4 p5) + (jb2 p0 p1 p2 p3 p4 p5))) - (16 : Int32)))] [(.int z), (.ref uu0_154)])) (own_JR p0 p1 p2 p3 p4 p5)) k) ?_
        obtain ⟨cq0_168, kq0_168, q0_168a, q0_168b, q0_168c⟩ := isOf hZ e0_162 Eu0_154
        obtain ⟨_, _, ⟨T0_168, L0_168, k0_168, n0_168⟩, -, X0_168, ⟨Lc0_168, hQ0_168, l0_168, y0_168, z0_168⟩, st0_168⟩ := Xhd0_163.virtualBack hx (y := mN1) (z := mN1) hown (mvT hZ (own_w hw 213 rfl)) (mvT hZ (own_w hw 204 rfl)) (notFace_of_selects (args := #[]) (mvT hZ (own_w hw 206 rfl))) (mvT hZ (own_w hw 206 rfl)) (mvT hZ (own_w hw 205 rfl)) (by decide) (backOf (W := 0) (rm28 l Z a0 hw [] uu0_154 mu0_154 kI (own_exp (f_min p0 (2147483632 : Int32)) (j7 p0 p1 p2 p3 p4 p5) (j8 p0 p1 p2 p3 p4 p5)).length (own_exp (f_min p0 (2147483632 : Int32)) (j7 p0 p1 p2 p3 p4 p5) (j8 p0 p1 p2 p3 p4 p5)) (own_J p0 p1 p2 p3 p4 p5) T0_154.heap n0 (Nat.le_trans (Nat.le_trans fc0_145 K0_147.1) K0_154.1) Fu0_154 Iu0_154 (own_Jlt p0 p1 p2 p3 p4 p5)) hZ (own_w hw 207 rfl) (own_w hw 53 rfl) (by decide) (by decide)) q0_168a q0_168c (g := (mkF m 586 #[.val (.int p0), .val (.int p1), .val (.int p2), .val (.int p3), .val (.int p4), .val (.int p5), .val (.int (f_min p0 (2147483632 : Int32))), .val (.int (j7 p0 p1 p2 p3 p4 p5)), .val (.int (j8 p0 p1 p2 p3 p4 p5)), .val (.ref b0_3), .val (.ref ub0_12), .val (.ref b0_15), .val (.ref b0_100), .val (.ref uu0_154), .val (.int (f_min (j7 p0 p1 p2 p3 p4 p5) (j8 p0 p1 p2 p3 p4 p5))), .val (.int (f_max (j7 p0 p1 p2 p3 p4 p5) (j8 p0 p1 p2 p3 p4 p5))), .val (.int (j16 p0 p1 p2 p3 p4 p5)), .val (.int ((f_min p0 (2147483632 : Int32)) + (15 : Int32))), .val (.int (j18 p0 p1 p2 p3 p4 p5)), .val (.int (j19 p0 p1 p2 p3 p4 p5)), .val (.int ((jb1 p0 p1 p2 p3 p4 p5) + (jb2 p0 p1 p2 p3 p4 p5))), .val (.int ((ja1 p0 p1 p2 p3 p4 p5) + (ja2 p0 p1 p2 p3 p4 p5))), .val (.int ((((jb1 p0 p1 p2 p3 p4 p5) + (jb2 p0 p1 p2 p3 p4 p5)) + (16 : Int32)) + ((ja1 p0 p1 p2 p3 p4 p5) + (ja2 p0 p1 p2 p3 p4 p5)))), .val (.int (own_irem (p4 &&& (2147483647 : Int32)) ((((jb1 p0 p1 p2 p3 p4 p5) + (jb2 p0 p1 p2 p3 p4 p5)) + (16 : Int32)) + ((ja1 p0 p1 p2 p3 p4 p5) + (ja2 p0 p1 p2 p3 p4 p5))))), .val (.int (je3 p0 p1 p2 p3 p4 p5)), .val (.int (((own_irem (p4 &&& (2147483647 : Int32)) ((((jb1 p0 p1 p2 p3 p4 p5) + (jb2 p0 p1 p2 p3 p4 p5)) + (16 : Int32)) + ((ja1 p0 p1 p2 p3 p4 p5) + (ja2 p0 p1 p2 p3 p4 p5)))) - ((jb1 p0 p1 p2 p3 p4 p5) + (jb2 p0 p1 p2 p3 p4 p5))) - (16 : Int32)))] [(.int (Int32.ofNat (own_J p0 p1 p2 p3 p4 p5))), (.ref uu0_154)])) rfl (by rw [hml]; rfl) (Steps.refl _) (argsL := [(.int (Int32.ofNat (own_J p0 p1 p2 p3 p4 p5)))]) (rest := []) (lenOf pd0_8 rfl) rfl (own_mr rfl) (hb hby at_586) (fun _ _ => ⟨rfl, e0_162, (by decide : 20 + 0 ≤ _), (by decide : 235 + 0 ≤ _)⟩)
        dsimp only [Pt.U, Pt.locs, Pt.cells, Pt.slots] at X0_168 l0_168 y0_168 z0_168 st0_168 hQ0_168
        subst l0_168 y0_168 z0_168
        obtain ⟨rfl, N0_168q, e0_168⟩ := hQ0_168
        have N0_168 := Fr.app Nhd0_163 N0_168q
        refine own_fw (fun t k => st0_168.trans k) ?_
        obtain ⟨Lhd0_169, Xhd0_169, Nhd0_169⟩ := own_hide X0_168 N0_168
        refine own_fw (A := T0_168.setTop (mkF m 599 #[.val (.int p0), .val (.int p1), .val (.int p2), .val (.int p3), .val (.int p4), .val (.int p5), .val (.int (f_min p0 (2147483632 : Int32))), .val (.int (j7 p0 p1 p2 p3 p4 p5)), .val (.int (j8 p0 p1 p2 p3 p4 p5)), .val (.ref b0_3), .val (.ref ub0_12), .val (.ref b0_15), .val (.ref b0_100), .val (.ref uu0_154), .val (.int (f_min (j7 p0 p1 p2 p3 p4 p5) (j8 p0 p1 p2 p3 p4 p5))), .val (.int (f_max (j7 p0 p1 p2 p3 p4 p5) (j8 p0 p1 p2 p3 p4 p5))), .val (.int (j16 p0 p1 p2 p3 p4 p5)), .val (.int ((f_min p0 (2147483632 : Int32)) + (15 : Int32))), .val (.int (j18 p0 p1 p2 p3 p4 p5)), .val (.int (j19 p0 p1 p2 p3 p4 p5)), .val (.int ((jb1 p0 p1 p2 p3 p4 p5) + (jb2 p0 p1 p2 p3 p4 p5))), .val (.int ((ja1 p0 p1 p2 p3 p4 p5) + (ja2 p0 p1 p2 p3 p4 p5))), .val (.int ((((jb1 p0 p1 p2 p3 p4 p5) + (jb2 p0 p1 p2 p3 p4 p5)) + (16 : Int32)) + ((ja1 p0 p1 p2 p3 p4 p5) + (ja2 p0 p1 p2 p3 p4 p5)))), .val (.int (own_irem (p4 &&& (2147483647 : Int32)) ((((jb1 p0 p1 p2 p3 p4 p5) + (jb2 p0 p1 p2 p3 p4 p5)) + (16 : Int32)) + ((ja1 p0 p1 p2 p3 p4 p5) + (ja2 p0 p1 p2 p3 p4 p5))))), .val (.int (je3 p0 p1 p2 p3 p4 p5)), .val (.int (((own_irem (p4 &&& (2147483647 : Int32)) ((((jb1 p0 p1 p2 p3 p4 p5) + (jb2 p0 p1 p2 p3 p4 p5)) + (16 : Int32)) + ((ja1 p0 p1 p2 p3 p4 p5) + (ja2 p0 p1 p2 p3 p4 p5)))) - ((jb1 p0 p1 p2 p3 p4 p5) + (jb2 p0 p1 p2 p3 p4 p5))) - (16 : Int32)))] [(.int (1 : Int32))])) (fun t k => ?_) ?_
        · refine ox_iload Xhd0_169.here hx (hb hby at_589) rfl ?_
          refine ox_icmpNo Xhd0_169.here hx (hb hby at_591) rfl (teq (own_at3 p0 p1 p2 p3 p4 p5 hc0_39 hc0_41)).2 ?_
          refine ox_iconst Xhd0_169.here hx (hb hby at_594) ?_
          refine ox_goto Xhd0_169.here hx (pc0 := 595) (pc' := 599) rfl (hb hby at_595) (by decide) (by decide) ?_
          exact k
        obtain ⟨fs, hr, hrun, hended, hW, hsame⟩ := Xhd0_169.leave (v := some (.int (nar .boolean (1 : Int32)))) (own_ret Bd.returns) (BodyLoose.notSynchronized Bd)
        refine ⟨_, _, retN Xhd0_169 hx (t := .boolean) Bd.returns (by simp) (hb hby at_599) hr, hrun, hended, _, _, rfl, ?_, ⟨_, rfl⟩, hW, hsame.mono (by decide) (by decide)⟩
        have eh : (T0_168.setFrames fs).heap = T0_154.heap := e0_168
        rw [eh]
        exact ⟨rfl, Nhd0_169⟩
set_option maxRecDepth 65536 in
set_option maxHeartbeats 40000000 in
theorem comes_1 {Post : Tables → Env → Array Value → State → Outcome → State → Prop} (hpost : ∀ tb e args s v u, (limb_1_1.after args s (.returned v) u = true ∧ limb_1_2.after args s (.returned v) u = true ∧ True) → FrameEnd s (.returned v) u (Jvm.fieldLocs frame_1_writes args s ++ Jvm.arrayLocs frame_1_arrays args s ++ Jvm.staticLocs frame_1_statics s) 48 448 → Post tb e args s (.returned v) u) :
    ArmFor flags0 classFile x code maxLocals ret World_1 tables_1 room_1 Calls_1 rest_1 Pre_1 Post := by
  intro l hfl _ _ p e ha hc hk s m args below hf hA hF happ hP
  obtain ⟨hcalls, hrest, hpre⟩ := hP
  obtain ⟨-, -, -, hnamed, -, -, -, hat⟩ := (Spec.applies_iff hf).mp happ
  obtain ⟨hg, hn⟩ := and_e (Cond.before_iff.mp (show (Jvm.Cond.and given_1 narrow_1).before args s = true from hpre))
  obtain ⟨g1, g2⟩ := and_e hg
  obtain ⟨ga0, gb0⟩ := and_e g2
  obtain ⟨ga1, gb1⟩ := and_e gb0
  obtain ⟨ga2, gb2⟩ := and_e gb1
  obtain ⟨ga3, gb3⟩ := and_e gb2
  obtain ⟨ga4, gb4⟩ := and_e gb3
  obtain ⟨w0, w1, w2, w3, w4, w5, rfl⟩ : ∃ w0 w1 w2 w3 w4 w5 : Value, args = #[w0, w1, w2, w3, w4, w5] := by
    have hs : args.size = 6 := by simpa [Cond.value, given_1] using g1
    obtain ⟨L⟩ := args
    match L, hs with
    | [w0, w1, w2, w3, w4, w5], _ => exact ⟨w0, w1, w2, w3, w4, w5, rfl⟩
  have hw := fun d (hd : d ∈ tables_1) => atoms_spec (ws := Jvm.Cond.code x code maxLocals ret :: tables_1) hat d (List.mem_cons_of_mem _ hd)
  have hfit : Fit s := fun {y c} hc i hi => by
    obtain ⟨ha, rfl⟩ := Array.getElem?_eq_some_iff.mp hc
    have q := List.all_eq_true.mp ((Array.all_eq_true_iff_forall_mem.mp hF) _ (Array.getElem_mem ha)) i (List.mem_range.mpr hi)
    simpa [Array.getElem?_eq_getElem hi] using q
  obtain ⟨i0, ei0⟩ := is_v ga0
  obtain rfl : w0 = (.int i0) := Option.some.inj ei0
  obtain ⟨i1, ei1⟩ := is_v ga1
  obtain rfl : w1 = (.int i1) := Option.some.inj ei1
  obtain ⟨i2, ei2⟩ := is_v ga2
  obtain rfl : w2 = (.int i2) := Option.some.inj ei2
  obtain ⟨i3, ei3⟩ := is_v ga3
  obtain rfl : w3 = (.int i3) := Option.some.inj ei3
  obtain ⟨i4, ei4⟩ := is_v ga4
  obtain rfl : w4 = (.int i4) := Option.some.inj ei4
  obtain ⟨i5, ei5⟩ := is_v gb4
  obtain rfl : w5 = (.int i5) := Option.some.inj ei5
  obtain ⟨hsets, hown0⟩ := atoms_of _ (rest_1_c_eq ▸ (show rest_1_c.before _ s = true from hrest))
  obtain ⟨d0, ev2⟩ := exa_v (Cond.before_iff.mp (hsets _ (List.mem_of_getElem? (i := 7) rfl)))
  have S_d := Sta.start ev2 (Or.inr ⟨(own_w hw 73 rfl), (hsets _ (List.mem_of_getElem? (i := 2) rfl))⟩)
  obtain ⟨cc, A⟩ := Arr.start ev2 (Cond.before_iff.mp (hsets _ (List.mem_of_getElem? (i := 6) rfl)))
  have ev3 := Jvm.Free.NT.SwA.eq_int (hsets _ (List.mem_of_getElem? (i := 8) rfl))
  obtain ⟨b', cell', e1, e2, e3, e4⟩ := Jvm.Lib.length_spec ev3
  cases ev2.symm.trans e1
  cases (A.fin (Vm.Alike.refl _)).symm.trans e2
  have V_d : Arv s s.heap d0 cc.cls (.object "java/lang/Object") 0 [] .null := Arv.start hfit A e3 (Value.int.inj e4).symm (by decide) rfl trivial
  obtain ⟨n, o, h1, h2, h3, _, L, rfl, ⟨rfl, N⟩, hq⟩ := rm0 l s _ hw tables_1 i0 i1 i2 i3 i4 i5 d0 cc.cls s.heap s.heap.size (Nat.le_refl _) (Old.start s) S_d V_d p e ha hc hk s m _ below hf ((Spec.applies_iff_loose hf).mp happ).1 ⟨rfl, State.Warmed39.refl s, rfl⟩ trivial
  refine ⟨n, _, h1, h2, h3, hpost _ _ _ _ _ _ ⟨Cond.after_iff.mpr rfl, Cond.after_iff.mpr (eq_i res_at (Term.int_eval (1)) rfl), trivial⟩ ⟨hq.1, hq.2.1, (hq.2.2.sift fun y hy => Or.inr (N y hy)).mono (by decide) (by decide)⟩⟩
theorem main_1_1 : Claimed_1_1 := comes_1 fun _ _ _ _ _ _ h hF => ⟨h.1, hF⟩
theorem main_1_2 : Claimed_1_2 := comes_1 fun _ _ _ _ _ _ h hF => ⟨h.2.1, hF⟩
end Jvm.Pilot.@@N@@
namespace Jvm.Pilot.@@N@@
open Jvm Jvm.ClassFile Sem Op Lib Jvm.Free Jvm.Stand Jvm.Pilot.@@N@@.Jvm.D
/-! MADE BY PROGRAM (witnessworld.py) out of the Statement's table words and the real class files: 25 classes; the members and pool entries that the words name. The judged class is class 1, her method 1. -/
namespace start1
open Jvm.ClassFile
def u (s : String) : CpInfo := .utf8 (stringToUtf16 s)
/-- a pool by its gaps: so many unusable entries, then the entry; so many at the end -/
def gap : Nat → List CpInfo → List CpInfo
  | 0, r => r
  | n + 1, r => .unusable :: gap n r
def poolList (es : List (Nat × CpInfo)) (last : Nat) : List CpInfo := es.foldr (fun e r => gap e.1 (e.2 :: r)) (gap last [])
def pool (es : List (Nat × CpInfo)) (last : Nat) : Array CpInfo := ⟨poolList es last⟩
def fileOf (pool : Array CpInfo) (this : Nat) (attrs : Array Attribute := #[]) (ms : Array MethodInfo := #[]) (fl : Nat := 33) (sup : Nat := 0) (ifs : Array Nat := #[]) (fds : Array FieldInfo := #[]) : ClassFile where
  minorVersion := 0
  majorVersion := 65
  constantPool := pool
  accessFlags := fl
  thisClass := this
  superClass := sup
  interfaces := ifs
  fields := fds
  methods := ms
  attributes := attrs
def plain (name : String) (sup : Option ClassId) : Class where
  name := name
  kind := .ordinary
  loader := none
  accessFlags := 33
  super := sup
  interfaces := #[]
  cf := none
  fields := #[]
  methods := #[]
  instanceTypes := #[]
  staticTypes := #[]
  resolved := #[]
  callSites := []
  init := .initialized
  statics := none
  mirror := none

def pool0 : Array CpInfo := pool [(5, u "<init>"), (0, u "()V"), (1, .class_ 10), (1, u "java/lang/Object"), (85, u "clone"), (0, u "()Ljava/lang/Object;")] 26

def k0c0 : Code := { maxStack := 0, maxLocals := 1, code := object_method_1_code, exceptionTable := #[], attributes := #[] }
def k0m0 : Method := { name := "<init>", desc := "()V", sig := { parameters := [], returnType := none }, accessFlags := 1, code := some k0c0 }
def k0m1 : Method := { name := "clone", desc := "()Ljava/lang/Object;", sig := { parameters := [], returnType := some (.object "java/lang/Object") }, accessFlags := 260, code := none }
/-- java/lang/Object -/
def k0 : Class := { plain "java/lang/Object" none with
  accessFlags := 33
  interfaces := #[]
  cf := some (fileOf pool0 8 #[] #[{ accessFlags := 1, nameIndex := 5, descriptorIndex := 6, attributes := #[] }, { accessFlags := 260, nameIndex := 96, descriptorIndex := 97, attributes := #[] }] 33 0 #[] #[])
  fields := #[]
  methods := #[k0m0, k0m1]
  instanceTypes := #[]
  staticTypes := #[]
  resolved := Array.replicate 124 none
  statics := none }

def pool1 : Array CpInfo := pool [(2, .class_ 4), (0, .nameAndType 5 6), (0, u "java/lang/Object"), (0, u "<init>"), (0, u "()V"), (2, .integer 2147483632), (0, .methodref 11 12), (0, .class_ 13), (0, .nameAndType 14 15), (0, u "java/lang/Math"), (0, u "min"), (0, u "(II)I"), (0, .class_ 17), (0, u "com/example/dolqa/dolqa/data/UnaryRelation$Builder"), (0, .methodref 16 3), (0, .methodref 16 20), (0, .nameAndType 21 22), (0, u "add"), (0, u "(I)Lcom/example/dolqa/dolqa/data/UnaryRelation$Builder;"), (0, .methodref 16 24), (0, .nameAndType 25 26), (0, u "build"), (0, u "()Lcom/example/dolqa/dolqa/data/UnaryRelation;"), (0, .class_ 28), (0, u "com/example/dolqa/dolqa/data/UnaryRelation"), (0, .methodref 27 30), (0, .nameAndType 5 31), (0, u "([I)V"), (0, .class_ 33), (0, u "java/util/ArrayList"), (0, .methodref 32 3), (0, .methodref 32 36), (0, .nameAndType 21 37), (0, u "(Ljava/lang/Object;)Z"), (0, .methodref 27 39), (0, .nameAndType 40 41), (0, u "union"), (0, u "(Ljava/util/List;)Lcom/example/dolqa/dolqa/data/UnaryRelation;"), (0, .methodref 11 43), (0, .nameAndType 44 15), (0, u "max"), (0, .methodref 27 46), (0, .nameAndType 47 48), (0, u "size"), (0, u "()I"), (0, .integer 2147483647), (0, .methodref 27 51), (0, .nameAndType 52 53), (0, u "member"), (0, u "(I)I"), (0, .class_ 55), (0, u "com/example/dolqa/dolqa/data/BuilderAddPinLaw"), (2, u "law"), (0, u "(IIIIII)Z")] 5

def k1m0 : Method := { name := "<init>", desc := "()V", sig := { parameters := [], returnType := none }, accessFlags := 1, code := none }
def k1c1 : Code := { maxStack := 7, maxLocals := 26, code := code, exceptionTable := #[], attributes := #[] }
def k1m1 : Method := { name := "law", desc := "(IIIIII)Z", sig := { parameters := [.int, .int, .int, .int, .int, .int], returnType := some .boolean }, accessFlags := 9, code := some k1c1 }
/-- com/example/dolqa/dolqa/data/BuilderAddPinLaw -/
def k1 : Class := { plain "com/example/dolqa/dolqa/data/BuilderAddPinLaw" (some 0) with
  accessFlags := 49
  interfaces := #[]
  cf := some (fileOf pool1 54 #[] #[{ accessFlags := 1, nameIndex := 5, descriptorIndex := 6, attributes := #[] }, { accessFlags := 9, nameIndex := 58, descriptorIndex := 59, attributes := #[] }] 49 2 #[] #[])
  fields := #[]
  methods := #[k1m0, k1m1]
  instanceTypes := #[]
  staticTypes := #[]
  resolved := Array.replicate 65 none
  statics := none }

def pool2 : Array CpInfo := pool [(1, .class_ 2), (0, u "java/lang/Math"), (1, .class_ 6), (1, u "java/lang/Object"), (0, u "<init>"), (0, u "()V"), (89, .class_ 100), (1, u "java/lang/Math$RandomNumberGeneratorHolder"), (71, u "negativeZeroFloatBits"), (0, u "J"), (2, u "negativeZeroDoubleBits"), (21, u "max"), (2, u "min"), (43, u "$assertionsDisabled"), (0, u "Z"), (88, u "(II)I"), (2, u "twoToTheDoubleScaleDown"), (0, u "D"), (4, u "twoToTheDoubleScaleUp"), (9, u "E"), (3, u "PI"), (2, u "TAU"), (2, u "DEGREES_TO_RADIANS"), (0, u "RADIANS_TO_DEGREES")] 94

def k2m0 : Method := { name := "<init>", desc := "()V", sig := { parameters := [], returnType := none }, accessFlags := 2, code := none }
def k2c1 : Code := { maxStack := 2, maxLocals := 2, code := jdk_29_method_65_code, exceptionTable := #[], attributes := #[] }
def k2m1 : Method := { name := "max", desc := "(II)I", sig := { parameters := [.int, .int], returnType := some .int }, accessFlags := 9, code := some k2c1 }
def k2c2 : Code := { maxStack := 2, maxLocals := 2, code := jdk_29_method_69_code, exceptionTable := #[], attributes := #[] }
def k2m2 : Method := { name := "min", desc := "(II)I", sig := { parameters := [.int, .int], returnType := some .int }, accessFlags := 9, code := some k2c2 }
/-- java/lang/Math -/
def k2 : Class := { plain "java/lang/Math" (some 0) with
  accessFlags := 49
  interfaces := #[]
  cf := some (fileOf pool2 1 #[.nestMembers #[98]] #[{ accessFlags := 2, nameIndex := 7, descriptorIndex := 8, attributes := #[] }, { accessFlags := 9, nameIndex := 198, descriptorIndex := 335, attributes := #[] }, { accessFlags := 9, nameIndex := 201, descriptorIndex := 335, attributes := #[] }] 49 4 #[] #[{ accessFlags := 25, nameIndex := 354, descriptorIndex := 339, attributes := #[] }, { accessFlags := 25, nameIndex := 358, descriptorIndex := 339, attributes := #[] }, { accessFlags := 25, nameIndex := 361, descriptorIndex := 339, attributes := #[] }, { accessFlags := 26, nameIndex := 364, descriptorIndex := 339, attributes := #[] }, { accessFlags := 26, nameIndex := 365, descriptorIndex := 339, attributes := #[] }, { accessFlags := 26, nameIndex := 172, descriptorIndex := 173, attributes := #[] }, { accessFlags := 26, nameIndex := 176, descriptorIndex := 173, attributes := #[] }, { accessFlags := 8, nameIndex := 344, descriptorIndex := 339, attributes := #[] }, { accessFlags := 8, nameIndex := 338, descriptorIndex := 339, attributes := #[] }, { accessFlags := 4120, nameIndex := 245, descriptorIndex := 246, attributes := #[] }])
  fields := #[{ name := "E", type := .double, accessFlags := 25, slot := 0, constantValue := 0 }, { name := "PI", type := .double, accessFlags := 25, slot := 1, constantValue := 0 }, { name := "TAU", type := .double, accessFlags := 25, slot := 2, constantValue := 0 }, { name := "DEGREES_TO_RADIANS", type := .double, accessFlags := 26, slot := 3, constantValue := 0 }, { name := "RADIANS_TO_DEGREES", type := .double, accessFlags := 26, slot := 4, constantValue := 0 }, { name := "negativeZeroFloatBits", type := .long, accessFlags := 26, slot := 5, constantValue := 0 }, { name := "negativeZeroDoubleBits", type := .long, accessFlags := 26, slot := 6, constantValue := 0 }, { name := "twoToTheDoubleScaleUp", type := .double, accessFlags := 8, slot := 7, constantValue := 0 }, { name := "twoToTheDoubleScaleDown", type := .double, accessFlags := 8, slot := 8, constantValue := 0 }, { name := "$assertionsDisabled", type := .boolean, accessFlags := 4120, slot := 9, constantValue := 0 }]
  methods := #[k2m0, k2m1, k2m2]
  instanceTypes := #[]
  staticTypes := #[.double, .double, .double, .double, .double, .long, .long, .double, .double, .boolean]
  resolved := Array.replicate 460 none
  statics := none }

def pool3 : Array CpInfo := pool [(1, .methodref 2 3), (0, .class_ 4), (0, .nameAndType 5 6), (0, u "java/lang/Object"), (0, u "<init>"), (0, u "()V"), (0, .fieldref 8 9), (0, .class_ 10), (0, .nameAndType 11 12), (0, u "com/example/dolqa/dolqa/data/UnaryRelation$Builder"), (0, u "ids"), (0, u "[I"), (0, .fieldref 8 14), (0, .nameAndType 15 16), (0, u "count"), (0, u "I"), (0, .methodref 18 19), (0, .class_ 20), (0, .nameAndType 21 22), (0, u "java/util/Arrays"), (0, u "copyOf"), (0, u "([II)[I"), (0, .methodref 18 24), (0, .nameAndType 25 26), (0, u "sort"), (0, u "([I)V"), (0, .class_ 28), (0, u "com/example/dolqa/dolqa/data/UnaryRelation"), (0, .methodref 27 30), (0, .nameAndType 5 26), (2, u "add"), (0, u "(I)Lcom/example/dolqa/dolqa/data/UnaryRelation$Builder;"), (1, u "build"), (0, u "()Lcom/example/dolqa/dolqa/data/UnaryRelation;")] 6

def k3c0 : Code := { maxStack := 2, maxLocals := 1, code := prog_9_method_1_code, exceptionTable := #[], attributes := #[] }
def k3m0 : Method := { name := "<init>", desc := "()V", sig := { parameters := [], returnType := none }, accessFlags := 1, code := some k3c0 }
def k3c1 : Code := { maxStack := 5, maxLocals := 2, code := prog_9_method_2_code, exceptionTable := #[], attributes := #[] }
def k3m1 : Method := { name := "add", desc := "(I)Lcom/example/dolqa/dolqa/data/UnaryRelation$Builder;", sig := { parameters := [.int], returnType := some (.object "com/example/dolqa/dolqa/data/UnaryRelation$Builder") }, accessFlags := 1, code := some k3c1 }
def k3c2 : Code := { maxStack := 4, maxLocals := 4, code := prog_9_method_3_code, exceptionTable := #[], attributes := #[] }
def k3m2 : Method := { name := "build", desc := "()Lcom/example/dolqa/dolqa/data/UnaryRelation;", sig := { parameters := [], returnType := some (.object "com/example/dolqa/dolqa/data/UnaryRelation") }, accessFlags := 1, code := some k3c2 }
/-- com/example/dolqa/dolqa/data/UnaryRelation$Builder -/
def k3 : Class := { plain "com/example/dolqa/dolqa/data/UnaryRelation$Builder" (some 0) with
  accessFlags := 49
  interfaces := #[]
  cf := some (fileOf pool3 8 #[.nestHost 27] #[{ accessFlags := 1, nameIndex := 5, descriptorIndex := 6, attributes := #[] }, { accessFlags := 1, nameIndex := 33, descriptorIndex := 34, attributes := #[] }, { accessFlags := 1, nameIndex := 36, descriptorIndex := 37, attributes := #[] }] 49 2 #[] #[{ accessFlags := 2, nameIndex := 11, descriptorIndex := 12, attributes := #[] }, { accessFlags := 2, nameIndex := 15, descriptorIndex := 16, attributes := #[] }])
  fields := #[{ name := "ids", type := (.array .int), accessFlags := 2, slot := 0, constantValue := 0 }, { name := "count", type := .int, accessFlags := 2, slot := 1, constantValue := 0 }]
  methods := #[k3m0, k3m1, k3m2]
  instanceTypes := #[(.array .int), .int]
  staticTypes := #[]
  resolved := Array.replicate 44 none
  statics := none }

def pool4 : Array CpInfo := pool [(2, .class_ 4), (1, u "java/lang/Object"), (0, u "<init>"), (0, u "()V"), (0, .methodref 8 9), (0, .class_ 10), (0, .nameAndType 11 12), (0, u "java/util/DualPivotQuicksort"), (0, u "sort"), (0, u "([IIII)V"), (1, .class_ 16), (1, u "java/util/Arrays"), (57, .class_ 76), (1, u "java/util/Arrays$NaturalOrder"), (32, u "()Ljava/lang/Object;"), (3, .class_ 115), (1, u "java/util/Arrays$LegacyMergeSort"), (1, u "Z"), (10, .nameAndType 129 109), (0, u "clone"), (20, .methodref 151 152), (0, .class_ 153), (0, .nameAndType 154 155), (0, u "java/lang/System"), (0, u "arraycopy"), (0, u "(Ljava/lang/Object;ILjava/lang/Object;II)V"), (146, u "copyOf"), (1, .methodref 305 306), (0, .class_ 307), (0, .nameAndType 308 309), (0, u "java/lang/Math"), (0, u "min"), (0, u "(II)I"), (6, .methodref 317 128), (0, .class_ 318), (0, u "[I"), (56, .class_ 376), (0, u "java/util/Arrays$ArrayList"), (68, u "$assertionsDisabled"), (269, u "MIN_ARRAY_SORT_GRAN"), (0, u "I"), (2, u "INSERTIONSORT_THRESHOLD"), (6, u "([I)V"), (144, u "([II)[I"), (103, .class_ 976), (0, u "java/util/Arrays$ArrayItr")] 52

def k4m0 : Method := { name := "<init>", desc := "()V", sig := { parameters := [], returnType := none }, accessFlags := 2, code := none }
def k4c1 : Code := { maxStack := 4, maxLocals := 1, code := jdk_65_method_2_code, exceptionTable := #[], attributes := #[] }
def k4m1 : Method := { name := "sort", desc := "([I)V", sig := { parameters := [(.array .int)], returnType := none }, accessFlags := 9, code := some k4c1 }
def k4c2 : Code := { maxStack := 6, maxLocals := 3, code := jdk_65_method_123_code, exceptionTable := #[], attributes := #[] }
def k4m2 : Method := { name := "copyOf", desc := "([II)[I", sig := { parameters := [(.array .int), .int], returnType := some (.array .int) }, accessFlags := 9, code := some k4c2 }
/-- java/util/Arrays -/
def k4 : Class := { plain "java/util/Arrays" (some 0) with
  accessFlags := 49
  interfaces := #[]
  cf := some (fileOf pool4 14 #[.nestMembers #[975, 375, 113, 74]] #[{ accessFlags := 2, nameIndex := 5, descriptorIndex := 6, attributes := #[] }, { accessFlags := 9, nameIndex := 11, descriptorIndex := 726, attributes := #[] }, { accessFlags := 9, nameIndex := 302, descriptorIndex := 871, attributes := #[] }] 49 2 #[] #[{ accessFlags := 26, nameIndex := 715, descriptorIndex := 716, attributes := #[] }, { accessFlags := 26, nameIndex := 719, descriptorIndex := 716, attributes := #[] }, { accessFlags := 4120, nameIndex := 445, descriptorIndex := 117, attributes := #[] }])
  fields := #[{ name := "MIN_ARRAY_SORT_GRAN", type := .int, accessFlags := 26, slot := 0, constantValue := 0 }, { name := "INSERTIONSORT_THRESHOLD", type := .int, accessFlags := 26, slot := 1, constantValue := 0 }, { name := "$assertionsDisabled", type := .boolean, accessFlags := 4120, slot := 2, constantValue := 0 }]
  methods := #[k4m0, k4m1, k4m2]
  instanceTypes := #[]
  staticTypes := #[.int, .int, .boolean]
  resolved := Array.replicate 1029 none
  statics := none }

def pool5 : Array CpInfo := pool [(2, .class_ 4), (1, u "java/lang/Object"), (0, u "<init>"), (0, u "()V"), (1, .class_ 10), (1, u "java/lang/System"), (0, u "allowSecurityManager"), (0, u "I"), (16, u "cons"), (0, u "Ljava/io/Console;"), (77, .class_ 110), (1, u "java/lang/System$CallersHolder"), (43, u "initialErrStream"), (0, u "Ljava/io/PrintStream;"), (19, u "security"), (0, u "Ljava/lang/SecurityManager;"), (31, .class_ 209), (0, u "java/lang/System$1"), (7, u "props"), (0, u "Ljava/util/Properties;"), (2, u "lineSeparator"), (0, u "Ljava/lang/String;"), (96, .class_ 321), (1, u "java/lang/System$LoggerFinder"), (5, .class_ 328), (0, u "java/lang/System$Logger"), (67, u "err"), (2, u "out"), (91, u "notSupportedJnuEncoding"), (15, u "in"), (17, u "initialIn"), (0, u "Ljava/io/InputStream;"), (35, u "bootLayer"), (0, u "Ljava/lang/ModuleLayer;"), (99, .class_ 664), (0, u "java/lang/System$2"), (9, u "NEVER"), (2, u "MAYBE"), (49, u "arraycopy"), (0, u "(Ljava/lang/Object;ILjava/lang/Object;II)V"), (72, .class_ 802), (0, u "java/lang/System$Logger$Level")] 31

def k5m0 : Method := { name := "<init>", desc := "()V", sig := { parameters := [], returnType := none }, accessFlags := 2, code := none }
def k5m1 : Method := { name := "arraycopy", desc := "(Ljava/lang/Object;ILjava/lang/Object;II)V", sig := { parameters := [(.object "java/lang/Object"), .int, (.object "java/lang/Object"), .int, .int], returnType := none }, accessFlags := 265, code := none }
/-- java/lang/System -/
def k5 : Class := { plain "java/lang/System" (some 0) with
  accessFlags := 49
  interfaces := #[]
  cf := some (fileOf pool5 8 #[.nestMembers #[319, 327, 801, 108, 663, 208]] #[{ accessFlags := 2, nameIndex := 5, descriptorIndex := 6, attributes := #[] }, { accessFlags := 265, nameIndex := 727, descriptorIndex := 728, attributes := #[] }] 49 2 #[] #[{ accessFlags := 25, nameIndex := 507, descriptorIndex := 526, attributes := #[] }, { accessFlags := 25, nameIndex := 399, descriptorIndex := 155, attributes := #[] }, { accessFlags := 25, nameIndex := 396, descriptorIndex := 155, attributes := #[] }, { accessFlags := 10, nameIndex := 525, descriptorIndex := 526, attributes := #[] }, { accessFlags := 26, nameIndex := 674, descriptorIndex := 12, attributes := #[] }, { accessFlags := 26, nameIndex := 677, descriptorIndex := 12, attributes := #[] }, { accessFlags := 10, nameIndex := 11, descriptorIndex := 12, attributes := #[] }, { accessFlags := 74, nameIndex := 175, descriptorIndex := 176, attributes := #[] }, { accessFlags := 10, nameIndex := 491, descriptorIndex := 222, attributes := #[] }, { accessFlags := 74, nameIndex := 29, descriptorIndex := 30, attributes := #[] }, { accessFlags := 74, nameIndex := 154, descriptorIndex := 155, attributes := #[] }, { accessFlags := 10, nameIndex := 217, descriptorIndex := 218, attributes := #[] }, { accessFlags := 10, nameIndex := 221, descriptorIndex := 222, attributes := #[] }, { accessFlags := 8, nameIndex := 562, descriptorIndex := 563, attributes := #[] }])
  fields := #[{ name := "in", type := (.object "java/io/InputStream"), accessFlags := 25, slot := 0, constantValue := 0 }, { name := "out", type := (.object "java/io/PrintStream"), accessFlags := 25, slot := 1, constantValue := 0 }, { name := "err", type := (.object "java/io/PrintStream"), accessFlags := 25, slot := 2, constantValue := 0 }, { name := "initialIn", type := (.object "java/io/InputStream"), accessFlags := 10, slot := 3, constantValue := 0 }, { name := "NEVER", type := .int, accessFlags := 26, slot := 4, constantValue := 0 }, { name := "MAYBE", type := .int, accessFlags := 26, slot := 5, constantValue := 0 }, { name := "allowSecurityManager", type := .int, accessFlags := 10, slot := 6, constantValue := 0 }, { name := "security", type := (.object "java/lang/SecurityManager"), accessFlags := 74, slot := 7, constantValue := 0 }, { name := "notSupportedJnuEncoding", type := (.object "java/lang/String"), accessFlags := 10, slot := 8, constantValue := 0 }, { name := "cons", type := (.object "java/io/Console"), accessFlags := 74, slot := 9, constantValue := 0 }, { name := "initialErrStream", type := (.object "java/io/PrintStream"), accessFlags := 74, slot := 10, constantValue := 0 }, { name := "props", type := (.object "java/util/Properties"), accessFlags := 10, slot := 11, constantValue := 0 }, { name := "lineSeparator", type := (.object "java/lang/String"), accessFlags := 10, slot := 12, constantValue := 0 }, { name := "bootLayer", type := (.object "java/lang/ModuleLayer"), accessFlags := 8, slot := 13, constantValue := 0 }]
  methods := #[k5m0, k5m1]
  instanceTypes := #[]
  staticTypes := #[(.object "java/io/InputStream"), (.object "java/io/PrintStream"), (.object "java/io/PrintStream"), (.object "java/io/InputStream"), .int, .int, .int, (.object "java/lang/SecurityManager"), (.object "java/lang/String"), (.object "java/io/Console"), (.object "java/io/PrintStream"), (.object "java/util/Properties"), (.object "java/lang/String"), (.object "java/lang/ModuleLayer")]
  resolved := Array.replicate 834 none
  statics := none }

def pool6 : Array CpInfo := pool [(1, .class_ 2), (0, u "java/util/DualPivotQuicksort"), (5, .class_ 10), (1, u "java/lang/Object"), (0, u "<init>"), (0, u "()V"), (4, .class_ 18), (0, u "java/util/DualPivotQuicksort$Sorter"), (7, .methodref 1 27), (0, .nameAndType 28 29), (0, u "sort"), (0, u "(Ljava/util/DualPivotQuicksort$Sorter;[IIII)V"), (3, u "([IIII)V"), (0, .methodref 1 35), (0, .nameAndType 36 37), (0, u "insertionSort"), (0, u "([III)V"), (30, u "I"), (4, .class_ 74), (0, u "java/util/DualPivotQuicksort$RunMerger"), (10, .class_ 86), (0, u "java/util/DualPivotQuicksort$Merger"), (127, u "MAX_MIXED_INSERTION_SORT_SIZE"), (2, u "MAX_INSERTION_SORT_SIZE"), (1, u "MIN_PARALLEL_SORT_SIZE"), (1, u "MIN_TRY_MERGE_SIZE"), (0, u "MIN_FIRST_RUN_SIZE"), (1, u "MIN_FIRST_RUNS_FACTOR"), (1, u "MAX_RUN_CAPACITY"), (1, u "MIN_RUN_COUNT"), (1, u "MIN_PARALLEL_MERGE_PARTS_SIZE"), (0, u "MIN_BYTE_COUNTING_SORT_SIZE"), (1, u "MIN_SHORT_OR_CHAR_COUNTING_SORT_SIZE"), (1, u "DELTA"), (1, u "MAX_RECURSION_DEPTH"), (1, u "NUM_BYTE_VALUES"), (1, u "MAX_BYTE_INDEX"), (0, u "NUM_CHAR_VALUES"), (0, u "NUM_SHORT_VALUES"), (0, u "MAX_SHORT_INDEX")] 86

def k6m0 : Method := { name := "<init>", desc := "()V", sig := { parameters := [], returnType := none }, accessFlags := 2, code := none }
def k6c1 : Code := { maxStack := 9, maxLocals := 7, code := jdk_2529_method_3_code, exceptionTable := #[], attributes := #[] }
def k6m1 : Method := { name := "sort", desc := "([IIII)V", sig := { parameters := [(.array .int), .int, .int, .int], returnType := none }, accessFlags := 8, code := some k6c1 }
def k6c2 : Code := { maxStack := 6, maxLocals := 21, code := jdk_2529_method_4_code, exceptionTable := #[], attributes := #[] }
def k6m2 : Method := { name := "sort", desc := "(Ljava/util/DualPivotQuicksort$Sorter;[IIII)V", sig := { parameters := [(.object "java/util/DualPivotQuicksort$Sorter"), (.array .int), .int, .int, .int], returnType := none }, accessFlags := 8, code := some k6c2 }
def k6c3 : Code := { maxStack := 4, maxLocals := 6, code := jdk_2529_method_6_code, exceptionTable := #[], attributes := #[] }
def k6m3 : Method := { name := "insertionSort", desc := "([III)V", sig := { parameters := [(.array .int), .int, .int], returnType := none }, accessFlags := 10, code := some k6c3 }
/-- java/util/DualPivotQuicksort -/
def k6 : Class := { plain "java/util/DualPivotQuicksort" (some 0) with
  accessFlags := 48
  interfaces := #[]
  cf := some (fileOf pool6 1 #[.nestMembers #[73, 85, 17]] #[{ accessFlags := 2, nameIndex := 11, descriptorIndex := 12, attributes := #[] }, { accessFlags := 8, nameIndex := 28, descriptorIndex := 33, attributes := #[] }, { accessFlags := 8, nameIndex := 28, descriptorIndex := 29, attributes := #[] }, { accessFlags := 10, nameIndex := 36, descriptorIndex := 37, attributes := #[] }] 48 8 #[] #[{ accessFlags := 26, nameIndex := 214, descriptorIndex := 68, attributes := #[] }, { accessFlags := 26, nameIndex := 217, descriptorIndex := 68, attributes := #[] }, { accessFlags := 26, nameIndex := 219, descriptorIndex := 68, attributes := #[] }, { accessFlags := 26, nameIndex := 221, descriptorIndex := 68, attributes := #[] }, { accessFlags := 26, nameIndex := 222, descriptorIndex := 68, attributes := #[] }, { accessFlags := 26, nameIndex := 224, descriptorIndex := 68, attributes := #[] }, { accessFlags := 26, nameIndex := 226, descriptorIndex := 68, attributes := #[] }, { accessFlags := 26, nameIndex := 228, descriptorIndex := 68, attributes := #[] }, { accessFlags := 26, nameIndex := 230, descriptorIndex := 68, attributes := #[] }, { accessFlags := 26, nameIndex := 231, descriptorIndex := 68, attributes := #[] }, { accessFlags := 26, nameIndex := 233, descriptorIndex := 68, attributes := #[] }, { accessFlags := 26, nameIndex := 235, descriptorIndex := 68, attributes := #[] }, { accessFlags := 26, nameIndex := 237, descriptorIndex := 68, attributes := #[] }, { accessFlags := 26, nameIndex := 239, descriptorIndex := 68, attributes := #[] }, { accessFlags := 26, nameIndex := 241, descriptorIndex := 68, attributes := #[] }, { accessFlags := 26, nameIndex := 242, descriptorIndex := 68, attributes := #[] }, { accessFlags := 26, nameIndex := 243, descriptorIndex := 68, attributes := #[] }, { accessFlags := 26, nameIndex := 244, descriptorIndex := 68, attributes := #[] }])
  fields := #[{ name := "MAX_MIXED_INSERTION_SORT_SIZE", type := .int, accessFlags := 26, slot := 0, constantValue := 0 }, { name := "MAX_INSERTION_SORT_SIZE", type := .int, accessFlags := 26, slot := 1, constantValue := 0 }, { name := "MIN_PARALLEL_SORT_SIZE", type := .int, accessFlags := 26, slot := 2, constantValue := 0 }, { name := "MIN_TRY_MERGE_SIZE", type := .int, accessFlags := 26, slot := 3, constantValue := 0 }, { name := "MIN_FIRST_RUN_SIZE", type := .int, accessFlags := 26, slot := 4, constantValue := 0 }, { name := "MIN_FIRST_RUNS_FACTOR", type := .int, accessFlags := 26, slot := 5, constantValue := 0 }, { name := "MAX_RUN_CAPACITY", type := .int, accessFlags := 26, slot := 6, constantValue := 0 }, { name := "MIN_RUN_COUNT", type := .int, accessFlags := 26, slot := 7, constantValue := 0 }, { name := "MIN_PARALLEL_MERGE_PARTS_SIZE", type := .int, accessFlags := 26, slot := 8, constantValue := 0 }, { name := "MIN_BYTE_COUNTING_SORT_SIZE", type := .int, accessFlags := 26, slot := 9, constantValue := 0 }, { name := "MIN_SHORT_OR_CHAR_COUNTING_SORT_SIZE", type := .int, accessFlags := 26, slot := 10, constantValue := 0 }, { name := "DELTA", type := .int, accessFlags := 26, slot := 11, constantValue := 0 }, { name := "MAX_RECURSION_DEPTH", type := .int, accessFlags := 26, slot := 12, constantValue := 0 }, { name := "NUM_BYTE_VALUES", type := .int, accessFlags := 26, slot := 13, constantValue := 0 }, { name := "MAX_BYTE_INDEX", type := .int, accessFlags := 26, slot := 14, constantValue := 0 }, { name := "NUM_CHAR_VALUES", type := .int, accessFlags := 26, slot := 15, constantValue := 0 }, { name := "NUM_SHORT_VALUES", type := .int, accessFlags := 26, slot := 16, constantValue := 0 }, { name := "MAX_SHORT_INDEX", type := .int, accessFlags := 26, slot := 17, constantValue := 0 }]
  methods := #[k6m0, k6m1, k6m2, k6m3]
  instanceTypes := #[]
  staticTypes := #[.int, .int, .int, .int, .int, .int, .int, .int, .int, .int, .int, .int, .int, .int, .int, .int, .int, .int]
  resolved := Array.replicate 331 none
  statics := none }

def pool7 : Array CpInfo := pool [(1, .methodref 2 3), (0, .class_ 4), (0, .nameAndType 5 6), (0, u "java/lang/Object"), (0, u "<init>"), (0, u "()V"), (0, .fieldref 8 9), (0, .class_ 10), (0, .nameAndType 11 12), (0, u "com/example/dolqa/dolqa/data/UnaryRelation"), (0, u "members"), (0, u "[I"), (2, u "EMPTY"), (0, u "Lcom/example/dolqa/dolqa/data/UnaryRelation;"), (6, .class_ 24), (0, u "java/util/ArrayList"), (0, .methodref 23 3), (0, .interfaceMethodref 27 28), (0, .class_ 29), (0, .nameAndType 30 31), (0, u "java/util/List"), (0, u "iterator"), (0, u "()Ljava/util/Iterator;"), (0, .interfaceMethodref 33 34), (0, .class_ 35), (0, .nameAndType 36 37), (0, u "java/util/Iterator"), (0, u "hasNext"), (0, u "()Z"), (0, .interfaceMethodref 33 39), (0, .nameAndType 40 41), (0, u "next"), (0, u "()Ljava/lang/Object;"), (0, .methodref 8 43), (0, .nameAndType 44 45), (0, u "size"), (0, u "()I"), (0, .interfaceMethodref 27 47), (0, .nameAndType 48 49), (0, u "add"), (0, u "(Ljava/lang/Object;)Z"), (0, .interfaceMethodref 27 43), (7, .class_ 59), (0, u "com/example/dolqa/dolqa/data/UnaryRelation$Builder"), (0, .methodref 58 3), (0, .methodref 8 62), (0, .nameAndType 63 64), (0, u "member"), (0, u "(I)I"), (0, .methodref 58 66), (0, .nameAndType 48 67), (0, u "(I)Lcom/example/dolqa/dolqa/data/UnaryRelation$Builder;"), (0, .methodref 58 69), (0, .nameAndType 70 71), (0, u "build"), (0, u "()Lcom/example/dolqa/dolqa/data/UnaryRelation;"), (2, u "([I)V"), (6, u "union"), (0, u "(Ljava/util/List;)Lcom/example/dolqa/dolqa/data/UnaryRelation;")] 8

def k7c0 : Code := { maxStack := 2, maxLocals := 2, code := prog_8_method_1_code, exceptionTable := #[], attributes := #[] }
def k7m0 : Method := { name := "<init>", desc := "([I)V", sig := { parameters := [(.array .int)], returnType := none }, accessFlags := 0, code := some k7c0 }
def k7c1 : Code := { maxStack := 1, maxLocals := 1, code := prog_8_method_4_code, exceptionTable := #[], attributes := #[] }
def k7m1 : Method := { name := "size", desc := "()I", sig := { parameters := [], returnType := some .int }, accessFlags := 1, code := some k7c1 }
def k7c2 : Code := { maxStack := 2, maxLocals := 2, code := prog_8_method_5_code, exceptionTable := #[], attributes := #[] }
def k7m2 : Method := { name := "member", desc := "(I)I", sig := { parameters := [.int], returnType := some .int }, accessFlags := 1, code := some k7c2 }
def k7c3 : Code := { maxStack := 3, maxLocals := 7, code := prog_8_method_6_code, exceptionTable := #[], attributes := #[] }
def k7m3 : Method := { name := "union", desc := "(Ljava/util/List;)Lcom/example/dolqa/dolqa/data/UnaryRelation;", sig := { parameters := [(.object "java/util/List")], returnType := some (.object "com/example/dolqa/dolqa/data/UnaryRelation") }, accessFlags := 9, code := some k7c3 }
/-- com/example/dolqa/dolqa/data/UnaryRelation -/
def k7 : Class := { plain "com/example/dolqa/dolqa/data/UnaryRelation" (some 0) with
  accessFlags := 49
  interfaces := #[]
  cf := some (fileOf pool7 8 #[.nestMembers #[58]] #[{ accessFlags := 0, nameIndex := 5, descriptorIndex := 74, attributes := #[] }, { accessFlags := 1, nameIndex := 44, descriptorIndex := 45, attributes := #[] }, { accessFlags := 1, nameIndex := 63, descriptorIndex := 64, attributes := #[] }, { accessFlags := 9, nameIndex := 81, descriptorIndex := 82, attributes := #[] }] 49 2 #[] #[{ accessFlags := 26, nameIndex := 15, descriptorIndex := 16, attributes := #[] }, { accessFlags := 18, nameIndex := 11, descriptorIndex := 12, attributes := #[] }])
  fields := #[{ name := "EMPTY", type := (.object "com/example/dolqa/dolqa/data/UnaryRelation"), accessFlags := 26, slot := 0, constantValue := 0 }, { name := "members", type := (.array .int), accessFlags := 18, slot := 0, constantValue := 0 }]
  methods := #[k7m0, k7m1, k7m2, k7m3]
  instanceTypes := #[(.array .int)]
  staticTypes := #[(.object "com/example/dolqa/dolqa/data/UnaryRelation")]
  resolved := Array.replicate 91 none
  statics := none }

def pool8 : Array CpInfo := pool [(1, .class_ 2), (0, u "java/lang/Cloneable"), (0, .class_ 4), (0, u "java/lang/Object")] 2

/-- java/lang/Cloneable -/
def k8 : Class := { plain "java/lang/Cloneable" (some 0) with
  accessFlags := 1537
  interfaces := #[]
  cf := some (fileOf pool8 1 #[] #[] 1537 3 #[] #[])
  fields := #[]
  methods := #[]
  instanceTypes := #[]
  staticTypes := #[]
  resolved := Array.replicate 7 none
  statics := none }

def pool9 : Array CpInfo := pool [(8, .class_ 10), (1, u "java/lang/Iterable"), (24, .class_ 36), (0, u "java/lang/Object")] 25

/-- java/lang/Iterable -/
def k9 : Class := { plain "java/lang/Iterable" (some 0) with
  accessFlags := 1537
  interfaces := #[]
  cf := some (fileOf pool9 8 #[] #[] 1537 35 #[] #[])
  fields := #[]
  methods := #[]
  instanceTypes := #[]
  staticTypes := #[]
  resolved := Array.replicate 62 none
  statics := none }

def pool10 : Array CpInfo := pool [(10, .class_ 12), (1, u "java/util/Collection"), (47, .class_ 61), (0, u "java/lang/Object"), (0, .class_ 63), (0, u "java/lang/Iterable")] 51

/-- java/util/Collection -/
def k10 : Class := { plain "java/util/Collection" (some 0) with
  accessFlags := 1537
  interfaces := #[9]
  cf := some (fileOf pool10 10 #[] #[] 1537 60 #[62] #[])
  fields := #[]
  methods := #[]
  instanceTypes := #[]
  staticTypes := #[]
  resolved := Array.replicate 115 none
  statics := none }

def pool11 : Array CpInfo := pool [(1, .methodref 2 3), (0, .class_ 4), (0, .nameAndType 5 6), (0, u "java/lang/Object"), (0, u "<init>"), (0, u "()V"), (1, .class_ 10), (1, u "java/util/AbstractCollection"), (66, .class_ 78), (0, u "java/util/Collection")] 81

def k11c0 : Code := { maxStack := 1, maxLocals := 1, code := jdk_22_method_1_code, exceptionTable := #[], attributes := #[] }
def k11m0 : Method := { name := "<init>", desc := "()V", sig := { parameters := [], returnType := none }, accessFlags := 4, code := some k11c0 }
/-- java/util/AbstractCollection -/
def k11 : Class := { plain "java/util/AbstractCollection" (some 0) with
  accessFlags := 1057
  interfaces := #[10]
  cf := some (fileOf pool11 8 #[] #[{ accessFlags := 4, nameIndex := 5, descriptorIndex := 6, attributes := #[] }] 1057 2 #[77] #[])
  fields := #[]
  methods := #[k11m0]
  instanceTypes := #[]
  staticTypes := #[]
  resolved := Array.replicate 160 none
  statics := none }

def pool12 : Array CpInfo := pool [(8, .class_ 10), (1, u "java/util/SequencedCollection"), (15, .class_ 27), (0, u "java/lang/Object"), (0, .class_ 29), (0, u "java/util/Collection")] 27

/-- java/util/SequencedCollection -/
def k12 : Class := { plain "java/util/SequencedCollection" (some 0) with
  accessFlags := 1537
  interfaces := #[10]
  cf := some (fileOf pool12 8 #[] #[] 1537 26 #[28] #[])
  fields := #[]
  methods := #[]
  instanceTypes := #[]
  staticTypes := #[]
  resolved := Array.replicate 57 none
  statics := none }

def pool13 : Array CpInfo := pool [(8, .class_ 10), (1, u "java/util/List"), (49, u "add"), (3, u "(Ljava/lang/Object;)Z"), (14, u "size"), (0, u "()I"), (22, .class_ 104), (0, u "java/lang/Object"), (15, .class_ 121), (0, u "java/util/SequencedCollection"), (1, u "iterator"), (0, u "()Ljava/util/Iterator;")] 126

def k13m0 : Method := { name := "size", desc := "()I", sig := { parameters := [], returnType := some .int }, accessFlags := 1025, code := none }
def k13m1 : Method := { name := "iterator", desc := "()Ljava/util/Iterator;", sig := { parameters := [], returnType := some (.object "java/util/Iterator") }, accessFlags := 1025, code := none }
def k13m2 : Method := { name := "add", desc := "(Ljava/lang/Object;)Z", sig := { parameters := [(.object "java/lang/Object")], returnType := some .boolean }, accessFlags := 1025, code := none }
/-- java/util/List -/
def k13 : Class := { plain "java/util/List" (some 0) with
  accessFlags := 1537
  interfaces := #[12]
  cf := some (fileOf pool13 8 #[] #[{ accessFlags := 1025, nameIndex := 79, descriptorIndex := 80, attributes := #[] }, { accessFlags := 1025, nameIndex := 123, descriptorIndex := 124, attributes := #[] }, { accessFlags := 1025, nameIndex := 60, descriptorIndex := 64, attributes := #[] }] 1537 103 #[120] #[])
  fields := #[]
  methods := #[k13m0, k13m1, k13m2]
  instanceTypes := #[]
  staticTypes := #[]
  resolved := Array.replicate 251 none
  statics := none }

def pool14 : Array CpInfo := pool [(1, .methodref 2 3), (0, .class_ 4), (0, .nameAndType 5 6), (0, u "java/util/AbstractCollection"), (0, u "<init>"), (0, u "()V"), (0, .fieldref 8 9), (0, .class_ 10), (0, .nameAndType 11 12), (0, u "java/util/AbstractList"), (0, u "modCount"), (0, u "I"), (64, .class_ 78), (0, u "java/util/AbstractList$Itr"), (3, .class_ 83), (0, u "java/util/AbstractList$ListItr"), (9, .class_ 94), (0, u "java/util/AbstractList$RandomAccessSubList"), (3, .class_ 99), (0, u "java/util/AbstractList$SubList"), (33, .class_ 134), (0, u "java/util/List"), (73, .class_ 209), (0, u "java/util/AbstractList$SubList$1"), (0, .class_ 211), (0, u "java/util/AbstractList$RandomAccessSpliterator")] 6

def k14c0 : Code := { maxStack := 2, maxLocals := 1, code := jdk_39_method_1_code, exceptionTable := #[], attributes := #[] }
def k14m0 : Method := { name := "<init>", desc := "()V", sig := { parameters := [], returnType := none }, accessFlags := 4, code := some k14c0 }
/-- java/util/AbstractList -/
def k14 : Class := { plain "java/util/AbstractList" (some 11) with
  accessFlags := 1057
  interfaces := #[13]
  cf := some (fileOf pool14 8 #[.nestMembers #[93, 98, 208, 210, 82, 77]] #[{ accessFlags := 4, nameIndex := 5, descriptorIndex := 6, attributes := #[] }] 1057 2 #[133] #[{ accessFlags := 132, nameIndex := 11, descriptorIndex := 12, attributes := #[] }])
  fields := #[{ name := "modCount", type := .int, accessFlags := 132, slot := 0, constantValue := 0 }]
  methods := #[k14m0]
  instanceTypes := #[.int]
  staticTypes := #[]
  resolved := Array.replicate 218 none
  statics := none }

def pool15 : Array CpInfo := pool [(1, .class_ 2), (0, u "java/util/RandomAccess"), (0, .class_ 4), (0, u "java/lang/Object")] 2

/-- java/util/RandomAccess -/
def k15 : Class := { plain "java/util/RandomAccess" (some 0) with
  accessFlags := 1537
  interfaces := #[]
  cf := some (fileOf pool15 1 #[] #[] 1537 3 #[] #[])
  fields := #[]
  methods := #[]
  instanceTypes := #[]
  staticTypes := #[]
  resolved := Array.replicate 7 none
  statics := none }

def pool16 : Array CpInfo := pool [(1, .class_ 2), (0, u "java/io/Serializable"), (0, .class_ 4), (0, u "java/lang/Object")] 2

/-- java/io/Serializable -/
def k16 : Class := { plain "java/io/Serializable" (some 0) with
  accessFlags := 1537
  interfaces := #[]
  cf := some (fileOf pool16 1 #[] #[] 1537 3 #[] #[])
  fields := #[]
  methods := #[]
  instanceTypes := #[]
  staticTypes := #[]
  resolved := Array.replicate 7 none
  statics := none }

def pool17 : Array CpInfo := pool [(1, .methodref 2 3), (0, .class_ 4), (0, .nameAndType 5 6), (0, u "java/util/AbstractList"), (0, u "<init>"), (0, u "()V"), (0, .class_ 8), (0, u "java/lang/Object"), (0, .fieldref 10 11), (0, .class_ 12), (0, .nameAndType 13 14), (0, u "java/util/ArrayList"), (0, u "elementData"), (0, u "[Ljava/lang/Object;"), (2, u "EMPTY_ELEMENTDATA"), (21, .fieldref 10 40), (0, .nameAndType 41 14), (0, u "DEFAULTCAPACITY_EMPTY_ELEMENTDATA"), (5, u "()[Ljava/lang/Object;"), (0, .fieldref 10 49), (0, .nameAndType 50 51), (0, u "size"), (0, u "I"), (11, .fieldref 10 64), (0, .nameAndType 65 51), (0, u "modCount"), (3, .methodref 10 70), (0, .nameAndType 71 72), (0, u "grow"), (0, u "(I)[Ljava/lang/Object;"), (6, .methodref 80 81), (0, .class_ 82), (0, .nameAndType 83 84), (0, u "java/lang/Math"), (0, u "max"), (0, u "(II)I"), (11, u "(Ljava/lang/Object;)Z"), (32, .methodref 10 130), (0, .nameAndType 71 47), (0, .methodref 10 132), (0, .nameAndType 133 134), (0, u "add"), (0, u "(Ljava/lang/Object;[Ljava/lang/Object;I)V"), (13, .class_ 149), (0, u "java/util/List"), (16, u "iterator"), (0, u "()Ljava/util/Iterator;"), (18, u "()I"), (75, .class_ 263), (0, u "java/util/ArrayList$ListItr"), (3, .class_ 268), (0, u "java/util/ArrayList$Itr"), (0, .methodref 267 270), (0, .nameAndType 5 271), (0, u "(Ljava/util/ArrayList;)V"), (4, .class_ 277), (0, u "java/util/ArrayList$SubList"), (12, .class_ 291), (0, u "java/util/ArrayList$ArrayListSpliterator"), (37, .class_ 330), (0, u "java/util/RandomAccess"), (0, .class_ 332), (0, u "java/lang/Cloneable"), (0, .class_ 334), (0, u "java/io/Serializable"), (0, u "serialVersionUID"), (0, u "J"), (3, u "DEFAULT_CAPACITY"), (159, .class_ 501), (0, u "java/util/ArrayList$SubList$2"), (0, .class_ 503), (0, u "java/util/ArrayList$SubList$1")] 5

def k17c0 : Code := { maxStack := 2, maxLocals := 1, code := jdk_38_method_2_code, exceptionTable := #[], attributes := #[] }
def k17m0 : Method := { name := "<init>", desc := "()V", sig := { parameters := [], returnType := none }, accessFlags := 1, code := some k17c0 }
def k17c1 : Code := { maxStack := 4, maxLocals := 4, code := jdk_38_method_6_code, exceptionTable := #[], attributes := #[] }
def k17m1 : Method := { name := "grow", desc := "(I)[Ljava/lang/Object;", sig := { parameters := [.int], returnType := some (.array (.object "java/lang/Object")) }, accessFlags := 2, code := some k17c1 }
def k17c2 : Code := { maxStack := 3, maxLocals := 1, code := jdk_38_method_7_code, exceptionTable := #[], attributes := #[] }
def k17m2 : Method := { name := "grow", desc := "()[Ljava/lang/Object;", sig := { parameters := [], returnType := some (.array (.object "java/lang/Object")) }, accessFlags := 2, code := some k17c2 }
def k17c3 : Code := { maxStack := 1, maxLocals := 1, code := jdk_38_method_8_code, exceptionTable := #[], attributes := #[] }
def k17m3 : Method := { name := "size", desc := "()I", sig := { parameters := [], returnType := some .int }, accessFlags := 1, code := some k17c3 }
def k17c4 : Code := { maxStack := 3, maxLocals := 4, code := jdk_38_method_24_code, exceptionTable := #[], attributes := #[] }
def k17m4 : Method := { name := "add", desc := "(Ljava/lang/Object;[Ljava/lang/Object;I)V", sig := { parameters := [(.object "java/lang/Object"), (.array (.object "java/lang/Object")), .int], returnType := none }, accessFlags := 2, code := some k17c4 }
def k17c5 : Code := { maxStack := 4, maxLocals := 2, code := jdk_38_method_25_code, exceptionTable := #[], attributes := #[] }
def k17m5 : Method := { name := "add", desc := "(Ljava/lang/Object;)Z", sig := { parameters := [(.object "java/lang/Object")], returnType := some .boolean }, accessFlags := 1, code := some k17c5 }
def k17c6 : Code := { maxStack := 3, maxLocals := 1, code := jdk_38_method_55_code, exceptionTable := #[], attributes := #[] }
def k17m6 : Method := { name := "iterator", desc := "()Ljava/util/Iterator;", sig := { parameters := [], returnType := some (.object "java/util/Iterator") }, accessFlags := 1, code := some k17c6 }
/-- java/util/ArrayList -/
def k17 : Class := { plain "java/util/ArrayList" (some 14) with
  accessFlags := 33
  interfaces := #[13, 15, 8, 16]
  cf := some (fileOf pool17 10 #[.nestMembers #[290, 276, 500, 502, 262, 267]] #[{ accessFlags := 1, nameIndex := 5, descriptorIndex := 6, attributes := #[] }, { accessFlags := 2, nameIndex := 71, descriptorIndex := 72, attributes := #[] }, { accessFlags := 2, nameIndex := 71, descriptorIndex := 47, attributes := #[] }, { accessFlags := 1, nameIndex := 50, descriptorIndex := 186, attributes := #[] }, { accessFlags := 2, nameIndex := 133, descriptorIndex := 134, attributes := #[] }, { accessFlags := 1, nameIndex := 133, descriptorIndex := 96, attributes := #[] }, { accessFlags := 1, nameIndex := 166, descriptorIndex := 167, attributes := #[] }] 33 2 #[148, 329, 331, 333] #[{ accessFlags := 26, nameIndex := 335, descriptorIndex := 336, attributes := #[] }, { accessFlags := 26, nameIndex := 340, descriptorIndex := 51, attributes := #[] }, { accessFlags := 26, nameIndex := 17, descriptorIndex := 14, attributes := #[] }, { accessFlags := 26, nameIndex := 41, descriptorIndex := 14, attributes := #[] }, { accessFlags := 128, nameIndex := 13, descriptorIndex := 14, attributes := #[] }, { accessFlags := 2, nameIndex := 50, descriptorIndex := 51, attributes := #[] }])
  fields := #[{ name := "serialVersionUID", type := .long, accessFlags := 26, slot := 0, constantValue := 0 }, { name := "DEFAULT_CAPACITY", type := .int, accessFlags := 26, slot := 1, constantValue := 0 }, { name := "EMPTY_ELEMENTDATA", type := (.array (.object "java/lang/Object")), accessFlags := 26, slot := 2, constantValue := 0 }, { name := "DEFAULTCAPACITY_EMPTY_ELEMENTDATA", type := (.array (.object "java/lang/Object")), accessFlags := 26, slot := 3, constantValue := 0 }, { name := "elementData", type := (.array (.object "java/lang/Object")), accessFlags := 128, slot := 1, constantValue := 0 }, { name := "size", type := .int, accessFlags := 2, slot := 2, constantValue := 0 }]
  methods := #[k17m0, k17m1, k17m2, k17m3, k17m4, k17m5, k17m6]
  instanceTypes := #[.int, (.array (.object "java/lang/Object")), .int]
  staticTypes := #[.long, .int, (.array (.object "java/lang/Object")), (.array (.object "java/lang/Object"))]
  resolved := Array.replicate 509 none
  statics := some 0 }

def pool18 : Array CpInfo := pool [(16, .class_ 18), (1, u "java/util/Iterator"), (0, u "hasNext"), (0, u "()Z"), (2, u "next"), (0, u "()Ljava/lang/Object;"), (6, .class_ 32), (0, u "java/lang/Object")] 20

def k18m0 : Method := { name := "hasNext", desc := "()Z", sig := { parameters := [], returnType := some .boolean }, accessFlags := 1025, code := none }
def k18m1 : Method := { name := "next", desc := "()Ljava/lang/Object;", sig := { parameters := [], returnType := some (.object "java/lang/Object") }, accessFlags := 1025, code := none }
/-- java/util/Iterator -/
def k18 : Class := { plain "java/util/Iterator" (some 0) with
  accessFlags := 1537
  interfaces := #[]
  cf := some (fileOf pool18 16 #[] #[{ accessFlags := 1025, nameIndex := 19, descriptorIndex := 20, attributes := #[] }, { accessFlags := 1025, nameIndex := 23, descriptorIndex := 24, attributes := #[] }] 1537 31 #[] #[])
  fields := #[]
  methods := #[k18m0, k18m1]
  instanceTypes := #[]
  staticTypes := #[]
  resolved := Array.replicate 53 none
  statics := none }

def pool19 : Array CpInfo := pool [(1, .fieldref 2 3), (0, .class_ 4), (0, .nameAndType 5 6), (0, u "java/util/ArrayList$Itr"), (0, u "this$0"), (0, u "Ljava/util/ArrayList;"), (0, .methodref 8 9), (0, .class_ 10), (0, .nameAndType 11 12), (0, u "java/lang/Object"), (0, u "<init>"), (0, u "()V"), (0, .fieldref 2 14), (0, .nameAndType 15 16), (0, u "lastRet"), (0, u "I"), (0, .fieldref 18 19), (0, .class_ 20), (0, .nameAndType 21 16), (0, u "java/util/ArrayList"), (0, u "modCount"), (0, .fieldref 2 23), (0, .nameAndType 24 16), (0, u "expectedModCount"), (0, .fieldref 2 26), (0, .nameAndType 27 16), (0, u "cursor"), (0, .fieldref 18 29), (0, .nameAndType 30 16), (0, u "size"), (0, .methodref 2 32), (0, .nameAndType 33 12), (0, u "checkForComodification"), (3, .fieldref 18 38), (0, .nameAndType 39 40), (0, u "elementData"), (0, u "[Ljava/lang/Object;"), (28, .class_ 70), (0, u "java/util/Iterator"), (0, u "(Ljava/util/ArrayList;)V"), (8, u "hasNext"), (0, u "()Z"), (1, u "next"), (0, u "()Ljava/lang/Object;")] 19

def k19c0 : Code := { maxStack := 2, maxLocals := 2, code := jdk_49_method_1_code, exceptionTable := #[], attributes := #[] }
def k19m0 : Method := { name := "<init>", desc := "(Ljava/util/ArrayList;)V", sig := { parameters := [(.object "java/util/ArrayList")], returnType := none }, accessFlags := 0, code := some k19c0 }
def k19c1 : Code := { maxStack := 2, maxLocals := 1, code := jdk_49_method_2_code, exceptionTable := #[], attributes := #[] }
def k19m1 : Method := { name := "hasNext", desc := "()Z", sig := { parameters := [], returnType := some .boolean }, accessFlags := 1, code := some k19c1 }
def k19c2 : Code := { maxStack := 4, maxLocals := 3, code := jdk_49_method_3_code, exceptionTable := #[], attributes := #[] }
def k19m2 : Method := { name := "next", desc := "()Ljava/lang/Object;", sig := { parameters := [], returnType := some (.object "java/lang/Object") }, accessFlags := 1, code := some k19c2 }
def k19c3 : Code := { maxStack := 2, maxLocals := 1, code := jdk_49_method_6_code, exceptionTable := #[], attributes := #[] }
def k19m3 : Method := { name := "checkForComodification", desc := "()V", sig := { parameters := [], returnType := none }, accessFlags := 16, code := some k19c3 }
/-- java/util/ArrayList$Itr -/
def k19 : Class := { plain "java/util/ArrayList$Itr" (some 0) with
  accessFlags := 32
  interfaces := #[18]
  cf := some (fileOf pool19 2 #[.nestHost 18] #[{ accessFlags := 0, nameIndex := 11, descriptorIndex := 71, attributes := #[] }, { accessFlags := 1, nameIndex := 80, descriptorIndex := 81, attributes := #[] }, { accessFlags := 1, nameIndex := 83, descriptorIndex := 84, attributes := #[] }, { accessFlags := 16, nameIndex := 33, descriptorIndex := 12, attributes := #[] }] 32 8 #[69] #[{ accessFlags := 0, nameIndex := 27, descriptorIndex := 16, attributes := #[] }, { accessFlags := 0, nameIndex := 15, descriptorIndex := 16, attributes := #[] }, { accessFlags := 0, nameIndex := 24, descriptorIndex := 16, attributes := #[] }, { accessFlags := 4112, nameIndex := 5, descriptorIndex := 6, attributes := #[] }])
  fields := #[{ name := "cursor", type := .int, accessFlags := 0, slot := 0, constantValue := 0 }, { name := "lastRet", type := .int, accessFlags := 0, slot := 1, constantValue := 0 }, { name := "expectedModCount", type := .int, accessFlags := 0, slot := 2, constantValue := 0 }, { name := "this$0", type := (.object "java/util/ArrayList"), accessFlags := 4112, slot := 3, constantValue := 0 }]
  methods := #[k19m0, k19m1, k19m2, k19m3]
  instanceTypes := #[.int, .int, .int, (.object "java/util/ArrayList")]
  staticTypes := #[]
  resolved := Array.replicate 104 none
  statics := none }

/-- the primitive byte -/
def k20 : Class := { plain "byte" none with kind := .primitive 'B', accessFlags := 0x411 }
/-- [B -/
def k21 : Class := { plain "[B" (some 0) with kind := .array 20 .byte, interfaces := #[8, 16], accessFlags := 1041 }

/-- the primitive int -/
def k22 : Class := { plain "int" none with kind := .primitive 'I', accessFlags := 0x411 }
/-- [I -/
def k23 : Class := { plain "[I" (some 0) with kind := .array 22 .int, interfaces := #[8, 16], accessFlags := 1041 }

/-- [Ljava/lang/Object; -/
def k24 : Class := { plain "[Ljava/lang/Object;" (some 0) with kind := .array 0 (.object "java/lang/Object"), interfaces := #[8, 16], accessFlags := 1041 }

def heap : Heap := #[{ cls := 17, slots := #[.long 0, .int 0, .ref 1, .ref 2], vm := .statics 17 },
  { cls := 24, slots := #[], vm := .none },
  { cls := 24, slots := #[], vm := .none }]
def classes : Array Class := #[k0, k1, k2, k3, k4, k5, k6, k7, k8, k9, k10, k11, k12, k13, k14, k15, k16, k17, k18, k19, k20, k21, k22, k23, k24]
def interned : List (Array UInt16 × Addr) := []
def slotsUsed : Nat := 4
def theMethod : MethodId := ⟨1, 1⟩
def args0 : Array Value := #[.int 5, .int 7, .int 3, .int 9, .int 1, .int 2]
def aboutOver (below : List Frame) : State where
  vm := { classes := classes, interned := interned.toArray }
  heap := heap
  slotsUsed := slotsUsed
  threads := #[{ frames := .invoking theMethod args0 :: below }]
def below0 : List Frame := [.native { method := ⟨0, 0⟩, args := #[] }]
def about1 : State := aboutOver below0
def p0 : Program := .bare "" "" ""
def e0 : Env := launch0.env 0 0 0
theorem w_frames : about1.frames = Frame.invoking theMethod args0 :: below0 := rfl
set_option maxRecDepth 65536 in
theorem w_args : argsFit about1.vm theMethod args0 = true := by decide +kernel
set_option maxRecDepth 65536 in
theorem w_heap : heapFits about1 = true := by decide +kernel
set_option maxRecDepth 65536 in
theorem w_runnable : about1.curStatus? = some .runnable := by decide +kernel
set_option maxRecDepth 65536 in
theorem w_alone : about1.alone = true := by decide +kernel
set_option maxRecDepth 65536 in
theorem w_named : about1.methodNamed? x = some theMethod := by decide +kernel
set_option maxRecDepth 65536 in
theorem w_hears : about1.hears theMethod below0 = true := by decide +kernel
set_option maxRecDepth 65536 in
theorem w_ripe : about1.ripe theMethod args0 below0 = true := by decide +kernel
theorem w_running : about1.status = .running := rfl
set_option maxRecDepth 65536 in
theorem w_room : about1.hasRoom e0.platform room_1 = true :=
  launch0.hasRoom_least _ room_1 (by decide +kernel) (by decide +kernel) (by decide +kernel) (by decide +kernel) (by decide +kernel) (by decide +kernel)
theorem allAtoms_all (ts : List Jvm.Cond) (a : Array Jvm.Value) (st : Jvm.State) : (allAtoms ts).before a st = ts.all (fun c => c.before a st) := by
  induction ts with
  | nil => rfl
  | cons c t ih =>
    show (Jvm.Cond.and c (allAtoms t)).before a st = _
    rw [Jvm.Cond.before_and, ih, List.all_cons]
def words1 : List Jvm.Cond := Jvm.Cond.code x code maxLocals ret :: tables_1
/-- a 'code' word, met by the world's own term for the bytes: nothing is compared byte by byte -/
theorem code_word {y : MethodName} {bytes : ByteArray} {mx : Nat} {rt : Option FieldType} {a : Array Value} {s : State} {m : MethodId} {meth : Method} {c : Code} (h1 : s.methodNamed? y = some m) (h2 : s.vm.method? m = some meth) (h3 : meth.code = some c) (h4 : c.code = bytes)
    (h5 : (c.maxLocals == mx && c.exceptionTable.isEmpty && decide (c.maxStack ≤ mostOperands) && decide (meth.sig.returnType = rt) && !meth.locks && decide (parseMethodDescriptor y.desc = some meth.sig)) = true) : (Jvm.Cond.code y bytes mx rt).before a s = true := by
  simp only [Bool.and_eq_true, beq_iff_eq, Bool.not_eq_true', decide_eq_true_eq] at h5
  obtain ⟨⟨⟨⟨⟨g1, g2⟩, g3⟩, g4⟩, g5⟩, g6⟩ := h5
  simp [Cond.before, Cond.holds, Cond.value, h1, h2, h3, h4, g1, g2, g3, g4, g5, g6]
def isCode : Jvm.Cond → Bool
  | .code _ _ _ _ => true
  | _ => false
theorem all_split {L : List Jvm.Cond} {P : Jvm.Cond → Bool} (h1 : L.all (fun c => isCode c || P c) = true) (h2 : ∀ c ∈ L.filter isCode, P c = true) : L.all P = true := by
  refine List.all_eq_true.mpr fun c hc => ?_
  have h := List.all_eq_true.mp h1 c hc
  rcases Bool.eq_false_or_eq_true (isCode c) with hi | hi
  · exact h2 c (List.mem_filter.mpr ⟨hc, hi⟩)
  · simpa [hi] using h
set_option maxRecDepth 65536 in
theorem w_c0 : (Jvm.Cond.code x code maxLocals ret).before args0 about1 = true := code_word (m := ⟨1, 1⟩) (meth := k1m1) (c := k1c1) (by decide +kernel) rfl rfl rfl (by decide +kernel)
set_option maxRecDepth 65536 in
theorem w_c1 : (Jvm.Cond.code ({ cls := "java/lang/Math", name := "min", desc := "(II)I" } : Jvm.MethodName) jdk_29_method_69_code (2 : Nat) (Option.some Jvm.ClassFile.FieldType.int)).before args0 about1 = true := code_word (m := ⟨2, 2⟩) (meth := k2m2) (c := k2c2) (by decide +kernel) rfl rfl rfl (by decide +kernel)
set_option maxRecDepth 65536 in
theorem w_c2 : (Jvm.Cond.code ({ cls := "com/example/dolqa/dolqa/data/UnaryRelation$Builder", name := "<init>", desc := "()V" } : Jvm.MethodName) prog_9_method_1_code (1 : Nat) (Option.none : Option Jvm.ClassFile.FieldType)).before args0 about1 = true := code_word (m := ⟨3, 0⟩) (meth := k3m0) (c := k3c0) (by decide +kernel) rfl rfl rfl (by decide +kernel)
set_option maxRecDepth 65536 in
theorem w_c3 : (Jvm.Cond.code ({ cls := "java/lang/Object", name := "<init>", desc := "()V" } : Jvm.MethodName) object_method_1_code (1 : Nat) (Option.none : Option Jvm.ClassFile.FieldType)).before args0 about1 = true := code_word (m := ⟨0, 0⟩) (meth := k0m0) (c := k0c0) (by decide +kernel) rfl rfl rfl (by decide +kernel)
set_option maxRecDepth 65536 in
theorem w_c4 : (Jvm.Cond.code ({ cls := "com/example/dolqa/dolqa/data/UnaryRelation$Builder", name := "add", desc := "(I)Lcom/example/dolqa/dolqa/data/UnaryRelation$Builder;" } : Jvm.MethodName) prog_9_method_2_code (2 : Nat) (Option.some (Jvm.ClassFile.FieldType.object "com/example/dolqa/dolqa/data/UnaryRelation$Builder"))).before args0 about1 = true := code_word (m := ⟨3, 1⟩) (meth := k3m1) (c := k3c1) (by decide +kernel) rfl rfl rfl (by decide +kernel)
set_option maxRecDepth 65536 in
theorem w_c5 : (Jvm.Cond.code ({ cls := "com/example/dolqa/dolqa/data/UnaryRelation$Builder", name := "build", desc := "()Lcom/example/dolqa/dolqa/data/UnaryRelation;" } : Jvm.MethodName) prog_9_method_3_code (4 : Nat) (Option.some (Jvm.ClassFile.FieldType.object "com/example/dolqa/dolqa/data/UnaryRelation"))).before args0 about1 = true := code_word (m := ⟨3, 2⟩) (meth := k3m2) (c := k3c2) (by decide +kernel) rfl rfl rfl (by decide +kernel)
set_option maxRecDepth 65536 in
theorem w_c6 : (Jvm.Cond.code ({ cls := "java/util/Arrays", name := "copyOf", desc := "([II)[I" } : Jvm.MethodName) jdk_65_method_123_code (3 : Nat) (Option.some (Jvm.ClassFile.FieldType.array Jvm.ClassFile.FieldType.int))).before args0 about1 = true := code_word (m := ⟨4, 2⟩) (meth := k4m2) (c := k4c2) (by decide +kernel) rfl rfl rfl (by decide +kernel)
set_option maxRecDepth 65536 in
theorem w_c7 : (Jvm.Cond.code ({ cls := "java/util/Arrays", name := "sort", desc := "([I)V" } : Jvm.MethodName) jdk_65_method_2_code (1 : Nat) (Option.none : Option Jvm.ClassFile.FieldType)).before args0 about1 = true := code_word (m := ⟨4, 1⟩) (meth := k4m1) (c := k4c1) (by decide +kernel) rfl rfl rfl (by decide +kernel)
set_option maxRecDepth 65536 in
theorem w_c8 : (Jvm.Cond.code ({ cls := "java/util/DualPivotQuicksort", name := "sort", desc := "([IIII)V" } : Jvm.MethodName) jdk_2529_method_3_code (7 : Nat) (Option.none : Option Jvm.ClassFile.FieldType)).before args0 about1 = true := code_word (m := ⟨6, 1⟩) (meth := k6m1) (c := k6c1) (by decide +kernel) rfl rfl rfl (by decide +kernel)
set_option maxRecDepth 65536 in
theorem w_c9 : (Jvm.Cond.code ({ cls := "java/util/DualPivotQuicksort", name := "sort", desc := "(Ljava/util/DualPivotQuicksort$Sorter;[IIII)V" } : Jvm.MethodName) jdk_2529_method_4_code (21 : Nat) (Option.none : Option Jvm.ClassFile.FieldType)).before args0 about1 = true := code_word (m := ⟨6, 2⟩) (meth := k6m2) (c := k6c2) (by decide +kernel) rfl rfl rfl (by decide +kernel)
set_option maxRecDepth 65536 in
theorem w_c10 : (Jvm.Cond.code ({ cls := "java/util/DualPivotQuicksort", name := "insertionSort", desc := "([III)V" } : Jvm.MethodName) jdk_2529_method_6_code (6 : Nat) (Option.none : Option Jvm.ClassFile.FieldType)).before args0 about1 = true := code_word (m := ⟨6, 3⟩) (meth := k6m3) (c := k6c3) (by decide +kernel) rfl rfl rfl (by decide +kernel)
set_option maxRecDepth 65536 in
theorem w_c11 : (Jvm.Cond.code ({ cls := "com/example/dolqa/dolqa/data/UnaryRelation", name := "<init>", desc := "([I)V" } : Jvm.MethodName) prog_8_method_1_code (2 : Nat) (Option.none : Option Jvm.ClassFile.FieldType)).before args0 about1 = true := code_word (m := ⟨7, 0⟩) (meth := k7m0) (c := k7c0) (by decide +kernel) rfl rfl rfl (by decide +kernel)
set_option maxRecDepth 65536 in
theorem w_c12 : (Jvm.Cond.code ({ cls := "java/util/ArrayList", name := "<init>", desc := "()V" } : Jvm.MethodName) jdk_38_method_2_code (1 : Nat) (Option.none : Option Jvm.ClassFile.FieldType)).before args0 about1 = true := code_word (m := ⟨17, 0⟩) (meth := k17m0) (c := k17c0) (by decide +kernel) rfl rfl rfl (by decide +kernel)
set_option maxRecDepth 65536 in
theorem w_c13 : (Jvm.Cond.code ({ cls := "java/util/AbstractList", name := "<init>", desc := "()V" } : Jvm.MethodName) jdk_39_method_1_code (1 : Nat) (Option.none : Option Jvm.ClassFile.FieldType)).before args0 about1 = true := code_word (m := ⟨14, 0⟩) (meth := k14m0) (c := k14c0) (by decide +kernel) rfl rfl rfl (by decide +kernel)
set_option maxRecDepth 65536 in
theorem w_c14 : (Jvm.Cond.code ({ cls := "java/util/AbstractCollection", name := "<init>", desc := "()V" } : Jvm.MethodName) jdk_22_method_1_code (1 : Nat) (Option.none : Option Jvm.ClassFile.FieldType)).before args0 about1 = true := code_word (m := ⟨11, 0⟩) (meth := k11m0) (c := k11c0) (by decide +kernel) rfl rfl rfl (by decide +kernel)
set_option maxRecDepth 65536 in
theorem w_c15 : (Jvm.Cond.code ({ cls := "java/util/ArrayList", name := "add", desc := "(Ljava/lang/Object;)Z" } : Jvm.MethodName) jdk_38_method_25_code (2 : Nat) (Option.some Jvm.ClassFile.FieldType.boolean)).before args0 about1 = true := code_word (m := ⟨17, 5⟩) (meth := k17m5) (c := k17c5) (by decide +kernel) rfl rfl rfl (by decide +kernel)
set_option maxRecDepth 65536 in
theorem w_c16 : (Jvm.Cond.code ({ cls := "java/util/ArrayList", name := "add", desc := "(Ljava/lang/Object;[Ljava/lang/Object;I)V" } : Jvm.MethodName) jdk_38_method_24_code (4 : Nat) (Option.none : Option Jvm.ClassFile.FieldType)).before args0 about1 = true := code_word (m := ⟨17, 4⟩) (meth := k17m4) (c := k17c4) (by decide +kernel) rfl rfl rfl (by decide +kernel)
set_option maxRecDepth 65536 in
theorem w_c17 : (Jvm.Cond.code ({ cls := "java/util/ArrayList", name := "grow", desc := "()[Ljava/lang/Object;" } : Jvm.MethodName) jdk_38_method_7_code (1 : Nat) (Option.some (Jvm.ClassFile.FieldType.array (Jvm.ClassFile.FieldType.object "java/lang/Object")))).before args0 about1 = true := code_word (m := ⟨17, 2⟩) (meth := k17m2) (c := k17c2) (by decide +kernel) rfl rfl rfl (by decide +kernel)
set_option maxRecDepth 65536 in
theorem w_c18 : (Jvm.Cond.code ({ cls := "java/util/ArrayList", name := "grow", desc := "(I)[Ljava/lang/Object;" } : Jvm.MethodName) jdk_38_method_6_code (4 : Nat) (Option.some (Jvm.ClassFile.FieldType.array (Jvm.ClassFile.FieldType.object "java/lang/Object")))).before args0 about1 = true := code_word (m := ⟨17, 1⟩) (meth := k17m1) (c := k17c1) (by decide +kernel) rfl rfl rfl (by decide +kernel)
set_option maxRecDepth 65536 in
theorem w_c19 : (Jvm.Cond.code ({ cls := "java/lang/Math", name := "max", desc := "(II)I" } : Jvm.MethodName) jdk_29_method_65_code (2 : Nat) (Option.some Jvm.ClassFile.FieldType.int)).before args0 about1 = true := code_word (m := ⟨2, 1⟩) (meth := k2m1) (c := k2c1) (by decide +kernel) rfl rfl rfl (by decide +kernel)
set_option maxRecDepth 65536 in
theorem w_c20 : (Jvm.Cond.code ({ cls := "com/example/dolqa/dolqa/data/UnaryRelation", name := "union", desc := "(Ljava/util/List;)Lcom/example/dolqa/dolqa/data/UnaryRelation;" } : Jvm.MethodName) prog_8_method_6_code (7 : Nat) (Option.some (Jvm.ClassFile.FieldType.object "com/example/dolqa/dolqa/data/UnaryRelation"))).before args0 about1 = true := code_word (m := ⟨7, 3⟩) (meth := k7m3) (c := k7c3) (by decide +kernel) rfl rfl rfl (by decide +kernel)
set_option maxRecDepth 65536 in
theorem w_c21 : (Jvm.Cond.code ({ cls := "java/util/ArrayList", name := "iterator", desc := "()Ljava/util/Iterator;" } : Jvm.MethodName) jdk_38_method_55_code (1 : Nat) (Option.some (Jvm.ClassFile.FieldType.object "java/util/Iterator"))).before args0 about1 = true := code_word (m := ⟨17, 6⟩) (meth := k17m6) (c := k17c6) (by decide +kernel) rfl rfl rfl (by decide +kernel)
set_option maxRecDepth 65536 in
theorem w_c22 : (Jvm.Cond.code ({ cls := "java/util/ArrayList$Itr", name := "<init>", desc := "(Ljava/util/ArrayList;)V" } : Jvm.MethodName) jdk_49_method_1_code (2 : Nat) (Option.none : Option Jvm.ClassFile.FieldType)).before args0 about1 = true := code_word (m := ⟨19, 0⟩) (meth := k19m0) (c := k19c0) (by decide +kernel) rfl rfl rfl (by decide +kernel)
set_option maxRecDepth 65536 in
theorem w_c23 : (Jvm.Cond.code ({ cls := "java/util/ArrayList$Itr", name := "hasNext", desc := "()Z" } : Jvm.MethodName) jdk_49_method_2_code (1 : Nat) (Option.some Jvm.ClassFile.FieldType.boolean)).before args0 about1 = true := code_word (m := ⟨19, 1⟩) (meth := k19m1) (c := k19c1) (by decide +kernel) rfl rfl rfl (by decide +kernel)
set_option maxRecDepth 65536 in
theorem w_c24 : (Jvm.Cond.code ({ cls := "java/util/ArrayList$Itr", name := "next", desc := "()Ljava/lang/Object;" } : Jvm.MethodName) jdk_49_method_3_code (3 : Nat) (Option.some (Jvm.ClassFile.FieldType.object "java/lang/Object"))).before args0 about1 = true := code_word (m := ⟨19, 2⟩) (meth := k19m2) (c := k19c2) (by decide +kernel) rfl rfl rfl (by decide +kernel)
set_option maxRecDepth 65536 in
theorem w_c25 : (Jvm.Cond.code ({ cls := "java/util/ArrayList$Itr", name := "checkForComodification", desc := "()V" } : Jvm.MethodName) jdk_49_method_6_code (1 : Nat) (Option.none : Option Jvm.ClassFile.FieldType)).before args0 about1 = true := code_word (m := ⟨19, 3⟩) (meth := k19m3) (c := k19c3) (by decide +kernel) rfl rfl rfl (by decide +kernel)
set_option maxRecDepth 65536 in
theorem w_c26 : (Jvm.Cond.code ({ cls := "com/example/dolqa/dolqa/data/UnaryRelation", name := "size", desc := "()I" } : Jvm.MethodName) prog_8_method_4_code (1 : Nat) (Option.some Jvm.ClassFile.FieldType.int)).before args0 about1 = true := code_word (m := ⟨7, 1⟩) (meth := k7m1) (c := k7c1) (by decide +kernel) rfl rfl rfl (by decide +kernel)
set_option maxRecDepth 65536 in
theorem w_c27 : (Jvm.Cond.code ({ cls := "java/util/ArrayList", name := "size", desc := "()I" } : Jvm.MethodName) jdk_38_method_8_code (1 : Nat) (Option.some Jvm.ClassFile.FieldType.int)).before args0 about1 = true := code_word (m := ⟨17, 3⟩) (meth := k17m3) (c := k17c3) (by decide +kernel) rfl rfl rfl (by decide +kernel)
set_option maxRecDepth 65536 in
theorem w_c28 : (Jvm.Cond.code ({ cls := "com/example/dolqa/dolqa/data/UnaryRelation", name := "member", desc := "(I)I" } : Jvm.MethodName) prog_8_method_5_code (2 : Nat) (Option.some Jvm.ClassFile.FieldType.int)).before args0 about1 = true := code_word (m := ⟨7, 2⟩) (meth := k7m2) (c := k7c2) (by decide +kernel) rfl rfl rfl (by decide +kernel)
def codes1 : List Jvm.Cond := [Jvm.Cond.code x code maxLocals ret, Jvm.Cond.code ({ cls := "java/lang/Math", name := "min", desc := "(II)I" } : Jvm.MethodName) jdk_29_method_69_code (2 : Nat) (Option.some Jvm.ClassFile.FieldType.int), Jvm.Cond.code ({ cls := "com/example/dolqa/dolqa/data/UnaryRelation$Builder", name := "<init>", desc := "()V" } : Jvm.MethodName) prog_9_method_1_code (1 : Nat) (Option.none : Option Jvm.ClassFile.FieldType), Jvm.Cond.code ({ cls := "java/lang/Object", name := "<init>", desc := "()V" } : Jvm.MethodName) object_method_1_code (1 : Nat) (Option.none : Option Jvm.ClassFile.FieldType), Jvm.Cond.code ({ cls := "com/example/dolqa/dolqa/data/UnaryRelation$Builder", name := "add", desc := "(I)Lcom/example/dolqa/dolqa/data/UnaryRelation$Builder;" } : Jvm.MethodName) prog_9_method_2_code (2 : Nat) (Option.some (Jvm.ClassFile.FieldType.object "com/example/dolqa/dolqa/data/UnaryRelation$Builder")), Jvm.Cond.code ({ cls := "com/example/dolqa/dolqa/data/UnaryRelation$Builder", name := "build", desc := "()Lcom/example/dolqa/dolqa/data/UnaryRelation;" } : Jvm.MethodName) prog_9_method_3_code (4 : Nat) (Option.some (Jvm.ClassFile.FieldType.object "com/example/dolqa/dolqa/data/UnaryRelation")), Jvm.Cond.code ({ cls := "java/util/Arrays", name := "copyOf", desc := "([II)[I" } : Jvm.MethodName) jdk_65_method_123_code (3 : Nat) (Option.some (Jvm.ClassFile.FieldType.array Jvm.ClassFile.FieldType.int)), Jvm.Cond.code ({ cls := "java/util/Arrays", name := "sort", desc := "([I)V" } : Jvm.MethodName) jdk_65_method_2_code (1 : Nat) (Option.none : Option Jvm.ClassFile.FieldType), Jvm.Cond.code ({ cls := "java/util/DualPivotQuicksort", name := "sort", desc := "([IIII)V" } : Jvm.MethodName) jdk_2529_method_3_code (7 : Nat) (Option.none : Option Jvm.ClassFile.FieldType), Jvm.Cond.code ({ cls := "java/util/DualPivotQuicksort", name := "sort", desc := "(Ljava/util/DualPivotQuicksort$Sorter;[IIII)V" } : Jvm.MethodName) jdk_2529_method_4_code (21 : Nat) (Option.none : Option Jvm.ClassFile.FieldType), Jvm.Cond.code ({ cls := "java/util/DualPivotQuicksort", name := "insertionSort", desc := "([III)V" } : Jvm.MethodName) jdk_2529_method_6_code (6 : Nat) (Option.none : Option Jvm.ClassFile.FieldType), Jvm.Cond.code ({ cls := "com/example/dolqa/dolqa/data/UnaryRelation", name := "<init>", desc := "([I)V" } : Jvm.MethodName) prog_8_method_1_code (2 : Nat) (Option.none : Option Jvm.ClassFile.FieldType), Jvm.Cond.code ({ cls := "java/util/ArrayList", name := "<init>", desc := "()V" } : Jvm.MethodName) jdk_38_method_2_code (1 : Nat) (Option.none : Option Jvm.ClassFile.FieldType), Jvm.Cond.code ({ cls := "java/util/AbstractList", name := "<init>", desc := "()V" } : Jvm.MethodName) jdk_39_method_1_code (1 : Nat) (Option.none : Option Jvm.ClassFile.FieldType), Jvm.Cond.code ({ cls := "java/util/AbstractCollection", name := "<init>", desc := "()V" } : Jvm.MethodName) jdk_22_method_1_code (1 : Nat) (Option.none : Option Jvm.ClassFile.FieldType), Jvm.Cond.code ({ cls := "java/util/ArrayList", name := "add", desc := "(Ljava/lang/Object;)Z" } : Jvm.MethodName) jdk_38_method_25_code (2 : Nat) (Option.some Jvm.ClassFile.FieldType.boolean), Jvm.Cond.code ({ cls := "java/util/ArrayList", name := "add", desc := "(Ljava/lang/Object;[Ljava/lang/Object;I)V" } : Jvm.MethodName) jdk_38_method_24_code (4 : Nat) (Option.none : Option Jvm.ClassFile.FieldType), Jvm.Cond.code ({ cls := "java/util/ArrayList", name := "grow", desc := "()[Ljava/lang/Object;" } : Jvm.MethodName) jdk_38_method_7_code (1 : Nat) (Option.some (Jvm.ClassFile.FieldType.array (Jvm.ClassFile.FieldType.object "java/lang/Object"))), Jvm.Cond.code ({ cls := "java/util/ArrayList", name := "grow", desc := "(I)[Ljava/lang/Object;" } : Jvm.MethodName) jdk_38_method_6_code (4 : Nat) (Option.some (Jvm.ClassFile.FieldType.array (Jvm.ClassFile.FieldType.object "java/lang/Object"))), Jvm.Cond.code ({ cls := "java/lang/Math", name := "max", desc := "(II)I" } : Jvm.MethodName) jdk_29_method_65_code (2 : Nat) (Option.some Jvm.ClassFile.FieldType.int), Jvm.Cond.code ({ cls := "com/example/dolqa/dolqa/data/UnaryRelation", name := "union", desc := "(Ljava/util/List;)Lcom/example/dolqa/dolqa/data/UnaryRelation;" } : Jvm.MethodName) prog_8_method_6_code (7 : Nat) (Option.some (Jvm.ClassFile.FieldType.object "com/example/dolqa/dolqa/data/UnaryRelation")), Jvm.Cond.code ({ cls := "java/util/ArrayList", name := "iterator", desc := "()Ljava/util/Iterator;" } : Jvm.MethodName) jdk_38_method_55_code (1 : Nat) (Option.some (Jvm.ClassFile.FieldType.object "java/util/Iterator")), Jvm.Cond.code ({ cls := "java/util/ArrayList$Itr", name := "<init>", desc := "(Ljava/util/ArrayList;)V" } : Jvm.MethodName) jdk_49_method_1_code (2 : Nat) (Option.none : Option Jvm.ClassFile.FieldType), Jvm.Cond.code ({ cls := "java/util/ArrayList$Itr", name := "hasNext", desc := "()Z" } : Jvm.MethodName) jdk_49_method_2_code (1 : Nat) (Option.some Jvm.ClassFile.FieldType.boolean), Jvm.Cond.code ({ cls := "java/util/ArrayList$Itr", name := "next", desc := "()Ljava/lang/Object;" } : Jvm.MethodName) jdk_49_method_3_code (3 : Nat) (Option.some (Jvm.ClassFile.FieldType.object "java/lang/Object")), Jvm.Cond.code ({ cls := "java/util/ArrayList$Itr", name := "checkForComodification", desc := "()V" } : Jvm.MethodName) jdk_49_method_6_code (1 : Nat) (Option.none : Option Jvm.ClassFile.FieldType), Jvm.Cond.code ({ cls := "com/example/dolqa/dolqa/data/UnaryRelation", name := "size", desc := "()I" } : Jvm.MethodName) prog_8_method_4_code (1 : Nat) (Option.some Jvm.ClassFile.FieldType.int), Jvm.Cond.code ({ cls := "java/util/ArrayList", name := "size", desc := "()I" } : Jvm.MethodName) jdk_38_method_8_code (1 : Nat) (Option.some Jvm.ClassFile.FieldType.int), Jvm.Cond.code ({ cls := "com/example/dolqa/dolqa/data/UnaryRelation", name := "member", desc := "(I)I" } : Jvm.MethodName) prog_8_method_5_code (2 : Nat) (Option.some Jvm.ClassFile.FieldType.int)]
set_option maxRecDepth 65536 in
theorem codes_eq : words1.filter isCode = codes1 := rfl
theorem w_codes : ∀ c ∈ words1.filter isCode, c.before args0 about1 = true := by
  rw [codes_eq]
  intro c hc
  simp only [codes1, List.mem_cons, List.not_mem_nil, or_false] at hc
  rcases hc with rfl | rfl | rfl | rfl | rfl | rfl | rfl | rfl | rfl | rfl | rfl | rfl | rfl | rfl | rfl | rfl | rfl | rfl | rfl | rfl | rfl | rfl | rfl | rfl | rfl | rfl | rfl | rfl | rfl
  · exact w_c0
  · exact w_c1
  · exact w_c2
  · exact w_c3
  · exact w_c4
  · exact w_c5
  · exact w_c6
  · exact w_c7
  · exact w_c8
  · exact w_c9
  · exact w_c10
  · exact w_c11
  · exact w_c12
  · exact w_c13
  · exact w_c14
  · exact w_c15
  · exact w_c16
  · exact w_c17
  · exact w_c18
  · exact w_c19
  · exact w_c20
  · exact w_c21
  · exact w_c22
  · exact w_c23
  · exact w_c24
  · exact w_c25
  · exact w_c26
  · exact w_c27
  · exact w_c28
set_option maxRecDepth 65536 in
theorem w_t1 : (words1.take 24).all (fun c => isCode c || c.before args0 about1) = true := by decide +kernel
set_option maxRecDepth 65536 in
theorem w_t2 : ((words1.drop 24).take 24).all (fun c => isCode c || c.before args0 about1) = true := by decide +kernel
set_option maxRecDepth 65536 in
theorem w_t3 : (((words1.drop 24).drop 24).take 24).all (fun c => isCode c || c.before args0 about1) = true := by decide +kernel
set_option maxRecDepth 65536 in
theorem w_t4 : ((((words1.drop 24).drop 24).drop 24).take 24).all (fun c => isCode c || c.before args0 about1) = true := by decide +kernel
set_option maxRecDepth 65536 in
theorem w_t5 : (((((words1.drop 24).drop 24).drop 24).drop 24).take 24).all (fun c => isCode c || c.before args0 about1) = true := by decide +kernel
set_option maxRecDepth 65536 in
theorem w_t6 : ((((((words1.drop 24).drop 24).drop 24).drop 24).drop 24).take 24).all (fun c => isCode c || c.before args0 about1) = true := by decide +kernel
set_option maxRecDepth 65536 in
theorem w_t7 : (((((((words1.drop 24).drop 24).drop 24).drop 24).drop 24).drop 24).take 24).all (fun c => isCode c || c.before args0 about1) = true := by decide +kernel
set_option maxRecDepth 65536 in
theorem w_t8 : ((((((((words1.drop 24).drop 24).drop 24).drop 24).drop 24).drop 24).drop 24).take 24).all (fun c => isCode c || c.before args0 about1) = true := by decide +kernel
set_option maxRecDepth 65536 in
theorem w_t9 : ((((((((words1.drop 24).drop 24).drop 24).drop 24).drop 24).drop 24).drop 24).drop 24).all (fun c => isCode c || c.before args0 about1) = true := by decide +kernel
theorem w_tables : (allAtoms (Jvm.Cond.code x code maxLocals ret :: tables_1)).before args0 about1 = true := by
  rw [allAtoms_all]
  show words1.all (fun c => c.before args0 about1) = true
  refine all_split ?_ w_codes
  rw [← List.take_append_drop 24 words1, List.all_append, w_t1, ← List.take_append_drop 24 (words1.drop 24), List.all_append, w_t2, ← List.take_append_drop 24 ((words1.drop 24).drop 24), List.all_append, w_t3, ← List.take_append_drop 24 (((words1.drop 24).drop 24).drop 24), List.all_append, w_t4, ← List.take_append_drop 24 ((((words1.drop 24).drop 24).drop 24).drop 24), List.all_append, w_t5, ← List.take_append_drop 24 (((((words1.drop 24).drop 24).drop 24).drop 24).drop 24), List.all_append, w_t6, ← List.take_append_drop 24 ((((((words1.drop 24).drop 24).drop 24).drop 24).drop 24).drop 24), List.all_append, w_t7, ← List.take_append_drop 24 (((((((words1.drop 24).drop 24).drop 24).drop 24).drop 24).drop 24).drop 24), List.all_append, w_t8, w_t9]
  rfl
set_option maxRecDepth 65536 in
theorem w_rest : rest_1_c.before args0 about1 = true := by decide +kernel
set_option maxRecDepth 65536 in
theorem w_case : (Jvm.Cond.and given_1 narrow_1).before args0 about1 = true := by decide +kernel
theorem w_applies : (headSpec (Jvm.Cond.code x code maxLocals ret :: tables_1) room_1).applies x e0.platform about1 = true :=
  (Spec.applies_iff w_frames).mpr ⟨w_running, w_runnable, w_alone, w_named, w_hears, w_ripe, w_room, w_tables⟩
theorem atStart : AtStart classFile x code maxLocals ret World_1 tables_1 room_1 Calls_1 rest_1 Pre_1 launch0 p0 e0 about1 theMethod args0 below0 :=
  ⟨lists_1, trivial, launch0.admits_env _ _ _, launch0.least_env, fairChoices_fair.cas, fairChoices_fair.clock, w_frames, w_args, w_heap, w_applies, trivial, w_rest, w_case⟩
end start1
theorem witness_1 : WitnessClaimed_1 := ⟨start1.p0, start1.e0, start1.about1, start1.theMethod, start1.args0, start1.below0, start1.atStart⟩
end Jvm.Pilot.@@N@@
